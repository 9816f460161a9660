import JvmDerived
import JvmDerived.Pilot.@@N@@Statement
import JvmDerived.Pilot.@@N@@Code
set_option linter.unusedVariables false
set_option linter.unusedSimpArgs false
namespace Jvm.Pilot.@@N@@
open Jvm Jvm.ClassFile Sem Op Lib Jvm.Free Jvm.Stand Jvm.LawKit Jvm.RoadKit Bundle Jvm.Pilot.@@N@@.Jvm.D
/-! own: the walk's goal, read backwards -/
def Go (tb : Tables) (e : Env) (below : List Frame) (F : State → Outcome → Prop) (A : State) : Prop := ∃ t o, Steps tb e below A t ∧ F t o
def Fin (below : List Frame) (s : State) (Q : Option Value → Heap → List Loc → Prop) (k n : Nat) (t : State) (o : Outcome) : Prop := t.status = .running ∧ Ended t below o ∧ ∃ v L, o = .returned v ∧ Q v t.heap L ∧ FrameEnd s o t L k n
theorem go {tb : Tables} {e : Env} {below : List Frame} {F : State → Outcome → Prop} {A B : State} (st : ∀ t, Steps tb e below B t → Steps tb e below A t) (h : Go tb e below F B) : Go tb e below F A := by
  obtain ⟨t, o, h1, h2⟩ := h
  exact ⟨t, o, st t h1, h2⟩
theorem go_in {p : Program} {e : Env} {below : List Frame} {s s₁ : State} {Q : Option Value → Heap → List Loc → Prop} {k n : Nat} {A : State} (h : ∀ F : State → Outcome → Prop, (∀ t o, Fin below s Q k n t o → F t o) → Go p.tables e below F A) :
    ∃ t o, Steps p.tables e below A t ∧ t.status = .running ∧ Ended t below o ∧ ∃ v L, o = .returned v ∧ Q v t.heap L ∧ FrameEnd s o t L k n := by
  obtain ⟨t, o, h1, h2, h3, h4⟩ := h (Fin below s Q k n) (fun _ _ h => h)
  exact ⟨t, o, h1, h2, h3, h4⟩
theorem own_fld {s : State} {args : Array Value} {t : Term} {C n d : String} {a : Addr} {k : Int32} (ev : t.eval args s none [] s = some (.ref a)) (h : (Cond.eq (.field t C n d) (.int k)).value args s none s [] = some true) : Fld s s.heap a C n d (.int k) := Fld.start ((fld_at ev).symm.trans (eqv_i (Term.int_eval k) h))
def NSt (h : Heap) (x : Addr) : Prop := ∃ c : Cell, h[x]? = some c ∧ c.vm.isStatics = false
theorem own_sta_keep {Z : State} {h h' : Heap} {C n d : String} {v : Value} {ws : List Addr} (F : Sta Z h C n d v) (K : Keep h h' ws) (q : ∀ x ∈ ws, NSt h x) : Sta Z h' C n d v := by
  obtain ⟨cf, i, k, f, st, cell, h1, h2, h3, h4, h5, h6, h7⟩ := F
  refine ⟨cf, i, k, f, st, cell, h1, h2, h3, h4, K.2.1 _ _ h5 (fun z => ?_), h6, h7⟩
  obtain ⟨c, g1, g2⟩ := q _ z
  cases h5.symm.trans g1
  rw [h6] at g2; cases g2
end Jvm.Pilot.@@N@@
namespace Jvm.RoadKit
theorem Exa.ns {Z : State} {h : Heap} {a : Addr} {C : String} (F : Exa Z h a C) : Jvm.Pilot.@@N@@.NSt h a := by
  obtain ⟨c, _, h1, -, -, h4, -⟩ := F; exact ⟨c, h1, h4⟩
theorem Arv.ns {Z : State} {h : Heap} {a : Addr} {k : ClassId} {ty : ClassFile.FieldType} {z : Int32} {vs : List Value} {dv : Value} (F : Arv Z h a k ty z vs dv) : Jvm.Pilot.@@N@@.NSt h a := by
  obtain ⟨c, A, -⟩ := F; exact ⟨c, A.1, A.plain⟩
end Jvm.RoadKit
namespace Jvm.Pilot.@@N@@
open Jvm Jvm.ClassFile Sem Op Lib Jvm.Free Jvm.Stand Jvm.LawKit Jvm.RoadKit Bundle Jvm.Pilot.@@N@@.Jvm.D
theorem own_no {Z : State} {aw : Array Value} {X Y : String} {t : List String} {n : Nat} (hwc : ∀ w ∈ Cond.chainWords (X :: t), w.before aw Z = true) (wi : (Cond.instantiable Y n).before aw Z = true) (hn : Y ∉ X :: t) : ∃ c t, Z.vm.findClass X = some c ∧ Z.vm.findClass Y = some t ∧ Z.vm.assignable c t = false := by
  obtain ⟨cy, ky, hy1, hy2, hy3, hy4, -⟩ := Cond.instantiable_spec wi
  obtain ⟨cx, k, hx, -⟩ := Cond.chain_head hwc
  exact ⟨cx, cy, hx, hy1, Vm.notAssignable_of_chain hx hy1 hy2 hy3 (Bool.or_eq_false_iff.mp hy4).1 hwc hn⟩
theorem own_selp {Z s : State} {aw args : Array Value} {y : MethodName} {n : Nat} (hZ : Z.Warmed39 s.vm) (wi : (Cond.instantiable y.cls n).before aw Z = true) (wp : (Cond.privateMethod y).before aw Z = true) (wm : (Cond.instanceMethod y).before aw Z = true) (hy : y.cls ≠ "java/lang/invoke/MethodHandle" ∧ y.cls ≠ "java/lang/invoke/VarHandle") : (Cond.selects y.cls y y).before args s = true := by
  obtain ⟨c, k, h1, h2, -, h4, -⟩ := Cond.instantiable_spec (mvT (args := args) hZ wi)
  exact selects_self_of_private h1 h2 (Bool.or_eq_false_iff.mp h4).1 (Cond.privateMethod_at (mvP hZ wp (args := args))) (mvT hZ wm) hy
section Ends
variable {p : Program} {l : Launch} {e : Env} {R : Room} {s : State} {m : MethodId} {args : Array Value} {below : List Frame} {meth : Method} {c : Code} {T : State} {locs : List Loc} {cells slots : Nat} {F : State → Outcome → Prop} {Q : Option Value → Heap → List Loc → Prop} {k n : Nat} {pc : Nat} {Ls : Array Slot} {rest : List Value} {h : Heap}
/-- the end of a walk: what is returned, what the heap says -/
theorem go_end (X : Stand p l e R s m args below meth c T locs cells slots) (hlk : meth.locks = false) (hF : ∀ t o, Fin below s Q k n t o → F t o) (eT : T.heap = h) (hk : cells ≤ k) (hn : slots ≤ n) {v : Option Value} (hv : meth.sig.returnType = none → v = none) (hQ : Q v h locs) {A : State}
    (hs : ∀ fs, (∀ (f : JFrame) (acts : List Action), f.method = m → f.locked = none → f.entered = [] → (doReturn e (T.setTop f) acts v).1 = T.setFrames fs) → Steps p.tables e below A (T.setFrames fs)) : Go p.tables e below F A := by
  obtain ⟨fs, hr, hrun, hended, hW, hsame⟩ := X.leave (v := v) hv hlk
  subst eT
  exact ⟨_, _, hs fs hr, hF _ _ ⟨hrun, hended, _, _, rfl, hQ, ⟨_, rfl⟩, hW, hsame.mono hk hn⟩⟩
theorem end_void (X : Stand p l e R s m args below meth c T locs cells slots) (hx : p.tables.exec = Jvm.exec) (hlk : meth.locks = false) (hret : meth.sig.returnType = none) (hd : decode c.code pc = .ok (.return_, 1)) (hF : ∀ t o, Fin below s Q k n t o → F t o) (eT : T.heap = h) (hk : cells ≤ k) (hn : slots ≤ n) (hQ : Q none h locs) : Go p.tables e below F (T.setTop (mkF m pc Ls [])) :=
  go_end X hlk hF eT hk hn (fun _ => rfl) hQ fun fs hr => X.returnOut hx hret hd hr
theorem end_nar {z : Int32} {t : FieldType} (X : Stand p l e R s m args below meth c T locs cells slots) (hx : p.tables.exec = Jvm.exec) (hlk : meth.locks = false) (hret : meth.sig.returnType = some t) (ht : t = .boolean ∨ t = .byte ∨ t = .char ∨ t = .short) (hd : decode c.code pc = .ok (.ireturn, 1)) (hF : ∀ t o, Fin below s Q k n t o → F t o) (eT : T.heap = h) (hk : cells ≤ k) (hn : slots ≤ n) (hQ : Q (some (.int (nar t z))) h locs) : Go p.tables e below F (T.setTop (mkF m pc Ls (.int z :: rest))) :=
  go_end X hlk hF eT hk hn (fun h => by rw [hret] at h; cases h) hQ fun fs hr => retN X hx hret ht hd hr
theorem end_int {z : Int32} (X : Stand p l e R s m args below meth c T locs cells slots) (hx : p.tables.exec = Jvm.exec) (hlk : meth.locks = false) (hret : meth.sig.returnType = some .int) (hd : decode c.code pc = .ok (.ireturn, 1)) (hF : ∀ t o, Fin below s Q k n t o → F t o) (eT : T.heap = h) (hk : cells ≤ k) (hn : slots ≤ n) (hQ : Q (some (.int z)) h locs) : Go p.tables e below F (T.setTop (mkF m pc Ls (.int z :: rest))) :=
  go_end X hlk hF eT hk hn (fun h => by rw [hret] at h; cases h) hQ fun fs hr => retOut X hx hret rfl (Or.inl ⟨rfl, Or.inl rfl, _, rfl⟩) hd hr
theorem end_long {z : Int64} (X : Stand p l e R s m args below meth c T locs cells slots) (hx : p.tables.exec = Jvm.exec) (hlk : meth.locks = false) (hret : meth.sig.returnType = some .long) (hd : decode c.code pc = .ok (.lreturn, 1)) (hF : ∀ t o, Fin below s Q k n t o → F t o) (eT : T.heap = h) (hk : cells ≤ k) (hn : slots ≤ n) (hQ : Q (some (.long z)) h locs) : Go p.tables e below F (T.setTop (mkF m pc Ls (.long z :: rest))) :=
  go_end X hlk hF eT hk hn (fun h => by rw [hret] at h; cases h) hQ fun fs hr => retOut X hx hret rfl (Or.inr (Or.inl ⟨rfl, rfl, _, rfl⟩)) hd hr
theorem end_ref {w : Value} {t : FieldType} (X : Stand p l e R s m args below meth c T locs cells slots) (hx : p.tables.exec = Jvm.exec) (hlk : meth.locks = false) (hret : meth.sig.returnType = some t) (ht : t.isReference = true) (hw : w.isRef = true) (hnr : narrow t w = w) (hd : decode c.code pc = .ok (.areturn, 1)) (hF : ∀ t o, Fin below s Q k n t o → F t o) (eT : T.heap = h) (hk : cells ≤ k) (hn : slots ≤ n) (hQ : Q (some w) h locs) : Go p.tables e below F (T.setTop (mkF m pc Ls (w :: rest))) :=
  go_end X hlk hF eT hk hn (fun h => by rw [hret] at h; cases h) hQ fun fs hr => retOut X hx hret hnr (Or.inr (Or.inr (Or.inr (Or.inr ⟨rfl, ht, hw⟩)))) hd hr
end Ends
theorem d1_0 : decode method_2_code 0 = .ok (.iconst 3, 1) := by decide +kernel
theorem d1_1 : decode method_2_code 1 = .ok (.newarray .boolean, 2) := by decide +kernel
theorem d1_3 : decode method_2_code 3 = .ok (.astore_n 1, 1) := by decide +kernel
theorem d1_4 : decode method_2_code 4 = .ok (.aload_n 1, 1) := by decide +kernel
theorem d1_5 : decode method_2_code 5 = .ok (.iconst 0, 1) := by decide +kernel
theorem d1_6 : decode method_2_code 6 = .ok (.iload_n 0, 1) := by decide +kernel
theorem d1_7 : decode method_2_code 7 = .ok (.iconst 1, 1) := by decide +kernel
theorem d1_8 : decode method_2_code 8 = .ok (.iand, 1) := by decide +kernel
theorem d1_9 : decode method_2_code 9 = .ok (.ifCond .eq 7, 3) := by decide +kernel
theorem d1_12 : decode method_2_code 12 = .ok (.iconst 1, 1) := by decide +kernel
theorem d1_13 : decode method_2_code 13 = .ok (.goto 4, 3) := by decide +kernel
theorem d1_16 : decode method_2_code 16 = .ok (.iconst 0, 1) := by decide +kernel
theorem d1_17 : decode method_2_code 17 = .ok (.bastore, 1) := by decide +kernel
theorem d1_18 : decode method_2_code 18 = .ok (.aload_n 1, 1) := by decide +kernel
theorem d1_19 : decode method_2_code 19 = .ok (.iconst 1, 1) := by decide +kernel
theorem d1_20 : decode method_2_code 20 = .ok (.iload_n 0, 1) := by decide +kernel
theorem d1_21 : decode method_2_code 21 = .ok (.iconst 2, 1) := by decide +kernel
theorem d1_22 : decode method_2_code 22 = .ok (.iand, 1) := by decide +kernel
theorem d1_23 : decode method_2_code 23 = .ok (.ifCond .eq 7, 3) := by decide +kernel
theorem d1_26 : decode method_2_code 26 = .ok (.iconst 1, 1) := by decide +kernel
theorem d1_27 : decode method_2_code 27 = .ok (.goto 4, 3) := by decide +kernel
theorem d1_30 : decode method_2_code 30 = .ok (.iconst 0, 1) := by decide +kernel
theorem d1_31 : decode method_2_code 31 = .ok (.bastore, 1) := by decide +kernel
theorem d1_32 : decode method_2_code 32 = .ok (.aload_n 1, 1) := by decide +kernel
theorem d1_33 : decode method_2_code 33 = .ok (.iconst 2, 1) := by decide +kernel
theorem d1_34 : decode method_2_code 34 = .ok (.iload_n 0, 1) := by decide +kernel
theorem d1_35 : decode method_2_code 35 = .ok (.iconst 4, 1) := by decide +kernel
theorem d1_36 : decode method_2_code 36 = .ok (.iand, 1) := by decide +kernel
theorem d1_37 : decode method_2_code 37 = .ok (.ifCond .eq 7, 3) := by decide +kernel
theorem d1_40 : decode method_2_code 40 = .ok (.iconst 1, 1) := by decide +kernel
theorem d1_41 : decode method_2_code 41 = .ok (.goto 4, 3) := by decide +kernel
theorem d1_44 : decode method_2_code 44 = .ok (.iconst 0, 1) := by decide +kernel
theorem d1_45 : decode method_2_code 45 = .ok (.bastore, 1) := by decide +kernel
theorem d1_46 : decode method_2_code 46 = .ok (.aload_n 1, 1) := by decide +kernel
theorem d1_47 : decode method_2_code 47 = .ok (.areturn, 1) := by decide +kernel
theorem pn_1 : plainName "com/example/antipode/antipode/problem/HammingDiversityAddPinLaw" = true := by first | (simp [plainName, overriddenIn]; done) | decide +kernel
theorem ef_1 (m : MethodId) (p0 : Int32) : entryFrame m #[(.int p0)] 2 = mkF m 0 #[.val (.int p0), .unset] [] := by first | (simp [entryFrame, mkF, argsToLocals, Value.category]; done) | rfl
def f1_z0 (p0 : Int32) : Int32 := if (p0 &&& (1 : Int32)) = (0 : Int32) then (0 : Int32) else (1 : Int32)
def f1_z1 (p0 : Int32) : Int32 := if (p0 &&& (2 : Int32)) = (0 : Int32) then (0 : Int32) else (1 : Int32)
def f1_z2 (p0 : Int32) : Int32 := if (p0 &&& (4 : Int32)) = (0 : Int32) then (0 : Int32) else (1 : Int32)
abbrev room1 : Room := { frames := 0, cells := 1, slots := 3, locals := 0 }
def Q1 (Z : State) (p0 : Int32) (h0 : Heap) (n0 : Nat) (v : Option Value) (h : Heap) (L : List Loc) : Prop := ∃ b1 : Addr, ∃ k1 : ClassId, v = some (.ref b1) ∧ Fr n0 L ∧ Keep h0 h [] ∧ h0.size ≤ b1 ∧ Arv Z h b1 k1 .boolean (3 : Int32) [(.int (nar .boolean (f1_z0 p0))), (.int (nar .boolean (f1_z1 p0))), (.int (nar .boolean (f1_z2 p0)))] (.int (0 : Int32))
set_option maxRecDepth 65536 in
set_option maxHeartbeats 40000000 in
theorem rm1 (l : Launch) (Z : State) (aw : Array Value) (hw : ∀ d ∈ tables_1, d.before aw Z = true) (ws : List Jvm.Cond) (p0 : Int32) (h0 : Heap) (n0 : Nat) (Z0 : n0 ≤ h0.size) :
    MetFree l (⟨"com/example/antipode/antipode/problem/HammingDiversityAddPinLaw", "bits", "(I)[Z"⟩ : MethodName) (head1 (Jvm.Cond.code (⟨"com/example/antipode/antipode/problem/HammingDiversityAddPinLaw", "bits", "(I)[Z"⟩ : MethodName) method_2_code 2 (some (.array .boolean)) :: ws) room1) (fun a U => a = #[(.int p0)] ∧ Z.Warmed39 U.vm ∧ U.heap = h0) (fun _ _ _ _ _ => True) (fun _ U o U' => ∃ v L, o = .returned v ∧ Q1 Z p0 h0 n0 v U'.heap L ∧ FrameEnd U o U' L room1.cells room1.slots) := by
  refine MetFree.of_bodySF (plainFor_of_name pn_1) hisR ?_
  intro p e s m args below meth c s₁ Bd hml0 hP hK
  obtain ⟨rfl, hZ, hh⟩ := hP
  have hx := Bd.exec
  have hby := Bd.bytes
  have hml : c.maxLocals = 2 := hml0
  have hown : s.vm.findClass "com/example/antipode/antipode/problem/HammingDiversityAddPinLaw" = some m.cls := findClass_of_methodNamed Bd.named
  have hnm := (name_of_methodNamed Bd.named Bd.method).1
  have X0 : Stand p l e room1 s m #[(.int p0)] below meth c s₁ [] 0 0 := Stand.of_body Bd
  have e0 : s₁.heap = h0 := by rw [← hh, Bd.state]; rfl
  have N0 := Fr.nil n0
  have K0 := Keep.refl h0 []
  rw [ef_1 m p0]
  refine go_in (s₁ := s₁) (Q := Q1 Z p0 h0 n0) fun F hF => ?_
  refine go (B := s₁.setTop (mkF m 1 #[.val (.int p0), .unset] [(.int (3 : Int32))])) (fun _ k => XS.iconst X0.here hx rfl (hb hby d1_0) k) ?_
  obtain ⟨T1, h1, k1, X1, e1, E1, A1, st1⟩ := newP X0 hx hZ (hw _ (List.mem_of_getElem? (i := 5) rfl)) e0 (g := (mkF m 1 #[.val (.int p0), .unset] [(.int (3 : Int32))])) rfl (hb hby d1_1) rfl (by decide) (cap := 3) (by decide) (by decide) (by decide) (by decide)
  obtain ⟨b1, g1⟩ : ∃ z, z = h0.size := ⟨_, rfl⟩
  rw [← g1] at A1 st1
  have g_b1 : n0 ≤ b1 := Nat.le_trans Z0 (Nat.le_of_eq g1.symm)
  have sz_b1 : h0.size ≤ b1 := Nat.le_trans K0.1 (Nat.le_of_eq g1.symm)
  have Z1 := Nat.le_trans Z0 E1.1
  have K1 := K0.ext E1
  have V_b1 : Arv Z h1 b1 k1 .boolean (3 : Int32) [(.int (0 : Int32)), (.int (0 : Int32)), (.int (0 : Int32))] (.int (0 : Int32)) := (Arv.new A1 (by decide)).pad (pad_rep [] (.int (0 : Int32)) 3)
  refine go (B := T1.setTop (mkF m 3 #[.val (.int p0), .unset] [(.ref b1)])) st1 ?_
  refine go (B := T1.setTop (mkF m 4 #[.val (.int p0), .val (.ref b1)] [])) (fun _ k => XS.astoreN X1.here hx rfl (hb hby d1_3) rfl rfl (l' := #[.val (.int p0), .val (.ref b1)]) rfl k) ?_
  refine go (B := T1.setTop (mkF m 5 #[.val (.int p0), .val (.ref b1)] [(.ref b1)])) (fun _ k => XS.aloadN X1.here hx rfl (hb hby d1_4) rfl rfl k) ?_
  refine go (B := T1.setTop (mkF m 6 #[.val (.int p0), .val (.ref b1)] [(.int (0 : Int32)), (.ref b1)])) (fun _ k => XS.iconst X1.here hx rfl (hb hby d1_5) k) ?_
  refine go (B := T1.setTop (mkF m 7 #[.val (.int p0), .val (.ref b1)] [(.int p0), (.int (0 : Int32)), (.ref b1)])) (fun _ k => XS.iloadN X1.here hx rfl (hb hby d1_6) rfl k) ?_
  refine go (B := T1.setTop (mkF m 8 #[.val (.int p0), .val (.ref b1)] [(.int (1 : Int32)), (.int p0), (.int (0 : Int32)), (.ref b1)])) (fun _ k => XS.iconst X1.here hx rfl (hb hby d1_7) k) ?_
  refine go (B := T1.setTop (mkF m 9 #[.val (.int p0), .val (.ref b1)] [(.int (p0 &&& (1 : Int32))), (.int (0 : Int32)), (.ref b1)])) (fun _ k => XS.iand X1.here hx rfl (hb hby d1_8) rfl k) ?_
  suffices Kj2 : ∀ (T2 : State) (L2 : List Loc), Stand p l e room1 s m #[(.int p0)] below meth c T2 L2 1 3 → Fr n0 L2 → T2.heap = h1 → Go p.tables e below F (T2.setTop (mkF m 17 #[.val (.int p0), .val (.ref b1)] [(.int (f1_z0 p0)), (.int (0 : Int32)), (.ref b1)])) by
    by_cases hc3 : (p0 &&& (1 : Int32)) = (0 : Int32)
    · refine go (B := T1.setTop (mkF m 16 #[.val (.int p0), .val (.ref b1)] [(.int (0 : Int32)), (.ref b1)])) (fun _ k => XS.ifYes X1.here hx rfl (pc0 := 9) (pc' := 16) rfl (hb hby d1_9) rfl ((if0 _ _).trans (teq hc3).1) (by decide) (by decide) k) ?_
      refine go (B := T1.setTop (mkF m 17 #[.val (.int p0), .val (.ref b1)] [(.int (0 : Int32)), (.int (0 : Int32)), (.ref b1)])) (fun _ k => XS.iconst X1.here hx rfl (hb hby d1_16) k) ?_
      rw [show (f1_z0 p0) = (0 : Int32) from by unfold f1_z0; rw [if_pos hc3]] at Kj2
      exact Kj2 _ _ X1 N0 e1
    · refine go (B := T1.setTop (mkF m 12 #[.val (.int p0), .val (.ref b1)] [(.int (0 : Int32)), (.ref b1)])) (fun _ k => XS.ifNo X1.here hx rfl (hb hby d1_9) rfl ((if0 _ _).trans (feq hc3).1) k) ?_
      refine go (B := T1.setTop (mkF m 13 #[.val (.int p0), .val (.ref b1)] [(.int (1 : Int32)), (.int (0 : Int32)), (.ref b1)])) (fun _ k => XS.iconst X1.here hx rfl (hb hby d1_12) k) ?_
      refine go (B := T1.setTop (mkF m 17 #[.val (.int p0), .val (.ref b1)] [(.int (1 : Int32)), (.int (0 : Int32)), (.ref b1)])) (fun _ k => XS.goto X1.here hx rfl (pc0 := 13) (pc' := 17) rfl (hb hby d1_13) (by decide) (by decide) k) ?_
      rw [show (f1_z0 p0) = (1 : Int32) from by unfold f1_z0; rw [if_neg hc3]] at Kj2
      exact Kj2 _ _ X1 N0 e1
  intro T2 L2 X2 N2 e2
  obtain ⟨cl4, Ar4, qa4, Sa4, Na4, Ha4, Ga4⟩ := id V_b1
  have hin4 : ¬ ((0 : Int32) < 0 ∨ cl4.slots.size ≤ ((0 : Int32)).toNatClampNeg) := inb_of Sa4 ⟨by decide, by decide⟩
  obtain ⟨T4, h4, X4, e4, W4, st4⟩ := stZ X2 hx hZ e2 Ar4 (j := (0 : Int32)) hin4 (g := (mkF m 17 #[.val (.int p0), .val (.ref b1)] [(.int (f1_z0 p0)), (.int (0 : Int32)), (.ref b1)])) rfl rfl (hb hby d1_17)
  have Z4 := Nat.le_trans Z1 (Keep.of_wr W4).1
  have K4 := K1.wr W4 (Or.inr sz_b1)
  have N4 := Fr.snoc X4 N2 g_b1
  have V_b1_4 : Arv Z h4 b1 k1 .boolean (3 : Int32) [(.int (nar .boolean (f1_z0 p0))), (.int (0 : Int32)), (.int (0 : Int32))] (.int (0 : Int32)) := Arv.set Ar4 qa4 Sa4 Na4 Ha4 Ga4 (fits_nar_bool _) W4 0 rfl (Nat.le_of_ble_eq_true rfl)
  refine go (B := T4.setTop (mkF m 18 #[.val (.int p0), .val (.ref b1)] [])) st4 ?_
  refine go (B := T4.setTop (mkF m 19 #[.val (.int p0), .val (.ref b1)] [(.ref b1)])) (fun _ k => XS.aloadN X4.here hx rfl (hb hby d1_18) rfl rfl k) ?_
  refine go (B := T4.setTop (mkF m 20 #[.val (.int p0), .val (.ref b1)] [(.int (1 : Int32)), (.ref b1)])) (fun _ k => XS.iconst X4.here hx rfl (hb hby d1_19) k) ?_
  refine go (B := T4.setTop (mkF m 21 #[.val (.int p0), .val (.ref b1)] [(.int p0), (.int (1 : Int32)), (.ref b1)])) (fun _ k => XS.iloadN X4.here hx rfl (hb hby d1_20) rfl k) ?_
  refine go (B := T4.setTop (mkF m 22 #[.val (.int p0), .val (.ref b1)] [(.int (2 : Int32)), (.int p0), (.int (1 : Int32)), (.ref b1)])) (fun _ k => XS.iconst X4.here hx rfl (hb hby d1_21) k) ?_
  refine go (B := T4.setTop (mkF m 23 #[.val (.int p0), .val (.ref b1)] [(.int (p0 &&& (2 : Int32))), (.int (1 : Int32)), (.ref b1)])) (fun _ k => XS.iand X4.here hx rfl (hb hby d1_22) rfl k) ?_
  suffices Kj5 : ∀ (T5 : State) (L5 : List Loc), Stand p l e room1 s m #[(.int p0)] below meth c T5 L5 1 3 → Fr n0 L5 → T5.heap = h4 → Go p.tables e below F (T5.setTop (mkF m 31 #[.val (.int p0), .val (.ref b1)] [(.int (f1_z1 p0)), (.int (1 : Int32)), (.ref b1)])) by
    by_cases hc6 : (p0 &&& (2 : Int32)) = (0 : Int32)
    · refine go (B := T4.setTop (mkF m 30 #[.val (.int p0), .val (.ref b1)] [(.int (1 : Int32)), (.ref b1)])) (fun _ k => XS.ifYes X4.here hx rfl (pc0 := 23) (pc' := 30) rfl (hb hby d1_23) rfl ((if0 _ _).trans (teq hc6).1) (by decide) (by decide) k) ?_
      refine go (B := T4.setTop (mkF m 31 #[.val (.int p0), .val (.ref b1)] [(.int (0 : Int32)), (.int (1 : Int32)), (.ref b1)])) (fun _ k => XS.iconst X4.here hx rfl (hb hby d1_30) k) ?_
      rw [show (f1_z1 p0) = (0 : Int32) from by unfold f1_z1; rw [if_pos hc6]] at Kj5
      exact Kj5 _ _ X4 N4 e4
    · refine go (B := T4.setTop (mkF m 26 #[.val (.int p0), .val (.ref b1)] [(.int (1 : Int32)), (.ref b1)])) (fun _ k => XS.ifNo X4.here hx rfl (hb hby d1_23) rfl ((if0 _ _).trans (feq hc6).1) k) ?_
      refine go (B := T4.setTop (mkF m 27 #[.val (.int p0), .val (.ref b1)] [(.int (1 : Int32)), (.int (1 : Int32)), (.ref b1)])) (fun _ k => XS.iconst X4.here hx rfl (hb hby d1_26) k) ?_
      refine go (B := T4.setTop (mkF m 31 #[.val (.int p0), .val (.ref b1)] [(.int (1 : Int32)), (.int (1 : Int32)), (.ref b1)])) (fun _ k => XS.goto X4.here hx rfl (pc0 := 27) (pc' := 31) rfl (hb hby d1_27) (by decide) (by decide) k) ?_
      rw [show (f1_z1 p0) = (1 : Int32) from by unfold f1_z1; rw [if_neg hc6]] at Kj5
      exact Kj5 _ _ X4 N4 e4
  intro T5 L5 X5 N5 e5
  obtain ⟨cl7, Ar7, qa7, Sa7, Na7, Ha7, Ga7⟩ := id V_b1_4
  have hin7 : ¬ ((1 : Int32) < 0 ∨ cl7.slots.size ≤ ((1 : Int32)).toNatClampNeg) := inb_of Sa7 ⟨by decide, by decide⟩
  obtain ⟨T7, h7, X7, e7, W7, st7⟩ := stZ X5 hx hZ e5 Ar7 (j := (1 : Int32)) hin7 (g := (mkF m 31 #[.val (.int p0), .val (.ref b1)] [(.int (f1_z1 p0)), (.int (1 : Int32)), (.ref b1)])) rfl rfl (hb hby d1_31)
  have Z7 := Nat.le_trans Z4 (Keep.of_wr W7).1
  have K7 := K4.wr W7 (Or.inr sz_b1)
  have N7 := Fr.snoc X7 N5 g_b1
  have V_b1_7 : Arv Z h7 b1 k1 .boolean (3 : Int32) [(.int (nar .boolean (f1_z0 p0))), (.int (nar .boolean (f1_z1 p0))), (.int (0 : Int32))] (.int (0 : Int32)) := Arv.set Ar7 qa7 Sa7 Na7 Ha7 Ga7 (fits_nar_bool _) W7 1 rfl (Nat.le_of_ble_eq_true rfl)
  refine go (B := T7.setTop (mkF m 32 #[.val (.int p0), .val (.ref b1)] [])) st7 ?_
  refine go (B := T7.setTop (mkF m 33 #[.val (.int p0), .val (.ref b1)] [(.ref b1)])) (fun _ k => XS.aloadN X7.here hx rfl (hb hby d1_32) rfl rfl k) ?_
  refine go (B := T7.setTop (mkF m 34 #[.val (.int p0), .val (.ref b1)] [(.int (2 : Int32)), (.ref b1)])) (fun _ k => XS.iconst X7.here hx rfl (hb hby d1_33) k) ?_
  refine go (B := T7.setTop (mkF m 35 #[.val (.int p0), .val (.ref b1)] [(.int p0), (.int (2 : Int32)), (.ref b1)])) (fun _ k => XS.iloadN X7.here hx rfl (hb hby d1_34) rfl k) ?_
  refine go (B := T7.setTop (mkF m 36 #[.val (.int p0), .val (.ref b1)] [(.int (4 : Int32)), (.int p0), (.int (2 : Int32)), (.ref b1)])) (fun _ k => XS.iconst X7.here hx rfl (hb hby d1_35) k) ?_
  refine go (B := T7.setTop (mkF m 37 #[.val (.int p0), .val (.ref b1)] [(.int (p0 &&& (4 : Int32))), (.int (2 : Int32)), (.ref b1)])) (fun _ k => XS.iand X7.here hx rfl (hb hby d1_36) rfl k) ?_
  suffices Kj8 : ∀ (T8 : State) (L8 : List Loc), Stand p l e room1 s m #[(.int p0)] below meth c T8 L8 1 3 → Fr n0 L8 → T8.heap = h7 → Go p.tables e below F (T8.setTop (mkF m 45 #[.val (.int p0), .val (.ref b1)] [(.int (f1_z2 p0)), (.int (2 : Int32)), (.ref b1)])) by
    by_cases hc9 : (p0 &&& (4 : Int32)) = (0 : Int32)
    · refine go (B := T7.setTop (mkF m 44 #[.val (.int p0), .val (.ref b1)] [(.int (2 : Int32)), (.ref b1)])) (fun _ k => XS.ifYes X7.here hx rfl (pc0 := 37) (pc' := 44) rfl (hb hby d1_37) rfl ((if0 _ _).trans (teq hc9).1) (by decide) (by decide) k) ?_
      refine go (B := T7.setTop (mkF m 45 #[.val (.int p0), .val (.ref b1)] [(.int (0 : Int32)), (.int (2 : Int32)), (.ref b1)])) (fun _ k => XS.iconst X7.here hx rfl (hb hby d1_44) k) ?_
      rw [show (f1_z2 p0) = (0 : Int32) from by unfold f1_z2; rw [if_pos hc9]] at Kj8
      exact Kj8 _ _ X7 N7 e7
    · refine go (B := T7.setTop (mkF m 40 #[.val (.int p0), .val (.ref b1)] [(.int (2 : Int32)), (.ref b1)])) (fun _ k => XS.ifNo X7.here hx rfl (hb hby d1_37) rfl ((if0 _ _).trans (feq hc9).1) k) ?_
      refine go (B := T7.setTop (mkF m 41 #[.val (.int p0), .val (.ref b1)] [(.int (1 : Int32)), (.int (2 : Int32)), (.ref b1)])) (fun _ k => XS.iconst X7.here hx rfl (hb hby d1_40) k) ?_
      refine go (B := T7.setTop (mkF m 45 #[.val (.int p0), .val (.ref b1)] [(.int (1 : Int32)), (.int (2 : Int32)), (.ref b1)])) (fun _ k => XS.goto X7.here hx rfl (pc0 := 41) (pc' := 45) rfl (hb hby d1_41) (by decide) (by decide) k) ?_
      rw [show (f1_z2 p0) = (1 : Int32) from by unfold f1_z2; rw [if_neg hc9]] at Kj8
      exact Kj8 _ _ X7 N7 e7
  intro T8 L8 X8 N8 e8
  obtain ⟨cl10, Ar10, qa10, Sa10, Na10, Ha10, Ga10⟩ := id V_b1_7
  have hin10 : ¬ ((2 : Int32) < 0 ∨ cl10.slots.size ≤ ((2 : Int32)).toNatClampNeg) := inb_of Sa10 ⟨by decide, by decide⟩
  obtain ⟨T10, h10, X10, e10, W10, st10⟩ := stZ X8 hx hZ e8 Ar10 (j := (2 : Int32)) hin10 (g := (mkF m 45 #[.val (.int p0), .val (.ref b1)] [(.int (f1_z2 p0)), (.int (2 : Int32)), (.ref b1)])) rfl rfl (hb hby d1_45)
  have Z10 := Nat.le_trans Z7 (Keep.of_wr W10).1
  have K10 := K7.wr W10 (Or.inr sz_b1)
  have N10 := Fr.snoc X10 N8 g_b1
  have V_b1_10 : Arv Z h10 b1 k1 .boolean (3 : Int32) [(.int (nar .boolean (f1_z0 p0))), (.int (nar .boolean (f1_z1 p0))), (.int (nar .boolean (f1_z2 p0)))] (.int (0 : Int32)) := Arv.set Ar10 qa10 Sa10 Na10 Ha10 Ga10 (fits_nar_bool _) W10 2 rfl (Nat.le_of_ble_eq_true rfl)
  refine go (B := T10.setTop (mkF m 46 #[.val (.int p0), .val (.ref b1)] [])) st10 ?_
  refine go (B := T10.setTop (mkF m 47 #[.val (.int p0), .val (.ref b1)] [(.ref b1)])) (fun _ k => XS.aloadN X10.here hx rfl (hb hby d1_46) rfl rfl k) ?_
  exact end_ref X10 hx Bd.notSynchronized Bd.returns rfl rfl rfl (hb hby d1_47) hF e10 (by decide) (by decide) ⟨b1, k1, rfl, N10, K10, sz_b1, V_b1_10⟩
theorem d2_0 : decode prog_12_method_1_code 0 = .ok (.aload_n 0, 1) := by decide +kernel
theorem d2_1 : decode prog_12_method_1_code 1 = .ok (.invokespecial 1, 3) := by decide +kernel
theorem d2_4 : decode prog_12_method_1_code 4 = .ok (.aload_n 0, 1) := by decide +kernel
theorem d2_5 : decode prog_12_method_1_code 5 = .ok (.iload_n 1, 1) := by decide +kernel
theorem d2_6 : decode prog_12_method_1_code 6 = .ok (.newarray .long, 2) := by decide +kernel
theorem d2_8 : decode prog_12_method_1_code 8 = .ok (.putfield 7, 3) := by decide +kernel
theorem d2_11 : decode prog_12_method_1_code 11 = .ok (.return_, 1) := by decide +kernel
theorem pn_2 : plainName "com/example/antipode/antipode/problem/HammingDiversity" = true := by first | (simp [plainName, overriddenIn]; done) | decide +kernel
theorem ef_2 (m : MethodId) (a0 : Addr) : entryFrame m #[(.ref a0), (.int (3 : Int32))] 2 = mkF m 0 #[.val (.ref a0), .val (.int (3 : Int32))] [] := by first | (simp [entryFrame, mkF, argsToLocals, Value.category]; done) | rfl
abbrev room2 : Room := { frames := 1, cells := 1, slots := 3, locals := 12 }
def Q2 (Z : State) (a0 : Addr) (h0 : Heap) (n0 : Nat) (v : Option Value) (h : Heap) (L : List Loc) : Prop := ∃ b2 : Addr, ∃ k2 : ClassId, v = none ∧ Fr n0 L ∧ Keep h0 h [a0] ∧ h0.size ≤ b2 ∧ Fld Z h a0 "com/example/antipode/antipode/problem/HammingDiversity" "strings" "J" (.long (0 : Int64)) ∧ Exa Z h a0 "com/example/antipode/antipode/problem/HammingDiversity" ∧ Fld Z h a0 "com/example/antipode/antipode/problem/HammingDiversity" "ones" "[J" (.ref b2) ∧ Arv Z h b2 k2 .long (3 : Int32) [(.long (0 : Int64)), (.long (0 : Int64)), (.long (0 : Int64))] (.long (0 : Int64))
set_option maxRecDepth 65536 in
set_option maxHeartbeats 40000000 in
theorem rm2 (l : Launch) (Z : State) (aw : Array Value) (hw : ∀ d ∈ tables_1, d.before aw Z = true) (ws : List Jvm.Cond) (a0 : Addr) (h0 : Heap) (n0 : Nat) (Z0 : n0 ≤ h0.size) (F_ones_a0 : Fld Z h0 a0 "com/example/antipode/antipode/problem/HammingDiversity" "ones" "[J" .null) (F_strings_a0 : Fld Z h0 a0 "com/example/antipode/antipode/problem/HammingDiversity" "strings" "J" (.long (0 : Int64))) (E_a0 : Exa Z h0 a0 "com/example/antipode/antipode/problem/HammingDiversity") (g_a0 : n0 ≤ a0) :
    MetFree l (⟨"com/example/antipode/antipode/problem/HammingDiversity", "<init>", "(I)V"⟩ : MethodName) (head1 (Jvm.Cond.code (⟨"com/example/antipode/antipode/problem/HammingDiversity", "<init>", "(I)V"⟩ : MethodName) prog_12_method_1_code 2 none :: ws) room2) (fun a U => a = #[(.ref a0), (.int (3 : Int32))] ∧ Z.Warmed39 U.vm ∧ U.heap = h0) (fun _ _ _ _ _ => True) (fun _ U o U' => ∃ v L, o = .returned v ∧ Q2 Z a0 h0 n0 v U'.heap L ∧ FrameEnd U o U' L room2.cells room2.slots) := by
  refine MetFree.of_bodySF (plainFor_of_name pn_2) hisR ?_
  intro p e s m args below meth c s₁ Bd hml0 hP hK
  obtain ⟨rfl, hZ, hh⟩ := hP
  have hx := Bd.exec
  have hby := Bd.bytes
  have hml : c.maxLocals = 2 := hml0
  have hown : s.vm.findClass "com/example/antipode/antipode/problem/HammingDiversity" = some m.cls := findClass_of_methodNamed Bd.named
  have hnm := (name_of_methodNamed Bd.named Bd.method).1
  have X0 : Stand p l e room2 s m #[(.ref a0), (.int (3 : Int32))] below meth c s₁ [] 0 0 := Stand.of_body Bd
  have e0 : s₁.heap = h0 := by rw [← hh, Bd.state]; rfl
  have N0 := Fr.nil n0
  have K0 := Keep.refl h0 [a0]
  rw [ef_2 m a0]
  refine go_in (s₁ := s₁) (Q := Q2 Z a0 h0 n0) fun F hF => ?_
  refine go (B := s₁.setTop (mkF m 1 #[.val (.ref a0), .val (.int (3 : Int32))] [(.ref a0)])) (fun _ k => XS.aloadN X0.here hx rfl (hb hby d2_0) rfl rfl k) ?_
  obtain ⟨T1, X1, e1, st1⟩ := initO X0 hx hZ hown (hw _ (List.mem_of_getElem? (i := 12) rfl)) (hw _ (List.mem_of_getElem? (i := 13) rfl)) (hw _ (List.mem_of_getElem? (i := 14) rfl)) e0 (g := (mkF m 1 #[.val (.ref a0), .val (.int (3 : Int32))] [(.ref a0)])) rfl (by rw [hml]; rfl) rfl (hb hby d2_1) (by decide) (W := 0) (by show 2 * 0 + _ ≤ _; exact Nat.le_of_eq rfl) (by decide)
  refine go (B := T1.setTop (mkF m 4 #[.val (.ref a0), .val (.int (3 : Int32))] [])) st1 ?_
  refine go (B := T1.setTop (mkF m 5 #[.val (.ref a0), .val (.int (3 : Int32))] [(.ref a0)])) (fun _ k => XS.aloadN X1.here hx rfl (hb hby d2_4) rfl rfl k) ?_
  refine go (B := T1.setTop (mkF m 6 #[.val (.ref a0), .val (.int (3 : Int32))] [(.int (3 : Int32)), (.ref a0)])) (fun _ k => XS.iloadN X1.here hx rfl (hb hby d2_5) rfl k) ?_
  obtain ⟨T2, h2, k2, X2, e2, E2, A2, st2⟩ := newP X1 hx hZ (hw _ (List.mem_of_getElem? (i := 15) rfl)) e1 (g := (mkF m 6 #[.val (.ref a0), .val (.int (3 : Int32))] [(.int (3 : Int32)), (.ref a0)])) rfl (hb hby d2_6) rfl (by decide) (cap := 3) (by decide) (by decide) (by decide) (by decide)
  obtain ⟨b2, g2⟩ : ∃ z, z = h0.size := ⟨_, rfl⟩
  rw [← g2] at A2 st2
  have g_b2 : n0 ≤ b2 := Nat.le_trans Z0 (Nat.le_of_eq g2.symm)
  have sz_b2 : h0.size ≤ b2 := Nat.le_trans K0.1 (Nat.le_of_eq g2.symm)
  have ne_a0_b2 : a0 ≠ b2 := Nat.ne_of_lt (Nat.lt_of_lt_of_le F_ones_a0.lt (Nat.le_of_eq g2.symm))
  have F_ones_a0_2 := F_ones_a0.ext E2
  have F_strings_a0_2 := F_strings_a0.ext E2
  have E_a0_2 := E_a0.ext E2
  have Z2 := Nat.le_trans Z0 E2.1
  have K2 := K0.ext E2
  have V_b2 : Arv Z h2 b2 k2 .long (3 : Int32) [(.long (0 : Int64)), (.long (0 : Int64)), (.long (0 : Int64))] (.long (0 : Int64)) := (Arv.new A2 (by decide)).pad (pad_rep [] (.long (0 : Int64)) 3)
  refine go (B := T2.setTop (mkF m 8 #[.val (.ref a0), .val (.int (3 : Int32))] [(.ref b2), (.ref a0)])) st2 ?_
  obtain ⟨T3, h3, X3, e3, W3, st3⟩ := putF X2 hx hZ hown (host := "") (Or.inl (hw _ (List.mem_of_getElem? (i := 16) rfl))) Via.refl e2 F_ones_a0_2 E_a0_2 (Or.inr ⟨(hw _ (List.mem_of_getElem? (i := 17) rfl)), rfl, hnm⟩) (hw _ (List.mem_of_getElem? (i := 7) rfl)) (ty := (.array .long)) (by decide) rfl rfl (g := (mkF m 8 #[.val (.ref a0), .val (.int (3 : Int32))] [(.ref b2), (.ref a0)])) rfl rfl (hb hby d2_8)
  have F_strings_a0_3 := Fld.other W3 F_strings_a0_2 (Or.inr (slot_ne (Or.inl (hw _ (List.mem_of_getElem? (i := 24) rfl))) (Or.inr (hw _ (List.mem_of_getElem? (i := 17) rfl))) (by decide) (t := .long) (t' := (.array .long)) (by decide) (by decide)))
  have E_a0_3 := E_a0_2.wr W3
  have V_b2_3 := V_b2.other W3 (Ne.symm ne_a0_b2)
  have F_ones_a0_3 := Fld.same W3 F_ones_a0_2
  have Z3 := Nat.le_trans Z2 (Keep.of_wr W3).1
  have K3 := K2.wr W3 (Or.inl (List.mem_of_getElem? (i := 0) rfl))
  have N3 := Fr.snoc X3 N0 g_a0
  refine go (B := T3.setTop (mkF m 11 #[.val (.ref a0), .val (.int (3 : Int32))] [])) st3 ?_
  exact end_void X3 hx Bd.notSynchronized Bd.returns (hb hby d2_11) hF e3 (by decide) (by decide) ⟨b2, k2, rfl, N3, K3, sz_b2, F_strings_a0_3, E_a0_3, F_ones_a0_3, V_b2_3⟩
theorem d6_0 : decode jdk_29_method_61_code 0 = .ok (.lload_n 0, 1) := by decide +kernel
theorem d6_1 : decode jdk_29_method_61_code 1 = .ok (.lconst 0, 1) := by decide +kernel
theorem d6_2 : decode jdk_29_method_61_code 2 = .ok (.lcmp, 1) := by decide +kernel
theorem d6_3 : decode jdk_29_method_61_code 3 = .ok (.ifCond .ge 8, 3) := by decide +kernel
theorem d6_6 : decode jdk_29_method_61_code 6 = .ok (.lload_n 0, 1) := by decide +kernel
theorem d6_7 : decode jdk_29_method_61_code 7 = .ok (.lneg, 1) := by decide +kernel
theorem d6_8 : decode jdk_29_method_61_code 8 = .ok (.goto 4, 3) := by decide +kernel
theorem d6_11 : decode jdk_29_method_61_code 11 = .ok (.lload_n 0, 1) := by decide +kernel
theorem d6_12 : decode jdk_29_method_61_code 12 = .ok (.lreturn, 1) := by decide +kernel
theorem ef_6 (m : MethodId) (q0 : Int64) : entryFrame m #[(.long q0)] 2 = mkF m 0 #[.val (.long q0), .second] [] := by first | (simp [entryFrame, mkF, argsToLocals, Value.category]; done) | rfl
def f6 (q0 : Int64) : Int64 := if (lcmpW q0 (0 : Int64)) < (0 : Int32) then (-q0) else q0
abbrev room6 : Room := { frames := 0, cells := 0, slots := 0, locals := 0 }
def Q6 (Z : State) (q0 : Int64) (h0 : Heap) (n0 : Nat) (v : Option Value) (h : Heap) (L : List Loc) : Prop := v = some (.long (f6 q0)) ∧ L = [] ∧ h = h0
set_option maxRecDepth 65536 in
set_option maxHeartbeats 40000000 in
theorem rm6 (l : Launch) (Z : State) (aw : Array Value) (hw : ∀ d ∈ tables_1, d.before aw Z = true) (ws : List Jvm.Cond) (q0 : Int64) (h0 : Heap) (n0 : Nat) (Z0 : n0 ≤ h0.size) :
    MetFree l (⟨"java/lang/Math", "abs", "(J)J"⟩ : MethodName) (head1 (Jvm.Cond.code (⟨"java/lang/Math", "abs", "(J)J"⟩ : MethodName) jdk_29_method_61_code 2 (some .long) :: ws) room6) (fun a U => a = #[(.long q0)] ∧ Z.Warmed39 U.vm ∧ U.heap = h0) (fun _ _ _ _ _ => True) (fun _ U o U' => ∃ v L, o = .returned v ∧ Q6 Z q0 h0 n0 v U'.heap L ∧ FrameEnd U o U' L room6.cells room6.slots) := by
  refine MetFree.of_bodySF (Jvm.Free.JP.mathPlain rfl (by decide +kernel)) hisR ?_
  intro p e s m args below meth c s₁ Bd hml0 hP hK
  obtain ⟨rfl, hZ, hh⟩ := hP
  have hx := Bd.exec
  have hby := Bd.bytes
  have hml : c.maxLocals = 2 := hml0
  have hown : s.vm.findClass "java/lang/Math" = some m.cls := findClass_of_methodNamed Bd.named
  have hnm := (name_of_methodNamed Bd.named Bd.method).1
  have X0 : Stand p l e room6 s m #[(.long q0)] below meth c s₁ [] 0 0 := Stand.of_body Bd
  have e0 : s₁.heap = h0 := by rw [← hh, Bd.state]; rfl
  have N0 := Fr.nil n0
  rw [ef_6 m q0]
  refine go_in (s₁ := s₁) (Q := Q6 Z q0 h0 n0) fun F hF => ?_
  refine go (B := s₁.setTop (mkF m 1 #[.val (.long q0), .second] [(.long q0)])) (fun _ k => XS.lloadN X0.here hx rfl (hb hby d6_0) rfl k) ?_
  refine go (B := s₁.setTop (mkF m 2 #[.val (.long q0), .second] [(.long (0 : Int64)), (.long q0)])) (fun _ k => XS.lconst X0.here hx rfl (hb hby d6_1) k) ?_
  refine go (B := s₁.setTop (mkF m 3 #[.val (.long q0), .second] [(.int (lcmpW q0 (0 : Int64)))])) (fun _ k => XS.lcmp X0.here hx rfl (hb hby d6_2) rfl k) ?_
  by_cases hc1 : (lcmpW q0 (0 : Int64)) < (0 : Int32)
  · refine go (B := s₁.setTop (mkF m 6 #[.val (.long q0), .second] [])) (fun _ k => XS.ifNo X0.here hx rfl (hb hby d6_3) rfl ((if0 _ _).trans (tlt hc1).2.1) k) ?_
    refine go (B := s₁.setTop (mkF m 7 #[.val (.long q0), .second] [(.long q0)])) (fun _ k => XS.lloadN X0.here hx rfl (hb hby d6_6) rfl k) ?_
    refine go (B := s₁.setTop (mkF m 8 #[.val (.long q0), .second] [(.long (-q0))])) (fun _ k => XS.lneg X0.here hx rfl (hb hby d6_7) rfl k) ?_
    refine go (B := s₁.setTop (mkF m 12 #[.val (.long q0), .second] [(.long (-q0))])) (fun _ k => XS.goto X0.here hx rfl (pc0 := 8) (pc' := 12) rfl (hb hby d6_8) (by decide) (by decide) k) ?_
    have r2 : (f6 q0) = (-q0) := by unfold f6; rw [if_pos hc1]
    exact end_long X0 hx Bd.notSynchronized Bd.returns (hb hby d6_12) hF e0 (by decide) (by decide) ⟨(congrArg (fun z => some (Value.long z)) r2.symm), rfl, rfl⟩
  · refine go (B := s₁.setTop (mkF m 11 #[.val (.long q0), .second] [])) (fun _ k => XS.ifYes X0.here hx rfl (pc0 := 3) (pc' := 11) rfl (hb hby d6_3) rfl ((if0 _ _).trans (flt hc1).2.1) (by decide) (by decide) k) ?_
    refine go (B := s₁.setTop (mkF m 12 #[.val (.long q0), .second] [(.long q0)])) (fun _ k => XS.lloadN X0.here hx rfl (hb hby d6_11) rfl k) ?_
    have r3 : (f6 q0) = q0 := by unfold f6; rw [if_neg hc1]
    exact end_long X0 hx Bd.notSynchronized Bd.returns (hb hby d6_12) hF e0 (by decide) (by decide) ⟨(congrArg (fun z => some (Value.long z)) r3.symm), rfl, rfl⟩
theorem pd_0 : parseMethodDescriptor "(J)J" = some ⟨[.long], some .long⟩ := by decide +kernel
theorem d5_0 : decode jdk_29_method_30_code 0 = .ok (.lload_n 0, 1) := by decide +kernel
theorem d5_1 : decode jdk_29_method_30_code 1 = .ok (.lload_n 2, 1) := by decide +kernel
theorem d5_2 : decode jdk_29_method_30_code 2 = .ok (.lmul, 1) := by decide +kernel
theorem d5_3 : decode jdk_29_method_30_code 3 = .ok (.lstore 4, 2) := by decide +kernel
theorem d5_5 : decode jdk_29_method_30_code 5 = .ok (.lload_n 0, 1) := by decide +kernel
theorem d5_6 : decode jdk_29_method_30_code 6 = .ok (.invokestatic 122, 3) := by decide +kernel
theorem d5_9 : decode jdk_29_method_30_code 9 = .ok (.lstore 6, 2) := by decide +kernel
theorem d5_11 : decode jdk_29_method_30_code 11 = .ok (.lload_n 2, 1) := by decide +kernel
theorem d5_12 : decode jdk_29_method_30_code 12 = .ok (.invokestatic 122, 3) := by decide +kernel
theorem d5_15 : decode jdk_29_method_30_code 15 = .ok (.lstore 8, 2) := by decide +kernel
theorem d5_17 : decode jdk_29_method_30_code 17 = .ok (.lload 6, 2) := by decide +kernel
theorem d5_19 : decode jdk_29_method_30_code 19 = .ok (.lload 8, 2) := by decide +kernel
theorem d5_21 : decode jdk_29_method_30_code 21 = .ok (.lor, 1) := by decide +kernel
theorem d5_22 : decode jdk_29_method_30_code 22 = .ok (.bipush 31, 2) := by decide +kernel
theorem d5_24 : decode jdk_29_method_30_code 24 = .ok (.lushr, 1) := by decide +kernel
theorem d5_25 : decode jdk_29_method_30_code 25 = .ok (.lconst 0, 1) := by decide +kernel
theorem d5_26 : decode jdk_29_method_30_code 26 = .ok (.lcmp, 1) := by decide +kernel
theorem d5_27 : decode jdk_29_method_30_code 27 = .ok (.ifCond .eq 44, 3) := by decide +kernel
theorem d5_71 : decode jdk_29_method_30_code 71 = .ok (.lload 4, 2) := by decide +kernel
theorem d5_73 : decode jdk_29_method_30_code 73 = .ok (.lreturn, 1) := by decide +kernel
theorem ef_5 (m : MethodId) (q0 : Int64) (q1 : Int64) : entryFrame m #[(.long q0), (.long q1)] 10 = mkF m 0 #[.val (.long q0), .second, .val (.long q1), .second, .unset, .unset, .unset, .unset, .unset, .unset] [] := by first | (simp [entryFrame, mkF, argsToLocals, Value.category]; done) | rfl
def f5 (q0 : Int64) (q1 : Int64) : Int64 := (q0 * q1)
abbrev room5 : Room := { frames := 1, cells := 0, slots := 0, locals := 13 }
def Q5 (Z : State) (q0 : Int64) (q1 : Int64) (h0 : Heap) (n0 : Nat) (v : Option Value) (h : Heap) (L : List Loc) : Prop := v = some (.long (f5 q0 q1)) ∧ L = [] ∧ h = h0
set_option maxRecDepth 65536 in
set_option maxHeartbeats 40000000 in
theorem rm5 (l : Launch) (Z : State) (aw : Array Value) (hw : ∀ d ∈ tables_1, d.before aw Z = true) (ws : List Jvm.Cond) (q0 : Int64) (q1 : Int64) (h0 : Heap) (n0 : Nat) (Z0 : n0 ≤ h0.size) (ha0 : (lcmpW ((((f6 q0) ||| (f6 q1)).toUInt64 >>> ((31 : Int32) &&& 0x3f).toInt64.toUInt64).toInt64) (0 : Int64)) = (0 : Int32)) :
    MetFree l (⟨"java/lang/Math", "multiplyExact", "(JJ)J"⟩ : MethodName) (head1 (Jvm.Cond.code (⟨"java/lang/Math", "multiplyExact", "(JJ)J"⟩ : MethodName) jdk_29_method_30_code 10 (some .long) :: ws) room5) (fun a U => a = #[(.long q0), (.long q1)] ∧ Z.Warmed39 U.vm ∧ U.heap = h0) (fun _ _ _ _ _ => True) (fun _ U o U' => ∃ v L, o = .returned v ∧ Q5 Z q0 q1 h0 n0 v U'.heap L ∧ FrameEnd U o U' L room5.cells room5.slots) := by
  refine MetFree.of_bodySF (Jvm.Free.JP.mathPlain rfl (by decide +kernel)) hisR ?_
  intro p e s m args below meth c s₁ Bd hml0 hP hK
  obtain ⟨rfl, hZ, hh⟩ := hP
  have hx := Bd.exec
  have hby := Bd.bytes
  have hml : c.maxLocals = 10 := hml0
  have hown : s.vm.findClass "java/lang/Math" = some m.cls := findClass_of_methodNamed Bd.named
  have hnm := (name_of_methodNamed Bd.named Bd.method).1
  have X0 : Stand p l e room5 s m #[(.long q0), (.long q1)] below meth c s₁ [] 0 0 := Stand.of_body Bd
  have e0 : s₁.heap = h0 := by rw [← hh, Bd.state]; rfl
  have N0 := Fr.nil n0
  rw [ef_5 m q0 q1]
  refine go_in (s₁ := s₁) (Q := Q5 Z q0 q1 h0 n0) fun F hF => ?_
  refine go (B := s₁.setTop (mkF m 1 #[.val (.long q0), .second, .val (.long q1), .second, .unset, .unset, .unset, .unset, .unset, .unset] [(.long q0)])) (fun _ k => XS.lloadN X0.here hx rfl (hb hby d5_0) rfl k) ?_
  refine go (B := s₁.setTop (mkF m 2 #[.val (.long q0), .second, .val (.long q1), .second, .unset, .unset, .unset, .unset, .unset, .unset] [(.long q1), (.long q0)])) (fun _ k => XS.lloadN X0.here hx rfl (hb hby d5_1) rfl k) ?_
  refine go (B := s₁.setTop (mkF m 3 #[.val (.long q0), .second, .val (.long q1), .second, .unset, .unset, .unset, .unset, .unset, .unset] [(.long (q0 * q1))])) (fun _ k => XS.lmul X0.here hx rfl (hb hby d5_2) rfl k) ?_
  refine go (B := s₁.setTop (mkF m 5 #[.val (.long q0), .second, .val (.long q1), .second, .val (.long (q0 * q1)), .second, .unset, .unset, .unset, .unset] [])) (fun _ k => XS.lstore X0.here hx rfl (hb hby d5_3) rfl (l' := #[.val (.long q0), .second, .val (.long q1), .second, .val (.long (q0 * q1)), .second, .unset, .unset, .unset, .unset]) rfl k) ?_
  refine go (B := s₁.setTop (mkF m 6 #[.val (.long q0), .second, .val (.long q1), .second, .val (.long (q0 * q1)), .second, .unset, .unset, .unset, .unset] [(.long q0)])) (fun _ k => XS.lloadN X0.here hx rfl (hb hby d5_5) rfl k) ?_
  obtain ⟨_, _, ⟨T1, L1, k1, n1⟩, -, X1, ⟨Lc1, hQ1, l1, y1, z1⟩, st1⟩ := Jvm.LawKit.callS X0 hx (y := (⟨"java/lang/Math", "abs", "(J)J"⟩ : MethodName)) hown (mvT hZ (hw _ (List.mem_of_getElem? (i := 29) rfl))) (mvT hZ (hw _ (List.mem_of_getElem? (i := 30) rfl))) (mvT hZ (hw _ (List.mem_of_getElem? (i := 27) rfl))) (mvT hZ (hw _ (List.mem_of_getElem? (i := 31) rfl))) (by decide) (backOf (W := 0) (rm6 l Z aw hw [] q0 h0 n0 Z0 ) hZ (hw _ (List.mem_of_getElem? (i := 31) rfl)) (hw _ (List.mem_of_getElem? (i := 27) rfl)) (by decide) (by decide)) (g := (mkF m 6 #[.val (.long q0), .second, .val (.long q1), .second, .val (.long (q0 * q1)), .second, .unset, .unset, .unset, .unset] [(.long q0)])) rfl (by rw [hml]; rfl) (argsL := [(.long q0)]) (rest := []) (lenOf pd_0 rfl) rfl (by show 2 * 0 + _ ≤ _; exact Nat.le_of_eq rfl) (hb hby d5_6) (fun _ _ => ⟨rfl, e0, (by decide : 0 + 0 ≤ _), (by decide : 0 + 0 ≤ _)⟩)
  dsimp only [Pt.U, Pt.locs, Pt.cells, Pt.slots] at X1 l1 y1 z1 st1 hQ1
  subst l1 y1 z1
  obtain ⟨rfl, rfl, e1⟩ := hQ1
  refine go (B := T1.setTop (mkF m 9 #[.val (.long q0), .second, .val (.long q1), .second, .val (.long (q0 * q1)), .second, .unset, .unset, .unset, .unset] [(.long (f6 q0))])) (fun _ k => st1 _ k) ?_
  refine go (B := T1.setTop (mkF m 11 #[.val (.long q0), .second, .val (.long q1), .second, .val (.long (q0 * q1)), .second, .val (.long (f6 q0)), .second, .unset, .unset] [])) (fun _ k => XS.lstore X1.here hx rfl (hb hby d5_9) rfl (l' := #[.val (.long q0), .second, .val (.long q1), .second, .val (.long (q0 * q1)), .second, .val (.long (f6 q0)), .second, .unset, .unset]) rfl k) ?_
  refine go (B := T1.setTop (mkF m 12 #[.val (.long q0), .second, .val (.long q1), .second, .val (.long (q0 * q1)), .second, .val (.long (f6 q0)), .second, .unset, .unset] [(.long q1)])) (fun _ k => XS.lloadN X1.here hx rfl (hb hby d5_11) rfl k) ?_
  obtain ⟨_, _, ⟨T2, L2, k2, n2⟩, -, X2, ⟨Lc2, hQ2, l2, y2, z2⟩, st2⟩ := Jvm.LawKit.callS X1 hx (y := (⟨"java/lang/Math", "abs", "(J)J"⟩ : MethodName)) hown (mvT hZ (hw _ (List.mem_of_getElem? (i := 29) rfl))) (mvT hZ (hw _ (List.mem_of_getElem? (i := 30) rfl))) (mvT hZ (hw _ (List.mem_of_getElem? (i := 27) rfl))) (mvT hZ (hw _ (List.mem_of_getElem? (i := 31) rfl))) (by decide) (backOf (W := 0) (rm6 l Z aw hw [] q1 h0 n0 Z0 ) hZ (hw _ (List.mem_of_getElem? (i := 31) rfl)) (hw _ (List.mem_of_getElem? (i := 27) rfl)) (by decide) (by decide)) (g := (mkF m 12 #[.val (.long q0), .second, .val (.long q1), .second, .val (.long (q0 * q1)), .second, .val (.long (f6 q0)), .second, .unset, .unset] [(.long q1)])) rfl (by rw [hml]; rfl) (argsL := [(.long q1)]) (rest := []) (lenOf pd_0 rfl) rfl (by show 2 * 0 + _ ≤ _; exact Nat.le_of_eq rfl) (hb hby d5_12) (fun _ _ => ⟨rfl, e1, (by decide : 0 + 0 ≤ _), (by decide : 0 + 0 ≤ _)⟩)
  dsimp only [Pt.U, Pt.locs, Pt.cells, Pt.slots] at X2 l2 y2 z2 st2 hQ2
  subst l2 y2 z2
  obtain ⟨rfl, rfl, e2⟩ := hQ2
  refine go (B := T2.setTop (mkF m 15 #[.val (.long q0), .second, .val (.long q1), .second, .val (.long (q0 * q1)), .second, .val (.long (f6 q0)), .second, .unset, .unset] [(.long (f6 q1))])) (fun _ k => st2 _ k) ?_
  refine go (B := T2.setTop (mkF m 17 #[.val (.long q0), .second, .val (.long q1), .second, .val (.long (q0 * q1)), .second, .val (.long (f6 q0)), .second, .val (.long (f6 q1)), .second] [])) (fun _ k => XS.lstore X2.here hx rfl (hb hby d5_15) rfl (l' := #[.val (.long q0), .second, .val (.long q1), .second, .val (.long (q0 * q1)), .second, .val (.long (f6 q0)), .second, .val (.long (f6 q1)), .second]) rfl k) ?_
  refine go (B := T2.setTop (mkF m 19 #[.val (.long q0), .second, .val (.long q1), .second, .val (.long (q0 * q1)), .second, .val (.long (f6 q0)), .second, .val (.long (f6 q1)), .second] [(.long (f6 q0))])) (fun _ k => XS.lload X2.here hx rfl (hb hby d5_17) rfl k) ?_
  refine go (B := T2.setTop (mkF m 21 #[.val (.long q0), .second, .val (.long q1), .second, .val (.long (q0 * q1)), .second, .val (.long (f6 q0)), .second, .val (.long (f6 q1)), .second] [(.long (f6 q1)), (.long (f6 q0))])) (fun _ k => XS.lload X2.here hx rfl (hb hby d5_19) rfl k) ?_
  refine go (B := T2.setTop (mkF m 22 #[.val (.long q0), .second, .val (.long q1), .second, .val (.long (q0 * q1)), .second, .val (.long (f6 q0)), .second, .val (.long (f6 q1)), .second] [(.long ((f6 q0) ||| (f6 q1)))])) (fun _ k => XS.lor X2.here hx rfl (hb hby d5_21) rfl k) ?_
  refine go (B := T2.setTop (mkF m 24 #[.val (.long q0), .second, .val (.long q1), .second, .val (.long (q0 * q1)), .second, .val (.long (f6 q0)), .second, .val (.long (f6 q1)), .second] [(.int (31 : Int32)), (.long ((f6 q0) ||| (f6 q1)))])) (fun _ k => XS.bipush X2.here hx rfl (hb hby d5_22) k) ?_
  refine go (B := T2.setTop (mkF m 25 #[.val (.long q0), .second, .val (.long q1), .second, .val (.long (q0 * q1)), .second, .val (.long (f6 q0)), .second, .val (.long (f6 q1)), .second] [(.long ((((f6 q0) ||| (f6 q1)).toUInt64 >>> ((31 : Int32) &&& 0x3f).toInt64.toUInt64).toInt64))])) (fun _ k => XS.lushr X2.here hx rfl (hb hby d5_24) rfl k) ?_
  refine go (B := T2.setTop (mkF m 26 #[.val (.long q0), .second, .val (.long q1), .second, .val (.long (q0 * q1)), .second, .val (.long (f6 q0)), .second, .val (.long (f6 q1)), .second] [(.long (0 : Int64)), (.long ((((f6 q0) ||| (f6 q1)).toUInt64 >>> ((31 : Int32) &&& 0x3f).toInt64.toUInt64).toInt64))])) (fun _ k => XS.lconst X2.here hx rfl (hb hby d5_25) k) ?_
  refine go (B := T2.setTop (mkF m 27 #[.val (.long q0), .second, .val (.long q1), .second, .val (.long (q0 * q1)), .second, .val (.long (f6 q0)), .second, .val (.long (f6 q1)), .second] [(.int (lcmpW ((((f6 q0) ||| (f6 q1)).toUInt64 >>> ((31 : Int32) &&& 0x3f).toInt64.toUInt64).toInt64) (0 : Int64)))])) (fun _ k => XS.lcmp X2.here hx rfl (hb hby d5_26) rfl k) ?_
  refine go (B := T2.setTop (mkF m 71 #[.val (.long q0), .second, .val (.long q1), .second, .val (.long (q0 * q1)), .second, .val (.long (f6 q0)), .second, .val (.long (f6 q1)), .second] [])) (fun _ k => XS.ifYes X2.here hx rfl (pc0 := 27) (pc' := 71) rfl (hb hby d5_27) rfl ((if0 _ _).trans (teq ha0).1) (by decide) (by decide) k) ?_
  refine go (B := T2.setTop (mkF m 73 #[.val (.long q0), .second, .val (.long q1), .second, .val (.long (q0 * q1)), .second, .val (.long (f6 q0)), .second, .val (.long (f6 q1)), .second] [(.long (q0 * q1))])) (fun _ k => XS.lload X2.here hx rfl (hb hby d5_71) rfl k) ?_
  have r3 : (f5 q0 q1) = (q0 * q1) := by unfold f5; rfl
  exact end_long X2 hx Bd.notSynchronized Bd.returns (hb hby d5_73) hF e2 (by decide) (by decide) ⟨(congrArg (fun z => some (Value.long z)) r3.symm), rfl, rfl⟩
theorem d7_0 : decode jdk_29_method_25_code 0 = .ok (.lload_n 0, 1) := by decide +kernel
theorem d7_1 : decode jdk_29_method_25_code 1 = .ok (.lload_n 2, 1) := by decide +kernel
theorem d7_2 : decode jdk_29_method_25_code 2 = .ok (.ladd, 1) := by decide +kernel
theorem d7_3 : decode jdk_29_method_25_code 3 = .ok (.lstore 4, 2) := by decide +kernel
theorem d7_5 : decode jdk_29_method_25_code 5 = .ok (.lload_n 0, 1) := by decide +kernel
theorem d7_6 : decode jdk_29_method_25_code 6 = .ok (.lload 4, 2) := by decide +kernel
theorem d7_8 : decode jdk_29_method_25_code 8 = .ok (.lxor, 1) := by decide +kernel
theorem d7_9 : decode jdk_29_method_25_code 9 = .ok (.lload_n 2, 1) := by decide +kernel
theorem d7_10 : decode jdk_29_method_25_code 10 = .ok (.lload 4, 2) := by decide +kernel
theorem d7_12 : decode jdk_29_method_25_code 12 = .ok (.lxor, 1) := by decide +kernel
theorem d7_13 : decode jdk_29_method_25_code 13 = .ok (.land, 1) := by decide +kernel
theorem d7_14 : decode jdk_29_method_25_code 14 = .ok (.lconst 0, 1) := by decide +kernel
theorem d7_15 : decode jdk_29_method_25_code 15 = .ok (.lcmp, 1) := by decide +kernel
theorem d7_16 : decode jdk_29_method_25_code 16 = .ok (.ifCond .ge 13, 3) := by decide +kernel
theorem d7_29 : decode jdk_29_method_25_code 29 = .ok (.lload 4, 2) := by decide +kernel
theorem d7_31 : decode jdk_29_method_25_code 31 = .ok (.lreturn, 1) := by decide +kernel
theorem ef_7 (m : MethodId) (q0 : Int64) (q1 : Int64) : entryFrame m #[(.long q0), (.long q1)] 6 = mkF m 0 #[.val (.long q0), .second, .val (.long q1), .second, .unset, .unset] [] := by first | (simp [entryFrame, mkF, argsToLocals, Value.category]; done) | rfl
def f7 (q0 : Int64) (q1 : Int64) : Int64 := (q0 + q1)
abbrev room7 : Room := { frames := 0, cells := 0, slots := 0, locals := 0 }
def Q7 (Z : State) (q0 : Int64) (q1 : Int64) (h0 : Heap) (n0 : Nat) (v : Option Value) (h : Heap) (L : List Loc) : Prop := v = some (.long (f7 q0 q1)) ∧ L = [] ∧ h = h0
set_option maxRecDepth 65536 in
set_option maxHeartbeats 40000000 in
theorem rm7 (l : Launch) (Z : State) (aw : Array Value) (hw : ∀ d ∈ tables_1, d.before aw Z = true) (ws : List Jvm.Cond) (q0 : Int64) (q1 : Int64) (h0 : Heap) (n0 : Nat) (Z0 : n0 ≤ h0.size) (ha0 : ¬ ((lcmpW ((q0 ^^^ (q0 + q1)) &&& (q1 ^^^ (q0 + q1))) (0 : Int64)) < (0 : Int32))) :
    MetFree l (⟨"java/lang/Math", "addExact", "(JJ)J"⟩ : MethodName) (head1 (Jvm.Cond.code (⟨"java/lang/Math", "addExact", "(JJ)J"⟩ : MethodName) jdk_29_method_25_code 6 (some .long) :: ws) room7) (fun a U => a = #[(.long q0), (.long q1)] ∧ Z.Warmed39 U.vm ∧ U.heap = h0) (fun _ _ _ _ _ => True) (fun _ U o U' => ∃ v L, o = .returned v ∧ Q7 Z q0 q1 h0 n0 v U'.heap L ∧ FrameEnd U o U' L room7.cells room7.slots) := by
  refine MetFree.of_bodySF (Jvm.Free.JP.mathPlain rfl (by decide +kernel)) hisR ?_
  intro p e s m args below meth c s₁ Bd hml0 hP hK
  obtain ⟨rfl, hZ, hh⟩ := hP
  have hx := Bd.exec
  have hby := Bd.bytes
  have hml : c.maxLocals = 6 := hml0
  have hown : s.vm.findClass "java/lang/Math" = some m.cls := findClass_of_methodNamed Bd.named
  have hnm := (name_of_methodNamed Bd.named Bd.method).1
  have X0 : Stand p l e room7 s m #[(.long q0), (.long q1)] below meth c s₁ [] 0 0 := Stand.of_body Bd
  have e0 : s₁.heap = h0 := by rw [← hh, Bd.state]; rfl
  have N0 := Fr.nil n0
  rw [ef_7 m q0 q1]
  refine go_in (s₁ := s₁) (Q := Q7 Z q0 q1 h0 n0) fun F hF => ?_
  refine go (B := s₁.setTop (mkF m 1 #[.val (.long q0), .second, .val (.long q1), .second, .unset, .unset] [(.long q0)])) (fun _ k => XS.lloadN X0.here hx rfl (hb hby d7_0) rfl k) ?_
  refine go (B := s₁.setTop (mkF m 2 #[.val (.long q0), .second, .val (.long q1), .second, .unset, .unset] [(.long q1), (.long q0)])) (fun _ k => XS.lloadN X0.here hx rfl (hb hby d7_1) rfl k) ?_
  refine go (B := s₁.setTop (mkF m 3 #[.val (.long q0), .second, .val (.long q1), .second, .unset, .unset] [(.long (q0 + q1))])) (fun _ k => XS.ladd X0.here hx rfl (hb hby d7_2) rfl k) ?_
  refine go (B := s₁.setTop (mkF m 5 #[.val (.long q0), .second, .val (.long q1), .second, .val (.long (q0 + q1)), .second] [])) (fun _ k => XS.lstore X0.here hx rfl (hb hby d7_3) rfl (l' := #[.val (.long q0), .second, .val (.long q1), .second, .val (.long (q0 + q1)), .second]) rfl k) ?_
  refine go (B := s₁.setTop (mkF m 6 #[.val (.long q0), .second, .val (.long q1), .second, .val (.long (q0 + q1)), .second] [(.long q0)])) (fun _ k => XS.lloadN X0.here hx rfl (hb hby d7_5) rfl k) ?_
  refine go (B := s₁.setTop (mkF m 8 #[.val (.long q0), .second, .val (.long q1), .second, .val (.long (q0 + q1)), .second] [(.long (q0 + q1)), (.long q0)])) (fun _ k => XS.lload X0.here hx rfl (hb hby d7_6) rfl k) ?_
  refine go (B := s₁.setTop (mkF m 9 #[.val (.long q0), .second, .val (.long q1), .second, .val (.long (q0 + q1)), .second] [(.long (q0 ^^^ (q0 + q1)))])) (fun _ k => XS.lxor X0.here hx rfl (hb hby d7_8) rfl k) ?_
  refine go (B := s₁.setTop (mkF m 10 #[.val (.long q0), .second, .val (.long q1), .second, .val (.long (q0 + q1)), .second] [(.long q1), (.long (q0 ^^^ (q0 + q1)))])) (fun _ k => XS.lloadN X0.here hx rfl (hb hby d7_9) rfl k) ?_
  refine go (B := s₁.setTop (mkF m 12 #[.val (.long q0), .second, .val (.long q1), .second, .val (.long (q0 + q1)), .second] [(.long (q0 + q1)), (.long q1), (.long (q0 ^^^ (q0 + q1)))])) (fun _ k => XS.lload X0.here hx rfl (hb hby d7_10) rfl k) ?_
  refine go (B := s₁.setTop (mkF m 13 #[.val (.long q0), .second, .val (.long q1), .second, .val (.long (q0 + q1)), .second] [(.long (q1 ^^^ (q0 + q1))), (.long (q0 ^^^ (q0 + q1)))])) (fun _ k => XS.lxor X0.here hx rfl (hb hby d7_12) rfl k) ?_
  refine go (B := s₁.setTop (mkF m 14 #[.val (.long q0), .second, .val (.long q1), .second, .val (.long (q0 + q1)), .second] [(.long ((q0 ^^^ (q0 + q1)) &&& (q1 ^^^ (q0 + q1))))])) (fun _ k => XS.land X0.here hx rfl (hb hby d7_13) rfl k) ?_
  refine go (B := s₁.setTop (mkF m 15 #[.val (.long q0), .second, .val (.long q1), .second, .val (.long (q0 + q1)), .second] [(.long (0 : Int64)), (.long ((q0 ^^^ (q0 + q1)) &&& (q1 ^^^ (q0 + q1))))])) (fun _ k => XS.lconst X0.here hx rfl (hb hby d7_14) k) ?_
  refine go (B := s₁.setTop (mkF m 16 #[.val (.long q0), .second, .val (.long q1), .second, .val (.long (q0 + q1)), .second] [(.int (lcmpW ((q0 ^^^ (q0 + q1)) &&& (q1 ^^^ (q0 + q1))) (0 : Int64)))])) (fun _ k => XS.lcmp X0.here hx rfl (hb hby d7_15) rfl k) ?_
  refine go (B := s₁.setTop (mkF m 29 #[.val (.long q0), .second, .val (.long q1), .second, .val (.long (q0 + q1)), .second] [])) (fun _ k => XS.ifYes X0.here hx rfl (pc0 := 16) (pc' := 29) rfl (hb hby d7_16) rfl ((if0 _ _).trans (flt ha0).2.1) (by decide) (by decide) k) ?_
  refine go (B := s₁.setTop (mkF m 31 #[.val (.long q0), .second, .val (.long q1), .second, .val (.long (q0 + q1)), .second] [(.long (q0 + q1))])) (fun _ k => XS.lload X0.here hx rfl (hb hby d7_29) rfl k) ?_
  have r1 : (f7 q0 q1) = (q0 + q1) := by unfold f7; rfl
  exact end_long X0 hx Bd.notSynchronized Bd.returns (hb hby d7_31) hF e0 (by decide) (by decide) ⟨(congrArg (fun z => some (Value.long z)) r1.symm), rfl, rfl⟩
def own_okn (k : Nat) (c s : Int64) : Prop := ∃ i j : Nat, i ≤ j ∧ j ≤ k ∧ c = Int64.ofNat i ∧ s = Int64.ofNat j
def own_ok (c s : Int64) : Prop := own_okn 4 c s
theorem own_m {k : Nat} {c s : Int64} (h : k ≤ 4) (q : own_okn k c s) : own_ok c s := by
  obtain ⟨i, j, h1, h2, h3, h4⟩ := q
  exact ⟨i, j, h1, Nat.le_trans h2 h, h3, h4⟩
theorem own_start : own_okn 0 0 0 := ⟨0, 0, Nat.le_refl _, Nat.le_refl _, rfl, rfl⟩
theorem own_mulN : ∀ j, j < 5 → ∀ i, i < 5 → i ≤ j → (lcmpW ((((f6 (Int64.ofNat i)) ||| (f6 (Int64.ofNat j - Int64.ofNat i))).toUInt64 >>> ((31 : Int32) &&& 0x3f).toInt64.toUInt64).toInt64) (0 : Int64)) = (0 : Int32) := by decide +kernel
theorem own_mul {c s : Int64} (h : own_ok c s) : (lcmpW ((((f6 c) ||| (f6 (s - c))).toUInt64 >>> ((31 : Int32) &&& 0x3f).toInt64.toUInt64).toInt64) (0 : Int64)) = (0 : Int32) := by
  obtain ⟨i, j, h1, h2, rfl, rfl⟩ := h
  exact own_mulN j (by omega) i (by omega) h1
theorem pd_1 : parseMethodDescriptor "(JJ)J" = some ⟨[.long, .long], some .long⟩ := by decide +kernel
theorem d4_0 : decode prog_12_method_3_code 0 = .ok (.lconst 0, 1) := by decide +kernel
theorem d4_1 : decode prog_12_method_3_code 1 = .ok (.lstore_n 1, 1) := by decide +kernel
theorem d4_2 : decode prog_12_method_3_code 2 = .ok (.aload_n 0, 1) := by decide +kernel
theorem d4_3 : decode prog_12_method_3_code 3 = .ok (.getfield 7, 3) := by decide +kernel
theorem d4_6 : decode prog_12_method_3_code 6 = .ok (.astore_n 3, 1) := by decide +kernel
theorem d4_7 : decode prog_12_method_3_code 7 = .ok (.aload_n 3, 1) := by decide +kernel
theorem d4_8 : decode prog_12_method_3_code 8 = .ok (.arraylength, 1) := by decide +kernel
theorem d4_9 : decode prog_12_method_3_code 9 = .ok (.istore 4, 2) := by decide +kernel
theorem d4_11 : decode prog_12_method_3_code 11 = .ok (.iconst 0, 1) := by decide +kernel
theorem d4_12 : decode prog_12_method_3_code 12 = .ok (.istore 5, 2) := by decide +kernel
theorem d4_14 : decode prog_12_method_3_code 14 = .ok (.iload 5, 2) := by decide +kernel
theorem d4_16 : decode prog_12_method_3_code 16 = .ok (.iload 4, 2) := by decide +kernel
theorem d4_18 : decode prog_12_method_3_code 18 = .ok (.if_icmp .ge 32, 3) := by decide +kernel
theorem d4_21 : decode prog_12_method_3_code 21 = .ok (.aload_n 3, 1) := by decide +kernel
theorem d4_22 : decode prog_12_method_3_code 22 = .ok (.iload 5, 2) := by decide +kernel
theorem d4_24 : decode prog_12_method_3_code 24 = .ok (.laload, 1) := by decide +kernel
theorem d4_25 : decode prog_12_method_3_code 25 = .ok (.lstore 6, 2) := by decide +kernel
theorem d4_27 : decode prog_12_method_3_code 27 = .ok (.lload_n 1, 1) := by decide +kernel
theorem d4_28 : decode prog_12_method_3_code 28 = .ok (.lload 6, 2) := by decide +kernel
theorem d4_30 : decode prog_12_method_3_code 30 = .ok (.aload_n 0, 1) := by decide +kernel
theorem d4_31 : decode prog_12_method_3_code 31 = .ok (.getfield 13, 3) := by decide +kernel
theorem d4_34 : decode prog_12_method_3_code 34 = .ok (.lload 6, 2) := by decide +kernel
theorem d4_36 : decode prog_12_method_3_code 36 = .ok (.lsub, 1) := by decide +kernel
theorem d4_37 : decode prog_12_method_3_code 37 = .ok (.invokestatic 17, 3) := by decide +kernel
theorem d4_40 : decode prog_12_method_3_code 40 = .ok (.invokestatic 23, 3) := by decide +kernel
theorem d4_43 : decode prog_12_method_3_code 43 = .ok (.lstore_n 1, 1) := by decide +kernel
theorem d4_44 : decode prog_12_method_3_code 44 = .ok (.iinc 5 1, 3) := by decide +kernel
theorem d4_47 : decode prog_12_method_3_code 47 = .ok (.goto (-33), 3) := by decide +kernel
theorem d4_50 : decode prog_12_method_3_code 50 = .ok (.lload_n 1, 1) := by decide +kernel
theorem d4_51 : decode prog_12_method_3_code 51 = .ok (.lreturn, 1) := by decide +kernel
theorem ef_4 (m : MethodId) (a0 : Addr) : entryFrame m #[(.ref a0)] 8 = mkF m 0 #[.val (.ref a0), .unset, .unset, .unset, .unset, .unset, .unset, .unset] [] := by first | (simp [entryFrame, mkF, argsToLocals, Value.category]; done) | rfl
def f4_t0 (w_strings_a0 : Int64) (x_w_ones_a0_0 : Int64) (x_w_ones_a0_1 : Int64) : Int64 := (f7 (f7 (0 : Int64) (f5 x_w_ones_a0_0 (w_strings_a0 - x_w_ones_a0_0))) (f5 x_w_ones_a0_1 (w_strings_a0 - x_w_ones_a0_1)))
def f4_t1 (w_strings_a0 : Int64) (x_w_ones_a0_0 : Int64) (x_w_ones_a0_1 : Int64) (x_w_ones_a0_2 : Int64) : Int64 := (f7 (f4_t0 w_strings_a0 x_w_ones_a0_0 x_w_ones_a0_1) (f5 x_w_ones_a0_2 (w_strings_a0 - x_w_ones_a0_2)))
theorem own_sumN0 : ∀ j, j < 5 → ∀ i, i < 5 → ¬ ((lcmpW (((0 : Int64) ^^^ ((0 : Int64) + (f5 (Int64.ofNat i) (Int64.ofNat j - Int64.ofNat i)))) &&& ((f5 (Int64.ofNat i) (Int64.ofNat j - Int64.ofNat i)) ^^^ ((0 : Int64) + (f5 (Int64.ofNat i) (Int64.ofNat j - Int64.ofNat i))))) (0 : Int64)) < (0 : Int32)) ∨ j < i := by decide +kernel
theorem own_sum0 {c s : Int64} (h : own_ok c s) : ¬ ((lcmpW (((0 : Int64) ^^^ ((0 : Int64) + (f5 c (s - c)))) &&& ((f5 c (s - c)) ^^^ ((0 : Int64) + (f5 c (s - c))))) (0 : Int64)) < (0 : Int32)) := by
  obtain ⟨i, j, h1, h2, rfl, rfl⟩ := h
  exact (own_sumN0 j (by omega) i (by omega)).resolve_right (by omega)
theorem own_pos : ∀ j, j < 5 → ∀ i, i < 5 → i ≤ j → ∃ r, r < 5 ∧ f5 (Int64.ofNat i) (Int64.ofNat j - Int64.ofNat i) = Int64.ofNat r := by decide +kernel
theorem own_p {c s : Int64} (h : own_ok c s) : ∃ r, r < 5 ∧ f5 c (s - c) = Int64.ofNat r := by
  obtain ⟨i, j, h1, h2, rfl, rfl⟩ := h
  exact own_pos j (by omega) i (by omega) h1
theorem own_addN : ∀ a, a < 10 → ∀ b, b < 5 → ¬ ((lcmpW (((Int64.ofNat a) ^^^ ((Int64.ofNat a) + (Int64.ofNat b))) &&& ((Int64.ofNat b) ^^^ ((Int64.ofNat a) + (Int64.ofNat b)))) (0 : Int64)) < (0 : Int32)) := by decide +kernel
theorem own_sum1 {c d s : Int64} (h : own_ok c s) (g : own_ok d s) : ¬ ((lcmpW (((f7 (0 : Int64) (f5 c (s - c))) ^^^ ((f7 (0 : Int64) (f5 c (s - c))) + (f5 d (s - d)))) &&& ((f5 d (s - d)) ^^^ ((f7 (0 : Int64) (f5 c (s - c))) + (f5 d (s - d))))) (0 : Int64)) < (0 : Int32)) := by
  obtain ⟨r, hr, e⟩ := own_p h
  obtain ⟨r', hr', e'⟩ := own_p g
  have q : f7 (0 : Int64) (Int64.ofNat r) = Int64.ofNat r := Int64.zero_add _
  rw [e, e', q]
  exact own_addN r (by omega) r' hr'
theorem own_sum2 {c d b s : Int64} (h : own_ok c s) (g : own_ok d s) (k : own_ok b s) : ¬ ((lcmpW (((f4_t0 s c d) ^^^ ((f4_t0 s c d) + (f5 b (s - b)))) &&& ((f5 b (s - b)) ^^^ ((f4_t0 s c d) + (f5 b (s - b))))) (0 : Int64)) < (0 : Int32)) := by
  obtain ⟨r, hr, e⟩ := own_p h
  obtain ⟨r', hr', e'⟩ := own_p g
  obtain ⟨r'', hr'', e''⟩ := own_p k
  have q : f4_t0 s c d = Int64.ofNat (r + r') := by
    unfold f4_t0 f7
    rw [e, e', Int64.zero_add, Int64.ofNat_add]
  rw [q, e'']
  exact own_addN (r + r') (by omega) r'' hr''
def f4 (w_strings_a0 : Int64) (x_w_ones_a0_0 : Int64) (x_w_ones_a0_1 : Int64) (x_w_ones_a0_2 : Int64) : Int64 := (f4_t1 w_strings_a0 x_w_ones_a0_0 x_w_ones_a0_1 x_w_ones_a0_2)
abbrev room4 : Room := { frames := 2, cells := 0, slots := 0, locals := 36 }
def Q4 (Z : State) (a0 : Addr) (w_ones_a0 : Addr) (w_strings_a0 : Int64) (k_w_ones_a0 : ClassId) (x_w_ones_a0_0 : Int64) (x_w_ones_a0_1 : Int64) (x_w_ones_a0_2 : Int64) (h0 : Heap) (n0 : Nat) (v : Option Value) (h : Heap) (L : List Loc) : Prop := v = some (.long (f4 w_strings_a0 x_w_ones_a0_0 x_w_ones_a0_1 x_w_ones_a0_2)) ∧ L = [] ∧ h = h0
set_option maxRecDepth 65536 in
set_option maxHeartbeats 40000000 in
theorem rm4 (l : Launch) (Z : State) (aw : Array Value) (hw : ∀ d ∈ tables_1, d.before aw Z = true) (ws : List Jvm.Cond) (a0 : Addr) (w_ones_a0 : Addr) (w_strings_a0 : Int64) (k_w_ones_a0 : ClassId) (x_w_ones_a0_0 : Int64) (x_w_ones_a0_1 : Int64) (x_w_ones_a0_2 : Int64) (h0 : Heap) (n0 : Nat) (Z0 : n0 ≤ h0.size) (F_ones_a0 : Fld Z h0 a0 "com/example/antipode/antipode/problem/HammingDiversity" "ones" "[J" (.ref w_ones_a0)) (F_strings_a0 : Fld Z h0 a0 "com/example/antipode/antipode/problem/HammingDiversity" "strings" "J" (.long w_strings_a0)) (E_a0 : Exa Z h0 a0 "com/example/antipode/antipode/problem/HammingDiversity") (V_w_ones_a0 : Arv Z h0 w_ones_a0 k_w_ones_a0 .long (3 : Int32) [(.long x_w_ones_a0_0), (.long x_w_ones_a0_1), (.long x_w_ones_a0_2)] (.long (0 : Int64))) (hB0 : own_ok x_w_ones_a0_0 w_strings_a0) (hB1 : own_ok x_w_ones_a0_1 w_strings_a0) (hB2 : own_ok x_w_ones_a0_2 w_strings_a0) :
    MetFree l (⟨"com/example/antipode/antipode/problem/HammingDiversity", "value", "()J"⟩ : MethodName) (head1 (Jvm.Cond.code (⟨"com/example/antipode/antipode/problem/HammingDiversity", "value", "()J"⟩ : MethodName) prog_12_method_3_code 8 (some .long) :: ws) room4) (fun a U => a = #[(.ref a0)] ∧ Z.Warmed39 U.vm ∧ U.heap = h0) (fun _ _ _ _ _ => True) (fun _ U o U' => ∃ v L, o = .returned v ∧ Q4 Z a0 w_ones_a0 w_strings_a0 k_w_ones_a0 x_w_ones_a0_0 x_w_ones_a0_1 x_w_ones_a0_2 h0 n0 v U'.heap L ∧ FrameEnd U o U' L room4.cells room4.slots) := by
  refine MetFree.of_bodySF (plainFor_of_name pn_2) hisR ?_
  intro p e s m args below meth c s₁ Bd hml0 hP hK
  obtain ⟨rfl, hZ, hh⟩ := hP
  have hx := Bd.exec
  have hby := Bd.bytes
  have hml : c.maxLocals = 8 := hml0
  have hown : s.vm.findClass "com/example/antipode/antipode/problem/HammingDiversity" = some m.cls := findClass_of_methodNamed Bd.named
  have hnm := (name_of_methodNamed Bd.named Bd.method).1
  have X0 : Stand p l e room4 s m #[(.ref a0)] below meth c s₁ [] 0 0 := Stand.of_body Bd
  have e0 : s₁.heap = h0 := by rw [← hh, Bd.state]; rfl
  have N0 := Fr.nil n0
  rw [ef_4 m a0]
  refine go_in (s₁ := s₁) (Q := Q4 Z a0 w_ones_a0 w_strings_a0 k_w_ones_a0 x_w_ones_a0_0 x_w_ones_a0_1 x_w_ones_a0_2 h0 n0) fun F hF => ?_
  refine go (B := s₁.setTop (mkF m 1 #[.val (.ref a0), .unset, .unset, .unset, .unset, .unset, .unset, .unset] [(.long (0 : Int64))])) (fun _ k => XS.lconst X0.here hx rfl (hb hby d4_0) k) ?_
  refine go (B := s₁.setTop (mkF m 2 #[.val (.ref a0), .val (.long (0 : Int64)), .second, .unset, .unset, .unset, .unset, .unset] [])) (fun _ k => XS.lstoreN X0.here hx rfl (hb hby d4_1) rfl (l' := #[.val (.ref a0), .val (.long (0 : Int64)), .second, .unset, .unset, .unset, .unset, .unset]) rfl k) ?_
  refine go (B := s₁.setTop (mkF m 3 #[.val (.ref a0), .val (.long (0 : Int64)), .second, .unset, .unset, .unset, .unset, .unset] [(.ref a0)])) (fun _ k => XS.aloadN X0.here hx rfl (hb hby d4_2) rfl rfl k) ?_
  obtain ⟨T1, X1, e1, st1⟩ := getF X0 hx hZ hown (host := "") (Or.inl (hw _ (List.mem_of_getElem? (i := 16) rfl))) Via.refl e0 F_ones_a0 (g := (mkF m 3 #[.val (.ref a0), .val (.long (0 : Int64)), .second, .unset, .unset, .unset, .unset, .unset] [(.ref a0)])) rfl rfl (hb hby d4_3)
  refine go (B := T1.setTop (mkF m 6 #[.val (.ref a0), .val (.long (0 : Int64)), .second, .unset, .unset, .unset, .unset, .unset] [(.ref w_ones_a0)])) st1 ?_
  refine go (B := T1.setTop (mkF m 7 #[.val (.ref a0), .val (.long (0 : Int64)), .second, .val (.ref w_ones_a0), .unset, .unset, .unset, .unset] [])) (fun _ k => XS.astoreN X1.here hx rfl (hb hby d4_6) rfl rfl (l' := #[.val (.ref a0), .val (.long (0 : Int64)), .second, .val (.ref w_ones_a0), .unset, .unset, .unset, .unset]) rfl k) ?_
  refine go (B := T1.setTop (mkF m 8 #[.val (.ref a0), .val (.long (0 : Int64)), .second, .val (.ref w_ones_a0), .unset, .unset, .unset, .unset] [(.ref w_ones_a0)])) (fun _ k => XS.aloadN X1.here hx rfl (hb hby d4_7) rfl rfl k) ?_
  obtain ⟨cl2, Ar2, qa2, Sa2, Na2, Ha2, Ga2⟩ := id V_w_ones_a0
  refine go (B := T1.setTop (mkF m 9 #[.val (.ref a0), .val (.long (0 : Int64)), .second, .val (.ref w_ones_a0), .unset, .unset, .unset, .unset] [(.int (3 : Int32))])) (fun _ k => X1.arraylength hx (by rw [e1]; exact Ar2.1) (State.isArrayOf_alike hZ.alike Ar2.2.1) (g := (mkF m 8 #[.val (.ref a0), .val (.long (0 : Int64)), .second, .val (.ref w_ones_a0), .unset, .unset, .unset, .unset] [(.ref w_ones_a0)])) rfl rfl (hb hby d4_8) _ (by rw [len_of Sa2 Na2]; exact k)) ?_
  refine go (B := T1.setTop (mkF m 11 #[.val (.ref a0), .val (.long (0 : Int64)), .second, .val (.ref w_ones_a0), .val (.int (3 : Int32)), .unset, .unset, .unset] [])) (fun _ k => XS.istore X1.here hx rfl (hb hby d4_9) rfl (l' := #[.val (.ref a0), .val (.long (0 : Int64)), .second, .val (.ref w_ones_a0), .val (.int (3 : Int32)), .unset, .unset, .unset]) rfl k) ?_
  refine go (B := T1.setTop (mkF m 12 #[.val (.ref a0), .val (.long (0 : Int64)), .second, .val (.ref w_ones_a0), .val (.int (3 : Int32)), .unset, .unset, .unset] [(.int (0 : Int32))])) (fun _ k => XS.iconst X1.here hx rfl (hb hby d4_11) k) ?_
  refine go (B := T1.setTop (mkF m 14 #[.val (.ref a0), .val (.long (0 : Int64)), .second, .val (.ref w_ones_a0), .val (.int (3 : Int32)), .val (.int (0 : Int32)), .unset, .unset] [])) (fun _ k => XS.istore X1.here hx rfl (hb hby d4_12) rfl (l' := #[.val (.ref a0), .val (.long (0 : Int64)), .second, .val (.ref w_ones_a0), .val (.int (3 : Int32)), .val (.int (0 : Int32)), .unset, .unset]) rfl k) ?_
  refine go (B := T1.setTop (mkF m 16 #[.val (.ref a0), .val (.long (0 : Int64)), .second, .val (.ref w_ones_a0), .val (.int (3 : Int32)), .val (.int (0 : Int32)), .unset, .unset] [(.int (0 : Int32))])) (fun _ k => XS.iload X1.here hx rfl (hb hby d4_14) rfl k) ?_
  refine go (B := T1.setTop (mkF m 18 #[.val (.ref a0), .val (.long (0 : Int64)), .second, .val (.ref w_ones_a0), .val (.int (3 : Int32)), .val (.int (0 : Int32)), .unset, .unset] [(.int (3 : Int32)), (.int (0 : Int32))])) (fun _ k => XS.iload X1.here hx rfl (hb hby d4_16) rfl k) ?_
  refine go (B := T1.setTop (mkF m 21 #[.val (.ref a0), .val (.long (0 : Int64)), .second, .val (.ref w_ones_a0), .val (.int (3 : Int32)), .val (.int (0 : Int32)), .unset, .unset] [])) (fun _ k => XS.icmpNo X1.here hx rfl (hb hby d4_18) rfl (tlt (by decide : (0 : Int32) < (3 : Int32))).2.1 k) ?_
  refine go (B := T1.setTop (mkF m 22 #[.val (.ref a0), .val (.long (0 : Int64)), .second, .val (.ref w_ones_a0), .val (.int (3 : Int32)), .val (.int (0 : Int32)), .unset, .unset] [(.ref w_ones_a0)])) (fun _ k => XS.aloadN X1.here hx rfl (hb hby d4_21) rfl rfl k) ?_
  refine go (B := T1.setTop (mkF m 24 #[.val (.ref a0), .val (.long (0 : Int64)), .second, .val (.ref w_ones_a0), .val (.int (3 : Int32)), .val (.int (0 : Int32)), .unset, .unset] [(.int (0 : Int32)), (.ref w_ones_a0)])) (fun _ k => XS.iload X1.here hx rfl (hb hby d4_22) rfl k) ?_
  obtain ⟨cl3, Ar3, qa3, Sa3, Na3, Ha3, Ga3⟩ := id V_w_ones_a0
  have hin3 : ¬ ((0 : Int32) < 0 ∨ cl3.slots.size ≤ ((0 : Int32)).toNatClampNeg) := inb_of Sa3 ⟨by decide, by decide⟩
  have hat3 : cl3.slots[((0 : Int32)).toNatClampNeg]? = some (.long x_w_ones_a0_0) := Has.at Ha3 hin3 rfl
  refine go (B := T1.setTop (mkF m 25 #[.val (.ref a0), .val (.long (0 : Int64)), .second, .val (.ref w_ones_a0), .val (.int (3 : Int32)), .val (.int (0 : Int32)), .unset, .unset] [(.long x_w_ones_a0_0)])) (fun _ k => X1.laload hx (j := (0 : Int32)) (v := (.long x_w_ones_a0_0)) (by rw [e1]; exact Ar3.1) (State.isArrayOf_alike hZ.alike Ar3.2.1) Ar3.2.2 hin3 hat3 (g := (mkF m 24 #[.val (.ref a0), .val (.long (0 : Int64)), .second, .val (.ref w_ones_a0), .val (.int (3 : Int32)), .val (.int (0 : Int32)), .unset, .unset] [(.int (0 : Int32)), (.ref w_ones_a0)])) rfl rfl (hb hby d4_24) _ k) ?_
  refine go (B := T1.setTop (mkF m 27 #[.val (.ref a0), .val (.long (0 : Int64)), .second, .val (.ref w_ones_a0), .val (.int (3 : Int32)), .val (.int (0 : Int32)), .val (.long x_w_ones_a0_0), .second] [])) (fun _ k => XS.lstore X1.here hx rfl (hb hby d4_25) rfl (l' := #[.val (.ref a0), .val (.long (0 : Int64)), .second, .val (.ref w_ones_a0), .val (.int (3 : Int32)), .val (.int (0 : Int32)), .val (.long x_w_ones_a0_0), .second]) rfl k) ?_
  refine go (B := T1.setTop (mkF m 28 #[.val (.ref a0), .val (.long (0 : Int64)), .second, .val (.ref w_ones_a0), .val (.int (3 : Int32)), .val (.int (0 : Int32)), .val (.long x_w_ones_a0_0), .second] [(.long (0 : Int64))])) (fun _ k => XS.lloadN X1.here hx rfl (hb hby d4_27) rfl k) ?_
  refine go (B := T1.setTop (mkF m 30 #[.val (.ref a0), .val (.long (0 : Int64)), .second, .val (.ref w_ones_a0), .val (.int (3 : Int32)), .val (.int (0 : Int32)), .val (.long x_w_ones_a0_0), .second] [(.long x_w_ones_a0_0), (.long (0 : Int64))])) (fun _ k => XS.lload X1.here hx rfl (hb hby d4_28) rfl k) ?_
  refine go (B := T1.setTop (mkF m 31 #[.val (.ref a0), .val (.long (0 : Int64)), .second, .val (.ref w_ones_a0), .val (.int (3 : Int32)), .val (.int (0 : Int32)), .val (.long x_w_ones_a0_0), .second] [(.ref a0), (.long x_w_ones_a0_0), (.long (0 : Int64))])) (fun _ k => XS.aloadN X1.here hx rfl (hb hby d4_30) rfl rfl k) ?_
  obtain ⟨T4, X4, e4, st4⟩ := getF X1 hx hZ hown (host := "") (Or.inl (hw _ (List.mem_of_getElem? (i := 23) rfl))) Via.refl e1 F_strings_a0 (g := (mkF m 31 #[.val (.ref a0), .val (.long (0 : Int64)), .second, .val (.ref w_ones_a0), .val (.int (3 : Int32)), .val (.int (0 : Int32)), .val (.long x_w_ones_a0_0), .second] [(.ref a0), (.long x_w_ones_a0_0), (.long (0 : Int64))])) rfl rfl (hb hby d4_31)
  refine go (B := T4.setTop (mkF m 34 #[.val (.ref a0), .val (.long (0 : Int64)), .second, .val (.ref w_ones_a0), .val (.int (3 : Int32)), .val (.int (0 : Int32)), .val (.long x_w_ones_a0_0), .second] [(.long w_strings_a0), (.long x_w_ones_a0_0), (.long (0 : Int64))])) st4 ?_
  refine go (B := T4.setTop (mkF m 36 #[.val (.ref a0), .val (.long (0 : Int64)), .second, .val (.ref w_ones_a0), .val (.int (3 : Int32)), .val (.int (0 : Int32)), .val (.long x_w_ones_a0_0), .second] [(.long x_w_ones_a0_0), (.long w_strings_a0), (.long x_w_ones_a0_0), (.long (0 : Int64))])) (fun _ k => XS.lload X4.here hx rfl (hb hby d4_34) rfl k) ?_
  refine go (B := T4.setTop (mkF m 37 #[.val (.ref a0), .val (.long (0 : Int64)), .second, .val (.ref w_ones_a0), .val (.int (3 : Int32)), .val (.int (0 : Int32)), .val (.long x_w_ones_a0_0), .second] [(.long (w_strings_a0 - x_w_ones_a0_0)), (.long x_w_ones_a0_0), (.long (0 : Int64))])) (fun _ k => XS.lsub X4.here hx rfl (hb hby d4_36) rfl k) ?_
  obtain ⟨_, _, ⟨T5, L5, k5, n5⟩, -, X5, ⟨Lc5, hQ5, l5, y5, z5⟩, st5⟩ := Jvm.LawKit.callS X4 hx (y := (⟨"java/lang/Math", "multiplyExact", "(JJ)J"⟩ : MethodName)) hown (mvT hZ (hw _ (List.mem_of_getElem? (i := 25) rfl))) (mvT hZ (hw _ (List.mem_of_getElem? (i := 26) rfl))) (mvT hZ (hw _ (List.mem_of_getElem? (i := 27) rfl))) (mvT hZ (hw _ (List.mem_of_getElem? (i := 28) rfl))) (by decide) (backOf (W := 2) (rm5 l Z aw hw [] x_w_ones_a0_0 (w_strings_a0 - x_w_ones_a0_0) h0 n0 Z0 (show (lcmpW ((((f6 x_w_ones_a0_0) ||| (f6 (w_strings_a0 - x_w_ones_a0_0))).toUInt64 >>> ((31 : Int32) &&& 0x3f).toInt64.toUInt64).toInt64) (0 : Int64)) = (0 : Int32) from own_mul hB0)) hZ (hw _ (List.mem_of_getElem? (i := 28) rfl)) (hw _ (List.mem_of_getElem? (i := 27) rfl)) (by decide) (by decide)) (g := (mkF m 37 #[.val (.ref a0), .val (.long (0 : Int64)), .second, .val (.ref w_ones_a0), .val (.int (3 : Int32)), .val (.int (0 : Int32)), .val (.long x_w_ones_a0_0), .second] [(.long (w_strings_a0 - x_w_ones_a0_0)), (.long x_w_ones_a0_0), (.long (0 : Int64))])) rfl (by rw [hml]; rfl) (argsL := [(.long x_w_ones_a0_0), (.long (w_strings_a0 - x_w_ones_a0_0))]) (rest := [(.long (0 : Int64))]) (lenOf pd_1 rfl) rfl (by show 2 * 0 + _ ≤ _; exact Nat.le_of_eq rfl) (hb hby d4_37) (fun _ _ => ⟨rfl, e4, (by decide : 0 + 0 ≤ _), (by decide : 0 + 0 ≤ _)⟩)
  dsimp only [Pt.U, Pt.locs, Pt.cells, Pt.slots] at X5 l5 y5 z5 st5 hQ5
  subst l5 y5 z5
  obtain ⟨rfl, rfl, e5⟩ := hQ5
  refine go (B := T5.setTop (mkF m 40 #[.val (.ref a0), .val (.long (0 : Int64)), .second, .val (.ref w_ones_a0), .val (.int (3 : Int32)), .val (.int (0 : Int32)), .val (.long x_w_ones_a0_0), .second] [(.long (f5 x_w_ones_a0_0 (w_strings_a0 - x_w_ones_a0_0))), (.long (0 : Int64))])) (fun _ k => st5 _ k) ?_
  obtain ⟨_, _, ⟨T6, L6, k6, n6⟩, -, X6, ⟨Lc6, hQ6, l6, y6, z6⟩, st6⟩ := Jvm.LawKit.callS X5 hx (y := (⟨"java/lang/Math", "addExact", "(JJ)J"⟩ : MethodName)) hown (mvT hZ (hw _ (List.mem_of_getElem? (i := 32) rfl))) (mvT hZ (hw _ (List.mem_of_getElem? (i := 33) rfl))) (mvT hZ (hw _ (List.mem_of_getElem? (i := 27) rfl))) (mvT hZ (hw _ (List.mem_of_getElem? (i := 34) rfl))) (by decide) (backOf (W := 0) (rm7 l Z aw hw [] (0 : Int64) (f5 x_w_ones_a0_0 (w_strings_a0 - x_w_ones_a0_0)) h0 n0 Z0 (show ¬ ((lcmpW (((0 : Int64) ^^^ ((0 : Int64) + (f5 x_w_ones_a0_0 (w_strings_a0 - x_w_ones_a0_0)))) &&& ((f5 x_w_ones_a0_0 (w_strings_a0 - x_w_ones_a0_0)) ^^^ ((0 : Int64) + (f5 x_w_ones_a0_0 (w_strings_a0 - x_w_ones_a0_0))))) (0 : Int64)) < (0 : Int32)) from own_sum0 hB0)) hZ (hw _ (List.mem_of_getElem? (i := 34) rfl)) (hw _ (List.mem_of_getElem? (i := 27) rfl)) (by decide) (by decide)) (g := (mkF m 40 #[.val (.ref a0), .val (.long (0 : Int64)), .second, .val (.ref w_ones_a0), .val (.int (3 : Int32)), .val (.int (0 : Int32)), .val (.long x_w_ones_a0_0), .second] [(.long (f5 x_w_ones_a0_0 (w_strings_a0 - x_w_ones_a0_0))), (.long (0 : Int64))])) rfl (by rw [hml]; rfl) (argsL := [(.long (0 : Int64)), (.long (f5 x_w_ones_a0_0 (w_strings_a0 - x_w_ones_a0_0)))]) (rest := []) (lenOf pd_1 rfl) rfl (by show 2 * 0 + _ ≤ _; exact Nat.le_of_eq rfl) (hb hby d4_40) (fun _ _ => ⟨rfl, e5, (by decide : 0 + 0 ≤ _), (by decide : 0 + 0 ≤ _)⟩)
  dsimp only [Pt.U, Pt.locs, Pt.cells, Pt.slots] at X6 l6 y6 z6 st6 hQ6
  subst l6 y6 z6
  obtain ⟨rfl, rfl, e6⟩ := hQ6
  refine go (B := T6.setTop (mkF m 43 #[.val (.ref a0), .val (.long (0 : Int64)), .second, .val (.ref w_ones_a0), .val (.int (3 : Int32)), .val (.int (0 : Int32)), .val (.long x_w_ones_a0_0), .second] [(.long (f7 (0 : Int64) (f5 x_w_ones_a0_0 (w_strings_a0 - x_w_ones_a0_0))))])) (fun _ k => st6 _ k) ?_
  refine go (B := T6.setTop (mkF m 44 #[.val (.ref a0), .val (.long (f7 (0 : Int64) (f5 x_w_ones_a0_0 (w_strings_a0 - x_w_ones_a0_0)))), .second, .val (.ref w_ones_a0), .val (.int (3 : Int32)), .val (.int (0 : Int32)), .val (.long x_w_ones_a0_0), .second] [])) (fun _ k => XS.lstoreN X6.here hx rfl (hb hby d4_43) rfl (l' := #[.val (.ref a0), .val (.long (f7 (0 : Int64) (f5 x_w_ones_a0_0 (w_strings_a0 - x_w_ones_a0_0)))), .second, .val (.ref w_ones_a0), .val (.int (3 : Int32)), .val (.int (0 : Int32)), .val (.long x_w_ones_a0_0), .second]) rfl k) ?_
  refine go (B := T6.setTop (mkF m 47 #[.val (.ref a0), .val (.long (f7 (0 : Int64) (f5 x_w_ones_a0_0 (w_strings_a0 - x_w_ones_a0_0)))), .second, .val (.ref w_ones_a0), .val (.int (3 : Int32)), .val (.int (1 : Int32)), .val (.long x_w_ones_a0_0), .second] [])) (fun _ k => XS.iinc X6.here hx rfl (hb hby d4_44) rfl (l' := #[.val (.ref a0), .val (.long (f7 (0 : Int64) (f5 x_w_ones_a0_0 (w_strings_a0 - x_w_ones_a0_0)))), .second, .val (.ref w_ones_a0), .val (.int (3 : Int32)), .val (.int (1 : Int32)), .val (.long x_w_ones_a0_0), .second]) rfl k) ?_
  refine go (B := T6.setTop (mkF m 14 #[.val (.ref a0), .val (.long (f7 (0 : Int64) (f5 x_w_ones_a0_0 (w_strings_a0 - x_w_ones_a0_0)))), .second, .val (.ref w_ones_a0), .val (.int (3 : Int32)), .val (.int (1 : Int32)), .val (.long x_w_ones_a0_0), .second] [])) (fun _ k => XS.goto X6.here hx rfl (pc0 := 47) (pc' := 14) rfl (hb hby d4_47) (by decide) (by decide) k) ?_
  refine go (B := T6.setTop (mkF m 16 #[.val (.ref a0), .val (.long (f7 (0 : Int64) (f5 x_w_ones_a0_0 (w_strings_a0 - x_w_ones_a0_0)))), .second, .val (.ref w_ones_a0), .val (.int (3 : Int32)), .val (.int (1 : Int32)), .val (.long x_w_ones_a0_0), .second] [(.int (1 : Int32))])) (fun _ k => XS.iload X6.here hx rfl (hb hby d4_14) rfl k) ?_
  refine go (B := T6.setTop (mkF m 18 #[.val (.ref a0), .val (.long (f7 (0 : Int64) (f5 x_w_ones_a0_0 (w_strings_a0 - x_w_ones_a0_0)))), .second, .val (.ref w_ones_a0), .val (.int (3 : Int32)), .val (.int (1 : Int32)), .val (.long x_w_ones_a0_0), .second] [(.int (3 : Int32)), (.int (1 : Int32))])) (fun _ k => XS.iload X6.here hx rfl (hb hby d4_16) rfl k) ?_
  refine go (B := T6.setTop (mkF m 21 #[.val (.ref a0), .val (.long (f7 (0 : Int64) (f5 x_w_ones_a0_0 (w_strings_a0 - x_w_ones_a0_0)))), .second, .val (.ref w_ones_a0), .val (.int (3 : Int32)), .val (.int (1 : Int32)), .val (.long x_w_ones_a0_0), .second] [])) (fun _ k => XS.icmpNo X6.here hx rfl (hb hby d4_18) rfl (tlt (by decide : (1 : Int32) < (3 : Int32))).2.1 k) ?_
  refine go (B := T6.setTop (mkF m 22 #[.val (.ref a0), .val (.long (f7 (0 : Int64) (f5 x_w_ones_a0_0 (w_strings_a0 - x_w_ones_a0_0)))), .second, .val (.ref w_ones_a0), .val (.int (3 : Int32)), .val (.int (1 : Int32)), .val (.long x_w_ones_a0_0), .second] [(.ref w_ones_a0)])) (fun _ k => XS.aloadN X6.here hx rfl (hb hby d4_21) rfl rfl k) ?_
  refine go (B := T6.setTop (mkF m 24 #[.val (.ref a0), .val (.long (f7 (0 : Int64) (f5 x_w_ones_a0_0 (w_strings_a0 - x_w_ones_a0_0)))), .second, .val (.ref w_ones_a0), .val (.int (3 : Int32)), .val (.int (1 : Int32)), .val (.long x_w_ones_a0_0), .second] [(.int (1 : Int32)), (.ref w_ones_a0)])) (fun _ k => XS.iload X6.here hx rfl (hb hby d4_22) rfl k) ?_
  obtain ⟨cl7, Ar7, qa7, Sa7, Na7, Ha7, Ga7⟩ := id V_w_ones_a0
  have hin7 : ¬ ((1 : Int32) < 0 ∨ cl7.slots.size ≤ ((1 : Int32)).toNatClampNeg) := inb_of Sa7 ⟨by decide, by decide⟩
  have hat7 : cl7.slots[((1 : Int32)).toNatClampNeg]? = some (.long x_w_ones_a0_1) := Has.at Ha7 hin7 rfl
  refine go (B := T6.setTop (mkF m 25 #[.val (.ref a0), .val (.long (f7 (0 : Int64) (f5 x_w_ones_a0_0 (w_strings_a0 - x_w_ones_a0_0)))), .second, .val (.ref w_ones_a0), .val (.int (3 : Int32)), .val (.int (1 : Int32)), .val (.long x_w_ones_a0_0), .second] [(.long x_w_ones_a0_1)])) (fun _ k => X6.laload hx (j := (1 : Int32)) (v := (.long x_w_ones_a0_1)) (by rw [e6]; exact Ar7.1) (State.isArrayOf_alike hZ.alike Ar7.2.1) Ar7.2.2 hin7 hat7 (g := (mkF m 24 #[.val (.ref a0), .val (.long (f7 (0 : Int64) (f5 x_w_ones_a0_0 (w_strings_a0 - x_w_ones_a0_0)))), .second, .val (.ref w_ones_a0), .val (.int (3 : Int32)), .val (.int (1 : Int32)), .val (.long x_w_ones_a0_0), .second] [(.int (1 : Int32)), (.ref w_ones_a0)])) rfl rfl (hb hby d4_24) _ k) ?_
  refine go (B := T6.setTop (mkF m 27 #[.val (.ref a0), .val (.long (f7 (0 : Int64) (f5 x_w_ones_a0_0 (w_strings_a0 - x_w_ones_a0_0)))), .second, .val (.ref w_ones_a0), .val (.int (3 : Int32)), .val (.int (1 : Int32)), .val (.long x_w_ones_a0_1), .second] [])) (fun _ k => XS.lstore X6.here hx rfl (hb hby d4_25) rfl (l' := #[.val (.ref a0), .val (.long (f7 (0 : Int64) (f5 x_w_ones_a0_0 (w_strings_a0 - x_w_ones_a0_0)))), .second, .val (.ref w_ones_a0), .val (.int (3 : Int32)), .val (.int (1 : Int32)), .val (.long x_w_ones_a0_1), .second]) rfl k) ?_
  refine go (B := T6.setTop (mkF m 28 #[.val (.ref a0), .val (.long (f7 (0 : Int64) (f5 x_w_ones_a0_0 (w_strings_a0 - x_w_ones_a0_0)))), .second, .val (.ref w_ones_a0), .val (.int (3 : Int32)), .val (.int (1 : Int32)), .val (.long x_w_ones_a0_1), .second] [(.long (f7 (0 : Int64) (f5 x_w_ones_a0_0 (w_strings_a0 - x_w_ones_a0_0))))])) (fun _ k => XS.lloadN X6.here hx rfl (hb hby d4_27) rfl k) ?_
  refine go (B := T6.setTop (mkF m 30 #[.val (.ref a0), .val (.long (f7 (0 : Int64) (f5 x_w_ones_a0_0 (w_strings_a0 - x_w_ones_a0_0)))), .second, .val (.ref w_ones_a0), .val (.int (3 : Int32)), .val (.int (1 : Int32)), .val (.long x_w_ones_a0_1), .second] [(.long x_w_ones_a0_1), (.long (f7 (0 : Int64) (f5 x_w_ones_a0_0 (w_strings_a0 - x_w_ones_a0_0))))])) (fun _ k => XS.lload X6.here hx rfl (hb hby d4_28) rfl k) ?_
  refine go (B := T6.setTop (mkF m 31 #[.val (.ref a0), .val (.long (f7 (0 : Int64) (f5 x_w_ones_a0_0 (w_strings_a0 - x_w_ones_a0_0)))), .second, .val (.ref w_ones_a0), .val (.int (3 : Int32)), .val (.int (1 : Int32)), .val (.long x_w_ones_a0_1), .second] [(.ref a0), (.long x_w_ones_a0_1), (.long (f7 (0 : Int64) (f5 x_w_ones_a0_0 (w_strings_a0 - x_w_ones_a0_0))))])) (fun _ k => XS.aloadN X6.here hx rfl (hb hby d4_30) rfl rfl k) ?_
  obtain ⟨T8, X8, e8, st8⟩ := getF X6 hx hZ hown (host := "") (Or.inl (hw _ (List.mem_of_getElem? (i := 23) rfl))) Via.refl e6 F_strings_a0 (g := (mkF m 31 #[.val (.ref a0), .val (.long (f7 (0 : Int64) (f5 x_w_ones_a0_0 (w_strings_a0 - x_w_ones_a0_0)))), .second, .val (.ref w_ones_a0), .val (.int (3 : Int32)), .val (.int (1 : Int32)), .val (.long x_w_ones_a0_1), .second] [(.ref a0), (.long x_w_ones_a0_1), (.long (f7 (0 : Int64) (f5 x_w_ones_a0_0 (w_strings_a0 - x_w_ones_a0_0))))])) rfl rfl (hb hby d4_31)
  refine go (B := T8.setTop (mkF m 34 #[.val (.ref a0), .val (.long (f7 (0 : Int64) (f5 x_w_ones_a0_0 (w_strings_a0 - x_w_ones_a0_0)))), .second, .val (.ref w_ones_a0), .val (.int (3 : Int32)), .val (.int (1 : Int32)), .val (.long x_w_ones_a0_1), .second] [(.long w_strings_a0), (.long x_w_ones_a0_1), (.long (f7 (0 : Int64) (f5 x_w_ones_a0_0 (w_strings_a0 - x_w_ones_a0_0))))])) st8 ?_
  refine go (B := T8.setTop (mkF m 36 #[.val (.ref a0), .val (.long (f7 (0 : Int64) (f5 x_w_ones_a0_0 (w_strings_a0 - x_w_ones_a0_0)))), .second, .val (.ref w_ones_a0), .val (.int (3 : Int32)), .val (.int (1 : Int32)), .val (.long x_w_ones_a0_1), .second] [(.long x_w_ones_a0_1), (.long w_strings_a0), (.long x_w_ones_a0_1), (.long (f7 (0 : Int64) (f5 x_w_ones_a0_0 (w_strings_a0 - x_w_ones_a0_0))))])) (fun _ k => XS.lload X8.here hx rfl (hb hby d4_34) rfl k) ?_
  refine go (B := T8.setTop (mkF m 37 #[.val (.ref a0), .val (.long (f7 (0 : Int64) (f5 x_w_ones_a0_0 (w_strings_a0 - x_w_ones_a0_0)))), .second, .val (.ref w_ones_a0), .val (.int (3 : Int32)), .val (.int (1 : Int32)), .val (.long x_w_ones_a0_1), .second] [(.long (w_strings_a0 - x_w_ones_a0_1)), (.long x_w_ones_a0_1), (.long (f7 (0 : Int64) (f5 x_w_ones_a0_0 (w_strings_a0 - x_w_ones_a0_0))))])) (fun _ k => XS.lsub X8.here hx rfl (hb hby d4_36) rfl k) ?_
  obtain ⟨_, _, ⟨T9, L9, k9, n9⟩, -, X9, ⟨Lc9, hQ9, l9, y9, z9⟩, st9⟩ := Jvm.LawKit.callS X8 hx (y := (⟨"java/lang/Math", "multiplyExact", "(JJ)J"⟩ : MethodName)) hown (mvT hZ (hw _ (List.mem_of_getElem? (i := 25) rfl))) (mvT hZ (hw _ (List.mem_of_getElem? (i := 26) rfl))) (mvT hZ (hw _ (List.mem_of_getElem? (i := 27) rfl))) (mvT hZ (hw _ (List.mem_of_getElem? (i := 28) rfl))) (by decide) (backOf (W := 2) (rm5 l Z aw hw [] x_w_ones_a0_1 (w_strings_a0 - x_w_ones_a0_1) h0 n0 Z0 (show (lcmpW ((((f6 x_w_ones_a0_1) ||| (f6 (w_strings_a0 - x_w_ones_a0_1))).toUInt64 >>> ((31 : Int32) &&& 0x3f).toInt64.toUInt64).toInt64) (0 : Int64)) = (0 : Int32) from own_mul hB1)) hZ (hw _ (List.mem_of_getElem? (i := 28) rfl)) (hw _ (List.mem_of_getElem? (i := 27) rfl)) (by decide) (by decide)) (g := (mkF m 37 #[.val (.ref a0), .val (.long (f7 (0 : Int64) (f5 x_w_ones_a0_0 (w_strings_a0 - x_w_ones_a0_0)))), .second, .val (.ref w_ones_a0), .val (.int (3 : Int32)), .val (.int (1 : Int32)), .val (.long x_w_ones_a0_1), .second] [(.long (w_strings_a0 - x_w_ones_a0_1)), (.long x_w_ones_a0_1), (.long (f7 (0 : Int64) (f5 x_w_ones_a0_0 (w_strings_a0 - x_w_ones_a0_0))))])) rfl (by rw [hml]; rfl) (argsL := [(.long x_w_ones_a0_1), (.long (w_strings_a0 - x_w_ones_a0_1))]) (rest := [(.long (f7 (0 : Int64) (f5 x_w_ones_a0_0 (w_strings_a0 - x_w_ones_a0_0))))]) (lenOf pd_1 rfl) rfl (by show 2 * 0 + _ ≤ _; exact Nat.le_of_eq rfl) (hb hby d4_37) (fun _ _ => ⟨rfl, e8, (by decide : 0 + 0 ≤ _), (by decide : 0 + 0 ≤ _)⟩)
  dsimp only [Pt.U, Pt.locs, Pt.cells, Pt.slots] at X9 l9 y9 z9 st9 hQ9
  subst l9 y9 z9
  obtain ⟨rfl, rfl, e9⟩ := hQ9
  refine go (B := T9.setTop (mkF m 40 #[.val (.ref a0), .val (.long (f7 (0 : Int64) (f5 x_w_ones_a0_0 (w_strings_a0 - x_w_ones_a0_0)))), .second, .val (.ref w_ones_a0), .val (.int (3 : Int32)), .val (.int (1 : Int32)), .val (.long x_w_ones_a0_1), .second] [(.long (f5 x_w_ones_a0_1 (w_strings_a0 - x_w_ones_a0_1))), (.long (f7 (0 : Int64) (f5 x_w_ones_a0_0 (w_strings_a0 - x_w_ones_a0_0))))])) (fun _ k => st9 _ k) ?_
  obtain ⟨_, _, ⟨T10, L10, k10, n10⟩, -, X10, ⟨Lc10, hQ10, l10, y10, z10⟩, st10⟩ := Jvm.LawKit.callS X9 hx (y := (⟨"java/lang/Math", "addExact", "(JJ)J"⟩ : MethodName)) hown (mvT hZ (hw _ (List.mem_of_getElem? (i := 32) rfl))) (mvT hZ (hw _ (List.mem_of_getElem? (i := 33) rfl))) (mvT hZ (hw _ (List.mem_of_getElem? (i := 27) rfl))) (mvT hZ (hw _ (List.mem_of_getElem? (i := 34) rfl))) (by decide) (backOf (W := 0) (rm7 l Z aw hw [] (f7 (0 : Int64) (f5 x_w_ones_a0_0 (w_strings_a0 - x_w_ones_a0_0))) (f5 x_w_ones_a0_1 (w_strings_a0 - x_w_ones_a0_1)) h0 n0 Z0 (show ¬ ((lcmpW (((f7 (0 : Int64) (f5 x_w_ones_a0_0 (w_strings_a0 - x_w_ones_a0_0))) ^^^ ((f7 (0 : Int64) (f5 x_w_ones_a0_0 (w_strings_a0 - x_w_ones_a0_0))) + (f5 x_w_ones_a0_1 (w_strings_a0 - x_w_ones_a0_1)))) &&& ((f5 x_w_ones_a0_1 (w_strings_a0 - x_w_ones_a0_1)) ^^^ ((f7 (0 : Int64) (f5 x_w_ones_a0_0 (w_strings_a0 - x_w_ones_a0_0))) + (f5 x_w_ones_a0_1 (w_strings_a0 - x_w_ones_a0_1))))) (0 : Int64)) < (0 : Int32)) from own_sum1 hB0 hB1)) hZ (hw _ (List.mem_of_getElem? (i := 34) rfl)) (hw _ (List.mem_of_getElem? (i := 27) rfl)) (by decide) (by decide)) (g := (mkF m 40 #[.val (.ref a0), .val (.long (f7 (0 : Int64) (f5 x_w_ones_a0_0 (w_strings_a0 - x_w_ones_a0_0)))), .second, .val (.ref w_ones_a0), .val (.int (3 : Int32)), .val (.int (1 : Int32)), .val (.long x_w_ones_a0_1), .second] [(.long (f5 x_w_ones_a0_1 (w_strings_a0 - x_w_ones_a0_1))), (.long (f7 (0 : Int64) (f5 x_w_ones_a0_0 (w_strings_a0 - x_w_ones_a0_0))))])) rfl (by rw [hml]; rfl) (argsL := [(.long (f7 (0 : Int64) (f5 x_w_ones_a0_0 (w_strings_a0 - x_w_ones_a0_0)))), (.long (f5 x_w_ones_a0_1 (w_strings_a0 - x_w_ones_a0_1)))]) (rest := []) (lenOf pd_1 rfl) rfl (by show 2 * 0 + _ ≤ _; exact Nat.le_of_eq rfl) (hb hby d4_40) (fun _ _ => ⟨rfl, e9, (by decide : 0 + 0 ≤ _), (by decide : 0 + 0 ≤ _)⟩)
  dsimp only [Pt.U, Pt.locs, Pt.cells, Pt.slots] at X10 l10 y10 z10 st10 hQ10
  subst l10 y10 z10
  obtain ⟨rfl, rfl, e10⟩ := hQ10
  refine go (B := T10.setTop (mkF m 43 #[.val (.ref a0), .val (.long (f7 (0 : Int64) (f5 x_w_ones_a0_0 (w_strings_a0 - x_w_ones_a0_0)))), .second, .val (.ref w_ones_a0), .val (.int (3 : Int32)), .val (.int (1 : Int32)), .val (.long x_w_ones_a0_1), .second] [(.long (f4_t0 w_strings_a0 x_w_ones_a0_0 x_w_ones_a0_1))])) (fun _ k => st10 _ k) ?_
  refine go (B := T10.setTop (mkF m 44 #[.val (.ref a0), .val (.long (f4_t0 w_strings_a0 x_w_ones_a0_0 x_w_ones_a0_1)), .second, .val (.ref w_ones_a0), .val (.int (3 : Int32)), .val (.int (1 : Int32)), .val (.long x_w_ones_a0_1), .second] [])) (fun _ k => XS.lstoreN X10.here hx rfl (hb hby d4_43) rfl (l' := #[.val (.ref a0), .val (.long (f4_t0 w_strings_a0 x_w_ones_a0_0 x_w_ones_a0_1)), .second, .val (.ref w_ones_a0), .val (.int (3 : Int32)), .val (.int (1 : Int32)), .val (.long x_w_ones_a0_1), .second]) rfl k) ?_
  refine go (B := T10.setTop (mkF m 47 #[.val (.ref a0), .val (.long (f4_t0 w_strings_a0 x_w_ones_a0_0 x_w_ones_a0_1)), .second, .val (.ref w_ones_a0), .val (.int (3 : Int32)), .val (.int (2 : Int32)), .val (.long x_w_ones_a0_1), .second] [])) (fun _ k => XS.iinc X10.here hx rfl (hb hby d4_44) rfl (l' := #[.val (.ref a0), .val (.long (f4_t0 w_strings_a0 x_w_ones_a0_0 x_w_ones_a0_1)), .second, .val (.ref w_ones_a0), .val (.int (3 : Int32)), .val (.int (2 : Int32)), .val (.long x_w_ones_a0_1), .second]) rfl k) ?_
  refine go (B := T10.setTop (mkF m 14 #[.val (.ref a0), .val (.long (f4_t0 w_strings_a0 x_w_ones_a0_0 x_w_ones_a0_1)), .second, .val (.ref w_ones_a0), .val (.int (3 : Int32)), .val (.int (2 : Int32)), .val (.long x_w_ones_a0_1), .second] [])) (fun _ k => XS.goto X10.here hx rfl (pc0 := 47) (pc' := 14) rfl (hb hby d4_47) (by decide) (by decide) k) ?_
  refine go (B := T10.setTop (mkF m 16 #[.val (.ref a0), .val (.long (f4_t0 w_strings_a0 x_w_ones_a0_0 x_w_ones_a0_1)), .second, .val (.ref w_ones_a0), .val (.int (3 : Int32)), .val (.int (2 : Int32)), .val (.long x_w_ones_a0_1), .second] [(.int (2 : Int32))])) (fun _ k => XS.iload X10.here hx rfl (hb hby d4_14) rfl k) ?_
  refine go (B := T10.setTop (mkF m 18 #[.val (.ref a0), .val (.long (f4_t0 w_strings_a0 x_w_ones_a0_0 x_w_ones_a0_1)), .second, .val (.ref w_ones_a0), .val (.int (3 : Int32)), .val (.int (2 : Int32)), .val (.long x_w_ones_a0_1), .second] [(.int (3 : Int32)), (.int (2 : Int32))])) (fun _ k => XS.iload X10.here hx rfl (hb hby d4_16) rfl k) ?_
  refine go (B := T10.setTop (mkF m 21 #[.val (.ref a0), .val (.long (f4_t0 w_strings_a0 x_w_ones_a0_0 x_w_ones_a0_1)), .second, .val (.ref w_ones_a0), .val (.int (3 : Int32)), .val (.int (2 : Int32)), .val (.long x_w_ones_a0_1), .second] [])) (fun _ k => XS.icmpNo X10.here hx rfl (hb hby d4_18) rfl (tlt (by decide : (2 : Int32) < (3 : Int32))).2.1 k) ?_
  refine go (B := T10.setTop (mkF m 22 #[.val (.ref a0), .val (.long (f4_t0 w_strings_a0 x_w_ones_a0_0 x_w_ones_a0_1)), .second, .val (.ref w_ones_a0), .val (.int (3 : Int32)), .val (.int (2 : Int32)), .val (.long x_w_ones_a0_1), .second] [(.ref w_ones_a0)])) (fun _ k => XS.aloadN X10.here hx rfl (hb hby d4_21) rfl rfl k) ?_
  refine go (B := T10.setTop (mkF m 24 #[.val (.ref a0), .val (.long (f4_t0 w_strings_a0 x_w_ones_a0_0 x_w_ones_a0_1)), .second, .val (.ref w_ones_a0), .val (.int (3 : Int32)), .val (.int (2 : Int32)), .val (.long x_w_ones_a0_1), .second] [(.int (2 : Int32)), (.ref w_ones_a0)])) (fun _ k => XS.iload X10.here hx rfl (hb hby d4_22) rfl k) ?_
  obtain ⟨cl11, Ar11, qa11, Sa11, Na11, Ha11, Ga11⟩ := id V_w_ones_a0
  have hin11 : ¬ ((2 : Int32) < 0 ∨ cl11.slots.size ≤ ((2 : Int32)).toNatClampNeg) := inb_of Sa11 ⟨by decide, by decide⟩
  have hat11 : cl11.slots[((2 : Int32)).toNatClampNeg]? = some (.long x_w_ones_a0_2) := Has.at Ha11 hin11 rfl
  refine go (B := T10.setTop (mkF m 25 #[.val (.ref a0), .val (.long (f4_t0 w_strings_a0 x_w_ones_a0_0 x_w_ones_a0_1)), .second, .val (.ref w_ones_a0), .val (.int (3 : Int32)), .val (.int (2 : Int32)), .val (.long x_w_ones_a0_1), .second] [(.long x_w_ones_a0_2)])) (fun _ k => X10.laload hx (j := (2 : Int32)) (v := (.long x_w_ones_a0_2)) (by rw [e10]; exact Ar11.1) (State.isArrayOf_alike hZ.alike Ar11.2.1) Ar11.2.2 hin11 hat11 (g := (mkF m 24 #[.val (.ref a0), .val (.long (f4_t0 w_strings_a0 x_w_ones_a0_0 x_w_ones_a0_1)), .second, .val (.ref w_ones_a0), .val (.int (3 : Int32)), .val (.int (2 : Int32)), .val (.long x_w_ones_a0_1), .second] [(.int (2 : Int32)), (.ref w_ones_a0)])) rfl rfl (hb hby d4_24) _ k) ?_
  refine go (B := T10.setTop (mkF m 27 #[.val (.ref a0), .val (.long (f4_t0 w_strings_a0 x_w_ones_a0_0 x_w_ones_a0_1)), .second, .val (.ref w_ones_a0), .val (.int (3 : Int32)), .val (.int (2 : Int32)), .val (.long x_w_ones_a0_2), .second] [])) (fun _ k => XS.lstore X10.here hx rfl (hb hby d4_25) rfl (l' := #[.val (.ref a0), .val (.long (f4_t0 w_strings_a0 x_w_ones_a0_0 x_w_ones_a0_1)), .second, .val (.ref w_ones_a0), .val (.int (3 : Int32)), .val (.int (2 : Int32)), .val (.long x_w_ones_a0_2), .second]) rfl k) ?_
  refine go (B := T10.setTop (mkF m 28 #[.val (.ref a0), .val (.long (f4_t0 w_strings_a0 x_w_ones_a0_0 x_w_ones_a0_1)), .second, .val (.ref w_ones_a0), .val (.int (3 : Int32)), .val (.int (2 : Int32)), .val (.long x_w_ones_a0_2), .second] [(.long (f4_t0 w_strings_a0 x_w_ones_a0_0 x_w_ones_a0_1))])) (fun _ k => XS.lloadN X10.here hx rfl (hb hby d4_27) rfl k) ?_
  refine go (B := T10.setTop (mkF m 30 #[.val (.ref a0), .val (.long (f4_t0 w_strings_a0 x_w_ones_a0_0 x_w_ones_a0_1)), .second, .val (.ref w_ones_a0), .val (.int (3 : Int32)), .val (.int (2 : Int32)), .val (.long x_w_ones_a0_2), .second] [(.long x_w_ones_a0_2), (.long (f4_t0 w_strings_a0 x_w_ones_a0_0 x_w_ones_a0_1))])) (fun _ k => XS.lload X10.here hx rfl (hb hby d4_28) rfl k) ?_
  refine go (B := T10.setTop (mkF m 31 #[.val (.ref a0), .val (.long (f4_t0 w_strings_a0 x_w_ones_a0_0 x_w_ones_a0_1)), .second, .val (.ref w_ones_a0), .val (.int (3 : Int32)), .val (.int (2 : Int32)), .val (.long x_w_ones_a0_2), .second] [(.ref a0), (.long x_w_ones_a0_2), (.long (f4_t0 w_strings_a0 x_w_ones_a0_0 x_w_ones_a0_1))])) (fun _ k => XS.aloadN X10.here hx rfl (hb hby d4_30) rfl rfl k) ?_
  obtain ⟨T12, X12, e12, st12⟩ := getF X10 hx hZ hown (host := "") (Or.inl (hw _ (List.mem_of_getElem? (i := 23) rfl))) Via.refl e10 F_strings_a0 (g := (mkF m 31 #[.val (.ref a0), .val (.long (f4_t0 w_strings_a0 x_w_ones_a0_0 x_w_ones_a0_1)), .second, .val (.ref w_ones_a0), .val (.int (3 : Int32)), .val (.int (2 : Int32)), .val (.long x_w_ones_a0_2), .second] [(.ref a0), (.long x_w_ones_a0_2), (.long (f4_t0 w_strings_a0 x_w_ones_a0_0 x_w_ones_a0_1))])) rfl rfl (hb hby d4_31)
  refine go (B := T12.setTop (mkF m 34 #[.val (.ref a0), .val (.long (f4_t0 w_strings_a0 x_w_ones_a0_0 x_w_ones_a0_1)), .second, .val (.ref w_ones_a0), .val (.int (3 : Int32)), .val (.int (2 : Int32)), .val (.long x_w_ones_a0_2), .second] [(.long w_strings_a0), (.long x_w_ones_a0_2), (.long (f4_t0 w_strings_a0 x_w_ones_a0_0 x_w_ones_a0_1))])) st12 ?_
  refine go (B := T12.setTop (mkF m 36 #[.val (.ref a0), .val (.long (f4_t0 w_strings_a0 x_w_ones_a0_0 x_w_ones_a0_1)), .second, .val (.ref w_ones_a0), .val (.int (3 : Int32)), .val (.int (2 : Int32)), .val (.long x_w_ones_a0_2), .second] [(.long x_w_ones_a0_2), (.long w_strings_a0), (.long x_w_ones_a0_2), (.long (f4_t0 w_strings_a0 x_w_ones_a0_0 x_w_ones_a0_1))])) (fun _ k => XS.lload X12.here hx rfl (hb hby d4_34) rfl k) ?_
  refine go (B := T12.setTop (mkF m 37 #[.val (.ref a0), .val (.long (f4_t0 w_strings_a0 x_w_ones_a0_0 x_w_ones_a0_1)), .second, .val (.ref w_ones_a0), .val (.int (3 : Int32)), .val (.int (2 : Int32)), .val (.long x_w_ones_a0_2), .second] [(.long (w_strings_a0 - x_w_ones_a0_2)), (.long x_w_ones_a0_2), (.long (f4_t0 w_strings_a0 x_w_ones_a0_0 x_w_ones_a0_1))])) (fun _ k => XS.lsub X12.here hx rfl (hb hby d4_36) rfl k) ?_
  obtain ⟨_, _, ⟨T13, L13, k13, n13⟩, -, X13, ⟨Lc13, hQ13, l13, y13, z13⟩, st13⟩ := Jvm.LawKit.callS X12 hx (y := (⟨"java/lang/Math", "multiplyExact", "(JJ)J"⟩ : MethodName)) hown (mvT hZ (hw _ (List.mem_of_getElem? (i := 25) rfl))) (mvT hZ (hw _ (List.mem_of_getElem? (i := 26) rfl))) (mvT hZ (hw _ (List.mem_of_getElem? (i := 27) rfl))) (mvT hZ (hw _ (List.mem_of_getElem? (i := 28) rfl))) (by decide) (backOf (W := 2) (rm5 l Z aw hw [] x_w_ones_a0_2 (w_strings_a0 - x_w_ones_a0_2) h0 n0 Z0 (show (lcmpW ((((f6 x_w_ones_a0_2) ||| (f6 (w_strings_a0 - x_w_ones_a0_2))).toUInt64 >>> ((31 : Int32) &&& 0x3f).toInt64.toUInt64).toInt64) (0 : Int64)) = (0 : Int32) from own_mul hB2)) hZ (hw _ (List.mem_of_getElem? (i := 28) rfl)) (hw _ (List.mem_of_getElem? (i := 27) rfl)) (by decide) (by decide)) (g := (mkF m 37 #[.val (.ref a0), .val (.long (f4_t0 w_strings_a0 x_w_ones_a0_0 x_w_ones_a0_1)), .second, .val (.ref w_ones_a0), .val (.int (3 : Int32)), .val (.int (2 : Int32)), .val (.long x_w_ones_a0_2), .second] [(.long (w_strings_a0 - x_w_ones_a0_2)), (.long x_w_ones_a0_2), (.long (f4_t0 w_strings_a0 x_w_ones_a0_0 x_w_ones_a0_1))])) rfl (by rw [hml]; rfl) (argsL := [(.long x_w_ones_a0_2), (.long (w_strings_a0 - x_w_ones_a0_2))]) (rest := [(.long (f4_t0 w_strings_a0 x_w_ones_a0_0 x_w_ones_a0_1))]) (lenOf pd_1 rfl) rfl (by show 2 * 0 + _ ≤ _; exact Nat.le_of_eq rfl) (hb hby d4_37) (fun _ _ => ⟨rfl, e12, (by decide : 0 + 0 ≤ _), (by decide : 0 + 0 ≤ _)⟩)
  dsimp only [Pt.U, Pt.locs, Pt.cells, Pt.slots] at X13 l13 y13 z13 st13 hQ13
  subst l13 y13 z13
  obtain ⟨rfl, rfl, e13⟩ := hQ13
  refine go (B := T13.setTop (mkF m 40 #[.val (.ref a0), .val (.long (f4_t0 w_strings_a0 x_w_ones_a0_0 x_w_ones_a0_1)), .second, .val (.ref w_ones_a0), .val (.int (3 : Int32)), .val (.int (2 : Int32)), .val (.long x_w_ones_a0_2), .second] [(.long (f5 x_w_ones_a0_2 (w_strings_a0 - x_w_ones_a0_2))), (.long (f4_t0 w_strings_a0 x_w_ones_a0_0 x_w_ones_a0_1))])) (fun _ k => st13 _ k) ?_
  obtain ⟨_, _, ⟨T14, L14, k14, n14⟩, -, X14, ⟨Lc14, hQ14, l14, y14, z14⟩, st14⟩ := Jvm.LawKit.callS X13 hx (y := (⟨"java/lang/Math", "addExact", "(JJ)J"⟩ : MethodName)) hown (mvT hZ (hw _ (List.mem_of_getElem? (i := 32) rfl))) (mvT hZ (hw _ (List.mem_of_getElem? (i := 33) rfl))) (mvT hZ (hw _ (List.mem_of_getElem? (i := 27) rfl))) (mvT hZ (hw _ (List.mem_of_getElem? (i := 34) rfl))) (by decide) (backOf (W := 0) (rm7 l Z aw hw [] (f4_t0 w_strings_a0 x_w_ones_a0_0 x_w_ones_a0_1) (f5 x_w_ones_a0_2 (w_strings_a0 - x_w_ones_a0_2)) h0 n0 Z0 (show ¬ ((lcmpW (((f4_t0 w_strings_a0 x_w_ones_a0_0 x_w_ones_a0_1) ^^^ ((f4_t0 w_strings_a0 x_w_ones_a0_0 x_w_ones_a0_1) + (f5 x_w_ones_a0_2 (w_strings_a0 - x_w_ones_a0_2)))) &&& ((f5 x_w_ones_a0_2 (w_strings_a0 - x_w_ones_a0_2)) ^^^ ((f4_t0 w_strings_a0 x_w_ones_a0_0 x_w_ones_a0_1) + (f5 x_w_ones_a0_2 (w_strings_a0 - x_w_ones_a0_2))))) (0 : Int64)) < (0 : Int32)) from own_sum2 hB0 hB1 hB2)) hZ (hw _ (List.mem_of_getElem? (i := 34) rfl)) (hw _ (List.mem_of_getElem? (i := 27) rfl)) (by decide) (by decide)) (g := (mkF m 40 #[.val (.ref a0), .val (.long (f4_t0 w_strings_a0 x_w_ones_a0_0 x_w_ones_a0_1)), .second, .val (.ref w_ones_a0), .val (.int (3 : Int32)), .val (.int (2 : Int32)), .val (.long x_w_ones_a0_2), .second] [(.long (f5 x_w_ones_a0_2 (w_strings_a0 - x_w_ones_a0_2))), (.long (f4_t0 w_strings_a0 x_w_ones_a0_0 x_w_ones_a0_1))])) rfl (by rw [hml]; rfl) (argsL := [(.long (f4_t0 w_strings_a0 x_w_ones_a0_0 x_w_ones_a0_1)), (.long (f5 x_w_ones_a0_2 (w_strings_a0 - x_w_ones_a0_2)))]) (rest := []) (lenOf pd_1 rfl) rfl (by show 2 * 0 + _ ≤ _; exact Nat.le_of_eq rfl) (hb hby d4_40) (fun _ _ => ⟨rfl, e13, (by decide : 0 + 0 ≤ _), (by decide : 0 + 0 ≤ _)⟩)
  dsimp only [Pt.U, Pt.locs, Pt.cells, Pt.slots] at X14 l14 y14 z14 st14 hQ14
  subst l14 y14 z14
  obtain ⟨rfl, rfl, e14⟩ := hQ14
  refine go (B := T14.setTop (mkF m 43 #[.val (.ref a0), .val (.long (f4_t0 w_strings_a0 x_w_ones_a0_0 x_w_ones_a0_1)), .second, .val (.ref w_ones_a0), .val (.int (3 : Int32)), .val (.int (2 : Int32)), .val (.long x_w_ones_a0_2), .second] [(.long (f4_t1 w_strings_a0 x_w_ones_a0_0 x_w_ones_a0_1 x_w_ones_a0_2))])) (fun _ k => st14 _ k) ?_
  refine go (B := T14.setTop (mkF m 44 #[.val (.ref a0), .val (.long (f4_t1 w_strings_a0 x_w_ones_a0_0 x_w_ones_a0_1 x_w_ones_a0_2)), .second, .val (.ref w_ones_a0), .val (.int (3 : Int32)), .val (.int (2 : Int32)), .val (.long x_w_ones_a0_2), .second] [])) (fun _ k => XS.lstoreN X14.here hx rfl (hb hby d4_43) rfl (l' := #[.val (.ref a0), .val (.long (f4_t1 w_strings_a0 x_w_ones_a0_0 x_w_ones_a0_1 x_w_ones_a0_2)), .second, .val (.ref w_ones_a0), .val (.int (3 : Int32)), .val (.int (2 : Int32)), .val (.long x_w_ones_a0_2), .second]) rfl k) ?_
  refine go (B := T14.setTop (mkF m 47 #[.val (.ref a0), .val (.long (f4_t1 w_strings_a0 x_w_ones_a0_0 x_w_ones_a0_1 x_w_ones_a0_2)), .second, .val (.ref w_ones_a0), .val (.int (3 : Int32)), .val (.int (3 : Int32)), .val (.long x_w_ones_a0_2), .second] [])) (fun _ k => XS.iinc X14.here hx rfl (hb hby d4_44) rfl (l' := #[.val (.ref a0), .val (.long (f4_t1 w_strings_a0 x_w_ones_a0_0 x_w_ones_a0_1 x_w_ones_a0_2)), .second, .val (.ref w_ones_a0), .val (.int (3 : Int32)), .val (.int (3 : Int32)), .val (.long x_w_ones_a0_2), .second]) rfl k) ?_
  refine go (B := T14.setTop (mkF m 14 #[.val (.ref a0), .val (.long (f4_t1 w_strings_a0 x_w_ones_a0_0 x_w_ones_a0_1 x_w_ones_a0_2)), .second, .val (.ref w_ones_a0), .val (.int (3 : Int32)), .val (.int (3 : Int32)), .val (.long x_w_ones_a0_2), .second] [])) (fun _ k => XS.goto X14.here hx rfl (pc0 := 47) (pc' := 14) rfl (hb hby d4_47) (by decide) (by decide) k) ?_
  refine go (B := T14.setTop (mkF m 16 #[.val (.ref a0), .val (.long (f4_t1 w_strings_a0 x_w_ones_a0_0 x_w_ones_a0_1 x_w_ones_a0_2)), .second, .val (.ref w_ones_a0), .val (.int (3 : Int32)), .val (.int (3 : Int32)), .val (.long x_w_ones_a0_2), .second] [(.int (3 : Int32))])) (fun _ k => XS.iload X14.here hx rfl (hb hby d4_14) rfl k) ?_
  refine go (B := T14.setTop (mkF m 18 #[.val (.ref a0), .val (.long (f4_t1 w_strings_a0 x_w_ones_a0_0 x_w_ones_a0_1 x_w_ones_a0_2)), .second, .val (.ref w_ones_a0), .val (.int (3 : Int32)), .val (.int (3 : Int32)), .val (.long x_w_ones_a0_2), .second] [(.int (3 : Int32)), (.int (3 : Int32))])) (fun _ k => XS.iload X14.here hx rfl (hb hby d4_16) rfl k) ?_
  refine go (B := T14.setTop (mkF m 50 #[.val (.ref a0), .val (.long (f4_t1 w_strings_a0 x_w_ones_a0_0 x_w_ones_a0_1 x_w_ones_a0_2)), .second, .val (.ref w_ones_a0), .val (.int (3 : Int32)), .val (.int (3 : Int32)), .val (.long x_w_ones_a0_2), .second] [])) (fun _ k => XS.icmpYes X14.here hx rfl (pc0 := 18) (pc' := 50) rfl (hb hby d4_18) rfl (flt (by decide : ¬ ((3 : Int32) < (3 : Int32)))).2.1 (by decide) (by decide) k) ?_
  refine go (B := T14.setTop (mkF m 51 #[.val (.ref a0), .val (.long (f4_t1 w_strings_a0 x_w_ones_a0_0 x_w_ones_a0_1 x_w_ones_a0_2)), .second, .val (.ref w_ones_a0), .val (.int (3 : Int32)), .val (.int (3 : Int32)), .val (.long x_w_ones_a0_2), .second] [(.long (f4_t1 w_strings_a0 x_w_ones_a0_0 x_w_ones_a0_1 x_w_ones_a0_2))])) (fun _ k => XS.lloadN X14.here hx rfl (hb hby d4_50) rfl k) ?_
  have r15 : (f4 w_strings_a0 x_w_ones_a0_0 x_w_ones_a0_1 x_w_ones_a0_2) = (f4_t1 w_strings_a0 x_w_ones_a0_0 x_w_ones_a0_1 x_w_ones_a0_2) := by unfold f4; rfl
  exact end_long X14 hx Bd.notSynchronized Bd.returns (hb hby d4_51) hF e14 (by decide) (by decide) ⟨(congrArg (fun z => some (Value.long z)) r15.symm), rfl, rfl⟩
theorem d8_0 : decode prog_12_method_2_code 0 = .ok (.iconst 0, 1) := by decide +kernel
theorem d8_1 : decode prog_12_method_2_code 1 = .ok (.istore_n 2, 1) := by decide +kernel
theorem d8_2 : decode prog_12_method_2_code 2 = .ok (.iload_n 2, 1) := by decide +kernel
theorem d8_3 : decode prog_12_method_2_code 3 = .ok (.aload_n 0, 1) := by decide +kernel
theorem d8_4 : decode prog_12_method_2_code 4 = .ok (.getfield 7, 3) := by decide +kernel
theorem d8_7 : decode prog_12_method_2_code 7 = .ok (.arraylength, 1) := by decide +kernel
theorem d8_8 : decode prog_12_method_2_code 8 = .ok (.if_icmp .ge 29, 3) := by decide +kernel
theorem d8_11 : decode prog_12_method_2_code 11 = .ok (.aload_n 0, 1) := by decide +kernel
theorem d8_12 : decode prog_12_method_2_code 12 = .ok (.getfield 7, 3) := by decide +kernel
theorem d8_15 : decode prog_12_method_2_code 15 = .ok (.iload_n 2, 1) := by decide +kernel
theorem d8_16 : decode prog_12_method_2_code 16 = .ok (.dup2, 1) := by decide +kernel
theorem d8_17 : decode prog_12_method_2_code 17 = .ok (.laload, 1) := by decide +kernel
theorem d8_18 : decode prog_12_method_2_code 18 = .ok (.aload_n 1, 1) := by decide +kernel
theorem d8_19 : decode prog_12_method_2_code 19 = .ok (.iload_n 2, 1) := by decide +kernel
theorem d8_20 : decode prog_12_method_2_code 20 = .ok (.baload, 1) := by decide +kernel
theorem d8_21 : decode prog_12_method_2_code 21 = .ok (.ifCond .eq 7, 3) := by decide +kernel
theorem d8_24 : decode prog_12_method_2_code 24 = .ok (.lconst 1, 1) := by decide +kernel
theorem d8_25 : decode prog_12_method_2_code 25 = .ok (.goto 4, 3) := by decide +kernel
theorem d8_28 : decode prog_12_method_2_code 28 = .ok (.lconst 0, 1) := by decide +kernel
theorem d8_29 : decode prog_12_method_2_code 29 = .ok (.ladd, 1) := by decide +kernel
theorem d8_30 : decode prog_12_method_2_code 30 = .ok (.lastore, 1) := by decide +kernel
theorem d8_31 : decode prog_12_method_2_code 31 = .ok (.iinc 2 1, 3) := by decide +kernel
theorem d8_34 : decode prog_12_method_2_code 34 = .ok (.goto (-32), 3) := by decide +kernel
theorem d8_37 : decode prog_12_method_2_code 37 = .ok (.aload_n 0, 1) := by decide +kernel
theorem d8_38 : decode prog_12_method_2_code 38 = .ok (.dup, 1) := by decide +kernel
theorem d8_39 : decode prog_12_method_2_code 39 = .ok (.getfield 13, 3) := by decide +kernel
theorem d8_42 : decode prog_12_method_2_code 42 = .ok (.lconst 1, 1) := by decide +kernel
theorem d8_43 : decode prog_12_method_2_code 43 = .ok (.ladd, 1) := by decide +kernel
theorem d8_44 : decode prog_12_method_2_code 44 = .ok (.putfield 13, 3) := by decide +kernel
theorem d8_47 : decode prog_12_method_2_code 47 = .ok (.return_, 1) := by decide +kernel
theorem ef_8 (m : MethodId) (a0 : Addr) (a1 : Addr) : entryFrame m #[(.ref a0), (.ref a1)] 3 = mkF m 0 #[.val (.ref a0), .val (.ref a1), .unset] [] := by first | (simp [entryFrame, mkF, argsToLocals, Value.category]; done) | rfl
def f8_z0 (x_a1_0 : Int32) : Int64 := if x_a1_0 = (0 : Int32) then (0 : Int64) else (1 : Int64)
def f8_z1 (x_a1_1 : Int32) : Int64 := if x_a1_1 = (0 : Int32) then (0 : Int64) else (1 : Int64)
def f8_z2 (x_a1_2 : Int32) : Int64 := if x_a1_2 = (0 : Int32) then (0 : Int64) else (1 : Int64)
abbrev room8 : Room := { frames := 0, cells := 0, slots := 0, locals := 0 }
def Q8 (Z : State) (a0 : Addr) (a1 : Addr) (w_ones_a0 : Addr) (w_strings_a0 : Int64) (k_w_ones_a0 : ClassId) (x_w_ones_a0_0 : Int64) (x_w_ones_a0_1 : Int64) (x_w_ones_a0_2 : Int64) (k_a1 : ClassId) (x_a1_0 : Int32) (x_a1_1 : Int32) (x_a1_2 : Int32) (h0 : Heap) (n0 : Nat) (v : Option Value) (h : Heap) (L : List Loc) : Prop := v = none ∧ Fr n0 L ∧ Keep h0 h [a0, w_ones_a0] ∧ Fld Z h a0 "com/example/antipode/antipode/problem/HammingDiversity" "ones" "[J" (.ref w_ones_a0) ∧ Exa Z h a0 "com/example/antipode/antipode/problem/HammingDiversity" ∧ Fld Z h a0 "com/example/antipode/antipode/problem/HammingDiversity" "strings" "J" (.long (w_strings_a0 + (1 : Int64))) ∧ Arv Z h w_ones_a0 k_w_ones_a0 .long (3 : Int32) [(.long (x_w_ones_a0_0 + (f8_z0 x_a1_0))), (.long (x_w_ones_a0_1 + (f8_z1 x_a1_1))), (.long (x_w_ones_a0_2 + (f8_z2 x_a1_2)))] (.long (0 : Int64))
set_option maxRecDepth 65536 in
set_option maxHeartbeats 40000000 in
theorem rm8 (l : Launch) (Z : State) (aw : Array Value) (hw : ∀ d ∈ tables_1, d.before aw Z = true) (ws : List Jvm.Cond) (a0 : Addr) (a1 : Addr) (w_ones_a0 : Addr) (w_strings_a0 : Int64) (k_w_ones_a0 : ClassId) (x_w_ones_a0_0 : Int64) (x_w_ones_a0_1 : Int64) (x_w_ones_a0_2 : Int64) (k_a1 : ClassId) (x_a1_0 : Int32) (x_a1_1 : Int32) (x_a1_2 : Int32) (h0 : Heap) (n0 : Nat) (Z0 : n0 ≤ h0.size) (F_ones_a0 : Fld Z h0 a0 "com/example/antipode/antipode/problem/HammingDiversity" "ones" "[J" (.ref w_ones_a0)) (F_strings_a0 : Fld Z h0 a0 "com/example/antipode/antipode/problem/HammingDiversity" "strings" "J" (.long w_strings_a0)) (E_a0 : Exa Z h0 a0 "com/example/antipode/antipode/problem/HammingDiversity") (V_w_ones_a0 : Arv Z h0 w_ones_a0 k_w_ones_a0 .long (3 : Int32) [(.long x_w_ones_a0_0), (.long x_w_ones_a0_1), (.long x_w_ones_a0_2)] (.long (0 : Int64))) (V_a1 : Arv Z h0 a1 k_a1 .boolean (3 : Int32) [(.int x_a1_0), (.int x_a1_1), (.int x_a1_2)] (.int (0 : Int32))) (ne_w_ones_a0_a0 : w_ones_a0 ≠ a0) (ne_w_ones_a0_a1 : w_ones_a0 ≠ a1) (ne_a0_a1 : a0 ≠ a1) (g_w_ones_a0 : n0 ≤ w_ones_a0) (g_a0 : n0 ≤ a0) :
    MetFree l (⟨"com/example/antipode/antipode/problem/HammingDiversity", "add", "([Z)V"⟩ : MethodName) (head1 (Jvm.Cond.code (⟨"com/example/antipode/antipode/problem/HammingDiversity", "add", "([Z)V"⟩ : MethodName) prog_12_method_2_code 3 none :: ws) room8) (fun a U => a = #[(.ref a0), (.ref a1)] ∧ Z.Warmed39 U.vm ∧ U.heap = h0) (fun _ _ _ _ _ => True) (fun _ U o U' => ∃ v L, o = .returned v ∧ Q8 Z a0 a1 w_ones_a0 w_strings_a0 k_w_ones_a0 x_w_ones_a0_0 x_w_ones_a0_1 x_w_ones_a0_2 k_a1 x_a1_0 x_a1_1 x_a1_2 h0 n0 v U'.heap L ∧ FrameEnd U o U' L room8.cells room8.slots) := by
  refine MetFree.of_bodySF (plainFor_of_name pn_2) hisR ?_
  intro p e s m args below meth c s₁ Bd hml0 hP hK
  obtain ⟨rfl, hZ, hh⟩ := hP
  have hx := Bd.exec
  have hby := Bd.bytes
  have hml : c.maxLocals = 3 := hml0
  have hown : s.vm.findClass "com/example/antipode/antipode/problem/HammingDiversity" = some m.cls := findClass_of_methodNamed Bd.named
  have hnm := (name_of_methodNamed Bd.named Bd.method).1
  have X0 : Stand p l e room8 s m #[(.ref a0), (.ref a1)] below meth c s₁ [] 0 0 := Stand.of_body Bd
  have e0 : s₁.heap = h0 := by rw [← hh, Bd.state]; rfl
  have N0 := Fr.nil n0
  have K0 := Keep.refl h0 [a0, w_ones_a0]
  rw [ef_8 m a0 a1]
  refine go_in (s₁ := s₁) (Q := Q8 Z a0 a1 w_ones_a0 w_strings_a0 k_w_ones_a0 x_w_ones_a0_0 x_w_ones_a0_1 x_w_ones_a0_2 k_a1 x_a1_0 x_a1_1 x_a1_2 h0 n0) fun F hF => ?_
  refine go (B := s₁.setTop (mkF m 1 #[.val (.ref a0), .val (.ref a1), .unset] [(.int (0 : Int32))])) (fun _ k => XS.iconst X0.here hx rfl (hb hby d8_0) k) ?_
  refine go (B := s₁.setTop (mkF m 2 #[.val (.ref a0), .val (.ref a1), .val (.int (0 : Int32))] [])) (fun _ k => XS.istoreN X0.here hx rfl (hb hby d8_1) rfl (l' := #[.val (.ref a0), .val (.ref a1), .val (.int (0 : Int32))]) rfl k) ?_
  refine go (B := s₁.setTop (mkF m 3 #[.val (.ref a0), .val (.ref a1), .val (.int (0 : Int32))] [(.int (0 : Int32))])) (fun _ k => XS.iloadN X0.here hx rfl (hb hby d8_2) rfl k) ?_
  refine go (B := s₁.setTop (mkF m 4 #[.val (.ref a0), .val (.ref a1), .val (.int (0 : Int32))] [(.ref a0), (.int (0 : Int32))])) (fun _ k => XS.aloadN X0.here hx rfl (hb hby d8_3) rfl rfl k) ?_
  obtain ⟨T1, X1, e1, st1⟩ := getF X0 hx hZ hown (host := "") (Or.inl (hw _ (List.mem_of_getElem? (i := 16) rfl))) Via.refl e0 F_ones_a0 (g := (mkF m 4 #[.val (.ref a0), .val (.ref a1), .val (.int (0 : Int32))] [(.ref a0), (.int (0 : Int32))])) rfl rfl (hb hby d8_4)
  refine go (B := T1.setTop (mkF m 7 #[.val (.ref a0), .val (.ref a1), .val (.int (0 : Int32))] [(.ref w_ones_a0), (.int (0 : Int32))])) st1 ?_
  obtain ⟨cl2, Ar2, qa2, Sa2, Na2, Ha2, Ga2⟩ := id V_w_ones_a0
  refine go (B := T1.setTop (mkF m 8 #[.val (.ref a0), .val (.ref a1), .val (.int (0 : Int32))] [(.int (3 : Int32)), (.int (0 : Int32))])) (fun _ k => X1.arraylength hx (by rw [e1]; exact Ar2.1) (State.isArrayOf_alike hZ.alike Ar2.2.1) (g := (mkF m 7 #[.val (.ref a0), .val (.ref a1), .val (.int (0 : Int32))] [(.ref w_ones_a0), (.int (0 : Int32))])) rfl rfl (hb hby d8_7) _ (by rw [len_of Sa2 Na2]; exact k)) ?_
  refine go (B := T1.setTop (mkF m 11 #[.val (.ref a0), .val (.ref a1), .val (.int (0 : Int32))] [])) (fun _ k => XS.icmpNo X1.here hx rfl (hb hby d8_8) rfl (tlt (by decide : (0 : Int32) < (3 : Int32))).2.1 k) ?_
  refine go (B := T1.setTop (mkF m 12 #[.val (.ref a0), .val (.ref a1), .val (.int (0 : Int32))] [(.ref a0)])) (fun _ k => XS.aloadN X1.here hx rfl (hb hby d8_11) rfl rfl k) ?_
  obtain ⟨T3, X3, e3, st3⟩ := getF X1 hx hZ hown (host := "") (Or.inl (hw _ (List.mem_of_getElem? (i := 16) rfl))) Via.refl e1 F_ones_a0 (g := (mkF m 12 #[.val (.ref a0), .val (.ref a1), .val (.int (0 : Int32))] [(.ref a0)])) rfl rfl (hb hby d8_12)
  refine go (B := T3.setTop (mkF m 15 #[.val (.ref a0), .val (.ref a1), .val (.int (0 : Int32))] [(.ref w_ones_a0)])) st3 ?_
  refine go (B := T3.setTop (mkF m 16 #[.val (.ref a0), .val (.ref a1), .val (.int (0 : Int32))] [(.int (0 : Int32)), (.ref w_ones_a0)])) (fun _ k => XS.iloadN X3.here hx rfl (hb hby d8_15) rfl k) ?_
  refine go (B := T3.setTop (mkF m 17 #[.val (.ref a0), .val (.ref a1), .val (.int (0 : Int32))] [(.int (0 : Int32)), (.ref w_ones_a0), (.int (0 : Int32)), (.ref w_ones_a0)])) (fun _ k => Jvm.Free.XT.dup2 X3.here hx rfl (hb hby d8_16) rfl rfl rfl k) ?_
  obtain ⟨cl4, Ar4, qa4, Sa4, Na4, Ha4, Ga4⟩ := id V_w_ones_a0
  have hin4 : ¬ ((0 : Int32) < 0 ∨ cl4.slots.size ≤ ((0 : Int32)).toNatClampNeg) := inb_of Sa4 ⟨by decide, by decide⟩
  have hat4 : cl4.slots[((0 : Int32)).toNatClampNeg]? = some (.long x_w_ones_a0_0) := Has.at Ha4 hin4 rfl
  refine go (B := T3.setTop (mkF m 18 #[.val (.ref a0), .val (.ref a1), .val (.int (0 : Int32))] [(.long x_w_ones_a0_0), (.int (0 : Int32)), (.ref w_ones_a0)])) (fun _ k => X3.laload hx (j := (0 : Int32)) (v := (.long x_w_ones_a0_0)) (by rw [e3]; exact Ar4.1) (State.isArrayOf_alike hZ.alike Ar4.2.1) Ar4.2.2 hin4 hat4 (g := (mkF m 17 #[.val (.ref a0), .val (.ref a1), .val (.int (0 : Int32))] [(.int (0 : Int32)), (.ref w_ones_a0), (.int (0 : Int32)), (.ref w_ones_a0)])) rfl rfl (hb hby d8_17) _ k) ?_
  refine go (B := T3.setTop (mkF m 19 #[.val (.ref a0), .val (.ref a1), .val (.int (0 : Int32))] [(.ref a1), (.long x_w_ones_a0_0), (.int (0 : Int32)), (.ref w_ones_a0)])) (fun _ k => XS.aloadN X3.here hx rfl (hb hby d8_18) rfl rfl k) ?_
  refine go (B := T3.setTop (mkF m 20 #[.val (.ref a0), .val (.ref a1), .val (.int (0 : Int32))] [(.int (0 : Int32)), (.ref a1), (.long x_w_ones_a0_0), (.int (0 : Int32)), (.ref w_ones_a0)])) (fun _ k => XS.iloadN X3.here hx rfl (hb hby d8_19) rfl k) ?_
  obtain ⟨cl5, Ar5, qa5, Sa5, Na5, Ha5, Ga5⟩ := id V_a1
  have hin5 : ¬ ((0 : Int32) < 0 ∨ cl5.slots.size ≤ ((0 : Int32)).toNatClampNeg) := inb_of Sa5 ⟨by decide, by decide⟩
  have hat5 : cl5.slots[((0 : Int32)).toNatClampNeg]? = some (.int x_a1_0) := Has.at Ha5 hin5 rfl
  refine go (B := T3.setTop (mkF m 21 #[.val (.ref a0), .val (.ref a1), .val (.int (0 : Int32))] [(.int x_a1_0), (.long x_w_ones_a0_0), (.int (0 : Int32)), (.ref w_ones_a0)])) (fun _ k => X3.baloadBooleans hx (j := (0 : Int32)) (v := (.int x_a1_0)) (by rw [e3]; exact Ar5.1) (State.isArrayOf_alike hZ.alike Ar5.2.1) Ar5.2.2 hin5 hat5 (g := (mkF m 20 #[.val (.ref a0), .val (.ref a1), .val (.int (0 : Int32))] [(.int (0 : Int32)), (.ref a1), (.long x_w_ones_a0_0), (.int (0 : Int32)), (.ref w_ones_a0)])) rfl rfl (hb hby d8_20) _ k) ?_
  suffices Kj6 : ∀ (T6 : State) (L6 : List Loc), Stand p l e room8 s m #[(.ref a0), (.ref a1)] below meth c T6 L6 0 0 → Fr n0 L6 → T6.heap = h0 → Go p.tables e below F (T6.setTop (mkF m 29 #[.val (.ref a0), .val (.ref a1), .val (.int (0 : Int32))] [(.long (f8_z0 x_a1_0)), (.long x_w_ones_a0_0), (.int (0 : Int32)), (.ref w_ones_a0)])) by
    by_cases hc7 : x_a1_0 = (0 : Int32)
    · refine go (B := T3.setTop (mkF m 28 #[.val (.ref a0), .val (.ref a1), .val (.int (0 : Int32))] [(.long x_w_ones_a0_0), (.int (0 : Int32)), (.ref w_ones_a0)])) (fun _ k => XS.ifYes X3.here hx rfl (pc0 := 21) (pc' := 28) rfl (hb hby d8_21) rfl ((if0 _ _).trans (teq hc7).1) (by decide) (by decide) k) ?_
      refine go (B := T3.setTop (mkF m 29 #[.val (.ref a0), .val (.ref a1), .val (.int (0 : Int32))] [(.long (0 : Int64)), (.long x_w_ones_a0_0), (.int (0 : Int32)), (.ref w_ones_a0)])) (fun _ k => XS.lconst X3.here hx rfl (hb hby d8_28) k) ?_
      rw [show (f8_z0 x_a1_0) = (0 : Int64) from by unfold f8_z0; rw [if_pos hc7]] at Kj6
      exact Kj6 _ _ X3 N0 e3
    · refine go (B := T3.setTop (mkF m 24 #[.val (.ref a0), .val (.ref a1), .val (.int (0 : Int32))] [(.long x_w_ones_a0_0), (.int (0 : Int32)), (.ref w_ones_a0)])) (fun _ k => XS.ifNo X3.here hx rfl (hb hby d8_21) rfl ((if0 _ _).trans (feq hc7).1) k) ?_
      refine go (B := T3.setTop (mkF m 25 #[.val (.ref a0), .val (.ref a1), .val (.int (0 : Int32))] [(.long (1 : Int64)), (.long x_w_ones_a0_0), (.int (0 : Int32)), (.ref w_ones_a0)])) (fun _ k => XS.lconst X3.here hx rfl (hb hby d8_24) k) ?_
      refine go (B := T3.setTop (mkF m 29 #[.val (.ref a0), .val (.ref a1), .val (.int (0 : Int32))] [(.long (1 : Int64)), (.long x_w_ones_a0_0), (.int (0 : Int32)), (.ref w_ones_a0)])) (fun _ k => XS.goto X3.here hx rfl (pc0 := 25) (pc' := 29) rfl (hb hby d8_25) (by decide) (by decide) k) ?_
      rw [show (f8_z0 x_a1_0) = (1 : Int64) from by unfold f8_z0; rw [if_neg hc7]] at Kj6
      exact Kj6 _ _ X3 N0 e3
  intro T6 L6 X6 N6 e6
  refine go (B := T6.setTop (mkF m 30 #[.val (.ref a0), .val (.ref a1), .val (.int (0 : Int32))] [(.long (x_w_ones_a0_0 + (f8_z0 x_a1_0))), (.int (0 : Int32)), (.ref w_ones_a0)])) (fun _ k => XS.ladd X6.here hx rfl (hb hby d8_29) rfl k) ?_
  obtain ⟨cl8, Ar8, qa8, Sa8, Na8, Ha8, Ga8⟩ := id V_w_ones_a0
  have hin8 : ¬ ((0 : Int32) < 0 ∨ cl8.slots.size ≤ ((0 : Int32)).toNatClampNeg) := inb_of Sa8 ⟨by decide, by decide⟩
  obtain ⟨T8, h8, X8, e8, W8, st8⟩ := stJ X6 hx hZ e6 Ar8 (j := (0 : Int32)) hin8 (g := (mkF m 30 #[.val (.ref a0), .val (.ref a1), .val (.int (0 : Int32))] [(.long (x_w_ones_a0_0 + (f8_z0 x_a1_0))), (.int (0 : Int32)), (.ref w_ones_a0)])) rfl rfl (hb hby d8_30)
  have F_ones_a0_8 := Fld.other W8 F_ones_a0 (Or.inl (Ne.symm ne_w_ones_a0_a0))
  have F_strings_a0_8 := Fld.other W8 F_strings_a0 (Or.inl (Ne.symm ne_w_ones_a0_a0))
  have E_a0_8 := E_a0.wr W8
  have V_a1_8 := V_a1.other W8 (Ne.symm ne_w_ones_a0_a1)
  have Z8 := Nat.le_trans Z0 (Keep.of_wr W8).1
  have K8 := K0.wr W8 (Or.inl (List.mem_of_getElem? (i := 1) rfl))
  have N8 := Fr.snoc X8 N6 g_w_ones_a0
  have V_w_ones_a0_8 : Arv Z h8 w_ones_a0 k_w_ones_a0 .long (3 : Int32) [(.long (x_w_ones_a0_0 + (f8_z0 x_a1_0))), (.long x_w_ones_a0_1), (.long x_w_ones_a0_2)] (.long (0 : Int64)) := Arv.set Ar8 qa8 Sa8 Na8 Ha8 Ga8 rfl W8 0 rfl (Nat.le_of_ble_eq_true rfl)
  refine go (B := T8.setTop (mkF m 31 #[.val (.ref a0), .val (.ref a1), .val (.int (0 : Int32))] [])) st8 ?_
  refine go (B := T8.setTop (mkF m 34 #[.val (.ref a0), .val (.ref a1), .val (.int (1 : Int32))] [])) (fun _ k => XS.iinc X8.here hx rfl (hb hby d8_31) rfl (l' := #[.val (.ref a0), .val (.ref a1), .val (.int (1 : Int32))]) rfl k) ?_
  refine go (B := T8.setTop (mkF m 2 #[.val (.ref a0), .val (.ref a1), .val (.int (1 : Int32))] [])) (fun _ k => XS.goto X8.here hx rfl (pc0 := 34) (pc' := 2) rfl (hb hby d8_34) (by decide) (by decide) k) ?_
  refine go (B := T8.setTop (mkF m 3 #[.val (.ref a0), .val (.ref a1), .val (.int (1 : Int32))] [(.int (1 : Int32))])) (fun _ k => XS.iloadN X8.here hx rfl (hb hby d8_2) rfl k) ?_
  refine go (B := T8.setTop (mkF m 4 #[.val (.ref a0), .val (.ref a1), .val (.int (1 : Int32))] [(.ref a0), (.int (1 : Int32))])) (fun _ k => XS.aloadN X8.here hx rfl (hb hby d8_3) rfl rfl k) ?_
  obtain ⟨T9, X9, e9, st9⟩ := getF X8 hx hZ hown (host := "") (Or.inl (hw _ (List.mem_of_getElem? (i := 16) rfl))) Via.refl e8 F_ones_a0_8 (g := (mkF m 4 #[.val (.ref a0), .val (.ref a1), .val (.int (1 : Int32))] [(.ref a0), (.int (1 : Int32))])) rfl rfl (hb hby d8_4)
  refine go (B := T9.setTop (mkF m 7 #[.val (.ref a0), .val (.ref a1), .val (.int (1 : Int32))] [(.ref w_ones_a0), (.int (1 : Int32))])) st9 ?_
  obtain ⟨cl10, Ar10, qa10, Sa10, Na10, Ha10, Ga10⟩ := id V_w_ones_a0_8
  refine go (B := T9.setTop (mkF m 8 #[.val (.ref a0), .val (.ref a1), .val (.int (1 : Int32))] [(.int (3 : Int32)), (.int (1 : Int32))])) (fun _ k => X9.arraylength hx (by rw [e9]; exact Ar10.1) (State.isArrayOf_alike hZ.alike Ar10.2.1) (g := (mkF m 7 #[.val (.ref a0), .val (.ref a1), .val (.int (1 : Int32))] [(.ref w_ones_a0), (.int (1 : Int32))])) rfl rfl (hb hby d8_7) _ (by rw [len_of Sa10 Na10]; exact k)) ?_
  refine go (B := T9.setTop (mkF m 11 #[.val (.ref a0), .val (.ref a1), .val (.int (1 : Int32))] [])) (fun _ k => XS.icmpNo X9.here hx rfl (hb hby d8_8) rfl (tlt (by decide : (1 : Int32) < (3 : Int32))).2.1 k) ?_
  refine go (B := T9.setTop (mkF m 12 #[.val (.ref a0), .val (.ref a1), .val (.int (1 : Int32))] [(.ref a0)])) (fun _ k => XS.aloadN X9.here hx rfl (hb hby d8_11) rfl rfl k) ?_
  obtain ⟨T11, X11, e11, st11⟩ := getF X9 hx hZ hown (host := "") (Or.inl (hw _ (List.mem_of_getElem? (i := 16) rfl))) Via.refl e9 F_ones_a0_8 (g := (mkF m 12 #[.val (.ref a0), .val (.ref a1), .val (.int (1 : Int32))] [(.ref a0)])) rfl rfl (hb hby d8_12)
  refine go (B := T11.setTop (mkF m 15 #[.val (.ref a0), .val (.ref a1), .val (.int (1 : Int32))] [(.ref w_ones_a0)])) st11 ?_
  refine go (B := T11.setTop (mkF m 16 #[.val (.ref a0), .val (.ref a1), .val (.int (1 : Int32))] [(.int (1 : Int32)), (.ref w_ones_a0)])) (fun _ k => XS.iloadN X11.here hx rfl (hb hby d8_15) rfl k) ?_
  refine go (B := T11.setTop (mkF m 17 #[.val (.ref a0), .val (.ref a1), .val (.int (1 : Int32))] [(.int (1 : Int32)), (.ref w_ones_a0), (.int (1 : Int32)), (.ref w_ones_a0)])) (fun _ k => Jvm.Free.XT.dup2 X11.here hx rfl (hb hby d8_16) rfl rfl rfl k) ?_
  obtain ⟨cl12, Ar12, qa12, Sa12, Na12, Ha12, Ga12⟩ := id V_w_ones_a0_8
  have hin12 : ¬ ((1 : Int32) < 0 ∨ cl12.slots.size ≤ ((1 : Int32)).toNatClampNeg) := inb_of Sa12 ⟨by decide, by decide⟩
  have hat12 : cl12.slots[((1 : Int32)).toNatClampNeg]? = some (.long x_w_ones_a0_1) := Has.at Ha12 hin12 rfl
  refine go (B := T11.setTop (mkF m 18 #[.val (.ref a0), .val (.ref a1), .val (.int (1 : Int32))] [(.long x_w_ones_a0_1), (.int (1 : Int32)), (.ref w_ones_a0)])) (fun _ k => X11.laload hx (j := (1 : Int32)) (v := (.long x_w_ones_a0_1)) (by rw [e11]; exact Ar12.1) (State.isArrayOf_alike hZ.alike Ar12.2.1) Ar12.2.2 hin12 hat12 (g := (mkF m 17 #[.val (.ref a0), .val (.ref a1), .val (.int (1 : Int32))] [(.int (1 : Int32)), (.ref w_ones_a0), (.int (1 : Int32)), (.ref w_ones_a0)])) rfl rfl (hb hby d8_17) _ k) ?_
  refine go (B := T11.setTop (mkF m 19 #[.val (.ref a0), .val (.ref a1), .val (.int (1 : Int32))] [(.ref a1), (.long x_w_ones_a0_1), (.int (1 : Int32)), (.ref w_ones_a0)])) (fun _ k => XS.aloadN X11.here hx rfl (hb hby d8_18) rfl rfl k) ?_
  refine go (B := T11.setTop (mkF m 20 #[.val (.ref a0), .val (.ref a1), .val (.int (1 : Int32))] [(.int (1 : Int32)), (.ref a1), (.long x_w_ones_a0_1), (.int (1 : Int32)), (.ref w_ones_a0)])) (fun _ k => XS.iloadN X11.here hx rfl (hb hby d8_19) rfl k) ?_
  obtain ⟨cl13, Ar13, qa13, Sa13, Na13, Ha13, Ga13⟩ := id V_a1_8
  have hin13 : ¬ ((1 : Int32) < 0 ∨ cl13.slots.size ≤ ((1 : Int32)).toNatClampNeg) := inb_of Sa13 ⟨by decide, by decide⟩
  have hat13 : cl13.slots[((1 : Int32)).toNatClampNeg]? = some (.int x_a1_1) := Has.at Ha13 hin13 rfl
  refine go (B := T11.setTop (mkF m 21 #[.val (.ref a0), .val (.ref a1), .val (.int (1 : Int32))] [(.int x_a1_1), (.long x_w_ones_a0_1), (.int (1 : Int32)), (.ref w_ones_a0)])) (fun _ k => X11.baloadBooleans hx (j := (1 : Int32)) (v := (.int x_a1_1)) (by rw [e11]; exact Ar13.1) (State.isArrayOf_alike hZ.alike Ar13.2.1) Ar13.2.2 hin13 hat13 (g := (mkF m 20 #[.val (.ref a0), .val (.ref a1), .val (.int (1 : Int32))] [(.int (1 : Int32)), (.ref a1), (.long x_w_ones_a0_1), (.int (1 : Int32)), (.ref w_ones_a0)])) rfl rfl (hb hby d8_20) _ k) ?_
  suffices Kj14 : ∀ (T14 : State) (L14 : List Loc), Stand p l e room8 s m #[(.ref a0), (.ref a1)] below meth c T14 L14 0 0 → Fr n0 L14 → T14.heap = h8 → Go p.tables e below F (T14.setTop (mkF m 29 #[.val (.ref a0), .val (.ref a1), .val (.int (1 : Int32))] [(.long (f8_z1 x_a1_1)), (.long x_w_ones_a0_1), (.int (1 : Int32)), (.ref w_ones_a0)])) by
    by_cases hc15 : x_a1_1 = (0 : Int32)
    · refine go (B := T11.setTop (mkF m 28 #[.val (.ref a0), .val (.ref a1), .val (.int (1 : Int32))] [(.long x_w_ones_a0_1), (.int (1 : Int32)), (.ref w_ones_a0)])) (fun _ k => XS.ifYes X11.here hx rfl (pc0 := 21) (pc' := 28) rfl (hb hby d8_21) rfl ((if0 _ _).trans (teq hc15).1) (by decide) (by decide) k) ?_
      refine go (B := T11.setTop (mkF m 29 #[.val (.ref a0), .val (.ref a1), .val (.int (1 : Int32))] [(.long (0 : Int64)), (.long x_w_ones_a0_1), (.int (1 : Int32)), (.ref w_ones_a0)])) (fun _ k => XS.lconst X11.here hx rfl (hb hby d8_28) k) ?_
      rw [show (f8_z1 x_a1_1) = (0 : Int64) from by unfold f8_z1; rw [if_pos hc15]] at Kj14
      exact Kj14 _ _ X11 N8 e11
    · refine go (B := T11.setTop (mkF m 24 #[.val (.ref a0), .val (.ref a1), .val (.int (1 : Int32))] [(.long x_w_ones_a0_1), (.int (1 : Int32)), (.ref w_ones_a0)])) (fun _ k => XS.ifNo X11.here hx rfl (hb hby d8_21) rfl ((if0 _ _).trans (feq hc15).1) k) ?_
      refine go (B := T11.setTop (mkF m 25 #[.val (.ref a0), .val (.ref a1), .val (.int (1 : Int32))] [(.long (1 : Int64)), (.long x_w_ones_a0_1), (.int (1 : Int32)), (.ref w_ones_a0)])) (fun _ k => XS.lconst X11.here hx rfl (hb hby d8_24) k) ?_
      refine go (B := T11.setTop (mkF m 29 #[.val (.ref a0), .val (.ref a1), .val (.int (1 : Int32))] [(.long (1 : Int64)), (.long x_w_ones_a0_1), (.int (1 : Int32)), (.ref w_ones_a0)])) (fun _ k => XS.goto X11.here hx rfl (pc0 := 25) (pc' := 29) rfl (hb hby d8_25) (by decide) (by decide) k) ?_
      rw [show (f8_z1 x_a1_1) = (1 : Int64) from by unfold f8_z1; rw [if_neg hc15]] at Kj14
      exact Kj14 _ _ X11 N8 e11
  intro T14 L14 X14 N14 e14
  refine go (B := T14.setTop (mkF m 30 #[.val (.ref a0), .val (.ref a1), .val (.int (1 : Int32))] [(.long (x_w_ones_a0_1 + (f8_z1 x_a1_1))), (.int (1 : Int32)), (.ref w_ones_a0)])) (fun _ k => XS.ladd X14.here hx rfl (hb hby d8_29) rfl k) ?_
  obtain ⟨cl16, Ar16, qa16, Sa16, Na16, Ha16, Ga16⟩ := id V_w_ones_a0_8
  have hin16 : ¬ ((1 : Int32) < 0 ∨ cl16.slots.size ≤ ((1 : Int32)).toNatClampNeg) := inb_of Sa16 ⟨by decide, by decide⟩
  obtain ⟨T16, h16, X16, e16, W16, st16⟩ := stJ X14 hx hZ e14 Ar16 (j := (1 : Int32)) hin16 (g := (mkF m 30 #[.val (.ref a0), .val (.ref a1), .val (.int (1 : Int32))] [(.long (x_w_ones_a0_1 + (f8_z1 x_a1_1))), (.int (1 : Int32)), (.ref w_ones_a0)])) rfl rfl (hb hby d8_30)
  have F_ones_a0_16 := Fld.other W16 F_ones_a0_8 (Or.inl (Ne.symm ne_w_ones_a0_a0))
  have F_strings_a0_16 := Fld.other W16 F_strings_a0_8 (Or.inl (Ne.symm ne_w_ones_a0_a0))
  have E_a0_16 := E_a0_8.wr W16
  have V_a1_16 := V_a1_8.other W16 (Ne.symm ne_w_ones_a0_a1)
  have Z16 := Nat.le_trans Z8 (Keep.of_wr W16).1
  have K16 := K8.wr W16 (Or.inl (List.mem_of_getElem? (i := 1) rfl))
  have N16 := Fr.snoc X16 N14 g_w_ones_a0
  have V_w_ones_a0_16 : Arv Z h16 w_ones_a0 k_w_ones_a0 .long (3 : Int32) [(.long (x_w_ones_a0_0 + (f8_z0 x_a1_0))), (.long (x_w_ones_a0_1 + (f8_z1 x_a1_1))), (.long x_w_ones_a0_2)] (.long (0 : Int64)) := Arv.set Ar16 qa16 Sa16 Na16 Ha16 Ga16 rfl W16 1 rfl (Nat.le_of_ble_eq_true rfl)
  refine go (B := T16.setTop (mkF m 31 #[.val (.ref a0), .val (.ref a1), .val (.int (1 : Int32))] [])) st16 ?_
  refine go (B := T16.setTop (mkF m 34 #[.val (.ref a0), .val (.ref a1), .val (.int (2 : Int32))] [])) (fun _ k => XS.iinc X16.here hx rfl (hb hby d8_31) rfl (l' := #[.val (.ref a0), .val (.ref a1), .val (.int (2 : Int32))]) rfl k) ?_
  refine go (B := T16.setTop (mkF m 2 #[.val (.ref a0), .val (.ref a1), .val (.int (2 : Int32))] [])) (fun _ k => XS.goto X16.here hx rfl (pc0 := 34) (pc' := 2) rfl (hb hby d8_34) (by decide) (by decide) k) ?_
  refine go (B := T16.setTop (mkF m 3 #[.val (.ref a0), .val (.ref a1), .val (.int (2 : Int32))] [(.int (2 : Int32))])) (fun _ k => XS.iloadN X16.here hx rfl (hb hby d8_2) rfl k) ?_
  refine go (B := T16.setTop (mkF m 4 #[.val (.ref a0), .val (.ref a1), .val (.int (2 : Int32))] [(.ref a0), (.int (2 : Int32))])) (fun _ k => XS.aloadN X16.here hx rfl (hb hby d8_3) rfl rfl k) ?_
  obtain ⟨T17, X17, e17, st17⟩ := getF X16 hx hZ hown (host := "") (Or.inl (hw _ (List.mem_of_getElem? (i := 16) rfl))) Via.refl e16 F_ones_a0_16 (g := (mkF m 4 #[.val (.ref a0), .val (.ref a1), .val (.int (2 : Int32))] [(.ref a0), (.int (2 : Int32))])) rfl rfl (hb hby d8_4)
  refine go (B := T17.setTop (mkF m 7 #[.val (.ref a0), .val (.ref a1), .val (.int (2 : Int32))] [(.ref w_ones_a0), (.int (2 : Int32))])) st17 ?_
  obtain ⟨cl18, Ar18, qa18, Sa18, Na18, Ha18, Ga18⟩ := id V_w_ones_a0_16
  refine go (B := T17.setTop (mkF m 8 #[.val (.ref a0), .val (.ref a1), .val (.int (2 : Int32))] [(.int (3 : Int32)), (.int (2 : Int32))])) (fun _ k => X17.arraylength hx (by rw [e17]; exact Ar18.1) (State.isArrayOf_alike hZ.alike Ar18.2.1) (g := (mkF m 7 #[.val (.ref a0), .val (.ref a1), .val (.int (2 : Int32))] [(.ref w_ones_a0), (.int (2 : Int32))])) rfl rfl (hb hby d8_7) _ (by rw [len_of Sa18 Na18]; exact k)) ?_
  refine go (B := T17.setTop (mkF m 11 #[.val (.ref a0), .val (.ref a1), .val (.int (2 : Int32))] [])) (fun _ k => XS.icmpNo X17.here hx rfl (hb hby d8_8) rfl (tlt (by decide : (2 : Int32) < (3 : Int32))).2.1 k) ?_
  refine go (B := T17.setTop (mkF m 12 #[.val (.ref a0), .val (.ref a1), .val (.int (2 : Int32))] [(.ref a0)])) (fun _ k => XS.aloadN X17.here hx rfl (hb hby d8_11) rfl rfl k) ?_
  obtain ⟨T19, X19, e19, st19⟩ := getF X17 hx hZ hown (host := "") (Or.inl (hw _ (List.mem_of_getElem? (i := 16) rfl))) Via.refl e17 F_ones_a0_16 (g := (mkF m 12 #[.val (.ref a0), .val (.ref a1), .val (.int (2 : Int32))] [(.ref a0)])) rfl rfl (hb hby d8_12)
  refine go (B := T19.setTop (mkF m 15 #[.val (.ref a0), .val (.ref a1), .val (.int (2 : Int32))] [(.ref w_ones_a0)])) st19 ?_
  refine go (B := T19.setTop (mkF m 16 #[.val (.ref a0), .val (.ref a1), .val (.int (2 : Int32))] [(.int (2 : Int32)), (.ref w_ones_a0)])) (fun _ k => XS.iloadN X19.here hx rfl (hb hby d8_15) rfl k) ?_
  refine go (B := T19.setTop (mkF m 17 #[.val (.ref a0), .val (.ref a1), .val (.int (2 : Int32))] [(.int (2 : Int32)), (.ref w_ones_a0), (.int (2 : Int32)), (.ref w_ones_a0)])) (fun _ k => Jvm.Free.XT.dup2 X19.here hx rfl (hb hby d8_16) rfl rfl rfl k) ?_
  obtain ⟨cl20, Ar20, qa20, Sa20, Na20, Ha20, Ga20⟩ := id V_w_ones_a0_16
  have hin20 : ¬ ((2 : Int32) < 0 ∨ cl20.slots.size ≤ ((2 : Int32)).toNatClampNeg) := inb_of Sa20 ⟨by decide, by decide⟩
  have hat20 : cl20.slots[((2 : Int32)).toNatClampNeg]? = some (.long x_w_ones_a0_2) := Has.at Ha20 hin20 rfl
  refine go (B := T19.setTop (mkF m 18 #[.val (.ref a0), .val (.ref a1), .val (.int (2 : Int32))] [(.long x_w_ones_a0_2), (.int (2 : Int32)), (.ref w_ones_a0)])) (fun _ k => X19.laload hx (j := (2 : Int32)) (v := (.long x_w_ones_a0_2)) (by rw [e19]; exact Ar20.1) (State.isArrayOf_alike hZ.alike Ar20.2.1) Ar20.2.2 hin20 hat20 (g := (mkF m 17 #[.val (.ref a0), .val (.ref a1), .val (.int (2 : Int32))] [(.int (2 : Int32)), (.ref w_ones_a0), (.int (2 : Int32)), (.ref w_ones_a0)])) rfl rfl (hb hby d8_17) _ k) ?_
  refine go (B := T19.setTop (mkF m 19 #[.val (.ref a0), .val (.ref a1), .val (.int (2 : Int32))] [(.ref a1), (.long x_w_ones_a0_2), (.int (2 : Int32)), (.ref w_ones_a0)])) (fun _ k => XS.aloadN X19.here hx rfl (hb hby d8_18) rfl rfl k) ?_
  refine go (B := T19.setTop (mkF m 20 #[.val (.ref a0), .val (.ref a1), .val (.int (2 : Int32))] [(.int (2 : Int32)), (.ref a1), (.long x_w_ones_a0_2), (.int (2 : Int32)), (.ref w_ones_a0)])) (fun _ k => XS.iloadN X19.here hx rfl (hb hby d8_19) rfl k) ?_
  obtain ⟨cl21, Ar21, qa21, Sa21, Na21, Ha21, Ga21⟩ := id V_a1_16
  have hin21 : ¬ ((2 : Int32) < 0 ∨ cl21.slots.size ≤ ((2 : Int32)).toNatClampNeg) := inb_of Sa21 ⟨by decide, by decide⟩
  have hat21 : cl21.slots[((2 : Int32)).toNatClampNeg]? = some (.int x_a1_2) := Has.at Ha21 hin21 rfl
  refine go (B := T19.setTop (mkF m 21 #[.val (.ref a0), .val (.ref a1), .val (.int (2 : Int32))] [(.int x_a1_2), (.long x_w_ones_a0_2), (.int (2 : Int32)), (.ref w_ones_a0)])) (fun _ k => X19.baloadBooleans hx (j := (2 : Int32)) (v := (.int x_a1_2)) (by rw [e19]; exact Ar21.1) (State.isArrayOf_alike hZ.alike Ar21.2.1) Ar21.2.2 hin21 hat21 (g := (mkF m 20 #[.val (.ref a0), .val (.ref a1), .val (.int (2 : Int32))] [(.int (2 : Int32)), (.ref a1), (.long x_w_ones_a0_2), (.int (2 : Int32)), (.ref w_ones_a0)])) rfl rfl (hb hby d8_20) _ k) ?_
  suffices Kj22 : ∀ (T22 : State) (L22 : List Loc), Stand p l e room8 s m #[(.ref a0), (.ref a1)] below meth c T22 L22 0 0 → Fr n0 L22 → T22.heap = h16 → Go p.tables e below F (T22.setTop (mkF m 29 #[.val (.ref a0), .val (.ref a1), .val (.int (2 : Int32))] [(.long (f8_z2 x_a1_2)), (.long x_w_ones_a0_2), (.int (2 : Int32)), (.ref w_ones_a0)])) by
    by_cases hc23 : x_a1_2 = (0 : Int32)
    · refine go (B := T19.setTop (mkF m 28 #[.val (.ref a0), .val (.ref a1), .val (.int (2 : Int32))] [(.long x_w_ones_a0_2), (.int (2 : Int32)), (.ref w_ones_a0)])) (fun _ k => XS.ifYes X19.here hx rfl (pc0 := 21) (pc' := 28) rfl (hb hby d8_21) rfl ((if0 _ _).trans (teq hc23).1) (by decide) (by decide) k) ?_
      refine go (B := T19.setTop (mkF m 29 #[.val (.ref a0), .val (.ref a1), .val (.int (2 : Int32))] [(.long (0 : Int64)), (.long x_w_ones_a0_2), (.int (2 : Int32)), (.ref w_ones_a0)])) (fun _ k => XS.lconst X19.here hx rfl (hb hby d8_28) k) ?_
      rw [show (f8_z2 x_a1_2) = (0 : Int64) from by unfold f8_z2; rw [if_pos hc23]] at Kj22
      exact Kj22 _ _ X19 N16 e19
    · refine go (B := T19.setTop (mkF m 24 #[.val (.ref a0), .val (.ref a1), .val (.int (2 : Int32))] [(.long x_w_ones_a0_2), (.int (2 : Int32)), (.ref w_ones_a0)])) (fun _ k => XS.ifNo X19.here hx rfl (hb hby d8_21) rfl ((if0 _ _).trans (feq hc23).1) k) ?_
      refine go (B := T19.setTop (mkF m 25 #[.val (.ref a0), .val (.ref a1), .val (.int (2 : Int32))] [(.long (1 : Int64)), (.long x_w_ones_a0_2), (.int (2 : Int32)), (.ref w_ones_a0)])) (fun _ k => XS.lconst X19.here hx rfl (hb hby d8_24) k) ?_
      refine go (B := T19.setTop (mkF m 29 #[.val (.ref a0), .val (.ref a1), .val (.int (2 : Int32))] [(.long (1 : Int64)), (.long x_w_ones_a0_2), (.int (2 : Int32)), (.ref w_ones_a0)])) (fun _ k => XS.goto X19.here hx rfl (pc0 := 25) (pc' := 29) rfl (hb hby d8_25) (by decide) (by decide) k) ?_
      rw [show (f8_z2 x_a1_2) = (1 : Int64) from by unfold f8_z2; rw [if_neg hc23]] at Kj22
      exact Kj22 _ _ X19 N16 e19
  intro T22 L22 X22 N22 e22
  refine go (B := T22.setTop (mkF m 30 #[.val (.ref a0), .val (.ref a1), .val (.int (2 : Int32))] [(.long (x_w_ones_a0_2 + (f8_z2 x_a1_2))), (.int (2 : Int32)), (.ref w_ones_a0)])) (fun _ k => XS.ladd X22.here hx rfl (hb hby d8_29) rfl k) ?_
  obtain ⟨cl24, Ar24, qa24, Sa24, Na24, Ha24, Ga24⟩ := id V_w_ones_a0_16
  have hin24 : ¬ ((2 : Int32) < 0 ∨ cl24.slots.size ≤ ((2 : Int32)).toNatClampNeg) := inb_of Sa24 ⟨by decide, by decide⟩
  obtain ⟨T24, h24, X24, e24, W24, st24⟩ := stJ X22 hx hZ e22 Ar24 (j := (2 : Int32)) hin24 (g := (mkF m 30 #[.val (.ref a0), .val (.ref a1), .val (.int (2 : Int32))] [(.long (x_w_ones_a0_2 + (f8_z2 x_a1_2))), (.int (2 : Int32)), (.ref w_ones_a0)])) rfl rfl (hb hby d8_30)
  have F_ones_a0_24 := Fld.other W24 F_ones_a0_16 (Or.inl (Ne.symm ne_w_ones_a0_a0))
  have F_strings_a0_24 := Fld.other W24 F_strings_a0_16 (Or.inl (Ne.symm ne_w_ones_a0_a0))
  have E_a0_24 := E_a0_16.wr W24
  have V_a1_24 := V_a1_16.other W24 (Ne.symm ne_w_ones_a0_a1)
  have Z24 := Nat.le_trans Z16 (Keep.of_wr W24).1
  have K24 := K16.wr W24 (Or.inl (List.mem_of_getElem? (i := 1) rfl))
  have N24 := Fr.snoc X24 N22 g_w_ones_a0
  have V_w_ones_a0_24 : Arv Z h24 w_ones_a0 k_w_ones_a0 .long (3 : Int32) [(.long (x_w_ones_a0_0 + (f8_z0 x_a1_0))), (.long (x_w_ones_a0_1 + (f8_z1 x_a1_1))), (.long (x_w_ones_a0_2 + (f8_z2 x_a1_2)))] (.long (0 : Int64)) := Arv.set Ar24 qa24 Sa24 Na24 Ha24 Ga24 rfl W24 2 rfl (Nat.le_of_ble_eq_true rfl)
  refine go (B := T24.setTop (mkF m 31 #[.val (.ref a0), .val (.ref a1), .val (.int (2 : Int32))] [])) st24 ?_
  refine go (B := T24.setTop (mkF m 34 #[.val (.ref a0), .val (.ref a1), .val (.int (3 : Int32))] [])) (fun _ k => XS.iinc X24.here hx rfl (hb hby d8_31) rfl (l' := #[.val (.ref a0), .val (.ref a1), .val (.int (3 : Int32))]) rfl k) ?_
  refine go (B := T24.setTop (mkF m 2 #[.val (.ref a0), .val (.ref a1), .val (.int (3 : Int32))] [])) (fun _ k => XS.goto X24.here hx rfl (pc0 := 34) (pc' := 2) rfl (hb hby d8_34) (by decide) (by decide) k) ?_
  refine go (B := T24.setTop (mkF m 3 #[.val (.ref a0), .val (.ref a1), .val (.int (3 : Int32))] [(.int (3 : Int32))])) (fun _ k => XS.iloadN X24.here hx rfl (hb hby d8_2) rfl k) ?_
  refine go (B := T24.setTop (mkF m 4 #[.val (.ref a0), .val (.ref a1), .val (.int (3 : Int32))] [(.ref a0), (.int (3 : Int32))])) (fun _ k => XS.aloadN X24.here hx rfl (hb hby d8_3) rfl rfl k) ?_
  obtain ⟨T25, X25, e25, st25⟩ := getF X24 hx hZ hown (host := "") (Or.inl (hw _ (List.mem_of_getElem? (i := 16) rfl))) Via.refl e24 F_ones_a0_24 (g := (mkF m 4 #[.val (.ref a0), .val (.ref a1), .val (.int (3 : Int32))] [(.ref a0), (.int (3 : Int32))])) rfl rfl (hb hby d8_4)
  refine go (B := T25.setTop (mkF m 7 #[.val (.ref a0), .val (.ref a1), .val (.int (3 : Int32))] [(.ref w_ones_a0), (.int (3 : Int32))])) st25 ?_
  obtain ⟨cl26, Ar26, qa26, Sa26, Na26, Ha26, Ga26⟩ := id V_w_ones_a0_24
  refine go (B := T25.setTop (mkF m 8 #[.val (.ref a0), .val (.ref a1), .val (.int (3 : Int32))] [(.int (3 : Int32)), (.int (3 : Int32))])) (fun _ k => X25.arraylength hx (by rw [e25]; exact Ar26.1) (State.isArrayOf_alike hZ.alike Ar26.2.1) (g := (mkF m 7 #[.val (.ref a0), .val (.ref a1), .val (.int (3 : Int32))] [(.ref w_ones_a0), (.int (3 : Int32))])) rfl rfl (hb hby d8_7) _ (by rw [len_of Sa26 Na26]; exact k)) ?_
  refine go (B := T25.setTop (mkF m 37 #[.val (.ref a0), .val (.ref a1), .val (.int (3 : Int32))] [])) (fun _ k => XS.icmpYes X25.here hx rfl (pc0 := 8) (pc' := 37) rfl (hb hby d8_8) rfl (flt (by decide : ¬ ((3 : Int32) < (3 : Int32)))).2.1 (by decide) (by decide) k) ?_
  refine go (B := T25.setTop (mkF m 38 #[.val (.ref a0), .val (.ref a1), .val (.int (3 : Int32))] [(.ref a0)])) (fun _ k => XS.aloadN X25.here hx rfl (hb hby d8_37) rfl rfl k) ?_
  refine go (B := T25.setTop (mkF m 39 #[.val (.ref a0), .val (.ref a1), .val (.int (3 : Int32))] [(.ref a0), (.ref a0)])) (fun _ k => XS.dup X25.here hx rfl (hb hby d8_38) rfl rfl k) ?_
  obtain ⟨T27, X27, e27, st27⟩ := getF X25 hx hZ hown (host := "") (Or.inl (hw _ (List.mem_of_getElem? (i := 23) rfl))) Via.refl e25 F_strings_a0_24 (g := (mkF m 39 #[.val (.ref a0), .val (.ref a1), .val (.int (3 : Int32))] [(.ref a0), (.ref a0)])) rfl rfl (hb hby d8_39)
  refine go (B := T27.setTop (mkF m 42 #[.val (.ref a0), .val (.ref a1), .val (.int (3 : Int32))] [(.long w_strings_a0), (.ref a0)])) st27 ?_
  refine go (B := T27.setTop (mkF m 43 #[.val (.ref a0), .val (.ref a1), .val (.int (3 : Int32))] [(.long (1 : Int64)), (.long w_strings_a0), (.ref a0)])) (fun _ k => XS.lconst X27.here hx rfl (hb hby d8_42) k) ?_
  refine go (B := T27.setTop (mkF m 44 #[.val (.ref a0), .val (.ref a1), .val (.int (3 : Int32))] [(.long (w_strings_a0 + (1 : Int64))), (.ref a0)])) (fun _ k => XS.ladd X27.here hx rfl (hb hby d8_43) rfl k) ?_
  obtain ⟨T28, h28, X28, e28, W28, st28⟩ := putF X27 hx hZ hown (host := "") (Or.inl (hw _ (List.mem_of_getElem? (i := 23) rfl))) Via.refl e27 F_strings_a0_24 E_a0_24 (Or.inl (hw _ (List.mem_of_getElem? (i := 24) rfl))) (hw _ (List.mem_of_getElem? (i := 7) rfl)) (ty := .long) (by decide) rfl rfl (g := (mkF m 44 #[.val (.ref a0), .val (.ref a1), .val (.int (3 : Int32))] [(.long (w_strings_a0 + (1 : Int64))), (.ref a0)])) rfl rfl (hb hby d8_44)
  have F_ones_a0_28 := Fld.other W28 F_ones_a0_24 (Or.inr (slot_ne (Or.inr (hw _ (List.mem_of_getElem? (i := 17) rfl))) (Or.inl (hw _ (List.mem_of_getElem? (i := 24) rfl))) (by decide) (t := (.array .long)) (t' := .long) (by decide) (by decide)))
  have E_a0_28 := E_a0_24.wr W28
  have V_a1_28 := V_a1_24.other W28 (Ne.symm ne_a0_a1)
  have V_w_ones_a0_28 := V_w_ones_a0_24.other W28 ne_w_ones_a0_a0
  have F_strings_a0_28 := Fld.same W28 F_strings_a0_24
  have Z28 := Nat.le_trans Z24 (Keep.of_wr W28).1
  have K28 := K24.wr W28 (Or.inl (List.mem_of_getElem? (i := 0) rfl))
  have N28 := Fr.snoc X28 N24 g_a0
  refine go (B := T28.setTop (mkF m 47 #[.val (.ref a0), .val (.ref a1), .val (.int (3 : Int32))] [])) st28 ?_
  exact end_void X28 hx Bd.notSynchronized Bd.returns (hb hby d8_47) hF e28 (by decide) (by decide) ⟨rfl, N28, K28, F_ones_a0_28, E_a0_28, F_strings_a0_28, V_w_ones_a0_28⟩
theorem d10_0 : decode method_3_code 0 = .ok (.iload_n 0, 1) := by decide +kernel
theorem d10_1 : decode method_3_code 1 = .ok (.iconst 1, 1) := by decide +kernel
theorem d10_2 : decode method_3_code 2 = .ok (.iand, 1) := by decide +kernel
theorem d10_3 : decode method_3_code 3 = .ok (.iload_n 0, 1) := by decide +kernel
theorem d10_4 : decode method_3_code 4 = .ok (.iconst 1, 1) := by decide +kernel
theorem d10_5 : decode method_3_code 5 = .ok (.ishr, 1) := by decide +kernel
theorem d10_6 : decode method_3_code 6 = .ok (.iconst 1, 1) := by decide +kernel
theorem d10_7 : decode method_3_code 7 = .ok (.iand, 1) := by decide +kernel
theorem d10_8 : decode method_3_code 8 = .ok (.iadd, 1) := by decide +kernel
theorem d10_9 : decode method_3_code 9 = .ok (.iload_n 0, 1) := by decide +kernel
theorem d10_10 : decode method_3_code 10 = .ok (.iconst 2, 1) := by decide +kernel
theorem d10_11 : decode method_3_code 11 = .ok (.ishr, 1) := by decide +kernel
theorem d10_12 : decode method_3_code 12 = .ok (.iconst 1, 1) := by decide +kernel
theorem d10_13 : decode method_3_code 13 = .ok (.iand, 1) := by decide +kernel
theorem d10_14 : decode method_3_code 14 = .ok (.iadd, 1) := by decide +kernel
theorem d10_15 : decode method_3_code 15 = .ok (.ireturn, 1) := by decide +kernel
theorem ef_10 (m : MethodId) (p0 : Int32) : entryFrame m #[(.int p0)] 1 = mkF m 0 #[.val (.int p0)] [] := by first | (simp [entryFrame, mkF, argsToLocals, Value.category]; done) | rfl
def f10_t0 (p0 : Int32) : Int32 := (((p0 &&& (1 : Int32)) + ((p0 >>> ((1 : Int32) &&& 31)) &&& (1 : Int32))) + ((p0 >>> ((2 : Int32) &&& 31)) &&& (1 : Int32)))
def f10 (p0 : Int32) : Int32 := (f10_t0 p0)
abbrev room10 : Room := { frames := 0, cells := 0, slots := 0, locals := 0 }
def Q10 (Z : State) (p0 : Int32) (h0 : Heap) (n0 : Nat) (v : Option Value) (h : Heap) (L : List Loc) : Prop := v = some (.int (f10 p0)) ∧ L = [] ∧ h = h0
set_option maxRecDepth 65536 in
set_option maxHeartbeats 40000000 in
theorem rm10 (l : Launch) (Z : State) (aw : Array Value) (hw : ∀ d ∈ tables_1, d.before aw Z = true) (ws : List Jvm.Cond) (p0 : Int32) (h0 : Heap) (n0 : Nat) (Z0 : n0 ≤ h0.size) :
    MetFree l (⟨"com/example/antipode/antipode/problem/HammingDiversityAddPinLaw", "pop3", "(I)I"⟩ : MethodName) (head1 (Jvm.Cond.code (⟨"com/example/antipode/antipode/problem/HammingDiversityAddPinLaw", "pop3", "(I)I"⟩ : MethodName) method_3_code 1 (some .int) :: ws) room10) (fun a U => a = #[(.int p0)] ∧ Z.Warmed39 U.vm ∧ U.heap = h0) (fun _ _ _ _ _ => True) (fun _ U o U' => ∃ v L, o = .returned v ∧ Q10 Z p0 h0 n0 v U'.heap L ∧ FrameEnd U o U' L room10.cells room10.slots) := by
  refine MetFree.of_bodySF (plainFor_of_name pn_1) hisR ?_
  intro p e s m args below meth c s₁ Bd hml0 hP hK
  obtain ⟨rfl, hZ, hh⟩ := hP
  have hx := Bd.exec
  have hby := Bd.bytes
  have hml : c.maxLocals = 1 := hml0
  have hown : s.vm.findClass "com/example/antipode/antipode/problem/HammingDiversityAddPinLaw" = some m.cls := findClass_of_methodNamed Bd.named
  have hnm := (name_of_methodNamed Bd.named Bd.method).1
  have X0 : Stand p l e room10 s m #[(.int p0)] below meth c s₁ [] 0 0 := Stand.of_body Bd
  have e0 : s₁.heap = h0 := by rw [← hh, Bd.state]; rfl
  have N0 := Fr.nil n0
  rw [ef_10 m p0]
  refine go_in (s₁ := s₁) (Q := Q10 Z p0 h0 n0) fun F hF => ?_
  refine go (B := s₁.setTop (mkF m 1 #[.val (.int p0)] [(.int p0)])) (fun _ k => XS.iloadN X0.here hx rfl (hb hby d10_0) rfl k) ?_
  refine go (B := s₁.setTop (mkF m 2 #[.val (.int p0)] [(.int (1 : Int32)), (.int p0)])) (fun _ k => XS.iconst X0.here hx rfl (hb hby d10_1) k) ?_
  refine go (B := s₁.setTop (mkF m 3 #[.val (.int p0)] [(.int (p0 &&& (1 : Int32)))])) (fun _ k => XS.iand X0.here hx rfl (hb hby d10_2) rfl k) ?_
  refine go (B := s₁.setTop (mkF m 4 #[.val (.int p0)] [(.int p0), (.int (p0 &&& (1 : Int32)))])) (fun _ k => XS.iloadN X0.here hx rfl (hb hby d10_3) rfl k) ?_
  refine go (B := s₁.setTop (mkF m 5 #[.val (.int p0)] [(.int (1 : Int32)), (.int p0), (.int (p0 &&& (1 : Int32)))])) (fun _ k => XS.iconst X0.here hx rfl (hb hby d10_4) k) ?_
  refine go (B := s₁.setTop (mkF m 6 #[.val (.int p0)] [(.int (p0 >>> ((1 : Int32) &&& 31))), (.int (p0 &&& (1 : Int32)))])) (fun _ k => XS.ishr X0.here hx rfl (hb hby d10_5) rfl k) ?_
  refine go (B := s₁.setTop (mkF m 7 #[.val (.int p0)] [(.int (1 : Int32)), (.int (p0 >>> ((1 : Int32) &&& 31))), (.int (p0 &&& (1 : Int32)))])) (fun _ k => XS.iconst X0.here hx rfl (hb hby d10_6) k) ?_
  refine go (B := s₁.setTop (mkF m 8 #[.val (.int p0)] [(.int ((p0 >>> ((1 : Int32) &&& 31)) &&& (1 : Int32))), (.int (p0 &&& (1 : Int32)))])) (fun _ k => XS.iand X0.here hx rfl (hb hby d10_7) rfl k) ?_
  refine go (B := s₁.setTop (mkF m 9 #[.val (.int p0)] [(.int ((p0 &&& (1 : Int32)) + ((p0 >>> ((1 : Int32) &&& 31)) &&& (1 : Int32))))])) (fun _ k => XS.iadd X0.here hx rfl (hb hby d10_8) rfl k) ?_
  refine go (B := s₁.setTop (mkF m 10 #[.val (.int p0)] [(.int p0), (.int ((p0 &&& (1 : Int32)) + ((p0 >>> ((1 : Int32) &&& 31)) &&& (1 : Int32))))])) (fun _ k => XS.iloadN X0.here hx rfl (hb hby d10_9) rfl k) ?_
  refine go (B := s₁.setTop (mkF m 11 #[.val (.int p0)] [(.int (2 : Int32)), (.int p0), (.int ((p0 &&& (1 : Int32)) + ((p0 >>> ((1 : Int32) &&& 31)) &&& (1 : Int32))))])) (fun _ k => XS.iconst X0.here hx rfl (hb hby d10_10) k) ?_
  refine go (B := s₁.setTop (mkF m 12 #[.val (.int p0)] [(.int (p0 >>> ((2 : Int32) &&& 31))), (.int ((p0 &&& (1 : Int32)) + ((p0 >>> ((1 : Int32) &&& 31)) &&& (1 : Int32))))])) (fun _ k => XS.ishr X0.here hx rfl (hb hby d10_11) rfl k) ?_
  refine go (B := s₁.setTop (mkF m 13 #[.val (.int p0)] [(.int (1 : Int32)), (.int (p0 >>> ((2 : Int32) &&& 31))), (.int ((p0 &&& (1 : Int32)) + ((p0 >>> ((1 : Int32) &&& 31)) &&& (1 : Int32))))])) (fun _ k => XS.iconst X0.here hx rfl (hb hby d10_12) k) ?_
  refine go (B := s₁.setTop (mkF m 14 #[.val (.int p0)] [(.int ((p0 >>> ((2 : Int32) &&& 31)) &&& (1 : Int32))), (.int ((p0 &&& (1 : Int32)) + ((p0 >>> ((1 : Int32) &&& 31)) &&& (1 : Int32))))])) (fun _ k => XS.iand X0.here hx rfl (hb hby d10_13) rfl k) ?_
  refine go (B := s₁.setTop (mkF m 15 #[.val (.int p0)] [(.int (f10_t0 p0))])) (fun _ k => XS.iadd X0.here hx rfl (hb hby d10_14) rfl k) ?_
  have r1 : (f10 p0) = (f10_t0 p0) := by unfold f10; rfl
  exact end_int X0 hx Bd.notSynchronized Bd.returns (hb hby d10_15) hF e0 (by decide) (by decide) ⟨(congrArg (fun z => some (Value.int z)) r1.symm), rfl, rfl⟩
theorem pd_2 : parseMethodDescriptor "(I)I" = some ⟨[.int], some .int⟩ := by decide +kernel
theorem d9_0 : decode method_4_code 0 = .ok (.iload_n 0, 1) := by decide +kernel
theorem d9_1 : decode method_4_code 1 = .ok (.iload_n 1, 1) := by decide +kernel
theorem d9_2 : decode method_4_code 2 = .ok (.ixor, 1) := by decide +kernel
theorem d9_3 : decode method_4_code 3 = .ok (.bipush 7, 2) := by decide +kernel
theorem d9_5 : decode method_4_code 5 = .ok (.iand, 1) := by decide +kernel
theorem d9_6 : decode method_4_code 6 = .ok (.invokestatic 7, 3) := by decide +kernel
theorem d9_9 : decode method_4_code 9 = .ok (.i2l, 1) := by decide +kernel
theorem d9_10 : decode method_4_code 10 = .ok (.lreturn, 1) := by decide +kernel
theorem ef_9 (m : MethodId) (p0 : Int32) (p1 : Int32) : entryFrame m #[(.int p0), (.int p1)] 2 = mkF m 0 #[.val (.int p0), .val (.int p1)] [] := by first | (simp [entryFrame, mkF, argsToLocals, Value.category]; done) | rfl
def f9 (p0 : Int32) (p1 : Int32) : Int64 := ((f10 ((p0 ^^^ p1) &&& (7 : Int32))).toInt64)
abbrev room9 : Room := { frames := 1, cells := 0, slots := 0, locals := 12 }
def Q9 (Z : State) (p0 : Int32) (p1 : Int32) (h0 : Heap) (n0 : Nat) (v : Option Value) (h : Heap) (L : List Loc) : Prop := v = some (.long (f9 p0 p1)) ∧ L = [] ∧ h = h0
set_option maxRecDepth 65536 in
set_option maxHeartbeats 40000000 in
theorem rm9 (l : Launch) (Z : State) (aw : Array Value) (hw : ∀ d ∈ tables_1, d.before aw Z = true) (ws : List Jvm.Cond) (p0 : Int32) (p1 : Int32) (h0 : Heap) (n0 : Nat) (Z0 : n0 ≤ h0.size) :
    MetFree l (⟨"com/example/antipode/antipode/problem/HammingDiversityAddPinLaw", "d", "(II)J"⟩ : MethodName) (head1 (Jvm.Cond.code (⟨"com/example/antipode/antipode/problem/HammingDiversityAddPinLaw", "d", "(II)J"⟩ : MethodName) method_4_code 2 (some .long) :: ws) room9) (fun a U => a = #[(.int p0), (.int p1)] ∧ Z.Warmed39 U.vm ∧ U.heap = h0) (fun _ _ _ _ _ => True) (fun _ U o U' => ∃ v L, o = .returned v ∧ Q9 Z p0 p1 h0 n0 v U'.heap L ∧ FrameEnd U o U' L room9.cells room9.slots) := by
  refine MetFree.of_bodySF (plainFor_of_name pn_1) hisR ?_
  intro p e s m args below meth c s₁ Bd hml0 hP hK
  obtain ⟨rfl, hZ, hh⟩ := hP
  have hx := Bd.exec
  have hby := Bd.bytes
  have hml : c.maxLocals = 2 := hml0
  have hown : s.vm.findClass "com/example/antipode/antipode/problem/HammingDiversityAddPinLaw" = some m.cls := findClass_of_methodNamed Bd.named
  have hnm := (name_of_methodNamed Bd.named Bd.method).1
  have X0 : Stand p l e room9 s m #[(.int p0), (.int p1)] below meth c s₁ [] 0 0 := Stand.of_body Bd
  have e0 : s₁.heap = h0 := by rw [← hh, Bd.state]; rfl
  have N0 := Fr.nil n0
  rw [ef_9 m p0 p1]
  refine go_in (s₁ := s₁) (Q := Q9 Z p0 p1 h0 n0) fun F hF => ?_
  refine go (B := s₁.setTop (mkF m 1 #[.val (.int p0), .val (.int p1)] [(.int p0)])) (fun _ k => XS.iloadN X0.here hx rfl (hb hby d9_0) rfl k) ?_
  refine go (B := s₁.setTop (mkF m 2 #[.val (.int p0), .val (.int p1)] [(.int p1), (.int p0)])) (fun _ k => XS.iloadN X0.here hx rfl (hb hby d9_1) rfl k) ?_
  refine go (B := s₁.setTop (mkF m 3 #[.val (.int p0), .val (.int p1)] [(.int (p0 ^^^ p1))])) (fun _ k => XS.ixor X0.here hx rfl (hb hby d9_2) rfl k) ?_
  refine go (B := s₁.setTop (mkF m 5 #[.val (.int p0), .val (.int p1)] [(.int (7 : Int32)), (.int (p0 ^^^ p1))])) (fun _ k => XS.bipush X0.here hx rfl (hb hby d9_3) k) ?_
  refine go (B := s₁.setTop (mkF m 6 #[.val (.int p0), .val (.int p1)] [(.int ((p0 ^^^ p1) &&& (7 : Int32)))])) (fun _ k => XS.iand X0.here hx rfl (hb hby d9_5) rfl k) ?_
  obtain ⟨_, _, ⟨T1, L1, k1, n1⟩, -, X1, ⟨Lc1, hQ1, l1, y1, z1⟩, st1⟩ := Jvm.LawKit.callS X0 hx (y := (⟨"com/example/antipode/antipode/problem/HammingDiversityAddPinLaw", "pop3", "(I)I"⟩ : MethodName)) hown (mvT hZ (hw _ (List.mem_of_getElem? (i := 43) rfl))) (mvT hZ (hw _ (List.mem_of_getElem? (i := 44) rfl))) (mvT hZ (hw _ (List.mem_of_getElem? (i := 3) rfl))) (mvT hZ (hw _ (List.mem_of_getElem? (i := 45) rfl))) (by decide) (backOf (W := 0) (rm10 l Z aw hw [] ((p0 ^^^ p1) &&& (7 : Int32)) h0 n0 Z0 ) hZ (hw _ (List.mem_of_getElem? (i := 45) rfl)) (hw _ (List.mem_of_getElem? (i := 3) rfl)) (by decide) (by decide)) (g := (mkF m 6 #[.val (.int p0), .val (.int p1)] [(.int ((p0 ^^^ p1) &&& (7 : Int32)))])) rfl (by rw [hml]; rfl) (argsL := [(.int ((p0 ^^^ p1) &&& (7 : Int32)))]) (rest := []) (lenOf pd_2 rfl) rfl (by show 2 * 0 + _ ≤ _; exact Nat.le_of_eq rfl) (hb hby d9_6) (fun _ _ => ⟨rfl, e0, (by decide : 0 + 0 ≤ _), (by decide : 0 + 0 ≤ _)⟩)
  dsimp only [Pt.U, Pt.locs, Pt.cells, Pt.slots] at X1 l1 y1 z1 st1 hQ1
  subst l1 y1 z1
  obtain ⟨rfl, rfl, e1⟩ := hQ1
  refine go (B := T1.setTop (mkF m 9 #[.val (.int p0), .val (.int p1)] [(.int (f10 ((p0 ^^^ p1) &&& (7 : Int32))))])) (fun _ k => st1 _ k) ?_
  refine go (B := T1.setTop (mkF m 10 #[.val (.int p0), .val (.int p1)] [(.long ((f10 ((p0 ^^^ p1) &&& (7 : Int32))).toInt64))])) (fun _ k => XS.i2l X1.here hx rfl (hb hby d9_9) rfl k) ?_
  have r2 : (f9 p0 p1) = ((f10 ((p0 ^^^ p1) &&& (7 : Int32))).toInt64) := by unfold f9; rfl
  exact end_long X1 hx Bd.notSynchronized Bd.returns (hb hby d9_10) hF e1 (by decide) (by decide) ⟨(congrArg (fun z => some (Value.long z)) r2.symm), rfl, rfl⟩
theorem pd_3 : parseMethodDescriptor "(I)[Z" = some ⟨[.int], some (.array .boolean)⟩ := by decide +kernel
theorem pd_4 : parseMethodDescriptor "(I)V" = some ⟨[.int], none⟩ := by decide +kernel
theorem pd_5 : parseMethodDescriptor "([Z)V" = some ⟨[(.array .boolean)], none⟩ := by decide +kernel
theorem pd_6 : parseMethodDescriptor "(II)J" = some ⟨[.int, .int], some .long⟩ := by decide +kernel
theorem pd_7 : parseMethodDescriptor "()J" = some ⟨[], some .long⟩ := by decide +kernel
theorem ef_0 (m : MethodId) (p0 : Int32) (p1 : Int32) : entryFrame m #[(.int p0), (.int p1)] maxLocals = mkF m 0 #[.val (.int p0), .val (.int p1), .unset, .unset, .unset, .unset, .unset, .unset, .unset, .unset, .unset, .unset, .unset, .unset] [] := by first | (simp [entryFrame, mkF, argsToLocals, Value.category, maxLocals]; done) | rfl
def f0_t0 (p0 : Int32) : Int32 := ((p0 &&& (2147483647 : Int32)) % (5 : Int32))
def f0_t1 (p1 : Int32) : Int32 := ((p1.toUInt32 >>> ((3 : Int32) &&& 31).toUInt32).toInt32)
def f0_t2 (p1 : Int32) : Int32 := ((p1.toUInt32 >>> ((6 : Int32) &&& 31).toUInt32).toInt32)
def f0_t3 (p1 : Int32) : Int32 := ((p1.toUInt32 >>> ((9 : Int32) &&& 31).toUInt32).toInt32)
def f0_t4 (p1 : Int32) : Int64 := (f9 (p1 &&& (7 : Int32)) ((f0_t1 p1) &&& (7 : Int32)))
def f0_t5 (p1 : Int32) : Int64 := (f9 (p1 &&& (7 : Int32)) ((f0_t2 p1) &&& (7 : Int32)))
def f0_t6 (p1 : Int32) : Int64 := (f9 ((f0_t1 p1) &&& (7 : Int32)) ((f0_t2 p1) &&& (7 : Int32)))
def f0_t7 (p1 : Int32) : Int64 := (((0 : Int64) + (f0_t4 p1)) + ((f0_t5 p1) + (f0_t6 p1)))
def f0_t8 (p1 : Int32) : Int64 := (f9 (p1 &&& (7 : Int32)) ((f0_t3 p1) &&& (7 : Int32)))
def f0_t9 (p1 : Int32) : Int64 := (f9 ((f0_t1 p1) &&& (7 : Int32)) ((f0_t3 p1) &&& (7 : Int32)))
def f0_t10 (p1 : Int32) : Int64 := (f9 ((f0_t2 p1) &&& (7 : Int32)) ((f0_t3 p1) &&& (7 : Int32)))
def f0_t11 (p1 : Int32) : Int64 := (((f0_t8 p1) + (f0_t9 p1)) + (f0_t10 p1))
def f0_t12 (p1 : Int32) : Int64 := (f4 (((((0 : Int64) + (1 : Int64)) + (1 : Int64)) + (1 : Int64)) + (1 : Int64)) (((((0 : Int64) + (f8_z0 (nar .boolean (f1_z0 (p1 &&& (7 : Int32)))))) + (f8_z0 (nar .boolean (f1_z0 ((f0_t1 p1) &&& (7 : Int32)))))) + (f8_z0 (nar .boolean (f1_z0 ((f0_t2 p1) &&& (7 : Int32)))))) + (f8_z0 (nar .boolean (f1_z0 ((f0_t3 p1) &&& (7 : Int32)))))) (((((0 : Int64) + (f8_z1 (nar .boolean (f1_z1 (p1 &&& (7 : Int32)))))) + (f8_z1 (nar .boolean (f1_z1 ((f0_t1 p1) &&& (7 : Int32)))))) + (f8_z1 (nar .boolean (f1_z1 ((f0_t2 p1) &&& (7 : Int32)))))) + (f8_z1 (nar .boolean (f1_z1 ((f0_t3 p1) &&& (7 : Int32)))))) (((((0 : Int64) + (f8_z2 (nar .boolean (f1_z2 (p1 &&& (7 : Int32)))))) + (f8_z2 (nar .boolean (f1_z2 ((f0_t1 p1) &&& (7 : Int32)))))) + (f8_z2 (nar .boolean (f1_z2 ((f0_t2 p1) &&& (7 : Int32)))))) + (f8_z2 (nar .boolean (f1_z2 ((f0_t3 p1) &&& (7 : Int32)))))))
def f0_t13 (p1 : Int32) : Int64 := (f4 ((((0 : Int64) + (1 : Int64)) + (1 : Int64)) + (1 : Int64)) ((((0 : Int64) + (f8_z0 (nar .boolean (f1_z0 (p1 &&& (7 : Int32)))))) + (f8_z0 (nar .boolean (f1_z0 ((f0_t1 p1) &&& (7 : Int32)))))) + (f8_z0 (nar .boolean (f1_z0 ((f0_t2 p1) &&& (7 : Int32)))))) ((((0 : Int64) + (f8_z1 (nar .boolean (f1_z1 (p1 &&& (7 : Int32)))))) + (f8_z1 (nar .boolean (f1_z1 ((f0_t1 p1) &&& (7 : Int32)))))) + (f8_z1 (nar .boolean (f1_z1 ((f0_t2 p1) &&& (7 : Int32)))))) ((((0 : Int64) + (f8_z2 (nar .boolean (f1_z2 (p1 &&& (7 : Int32)))))) + (f8_z2 (nar .boolean (f1_z2 ((f0_t1 p1) &&& (7 : Int32)))))) + (f8_z2 (nar .boolean (f1_z2 ((f0_t2 p1) &&& (7 : Int32)))))))
def f0_t14 (p1 : Int32) : Int64 := (f4 (((0 : Int64) + (1 : Int64)) + (1 : Int64)) (((0 : Int64) + (f8_z0 (nar .boolean (f1_z0 (p1 &&& (7 : Int32)))))) + (f8_z0 (nar .boolean (f1_z0 ((f0_t1 p1) &&& (7 : Int32)))))) (((0 : Int64) + (f8_z1 (nar .boolean (f1_z1 (p1 &&& (7 : Int32)))))) + (f8_z1 (nar .boolean (f1_z1 ((f0_t1 p1) &&& (7 : Int32)))))) (((0 : Int64) + (f8_z2 (nar .boolean (f1_z2 (p1 &&& (7 : Int32)))))) + (f8_z2 (nar .boolean (f1_z2 ((f0_t1 p1) &&& (7 : Int32)))))))
def f0_t15 (p1 : Int32) : Int64 := (f4 ((0 : Int64) + (1 : Int64)) ((0 : Int64) + (f8_z0 (nar .boolean (f1_z0 (p1 &&& (7 : Int32)))))) ((0 : Int64) + (f8_z1 (nar .boolean (f1_z1 (p1 &&& (7 : Int32)))))) ((0 : Int64) + (f8_z2 (nar .boolean (f1_z2 (p1 &&& (7 : Int32)))))))
def f0_t16 : Int64 := (f4 (0 : Int64) (0 : Int64) (0 : Int64) (0 : Int64))
def f0 (p0 : Int32) (p1 : Int32) : Int32 := if (0 : Int32) < (f0_t0 p0) then if (1 : Int32) < (f0_t0 p0) then if (2 : Int32) < (f0_t0 p0) then if (3 : Int32) < (f0_t0 p0) then if (lcmpW (f0_t12 p1) ((f0_t7 p1) + (f0_t11 p1))) = (0 : Int32) then (1 : Int32) else (0 : Int32) else if (lcmpW (f0_t13 p1) (f0_t7 p1)) = (0 : Int32) then (1 : Int32) else (0 : Int32) else if (lcmpW (f0_t14 p1) ((0 : Int64) + (f0_t4 p1))) = (0 : Int32) then (1 : Int32) else (0 : Int32) else if (lcmpW (f0_t15 p1) (0 : Int64)) = (0 : Int32) then (1 : Int32) else (0 : Int32) else if (lcmpW f0_t16 (0 : Int64)) = (0 : Int32) then (1 : Int32) else (0 : Int32)
theorem own_step0 {k : Nat} {c s : Int64} {x : Int32} (h : own_okn k c s) : own_okn (k + 1) (c + f8_z0 x) (s + 1) := by
  obtain ⟨i, j, h1, h2, rfl, rfl⟩ := h
  unfold f8_z0
  by_cases q : x = 0
  · rw [if_pos q]; exact ⟨i, j + 1, by omega, by omega, Int64.add_zero _, (Int64.ofNat_add j 1).symm⟩
  · rw [if_neg q]; exact ⟨i + 1, j + 1, by omega, by omega, (Int64.ofNat_add i 1).symm, (Int64.ofNat_add j 1).symm⟩
theorem own_step1 {k : Nat} {c s : Int64} {x : Int32} (h : own_okn k c s) : own_okn (k + 1) (c + f8_z1 x) (s + 1) := own_step0 h
theorem own_step2 {k : Nat} {c s : Int64} {x : Int32} (h : own_okn k c s) : own_okn (k + 1) (c + f8_z2 x) (s + 1) := own_step0 h
theorem own_7 (x : Int32) : ∃ n : Nat, n < 8 ∧ x &&& 7 = Int32.ofNat n := by
  refine ⟨(x &&& 7).toBitVec.toNat, ?_, ?_⟩
  · rw [Int32.toBitVec_and, BitVec.toNat_and]
    exact Nat.lt_of_le_of_lt Nat.and_le_right (by decide)
  · apply Int32.toBitVec_inj.mp
    apply BitVec.eq_of_toNat_eq
    show _ = (BitVec.ofNat 32 _).toNat
    rw [BitVec.toNat_ofNat, Nat.mod_eq_of_lt (x &&& 7).toBitVec.isLt]
theorem own_5 (x : Int32) : f0_t0 x = 0 ∨ f0_t0 x = 1 ∨ f0_t0 x = 2 ∨ f0_t0 x = 3 ∨ f0_t0 x = 4 := by
  have h0 : 0 ≤ (x &&& (2147483647 : Int32)).toInt := by
    show 0 ≤ (x &&& (2147483647 : Int32)).toBitVec.toInt
    rw [BitVec.toInt_eq_toNat_cond, Int32.toBitVec_and, BitVec.toNat_and]
    have h : x.toBitVec.toNat &&& (2147483647 : Int32).toBitVec.toNat ≤ 2147483647 := Nat.and_le_right
    rw [if_pos (by omega)]
    omega
  have h1 : (f0_t0 x).toInt = (x &&& (2147483647 : Int32)).toInt % 5 := by
    unfold f0_t0
    rw [Int32.toInt_mod]
    exact Int.tmod_eq_emod_of_nonneg h0
  have h2 := Int.emod_nonneg (x &&& (2147483647 : Int32)).toInt (show (5 : Int) ≠ 0 by decide)
  have h3 := Int.emod_lt_of_pos (x &&& (2147483647 : Int32)).toInt (show (0 : Int) < 5 by decide)
  rw [← h1] at h2 h3
  simp only [← Int32.toInt_inj]
  show (f0_t0 x).toInt = 0 ∨ (f0_t0 x).toInt = 1 ∨ (f0_t0 x).toInt = 2 ∨ (f0_t0 x).toInt = 3 ∨ (f0_t0 x).toInt = 4
  omega
def own_G0 (a : Int32) (b : Int32) (c : Int32) (d : Int32) : Int32 := lcmpW ((f4 (((((0 : Int64) + (1 : Int64)) + (1 : Int64)) + (1 : Int64)) + (1 : Int64)) (((((0 : Int64) + (f8_z0 (nar .boolean (f1_z0 a)))) + (f8_z0 (nar .boolean (f1_z0 b)))) + (f8_z0 (nar .boolean (f1_z0 c)))) + (f8_z0 (nar .boolean (f1_z0 d)))) (((((0 : Int64) + (f8_z1 (nar .boolean (f1_z1 a)))) + (f8_z1 (nar .boolean (f1_z1 b)))) + (f8_z1 (nar .boolean (f1_z1 c)))) + (f8_z1 (nar .boolean (f1_z1 d)))) (((((0 : Int64) + (f8_z2 (nar .boolean (f1_z2 a)))) + (f8_z2 (nar .boolean (f1_z2 b)))) + (f8_z2 (nar .boolean (f1_z2 c)))) + (f8_z2 (nar .boolean (f1_z2 d)))))) (((((0 : Int64) + ((f9 a b))) + (((f9 a c)) + ((f9 b c))))) + (((((f9 a d)) + ((f9 b d))) + ((f9 c d)))))
theorem own_C0 : ∀ a : Nat, a < 8 → ∀ b : Nat, b < 8 → ∀ c : Nat, c < 8 → ∀ d : Nat, d < 8 → own_G0 (Int32.ofNat a) (Int32.ofNat b) (Int32.ofNat c) (Int32.ofNat d) = 0 := by decide +kernel
theorem own_L0 (p1 : Int32) : lcmpW (f0_t12 p1) ((f0_t7 p1) + (f0_t11 p1)) = 0 := by
  obtain ⟨a, ha, ea⟩ := own_7 p1
  obtain ⟨b, hb, eb⟩ := own_7 (f0_t1 p1)
  obtain ⟨c, hc, ec⟩ := own_7 (f0_t2 p1)
  obtain ⟨d, hd, ed⟩ := own_7 (f0_t3 p1)
  show own_G0 (p1 &&& (7 : Int32)) ((f0_t1 p1) &&& (7 : Int32)) ((f0_t2 p1) &&& (7 : Int32)) ((f0_t3 p1) &&& (7 : Int32)) = 0
  rw [ea, eb, ec, ed]
  exact own_C0 a ha b hb c hc d hd
def own_G1 (a : Int32) (b : Int32) (c : Int32) : Int32 := lcmpW ((f4 ((((0 : Int64) + (1 : Int64)) + (1 : Int64)) + (1 : Int64)) ((((0 : Int64) + (f8_z0 (nar .boolean (f1_z0 a)))) + (f8_z0 (nar .boolean (f1_z0 b)))) + (f8_z0 (nar .boolean (f1_z0 c)))) ((((0 : Int64) + (f8_z1 (nar .boolean (f1_z1 a)))) + (f8_z1 (nar .boolean (f1_z1 b)))) + (f8_z1 (nar .boolean (f1_z1 c)))) ((((0 : Int64) + (f8_z2 (nar .boolean (f1_z2 a)))) + (f8_z2 (nar .boolean (f1_z2 b)))) + (f8_z2 (nar .boolean (f1_z2 c)))))) ((((0 : Int64) + ((f9 a b))) + (((f9 a c)) + ((f9 b c)))))
theorem own_C1 : ∀ a : Nat, a < 8 → ∀ b : Nat, b < 8 → ∀ c : Nat, c < 8 → own_G1 (Int32.ofNat a) (Int32.ofNat b) (Int32.ofNat c) = 0 := by decide +kernel
theorem own_L1 (p1 : Int32) : lcmpW (f0_t13 p1) (f0_t7 p1) = 0 := by
  obtain ⟨a, ha, ea⟩ := own_7 p1
  obtain ⟨b, hb, eb⟩ := own_7 (f0_t1 p1)
  obtain ⟨c, hc, ec⟩ := own_7 (f0_t2 p1)
  show own_G1 (p1 &&& (7 : Int32)) ((f0_t1 p1) &&& (7 : Int32)) ((f0_t2 p1) &&& (7 : Int32)) = 0
  rw [ea, eb, ec]
  exact own_C1 a ha b hb c hc
def own_G2 (a : Int32) (b : Int32) : Int32 := lcmpW ((f4 (((0 : Int64) + (1 : Int64)) + (1 : Int64)) (((0 : Int64) + (f8_z0 (nar .boolean (f1_z0 a)))) + (f8_z0 (nar .boolean (f1_z0 b)))) (((0 : Int64) + (f8_z1 (nar .boolean (f1_z1 a)))) + (f8_z1 (nar .boolean (f1_z1 b)))) (((0 : Int64) + (f8_z2 (nar .boolean (f1_z2 a)))) + (f8_z2 (nar .boolean (f1_z2 b)))))) ((0 : Int64) + ((f9 a b)))
theorem own_C2 : ∀ a : Nat, a < 8 → ∀ b : Nat, b < 8 → own_G2 (Int32.ofNat a) (Int32.ofNat b) = 0 := by decide +kernel
theorem own_L2 (p1 : Int32) : lcmpW (f0_t14 p1) ((0 : Int64) + (f0_t4 p1)) = 0 := by
  obtain ⟨a, ha, ea⟩ := own_7 p1
  obtain ⟨b, hb, eb⟩ := own_7 (f0_t1 p1)
  show own_G2 (p1 &&& (7 : Int32)) ((f0_t1 p1) &&& (7 : Int32)) = 0
  rw [ea, eb]
  exact own_C2 a ha b hb
def own_G3 (a : Int32) : Int32 := lcmpW ((f4 ((0 : Int64) + (1 : Int64)) ((0 : Int64) + (f8_z0 (nar .boolean (f1_z0 a)))) ((0 : Int64) + (f8_z1 (nar .boolean (f1_z1 a)))) ((0 : Int64) + (f8_z2 (nar .boolean (f1_z2 a)))))) (0 : Int64)
theorem own_C3 : ∀ a : Nat, a < 8 → own_G3 (Int32.ofNat a) = 0 := by decide +kernel
theorem own_L3 (p1 : Int32) : lcmpW (f0_t15 p1) (0 : Int64) = 0 := by
  obtain ⟨a, ha, ea⟩ := own_7 p1
  show own_G3 (p1 &&& (7 : Int32)) = 0
  rw [ea]
  exact own_C3 a ha
def own_G4 : Int32 := lcmpW ((f4 (0 : Int64) (0 : Int64) (0 : Int64) (0 : Int64))) (0 : Int64)
theorem own_C4 : own_G4  = 0 := by decide +kernel
theorem own_L4 : lcmpW f0_t16 (0 : Int64) = 0 := by
  show own_G4  = 0
  exact own_C4 
theorem own_law (p0 p1 : Int32) : f0 p0 p1 = 1 := by
  unfold f0
  rw [own_L0, own_L1, own_L2, own_L3, own_L4]
  rcases own_5 p0 with q | q | q | q | q <;> rw [q] <;> rfl
def Q0 (Z : State) (p0 : Int32) (p1 : Int32) (h0 : Heap) (n0 : Nat) (v : Option Value) (h : Heap) (L : List Loc) : Prop := v = some (.int (1 : Int32)) ∧ Fr n0 L
set_option maxRecDepth 65536 in
set_option maxHeartbeats 40000000 in
theorem rm0 (l : Launch) (Z : State) (aw : Array Value) (hw : ∀ d ∈ tables_1, d.before aw Z = true) (ws : List Jvm.Cond) (p0 : Int32) (p1 : Int32) (h0 : Heap) (n0 : Nat) (Z0 : n0 ≤ h0.size) :
    MetFree l x (head1 (Jvm.Cond.code x code maxLocals ret :: ws) room_1) (fun a U => a = #[(.int p0), (.int p1)] ∧ Z.Warmed39 U.vm ∧ U.heap = h0) (fun _ _ _ _ _ => True) (fun _ U o U' => ∃ v L, o = .returned v ∧ Q0 Z p0 p1 h0 n0 v U'.heap L ∧ FrameEnd U o U' L room_1.cells room_1.slots) := by
  refine MetFree.of_bodySF (plainFor_of_name pn_1) hisR ?_
  intro p e s m args below meth c s₁ Bd hml0 hP hK
  obtain ⟨rfl, hZ, hh⟩ := hP
  have hx := Bd.exec
  have hby := Bd.bytes
  have hml : c.maxLocals = 14 := hml0
  have hown : s.vm.findClass "com/example/antipode/antipode/problem/HammingDiversityAddPinLaw" = some m.cls := findClass_of_methodNamed Bd.named
  have hnm := (name_of_methodNamed Bd.named Bd.method).1
  have X0 : Stand p l e room_1 s m #[(.int p0), (.int p1)] below meth c s₁ [] 0 0 := Stand.of_body Bd
  have e0 : s₁.heap = h0 := by rw [← hh, Bd.state]; rfl
  have N0 := Fr.nil n0
  rw [ef_0 m p0 p1]
  refine go_in (s₁ := s₁) (Q := Q0 Z p0 p1 h0 n0) fun F hF => ?_
  refine go (B := s₁.setTop (mkF m 1 #[.val (.int p0), .val (.int p1), .unset, .unset, .unset, .unset, .unset, .unset, .unset, .unset, .unset, .unset, .unset, .unset] [(.int p0)])) (fun _ k => XS.iloadN X0.here hx rfl (hb hby at_0) rfl k) ?_
  refine go (B := s₁.setTop (mkF m 3 #[.val (.int p0), .val (.int p1), .unset, .unset, .unset, .unset, .unset, .unset, .unset, .unset, .unset, .unset, .unset, .unset] [(.int (2147483647 : Int32)), (.int p0)])) (fun _ k => X0.ldcInt hx hown (mvT hZ (hw _ (List.mem_of_getElem? (i := 0) rfl))) (g := (mkF m 1 #[.val (.int p0), .val (.int p1), .unset, .unset, .unset, .unset, .unset, .unset, .unset, .unset, .unset, .unset, .unset, .unset] [(.int p0)])) rfl (hb hby at_1) _ k) ?_
  refine go (B := s₁.setTop (mkF m 4 #[.val (.int p0), .val (.int p1), .unset, .unset, .unset, .unset, .unset, .unset, .unset, .unset, .unset, .unset, .unset, .unset] [(.int (p0 &&& (2147483647 : Int32)))])) (fun _ k => XS.iand X0.here hx rfl (hb hby at_3) rfl k) ?_
  refine go (B := s₁.setTop (mkF m 5 #[.val (.int p0), .val (.int p1), .unset, .unset, .unset, .unset, .unset, .unset, .unset, .unset, .unset, .unset, .unset, .unset] [(.int (5 : Int32)), (.int (p0 &&& (2147483647 : Int32)))])) (fun _ k => XS.iconst X0.here hx rfl (hb hby at_4) k) ?_
  refine go (B := s₁.setTop (mkF m 6 #[.val (.int p0), .val (.int p1), .unset, .unset, .unset, .unset, .unset, .unset, .unset, .unset, .unset, .unset, .unset, .unset] [(.int (f0_t0 p0))])) (fun _ k => iremM X0 hx rfl (hb hby at_5) rfl (by decide) k) ?_
  refine go (B := s₁.setTop (mkF m 7 #[.val (.int p0), .val (.int p1), .val (.int (f0_t0 p0)), .unset, .unset, .unset, .unset, .unset, .unset, .unset, .unset, .unset, .unset, .unset] [])) (fun _ k => XS.istoreN X0.here hx rfl (hb hby at_6) rfl (l' := #[.val (.int p0), .val (.int p1), .val (.int (f0_t0 p0)), .unset, .unset, .unset, .unset, .unset, .unset, .unset, .unset, .unset, .unset, .unset]) rfl k) ?_
  refine go (B := s₁.setTop (mkF m 8 #[.val (.int p0), .val (.int p1), .val (.int (f0_t0 p0)), .unset, .unset, .unset, .unset, .unset, .unset, .unset, .unset, .unset, .unset, .unset] [(.int p1)])) (fun _ k => XS.iloadN X0.here hx rfl (hb hby at_7) rfl k) ?_
  refine go (B := s₁.setTop (mkF m 10 #[.val (.int p0), .val (.int p1), .val (.int (f0_t0 p0)), .unset, .unset, .unset, .unset, .unset, .unset, .unset, .unset, .unset, .unset, .unset] [(.int (7 : Int32)), (.int p1)])) (fun _ k => XS.bipush X0.here hx rfl (hb hby at_8) k) ?_
  refine go (B := s₁.setTop (mkF m 11 #[.val (.int p0), .val (.int p1), .val (.int (f0_t0 p0)), .unset, .unset, .unset, .unset, .unset, .unset, .unset, .unset, .unset, .unset, .unset] [(.int (p1 &&& (7 : Int32)))])) (fun _ k => XS.iand X0.here hx rfl (hb hby at_10) rfl k) ?_
  refine go (B := s₁.setTop (mkF m 12 #[.val (.int p0), .val (.int p1), .val (.int (f0_t0 p0)), .val (.int (p1 &&& (7 : Int32))), .unset, .unset, .unset, .unset, .unset, .unset, .unset, .unset, .unset, .unset] [])) (fun _ k => XS.istoreN X0.here hx rfl (hb hby at_11) rfl (l' := #[.val (.int p0), .val (.int p1), .val (.int (f0_t0 p0)), .val (.int (p1 &&& (7 : Int32))), .unset, .unset, .unset, .unset, .unset, .unset, .unset, .unset, .unset, .unset]) rfl k) ?_
  refine go (B := s₁.setTop (mkF m 13 #[.val (.int p0), .val (.int p1), .val (.int (f0_t0 p0)), .val (.int (p1 &&& (7 : Int32))), .unset, .unset, .unset, .unset, .unset, .unset, .unset, .unset, .unset, .unset] [(.int p1)])) (fun _ k => XS.iloadN X0.here hx rfl (hb hby at_12) rfl k) ?_
  refine go (B := s₁.setTop (mkF m 14 #[.val (.int p0), .val (.int p1), .val (.int (f0_t0 p0)), .val (.int (p1 &&& (7 : Int32))), .unset, .unset, .unset, .unset, .unset, .unset, .unset, .unset, .unset, .unset] [(.int (3 : Int32)), (.int p1)])) (fun _ k => XS.iconst X0.here hx rfl (hb hby at_13) k) ?_
  refine go (B := s₁.setTop (mkF m 15 #[.val (.int p0), .val (.int p1), .val (.int (f0_t0 p0)), .val (.int (p1 &&& (7 : Int32))), .unset, .unset, .unset, .unset, .unset, .unset, .unset, .unset, .unset, .unset] [(.int (f0_t1 p1))])) (fun _ k => XS.iushr X0.here hx rfl (hb hby at_14) rfl k) ?_
  refine go (B := s₁.setTop (mkF m 17 #[.val (.int p0), .val (.int p1), .val (.int (f0_t0 p0)), .val (.int (p1 &&& (7 : Int32))), .unset, .unset, .unset, .unset, .unset, .unset, .unset, .unset, .unset, .unset] [(.int (7 : Int32)), (.int (f0_t1 p1))])) (fun _ k => XS.bipush X0.here hx rfl (hb hby at_15) k) ?_
  refine go (B := s₁.setTop (mkF m 18 #[.val (.int p0), .val (.int p1), .val (.int (f0_t0 p0)), .val (.int (p1 &&& (7 : Int32))), .unset, .unset, .unset, .unset, .unset, .unset, .unset, .unset, .unset, .unset] [(.int ((f0_t1 p1) &&& (7 : Int32)))])) (fun _ k => XS.iand X0.here hx rfl (hb hby at_17) rfl k) ?_
  refine go (B := s₁.setTop (mkF m 20 #[.val (.int p0), .val (.int p1), .val (.int (f0_t0 p0)), .val (.int (p1 &&& (7 : Int32))), .val (.int ((f0_t1 p1) &&& (7 : Int32))), .unset, .unset, .unset, .unset, .unset, .unset, .unset, .unset, .unset] [])) (fun _ k => XS.istore X0.here hx rfl (hb hby at_18) rfl (l' := #[.val (.int p0), .val (.int p1), .val (.int (f0_t0 p0)), .val (.int (p1 &&& (7 : Int32))), .val (.int ((f0_t1 p1) &&& (7 : Int32))), .unset, .unset, .unset, .unset, .unset, .unset, .unset, .unset, .unset]) rfl k) ?_
  refine go (B := s₁.setTop (mkF m 21 #[.val (.int p0), .val (.int p1), .val (.int (f0_t0 p0)), .val (.int (p1 &&& (7 : Int32))), .val (.int ((f0_t1 p1) &&& (7 : Int32))), .unset, .unset, .unset, .unset, .unset, .unset, .unset, .unset, .unset] [(.int p1)])) (fun _ k => XS.iloadN X0.here hx rfl (hb hby at_20) rfl k) ?_
  refine go (B := s₁.setTop (mkF m 23 #[.val (.int p0), .val (.int p1), .val (.int (f0_t0 p0)), .val (.int (p1 &&& (7 : Int32))), .val (.int ((f0_t1 p1) &&& (7 : Int32))), .unset, .unset, .unset, .unset, .unset, .unset, .unset, .unset, .unset] [(.int (6 : Int32)), (.int p1)])) (fun _ k => XS.bipush X0.here hx rfl (hb hby at_21) k) ?_
  refine go (B := s₁.setTop (mkF m 24 #[.val (.int p0), .val (.int p1), .val (.int (f0_t0 p0)), .val (.int (p1 &&& (7 : Int32))), .val (.int ((f0_t1 p1) &&& (7 : Int32))), .unset, .unset, .unset, .unset, .unset, .unset, .unset, .unset, .unset] [(.int (f0_t2 p1))])) (fun _ k => XS.iushr X0.here hx rfl (hb hby at_23) rfl k) ?_
  refine go (B := s₁.setTop (mkF m 26 #[.val (.int p0), .val (.int p1), .val (.int (f0_t0 p0)), .val (.int (p1 &&& (7 : Int32))), .val (.int ((f0_t1 p1) &&& (7 : Int32))), .unset, .unset, .unset, .unset, .unset, .unset, .unset, .unset, .unset] [(.int (7 : Int32)), (.int (f0_t2 p1))])) (fun _ k => XS.bipush X0.here hx rfl (hb hby at_24) k) ?_
  refine go (B := s₁.setTop (mkF m 27 #[.val (.int p0), .val (.int p1), .val (.int (f0_t0 p0)), .val (.int (p1 &&& (7 : Int32))), .val (.int ((f0_t1 p1) &&& (7 : Int32))), .unset, .unset, .unset, .unset, .unset, .unset, .unset, .unset, .unset] [(.int ((f0_t2 p1) &&& (7 : Int32)))])) (fun _ k => XS.iand X0.here hx rfl (hb hby at_26) rfl k) ?_
  refine go (B := s₁.setTop (mkF m 29 #[.val (.int p0), .val (.int p1), .val (.int (f0_t0 p0)), .val (.int (p1 &&& (7 : Int32))), .val (.int ((f0_t1 p1) &&& (7 : Int32))), .val (.int ((f0_t2 p1) &&& (7 : Int32))), .unset, .unset, .unset, .unset, .unset, .unset, .unset, .unset] [])) (fun _ k => XS.istore X0.here hx rfl (hb hby at_27) rfl (l' := #[.val (.int p0), .val (.int p1), .val (.int (f0_t0 p0)), .val (.int (p1 &&& (7 : Int32))), .val (.int ((f0_t1 p1) &&& (7 : Int32))), .val (.int ((f0_t2 p1) &&& (7 : Int32))), .unset, .unset, .unset, .unset, .unset, .unset, .unset, .unset]) rfl k) ?_
  refine go (B := s₁.setTop (mkF m 30 #[.val (.int p0), .val (.int p1), .val (.int (f0_t0 p0)), .val (.int (p1 &&& (7 : Int32))), .val (.int ((f0_t1 p1) &&& (7 : Int32))), .val (.int ((f0_t2 p1) &&& (7 : Int32))), .unset, .unset, .unset, .unset, .unset, .unset, .unset, .unset] [(.int p1)])) (fun _ k => XS.iloadN X0.here hx rfl (hb hby at_29) rfl k) ?_
  refine go (B := s₁.setTop (mkF m 32 #[.val (.int p0), .val (.int p1), .val (.int (f0_t0 p0)), .val (.int (p1 &&& (7 : Int32))), .val (.int ((f0_t1 p1) &&& (7 : Int32))), .val (.int ((f0_t2 p1) &&& (7 : Int32))), .unset, .unset, .unset, .unset, .unset, .unset, .unset, .unset] [(.int (9 : Int32)), (.int p1)])) (fun _ k => XS.bipush X0.here hx rfl (hb hby at_30) k) ?_
  refine go (B := s₁.setTop (mkF m 33 #[.val (.int p0), .val (.int p1), .val (.int (f0_t0 p0)), .val (.int (p1 &&& (7 : Int32))), .val (.int ((f0_t1 p1) &&& (7 : Int32))), .val (.int ((f0_t2 p1) &&& (7 : Int32))), .unset, .unset, .unset, .unset, .unset, .unset, .unset, .unset] [(.int (f0_t3 p1))])) (fun _ k => XS.iushr X0.here hx rfl (hb hby at_32) rfl k) ?_
  refine go (B := s₁.setTop (mkF m 35 #[.val (.int p0), .val (.int p1), .val (.int (f0_t0 p0)), .val (.int (p1 &&& (7 : Int32))), .val (.int ((f0_t1 p1) &&& (7 : Int32))), .val (.int ((f0_t2 p1) &&& (7 : Int32))), .unset, .unset, .unset, .unset, .unset, .unset, .unset, .unset] [(.int (7 : Int32)), (.int (f0_t3 p1))])) (fun _ k => XS.bipush X0.here hx rfl (hb hby at_33) k) ?_
  refine go (B := s₁.setTop (mkF m 36 #[.val (.int p0), .val (.int p1), .val (.int (f0_t0 p0)), .val (.int (p1 &&& (7 : Int32))), .val (.int ((f0_t1 p1) &&& (7 : Int32))), .val (.int ((f0_t2 p1) &&& (7 : Int32))), .unset, .unset, .unset, .unset, .unset, .unset, .unset, .unset] [(.int ((f0_t3 p1) &&& (7 : Int32)))])) (fun _ k => XS.iand X0.here hx rfl (hb hby at_35) rfl k) ?_
  refine go (B := s₁.setTop (mkF m 38 #[.val (.int p0), .val (.int p1), .val (.int (f0_t0 p0)), .val (.int (p1 &&& (7 : Int32))), .val (.int ((f0_t1 p1) &&& (7 : Int32))), .val (.int ((f0_t2 p1) &&& (7 : Int32))), .val (.int ((f0_t3 p1) &&& (7 : Int32))), .unset, .unset, .unset, .unset, .unset, .unset, .unset] [])) (fun _ k => XS.istore X0.here hx rfl (hb hby at_36) rfl (l' := #[.val (.int p0), .val (.int p1), .val (.int (f0_t0 p0)), .val (.int (p1 &&& (7 : Int32))), .val (.int ((f0_t1 p1) &&& (7 : Int32))), .val (.int ((f0_t2 p1) &&& (7 : Int32))), .val (.int ((f0_t3 p1) &&& (7 : Int32))), .unset, .unset, .unset, .unset, .unset, .unset, .unset]) rfl k) ?_
  refine go (B := s₁.setTop (mkF m 39 #[.val (.int p0), .val (.int p1), .val (.int (f0_t0 p0)), .val (.int (p1 &&& (7 : Int32))), .val (.int ((f0_t1 p1) &&& (7 : Int32))), .val (.int ((f0_t2 p1) &&& (7 : Int32))), .val (.int ((f0_t3 p1) &&& (7 : Int32))), .unset, .unset, .unset, .unset, .unset, .unset, .unset] [(.int (p1 &&& (7 : Int32)))])) (fun _ k => XS.iloadN X0.here hx rfl (hb hby at_38) rfl k) ?_
  obtain ⟨_, _, ⟨T1, L1, k1, n1⟩, -, X1, ⟨Lc1, hQ1, l1, y1, z1⟩, st1⟩ := Jvm.LawKit.callS X0 hx (y := (⟨"com/example/antipode/antipode/problem/HammingDiversityAddPinLaw", "bits", "(I)[Z"⟩ : MethodName)) hown (mvT hZ (hw _ (List.mem_of_getElem? (i := 1) rfl))) (mvT hZ (hw _ (List.mem_of_getElem? (i := 2) rfl))) (mvT hZ (hw _ (List.mem_of_getElem? (i := 3) rfl))) (mvT hZ (hw _ (List.mem_of_getElem? (i := 4) rfl))) (by decide) (backOf (W := 0) (rm1 l Z aw hw [] (p1 &&& (7 : Int32)) h0 n0 Z0 ) hZ (hw _ (List.mem_of_getElem? (i := 4) rfl)) (hw _ (List.mem_of_getElem? (i := 3) rfl)) (by decide) (by decide)) (g := (mkF m 39 #[.val (.int p0), .val (.int p1), .val (.int (f0_t0 p0)), .val (.int (p1 &&& (7 : Int32))), .val (.int ((f0_t1 p1) &&& (7 : Int32))), .val (.int ((f0_t2 p1) &&& (7 : Int32))), .val (.int ((f0_t3 p1) &&& (7 : Int32))), .unset, .unset, .unset, .unset, .unset, .unset, .unset] [(.int (p1 &&& (7 : Int32)))])) rfl (by rw [hml]; rfl) (argsL := [(.int (p1 &&& (7 : Int32)))]) (rest := []) (lenOf pd_3 rfl) rfl (by show 2 * 0 + _ ≤ _; exact Nat.le_of_eq rfl) (hb hby at_39) (fun _ _ => ⟨rfl, e0, (by decide : 0 + 1 ≤ _), (by decide : 0 + 3 ≤ _)⟩)
  dsimp only [Pt.U, Pt.locs, Pt.cells, Pt.slots] at X1 l1 y1 z1 st1 hQ1
  subst l1 y1 z1
  obtain ⟨b1_1, k1_1, rfl, N1q, Kc1, o1_0, o1_1⟩ := hQ1
  have N1 := Fr.app N0 N1q
  have Z1 := Nat.le_trans Z0 Kc1.1
  have g_b1_1 : n0 ≤ b1_1 := Nat.le_trans Z0 o1_0
  refine go (B := T1.setTop (mkF m 42 #[.val (.int p0), .val (.int p1), .val (.int (f0_t0 p0)), .val (.int (p1 &&& (7 : Int32))), .val (.int ((f0_t1 p1) &&& (7 : Int32))), .val (.int ((f0_t2 p1) &&& (7 : Int32))), .val (.int ((f0_t3 p1) &&& (7 : Int32))), .unset, .unset, .unset, .unset, .unset, .unset, .unset] [(.ref b1_1)])) (fun _ k => st1 _ k) ?_
  refine go (B := T1.setTop (mkF m 44 #[.val (.int p0), .val (.int p1), .val (.int (f0_t0 p0)), .val (.int (p1 &&& (7 : Int32))), .val (.int ((f0_t1 p1) &&& (7 : Int32))), .val (.int ((f0_t2 p1) &&& (7 : Int32))), .val (.int ((f0_t3 p1) &&& (7 : Int32))), .val (.ref b1_1), .unset, .unset, .unset, .unset, .unset, .unset] [])) (fun _ k => XS.astore X1.here hx rfl (hb hby at_42) rfl rfl (l' := #[.val (.int p0), .val (.int p1), .val (.int (f0_t0 p0)), .val (.int (p1 &&& (7 : Int32))), .val (.int ((f0_t1 p1) &&& (7 : Int32))), .val (.int ((f0_t2 p1) &&& (7 : Int32))), .val (.int ((f0_t3 p1) &&& (7 : Int32))), .val (.ref b1_1), .unset, .unset, .unset, .unset, .unset, .unset]) rfl k) ?_
  refine go (B := T1.setTop (mkF m 46 #[.val (.int p0), .val (.int p1), .val (.int (f0_t0 p0)), .val (.int (p1 &&& (7 : Int32))), .val (.int ((f0_t1 p1) &&& (7 : Int32))), .val (.int ((f0_t2 p1) &&& (7 : Int32))), .val (.int ((f0_t3 p1) &&& (7 : Int32))), .val (.ref b1_1), .unset, .unset, .unset, .unset, .unset, .unset] [(.int ((f0_t1 p1) &&& (7 : Int32)))])) (fun _ k => XS.iload X1.here hx rfl (hb hby at_44) rfl k) ?_
  obtain ⟨_, _, ⟨T2, L2, k2, n2⟩, -, X2, ⟨Lc2, hQ2, l2, y2, z2⟩, st2⟩ := Jvm.LawKit.callS X1 hx (y := (⟨"com/example/antipode/antipode/problem/HammingDiversityAddPinLaw", "bits", "(I)[Z"⟩ : MethodName)) hown (mvT hZ (hw _ (List.mem_of_getElem? (i := 1) rfl))) (mvT hZ (hw _ (List.mem_of_getElem? (i := 2) rfl))) (mvT hZ (hw _ (List.mem_of_getElem? (i := 3) rfl))) (mvT hZ (hw _ (List.mem_of_getElem? (i := 4) rfl))) (by decide) (backOf (W := 0) (rm1 l Z aw hw [] ((f0_t1 p1) &&& (7 : Int32)) T1.heap n0 Z1 ) hZ (hw _ (List.mem_of_getElem? (i := 4) rfl)) (hw _ (List.mem_of_getElem? (i := 3) rfl)) (by decide) (by decide)) (g := (mkF m 46 #[.val (.int p0), .val (.int p1), .val (.int (f0_t0 p0)), .val (.int (p1 &&& (7 : Int32))), .val (.int ((f0_t1 p1) &&& (7 : Int32))), .val (.int ((f0_t2 p1) &&& (7 : Int32))), .val (.int ((f0_t3 p1) &&& (7 : Int32))), .val (.ref b1_1), .unset, .unset, .unset, .unset, .unset, .unset] [(.int ((f0_t1 p1) &&& (7 : Int32)))])) rfl (by rw [hml]; rfl) (argsL := [(.int ((f0_t1 p1) &&& (7 : Int32)))]) (rest := []) (lenOf pd_3 rfl) rfl (by show 2 * 0 + _ ≤ _; exact Nat.le_of_eq rfl) (hb hby at_46) (fun _ _ => ⟨rfl, rfl, (by decide : 1 + 1 ≤ _), (by decide : 3 + 3 ≤ _)⟩)
  dsimp only [Pt.U, Pt.locs, Pt.cells, Pt.slots] at X2 l2 y2 z2 st2 hQ2
  subst l2 y2 z2
  obtain ⟨b1_2, k1_2, rfl, N2q, Kc2, o2_0, o2_1⟩ := hQ2
  have V_b1_1_2 := o1_1.keep Kc2 nin0
  have N2 := Fr.app N1 N2q
  have Z2 := Nat.le_trans Z1 Kc2.1
  have g_b1_2 : n0 ≤ b1_2 := Nat.le_trans Z1 o2_0
  have ne_b1_1_b1_2 : b1_1 ≠ b1_2 := Nat.ne_of_lt (Nat.lt_of_lt_of_le o1_1.lt o2_0)
  refine go (B := T2.setTop (mkF m 49 #[.val (.int p0), .val (.int p1), .val (.int (f0_t0 p0)), .val (.int (p1 &&& (7 : Int32))), .val (.int ((f0_t1 p1) &&& (7 : Int32))), .val (.int ((f0_t2 p1) &&& (7 : Int32))), .val (.int ((f0_t3 p1) &&& (7 : Int32))), .val (.ref b1_1), .unset, .unset, .unset, .unset, .unset, .unset] [(.ref b1_2)])) (fun _ k => st2 _ k) ?_
  refine go (B := T2.setTop (mkF m 51 #[.val (.int p0), .val (.int p1), .val (.int (f0_t0 p0)), .val (.int (p1 &&& (7 : Int32))), .val (.int ((f0_t1 p1) &&& (7 : Int32))), .val (.int ((f0_t2 p1) &&& (7 : Int32))), .val (.int ((f0_t3 p1) &&& (7 : Int32))), .val (.ref b1_1), .val (.ref b1_2), .unset, .unset, .unset, .unset, .unset] [])) (fun _ k => XS.astore X2.here hx rfl (hb hby at_49) rfl rfl (l' := #[.val (.int p0), .val (.int p1), .val (.int (f0_t0 p0)), .val (.int (p1 &&& (7 : Int32))), .val (.int ((f0_t1 p1) &&& (7 : Int32))), .val (.int ((f0_t2 p1) &&& (7 : Int32))), .val (.int ((f0_t3 p1) &&& (7 : Int32))), .val (.ref b1_1), .val (.ref b1_2), .unset, .unset, .unset, .unset, .unset]) rfl k) ?_
  refine go (B := T2.setTop (mkF m 53 #[.val (.int p0), .val (.int p1), .val (.int (f0_t0 p0)), .val (.int (p1 &&& (7 : Int32))), .val (.int ((f0_t1 p1) &&& (7 : Int32))), .val (.int ((f0_t2 p1) &&& (7 : Int32))), .val (.int ((f0_t3 p1) &&& (7 : Int32))), .val (.ref b1_1), .val (.ref b1_2), .unset, .unset, .unset, .unset, .unset] [(.int ((f0_t2 p1) &&& (7 : Int32)))])) (fun _ k => XS.iload X2.here hx rfl (hb hby at_51) rfl k) ?_
  obtain ⟨_, _, ⟨T3, L3, k3, n3⟩, -, X3, ⟨Lc3, hQ3, l3, y3, z3⟩, st3⟩ := Jvm.LawKit.callS X2 hx (y := (⟨"com/example/antipode/antipode/problem/HammingDiversityAddPinLaw", "bits", "(I)[Z"⟩ : MethodName)) hown (mvT hZ (hw _ (List.mem_of_getElem? (i := 1) rfl))) (mvT hZ (hw _ (List.mem_of_getElem? (i := 2) rfl))) (mvT hZ (hw _ (List.mem_of_getElem? (i := 3) rfl))) (mvT hZ (hw _ (List.mem_of_getElem? (i := 4) rfl))) (by decide) (backOf (W := 0) (rm1 l Z aw hw [] ((f0_t2 p1) &&& (7 : Int32)) T2.heap n0 Z2 ) hZ (hw _ (List.mem_of_getElem? (i := 4) rfl)) (hw _ (List.mem_of_getElem? (i := 3) rfl)) (by decide) (by decide)) (g := (mkF m 53 #[.val (.int p0), .val (.int p1), .val (.int (f0_t0 p0)), .val (.int (p1 &&& (7 : Int32))), .val (.int ((f0_t1 p1) &&& (7 : Int32))), .val (.int ((f0_t2 p1) &&& (7 : Int32))), .val (.int ((f0_t3 p1) &&& (7 : Int32))), .val (.ref b1_1), .val (.ref b1_2), .unset, .unset, .unset, .unset, .unset] [(.int ((f0_t2 p1) &&& (7 : Int32)))])) rfl (by rw [hml]; rfl) (argsL := [(.int ((f0_t2 p1) &&& (7 : Int32)))]) (rest := []) (lenOf pd_3 rfl) rfl (by show 2 * 0 + _ ≤ _; exact Nat.le_of_eq rfl) (hb hby at_53) (fun _ _ => ⟨rfl, rfl, (by decide : 2 + 1 ≤ _), (by decide : 6 + 3 ≤ _)⟩)
  dsimp only [Pt.U, Pt.locs, Pt.cells, Pt.slots] at X3 l3 y3 z3 st3 hQ3
  subst l3 y3 z3
  obtain ⟨b1_3, k1_3, rfl, N3q, Kc3, o3_0, o3_1⟩ := hQ3
  have V_b1_1_3 := V_b1_1_2.keep Kc3 nin0
  have V_b1_2_3 := o2_1.keep Kc3 nin0
  have N3 := Fr.app N2 N3q
  have Z3 := Nat.le_trans Z2 Kc3.1
  have g_b1_3 : n0 ≤ b1_3 := Nat.le_trans Z2 o3_0
  have ne_b1_1_b1_3 : b1_1 ≠ b1_3 := Nat.ne_of_lt (Nat.lt_of_lt_of_le V_b1_1_2.lt o3_0)
  have ne_b1_2_b1_3 : b1_2 ≠ b1_3 := Nat.ne_of_lt (Nat.lt_of_lt_of_le o2_1.lt o3_0)
  refine go (B := T3.setTop (mkF m 56 #[.val (.int p0), .val (.int p1), .val (.int (f0_t0 p0)), .val (.int (p1 &&& (7 : Int32))), .val (.int ((f0_t1 p1) &&& (7 : Int32))), .val (.int ((f0_t2 p1) &&& (7 : Int32))), .val (.int ((f0_t3 p1) &&& (7 : Int32))), .val (.ref b1_1), .val (.ref b1_2), .unset, .unset, .unset, .unset, .unset] [(.ref b1_3)])) (fun _ k => st3 _ k) ?_
  refine go (B := T3.setTop (mkF m 58 #[.val (.int p0), .val (.int p1), .val (.int (f0_t0 p0)), .val (.int (p1 &&& (7 : Int32))), .val (.int ((f0_t1 p1) &&& (7 : Int32))), .val (.int ((f0_t2 p1) &&& (7 : Int32))), .val (.int ((f0_t3 p1) &&& (7 : Int32))), .val (.ref b1_1), .val (.ref b1_2), .val (.ref b1_3), .unset, .unset, .unset, .unset] [])) (fun _ k => XS.astore X3.here hx rfl (hb hby at_56) rfl rfl (l' := #[.val (.int p0), .val (.int p1), .val (.int (f0_t0 p0)), .val (.int (p1 &&& (7 : Int32))), .val (.int ((f0_t1 p1) &&& (7 : Int32))), .val (.int ((f0_t2 p1) &&& (7 : Int32))), .val (.int ((f0_t3 p1) &&& (7 : Int32))), .val (.ref b1_1), .val (.ref b1_2), .val (.ref b1_3), .unset, .unset, .unset, .unset]) rfl k) ?_
  refine go (B := T3.setTop (mkF m 60 #[.val (.int p0), .val (.int p1), .val (.int (f0_t0 p0)), .val (.int (p1 &&& (7 : Int32))), .val (.int ((f0_t1 p1) &&& (7 : Int32))), .val (.int ((f0_t2 p1) &&& (7 : Int32))), .val (.int ((f0_t3 p1) &&& (7 : Int32))), .val (.ref b1_1), .val (.ref b1_2), .val (.ref b1_3), .unset, .unset, .unset, .unset] [(.int ((f0_t3 p1) &&& (7 : Int32)))])) (fun _ k => XS.iload X3.here hx rfl (hb hby at_58) rfl k) ?_
  obtain ⟨_, _, ⟨T4, L4, k4, n4⟩, -, X4, ⟨Lc4, hQ4, l4, y4, z4⟩, st4⟩ := Jvm.LawKit.callS X3 hx (y := (⟨"com/example/antipode/antipode/problem/HammingDiversityAddPinLaw", "bits", "(I)[Z"⟩ : MethodName)) hown (mvT hZ (hw _ (List.mem_of_getElem? (i := 1) rfl))) (mvT hZ (hw _ (List.mem_of_getElem? (i := 2) rfl))) (mvT hZ (hw _ (List.mem_of_getElem? (i := 3) rfl))) (mvT hZ (hw _ (List.mem_of_getElem? (i := 4) rfl))) (by decide) (backOf (W := 0) (rm1 l Z aw hw [] ((f0_t3 p1) &&& (7 : Int32)) T3.heap n0 Z3 ) hZ (hw _ (List.mem_of_getElem? (i := 4) rfl)) (hw _ (List.mem_of_getElem? (i := 3) rfl)) (by decide) (by decide)) (g := (mkF m 60 #[.val (.int p0), .val (.int p1), .val (.int (f0_t0 p0)), .val (.int (p1 &&& (7 : Int32))), .val (.int ((f0_t1 p1) &&& (7 : Int32))), .val (.int ((f0_t2 p1) &&& (7 : Int32))), .val (.int ((f0_t3 p1) &&& (7 : Int32))), .val (.ref b1_1), .val (.ref b1_2), .val (.ref b1_3), .unset, .unset, .unset, .unset] [(.int ((f0_t3 p1) &&& (7 : Int32)))])) rfl (by rw [hml]; rfl) (argsL := [(.int ((f0_t3 p1) &&& (7 : Int32)))]) (rest := []) (lenOf pd_3 rfl) rfl (by show 2 * 0 + _ ≤ _; exact Nat.le_of_eq rfl) (hb hby at_60) (fun _ _ => ⟨rfl, rfl, (by decide : 3 + 1 ≤ _), (by decide : 9 + 3 ≤ _)⟩)
  dsimp only [Pt.U, Pt.locs, Pt.cells, Pt.slots] at X4 l4 y4 z4 st4 hQ4
  subst l4 y4 z4
  obtain ⟨b1_4, k1_4, rfl, N4q, Kc4, o4_0, o4_1⟩ := hQ4
  have V_b1_1_4 := V_b1_1_3.keep Kc4 nin0
  have V_b1_2_4 := V_b1_2_3.keep Kc4 nin0
  have V_b1_3_4 := o3_1.keep Kc4 nin0
  have N4 := Fr.app N3 N4q
  have Z4 := Nat.le_trans Z3 Kc4.1
  have g_b1_4 : n0 ≤ b1_4 := Nat.le_trans Z3 o4_0
  have ne_b1_1_b1_4 : b1_1 ≠ b1_4 := Nat.ne_of_lt (Nat.lt_of_lt_of_le V_b1_1_3.lt o4_0)
  have ne_b1_2_b1_4 : b1_2 ≠ b1_4 := Nat.ne_of_lt (Nat.lt_of_lt_of_le V_b1_2_3.lt o4_0)
  have ne_b1_3_b1_4 : b1_3 ≠ b1_4 := Nat.ne_of_lt (Nat.lt_of_lt_of_le o3_1.lt o4_0)
  refine go (B := T4.setTop (mkF m 63 #[.val (.int p0), .val (.int p1), .val (.int (f0_t0 p0)), .val (.int (p1 &&& (7 : Int32))), .val (.int ((f0_t1 p1) &&& (7 : Int32))), .val (.int ((f0_t2 p1) &&& (7 : Int32))), .val (.int ((f0_t3 p1) &&& (7 : Int32))), .val (.ref b1_1), .val (.ref b1_2), .val (.ref b1_3), .unset, .unset, .unset, .unset] [(.ref b1_4)])) (fun _ k => st4 _ k) ?_
  refine go (B := T4.setTop (mkF m 65 #[.val (.int p0), .val (.int p1), .val (.int (f0_t0 p0)), .val (.int (p1 &&& (7 : Int32))), .val (.int ((f0_t1 p1) &&& (7 : Int32))), .val (.int ((f0_t2 p1) &&& (7 : Int32))), .val (.int ((f0_t3 p1) &&& (7 : Int32))), .val (.ref b1_1), .val (.ref b1_2), .val (.ref b1_3), .val (.ref b1_4), .unset, .unset, .unset] [])) (fun _ k => XS.astore X4.here hx rfl (hb hby at_63) rfl rfl (l' := #[.val (.int p0), .val (.int p1), .val (.int (f0_t0 p0)), .val (.int (p1 &&& (7 : Int32))), .val (.int ((f0_t1 p1) &&& (7 : Int32))), .val (.int ((f0_t2 p1) &&& (7 : Int32))), .val (.int ((f0_t3 p1) &&& (7 : Int32))), .val (.ref b1_1), .val (.ref b1_2), .val (.ref b1_3), .val (.ref b1_4), .unset, .unset, .unset]) rfl k) ?_
  obtain ⟨T5, h5, X5, e5, E5, A5, D5, -, st5⟩ := newO X4 hx hZ hown (hw _ (List.mem_of_getElem? (i := 6) rfl)) (hw _ (List.mem_of_getElem? (i := 7) rfl)) (hw _ (List.mem_of_getElem? (i := 8) rfl)) rfl (g := (mkF m 65 #[.val (.int p0), .val (.int p1), .val (.int (f0_t0 p0)), .val (.int (p1 &&& (7 : Int32))), .val (.int ((f0_t1 p1) &&& (7 : Int32))), .val (.int ((f0_t2 p1) &&& (7 : Int32))), .val (.int ((f0_t3 p1) &&& (7 : Int32))), .val (.ref b1_1), .val (.ref b1_2), .val (.ref b1_3), .val (.ref b1_4), .unset, .unset, .unset] [])) rfl (hb hby at_65) (by decide) (by decide)
  obtain ⟨b5, g5⟩ : ∃ z, z = T4.heap.size := ⟨_, rfl⟩
  rw [← g5] at A5 D5 st5
  have g_b5 : n0 ≤ b5 := Nat.le_trans Z4 (Nat.le_of_eq g5.symm)
  have ne_b1_1_b5 : b1_1 ≠ b5 := Nat.ne_of_lt (Nat.lt_of_lt_of_le V_b1_1_4.lt (Nat.le_of_eq g5.symm))
  have ne_b1_2_b5 : b1_2 ≠ b5 := Nat.ne_of_lt (Nat.lt_of_lt_of_le V_b1_2_4.lt (Nat.le_of_eq g5.symm))
  have ne_b1_3_b5 : b1_3 ≠ b5 := Nat.ne_of_lt (Nat.lt_of_lt_of_le V_b1_3_4.lt (Nat.le_of_eq g5.symm))
  have ne_b1_4_b5 : b1_4 ≠ b5 := Nat.ne_of_lt (Nat.lt_of_lt_of_le o4_1.lt (Nat.le_of_eq g5.symm))
  have V_b1_1_5 := V_b1_1_4.ext E5
  have V_b1_2_5 := V_b1_2_4.ext E5
  have V_b1_3_5 := V_b1_3_4.ext E5
  have V_b1_4_5 := o4_1.ext E5
  have Z5 := Nat.le_trans Z4 E5.1
  have F_ones_b5 : Fld Z h5 b5 "com/example/antipode/antipode/problem/HammingDiversity" "ones" "[J" .null := D5 (Or.inr (hw _ (List.mem_of_getElem? (i := 17) rfl))) (ty := (.array .long)) (by decide)
  have F_strings_b5 : Fld Z h5 b5 "com/example/antipode/antipode/problem/HammingDiversity" "strings" "J" (.long (0 : Int64)) := D5 (Or.inl (hw _ (List.mem_of_getElem? (i := 24) rfl))) (ty := .long) (by decide)
  have E_b5 := A5
  refine go (B := T5.setTop (mkF m 68 #[.val (.int p0), .val (.int p1), .val (.int (f0_t0 p0)), .val (.int (p1 &&& (7 : Int32))), .val (.int ((f0_t1 p1) &&& (7 : Int32))), .val (.int ((f0_t2 p1) &&& (7 : Int32))), .val (.int ((f0_t3 p1) &&& (7 : Int32))), .val (.ref b1_1), .val (.ref b1_2), .val (.ref b1_3), .val (.ref b1_4), .unset, .unset, .unset] [(.ref b5)])) st5 ?_
  refine go (B := T5.setTop (mkF m 69 #[.val (.int p0), .val (.int p1), .val (.int (f0_t0 p0)), .val (.int (p1 &&& (7 : Int32))), .val (.int ((f0_t1 p1) &&& (7 : Int32))), .val (.int ((f0_t2 p1) &&& (7 : Int32))), .val (.int ((f0_t3 p1) &&& (7 : Int32))), .val (.ref b1_1), .val (.ref b1_2), .val (.ref b1_3), .val (.ref b1_4), .unset, .unset, .unset] [(.ref b5), (.ref b5)])) (fun _ k => XS.dup X5.here hx rfl (hb hby at_68) rfl rfl k) ?_
  refine go (B := T5.setTop (mkF m 70 #[.val (.int p0), .val (.int p1), .val (.int (f0_t0 p0)), .val (.int (p1 &&& (7 : Int32))), .val (.int ((f0_t1 p1) &&& (7 : Int32))), .val (.int ((f0_t2 p1) &&& (7 : Int32))), .val (.int ((f0_t3 p1) &&& (7 : Int32))), .val (.ref b1_1), .val (.ref b1_2), .val (.ref b1_3), .val (.ref b1_4), .unset, .unset, .unset] [(.int (3 : Int32)), (.ref b5), (.ref b5)])) (fun _ k => XS.iconst X5.here hx rfl (hb hby at_69) k) ?_
  obtain ⟨_, _, ⟨T6, L6, k6, n6⟩, -, X6, ⟨Lc6, hQ6, l6, y6, z6⟩, st6⟩ := X5.specialBack hx (y := (⟨"com/example/antipode/antipode/problem/HammingDiversity", "<init>", "(I)V"⟩ : MethodName)) rfl hown (mvT hZ (hw _ (List.mem_of_getElem? (i := 9) rfl))) (mvT hZ (hw _ (List.mem_of_getElem? (i := 10) rfl))) (mvT hZ (hw _ (List.mem_of_getElem? (i := 11) rfl))) (by decide) (backOf (W := 1) (rm2 l Z aw hw [] b5 h5 n0 Z5 F_ones_b5 F_strings_b5 E_b5 g_b5) hZ (hw _ (List.mem_of_getElem? (i := 11) rfl)) (hw _ (List.mem_of_getElem? (i := 8) rfl)) (by decide) (by decide)) (g := (mkF m 70 #[.val (.int p0), .val (.int p1), .val (.int (f0_t0 p0)), .val (.int (p1 &&& (7 : Int32))), .val (.int ((f0_t1 p1) &&& (7 : Int32))), .val (.int ((f0_t2 p1) &&& (7 : Int32))), .val (.int ((f0_t3 p1) &&& (7 : Int32))), .val (.ref b1_1), .val (.ref b1_2), .val (.ref b1_3), .val (.ref b1_4), .unset, .unset, .unset] [(.int (3 : Int32)), (.ref b5), (.ref b5)])) rfl (by rw [hml]; rfl) (Steps.refl _) (a := b5) (argsL := [(.int (3 : Int32))]) (rest := [(.ref b5)]) (lenOf pd_4 rfl) rfl (by show 2 * 0 + _ ≤ _; exact Nat.le_of_eq rfl) (hb hby at_70) (fun _ _ => ⟨rfl, e5, (by decide : 5 + 1 ≤ _), (by decide : 14 + 3 ≤ _)⟩)
  dsimp only [Pt.U, Pt.locs, Pt.cells, Pt.slots] at X6 l6 y6 z6 st6 hQ6
  subst l6 y6 z6
  obtain ⟨b2_6, k2_6, rfl, N6q, Kc6, o6_0, o6_1, o6_2, o6_3, o6_4⟩ := hQ6
  have V_b1_1_6 := V_b1_1_5.keep Kc6 (ninS ne_b1_1_b5 nin0)
  have V_b1_2_6 := V_b1_2_5.keep Kc6 (ninS ne_b1_2_b5 nin0)
  have V_b1_3_6 := V_b1_3_5.keep Kc6 (ninS ne_b1_3_b5 nin0)
  have V_b1_4_6 := V_b1_4_5.keep Kc6 (ninS ne_b1_4_b5 nin0)
  have E_b5_6 := E_b5.keep Kc6
  have N6 := Fr.app N4 N6q
  have Z6 := Nat.le_trans Z5 Kc6.1
  have g_b2_6 : n0 ≤ b2_6 := Nat.le_trans Z5 o6_0
  have ne_b1_1_b2_6 : b1_1 ≠ b2_6 := Nat.ne_of_lt (Nat.lt_of_lt_of_le V_b1_1_5.lt o6_0)
  have ne_b1_2_b2_6 : b1_2 ≠ b2_6 := Nat.ne_of_lt (Nat.lt_of_lt_of_le V_b1_2_5.lt o6_0)
  have ne_b1_3_b2_6 : b1_3 ≠ b2_6 := Nat.ne_of_lt (Nat.lt_of_lt_of_le V_b1_3_5.lt o6_0)
  have ne_b1_4_b2_6 : b1_4 ≠ b2_6 := Nat.ne_of_lt (Nat.lt_of_lt_of_le V_b1_4_5.lt o6_0)
  have ne_b5_b2_6 : b5 ≠ b2_6 := Nat.ne_of_lt (Nat.lt_of_lt_of_le F_ones_b5.lt o6_0)
  refine go (B := T6.setTop (mkF m 73 #[.val (.int p0), .val (.int p1), .val (.int (f0_t0 p0)), .val (.int (p1 &&& (7 : Int32))), .val (.int ((f0_t1 p1) &&& (7 : Int32))), .val (.int ((f0_t2 p1) &&& (7 : Int32))), .val (.int ((f0_t3 p1) &&& (7 : Int32))), .val (.ref b1_1), .val (.ref b1_2), .val (.ref b1_3), .val (.ref b1_4), .unset, .unset, .unset] [(.ref b5)])) (fun _ k => st6.trans k) ?_
  refine go (B := T6.setTop (mkF m 75 #[.val (.int p0), .val (.int p1), .val (.int (f0_t0 p0)), .val (.int (p1 &&& (7 : Int32))), .val (.int ((f0_t1 p1) &&& (7 : Int32))), .val (.int ((f0_t2 p1) &&& (7 : Int32))), .val (.int ((f0_t3 p1) &&& (7 : Int32))), .val (.ref b1_1), .val (.ref b1_2), .val (.ref b1_3), .val (.ref b1_4), .val (.ref b5), .unset, .unset] [])) (fun _ k => XS.astore X6.here hx rfl (hb hby at_73) rfl rfl (l' := #[.val (.int p0), .val (.int p1), .val (.int (f0_t0 p0)), .val (.int (p1 &&& (7 : Int32))), .val (.int ((f0_t1 p1) &&& (7 : Int32))), .val (.int ((f0_t2 p1) &&& (7 : Int32))), .val (.int ((f0_t3 p1) &&& (7 : Int32))), .val (.ref b1_1), .val (.ref b1_2), .val (.ref b1_3), .val (.ref b1_4), .val (.ref b5), .unset, .unset]) rfl k) ?_
  refine go (B := T6.setTop (mkF m 76 #[.val (.int p0), .val (.int p1), .val (.int (f0_t0 p0)), .val (.int (p1 &&& (7 : Int32))), .val (.int ((f0_t1 p1) &&& (7 : Int32))), .val (.int ((f0_t2 p1) &&& (7 : Int32))), .val (.int ((f0_t3 p1) &&& (7 : Int32))), .val (.ref b1_1), .val (.ref b1_2), .val (.ref b1_3), .val (.ref b1_4), .val (.ref b5), .unset, .unset] [(.int (f0_t0 p0))])) (fun _ k => XS.iloadN X6.here hx rfl (hb hby at_75) rfl k) ?_
  by_cases hc7 : (0 : Int32) < (f0_t0 p0)
  · refine go (B := T6.setTop (mkF m 79 #[.val (.int p0), .val (.int p1), .val (.int (f0_t0 p0)), .val (.int (p1 &&& (7 : Int32))), .val (.int ((f0_t1 p1) &&& (7 : Int32))), .val (.int ((f0_t2 p1) &&& (7 : Int32))), .val (.int ((f0_t3 p1) &&& (7 : Int32))), .val (.ref b1_1), .val (.ref b1_2), .val (.ref b1_3), .val (.ref b1_4), .val (.ref b5), .unset, .unset] [])) (fun _ k => XS.ifNo X6.here hx rfl (hb hby at_76) rfl ((if0 _ _).trans (tlt hc7).2.2.2) k) ?_
    refine go (B := T6.setTop (mkF m 81 #[.val (.int p0), .val (.int p1), .val (.int (f0_t0 p0)), .val (.int (p1 &&& (7 : Int32))), .val (.int ((f0_t1 p1) &&& (7 : Int32))), .val (.int ((f0_t2 p1) &&& (7 : Int32))), .val (.int ((f0_t3 p1) &&& (7 : Int32))), .val (.ref b1_1), .val (.ref b1_2), .val (.ref b1_3), .val (.ref b1_4), .val (.ref b5), .unset, .unset] [(.ref b5)])) (fun _ k => XS.aload X6.here hx rfl (hb hby at_79) rfl rfl k) ?_
    refine go (B := T6.setTop (mkF m 83 #[.val (.int p0), .val (.int p1), .val (.int (f0_t0 p0)), .val (.int (p1 &&& (7 : Int32))), .val (.int ((f0_t1 p1) &&& (7 : Int32))), .val (.int ((f0_t2 p1) &&& (7 : Int32))), .val (.int ((f0_t3 p1) &&& (7 : Int32))), .val (.ref b1_1), .val (.ref b1_2), .val (.ref b1_3), .val (.ref b1_4), .val (.ref b5), .unset, .unset] [(.ref b1_1), (.ref b5)])) (fun _ k => XS.aload X6.here hx rfl (hb hby at_81) rfl rfl k) ?_
    obtain ⟨cq8, kq8, q8a, q8b, q8c⟩ := isOf hZ rfl o6_2
    obtain ⟨_, _, ⟨T8, L8, k8, n8⟩, -, X8, ⟨Lc8, hQ8, l8, y8, z8⟩, st8⟩ := X6.virtualBack hx (y := (⟨"com/example/antipode/antipode/problem/HammingDiversity", "add", "([Z)V"⟩ : MethodName)) (z := (⟨"com/example/antipode/antipode/problem/HammingDiversity", "add", "([Z)V"⟩ : MethodName)) hown (mvT hZ (hw _ (List.mem_of_getElem? (i := 35) rfl))) (mvT hZ (hw _ (List.mem_of_getElem? (i := 36) rfl))) (notFace_of_selects (args := #[]) (mvT hZ (hw _ (List.mem_of_getElem? (i := 38) rfl)))) (mvT hZ (hw _ (List.mem_of_getElem? (i := 38) rfl))) (mvT hZ (hw _ (List.mem_of_getElem? (i := 37) rfl))) (by decide) (backOf (W := 0) (rm8 l Z aw hw [] b5 b1_1 b2_6 (0 : Int64) k2_6 (0 : Int64) (0 : Int64) (0 : Int64) k1_1 (nar .boolean (f1_z0 (p1 &&& (7 : Int32)))) (nar .boolean (f1_z1 (p1 &&& (7 : Int32)))) (nar .boolean (f1_z2 (p1 &&& (7 : Int32)))) T6.heap n0 Z6 o6_3 o6_1 o6_2 o6_4 V_b1_1_6 (Ne.symm ne_b5_b2_6) (Ne.symm ne_b1_1_b2_6) (Ne.symm ne_b1_1_b5) g_b2_6 g_b5) hZ (hw _ (List.mem_of_getElem? (i := 39) rfl)) (hw _ (List.mem_of_getElem? (i := 8) rfl)) (by decide) (by decide)) q8a q8c (g := (mkF m 83 #[.val (.int p0), .val (.int p1), .val (.int (f0_t0 p0)), .val (.int (p1 &&& (7 : Int32))), .val (.int ((f0_t1 p1) &&& (7 : Int32))), .val (.int ((f0_t2 p1) &&& (7 : Int32))), .val (.int ((f0_t3 p1) &&& (7 : Int32))), .val (.ref b1_1), .val (.ref b1_2), .val (.ref b1_3), .val (.ref b1_4), .val (.ref b5), .unset, .unset] [(.ref b1_1), (.ref b5)])) rfl (by rw [hml]; rfl) (Steps.refl _) (argsL := [(.ref b1_1)]) (rest := []) (lenOf pd_5 rfl) rfl (by show 2 * 0 + _ ≤ _; exact Nat.le_of_eq rfl) (hb hby at_83) (fun _ _ => ⟨rfl, rfl, (by decide : 6 + 0 ≤ _), (by decide : 17 + 0 ≤ _)⟩)
    dsimp only [Pt.U, Pt.locs, Pt.cells, Pt.slots] at X8 l8 y8 z8 st8 hQ8
    subst l8 y8 z8
    obtain ⟨rfl, N8q, Kc8, o8_0, o8_1, o8_2, o8_3⟩ := hQ8
    have V_b1_1_8 := V_b1_1_6.keep Kc8 (ninS ne_b1_1_b5 (ninS ne_b1_1_b2_6 nin0))
    have V_b1_2_8 := V_b1_2_6.keep Kc8 (ninS ne_b1_2_b5 (ninS ne_b1_2_b2_6 nin0))
    have V_b1_3_8 := V_b1_3_6.keep Kc8 (ninS ne_b1_3_b5 (ninS ne_b1_3_b2_6 nin0))
    have V_b1_4_8 := V_b1_4_6.keep Kc8 (ninS ne_b1_4_b5 (ninS ne_b1_4_b2_6 nin0))
    have E_b5_8 := o6_2.keep Kc8
    have N8 := Fr.app N6 N8q
    have Z8 := Nat.le_trans Z6 Kc8.1
    refine go (B := T8.setTop (mkF m 86 #[.val (.int p0), .val (.int p1), .val (.int (f0_t0 p0)), .val (.int (p1 &&& (7 : Int32))), .val (.int ((f0_t1 p1) &&& (7 : Int32))), .val (.int ((f0_t2 p1) &&& (7 : Int32))), .val (.int ((f0_t3 p1) &&& (7 : Int32))), .val (.ref b1_1), .val (.ref b1_2), .val (.ref b1_3), .val (.ref b1_4), .val (.ref b5), .unset, .unset] [])) (fun _ k => st8.trans k) ?_
    refine go (B := T8.setTop (mkF m 87 #[.val (.int p0), .val (.int p1), .val (.int (f0_t0 p0)), .val (.int (p1 &&& (7 : Int32))), .val (.int ((f0_t1 p1) &&& (7 : Int32))), .val (.int ((f0_t2 p1) &&& (7 : Int32))), .val (.int ((f0_t3 p1) &&& (7 : Int32))), .val (.ref b1_1), .val (.ref b1_2), .val (.ref b1_3), .val (.ref b1_4), .val (.ref b5), .unset, .unset] [(.int (f0_t0 p0))])) (fun _ k => XS.iloadN X8.here hx rfl (hb hby at_86) rfl k) ?_
    refine go (B := T8.setTop (mkF m 88 #[.val (.int p0), .val (.int p1), .val (.int (f0_t0 p0)), .val (.int (p1 &&& (7 : Int32))), .val (.int ((f0_t1 p1) &&& (7 : Int32))), .val (.int ((f0_t2 p1) &&& (7 : Int32))), .val (.int ((f0_t3 p1) &&& (7 : Int32))), .val (.ref b1_1), .val (.ref b1_2), .val (.ref b1_3), .val (.ref b1_4), .val (.ref b5), .unset, .unset] [(.int (1 : Int32)), (.int (f0_t0 p0))])) (fun _ k => XS.iconst X8.here hx rfl (hb hby at_87) k) ?_
    by_cases hc9 : (1 : Int32) < (f0_t0 p0)
    · refine go (B := T8.setTop (mkF m 91 #[.val (.int p0), .val (.int p1), .val (.int (f0_t0 p0)), .val (.int (p1 &&& (7 : Int32))), .val (.int ((f0_t1 p1) &&& (7 : Int32))), .val (.int ((f0_t2 p1) &&& (7 : Int32))), .val (.int ((f0_t3 p1) &&& (7 : Int32))), .val (.ref b1_1), .val (.ref b1_2), .val (.ref b1_3), .val (.ref b1_4), .val (.ref b5), .unset, .unset] [])) (fun _ k => XS.icmpNo X8.here hx rfl (hb hby at_88) rfl (tlt hc9).2.2.2 k) ?_
      refine go (B := T8.setTop (mkF m 93 #[.val (.int p0), .val (.int p1), .val (.int (f0_t0 p0)), .val (.int (p1 &&& (7 : Int32))), .val (.int ((f0_t1 p1) &&& (7 : Int32))), .val (.int ((f0_t2 p1) &&& (7 : Int32))), .val (.int ((f0_t3 p1) &&& (7 : Int32))), .val (.ref b1_1), .val (.ref b1_2), .val (.ref b1_3), .val (.ref b1_4), .val (.ref b5), .unset, .unset] [(.ref b5)])) (fun _ k => XS.aload X8.here hx rfl (hb hby at_91) rfl rfl k) ?_
      refine go (B := T8.setTop (mkF m 95 #[.val (.int p0), .val (.int p1), .val (.int (f0_t0 p0)), .val (.int (p1 &&& (7 : Int32))), .val (.int ((f0_t1 p1) &&& (7 : Int32))), .val (.int ((f0_t2 p1) &&& (7 : Int32))), .val (.int ((f0_t3 p1) &&& (7 : Int32))), .val (.ref b1_1), .val (.ref b1_2), .val (.ref b1_3), .val (.ref b1_4), .val (.ref b5), .unset, .unset] [(.ref b1_2), (.ref b5)])) (fun _ k => XS.aload X8.here hx rfl (hb hby at_93) rfl rfl k) ?_
      obtain ⟨cq10, kq10, q10a, q10b, q10c⟩ := isOf hZ rfl o8_1
      obtain ⟨_, _, ⟨T10, L10, k10, n10⟩, -, X10, ⟨Lc10, hQ10, l10, y10, z10⟩, st10⟩ := X8.virtualBack hx (y := (⟨"com/example/antipode/antipode/problem/HammingDiversity", "add", "([Z)V"⟩ : MethodName)) (z := (⟨"com/example/antipode/antipode/problem/HammingDiversity", "add", "([Z)V"⟩ : MethodName)) hown (mvT hZ (hw _ (List.mem_of_getElem? (i := 35) rfl))) (mvT hZ (hw _ (List.mem_of_getElem? (i := 36) rfl))) (notFace_of_selects (args := #[]) (mvT hZ (hw _ (List.mem_of_getElem? (i := 38) rfl)))) (mvT hZ (hw _ (List.mem_of_getElem? (i := 38) rfl))) (mvT hZ (hw _ (List.mem_of_getElem? (i := 37) rfl))) (by decide) (backOf (W := 0) (rm8 l Z aw hw [] b5 b1_2 b2_6 ((0 : Int64) + (1 : Int64)) k2_6 ((0 : Int64) + (f8_z0 (nar .boolean (f1_z0 (p1 &&& (7 : Int32)))))) ((0 : Int64) + (f8_z1 (nar .boolean (f1_z1 (p1 &&& (7 : Int32)))))) ((0 : Int64) + (f8_z2 (nar .boolean (f1_z2 (p1 &&& (7 : Int32)))))) k1_2 (nar .boolean (f1_z0 ((f0_t1 p1) &&& (7 : Int32)))) (nar .boolean (f1_z1 ((f0_t1 p1) &&& (7 : Int32)))) (nar .boolean (f1_z2 ((f0_t1 p1) &&& (7 : Int32)))) T8.heap n0 Z8 o8_0 o8_2 o8_1 o8_3 V_b1_2_8 (Ne.symm ne_b5_b2_6) (Ne.symm ne_b1_2_b2_6) (Ne.symm ne_b1_2_b5) g_b2_6 g_b5) hZ (hw _ (List.mem_of_getElem? (i := 39) rfl)) (hw _ (List.mem_of_getElem? (i := 8) rfl)) (by decide) (by decide)) q10a q10c (g := (mkF m 95 #[.val (.int p0), .val (.int p1), .val (.int (f0_t0 p0)), .val (.int (p1 &&& (7 : Int32))), .val (.int ((f0_t1 p1) &&& (7 : Int32))), .val (.int ((f0_t2 p1) &&& (7 : Int32))), .val (.int ((f0_t3 p1) &&& (7 : Int32))), .val (.ref b1_1), .val (.ref b1_2), .val (.ref b1_3), .val (.ref b1_4), .val (.ref b5), .unset, .unset] [(.ref b1_2), (.ref b5)])) rfl (by rw [hml]; rfl) (Steps.refl _) (argsL := [(.ref b1_2)]) (rest := []) (lenOf pd_5 rfl) rfl (by show 2 * 0 + _ ≤ _; exact Nat.le_of_eq rfl) (hb hby at_95) (fun _ _ => ⟨rfl, rfl, (by decide : 6 + 0 ≤ _), (by decide : 17 + 0 ≤ _)⟩)
      dsimp only [Pt.U, Pt.locs, Pt.cells, Pt.slots] at X10 l10 y10 z10 st10 hQ10
      subst l10 y10 z10
      obtain ⟨rfl, N10q, Kc10, o10_0, o10_1, o10_2, o10_3⟩ := hQ10
      have V_b1_1_10 := V_b1_1_8.keep Kc10 (ninS ne_b1_1_b5 (ninS ne_b1_1_b2_6 nin0))
      have V_b1_2_10 := V_b1_2_8.keep Kc10 (ninS ne_b1_2_b5 (ninS ne_b1_2_b2_6 nin0))
      have V_b1_3_10 := V_b1_3_8.keep Kc10 (ninS ne_b1_3_b5 (ninS ne_b1_3_b2_6 nin0))
      have V_b1_4_10 := V_b1_4_8.keep Kc10 (ninS ne_b1_4_b5 (ninS ne_b1_4_b2_6 nin0))
      have E_b5_10 := o8_1.keep Kc10
      have N10 := Fr.app N8 N10q
      have Z10 := Nat.le_trans Z8 Kc10.1
      refine go (B := T10.setTop (mkF m 98 #[.val (.int p0), .val (.int p1), .val (.int (f0_t0 p0)), .val (.int (p1 &&& (7 : Int32))), .val (.int ((f0_t1 p1) &&& (7 : Int32))), .val (.int ((f0_t2 p1) &&& (7 : Int32))), .val (.int ((f0_t3 p1) &&& (7 : Int32))), .val (.ref b1_1), .val (.ref b1_2), .val (.ref b1_3), .val (.ref b1_4), .val (.ref b5), .unset, .unset] [])) (fun _ k => st10.trans k) ?_
      refine go (B := T10.setTop (mkF m 99 #[.val (.int p0), .val (.int p1), .val (.int (f0_t0 p0)), .val (.int (p1 &&& (7 : Int32))), .val (.int ((f0_t1 p1) &&& (7 : Int32))), .val (.int ((f0_t2 p1) &&& (7 : Int32))), .val (.int ((f0_t3 p1) &&& (7 : Int32))), .val (.ref b1_1), .val (.ref b1_2), .val (.ref b1_3), .val (.ref b1_4), .val (.ref b5), .unset, .unset] [(.int (f0_t0 p0))])) (fun _ k => XS.iloadN X10.here hx rfl (hb hby at_98) rfl k) ?_
      refine go (B := T10.setTop (mkF m 100 #[.val (.int p0), .val (.int p1), .val (.int (f0_t0 p0)), .val (.int (p1 &&& (7 : Int32))), .val (.int ((f0_t1 p1) &&& (7 : Int32))), .val (.int ((f0_t2 p1) &&& (7 : Int32))), .val (.int ((f0_t3 p1) &&& (7 : Int32))), .val (.ref b1_1), .val (.ref b1_2), .val (.ref b1_3), .val (.ref b1_4), .val (.ref b5), .unset, .unset] [(.int (2 : Int32)), (.int (f0_t0 p0))])) (fun _ k => XS.iconst X10.here hx rfl (hb hby at_99) k) ?_
      by_cases hc11 : (2 : Int32) < (f0_t0 p0)
      · refine go (B := T10.setTop (mkF m 103 #[.val (.int p0), .val (.int p1), .val (.int (f0_t0 p0)), .val (.int (p1 &&& (7 : Int32))), .val (.int ((f0_t1 p1) &&& (7 : Int32))), .val (.int ((f0_t2 p1) &&& (7 : Int32))), .val (.int ((f0_t3 p1) &&& (7 : Int32))), .val (.ref b1_1), .val (.ref b1_2), .val (.ref b1_3), .val (.ref b1_4), .val (.ref b5), .unset, .unset] [])) (fun _ k => XS.icmpNo X10.here hx rfl (hb hby at_100) rfl (tlt hc11).2.2.2 k) ?_
        refine go (B := T10.setTop (mkF m 105 #[.val (.int p0), .val (.int p1), .val (.int (f0_t0 p0)), .val (.int (p1 &&& (7 : Int32))), .val (.int ((f0_t1 p1) &&& (7 : Int32))), .val (.int ((f0_t2 p1) &&& (7 : Int32))), .val (.int ((f0_t3 p1) &&& (7 : Int32))), .val (.ref b1_1), .val (.ref b1_2), .val (.ref b1_3), .val (.ref b1_4), .val (.ref b5), .unset, .unset] [(.ref b5)])) (fun _ k => XS.aload X10.here hx rfl (hb hby at_103) rfl rfl k) ?_
        refine go (B := T10.setTop (mkF m 107 #[.val (.int p0), .val (.int p1), .val (.int (f0_t0 p0)), .val (.int (p1 &&& (7 : Int32))), .val (.int ((f0_t1 p1) &&& (7 : Int32))), .val (.int ((f0_t2 p1) &&& (7 : Int32))), .val (.int ((f0_t3 p1) &&& (7 : Int32))), .val (.ref b1_1), .val (.ref b1_2), .val (.ref b1_3), .val (.ref b1_4), .val (.ref b5), .unset, .unset] [(.ref b1_3), (.ref b5)])) (fun _ k => XS.aload X10.here hx rfl (hb hby at_105) rfl rfl k) ?_
        obtain ⟨cq12, kq12, q12a, q12b, q12c⟩ := isOf hZ rfl o10_1
        obtain ⟨_, _, ⟨T12, L12, k12, n12⟩, -, X12, ⟨Lc12, hQ12, l12, y12, z12⟩, st12⟩ := X10.virtualBack hx (y := (⟨"com/example/antipode/antipode/problem/HammingDiversity", "add", "([Z)V"⟩ : MethodName)) (z := (⟨"com/example/antipode/antipode/problem/HammingDiversity", "add", "([Z)V"⟩ : MethodName)) hown (mvT hZ (hw _ (List.mem_of_getElem? (i := 35) rfl))) (mvT hZ (hw _ (List.mem_of_getElem? (i := 36) rfl))) (notFace_of_selects (args := #[]) (mvT hZ (hw _ (List.mem_of_getElem? (i := 38) rfl)))) (mvT hZ (hw _ (List.mem_of_getElem? (i := 38) rfl))) (mvT hZ (hw _ (List.mem_of_getElem? (i := 37) rfl))) (by decide) (backOf (W := 0) (rm8 l Z aw hw [] b5 b1_3 b2_6 (((0 : Int64) + (1 : Int64)) + (1 : Int64)) k2_6 (((0 : Int64) + (f8_z0 (nar .boolean (f1_z0 (p1 &&& (7 : Int32)))))) + (f8_z0 (nar .boolean (f1_z0 ((f0_t1 p1) &&& (7 : Int32)))))) (((0 : Int64) + (f8_z1 (nar .boolean (f1_z1 (p1 &&& (7 : Int32)))))) + (f8_z1 (nar .boolean (f1_z1 ((f0_t1 p1) &&& (7 : Int32)))))) (((0 : Int64) + (f8_z2 (nar .boolean (f1_z2 (p1 &&& (7 : Int32)))))) + (f8_z2 (nar .boolean (f1_z2 ((f0_t1 p1) &&& (7 : Int32)))))) k1_3 (nar .boolean (f1_z0 ((f0_t2 p1) &&& (7 : Int32)))) (nar .boolean (f1_z1 ((f0_t2 p1) &&& (7 : Int32)))) (nar .boolean (f1_z2 ((f0_t2 p1) &&& (7 : Int32)))) T10.heap n0 Z10 o10_0 o10_2 o10_1 o10_3 V_b1_3_10 (Ne.symm ne_b5_b2_6) (Ne.symm ne_b1_3_b2_6) (Ne.symm ne_b1_3_b5) g_b2_6 g_b5) hZ (hw _ (List.mem_of_getElem? (i := 39) rfl)) (hw _ (List.mem_of_getElem? (i := 8) rfl)) (by decide) (by decide)) q12a q12c (g := (mkF m 107 #[.val (.int p0), .val (.int p1), .val (.int (f0_t0 p0)), .val (.int (p1 &&& (7 : Int32))), .val (.int ((f0_t1 p1) &&& (7 : Int32))), .val (.int ((f0_t2 p1) &&& (7 : Int32))), .val (.int ((f0_t3 p1) &&& (7 : Int32))), .val (.ref b1_1), .val (.ref b1_2), .val (.ref b1_3), .val (.ref b1_4), .val (.ref b5), .unset, .unset] [(.ref b1_3), (.ref b5)])) rfl (by rw [hml]; rfl) (Steps.refl _) (argsL := [(.ref b1_3)]) (rest := []) (lenOf pd_5 rfl) rfl (by show 2 * 0 + _ ≤ _; exact Nat.le_of_eq rfl) (hb hby at_107) (fun _ _ => ⟨rfl, rfl, (by decide : 6 + 0 ≤ _), (by decide : 17 + 0 ≤ _)⟩)
        dsimp only [Pt.U, Pt.locs, Pt.cells, Pt.slots] at X12 l12 y12 z12 st12 hQ12
        subst l12 y12 z12
        obtain ⟨rfl, N12q, Kc12, o12_0, o12_1, o12_2, o12_3⟩ := hQ12
        have V_b1_1_12 := V_b1_1_10.keep Kc12 (ninS ne_b1_1_b5 (ninS ne_b1_1_b2_6 nin0))
        have V_b1_2_12 := V_b1_2_10.keep Kc12 (ninS ne_b1_2_b5 (ninS ne_b1_2_b2_6 nin0))
        have V_b1_3_12 := V_b1_3_10.keep Kc12 (ninS ne_b1_3_b5 (ninS ne_b1_3_b2_6 nin0))
        have V_b1_4_12 := V_b1_4_10.keep Kc12 (ninS ne_b1_4_b5 (ninS ne_b1_4_b2_6 nin0))
        have E_b5_12 := o10_1.keep Kc12
        have N12 := Fr.app N10 N12q
        have Z12 := Nat.le_trans Z10 Kc12.1
        refine go (B := T12.setTop (mkF m 110 #[.val (.int p0), .val (.int p1), .val (.int (f0_t0 p0)), .val (.int (p1 &&& (7 : Int32))), .val (.int ((f0_t1 p1) &&& (7 : Int32))), .val (.int ((f0_t2 p1) &&& (7 : Int32))), .val (.int ((f0_t3 p1) &&& (7 : Int32))), .val (.ref b1_1), .val (.ref b1_2), .val (.ref b1_3), .val (.ref b1_4), .val (.ref b5), .unset, .unset] [])) (fun _ k => st12.trans k) ?_
        refine go (B := T12.setTop (mkF m 111 #[.val (.int p0), .val (.int p1), .val (.int (f0_t0 p0)), .val (.int (p1 &&& (7 : Int32))), .val (.int ((f0_t1 p1) &&& (7 : Int32))), .val (.int ((f0_t2 p1) &&& (7 : Int32))), .val (.int ((f0_t3 p1) &&& (7 : Int32))), .val (.ref b1_1), .val (.ref b1_2), .val (.ref b1_3), .val (.ref b1_4), .val (.ref b5), .unset, .unset] [(.int (f0_t0 p0))])) (fun _ k => XS.iloadN X12.here hx rfl (hb hby at_110) rfl k) ?_
        refine go (B := T12.setTop (mkF m 112 #[.val (.int p0), .val (.int p1), .val (.int (f0_t0 p0)), .val (.int (p1 &&& (7 : Int32))), .val (.int ((f0_t1 p1) &&& (7 : Int32))), .val (.int ((f0_t2 p1) &&& (7 : Int32))), .val (.int ((f0_t3 p1) &&& (7 : Int32))), .val (.ref b1_1), .val (.ref b1_2), .val (.ref b1_3), .val (.ref b1_4), .val (.ref b5), .unset, .unset] [(.int (3 : Int32)), (.int (f0_t0 p0))])) (fun _ k => XS.iconst X12.here hx rfl (hb hby at_111) k) ?_
        by_cases hc13 : (3 : Int32) < (f0_t0 p0)
        · refine go (B := T12.setTop (mkF m 115 #[.val (.int p0), .val (.int p1), .val (.int (f0_t0 p0)), .val (.int (p1 &&& (7 : Int32))), .val (.int ((f0_t1 p1) &&& (7 : Int32))), .val (.int ((f0_t2 p1) &&& (7 : Int32))), .val (.int ((f0_t3 p1) &&& (7 : Int32))), .val (.ref b1_1), .val (.ref b1_2), .val (.ref b1_3), .val (.ref b1_4), .val (.ref b5), .unset, .unset] [])) (fun _ k => XS.icmpNo X12.here hx rfl (hb hby at_112) rfl (tlt hc13).2.2.2 k) ?_
          refine go (B := T12.setTop (mkF m 117 #[.val (.int p0), .val (.int p1), .val (.int (f0_t0 p0)), .val (.int (p1 &&& (7 : Int32))), .val (.int ((f0_t1 p1) &&& (7 : Int32))), .val (.int ((f0_t2 p1) &&& (7 : Int32))), .val (.int ((f0_t3 p1) &&& (7 : Int32))), .val (.ref b1_1), .val (.ref b1_2), .val (.ref b1_3), .val (.ref b1_4), .val (.ref b5), .unset, .unset] [(.ref b5)])) (fun _ k => XS.aload X12.here hx rfl (hb hby at_115) rfl rfl k) ?_
          refine go (B := T12.setTop (mkF m 119 #[.val (.int p0), .val (.int p1), .val (.int (f0_t0 p0)), .val (.int (p1 &&& (7 : Int32))), .val (.int ((f0_t1 p1) &&& (7 : Int32))), .val (.int ((f0_t2 p1) &&& (7 : Int32))), .val (.int ((f0_t3 p1) &&& (7 : Int32))), .val (.ref b1_1), .val (.ref b1_2), .val (.ref b1_3), .val (.ref b1_4), .val (.ref b5), .unset, .unset] [(.ref b1_4), (.ref b5)])) (fun _ k => XS.aload X12.here hx rfl (hb hby at_117) rfl rfl k) ?_
          obtain ⟨cq14, kq14, q14a, q14b, q14c⟩ := isOf hZ rfl o12_1
          obtain ⟨_, _, ⟨T14, L14, k14, n14⟩, -, X14, ⟨Lc14, hQ14, l14, y14, z14⟩, st14⟩ := X12.virtualBack hx (y := (⟨"com/example/antipode/antipode/problem/HammingDiversity", "add", "([Z)V"⟩ : MethodName)) (z := (⟨"com/example/antipode/antipode/problem/HammingDiversity", "add", "([Z)V"⟩ : MethodName)) hown (mvT hZ (hw _ (List.mem_of_getElem? (i := 35) rfl))) (mvT hZ (hw _ (List.mem_of_getElem? (i := 36) rfl))) (notFace_of_selects (args := #[]) (mvT hZ (hw _ (List.mem_of_getElem? (i := 38) rfl)))) (mvT hZ (hw _ (List.mem_of_getElem? (i := 38) rfl))) (mvT hZ (hw _ (List.mem_of_getElem? (i := 37) rfl))) (by decide) (backOf (W := 0) (rm8 l Z aw hw [] b5 b1_4 b2_6 ((((0 : Int64) + (1 : Int64)) + (1 : Int64)) + (1 : Int64)) k2_6 ((((0 : Int64) + (f8_z0 (nar .boolean (f1_z0 (p1 &&& (7 : Int32)))))) + (f8_z0 (nar .boolean (f1_z0 ((f0_t1 p1) &&& (7 : Int32)))))) + (f8_z0 (nar .boolean (f1_z0 ((f0_t2 p1) &&& (7 : Int32)))))) ((((0 : Int64) + (f8_z1 (nar .boolean (f1_z1 (p1 &&& (7 : Int32)))))) + (f8_z1 (nar .boolean (f1_z1 ((f0_t1 p1) &&& (7 : Int32)))))) + (f8_z1 (nar .boolean (f1_z1 ((f0_t2 p1) &&& (7 : Int32)))))) ((((0 : Int64) + (f8_z2 (nar .boolean (f1_z2 (p1 &&& (7 : Int32)))))) + (f8_z2 (nar .boolean (f1_z2 ((f0_t1 p1) &&& (7 : Int32)))))) + (f8_z2 (nar .boolean (f1_z2 ((f0_t2 p1) &&& (7 : Int32)))))) k1_4 (nar .boolean (f1_z0 ((f0_t3 p1) &&& (7 : Int32)))) (nar .boolean (f1_z1 ((f0_t3 p1) &&& (7 : Int32)))) (nar .boolean (f1_z2 ((f0_t3 p1) &&& (7 : Int32)))) T12.heap n0 Z12 o12_0 o12_2 o12_1 o12_3 V_b1_4_12 (Ne.symm ne_b5_b2_6) (Ne.symm ne_b1_4_b2_6) (Ne.symm ne_b1_4_b5) g_b2_6 g_b5) hZ (hw _ (List.mem_of_getElem? (i := 39) rfl)) (hw _ (List.mem_of_getElem? (i := 8) rfl)) (by decide) (by decide)) q14a q14c (g := (mkF m 119 #[.val (.int p0), .val (.int p1), .val (.int (f0_t0 p0)), .val (.int (p1 &&& (7 : Int32))), .val (.int ((f0_t1 p1) &&& (7 : Int32))), .val (.int ((f0_t2 p1) &&& (7 : Int32))), .val (.int ((f0_t3 p1) &&& (7 : Int32))), .val (.ref b1_1), .val (.ref b1_2), .val (.ref b1_3), .val (.ref b1_4), .val (.ref b5), .unset, .unset] [(.ref b1_4), (.ref b5)])) rfl (by rw [hml]; rfl) (Steps.refl _) (argsL := [(.ref b1_4)]) (rest := []) (lenOf pd_5 rfl) rfl (by show 2 * 0 + _ ≤ _; exact Nat.le_of_eq rfl) (hb hby at_119) (fun _ _ => ⟨rfl, rfl, (by decide : 6 + 0 ≤ _), (by decide : 17 + 0 ≤ _)⟩)
          dsimp only [Pt.U, Pt.locs, Pt.cells, Pt.slots] at X14 l14 y14 z14 st14 hQ14
          subst l14 y14 z14
          obtain ⟨rfl, N14q, Kc14, o14_0, o14_1, o14_2, o14_3⟩ := hQ14
          have V_b1_1_14 := V_b1_1_12.keep Kc14 (ninS ne_b1_1_b5 (ninS ne_b1_1_b2_6 nin0))
          have V_b1_2_14 := V_b1_2_12.keep Kc14 (ninS ne_b1_2_b5 (ninS ne_b1_2_b2_6 nin0))
          have V_b1_3_14 := V_b1_3_12.keep Kc14 (ninS ne_b1_3_b5 (ninS ne_b1_3_b2_6 nin0))
          have V_b1_4_14 := V_b1_4_12.keep Kc14 (ninS ne_b1_4_b5 (ninS ne_b1_4_b2_6 nin0))
          have E_b5_14 := o12_1.keep Kc14
          have N14 := Fr.app N12 N14q
          have Z14 := Nat.le_trans Z12 Kc14.1
          refine go (B := T14.setTop (mkF m 122 #[.val (.int p0), .val (.int p1), .val (.int (f0_t0 p0)), .val (.int (p1 &&& (7 : Int32))), .val (.int ((f0_t1 p1) &&& (7 : Int32))), .val (.int ((f0_t2 p1) &&& (7 : Int32))), .val (.int ((f0_t3 p1) &&& (7 : Int32))), .val (.ref b1_1), .val (.ref b1_2), .val (.ref b1_3), .val (.ref b1_4), .val (.ref b5), .unset, .unset] [])) (fun _ k => st14.trans k) ?_
          refine go (B := T14.setTop (mkF m 123 #[.val (.int p0), .val (.int p1), .val (.int (f0_t0 p0)), .val (.int (p1 &&& (7 : Int32))), .val (.int ((f0_t1 p1) &&& (7 : Int32))), .val (.int ((f0_t2 p1) &&& (7 : Int32))), .val (.int ((f0_t3 p1) &&& (7 : Int32))), .val (.ref b1_1), .val (.ref b1_2), .val (.ref b1_3), .val (.ref b1_4), .val (.ref b5), .unset, .unset] [(.long (0 : Int64))])) (fun _ k => XS.lconst X14.here hx rfl (hb hby at_122) k) ?_
          refine go (B := T14.setTop (mkF m 125 #[.val (.int p0), .val (.int p1), .val (.int (f0_t0 p0)), .val (.int (p1 &&& (7 : Int32))), .val (.int ((f0_t1 p1) &&& (7 : Int32))), .val (.int ((f0_t2 p1) &&& (7 : Int32))), .val (.int ((f0_t3 p1) &&& (7 : Int32))), .val (.ref b1_1), .val (.ref b1_2), .val (.ref b1_3), .val (.ref b1_4), .val (.ref b5), .val (.long (0 : Int64)), .second] [])) (fun _ k => XS.lstore X14.here hx rfl (hb hby at_123) rfl (l' := #[.val (.int p0), .val (.int p1), .val (.int (f0_t0 p0)), .val (.int (p1 &&& (7 : Int32))), .val (.int ((f0_t1 p1) &&& (7 : Int32))), .val (.int ((f0_t2 p1) &&& (7 : Int32))), .val (.int ((f0_t3 p1) &&& (7 : Int32))), .val (.ref b1_1), .val (.ref b1_2), .val (.ref b1_3), .val (.ref b1_4), .val (.ref b5), .val (.long (0 : Int64)), .second]) rfl k) ?_
          refine go (B := T14.setTop (mkF m 126 #[.val (.int p0), .val (.int p1), .val (.int (f0_t0 p0)), .val (.int (p1 &&& (7 : Int32))), .val (.int ((f0_t1 p1) &&& (7 : Int32))), .val (.int ((f0_t2 p1) &&& (7 : Int32))), .val (.int ((f0_t3 p1) &&& (7 : Int32))), .val (.ref b1_1), .val (.ref b1_2), .val (.ref b1_3), .val (.ref b1_4), .val (.ref b5), .val (.long (0 : Int64)), .second] [(.int (f0_t0 p0))])) (fun _ k => XS.iloadN X14.here hx rfl (hb hby at_125) rfl k) ?_
          refine go (B := T14.setTop (mkF m 127 #[.val (.int p0), .val (.int p1), .val (.int (f0_t0 p0)), .val (.int (p1 &&& (7 : Int32))), .val (.int ((f0_t1 p1) &&& (7 : Int32))), .val (.int ((f0_t2 p1) &&& (7 : Int32))), .val (.int ((f0_t3 p1) &&& (7 : Int32))), .val (.ref b1_1), .val (.ref b1_2), .val (.ref b1_3), .val (.ref b1_4), .val (.ref b5), .val (.long (0 : Int64)), .second] [(.int (1 : Int32)), (.int (f0_t0 p0))])) (fun _ k => XS.iconst X14.here hx rfl (hb hby at_126) k) ?_
          refine go (B := T14.setTop (mkF m 130 #[.val (.int p0), .val (.int p1), .val (.int (f0_t0 p0)), .val (.int (p1 &&& (7 : Int32))), .val (.int ((f0_t1 p1) &&& (7 : Int32))), .val (.int ((f0_t2 p1) &&& (7 : Int32))), .val (.int ((f0_t3 p1) &&& (7 : Int32))), .val (.ref b1_1), .val (.ref b1_2), .val (.ref b1_3), .val (.ref b1_4), .val (.ref b5), .val (.long (0 : Int64)), .second] [])) (fun _ k => XS.icmpNo X14.here hx rfl (hb hby at_127) rfl (tlt hc9).2.2.2 k) ?_
          refine go (B := T14.setTop (mkF m 132 #[.val (.int p0), .val (.int p1), .val (.int (f0_t0 p0)), .val (.int (p1 &&& (7 : Int32))), .val (.int ((f0_t1 p1) &&& (7 : Int32))), .val (.int ((f0_t2 p1) &&& (7 : Int32))), .val (.int ((f0_t3 p1) &&& (7 : Int32))), .val (.ref b1_1), .val (.ref b1_2), .val (.ref b1_3), .val (.ref b1_4), .val (.ref b5), .val (.long (0 : Int64)), .second] [(.long (0 : Int64))])) (fun _ k => XS.lload X14.here hx rfl (hb hby at_130) rfl k) ?_
          refine go (B := T14.setTop (mkF m 133 #[.val (.int p0), .val (.int p1), .val (.int (f0_t0 p0)), .val (.int (p1 &&& (7 : Int32))), .val (.int ((f0_t1 p1) &&& (7 : Int32))), .val (.int ((f0_t2 p1) &&& (7 : Int32))), .val (.int ((f0_t3 p1) &&& (7 : Int32))), .val (.ref b1_1), .val (.ref b1_2), .val (.ref b1_3), .val (.ref b1_4), .val (.ref b5), .val (.long (0 : Int64)), .second] [(.int (p1 &&& (7 : Int32))), (.long (0 : Int64))])) (fun _ k => XS.iloadN X14.here hx rfl (hb hby at_132) rfl k) ?_
          refine go (B := T14.setTop (mkF m 135 #[.val (.int p0), .val (.int p1), .val (.int (f0_t0 p0)), .val (.int (p1 &&& (7 : Int32))), .val (.int ((f0_t1 p1) &&& (7 : Int32))), .val (.int ((f0_t2 p1) &&& (7 : Int32))), .val (.int ((f0_t3 p1) &&& (7 : Int32))), .val (.ref b1_1), .val (.ref b1_2), .val (.ref b1_3), .val (.ref b1_4), .val (.ref b5), .val (.long (0 : Int64)), .second] [(.int ((f0_t1 p1) &&& (7 : Int32))), (.int (p1 &&& (7 : Int32))), (.long (0 : Int64))])) (fun _ k => XS.iload X14.here hx rfl (hb hby at_133) rfl k) ?_
          obtain ⟨_, _, ⟨T15, L15, k15, n15⟩, -, X15, ⟨Lc15, hQ15, l15, y15, z15⟩, st15⟩ := Jvm.LawKit.callS X14 hx (y := (⟨"com/example/antipode/antipode/problem/HammingDiversityAddPinLaw", "d", "(II)J"⟩ : MethodName)) hown (mvT hZ (hw _ (List.mem_of_getElem? (i := 40) rfl))) (mvT hZ (hw _ (List.mem_of_getElem? (i := 41) rfl))) (mvT hZ (hw _ (List.mem_of_getElem? (i := 3) rfl))) (mvT hZ (hw _ (List.mem_of_getElem? (i := 42) rfl))) (by decide) (backOf (W := 2) (rm9 l Z aw hw [] (p1 &&& (7 : Int32)) ((f0_t1 p1) &&& (7 : Int32)) T14.heap n0 Z14 ) hZ (hw _ (List.mem_of_getElem? (i := 42) rfl)) (hw _ (List.mem_of_getElem? (i := 3) rfl)) (by decide) (by decide)) (g := (mkF m 135 #[.val (.int p0), .val (.int p1), .val (.int (f0_t0 p0)), .val (.int (p1 &&& (7 : Int32))), .val (.int ((f0_t1 p1) &&& (7 : Int32))), .val (.int ((f0_t2 p1) &&& (7 : Int32))), .val (.int ((f0_t3 p1) &&& (7 : Int32))), .val (.ref b1_1), .val (.ref b1_2), .val (.ref b1_3), .val (.ref b1_4), .val (.ref b5), .val (.long (0 : Int64)), .second] [(.int ((f0_t1 p1) &&& (7 : Int32))), (.int (p1 &&& (7 : Int32))), (.long (0 : Int64))])) rfl (by rw [hml]; rfl) (argsL := [(.int (p1 &&& (7 : Int32))), (.int ((f0_t1 p1) &&& (7 : Int32)))]) (rest := [(.long (0 : Int64))]) (lenOf pd_6 rfl) rfl (by show 2 * 0 + _ ≤ _; exact Nat.le_of_eq rfl) (hb hby at_135) (fun _ _ => ⟨rfl, rfl, (by decide : 6 + 0 ≤ _), (by decide : 17 + 0 ≤ _)⟩)
          dsimp only [Pt.U, Pt.locs, Pt.cells, Pt.slots] at X15 l15 y15 z15 st15 hQ15
          subst l15 y15 z15
          obtain ⟨rfl, rfl, e15⟩ := hQ15
          have N15 := Fr.app N14 (Fr.nil n0)
          refine go (B := T15.setTop (mkF m 138 #[.val (.int p0), .val (.int p1), .val (.int (f0_t0 p0)), .val (.int (p1 &&& (7 : Int32))), .val (.int ((f0_t1 p1) &&& (7 : Int32))), .val (.int ((f0_t2 p1) &&& (7 : Int32))), .val (.int ((f0_t3 p1) &&& (7 : Int32))), .val (.ref b1_1), .val (.ref b1_2), .val (.ref b1_3), .val (.ref b1_4), .val (.ref b5), .val (.long (0 : Int64)), .second] [(.long (f0_t4 p1)), (.long (0 : Int64))])) (fun _ k => st15 _ k) ?_
          refine go (B := T15.setTop (mkF m 139 #[.val (.int p0), .val (.int p1), .val (.int (f0_t0 p0)), .val (.int (p1 &&& (7 : Int32))), .val (.int ((f0_t1 p1) &&& (7 : Int32))), .val (.int ((f0_t2 p1) &&& (7 : Int32))), .val (.int ((f0_t3 p1) &&& (7 : Int32))), .val (.ref b1_1), .val (.ref b1_2), .val (.ref b1_3), .val (.ref b1_4), .val (.ref b5), .val (.long (0 : Int64)), .second] [(.long ((0 : Int64) + (f0_t4 p1)))])) (fun _ k => XS.ladd X15.here hx rfl (hb hby at_138) rfl k) ?_
          refine go (B := T15.setTop (mkF m 141 #[.val (.int p0), .val (.int p1), .val (.int (f0_t0 p0)), .val (.int (p1 &&& (7 : Int32))), .val (.int ((f0_t1 p1) &&& (7 : Int32))), .val (.int ((f0_t2 p1) &&& (7 : Int32))), .val (.int ((f0_t3 p1) &&& (7 : Int32))), .val (.ref b1_1), .val (.ref b1_2), .val (.ref b1_3), .val (.ref b1_4), .val (.ref b5), .val (.long ((0 : Int64) + (f0_t4 p1))), .second] [])) (fun _ k => XS.lstore X15.here hx rfl (hb hby at_139) rfl (l' := #[.val (.int p0), .val (.int p1), .val (.int (f0_t0 p0)), .val (.int (p1 &&& (7 : Int32))), .val (.int ((f0_t1 p1) &&& (7 : Int32))), .val (.int ((f0_t2 p1) &&& (7 : Int32))), .val (.int ((f0_t3 p1) &&& (7 : Int32))), .val (.ref b1_1), .val (.ref b1_2), .val (.ref b1_3), .val (.ref b1_4), .val (.ref b5), .val (.long ((0 : Int64) + (f0_t4 p1))), .second]) rfl k) ?_
          refine go (B := T15.setTop (mkF m 142 #[.val (.int p0), .val (.int p1), .val (.int (f0_t0 p0)), .val (.int (p1 &&& (7 : Int32))), .val (.int ((f0_t1 p1) &&& (7 : Int32))), .val (.int ((f0_t2 p1) &&& (7 : Int32))), .val (.int ((f0_t3 p1) &&& (7 : Int32))), .val (.ref b1_1), .val (.ref b1_2), .val (.ref b1_3), .val (.ref b1_4), .val (.ref b5), .val (.long ((0 : Int64) + (f0_t4 p1))), .second] [(.int (f0_t0 p0))])) (fun _ k => XS.iloadN X15.here hx rfl (hb hby at_141) rfl k) ?_
          refine go (B := T15.setTop (mkF m 143 #[.val (.int p0), .val (.int p1), .val (.int (f0_t0 p0)), .val (.int (p1 &&& (7 : Int32))), .val (.int ((f0_t1 p1) &&& (7 : Int32))), .val (.int ((f0_t2 p1) &&& (7 : Int32))), .val (.int ((f0_t3 p1) &&& (7 : Int32))), .val (.ref b1_1), .val (.ref b1_2), .val (.ref b1_3), .val (.ref b1_4), .val (.ref b5), .val (.long ((0 : Int64) + (f0_t4 p1))), .second] [(.int (2 : Int32)), (.int (f0_t0 p0))])) (fun _ k => XS.iconst X15.here hx rfl (hb hby at_142) k) ?_
          refine go (B := T15.setTop (mkF m 146 #[.val (.int p0), .val (.int p1), .val (.int (f0_t0 p0)), .val (.int (p1 &&& (7 : Int32))), .val (.int ((f0_t1 p1) &&& (7 : Int32))), .val (.int ((f0_t2 p1) &&& (7 : Int32))), .val (.int ((f0_t3 p1) &&& (7 : Int32))), .val (.ref b1_1), .val (.ref b1_2), .val (.ref b1_3), .val (.ref b1_4), .val (.ref b5), .val (.long ((0 : Int64) + (f0_t4 p1))), .second] [])) (fun _ k => XS.icmpNo X15.here hx rfl (hb hby at_143) rfl (tlt hc11).2.2.2 k) ?_
          refine go (B := T15.setTop (mkF m 148 #[.val (.int p0), .val (.int p1), .val (.int (f0_t0 p0)), .val (.int (p1 &&& (7 : Int32))), .val (.int ((f0_t1 p1) &&& (7 : Int32))), .val (.int ((f0_t2 p1) &&& (7 : Int32))), .val (.int ((f0_t3 p1) &&& (7 : Int32))), .val (.ref b1_1), .val (.ref b1_2), .val (.ref b1_3), .val (.ref b1_4), .val (.ref b5), .val (.long ((0 : Int64) + (f0_t4 p1))), .second] [(.long ((0 : Int64) + (f0_t4 p1)))])) (fun _ k => XS.lload X15.here hx rfl (hb hby at_146) rfl k) ?_
          refine go (B := T15.setTop (mkF m 149 #[.val (.int p0), .val (.int p1), .val (.int (f0_t0 p0)), .val (.int (p1 &&& (7 : Int32))), .val (.int ((f0_t1 p1) &&& (7 : Int32))), .val (.int ((f0_t2 p1) &&& (7 : Int32))), .val (.int ((f0_t3 p1) &&& (7 : Int32))), .val (.ref b1_1), .val (.ref b1_2), .val (.ref b1_3), .val (.ref b1_4), .val (.ref b5), .val (.long ((0 : Int64) + (f0_t4 p1))), .second] [(.int (p1 &&& (7 : Int32))), (.long ((0 : Int64) + (f0_t4 p1)))])) (fun _ k => XS.iloadN X15.here hx rfl (hb hby at_148) rfl k) ?_
          refine go (B := T15.setTop (mkF m 151 #[.val (.int p0), .val (.int p1), .val (.int (f0_t0 p0)), .val (.int (p1 &&& (7 : Int32))), .val (.int ((f0_t1 p1) &&& (7 : Int32))), .val (.int ((f0_t2 p1) &&& (7 : Int32))), .val (.int ((f0_t3 p1) &&& (7 : Int32))), .val (.ref b1_1), .val (.ref b1_2), .val (.ref b1_3), .val (.ref b1_4), .val (.ref b5), .val (.long ((0 : Int64) + (f0_t4 p1))), .second] [(.int ((f0_t2 p1) &&& (7 : Int32))), (.int (p1 &&& (7 : Int32))), (.long ((0 : Int64) + (f0_t4 p1)))])) (fun _ k => XS.iload X15.here hx rfl (hb hby at_149) rfl k) ?_
          obtain ⟨_, _, ⟨T16, L16, k16, n16⟩, -, X16, ⟨Lc16, hQ16, l16, y16, z16⟩, st16⟩ := Jvm.LawKit.callS X15 hx (y := (⟨"com/example/antipode/antipode/problem/HammingDiversityAddPinLaw", "d", "(II)J"⟩ : MethodName)) hown (mvT hZ (hw _ (List.mem_of_getElem? (i := 40) rfl))) (mvT hZ (hw _ (List.mem_of_getElem? (i := 41) rfl))) (mvT hZ (hw _ (List.mem_of_getElem? (i := 3) rfl))) (mvT hZ (hw _ (List.mem_of_getElem? (i := 42) rfl))) (by decide) (backOf (W := 2) (rm9 l Z aw hw [] (p1 &&& (7 : Int32)) ((f0_t2 p1) &&& (7 : Int32)) T14.heap n0 Z14 ) hZ (hw _ (List.mem_of_getElem? (i := 42) rfl)) (hw _ (List.mem_of_getElem? (i := 3) rfl)) (by decide) (by decide)) (g := (mkF m 151 #[.val (.int p0), .val (.int p1), .val (.int (f0_t0 p0)), .val (.int (p1 &&& (7 : Int32))), .val (.int ((f0_t1 p1) &&& (7 : Int32))), .val (.int ((f0_t2 p1) &&& (7 : Int32))), .val (.int ((f0_t3 p1) &&& (7 : Int32))), .val (.ref b1_1), .val (.ref b1_2), .val (.ref b1_3), .val (.ref b1_4), .val (.ref b5), .val (.long ((0 : Int64) + (f0_t4 p1))), .second] [(.int ((f0_t2 p1) &&& (7 : Int32))), (.int (p1 &&& (7 : Int32))), (.long ((0 : Int64) + (f0_t4 p1)))])) rfl (by rw [hml]; rfl) (argsL := [(.int (p1 &&& (7 : Int32))), (.int ((f0_t2 p1) &&& (7 : Int32)))]) (rest := [(.long ((0 : Int64) + (f0_t4 p1)))]) (lenOf pd_6 rfl) rfl (by show 2 * 0 + _ ≤ _; exact Nat.le_of_eq rfl) (hb hby at_151) (fun _ _ => ⟨rfl, e15, (by decide : 6 + 0 ≤ _), (by decide : 17 + 0 ≤ _)⟩)
          dsimp only [Pt.U, Pt.locs, Pt.cells, Pt.slots] at X16 l16 y16 z16 st16 hQ16
          subst l16 y16 z16
          obtain ⟨rfl, rfl, e16⟩ := hQ16
          have N16 := Fr.app N15 (Fr.nil n0)
          refine go (B := T16.setTop (mkF m 154 #[.val (.int p0), .val (.int p1), .val (.int (f0_t0 p0)), .val (.int (p1 &&& (7 : Int32))), .val (.int ((f0_t1 p1) &&& (7 : Int32))), .val (.int ((f0_t2 p1) &&& (7 : Int32))), .val (.int ((f0_t3 p1) &&& (7 : Int32))), .val (.ref b1_1), .val (.ref b1_2), .val (.ref b1_3), .val (.ref b1_4), .val (.ref b5), .val (.long ((0 : Int64) + (f0_t4 p1))), .second] [(.long (f0_t5 p1)), (.long ((0 : Int64) + (f0_t4 p1)))])) (fun _ k => st16 _ k) ?_
          refine go (B := T16.setTop (mkF m 156 #[.val (.int p0), .val (.int p1), .val (.int (f0_t0 p0)), .val (.int (p1 &&& (7 : Int32))), .val (.int ((f0_t1 p1) &&& (7 : Int32))), .val (.int ((f0_t2 p1) &&& (7 : Int32))), .val (.int ((f0_t3 p1) &&& (7 : Int32))), .val (.ref b1_1), .val (.ref b1_2), .val (.ref b1_3), .val (.ref b1_4), .val (.ref b5), .val (.long ((0 : Int64) + (f0_t4 p1))), .second] [(.int ((f0_t1 p1) &&& (7 : Int32))), (.long (f0_t5 p1)), (.long ((0 : Int64) + (f0_t4 p1)))])) (fun _ k => XS.iload X16.here hx rfl (hb hby at_154) rfl k) ?_
          refine go (B := T16.setTop (mkF m 158 #[.val (.int p0), .val (.int p1), .val (.int (f0_t0 p0)), .val (.int (p1 &&& (7 : Int32))), .val (.int ((f0_t1 p1) &&& (7 : Int32))), .val (.int ((f0_t2 p1) &&& (7 : Int32))), .val (.int ((f0_t3 p1) &&& (7 : Int32))), .val (.ref b1_1), .val (.ref b1_2), .val (.ref b1_3), .val (.ref b1_4), .val (.ref b5), .val (.long ((0 : Int64) + (f0_t4 p1))), .second] [(.int ((f0_t2 p1) &&& (7 : Int32))), (.int ((f0_t1 p1) &&& (7 : Int32))), (.long (f0_t5 p1)), (.long ((0 : Int64) + (f0_t4 p1)))])) (fun _ k => XS.iload X16.here hx rfl (hb hby at_156) rfl k) ?_
          obtain ⟨_, _, ⟨T17, L17, k17, n17⟩, -, X17, ⟨Lc17, hQ17, l17, y17, z17⟩, st17⟩ := Jvm.LawKit.callS X16 hx (y := (⟨"com/example/antipode/antipode/problem/HammingDiversityAddPinLaw", "d", "(II)J"⟩ : MethodName)) hown (mvT hZ (hw _ (List.mem_of_getElem? (i := 40) rfl))) (mvT hZ (hw _ (List.mem_of_getElem? (i := 41) rfl))) (mvT hZ (hw _ (List.mem_of_getElem? (i := 3) rfl))) (mvT hZ (hw _ (List.mem_of_getElem? (i := 42) rfl))) (by decide) (backOf (W := 4) (rm9 l Z aw hw [] ((f0_t1 p1) &&& (7 : Int32)) ((f0_t2 p1) &&& (7 : Int32)) T14.heap n0 Z14 ) hZ (hw _ (List.mem_of_getElem? (i := 42) rfl)) (hw _ (List.mem_of_getElem? (i := 3) rfl)) (by decide) (by decide)) (g := (mkF m 158 #[.val (.int p0), .val (.int p1), .val (.int (f0_t0 p0)), .val (.int (p1 &&& (7 : Int32))), .val (.int ((f0_t1 p1) &&& (7 : Int32))), .val (.int ((f0_t2 p1) &&& (7 : Int32))), .val (.int ((f0_t3 p1) &&& (7 : Int32))), .val (.ref b1_1), .val (.ref b1_2), .val (.ref b1_3), .val (.ref b1_4), .val (.ref b5), .val (.long ((0 : Int64) + (f0_t4 p1))), .second] [(.int ((f0_t2 p1) &&& (7 : Int32))), (.int ((f0_t1 p1) &&& (7 : Int32))), (.long (f0_t5 p1)), (.long ((0 : Int64) + (f0_t4 p1)))])) rfl (by rw [hml]; rfl) (argsL := [(.int ((f0_t1 p1) &&& (7 : Int32))), (.int ((f0_t2 p1) &&& (7 : Int32)))]) (rest := [(.long (f0_t5 p1)), (.long ((0 : Int64) + (f0_t4 p1)))]) (lenOf pd_6 rfl) rfl (by show 2 * 0 + _ ≤ _; exact Nat.le_of_eq rfl) (hb hby at_158) (fun _ _ => ⟨rfl, e16, (by decide : 6 + 0 ≤ _), (by decide : 17 + 0 ≤ _)⟩)
          dsimp only [Pt.U, Pt.locs, Pt.cells, Pt.slots] at X17 l17 y17 z17 st17 hQ17
          subst l17 y17 z17
          obtain ⟨rfl, rfl, e17⟩ := hQ17
          have N17 := Fr.app N16 (Fr.nil n0)
          refine go (B := T17.setTop (mkF m 161 #[.val (.int p0), .val (.int p1), .val (.int (f0_t0 p0)), .val (.int (p1 &&& (7 : Int32))), .val (.int ((f0_t1 p1) &&& (7 : Int32))), .val (.int ((f0_t2 p1) &&& (7 : Int32))), .val (.int ((f0_t3 p1) &&& (7 : Int32))), .val (.ref b1_1), .val (.ref b1_2), .val (.ref b1_3), .val (.ref b1_4), .val (.ref b5), .val (.long ((0 : Int64) + (f0_t4 p1))), .second] [(.long (f0_t6 p1)), (.long (f0_t5 p1)), (.long ((0 : Int64) + (f0_t4 p1)))])) (fun _ k => st17 _ k) ?_
          refine go (B := T17.setTop (mkF m 162 #[.val (.int p0), .val (.int p1), .val (.int (f0_t0 p0)), .val (.int (p1 &&& (7 : Int32))), .val (.int ((f0_t1 p1) &&& (7 : Int32))), .val (.int ((f0_t2 p1) &&& (7 : Int32))), .val (.int ((f0_t3 p1) &&& (7 : Int32))), .val (.ref b1_1), .val (.ref b1_2), .val (.ref b1_3), .val (.ref b1_4), .val (.ref b5), .val (.long ((0 : Int64) + (f0_t4 p1))), .second] [(.long ((f0_t5 p1) + (f0_t6 p1))), (.long ((0 : Int64) + (f0_t4 p1)))])) (fun _ k => XS.ladd X17.here hx rfl (hb hby at_161) rfl k) ?_
          refine go (B := T17.setTop (mkF m 163 #[.val (.int p0), .val (.int p1), .val (.int (f0_t0 p0)), .val (.int (p1 &&& (7 : Int32))), .val (.int ((f0_t1 p1) &&& (7 : Int32))), .val (.int ((f0_t2 p1) &&& (7 : Int32))), .val (.int ((f0_t3 p1) &&& (7 : Int32))), .val (.ref b1_1), .val (.ref b1_2), .val (.ref b1_3), .val (.ref b1_4), .val (.ref b5), .val (.long ((0 : Int64) + (f0_t4 p1))), .second] [(.long (f0_t7 p1))])) (fun _ k => XS.ladd X17.here hx rfl (hb hby at_162) rfl k) ?_
          refine go (B := T17.setTop (mkF m 165 #[.val (.int p0), .val (.int p1), .val (.int (f0_t0 p0)), .val (.int (p1 &&& (7 : Int32))), .val (.int ((f0_t1 p1) &&& (7 : Int32))), .val (.int ((f0_t2 p1) &&& (7 : Int32))), .val (.int ((f0_t3 p1) &&& (7 : Int32))), .val (.ref b1_1), .val (.ref b1_2), .val (.ref b1_3), .val (.ref b1_4), .val (.ref b5), .val (.long (f0_t7 p1)), .second] [])) (fun _ k => XS.lstore X17.here hx rfl (hb hby at_163) rfl (l' := #[.val (.int p0), .val (.int p1), .val (.int (f0_t0 p0)), .val (.int (p1 &&& (7 : Int32))), .val (.int ((f0_t1 p1) &&& (7 : Int32))), .val (.int ((f0_t2 p1) &&& (7 : Int32))), .val (.int ((f0_t3 p1) &&& (7 : Int32))), .val (.ref b1_1), .val (.ref b1_2), .val (.ref b1_3), .val (.ref b1_4), .val (.ref b5), .val (.long (f0_t7 p1)), .second]) rfl k) ?_
          refine go (B := T17.setTop (mkF m 166 #[.val (.int p0), .val (.int p1), .val (.int (f0_t0 p0)), .val (.int (p1 &&& (7 : Int32))), .val (.int ((f0_t1 p1) &&& (7 : Int32))), .val (.int ((f0_t2 p1) &&& (7 : Int32))), .val (.int ((f0_t3 p1) &&& (7 : Int32))), .val (.ref b1_1), .val (.ref b1_2), .val (.ref b1_3), .val (.ref b1_4), .val (.ref b5), .val (.long (f0_t7 p1)), .second] [(.int (f0_t0 p0))])) (fun _ k => XS.iloadN X17.here hx rfl (hb hby at_165) rfl k) ?_
          refine go (B := T17.setTop (mkF m 167 #[.val (.int p0), .val (.int p1), .val (.int (f0_t0 p0)), .val (.int (p1 &&& (7 : Int32))), .val (.int ((f0_t1 p1) &&& (7 : Int32))), .val (.int ((f0_t2 p1) &&& (7 : Int32))), .val (.int ((f0_t3 p1) &&& (7 : Int32))), .val (.ref b1_1), .val (.ref b1_2), .val (.ref b1_3), .val (.ref b1_4), .val (.ref b5), .val (.long (f0_t7 p1)), .second] [(.int (3 : Int32)), (.int (f0_t0 p0))])) (fun _ k => XS.iconst X17.here hx rfl (hb hby at_166) k) ?_
          refine go (B := T17.setTop (mkF m 170 #[.val (.int p0), .val (.int p1), .val (.int (f0_t0 p0)), .val (.int (p1 &&& (7 : Int32))), .val (.int ((f0_t1 p1) &&& (7 : Int32))), .val (.int ((f0_t2 p1) &&& (7 : Int32))), .val (.int ((f0_t3 p1) &&& (7 : Int32))), .val (.ref b1_1), .val (.ref b1_2), .val (.ref b1_3), .val (.ref b1_4), .val (.ref b5), .val (.long (f0_t7 p1)), .second] [])) (fun _ k => XS.icmpNo X17.here hx rfl (hb hby at_167) rfl (tlt hc13).2.2.2 k) ?_
          refine go (B := T17.setTop (mkF m 172 #[.val (.int p0), .val (.int p1), .val (.int (f0_t0 p0)), .val (.int (p1 &&& (7 : Int32))), .val (.int ((f0_t1 p1) &&& (7 : Int32))), .val (.int ((f0_t2 p1) &&& (7 : Int32))), .val (.int ((f0_t3 p1) &&& (7 : Int32))), .val (.ref b1_1), .val (.ref b1_2), .val (.ref b1_3), .val (.ref b1_4), .val (.ref b5), .val (.long (f0_t7 p1)), .second] [(.long (f0_t7 p1))])) (fun _ k => XS.lload X17.here hx rfl (hb hby at_170) rfl k) ?_
          refine go (B := T17.setTop (mkF m 173 #[.val (.int p0), .val (.int p1), .val (.int (f0_t0 p0)), .val (.int (p1 &&& (7 : Int32))), .val (.int ((f0_t1 p1) &&& (7 : Int32))), .val (.int ((f0_t2 p1) &&& (7 : Int32))), .val (.int ((f0_t3 p1) &&& (7 : Int32))), .val (.ref b1_1), .val (.ref b1_2), .val (.ref b1_3), .val (.ref b1_4), .val (.ref b5), .val (.long (f0_t7 p1)), .second] [(.int (p1 &&& (7 : Int32))), (.long (f0_t7 p1))])) (fun _ k => XS.iloadN X17.here hx rfl (hb hby at_172) rfl k) ?_
          refine go (B := T17.setTop (mkF m 175 #[.val (.int p0), .val (.int p1), .val (.int (f0_t0 p0)), .val (.int (p1 &&& (7 : Int32))), .val (.int ((f0_t1 p1) &&& (7 : Int32))), .val (.int ((f0_t2 p1) &&& (7 : Int32))), .val (.int ((f0_t3 p1) &&& (7 : Int32))), .val (.ref b1_1), .val (.ref b1_2), .val (.ref b1_3), .val (.ref b1_4), .val (.ref b5), .val (.long (f0_t7 p1)), .second] [(.int ((f0_t3 p1) &&& (7 : Int32))), (.int (p1 &&& (7 : Int32))), (.long (f0_t7 p1))])) (fun _ k => XS.iload X17.here hx rfl (hb hby at_173) rfl k) ?_
          obtain ⟨_, _, ⟨T18, L18, k18, n18⟩, -, X18, ⟨Lc18, hQ18, l18, y18, z18⟩, st18⟩ := Jvm.LawKit.callS X17 hx (y := (⟨"com/example/antipode/antipode/problem/HammingDiversityAddPinLaw", "d", "(II)J"⟩ : MethodName)) hown (mvT hZ (hw _ (List.mem_of_getElem? (i := 40) rfl))) (mvT hZ (hw _ (List.mem_of_getElem? (i := 41) rfl))) (mvT hZ (hw _ (List.mem_of_getElem? (i := 3) rfl))) (mvT hZ (hw _ (List.mem_of_getElem? (i := 42) rfl))) (by decide) (backOf (W := 2) (rm9 l Z aw hw [] (p1 &&& (7 : Int32)) ((f0_t3 p1) &&& (7 : Int32)) T14.heap n0 Z14 ) hZ (hw _ (List.mem_of_getElem? (i := 42) rfl)) (hw _ (List.mem_of_getElem? (i := 3) rfl)) (by decide) (by decide)) (g := (mkF m 175 #[.val (.int p0), .val (.int p1), .val (.int (f0_t0 p0)), .val (.int (p1 &&& (7 : Int32))), .val (.int ((f0_t1 p1) &&& (7 : Int32))), .val (.int ((f0_t2 p1) &&& (7 : Int32))), .val (.int ((f0_t3 p1) &&& (7 : Int32))), .val (.ref b1_1), .val (.ref b1_2), .val (.ref b1_3), .val (.ref b1_4), .val (.ref b5), .val (.long (f0_t7 p1)), .second] [(.int ((f0_t3 p1) &&& (7 : Int32))), (.int (p1 &&& (7 : Int32))), (.long (f0_t7 p1))])) rfl (by rw [hml]; rfl) (argsL := [(.int (p1 &&& (7 : Int32))), (.int ((f0_t3 p1) &&& (7 : Int32)))]) (rest := [(.long (f0_t7 p1))]) (lenOf pd_6 rfl) rfl (by show 2 * 0 + _ ≤ _; exact Nat.le_of_eq rfl) (hb hby at_175) (fun _ _ => ⟨rfl, e17, (by decide : 6 + 0 ≤ _), (by decide : 17 + 0 ≤ _)⟩)
          dsimp only [Pt.U, Pt.locs, Pt.cells, Pt.slots] at X18 l18 y18 z18 st18 hQ18
          subst l18 y18 z18
          obtain ⟨rfl, rfl, e18⟩ := hQ18
          have N18 := Fr.app N17 (Fr.nil n0)
          refine go (B := T18.setTop (mkF m 178 #[.val (.int p0), .val (.int p1), .val (.int (f0_t0 p0)), .val (.int (p1 &&& (7 : Int32))), .val (.int ((f0_t1 p1) &&& (7 : Int32))), .val (.int ((f0_t2 p1) &&& (7 : Int32))), .val (.int ((f0_t3 p1) &&& (7 : Int32))), .val (.ref b1_1), .val (.ref b1_2), .val (.ref b1_3), .val (.ref b1_4), .val (.ref b5), .val (.long (f0_t7 p1)), .second] [(.long (f0_t8 p1)), (.long (f0_t7 p1))])) (fun _ k => st18 _ k) ?_
          refine go (B := T18.setTop (mkF m 180 #[.val (.int p0), .val (.int p1), .val (.int (f0_t0 p0)), .val (.int (p1 &&& (7 : Int32))), .val (.int ((f0_t1 p1) &&& (7 : Int32))), .val (.int ((f0_t2 p1) &&& (7 : Int32))), .val (.int ((f0_t3 p1) &&& (7 : Int32))), .val (.ref b1_1), .val (.ref b1_2), .val (.ref b1_3), .val (.ref b1_4), .val (.ref b5), .val (.long (f0_t7 p1)), .second] [(.int ((f0_t1 p1) &&& (7 : Int32))), (.long (f0_t8 p1)), (.long (f0_t7 p1))])) (fun _ k => XS.iload X18.here hx rfl (hb hby at_178) rfl k) ?_
          refine go (B := T18.setTop (mkF m 182 #[.val (.int p0), .val (.int p1), .val (.int (f0_t0 p0)), .val (.int (p1 &&& (7 : Int32))), .val (.int ((f0_t1 p1) &&& (7 : Int32))), .val (.int ((f0_t2 p1) &&& (7 : Int32))), .val (.int ((f0_t3 p1) &&& (7 : Int32))), .val (.ref b1_1), .val (.ref b1_2), .val (.ref b1_3), .val (.ref b1_4), .val (.ref b5), .val (.long (f0_t7 p1)), .second] [(.int ((f0_t3 p1) &&& (7 : Int32))), (.int ((f0_t1 p1) &&& (7 : Int32))), (.long (f0_t8 p1)), (.long (f0_t7 p1))])) (fun _ k => XS.iload X18.here hx rfl (hb hby at_180) rfl k) ?_
          obtain ⟨_, _, ⟨T19, L19, k19, n19⟩, -, X19, ⟨Lc19, hQ19, l19, y19, z19⟩, st19⟩ := Jvm.LawKit.callS X18 hx (y := (⟨"com/example/antipode/antipode/problem/HammingDiversityAddPinLaw", "d", "(II)J"⟩ : MethodName)) hown (mvT hZ (hw _ (List.mem_of_getElem? (i := 40) rfl))) (mvT hZ (hw _ (List.mem_of_getElem? (i := 41) rfl))) (mvT hZ (hw _ (List.mem_of_getElem? (i := 3) rfl))) (mvT hZ (hw _ (List.mem_of_getElem? (i := 42) rfl))) (by decide) (backOf (W := 4) (rm9 l Z aw hw [] ((f0_t1 p1) &&& (7 : Int32)) ((f0_t3 p1) &&& (7 : Int32)) T14.heap n0 Z14 ) hZ (hw _ (List.mem_of_getElem? (i := 42) rfl)) (hw _ (List.mem_of_getElem? (i := 3) rfl)) (by decide) (by decide)) (g := (mkF m 182 #[.val (.int p0), .val (.int p1), .val (.int (f0_t0 p0)), .val (.int (p1 &&& (7 : Int32))), .val (.int ((f0_t1 p1) &&& (7 : Int32))), .val (.int ((f0_t2 p1) &&& (7 : Int32))), .val (.int ((f0_t3 p1) &&& (7 : Int32))), .val (.ref b1_1), .val (.ref b1_2), .val (.ref b1_3), .val (.ref b1_4), .val (.ref b5), .val (.long (f0_t7 p1)), .second] [(.int ((f0_t3 p1) &&& (7 : Int32))), (.int ((f0_t1 p1) &&& (7 : Int32))), (.long (f0_t8 p1)), (.long (f0_t7 p1))])) rfl (by rw [hml]; rfl) (argsL := [(.int ((f0_t1 p1) &&& (7 : Int32))), (.int ((f0_t3 p1) &&& (7 : Int32)))]) (rest := [(.long (f0_t8 p1)), (.long (f0_t7 p1))]) (lenOf pd_6 rfl) rfl (by show 2 * 0 + _ ≤ _; exact Nat.le_of_eq rfl) (hb hby at_182) (fun _ _ => ⟨rfl, e18, (by decide : 6 + 0 ≤ _), (by decide : 17 + 0 ≤ _)⟩)
          dsimp only [Pt.U, Pt.locs, Pt.cells, Pt.slots] at X19 l19 y19 z19 st19 hQ19
          subst l19 y19 z19
          obtain ⟨rfl, rfl, e19⟩ := hQ19
          have N19 := Fr.app N18 (Fr.nil n0)
          refine go (B := T19.setTop (mkF m 185 #[.val (.int p0), .val (.int p1), .val (.int (f0_t0 p0)), .val (.int (p1 &&& (7 : Int32))), .val (.int ((f0_t1 p1) &&& (7 : Int32))), .val (.int ((f0_t2 p1) &&& (7 : Int32))), .val (.int ((f0_t3 p1) &&& (7 : Int32))), .val (.ref b1_1), .val (.ref b1_2), .val (.ref b1_3), .val (.ref b1_4), .val (.ref b5), .val (.long (f0_t7 p1)), .second] [(.long (f0_t9 p1)), (.long (f0_t8 p1)), (.long (f0_t7 p1))])) (fun _ k => st19 _ k) ?_
          refine go (B := T19.setTop (mkF m 186 #[.val (.int p0), .val (.int p1), .val (.int (f0_t0 p0)), .val (.int (p1 &&& (7 : Int32))), .val (.int ((f0_t1 p1) &&& (7 : Int32))), .val (.int ((f0_t2 p1) &&& (7 : Int32))), .val (.int ((f0_t3 p1) &&& (7 : Int32))), .val (.ref b1_1), .val (.ref b1_2), .val (.ref b1_3), .val (.ref b1_4), .val (.ref b5), .val (.long (f0_t7 p1)), .second] [(.long ((f0_t8 p1) + (f0_t9 p1))), (.long (f0_t7 p1))])) (fun _ k => XS.ladd X19.here hx rfl (hb hby at_185) rfl k) ?_
          refine go (B := T19.setTop (mkF m 188 #[.val (.int p0), .val (.int p1), .val (.int (f0_t0 p0)), .val (.int (p1 &&& (7 : Int32))), .val (.int ((f0_t1 p1) &&& (7 : Int32))), .val (.int ((f0_t2 p1) &&& (7 : Int32))), .val (.int ((f0_t3 p1) &&& (7 : Int32))), .val (.ref b1_1), .val (.ref b1_2), .val (.ref b1_3), .val (.ref b1_4), .val (.ref b5), .val (.long (f0_t7 p1)), .second] [(.int ((f0_t2 p1) &&& (7 : Int32))), (.long ((f0_t8 p1) + (f0_t9 p1))), (.long (f0_t7 p1))])) (fun _ k => XS.iload X19.here hx rfl (hb hby at_186) rfl k) ?_
          refine go (B := T19.setTop (mkF m 190 #[.val (.int p0), .val (.int p1), .val (.int (f0_t0 p0)), .val (.int (p1 &&& (7 : Int32))), .val (.int ((f0_t1 p1) &&& (7 : Int32))), .val (.int ((f0_t2 p1) &&& (7 : Int32))), .val (.int ((f0_t3 p1) &&& (7 : Int32))), .val (.ref b1_1), .val (.ref b1_2), .val (.ref b1_3), .val (.ref b1_4), .val (.ref b5), .val (.long (f0_t7 p1)), .second] [(.int ((f0_t3 p1) &&& (7 : Int32))), (.int ((f0_t2 p1) &&& (7 : Int32))), (.long ((f0_t8 p1) + (f0_t9 p1))), (.long (f0_t7 p1))])) (fun _ k => XS.iload X19.here hx rfl (hb hby at_188) rfl k) ?_
          obtain ⟨_, _, ⟨T20, L20, k20, n20⟩, -, X20, ⟨Lc20, hQ20, l20, y20, z20⟩, st20⟩ := Jvm.LawKit.callS X19 hx (y := (⟨"com/example/antipode/antipode/problem/HammingDiversityAddPinLaw", "d", "(II)J"⟩ : MethodName)) hown (mvT hZ (hw _ (List.mem_of_getElem? (i := 40) rfl))) (mvT hZ (hw _ (List.mem_of_getElem? (i := 41) rfl))) (mvT hZ (hw _ (List.mem_of_getElem? (i := 3) rfl))) (mvT hZ (hw _ (List.mem_of_getElem? (i := 42) rfl))) (by decide) (backOf (W := 4) (rm9 l Z aw hw [] ((f0_t2 p1) &&& (7 : Int32)) ((f0_t3 p1) &&& (7 : Int32)) T14.heap n0 Z14 ) hZ (hw _ (List.mem_of_getElem? (i := 42) rfl)) (hw _ (List.mem_of_getElem? (i := 3) rfl)) (by decide) (by decide)) (g := (mkF m 190 #[.val (.int p0), .val (.int p1), .val (.int (f0_t0 p0)), .val (.int (p1 &&& (7 : Int32))), .val (.int ((f0_t1 p1) &&& (7 : Int32))), .val (.int ((f0_t2 p1) &&& (7 : Int32))), .val (.int ((f0_t3 p1) &&& (7 : Int32))), .val (.ref b1_1), .val (.ref b1_2), .val (.ref b1_3), .val (.ref b1_4), .val (.ref b5), .val (.long (f0_t7 p1)), .second] [(.int ((f0_t3 p1) &&& (7 : Int32))), (.int ((f0_t2 p1) &&& (7 : Int32))), (.long ((f0_t8 p1) + (f0_t9 p1))), (.long (f0_t7 p1))])) rfl (by rw [hml]; rfl) (argsL := [(.int ((f0_t2 p1) &&& (7 : Int32))), (.int ((f0_t3 p1) &&& (7 : Int32)))]) (rest := [(.long ((f0_t8 p1) + (f0_t9 p1))), (.long (f0_t7 p1))]) (lenOf pd_6 rfl) rfl (by show 2 * 0 + _ ≤ _; exact Nat.le_of_eq rfl) (hb hby at_190) (fun _ _ => ⟨rfl, e19, (by decide : 6 + 0 ≤ _), (by decide : 17 + 0 ≤ _)⟩)
          dsimp only [Pt.U, Pt.locs, Pt.cells, Pt.slots] at X20 l20 y20 z20 st20 hQ20
          subst l20 y20 z20
          obtain ⟨rfl, rfl, e20⟩ := hQ20
          have N20 := Fr.app N19 (Fr.nil n0)
          refine go (B := T20.setTop (mkF m 193 #[.val (.int p0), .val (.int p1), .val (.int (f0_t0 p0)), .val (.int (p1 &&& (7 : Int32))), .val (.int ((f0_t1 p1) &&& (7 : Int32))), .val (.int ((f0_t2 p1) &&& (7 : Int32))), .val (.int ((f0_t3 p1) &&& (7 : Int32))), .val (.ref b1_1), .val (.ref b1_2), .val (.ref b1_3), .val (.ref b1_4), .val (.ref b5), .val (.long (f0_t7 p1)), .second] [(.long (f0_t10 p1)), (.long ((f0_t8 p1) + (f0_t9 p1))), (.long (f0_t7 p1))])) (fun _ k => st20 _ k) ?_
          refine go (B := T20.setTop (mkF m 194 #[.val (.int p0), .val (.int p1), .val (.int (f0_t0 p0)), .val (.int (p1 &&& (7 : Int32))), .val (.int ((f0_t1 p1) &&& (7 : Int32))), .val (.int ((f0_t2 p1) &&& (7 : Int32))), .val (.int ((f0_t3 p1) &&& (7 : Int32))), .val (.ref b1_1), .val (.ref b1_2), .val (.ref b1_3), .val (.ref b1_4), .val (.ref b5), .val (.long (f0_t7 p1)), .second] [(.long (f0_t11 p1)), (.long (f0_t7 p1))])) (fun _ k => XS.ladd X20.here hx rfl (hb hby at_193) rfl k) ?_
          refine go (B := T20.setTop (mkF m 195 #[.val (.int p0), .val (.int p1), .val (.int (f0_t0 p0)), .val (.int (p1 &&& (7 : Int32))), .val (.int ((f0_t1 p1) &&& (7 : Int32))), .val (.int ((f0_t2 p1) &&& (7 : Int32))), .val (.int ((f0_t3 p1) &&& (7 : Int32))), .val (.ref b1_1), .val (.ref b1_2), .val (.ref b1_3), .val (.ref b1_4), .val (.ref b5), .val (.long (f0_t7 p1)), .second] [(.long ((f0_t7 p1) + (f0_t11 p1)))])) (fun _ k => XS.ladd X20.here hx rfl (hb hby at_194) rfl k) ?_
          refine go (B := T20.setTop (mkF m 197 #[.val (.int p0), .val (.int p1), .val (.int (f0_t0 p0)), .val (.int (p1 &&& (7 : Int32))), .val (.int ((f0_t1 p1) &&& (7 : Int32))), .val (.int ((f0_t2 p1) &&& (7 : Int32))), .val (.int ((f0_t3 p1) &&& (7 : Int32))), .val (.ref b1_1), .val (.ref b1_2), .val (.ref b1_3), .val (.ref b1_4), .val (.ref b5), .val (.long ((f0_t7 p1) + (f0_t11 p1))), .second] [])) (fun _ k => XS.lstore X20.here hx rfl (hb hby at_195) rfl (l' := #[.val (.int p0), .val (.int p1), .val (.int (f0_t0 p0)), .val (.int (p1 &&& (7 : Int32))), .val (.int ((f0_t1 p1) &&& (7 : Int32))), .val (.int ((f0_t2 p1) &&& (7 : Int32))), .val (.int ((f0_t3 p1) &&& (7 : Int32))), .val (.ref b1_1), .val (.ref b1_2), .val (.ref b1_3), .val (.ref b1_4), .val (.ref b5), .val (.long ((f0_t7 p1) + (f0_t11 p1))), .second]) rfl k) ?_
          refine go (B := T20.setTop (mkF m 199 #[.val (.int p0), .val (.int p1), .val (.int (f0_t0 p0)), .val (.int (p1 &&& (7 : Int32))), .val (.int ((f0_t1 p1) &&& (7 : Int32))), .val (.int ((f0_t2 p1) &&& (7 : Int32))), .val (.int ((f0_t3 p1) &&& (7 : Int32))), .val (.ref b1_1), .val (.ref b1_2), .val (.ref b1_3), .val (.ref b1_4), .val (.ref b5), .val (.long ((f0_t7 p1) + (f0_t11 p1))), .second] [(.ref b5)])) (fun _ k => XS.aload X20.here hx rfl (hb hby at_197) rfl rfl k) ?_
          obtain ⟨cq21, kq21, q21a, q21b, q21c⟩ := isOf hZ e20 o14_1
          obtain ⟨_, _, ⟨T21, L21, k21, n21⟩, -, X21, ⟨Lc21, hQ21, l21, y21, z21⟩, st21⟩ := X20.virtualBack hx (y := (⟨"com/example/antipode/antipode/problem/HammingDiversity", "value", "()J"⟩ : MethodName)) (z := (⟨"com/example/antipode/antipode/problem/HammingDiversity", "value", "()J"⟩ : MethodName)) hown (mvT hZ (hw _ (List.mem_of_getElem? (i := 18) rfl))) (mvT hZ (hw _ (List.mem_of_getElem? (i := 19) rfl))) (notFace_of_selects (args := #[]) (mvT hZ (hw _ (List.mem_of_getElem? (i := 21) rfl)))) (mvT hZ (hw _ (List.mem_of_getElem? (i := 21) rfl))) (mvT hZ (hw _ (List.mem_of_getElem? (i := 20) rfl))) (by decide) (backOf (W := 0) (rm4 l Z aw hw [] b5 b2_6 (((((0 : Int64) + (1 : Int64)) + (1 : Int64)) + (1 : Int64)) + (1 : Int64)) k2_6 (((((0 : Int64) + (f8_z0 (nar .boolean (f1_z0 (p1 &&& (7 : Int32)))))) + (f8_z0 (nar .boolean (f1_z0 ((f0_t1 p1) &&& (7 : Int32)))))) + (f8_z0 (nar .boolean (f1_z0 ((f0_t2 p1) &&& (7 : Int32)))))) + (f8_z0 (nar .boolean (f1_z0 ((f0_t3 p1) &&& (7 : Int32)))))) (((((0 : Int64) + (f8_z1 (nar .boolean (f1_z1 (p1 &&& (7 : Int32)))))) + (f8_z1 (nar .boolean (f1_z1 ((f0_t1 p1) &&& (7 : Int32)))))) + (f8_z1 (nar .boolean (f1_z1 ((f0_t2 p1) &&& (7 : Int32)))))) + (f8_z1 (nar .boolean (f1_z1 ((f0_t3 p1) &&& (7 : Int32)))))) (((((0 : Int64) + (f8_z2 (nar .boolean (f1_z2 (p1 &&& (7 : Int32)))))) + (f8_z2 (nar .boolean (f1_z2 ((f0_t1 p1) &&& (7 : Int32)))))) + (f8_z2 (nar .boolean (f1_z2 ((f0_t2 p1) &&& (7 : Int32)))))) + (f8_z2 (nar .boolean (f1_z2 ((f0_t3 p1) &&& (7 : Int32)))))) T14.heap n0 Z14 o14_0 o14_2 o14_1 o14_3 (own_m (k := 4) (by decide) (own_step0 (own_step0 (own_step0 (own_step0 own_start))))) (own_m (k := 4) (by decide) (own_step1 (own_step1 (own_step1 (own_step1 own_start))))) (own_m (k := 4) (by decide) (own_step2 (own_step2 (own_step2 (own_step2 own_start)))))) hZ (hw _ (List.mem_of_getElem? (i := 22) rfl)) (hw _ (List.mem_of_getElem? (i := 8) rfl)) (by decide) (by decide)) q21a q21c (g := (mkF m 199 #[.val (.int p0), .val (.int p1), .val (.int (f0_t0 p0)), .val (.int (p1 &&& (7 : Int32))), .val (.int ((f0_t1 p1) &&& (7 : Int32))), .val (.int ((f0_t2 p1) &&& (7 : Int32))), .val (.int ((f0_t3 p1) &&& (7 : Int32))), .val (.ref b1_1), .val (.ref b1_2), .val (.ref b1_3), .val (.ref b1_4), .val (.ref b5), .val (.long ((f0_t7 p1) + (f0_t11 p1))), .second] [(.ref b5)])) rfl (by rw [hml]; rfl) (Steps.refl _) (argsL := []) (rest := []) (lenOf pd_7 rfl) rfl (by show 2 * 0 + _ ≤ _; exact Nat.le_of_eq rfl) (hb hby at_199) (fun _ _ => ⟨rfl, e20, (by decide : 6 + 0 ≤ _), (by decide : 17 + 0 ≤ _)⟩)
          dsimp only [Pt.U, Pt.locs, Pt.cells, Pt.slots] at X21 l21 y21 z21 st21 hQ21
          subst l21 y21 z21
          obtain ⟨rfl, rfl, e21⟩ := hQ21
          have N21 := Fr.app N20 (Fr.nil n0)
          refine go (B := T21.setTop (mkF m 202 #[.val (.int p0), .val (.int p1), .val (.int (f0_t0 p0)), .val (.int (p1 &&& (7 : Int32))), .val (.int ((f0_t1 p1) &&& (7 : Int32))), .val (.int ((f0_t2 p1) &&& (7 : Int32))), .val (.int ((f0_t3 p1) &&& (7 : Int32))), .val (.ref b1_1), .val (.ref b1_2), .val (.ref b1_3), .val (.ref b1_4), .val (.ref b5), .val (.long ((f0_t7 p1) + (f0_t11 p1))), .second] [(.long (f0_t12 p1))])) (fun _ k => st21.trans k) ?_
          refine go (B := T21.setTop (mkF m 204 #[.val (.int p0), .val (.int p1), .val (.int (f0_t0 p0)), .val (.int (p1 &&& (7 : Int32))), .val (.int ((f0_t1 p1) &&& (7 : Int32))), .val (.int ((f0_t2 p1) &&& (7 : Int32))), .val (.int ((f0_t3 p1) &&& (7 : Int32))), .val (.ref b1_1), .val (.ref b1_2), .val (.ref b1_3), .val (.ref b1_4), .val (.ref b5), .val (.long ((f0_t7 p1) + (f0_t11 p1))), .second] [(.long ((f0_t7 p1) + (f0_t11 p1))), (.long (f0_t12 p1))])) (fun _ k => XS.lload X21.here hx rfl (hb hby at_202) rfl k) ?_
          refine go (B := T21.setTop (mkF m 205 #[.val (.int p0), .val (.int p1), .val (.int (f0_t0 p0)), .val (.int (p1 &&& (7 : Int32))), .val (.int ((f0_t1 p1) &&& (7 : Int32))), .val (.int ((f0_t2 p1) &&& (7 : Int32))), .val (.int ((f0_t3 p1) &&& (7 : Int32))), .val (.ref b1_1), .val (.ref b1_2), .val (.ref b1_3), .val (.ref b1_4), .val (.ref b5), .val (.long ((f0_t7 p1) + (f0_t11 p1))), .second] [(.int (lcmpW (f0_t12 p1) ((f0_t7 p1) + (f0_t11 p1))))])) (fun _ k => XS.lcmp X21.here hx rfl (hb hby at_204) rfl k) ?_
          by_cases hc22 : (lcmpW (f0_t12 p1) ((f0_t7 p1) + (f0_t11 p1))) = (0 : Int32)
          · refine go (B := T21.setTop (mkF m 208 #[.val (.int p0), .val (.int p1), .val (.int (f0_t0 p0)), .val (.int (p1 &&& (7 : Int32))), .val (.int ((f0_t1 p1) &&& (7 : Int32))), .val (.int ((f0_t2 p1) &&& (7 : Int32))), .val (.int ((f0_t3 p1) &&& (7 : Int32))), .val (.ref b1_1), .val (.ref b1_2), .val (.ref b1_3), .val (.ref b1_4), .val (.ref b5), .val (.long ((f0_t7 p1) + (f0_t11 p1))), .second] [])) (fun _ k => XS.ifNo X21.here hx rfl (hb hby at_205) rfl ((if0 _ _).trans (teq hc22).2) k) ?_
            refine go (B := T21.setTop (mkF m 209 #[.val (.int p0), .val (.int p1), .val (.int (f0_t0 p0)), .val (.int (p1 &&& (7 : Int32))), .val (.int ((f0_t1 p1) &&& (7 : Int32))), .val (.int ((f0_t2 p1) &&& (7 : Int32))), .val (.int ((f0_t3 p1) &&& (7 : Int32))), .val (.ref b1_1), .val (.ref b1_2), .val (.ref b1_3), .val (.ref b1_4), .val (.ref b5), .val (.long ((f0_t7 p1) + (f0_t11 p1))), .second] [(.int (1 : Int32))])) (fun _ k => XS.iconst X21.here hx rfl (hb hby at_208) k) ?_
            refine go (B := T21.setTop (mkF m 213 #[.val (.int p0), .val (.int p1), .val (.int (f0_t0 p0)), .val (.int (p1 &&& (7 : Int32))), .val (.int ((f0_t1 p1) &&& (7 : Int32))), .val (.int ((f0_t2 p1) &&& (7 : Int32))), .val (.int ((f0_t3 p1) &&& (7 : Int32))), .val (.ref b1_1), .val (.ref b1_2), .val (.ref b1_3), .val (.ref b1_4), .val (.ref b5), .val (.long ((f0_t7 p1) + (f0_t11 p1))), .second] [(.int (1 : Int32))])) (fun _ k => XS.goto X21.here hx rfl (pc0 := 209) (pc' := 213) rfl (hb hby at_209) (by decide) (by decide) k) ?_
            have r23 : (f0 p0 p1) = (1 : Int32) := by unfold f0; rw [if_pos hc7, if_pos hc9, if_pos hc11, if_pos hc13, if_pos hc22]
            exact end_nar X21 hx Bd.notSynchronized (t := .boolean) Bd.returns (by simp) (hb hby at_213) hF e21 (by decide) (by decide) ⟨(congrArg (fun z => some (Value.int z)) (r23.symm.trans (own_law p0 p1))), N21⟩
          · refine go (B := T21.setTop (mkF m 212 #[.val (.int p0), .val (.int p1), .val (.int (f0_t0 p0)), .val (.int (p1 &&& (7 : Int32))), .val (.int ((f0_t1 p1) &&& (7 : Int32))), .val (.int ((f0_t2 p1) &&& (7 : Int32))), .val (.int ((f0_t3 p1) &&& (7 : Int32))), .val (.ref b1_1), .val (.ref b1_2), .val (.ref b1_3), .val (.ref b1_4), .val (.ref b5), .val (.long ((f0_t7 p1) + (f0_t11 p1))), .second] [])) (fun _ k => XS.ifYes X21.here hx rfl (pc0 := 205) (pc' := 212) rfl (hb hby at_205) rfl ((if0 _ _).trans (feq hc22).2) (by decide) (by decide) k) ?_
            refine go (B := T21.setTop (mkF m 213 #[.val (.int p0), .val (.int p1), .val (.int (f0_t0 p0)), .val (.int (p1 &&& (7 : Int32))), .val (.int ((f0_t1 p1) &&& (7 : Int32))), .val (.int ((f0_t2 p1) &&& (7 : Int32))), .val (.int ((f0_t3 p1) &&& (7 : Int32))), .val (.ref b1_1), .val (.ref b1_2), .val (.ref b1_3), .val (.ref b1_4), .val (.ref b5), .val (.long ((f0_t7 p1) + (f0_t11 p1))), .second] [(.int (0 : Int32))])) (fun _ k => XS.iconst X21.here hx rfl (hb hby at_212) k) ?_
            have r24 : (f0 p0 p1) = (0 : Int32) := by unfold f0; rw [if_pos hc7, if_pos hc9, if_pos hc11, if_pos hc13, if_neg hc22]
            exact end_nar X21 hx Bd.notSynchronized (t := .boolean) Bd.returns (by simp) (hb hby at_213) hF e21 (by decide) (by decide) ⟨(congrArg (fun z => some (Value.int z)) (r24.symm.trans (own_law p0 p1))), N21⟩
        · refine go (B := T12.setTop (mkF m 122 #[.val (.int p0), .val (.int p1), .val (.int (f0_t0 p0)), .val (.int (p1 &&& (7 : Int32))), .val (.int ((f0_t1 p1) &&& (7 : Int32))), .val (.int ((f0_t2 p1) &&& (7 : Int32))), .val (.int ((f0_t3 p1) &&& (7 : Int32))), .val (.ref b1_1), .val (.ref b1_2), .val (.ref b1_3), .val (.ref b1_4), .val (.ref b5), .unset, .unset] [])) (fun _ k => XS.icmpYes X12.here hx rfl (pc0 := 112) (pc' := 122) rfl (hb hby at_112) rfl (flt hc13).2.2.2 (by decide) (by decide) k) ?_
          refine go (B := T12.setTop (mkF m 123 #[.val (.int p0), .val (.int p1), .val (.int (f0_t0 p0)), .val (.int (p1 &&& (7 : Int32))), .val (.int ((f0_t1 p1) &&& (7 : Int32))), .val (.int ((f0_t2 p1) &&& (7 : Int32))), .val (.int ((f0_t3 p1) &&& (7 : Int32))), .val (.ref b1_1), .val (.ref b1_2), .val (.ref b1_3), .val (.ref b1_4), .val (.ref b5), .unset, .unset] [(.long (0 : Int64))])) (fun _ k => XS.lconst X12.here hx rfl (hb hby at_122) k) ?_
          refine go (B := T12.setTop (mkF m 125 #[.val (.int p0), .val (.int p1), .val (.int (f0_t0 p0)), .val (.int (p1 &&& (7 : Int32))), .val (.int ((f0_t1 p1) &&& (7 : Int32))), .val (.int ((f0_t2 p1) &&& (7 : Int32))), .val (.int ((f0_t3 p1) &&& (7 : Int32))), .val (.ref b1_1), .val (.ref b1_2), .val (.ref b1_3), .val (.ref b1_4), .val (.ref b5), .val (.long (0 : Int64)), .second] [])) (fun _ k => XS.lstore X12.here hx rfl (hb hby at_123) rfl (l' := #[.val (.int p0), .val (.int p1), .val (.int (f0_t0 p0)), .val (.int (p1 &&& (7 : Int32))), .val (.int ((f0_t1 p1) &&& (7 : Int32))), .val (.int ((f0_t2 p1) &&& (7 : Int32))), .val (.int ((f0_t3 p1) &&& (7 : Int32))), .val (.ref b1_1), .val (.ref b1_2), .val (.ref b1_3), .val (.ref b1_4), .val (.ref b5), .val (.long (0 : Int64)), .second]) rfl k) ?_
          refine go (B := T12.setTop (mkF m 126 #[.val (.int p0), .val (.int p1), .val (.int (f0_t0 p0)), .val (.int (p1 &&& (7 : Int32))), .val (.int ((f0_t1 p1) &&& (7 : Int32))), .val (.int ((f0_t2 p1) &&& (7 : Int32))), .val (.int ((f0_t3 p1) &&& (7 : Int32))), .val (.ref b1_1), .val (.ref b1_2), .val (.ref b1_3), .val (.ref b1_4), .val (.ref b5), .val (.long (0 : Int64)), .second] [(.int (f0_t0 p0))])) (fun _ k => XS.iloadN X12.here hx rfl (hb hby at_125) rfl k) ?_
          refine go (B := T12.setTop (mkF m 127 #[.val (.int p0), .val (.int p1), .val (.int (f0_t0 p0)), .val (.int (p1 &&& (7 : Int32))), .val (.int ((f0_t1 p1) &&& (7 : Int32))), .val (.int ((f0_t2 p1) &&& (7 : Int32))), .val (.int ((f0_t3 p1) &&& (7 : Int32))), .val (.ref b1_1), .val (.ref b1_2), .val (.ref b1_3), .val (.ref b1_4), .val (.ref b5), .val (.long (0 : Int64)), .second] [(.int (1 : Int32)), (.int (f0_t0 p0))])) (fun _ k => XS.iconst X12.here hx rfl (hb hby at_126) k) ?_
          refine go (B := T12.setTop (mkF m 130 #[.val (.int p0), .val (.int p1), .val (.int (f0_t0 p0)), .val (.int (p1 &&& (7 : Int32))), .val (.int ((f0_t1 p1) &&& (7 : Int32))), .val (.int ((f0_t2 p1) &&& (7 : Int32))), .val (.int ((f0_t3 p1) &&& (7 : Int32))), .val (.ref b1_1), .val (.ref b1_2), .val (.ref b1_3), .val (.ref b1_4), .val (.ref b5), .val (.long (0 : Int64)), .second] [])) (fun _ k => XS.icmpNo X12.here hx rfl (hb hby at_127) rfl (tlt hc9).2.2.2 k) ?_
          refine go (B := T12.setTop (mkF m 132 #[.val (.int p0), .val (.int p1), .val (.int (f0_t0 p0)), .val (.int (p1 &&& (7 : Int32))), .val (.int ((f0_t1 p1) &&& (7 : Int32))), .val (.int ((f0_t2 p1) &&& (7 : Int32))), .val (.int ((f0_t3 p1) &&& (7 : Int32))), .val (.ref b1_1), .val (.ref b1_2), .val (.ref b1_3), .val (.ref b1_4), .val (.ref b5), .val (.long (0 : Int64)), .second] [(.long (0 : Int64))])) (fun _ k => XS.lload X12.here hx rfl (hb hby at_130) rfl k) ?_
          refine go (B := T12.setTop (mkF m 133 #[.val (.int p0), .val (.int p1), .val (.int (f0_t0 p0)), .val (.int (p1 &&& (7 : Int32))), .val (.int ((f0_t1 p1) &&& (7 : Int32))), .val (.int ((f0_t2 p1) &&& (7 : Int32))), .val (.int ((f0_t3 p1) &&& (7 : Int32))), .val (.ref b1_1), .val (.ref b1_2), .val (.ref b1_3), .val (.ref b1_4), .val (.ref b5), .val (.long (0 : Int64)), .second] [(.int (p1 &&& (7 : Int32))), (.long (0 : Int64))])) (fun _ k => XS.iloadN X12.here hx rfl (hb hby at_132) rfl k) ?_
          refine go (B := T12.setTop (mkF m 135 #[.val (.int p0), .val (.int p1), .val (.int (f0_t0 p0)), .val (.int (p1 &&& (7 : Int32))), .val (.int ((f0_t1 p1) &&& (7 : Int32))), .val (.int ((f0_t2 p1) &&& (7 : Int32))), .val (.int ((f0_t3 p1) &&& (7 : Int32))), .val (.ref b1_1), .val (.ref b1_2), .val (.ref b1_3), .val (.ref b1_4), .val (.ref b5), .val (.long (0 : Int64)), .second] [(.int ((f0_t1 p1) &&& (7 : Int32))), (.int (p1 &&& (7 : Int32))), (.long (0 : Int64))])) (fun _ k => XS.iload X12.here hx rfl (hb hby at_133) rfl k) ?_
          obtain ⟨_, _, ⟨T25, L25, k25, n25⟩, -, X25, ⟨Lc25, hQ25, l25, y25, z25⟩, st25⟩ := Jvm.LawKit.callS X12 hx (y := (⟨"com/example/antipode/antipode/problem/HammingDiversityAddPinLaw", "d", "(II)J"⟩ : MethodName)) hown (mvT hZ (hw _ (List.mem_of_getElem? (i := 40) rfl))) (mvT hZ (hw _ (List.mem_of_getElem? (i := 41) rfl))) (mvT hZ (hw _ (List.mem_of_getElem? (i := 3) rfl))) (mvT hZ (hw _ (List.mem_of_getElem? (i := 42) rfl))) (by decide) (backOf (W := 2) (rm9 l Z aw hw [] (p1 &&& (7 : Int32)) ((f0_t1 p1) &&& (7 : Int32)) T12.heap n0 Z12 ) hZ (hw _ (List.mem_of_getElem? (i := 42) rfl)) (hw _ (List.mem_of_getElem? (i := 3) rfl)) (by decide) (by decide)) (g := (mkF m 135 #[.val (.int p0), .val (.int p1), .val (.int (f0_t0 p0)), .val (.int (p1 &&& (7 : Int32))), .val (.int ((f0_t1 p1) &&& (7 : Int32))), .val (.int ((f0_t2 p1) &&& (7 : Int32))), .val (.int ((f0_t3 p1) &&& (7 : Int32))), .val (.ref b1_1), .val (.ref b1_2), .val (.ref b1_3), .val (.ref b1_4), .val (.ref b5), .val (.long (0 : Int64)), .second] [(.int ((f0_t1 p1) &&& (7 : Int32))), (.int (p1 &&& (7 : Int32))), (.long (0 : Int64))])) rfl (by rw [hml]; rfl) (argsL := [(.int (p1 &&& (7 : Int32))), (.int ((f0_t1 p1) &&& (7 : Int32)))]) (rest := [(.long (0 : Int64))]) (lenOf pd_6 rfl) rfl (by show 2 * 0 + _ ≤ _; exact Nat.le_of_eq rfl) (hb hby at_135) (fun _ _ => ⟨rfl, rfl, (by decide : 6 + 0 ≤ _), (by decide : 17 + 0 ≤ _)⟩)
          dsimp only [Pt.U, Pt.locs, Pt.cells, Pt.slots] at X25 l25 y25 z25 st25 hQ25
          subst l25 y25 z25
          obtain ⟨rfl, rfl, e25⟩ := hQ25
          have N25 := Fr.app N12 (Fr.nil n0)
          refine go (B := T25.setTop (mkF m 138 #[.val (.int p0), .val (.int p1), .val (.int (f0_t0 p0)), .val (.int (p1 &&& (7 : Int32))), .val (.int ((f0_t1 p1) &&& (7 : Int32))), .val (.int ((f0_t2 p1) &&& (7 : Int32))), .val (.int ((f0_t3 p1) &&& (7 : Int32))), .val (.ref b1_1), .val (.ref b1_2), .val (.ref b1_3), .val (.ref b1_4), .val (.ref b5), .val (.long (0 : Int64)), .second] [(.long (f0_t4 p1)), (.long (0 : Int64))])) (fun _ k => st25 _ k) ?_
          refine go (B := T25.setTop (mkF m 139 #[.val (.int p0), .val (.int p1), .val (.int (f0_t0 p0)), .val (.int (p1 &&& (7 : Int32))), .val (.int ((f0_t1 p1) &&& (7 : Int32))), .val (.int ((f0_t2 p1) &&& (7 : Int32))), .val (.int ((f0_t3 p1) &&& (7 : Int32))), .val (.ref b1_1), .val (.ref b1_2), .val (.ref b1_3), .val (.ref b1_4), .val (.ref b5), .val (.long (0 : Int64)), .second] [(.long ((0 : Int64) + (f0_t4 p1)))])) (fun _ k => XS.ladd X25.here hx rfl (hb hby at_138) rfl k) ?_
          refine go (B := T25.setTop (mkF m 141 #[.val (.int p0), .val (.int p1), .val (.int (f0_t0 p0)), .val (.int (p1 &&& (7 : Int32))), .val (.int ((f0_t1 p1) &&& (7 : Int32))), .val (.int ((f0_t2 p1) &&& (7 : Int32))), .val (.int ((f0_t3 p1) &&& (7 : Int32))), .val (.ref b1_1), .val (.ref b1_2), .val (.ref b1_3), .val (.ref b1_4), .val (.ref b5), .val (.long ((0 : Int64) + (f0_t4 p1))), .second] [])) (fun _ k => XS.lstore X25.here hx rfl (hb hby at_139) rfl (l' := #[.val (.int p0), .val (.int p1), .val (.int (f0_t0 p0)), .val (.int (p1 &&& (7 : Int32))), .val (.int ((f0_t1 p1) &&& (7 : Int32))), .val (.int ((f0_t2 p1) &&& (7 : Int32))), .val (.int ((f0_t3 p1) &&& (7 : Int32))), .val (.ref b1_1), .val (.ref b1_2), .val (.ref b1_3), .val (.ref b1_4), .val (.ref b5), .val (.long ((0 : Int64) + (f0_t4 p1))), .second]) rfl k) ?_
          refine go (B := T25.setTop (mkF m 142 #[.val (.int p0), .val (.int p1), .val (.int (f0_t0 p0)), .val (.int (p1 &&& (7 : Int32))), .val (.int ((f0_t1 p1) &&& (7 : Int32))), .val (.int ((f0_t2 p1) &&& (7 : Int32))), .val (.int ((f0_t3 p1) &&& (7 : Int32))), .val (.ref b1_1), .val (.ref b1_2), .val (.ref b1_3), .val (.ref b1_4), .val (.ref b5), .val (.long ((0 : Int64) + (f0_t4 p1))), .second] [(.int (f0_t0 p0))])) (fun _ k => XS.iloadN X25.here hx rfl (hb hby at_141) rfl k) ?_
          refine go (B := T25.setTop (mkF m 143 #[.val (.int p0), .val (.int p1), .val (.int (f0_t0 p0)), .val (.int (p1 &&& (7 : Int32))), .val (.int ((f0_t1 p1) &&& (7 : Int32))), .val (.int ((f0_t2 p1) &&& (7 : Int32))), .val (.int ((f0_t3 p1) &&& (7 : Int32))), .val (.ref b1_1), .val (.ref b1_2), .val (.ref b1_3), .val (.ref b1_4), .val (.ref b5), .val (.long ((0 : Int64) + (f0_t4 p1))), .second] [(.int (2 : Int32)), (.int (f0_t0 p0))])) (fun _ k => XS.iconst X25.here hx rfl (hb hby at_142) k) ?_
          refine go (B := T25.setTop (mkF m 146 #[.val (.int p0), .val (.int p1), .val (.int (f0_t0 p0)), .val (.int (p1 &&& (7 : Int32))), .val (.int ((f0_t1 p1) &&& (7 : Int32))), .val (.int ((f0_t2 p1) &&& (7 : Int32))), .val (.int ((f0_t3 p1) &&& (7 : Int32))), .val (.ref b1_1), .val (.ref b1_2), .val (.ref b1_3), .val (.ref b1_4), .val (.ref b5), .val (.long ((0 : Int64) + (f0_t4 p1))), .second] [])) (fun _ k => XS.icmpNo X25.here hx rfl (hb hby at_143) rfl (tlt hc11).2.2.2 k) ?_
          refine go (B := T25.setTop (mkF m 148 #[.val (.int p0), .val (.int p1), .val (.int (f0_t0 p0)), .val (.int (p1 &&& (7 : Int32))), .val (.int ((f0_t1 p1) &&& (7 : Int32))), .val (.int ((f0_t2 p1) &&& (7 : Int32))), .val (.int ((f0_t3 p1) &&& (7 : Int32))), .val (.ref b1_1), .val (.ref b1_2), .val (.ref b1_3), .val (.ref b1_4), .val (.ref b5), .val (.long ((0 : Int64) + (f0_t4 p1))), .second] [(.long ((0 : Int64) + (f0_t4 p1)))])) (fun _ k => XS.lload X25.here hx rfl (hb hby at_146) rfl k) ?_
          refine go (B := T25.setTop (mkF m 149 #[.val (.int p0), .val (.int p1), .val (.int (f0_t0 p0)), .val (.int (p1 &&& (7 : Int32))), .val (.int ((f0_t1 p1) &&& (7 : Int32))), .val (.int ((f0_t2 p1) &&& (7 : Int32))), .val (.int ((f0_t3 p1) &&& (7 : Int32))), .val (.ref b1_1), .val (.ref b1_2), .val (.ref b1_3), .val (.ref b1_4), .val (.ref b5), .val (.long ((0 : Int64) + (f0_t4 p1))), .second] [(.int (p1 &&& (7 : Int32))), (.long ((0 : Int64) + (f0_t4 p1)))])) (fun _ k => XS.iloadN X25.here hx rfl (hb hby at_148) rfl k) ?_
          refine go (B := T25.setTop (mkF m 151 #[.val (.int p0), .val (.int p1), .val (.int (f0_t0 p0)), .val (.int (p1 &&& (7 : Int32))), .val (.int ((f0_t1 p1) &&& (7 : Int32))), .val (.int ((f0_t2 p1) &&& (7 : Int32))), .val (.int ((f0_t3 p1) &&& (7 : Int32))), .val (.ref b1_1), .val (.ref b1_2), .val (.ref b1_3), .val (.ref b1_4), .val (.ref b5), .val (.long ((0 : Int64) + (f0_t4 p1))), .second] [(.int ((f0_t2 p1) &&& (7 : Int32))), (.int (p1 &&& (7 : Int32))), (.long ((0 : Int64) + (f0_t4 p1)))])) (fun _ k => XS.iload X25.here hx rfl (hb hby at_149) rfl k) ?_
          obtain ⟨_, _, ⟨T26, L26, k26, n26⟩, -, X26, ⟨Lc26, hQ26, l26, y26, z26⟩, st26⟩ := Jvm.LawKit.callS X25 hx (y := (⟨"com/example/antipode/antipode/problem/HammingDiversityAddPinLaw", "d", "(II)J"⟩ : MethodName)) hown (mvT hZ (hw _ (List.mem_of_getElem? (i := 40) rfl))) (mvT hZ (hw _ (List.mem_of_getElem? (i := 41) rfl))) (mvT hZ (hw _ (List.mem_of_getElem? (i := 3) rfl))) (mvT hZ (hw _ (List.mem_of_getElem? (i := 42) rfl))) (by decide) (backOf (W := 2) (rm9 l Z aw hw [] (p1 &&& (7 : Int32)) ((f0_t2 p1) &&& (7 : Int32)) T12.heap n0 Z12 ) hZ (hw _ (List.mem_of_getElem? (i := 42) rfl)) (hw _ (List.mem_of_getElem? (i := 3) rfl)) (by decide) (by decide)) (g := (mkF m 151 #[.val (.int p0), .val (.int p1), .val (.int (f0_t0 p0)), .val (.int (p1 &&& (7 : Int32))), .val (.int ((f0_t1 p1) &&& (7 : Int32))), .val (.int ((f0_t2 p1) &&& (7 : Int32))), .val (.int ((f0_t3 p1) &&& (7 : Int32))), .val (.ref b1_1), .val (.ref b1_2), .val (.ref b1_3), .val (.ref b1_4), .val (.ref b5), .val (.long ((0 : Int64) + (f0_t4 p1))), .second] [(.int ((f0_t2 p1) &&& (7 : Int32))), (.int (p1 &&& (7 : Int32))), (.long ((0 : Int64) + (f0_t4 p1)))])) rfl (by rw [hml]; rfl) (argsL := [(.int (p1 &&& (7 : Int32))), (.int ((f0_t2 p1) &&& (7 : Int32)))]) (rest := [(.long ((0 : Int64) + (f0_t4 p1)))]) (lenOf pd_6 rfl) rfl (by show 2 * 0 + _ ≤ _; exact Nat.le_of_eq rfl) (hb hby at_151) (fun _ _ => ⟨rfl, e25, (by decide : 6 + 0 ≤ _), (by decide : 17 + 0 ≤ _)⟩)
          dsimp only [Pt.U, Pt.locs, Pt.cells, Pt.slots] at X26 l26 y26 z26 st26 hQ26
          subst l26 y26 z26
          obtain ⟨rfl, rfl, e26⟩ := hQ26
          have N26 := Fr.app N25 (Fr.nil n0)
          refine go (B := T26.setTop (mkF m 154 #[.val (.int p0), .val (.int p1), .val (.int (f0_t0 p0)), .val (.int (p1 &&& (7 : Int32))), .val (.int ((f0_t1 p1) &&& (7 : Int32))), .val (.int ((f0_t2 p1) &&& (7 : Int32))), .val (.int ((f0_t3 p1) &&& (7 : Int32))), .val (.ref b1_1), .val (.ref b1_2), .val (.ref b1_3), .val (.ref b1_4), .val (.ref b5), .val (.long ((0 : Int64) + (f0_t4 p1))), .second] [(.long (f0_t5 p1)), (.long ((0 : Int64) + (f0_t4 p1)))])) (fun _ k => st26 _ k) ?_
          refine go (B := T26.setTop (mkF m 156 #[.val (.int p0), .val (.int p1), .val (.int (f0_t0 p0)), .val (.int (p1 &&& (7 : Int32))), .val (.int ((f0_t1 p1) &&& (7 : Int32))), .val (.int ((f0_t2 p1) &&& (7 : Int32))), .val (.int ((f0_t3 p1) &&& (7 : Int32))), .val (.ref b1_1), .val (.ref b1_2), .val (.ref b1_3), .val (.ref b1_4), .val (.ref b5), .val (.long ((0 : Int64) + (f0_t4 p1))), .second] [(.int ((f0_t1 p1) &&& (7 : Int32))), (.long (f0_t5 p1)), (.long ((0 : Int64) + (f0_t4 p1)))])) (fun _ k => XS.iload X26.here hx rfl (hb hby at_154) rfl k) ?_
          refine go (B := T26.setTop (mkF m 158 #[.val (.int p0), .val (.int p1), .val (.int (f0_t0 p0)), .val (.int (p1 &&& (7 : Int32))), .val (.int ((f0_t1 p1) &&& (7 : Int32))), .val (.int ((f0_t2 p1) &&& (7 : Int32))), .val (.int ((f0_t3 p1) &&& (7 : Int32))), .val (.ref b1_1), .val (.ref b1_2), .val (.ref b1_3), .val (.ref b1_4), .val (.ref b5), .val (.long ((0 : Int64) + (f0_t4 p1))), .second] [(.int ((f0_t2 p1) &&& (7 : Int32))), (.int ((f0_t1 p1) &&& (7 : Int32))), (.long (f0_t5 p1)), (.long ((0 : Int64) + (f0_t4 p1)))])) (fun _ k => XS.iload X26.here hx rfl (hb hby at_156) rfl k) ?_
          obtain ⟨_, _, ⟨T27, L27, k27, n27⟩, -, X27, ⟨Lc27, hQ27, l27, y27, z27⟩, st27⟩ := Jvm.LawKit.callS X26 hx (y := (⟨"com/example/antipode/antipode/problem/HammingDiversityAddPinLaw", "d", "(II)J"⟩ : MethodName)) hown (mvT hZ (hw _ (List.mem_of_getElem? (i := 40) rfl))) (mvT hZ (hw _ (List.mem_of_getElem? (i := 41) rfl))) (mvT hZ (hw _ (List.mem_of_getElem? (i := 3) rfl))) (mvT hZ (hw _ (List.mem_of_getElem? (i := 42) rfl))) (by decide) (backOf (W := 4) (rm9 l Z aw hw [] ((f0_t1 p1) &&& (7 : Int32)) ((f0_t2 p1) &&& (7 : Int32)) T12.heap n0 Z12 ) hZ (hw _ (List.mem_of_getElem? (i := 42) rfl)) (hw _ (List.mem_of_getElem? (i := 3) rfl)) (by decide) (by decide)) (g := (mkF m 158 #[.val (.int p0), .val (.int p1), .val (.int (f0_t0 p0)), .val (.int (p1 &&& (7 : Int32))), .val (.int ((f0_t1 p1) &&& (7 : Int32))), .val (.int ((f0_t2 p1) &&& (7 : Int32))), .val (.int ((f0_t3 p1) &&& (7 : Int32))), .val (.ref b1_1), .val (.ref b1_2), .val (.ref b1_3), .val (.ref b1_4), .val (.ref b5), .val (.long ((0 : Int64) + (f0_t4 p1))), .second] [(.int ((f0_t2 p1) &&& (7 : Int32))), (.int ((f0_t1 p1) &&& (7 : Int32))), (.long (f0_t5 p1)), (.long ((0 : Int64) + (f0_t4 p1)))])) rfl (by rw [hml]; rfl) (argsL := [(.int ((f0_t1 p1) &&& (7 : Int32))), (.int ((f0_t2 p1) &&& (7 : Int32)))]) (rest := [(.long (f0_t5 p1)), (.long ((0 : Int64) + (f0_t4 p1)))]) (lenOf pd_6 rfl) rfl (by show 2 * 0 + _ ≤ _; exact Nat.le_of_eq rfl) (hb hby at_158) (fun _ _ => ⟨rfl, e26, (by decide : 6 + 0 ≤ _), (by decide : 17 + 0 ≤ _)⟩)
          dsimp only [Pt.U, Pt.locs, Pt.cells, Pt.slots] at X27 l27 y27 z27 st27 hQ27
          subst l27 y27 z27
          obtain ⟨rfl, rfl, e27⟩ := hQ27
          have N27 := Fr.app N26 (Fr.nil n0)
          refine go (B := T27.setTop (mkF m 161 #[.val (.int p0), .val (.int p1), .val (.int (f0_t0 p0)), .val (.int (p1 &&& (7 : Int32))), .val (.int ((f0_t1 p1) &&& (7 : Int32))), .val (.int ((f0_t2 p1) &&& (7 : Int32))), .val (.int ((f0_t3 p1) &&& (7 : Int32))), .val (.ref b1_1), .val (.ref b1_2), .val (.ref b1_3), .val (.ref b1_4), .val (.ref b5), .val (.long ((0 : Int64) + (f0_t4 p1))), .second] [(.long (f0_t6 p1)), (.long (f0_t5 p1)), (.long ((0 : Int64) + (f0_t4 p1)))])) (fun _ k => st27 _ k) ?_
          refine go (B := T27.setTop (mkF m 162 #[.val (.int p0), .val (.int p1), .val (.int (f0_t0 p0)), .val (.int (p1 &&& (7 : Int32))), .val (.int ((f0_t1 p1) &&& (7 : Int32))), .val (.int ((f0_t2 p1) &&& (7 : Int32))), .val (.int ((f0_t3 p1) &&& (7 : Int32))), .val (.ref b1_1), .val (.ref b1_2), .val (.ref b1_3), .val (.ref b1_4), .val (.ref b5), .val (.long ((0 : Int64) + (f0_t4 p1))), .second] [(.long ((f0_t5 p1) + (f0_t6 p1))), (.long ((0 : Int64) + (f0_t4 p1)))])) (fun _ k => XS.ladd X27.here hx rfl (hb hby at_161) rfl k) ?_
          refine go (B := T27.setTop (mkF m 163 #[.val (.int p0), .val (.int p1), .val (.int (f0_t0 p0)), .val (.int (p1 &&& (7 : Int32))), .val (.int ((f0_t1 p1) &&& (7 : Int32))), .val (.int ((f0_t2 p1) &&& (7 : Int32))), .val (.int ((f0_t3 p1) &&& (7 : Int32))), .val (.ref b1_1), .val (.ref b1_2), .val (.ref b1_3), .val (.ref b1_4), .val (.ref b5), .val (.long ((0 : Int64) + (f0_t4 p1))), .second] [(.long (f0_t7 p1))])) (fun _ k => XS.ladd X27.here hx rfl (hb hby at_162) rfl k) ?_
          refine go (B := T27.setTop (mkF m 165 #[.val (.int p0), .val (.int p1), .val (.int (f0_t0 p0)), .val (.int (p1 &&& (7 : Int32))), .val (.int ((f0_t1 p1) &&& (7 : Int32))), .val (.int ((f0_t2 p1) &&& (7 : Int32))), .val (.int ((f0_t3 p1) &&& (7 : Int32))), .val (.ref b1_1), .val (.ref b1_2), .val (.ref b1_3), .val (.ref b1_4), .val (.ref b5), .val (.long (f0_t7 p1)), .second] [])) (fun _ k => XS.lstore X27.here hx rfl (hb hby at_163) rfl (l' := #[.val (.int p0), .val (.int p1), .val (.int (f0_t0 p0)), .val (.int (p1 &&& (7 : Int32))), .val (.int ((f0_t1 p1) &&& (7 : Int32))), .val (.int ((f0_t2 p1) &&& (7 : Int32))), .val (.int ((f0_t3 p1) &&& (7 : Int32))), .val (.ref b1_1), .val (.ref b1_2), .val (.ref b1_3), .val (.ref b1_4), .val (.ref b5), .val (.long (f0_t7 p1)), .second]) rfl k) ?_
          refine go (B := T27.setTop (mkF m 166 #[.val (.int p0), .val (.int p1), .val (.int (f0_t0 p0)), .val (.int (p1 &&& (7 : Int32))), .val (.int ((f0_t1 p1) &&& (7 : Int32))), .val (.int ((f0_t2 p1) &&& (7 : Int32))), .val (.int ((f0_t3 p1) &&& (7 : Int32))), .val (.ref b1_1), .val (.ref b1_2), .val (.ref b1_3), .val (.ref b1_4), .val (.ref b5), .val (.long (f0_t7 p1)), .second] [(.int (f0_t0 p0))])) (fun _ k => XS.iloadN X27.here hx rfl (hb hby at_165) rfl k) ?_
          refine go (B := T27.setTop (mkF m 167 #[.val (.int p0), .val (.int p1), .val (.int (f0_t0 p0)), .val (.int (p1 &&& (7 : Int32))), .val (.int ((f0_t1 p1) &&& (7 : Int32))), .val (.int ((f0_t2 p1) &&& (7 : Int32))), .val (.int ((f0_t3 p1) &&& (7 : Int32))), .val (.ref b1_1), .val (.ref b1_2), .val (.ref b1_3), .val (.ref b1_4), .val (.ref b5), .val (.long (f0_t7 p1)), .second] [(.int (3 : Int32)), (.int (f0_t0 p0))])) (fun _ k => XS.iconst X27.here hx rfl (hb hby at_166) k) ?_
          refine go (B := T27.setTop (mkF m 197 #[.val (.int p0), .val (.int p1), .val (.int (f0_t0 p0)), .val (.int (p1 &&& (7 : Int32))), .val (.int ((f0_t1 p1) &&& (7 : Int32))), .val (.int ((f0_t2 p1) &&& (7 : Int32))), .val (.int ((f0_t3 p1) &&& (7 : Int32))), .val (.ref b1_1), .val (.ref b1_2), .val (.ref b1_3), .val (.ref b1_4), .val (.ref b5), .val (.long (f0_t7 p1)), .second] [])) (fun _ k => XS.icmpYes X27.here hx rfl (pc0 := 167) (pc' := 197) rfl (hb hby at_167) rfl (flt hc13).2.2.2 (by decide) (by decide) k) ?_
          refine go (B := T27.setTop (mkF m 199 #[.val (.int p0), .val (.int p1), .val (.int (f0_t0 p0)), .val (.int (p1 &&& (7 : Int32))), .val (.int ((f0_t1 p1) &&& (7 : Int32))), .val (.int ((f0_t2 p1) &&& (7 : Int32))), .val (.int ((f0_t3 p1) &&& (7 : Int32))), .val (.ref b1_1), .val (.ref b1_2), .val (.ref b1_3), .val (.ref b1_4), .val (.ref b5), .val (.long (f0_t7 p1)), .second] [(.ref b5)])) (fun _ k => XS.aload X27.here hx rfl (hb hby at_197) rfl rfl k) ?_
          obtain ⟨cq28, kq28, q28a, q28b, q28c⟩ := isOf hZ e27 o12_1
          obtain ⟨_, _, ⟨T28, L28, k28, n28⟩, -, X28, ⟨Lc28, hQ28, l28, y28, z28⟩, st28⟩ := X27.virtualBack hx (y := (⟨"com/example/antipode/antipode/problem/HammingDiversity", "value", "()J"⟩ : MethodName)) (z := (⟨"com/example/antipode/antipode/problem/HammingDiversity", "value", "()J"⟩ : MethodName)) hown (mvT hZ (hw _ (List.mem_of_getElem? (i := 18) rfl))) (mvT hZ (hw _ (List.mem_of_getElem? (i := 19) rfl))) (notFace_of_selects (args := #[]) (mvT hZ (hw _ (List.mem_of_getElem? (i := 21) rfl)))) (mvT hZ (hw _ (List.mem_of_getElem? (i := 21) rfl))) (mvT hZ (hw _ (List.mem_of_getElem? (i := 20) rfl))) (by decide) (backOf (W := 0) (rm4 l Z aw hw [] b5 b2_6 ((((0 : Int64) + (1 : Int64)) + (1 : Int64)) + (1 : Int64)) k2_6 ((((0 : Int64) + (f8_z0 (nar .boolean (f1_z0 (p1 &&& (7 : Int32)))))) + (f8_z0 (nar .boolean (f1_z0 ((f0_t1 p1) &&& (7 : Int32)))))) + (f8_z0 (nar .boolean (f1_z0 ((f0_t2 p1) &&& (7 : Int32)))))) ((((0 : Int64) + (f8_z1 (nar .boolean (f1_z1 (p1 &&& (7 : Int32)))))) + (f8_z1 (nar .boolean (f1_z1 ((f0_t1 p1) &&& (7 : Int32)))))) + (f8_z1 (nar .boolean (f1_z1 ((f0_t2 p1) &&& (7 : Int32)))))) ((((0 : Int64) + (f8_z2 (nar .boolean (f1_z2 (p1 &&& (7 : Int32)))))) + (f8_z2 (nar .boolean (f1_z2 ((f0_t1 p1) &&& (7 : Int32)))))) + (f8_z2 (nar .boolean (f1_z2 ((f0_t2 p1) &&& (7 : Int32)))))) T12.heap n0 Z12 o12_0 o12_2 o12_1 o12_3 (own_m (k := 3) (by decide) (own_step0 (own_step0 (own_step0 own_start)))) (own_m (k := 3) (by decide) (own_step1 (own_step1 (own_step1 own_start)))) (own_m (k := 3) (by decide) (own_step2 (own_step2 (own_step2 own_start))))) hZ (hw _ (List.mem_of_getElem? (i := 22) rfl)) (hw _ (List.mem_of_getElem? (i := 8) rfl)) (by decide) (by decide)) q28a q28c (g := (mkF m 199 #[.val (.int p0), .val (.int p1), .val (.int (f0_t0 p0)), .val (.int (p1 &&& (7 : Int32))), .val (.int ((f0_t1 p1) &&& (7 : Int32))), .val (.int ((f0_t2 p1) &&& (7 : Int32))), .val (.int ((f0_t3 p1) &&& (7 : Int32))), .val (.ref b1_1), .val (.ref b1_2), .val (.ref b1_3), .val (.ref b1_4), .val (.ref b5), .val (.long (f0_t7 p1)), .second] [(.ref b5)])) rfl (by rw [hml]; rfl) (Steps.refl _) (argsL := []) (rest := []) (lenOf pd_7 rfl) rfl (by show 2 * 0 + _ ≤ _; exact Nat.le_of_eq rfl) (hb hby at_199) (fun _ _ => ⟨rfl, e27, (by decide : 6 + 0 ≤ _), (by decide : 17 + 0 ≤ _)⟩)
          dsimp only [Pt.U, Pt.locs, Pt.cells, Pt.slots] at X28 l28 y28 z28 st28 hQ28
          subst l28 y28 z28
          obtain ⟨rfl, rfl, e28⟩ := hQ28
          have N28 := Fr.app N27 (Fr.nil n0)
          refine go (B := T28.setTop (mkF m 202 #[.val (.int p0), .val (.int p1), .val (.int (f0_t0 p0)), .val (.int (p1 &&& (7 : Int32))), .val (.int ((f0_t1 p1) &&& (7 : Int32))), .val (.int ((f0_t2 p1) &&& (7 : Int32))), .val (.int ((f0_t3 p1) &&& (7 : Int32))), .val (.ref b1_1), .val (.ref b1_2), .val (.ref b1_3), .val (.ref b1_4), .val (.ref b5), .val (.long (f0_t7 p1)), .second] [(.long (f0_t13 p1))])) (fun _ k => st28.trans k) ?_
          refine go (B := T28.setTop (mkF m 204 #[.val (.int p0), .val (.int p1), .val (.int (f0_t0 p0)), .val (.int (p1 &&& (7 : Int32))), .val (.int ((f0_t1 p1) &&& (7 : Int32))), .val (.int ((f0_t2 p1) &&& (7 : Int32))), .val (.int ((f0_t3 p1) &&& (7 : Int32))), .val (.ref b1_1), .val (.ref b1_2), .val (.ref b1_3), .val (.ref b1_4), .val (.ref b5), .val (.long (f0_t7 p1)), .second] [(.long (f0_t7 p1)), (.long (f0_t13 p1))])) (fun _ k => XS.lload X28.here hx rfl (hb hby at_202) rfl k) ?_
          refine go (B := T28.setTop (mkF m 205 #[.val (.int p0), .val (.int p1), .val (.int (f0_t0 p0)), .val (.int (p1 &&& (7 : Int32))), .val (.int ((f0_t1 p1) &&& (7 : Int32))), .val (.int ((f0_t2 p1) &&& (7 : Int32))), .val (.int ((f0_t3 p1) &&& (7 : Int32))), .val (.ref b1_1), .val (.ref b1_2), .val (.ref b1_3), .val (.ref b1_4), .val (.ref b5), .val (.long (f0_t7 p1)), .second] [(.int (lcmpW (f0_t13 p1) (f0_t7 p1)))])) (fun _ k => XS.lcmp X28.here hx rfl (hb hby at_204) rfl k) ?_
          by_cases hc29 : (lcmpW (f0_t13 p1) (f0_t7 p1)) = (0 : Int32)
          · refine go (B := T28.setTop (mkF m 208 #[.val (.int p0), .val (.int p1), .val (.int (f0_t0 p0)), .val (.int (p1 &&& (7 : Int32))), .val (.int ((f0_t1 p1) &&& (7 : Int32))), .val (.int ((f0_t2 p1) &&& (7 : Int32))), .val (.int ((f0_t3 p1) &&& (7 : Int32))), .val (.ref b1_1), .val (.ref b1_2), .val (.ref b1_3), .val (.ref b1_4), .val (.ref b5), .val (.long (f0_t7 p1)), .second] [])) (fun _ k => XS.ifNo X28.here hx rfl (hb hby at_205) rfl ((if0 _ _).trans (teq hc29).2) k) ?_
            refine go (B := T28.setTop (mkF m 209 #[.val (.int p0), .val (.int p1), .val (.int (f0_t0 p0)), .val (.int (p1 &&& (7 : Int32))), .val (.int ((f0_t1 p1) &&& (7 : Int32))), .val (.int ((f0_t2 p1) &&& (7 : Int32))), .val (.int ((f0_t3 p1) &&& (7 : Int32))), .val (.ref b1_1), .val (.ref b1_2), .val (.ref b1_3), .val (.ref b1_4), .val (.ref b5), .val (.long (f0_t7 p1)), .second] [(.int (1 : Int32))])) (fun _ k => XS.iconst X28.here hx rfl (hb hby at_208) k) ?_
            refine go (B := T28.setTop (mkF m 213 #[.val (.int p0), .val (.int p1), .val (.int (f0_t0 p0)), .val (.int (p1 &&& (7 : Int32))), .val (.int ((f0_t1 p1) &&& (7 : Int32))), .val (.int ((f0_t2 p1) &&& (7 : Int32))), .val (.int ((f0_t3 p1) &&& (7 : Int32))), .val (.ref b1_1), .val (.ref b1_2), .val (.ref b1_3), .val (.ref b1_4), .val (.ref b5), .val (.long (f0_t7 p1)), .second] [(.int (1 : Int32))])) (fun _ k => XS.goto X28.here hx rfl (pc0 := 209) (pc' := 213) rfl (hb hby at_209) (by decide) (by decide) k) ?_
            have r30 : (f0 p0 p1) = (1 : Int32) := by unfold f0; rw [if_pos hc7, if_pos hc9, if_pos hc11, if_neg hc13, if_pos hc29]
            exact end_nar X28 hx Bd.notSynchronized (t := .boolean) Bd.returns (by simp) (hb hby at_213) hF e28 (by decide) (by decide) ⟨(congrArg (fun z => some (Value.int z)) (r30.symm.trans (own_law p0 p1))), N28⟩
          · refine go (B := T28.setTop (mkF m 212 #[.val (.int p0), .val (.int p1), .val (.int (f0_t0 p0)), .val (.int (p1 &&& (7 : Int32))), .val (.int ((f0_t1 p1) &&& (7 : Int32))), .val (.int ((f0_t2 p1) &&& (7 : Int32))), .val (.int ((f0_t3 p1) &&& (7 : Int32))), .val (.ref b1_1), .val (.ref b1_2), .val (.ref b1_3), .val (.ref b1_4), .val (.ref b5), .val (.long (f0_t7 p1)), .second] [])) (fun _ k => XS.ifYes X28.here hx rfl (pc0 := 205) (pc' := 212) rfl (hb hby at_205) rfl ((if0 _ _).trans (feq hc29).2) (by decide) (by decide) k) ?_
            refine go (B := T28.setTop (mkF m 213 #[.val (.int p0), .val (.int p1), .val (.int (f0_t0 p0)), .val (.int (p1 &&& (7 : Int32))), .val (.int ((f0_t1 p1) &&& (7 : Int32))), .val (.int ((f0_t2 p1) &&& (7 : Int32))), .val (.int ((f0_t3 p1) &&& (7 : Int32))), .val (.ref b1_1), .val (.ref b1_2), .val (.ref b1_3), .val (.ref b1_4), .val (.ref b5), .val (.long (f0_t7 p1)), .second] [(.int (0 : Int32))])) (fun _ k => XS.iconst X28.here hx rfl (hb hby at_212) k) ?_
            have r31 : (f0 p0 p1) = (0 : Int32) := by unfold f0; rw [if_pos hc7, if_pos hc9, if_pos hc11, if_neg hc13, if_neg hc29]
            exact end_nar X28 hx Bd.notSynchronized (t := .boolean) Bd.returns (by simp) (hb hby at_213) hF e28 (by decide) (by decide) ⟨(congrArg (fun z => some (Value.int z)) (r31.symm.trans (own_law p0 p1))), N28⟩
      · refine go (B := T10.setTop (mkF m 110 #[.val (.int p0), .val (.int p1), .val (.int (f0_t0 p0)), .val (.int (p1 &&& (7 : Int32))), .val (.int ((f0_t1 p1) &&& (7 : Int32))), .val (.int ((f0_t2 p1) &&& (7 : Int32))), .val (.int ((f0_t3 p1) &&& (7 : Int32))), .val (.ref b1_1), .val (.ref b1_2), .val (.ref b1_3), .val (.ref b1_4), .val (.ref b5), .unset, .unset] [])) (fun _ k => XS.icmpYes X10.here hx rfl (pc0 := 100) (pc' := 110) rfl (hb hby at_100) rfl (flt hc11).2.2.2 (by decide) (by decide) k) ?_
        refine go (B := T10.setTop (mkF m 111 #[.val (.int p0), .val (.int p1), .val (.int (f0_t0 p0)), .val (.int (p1 &&& (7 : Int32))), .val (.int ((f0_t1 p1) &&& (7 : Int32))), .val (.int ((f0_t2 p1) &&& (7 : Int32))), .val (.int ((f0_t3 p1) &&& (7 : Int32))), .val (.ref b1_1), .val (.ref b1_2), .val (.ref b1_3), .val (.ref b1_4), .val (.ref b5), .unset, .unset] [(.int (f0_t0 p0))])) (fun _ k => XS.iloadN X10.here hx rfl (hb hby at_110) rfl k) ?_
        refine go (B := T10.setTop (mkF m 112 #[.val (.int p0), .val (.int p1), .val (.int (f0_t0 p0)), .val (.int (p1 &&& (7 : Int32))), .val (.int ((f0_t1 p1) &&& (7 : Int32))), .val (.int ((f0_t2 p1) &&& (7 : Int32))), .val (.int ((f0_t3 p1) &&& (7 : Int32))), .val (.ref b1_1), .val (.ref b1_2), .val (.ref b1_3), .val (.ref b1_4), .val (.ref b5), .unset, .unset] [(.int (3 : Int32)), (.int (f0_t0 p0))])) (fun _ k => XS.iconst X10.here hx rfl (hb hby at_111) k) ?_
        refine go (B := T10.setTop (mkF m 122 #[.val (.int p0), .val (.int p1), .val (.int (f0_t0 p0)), .val (.int (p1 &&& (7 : Int32))), .val (.int ((f0_t1 p1) &&& (7 : Int32))), .val (.int ((f0_t2 p1) &&& (7 : Int32))), .val (.int ((f0_t3 p1) &&& (7 : Int32))), .val (.ref b1_1), .val (.ref b1_2), .val (.ref b1_3), .val (.ref b1_4), .val (.ref b5), .unset, .unset] [])) (fun _ k => XS.icmpYes X10.here hx rfl (pc0 := 112) (pc' := 122) rfl (hb hby at_112) rfl (flt (show ¬ ((3 : Int32) < (f0_t0 p0)) from by revert hc7 hc9 hc11; simp only [Int32.lt_iff_toInt_lt, ← Int32.toInt_inj, Int32.reduceToInt]; omega)).2.2.2 (by decide) (by decide) k) ?_
        refine go (B := T10.setTop (mkF m 123 #[.val (.int p0), .val (.int p1), .val (.int (f0_t0 p0)), .val (.int (p1 &&& (7 : Int32))), .val (.int ((f0_t1 p1) &&& (7 : Int32))), .val (.int ((f0_t2 p1) &&& (7 : Int32))), .val (.int ((f0_t3 p1) &&& (7 : Int32))), .val (.ref b1_1), .val (.ref b1_2), .val (.ref b1_3), .val (.ref b1_4), .val (.ref b5), .unset, .unset] [(.long (0 : Int64))])) (fun _ k => XS.lconst X10.here hx rfl (hb hby at_122) k) ?_
        refine go (B := T10.setTop (mkF m 125 #[.val (.int p0), .val (.int p1), .val (.int (f0_t0 p0)), .val (.int (p1 &&& (7 : Int32))), .val (.int ((f0_t1 p1) &&& (7 : Int32))), .val (.int ((f0_t2 p1) &&& (7 : Int32))), .val (.int ((f0_t3 p1) &&& (7 : Int32))), .val (.ref b1_1), .val (.ref b1_2), .val (.ref b1_3), .val (.ref b1_4), .val (.ref b5), .val (.long (0 : Int64)), .second] [])) (fun _ k => XS.lstore X10.here hx rfl (hb hby at_123) rfl (l' := #[.val (.int p0), .val (.int p1), .val (.int (f0_t0 p0)), .val (.int (p1 &&& (7 : Int32))), .val (.int ((f0_t1 p1) &&& (7 : Int32))), .val (.int ((f0_t2 p1) &&& (7 : Int32))), .val (.int ((f0_t3 p1) &&& (7 : Int32))), .val (.ref b1_1), .val (.ref b1_2), .val (.ref b1_3), .val (.ref b1_4), .val (.ref b5), .val (.long (0 : Int64)), .second]) rfl k) ?_
        refine go (B := T10.setTop (mkF m 126 #[.val (.int p0), .val (.int p1), .val (.int (f0_t0 p0)), .val (.int (p1 &&& (7 : Int32))), .val (.int ((f0_t1 p1) &&& (7 : Int32))), .val (.int ((f0_t2 p1) &&& (7 : Int32))), .val (.int ((f0_t3 p1) &&& (7 : Int32))), .val (.ref b1_1), .val (.ref b1_2), .val (.ref b1_3), .val (.ref b1_4), .val (.ref b5), .val (.long (0 : Int64)), .second] [(.int (f0_t0 p0))])) (fun _ k => XS.iloadN X10.here hx rfl (hb hby at_125) rfl k) ?_
        refine go (B := T10.setTop (mkF m 127 #[.val (.int p0), .val (.int p1), .val (.int (f0_t0 p0)), .val (.int (p1 &&& (7 : Int32))), .val (.int ((f0_t1 p1) &&& (7 : Int32))), .val (.int ((f0_t2 p1) &&& (7 : Int32))), .val (.int ((f0_t3 p1) &&& (7 : Int32))), .val (.ref b1_1), .val (.ref b1_2), .val (.ref b1_3), .val (.ref b1_4), .val (.ref b5), .val (.long (0 : Int64)), .second] [(.int (1 : Int32)), (.int (f0_t0 p0))])) (fun _ k => XS.iconst X10.here hx rfl (hb hby at_126) k) ?_
        refine go (B := T10.setTop (mkF m 130 #[.val (.int p0), .val (.int p1), .val (.int (f0_t0 p0)), .val (.int (p1 &&& (7 : Int32))), .val (.int ((f0_t1 p1) &&& (7 : Int32))), .val (.int ((f0_t2 p1) &&& (7 : Int32))), .val (.int ((f0_t3 p1) &&& (7 : Int32))), .val (.ref b1_1), .val (.ref b1_2), .val (.ref b1_3), .val (.ref b1_4), .val (.ref b5), .val (.long (0 : Int64)), .second] [])) (fun _ k => XS.icmpNo X10.here hx rfl (hb hby at_127) rfl (tlt hc9).2.2.2 k) ?_
        refine go (B := T10.setTop (mkF m 132 #[.val (.int p0), .val (.int p1), .val (.int (f0_t0 p0)), .val (.int (p1 &&& (7 : Int32))), .val (.int ((f0_t1 p1) &&& (7 : Int32))), .val (.int ((f0_t2 p1) &&& (7 : Int32))), .val (.int ((f0_t3 p1) &&& (7 : Int32))), .val (.ref b1_1), .val (.ref b1_2), .val (.ref b1_3), .val (.ref b1_4), .val (.ref b5), .val (.long (0 : Int64)), .second] [(.long (0 : Int64))])) (fun _ k => XS.lload X10.here hx rfl (hb hby at_130) rfl k) ?_
        refine go (B := T10.setTop (mkF m 133 #[.val (.int p0), .val (.int p1), .val (.int (f0_t0 p0)), .val (.int (p1 &&& (7 : Int32))), .val (.int ((f0_t1 p1) &&& (7 : Int32))), .val (.int ((f0_t2 p1) &&& (7 : Int32))), .val (.int ((f0_t3 p1) &&& (7 : Int32))), .val (.ref b1_1), .val (.ref b1_2), .val (.ref b1_3), .val (.ref b1_4), .val (.ref b5), .val (.long (0 : Int64)), .second] [(.int (p1 &&& (7 : Int32))), (.long (0 : Int64))])) (fun _ k => XS.iloadN X10.here hx rfl (hb hby at_132) rfl k) ?_
        refine go (B := T10.setTop (mkF m 135 #[.val (.int p0), .val (.int p1), .val (.int (f0_t0 p0)), .val (.int (p1 &&& (7 : Int32))), .val (.int ((f0_t1 p1) &&& (7 : Int32))), .val (.int ((f0_t2 p1) &&& (7 : Int32))), .val (.int ((f0_t3 p1) &&& (7 : Int32))), .val (.ref b1_1), .val (.ref b1_2), .val (.ref b1_3), .val (.ref b1_4), .val (.ref b5), .val (.long (0 : Int64)), .second] [(.int ((f0_t1 p1) &&& (7 : Int32))), (.int (p1 &&& (7 : Int32))), (.long (0 : Int64))])) (fun _ k => XS.iload X10.here hx rfl (hb hby at_133) rfl k) ?_
        obtain ⟨_, _, ⟨T32, L32, k32, n32⟩, -, X32, ⟨Lc32, hQ32, l32, y32, z32⟩, st32⟩ := Jvm.LawKit.callS X10 hx (y := (⟨"com/example/antipode/antipode/problem/HammingDiversityAddPinLaw", "d", "(II)J"⟩ : MethodName)) hown (mvT hZ (hw _ (List.mem_of_getElem? (i := 40) rfl))) (mvT hZ (hw _ (List.mem_of_getElem? (i := 41) rfl))) (mvT hZ (hw _ (List.mem_of_getElem? (i := 3) rfl))) (mvT hZ (hw _ (List.mem_of_getElem? (i := 42) rfl))) (by decide) (backOf (W := 2) (rm9 l Z aw hw [] (p1 &&& (7 : Int32)) ((f0_t1 p1) &&& (7 : Int32)) T10.heap n0 Z10 ) hZ (hw _ (List.mem_of_getElem? (i := 42) rfl)) (hw _ (List.mem_of_getElem? (i := 3) rfl)) (by decide) (by decide)) (g := (mkF m 135 #[.val (.int p0), .val (.int p1), .val (.int (f0_t0 p0)), .val (.int (p1 &&& (7 : Int32))), .val (.int ((f0_t1 p1) &&& (7 : Int32))), .val (.int ((f0_t2 p1) &&& (7 : Int32))), .val (.int ((f0_t3 p1) &&& (7 : Int32))), .val (.ref b1_1), .val (.ref b1_2), .val (.ref b1_3), .val (.ref b1_4), .val (.ref b5), .val (.long (0 : Int64)), .second] [(.int ((f0_t1 p1) &&& (7 : Int32))), (.int (p1 &&& (7 : Int32))), (.long (0 : Int64))])) rfl (by rw [hml]; rfl) (argsL := [(.int (p1 &&& (7 : Int32))), (.int ((f0_t1 p1) &&& (7 : Int32)))]) (rest := [(.long (0 : Int64))]) (lenOf pd_6 rfl) rfl (by show 2 * 0 + _ ≤ _; exact Nat.le_of_eq rfl) (hb hby at_135) (fun _ _ => ⟨rfl, rfl, (by decide : 6 + 0 ≤ _), (by decide : 17 + 0 ≤ _)⟩)
        dsimp only [Pt.U, Pt.locs, Pt.cells, Pt.slots] at X32 l32 y32 z32 st32 hQ32
        subst l32 y32 z32
        obtain ⟨rfl, rfl, e32⟩ := hQ32
        have N32 := Fr.app N10 (Fr.nil n0)
        refine go (B := T32.setTop (mkF m 138 #[.val (.int p0), .val (.int p1), .val (.int (f0_t0 p0)), .val (.int (p1 &&& (7 : Int32))), .val (.int ((f0_t1 p1) &&& (7 : Int32))), .val (.int ((f0_t2 p1) &&& (7 : Int32))), .val (.int ((f0_t3 p1) &&& (7 : Int32))), .val (.ref b1_1), .val (.ref b1_2), .val (.ref b1_3), .val (.ref b1_4), .val (.ref b5), .val (.long (0 : Int64)), .second] [(.long (f0_t4 p1)), (.long (0 : Int64))])) (fun _ k => st32 _ k) ?_
        refine go (B := T32.setTop (mkF m 139 #[.val (.int p0), .val (.int p1), .val (.int (f0_t0 p0)), .val (.int (p1 &&& (7 : Int32))), .val (.int ((f0_t1 p1) &&& (7 : Int32))), .val (.int ((f0_t2 p1) &&& (7 : Int32))), .val (.int ((f0_t3 p1) &&& (7 : Int32))), .val (.ref b1_1), .val (.ref b1_2), .val (.ref b1_3), .val (.ref b1_4), .val (.ref b5), .val (.long (0 : Int64)), .second] [(.long ((0 : Int64) + (f0_t4 p1)))])) (fun _ k => XS.ladd X32.here hx rfl (hb hby at_138) rfl k) ?_
        refine go (B := T32.setTop (mkF m 141 #[.val (.int p0), .val (.int p1), .val (.int (f0_t0 p0)), .val (.int (p1 &&& (7 : Int32))), .val (.int ((f0_t1 p1) &&& (7 : Int32))), .val (.int ((f0_t2 p1) &&& (7 : Int32))), .val (.int ((f0_t3 p1) &&& (7 : Int32))), .val (.ref b1_1), .val (.ref b1_2), .val (.ref b1_3), .val (.ref b1_4), .val (.ref b5), .val (.long ((0 : Int64) + (f0_t4 p1))), .second] [])) (fun _ k => XS.lstore X32.here hx rfl (hb hby at_139) rfl (l' := #[.val (.int p0), .val (.int p1), .val (.int (f0_t0 p0)), .val (.int (p1 &&& (7 : Int32))), .val (.int ((f0_t1 p1) &&& (7 : Int32))), .val (.int ((f0_t2 p1) &&& (7 : Int32))), .val (.int ((f0_t3 p1) &&& (7 : Int32))), .val (.ref b1_1), .val (.ref b1_2), .val (.ref b1_3), .val (.ref b1_4), .val (.ref b5), .val (.long ((0 : Int64) + (f0_t4 p1))), .second]) rfl k) ?_
        refine go (B := T32.setTop (mkF m 142 #[.val (.int p0), .val (.int p1), .val (.int (f0_t0 p0)), .val (.int (p1 &&& (7 : Int32))), .val (.int ((f0_t1 p1) &&& (7 : Int32))), .val (.int ((f0_t2 p1) &&& (7 : Int32))), .val (.int ((f0_t3 p1) &&& (7 : Int32))), .val (.ref b1_1), .val (.ref b1_2), .val (.ref b1_3), .val (.ref b1_4), .val (.ref b5), .val (.long ((0 : Int64) + (f0_t4 p1))), .second] [(.int (f0_t0 p0))])) (fun _ k => XS.iloadN X32.here hx rfl (hb hby at_141) rfl k) ?_
        refine go (B := T32.setTop (mkF m 143 #[.val (.int p0), .val (.int p1), .val (.int (f0_t0 p0)), .val (.int (p1 &&& (7 : Int32))), .val (.int ((f0_t1 p1) &&& (7 : Int32))), .val (.int ((f0_t2 p1) &&& (7 : Int32))), .val (.int ((f0_t3 p1) &&& (7 : Int32))), .val (.ref b1_1), .val (.ref b1_2), .val (.ref b1_3), .val (.ref b1_4), .val (.ref b5), .val (.long ((0 : Int64) + (f0_t4 p1))), .second] [(.int (2 : Int32)), (.int (f0_t0 p0))])) (fun _ k => XS.iconst X32.here hx rfl (hb hby at_142) k) ?_
        refine go (B := T32.setTop (mkF m 165 #[.val (.int p0), .val (.int p1), .val (.int (f0_t0 p0)), .val (.int (p1 &&& (7 : Int32))), .val (.int ((f0_t1 p1) &&& (7 : Int32))), .val (.int ((f0_t2 p1) &&& (7 : Int32))), .val (.int ((f0_t3 p1) &&& (7 : Int32))), .val (.ref b1_1), .val (.ref b1_2), .val (.ref b1_3), .val (.ref b1_4), .val (.ref b5), .val (.long ((0 : Int64) + (f0_t4 p1))), .second] [])) (fun _ k => XS.icmpYes X32.here hx rfl (pc0 := 143) (pc' := 165) rfl (hb hby at_143) rfl (flt hc11).2.2.2 (by decide) (by decide) k) ?_
        refine go (B := T32.setTop (mkF m 166 #[.val (.int p0), .val (.int p1), .val (.int (f0_t0 p0)), .val (.int (p1 &&& (7 : Int32))), .val (.int ((f0_t1 p1) &&& (7 : Int32))), .val (.int ((f0_t2 p1) &&& (7 : Int32))), .val (.int ((f0_t3 p1) &&& (7 : Int32))), .val (.ref b1_1), .val (.ref b1_2), .val (.ref b1_3), .val (.ref b1_4), .val (.ref b5), .val (.long ((0 : Int64) + (f0_t4 p1))), .second] [(.int (f0_t0 p0))])) (fun _ k => XS.iloadN X32.here hx rfl (hb hby at_165) rfl k) ?_
        refine go (B := T32.setTop (mkF m 167 #[.val (.int p0), .val (.int p1), .val (.int (f0_t0 p0)), .val (.int (p1 &&& (7 : Int32))), .val (.int ((f0_t1 p1) &&& (7 : Int32))), .val (.int ((f0_t2 p1) &&& (7 : Int32))), .val (.int ((f0_t3 p1) &&& (7 : Int32))), .val (.ref b1_1), .val (.ref b1_2), .val (.ref b1_3), .val (.ref b1_4), .val (.ref b5), .val (.long ((0 : Int64) + (f0_t4 p1))), .second] [(.int (3 : Int32)), (.int (f0_t0 p0))])) (fun _ k => XS.iconst X32.here hx rfl (hb hby at_166) k) ?_
        refine go (B := T32.setTop (mkF m 197 #[.val (.int p0), .val (.int p1), .val (.int (f0_t0 p0)), .val (.int (p1 &&& (7 : Int32))), .val (.int ((f0_t1 p1) &&& (7 : Int32))), .val (.int ((f0_t2 p1) &&& (7 : Int32))), .val (.int ((f0_t3 p1) &&& (7 : Int32))), .val (.ref b1_1), .val (.ref b1_2), .val (.ref b1_3), .val (.ref b1_4), .val (.ref b5), .val (.long ((0 : Int64) + (f0_t4 p1))), .second] [])) (fun _ k => XS.icmpYes X32.here hx rfl (pc0 := 167) (pc' := 197) rfl (hb hby at_167) rfl (flt (show ¬ ((3 : Int32) < (f0_t0 p0)) from by revert hc7 hc9 hc11; simp only [Int32.lt_iff_toInt_lt, ← Int32.toInt_inj, Int32.reduceToInt]; omega)).2.2.2 (by decide) (by decide) k) ?_
        refine go (B := T32.setTop (mkF m 199 #[.val (.int p0), .val (.int p1), .val (.int (f0_t0 p0)), .val (.int (p1 &&& (7 : Int32))), .val (.int ((f0_t1 p1) &&& (7 : Int32))), .val (.int ((f0_t2 p1) &&& (7 : Int32))), .val (.int ((f0_t3 p1) &&& (7 : Int32))), .val (.ref b1_1), .val (.ref b1_2), .val (.ref b1_3), .val (.ref b1_4), .val (.ref b5), .val (.long ((0 : Int64) + (f0_t4 p1))), .second] [(.ref b5)])) (fun _ k => XS.aload X32.here hx rfl (hb hby at_197) rfl rfl k) ?_
        obtain ⟨cq33, kq33, q33a, q33b, q33c⟩ := isOf hZ e32 o10_1
        obtain ⟨_, _, ⟨T33, L33, k33, n33⟩, -, X33, ⟨Lc33, hQ33, l33, y33, z33⟩, st33⟩ := X32.virtualBack hx (y := (⟨"com/example/antipode/antipode/problem/HammingDiversity", "value", "()J"⟩ : MethodName)) (z := (⟨"com/example/antipode/antipode/problem/HammingDiversity", "value", "()J"⟩ : MethodName)) hown (mvT hZ (hw _ (List.mem_of_getElem? (i := 18) rfl))) (mvT hZ (hw _ (List.mem_of_getElem? (i := 19) rfl))) (notFace_of_selects (args := #[]) (mvT hZ (hw _ (List.mem_of_getElem? (i := 21) rfl)))) (mvT hZ (hw _ (List.mem_of_getElem? (i := 21) rfl))) (mvT hZ (hw _ (List.mem_of_getElem? (i := 20) rfl))) (by decide) (backOf (W := 0) (rm4 l Z aw hw [] b5 b2_6 (((0 : Int64) + (1 : Int64)) + (1 : Int64)) k2_6 (((0 : Int64) + (f8_z0 (nar .boolean (f1_z0 (p1 &&& (7 : Int32)))))) + (f8_z0 (nar .boolean (f1_z0 ((f0_t1 p1) &&& (7 : Int32)))))) (((0 : Int64) + (f8_z1 (nar .boolean (f1_z1 (p1 &&& (7 : Int32)))))) + (f8_z1 (nar .boolean (f1_z1 ((f0_t1 p1) &&& (7 : Int32)))))) (((0 : Int64) + (f8_z2 (nar .boolean (f1_z2 (p1 &&& (7 : Int32)))))) + (f8_z2 (nar .boolean (f1_z2 ((f0_t1 p1) &&& (7 : Int32)))))) T10.heap n0 Z10 o10_0 o10_2 o10_1 o10_3 (own_m (k := 2) (by decide) (own_step0 (own_step0 own_start))) (own_m (k := 2) (by decide) (own_step1 (own_step1 own_start))) (own_m (k := 2) (by decide) (own_step2 (own_step2 own_start)))) hZ (hw _ (List.mem_of_getElem? (i := 22) rfl)) (hw _ (List.mem_of_getElem? (i := 8) rfl)) (by decide) (by decide)) q33a q33c (g := (mkF m 199 #[.val (.int p0), .val (.int p1), .val (.int (f0_t0 p0)), .val (.int (p1 &&& (7 : Int32))), .val (.int ((f0_t1 p1) &&& (7 : Int32))), .val (.int ((f0_t2 p1) &&& (7 : Int32))), .val (.int ((f0_t3 p1) &&& (7 : Int32))), .val (.ref b1_1), .val (.ref b1_2), .val (.ref b1_3), .val (.ref b1_4), .val (.ref b5), .val (.long ((0 : Int64) + (f0_t4 p1))), .second] [(.ref b5)])) rfl (by rw [hml]; rfl) (Steps.refl _) (argsL := []) (rest := []) (lenOf pd_7 rfl) rfl (by show 2 * 0 + _ ≤ _; exact Nat.le_of_eq rfl) (hb hby at_199) (fun _ _ => ⟨rfl, e32, (by decide : 6 + 0 ≤ _), (by decide : 17 + 0 ≤ _)⟩)
        dsimp only [Pt.U, Pt.locs, Pt.cells, Pt.slots] at X33 l33 y33 z33 st33 hQ33
        subst l33 y33 z33
        obtain ⟨rfl, rfl, e33⟩ := hQ33
        have N33 := Fr.app N32 (Fr.nil n0)
        refine go (B := T33.setTop (mkF m 202 #[.val (.int p0), .val (.int p1), .val (.int (f0_t0 p0)), .val (.int (p1 &&& (7 : Int32))), .val (.int ((f0_t1 p1) &&& (7 : Int32))), .val (.int ((f0_t2 p1) &&& (7 : Int32))), .val (.int ((f0_t3 p1) &&& (7 : Int32))), .val (.ref b1_1), .val (.ref b1_2), .val (.ref b1_3), .val (.ref b1_4), .val (.ref b5), .val (.long ((0 : Int64) + (f0_t4 p1))), .second] [(.long (f0_t14 p1))])) (fun _ k => st33.trans k) ?_
        refine go (B := T33.setTop (mkF m 204 #[.val (.int p0), .val (.int p1), .val (.int (f0_t0 p0)), .val (.int (p1 &&& (7 : Int32))), .val (.int ((f0_t1 p1) &&& (7 : Int32))), .val (.int ((f0_t2 p1) &&& (7 : Int32))), .val (.int ((f0_t3 p1) &&& (7 : Int32))), .val (.ref b1_1), .val (.ref b1_2), .val (.ref b1_3), .val (.ref b1_4), .val (.ref b5), .val (.long ((0 : Int64) + (f0_t4 p1))), .second] [(.long ((0 : Int64) + (f0_t4 p1))), (.long (f0_t14 p1))])) (fun _ k => XS.lload X33.here hx rfl (hb hby at_202) rfl k) ?_
        refine go (B := T33.setTop (mkF m 205 #[.val (.int p0), .val (.int p1), .val (.int (f0_t0 p0)), .val (.int (p1 &&& (7 : Int32))), .val (.int ((f0_t1 p1) &&& (7 : Int32))), .val (.int ((f0_t2 p1) &&& (7 : Int32))), .val (.int ((f0_t3 p1) &&& (7 : Int32))), .val (.ref b1_1), .val (.ref b1_2), .val (.ref b1_3), .val (.ref b1_4), .val (.ref b5), .val (.long ((0 : Int64) + (f0_t4 p1))), .second] [(.int (lcmpW (f0_t14 p1) ((0 : Int64) + (f0_t4 p1))))])) (fun _ k => XS.lcmp X33.here hx rfl (hb hby at_204) rfl k) ?_
        by_cases hc34 : (lcmpW (f0_t14 p1) ((0 : Int64) + (f0_t4 p1))) = (0 : Int32)
        · refine go (B := T33.setTop (mkF m 208 #[.val (.int p0), .val (.int p1), .val (.int (f0_t0 p0)), .val (.int (p1 &&& (7 : Int32))), .val (.int ((f0_t1 p1) &&& (7 : Int32))), .val (.int ((f0_t2 p1) &&& (7 : Int32))), .val (.int ((f0_t3 p1) &&& (7 : Int32))), .val (.ref b1_1), .val (.ref b1_2), .val (.ref b1_3), .val (.ref b1_4), .val (.ref b5), .val (.long ((0 : Int64) + (f0_t4 p1))), .second] [])) (fun _ k => XS.ifNo X33.here hx rfl (hb hby at_205) rfl ((if0 _ _).trans (teq hc34).2) k) ?_
          refine go (B := T33.setTop (mkF m 209 #[.val (.int p0), .val (.int p1), .val (.int (f0_t0 p0)), .val (.int (p1 &&& (7 : Int32))), .val (.int ((f0_t1 p1) &&& (7 : Int32))), .val (.int ((f0_t2 p1) &&& (7 : Int32))), .val (.int ((f0_t3 p1) &&& (7 : Int32))), .val (.ref b1_1), .val (.ref b1_2), .val (.ref b1_3), .val (.ref b1_4), .val (.ref b5), .val (.long ((0 : Int64) + (f0_t4 p1))), .second] [(.int (1 : Int32))])) (fun _ k => XS.iconst X33.here hx rfl (hb hby at_208) k) ?_
          refine go (B := T33.setTop (mkF m 213 #[.val (.int p0), .val (.int p1), .val (.int (f0_t0 p0)), .val (.int (p1 &&& (7 : Int32))), .val (.int ((f0_t1 p1) &&& (7 : Int32))), .val (.int ((f0_t2 p1) &&& (7 : Int32))), .val (.int ((f0_t3 p1) &&& (7 : Int32))), .val (.ref b1_1), .val (.ref b1_2), .val (.ref b1_3), .val (.ref b1_4), .val (.ref b5), .val (.long ((0 : Int64) + (f0_t4 p1))), .second] [(.int (1 : Int32))])) (fun _ k => XS.goto X33.here hx rfl (pc0 := 209) (pc' := 213) rfl (hb hby at_209) (by decide) (by decide) k) ?_
          have r35 : (f0 p0 p1) = (1 : Int32) := by unfold f0; rw [if_pos hc7, if_pos hc9, if_neg hc11, if_pos hc34]
          exact end_nar X33 hx Bd.notSynchronized (t := .boolean) Bd.returns (by simp) (hb hby at_213) hF e33 (by decide) (by decide) ⟨(congrArg (fun z => some (Value.int z)) (r35.symm.trans (own_law p0 p1))), N33⟩
        · refine go (B := T33.setTop (mkF m 212 #[.val (.int p0), .val (.int p1), .val (.int (f0_t0 p0)), .val (.int (p1 &&& (7 : Int32))), .val (.int ((f0_t1 p1) &&& (7 : Int32))), .val (.int ((f0_t2 p1) &&& (7 : Int32))), .val (.int ((f0_t3 p1) &&& (7 : Int32))), .val (.ref b1_1), .val (.ref b1_2), .val (.ref b1_3), .val (.ref b1_4), .val (.ref b5), .val (.long ((0 : Int64) + (f0_t4 p1))), .second] [])) (fun _ k => XS.ifYes X33.here hx rfl (pc0 := 205) (pc' := 212) rfl (hb hby at_205) rfl ((if0 _ _).trans (feq hc34).2) (by decide) (by decide) k) ?_
          refine go (B := T33.setTop (mkF m 213 #[.val (.int p0), .val (.int p1), .val (.int (f0_t0 p0)), .val (.int (p1 &&& (7 : Int32))), .val (.int ((f0_t1 p1) &&& (7 : Int32))), .val (.int ((f0_t2 p1) &&& (7 : Int32))), .val (.int ((f0_t3 p1) &&& (7 : Int32))), .val (.ref b1_1), .val (.ref b1_2), .val (.ref b1_3), .val (.ref b1_4), .val (.ref b5), .val (.long ((0 : Int64) + (f0_t4 p1))), .second] [(.int (0 : Int32))])) (fun _ k => XS.iconst X33.here hx rfl (hb hby at_212) k) ?_
          have r36 : (f0 p0 p1) = (0 : Int32) := by unfold f0; rw [if_pos hc7, if_pos hc9, if_neg hc11, if_neg hc34]
          exact end_nar X33 hx Bd.notSynchronized (t := .boolean) Bd.returns (by simp) (hb hby at_213) hF e33 (by decide) (by decide) ⟨(congrArg (fun z => some (Value.int z)) (r36.symm.trans (own_law p0 p1))), N33⟩
    · refine go (B := T8.setTop (mkF m 98 #[.val (.int p0), .val (.int p1), .val (.int (f0_t0 p0)), .val (.int (p1 &&& (7 : Int32))), .val (.int ((f0_t1 p1) &&& (7 : Int32))), .val (.int ((f0_t2 p1) &&& (7 : Int32))), .val (.int ((f0_t3 p1) &&& (7 : Int32))), .val (.ref b1_1), .val (.ref b1_2), .val (.ref b1_3), .val (.ref b1_4), .val (.ref b5), .unset, .unset] [])) (fun _ k => XS.icmpYes X8.here hx rfl (pc0 := 88) (pc' := 98) rfl (hb hby at_88) rfl (flt hc9).2.2.2 (by decide) (by decide) k) ?_
      refine go (B := T8.setTop (mkF m 99 #[.val (.int p0), .val (.int p1), .val (.int (f0_t0 p0)), .val (.int (p1 &&& (7 : Int32))), .val (.int ((f0_t1 p1) &&& (7 : Int32))), .val (.int ((f0_t2 p1) &&& (7 : Int32))), .val (.int ((f0_t3 p1) &&& (7 : Int32))), .val (.ref b1_1), .val (.ref b1_2), .val (.ref b1_3), .val (.ref b1_4), .val (.ref b5), .unset, .unset] [(.int (f0_t0 p0))])) (fun _ k => XS.iloadN X8.here hx rfl (hb hby at_98) rfl k) ?_
      refine go (B := T8.setTop (mkF m 100 #[.val (.int p0), .val (.int p1), .val (.int (f0_t0 p0)), .val (.int (p1 &&& (7 : Int32))), .val (.int ((f0_t1 p1) &&& (7 : Int32))), .val (.int ((f0_t2 p1) &&& (7 : Int32))), .val (.int ((f0_t3 p1) &&& (7 : Int32))), .val (.ref b1_1), .val (.ref b1_2), .val (.ref b1_3), .val (.ref b1_4), .val (.ref b5), .unset, .unset] [(.int (2 : Int32)), (.int (f0_t0 p0))])) (fun _ k => XS.iconst X8.here hx rfl (hb hby at_99) k) ?_
      refine go (B := T8.setTop (mkF m 110 #[.val (.int p0), .val (.int p1), .val (.int (f0_t0 p0)), .val (.int (p1 &&& (7 : Int32))), .val (.int ((f0_t1 p1) &&& (7 : Int32))), .val (.int ((f0_t2 p1) &&& (7 : Int32))), .val (.int ((f0_t3 p1) &&& (7 : Int32))), .val (.ref b1_1), .val (.ref b1_2), .val (.ref b1_3), .val (.ref b1_4), .val (.ref b5), .unset, .unset] [])) (fun _ k => XS.icmpYes X8.here hx rfl (pc0 := 100) (pc' := 110) rfl (hb hby at_100) rfl (flt (show ¬ ((2 : Int32) < (f0_t0 p0)) from by revert hc7 hc9; simp only [Int32.lt_iff_toInt_lt, ← Int32.toInt_inj, Int32.reduceToInt]; omega)).2.2.2 (by decide) (by decide) k) ?_
      refine go (B := T8.setTop (mkF m 111 #[.val (.int p0), .val (.int p1), .val (.int (f0_t0 p0)), .val (.int (p1 &&& (7 : Int32))), .val (.int ((f0_t1 p1) &&& (7 : Int32))), .val (.int ((f0_t2 p1) &&& (7 : Int32))), .val (.int ((f0_t3 p1) &&& (7 : Int32))), .val (.ref b1_1), .val (.ref b1_2), .val (.ref b1_3), .val (.ref b1_4), .val (.ref b5), .unset, .unset] [(.int (f0_t0 p0))])) (fun _ k => XS.iloadN X8.here hx rfl (hb hby at_110) rfl k) ?_
      refine go (B := T8.setTop (mkF m 112 #[.val (.int p0), .val (.int p1), .val (.int (f0_t0 p0)), .val (.int (p1 &&& (7 : Int32))), .val (.int ((f0_t1 p1) &&& (7 : Int32))), .val (.int ((f0_t2 p1) &&& (7 : Int32))), .val (.int ((f0_t3 p1) &&& (7 : Int32))), .val (.ref b1_1), .val (.ref b1_2), .val (.ref b1_3), .val (.ref b1_4), .val (.ref b5), .unset, .unset] [(.int (3 : Int32)), (.int (f0_t0 p0))])) (fun _ k => XS.iconst X8.here hx rfl (hb hby at_111) k) ?_
      refine go (B := T8.setTop (mkF m 122 #[.val (.int p0), .val (.int p1), .val (.int (f0_t0 p0)), .val (.int (p1 &&& (7 : Int32))), .val (.int ((f0_t1 p1) &&& (7 : Int32))), .val (.int ((f0_t2 p1) &&& (7 : Int32))), .val (.int ((f0_t3 p1) &&& (7 : Int32))), .val (.ref b1_1), .val (.ref b1_2), .val (.ref b1_3), .val (.ref b1_4), .val (.ref b5), .unset, .unset] [])) (fun _ k => XS.icmpYes X8.here hx rfl (pc0 := 112) (pc' := 122) rfl (hb hby at_112) rfl (flt (show ¬ ((3 : Int32) < (f0_t0 p0)) from by revert hc7 hc9; simp only [Int32.lt_iff_toInt_lt, ← Int32.toInt_inj, Int32.reduceToInt]; omega)).2.2.2 (by decide) (by decide) k) ?_
      refine go (B := T8.setTop (mkF m 123 #[.val (.int p0), .val (.int p1), .val (.int (f0_t0 p0)), .val (.int (p1 &&& (7 : Int32))), .val (.int ((f0_t1 p1) &&& (7 : Int32))), .val (.int ((f0_t2 p1) &&& (7 : Int32))), .val (.int ((f0_t3 p1) &&& (7 : Int32))), .val (.ref b1_1), .val (.ref b1_2), .val (.ref b1_3), .val (.ref b1_4), .val (.ref b5), .unset, .unset] [(.long (0 : Int64))])) (fun _ k => XS.lconst X8.here hx rfl (hb hby at_122) k) ?_
      refine go (B := T8.setTop (mkF m 125 #[.val (.int p0), .val (.int p1), .val (.int (f0_t0 p0)), .val (.int (p1 &&& (7 : Int32))), .val (.int ((f0_t1 p1) &&& (7 : Int32))), .val (.int ((f0_t2 p1) &&& (7 : Int32))), .val (.int ((f0_t3 p1) &&& (7 : Int32))), .val (.ref b1_1), .val (.ref b1_2), .val (.ref b1_3), .val (.ref b1_4), .val (.ref b5), .val (.long (0 : Int64)), .second] [])) (fun _ k => XS.lstore X8.here hx rfl (hb hby at_123) rfl (l' := #[.val (.int p0), .val (.int p1), .val (.int (f0_t0 p0)), .val (.int (p1 &&& (7 : Int32))), .val (.int ((f0_t1 p1) &&& (7 : Int32))), .val (.int ((f0_t2 p1) &&& (7 : Int32))), .val (.int ((f0_t3 p1) &&& (7 : Int32))), .val (.ref b1_1), .val (.ref b1_2), .val (.ref b1_3), .val (.ref b1_4), .val (.ref b5), .val (.long (0 : Int64)), .second]) rfl k) ?_
      refine go (B := T8.setTop (mkF m 126 #[.val (.int p0), .val (.int p1), .val (.int (f0_t0 p0)), .val (.int (p1 &&& (7 : Int32))), .val (.int ((f0_t1 p1) &&& (7 : Int32))), .val (.int ((f0_t2 p1) &&& (7 : Int32))), .val (.int ((f0_t3 p1) &&& (7 : Int32))), .val (.ref b1_1), .val (.ref b1_2), .val (.ref b1_3), .val (.ref b1_4), .val (.ref b5), .val (.long (0 : Int64)), .second] [(.int (f0_t0 p0))])) (fun _ k => XS.iloadN X8.here hx rfl (hb hby at_125) rfl k) ?_
      refine go (B := T8.setTop (mkF m 127 #[.val (.int p0), .val (.int p1), .val (.int (f0_t0 p0)), .val (.int (p1 &&& (7 : Int32))), .val (.int ((f0_t1 p1) &&& (7 : Int32))), .val (.int ((f0_t2 p1) &&& (7 : Int32))), .val (.int ((f0_t3 p1) &&& (7 : Int32))), .val (.ref b1_1), .val (.ref b1_2), .val (.ref b1_3), .val (.ref b1_4), .val (.ref b5), .val (.long (0 : Int64)), .second] [(.int (1 : Int32)), (.int (f0_t0 p0))])) (fun _ k => XS.iconst X8.here hx rfl (hb hby at_126) k) ?_
      refine go (B := T8.setTop (mkF m 141 #[.val (.int p0), .val (.int p1), .val (.int (f0_t0 p0)), .val (.int (p1 &&& (7 : Int32))), .val (.int ((f0_t1 p1) &&& (7 : Int32))), .val (.int ((f0_t2 p1) &&& (7 : Int32))), .val (.int ((f0_t3 p1) &&& (7 : Int32))), .val (.ref b1_1), .val (.ref b1_2), .val (.ref b1_3), .val (.ref b1_4), .val (.ref b5), .val (.long (0 : Int64)), .second] [])) (fun _ k => XS.icmpYes X8.here hx rfl (pc0 := 127) (pc' := 141) rfl (hb hby at_127) rfl (flt hc9).2.2.2 (by decide) (by decide) k) ?_
      refine go (B := T8.setTop (mkF m 142 #[.val (.int p0), .val (.int p1), .val (.int (f0_t0 p0)), .val (.int (p1 &&& (7 : Int32))), .val (.int ((f0_t1 p1) &&& (7 : Int32))), .val (.int ((f0_t2 p1) &&& (7 : Int32))), .val (.int ((f0_t3 p1) &&& (7 : Int32))), .val (.ref b1_1), .val (.ref b1_2), .val (.ref b1_3), .val (.ref b1_4), .val (.ref b5), .val (.long (0 : Int64)), .second] [(.int (f0_t0 p0))])) (fun _ k => XS.iloadN X8.here hx rfl (hb hby at_141) rfl k) ?_
      refine go (B := T8.setTop (mkF m 143 #[.val (.int p0), .val (.int p1), .val (.int (f0_t0 p0)), .val (.int (p1 &&& (7 : Int32))), .val (.int ((f0_t1 p1) &&& (7 : Int32))), .val (.int ((f0_t2 p1) &&& (7 : Int32))), .val (.int ((f0_t3 p1) &&& (7 : Int32))), .val (.ref b1_1), .val (.ref b1_2), .val (.ref b1_3), .val (.ref b1_4), .val (.ref b5), .val (.long (0 : Int64)), .second] [(.int (2 : Int32)), (.int (f0_t0 p0))])) (fun _ k => XS.iconst X8.here hx rfl (hb hby at_142) k) ?_
      refine go (B := T8.setTop (mkF m 165 #[.val (.int p0), .val (.int p1), .val (.int (f0_t0 p0)), .val (.int (p1 &&& (7 : Int32))), .val (.int ((f0_t1 p1) &&& (7 : Int32))), .val (.int ((f0_t2 p1) &&& (7 : Int32))), .val (.int ((f0_t3 p1) &&& (7 : Int32))), .val (.ref b1_1), .val (.ref b1_2), .val (.ref b1_3), .val (.ref b1_4), .val (.ref b5), .val (.long (0 : Int64)), .second] [])) (fun _ k => XS.icmpYes X8.here hx rfl (pc0 := 143) (pc' := 165) rfl (hb hby at_143) rfl (flt (show ¬ ((2 : Int32) < (f0_t0 p0)) from by revert hc7 hc9; simp only [Int32.lt_iff_toInt_lt, ← Int32.toInt_inj, Int32.reduceToInt]; omega)).2.2.2 (by decide) (by decide) k) ?_
      refine go (B := T8.setTop (mkF m 166 #[.val (.int p0), .val (.int p1), .val (.int (f0_t0 p0)), .val (.int (p1 &&& (7 : Int32))), .val (.int ((f0_t1 p1) &&& (7 : Int32))), .val (.int ((f0_t2 p1) &&& (7 : Int32))), .val (.int ((f0_t3 p1) &&& (7 : Int32))), .val (.ref b1_1), .val (.ref b1_2), .val (.ref b1_3), .val (.ref b1_4), .val (.ref b5), .val (.long (0 : Int64)), .second] [(.int (f0_t0 p0))])) (fun _ k => XS.iloadN X8.here hx rfl (hb hby at_165) rfl k) ?_
      refine go (B := T8.setTop (mkF m 167 #[.val (.int p0), .val (.int p1), .val (.int (f0_t0 p0)), .val (.int (p1 &&& (7 : Int32))), .val (.int ((f0_t1 p1) &&& (7 : Int32))), .val (.int ((f0_t2 p1) &&& (7 : Int32))), .val (.int ((f0_t3 p1) &&& (7 : Int32))), .val (.ref b1_1), .val (.ref b1_2), .val (.ref b1_3), .val (.ref b1_4), .val (.ref b5), .val (.long (0 : Int64)), .second] [(.int (3 : Int32)), (.int (f0_t0 p0))])) (fun _ k => XS.iconst X8.here hx rfl (hb hby at_166) k) ?_
      refine go (B := T8.setTop (mkF m 197 #[.val (.int p0), .val (.int p1), .val (.int (f0_t0 p0)), .val (.int (p1 &&& (7 : Int32))), .val (.int ((f0_t1 p1) &&& (7 : Int32))), .val (.int ((f0_t2 p1) &&& (7 : Int32))), .val (.int ((f0_t3 p1) &&& (7 : Int32))), .val (.ref b1_1), .val (.ref b1_2), .val (.ref b1_3), .val (.ref b1_4), .val (.ref b5), .val (.long (0 : Int64)), .second] [])) (fun _ k => XS.icmpYes X8.here hx rfl (pc0 := 167) (pc' := 197) rfl (hb hby at_167) rfl (flt (show ¬ ((3 : Int32) < (f0_t0 p0)) from by revert hc7 hc9; simp only [Int32.lt_iff_toInt_lt, ← Int32.toInt_inj, Int32.reduceToInt]; omega)).2.2.2 (by decide) (by decide) k) ?_
      refine go (B := T8.setTop (mkF m 199 #[.val (.int p0), .val (.int p1), .val (.int (f0_t0 p0)), .val (.int (p1 &&& (7 : Int32))), .val (.int ((f0_t1 p1) &&& (7 : Int32))), .val (.int ((f0_t2 p1) &&& (7 : Int32))), .val (.int ((f0_t3 p1) &&& (7 : Int32))), .val (.ref b1_1), .val (.ref b1_2), .val (.ref b1_3), .val (.ref b1_4), .val (.ref b5), .val (.long (0 : Int64)), .second] [(.ref b5)])) (fun _ k => XS.aload X8.here hx rfl (hb hby at_197) rfl rfl k) ?_
      obtain ⟨cq37, kq37, q37a, q37b, q37c⟩ := isOf hZ rfl o8_1
      obtain ⟨_, _, ⟨T37, L37, k37, n37⟩, -, X37, ⟨Lc37, hQ37, l37, y37, z37⟩, st37⟩ := X8.virtualBack hx (y := (⟨"com/example/antipode/antipode/problem/HammingDiversity", "value", "()J"⟩ : MethodName)) (z := (⟨"com/example/antipode/antipode/problem/HammingDiversity", "value", "()J"⟩ : MethodName)) hown (mvT hZ (hw _ (List.mem_of_getElem? (i := 18) rfl))) (mvT hZ (hw _ (List.mem_of_getElem? (i := 19) rfl))) (notFace_of_selects (args := #[]) (mvT hZ (hw _ (List.mem_of_getElem? (i := 21) rfl)))) (mvT hZ (hw _ (List.mem_of_getElem? (i := 21) rfl))) (mvT hZ (hw _ (List.mem_of_getElem? (i := 20) rfl))) (by decide) (backOf (W := 0) (rm4 l Z aw hw [] b5 b2_6 ((0 : Int64) + (1 : Int64)) k2_6 ((0 : Int64) + (f8_z0 (nar .boolean (f1_z0 (p1 &&& (7 : Int32)))))) ((0 : Int64) + (f8_z1 (nar .boolean (f1_z1 (p1 &&& (7 : Int32)))))) ((0 : Int64) + (f8_z2 (nar .boolean (f1_z2 (p1 &&& (7 : Int32)))))) T8.heap n0 Z8 o8_0 o8_2 o8_1 o8_3 (own_m (k := 1) (by decide) (own_step0 own_start)) (own_m (k := 1) (by decide) (own_step1 own_start)) (own_m (k := 1) (by decide) (own_step2 own_start))) hZ (hw _ (List.mem_of_getElem? (i := 22) rfl)) (hw _ (List.mem_of_getElem? (i := 8) rfl)) (by decide) (by decide)) q37a q37c (g := (mkF m 199 #[.val (.int p0), .val (.int p1), .val (.int (f0_t0 p0)), .val (.int (p1 &&& (7 : Int32))), .val (.int ((f0_t1 p1) &&& (7 : Int32))), .val (.int ((f0_t2 p1) &&& (7 : Int32))), .val (.int ((f0_t3 p1) &&& (7 : Int32))), .val (.ref b1_1), .val (.ref b1_2), .val (.ref b1_3), .val (.ref b1_4), .val (.ref b5), .val (.long (0 : Int64)), .second] [(.ref b5)])) rfl (by rw [hml]; rfl) (Steps.refl _) (argsL := []) (rest := []) (lenOf pd_7 rfl) rfl (by show 2 * 0 + _ ≤ _; exact Nat.le_of_eq rfl) (hb hby at_199) (fun _ _ => ⟨rfl, rfl, (by decide : 6 + 0 ≤ _), (by decide : 17 + 0 ≤ _)⟩)
      dsimp only [Pt.U, Pt.locs, Pt.cells, Pt.slots] at X37 l37 y37 z37 st37 hQ37
      subst l37 y37 z37
      obtain ⟨rfl, rfl, e37⟩ := hQ37
      have N37 := Fr.app N8 (Fr.nil n0)
      refine go (B := T37.setTop (mkF m 202 #[.val (.int p0), .val (.int p1), .val (.int (f0_t0 p0)), .val (.int (p1 &&& (7 : Int32))), .val (.int ((f0_t1 p1) &&& (7 : Int32))), .val (.int ((f0_t2 p1) &&& (7 : Int32))), .val (.int ((f0_t3 p1) &&& (7 : Int32))), .val (.ref b1_1), .val (.ref b1_2), .val (.ref b1_3), .val (.ref b1_4), .val (.ref b5), .val (.long (0 : Int64)), .second] [(.long (f0_t15 p1))])) (fun _ k => st37.trans k) ?_
      refine go (B := T37.setTop (mkF m 204 #[.val (.int p0), .val (.int p1), .val (.int (f0_t0 p0)), .val (.int (p1 &&& (7 : Int32))), .val (.int ((f0_t1 p1) &&& (7 : Int32))), .val (.int ((f0_t2 p1) &&& (7 : Int32))), .val (.int ((f0_t3 p1) &&& (7 : Int32))), .val (.ref b1_1), .val (.ref b1_2), .val (.ref b1_3), .val (.ref b1_4), .val (.ref b5), .val (.long (0 : Int64)), .second] [(.long (0 : Int64)), (.long (f0_t15 p1))])) (fun _ k => XS.lload X37.here hx rfl (hb hby at_202) rfl k) ?_
      refine go (B := T37.setTop (mkF m 205 #[.val (.int p0), .val (.int p1), .val (.int (f0_t0 p0)), .val (.int (p1 &&& (7 : Int32))), .val (.int ((f0_t1 p1) &&& (7 : Int32))), .val (.int ((f0_t2 p1) &&& (7 : Int32))), .val (.int ((f0_t3 p1) &&& (7 : Int32))), .val (.ref b1_1), .val (.ref b1_2), .val (.ref b1_3), .val (.ref b1_4), .val (.ref b5), .val (.long (0 : Int64)), .second] [(.int (lcmpW (f0_t15 p1) (0 : Int64)))])) (fun _ k => XS.lcmp X37.here hx rfl (hb hby at_204) rfl k) ?_
      by_cases hc38 : (lcmpW (f0_t15 p1) (0 : Int64)) = (0 : Int32)
      · refine go (B := T37.setTop (mkF m 208 #[.val (.int p0), .val (.int p1), .val (.int (f0_t0 p0)), .val (.int (p1 &&& (7 : Int32))), .val (.int ((f0_t1 p1) &&& (7 : Int32))), .val (.int ((f0_t2 p1) &&& (7 : Int32))), .val (.int ((f0_t3 p1) &&& (7 : Int32))), .val (.ref b1_1), .val (.ref b1_2), .val (.ref b1_3), .val (.ref b1_4), .val (.ref b5), .val (.long (0 : Int64)), .second] [])) (fun _ k => XS.ifNo X37.here hx rfl (hb hby at_205) rfl ((if0 _ _).trans (teq hc38).2) k) ?_
        refine go (B := T37.setTop (mkF m 209 #[.val (.int p0), .val (.int p1), .val (.int (f0_t0 p0)), .val (.int (p1 &&& (7 : Int32))), .val (.int ((f0_t1 p1) &&& (7 : Int32))), .val (.int ((f0_t2 p1) &&& (7 : Int32))), .val (.int ((f0_t3 p1) &&& (7 : Int32))), .val (.ref b1_1), .val (.ref b1_2), .val (.ref b1_3), .val (.ref b1_4), .val (.ref b5), .val (.long (0 : Int64)), .second] [(.int (1 : Int32))])) (fun _ k => XS.iconst X37.here hx rfl (hb hby at_208) k) ?_
        refine go (B := T37.setTop (mkF m 213 #[.val (.int p0), .val (.int p1), .val (.int (f0_t0 p0)), .val (.int (p1 &&& (7 : Int32))), .val (.int ((f0_t1 p1) &&& (7 : Int32))), .val (.int ((f0_t2 p1) &&& (7 : Int32))), .val (.int ((f0_t3 p1) &&& (7 : Int32))), .val (.ref b1_1), .val (.ref b1_2), .val (.ref b1_3), .val (.ref b1_4), .val (.ref b5), .val (.long (0 : Int64)), .second] [(.int (1 : Int32))])) (fun _ k => XS.goto X37.here hx rfl (pc0 := 209) (pc' := 213) rfl (hb hby at_209) (by decide) (by decide) k) ?_
        have r39 : (f0 p0 p1) = (1 : Int32) := by unfold f0; rw [if_pos hc7, if_neg hc9, if_pos hc38]
        exact end_nar X37 hx Bd.notSynchronized (t := .boolean) Bd.returns (by simp) (hb hby at_213) hF e37 (by decide) (by decide) ⟨(congrArg (fun z => some (Value.int z)) (r39.symm.trans (own_law p0 p1))), N37⟩
      · refine go (B := T37.setTop (mkF m 212 #[.val (.int p0), .val (.int p1), .val (.int (f0_t0 p0)), .val (.int (p1 &&& (7 : Int32))), .val (.int ((f0_t1 p1) &&& (7 : Int32))), .val (.int ((f0_t2 p1) &&& (7 : Int32))), .val (.int ((f0_t3 p1) &&& (7 : Int32))), .val (.ref b1_1), .val (.ref b1_2), .val (.ref b1_3), .val (.ref b1_4), .val (.ref b5), .val (.long (0 : Int64)), .second] [])) (fun _ k => XS.ifYes X37.here hx rfl (pc0 := 205) (pc' := 212) rfl (hb hby at_205) rfl ((if0 _ _).trans (feq hc38).2) (by decide) (by decide) k) ?_
        refine go (B := T37.setTop (mkF m 213 #[.val (.int p0), .val (.int p1), .val (.int (f0_t0 p0)), .val (.int (p1 &&& (7 : Int32))), .val (.int ((f0_t1 p1) &&& (7 : Int32))), .val (.int ((f0_t2 p1) &&& (7 : Int32))), .val (.int ((f0_t3 p1) &&& (7 : Int32))), .val (.ref b1_1), .val (.ref b1_2), .val (.ref b1_3), .val (.ref b1_4), .val (.ref b5), .val (.long (0 : Int64)), .second] [(.int (0 : Int32))])) (fun _ k => XS.iconst X37.here hx rfl (hb hby at_212) k) ?_
        have r40 : (f0 p0 p1) = (0 : Int32) := by unfold f0; rw [if_pos hc7, if_neg hc9, if_neg hc38]
        exact end_nar X37 hx Bd.notSynchronized (t := .boolean) Bd.returns (by simp) (hb hby at_213) hF e37 (by decide) (by decide) ⟨(congrArg (fun z => some (Value.int z)) (r40.symm.trans (own_law p0 p1))), N37⟩
  · refine go (B := T6.setTop (mkF m 86 #[.val (.int p0), .val (.int p1), .val (.int (f0_t0 p0)), .val (.int (p1 &&& (7 : Int32))), .val (.int ((f0_t1 p1) &&& (7 : Int32))), .val (.int ((f0_t2 p1) &&& (7 : Int32))), .val (.int ((f0_t3 p1) &&& (7 : Int32))), .val (.ref b1_1), .val (.ref b1_2), .val (.ref b1_3), .val (.ref b1_4), .val (.ref b5), .unset, .unset] [])) (fun _ k => XS.ifYes X6.here hx rfl (pc0 := 76) (pc' := 86) rfl (hb hby at_76) rfl ((if0 _ _).trans (flt hc7).2.2.2) (by decide) (by decide) k) ?_
    refine go (B := T6.setTop (mkF m 87 #[.val (.int p0), .val (.int p1), .val (.int (f0_t0 p0)), .val (.int (p1 &&& (7 : Int32))), .val (.int ((f0_t1 p1) &&& (7 : Int32))), .val (.int ((f0_t2 p1) &&& (7 : Int32))), .val (.int ((f0_t3 p1) &&& (7 : Int32))), .val (.ref b1_1), .val (.ref b1_2), .val (.ref b1_3), .val (.ref b1_4), .val (.ref b5), .unset, .unset] [(.int (f0_t0 p0))])) (fun _ k => XS.iloadN X6.here hx rfl (hb hby at_86) rfl k) ?_
    refine go (B := T6.setTop (mkF m 88 #[.val (.int p0), .val (.int p1), .val (.int (f0_t0 p0)), .val (.int (p1 &&& (7 : Int32))), .val (.int ((f0_t1 p1) &&& (7 : Int32))), .val (.int ((f0_t2 p1) &&& (7 : Int32))), .val (.int ((f0_t3 p1) &&& (7 : Int32))), .val (.ref b1_1), .val (.ref b1_2), .val (.ref b1_3), .val (.ref b1_4), .val (.ref b5), .unset, .unset] [(.int (1 : Int32)), (.int (f0_t0 p0))])) (fun _ k => XS.iconst X6.here hx rfl (hb hby at_87) k) ?_
    refine go (B := T6.setTop (mkF m 98 #[.val (.int p0), .val (.int p1), .val (.int (f0_t0 p0)), .val (.int (p1 &&& (7 : Int32))), .val (.int ((f0_t1 p1) &&& (7 : Int32))), .val (.int ((f0_t2 p1) &&& (7 : Int32))), .val (.int ((f0_t3 p1) &&& (7 : Int32))), .val (.ref b1_1), .val (.ref b1_2), .val (.ref b1_3), .val (.ref b1_4), .val (.ref b5), .unset, .unset] [])) (fun _ k => XS.icmpYes X6.here hx rfl (pc0 := 88) (pc' := 98) rfl (hb hby at_88) rfl (flt (show ¬ ((1 : Int32) < (f0_t0 p0)) from by revert hc7; simp only [Int32.lt_iff_toInt_lt, ← Int32.toInt_inj, Int32.reduceToInt]; omega)).2.2.2 (by decide) (by decide) k) ?_
    refine go (B := T6.setTop (mkF m 99 #[.val (.int p0), .val (.int p1), .val (.int (f0_t0 p0)), .val (.int (p1 &&& (7 : Int32))), .val (.int ((f0_t1 p1) &&& (7 : Int32))), .val (.int ((f0_t2 p1) &&& (7 : Int32))), .val (.int ((f0_t3 p1) &&& (7 : Int32))), .val (.ref b1_1), .val (.ref b1_2), .val (.ref b1_3), .val (.ref b1_4), .val (.ref b5), .unset, .unset] [(.int (f0_t0 p0))])) (fun _ k => XS.iloadN X6.here hx rfl (hb hby at_98) rfl k) ?_
    refine go (B := T6.setTop (mkF m 100 #[.val (.int p0), .val (.int p1), .val (.int (f0_t0 p0)), .val (.int (p1 &&& (7 : Int32))), .val (.int ((f0_t1 p1) &&& (7 : Int32))), .val (.int ((f0_t2 p1) &&& (7 : Int32))), .val (.int ((f0_t3 p1) &&& (7 : Int32))), .val (.ref b1_1), .val (.ref b1_2), .val (.ref b1_3), .val (.ref b1_4), .val (.ref b5), .unset, .unset] [(.int (2 : Int32)), (.int (f0_t0 p0))])) (fun _ k => XS.iconst X6.here hx rfl (hb hby at_99) k) ?_
    refine go (B := T6.setTop (mkF m 110 #[.val (.int p0), .val (.int p1), .val (.int (f0_t0 p0)), .val (.int (p1 &&& (7 : Int32))), .val (.int ((f0_t1 p1) &&& (7 : Int32))), .val (.int ((f0_t2 p1) &&& (7 : Int32))), .val (.int ((f0_t3 p1) &&& (7 : Int32))), .val (.ref b1_1), .val (.ref b1_2), .val (.ref b1_3), .val (.ref b1_4), .val (.ref b5), .unset, .unset] [])) (fun _ k => XS.icmpYes X6.here hx rfl (pc0 := 100) (pc' := 110) rfl (hb hby at_100) rfl (flt (show ¬ ((2 : Int32) < (f0_t0 p0)) from by revert hc7; simp only [Int32.lt_iff_toInt_lt, ← Int32.toInt_inj, Int32.reduceToInt]; omega)).2.2.2 (by decide) (by decide) k) ?_
    refine go (B := T6.setTop (mkF m 111 #[.val (.int p0), .val (.int p1), .val (.int (f0_t0 p0)), .val (.int (p1 &&& (7 : Int32))), .val (.int ((f0_t1 p1) &&& (7 : Int32))), .val (.int ((f0_t2 p1) &&& (7 : Int32))), .val (.int ((f0_t3 p1) &&& (7 : Int32))), .val (.ref b1_1), .val (.ref b1_2), .val (.ref b1_3), .val (.ref b1_4), .val (.ref b5), .unset, .unset] [(.int (f0_t0 p0))])) (fun _ k => XS.iloadN X6.here hx rfl (hb hby at_110) rfl k) ?_
    refine go (B := T6.setTop (mkF m 112 #[.val (.int p0), .val (.int p1), .val (.int (f0_t0 p0)), .val (.int (p1 &&& (7 : Int32))), .val (.int ((f0_t1 p1) &&& (7 : Int32))), .val (.int ((f0_t2 p1) &&& (7 : Int32))), .val (.int ((f0_t3 p1) &&& (7 : Int32))), .val (.ref b1_1), .val (.ref b1_2), .val (.ref b1_3), .val (.ref b1_4), .val (.ref b5), .unset, .unset] [(.int (3 : Int32)), (.int (f0_t0 p0))])) (fun _ k => XS.iconst X6.here hx rfl (hb hby at_111) k) ?_
    refine go (B := T6.setTop (mkF m 122 #[.val (.int p0), .val (.int p1), .val (.int (f0_t0 p0)), .val (.int (p1 &&& (7 : Int32))), .val (.int ((f0_t1 p1) &&& (7 : Int32))), .val (.int ((f0_t2 p1) &&& (7 : Int32))), .val (.int ((f0_t3 p1) &&& (7 : Int32))), .val (.ref b1_1), .val (.ref b1_2), .val (.ref b1_3), .val (.ref b1_4), .val (.ref b5), .unset, .unset] [])) (fun _ k => XS.icmpYes X6.here hx rfl (pc0 := 112) (pc' := 122) rfl (hb hby at_112) rfl (flt (show ¬ ((3 : Int32) < (f0_t0 p0)) from by revert hc7; simp only [Int32.lt_iff_toInt_lt, ← Int32.toInt_inj, Int32.reduceToInt]; omega)).2.2.2 (by decide) (by decide) k) ?_
    refine go (B := T6.setTop (mkF m 123 #[.val (.int p0), .val (.int p1), .val (.int (f0_t0 p0)), .val (.int (p1 &&& (7 : Int32))), .val (.int ((f0_t1 p1) &&& (7 : Int32))), .val (.int ((f0_t2 p1) &&& (7 : Int32))), .val (.int ((f0_t3 p1) &&& (7 : Int32))), .val (.ref b1_1), .val (.ref b1_2), .val (.ref b1_3), .val (.ref b1_4), .val (.ref b5), .unset, .unset] [(.long (0 : Int64))])) (fun _ k => XS.lconst X6.here hx rfl (hb hby at_122) k) ?_
    refine go (B := T6.setTop (mkF m 125 #[.val (.int p0), .val (.int p1), .val (.int (f0_t0 p0)), .val (.int (p1 &&& (7 : Int32))), .val (.int ((f0_t1 p1) &&& (7 : Int32))), .val (.int ((f0_t2 p1) &&& (7 : Int32))), .val (.int ((f0_t3 p1) &&& (7 : Int32))), .val (.ref b1_1), .val (.ref b1_2), .val (.ref b1_3), .val (.ref b1_4), .val (.ref b5), .val (.long (0 : Int64)), .second] [])) (fun _ k => XS.lstore X6.here hx rfl (hb hby at_123) rfl (l' := #[.val (.int p0), .val (.int p1), .val (.int (f0_t0 p0)), .val (.int (p1 &&& (7 : Int32))), .val (.int ((f0_t1 p1) &&& (7 : Int32))), .val (.int ((f0_t2 p1) &&& (7 : Int32))), .val (.int ((f0_t3 p1) &&& (7 : Int32))), .val (.ref b1_1), .val (.ref b1_2), .val (.ref b1_3), .val (.ref b1_4), .val (.ref b5), .val (.long (0 : Int64)), .second]) rfl k) ?_
    refine go (B := T6.setTop (mkF m 126 #[.val (.int p0), .val (.int p1), .val (.int (f0_t0 p0)), .val (.int (p1 &&& (7 : Int32))), .val (.int ((f0_t1 p1) &&& (7 : Int32))), .val (.int ((f0_t2 p1) &&& (7 : Int32))), .val (.int ((f0_t3 p1) &&& (7 : Int32))), .val (.ref b1_1), .val (.ref b1_2), .val (.ref b1_3), .val (.ref b1_4), .val (.ref b5), .val (.long (0 : Int64)), .second] [(.int (f0_t0 p0))])) (fun _ k => XS.iloadN X6.here hx rfl (hb hby at_125) rfl k) ?_
    refine go (B := T6.setTop (mkF m 127 #[.val (.int p0), .val (.int p1), .val (.int (f0_t0 p0)), .val (.int (p1 &&& (7 : Int32))), .val (.int ((f0_t1 p1) &&& (7 : Int32))), .val (.int ((f0_t2 p1) &&& (7 : Int32))), .val (.int ((f0_t3 p1) &&& (7 : Int32))), .val (.ref b1_1), .val (.ref b1_2), .val (.ref b1_3), .val (.ref b1_4), .val (.ref b5), .val (.long (0 : Int64)), .second] [(.int (1 : Int32)), (.int (f0_t0 p0))])) (fun _ k => XS.iconst X6.here hx rfl (hb hby at_126) k) ?_
    refine go (B := T6.setTop (mkF m 141 #[.val (.int p0), .val (.int p1), .val (.int (f0_t0 p0)), .val (.int (p1 &&& (7 : Int32))), .val (.int ((f0_t1 p1) &&& (7 : Int32))), .val (.int ((f0_t2 p1) &&& (7 : Int32))), .val (.int ((f0_t3 p1) &&& (7 : Int32))), .val (.ref b1_1), .val (.ref b1_2), .val (.ref b1_3), .val (.ref b1_4), .val (.ref b5), .val (.long (0 : Int64)), .second] [])) (fun _ k => XS.icmpYes X6.here hx rfl (pc0 := 127) (pc' := 141) rfl (hb hby at_127) rfl (flt (show ¬ ((1 : Int32) < (f0_t0 p0)) from by revert hc7; simp only [Int32.lt_iff_toInt_lt, ← Int32.toInt_inj, Int32.reduceToInt]; omega)).2.2.2 (by decide) (by decide) k) ?_
    refine go (B := T6.setTop (mkF m 142 #[.val (.int p0), .val (.int p1), .val (.int (f0_t0 p0)), .val (.int (p1 &&& (7 : Int32))), .val (.int ((f0_t1 p1) &&& (7 : Int32))), .val (.int ((f0_t2 p1) &&& (7 : Int32))), .val (.int ((f0_t3 p1) &&& (7 : Int32))), .val (.ref b1_1), .val (.ref b1_2), .val (.ref b1_3), .val (.ref b1_4), .val (.ref b5), .val (.long (0 : Int64)), .second] [(.int (f0_t0 p0))])) (fun _ k => XS.iloadN X6.here hx rfl (hb hby at_141) rfl k) ?_
    refine go (B := T6.setTop (mkF m 143 #[.val (.int p0), .val (.int p1), .val (.int (f0_t0 p0)), .val (.int (p1 &&& (7 : Int32))), .val (.int ((f0_t1 p1) &&& (7 : Int32))), .val (.int ((f0_t2 p1) &&& (7 : Int32))), .val (.int ((f0_t3 p1) &&& (7 : Int32))), .val (.ref b1_1), .val (.ref b1_2), .val (.ref b1_3), .val (.ref b1_4), .val (.ref b5), .val (.long (0 : Int64)), .second] [(.int (2 : Int32)), (.int (f0_t0 p0))])) (fun _ k => XS.iconst X6.here hx rfl (hb hby at_142) k) ?_
    refine go (B := T6.setTop (mkF m 165 #[.val (.int p0), .val (.int p1), .val (.int (f0_t0 p0)), .val (.int (p1 &&& (7 : Int32))), .val (.int ((f0_t1 p1) &&& (7 : Int32))), .val (.int ((f0_t2 p1) &&& (7 : Int32))), .val (.int ((f0_t3 p1) &&& (7 : Int32))), .val (.ref b1_1), .val (.ref b1_2), .val (.ref b1_3), .val (.ref b1_4), .val (.ref b5), .val (.long (0 : Int64)), .second] [])) (fun _ k => XS.icmpYes X6.here hx rfl (pc0 := 143) (pc' := 165) rfl (hb hby at_143) rfl (flt (show ¬ ((2 : Int32) < (f0_t0 p0)) from by revert hc7; simp only [Int32.lt_iff_toInt_lt, ← Int32.toInt_inj, Int32.reduceToInt]; omega)).2.2.2 (by decide) (by decide) k) ?_
    refine go (B := T6.setTop (mkF m 166 #[.val (.int p0), .val (.int p1), .val (.int (f0_t0 p0)), .val (.int (p1 &&& (7 : Int32))), .val (.int ((f0_t1 p1) &&& (7 : Int32))), .val (.int ((f0_t2 p1) &&& (7 : Int32))), .val (.int ((f0_t3 p1) &&& (7 : Int32))), .val (.ref b1_1), .val (.ref b1_2), .val (.ref b1_3), .val (.ref b1_4), .val (.ref b5), .val (.long (0 : Int64)), .second] [(.int (f0_t0 p0))])) (fun _ k => XS.iloadN X6.here hx rfl (hb hby at_165) rfl k) ?_
    refine go (B := T6.setTop (mkF m 167 #[.val (.int p0), .val (.int p1), .val (.int (f0_t0 p0)), .val (.int (p1 &&& (7 : Int32))), .val (.int ((f0_t1 p1) &&& (7 : Int32))), .val (.int ((f0_t2 p1) &&& (7 : Int32))), .val (.int ((f0_t3 p1) &&& (7 : Int32))), .val (.ref b1_1), .val (.ref b1_2), .val (.ref b1_3), .val (.ref b1_4), .val (.ref b5), .val (.long (0 : Int64)), .second] [(.int (3 : Int32)), (.int (f0_t0 p0))])) (fun _ k => XS.iconst X6.here hx rfl (hb hby at_166) k) ?_
    refine go (B := T6.setTop (mkF m 197 #[.val (.int p0), .val (.int p1), .val (.int (f0_t0 p0)), .val (.int (p1 &&& (7 : Int32))), .val (.int ((f0_t1 p1) &&& (7 : Int32))), .val (.int ((f0_t2 p1) &&& (7 : Int32))), .val (.int ((f0_t3 p1) &&& (7 : Int32))), .val (.ref b1_1), .val (.ref b1_2), .val (.ref b1_3), .val (.ref b1_4), .val (.ref b5), .val (.long (0 : Int64)), .second] [])) (fun _ k => XS.icmpYes X6.here hx rfl (pc0 := 167) (pc' := 197) rfl (hb hby at_167) rfl (flt (show ¬ ((3 : Int32) < (f0_t0 p0)) from by revert hc7; simp only [Int32.lt_iff_toInt_lt, ← Int32.toInt_inj, Int32.reduceToInt]; omega)).2.2.2 (by decide) (by decide) k) ?_
    refine go (B := T6.setTop (mkF m 199 #[.val (.int p0), .val (.int p1), .val (.int (f0_t0 p0)), .val (.int (p1 &&& (7 : Int32))), .val (.int ((f0_t1 p1) &&& (7 : Int32))), .val (.int ((f0_t2 p1) &&& (7 : Int32))), .val (.int ((f0_t3 p1) &&& (7 : Int32))), .val (.ref b1_1), .val (.ref b1_2), .val (.ref b1_3), .val (.ref b1_4), .val (.ref b5), .val (.long (0 : Int64)), .second] [(.ref b5)])) (fun _ k => XS.aload X6.here hx rfl (hb hby at_197) rfl rfl k) ?_
    obtain ⟨cq41, kq41, q41a, q41b, q41c⟩ := isOf hZ rfl o6_2
    obtain ⟨_, _, ⟨T41, L41, k41, n41⟩, -, X41, ⟨Lc41, hQ41, l41, y41, z41⟩, st41⟩ := X6.virtualBack hx (y := (⟨"com/example/antipode/antipode/problem/HammingDiversity", "value", "()J"⟩ : MethodName)) (z := (⟨"com/example/antipode/antipode/problem/HammingDiversity", "value", "()J"⟩ : MethodName)) hown (mvT hZ (hw _ (List.mem_of_getElem? (i := 18) rfl))) (mvT hZ (hw _ (List.mem_of_getElem? (i := 19) rfl))) (notFace_of_selects (args := #[]) (mvT hZ (hw _ (List.mem_of_getElem? (i := 21) rfl)))) (mvT hZ (hw _ (List.mem_of_getElem? (i := 21) rfl))) (mvT hZ (hw _ (List.mem_of_getElem? (i := 20) rfl))) (by decide) (backOf (W := 0) (rm4 l Z aw hw [] b5 b2_6 (0 : Int64) k2_6 (0 : Int64) (0 : Int64) (0 : Int64) T6.heap n0 Z6 o6_3 o6_1 o6_2 o6_4 (own_m (k := 0) (by decide) own_start) (own_m (k := 0) (by decide) own_start) (own_m (k := 0) (by decide) own_start)) hZ (hw _ (List.mem_of_getElem? (i := 22) rfl)) (hw _ (List.mem_of_getElem? (i := 8) rfl)) (by decide) (by decide)) q41a q41c (g := (mkF m 199 #[.val (.int p0), .val (.int p1), .val (.int (f0_t0 p0)), .val (.int (p1 &&& (7 : Int32))), .val (.int ((f0_t1 p1) &&& (7 : Int32))), .val (.int ((f0_t2 p1) &&& (7 : Int32))), .val (.int ((f0_t3 p1) &&& (7 : Int32))), .val (.ref b1_1), .val (.ref b1_2), .val (.ref b1_3), .val (.ref b1_4), .val (.ref b5), .val (.long (0 : Int64)), .second] [(.ref b5)])) rfl (by rw [hml]; rfl) (Steps.refl _) (argsL := []) (rest := []) (lenOf pd_7 rfl) rfl (by show 2 * 0 + _ ≤ _; exact Nat.le_of_eq rfl) (hb hby at_199) (fun _ _ => ⟨rfl, rfl, (by decide : 6 + 0 ≤ _), (by decide : 17 + 0 ≤ _)⟩)
    dsimp only [Pt.U, Pt.locs, Pt.cells, Pt.slots] at X41 l41 y41 z41 st41 hQ41
    subst l41 y41 z41
    obtain ⟨rfl, rfl, e41⟩ := hQ41
    have N41 := Fr.app N6 (Fr.nil n0)
    refine go (B := T41.setTop (mkF m 202 #[.val (.int p0), .val (.int p1), .val (.int (f0_t0 p0)), .val (.int (p1 &&& (7 : Int32))), .val (.int ((f0_t1 p1) &&& (7 : Int32))), .val (.int ((f0_t2 p1) &&& (7 : Int32))), .val (.int ((f0_t3 p1) &&& (7 : Int32))), .val (.ref b1_1), .val (.ref b1_2), .val (.ref b1_3), .val (.ref b1_4), .val (.ref b5), .val (.long (0 : Int64)), .second] [(.long f0_t16)])) (fun _ k => st41.trans k) ?_
    refine go (B := T41.setTop (mkF m 204 #[.val (.int p0), .val (.int p1), .val (.int (f0_t0 p0)), .val (.int (p1 &&& (7 : Int32))), .val (.int ((f0_t1 p1) &&& (7 : Int32))), .val (.int ((f0_t2 p1) &&& (7 : Int32))), .val (.int ((f0_t3 p1) &&& (7 : Int32))), .val (.ref b1_1), .val (.ref b1_2), .val (.ref b1_3), .val (.ref b1_4), .val (.ref b5), .val (.long (0 : Int64)), .second] [(.long (0 : Int64)), (.long f0_t16)])) (fun _ k => XS.lload X41.here hx rfl (hb hby at_202) rfl k) ?_
    refine go (B := T41.setTop (mkF m 205 #[.val (.int p0), .val (.int p1), .val (.int (f0_t0 p0)), .val (.int (p1 &&& (7 : Int32))), .val (.int ((f0_t1 p1) &&& (7 : Int32))), .val (.int ((f0_t2 p1) &&& (7 : Int32))), .val (.int ((f0_t3 p1) &&& (7 : Int32))), .val (.ref b1_1), .val (.ref b1_2), .val (.ref b1_3), .val (.ref b1_4), .val (.ref b5), .val (.long (0 : Int64)), .second] [(.int (lcmpW f0_t16 (0 : Int64)))])) (fun _ k => XS.lcmp X41.here hx rfl (hb hby at_204) rfl k) ?_
    by_cases hc42 : (lcmpW f0_t16 (0 : Int64)) = (0 : Int32)
    · refine go (B := T41.setTop (mkF m 208 #[.val (.int p0), .val (.int p1), .val (.int (f0_t0 p0)), .val (.int (p1 &&& (7 : Int32))), .val (.int ((f0_t1 p1) &&& (7 : Int32))), .val (.int ((f0_t2 p1) &&& (7 : Int32))), .val (.int ((f0_t3 p1) &&& (7 : Int32))), .val (.ref b1_1), .val (.ref b1_2), .val (.ref b1_3), .val (.ref b1_4), .val (.ref b5), .val (.long (0 : Int64)), .second] [])) (fun _ k => XS.ifNo X41.here hx rfl (hb hby at_205) rfl ((if0 _ _).trans (teq hc42).2) k) ?_
      refine go (B := T41.setTop (mkF m 209 #[.val (.int p0), .val (.int p1), .val (.int (f0_t0 p0)), .val (.int (p1 &&& (7 : Int32))), .val (.int ((f0_t1 p1) &&& (7 : Int32))), .val (.int ((f0_t2 p1) &&& (7 : Int32))), .val (.int ((f0_t3 p1) &&& (7 : Int32))), .val (.ref b1_1), .val (.ref b1_2), .val (.ref b1_3), .val (.ref b1_4), .val (.ref b5), .val (.long (0 : Int64)), .second] [(.int (1 : Int32))])) (fun _ k => XS.iconst X41.here hx rfl (hb hby at_208) k) ?_
      refine go (B := T41.setTop (mkF m 213 #[.val (.int p0), .val (.int p1), .val (.int (f0_t0 p0)), .val (.int (p1 &&& (7 : Int32))), .val (.int ((f0_t1 p1) &&& (7 : Int32))), .val (.int ((f0_t2 p1) &&& (7 : Int32))), .val (.int ((f0_t3 p1) &&& (7 : Int32))), .val (.ref b1_1), .val (.ref b1_2), .val (.ref b1_3), .val (.ref b1_4), .val (.ref b5), .val (.long (0 : Int64)), .second] [(.int (1 : Int32))])) (fun _ k => XS.goto X41.here hx rfl (pc0 := 209) (pc' := 213) rfl (hb hby at_209) (by decide) (by decide) k) ?_
      have r43 : (f0 p0 p1) = (1 : Int32) := by unfold f0; rw [if_neg hc7, if_pos hc42]
      exact end_nar X41 hx Bd.notSynchronized (t := .boolean) Bd.returns (by simp) (hb hby at_213) hF e41 (by decide) (by decide) ⟨(congrArg (fun z => some (Value.int z)) (r43.symm.trans (own_law p0 p1))), N41⟩
    · refine go (B := T41.setTop (mkF m 212 #[.val (.int p0), .val (.int p1), .val (.int (f0_t0 p0)), .val (.int (p1 &&& (7 : Int32))), .val (.int ((f0_t1 p1) &&& (7 : Int32))), .val (.int ((f0_t2 p1) &&& (7 : Int32))), .val (.int ((f0_t3 p1) &&& (7 : Int32))), .val (.ref b1_1), .val (.ref b1_2), .val (.ref b1_3), .val (.ref b1_4), .val (.ref b5), .val (.long (0 : Int64)), .second] [])) (fun _ k => XS.ifYes X41.here hx rfl (pc0 := 205) (pc' := 212) rfl (hb hby at_205) rfl ((if0 _ _).trans (feq hc42).2) (by decide) (by decide) k) ?_
      refine go (B := T41.setTop (mkF m 213 #[.val (.int p0), .val (.int p1), .val (.int (f0_t0 p0)), .val (.int (p1 &&& (7 : Int32))), .val (.int ((f0_t1 p1) &&& (7 : Int32))), .val (.int ((f0_t2 p1) &&& (7 : Int32))), .val (.int ((f0_t3 p1) &&& (7 : Int32))), .val (.ref b1_1), .val (.ref b1_2), .val (.ref b1_3), .val (.ref b1_4), .val (.ref b5), .val (.long (0 : Int64)), .second] [(.int (0 : Int32))])) (fun _ k => XS.iconst X41.here hx rfl (hb hby at_212) k) ?_
      have r44 : (f0 p0 p1) = (0 : Int32) := by unfold f0; rw [if_neg hc7, if_neg hc42]
      exact end_nar X41 hx Bd.notSynchronized (t := .boolean) Bd.returns (by simp) (hb hby at_213) hF e41 (by decide) (by decide) ⟨(congrArg (fun z => some (Value.int z)) (r44.symm.trans (own_law p0 p1))), N41⟩
set_option maxRecDepth 65536 in
set_option maxHeartbeats 40000000 in
theorem comes_1 {Post : Tables → Env → Array Value → State → Outcome → State → Prop} (hpost : ∀ tb e args s v u, (limb_1_1.after args s (.returned v) u = true ∧ limb_1_2.after args s (.returned v) u = true ∧ True) → FrameEnd s (.returned v) u (Jvm.fieldLocs frame_1_writes args s ++ Jvm.arrayLocs frame_1_arrays args s ++ Jvm.staticLocs frame_1_statics s) 24 128 → Post tb e args s (.returned v) u) :
    ArmFor flags0 classFile x code maxLocals ret World_1 tables_1 room_1 Calls_1 rest_1 Pre_1 Post := by
  intro l hfl _ _ p e ha hc hk s m args below hf hA hF happ hP
  obtain ⟨hcalls, hrest, hpre⟩ := hP
  obtain ⟨-, -, -, hnamed, -, -, -, hat⟩ := (Spec.applies_iff hf).mp happ
  obtain ⟨hg, hn⟩ := and_e (Cond.before_iff.mp (show (Jvm.Cond.and given_1 narrow_1).before args s = true from hpre))
  obtain ⟨gg1, gg2⟩ := and_e hg
  obtain ⟨gg3, gg4⟩ := and_e gg2
  obtain ⟨w0, w1, rfl⟩ : ∃ w0 w1 : Value, args = #[w0, w1] := by
    have hs : args.size = 2 := by simpa [Cond.value, given_1] using gg1
    obtain ⟨L⟩ := args
    match L, hs with
    | [w0, w1], _ => exact ⟨w0, w1, rfl⟩
  have hw := fun d (hd : d ∈ tables_1) => atoms_spec (ws := Jvm.Cond.code x code maxLocals ret :: tables_1) hat d (List.mem_cons_of_mem _ hd)
  have hfit : Fit s := fun {y c} hc i hi => by
    obtain ⟨ha, rfl⟩ := Array.getElem?_eq_some_iff.mp hc
    have q := List.all_eq_true.mp ((Array.all_eq_true_iff_forall_mem.mp hF) _ (Array.getElem_mem ha)) i (List.mem_range.mpr hi)
    simpa [Array.getElem?_eq_getElem hi] using q
  obtain ⟨i0, ei0⟩ := is_v gg3
  obtain rfl : w0 = (.int i0) := Option.some.inj ei0
  obtain ⟨i1, ei1⟩ := is_v gg4
  obtain rfl : w1 = (.int i1) := Option.some.inj ei1
  obtain ⟨n, o, h1, h2, h3, _, L, rfl, ⟨rfl, N⟩, hq⟩ := rm0 l s _ hw tables_1 i0 i1 s.heap s.heap.size (Nat.le_refl _)  p e ha hc hk s m _ below hf ((Spec.applies_iff_loose hf).mp happ).1 ⟨rfl, State.Warmed39.refl s, rfl⟩ trivial
  refine ⟨n, _, h1, h2, h3, hpost _ _ _ _ _ _ ⟨Cond.after_iff.mpr rfl, Cond.after_iff.mpr (eq_i res_at (Term.int_eval (1)) rfl), trivial⟩ ⟨hq.1, hq.2.1, (hq.2.2.sift fun y hy => Or.inr (N y hy)).mono (by decide) (by decide)⟩⟩
theorem main_1_1 : Claimed_1_1 := comes_1 fun _ _ _ _ _ _ h hF => ⟨h.1, hF⟩
theorem main_1_2 : Claimed_1_2 := comes_1 fun _ _ _ _ _ _ h hF => ⟨h.2.1, hF⟩
end Jvm.Pilot.@@N@@
namespace Jvm.Pilot.@@N@@
open Jvm Jvm.ClassFile Sem Op Lib Jvm.Free Jvm.Stand Jvm.Pilot.@@N@@.Jvm.D
/-! MADE BY PROGRAM (witnessworld.py) out of the Statement's table words and the real class files: 15 classes; the members and pool entries that the words name. The judged class is class 1, her method 4. -/
namespace start1
open Jvm.ClassFile
def u (s : String) : CpInfo := .utf8 (stringToUtf16 s)
/-- a pool by its gaps: so many unusable entries, then the entry; so many at the end -/
def gap : Nat → List CpInfo → List CpInfo
  | 0, r => r
  | n + 1, r => .unusable :: gap n r
def poolList (es : List (Nat × CpInfo)) (last : Nat) : List CpInfo := es.foldr (fun e r => gap e.1 (e.2 :: r)) (gap last [])
def pool (es : List (Nat × CpInfo)) (last : Nat) : Array CpInfo := ⟨poolList es last⟩
def fileOf (pool : Array CpInfo) (this : Nat) (attrs : Array Attribute := #[]) (ms : Array MethodInfo := #[]) (fl : Nat := 33) (sup : Nat := 0) (ifs : Array Nat := #[]) (fds : Array FieldInfo := #[]) : ClassFile where
  minorVersion := 0
  majorVersion := 65
  constantPool := pool
  accessFlags := fl
  thisClass := this
  superClass := sup
  interfaces := ifs
  fields := fds
  methods := ms
  attributes := attrs
def plain (name : String) (sup : Option ClassId) : Class where
  name := name
  kind := .ordinary
  loader := none
  accessFlags := 33
  super := sup
  interfaces := #[]
  cf := none
  fields := #[]
  methods := #[]
  instanceTypes := #[]
  staticTypes := #[]
  resolved := #[]
  callSites := []
  init := .initialized
  statics := none
  mirror := none

def pool0 : Array CpInfo := pool [(5, u "<init>"), (0, u "()V"), (1, .class_ 10), (1, u "java/lang/Object")] 113

def k0c0 : Code := { maxStack := 0, maxLocals := 1, code := object_method_1_code, exceptionTable := #[], attributes := #[] }
def k0m0 : Method := { name := "<init>", desc := "()V", sig := { parameters := [], returnType := none }, accessFlags := 1, code := some k0c0 }
/-- java/lang/Object -/
def k0 : Class := { plain "java/lang/Object" none with
  accessFlags := 33
  interfaces := #[]
  cf := some (fileOf pool0 8 #[] #[{ accessFlags := 1, nameIndex := 5, descriptorIndex := 6, attributes := #[] }] 33 0 #[] #[])
  fields := #[]
  methods := #[k0m0]
  instanceTypes := #[]
  staticTypes := #[]
  resolved := Array.replicate 124 none
  statics := none }

def pool1 : Array CpInfo := pool [(2, .class_ 4), (1, u "java/lang/Object"), (0, u "<init>"), (0, u "()V"), (0, .methodref 8 9), (0, .class_ 10), (0, .nameAndType 11 12), (0, u "com/example/antipode/antipode/problem/HammingDiversityAddPinLaw"), (0, u "pop3"), (0, u "(I)I"), (0, .integer 2147483647), (0, .methodref 8 15), (0, .nameAndType 16 17), (0, u "bits"), (0, u "(I)[Z"), (0, .class_ 19), (0, u "com/example/antipode/antipode/problem/HammingDiversity"), (0, .methodref 18 21), (0, .nameAndType 5 22), (0, u "(I)V"), (0, .methodref 18 24), (0, .nameAndType 25 26), (0, u "add"), (0, u "([Z)V"), (0, .methodref 8 28), (0, .nameAndType 29 30), (0, u "d"), (0, u "(II)J"), (0, .methodref 18 32), (0, .nameAndType 33 34), (0, u "value"), (0, u "()J"), (5, u "law"), (0, u "(II)Z")] 2

def k1m0 : Method := { name := "<init>", desc := "()V", sig := { parameters := [], returnType := none }, accessFlags := 1, code := none }
def k1c1 : Code := { maxStack := 4, maxLocals := 2, code := method_2_code, exceptionTable := #[], attributes := #[] }
def k1m1 : Method := { name := "bits", desc := "(I)[Z", sig := { parameters := [.int], returnType := some (.array .boolean) }, accessFlags := 10, code := some k1c1 }
def k1c2 : Code := { maxStack := 3, maxLocals := 1, code := method_3_code, exceptionTable := #[], attributes := #[] }
def k1m2 : Method := { name := "pop3", desc := "(I)I", sig := { parameters := [.int], returnType := some .int }, accessFlags := 10, code := some k1c2 }
def k1c3 : Code := { maxStack := 2, maxLocals := 2, code := method_4_code, exceptionTable := #[], attributes := #[] }
def k1m3 : Method := { name := "d", desc := "(II)J", sig := { parameters := [.int, .int], returnType := some .long }, accessFlags := 10, code := some k1c3 }
def k1c4 : Code := { maxStack := 6, maxLocals := 14, code := code, exceptionTable := #[], attributes := #[] }
def k1m4 : Method := { name := "law", desc := "(II)Z", sig := { parameters := [.int, .int], returnType := some .boolean }, accessFlags := 9, code := some k1c4 }
/-- com/example/antipode/antipode/problem/HammingDiversityAddPinLaw -/
def k1 : Class := { plain "com/example/antipode/antipode/problem/HammingDiversityAddPinLaw" (some 0) with
  accessFlags := 49
  interfaces := #[]
  cf := some (fileOf pool1 8 #[] #[{ accessFlags := 1, nameIndex := 5, descriptorIndex := 6, attributes := #[] }, { accessFlags := 10, nameIndex := 16, descriptorIndex := 17, attributes := #[] }, { accessFlags := 10, nameIndex := 11, descriptorIndex := 12, attributes := #[] }, { accessFlags := 10, nameIndex := 29, descriptorIndex := 30, attributes := #[] }, { accessFlags := 9, nameIndex := 40, descriptorIndex := 41, attributes := #[] }] 49 2 #[] #[])
  fields := #[]
  methods := #[k1m0, k1m1, k1m2, k1m3, k1m4]
  instanceTypes := #[]
  staticTypes := #[]
  resolved := Array.replicate 44 none
  statics := none }

def pool2 : Array CpInfo := pool [(1, .class_ 2), (0, u "com/example/antipode/antipode/problem/Diversity"), (0, .class_ 4), (0, u "java/lang/Object")] 11

/-- com/example/antipode/antipode/problem/Diversity -/
def k2 : Class := { plain "com/example/antipode/antipode/problem/Diversity" (some 0) with
  accessFlags := 1537
  interfaces := #[]
  cf := some (fileOf pool2 1 #[] #[] 1537 3 #[] #[])
  fields := #[]
  methods := #[]
  instanceTypes := #[]
  staticTypes := #[]
  resolved := Array.replicate 16 none
  statics := none }

def pool3 : Array CpInfo := pool [(1, .methodref 2 3), (0, .class_ 4), (0, .nameAndType 5 6), (0, u "java/lang/Object"), (0, u "<init>"), (0, u "()V"), (0, .fieldref 8 9), (0, .class_ 10), (0, .nameAndType 11 12), (0, u "com/example/antipode/antipode/problem/HammingDiversity"), (0, u "ones"), (0, u "[J"), (0, .fieldref 8 14), (0, .nameAndType 15 16), (0, u "strings"), (0, u "J"), (0, .methodref 18 19), (0, .class_ 20), (0, .nameAndType 21 22), (0, u "java/lang/Math"), (0, u "multiplyExact"), (0, u "(JJ)J"), (0, .methodref 18 24), (0, .nameAndType 25 22), (0, u "addExact"), (10, u "add"), (0, u "([Z)V"), (0, .class_ 39), (0, u "com/example/antipode/antipode/problem/Diversity"), (0, u "(I)V"), (4, u "value"), (0, u "()J")] 7

def k3c0 : Code := { maxStack := 2, maxLocals := 2, code := prog_12_method_1_code, exceptionTable := #[], attributes := #[] }
def k3m0 : Method := { name := "<init>", desc := "(I)V", sig := { parameters := [.int], returnType := none }, accessFlags := 0, code := some k3c0 }
def k3c1 : Code := { maxStack := 6, maxLocals := 3, code := prog_12_method_2_code, exceptionTable := #[], attributes := #[] }
def k3m1 : Method := { name := "add", desc := "([Z)V", sig := { parameters := [(.array .boolean)], returnType := none }, accessFlags := 1, code := some k3c1 }
def k3c2 : Code := { maxStack := 8, maxLocals := 8, code := prog_12_method_3_code, exceptionTable := #[], attributes := #[] }
def k3m2 : Method := { name := "value", desc := "()J", sig := { parameters := [], returnType := some .long }, accessFlags := 1, code := some k3c2 }
/-- com/example/antipode/antipode/problem/HammingDiversity -/
def k3 : Class := { plain "com/example/antipode/antipode/problem/HammingDiversity" (some 0) with
  accessFlags := 48
  interfaces := #[2]
  cf := some (fileOf pool3 8 #[] #[{ accessFlags := 0, nameIndex := 5, descriptorIndex := 40, attributes := #[] }, { accessFlags := 1, nameIndex := 36, descriptorIndex := 37, attributes := #[] }, { accessFlags := 1, nameIndex := 45, descriptorIndex := 46, attributes := #[] }] 48 2 #[38] #[{ accessFlags := 18, nameIndex := 11, descriptorIndex := 12, attributes := #[] }, { accessFlags := 2, nameIndex := 15, descriptorIndex := 16, attributes := #[] }])
  fields := #[{ name := "ones", type := (.array .long), accessFlags := 18, slot := 0, constantValue := 0 }, { name := "strings", type := .long, accessFlags := 2, slot := 1, constantValue := 0 }]
  methods := #[k3m0, k3m1, k3m2]
  instanceTypes := #[(.array .long), .long]
  staticTypes := #[]
  resolved := Array.replicate 54 none
  statics := none }

def pool4 : Array CpInfo := pool [(1, .class_ 2), (0, u "java/lang/Math"), (1, .class_ 6), (1, u "java/lang/Object"), (0, u "<init>"), (0, u "()V"), (89, .class_ 100), (1, u "java/lang/Math$RandomNumberGeneratorHolder"), (19, u "multiplyExact"), (0, u "(JJ)J"), (0, .methodref 1 123), (0, .nameAndType 124 125), (0, u "abs"), (0, u "(J)J"), (46, u "negativeZeroFloatBits"), (0, u "J"), (2, u "negativeZeroDoubleBits"), (68, u "$assertionsDisabled"), (0, u "Z"), (91, u "twoToTheDoubleScaleDown"), (0, u "D"), (4, u "twoToTheDoubleScaleUp"), (9, u "E"), (3, u "PI"), (2, u "TAU"), (2, u "DEGREES_TO_RADIANS"), (0, u "RADIANS_TO_DEGREES"), (27, u "addExact")] 66

def k4m0 : Method := { name := "<init>", desc := "()V", sig := { parameters := [], returnType := none }, accessFlags := 2, code := none }
def k4c1 : Code := { maxStack := 6, maxLocals := 6, code := jdk_29_method_25_code, exceptionTable := #[], attributes := #[] }
def k4m1 : Method := { name := "addExact", desc := "(JJ)J", sig := { parameters := [.long, .long], returnType := some .long }, accessFlags := 9, code := some k4c1 }
def k4c2 : Code := { maxStack := 4, maxLocals := 10, code := jdk_29_method_30_code, exceptionTable := #[], attributes := #[] }
def k4m2 : Method := { name := "multiplyExact", desc := "(JJ)J", sig := { parameters := [.long, .long], returnType := some .long }, accessFlags := 9, code := some k4c2 }
def k4c3 : Code := { maxStack := 4, maxLocals := 2, code := jdk_29_method_61_code, exceptionTable := #[], attributes := #[] }
def k4m3 : Method := { name := "abs", desc := "(J)J", sig := { parameters := [.long], returnType := some .long }, accessFlags := 9, code := some k4c3 }
/-- java/lang/Math -/
def k4 : Class := { plain "java/lang/Math" (some 0) with
  accessFlags := 49
  interfaces := #[]
  cf := some (fileOf pool4 1 #[.nestMembers #[98]] #[{ accessFlags := 2, nameIndex := 7, descriptorIndex := 8, attributes := #[] }, { accessFlags := 9, nameIndex := 393, descriptorIndex := 121, attributes := #[] }, { accessFlags := 9, nameIndex := 120, descriptorIndex := 121, attributes := #[] }, { accessFlags := 9, nameIndex := 124, descriptorIndex := 125, attributes := #[] }] 49 4 #[] #[{ accessFlags := 25, nameIndex := 354, descriptorIndex := 339, attributes := #[] }, { accessFlags := 25, nameIndex := 358, descriptorIndex := 339, attributes := #[] }, { accessFlags := 25, nameIndex := 361, descriptorIndex := 339, attributes := #[] }, { accessFlags := 26, nameIndex := 364, descriptorIndex := 339, attributes := #[] }, { accessFlags := 26, nameIndex := 365, descriptorIndex := 339, attributes := #[] }, { accessFlags := 26, nameIndex := 172, descriptorIndex := 173, attributes := #[] }, { accessFlags := 26, nameIndex := 176, descriptorIndex := 173, attributes := #[] }, { accessFlags := 8, nameIndex := 344, descriptorIndex := 339, attributes := #[] }, { accessFlags := 8, nameIndex := 338, descriptorIndex := 339, attributes := #[] }, { accessFlags := 4120, nameIndex := 245, descriptorIndex := 246, attributes := #[] }])
  fields := #[{ name := "E", type := .double, accessFlags := 25, slot := 0, constantValue := 0 }, { name := "PI", type := .double, accessFlags := 25, slot := 1, constantValue := 0 }, { name := "TAU", type := .double, accessFlags := 25, slot := 2, constantValue := 0 }, { name := "DEGREES_TO_RADIANS", type := .double, accessFlags := 26, slot := 3, constantValue := 0 }, { name := "RADIANS_TO_DEGREES", type := .double, accessFlags := 26, slot := 4, constantValue := 0 }, { name := "negativeZeroFloatBits", type := .long, accessFlags := 26, slot := 5, constantValue := 0 }, { name := "negativeZeroDoubleBits", type := .long, accessFlags := 26, slot := 6, constantValue := 0 }, { name := "twoToTheDoubleScaleUp", type := .double, accessFlags := 8, slot := 7, constantValue := 0 }, { name := "twoToTheDoubleScaleDown", type := .double, accessFlags := 8, slot := 8, constantValue := 0 }, { name := "$assertionsDisabled", type := .boolean, accessFlags := 4120, slot := 9, constantValue := 0 }]
  methods := #[k4m0, k4m1, k4m2, k4m3]
  instanceTypes := #[]
  staticTypes := #[.double, .double, .double, .double, .double, .long, .long, .double, .double, .boolean]
  resolved := Array.replicate 460 none
  statics := none }

def pool5 : Array CpInfo := pool [(1, u "java/lang/Cloneable"), (0, .class_ 1), (0, u "java/lang/Object"), (0, .class_ 3)] 3

/-- java/lang/Cloneable -/
def k5 : Class := { plain "java/lang/Cloneable" (some 0) with
  accessFlags := 1537
  interfaces := #[]
  cf := some (fileOf pool5 2 #[] #[] 1537 4 #[] #[])
  fields := #[]
  methods := #[]
  instanceTypes := #[]
  staticTypes := #[]
  resolved := Array.replicate 8 none
  statics := none }

def pool6 : Array CpInfo := pool [(1, u "java/io/Serializable"), (0, .class_ 1), (0, u "java/lang/Object"), (0, .class_ 3)] 3

/-- java/io/Serializable -/
def k6 : Class := { plain "java/io/Serializable" (some 0) with
  accessFlags := 1537
  interfaces := #[]
  cf := some (fileOf pool6 2 #[] #[] 1537 4 #[] #[])
  fields := #[]
  methods := #[]
  instanceTypes := #[]
  staticTypes := #[]
  resolved := Array.replicate 8 none
  statics := none }

/-- the primitive boolean -/
def k7 : Class := { plain "boolean" none with kind := .primitive 'Z', accessFlags := 0x411 }
/-- [Z -/
def k8 : Class := { plain "[Z" (some 0) with kind := .array 7 .boolean, interfaces := #[5, 6], accessFlags := 1041 }

/-- the primitive byte -/
def k9 : Class := { plain "byte" none with kind := .primitive 'B', accessFlags := 0x411 }
/-- [B -/
def k10 : Class := { plain "[B" (some 0) with kind := .array 9 .byte, interfaces := #[5, 6], accessFlags := 1041 }

/-- the primitive int -/
def k11 : Class := { plain "int" none with kind := .primitive 'I', accessFlags := 0x411 }
/-- [I -/
def k12 : Class := { plain "[I" (some 0) with kind := .array 11 .int, interfaces := #[5, 6], accessFlags := 1041 }

/-- the primitive long -/
def k13 : Class := { plain "long" none with kind := .primitive 'J', accessFlags := 0x411 }
/-- [J -/
def k14 : Class := { plain "[J" (some 0) with kind := .array 13 .long, interfaces := #[5, 6], accessFlags := 1041 }

def heap : Heap := #[]
def classes : Array Class := #[k0, k1, k2, k3, k4, k5, k6, k7, k8, k9, k10, k11, k12, k13, k14]
def interned : List (Array UInt16 × Addr) := []
def slotsUsed : Nat := 0
def theMethod : MethodId := ⟨1, 4⟩
def args0 : Array Value := #[.int 7, .int 1234]
def aboutOver (below : List Frame) : State where
  vm := { classes := classes, interned := interned.toArray }
  heap := heap
  slotsUsed := slotsUsed
  threads := #[{ frames := .invoking theMethod args0 :: below }]
def below0 : List Frame := [.native { method := ⟨0, 0⟩, args := #[] }]
def about1 : State := aboutOver below0
def p0 : Program := .bare "" "" ""
def e0 : Env := launch0.env 0 0 0
theorem w_frames : about1.frames = Frame.invoking theMethod args0 :: below0 := rfl
set_option maxRecDepth 65536 in
theorem w_args : argsFit about1.vm theMethod args0 = true := by decide +kernel
set_option maxRecDepth 65536 in
theorem w_heap : heapFits about1 = true := by decide +kernel
set_option maxRecDepth 65536 in
theorem w_runnable : about1.curStatus? = some .runnable := by decide +kernel
set_option maxRecDepth 65536 in
theorem w_alone : about1.alone = true := by decide +kernel
set_option maxRecDepth 65536 in
theorem w_named : about1.methodNamed? x = some theMethod := by decide +kernel
set_option maxRecDepth 65536 in
theorem w_hears : about1.hears theMethod below0 = true := by decide +kernel
set_option maxRecDepth 65536 in
theorem w_ripe : about1.ripe theMethod args0 below0 = true := by decide +kernel
theorem w_running : about1.status = .running := rfl
set_option maxRecDepth 65536 in
theorem w_room : about1.hasRoom e0.platform room_1 = true :=
  launch0.hasRoom_least _ room_1 (by decide +kernel) (by decide +kernel) (by decide +kernel) (by decide +kernel) (by decide +kernel) (by decide +kernel)
theorem allAtoms_all (ts : List Jvm.Cond) (a : Array Jvm.Value) (st : Jvm.State) : (allAtoms ts).before a st = ts.all (fun c => c.before a st) := by
  induction ts with
  | nil => rfl
  | cons c t ih =>
    show (Jvm.Cond.and c (allAtoms t)).before a st = _
    rw [Jvm.Cond.before_and, ih, List.all_cons]
def words1 : List Jvm.Cond := Jvm.Cond.code x code maxLocals ret :: tables_1
/-- a 'code' word, met by the world's own term for the bytes: nothing is compared byte by byte -/
theorem code_word {y : MethodName} {bytes : ByteArray} {mx : Nat} {rt : Option FieldType} {a : Array Value} {s : State} {m : MethodId} {meth : Method} {c : Code} (h1 : s.methodNamed? y = some m) (h2 : s.vm.method? m = some meth) (h3 : meth.code = some c) (h4 : c.code = bytes)
    (h5 : (c.maxLocals == mx && c.exceptionTable.isEmpty && decide (c.maxStack ≤ mostOperands) && decide (meth.sig.returnType = rt) && !meth.locks && decide (parseMethodDescriptor y.desc = some meth.sig)) = true) : (Jvm.Cond.code y bytes mx rt).before a s = true := by
  simp only [Bool.and_eq_true, beq_iff_eq, Bool.not_eq_true', decide_eq_true_eq] at h5
  obtain ⟨⟨⟨⟨⟨g1, g2⟩, g3⟩, g4⟩, g5⟩, g6⟩ := h5
  simp [Cond.before, Cond.holds, Cond.value, h1, h2, h3, h4, g1, g2, g3, g4, g5, g6]
def isCode : Jvm.Cond → Bool
  | .code _ _ _ _ => true
  | _ => false
theorem all_split {L : List Jvm.Cond} {P : Jvm.Cond → Bool} (h1 : L.all (fun c => isCode c || P c) = true) (h2 : ∀ c ∈ L.filter isCode, P c = true) : L.all P = true := by
  refine List.all_eq_true.mpr fun c hc => ?_
  have h := List.all_eq_true.mp h1 c hc
  rcases Bool.eq_false_or_eq_true (isCode c) with hi | hi
  · exact h2 c (List.mem_filter.mpr ⟨hc, hi⟩)
  · simpa [hi] using h
set_option maxRecDepth 65536 in
theorem w_c0 : (Jvm.Cond.code x code maxLocals ret).before args0 about1 = true := code_word (m := ⟨1, 4⟩) (meth := k1m4) (c := k1c4) (by decide +kernel) rfl rfl rfl (by decide +kernel)
set_option maxRecDepth 65536 in
theorem w_c1 : (Jvm.Cond.code ({ cls := "com/example/antipode/antipode/problem/HammingDiversityAddPinLaw", name := "bits", desc := "(I)[Z" } : Jvm.MethodName) method_2_code (2 : Nat) (Option.some (Jvm.ClassFile.FieldType.array Jvm.ClassFile.FieldType.boolean))).before args0 about1 = true := code_word (m := ⟨1, 1⟩) (meth := k1m1) (c := k1c1) (by decide +kernel) rfl rfl rfl (by decide +kernel)
set_option maxRecDepth 65536 in
theorem w_c2 : (Jvm.Cond.code ({ cls := "com/example/antipode/antipode/problem/HammingDiversity", name := "<init>", desc := "(I)V" } : Jvm.MethodName) prog_12_method_1_code (2 : Nat) (Option.none : Option Jvm.ClassFile.FieldType)).before args0 about1 = true := code_word (m := ⟨3, 0⟩) (meth := k3m0) (c := k3c0) (by decide +kernel) rfl rfl rfl (by decide +kernel)
set_option maxRecDepth 65536 in
theorem w_c3 : (Jvm.Cond.code ({ cls := "java/lang/Object", name := "<init>", desc := "()V" } : Jvm.MethodName) object_method_1_code (1 : Nat) (Option.none : Option Jvm.ClassFile.FieldType)).before args0 about1 = true := code_word (m := ⟨0, 0⟩) (meth := k0m0) (c := k0c0) (by decide +kernel) rfl rfl rfl (by decide +kernel)
set_option maxRecDepth 65536 in
theorem w_c4 : (Jvm.Cond.code ({ cls := "com/example/antipode/antipode/problem/HammingDiversity", name := "value", desc := "()J" } : Jvm.MethodName) prog_12_method_3_code (8 : Nat) (Option.some Jvm.ClassFile.FieldType.long)).before args0 about1 = true := code_word (m := ⟨3, 2⟩) (meth := k3m2) (c := k3c2) (by decide +kernel) rfl rfl rfl (by decide +kernel)
set_option maxRecDepth 65536 in
theorem w_c5 : (Jvm.Cond.code ({ cls := "java/lang/Math", name := "multiplyExact", desc := "(JJ)J" } : Jvm.MethodName) jdk_29_method_30_code (10 : Nat) (Option.some Jvm.ClassFile.FieldType.long)).before args0 about1 = true := code_word (m := ⟨4, 2⟩) (meth := k4m2) (c := k4c2) (by decide +kernel) rfl rfl rfl (by decide +kernel)
set_option maxRecDepth 65536 in
theorem w_c6 : (Jvm.Cond.code ({ cls := "java/lang/Math", name := "abs", desc := "(J)J" } : Jvm.MethodName) jdk_29_method_61_code (2 : Nat) (Option.some Jvm.ClassFile.FieldType.long)).before args0 about1 = true := code_word (m := ⟨4, 3⟩) (meth := k4m3) (c := k4c3) (by decide +kernel) rfl rfl rfl (by decide +kernel)
set_option maxRecDepth 65536 in
theorem w_c7 : (Jvm.Cond.code ({ cls := "java/lang/Math", name := "addExact", desc := "(JJ)J" } : Jvm.MethodName) jdk_29_method_25_code (6 : Nat) (Option.some Jvm.ClassFile.FieldType.long)).before args0 about1 = true := code_word (m := ⟨4, 1⟩) (meth := k4m1) (c := k4c1) (by decide +kernel) rfl rfl rfl (by decide +kernel)
set_option maxRecDepth 65536 in
theorem w_c8 : (Jvm.Cond.code ({ cls := "com/example/antipode/antipode/problem/HammingDiversity", name := "add", desc := "([Z)V" } : Jvm.MethodName) prog_12_method_2_code (3 : Nat) (Option.none : Option Jvm.ClassFile.FieldType)).before args0 about1 = true := code_word (m := ⟨3, 1⟩) (meth := k3m1) (c := k3c1) (by decide +kernel) rfl rfl rfl (by decide +kernel)
set_option maxRecDepth 65536 in
theorem w_c9 : (Jvm.Cond.code ({ cls := "com/example/antipode/antipode/problem/HammingDiversityAddPinLaw", name := "d", desc := "(II)J" } : Jvm.MethodName) method_4_code (2 : Nat) (Option.some Jvm.ClassFile.FieldType.long)).before args0 about1 = true := code_word (m := ⟨1, 3⟩) (meth := k1m3) (c := k1c3) (by decide +kernel) rfl rfl rfl (by decide +kernel)
set_option maxRecDepth 65536 in
theorem w_c10 : (Jvm.Cond.code ({ cls := "com/example/antipode/antipode/problem/HammingDiversityAddPinLaw", name := "pop3", desc := "(I)I" } : Jvm.MethodName) method_3_code (1 : Nat) (Option.some Jvm.ClassFile.FieldType.int)).before args0 about1 = true := code_word (m := ⟨1, 2⟩) (meth := k1m2) (c := k1c2) (by decide +kernel) rfl rfl rfl (by decide +kernel)
def codes1 : List Jvm.Cond := [Jvm.Cond.code x code maxLocals ret, Jvm.Cond.code ({ cls := "com/example/antipode/antipode/problem/HammingDiversityAddPinLaw", name := "bits", desc := "(I)[Z" } : Jvm.MethodName) method_2_code (2 : Nat) (Option.some (Jvm.ClassFile.FieldType.array Jvm.ClassFile.FieldType.boolean)), Jvm.Cond.code ({ cls := "com/example/antipode/antipode/problem/HammingDiversity", name := "<init>", desc := "(I)V" } : Jvm.MethodName) prog_12_method_1_code (2 : Nat) (Option.none : Option Jvm.ClassFile.FieldType), Jvm.Cond.code ({ cls := "java/lang/Object", name := "<init>", desc := "()V" } : Jvm.MethodName) object_method_1_code (1 : Nat) (Option.none : Option Jvm.ClassFile.FieldType), Jvm.Cond.code ({ cls := "com/example/antipode/antipode/problem/HammingDiversity", name := "value", desc := "()J" } : Jvm.MethodName) prog_12_method_3_code (8 : Nat) (Option.some Jvm.ClassFile.FieldType.long), Jvm.Cond.code ({ cls := "java/lang/Math", name := "multiplyExact", desc := "(JJ)J" } : Jvm.MethodName) jdk_29_method_30_code (10 : Nat) (Option.some Jvm.ClassFile.FieldType.long), Jvm.Cond.code ({ cls := "java/lang/Math", name := "abs", desc := "(J)J" } : Jvm.MethodName) jdk_29_method_61_code (2 : Nat) (Option.some Jvm.ClassFile.FieldType.long), Jvm.Cond.code ({ cls := "java/lang/Math", name := "addExact", desc := "(JJ)J" } : Jvm.MethodName) jdk_29_method_25_code (6 : Nat) (Option.some Jvm.ClassFile.FieldType.long), Jvm.Cond.code ({ cls := "com/example/antipode/antipode/problem/HammingDiversity", name := "add", desc := "([Z)V" } : Jvm.MethodName) prog_12_method_2_code (3 : Nat) (Option.none : Option Jvm.ClassFile.FieldType), Jvm.Cond.code ({ cls := "com/example/antipode/antipode/problem/HammingDiversityAddPinLaw", name := "d", desc := "(II)J" } : Jvm.MethodName) method_4_code (2 : Nat) (Option.some Jvm.ClassFile.FieldType.long), Jvm.Cond.code ({ cls := "com/example/antipode/antipode/problem/HammingDiversityAddPinLaw", name := "pop3", desc := "(I)I" } : Jvm.MethodName) method_3_code (1 : Nat) (Option.some Jvm.ClassFile.FieldType.int)]
set_option maxRecDepth 65536 in
theorem codes_eq : words1.filter isCode = codes1 := rfl
theorem w_codes : ∀ c ∈ words1.filter isCode, c.before args0 about1 = true := by
  rw [codes_eq]
  intro c hc
  simp only [codes1, List.mem_cons, List.not_mem_nil, or_false] at hc
  rcases hc with rfl | rfl | rfl | rfl | rfl | rfl | rfl | rfl | rfl | rfl | rfl
  · exact w_c0
  · exact w_c1
  · exact w_c2
  · exact w_c3
  · exact w_c4
  · exact w_c5
  · exact w_c6
  · exact w_c7
  · exact w_c8
  · exact w_c9
  · exact w_c10
set_option maxRecDepth 65536 in
theorem w_t1 : (words1.take 24).all (fun c => isCode c || c.before args0 about1) = true := by decide +kernel
set_option maxRecDepth 65536 in
theorem w_t2 : (words1.drop 24).all (fun c => isCode c || c.before args0 about1) = true := by decide +kernel
theorem w_tables : (allAtoms (Jvm.Cond.code x code maxLocals ret :: tables_1)).before args0 about1 = true := by
  rw [allAtoms_all]
  show words1.all (fun c => c.before args0 about1) = true
  refine all_split ?_ w_codes
  rw [← List.take_append_drop 24 words1, List.all_append, w_t1, w_t2]
  rfl
set_option maxRecDepth 65536 in
theorem w_case : (Jvm.Cond.and given_1 narrow_1).before args0 about1 = true := by decide +kernel
theorem w_applies : (headSpec (Jvm.Cond.code x code maxLocals ret :: tables_1) room_1).applies x e0.platform about1 = true :=
  (Spec.applies_iff w_frames).mpr ⟨w_running, w_runnable, w_alone, w_named, w_hears, w_ripe, w_room, w_tables⟩
theorem atStart : AtStart classFile x code maxLocals ret World_1 tables_1 room_1 Calls_1 rest_1 Pre_1 launch0 p0 e0 about1 theMethod args0 below0 :=
  ⟨lists_1, trivial, launch0.admits_env _ _ _, launch0.least_env, fairChoices_fair.cas, fairChoices_fair.clock, w_frames, w_args, w_heap, w_applies, trivial, trivial, w_case⟩
end start1
theorem witness_1 : WitnessClaimed_1 := ⟨start1.p0, start1.e0, start1.about1, start1.theMethod, start1.args0, start1.below0, start1.atStart⟩
end Jvm.Pilot.@@N@@
