import JvmDerived
import JvmDerived.Pilot.@@N@@Statement
import JvmDerived.Pilot.@@N@@Code
set_option linter.unusedVariables false
set_option linter.unusedSimpArgs false
namespace Jvm.Pilot.@@N@@
open Jvm Jvm.ClassFile Sem Op Lib Jvm.Free Jvm.Stand Jvm.LawKit Jvm.RoadKit Bundle Jvm.Pilot.@@N@@.Jvm.D
/-! own: the walk's goal, read backwards -/
def Go (tb : Tables) (e : Env) (below : List Frame) (F : State → Outcome → Prop) (A : State) : Prop := ∃ t o, Steps tb e below A t ∧ F t o
def Fin (below : List Frame) (s : State) (Q : Option Value → Heap → List Loc → Prop) (k n : Nat) (t : State) (o : Outcome) : Prop := t.status = .running ∧ Ended t below o ∧ ∃ v L, o = .returned v ∧ Q v t.heap L ∧ FrameEnd s o t L k n
theorem go {tb : Tables} {e : Env} {below : List Frame} {F : State → Outcome → Prop} {A B : State} (st : ∀ t, Steps tb e below B t → Steps tb e below A t) (h : Go tb e below F B) : Go tb e below F A := by
  obtain ⟨t, o, h1, h2⟩ := h
  exact ⟨t, o, st t h1, h2⟩
theorem go_in {p : Program} {e : Env} {below : List Frame} {s s₁ : State} {Q : Option Value → Heap → List Loc → Prop} {k n : Nat} {A : State} (h : ∀ F : State → Outcome → Prop, (∀ t o, Fin below s Q k n t o → F t o) → Go p.tables e below F A) :
    ∃ t o, Steps p.tables e below A t ∧ t.status = .running ∧ Ended t below o ∧ ∃ v L, o = .returned v ∧ Q v t.heap L ∧ FrameEnd s o t L k n := by
  obtain ⟨t, o, h1, h2, h3, h4⟩ := h (Fin below s Q k n) (fun _ _ h => h)
  exact ⟨t, o, h1, h2, h3, h4⟩
theorem own_fld {s : State} {args : Array Value} {t : Term} {C n d : String} {a : Addr} {k : Int32} (ev : t.eval args s none [] s = some (.ref a)) (h : (Cond.eq (.field t C n d) (.int k)).value args s none s [] = some true) : Fld s s.heap a C n d (.int k) := Fld.start ((fld_at ev).symm.trans (eqv_i (Term.int_eval k) h))
def NSt (h : Heap) (x : Addr) : Prop := ∃ c : Cell, h[x]? = some c ∧ c.vm.isStatics = false
theorem own_sta_keep {Z : State} {h h' : Heap} {C n d : String} {v : Value} {ws : List Addr} (F : Sta Z h C n d v) (K : Keep h h' ws) (q : ∀ x ∈ ws, NSt h x) : Sta Z h' C n d v := by
  obtain ⟨cf, i, k, f, st, cell, h1, h2, h3, h4, h5, h6, h7⟩ := F
  refine ⟨cf, i, k, f, st, cell, h1, h2, h3, h4, K.2.1 _ _ h5 (fun z => ?_), h6, h7⟩
  obtain ⟨c, g1, g2⟩ := q _ z
  cases h5.symm.trans g1
  rw [h6] at g2; cases g2
end Jvm.Pilot.@@N@@
namespace Jvm.RoadKit
theorem Exa.ns {Z : State} {h : Heap} {a : Addr} {C : String} (F : Exa Z h a C) : Jvm.Pilot.@@N@@.NSt h a := by
  obtain ⟨c, _, h1, -, -, h4, -⟩ := F; exact ⟨c, h1, h4⟩
theorem Arv.ns {Z : State} {h : Heap} {a : Addr} {k : ClassId} {ty : ClassFile.FieldType} {z : Int32} {vs : List Value} {dv : Value} (F : Arv Z h a k ty z vs dv) : Jvm.Pilot.@@N@@.NSt h a := by
  obtain ⟨c, A, -⟩ := F; exact ⟨c, A.1, A.plain⟩
end Jvm.RoadKit
namespace Jvm.Pilot.@@N@@
open Jvm Jvm.ClassFile Sem Op Lib Jvm.Free Jvm.Stand Jvm.LawKit Jvm.RoadKit Bundle Jvm.Pilot.@@N@@.Jvm.D
theorem own_no {Z : State} {aw : Array Value} {X Y : String} {t : List String} {n : Nat} (hwc : ∀ w ∈ Cond.chainWords (X :: t), w.before aw Z = true) (wi : (Cond.instantiable Y n).before aw Z = true) (hn : Y ∉ X :: t) : ∃ c t, Z.vm.findClass X = some c ∧ Z.vm.findClass Y = some t ∧ Z.vm.assignable c t = false := by
  obtain ⟨cy, ky, hy1, hy2, hy3, hy4, -⟩ := Cond.instantiable_spec wi
  obtain ⟨cx, k, hx, -⟩ := Cond.chain_head hwc
  exact ⟨cx, cy, hx, hy1, Vm.notAssignable_of_chain hx hy1 hy2 hy3 (Bool.or_eq_false_iff.mp hy4).1 hwc hn⟩
theorem own_selp {Z s : State} {aw args : Array Value} {y : MethodName} {n : Nat} (hZ : Z.Warmed39 s.vm) (wi : (Cond.instantiable y.cls n).before aw Z = true) (wp : (Cond.privateMethod y).before aw Z = true) (wm : (Cond.instanceMethod y).before aw Z = true) (hy : y.cls ≠ "java/lang/invoke/MethodHandle" ∧ y.cls ≠ "java/lang/invoke/VarHandle") : (Cond.selects y.cls y y).before args s = true := by
  obtain ⟨c, k, h1, h2, -, h4, -⟩ := Cond.instantiable_spec (mvT (args := args) hZ wi)
  exact selects_self_of_private h1 h2 (Bool.or_eq_false_iff.mp h4).1 (Cond.privateMethod_at (mvP hZ wp (args := args))) (mvT hZ wm) hy
section Ends
variable {p : Program} {l : Launch} {e : Env} {R : Room} {s : State} {m : MethodId} {args : Array Value} {below : List Frame} {meth : Method} {c : Code} {T : State} {locs : List Loc} {cells slots : Nat} {F : State → Outcome → Prop} {Q : Option Value → Heap → List Loc → Prop} {k n : Nat} {pc : Nat} {Ls : Array Slot} {rest : List Value} {h : Heap}
/-- the end of a walk: what is returned, what the heap says -/
theorem go_end (X : Stand p l e R s m args below meth c T locs cells slots) (hlk : meth.locks = false) (hF : ∀ t o, Fin below s Q k n t o → F t o) (eT : T.heap = h) (hk : cells ≤ k) (hn : slots ≤ n) {v : Option Value} (hv : meth.sig.returnType = none → v = none) (hQ : Q v h locs) {A : State}
    (hs : ∀ fs, (∀ (f : JFrame) (acts : List Action), f.method = m → f.locked = none → f.entered = [] → (doReturn e (T.setTop f) acts v).1 = T.setFrames fs) → Steps p.tables e below A (T.setFrames fs)) : Go p.tables e below F A := by
  obtain ⟨fs, hr, hrun, hended, hW, hsame⟩ := X.leave (v := v) hv hlk
  subst eT
  exact ⟨_, _, hs fs hr, hF _ _ ⟨hrun, hended, _, _, rfl, hQ, ⟨_, rfl⟩, hW, hsame.mono hk hn⟩⟩
theorem end_void (X : Stand p l e R s m args below meth c T locs cells slots) (hx : p.tables.exec = Jvm.exec) (hlk : meth.locks = false) (hret : meth.sig.returnType = none) (hd : decode c.code pc = .ok (.return_, 1)) (hF : ∀ t o, Fin below s Q k n t o → F t o) (eT : T.heap = h) (hk : cells ≤ k) (hn : slots ≤ n) (hQ : Q none h locs) : Go p.tables e below F (T.setTop (mkF m pc Ls [])) :=
  go_end X hlk hF eT hk hn (fun _ => rfl) hQ fun fs hr => X.returnOut hx hret hd hr
theorem end_nar {z : Int32} {t : FieldType} (X : Stand p l e R s m args below meth c T locs cells slots) (hx : p.tables.exec = Jvm.exec) (hlk : meth.locks = false) (hret : meth.sig.returnType = some t) (ht : t = .boolean ∨ t = .byte ∨ t = .char ∨ t = .short) (hd : decode c.code pc = .ok (.ireturn, 1)) (hF : ∀ t o, Fin below s Q k n t o → F t o) (eT : T.heap = h) (hk : cells ≤ k) (hn : slots ≤ n) (hQ : Q (some (.int (nar t z))) h locs) : Go p.tables e below F (T.setTop (mkF m pc Ls (.int z :: rest))) :=
  go_end X hlk hF eT hk hn (fun h => by rw [hret] at h; cases h) hQ fun fs hr => retN X hx hret ht hd hr
theorem end_int {z : Int32} (X : Stand p l e R s m args below meth c T locs cells slots) (hx : p.tables.exec = Jvm.exec) (hlk : meth.locks = false) (hret : meth.sig.returnType = some .int) (hd : decode c.code pc = .ok (.ireturn, 1)) (hF : ∀ t o, Fin below s Q k n t o → F t o) (eT : T.heap = h) (hk : cells ≤ k) (hn : slots ≤ n) (hQ : Q (some (.int z)) h locs) : Go p.tables e below F (T.setTop (mkF m pc Ls (.int z :: rest))) :=
  go_end X hlk hF eT hk hn (fun h => by rw [hret] at h; cases h) hQ fun fs hr => retOut X hx hret rfl (Or.inl ⟨rfl, Or.inl rfl, _, rfl⟩) hd hr
theorem end_long {z : Int64} (X : Stand p l e R s m args below meth c T locs cells slots) (hx : p.tables.exec = Jvm.exec) (hlk : meth.locks = false) (hret : meth.sig.returnType = some .long) (hd : decode c.code pc = .ok (.lreturn, 1)) (hF : ∀ t o, Fin below s Q k n t o → F t o) (eT : T.heap = h) (hk : cells ≤ k) (hn : slots ≤ n) (hQ : Q (some (.long z)) h locs) : Go p.tables e below F (T.setTop (mkF m pc Ls (.long z :: rest))) :=
  go_end X hlk hF eT hk hn (fun h => by rw [hret] at h; cases h) hQ fun fs hr => retOut X hx hret rfl (Or.inr (Or.inl ⟨rfl, rfl, _, rfl⟩)) hd hr
theorem end_ref {w : Value} {t : FieldType} (X : Stand p l e R s m args below meth c T locs cells slots) (hx : p.tables.exec = Jvm.exec) (hlk : meth.locks = false) (hret : meth.sig.returnType = some t) (ht : t.isReference = true) (hw : w.isRef = true) (hnr : narrow t w = w) (hd : decode c.code pc = .ok (.areturn, 1)) (hF : ∀ t o, Fin below s Q k n t o → F t o) (eT : T.heap = h) (hk : cells ≤ k) (hn : slots ≤ n) (hQ : Q (some w) h locs) : Go p.tables e below F (T.setTop (mkF m pc Ls (w :: rest))) :=
  go_end X hlk hF eT hk hn (fun h => by rw [hret] at h; cases h) hQ fun fs hr => retOut X hx hret hnr (Or.inr (Or.inr (Or.inr (Or.inr ⟨rfl, ht, hw⟩)))) hd hr
end Ends
theorem d1_0 : decode method_2_code 0 = .ok (.iload_n 0, 1) := by decide +kernel
theorem d1_1 : decode method_2_code 1 = .ok (.ldc 7, 2) := by decide +kernel
theorem d1_3 : decode method_2_code 3 = .ok (.iand, 1) := by decide +kernel
theorem d1_4 : decode method_2_code 4 = .ok (.iconst 5, 1) := by decide +kernel
theorem d1_5 : decode method_2_code 5 = .ok (.irem, 1) := by decide +kernel
theorem d1_6 : decode method_2_code 6 = .ok (.istore_n 1, 1) := by decide +kernel
theorem d1_7 : decode method_2_code 7 = .ok (.iload_n 1, 1) := by decide +kernel
theorem d1_8 : decode method_2_code 8 = .ok (.ifCond .ne 7, 3) := by decide +kernel
theorem d1_11 : decode method_2_code 11 = .ok (.getstatic 8, 3) := by decide +kernel
theorem d1_14 : decode method_2_code 14 = .ok (.areturn, 1) := by decide +kernel
theorem d1_15 : decode method_2_code 15 = .ok (.iload_n 1, 1) := by decide +kernel
theorem d1_16 : decode method_2_code 16 = .ok (.iconst 1, 1) := by decide +kernel
theorem d1_17 : decode method_2_code 17 = .ok (.if_icmp .ne 7, 3) := by decide +kernel
theorem d1_20 : decode method_2_code 20 = .ok (.getstatic 14, 3) := by decide +kernel
theorem d1_23 : decode method_2_code 23 = .ok (.areturn, 1) := by decide +kernel
theorem d1_24 : decode method_2_code 24 = .ok (.iload_n 1, 1) := by decide +kernel
theorem d1_25 : decode method_2_code 25 = .ok (.iconst 2, 1) := by decide +kernel
theorem d1_26 : decode method_2_code 26 = .ok (.if_icmp .ne 7, 3) := by decide +kernel
theorem d1_29 : decode method_2_code 29 = .ok (.getstatic 17, 3) := by decide +kernel
theorem d1_32 : decode method_2_code 32 = .ok (.areturn, 1) := by decide +kernel
theorem d1_33 : decode method_2_code 33 = .ok (.iload_n 1, 1) := by decide +kernel
theorem d1_34 : decode method_2_code 34 = .ok (.iconst 3, 1) := by decide +kernel
theorem d1_35 : decode method_2_code 35 = .ok (.if_icmp .ne 7, 3) := by decide +kernel
theorem d1_38 : decode method_2_code 38 = .ok (.getstatic 20, 3) := by decide +kernel
theorem d1_41 : decode method_2_code 41 = .ok (.areturn, 1) := by decide +kernel
theorem d1_42 : decode method_2_code 42 = .ok (.getstatic 23, 3) := by decide +kernel
theorem d1_45 : decode method_2_code 45 = .ok (.areturn, 1) := by decide +kernel
theorem pn_1 : plainName "com/example/purposeward/purposeward/LexemeEqualsPinLaw" = true := by first | (simp [plainName, overriddenIn]; done) | decide +kernel
theorem ef_1 (m : MethodId) (p0 : Int32) : entryFrame m #[(.int p0)] 2 = mkF m 0 #[.val (.int p0), .unset] [] := by first | (simp [entryFrame, mkF, argsToLocals, Value.category]; done) | rfl
def f1 (p0 : Int32) (w_NAME : Addr) (w_QUOTED_NAME : Addr) (w_STRING : Addr) (w_COMMENT : Addr) (w_OTHER : Addr) : Addr := if ((p0 &&& (2147483647 : Int32)) % (5 : Int32)) = (0 : Int32) then w_NAME else if ((p0 &&& (2147483647 : Int32)) % (5 : Int32)) = (1 : Int32) then w_QUOTED_NAME else if ((p0 &&& (2147483647 : Int32)) % (5 : Int32)) = (2 : Int32) then w_STRING else if ((p0 &&& (2147483647 : Int32)) % (5 : Int32)) = (3 : Int32) then w_COMMENT else w_OTHER
abbrev room1 : Room := { frames := 0, cells := 0, slots := 0, locals := 0 }
def Q1 (Z : State) (p0 : Int32) (w_NAME : Addr) (w_QUOTED_NAME : Addr) (w_STRING : Addr) (w_COMMENT : Addr) (w_OTHER : Addr) (h0 : Heap) (n0 : Nat) (v : Option Value) (h : Heap) (L : List Loc) : Prop := v = some (.ref (f1 p0 w_NAME w_QUOTED_NAME w_STRING w_COMMENT w_OTHER)) ∧ L = [] ∧ h = h0
set_option maxRecDepth 65536 in
set_option maxHeartbeats 40000000 in
theorem rm1 (l : Launch) (Z : State) (aw : Array Value) (hw : ∀ d ∈ tables_1, d.before aw Z = true) (ws : List Jvm.Cond) (p0 : Int32) (w_NAME : Addr) (w_QUOTED_NAME : Addr) (w_STRING : Addr) (w_COMMENT : Addr) (w_OTHER : Addr) (h0 : Heap) (n0 : Nat) (Z0 : n0 ≤ h0.size) (O0 : Old Z n0 h0) (S_NAME : Sta Z Z.heap "com/example/purposeward/purposeward/Lexeme$Kind" "NAME" "Lcom/example/purposeward/purposeward/Lexeme$Kind;" (.ref w_NAME)) (S_QUOTED_NAME : Sta Z Z.heap "com/example/purposeward/purposeward/Lexeme$Kind" "QUOTED_NAME" "Lcom/example/purposeward/purposeward/Lexeme$Kind;" (.ref w_QUOTED_NAME)) (S_STRING : Sta Z Z.heap "com/example/purposeward/purposeward/Lexeme$Kind" "STRING" "Lcom/example/purposeward/purposeward/Lexeme$Kind;" (.ref w_STRING)) (S_COMMENT : Sta Z Z.heap "com/example/purposeward/purposeward/Lexeme$Kind" "COMMENT" "Lcom/example/purposeward/purposeward/Lexeme$Kind;" (.ref w_COMMENT)) (S_OTHER : Sta Z Z.heap "com/example/purposeward/purposeward/Lexeme$Kind" "OTHER" "Lcom/example/purposeward/purposeward/Lexeme$Kind;" (.ref w_OTHER)) :
    MetFree l (⟨"com/example/purposeward/purposeward/LexemeEqualsPinLaw", "kindOf", "(I)Lcom/example/purposeward/purposeward/Lexeme$Kind;"⟩ : MethodName) (head1 (Jvm.Cond.code (⟨"com/example/purposeward/purposeward/LexemeEqualsPinLaw", "kindOf", "(I)Lcom/example/purposeward/purposeward/Lexeme$Kind;"⟩ : MethodName) method_2_code 2 (some (.object "com/example/purposeward/purposeward/Lexeme$Kind")) :: ws) room1) (fun a U => a = #[(.int p0)] ∧ Z.Warmed39 U.vm ∧ U.heap = h0) (fun _ _ _ _ _ => True) (fun _ U o U' => ∃ v L, o = .returned v ∧ Q1 Z p0 w_NAME w_QUOTED_NAME w_STRING w_COMMENT w_OTHER h0 n0 v U'.heap L ∧ FrameEnd U o U' L room1.cells room1.slots) := by
  refine MetFree.of_bodySF (plainFor_of_name pn_1) hisR ?_
  intro p e s m args below meth c s₁ Bd hml0 hP hK
  obtain ⟨rfl, hZ, hh⟩ := hP
  have hx := Bd.exec
  have hby := Bd.bytes
  have hml : c.maxLocals = 2 := hml0
  have hown : s.vm.findClass "com/example/purposeward/purposeward/LexemeEqualsPinLaw" = some m.cls := findClass_of_methodNamed Bd.named
  have hnm := (name_of_methodNamed Bd.named Bd.method).1
  have X0 : Stand p l e room1 s m #[(.int p0)] below meth c s₁ [] 0 0 := Stand.of_body Bd
  have e0 : s₁.heap = h0 := by rw [← hh, Bd.state]; rfl
  have N0 := Fr.nil n0
  rw [ef_1 m p0]
  refine go_in (s₁ := s₁) (Q := Q1 Z p0 w_NAME w_QUOTED_NAME w_STRING w_COMMENT w_OTHER h0 n0) fun F hF => ?_
  refine go (B := s₁.setTop (mkF m 1 #[.val (.int p0), .unset] [(.int p0)])) (fun _ k => XS.iloadN X0.here hx rfl (hb hby d1_0) rfl k) ?_
  refine go (B := s₁.setTop (mkF m 3 #[.val (.int p0), .unset] [(.int (2147483647 : Int32)), (.int p0)])) (fun _ k => X0.ldcInt hx hown (mvT hZ (hw _ (List.mem_of_getElem? (i := 4) rfl))) (g := (mkF m 1 #[.val (.int p0), .unset] [(.int p0)])) rfl (hb hby d1_1) _ k) ?_
  refine go (B := s₁.setTop (mkF m 4 #[.val (.int p0), .unset] [(.int (p0 &&& (2147483647 : Int32)))])) (fun _ k => XS.iand X0.here hx rfl (hb hby d1_3) rfl k) ?_
  refine go (B := s₁.setTop (mkF m 5 #[.val (.int p0), .unset] [(.int (5 : Int32)), (.int (p0 &&& (2147483647 : Int32)))])) (fun _ k => XS.iconst X0.here hx rfl (hb hby d1_4) k) ?_
  refine go (B := s₁.setTop (mkF m 6 #[.val (.int p0), .unset] [(.int ((p0 &&& (2147483647 : Int32)) % (5 : Int32)))])) (fun _ k => iremM X0 hx rfl (hb hby d1_5) rfl (by decide) k) ?_
  refine go (B := s₁.setTop (mkF m 7 #[.val (.int p0), .val (.int ((p0 &&& (2147483647 : Int32)) % (5 : Int32)))] [])) (fun _ k => XS.istoreN X0.here hx rfl (hb hby d1_6) rfl (l' := #[.val (.int p0), .val (.int ((p0 &&& (2147483647 : Int32)) % (5 : Int32)))]) rfl k) ?_
  refine go (B := s₁.setTop (mkF m 8 #[.val (.int p0), .val (.int ((p0 &&& (2147483647 : Int32)) % (5 : Int32)))] [(.int ((p0 &&& (2147483647 : Int32)) % (5 : Int32)))])) (fun _ k => XS.iloadN X0.here hx rfl (hb hby d1_7) rfl k) ?_
  by_cases hc1 : ((p0 &&& (2147483647 : Int32)) % (5 : Int32)) = (0 : Int32)
  · refine go (B := s₁.setTop (mkF m 11 #[.val (.int p0), .val (.int ((p0 &&& (2147483647 : Int32)) % (5 : Int32)))] [])) (fun _ k => XS.ifNo X0.here hx rfl (hb hby d1_8) rfl ((if0 _ _).trans (teq hc1).2) k) ?_
    obtain ⟨T2, X2, e2, st2⟩ := getS2 X0 hx hZ hown (host := "") (Or.inl (hw _ (List.mem_of_getElem? (i := 5) rfl))) Via.refl e0 (S_NAME.ext O0.2) (g := (mkF m 11 #[.val (.int p0), .val (.int ((p0 &&& (2147483647 : Int32)) % (5 : Int32)))] [])) rfl (hb hby d1_11)
    refine go (B := T2.setTop (mkF m 14 #[.val (.int p0), .val (.int ((p0 &&& (2147483647 : Int32)) % (5 : Int32)))] [(.ref w_NAME)])) st2 ?_
    have r3 : (f1 p0 w_NAME w_QUOTED_NAME w_STRING w_COMMENT w_OTHER) = w_NAME := by unfold f1; rw [if_pos hc1]
    exact end_ref X2 hx Bd.notSynchronized Bd.returns rfl rfl rfl (hb hby d1_14) hF e2 (by decide) (by decide) ⟨(congrArg (fun z => some (Value.ref z)) r3.symm), rfl, rfl⟩
  · refine go (B := s₁.setTop (mkF m 15 #[.val (.int p0), .val (.int ((p0 &&& (2147483647 : Int32)) % (5 : Int32)))] [])) (fun _ k => XS.ifYes X0.here hx rfl (pc0 := 8) (pc' := 15) rfl (hb hby d1_8) rfl ((if0 _ _).trans (feq hc1).2) (by decide) (by decide) k) ?_
    refine go (B := s₁.setTop (mkF m 16 #[.val (.int p0), .val (.int ((p0 &&& (2147483647 : Int32)) % (5 : Int32)))] [(.int ((p0 &&& (2147483647 : Int32)) % (5 : Int32)))])) (fun _ k => XS.iloadN X0.here hx rfl (hb hby d1_15) rfl k) ?_
    refine go (B := s₁.setTop (mkF m 17 #[.val (.int p0), .val (.int ((p0 &&& (2147483647 : Int32)) % (5 : Int32)))] [(.int (1 : Int32)), (.int ((p0 &&& (2147483647 : Int32)) % (5 : Int32)))])) (fun _ k => XS.iconst X0.here hx rfl (hb hby d1_16) k) ?_
    by_cases hc4 : ((p0 &&& (2147483647 : Int32)) % (5 : Int32)) = (1 : Int32)
    · refine go (B := s₁.setTop (mkF m 20 #[.val (.int p0), .val (.int ((p0 &&& (2147483647 : Int32)) % (5 : Int32)))] [])) (fun _ k => XS.icmpNo X0.here hx rfl (hb hby d1_17) rfl (teq hc4).2 k) ?_
      obtain ⟨T5, X5, e5, st5⟩ := getS2 X0 hx hZ hown (host := "") (Or.inl (hw _ (List.mem_of_getElem? (i := 56) rfl))) Via.refl e0 (S_QUOTED_NAME.ext O0.2) (g := (mkF m 20 #[.val (.int p0), .val (.int ((p0 &&& (2147483647 : Int32)) % (5 : Int32)))] [])) rfl (hb hby d1_20)
      refine go (B := T5.setTop (mkF m 23 #[.val (.int p0), .val (.int ((p0 &&& (2147483647 : Int32)) % (5 : Int32)))] [(.ref w_QUOTED_NAME)])) st5 ?_
      have r6 : (f1 p0 w_NAME w_QUOTED_NAME w_STRING w_COMMENT w_OTHER) = w_QUOTED_NAME := by unfold f1; rw [if_neg hc1, if_pos hc4]
      exact end_ref X5 hx Bd.notSynchronized Bd.returns rfl rfl rfl (hb hby d1_23) hF e5 (by decide) (by decide) ⟨(congrArg (fun z => some (Value.ref z)) r6.symm), rfl, rfl⟩
    · refine go (B := s₁.setTop (mkF m 24 #[.val (.int p0), .val (.int ((p0 &&& (2147483647 : Int32)) % (5 : Int32)))] [])) (fun _ k => XS.icmpYes X0.here hx rfl (pc0 := 17) (pc' := 24) rfl (hb hby d1_17) rfl (feq hc4).2 (by decide) (by decide) k) ?_
      refine go (B := s₁.setTop (mkF m 25 #[.val (.int p0), .val (.int ((p0 &&& (2147483647 : Int32)) % (5 : Int32)))] [(.int ((p0 &&& (2147483647 : Int32)) % (5 : Int32)))])) (fun _ k => XS.iloadN X0.here hx rfl (hb hby d1_24) rfl k) ?_
      refine go (B := s₁.setTop (mkF m 26 #[.val (.int p0), .val (.int ((p0 &&& (2147483647 : Int32)) % (5 : Int32)))] [(.int (2 : Int32)), (.int ((p0 &&& (2147483647 : Int32)) % (5 : Int32)))])) (fun _ k => XS.iconst X0.here hx rfl (hb hby d1_25) k) ?_
      by_cases hc7 : ((p0 &&& (2147483647 : Int32)) % (5 : Int32)) = (2 : Int32)
      · refine go (B := s₁.setTop (mkF m 29 #[.val (.int p0), .val (.int ((p0 &&& (2147483647 : Int32)) % (5 : Int32)))] [])) (fun _ k => XS.icmpNo X0.here hx rfl (hb hby d1_26) rfl (teq hc7).2 k) ?_
        obtain ⟨T8, X8, e8, st8⟩ := getS2 X0 hx hZ hown (host := "") (Or.inl (hw _ (List.mem_of_getElem? (i := 61) rfl))) Via.refl e0 (S_STRING.ext O0.2) (g := (mkF m 29 #[.val (.int p0), .val (.int ((p0 &&& (2147483647 : Int32)) % (5 : Int32)))] [])) rfl (hb hby d1_29)
        refine go (B := T8.setTop (mkF m 32 #[.val (.int p0), .val (.int ((p0 &&& (2147483647 : Int32)) % (5 : Int32)))] [(.ref w_STRING)])) st8 ?_
        have r9 : (f1 p0 w_NAME w_QUOTED_NAME w_STRING w_COMMENT w_OTHER) = w_STRING := by unfold f1; rw [if_neg hc1, if_neg hc4, if_pos hc7]
        exact end_ref X8 hx Bd.notSynchronized Bd.returns rfl rfl rfl (hb hby d1_32) hF e8 (by decide) (by decide) ⟨(congrArg (fun z => some (Value.ref z)) r9.symm), rfl, rfl⟩
      · refine go (B := s₁.setTop (mkF m 33 #[.val (.int p0), .val (.int ((p0 &&& (2147483647 : Int32)) % (5 : Int32)))] [])) (fun _ k => XS.icmpYes X0.here hx rfl (pc0 := 26) (pc' := 33) rfl (hb hby d1_26) rfl (feq hc7).2 (by decide) (by decide) k) ?_
        refine go (B := s₁.setTop (mkF m 34 #[.val (.int p0), .val (.int ((p0 &&& (2147483647 : Int32)) % (5 : Int32)))] [(.int ((p0 &&& (2147483647 : Int32)) % (5 : Int32)))])) (fun _ k => XS.iloadN X0.here hx rfl (hb hby d1_33) rfl k) ?_
        refine go (B := s₁.setTop (mkF m 35 #[.val (.int p0), .val (.int ((p0 &&& (2147483647 : Int32)) % (5 : Int32)))] [(.int (3 : Int32)), (.int ((p0 &&& (2147483647 : Int32)) % (5 : Int32)))])) (fun _ k => XS.iconst X0.here hx rfl (hb hby d1_34) k) ?_
        by_cases hc10 : ((p0 &&& (2147483647 : Int32)) % (5 : Int32)) = (3 : Int32)
        · refine go (B := s₁.setTop (mkF m 38 #[.val (.int p0), .val (.int ((p0 &&& (2147483647 : Int32)) % (5 : Int32)))] [])) (fun _ k => XS.icmpNo X0.here hx rfl (hb hby d1_35) rfl (teq hc10).2 k) ?_
          obtain ⟨T11, X11, e11, st11⟩ := getS2 X0 hx hZ hown (host := "") (Or.inl (hw _ (List.mem_of_getElem? (i := 39) rfl))) Via.refl e0 (S_COMMENT.ext O0.2) (g := (mkF m 38 #[.val (.int p0), .val (.int ((p0 &&& (2147483647 : Int32)) % (5 : Int32)))] [])) rfl (hb hby d1_38)
          refine go (B := T11.setTop (mkF m 41 #[.val (.int p0), .val (.int ((p0 &&& (2147483647 : Int32)) % (5 : Int32)))] [(.ref w_COMMENT)])) st11 ?_
          have r12 : (f1 p0 w_NAME w_QUOTED_NAME w_STRING w_COMMENT w_OTHER) = w_COMMENT := by unfold f1; rw [if_neg hc1, if_neg hc4, if_neg hc7, if_pos hc10]
          exact end_ref X11 hx Bd.notSynchronized Bd.returns rfl rfl rfl (hb hby d1_41) hF e11 (by decide) (by decide) ⟨(congrArg (fun z => some (Value.ref z)) r12.symm), rfl, rfl⟩
        · refine go (B := s₁.setTop (mkF m 42 #[.val (.int p0), .val (.int ((p0 &&& (2147483647 : Int32)) % (5 : Int32)))] [])) (fun _ k => XS.icmpYes X0.here hx rfl (pc0 := 35) (pc' := 42) rfl (hb hby d1_35) rfl (feq hc10).2 (by decide) (by decide) k) ?_
          obtain ⟨T13, X13, e13, st13⟩ := getS2 X0 hx hZ hown (host := "") (Or.inl (hw _ (List.mem_of_getElem? (i := 37) rfl))) Via.refl e0 (S_OTHER.ext O0.2) (g := (mkF m 42 #[.val (.int p0), .val (.int ((p0 &&& (2147483647 : Int32)) % (5 : Int32)))] [])) rfl (hb hby d1_42)
          refine go (B := T13.setTop (mkF m 45 #[.val (.int p0), .val (.int ((p0 &&& (2147483647 : Int32)) % (5 : Int32)))] [(.ref w_OTHER)])) st13 ?_
          have r14 : (f1 p0 w_NAME w_QUOTED_NAME w_STRING w_COMMENT w_OTHER) = w_OTHER := by unfold f1; rw [if_neg hc1, if_neg hc4, if_neg hc7, if_neg hc10]
          exact end_ref X13 hx Bd.notSynchronized Bd.returns rfl rfl rfl (hb hby d1_45) hF e13 (by decide) (by decide) ⟨(congrArg (fun z => some (Value.ref z)) r14.symm), rfl, rfl⟩
theorem d2_0 : decode prog_4_method_1_code 0 = .ok (.aload_n 0, 1) := by decide +kernel
theorem d2_1 : decode prog_4_method_1_code 1 = .ok (.invokespecial 1, 3) := by decide +kernel
theorem d2_4 : decode prog_4_method_1_code 4 = .ok (.aload_n 0, 1) := by decide +kernel
theorem d2_5 : decode prog_4_method_1_code 5 = .ok (.aload_n 1, 1) := by decide +kernel
theorem d2_6 : decode prog_4_method_1_code 6 = .ok (.putfield 7, 3) := by decide +kernel
theorem d2_9 : decode prog_4_method_1_code 9 = .ok (.aload_n 0, 1) := by decide +kernel
theorem d2_10 : decode prog_4_method_1_code 10 = .ok (.iload_n 2, 1) := by decide +kernel
theorem d2_11 : decode prog_4_method_1_code 11 = .ok (.putfield 13, 3) := by decide +kernel
theorem d2_14 : decode prog_4_method_1_code 14 = .ok (.aload_n 0, 1) := by decide +kernel
theorem d2_15 : decode prog_4_method_1_code 15 = .ok (.iload_n 3, 1) := by decide +kernel
theorem d2_16 : decode prog_4_method_1_code 16 = .ok (.putfield 17, 3) := by decide +kernel
theorem d2_19 : decode prog_4_method_1_code 19 = .ok (.return_, 1) := by decide +kernel
theorem pn_2 : plainName "com/example/purposeward/purposeward/Lexeme" = true := by first | (simp [plainName, overriddenIn]; done) | decide +kernel
theorem ef_2 (m : MethodId) (a0 : Addr) (a1 : Addr) (p2 : Int32) (p3 : Int32) : entryFrame m #[(.ref a0), (.ref a1), (.int p2), (.int p3)] 4 = mkF m 0 #[.val (.ref a0), .val (.ref a1), .val (.int p2), .val (.int p3)] [] := by first | (simp [entryFrame, mkF, argsToLocals, Value.category]; done) | rfl
abbrev room2 : Room := { frames := 1, cells := 0, slots := 0, locals := 12 }
def Q2 (Z : State) (a0 : Addr) (a1 : Addr) (p2 : Int32) (p3 : Int32) (h0 : Heap) (n0 : Nat) (v : Option Value) (h : Heap) (L : List Loc) : Prop := v = none ∧ Fr n0 L ∧ Keep h0 h [a0] ∧ Exa Z h a0 "com/example/purposeward/purposeward/Lexeme" ∧ Fld Z h a0 "com/example/purposeward/purposeward/Lexeme" "kind" "Lcom/example/purposeward/purposeward/Lexeme$Kind;" (.ref a1) ∧ Fld Z h a0 "com/example/purposeward/purposeward/Lexeme" "begin" "I" (.int p2) ∧ Fld Z h a0 "com/example/purposeward/purposeward/Lexeme" "end" "I" (.int p3)
set_option maxRecDepth 65536 in
set_option maxHeartbeats 40000000 in
theorem rm2 (l : Launch) (Z : State) (aw : Array Value) (hw : ∀ d ∈ tables_1, d.before aw Z = true) (ws : List Jvm.Cond) (a0 : Addr) (a1 : Addr) (p2 : Int32) (p3 : Int32) (h0 : Heap) (n0 : Nat) (Z0 : n0 ≤ h0.size) (O0 : Old Z n0 h0) (F_kind_a0 : Fld Z h0 a0 "com/example/purposeward/purposeward/Lexeme" "kind" "Lcom/example/purposeward/purposeward/Lexeme$Kind;" .null) (F_begin_a0 : Fld Z h0 a0 "com/example/purposeward/purposeward/Lexeme" "begin" "I" (.int (0 : Int32))) (F_end_a0 : Fld Z h0 a0 "com/example/purposeward/purposeward/Lexeme" "end" "I" (.int (0 : Int32))) (E_a0 : Exa Z h0 a0 "com/example/purposeward/purposeward/Lexeme") (g_a0 : n0 ≤ a0) :
    MetFree l (⟨"com/example/purposeward/purposeward/Lexeme", "<init>", "(Lcom/example/purposeward/purposeward/Lexeme$Kind;II)V"⟩ : MethodName) (head1 (Jvm.Cond.code (⟨"com/example/purposeward/purposeward/Lexeme", "<init>", "(Lcom/example/purposeward/purposeward/Lexeme$Kind;II)V"⟩ : MethodName) prog_4_method_1_code 4 none :: ws) room2) (fun a U => a = #[(.ref a0), (.ref a1), (.int p2), (.int p3)] ∧ Z.Warmed39 U.vm ∧ U.heap = h0) (fun _ _ _ _ _ => True) (fun _ U o U' => ∃ v L, o = .returned v ∧ Q2 Z a0 a1 p2 p3 h0 n0 v U'.heap L ∧ FrameEnd U o U' L room2.cells room2.slots) := by
  refine MetFree.of_bodySF (plainFor_of_name pn_2) hisR ?_
  intro p e s m args below meth c s₁ Bd hml0 hP hK
  obtain ⟨rfl, hZ, hh⟩ := hP
  have hx := Bd.exec
  have hby := Bd.bytes
  have hml : c.maxLocals = 4 := hml0
  have hown : s.vm.findClass "com/example/purposeward/purposeward/Lexeme" = some m.cls := findClass_of_methodNamed Bd.named
  have hnm := (name_of_methodNamed Bd.named Bd.method).1
  have X0 : Stand p l e room2 s m #[(.ref a0), (.ref a1), (.int p2), (.int p3)] below meth c s₁ [] 0 0 := Stand.of_body Bd
  have e0 : s₁.heap = h0 := by rw [← hh, Bd.state]; rfl
  have N0 := Fr.nil n0
  have K0 := Keep.refl h0 [a0]
  rw [ef_2 m a0 a1 p2 p3]
  refine go_in (s₁ := s₁) (Q := Q2 Z a0 a1 p2 p3 h0 n0) fun F hF => ?_
  refine go (B := s₁.setTop (mkF m 1 #[.val (.ref a0), .val (.ref a1), .val (.int p2), .val (.int p3)] [(.ref a0)])) (fun _ k => XS.aloadN X0.here hx rfl (hb hby d2_0) rfl rfl k) ?_
  obtain ⟨T1, X1, e1, st1⟩ := initO X0 hx hZ hown (hw _ (List.mem_of_getElem? (i := 14) rfl)) (hw _ (List.mem_of_getElem? (i := 15) rfl)) (hw _ (List.mem_of_getElem? (i := 16) rfl)) e0 (g := (mkF m 1 #[.val (.ref a0), .val (.ref a1), .val (.int p2), .val (.int p3)] [(.ref a0)])) rfl (by rw [hml]; rfl) rfl (hb hby d2_1) (by decide) (W := 0) (by show 2 * 0 + _ ≤ _; exact Nat.le_of_eq rfl) (by decide)
  refine go (B := T1.setTop (mkF m 4 #[.val (.ref a0), .val (.ref a1), .val (.int p2), .val (.int p3)] [])) st1 ?_
  refine go (B := T1.setTop (mkF m 5 #[.val (.ref a0), .val (.ref a1), .val (.int p2), .val (.int p3)] [(.ref a0)])) (fun _ k => XS.aloadN X1.here hx rfl (hb hby d2_4) rfl rfl k) ?_
  refine go (B := T1.setTop (mkF m 6 #[.val (.ref a0), .val (.ref a1), .val (.int p2), .val (.int p3)] [(.ref a1), (.ref a0)])) (fun _ k => XS.aloadN X1.here hx rfl (hb hby d2_5) rfl rfl k) ?_
  obtain ⟨T2, h2, X2, e2, W2, st2⟩ := putF X1 hx hZ hown (host := "") (Or.inl (hw _ (List.mem_of_getElem? (i := 17) rfl))) Via.refl e1 F_kind_a0 E_a0 (Or.inr ⟨(hw _ (List.mem_of_getElem? (i := 18) rfl)), rfl, hnm⟩) (hw _ (List.mem_of_getElem? (i := 9) rfl)) (ty := (.object "com/example/purposeward/purposeward/Lexeme$Kind")) (by decide) rfl rfl (g := (mkF m 6 #[.val (.ref a0), .val (.ref a1), .val (.int p2), .val (.int p3)] [(.ref a1), (.ref a0)])) rfl rfl (hb hby d2_6)
  have O2 := O0.wr W2 g_a0
  have F_begin_a0_2 := Fld.other W2 F_begin_a0 (Or.inr (slot_ne (Or.inr (hw _ (List.mem_of_getElem? (i := 20) rfl))) (Or.inr (hw _ (List.mem_of_getElem? (i := 18) rfl))) (by decide) (t := .int) (t' := (.object "com/example/purposeward/purposeward/Lexeme$Kind")) (by decide) (by decide)))
  have F_end_a0_2 := Fld.other W2 F_end_a0 (Or.inr (slot_ne (Or.inr (hw _ (List.mem_of_getElem? (i := 22) rfl))) (Or.inr (hw _ (List.mem_of_getElem? (i := 18) rfl))) (by decide) (t := .int) (t' := (.object "com/example/purposeward/purposeward/Lexeme$Kind")) (by decide) (by decide)))
  have E_a0_2 := E_a0.wr W2
  have F_kind_a0_2 := Fld.same W2 F_kind_a0
  have Z2 := Nat.le_trans Z0 (Keep.of_wr W2).1
  have K2 := K0.wr W2 (Or.inl (List.mem_of_getElem? (i := 0) rfl))
  have N2 := Fr.snoc X2 N0 g_a0
  refine go (B := T2.setTop (mkF m 9 #[.val (.ref a0), .val (.ref a1), .val (.int p2), .val (.int p3)] [])) st2 ?_
  refine go (B := T2.setTop (mkF m 10 #[.val (.ref a0), .val (.ref a1), .val (.int p2), .val (.int p3)] [(.ref a0)])) (fun _ k => XS.aloadN X2.here hx rfl (hb hby d2_9) rfl rfl k) ?_
  refine go (B := T2.setTop (mkF m 11 #[.val (.ref a0), .val (.ref a1), .val (.int p2), .val (.int p3)] [(.int p2), (.ref a0)])) (fun _ k => XS.iloadN X2.here hx rfl (hb hby d2_10) rfl k) ?_
  obtain ⟨T3, h3, X3, e3, W3, st3⟩ := putF X2 hx hZ hown (host := "") (Or.inl (hw _ (List.mem_of_getElem? (i := 19) rfl))) Via.refl e2 F_begin_a0_2 E_a0_2 (Or.inr ⟨(hw _ (List.mem_of_getElem? (i := 20) rfl)), rfl, hnm⟩) (hw _ (List.mem_of_getElem? (i := 9) rfl)) (ty := .int) (by decide) rfl rfl (g := (mkF m 11 #[.val (.ref a0), .val (.ref a1), .val (.int p2), .val (.int p3)] [(.int p2), (.ref a0)])) rfl rfl (hb hby d2_11)
  have O3 := O2.wr W3 g_a0
  have F_end_a0_3 := Fld.other W3 F_end_a0_2 (Or.inr (slot_ne (Or.inr (hw _ (List.mem_of_getElem? (i := 22) rfl))) (Or.inr (hw _ (List.mem_of_getElem? (i := 20) rfl))) (by decide) (t := .int) (t' := .int) (by decide) (by decide)))
  have E_a0_3 := E_a0_2.wr W3
  have F_kind_a0_3 := Fld.other W3 F_kind_a0_2 (Or.inr (slot_ne (Or.inr (hw _ (List.mem_of_getElem? (i := 18) rfl))) (Or.inr (hw _ (List.mem_of_getElem? (i := 20) rfl))) (by decide) (t := (.object "com/example/purposeward/purposeward/Lexeme$Kind")) (t' := .int) (by decide) (by decide)))
  have F_begin_a0_3 := Fld.same W3 F_begin_a0_2
  have Z3 := Nat.le_trans Z2 (Keep.of_wr W3).1
  have K3 := K2.wr W3 (Or.inl (List.mem_of_getElem? (i := 0) rfl))
  have N3 := Fr.snoc X3 N2 g_a0
  refine go (B := T3.setTop (mkF m 14 #[.val (.ref a0), .val (.ref a1), .val (.int p2), .val (.int p3)] [])) st3 ?_
  refine go (B := T3.setTop (mkF m 15 #[.val (.ref a0), .val (.ref a1), .val (.int p2), .val (.int p3)] [(.ref a0)])) (fun _ k => XS.aloadN X3.here hx rfl (hb hby d2_14) rfl rfl k) ?_
  refine go (B := T3.setTop (mkF m 16 #[.val (.ref a0), .val (.ref a1), .val (.int p2), .val (.int p3)] [(.int p3), (.ref a0)])) (fun _ k => XS.iloadN X3.here hx rfl (hb hby d2_15) rfl k) ?_
  obtain ⟨T4, h4, X4, e4, W4, st4⟩ := putF X3 hx hZ hown (host := "") (Or.inl (hw _ (List.mem_of_getElem? (i := 21) rfl))) Via.refl e3 F_end_a0_3 E_a0_3 (Or.inr ⟨(hw _ (List.mem_of_getElem? (i := 22) rfl)), rfl, hnm⟩) (hw _ (List.mem_of_getElem? (i := 9) rfl)) (ty := .int) (by decide) rfl rfl (g := (mkF m 16 #[.val (.ref a0), .val (.ref a1), .val (.int p2), .val (.int p3)] [(.int p3), (.ref a0)])) rfl rfl (hb hby d2_16)
  have O4 := O3.wr W4 g_a0
  have E_a0_4 := E_a0_3.wr W4
  have F_kind_a0_4 := Fld.other W4 F_kind_a0_3 (Or.inr (slot_ne (Or.inr (hw _ (List.mem_of_getElem? (i := 18) rfl))) (Or.inr (hw _ (List.mem_of_getElem? (i := 22) rfl))) (by decide) (t := (.object "com/example/purposeward/purposeward/Lexeme$Kind")) (t' := .int) (by decide) (by decide)))
  have F_begin_a0_4 := Fld.other W4 F_begin_a0_3 (Or.inr (slot_ne (Or.inr (hw _ (List.mem_of_getElem? (i := 20) rfl))) (Or.inr (hw _ (List.mem_of_getElem? (i := 22) rfl))) (by decide) (t := .int) (t' := .int) (by decide) (by decide)))
  have F_end_a0_4 := Fld.same W4 F_end_a0_3
  have Z4 := Nat.le_trans Z3 (Keep.of_wr W4).1
  have K4 := K3.wr W4 (Or.inl (List.mem_of_getElem? (i := 0) rfl))
  have N4 := Fr.snoc X4 N3 g_a0
  refine go (B := T4.setTop (mkF m 19 #[.val (.ref a0), .val (.ref a1), .val (.int p2), .val (.int p3)] [])) st4 ?_
  exact end_void X4 hx Bd.notSynchronized Bd.returns (hb hby d2_19) hF e4 (by decide) (by decide) ⟨rfl, N4, K4, E_a0_4, F_kind_a0_4, F_begin_a0_4, F_end_a0_4⟩
theorem d7_0 : decode jdk_18_method_1_code 0 = .ok (.aload_n 0, 1) := by decide +kernel
theorem d7_1 : decode jdk_18_method_1_code 1 = .ok (.invokespecial 1, 3) := by decide +kernel
theorem d7_4 : decode jdk_18_method_1_code 4 = .ok (.return_, 1) := by decide +kernel
theorem pn_7 : plainName "java/lang/Number" = true := by first | (simp [plainName, overriddenIn]; done) | decide +kernel
theorem ef_7 (m : MethodId) (a0 : Addr) : entryFrame m #[(.ref a0)] 1 = mkF m 0 #[.val (.ref a0)] [] := by first | (simp [entryFrame, mkF, argsToLocals, Value.category]; done) | rfl
abbrev room7 : Room := { frames := 1, cells := 0, slots := 0, locals := 12 }
def Q7 (Z : State) (a0 : Addr) (h0 : Heap) (n0 : Nat) (v : Option Value) (h : Heap) (L : List Loc) : Prop := v = none ∧ L = [] ∧ h = h0
set_option maxRecDepth 65536 in
set_option maxHeartbeats 40000000 in
theorem rm7 (l : Launch) (Z : State) (aw : Array Value) (hw : ∀ d ∈ tables_1, d.before aw Z = true) (ws : List Jvm.Cond) (a0 : Addr) (h0 : Heap) (n0 : Nat) (Z0 : n0 ≤ h0.size) (O0 : Old Z n0 h0) :
    MetFree l (⟨"java/lang/Number", "<init>", "()V"⟩ : MethodName) (head1 (Jvm.Cond.code (⟨"java/lang/Number", "<init>", "()V"⟩ : MethodName) jdk_18_method_1_code 1 none :: ws) room7) (fun a U => a = #[(.ref a0)] ∧ Z.Warmed39 U.vm ∧ U.heap = h0) (fun _ _ _ _ _ => True) (fun _ U o U' => ∃ v L, o = .returned v ∧ Q7 Z a0 h0 n0 v U'.heap L ∧ FrameEnd U o U' L room7.cells room7.slots) := by
  refine MetFree.of_bodySF (plainFor_of_name pn_7) hisR ?_
  intro p e s m args below meth c s₁ Bd hml0 hP hK
  obtain ⟨rfl, hZ, hh⟩ := hP
  have hx := Bd.exec
  have hby := Bd.bytes
  have hml : c.maxLocals = 1 := hml0
  have hown : s.vm.findClass "java/lang/Number" = some m.cls := findClass_of_methodNamed Bd.named
  have hnm := (name_of_methodNamed Bd.named Bd.method).1
  have X0 : Stand p l e room7 s m #[(.ref a0)] below meth c s₁ [] 0 0 := Stand.of_body Bd
  have e0 : s₁.heap = h0 := by rw [← hh, Bd.state]; rfl
  have N0 := Fr.nil n0
  rw [ef_7 m a0]
  refine go_in (s₁ := s₁) (Q := Q7 Z a0 h0 n0) fun F hF => ?_
  refine go (B := s₁.setTop (mkF m 1 #[.val (.ref a0)] [(.ref a0)])) (fun _ k => XS.aloadN X0.here hx rfl (hb hby d7_0) rfl rfl k) ?_
  obtain ⟨T1, X1, e1, st1⟩ := initO X0 hx hZ hown (hw _ (List.mem_of_getElem? (i := 53) rfl)) (hw _ (List.mem_of_getElem? (i := 15) rfl)) (hw _ (List.mem_of_getElem? (i := 16) rfl)) e0 (g := (mkF m 1 #[.val (.ref a0)] [(.ref a0)])) rfl (by rw [hml]; rfl) rfl (hb hby d7_1) (by decide) (W := 0) (by show 2 * 0 + _ ≤ _; exact Nat.le_of_eq rfl) (by decide)
  refine go (B := T1.setTop (mkF m 4 #[.val (.ref a0)] [])) st1 ?_
  exact end_void X1 hx Bd.notSynchronized Bd.returns (hb hby d7_4) hF e1 (by decide) (by decide) ⟨rfl, rfl, rfl⟩
theorem pd_0 : parseMethodDescriptor "()V" = some ⟨[], none⟩ := by decide +kernel
theorem d6_0 : decode jdk_33_method_23_code 0 = .ok (.aload_n 0, 1) := by decide +kernel
theorem d6_1 : decode jdk_33_method_23_code 1 = .ok (.invokespecial 202, 3) := by decide +kernel
theorem d6_4 : decode jdk_33_method_23_code 4 = .ok (.aload_n 0, 1) := by decide +kernel
theorem d6_5 : decode jdk_33_method_23_code 5 = .ok (.iload_n 1, 1) := by decide +kernel
theorem d6_6 : decode jdk_33_method_23_code 6 = .ok (.putfield 205, 3) := by decide +kernel
theorem d6_9 : decode jdk_33_method_23_code 9 = .ok (.return_, 1) := by decide +kernel
theorem pn_6 : plainName "java/lang/Integer" = true := by first | (simp [plainName, overriddenIn]; done) | decide +kernel
theorem ef_6 (m : MethodId) (a0 : Addr) (p1 : Int32) : entryFrame m #[(.ref a0), (.int p1)] 2 = mkF m 0 #[.val (.ref a0), .val (.int p1)] [] := by first | (simp [entryFrame, mkF, argsToLocals, Value.category]; done) | rfl
abbrev room6 : Room := { frames := 2, cells := 0, slots := 0, locals := 24 }
def Q6 (Z : State) (a0 : Addr) (p1 : Int32) (h0 : Heap) (n0 : Nat) (v : Option Value) (h : Heap) (L : List Loc) : Prop := v = none ∧ Fr n0 L ∧ Keep h0 h [a0] ∧ Exa Z h a0 "java/lang/Integer" ∧ Fld Z h a0 "java/lang/Integer" "value" "I" (.int p1)
set_option maxRecDepth 65536 in
set_option maxHeartbeats 40000000 in
theorem rm6 (l : Launch) (Z : State) (aw : Array Value) (hw : ∀ d ∈ tables_1, d.before aw Z = true) (ws : List Jvm.Cond) (a0 : Addr) (p1 : Int32) (h0 : Heap) (n0 : Nat) (Z0 : n0 ≤ h0.size) (O0 : Old Z n0 h0) (F_value_a0 : Fld Z h0 a0 "java/lang/Integer" "value" "I" (.int (0 : Int32))) (E_a0 : Exa Z h0 a0 "java/lang/Integer") (g_a0 : n0 ≤ a0) :
    MetFree l (⟨"java/lang/Integer", "<init>", "(I)V"⟩ : MethodName) (head1 (Jvm.Cond.code (⟨"java/lang/Integer", "<init>", "(I)V"⟩ : MethodName) jdk_33_method_23_code 2 none :: ws) room6) (fun a U => a = #[(.ref a0), (.int p1)] ∧ Z.Warmed39 U.vm ∧ U.heap = h0) (fun _ _ _ _ _ => True) (fun _ U o U' => ∃ v L, o = .returned v ∧ Q6 Z a0 p1 h0 n0 v U'.heap L ∧ FrameEnd U o U' L room6.cells room6.slots) := by
  refine MetFree.of_bodySF (plainFor_of_name pn_6) hisR ?_
  intro p e s m args below meth c s₁ Bd hml0 hP hK
  obtain ⟨rfl, hZ, hh⟩ := hP
  have hx := Bd.exec
  have hby := Bd.bytes
  have hml : c.maxLocals = 2 := hml0
  have hown : s.vm.findClass "java/lang/Integer" = some m.cls := findClass_of_methodNamed Bd.named
  have hnm := (name_of_methodNamed Bd.named Bd.method).1
  have X0 : Stand p l e room6 s m #[(.ref a0), (.int p1)] below meth c s₁ [] 0 0 := Stand.of_body Bd
  have e0 : s₁.heap = h0 := by rw [← hh, Bd.state]; rfl
  have N0 := Fr.nil n0
  have K0 := Keep.refl h0 [a0]
  rw [ef_6 m a0 p1]
  refine go_in (s₁ := s₁) (Q := Q6 Z a0 p1 h0 n0) fun F hF => ?_
  refine go (B := s₁.setTop (mkF m 1 #[.val (.ref a0), .val (.int p1)] [(.ref a0)])) (fun _ k => XS.aloadN X0.here hx rfl (hb hby d6_0) rfl rfl k) ?_
  obtain ⟨_, _, ⟨T1, L1, k1, n1⟩, -, X1, ⟨Lc1, hQ1, l1, y1, z1⟩, st1⟩ := X0.specialBack hx (y := (⟨"java/lang/Number", "<init>", "()V"⟩ : MethodName)) rfl hown (mvT hZ (hw _ (List.mem_of_getElem? (i := 47) rfl))) (mvT hZ (hw _ (List.mem_of_getElem? (i := 48) rfl))) (mvT hZ (hw _ (List.mem_of_getElem? (i := 52) rfl))) (by decide) (backOf (W := 0) (rm7 l Z aw hw [] a0 h0 n0 Z0 O0) hZ (hw _ (List.mem_of_getElem? (i := 52) rfl)) (hw _ (List.mem_of_getElem? (i := 51) rfl)) (by decide) (by decide)) (g := (mkF m 1 #[.val (.ref a0), .val (.int p1)] [(.ref a0)])) rfl (by rw [hml]; rfl) (Steps.refl _) (a := a0) (argsL := []) (rest := []) (lenOf pd_0 rfl) rfl (by show 2 * 0 + _ ≤ _; exact Nat.le_of_eq rfl) (hb hby d6_1) (fun _ _ => ⟨rfl, e0, (by decide : 0 + 0 ≤ _), (by decide : 0 + 0 ≤ _)⟩)
  dsimp only [Pt.U, Pt.locs, Pt.cells, Pt.slots] at X1 l1 y1 z1 st1 hQ1
  subst l1 y1 z1
  obtain ⟨rfl, rfl, e1⟩ := hQ1
  have N1 := Fr.app N0 (Fr.nil n0)
  refine go (B := T1.setTop (mkF m 4 #[.val (.ref a0), .val (.int p1)] [])) (fun _ k => st1.trans k) ?_
  refine go (B := T1.setTop (mkF m 5 #[.val (.ref a0), .val (.int p1)] [(.ref a0)])) (fun _ k => XS.aloadN X1.here hx rfl (hb hby d6_4) rfl rfl k) ?_
  refine go (B := T1.setTop (mkF m 6 #[.val (.ref a0), .val (.int p1)] [(.int p1), (.ref a0)])) (fun _ k => XS.iloadN X1.here hx rfl (hb hby d6_5) rfl k) ?_
  obtain ⟨T2, h2, X2, e2, W2, st2⟩ := putF X1 hx hZ hown (host := "") (Or.inl (hw _ (List.mem_of_getElem? (i := 54) rfl))) Via.refl e1 F_value_a0 E_a0 (Or.inr ⟨(hw _ (List.mem_of_getElem? (i := 55) rfl)), rfl, hnm⟩) (hw _ (List.mem_of_getElem? (i := 42) rfl)) (ty := .int) (by decide) rfl rfl (g := (mkF m 6 #[.val (.ref a0), .val (.int p1)] [(.int p1), (.ref a0)])) rfl rfl (hb hby d6_6)
  have O2 := O0.wr W2 g_a0
  have E_a0_2 := E_a0.wr W2
  have F_value_a0_2 := Fld.same W2 F_value_a0
  have Z2 := Nat.le_trans Z0 (Keep.of_wr W2).1
  have K2 := K0.wr W2 (Or.inl (List.mem_of_getElem? (i := 0) rfl))
  have N2 := Fr.snoc X2 N1 g_a0
  refine go (B := T2.setTop (mkF m 9 #[.val (.ref a0), .val (.int p1)] [])) st2 ?_
  exact end_void X2 hx Bd.notSynchronized Bd.returns (hb hby d6_9) hF e2 (by decide) (by decide) ⟨rfl, N2, K2, E_a0_2, F_value_a0_2⟩
def own_Bx (Z : State) (a : Addr) (c : Cell) : Prop := Arr Z Z.heap a c (.object "java/lang/Integer") ∧ c.slots.size = 256 ∧ ∀ j : Int32, ¬ (j < 0 ∨ c.slots.size ≤ j.toNatClampNeg) → ∃ b : Addr, c.slots[j.toNatClampNeg]? = some (.ref b) ∧ Exa Z Z.heap b "java/lang/Integer"
theorem own_idx {p : Int32} (h1 : ¬ p < (-128 : Int32)) (h2 : ¬ (127 : Int32) < p) : ¬ ((p + (128 : Int32)) < 0 ∨ 256 ≤ (p + (128 : Int32)).toNatClampNeg) := by
  rw [Int32.lt_iff_toInt_lt] at *
  have e : (p + (128 : Int32)).toInt = p.toInt + 128 := by
    rw [Int32.toInt_add]
    have a1 : (-128 : Int32).toInt = -128 := rfl
    have a2 : (127 : Int32).toInt = 127 := rfl
    have a3 : (128 : Int32).toInt = 128 := rfl
    rw [a1] at h1; rw [a2] at h2; rw [a3]
    exact Int.bmod_eq_of_le (by omega) (by omega)
  have a1 : (-128 : Int32).toInt = -128 := rfl
  have a2 : (127 : Int32).toInt = 127 := rfl
  have a0 : (0 : Int32).toInt = 0 := rfl
  rw [a1] at h1; rw [a2] at h2
  simp only [Int32.toNatClampNeg, e, a0]
  omega
theorem pd_1 : parseMethodDescriptor "(I)V" = some ⟨[.int], none⟩ := by decide +kernel
theorem d4_0 : decode jdk_33_method_22_code 0 = .ok (.iload_n 0, 1) := by decide +kernel
theorem d4_1 : decode jdk_33_method_22_code 1 = .ok (.bipush (-128), 2) := by decide +kernel
theorem d4_3 : decode jdk_33_method_22_code 3 = .ok (.if_icmp .lt 20, 3) := by decide +kernel
theorem d4_6 : decode jdk_33_method_22_code 6 = .ok (.iload_n 0, 1) := by decide +kernel
theorem d4_7 : decode jdk_33_method_22_code 7 = .ok (.getstatic 191, 3) := by decide +kernel
theorem d4_10 : decode jdk_33_method_22_code 10 = .ok (.if_icmp .gt 13, 3) := by decide +kernel
theorem d4_13 : decode jdk_33_method_22_code 13 = .ok (.getstatic 195, 3) := by decide +kernel
theorem d4_16 : decode jdk_33_method_22_code 16 = .ok (.iload_n 0, 1) := by decide +kernel
theorem d4_17 : decode jdk_33_method_22_code 17 = .ok (.sipush 128, 3) := by decide +kernel
theorem d4_20 : decode jdk_33_method_22_code 20 = .ok (.iadd, 1) := by decide +kernel
theorem d4_21 : decode jdk_33_method_22_code 21 = .ok (.aaload, 1) := by decide +kernel
theorem d4_22 : decode jdk_33_method_22_code 22 = .ok (.areturn, 1) := by decide +kernel
theorem d4_23 : decode jdk_33_method_22_code 23 = .ok (.new 1, 3) := by decide +kernel
theorem d4_26 : decode jdk_33_method_22_code 26 = .ok (.dup, 1) := by decide +kernel
theorem d4_27 : decode jdk_33_method_22_code 27 = .ok (.iload_n 0, 1) := by decide +kernel
theorem d4_28 : decode jdk_33_method_22_code 28 = .ok (.invokespecial 199, 3) := by decide +kernel
theorem d4_31 : decode jdk_33_method_22_code 31 = .ok (.areturn, 1) := by decide +kernel
theorem ef_4 (m : MethodId) (p0 : Int32) : entryFrame m #[(.int p0)] 1 = mkF m 0 #[.val (.int p0)] [] := by first | (simp [entryFrame, mkF, argsToLocals, Value.category]; done) | rfl
abbrev room4 : Room := { frames := 3, cells := 1, slots := 1, locals := 38 }
def Q4 (Z : State) (p0 : Int32) (w_cache : Addr) (cl_w_cache : Cell) (h0 : Heap) (n0 : Nat) (v : Option Value) (h : Heap) (L : List Loc) : Prop := ∃ r : Addr, v = some (.ref r) ∧ Fr n0 L ∧ Keep h0 h [] ∧ Exa Z h r "java/lang/Integer"
set_option maxRecDepth 65536 in
set_option maxHeartbeats 40000000 in
theorem rm4 (l : Launch) (Z : State) (aw : Array Value) (hw : ∀ d ∈ tables_1, d.before aw Z = true) (ws : List Jvm.Cond) (p0 : Int32) (w_cache : Addr) (cl_w_cache : Cell) (h0 : Heap) (n0 : Nat) (Z0 : n0 ≤ h0.size) (O0 : Old Z n0 h0) (S_high : Sta Z Z.heap "java/lang/Integer$IntegerCache" "high" "I" (.int (127 : Int32))) (S_cache : Sta Z Z.heap "java/lang/Integer$IntegerCache" "cache" "[Ljava/lang/Integer;" (.ref w_cache)) (B_w_cache : own_Bx Z w_cache cl_w_cache) :
    MetFree l (⟨"java/lang/Integer", "valueOf", "(I)Ljava/lang/Integer;"⟩ : MethodName) (head1 (Jvm.Cond.code (⟨"java/lang/Integer", "valueOf", "(I)Ljava/lang/Integer;"⟩ : MethodName) jdk_33_method_22_code 1 (some (.object "java/lang/Integer")) :: ws) room4) (fun a U => a = #[(.int p0)] ∧ Z.Warmed39 U.vm ∧ U.heap = h0) (fun _ _ _ _ _ => True) (fun _ U o U' => ∃ v L, o = .returned v ∧ Q4 Z p0 w_cache cl_w_cache h0 n0 v U'.heap L ∧ FrameEnd U o U' L room4.cells room4.slots) := by
  refine MetFree.of_bodySF (plainFor_of_name pn_6) hisR ?_
  intro p e s m args below meth c s₁ Bd hml0 hP hK
  obtain ⟨rfl, hZ, hh⟩ := hP
  have hx := Bd.exec
  have hby := Bd.bytes
  have hml : c.maxLocals = 1 := hml0
  have hown : s.vm.findClass "java/lang/Integer" = some m.cls := findClass_of_methodNamed Bd.named
  have hnm := (name_of_methodNamed Bd.named Bd.method).1
  have X0 : Stand p l e room4 s m #[(.int p0)] below meth c s₁ [] 0 0 := Stand.of_body Bd
  have e0 : s₁.heap = h0 := by rw [← hh, Bd.state]; rfl
  have N0 := Fr.nil n0
  have K0 := Keep.refl h0 []
  rw [ef_4 m p0]
  refine go_in (s₁ := s₁) (Q := Q4 Z p0 w_cache cl_w_cache h0 n0) fun F hF => ?_
  refine go (B := s₁.setTop (mkF m 1 #[.val (.int p0)] [(.int p0)])) (fun _ k => XS.iloadN X0.here hx rfl (hb hby d4_0) rfl k) ?_
  refine go (B := s₁.setTop (mkF m 3 #[.val (.int p0)] [(.int (-128 : Int32)), (.int p0)])) (fun _ k => XS.bipush X0.here hx rfl (hb hby d4_1) k) ?_
  by_cases hc1 : p0 < (-128 : Int32)
  · refine go (B := s₁.setTop (mkF m 23 #[.val (.int p0)] [])) (fun _ k => XS.icmpYes X0.here hx rfl (pc0 := 3) (pc' := 23) rfl (hb hby d4_3) rfl (tlt hc1).1 (by decide) (by decide) k) ?_
    obtain ⟨T2, h2, X2, e2, E2, A2, D2, -, st2⟩ := newO X0 hx hZ hown (hw _ (List.mem_of_getElem? (i := 41) rfl)) (hw _ (List.mem_of_getElem? (i := 42) rfl)) (hw _ (List.mem_of_getElem? (i := 25) rfl)) e0 (g := (mkF m 23 #[.val (.int p0)] [])) rfl (hb hby d4_23) (by decide) (by decide)
    obtain ⟨b2, g2⟩ : ∃ z, z = h0.size := ⟨_, rfl⟩
    rw [← g2] at A2 D2 st2
    have g_b2 : n0 ≤ b2 := Nat.le_trans Z0 (Nat.le_of_eq g2.symm)
    have sz_b2 : h0.size ≤ b2 := Nat.le_trans K0.1 (Nat.le_of_eq g2.symm)
    have O2 := O0.ext E2
    have Z2 := Nat.le_trans Z0 E2.1
    have K2 := K0.ext E2
    have F_value_b2 : Fld Z h2 b2 "java/lang/Integer" "value" "I" (.int (0 : Int32)) := D2 (Or.inr (hw _ (List.mem_of_getElem? (i := 55) rfl))) (ty := .int) (by decide)
    have E_b2 := A2
    refine go (B := T2.setTop (mkF m 26 #[.val (.int p0)] [(.ref b2)])) st2 ?_
    refine go (B := T2.setTop (mkF m 27 #[.val (.int p0)] [(.ref b2), (.ref b2)])) (fun _ k => XS.dup X2.here hx rfl (hb hby d4_26) rfl rfl k) ?_
    refine go (B := T2.setTop (mkF m 28 #[.val (.int p0)] [(.int p0), (.ref b2), (.ref b2)])) (fun _ k => XS.iloadN X2.here hx rfl (hb hby d4_27) rfl k) ?_
    obtain ⟨_, _, ⟨T3, L3, k3, n3⟩, -, X3, ⟨Lc3, hQ3, l3, y3, z3⟩, st3⟩ := X2.specialBack hx (y := (⟨"java/lang/Integer", "<init>", "(I)V"⟩ : MethodName)) rfl hown (mvT hZ (hw _ (List.mem_of_getElem? (i := 43) rfl))) (mvT hZ (hw _ (List.mem_of_getElem? (i := 44) rfl))) (mvT hZ (hw _ (List.mem_of_getElem? (i := 46) rfl))) (by decide) (backOf (W := 1) (rm6 l Z aw hw [] b2 p0 h2 n0 Z2 O2 F_value_b2 E_b2 g_b2) hZ (hw _ (List.mem_of_getElem? (i := 46) rfl)) (hw _ (List.mem_of_getElem? (i := 25) rfl)) (by decide) (by decide)) (g := (mkF m 28 #[.val (.int p0)] [(.int p0), (.ref b2), (.ref b2)])) rfl (by rw [hml]; rfl) (Steps.refl _) (a := b2) (argsL := [(.int p0)]) (rest := [(.ref b2)]) (lenOf pd_1 rfl) rfl (by show 2 * 0 + _ ≤ _; exact Nat.le_of_eq rfl) (hb hby d4_28) (fun _ _ => ⟨rfl, e2, (by decide : 1 + 0 ≤ _), (by decide : 1 + 0 ≤ _)⟩)
    dsimp only [Pt.U, Pt.locs, Pt.cells, Pt.slots] at X3 l3 y3 z3 st3 hQ3
    subst l3 y3 z3
    obtain ⟨rfl, N3q, Kc3, o3_0, o3_1⟩ := hQ3
    have O3 := O2.keep Kc3 (allS g_b2 all0)
    have E_b2_3 := E_b2.keep Kc3
    have N3 := Fr.app N0 N3q
    have Z3 := Nat.le_trans Z2 Kc3.1
    have K3 := K2.trans Kc3 (allS (Or.inr sz_b2) all0)
    refine go (B := T3.setTop (mkF m 31 #[.val (.int p0)] [(.ref b2)])) (fun _ k => st3.trans k) ?_
    exact end_ref X3 hx Bd.notSynchronized Bd.returns rfl rfl rfl (hb hby d4_31) hF rfl (by decide) (by decide) ⟨b2, rfl, N3, K3, o3_0⟩
  · refine go (B := s₁.setTop (mkF m 6 #[.val (.int p0)] [])) (fun _ k => XS.icmpNo X0.here hx rfl (hb hby d4_3) rfl (flt hc1).1 k) ?_
    refine go (B := s₁.setTop (mkF m 7 #[.val (.int p0)] [(.int p0)])) (fun _ k => XS.iloadN X0.here hx rfl (hb hby d4_6) rfl k) ?_
    obtain ⟨T4, X4, e4, st4⟩ := getS2 X0 hx hZ hown (host := "") (Or.inl (hw _ (List.mem_of_getElem? (i := 27) rfl))) Via.refl e0 (S_high.ext O0.2) (g := (mkF m 7 #[.val (.int p0)] [(.int p0)])) rfl (hb hby d4_7)
    refine go (B := T4.setTop (mkF m 10 #[.val (.int p0)] [(.int (127 : Int32)), (.int p0)])) st4 ?_
    by_cases hc5 : (127 : Int32) < p0
    · refine go (B := T4.setTop (mkF m 23 #[.val (.int p0)] [])) (fun _ k => XS.icmpYes X4.here hx rfl (pc0 := 10) (pc' := 23) rfl (hb hby d4_10) rfl (tlt hc5).2.2.1 (by decide) (by decide) k) ?_
      obtain ⟨T6, h6, X6, e6, E6, A6, D6, -, st6⟩ := newO X4 hx hZ hown (hw _ (List.mem_of_getElem? (i := 41) rfl)) (hw _ (List.mem_of_getElem? (i := 42) rfl)) (hw _ (List.mem_of_getElem? (i := 25) rfl)) e4 (g := (mkF m 23 #[.val (.int p0)] [])) rfl (hb hby d4_23) (by decide) (by decide)
      obtain ⟨b6, g6⟩ : ∃ z, z = h0.size := ⟨_, rfl⟩
      rw [← g6] at A6 D6 st6
      have g_b6 : n0 ≤ b6 := Nat.le_trans Z0 (Nat.le_of_eq g6.symm)
      have sz_b6 : h0.size ≤ b6 := Nat.le_trans K0.1 (Nat.le_of_eq g6.symm)
      have O6 := O0.ext E6
      have Z6 := Nat.le_trans Z0 E6.1
      have K6 := K0.ext E6
      have F_value_b6 : Fld Z h6 b6 "java/lang/Integer" "value" "I" (.int (0 : Int32)) := D6 (Or.inr (hw _ (List.mem_of_getElem? (i := 55) rfl))) (ty := .int) (by decide)
      have E_b6 := A6
      refine go (B := T6.setTop (mkF m 26 #[.val (.int p0)] [(.ref b6)])) st6 ?_
      refine go (B := T6.setTop (mkF m 27 #[.val (.int p0)] [(.ref b6), (.ref b6)])) (fun _ k => XS.dup X6.here hx rfl (hb hby d4_26) rfl rfl k) ?_
      refine go (B := T6.setTop (mkF m 28 #[.val (.int p0)] [(.int p0), (.ref b6), (.ref b6)])) (fun _ k => XS.iloadN X6.here hx rfl (hb hby d4_27) rfl k) ?_
      obtain ⟨_, _, ⟨T7, L7, k7, n7⟩, -, X7, ⟨Lc7, hQ7, l7, y7, z7⟩, st7⟩ := X6.specialBack hx (y := (⟨"java/lang/Integer", "<init>", "(I)V"⟩ : MethodName)) rfl hown (mvT hZ (hw _ (List.mem_of_getElem? (i := 43) rfl))) (mvT hZ (hw _ (List.mem_of_getElem? (i := 44) rfl))) (mvT hZ (hw _ (List.mem_of_getElem? (i := 46) rfl))) (by decide) (backOf (W := 1) (rm6 l Z aw hw [] b6 p0 h6 n0 Z6 O6 F_value_b6 E_b6 g_b6) hZ (hw _ (List.mem_of_getElem? (i := 46) rfl)) (hw _ (List.mem_of_getElem? (i := 25) rfl)) (by decide) (by decide)) (g := (mkF m 28 #[.val (.int p0)] [(.int p0), (.ref b6), (.ref b6)])) rfl (by rw [hml]; rfl) (Steps.refl _) (a := b6) (argsL := [(.int p0)]) (rest := [(.ref b6)]) (lenOf pd_1 rfl) rfl (by show 2 * 0 + _ ≤ _; exact Nat.le_of_eq rfl) (hb hby d4_28) (fun _ _ => ⟨rfl, e6, (by decide : 1 + 0 ≤ _), (by decide : 1 + 0 ≤ _)⟩)
      dsimp only [Pt.U, Pt.locs, Pt.cells, Pt.slots] at X7 l7 y7 z7 st7 hQ7
      subst l7 y7 z7
      obtain ⟨rfl, N7q, Kc7, o7_0, o7_1⟩ := hQ7
      have O7 := O6.keep Kc7 (allS g_b6 all0)
      have E_b6_7 := E_b6.keep Kc7
      have N7 := Fr.app N0 N7q
      have Z7 := Nat.le_trans Z6 Kc7.1
      have K7 := K6.trans Kc7 (allS (Or.inr sz_b6) all0)
      refine go (B := T7.setTop (mkF m 31 #[.val (.int p0)] [(.ref b6)])) (fun _ k => st7.trans k) ?_
      exact end_ref X7 hx Bd.notSynchronized Bd.returns rfl rfl rfl (hb hby d4_31) hF rfl (by decide) (by decide) ⟨b6, rfl, N7, K7, o7_0⟩
    · refine go (B := T4.setTop (mkF m 13 #[.val (.int p0)] [])) (fun _ k => XS.icmpNo X4.here hx rfl (hb hby d4_10) rfl (flt hc5).2.2.1 k) ?_
      obtain ⟨T8, X8, e8, st8⟩ := getS2 X4 hx hZ hown (host := "") (Or.inl (hw _ (List.mem_of_getElem? (i := 29) rfl))) Via.refl e4 (S_cache.ext O0.2) (g := (mkF m 13 #[.val (.int p0)] [])) rfl (hb hby d4_13)
      refine go (B := T8.setTop (mkF m 16 #[.val (.int p0)] [(.ref w_cache)])) st8 ?_
      refine go (B := T8.setTop (mkF m 17 #[.val (.int p0)] [(.int p0), (.ref w_cache)])) (fun _ k => XS.iloadN X8.here hx rfl (hb hby d4_16) rfl k) ?_
      refine go (B := T8.setTop (mkF m 20 #[.val (.int p0)] [(.int (128 : Int32)), (.int p0), (.ref w_cache)])) (fun _ k => XS.sipush X8.here hx rfl (hb hby d4_17) k) ?_
      refine go (B := T8.setTop (mkF m 21 #[.val (.int p0)] [(.int (p0 + (128 : Int32))), (.ref w_cache)])) (fun _ k => XS.iadd X8.here hx rfl (hb hby d4_20) rfl k) ?_
      obtain ⟨Ac9, sz9, el9⟩ := B_w_cache
      have Ae9 := Ac9.ext O0.2
      have hin9 : ¬ ((p0 + (128 : Int32)) < 0 ∨ cl_w_cache.slots.size ≤ ((p0 + (128 : Int32))).toNatClampNeg) := by rw [sz9]; exact own_idx hc1 hc5
      obtain ⟨rb9, hat9, Er9⟩ := el9 _ hin9
      have E_rb9 := Er9.ext O0.2
      refine go (B := T8.setTop (mkF m 22 #[.val (.int p0)] [(.ref rb9)])) (fun _ k => X8.aaload hx (j := (p0 + (128 : Int32))) (v := (.ref rb9)) (by rw [e8]; exact Ae9.1) (State.isArrayOf_alike hZ.alike Ae9.2.1) rfl Ae9.2.2 hin9 hat9 (g := (mkF m 21 #[.val (.int p0)] [(.int (p0 + (128 : Int32))), (.ref w_cache)])) rfl rfl (hb hby d4_21) _ k) ?_
      exact end_ref X8 hx Bd.notSynchronized Bd.returns rfl rfl rfl (hb hby d4_22) hF e8 (by decide) (by decide) ⟨rb9, rfl, N0, K0, E_rb9⟩
theorem d5_0 : decode prog_4_method_5_code 0 = .ok (.aload_n 1, 1) := by decide +kernel
theorem d5_1 : decode prog_4_method_5_code 1 = .ok (.instanceof 8, 3) := by decide +kernel
theorem d5_4 : decode prog_4_method_5_code 4 = .ok (.ifCond .ne 5, 3) := by decide +kernel
theorem d5_7 : decode prog_4_method_5_code 7 = .ok (.iconst 0, 1) := by decide +kernel
theorem d5_8 : decode prog_4_method_5_code 8 = .ok (.ireturn, 1) := by decide +kernel
theorem ef_5n (m : MethodId) (a0 : Addr) : entryFrame m #[(.ref a0), .null] 3 = mkF m 0 #[.val (.ref a0), .val .null, .unset] [] := by first | (simp [entryFrame, mkF, argsToLocals, Value.category]; done) | rfl
def f5n : Int32 := (0 : Int32)
abbrev room5n : Room := { frames := 0, cells := 0, slots := 0, locals := 0 }
def Q5n (Z : State) (a0 : Addr) (h0 : Heap) (n0 : Nat) (v : Option Value) (h : Heap) (L : List Loc) : Prop := v = some (.int f5n) ∧ L = [] ∧ h = h0
set_option maxRecDepth 65536 in
set_option maxHeartbeats 40000000 in
theorem rm5n (l : Launch) (Z : State) (aw : Array Value) (hw : ∀ d ∈ tables_1, d.before aw Z = true) (ws : List Jvm.Cond) (a0 : Addr) (h0 : Heap) (n0 : Nat) (Z0 : n0 ≤ h0.size) (O0 : Old Z n0 h0) :
    MetFree l (⟨"com/example/purposeward/purposeward/Lexeme", "equals", "(Ljava/lang/Object;)Z"⟩ : MethodName) (head1 (Jvm.Cond.code (⟨"com/example/purposeward/purposeward/Lexeme", "equals", "(Ljava/lang/Object;)Z"⟩ : MethodName) prog_4_method_5_code 3 (some .boolean) :: ws) room5n) (fun a U => a = #[(.ref a0), .null] ∧ Z.Warmed39 U.vm ∧ U.heap = h0) (fun _ _ _ _ _ => True) (fun _ U o U' => ∃ v L, o = .returned v ∧ Q5n Z a0 h0 n0 v U'.heap L ∧ FrameEnd U o U' L room5n.cells room5n.slots) := by
  refine MetFree.of_bodySF (plainFor_of_name pn_2) hisR ?_
  intro p e s m args below meth c s₁ Bd hml0 hP hK
  obtain ⟨rfl, hZ, hh⟩ := hP
  have hx := Bd.exec
  have hby := Bd.bytes
  have hml : c.maxLocals = 3 := hml0
  have hown : s.vm.findClass "com/example/purposeward/purposeward/Lexeme" = some m.cls := findClass_of_methodNamed Bd.named
  have hnm := (name_of_methodNamed Bd.named Bd.method).1
  have X0 : Stand p l e room5n s m #[(.ref a0), .null] below meth c s₁ [] 0 0 := Stand.of_body Bd
  have e0 : s₁.heap = h0 := by rw [← hh, Bd.state]; rfl
  have N0 := Fr.nil n0
  rw [ef_5n m a0]
  refine go_in (s₁ := s₁) (Q := Q5n Z a0 h0 n0) fun F hF => ?_
  refine go (B := s₁.setTop (mkF m 1 #[.val (.ref a0), .val .null, .unset] [.null])) (fun _ k => XS.aloadN X0.here hx rfl (hb hby d5_0) rfl rfl k) ?_
  refine go (B := s₁.setTop (mkF m 4 #[.val (.ref a0), .val .null, .unset] [(.int (0 : Int32))])) (fun _ k => X0.instanceofNull hx (g := (mkF m 1 #[.val (.ref a0), .val .null, .unset] [.null])) rfl rfl (hb hby d5_1) _ k) ?_
  refine go (B := s₁.setTop (mkF m 7 #[.val (.ref a0), .val .null, .unset] [])) (fun _ k => XS.ifNo X0.here hx rfl (hb hby d5_4) rfl ((if0 _ _).trans (teq (by decide : (0 : Int32) = (0 : Int32))).2) k) ?_
  refine go (B := s₁.setTop (mkF m 8 #[.val (.ref a0), .val .null, .unset] [(.int (0 : Int32))])) (fun _ k => XS.iconst X0.here hx rfl (hb hby d5_7) k) ?_
  have r2 : f5n = (0 : Int32) := by unfold f5n; rfl
  exact end_nar X0 hx Bd.notSynchronized (t := .boolean) Bd.returns (by simp) (hb hby d5_8) hF e0 (by decide) (by decide) ⟨(congrArg (fun z => some (Value.int z)) r2.symm), rfl, rfl⟩
theorem ef_5i (m : MethodId) (a0 : Addr) (a1 : Addr) : entryFrame m #[(.ref a0), (.ref a1)] 3 = mkF m 0 #[.val (.ref a0), .val (.ref a1), .unset] [] := by first | (simp [entryFrame, mkF, argsToLocals, Value.category]; done) | rfl
def f5i : Int32 := (0 : Int32)
abbrev room5i : Room := { frames := 0, cells := 0, slots := 0, locals := 0 }
def Q5i (Z : State) (a0 : Addr) (a1 : Addr) (h0 : Heap) (n0 : Nat) (v : Option Value) (h : Heap) (L : List Loc) : Prop := v = some (.int f5i) ∧ L = [] ∧ h = h0
set_option maxRecDepth 65536 in
set_option maxHeartbeats 40000000 in
theorem rm5i (l : Launch) (Z : State) (aw : Array Value) (hw : ∀ d ∈ tables_1, d.before aw Z = true) (ws : List Jvm.Cond) (a0 : Addr) (a1 : Addr) (h0 : Heap) (n0 : Nat) (Z0 : n0 ≤ h0.size) (O0 : Old Z n0 h0) (E_a1 : Exa Z h0 a1 "java/lang/Integer") :
    MetFree l (⟨"com/example/purposeward/purposeward/Lexeme", "equals", "(Ljava/lang/Object;)Z"⟩ : MethodName) (head1 (Jvm.Cond.code (⟨"com/example/purposeward/purposeward/Lexeme", "equals", "(Ljava/lang/Object;)Z"⟩ : MethodName) prog_4_method_5_code 3 (some .boolean) :: ws) room5i) (fun a U => a = #[(.ref a0), (.ref a1)] ∧ Z.Warmed39 U.vm ∧ U.heap = h0) (fun _ _ _ _ _ => True) (fun _ U o U' => ∃ v L, o = .returned v ∧ Q5i Z a0 a1 h0 n0 v U'.heap L ∧ FrameEnd U o U' L room5i.cells room5i.slots) := by
  refine MetFree.of_bodySF (plainFor_of_name pn_2) hisR ?_
  intro p e s m args below meth c s₁ Bd hml0 hP hK
  obtain ⟨rfl, hZ, hh⟩ := hP
  have hx := Bd.exec
  have hby := Bd.bytes
  have hml : c.maxLocals = 3 := hml0
  have hown : s.vm.findClass "com/example/purposeward/purposeward/Lexeme" = some m.cls := findClass_of_methodNamed Bd.named
  have hnm := (name_of_methodNamed Bd.named Bd.method).1
  have X0 : Stand p l e room5i s m #[(.ref a0), (.ref a1)] below meth c s₁ [] 0 0 := Stand.of_body Bd
  have e0 : s₁.heap = h0 := by rw [← hh, Bd.state]; rfl
  have N0 := Fr.nil n0
  rw [ef_5i m a0 a1]
  refine go_in (s₁ := s₁) (Q := Q5i Z a0 a1 h0 n0) fun F hF => ?_
  refine go (B := s₁.setTop (mkF m 1 #[.val (.ref a0), .val (.ref a1), .unset] [(.ref a1)])) (fun _ k => XS.aloadN X0.here hx rfl (hb hby d5_0) rfl rfl k) ?_
  have hch1 : ∀ w ∈ Cond.chainWords ("java/lang/Integer" :: ["java/lang/Number", "java/lang/Object"]), w.before aw Z = true := by
    intro w hm
    simp only [Cond.chainWords, List.mem_cons, List.not_mem_nil, or_false] at hm
    rcases hm with rfl | rfl | rfl
    · exact (hw _ (List.mem_of_getElem? (i := 58) rfl))
    · exact (hw _ (List.mem_of_getElem? (i := 59) rfl))
    · exact (hw _ (List.mem_of_getElem? (i := 60) rfl))
  obtain ⟨T1, X1, e1, st1⟩ := instNo X0 hx hZ hown (hw _ (List.mem_of_getElem? (i := 35) rfl)) e0 E_a1 (own_no hch1 (hw _ (List.mem_of_getElem? (i := 9) rfl)) (by decide)) (g := (mkF m 1 #[.val (.ref a0), .val (.ref a1), .unset] [(.ref a1)])) rfl rfl (hb hby d5_1)
  refine go (B := T1.setTop (mkF m 4 #[.val (.ref a0), .val (.ref a1), .unset] [(.int (0 : Int32))])) st1 ?_
  refine go (B := T1.setTop (mkF m 7 #[.val (.ref a0), .val (.ref a1), .unset] [])) (fun _ k => XS.ifNo X1.here hx rfl (hb hby d5_4) rfl ((if0 _ _).trans (teq (by decide : (0 : Int32) = (0 : Int32))).2) k) ?_
  refine go (B := T1.setTop (mkF m 8 #[.val (.ref a0), .val (.ref a1), .unset] [(.int (0 : Int32))])) (fun _ k => XS.iconst X1.here hx rfl (hb hby d5_7) k) ?_
  have r2 : f5i = (0 : Int32) := by unfold f5i; rfl
  exact end_nar X1 hx Bd.notSynchronized (t := .boolean) Bd.returns (by simp) (hb hby d5_8) hF e1 (by decide) (by decide) ⟨(congrArg (fun z => some (Value.int z)) r2.symm), rfl, rfl⟩
theorem d5_9 : decode prog_4_method_5_code 9 = .ok (.aload_n 1, 1) := by decide +kernel
theorem d5_10 : decode prog_4_method_5_code 10 = .ok (.checkcast 8, 3) := by decide +kernel
theorem d5_13 : decode prog_4_method_5_code 13 = .ok (.astore_n 2, 1) := by decide +kernel
theorem d5_14 : decode prog_4_method_5_code 14 = .ok (.aload_n 2, 1) := by decide +kernel
theorem d5_15 : decode prog_4_method_5_code 15 = .ok (.getfield 7, 3) := by decide +kernel
theorem d5_18 : decode prog_4_method_5_code 18 = .ok (.aload_n 0, 1) := by decide +kernel
theorem d5_19 : decode prog_4_method_5_code 19 = .ok (.getfield 7, 3) := by decide +kernel
theorem d5_22 : decode prog_4_method_5_code 22 = .ok (.if_acmp .ne 29, 3) := by decide +kernel
theorem d5_25 : decode prog_4_method_5_code 25 = .ok (.aload_n 2, 1) := by decide +kernel
theorem d5_26 : decode prog_4_method_5_code 26 = .ok (.getfield 13, 3) := by decide +kernel
theorem d5_29 : decode prog_4_method_5_code 29 = .ok (.aload_n 0, 1) := by decide +kernel
theorem d5_30 : decode prog_4_method_5_code 30 = .ok (.getfield 13, 3) := by decide +kernel
theorem d5_33 : decode prog_4_method_5_code 33 = .ok (.if_icmp .ne 18, 3) := by decide +kernel
theorem d5_36 : decode prog_4_method_5_code 36 = .ok (.aload_n 2, 1) := by decide +kernel
theorem d5_37 : decode prog_4_method_5_code 37 = .ok (.getfield 17, 3) := by decide +kernel
theorem d5_40 : decode prog_4_method_5_code 40 = .ok (.aload_n 0, 1) := by decide +kernel
theorem d5_41 : decode prog_4_method_5_code 41 = .ok (.getfield 17, 3) := by decide +kernel
theorem d5_44 : decode prog_4_method_5_code 44 = .ok (.if_icmp .ne 7, 3) := by decide +kernel
theorem d5_47 : decode prog_4_method_5_code 47 = .ok (.iconst 1, 1) := by decide +kernel
theorem d5_48 : decode prog_4_method_5_code 48 = .ok (.goto 4, 3) := by decide +kernel
theorem d5_51 : decode prog_4_method_5_code 51 = .ok (.iconst 0, 1) := by decide +kernel
theorem d5_52 : decode prog_4_method_5_code 52 = .ok (.ireturn, 1) := by decide +kernel
theorem ef_5x (m : MethodId) (a0 : Addr) (a1 : Addr) : entryFrame m #[(.ref a0), (.ref a1)] 3 = mkF m 0 #[.val (.ref a0), .val (.ref a1), .unset] [] := by first | (simp [entryFrame, mkF, argsToLocals, Value.category]; done) | rfl
def f5x (w_kind_a1 : Addr) (w_kind_a0 : Addr) (w_begin_a1 : Int32) (w_begin_a0 : Int32) (w_end_a1 : Int32) (w_end_a0 : Int32) : Int32 := if w_kind_a1 = w_kind_a0 then if w_begin_a1 = w_begin_a0 then if w_end_a1 = w_end_a0 then (1 : Int32) else (0 : Int32) else (0 : Int32) else (0 : Int32)
abbrev room5x : Room := { frames := 0, cells := 0, slots := 0, locals := 0 }
def Q5x (Z : State) (a0 : Addr) (a1 : Addr) (w_kind_a1 : Addr) (w_kind_a0 : Addr) (w_begin_a1 : Int32) (w_begin_a0 : Int32) (w_end_a1 : Int32) (w_end_a0 : Int32) (h0 : Heap) (n0 : Nat) (v : Option Value) (h : Heap) (L : List Loc) : Prop := v = some (.int (f5x w_kind_a1 w_kind_a0 w_begin_a1 w_begin_a0 w_end_a1 w_end_a0)) ∧ L = [] ∧ h = h0
set_option maxRecDepth 65536 in
set_option maxHeartbeats 40000000 in
theorem rm5x (l : Launch) (Z : State) (aw : Array Value) (hw : ∀ d ∈ tables_1, d.before aw Z = true) (ws : List Jvm.Cond) (a0 : Addr) (a1 : Addr) (w_kind_a1 : Addr) (w_kind_a0 : Addr) (w_begin_a1 : Int32) (w_begin_a0 : Int32) (w_end_a1 : Int32) (w_end_a0 : Int32) (h0 : Heap) (n0 : Nat) (Z0 : n0 ≤ h0.size) (O0 : Old Z n0 h0) (E_a1 : Exa Z h0 a1 "com/example/purposeward/purposeward/Lexeme") (F_kind_a1 : Fld Z h0 a1 "com/example/purposeward/purposeward/Lexeme" "kind" "Lcom/example/purposeward/purposeward/Lexeme$Kind;" (.ref w_kind_a1)) (F_kind_a0 : Fld Z h0 a0 "com/example/purposeward/purposeward/Lexeme" "kind" "Lcom/example/purposeward/purposeward/Lexeme$Kind;" (.ref w_kind_a0)) (F_begin_a1 : Fld Z h0 a1 "com/example/purposeward/purposeward/Lexeme" "begin" "I" (.int w_begin_a1)) (F_begin_a0 : Fld Z h0 a0 "com/example/purposeward/purposeward/Lexeme" "begin" "I" (.int w_begin_a0)) (F_end_a1 : Fld Z h0 a1 "com/example/purposeward/purposeward/Lexeme" "end" "I" (.int w_end_a1)) (F_end_a0 : Fld Z h0 a0 "com/example/purposeward/purposeward/Lexeme" "end" "I" (.int w_end_a0)) :
    MetFree l (⟨"com/example/purposeward/purposeward/Lexeme", "equals", "(Ljava/lang/Object;)Z"⟩ : MethodName) (head1 (Jvm.Cond.code (⟨"com/example/purposeward/purposeward/Lexeme", "equals", "(Ljava/lang/Object;)Z"⟩ : MethodName) prog_4_method_5_code 3 (some .boolean) :: ws) room5x) (fun a U => a = #[(.ref a0), (.ref a1)] ∧ Z.Warmed39 U.vm ∧ U.heap = h0) (fun _ _ _ _ _ => True) (fun _ U o U' => ∃ v L, o = .returned v ∧ Q5x Z a0 a1 w_kind_a1 w_kind_a0 w_begin_a1 w_begin_a0 w_end_a1 w_end_a0 h0 n0 v U'.heap L ∧ FrameEnd U o U' L room5x.cells room5x.slots) := by
  refine MetFree.of_bodySF (plainFor_of_name pn_2) hisR ?_
  intro p e s m args below meth c s₁ Bd hml0 hP hK
  obtain ⟨rfl, hZ, hh⟩ := hP
  have hx := Bd.exec
  have hby := Bd.bytes
  have hml : c.maxLocals = 3 := hml0
  have hown : s.vm.findClass "com/example/purposeward/purposeward/Lexeme" = some m.cls := findClass_of_methodNamed Bd.named
  have hnm := (name_of_methodNamed Bd.named Bd.method).1
  have X0 : Stand p l e room5x s m #[(.ref a0), (.ref a1)] below meth c s₁ [] 0 0 := Stand.of_body Bd
  have e0 : s₁.heap = h0 := by rw [← hh, Bd.state]; rfl
  have N0 := Fr.nil n0
  rw [ef_5x m a0 a1]
  refine go_in (s₁ := s₁) (Q := Q5x Z a0 a1 w_kind_a1 w_kind_a0 w_begin_a1 w_begin_a0 w_end_a1 w_end_a0 h0 n0) fun F hF => ?_
  refine go (B := s₁.setTop (mkF m 1 #[.val (.ref a0), .val (.ref a1), .unset] [(.ref a1)])) (fun _ k => XS.aloadN X0.here hx rfl (hb hby d5_0) rfl rfl k) ?_
  obtain ⟨T1, X1, e1, st1⟩ := instY X0 hx hZ hown (hw _ (List.mem_of_getElem? (i := 35) rfl)) e0 (Ins.self E_a1) (g := (mkF m 1 #[.val (.ref a0), .val (.ref a1), .unset] [(.ref a1)])) rfl rfl (hb hby d5_1)
  refine go (B := T1.setTop (mkF m 4 #[.val (.ref a0), .val (.ref a1), .unset] [(.int (1 : Int32))])) st1 ?_
  refine go (B := T1.setTop (mkF m 9 #[.val (.ref a0), .val (.ref a1), .unset] [])) (fun _ k => XS.ifYes X1.here hx rfl (pc0 := 4) (pc' := 9) rfl (hb hby d5_4) rfl ((if0 _ _).trans (feq (by decide : ¬ ((1 : Int32) = (0 : Int32)))).2) (by decide) (by decide) k) ?_
  refine go (B := T1.setTop (mkF m 10 #[.val (.ref a0), .val (.ref a1), .unset] [(.ref a1)])) (fun _ k => XS.aloadN X1.here hx rfl (hb hby d5_9) rfl rfl k) ?_
  obtain ⟨T2, X2, e2, st2⟩ := castY X1 hx hZ hown (hw _ (List.mem_of_getElem? (i := 35) rfl)) e1 (Ins.self E_a1) (g := (mkF m 10 #[.val (.ref a0), .val (.ref a1), .unset] [(.ref a1)])) rfl rfl (hb hby d5_10)
  refine go (B := T2.setTop (mkF m 13 #[.val (.ref a0), .val (.ref a1), .unset] [(.ref a1)])) st2 ?_
  refine go (B := T2.setTop (mkF m 14 #[.val (.ref a0), .val (.ref a1), .val (.ref a1)] [])) (fun _ k => XS.astoreN X2.here hx rfl (hb hby d5_13) rfl rfl (l' := #[.val (.ref a0), .val (.ref a1), .val (.ref a1)]) rfl k) ?_
  refine go (B := T2.setTop (mkF m 15 #[.val (.ref a0), .val (.ref a1), .val (.ref a1)] [(.ref a1)])) (fun _ k => XS.aloadN X2.here hx rfl (hb hby d5_14) rfl rfl k) ?_
  obtain ⟨T3, X3, e3, st3⟩ := getF X2 hx hZ hown (host := "") (Or.inl (hw _ (List.mem_of_getElem? (i := 17) rfl))) Via.refl e2 F_kind_a1 (g := (mkF m 15 #[.val (.ref a0), .val (.ref a1), .val (.ref a1)] [(.ref a1)])) rfl rfl (hb hby d5_15)
  refine go (B := T3.setTop (mkF m 18 #[.val (.ref a0), .val (.ref a1), .val (.ref a1)] [(.ref w_kind_a1)])) st3 ?_
  refine go (B := T3.setTop (mkF m 19 #[.val (.ref a0), .val (.ref a1), .val (.ref a1)] [(.ref a0), (.ref w_kind_a1)])) (fun _ k => XS.aloadN X3.here hx rfl (hb hby d5_18) rfl rfl k) ?_
  obtain ⟨T4, X4, e4, st4⟩ := getF X3 hx hZ hown (host := "") (Or.inl (hw _ (List.mem_of_getElem? (i := 17) rfl))) Via.refl e3 F_kind_a0 (g := (mkF m 19 #[.val (.ref a0), .val (.ref a1), .val (.ref a1)] [(.ref a0), (.ref w_kind_a1)])) rfl rfl (hb hby d5_19)
  refine go (B := T4.setTop (mkF m 22 #[.val (.ref a0), .val (.ref a1), .val (.ref a1)] [(.ref w_kind_a0), (.ref w_kind_a1)])) st4 ?_
  by_cases hc5 : w_kind_a1 = w_kind_a0
  · refine go (B := T4.setTop (mkF m 25 #[.val (.ref a0), .val (.ref a1), .val (.ref a1)] [])) (fun _ k => Jvm.RoadKit.acmp (g := (mkF m 22 #[.val (.ref a0), .val (.ref a1), .val (.ref a1)] [(.ref w_kind_a0), (.ref w_kind_a1)])) X4 hx rfl rfl rfl (pc0 := 22) (pc' := 25) (same := true) rfl (hb hby d5_22) rfl (decide_eq_true (congrArg Value.ref hc5)) (by decide) (by decide) k) ?_
    refine go (B := T4.setTop (mkF m 26 #[.val (.ref a0), .val (.ref a1), .val (.ref a1)] [(.ref a1)])) (fun _ k => XS.aloadN X4.here hx rfl (hb hby d5_25) rfl rfl k) ?_
    obtain ⟨T6, X6, e6, st6⟩ := getF X4 hx hZ hown (host := "") (Or.inl (hw _ (List.mem_of_getElem? (i := 19) rfl))) Via.refl e4 F_begin_a1 (g := (mkF m 26 #[.val (.ref a0), .val (.ref a1), .val (.ref a1)] [(.ref a1)])) rfl rfl (hb hby d5_26)
    refine go (B := T6.setTop (mkF m 29 #[.val (.ref a0), .val (.ref a1), .val (.ref a1)] [(.int w_begin_a1)])) st6 ?_
    refine go (B := T6.setTop (mkF m 30 #[.val (.ref a0), .val (.ref a1), .val (.ref a1)] [(.ref a0), (.int w_begin_a1)])) (fun _ k => XS.aloadN X6.here hx rfl (hb hby d5_29) rfl rfl k) ?_
    obtain ⟨T7, X7, e7, st7⟩ := getF X6 hx hZ hown (host := "") (Or.inl (hw _ (List.mem_of_getElem? (i := 19) rfl))) Via.refl e6 F_begin_a0 (g := (mkF m 30 #[.val (.ref a0), .val (.ref a1), .val (.ref a1)] [(.ref a0), (.int w_begin_a1)])) rfl rfl (hb hby d5_30)
    refine go (B := T7.setTop (mkF m 33 #[.val (.ref a0), .val (.ref a1), .val (.ref a1)] [(.int w_begin_a0), (.int w_begin_a1)])) st7 ?_
    by_cases hc8 : w_begin_a1 = w_begin_a0
    · refine go (B := T7.setTop (mkF m 36 #[.val (.ref a0), .val (.ref a1), .val (.ref a1)] [])) (fun _ k => XS.icmpNo X7.here hx rfl (hb hby d5_33) rfl (teq hc8).2 k) ?_
      refine go (B := T7.setTop (mkF m 37 #[.val (.ref a0), .val (.ref a1), .val (.ref a1)] [(.ref a1)])) (fun _ k => XS.aloadN X7.here hx rfl (hb hby d5_36) rfl rfl k) ?_
      obtain ⟨T9, X9, e9, st9⟩ := getF X7 hx hZ hown (host := "") (Or.inl (hw _ (List.mem_of_getElem? (i := 21) rfl))) Via.refl e7 F_end_a1 (g := (mkF m 37 #[.val (.ref a0), .val (.ref a1), .val (.ref a1)] [(.ref a1)])) rfl rfl (hb hby d5_37)
      refine go (B := T9.setTop (mkF m 40 #[.val (.ref a0), .val (.ref a1), .val (.ref a1)] [(.int w_end_a1)])) st9 ?_
      refine go (B := T9.setTop (mkF m 41 #[.val (.ref a0), .val (.ref a1), .val (.ref a1)] [(.ref a0), (.int w_end_a1)])) (fun _ k => XS.aloadN X9.here hx rfl (hb hby d5_40) rfl rfl k) ?_
      obtain ⟨T10, X10, e10, st10⟩ := getF X9 hx hZ hown (host := "") (Or.inl (hw _ (List.mem_of_getElem? (i := 21) rfl))) Via.refl e9 F_end_a0 (g := (mkF m 41 #[.val (.ref a0), .val (.ref a1), .val (.ref a1)] [(.ref a0), (.int w_end_a1)])) rfl rfl (hb hby d5_41)
      refine go (B := T10.setTop (mkF m 44 #[.val (.ref a0), .val (.ref a1), .val (.ref a1)] [(.int w_end_a0), (.int w_end_a1)])) st10 ?_
      by_cases hc11 : w_end_a1 = w_end_a0
      · refine go (B := T10.setTop (mkF m 47 #[.val (.ref a0), .val (.ref a1), .val (.ref a1)] [])) (fun _ k => XS.icmpNo X10.here hx rfl (hb hby d5_44) rfl (teq hc11).2 k) ?_
        refine go (B := T10.setTop (mkF m 48 #[.val (.ref a0), .val (.ref a1), .val (.ref a1)] [(.int (1 : Int32))])) (fun _ k => XS.iconst X10.here hx rfl (hb hby d5_47) k) ?_
        refine go (B := T10.setTop (mkF m 52 #[.val (.ref a0), .val (.ref a1), .val (.ref a1)] [(.int (1 : Int32))])) (fun _ k => XS.goto X10.here hx rfl (pc0 := 48) (pc' := 52) rfl (hb hby d5_48) (by decide) (by decide) k) ?_
        have r12 : (f5x w_kind_a1 w_kind_a0 w_begin_a1 w_begin_a0 w_end_a1 w_end_a0) = (1 : Int32) := by unfold f5x; rw [if_pos hc5, if_pos hc8, if_pos hc11]
        exact end_nar X10 hx Bd.notSynchronized (t := .boolean) Bd.returns (by simp) (hb hby d5_52) hF e10 (by decide) (by decide) ⟨(congrArg (fun z => some (Value.int z)) r12.symm), rfl, rfl⟩
      · refine go (B := T10.setTop (mkF m 51 #[.val (.ref a0), .val (.ref a1), .val (.ref a1)] [])) (fun _ k => XS.icmpYes X10.here hx rfl (pc0 := 44) (pc' := 51) rfl (hb hby d5_44) rfl (feq hc11).2 (by decide) (by decide) k) ?_
        refine go (B := T10.setTop (mkF m 52 #[.val (.ref a0), .val (.ref a1), .val (.ref a1)] [(.int (0 : Int32))])) (fun _ k => XS.iconst X10.here hx rfl (hb hby d5_51) k) ?_
        have r13 : (f5x w_kind_a1 w_kind_a0 w_begin_a1 w_begin_a0 w_end_a1 w_end_a0) = (0 : Int32) := by unfold f5x; rw [if_pos hc5, if_pos hc8, if_neg hc11]
        exact end_nar X10 hx Bd.notSynchronized (t := .boolean) Bd.returns (by simp) (hb hby d5_52) hF e10 (by decide) (by decide) ⟨(congrArg (fun z => some (Value.int z)) r13.symm), rfl, rfl⟩
    · refine go (B := T7.setTop (mkF m 51 #[.val (.ref a0), .val (.ref a1), .val (.ref a1)] [])) (fun _ k => XS.icmpYes X7.here hx rfl (pc0 := 33) (pc' := 51) rfl (hb hby d5_33) rfl (feq hc8).2 (by decide) (by decide) k) ?_
      refine go (B := T7.setTop (mkF m 52 #[.val (.ref a0), .val (.ref a1), .val (.ref a1)] [(.int (0 : Int32))])) (fun _ k => XS.iconst X7.here hx rfl (hb hby d5_51) k) ?_
      have r14 : (f5x w_kind_a1 w_kind_a0 w_begin_a1 w_begin_a0 w_end_a1 w_end_a0) = (0 : Int32) := by unfold f5x; rw [if_pos hc5, if_neg hc8]
      exact end_nar X7 hx Bd.notSynchronized (t := .boolean) Bd.returns (by simp) (hb hby d5_52) hF e7 (by decide) (by decide) ⟨(congrArg (fun z => some (Value.int z)) r14.symm), rfl, rfl⟩
  · refine go (B := T4.setTop (mkF m 51 #[.val (.ref a0), .val (.ref a1), .val (.ref a1)] [])) (fun _ k => Jvm.RoadKit.acmp (g := (mkF m 22 #[.val (.ref a0), .val (.ref a1), .val (.ref a1)] [(.ref w_kind_a0), (.ref w_kind_a1)])) X4 hx rfl rfl rfl (pc0 := 22) (pc' := 51) (same := false) rfl (hb hby d5_22) rfl (decide_eq_false fun q => hc5 (Value.ref.inj q)) (by decide) (by decide) k) ?_
    refine go (B := T4.setTop (mkF m 52 #[.val (.ref a0), .val (.ref a1), .val (.ref a1)] [(.int (0 : Int32))])) (fun _ k => XS.iconst X4.here hx rfl (hb hby d5_51) k) ?_
    have r15 : (f5x w_kind_a1 w_kind_a0 w_begin_a1 w_begin_a0 w_end_a1 w_end_a0) = (0 : Int32) := by unfold f5x; rw [if_neg hc5]
    exact end_nar X4 hx Bd.notSynchronized (t := .boolean) Bd.returns (by simp) (hb hby d5_52) hF e4 (by decide) (by decide) ⟨(congrArg (fun z => some (Value.int z)) r15.symm), rfl, rfl⟩
theorem pd_2 : parseMethodDescriptor "(I)Lcom/example/purposeward/purposeward/Lexeme$Kind;" = some ⟨[.int], some (.object "com/example/purposeward/purposeward/Lexeme$Kind")⟩ := by decide +kernel
theorem pd_3 : parseMethodDescriptor "(Lcom/example/purposeward/purposeward/Lexeme$Kind;II)V" = some ⟨[(.object "com/example/purposeward/purposeward/Lexeme$Kind"), .int, .int], none⟩ := by decide +kernel
theorem pd_4 : parseMethodDescriptor "(I)Ljava/lang/Integer;" = some ⟨[.int], some (.object "java/lang/Integer")⟩ := by decide +kernel
theorem pd_5 : parseMethodDescriptor "(Ljava/lang/Object;)Z" = some ⟨[(.object "java/lang/Object")], some .boolean⟩ := by decide +kernel
theorem ef_0 (m : MethodId) (p0 : Int32) (p1 : Int32) (p2 : Int32) (p3 : Int32) (p4 : Int32) (p5 : Int32) : entryFrame m #[(.int p0), (.int p1), (.int p2), (.int p3), (.int p4), (.int p5)] maxLocals = mkF m 0 #[.val (.int p0), .val (.int p1), .val (.int p2), .val (.int p3), .val (.int p4), .val (.int p5), .unset, .unset, .unset, .unset, .unset, .unset, .unset, .unset, .unset] [] := by first | (simp [entryFrame, mkF, argsToLocals, Value.category, maxLocals]; done) | rfl
def f0_t0 (p0 : Int32) (w_NAME : Addr) (w_QUOTED_NAME : Addr) (w_STRING : Addr) (w_COMMENT : Addr) (w_OTHER : Addr) : Addr := (f1 ((p0.toUInt32 >>> ((3 : Int32) &&& 31).toUInt32).toInt32) w_NAME w_QUOTED_NAME w_STRING w_COMMENT w_OTHER)
def f0_z1 (p0 : Int32) (p5 : Int32) (w_NAME : Addr) (w_QUOTED_NAME : Addr) (w_STRING : Addr) (w_COMMENT : Addr) (w_OTHER : Addr) : Addr := if (p5 &&& (4 : Int32)) = (0 : Int32) then (f0_t0 p0 w_NAME w_QUOTED_NAME w_STRING w_COMMENT w_OTHER) else (f1 p0 w_NAME w_QUOTED_NAME w_STRING w_COMMENT w_OTHER)
def f0_z2 (p1 : Int32) (p3 : Int32) (p5 : Int32) : Int32 := if (p5 &&& (1 : Int32)) = (0 : Int32) then p3 else p1
def f0_z3 (p2 : Int32) (p4 : Int32) (p5 : Int32) : Int32 := if (p5 &&& (2 : Int32)) = (0 : Int32) then p4 else p2
def f0_t4 (p0 : Int32) (p1 : Int32) (p2 : Int32) (w_NAME : Addr) (w_QUOTED_NAME : Addr) (w_STRING : Addr) (w_COMMENT : Addr) (w_OTHER : Addr) : Int32 := (f5x (f1 p0 w_NAME w_QUOTED_NAME w_STRING w_COMMENT w_OTHER) (f1 p0 w_NAME w_QUOTED_NAME w_STRING w_COMMENT w_OTHER) p1 p1 p2 p2)
def f0_z5 (p0 : Int32) (p1 : Int32) (p2 : Int32) (p3 : Int32) (p4 : Int32) (p5 : Int32) (w_NAME : Addr) (w_QUOTED_NAME : Addr) (w_STRING : Addr) (w_COMMENT : Addr) (w_OTHER : Addr) : Int32 := if (f1 p0 w_NAME w_QUOTED_NAME w_STRING w_COMMENT w_OTHER) = (f0_z1 p0 p5 w_NAME w_QUOTED_NAME w_STRING w_COMMENT w_OTHER) then if p1 = (f0_z2 p1 p3 p5) then if p2 = (f0_z3 p2 p4 p5) then (1 : Int32) else (0 : Int32) else (0 : Int32) else (0 : Int32)
def f0_t6 (p0 : Int32) (p1 : Int32) (p2 : Int32) (p3 : Int32) (p4 : Int32) (p5 : Int32) (w_NAME : Addr) (w_QUOTED_NAME : Addr) (w_STRING : Addr) (w_COMMENT : Addr) (w_OTHER : Addr) : Int32 := (f5x (f0_z1 p0 p5 w_NAME w_QUOTED_NAME w_STRING w_COMMENT w_OTHER) (f1 p0 w_NAME w_QUOTED_NAME w_STRING w_COMMENT w_OTHER) (f0_z2 p1 p3 p5) p1 (f0_z3 p2 p4 p5) p2)
def f0_t7 (p0 : Int32) (p1 : Int32) (p2 : Int32) (p3 : Int32) (p4 : Int32) (p5 : Int32) (w_NAME : Addr) (w_QUOTED_NAME : Addr) (w_STRING : Addr) (w_COMMENT : Addr) (w_OTHER : Addr) : Int32 := (f5x (f1 p0 w_NAME w_QUOTED_NAME w_STRING w_COMMENT w_OTHER) (f0_z1 p0 p5 w_NAME w_QUOTED_NAME w_STRING w_COMMENT w_OTHER) p1 (f0_z2 p1 p3 p5) p2 (f0_z3 p2 p4 p5))
def f0 (p0 : Int32) (p1 : Int32) (p2 : Int32) (p3 : Int32) (p4 : Int32) (p5 : Int32) (w_NAME : Addr) (w_QUOTED_NAME : Addr) (w_STRING : Addr) (w_COMMENT : Addr) (w_OTHER : Addr) : Int32 := if (((p5.toUInt32 >>> ((3 : Int32) &&& 31).toUInt32).toInt32) &&& (3 : Int32)) = (1 : Int32) then if f5n = (0 : Int32) then (1 : Int32) else (0 : Int32) else if (((p5.toUInt32 >>> ((3 : Int32) &&& 31).toUInt32).toInt32) &&& (3 : Int32)) = (2 : Int32) then if f5i = (0 : Int32) then (1 : Int32) else (0 : Int32) else if (((p5.toUInt32 >>> ((3 : Int32) &&& 31).toUInt32).toInt32) &&& (3 : Int32)) = (3 : Int32) then (nar .boolean (f0_t4 p0 p1 p2 w_NAME w_QUOTED_NAME w_STRING w_COMMENT w_OTHER)) else if (f0_t6 p0 p1 p2 p3 p4 p5 w_NAME w_QUOTED_NAME w_STRING w_COMMENT w_OTHER) = (f0_z5 p0 p1 p2 p3 p4 p5 w_NAME w_QUOTED_NAME w_STRING w_COMMENT w_OTHER) then if (f0_t7 p0 p1 p2 p3 p4 p5 w_NAME w_QUOTED_NAME w_STRING w_COMMENT w_OTHER) = (f0_z5 p0 p1 p2 p3 p4 p5 w_NAME w_QUOTED_NAME w_STRING w_COMMENT w_OTHER) then (1 : Int32) else (0 : Int32) else (0 : Int32)
theorem own_sym (a b : Addr) (c d e f : Int32) : f5x a b c d e f = if b = a then if d = c then if f = e then (1 : Int32) else (0 : Int32) else (0 : Int32) else (0 : Int32) := by
  unfold f5x
  by_cases h1 : a = b
  · by_cases h2 : c = d
    · by_cases h3 : e = f
      · rw [if_pos h1, if_pos h2, if_pos h3, if_pos h1.symm, if_pos h2.symm, if_pos h3.symm]
      · rw [if_pos h1, if_pos h2, if_neg h3, if_pos h1.symm, if_pos h2.symm, if_neg (fun q => h3 q.symm)]
    · rw [if_pos h1, if_neg h2, if_pos h1.symm, if_neg (fun q => h2 q.symm)]
  · rw [if_neg h1, if_neg (fun q => h1 q.symm)]
theorem own_law (p0 p1 p2 p3 p4 p5 : Int32) (a b c d e : Addr) : f0 p0 p1 p2 p3 p4 p5 a b c d e = 1 := by
  have h1 : f0_t6 p0 p1 p2 p3 p4 p5 a b c d e = f0_z5 p0 p1 p2 p3 p4 p5 a b c d e := by
    unfold f0_t6 f0_z5; rw [own_sym]
  have h2 : f0_t7 p0 p1 p2 p3 p4 p5 a b c d e = f0_z5 p0 p1 p2 p3 p4 p5 a b c d e := by
    unfold f0_t7 f0_z5 f5x; rfl
  have h3 : f0_t4 p0 p1 p2 a b c d e = 1 := by
    unfold f0_t4 f5x; rw [if_pos rfl, if_pos rfl, if_pos rfl]
  have h4 : nar .boolean (1 : Int32) = 1 := rfl
  have h5 : f5n = 0 := rfl
  have h6 : f5i = 0 := rfl
  unfold f0
  rw [h1, h2, h3, h4, h5, h6, if_pos rfl, if_pos rfl, if_pos rfl]
  split
  · rfl
  · split
    · rfl
    · split <;> rfl

theorem own_bxs {s : State} {args : Array Value} {t : Term} {G : Jvm.Cond} {a : Addr} {c : Cell} (et : ∀ idx, t.eval args s none idx s = some (.ref a)) (A : Arr s s.heap a c (.object "java/lang/Integer")) (hl : (Jvm.Cond.eq (Term.length t) (Term.int 256)).value args s none s [] = some true) (h : (Jvm.Cond.all t (.and (.exactly (.elem t (.index 0)) "java/lang/Integer") G)).value args s none s [] = some true) : own_Bx s a c := by
  have hA := A.fin (Vm.Alike.refl _)
  obtain ⟨a', c', e1, e2, e3⟩ := Term.length_spec (eqv_i (Term.int_eval 256) hl)
  cases (et []).symm.trans e1
  cases hA.symm.trans e2
  refine ⟨A, ?_, fun j hj => ?_⟩
  · have h5 := eqv_i (Term.int_eval 256) hl
    by_cases hn : c.slots.size < 2147483648
    · have e : (256 : Int32) = c.slots.size.toInt32 := Value.int.inj e3
      have e' := len_toInt hn
      rw [← e] at e'
      have : (256 : Int32).toInt = 256 := rfl
      omega
    · simp [Term.eval, et [], hA, hn] at h5
  · have nn : ¬ j < 0 := fun x => hj (Or.inl x)
    obtain ⟨u1, u2⟩ := and_e (Cond.all_elim (et []) hA h j.toNatClampNeg (Nat.lt_of_not_le fun x => hj (Or.inr x)))
    obtain ⟨box, eb⟩ := exa_v u1
    exact ⟨box, (elem_f (et _) (idx_at nn) hA nn).symm.trans eb, exa_at eb u1⟩
def Q0 (Z : State) (p0 : Int32) (p1 : Int32) (p2 : Int32) (p3 : Int32) (p4 : Int32) (p5 : Int32) (w_cache : Addr) (cl_w_cache : Cell) (w_NAME : Addr) (w_QUOTED_NAME : Addr) (w_STRING : Addr) (w_COMMENT : Addr) (w_OTHER : Addr) (h0 : Heap) (n0 : Nat) (v : Option Value) (h : Heap) (L : List Loc) : Prop := v = some (.int (1 : Int32)) ∧ Fr n0 L
set_option maxRecDepth 65536 in
set_option maxHeartbeats 40000000 in
theorem rm0 (l : Launch) (Z : State) (aw : Array Value) (hw : ∀ d ∈ tables_1, d.before aw Z = true) (ws : List Jvm.Cond) (p0 : Int32) (p1 : Int32) (p2 : Int32) (p3 : Int32) (p4 : Int32) (p5 : Int32) (w_cache : Addr) (cl_w_cache : Cell) (w_NAME : Addr) (w_QUOTED_NAME : Addr) (w_STRING : Addr) (w_COMMENT : Addr) (w_OTHER : Addr) (h0 : Heap) (n0 : Nat) (Z0 : n0 ≤ h0.size) (O0 : Old Z n0 h0) (S_high : Sta Z Z.heap "java/lang/Integer$IntegerCache" "high" "I" (.int (127 : Int32))) (S_cache : Sta Z Z.heap "java/lang/Integer$IntegerCache" "cache" "[Ljava/lang/Integer;" (.ref w_cache)) (B_w_cache : own_Bx Z w_cache cl_w_cache) (S_NAME : Sta Z Z.heap "com/example/purposeward/purposeward/Lexeme$Kind" "NAME" "Lcom/example/purposeward/purposeward/Lexeme$Kind;" (.ref w_NAME)) (S_QUOTED_NAME : Sta Z Z.heap "com/example/purposeward/purposeward/Lexeme$Kind" "QUOTED_NAME" "Lcom/example/purposeward/purposeward/Lexeme$Kind;" (.ref w_QUOTED_NAME)) (S_STRING : Sta Z Z.heap "com/example/purposeward/purposeward/Lexeme$Kind" "STRING" "Lcom/example/purposeward/purposeward/Lexeme$Kind;" (.ref w_STRING)) (S_COMMENT : Sta Z Z.heap "com/example/purposeward/purposeward/Lexeme$Kind" "COMMENT" "Lcom/example/purposeward/purposeward/Lexeme$Kind;" (.ref w_COMMENT)) (S_OTHER : Sta Z Z.heap "com/example/purposeward/purposeward/Lexeme$Kind" "OTHER" "Lcom/example/purposeward/purposeward/Lexeme$Kind;" (.ref w_OTHER)) :
    MetFree l x (head1 (Jvm.Cond.code x code maxLocals ret :: ws) room_1) (fun a U => a = #[(.int p0), (.int p1), (.int p2), (.int p3), (.int p4), (.int p5)] ∧ Z.Warmed39 U.vm ∧ U.heap = h0) (fun _ _ _ _ _ => True) (fun _ U o U' => ∃ v L, o = .returned v ∧ Q0 Z p0 p1 p2 p3 p4 p5 w_cache cl_w_cache w_NAME w_QUOTED_NAME w_STRING w_COMMENT w_OTHER h0 n0 v U'.heap L ∧ FrameEnd U o U' L room_1.cells room_1.slots) := by
  refine MetFree.of_bodySF (plainFor_of_name pn_1) hisR ?_
  intro p e s m args below meth c s₁ Bd hml0 hP hK
  obtain ⟨rfl, hZ, hh⟩ := hP
  have hx := Bd.exec
  have hby := Bd.bytes
  have hml : c.maxLocals = 15 := hml0
  have hown : s.vm.findClass "com/example/purposeward/purposeward/LexemeEqualsPinLaw" = some m.cls := findClass_of_methodNamed Bd.named
  have hnm := (name_of_methodNamed Bd.named Bd.method).1
  have X0 : Stand p l e room_1 s m #[(.int p0), (.int p1), (.int p2), (.int p3), (.int p4), (.int p5)] below meth c s₁ [] 0 0 := Stand.of_body Bd
  have e0 : s₁.heap = h0 := by rw [← hh, Bd.state]; rfl
  have N0 := Fr.nil n0
  rw [ef_0 m p0 p1 p2 p3 p4 p5]
  refine go_in (s₁ := s₁) (Q := Q0 Z p0 p1 p2 p3 p4 p5 w_cache cl_w_cache w_NAME w_QUOTED_NAME w_STRING w_COMMENT w_OTHER h0 n0) fun F hF => ?_
  refine go (B := s₁.setTop (mkF m 1 #[.val (.int p0), .val (.int p1), .val (.int p2), .val (.int p3), .val (.int p4), .val (.int p5), .unset, .unset, .unset, .unset, .unset, .unset, .unset, .unset, .unset] [(.int p0)])) (fun _ k => XS.iloadN X0.here hx rfl (hb hby at_0) rfl k) ?_
  obtain ⟨_, _, ⟨T1, L1, k1, n1⟩, -, X1, ⟨Lc1, hQ1, l1, y1, z1⟩, st1⟩ := Jvm.LawKit.callS X0 hx (y := (⟨"com/example/purposeward/purposeward/LexemeEqualsPinLaw", "kindOf", "(I)Lcom/example/purposeward/purposeward/Lexeme$Kind;"⟩ : MethodName)) hown (mvT hZ (hw _ (List.mem_of_getElem? (i := 0) rfl))) (mvT hZ (hw _ (List.mem_of_getElem? (i := 1) rfl))) (mvT hZ (hw _ (List.mem_of_getElem? (i := 2) rfl))) (mvT hZ (hw _ (List.mem_of_getElem? (i := 3) rfl))) (by decide) (backOf (W := 0) (rm1 l Z aw hw [] p0 w_NAME w_QUOTED_NAME w_STRING w_COMMENT w_OTHER h0 n0 Z0 O0 S_NAME S_QUOTED_NAME S_STRING S_COMMENT S_OTHER) hZ (hw _ (List.mem_of_getElem? (i := 3) rfl)) (hw _ (List.mem_of_getElem? (i := 2) rfl)) (by decide) (by decide)) (g := (mkF m 1 #[.val (.int p0), .val (.int p1), .val (.int p2), .val (.int p3), .val (.int p4), .val (.int p5), .unset, .unset, .unset, .unset, .unset, .unset, .unset, .unset, .unset] [(.int p0)])) rfl (by rw [hml]; rfl) (argsL := [(.int p0)]) (rest := []) (lenOf pd_2 rfl) rfl (by show 2 * 0 + _ ≤ _; exact Nat.le_of_eq rfl) (hb hby at_1) (fun _ _ => ⟨rfl, e0, (by decide : 0 + 0 ≤ _), (by decide : 0 + 0 ≤ _)⟩)
  dsimp only [Pt.U, Pt.locs, Pt.cells, Pt.slots] at X1 l1 y1 z1 st1 hQ1
  subst l1 y1 z1
  obtain ⟨rfl, rfl, e1⟩ := hQ1
  have N1 := Fr.app N0 (Fr.nil n0)
  refine go (B := T1.setTop (mkF m 4 #[.val (.int p0), .val (.int p1), .val (.int p2), .val (.int p3), .val (.int p4), .val (.int p5), .unset, .unset, .unset, .unset, .unset, .unset, .unset, .unset, .unset] [(.ref (f1 p0 w_NAME w_QUOTED_NAME w_STRING w_COMMENT w_OTHER))])) (fun _ k => st1 _ k) ?_
  refine go (B := T1.setTop (mkF m 6 #[.val (.int p0), .val (.int p1), .val (.int p2), .val (.int p3), .val (.int p4), .val (.int p5), .val (.ref (f1 p0 w_NAME w_QUOTED_NAME w_STRING w_COMMENT w_OTHER)), .unset, .unset, .unset, .unset, .unset, .unset, .unset, .unset] [])) (fun _ k => XS.astore X1.here hx rfl (hb hby at_4) rfl rfl (l' := #[.val (.int p0), .val (.int p1), .val (.int p2), .val (.int p3), .val (.int p4), .val (.int p5), .val (.ref (f1 p0 w_NAME w_QUOTED_NAME w_STRING w_COMMENT w_OTHER)), .unset, .unset, .unset, .unset, .unset, .unset, .unset, .unset]) rfl k) ?_
  refine go (B := T1.setTop (mkF m 8 #[.val (.int p0), .val (.int p1), .val (.int p2), .val (.int p3), .val (.int p4), .val (.int p5), .val (.ref (f1 p0 w_NAME w_QUOTED_NAME w_STRING w_COMMENT w_OTHER)), .unset, .unset, .unset, .unset, .unset, .unset, .unset, .unset] [(.int p5)])) (fun _ k => XS.iload X1.here hx rfl (hb hby at_6) rfl k) ?_
  refine go (B := T1.setTop (mkF m 9 #[.val (.int p0), .val (.int p1), .val (.int p2), .val (.int p3), .val (.int p4), .val (.int p5), .val (.ref (f1 p0 w_NAME w_QUOTED_NAME w_STRING w_COMMENT w_OTHER)), .unset, .unset, .unset, .unset, .unset, .unset, .unset, .unset] [(.int (4 : Int32)), (.int p5)])) (fun _ k => XS.iconst X1.here hx rfl (hb hby at_8) k) ?_
  refine go (B := T1.setTop (mkF m 10 #[.val (.int p0), .val (.int p1), .val (.int p2), .val (.int p3), .val (.int p4), .val (.int p5), .val (.ref (f1 p0 w_NAME w_QUOTED_NAME w_STRING w_COMMENT w_OTHER)), .unset, .unset, .unset, .unset, .unset, .unset, .unset, .unset] [(.int (p5 &&& (4 : Int32)))])) (fun _ k => XS.iand X1.here hx rfl (hb hby at_9) rfl k) ?_
  suffices Kj2 : ∀ (T2 : State) (L2 : List Loc), Stand p l e room_1 s m #[(.int p0), (.int p1), (.int p2), (.int p3), (.int p4), (.int p5)] below meth c T2 L2 0 0 → Fr n0 L2 → T2.heap = h0 → Go p.tables e below F (T2.setTop (mkF m 24 #[.val (.int p0), .val (.int p1), .val (.int p2), .val (.int p3), .val (.int p4), .val (.int p5), .val (.ref (f1 p0 w_NAME w_QUOTED_NAME w_STRING w_COMMENT w_OTHER)), .unset, .unset, .unset, .unset, .unset, .unset, .unset, .unset] [(.ref (f0_z1 p0 p5 w_NAME w_QUOTED_NAME w_STRING w_COMMENT w_OTHER))])) by
    by_cases hc3 : (p5 &&& (4 : Int32)) = (0 : Int32)
    · refine go (B := T1.setTop (mkF m 18 #[.val (.int p0), .val (.int p1), .val (.int p2), .val (.int p3), .val (.int p4), .val (.int p5), .val (.ref (f1 p0 w_NAME w_QUOTED_NAME w_STRING w_COMMENT w_OTHER)), .unset, .unset, .unset, .unset, .unset, .unset, .unset, .unset] [])) (fun _ k => XS.ifYes X1.here hx rfl (pc0 := 10) (pc' := 18) rfl (hb hby at_10) rfl ((if0 _ _).trans (teq hc3).1) (by decide) (by decide) k) ?_
      refine go (B := T1.setTop (mkF m 19 #[.val (.int p0), .val (.int p1), .val (.int p2), .val (.int p3), .val (.int p4), .val (.int p5), .val (.ref (f1 p0 w_NAME w_QUOTED_NAME w_STRING w_COMMENT w_OTHER)), .unset, .unset, .unset, .unset, .unset, .unset, .unset, .unset] [(.int p0)])) (fun _ k => XS.iloadN X1.here hx rfl (hb hby at_18) rfl k) ?_
      refine go (B := T1.setTop (mkF m 20 #[.val (.int p0), .val (.int p1), .val (.int p2), .val (.int p3), .val (.int p4), .val (.int p5), .val (.ref (f1 p0 w_NAME w_QUOTED_NAME w_STRING w_COMMENT w_OTHER)), .unset, .unset, .unset, .unset, .unset, .unset, .unset, .unset] [(.int (3 : Int32)), (.int p0)])) (fun _ k => XS.iconst X1.here hx rfl (hb hby at_19) k) ?_
      refine go (B := T1.setTop (mkF m 21 #[.val (.int p0), .val (.int p1), .val (.int p2), .val (.int p3), .val (.int p4), .val (.int p5), .val (.ref (f1 p0 w_NAME w_QUOTED_NAME w_STRING w_COMMENT w_OTHER)), .unset, .unset, .unset, .unset, .unset, .unset, .unset, .unset] [(.int ((p0.toUInt32 >>> ((3 : Int32) &&& 31).toUInt32).toInt32))])) (fun _ k => XS.iushr X1.here hx rfl (hb hby at_20) rfl k) ?_
      obtain ⟨_, _, ⟨T4, L4, k4, n4⟩, -, X4, ⟨Lc4, hQ4, l4, y4, z4⟩, st4⟩ := Jvm.LawKit.callS X1 hx (y := (⟨"com/example/purposeward/purposeward/LexemeEqualsPinLaw", "kindOf", "(I)Lcom/example/purposeward/purposeward/Lexeme$Kind;"⟩ : MethodName)) hown (mvT hZ (hw _ (List.mem_of_getElem? (i := 0) rfl))) (mvT hZ (hw _ (List.mem_of_getElem? (i := 1) rfl))) (mvT hZ (hw _ (List.mem_of_getElem? (i := 2) rfl))) (mvT hZ (hw _ (List.mem_of_getElem? (i := 3) rfl))) (by decide) (backOf (W := 0) (rm1 l Z aw hw [] ((p0.toUInt32 >>> ((3 : Int32) &&& 31).toUInt32).toInt32) w_NAME w_QUOTED_NAME w_STRING w_COMMENT w_OTHER h0 n0 Z0 O0 S_NAME S_QUOTED_NAME S_STRING S_COMMENT S_OTHER) hZ (hw _ (List.mem_of_getElem? (i := 3) rfl)) (hw _ (List.mem_of_getElem? (i := 2) rfl)) (by decide) (by decide)) (g := (mkF m 21 #[.val (.int p0), .val (.int p1), .val (.int p2), .val (.int p3), .val (.int p4), .val (.int p5), .val (.ref (f1 p0 w_NAME w_QUOTED_NAME w_STRING w_COMMENT w_OTHER)), .unset, .unset, .unset, .unset, .unset, .unset, .unset, .unset] [(.int ((p0.toUInt32 >>> ((3 : Int32) &&& 31).toUInt32).toInt32))])) rfl (by rw [hml]; rfl) (argsL := [(.int ((p0.toUInt32 >>> ((3 : Int32) &&& 31).toUInt32).toInt32))]) (rest := []) (lenOf pd_2 rfl) rfl (by show 2 * 0 + _ ≤ _; exact Nat.le_of_eq rfl) (hb hby at_21) (fun _ _ => ⟨rfl, e1, (by decide : 0 + 0 ≤ _), (by decide : 0 + 0 ≤ _)⟩)
      dsimp only [Pt.U, Pt.locs, Pt.cells, Pt.slots] at X4 l4 y4 z4 st4 hQ4
      subst l4 y4 z4
      obtain ⟨rfl, rfl, e4⟩ := hQ4
      have N4 := Fr.app N1 (Fr.nil n0)
      refine go (B := T4.setTop (mkF m 24 #[.val (.int p0), .val (.int p1), .val (.int p2), .val (.int p3), .val (.int p4), .val (.int p5), .val (.ref (f1 p0 w_NAME w_QUOTED_NAME w_STRING w_COMMENT w_OTHER)), .unset, .unset, .unset, .unset, .unset, .unset, .unset, .unset] [(.ref (f0_t0 p0 w_NAME w_QUOTED_NAME w_STRING w_COMMENT w_OTHER))])) (fun _ k => st4 _ k) ?_
      rw [show (f0_z1 p0 p5 w_NAME w_QUOTED_NAME w_STRING w_COMMENT w_OTHER) = (f0_t0 p0 w_NAME w_QUOTED_NAME w_STRING w_COMMENT w_OTHER) from by unfold f0_z1; rw [if_pos hc3]] at Kj2
      exact Kj2 _ _ X4 N4 e4
    · refine go (B := T1.setTop (mkF m 13 #[.val (.int p0), .val (.int p1), .val (.int p2), .val (.int p3), .val (.int p4), .val (.int p5), .val (.ref (f1 p0 w_NAME w_QUOTED_NAME w_STRING w_COMMENT w_OTHER)), .unset, .unset, .unset, .unset, .unset, .unset, .unset, .unset] [])) (fun _ k => XS.ifNo X1.here hx rfl (hb hby at_10) rfl ((if0 _ _).trans (feq hc3).1) k) ?_
      refine go (B := T1.setTop (mkF m 15 #[.val (.int p0), .val (.int p1), .val (.int p2), .val (.int p3), .val (.int p4), .val (.int p5), .val (.ref (f1 p0 w_NAME w_QUOTED_NAME w_STRING w_COMMENT w_OTHER)), .unset, .unset, .unset, .unset, .unset, .unset, .unset, .unset] [(.ref (f1 p0 w_NAME w_QUOTED_NAME w_STRING w_COMMENT w_OTHER))])) (fun _ k => XS.aload X1.here hx rfl (hb hby at_13) rfl rfl k) ?_
      refine go (B := T1.setTop (mkF m 24 #[.val (.int p0), .val (.int p1), .val (.int p2), .val (.int p3), .val (.int p4), .val (.int p5), .val (.ref (f1 p0 w_NAME w_QUOTED_NAME w_STRING w_COMMENT w_OTHER)), .unset, .unset, .unset, .unset, .unset, .unset, .unset, .unset] [(.ref (f1 p0 w_NAME w_QUOTED_NAME w_STRING w_COMMENT w_OTHER))])) (fun _ k => XS.goto X1.here hx rfl (pc0 := 15) (pc' := 24) rfl (hb hby at_15) (by decide) (by decide) k) ?_
      rw [show (f0_z1 p0 p5 w_NAME w_QUOTED_NAME w_STRING w_COMMENT w_OTHER) = (f1 p0 w_NAME w_QUOTED_NAME w_STRING w_COMMENT w_OTHER) from by unfold f0_z1; rw [if_neg hc3]] at Kj2
      exact Kj2 _ _ X1 N1 e1
  intro T2 L2 X2 N2 e2
  refine go (B := T2.setTop (mkF m 26 #[.val (.int p0), .val (.int p1), .val (.int p2), .val (.int p3), .val (.int p4), .val (.int p5), .val (.ref (f1 p0 w_NAME w_QUOTED_NAME w_STRING w_COMMENT w_OTHER)), .val (.ref (f0_z1 p0 p5 w_NAME w_QUOTED_NAME w_STRING w_COMMENT w_OTHER)), .unset, .unset, .unset, .unset, .unset, .unset, .unset] [])) (fun _ k => XS.astore X2.here hx rfl (hb hby at_24) rfl rfl (l' := #[.val (.int p0), .val (.int p1), .val (.int p2), .val (.int p3), .val (.int p4), .val (.int p5), .val (.ref (f1 p0 w_NAME w_QUOTED_NAME w_STRING w_COMMENT w_OTHER)), .val (.ref (f0_z1 p0 p5 w_NAME w_QUOTED_NAME w_STRING w_COMMENT w_OTHER)), .unset, .unset, .unset, .unset, .unset, .unset, .unset]) rfl k) ?_
  refine go (B := T2.setTop (mkF m 28 #[.val (.int p0), .val (.int p1), .val (.int p2), .val (.int p3), .val (.int p4), .val (.int p5), .val (.ref (f1 p0 w_NAME w_QUOTED_NAME w_STRING w_COMMENT w_OTHER)), .val (.ref (f0_z1 p0 p5 w_NAME w_QUOTED_NAME w_STRING w_COMMENT w_OTHER)), .unset, .unset, .unset, .unset, .unset, .unset, .unset] [(.int p5)])) (fun _ k => XS.iload X2.here hx rfl (hb hby at_26) rfl k) ?_
  refine go (B := T2.setTop (mkF m 29 #[.val (.int p0), .val (.int p1), .val (.int p2), .val (.int p3), .val (.int p4), .val (.int p5), .val (.ref (f1 p0 w_NAME w_QUOTED_NAME w_STRING w_COMMENT w_OTHER)), .val (.ref (f0_z1 p0 p5 w_NAME w_QUOTED_NAME w_STRING w_COMMENT w_OTHER)), .unset, .unset, .unset, .unset, .unset, .unset, .unset] [(.int (1 : Int32)), (.int p5)])) (fun _ k => XS.iconst X2.here hx rfl (hb hby at_28) k) ?_
  refine go (B := T2.setTop (mkF m 30 #[.val (.int p0), .val (.int p1), .val (.int p2), .val (.int p3), .val (.int p4), .val (.int p5), .val (.ref (f1 p0 w_NAME w_QUOTED_NAME w_STRING w_COMMENT w_OTHER)), .val (.ref (f0_z1 p0 p5 w_NAME w_QUOTED_NAME w_STRING w_COMMENT w_OTHER)), .unset, .unset, .unset, .unset, .unset, .unset, .unset] [(.int (p5 &&& (1 : Int32)))])) (fun _ k => XS.iand X2.here hx rfl (hb hby at_29) rfl k) ?_
  suffices Kj5 : ∀ (T5 : State) (L5 : List Loc), Stand p l e room_1 s m #[(.int p0), (.int p1), (.int p2), (.int p3), (.int p4), (.int p5)] below meth c T5 L5 0 0 → Fr n0 L5 → T5.heap = h0 → Go p.tables e below F (T5.setTop (mkF m 38 #[.val (.int p0), .val (.int p1), .val (.int p2), .val (.int p3), .val (.int p4), .val (.int p5), .val (.ref (f1 p0 w_NAME w_QUOTED_NAME w_STRING w_COMMENT w_OTHER)), .val (.ref (f0_z1 p0 p5 w_NAME w_QUOTED_NAME w_STRING w_COMMENT w_OTHER)), .unset, .unset, .unset, .unset, .unset, .unset, .unset] [(.int (f0_z2 p1 p3 p5))])) by
    by_cases hc6 : (p5 &&& (1 : Int32)) = (0 : Int32)
    · refine go (B := T2.setTop (mkF m 37 #[.val (.int p0), .val (.int p1), .val (.int p2), .val (.int p3), .val (.int p4), .val (.int p5), .val (.ref (f1 p0 w_NAME w_QUOTED_NAME w_STRING w_COMMENT w_OTHER)), .val (.ref (f0_z1 p0 p5 w_NAME w_QUOTED_NAME w_STRING w_COMMENT w_OTHER)), .unset, .unset, .unset, .unset, .unset, .unset, .unset] [])) (fun _ k => XS.ifYes X2.here hx rfl (pc0 := 30) (pc' := 37) rfl (hb hby at_30) rfl ((if0 _ _).trans (teq hc6).1) (by decide) (by decide) k) ?_
      refine go (B := T2.setTop (mkF m 38 #[.val (.int p0), .val (.int p1), .val (.int p2), .val (.int p3), .val (.int p4), .val (.int p5), .val (.ref (f1 p0 w_NAME w_QUOTED_NAME w_STRING w_COMMENT w_OTHER)), .val (.ref (f0_z1 p0 p5 w_NAME w_QUOTED_NAME w_STRING w_COMMENT w_OTHER)), .unset, .unset, .unset, .unset, .unset, .unset, .unset] [(.int p3)])) (fun _ k => XS.iloadN X2.here hx rfl (hb hby at_37) rfl k) ?_
      rw [show (f0_z2 p1 p3 p5) = p3 from by unfold f0_z2; rw [if_pos hc6]] at Kj5
      exact Kj5 _ _ X2 N2 e2
    · refine go (B := T2.setTop (mkF m 33 #[.val (.int p0), .val (.int p1), .val (.int p2), .val (.int p3), .val (.int p4), .val (.int p5), .val (.ref (f1 p0 w_NAME w_QUOTED_NAME w_STRING w_COMMENT w_OTHER)), .val (.ref (f0_z1 p0 p5 w_NAME w_QUOTED_NAME w_STRING w_COMMENT w_OTHER)), .unset, .unset, .unset, .unset, .unset, .unset, .unset] [])) (fun _ k => XS.ifNo X2.here hx rfl (hb hby at_30) rfl ((if0 _ _).trans (feq hc6).1) k) ?_
      refine go (B := T2.setTop (mkF m 34 #[.val (.int p0), .val (.int p1), .val (.int p2), .val (.int p3), .val (.int p4), .val (.int p5), .val (.ref (f1 p0 w_NAME w_QUOTED_NAME w_STRING w_COMMENT w_OTHER)), .val (.ref (f0_z1 p0 p5 w_NAME w_QUOTED_NAME w_STRING w_COMMENT w_OTHER)), .unset, .unset, .unset, .unset, .unset, .unset, .unset] [(.int p1)])) (fun _ k => XS.iloadN X2.here hx rfl (hb hby at_33) rfl k) ?_
      refine go (B := T2.setTop (mkF m 38 #[.val (.int p0), .val (.int p1), .val (.int p2), .val (.int p3), .val (.int p4), .val (.int p5), .val (.ref (f1 p0 w_NAME w_QUOTED_NAME w_STRING w_COMMENT w_OTHER)), .val (.ref (f0_z1 p0 p5 w_NAME w_QUOTED_NAME w_STRING w_COMMENT w_OTHER)), .unset, .unset, .unset, .unset, .unset, .unset, .unset] [(.int p1)])) (fun _ k => XS.goto X2.here hx rfl (pc0 := 34) (pc' := 38) rfl (hb hby at_34) (by decide) (by decide) k) ?_
      rw [show (f0_z2 p1 p3 p5) = p1 from by unfold f0_z2; rw [if_neg hc6]] at Kj5
      exact Kj5 _ _ X2 N2 e2
  intro T5 L5 X5 N5 e5
  refine go (B := T5.setTop (mkF m 40 #[.val (.int p0), .val (.int p1), .val (.int p2), .val (.int p3), .val (.int p4), .val (.int p5), .val (.ref (f1 p0 w_NAME w_QUOTED_NAME w_STRING w_COMMENT w_OTHER)), .val (.ref (f0_z1 p0 p5 w_NAME w_QUOTED_NAME w_STRING w_COMMENT w_OTHER)), .val (.int (f0_z2 p1 p3 p5)), .unset, .unset, .unset, .unset, .unset, .unset] [])) (fun _ k => XS.istore X5.here hx rfl (hb hby at_38) rfl (l' := #[.val (.int p0), .val (.int p1), .val (.int p2), .val (.int p3), .val (.int p4), .val (.int p5), .val (.ref (f1 p0 w_NAME w_QUOTED_NAME w_STRING w_COMMENT w_OTHER)), .val (.ref (f0_z1 p0 p5 w_NAME w_QUOTED_NAME w_STRING w_COMMENT w_OTHER)), .val (.int (f0_z2 p1 p3 p5)), .unset, .unset, .unset, .unset, .unset, .unset]) rfl k) ?_
  refine go (B := T5.setTop (mkF m 42 #[.val (.int p0), .val (.int p1), .val (.int p2), .val (.int p3), .val (.int p4), .val (.int p5), .val (.ref (f1 p0 w_NAME w_QUOTED_NAME w_STRING w_COMMENT w_OTHER)), .val (.ref (f0_z1 p0 p5 w_NAME w_QUOTED_NAME w_STRING w_COMMENT w_OTHER)), .val (.int (f0_z2 p1 p3 p5)), .unset, .unset, .unset, .unset, .unset, .unset] [(.int p5)])) (fun _ k => XS.iload X5.here hx rfl (hb hby at_40) rfl k) ?_
  refine go (B := T5.setTop (mkF m 43 #[.val (.int p0), .val (.int p1), .val (.int p2), .val (.int p3), .val (.int p4), .val (.int p5), .val (.ref (f1 p0 w_NAME w_QUOTED_NAME w_STRING w_COMMENT w_OTHER)), .val (.ref (f0_z1 p0 p5 w_NAME w_QUOTED_NAME w_STRING w_COMMENT w_OTHER)), .val (.int (f0_z2 p1 p3 p5)), .unset, .unset, .unset, .unset, .unset, .unset] [(.int (2 : Int32)), (.int p5)])) (fun _ k => XS.iconst X5.here hx rfl (hb hby at_42) k) ?_
  refine go (B := T5.setTop (mkF m 44 #[.val (.int p0), .val (.int p1), .val (.int p2), .val (.int p3), .val (.int p4), .val (.int p5), .val (.ref (f1 p0 w_NAME w_QUOTED_NAME w_STRING w_COMMENT w_OTHER)), .val (.ref (f0_z1 p0 p5 w_NAME w_QUOTED_NAME w_STRING w_COMMENT w_OTHER)), .val (.int (f0_z2 p1 p3 p5)), .unset, .unset, .unset, .unset, .unset, .unset] [(.int (p5 &&& (2 : Int32)))])) (fun _ k => XS.iand X5.here hx rfl (hb hby at_43) rfl k) ?_
  suffices Kj7 : ∀ (T7 : State) (L7 : List Loc), Stand p l e room_1 s m #[(.int p0), (.int p1), (.int p2), (.int p3), (.int p4), (.int p5)] below meth c T7 L7 0 0 → Fr n0 L7 → T7.heap = h0 → Go p.tables e below F (T7.setTop (mkF m 53 #[.val (.int p0), .val (.int p1), .val (.int p2), .val (.int p3), .val (.int p4), .val (.int p5), .val (.ref (f1 p0 w_NAME w_QUOTED_NAME w_STRING w_COMMENT w_OTHER)), .val (.ref (f0_z1 p0 p5 w_NAME w_QUOTED_NAME w_STRING w_COMMENT w_OTHER)), .val (.int (f0_z2 p1 p3 p5)), .unset, .unset, .unset, .unset, .unset, .unset] [(.int (f0_z3 p2 p4 p5))])) by
    by_cases hc8 : (p5 &&& (2 : Int32)) = (0 : Int32)
    · refine go (B := T5.setTop (mkF m 51 #[.val (.int p0), .val (.int p1), .val (.int p2), .val (.int p3), .val (.int p4), .val (.int p5), .val (.ref (f1 p0 w_NAME w_QUOTED_NAME w_STRING w_COMMENT w_OTHER)), .val (.ref (f0_z1 p0 p5 w_NAME w_QUOTED_NAME w_STRING w_COMMENT w_OTHER)), .val (.int (f0_z2 p1 p3 p5)), .unset, .unset, .unset, .unset, .unset, .unset] [])) (fun _ k => XS.ifYes X5.here hx rfl (pc0 := 44) (pc' := 51) rfl (hb hby at_44) rfl ((if0 _ _).trans (teq hc8).1) (by decide) (by decide) k) ?_
      refine go (B := T5.setTop (mkF m 53 #[.val (.int p0), .val (.int p1), .val (.int p2), .val (.int p3), .val (.int p4), .val (.int p5), .val (.ref (f1 p0 w_NAME w_QUOTED_NAME w_STRING w_COMMENT w_OTHER)), .val (.ref (f0_z1 p0 p5 w_NAME w_QUOTED_NAME w_STRING w_COMMENT w_OTHER)), .val (.int (f0_z2 p1 p3 p5)), .unset, .unset, .unset, .unset, .unset, .unset] [(.int p4)])) (fun _ k => XS.iload X5.here hx rfl (hb hby at_51) rfl k) ?_
      rw [show (f0_z3 p2 p4 p5) = p4 from by unfold f0_z3; rw [if_pos hc8]] at Kj7
      exact Kj7 _ _ X5 N5 e5
    · refine go (B := T5.setTop (mkF m 47 #[.val (.int p0), .val (.int p1), .val (.int p2), .val (.int p3), .val (.int p4), .val (.int p5), .val (.ref (f1 p0 w_NAME w_QUOTED_NAME w_STRING w_COMMENT w_OTHER)), .val (.ref (f0_z1 p0 p5 w_NAME w_QUOTED_NAME w_STRING w_COMMENT w_OTHER)), .val (.int (f0_z2 p1 p3 p5)), .unset, .unset, .unset, .unset, .unset, .unset] [])) (fun _ k => XS.ifNo X5.here hx rfl (hb hby at_44) rfl ((if0 _ _).trans (feq hc8).1) k) ?_
      refine go (B := T5.setTop (mkF m 48 #[.val (.int p0), .val (.int p1), .val (.int p2), .val (.int p3), .val (.int p4), .val (.int p5), .val (.ref (f1 p0 w_NAME w_QUOTED_NAME w_STRING w_COMMENT w_OTHER)), .val (.ref (f0_z1 p0 p5 w_NAME w_QUOTED_NAME w_STRING w_COMMENT w_OTHER)), .val (.int (f0_z2 p1 p3 p5)), .unset, .unset, .unset, .unset, .unset, .unset] [(.int p2)])) (fun _ k => XS.iloadN X5.here hx rfl (hb hby at_47) rfl k) ?_
      refine go (B := T5.setTop (mkF m 53 #[.val (.int p0), .val (.int p1), .val (.int p2), .val (.int p3), .val (.int p4), .val (.int p5), .val (.ref (f1 p0 w_NAME w_QUOTED_NAME w_STRING w_COMMENT w_OTHER)), .val (.ref (f0_z1 p0 p5 w_NAME w_QUOTED_NAME w_STRING w_COMMENT w_OTHER)), .val (.int (f0_z2 p1 p3 p5)), .unset, .unset, .unset, .unset, .unset, .unset] [(.int p2)])) (fun _ k => XS.goto X5.here hx rfl (pc0 := 48) (pc' := 53) rfl (hb hby at_48) (by decide) (by decide) k) ?_
      rw [show (f0_z3 p2 p4 p5) = p2 from by unfold f0_z3; rw [if_neg hc8]] at Kj7
      exact Kj7 _ _ X5 N5 e5
  intro T7 L7 X7 N7 e7
  refine go (B := T7.setTop (mkF m 55 #[.val (.int p0), .val (.int p1), .val (.int p2), .val (.int p3), .val (.int p4), .val (.int p5), .val (.ref (f1 p0 w_NAME w_QUOTED_NAME w_STRING w_COMMENT w_OTHER)), .val (.ref (f0_z1 p0 p5 w_NAME w_QUOTED_NAME w_STRING w_COMMENT w_OTHER)), .val (.int (f0_z2 p1 p3 p5)), .val (.int (f0_z3 p2 p4 p5)), .unset, .unset, .unset, .unset, .unset] [])) (fun _ k => XS.istore X7.here hx rfl (hb hby at_53) rfl (l' := #[.val (.int p0), .val (.int p1), .val (.int p2), .val (.int p3), .val (.int p4), .val (.int p5), .val (.ref (f1 p0 w_NAME w_QUOTED_NAME w_STRING w_COMMENT w_OTHER)), .val (.ref (f0_z1 p0 p5 w_NAME w_QUOTED_NAME w_STRING w_COMMENT w_OTHER)), .val (.int (f0_z2 p1 p3 p5)), .val (.int (f0_z3 p2 p4 p5)), .unset, .unset, .unset, .unset, .unset]) rfl k) ?_
  obtain ⟨T9, h9, X9, e9, E9, A9, D9, -, st9⟩ := newO X7 hx hZ hown (hw _ (List.mem_of_getElem? (i := 8) rfl)) (hw _ (List.mem_of_getElem? (i := 9) rfl)) (hw _ (List.mem_of_getElem? (i := 10) rfl)) e7 (g := (mkF m 55 #[.val (.int p0), .val (.int p1), .val (.int p2), .val (.int p3), .val (.int p4), .val (.int p5), .val (.ref (f1 p0 w_NAME w_QUOTED_NAME w_STRING w_COMMENT w_OTHER)), .val (.ref (f0_z1 p0 p5 w_NAME w_QUOTED_NAME w_STRING w_COMMENT w_OTHER)), .val (.int (f0_z2 p1 p3 p5)), .val (.int (f0_z3 p2 p4 p5)), .unset, .unset, .unset, .unset, .unset] [])) rfl (hb hby at_55) (by decide) (by decide)
  obtain ⟨b9, g9⟩ : ∃ z, z = h0.size := ⟨_, rfl⟩
  rw [← g9] at A9 D9 st9
  have g_b9 : n0 ≤ b9 := Nat.le_trans Z0 (Nat.le_of_eq g9.symm)
  have O9 := O0.ext E9
  have Z9 := Nat.le_trans Z0 E9.1
  have F_kind_b9 : Fld Z h9 b9 "com/example/purposeward/purposeward/Lexeme" "kind" "Lcom/example/purposeward/purposeward/Lexeme$Kind;" .null := D9 (Or.inr (hw _ (List.mem_of_getElem? (i := 18) rfl))) (ty := (.object "com/example/purposeward/purposeward/Lexeme$Kind")) (by decide)
  have F_begin_b9 : Fld Z h9 b9 "com/example/purposeward/purposeward/Lexeme" "begin" "I" (.int (0 : Int32)) := D9 (Or.inr (hw _ (List.mem_of_getElem? (i := 20) rfl))) (ty := .int) (by decide)
  have F_end_b9 : Fld Z h9 b9 "com/example/purposeward/purposeward/Lexeme" "end" "I" (.int (0 : Int32)) := D9 (Or.inr (hw _ (List.mem_of_getElem? (i := 22) rfl))) (ty := .int) (by decide)
  have E_b9 := A9
  refine go (B := T9.setTop (mkF m 58 #[.val (.int p0), .val (.int p1), .val (.int p2), .val (.int p3), .val (.int p4), .val (.int p5), .val (.ref (f1 p0 w_NAME w_QUOTED_NAME w_STRING w_COMMENT w_OTHER)), .val (.ref (f0_z1 p0 p5 w_NAME w_QUOTED_NAME w_STRING w_COMMENT w_OTHER)), .val (.int (f0_z2 p1 p3 p5)), .val (.int (f0_z3 p2 p4 p5)), .unset, .unset, .unset, .unset, .unset] [(.ref b9)])) st9 ?_
  refine go (B := T9.setTop (mkF m 59 #[.val (.int p0), .val (.int p1), .val (.int p2), .val (.int p3), .val (.int p4), .val (.int p5), .val (.ref (f1 p0 w_NAME w_QUOTED_NAME w_STRING w_COMMENT w_OTHER)), .val (.ref (f0_z1 p0 p5 w_NAME w_QUOTED_NAME w_STRING w_COMMENT w_OTHER)), .val (.int (f0_z2 p1 p3 p5)), .val (.int (f0_z3 p2 p4 p5)), .unset, .unset, .unset, .unset, .unset] [(.ref b9), (.ref b9)])) (fun _ k => XS.dup X9.here hx rfl (hb hby at_58) rfl rfl k) ?_
  refine go (B := T9.setTop (mkF m 61 #[.val (.int p0), .val (.int p1), .val (.int p2), .val (.int p3), .val (.int p4), .val (.int p5), .val (.ref (f1 p0 w_NAME w_QUOTED_NAME w_STRING w_COMMENT w_OTHER)), .val (.ref (f0_z1 p0 p5 w_NAME w_QUOTED_NAME w_STRING w_COMMENT w_OTHER)), .val (.int (f0_z2 p1 p3 p5)), .val (.int (f0_z3 p2 p4 p5)), .unset, .unset, .unset, .unset, .unset] [(.ref (f1 p0 w_NAME w_QUOTED_NAME w_STRING w_COMMENT w_OTHER)), (.ref b9), (.ref b9)])) (fun _ k => XS.aload X9.here hx rfl (hb hby at_59) rfl rfl k) ?_
  refine go (B := T9.setTop (mkF m 62 #[.val (.int p0), .val (.int p1), .val (.int p2), .val (.int p3), .val (.int p4), .val (.int p5), .val (.ref (f1 p0 w_NAME w_QUOTED_NAME w_STRING w_COMMENT w_OTHER)), .val (.ref (f0_z1 p0 p5 w_NAME w_QUOTED_NAME w_STRING w_COMMENT w_OTHER)), .val (.int (f0_z2 p1 p3 p5)), .val (.int (f0_z3 p2 p4 p5)), .unset, .unset, .unset, .unset, .unset] [(.int p1), (.ref (f1 p0 w_NAME w_QUOTED_NAME w_STRING w_COMMENT w_OTHER)), (.ref b9), (.ref b9)])) (fun _ k => XS.iloadN X9.here hx rfl (hb hby at_61) rfl k) ?_
  refine go (B := T9.setTop (mkF m 63 #[.val (.int p0), .val (.int p1), .val (.int p2), .val (.int p3), .val (.int p4), .val (.int p5), .val (.ref (f1 p0 w_NAME w_QUOTED_NAME w_STRING w_COMMENT w_OTHER)), .val (.ref (f0_z1 p0 p5 w_NAME w_QUOTED_NAME w_STRING w_COMMENT w_OTHER)), .val (.int (f0_z2 p1 p3 p5)), .val (.int (f0_z3 p2 p4 p5)), .unset, .unset, .unset, .unset, .unset] [(.int p2), (.int p1), (.ref (f1 p0 w_NAME w_QUOTED_NAME w_STRING w_COMMENT w_OTHER)), (.ref b9), (.ref b9)])) (fun _ k => XS.iloadN X9.here hx rfl (hb hby at_62) rfl k) ?_
  obtain ⟨_, _, ⟨T10, L10, k10, n10⟩, -, X10, ⟨Lc10, hQ10, l10, y10, z10⟩, st10⟩ := X9.specialBack hx (y := (⟨"com/example/purposeward/purposeward/Lexeme", "<init>", "(Lcom/example/purposeward/purposeward/Lexeme$Kind;II)V"⟩ : MethodName)) rfl hown (mvT hZ (hw _ (List.mem_of_getElem? (i := 11) rfl))) (mvT hZ (hw _ (List.mem_of_getElem? (i := 12) rfl))) (mvT hZ (hw _ (List.mem_of_getElem? (i := 13) rfl))) (by decide) (backOf (W := 1) (rm2 l Z aw hw [] b9 (f1 p0 w_NAME w_QUOTED_NAME w_STRING w_COMMENT w_OTHER) p1 p2 h9 n0 Z9 O9 F_kind_b9 F_begin_b9 F_end_b9 E_b9 g_b9) hZ (hw _ (List.mem_of_getElem? (i := 13) rfl)) (hw _ (List.mem_of_getElem? (i := 10) rfl)) (by decide) (by decide)) (g := (mkF m 63 #[.val (.int p0), .val (.int p1), .val (.int p2), .val (.int p3), .val (.int p4), .val (.int p5), .val (.ref (f1 p0 w_NAME w_QUOTED_NAME w_STRING w_COMMENT w_OTHER)), .val (.ref (f0_z1 p0 p5 w_NAME w_QUOTED_NAME w_STRING w_COMMENT w_OTHER)), .val (.int (f0_z2 p1 p3 p5)), .val (.int (f0_z3 p2 p4 p5)), .unset, .unset, .unset, .unset, .unset] [(.int p2), (.int p1), (.ref (f1 p0 w_NAME w_QUOTED_NAME w_STRING w_COMMENT w_OTHER)), (.ref b9), (.ref b9)])) rfl (by rw [hml]; rfl) (Steps.refl _) (a := b9) (argsL := [(.ref (f1 p0 w_NAME w_QUOTED_NAME w_STRING w_COMMENT w_OTHER)), (.int p1), (.int p2)]) (rest := [(.ref b9)]) (lenOf pd_3 rfl) rfl (by show 2 * 0 + _ ≤ _; exact Nat.le_of_eq rfl) (hb hby at_63) (fun _ _ => ⟨rfl, e9, (by decide : 1 + 0 ≤ _), (by decide : 3 + 0 ≤ _)⟩)
  dsimp only [Pt.U, Pt.locs, Pt.cells, Pt.slots] at X10 l10 y10 z10 st10 hQ10
  subst l10 y10 z10
  obtain ⟨rfl, N10q, Kc10, o10_0, o10_1, o10_2, o10_3⟩ := hQ10
  have O10 := O9.keep Kc10 (allS g_b9 all0)
  have E_b9_10 := E_b9.keep Kc10
  have N10 := Fr.app N7 N10q
  have Z10 := Nat.le_trans Z9 Kc10.1
  refine go (B := T10.setTop (mkF m 66 #[.val (.int p0), .val (.int p1), .val (.int p2), .val (.int p3), .val (.int p4), .val (.int p5), .val (.ref (f1 p0 w_NAME w_QUOTED_NAME w_STRING w_COMMENT w_OTHER)), .val (.ref (f0_z1 p0 p5 w_NAME w_QUOTED_NAME w_STRING w_COMMENT w_OTHER)), .val (.int (f0_z2 p1 p3 p5)), .val (.int (f0_z3 p2 p4 p5)), .unset, .unset, .unset, .unset, .unset] [(.ref b9)])) (fun _ k => st10.trans k) ?_
  refine go (B := T10.setTop (mkF m 68 #[.val (.int p0), .val (.int p1), .val (.int p2), .val (.int p3), .val (.int p4), .val (.int p5), .val (.ref (f1 p0 w_NAME w_QUOTED_NAME w_STRING w_COMMENT w_OTHER)), .val (.ref (f0_z1 p0 p5 w_NAME w_QUOTED_NAME w_STRING w_COMMENT w_OTHER)), .val (.int (f0_z2 p1 p3 p5)), .val (.int (f0_z3 p2 p4 p5)), .val (.ref b9), .unset, .unset, .unset, .unset] [])) (fun _ k => XS.astore X10.here hx rfl (hb hby at_66) rfl rfl (l' := #[.val (.int p0), .val (.int p1), .val (.int p2), .val (.int p3), .val (.int p4), .val (.int p5), .val (.ref (f1 p0 w_NAME w_QUOTED_NAME w_STRING w_COMMENT w_OTHER)), .val (.ref (f0_z1 p0 p5 w_NAME w_QUOTED_NAME w_STRING w_COMMENT w_OTHER)), .val (.int (f0_z2 p1 p3 p5)), .val (.int (f0_z3 p2 p4 p5)), .val (.ref b9), .unset, .unset, .unset, .unset]) rfl k) ?_
  obtain ⟨T11, h11, X11, e11, E11, A11, D11, -, st11⟩ := newO X10 hx hZ hown (hw _ (List.mem_of_getElem? (i := 8) rfl)) (hw _ (List.mem_of_getElem? (i := 9) rfl)) (hw _ (List.mem_of_getElem? (i := 10) rfl)) rfl (g := (mkF m 68 #[.val (.int p0), .val (.int p1), .val (.int p2), .val (.int p3), .val (.int p4), .val (.int p5), .val (.ref (f1 p0 w_NAME w_QUOTED_NAME w_STRING w_COMMENT w_OTHER)), .val (.ref (f0_z1 p0 p5 w_NAME w_QUOTED_NAME w_STRING w_COMMENT w_OTHER)), .val (.int (f0_z2 p1 p3 p5)), .val (.int (f0_z3 p2 p4 p5)), .val (.ref b9), .unset, .unset, .unset, .unset] [])) rfl (hb hby at_68) (by decide) (by decide)
  obtain ⟨b11, g11⟩ : ∃ z, z = T10.heap.size := ⟨_, rfl⟩
  rw [← g11] at A11 D11 st11
  have g_b11 : n0 ≤ b11 := Nat.le_trans Z10 (Nat.le_of_eq g11.symm)
  have ne_b9_b11 : b9 ≠ b11 := Nat.ne_of_lt (Nat.lt_of_lt_of_le o10_0.lt (Nat.le_of_eq g11.symm))
  have O11 := O10.ext E11
  have E_b9_11 := o10_0.ext E11
  have F_kind_b9_11 := o10_1.ext E11
  have F_begin_b9_11 := o10_2.ext E11
  have F_end_b9_11 := o10_3.ext E11
  have Z11 := Nat.le_trans Z10 E11.1
  have F_kind_b11 : Fld Z h11 b11 "com/example/purposeward/purposeward/Lexeme" "kind" "Lcom/example/purposeward/purposeward/Lexeme$Kind;" .null := D11 (Or.inr (hw _ (List.mem_of_getElem? (i := 18) rfl))) (ty := (.object "com/example/purposeward/purposeward/Lexeme$Kind")) (by decide)
  have F_begin_b11 : Fld Z h11 b11 "com/example/purposeward/purposeward/Lexeme" "begin" "I" (.int (0 : Int32)) := D11 (Or.inr (hw _ (List.mem_of_getElem? (i := 20) rfl))) (ty := .int) (by decide)
  have F_end_b11 : Fld Z h11 b11 "com/example/purposeward/purposeward/Lexeme" "end" "I" (.int (0 : Int32)) := D11 (Or.inr (hw _ (List.mem_of_getElem? (i := 22) rfl))) (ty := .int) (by decide)
  have E_b11 := A11
  refine go (B := T11.setTop (mkF m 71 #[.val (.int p0), .val (.int p1), .val (.int p2), .val (.int p3), .val (.int p4), .val (.int p5), .val (.ref (f1 p0 w_NAME w_QUOTED_NAME w_STRING w_COMMENT w_OTHER)), .val (.ref (f0_z1 p0 p5 w_NAME w_QUOTED_NAME w_STRING w_COMMENT w_OTHER)), .val (.int (f0_z2 p1 p3 p5)), .val (.int (f0_z3 p2 p4 p5)), .val (.ref b9), .unset, .unset, .unset, .unset] [(.ref b11)])) st11 ?_
  refine go (B := T11.setTop (mkF m 72 #[.val (.int p0), .val (.int p1), .val (.int p2), .val (.int p3), .val (.int p4), .val (.int p5), .val (.ref (f1 p0 w_NAME w_QUOTED_NAME w_STRING w_COMMENT w_OTHER)), .val (.ref (f0_z1 p0 p5 w_NAME w_QUOTED_NAME w_STRING w_COMMENT w_OTHER)), .val (.int (f0_z2 p1 p3 p5)), .val (.int (f0_z3 p2 p4 p5)), .val (.ref b9), .unset, .unset, .unset, .unset] [(.ref b11), (.ref b11)])) (fun _ k => XS.dup X11.here hx rfl (hb hby at_71) rfl rfl k) ?_
  refine go (B := T11.setTop (mkF m 74 #[.val (.int p0), .val (.int p1), .val (.int p2), .val (.int p3), .val (.int p4), .val (.int p5), .val (.ref (f1 p0 w_NAME w_QUOTED_NAME w_STRING w_COMMENT w_OTHER)), .val (.ref (f0_z1 p0 p5 w_NAME w_QUOTED_NAME w_STRING w_COMMENT w_OTHER)), .val (.int (f0_z2 p1 p3 p5)), .val (.int (f0_z3 p2 p4 p5)), .val (.ref b9), .unset, .unset, .unset, .unset] [(.ref (f0_z1 p0 p5 w_NAME w_QUOTED_NAME w_STRING w_COMMENT w_OTHER)), (.ref b11), (.ref b11)])) (fun _ k => XS.aload X11.here hx rfl (hb hby at_72) rfl rfl k) ?_
  refine go (B := T11.setTop (mkF m 76 #[.val (.int p0), .val (.int p1), .val (.int p2), .val (.int p3), .val (.int p4), .val (.int p5), .val (.ref (f1 p0 w_NAME w_QUOTED_NAME w_STRING w_COMMENT w_OTHER)), .val (.ref (f0_z1 p0 p5 w_NAME w_QUOTED_NAME w_STRING w_COMMENT w_OTHER)), .val (.int (f0_z2 p1 p3 p5)), .val (.int (f0_z3 p2 p4 p5)), .val (.ref b9), .unset, .unset, .unset, .unset] [(.int (f0_z2 p1 p3 p5)), (.ref (f0_z1 p0 p5 w_NAME w_QUOTED_NAME w_STRING w_COMMENT w_OTHER)), (.ref b11), (.ref b11)])) (fun _ k => XS.iload X11.here hx rfl (hb hby at_74) rfl k) ?_
  refine go (B := T11.setTop (mkF m 78 #[.val (.int p0), .val (.int p1), .val (.int p2), .val (.int p3), .val (.int p4), .val (.int p5), .val (.ref (f1 p0 w_NAME w_QUOTED_NAME w_STRING w_COMMENT w_OTHER)), .val (.ref (f0_z1 p0 p5 w_NAME w_QUOTED_NAME w_STRING w_COMMENT w_OTHER)), .val (.int (f0_z2 p1 p3 p5)), .val (.int (f0_z3 p2 p4 p5)), .val (.ref b9), .unset, .unset, .unset, .unset] [(.int (f0_z3 p2 p4 p5)), (.int (f0_z2 p1 p3 p5)), (.ref (f0_z1 p0 p5 w_NAME w_QUOTED_NAME w_STRING w_COMMENT w_OTHER)), (.ref b11), (.ref b11)])) (fun _ k => XS.iload X11.here hx rfl (hb hby at_76) rfl k) ?_
  obtain ⟨_, _, ⟨T12, L12, k12, n12⟩, -, X12, ⟨Lc12, hQ12, l12, y12, z12⟩, st12⟩ := X11.specialBack hx (y := (⟨"com/example/purposeward/purposeward/Lexeme", "<init>", "(Lcom/example/purposeward/purposeward/Lexeme$Kind;II)V"⟩ : MethodName)) rfl hown (mvT hZ (hw _ (List.mem_of_getElem? (i := 11) rfl))) (mvT hZ (hw _ (List.mem_of_getElem? (i := 12) rfl))) (mvT hZ (hw _ (List.mem_of_getElem? (i := 13) rfl))) (by decide) (backOf (W := 1) (rm2 l Z aw hw [] b11 (f0_z1 p0 p5 w_NAME w_QUOTED_NAME w_STRING w_COMMENT w_OTHER) (f0_z2 p1 p3 p5) (f0_z3 p2 p4 p5) h11 n0 Z11 O11 F_kind_b11 F_begin_b11 F_end_b11 E_b11 g_b11) hZ (hw _ (List.mem_of_getElem? (i := 13) rfl)) (hw _ (List.mem_of_getElem? (i := 10) rfl)) (by decide) (by decide)) (g := (mkF m 78 #[.val (.int p0), .val (.int p1), .val (.int p2), .val (.int p3), .val (.int p4), .val (.int p5), .val (.ref (f1 p0 w_NAME w_QUOTED_NAME w_STRING w_COMMENT w_OTHER)), .val (.ref (f0_z1 p0 p5 w_NAME w_QUOTED_NAME w_STRING w_COMMENT w_OTHER)), .val (.int (f0_z2 p1 p3 p5)), .val (.int (f0_z3 p2 p4 p5)), .val (.ref b9), .unset, .unset, .unset, .unset] [(.int (f0_z3 p2 p4 p5)), (.int (f0_z2 p1 p3 p5)), (.ref (f0_z1 p0 p5 w_NAME w_QUOTED_NAME w_STRING w_COMMENT w_OTHER)), (.ref b11), (.ref b11)])) rfl (by rw [hml]; rfl) (Steps.refl _) (a := b11) (argsL := [(.ref (f0_z1 p0 p5 w_NAME w_QUOTED_NAME w_STRING w_COMMENT w_OTHER)), (.int (f0_z2 p1 p3 p5)), (.int (f0_z3 p2 p4 p5))]) (rest := [(.ref b11)]) (lenOf pd_3 rfl) rfl (by show 2 * 0 + _ ≤ _; exact Nat.le_of_eq rfl) (hb hby at_78) (fun _ _ => ⟨rfl, e11, (by decide : 2 + 0 ≤ _), (by decide : 6 + 0 ≤ _)⟩)
  dsimp only [Pt.U, Pt.locs, Pt.cells, Pt.slots] at X12 l12 y12 z12 st12 hQ12
  subst l12 y12 z12
  obtain ⟨rfl, N12q, Kc12, o12_0, o12_1, o12_2, o12_3⟩ := hQ12
  have O12 := O11.keep Kc12 (allS g_b11 all0)
  have E_b9_12 := E_b9_11.keep Kc12
  have F_kind_b9_12 := F_kind_b9_11.keep Kc12 (ninS ne_b9_b11 nin0)
  have F_begin_b9_12 := F_begin_b9_11.keep Kc12 (ninS ne_b9_b11 nin0)
  have F_end_b9_12 := F_end_b9_11.keep Kc12 (ninS ne_b9_b11 nin0)
  have E_b11_12 := E_b11.keep Kc12
  have N12 := Fr.app N10 N12q
  have Z12 := Nat.le_trans Z11 Kc12.1
  refine go (B := T12.setTop (mkF m 81 #[.val (.int p0), .val (.int p1), .val (.int p2), .val (.int p3), .val (.int p4), .val (.int p5), .val (.ref (f1 p0 w_NAME w_QUOTED_NAME w_STRING w_COMMENT w_OTHER)), .val (.ref (f0_z1 p0 p5 w_NAME w_QUOTED_NAME w_STRING w_COMMENT w_OTHER)), .val (.int (f0_z2 p1 p3 p5)), .val (.int (f0_z3 p2 p4 p5)), .val (.ref b9), .unset, .unset, .unset, .unset] [(.ref b11)])) (fun _ k => st12.trans k) ?_
  refine go (B := T12.setTop (mkF m 83 #[.val (.int p0), .val (.int p1), .val (.int p2), .val (.int p3), .val (.int p4), .val (.int p5), .val (.ref (f1 p0 w_NAME w_QUOTED_NAME w_STRING w_COMMENT w_OTHER)), .val (.ref (f0_z1 p0 p5 w_NAME w_QUOTED_NAME w_STRING w_COMMENT w_OTHER)), .val (.int (f0_z2 p1 p3 p5)), .val (.int (f0_z3 p2 p4 p5)), .val (.ref b9), .val (.ref b11), .unset, .unset, .unset] [])) (fun _ k => XS.astore X12.here hx rfl (hb hby at_81) rfl rfl (l' := #[.val (.int p0), .val (.int p1), .val (.int p2), .val (.int p3), .val (.int p4), .val (.int p5), .val (.ref (f1 p0 w_NAME w_QUOTED_NAME w_STRING w_COMMENT w_OTHER)), .val (.ref (f0_z1 p0 p5 w_NAME w_QUOTED_NAME w_STRING w_COMMENT w_OTHER)), .val (.int (f0_z2 p1 p3 p5)), .val (.int (f0_z3 p2 p4 p5)), .val (.ref b9), .val (.ref b11), .unset, .unset, .unset]) rfl k) ?_
  refine go (B := T12.setTop (mkF m 84 #[.val (.int p0), .val (.int p1), .val (.int p2), .val (.int p3), .val (.int p4), .val (.int p5), .val (.ref (f1 p0 w_NAME w_QUOTED_NAME w_STRING w_COMMENT w_OTHER)), .val (.ref (f0_z1 p0 p5 w_NAME w_QUOTED_NAME w_STRING w_COMMENT w_OTHER)), .val (.int (f0_z2 p1 p3 p5)), .val (.int (f0_z3 p2 p4 p5)), .val (.ref b9), .val (.ref b11), .unset, .unset, .unset] [(.int p1)])) (fun _ k => XS.iloadN X12.here hx rfl (hb hby at_83) rfl k) ?_
  obtain ⟨_, _, ⟨T13, L13, k13, n13⟩, -, X13, ⟨Lc13, hQ13, l13, y13, z13⟩, st13⟩ := Jvm.LawKit.callS X12 hx (y := (⟨"java/lang/Integer", "valueOf", "(I)Ljava/lang/Integer;"⟩ : MethodName)) hown (mvT hZ (hw _ (List.mem_of_getElem? (i := 23) rfl))) (mvT hZ (hw _ (List.mem_of_getElem? (i := 24) rfl))) (mvT hZ (hw _ (List.mem_of_getElem? (i := 25) rfl))) (mvT hZ (hw _ (List.mem_of_getElem? (i := 26) rfl))) (by decide) (backOf (W := 0) (rm4 l Z aw hw [] p1 w_cache cl_w_cache T12.heap n0 Z12 O12 S_high S_cache B_w_cache) hZ (hw _ (List.mem_of_getElem? (i := 26) rfl)) (hw _ (List.mem_of_getElem? (i := 25) rfl)) (by decide) (by decide)) (g := (mkF m 84 #[.val (.int p0), .val (.int p1), .val (.int p2), .val (.int p3), .val (.int p4), .val (.int p5), .val (.ref (f1 p0 w_NAME w_QUOTED_NAME w_STRING w_COMMENT w_OTHER)), .val (.ref (f0_z1 p0 p5 w_NAME w_QUOTED_NAME w_STRING w_COMMENT w_OTHER)), .val (.int (f0_z2 p1 p3 p5)), .val (.int (f0_z3 p2 p4 p5)), .val (.ref b9), .val (.ref b11), .unset, .unset, .unset] [(.int p1)])) rfl (by rw [hml]; rfl) (argsL := [(.int p1)]) (rest := []) (lenOf pd_4 rfl) rfl (by show 2 * 0 + _ ≤ _; exact Nat.le_of_eq rfl) (hb hby at_84) (fun _ _ => ⟨rfl, rfl, (by decide : 2 + 1 ≤ _), (by decide : 6 + 1 ≤ _)⟩)
  dsimp only [Pt.U, Pt.locs, Pt.cells, Pt.slots] at X13 l13 y13 z13 st13 hQ13
  subst l13 y13 z13
  obtain ⟨r_13, rfl, N13q, Kc13, o13_0⟩ := hQ13
  have O13 := O12.keep Kc13 all0
  have E_b9_13 := E_b9_12.keep Kc13
  have F_kind_b9_13 := F_kind_b9_12.keep Kc13 nin0
  have F_begin_b9_13 := F_begin_b9_12.keep Kc13 nin0
  have F_end_b9_13 := F_end_b9_12.keep Kc13 nin0
  have E_b11_13 := o12_0.keep Kc13
  have F_kind_b11_13 := o12_1.keep Kc13 nin0
  have F_begin_b11_13 := o12_2.keep Kc13 nin0
  have F_end_b11_13 := o12_3.keep Kc13 nin0
  have N13 := Fr.app N12 N13q
  have Z13 := Nat.le_trans Z12 Kc13.1
  refine go (B := T13.setTop (mkF m 87 #[.val (.int p0), .val (.int p1), .val (.int p2), .val (.int p3), .val (.int p4), .val (.int p5), .val (.ref (f1 p0 w_NAME w_QUOTED_NAME w_STRING w_COMMENT w_OTHER)), .val (.ref (f0_z1 p0 p5 w_NAME w_QUOTED_NAME w_STRING w_COMMENT w_OTHER)), .val (.int (f0_z2 p1 p3 p5)), .val (.int (f0_z3 p2 p4 p5)), .val (.ref b9), .val (.ref b11), .unset, .unset, .unset] [(.ref r_13)])) (fun _ k => st13 _ k) ?_
  refine go (B := T13.setTop (mkF m 89 #[.val (.int p0), .val (.int p1), .val (.int p2), .val (.int p3), .val (.int p4), .val (.int p5), .val (.ref (f1 p0 w_NAME w_QUOTED_NAME w_STRING w_COMMENT w_OTHER)), .val (.ref (f0_z1 p0 p5 w_NAME w_QUOTED_NAME w_STRING w_COMMENT w_OTHER)), .val (.int (f0_z2 p1 p3 p5)), .val (.int (f0_z3 p2 p4 p5)), .val (.ref b9), .val (.ref b11), .val (.ref r_13), .unset, .unset] [])) (fun _ k => XS.astore X13.here hx rfl (hb hby at_87) rfl rfl (l' := #[.val (.int p0), .val (.int p1), .val (.int p2), .val (.int p3), .val (.int p4), .val (.int p5), .val (.ref (f1 p0 w_NAME w_QUOTED_NAME w_STRING w_COMMENT w_OTHER)), .val (.ref (f0_z1 p0 p5 w_NAME w_QUOTED_NAME w_STRING w_COMMENT w_OTHER)), .val (.int (f0_z2 p1 p3 p5)), .val (.int (f0_z3 p2 p4 p5)), .val (.ref b9), .val (.ref b11), .val (.ref r_13), .unset, .unset]) rfl k) ?_
  refine go (B := T13.setTop (mkF m 91 #[.val (.int p0), .val (.int p1), .val (.int p2), .val (.int p3), .val (.int p4), .val (.int p5), .val (.ref (f1 p0 w_NAME w_QUOTED_NAME w_STRING w_COMMENT w_OTHER)), .val (.ref (f0_z1 p0 p5 w_NAME w_QUOTED_NAME w_STRING w_COMMENT w_OTHER)), .val (.int (f0_z2 p1 p3 p5)), .val (.int (f0_z3 p2 p4 p5)), .val (.ref b9), .val (.ref b11), .val (.ref r_13), .unset, .unset] [(.int p5)])) (fun _ k => XS.iload X13.here hx rfl (hb hby at_89) rfl k) ?_
  refine go (B := T13.setTop (mkF m 92 #[.val (.int p0), .val (.int p1), .val (.int p2), .val (.int p3), .val (.int p4), .val (.int p5), .val (.ref (f1 p0 w_NAME w_QUOTED_NAME w_STRING w_COMMENT w_OTHER)), .val (.ref (f0_z1 p0 p5 w_NAME w_QUOTED_NAME w_STRING w_COMMENT w_OTHER)), .val (.int (f0_z2 p1 p3 p5)), .val (.int (f0_z3 p2 p4 p5)), .val (.ref b9), .val (.ref b11), .val (.ref r_13), .unset, .unset] [(.int (3 : Int32)), (.int p5)])) (fun _ k => XS.iconst X13.here hx rfl (hb hby at_91) k) ?_
  refine go (B := T13.setTop (mkF m 93 #[.val (.int p0), .val (.int p1), .val (.int p2), .val (.int p3), .val (.int p4), .val (.int p5), .val (.ref (f1 p0 w_NAME w_QUOTED_NAME w_STRING w_COMMENT w_OTHER)), .val (.ref (f0_z1 p0 p5 w_NAME w_QUOTED_NAME w_STRING w_COMMENT w_OTHER)), .val (.int (f0_z2 p1 p3 p5)), .val (.int (f0_z3 p2 p4 p5)), .val (.ref b9), .val (.ref b11), .val (.ref r_13), .unset, .unset] [(.int ((p5.toUInt32 >>> ((3 : Int32) &&& 31).toUInt32).toInt32))])) (fun _ k => XS.iushr X13.here hx rfl (hb hby at_92) rfl k) ?_
  refine go (B := T13.setTop (mkF m 94 #[.val (.int p0), .val (.int p1), .val (.int p2), .val (.int p3), .val (.int p4), .val (.int p5), .val (.ref (f1 p0 w_NAME w_QUOTED_NAME w_STRING w_COMMENT w_OTHER)), .val (.ref (f0_z1 p0 p5 w_NAME w_QUOTED_NAME w_STRING w_COMMENT w_OTHER)), .val (.int (f0_z2 p1 p3 p5)), .val (.int (f0_z3 p2 p4 p5)), .val (.ref b9), .val (.ref b11), .val (.ref r_13), .unset, .unset] [(.int (3 : Int32)), (.int ((p5.toUInt32 >>> ((3 : Int32) &&& 31).toUInt32).toInt32))])) (fun _ k => XS.iconst X13.here hx rfl (hb hby at_93) k) ?_
  refine go (B := T13.setTop (mkF m 95 #[.val (.int p0), .val (.int p1), .val (.int p2), .val (.int p3), .val (.int p4), .val (.int p5), .val (.ref (f1 p0 w_NAME w_QUOTED_NAME w_STRING w_COMMENT w_OTHER)), .val (.ref (f0_z1 p0 p5 w_NAME w_QUOTED_NAME w_STRING w_COMMENT w_OTHER)), .val (.int (f0_z2 p1 p3 p5)), .val (.int (f0_z3 p2 p4 p5)), .val (.ref b9), .val (.ref b11), .val (.ref r_13), .unset, .unset] [(.int (((p5.toUInt32 >>> ((3 : Int32) &&& 31).toUInt32).toInt32) &&& (3 : Int32)))])) (fun _ k => XS.iand X13.here hx rfl (hb hby at_94) rfl k) ?_
  refine go (B := T13.setTop (mkF m 97 #[.val (.int p0), .val (.int p1), .val (.int p2), .val (.int p3), .val (.int p4), .val (.int p5), .val (.ref (f1 p0 w_NAME w_QUOTED_NAME w_STRING w_COMMENT w_OTHER)), .val (.ref (f0_z1 p0 p5 w_NAME w_QUOTED_NAME w_STRING w_COMMENT w_OTHER)), .val (.int (f0_z2 p1 p3 p5)), .val (.int (f0_z3 p2 p4 p5)), .val (.ref b9), .val (.ref b11), .val (.ref r_13), .val (.int (((p5.toUInt32 >>> ((3 : Int32) &&& 31).toUInt32).toInt32) &&& (3 : Int32))), .unset] [])) (fun _ k => XS.istore X13.here hx rfl (hb hby at_95) rfl (l' := #[.val (.int p0), .val (.int p1), .val (.int p2), .val (.int p3), .val (.int p4), .val (.int p5), .val (.ref (f1 p0 w_NAME w_QUOTED_NAME w_STRING w_COMMENT w_OTHER)), .val (.ref (f0_z1 p0 p5 w_NAME w_QUOTED_NAME w_STRING w_COMMENT w_OTHER)), .val (.int (f0_z2 p1 p3 p5)), .val (.int (f0_z3 p2 p4 p5)), .val (.ref b9), .val (.ref b11), .val (.ref r_13), .val (.int (((p5.toUInt32 >>> ((3 : Int32) &&& 31).toUInt32).toInt32) &&& (3 : Int32))), .unset]) rfl k) ?_
  refine go (B := T13.setTop (mkF m 99 #[.val (.int p0), .val (.int p1), .val (.int p2), .val (.int p3), .val (.int p4), .val (.int p5), .val (.ref (f1 p0 w_NAME w_QUOTED_NAME w_STRING w_COMMENT w_OTHER)), .val (.ref (f0_z1 p0 p5 w_NAME w_QUOTED_NAME w_STRING w_COMMENT w_OTHER)), .val (.int (f0_z2 p1 p3 p5)), .val (.int (f0_z3 p2 p4 p5)), .val (.ref b9), .val (.ref b11), .val (.ref r_13), .val (.int (((p5.toUInt32 >>> ((3 : Int32) &&& 31).toUInt32).toInt32) &&& (3 : Int32))), .unset] [(.int (((p5.toUInt32 >>> ((3 : Int32) &&& 31).toUInt32).toInt32) &&& (3 : Int32)))])) (fun _ k => XS.iload X13.here hx rfl (hb hby at_97) rfl k) ?_
  refine go (B := T13.setTop (mkF m 100 #[.val (.int p0), .val (.int p1), .val (.int p2), .val (.int p3), .val (.int p4), .val (.int p5), .val (.ref (f1 p0 w_NAME w_QUOTED_NAME w_STRING w_COMMENT w_OTHER)), .val (.ref (f0_z1 p0 p5 w_NAME w_QUOTED_NAME w_STRING w_COMMENT w_OTHER)), .val (.int (f0_z2 p1 p3 p5)), .val (.int (f0_z3 p2 p4 p5)), .val (.ref b9), .val (.ref b11), .val (.ref r_13), .val (.int (((p5.toUInt32 >>> ((3 : Int32) &&& 31).toUInt32).toInt32) &&& (3 : Int32))), .unset] [(.int (1 : Int32)), (.int (((p5.toUInt32 >>> ((3 : Int32) &&& 31).toUInt32).toInt32) &&& (3 : Int32)))])) (fun _ k => XS.iconst X13.here hx rfl (hb hby at_99) k) ?_
  by_cases hc14 : (((p5.toUInt32 >>> ((3 : Int32) &&& 31).toUInt32).toInt32) &&& (3 : Int32)) = (1 : Int32)
  · refine go (B := T13.setTop (mkF m 103 #[.val (.int p0), .val (.int p1), .val (.int p2), .val (.int p3), .val (.int p4), .val (.int p5), .val (.ref (f1 p0 w_NAME w_QUOTED_NAME w_STRING w_COMMENT w_OTHER)), .val (.ref (f0_z1 p0 p5 w_NAME w_QUOTED_NAME w_STRING w_COMMENT w_OTHER)), .val (.int (f0_z2 p1 p3 p5)), .val (.int (f0_z3 p2 p4 p5)), .val (.ref b9), .val (.ref b11), .val (.ref r_13), .val (.int (((p5.toUInt32 >>> ((3 : Int32) &&& 31).toUInt32).toInt32) &&& (3 : Int32))), .unset] [])) (fun _ k => XS.icmpNo X13.here hx rfl (hb hby at_100) rfl (teq hc14).2 k) ?_
    refine go (B := T13.setTop (mkF m 105 #[.val (.int p0), .val (.int p1), .val (.int p2), .val (.int p3), .val (.int p4), .val (.int p5), .val (.ref (f1 p0 w_NAME w_QUOTED_NAME w_STRING w_COMMENT w_OTHER)), .val (.ref (f0_z1 p0 p5 w_NAME w_QUOTED_NAME w_STRING w_COMMENT w_OTHER)), .val (.int (f0_z2 p1 p3 p5)), .val (.int (f0_z3 p2 p4 p5)), .val (.ref b9), .val (.ref b11), .val (.ref r_13), .val (.int (((p5.toUInt32 >>> ((3 : Int32) &&& 31).toUInt32).toInt32) &&& (3 : Int32))), .unset] [(.ref b9)])) (fun _ k => XS.aload X13.here hx rfl (hb hby at_103) rfl rfl k) ?_
    refine go (B := T13.setTop (mkF m 106 #[.val (.int p0), .val (.int p1), .val (.int p2), .val (.int p3), .val (.int p4), .val (.int p5), .val (.ref (f1 p0 w_NAME w_QUOTED_NAME w_STRING w_COMMENT w_OTHER)), .val (.ref (f0_z1 p0 p5 w_NAME w_QUOTED_NAME w_STRING w_COMMENT w_OTHER)), .val (.int (f0_z2 p1 p3 p5)), .val (.int (f0_z3 p2 p4 p5)), .val (.ref b9), .val (.ref b11), .val (.ref r_13), .val (.int (((p5.toUInt32 >>> ((3 : Int32) &&& 31).toUInt32).toInt32) &&& (3 : Int32))), .unset] [.null, (.ref b9)])) (fun _ k => XS.aconstNull X13.here hx rfl (hb hby at_105) k) ?_
    obtain ⟨cq15, kq15, q15a, q15b, q15c⟩ := isOf hZ rfl E_b9_13
    obtain ⟨_, _, ⟨T15, L15, k15, n15⟩, -, X15, ⟨Lc15, hQ15, l15, y15, z15⟩, st15⟩ := X13.virtualBack hx (y := (⟨"com/example/purposeward/purposeward/Lexeme", "equals", "(Ljava/lang/Object;)Z"⟩ : MethodName)) (z := (⟨"com/example/purposeward/purposeward/Lexeme", "equals", "(Ljava/lang/Object;)Z"⟩ : MethodName)) hown (mvT hZ (hw _ (List.mem_of_getElem? (i := 30) rfl))) (mvT hZ (hw _ (List.mem_of_getElem? (i := 31) rfl))) (notFace_of_selects (args := #[]) (mvT hZ (hw _ (List.mem_of_getElem? (i := 33) rfl)))) (mvT hZ (hw _ (List.mem_of_getElem? (i := 33) rfl))) (mvT hZ (hw _ (List.mem_of_getElem? (i := 32) rfl))) (by decide) (backOf (W := 0) (rm5n l Z aw hw [] b9 T13.heap n0 Z13 O13) hZ (hw _ (List.mem_of_getElem? (i := 34) rfl)) (hw _ (List.mem_of_getElem? (i := 10) rfl)) (by decide) (by decide)) q15a q15c (g := (mkF m 106 #[.val (.int p0), .val (.int p1), .val (.int p2), .val (.int p3), .val (.int p4), .val (.int p5), .val (.ref (f1 p0 w_NAME w_QUOTED_NAME w_STRING w_COMMENT w_OTHER)), .val (.ref (f0_z1 p0 p5 w_NAME w_QUOTED_NAME w_STRING w_COMMENT w_OTHER)), .val (.int (f0_z2 p1 p3 p5)), .val (.int (f0_z3 p2 p4 p5)), .val (.ref b9), .val (.ref b11), .val (.ref r_13), .val (.int (((p5.toUInt32 >>> ((3 : Int32) &&& 31).toUInt32).toInt32) &&& (3 : Int32))), .unset] [.null, (.ref b9)])) rfl (by rw [hml]; rfl) (Steps.refl _) (argsL := [.null]) (rest := []) (lenOf pd_5 rfl) rfl (by show 2 * 0 + _ ≤ _; exact Nat.le_of_eq rfl) (hb hby at_106) (fun _ _ => ⟨rfl, rfl, (by decide : 3 + 0 ≤ _), (by decide : 7 + 0 ≤ _)⟩)
    dsimp only [Pt.U, Pt.locs, Pt.cells, Pt.slots] at X15 l15 y15 z15 st15 hQ15
    subst l15 y15 z15
    obtain ⟨rfl, rfl, e15⟩ := hQ15
    have N15 := Fr.app N13 (Fr.nil n0)
    refine go (B := T15.setTop (mkF m 109 #[.val (.int p0), .val (.int p1), .val (.int p2), .val (.int p3), .val (.int p4), .val (.int p5), .val (.ref (f1 p0 w_NAME w_QUOTED_NAME w_STRING w_COMMENT w_OTHER)), .val (.ref (f0_z1 p0 p5 w_NAME w_QUOTED_NAME w_STRING w_COMMENT w_OTHER)), .val (.int (f0_z2 p1 p3 p5)), .val (.int (f0_z3 p2 p4 p5)), .val (.ref b9), .val (.ref b11), .val (.ref r_13), .val (.int (((p5.toUInt32 >>> ((3 : Int32) &&& 31).toUInt32).toInt32) &&& (3 : Int32))), .unset] [(.int f5n)])) (fun _ k => st15.trans k) ?_
    by_cases hc16 : f5n = (0 : Int32)
    · refine go (B := T15.setTop (mkF m 112 #[.val (.int p0), .val (.int p1), .val (.int p2), .val (.int p3), .val (.int p4), .val (.int p5), .val (.ref (f1 p0 w_NAME w_QUOTED_NAME w_STRING w_COMMENT w_OTHER)), .val (.ref (f0_z1 p0 p5 w_NAME w_QUOTED_NAME w_STRING w_COMMENT w_OTHER)), .val (.int (f0_z2 p1 p3 p5)), .val (.int (f0_z3 p2 p4 p5)), .val (.ref b9), .val (.ref b11), .val (.ref r_13), .val (.int (((p5.toUInt32 >>> ((3 : Int32) &&& 31).toUInt32).toInt32) &&& (3 : Int32))), .unset] [])) (fun _ k => XS.ifNo X15.here hx rfl (hb hby at_109) rfl ((if0 _ _).trans (teq hc16).2) k) ?_
      refine go (B := T15.setTop (mkF m 113 #[.val (.int p0), .val (.int p1), .val (.int p2), .val (.int p3), .val (.int p4), .val (.int p5), .val (.ref (f1 p0 w_NAME w_QUOTED_NAME w_STRING w_COMMENT w_OTHER)), .val (.ref (f0_z1 p0 p5 w_NAME w_QUOTED_NAME w_STRING w_COMMENT w_OTHER)), .val (.int (f0_z2 p1 p3 p5)), .val (.int (f0_z3 p2 p4 p5)), .val (.ref b9), .val (.ref b11), .val (.ref r_13), .val (.int (((p5.toUInt32 >>> ((3 : Int32) &&& 31).toUInt32).toInt32) &&& (3 : Int32))), .unset] [(.int (1 : Int32))])) (fun _ k => XS.iconst X15.here hx rfl (hb hby at_112) k) ?_
      refine go (B := T15.setTop (mkF m 117 #[.val (.int p0), .val (.int p1), .val (.int p2), .val (.int p3), .val (.int p4), .val (.int p5), .val (.ref (f1 p0 w_NAME w_QUOTED_NAME w_STRING w_COMMENT w_OTHER)), .val (.ref (f0_z1 p0 p5 w_NAME w_QUOTED_NAME w_STRING w_COMMENT w_OTHER)), .val (.int (f0_z2 p1 p3 p5)), .val (.int (f0_z3 p2 p4 p5)), .val (.ref b9), .val (.ref b11), .val (.ref r_13), .val (.int (((p5.toUInt32 >>> ((3 : Int32) &&& 31).toUInt32).toInt32) &&& (3 : Int32))), .unset] [(.int (1 : Int32))])) (fun _ k => XS.goto X15.here hx rfl (pc0 := 113) (pc' := 117) rfl (hb hby at_113) (by decide) (by decide) k) ?_
      have r17 : (f0 p0 p1 p2 p3 p4 p5 w_NAME w_QUOTED_NAME w_STRING w_COMMENT w_OTHER) = (1 : Int32) := by unfold f0; rw [if_pos hc14, if_pos hc16]
      exact end_nar X15 hx Bd.notSynchronized (t := .boolean) Bd.returns (by simp) (hb hby at_117) hF e15 (by decide) (by decide) ⟨(congrArg (fun z => some (Value.int z)) (r17.symm.trans (own_law p0 p1 p2 p3 p4 p5 w_NAME w_QUOTED_NAME w_STRING w_COMMENT w_OTHER))), N15⟩
    · refine go (B := T15.setTop (mkF m 116 #[.val (.int p0), .val (.int p1), .val (.int p2), .val (.int p3), .val (.int p4), .val (.int p5), .val (.ref (f1 p0 w_NAME w_QUOTED_NAME w_STRING w_COMMENT w_OTHER)), .val (.ref (f0_z1 p0 p5 w_NAME w_QUOTED_NAME w_STRING w_COMMENT w_OTHER)), .val (.int (f0_z2 p1 p3 p5)), .val (.int (f0_z3 p2 p4 p5)), .val (.ref b9), .val (.ref b11), .val (.ref r_13), .val (.int (((p5.toUInt32 >>> ((3 : Int32) &&& 31).toUInt32).toInt32) &&& (3 : Int32))), .unset] [])) (fun _ k => XS.ifYes X15.here hx rfl (pc0 := 109) (pc' := 116) rfl (hb hby at_109) rfl ((if0 _ _).trans (feq hc16).2) (by decide) (by decide) k) ?_
      refine go (B := T15.setTop (mkF m 117 #[.val (.int p0), .val (.int p1), .val (.int p2), .val (.int p3), .val (.int p4), .val (.int p5), .val (.ref (f1 p0 w_NAME w_QUOTED_NAME w_STRING w_COMMENT w_OTHER)), .val (.ref (f0_z1 p0 p5 w_NAME w_QUOTED_NAME w_STRING w_COMMENT w_OTHER)), .val (.int (f0_z2 p1 p3 p5)), .val (.int (f0_z3 p2 p4 p5)), .val (.ref b9), .val (.ref b11), .val (.ref r_13), .val (.int (((p5.toUInt32 >>> ((3 : Int32) &&& 31).toUInt32).toInt32) &&& (3 : Int32))), .unset] [(.int (0 : Int32))])) (fun _ k => XS.iconst X15.here hx rfl (hb hby at_116) k) ?_
      have r18 : (f0 p0 p1 p2 p3 p4 p5 w_NAME w_QUOTED_NAME w_STRING w_COMMENT w_OTHER) = (0 : Int32) := by unfold f0; rw [if_pos hc14, if_neg hc16]
      exact end_nar X15 hx Bd.notSynchronized (t := .boolean) Bd.returns (by simp) (hb hby at_117) hF e15 (by decide) (by decide) ⟨(congrArg (fun z => some (Value.int z)) (r18.symm.trans (own_law p0 p1 p2 p3 p4 p5 w_NAME w_QUOTED_NAME w_STRING w_COMMENT w_OTHER))), N15⟩
  · refine go (B := T13.setTop (mkF m 118 #[.val (.int p0), .val (.int p1), .val (.int p2), .val (.int p3), .val (.int p4), .val (.int p5), .val (.ref (f1 p0 w_NAME w_QUOTED_NAME w_STRING w_COMMENT w_OTHER)), .val (.ref (f0_z1 p0 p5 w_NAME w_QUOTED_NAME w_STRING w_COMMENT w_OTHER)), .val (.int (f0_z2 p1 p3 p5)), .val (.int (f0_z3 p2 p4 p5)), .val (.ref b9), .val (.ref b11), .val (.ref r_13), .val (.int (((p5.toUInt32 >>> ((3 : Int32) &&& 31).toUInt32).toInt32) &&& (3 : Int32))), .unset] [])) (fun _ k => XS.icmpYes X13.here hx rfl (pc0 := 100) (pc' := 118) rfl (hb hby at_100) rfl (feq hc14).2 (by decide) (by decide) k) ?_
    refine go (B := T13.setTop (mkF m 120 #[.val (.int p0), .val (.int p1), .val (.int p2), .val (.int p3), .val (.int p4), .val (.int p5), .val (.ref (f1 p0 w_NAME w_QUOTED_NAME w_STRING w_COMMENT w_OTHER)), .val (.ref (f0_z1 p0 p5 w_NAME w_QUOTED_NAME w_STRING w_COMMENT w_OTHER)), .val (.int (f0_z2 p1 p3 p5)), .val (.int (f0_z3 p2 p4 p5)), .val (.ref b9), .val (.ref b11), .val (.ref r_13), .val (.int (((p5.toUInt32 >>> ((3 : Int32) &&& 31).toUInt32).toInt32) &&& (3 : Int32))), .unset] [(.int (((p5.toUInt32 >>> ((3 : Int32) &&& 31).toUInt32).toInt32) &&& (3 : Int32)))])) (fun _ k => XS.iload X13.here hx rfl (hb hby at_118) rfl k) ?_
    refine go (B := T13.setTop (mkF m 121 #[.val (.int p0), .val (.int p1), .val (.int p2), .val (.int p3), .val (.int p4), .val (.int p5), .val (.ref (f1 p0 w_NAME w_QUOTED_NAME w_STRING w_COMMENT w_OTHER)), .val (.ref (f0_z1 p0 p5 w_NAME w_QUOTED_NAME w_STRING w_COMMENT w_OTHER)), .val (.int (f0_z2 p1 p3 p5)), .val (.int (f0_z3 p2 p4 p5)), .val (.ref b9), .val (.ref b11), .val (.ref r_13), .val (.int (((p5.toUInt32 >>> ((3 : Int32) &&& 31).toUInt32).toInt32) &&& (3 : Int32))), .unset] [(.int (2 : Int32)), (.int (((p5.toUInt32 >>> ((3 : Int32) &&& 31).toUInt32).toInt32) &&& (3 : Int32)))])) (fun _ k => XS.iconst X13.here hx rfl (hb hby at_120) k) ?_
    by_cases hc19 : (((p5.toUInt32 >>> ((3 : Int32) &&& 31).toUInt32).toInt32) &&& (3 : Int32)) = (2 : Int32)
    · refine go (B := T13.setTop (mkF m 124 #[.val (.int p0), .val (.int p1), .val (.int p2), .val (.int p3), .val (.int p4), .val (.int p5), .val (.ref (f1 p0 w_NAME w_QUOTED_NAME w_STRING w_COMMENT w_OTHER)), .val (.ref (f0_z1 p0 p5 w_NAME w_QUOTED_NAME w_STRING w_COMMENT w_OTHER)), .val (.int (f0_z2 p1 p3 p5)), .val (.int (f0_z3 p2 p4 p5)), .val (.ref b9), .val (.ref b11), .val (.ref r_13), .val (.int (((p5.toUInt32 >>> ((3 : Int32) &&& 31).toUInt32).toInt32) &&& (3 : Int32))), .unset] [])) (fun _ k => XS.icmpNo X13.here hx rfl (hb hby at_121) rfl (teq hc19).2 k) ?_
      refine go (B := T13.setTop (mkF m 126 #[.val (.int p0), .val (.int p1), .val (.int p2), .val (.int p3), .val (.int p4), .val (.int p5), .val (.ref (f1 p0 w_NAME w_QUOTED_NAME w_STRING w_COMMENT w_OTHER)), .val (.ref (f0_z1 p0 p5 w_NAME w_QUOTED_NAME w_STRING w_COMMENT w_OTHER)), .val (.int (f0_z2 p1 p3 p5)), .val (.int (f0_z3 p2 p4 p5)), .val (.ref b9), .val (.ref b11), .val (.ref r_13), .val (.int (((p5.toUInt32 >>> ((3 : Int32) &&& 31).toUInt32).toInt32) &&& (3 : Int32))), .unset] [(.ref b9)])) (fun _ k => XS.aload X13.here hx rfl (hb hby at_124) rfl rfl k) ?_
      refine go (B := T13.setTop (mkF m 128 #[.val (.int p0), .val (.int p1), .val (.int p2), .val (.int p3), .val (.int p4), .val (.int p5), .val (.ref (f1 p0 w_NAME w_QUOTED_NAME w_STRING w_COMMENT w_OTHER)), .val (.ref (f0_z1 p0 p5 w_NAME w_QUOTED_NAME w_STRING w_COMMENT w_OTHER)), .val (.int (f0_z2 p1 p3 p5)), .val (.int (f0_z3 p2 p4 p5)), .val (.ref b9), .val (.ref b11), .val (.ref r_13), .val (.int (((p5.toUInt32 >>> ((3 : Int32) &&& 31).toUInt32).toInt32) &&& (3 : Int32))), .unset] [(.ref r_13), (.ref b9)])) (fun _ k => XS.aload X13.here hx rfl (hb hby at_126) rfl rfl k) ?_
      obtain ⟨cq20, kq20, q20a, q20b, q20c⟩ := isOf hZ rfl E_b9_13
      obtain ⟨_, _, ⟨T20, L20, k20, n20⟩, -, X20, ⟨Lc20, hQ20, l20, y20, z20⟩, st20⟩ := X13.virtualBack hx (y := (⟨"com/example/purposeward/purposeward/Lexeme", "equals", "(Ljava/lang/Object;)Z"⟩ : MethodName)) (z := (⟨"com/example/purposeward/purposeward/Lexeme", "equals", "(Ljava/lang/Object;)Z"⟩ : MethodName)) hown (mvT hZ (hw _ (List.mem_of_getElem? (i := 30) rfl))) (mvT hZ (hw _ (List.mem_of_getElem? (i := 31) rfl))) (notFace_of_selects (args := #[]) (mvT hZ (hw _ (List.mem_of_getElem? (i := 33) rfl)))) (mvT hZ (hw _ (List.mem_of_getElem? (i := 33) rfl))) (mvT hZ (hw _ (List.mem_of_getElem? (i := 32) rfl))) (by decide) (backOf (W := 0) (rm5i l Z aw hw [] b9 r_13 T13.heap n0 Z13 O13 o13_0) hZ (hw _ (List.mem_of_getElem? (i := 34) rfl)) (hw _ (List.mem_of_getElem? (i := 10) rfl)) (by decide) (by decide)) q20a q20c (g := (mkF m 128 #[.val (.int p0), .val (.int p1), .val (.int p2), .val (.int p3), .val (.int p4), .val (.int p5), .val (.ref (f1 p0 w_NAME w_QUOTED_NAME w_STRING w_COMMENT w_OTHER)), .val (.ref (f0_z1 p0 p5 w_NAME w_QUOTED_NAME w_STRING w_COMMENT w_OTHER)), .val (.int (f0_z2 p1 p3 p5)), .val (.int (f0_z3 p2 p4 p5)), .val (.ref b9), .val (.ref b11), .val (.ref r_13), .val (.int (((p5.toUInt32 >>> ((3 : Int32) &&& 31).toUInt32).toInt32) &&& (3 : Int32))), .unset] [(.ref r_13), (.ref b9)])) rfl (by rw [hml]; rfl) (Steps.refl _) (argsL := [(.ref r_13)]) (rest := []) (lenOf pd_5 rfl) rfl (by show 2 * 0 + _ ≤ _; exact Nat.le_of_eq rfl) (hb hby at_128) (fun _ _ => ⟨rfl, rfl, (by decide : 3 + 0 ≤ _), (by decide : 7 + 0 ≤ _)⟩)
      dsimp only [Pt.U, Pt.locs, Pt.cells, Pt.slots] at X20 l20 y20 z20 st20 hQ20
      subst l20 y20 z20
      obtain ⟨rfl, rfl, e20⟩ := hQ20
      have N20 := Fr.app N13 (Fr.nil n0)
      refine go (B := T20.setTop (mkF m 131 #[.val (.int p0), .val (.int p1), .val (.int p2), .val (.int p3), .val (.int p4), .val (.int p5), .val (.ref (f1 p0 w_NAME w_QUOTED_NAME w_STRING w_COMMENT w_OTHER)), .val (.ref (f0_z1 p0 p5 w_NAME w_QUOTED_NAME w_STRING w_COMMENT w_OTHER)), .val (.int (f0_z2 p1 p3 p5)), .val (.int (f0_z3 p2 p4 p5)), .val (.ref b9), .val (.ref b11), .val (.ref r_13), .val (.int (((p5.toUInt32 >>> ((3 : Int32) &&& 31).toUInt32).toInt32) &&& (3 : Int32))), .unset] [(.int f5i)])) (fun _ k => st20.trans k) ?_
      by_cases hc21 : f5i = (0 : Int32)
      · refine go (B := T20.setTop (mkF m 134 #[.val (.int p0), .val (.int p1), .val (.int p2), .val (.int p3), .val (.int p4), .val (.int p5), .val (.ref (f1 p0 w_NAME w_QUOTED_NAME w_STRING w_COMMENT w_OTHER)), .val (.ref (f0_z1 p0 p5 w_NAME w_QUOTED_NAME w_STRING w_COMMENT w_OTHER)), .val (.int (f0_z2 p1 p3 p5)), .val (.int (f0_z3 p2 p4 p5)), .val (.ref b9), .val (.ref b11), .val (.ref r_13), .val (.int (((p5.toUInt32 >>> ((3 : Int32) &&& 31).toUInt32).toInt32) &&& (3 : Int32))), .unset] [])) (fun _ k => XS.ifNo X20.here hx rfl (hb hby at_131) rfl ((if0 _ _).trans (teq hc21).2) k) ?_
        refine go (B := T20.setTop (mkF m 135 #[.val (.int p0), .val (.int p1), .val (.int p2), .val (.int p3), .val (.int p4), .val (.int p5), .val (.ref (f1 p0 w_NAME w_QUOTED_NAME w_STRING w_COMMENT w_OTHER)), .val (.ref (f0_z1 p0 p5 w_NAME w_QUOTED_NAME w_STRING w_COMMENT w_OTHER)), .val (.int (f0_z2 p1 p3 p5)), .val (.int (f0_z3 p2 p4 p5)), .val (.ref b9), .val (.ref b11), .val (.ref r_13), .val (.int (((p5.toUInt32 >>> ((3 : Int32) &&& 31).toUInt32).toInt32) &&& (3 : Int32))), .unset] [(.int (1 : Int32))])) (fun _ k => XS.iconst X20.here hx rfl (hb hby at_134) k) ?_
        refine go (B := T20.setTop (mkF m 139 #[.val (.int p0), .val (.int p1), .val (.int p2), .val (.int p3), .val (.int p4), .val (.int p5), .val (.ref (f1 p0 w_NAME w_QUOTED_NAME w_STRING w_COMMENT w_OTHER)), .val (.ref (f0_z1 p0 p5 w_NAME w_QUOTED_NAME w_STRING w_COMMENT w_OTHER)), .val (.int (f0_z2 p1 p3 p5)), .val (.int (f0_z3 p2 p4 p5)), .val (.ref b9), .val (.ref b11), .val (.ref r_13), .val (.int (((p5.toUInt32 >>> ((3 : Int32) &&& 31).toUInt32).toInt32) &&& (3 : Int32))), .unset] [(.int (1 : Int32))])) (fun _ k => XS.goto X20.here hx rfl (pc0 := 135) (pc' := 139) rfl (hb hby at_135) (by decide) (by decide) k) ?_
        have r22 : (f0 p0 p1 p2 p3 p4 p5 w_NAME w_QUOTED_NAME w_STRING w_COMMENT w_OTHER) = (1 : Int32) := by unfold f0; rw [if_neg hc14, if_pos hc19, if_pos hc21]
        exact end_nar X20 hx Bd.notSynchronized (t := .boolean) Bd.returns (by simp) (hb hby at_139) hF e20 (by decide) (by decide) ⟨(congrArg (fun z => some (Value.int z)) (r22.symm.trans (own_law p0 p1 p2 p3 p4 p5 w_NAME w_QUOTED_NAME w_STRING w_COMMENT w_OTHER))), N20⟩
      · refine go (B := T20.setTop (mkF m 138 #[.val (.int p0), .val (.int p1), .val (.int p2), .val (.int p3), .val (.int p4), .val (.int p5), .val (.ref (f1 p0 w_NAME w_QUOTED_NAME w_STRING w_COMMENT w_OTHER)), .val (.ref (f0_z1 p0 p5 w_NAME w_QUOTED_NAME w_STRING w_COMMENT w_OTHER)), .val (.int (f0_z2 p1 p3 p5)), .val (.int (f0_z3 p2 p4 p5)), .val (.ref b9), .val (.ref b11), .val (.ref r_13), .val (.int (((p5.toUInt32 >>> ((3 : Int32) &&& 31).toUInt32).toInt32) &&& (3 : Int32))), .unset] [])) (fun _ k => XS.ifYes X20.here hx rfl (pc0 := 131) (pc' := 138) rfl (hb hby at_131) rfl ((if0 _ _).trans (feq hc21).2) (by decide) (by decide) k) ?_
        refine go (B := T20.setTop (mkF m 139 #[.val (.int p0), .val (.int p1), .val (.int p2), .val (.int p3), .val (.int p4), .val (.int p5), .val (.ref (f1 p0 w_NAME w_QUOTED_NAME w_STRING w_COMMENT w_OTHER)), .val (.ref (f0_z1 p0 p5 w_NAME w_QUOTED_NAME w_STRING w_COMMENT w_OTHER)), .val (.int (f0_z2 p1 p3 p5)), .val (.int (f0_z3 p2 p4 p5)), .val (.ref b9), .val (.ref b11), .val (.ref r_13), .val (.int (((p5.toUInt32 >>> ((3 : Int32) &&& 31).toUInt32).toInt32) &&& (3 : Int32))), .unset] [(.int (0 : Int32))])) (fun _ k => XS.iconst X20.here hx rfl (hb hby at_138) k) ?_
        have r23 : (f0 p0 p1 p2 p3 p4 p5 w_NAME w_QUOTED_NAME w_STRING w_COMMENT w_OTHER) = (0 : Int32) := by unfold f0; rw [if_neg hc14, if_pos hc19, if_neg hc21]
        exact end_nar X20 hx Bd.notSynchronized (t := .boolean) Bd.returns (by simp) (hb hby at_139) hF e20 (by decide) (by decide) ⟨(congrArg (fun z => some (Value.int z)) (r23.symm.trans (own_law p0 p1 p2 p3 p4 p5 w_NAME w_QUOTED_NAME w_STRING w_COMMENT w_OTHER))), N20⟩
    · refine go (B := T13.setTop (mkF m 140 #[.val (.int p0), .val (.int p1), .val (.int p2), .val (.int p3), .val (.int p4), .val (.int p5), .val (.ref (f1 p0 w_NAME w_QUOTED_NAME w_STRING w_COMMENT w_OTHER)), .val (.ref (f0_z1 p0 p5 w_NAME w_QUOTED_NAME w_STRING w_COMMENT w_OTHER)), .val (.int (f0_z2 p1 p3 p5)), .val (.int (f0_z3 p2 p4 p5)), .val (.ref b9), .val (.ref b11), .val (.ref r_13), .val (.int (((p5.toUInt32 >>> ((3 : Int32) &&& 31).toUInt32).toInt32) &&& (3 : Int32))), .unset] [])) (fun _ k => XS.icmpYes X13.here hx rfl (pc0 := 121) (pc' := 140) rfl (hb hby at_121) rfl (feq hc19).2 (by decide) (by decide) k) ?_
      refine go (B := T13.setTop (mkF m 142 #[.val (.int p0), .val (.int p1), .val (.int p2), .val (.int p3), .val (.int p4), .val (.int p5), .val (.ref (f1 p0 w_NAME w_QUOTED_NAME w_STRING w_COMMENT w_OTHER)), .val (.ref (f0_z1 p0 p5 w_NAME w_QUOTED_NAME w_STRING w_COMMENT w_OTHER)), .val (.int (f0_z2 p1 p3 p5)), .val (.int (f0_z3 p2 p4 p5)), .val (.ref b9), .val (.ref b11), .val (.ref r_13), .val (.int (((p5.toUInt32 >>> ((3 : Int32) &&& 31).toUInt32).toInt32) &&& (3 : Int32))), .unset] [(.int (((p5.toUInt32 >>> ((3 : Int32) &&& 31).toUInt32).toInt32) &&& (3 : Int32)))])) (fun _ k => XS.iload X13.here hx rfl (hb hby at_140) rfl k) ?_
      refine go (B := T13.setTop (mkF m 143 #[.val (.int p0), .val (.int p1), .val (.int p2), .val (.int p3), .val (.int p4), .val (.int p5), .val (.ref (f1 p0 w_NAME w_QUOTED_NAME w_STRING w_COMMENT w_OTHER)), .val (.ref (f0_z1 p0 p5 w_NAME w_QUOTED_NAME w_STRING w_COMMENT w_OTHER)), .val (.int (f0_z2 p1 p3 p5)), .val (.int (f0_z3 p2 p4 p5)), .val (.ref b9), .val (.ref b11), .val (.ref r_13), .val (.int (((p5.toUInt32 >>> ((3 : Int32) &&& 31).toUInt32).toInt32) &&& (3 : Int32))), .unset] [(.int (3 : Int32)), (.int (((p5.toUInt32 >>> ((3 : Int32) &&& 31).toUInt32).toInt32) &&& (3 : Int32)))])) (fun _ k => XS.iconst X13.here hx rfl (hb hby at_142) k) ?_
      by_cases hc24 : (((p5.toUInt32 >>> ((3 : Int32) &&& 31).toUInt32).toInt32) &&& (3 : Int32)) = (3 : Int32)
      · refine go (B := T13.setTop (mkF m 146 #[.val (.int p0), .val (.int p1), .val (.int p2), .val (.int p3), .val (.int p4), .val (.int p5), .val (.ref (f1 p0 w_NAME w_QUOTED_NAME w_STRING w_COMMENT w_OTHER)), .val (.ref (f0_z1 p0 p5 w_NAME w_QUOTED_NAME w_STRING w_COMMENT w_OTHER)), .val (.int (f0_z2 p1 p3 p5)), .val (.int (f0_z3 p2 p4 p5)), .val (.ref b9), .val (.ref b11), .val (.ref r_13), .val (.int (((p5.toUInt32 >>> ((3 : Int32) &&& 31).toUInt32).toInt32) &&& (3 : Int32))), .unset] [])) (fun _ k => XS.icmpNo X13.here hx rfl (hb hby at_143) rfl (teq hc24).2 k) ?_
        refine go (B := T13.setTop (mkF m 148 #[.val (.int p0), .val (.int p1), .val (.int p2), .val (.int p3), .val (.int p4), .val (.int p5), .val (.ref (f1 p0 w_NAME w_QUOTED_NAME w_STRING w_COMMENT w_OTHER)), .val (.ref (f0_z1 p0 p5 w_NAME w_QUOTED_NAME w_STRING w_COMMENT w_OTHER)), .val (.int (f0_z2 p1 p3 p5)), .val (.int (f0_z3 p2 p4 p5)), .val (.ref b9), .val (.ref b11), .val (.ref r_13), .val (.int (((p5.toUInt32 >>> ((3 : Int32) &&& 31).toUInt32).toInt32) &&& (3 : Int32))), .unset] [(.ref b9)])) (fun _ k => XS.aload X13.here hx rfl (hb hby at_146) rfl rfl k) ?_
        refine go (B := T13.setTop (mkF m 150 #[.val (.int p0), .val (.int p1), .val (.int p2), .val (.int p3), .val (.int p4), .val (.int p5), .val (.ref (f1 p0 w_NAME w_QUOTED_NAME w_STRING w_COMMENT w_OTHER)), .val (.ref (f0_z1 p0 p5 w_NAME w_QUOTED_NAME w_STRING w_COMMENT w_OTHER)), .val (.int (f0_z2 p1 p3 p5)), .val (.int (f0_z3 p2 p4 p5)), .val (.ref b9), .val (.ref b11), .val (.ref r_13), .val (.int (((p5.toUInt32 >>> ((3 : Int32) &&& 31).toUInt32).toInt32) &&& (3 : Int32))), .unset] [(.ref b9), (.ref b9)])) (fun _ k => XS.aload X13.here hx rfl (hb hby at_148) rfl rfl k) ?_
        obtain ⟨cq25, kq25, q25a, q25b, q25c⟩ := isOf hZ rfl E_b9_13
        obtain ⟨_, _, ⟨T25, L25, k25, n25⟩, -, X25, ⟨Lc25, hQ25, l25, y25, z25⟩, st25⟩ := X13.virtualBack hx (y := (⟨"com/example/purposeward/purposeward/Lexeme", "equals", "(Ljava/lang/Object;)Z"⟩ : MethodName)) (z := (⟨"com/example/purposeward/purposeward/Lexeme", "equals", "(Ljava/lang/Object;)Z"⟩ : MethodName)) hown (mvT hZ (hw _ (List.mem_of_getElem? (i := 30) rfl))) (mvT hZ (hw _ (List.mem_of_getElem? (i := 31) rfl))) (notFace_of_selects (args := #[]) (mvT hZ (hw _ (List.mem_of_getElem? (i := 33) rfl)))) (mvT hZ (hw _ (List.mem_of_getElem? (i := 33) rfl))) (mvT hZ (hw _ (List.mem_of_getElem? (i := 32) rfl))) (by decide) (backOf (W := 0) (rm5x l Z aw hw [] b9 b9 (f1 p0 w_NAME w_QUOTED_NAME w_STRING w_COMMENT w_OTHER) (f1 p0 w_NAME w_QUOTED_NAME w_STRING w_COMMENT w_OTHER) p1 p1 p2 p2 T13.heap n0 Z13 O13 E_b9_13 F_kind_b9_13 F_kind_b9_13 F_begin_b9_13 F_begin_b9_13 F_end_b9_13 F_end_b9_13) hZ (hw _ (List.mem_of_getElem? (i := 34) rfl)) (hw _ (List.mem_of_getElem? (i := 10) rfl)) (by decide) (by decide)) q25a q25c (g := (mkF m 150 #[.val (.int p0), .val (.int p1), .val (.int p2), .val (.int p3), .val (.int p4), .val (.int p5), .val (.ref (f1 p0 w_NAME w_QUOTED_NAME w_STRING w_COMMENT w_OTHER)), .val (.ref (f0_z1 p0 p5 w_NAME w_QUOTED_NAME w_STRING w_COMMENT w_OTHER)), .val (.int (f0_z2 p1 p3 p5)), .val (.int (f0_z3 p2 p4 p5)), .val (.ref b9), .val (.ref b11), .val (.ref r_13), .val (.int (((p5.toUInt32 >>> ((3 : Int32) &&& 31).toUInt32).toInt32) &&& (3 : Int32))), .unset] [(.ref b9), (.ref b9)])) rfl (by rw [hml]; rfl) (Steps.refl _) (argsL := [(.ref b9)]) (rest := []) (lenOf pd_5 rfl) rfl (by show 2 * 0 + _ ≤ _; exact Nat.le_of_eq rfl) (hb hby at_150) (fun _ _ => ⟨rfl, rfl, (by decide : 3 + 0 ≤ _), (by decide : 7 + 0 ≤ _)⟩)
        dsimp only [Pt.U, Pt.locs, Pt.cells, Pt.slots] at X25 l25 y25 z25 st25 hQ25
        subst l25 y25 z25
        obtain ⟨rfl, rfl, e25⟩ := hQ25
        have N25 := Fr.app N13 (Fr.nil n0)
        refine go (B := T25.setTop (mkF m 153 #[.val (.int p0), .val (.int p1), .val (.int p2), .val (.int p3), .val (.int p4), .val (.int p5), .val (.ref (f1 p0 w_NAME w_QUOTED_NAME w_STRING w_COMMENT w_OTHER)), .val (.ref (f0_z1 p0 p5 w_NAME w_QUOTED_NAME w_STRING w_COMMENT w_OTHER)), .val (.int (f0_z2 p1 p3 p5)), .val (.int (f0_z3 p2 p4 p5)), .val (.ref b9), .val (.ref b11), .val (.ref r_13), .val (.int (((p5.toUInt32 >>> ((3 : Int32) &&& 31).toUInt32).toInt32) &&& (3 : Int32))), .unset] [(.int (f0_t4 p0 p1 p2 w_NAME w_QUOTED_NAME w_STRING w_COMMENT w_OTHER))])) (fun _ k => st25.trans k) ?_
        have r26 : (f0 p0 p1 p2 p3 p4 p5 w_NAME w_QUOTED_NAME w_STRING w_COMMENT w_OTHER) = (nar .boolean (f0_t4 p0 p1 p2 w_NAME w_QUOTED_NAME w_STRING w_COMMENT w_OTHER)) := by unfold f0; rw [if_neg hc14, if_neg hc19, if_pos hc24]
        exact end_nar X25 hx Bd.notSynchronized (t := .boolean) Bd.returns (by simp) (hb hby at_153) hF e25 (by decide) (by decide) ⟨(congrArg (fun z => some (Value.int z)) (r26.symm.trans (own_law p0 p1 p2 p3 p4 p5 w_NAME w_QUOTED_NAME w_STRING w_COMMENT w_OTHER))), N25⟩
      · refine go (B := T13.setTop (mkF m 154 #[.val (.int p0), .val (.int p1), .val (.int p2), .val (.int p3), .val (.int p4), .val (.int p5), .val (.ref (f1 p0 w_NAME w_QUOTED_NAME w_STRING w_COMMENT w_OTHER)), .val (.ref (f0_z1 p0 p5 w_NAME w_QUOTED_NAME w_STRING w_COMMENT w_OTHER)), .val (.int (f0_z2 p1 p3 p5)), .val (.int (f0_z3 p2 p4 p5)), .val (.ref b9), .val (.ref b11), .val (.ref r_13), .val (.int (((p5.toUInt32 >>> ((3 : Int32) &&& 31).toUInt32).toInt32) &&& (3 : Int32))), .unset] [])) (fun _ k => XS.icmpYes X13.here hx rfl (pc0 := 143) (pc' := 154) rfl (hb hby at_143) rfl (feq hc24).2 (by decide) (by decide) k) ?_
        refine go (B := T13.setTop (mkF m 156 #[.val (.int p0), .val (.int p1), .val (.int p2), .val (.int p3), .val (.int p4), .val (.int p5), .val (.ref (f1 p0 w_NAME w_QUOTED_NAME w_STRING w_COMMENT w_OTHER)), .val (.ref (f0_z1 p0 p5 w_NAME w_QUOTED_NAME w_STRING w_COMMENT w_OTHER)), .val (.int (f0_z2 p1 p3 p5)), .val (.int (f0_z3 p2 p4 p5)), .val (.ref b9), .val (.ref b11), .val (.ref r_13), .val (.int (((p5.toUInt32 >>> ((3 : Int32) &&& 31).toUInt32).toInt32) &&& (3 : Int32))), .unset] [(.ref (f1 p0 w_NAME w_QUOTED_NAME w_STRING w_COMMENT w_OTHER))])) (fun _ k => XS.aload X13.here hx rfl (hb hby at_154) rfl rfl k) ?_
        refine go (B := T13.setTop (mkF m 158 #[.val (.int p0), .val (.int p1), .val (.int p2), .val (.int p3), .val (.int p4), .val (.int p5), .val (.ref (f1 p0 w_NAME w_QUOTED_NAME w_STRING w_COMMENT w_OTHER)), .val (.ref (f0_z1 p0 p5 w_NAME w_QUOTED_NAME w_STRING w_COMMENT w_OTHER)), .val (.int (f0_z2 p1 p3 p5)), .val (.int (f0_z3 p2 p4 p5)), .val (.ref b9), .val (.ref b11), .val (.ref r_13), .val (.int (((p5.toUInt32 >>> ((3 : Int32) &&& 31).toUInt32).toInt32) &&& (3 : Int32))), .unset] [(.ref (f0_z1 p0 p5 w_NAME w_QUOTED_NAME w_STRING w_COMMENT w_OTHER)), (.ref (f1 p0 w_NAME w_QUOTED_NAME w_STRING w_COMMENT w_OTHER))])) (fun _ k => XS.aload X13.here hx rfl (hb hby at_156) rfl rfl k) ?_
        suffices Kj27 : ∀ (T27 : State) (L27 : List Loc), Stand p l e room_1 s m #[(.int p0), (.int p1), (.int p2), (.int p3), (.int p4), (.int p5)] below meth c T27 L27 3 7 → Fr n0 L27 → T27.heap = T13.heap → Go p.tables e below F (T27.setTop (mkF m 178 #[.val (.int p0), .val (.int p1), .val (.int p2), .val (.int p3), .val (.int p4), .val (.int p5), .val (.ref (f1 p0 w_NAME w_QUOTED_NAME w_STRING w_COMMENT w_OTHER)), .val (.ref (f0_z1 p0 p5 w_NAME w_QUOTED_NAME w_STRING w_COMMENT w_OTHER)), .val (.int (f0_z2 p1 p3 p5)), .val (.int (f0_z3 p2 p4 p5)), .val (.ref b9), .val (.ref b11), .val (.ref r_13), .val (.int (((p5.toUInt32 >>> ((3 : Int32) &&& 31).toUInt32).toInt32) &&& (3 : Int32))), .unset] [(.int (f0_z5 p0 p1 p2 p3 p4 p5 w_NAME w_QUOTED_NAME w_STRING w_COMMENT w_OTHER))])) by
          by_cases hc28 : (f1 p0 w_NAME w_QUOTED_NAME w_STRING w_COMMENT w_OTHER) = (f0_z1 p0 p5 w_NAME w_QUOTED_NAME w_STRING w_COMMENT w_OTHER)
          · refine go (B := T13.setTop (mkF m 161 #[.val (.int p0), .val (.int p1), .val (.int p2), .val (.int p3), .val (.int p4), .val (.int p5), .val (.ref (f1 p0 w_NAME w_QUOTED_NAME w_STRING w_COMMENT w_OTHER)), .val (.ref (f0_z1 p0 p5 w_NAME w_QUOTED_NAME w_STRING w_COMMENT w_OTHER)), .val (.int (f0_z2 p1 p3 p5)), .val (.int (f0_z3 p2 p4 p5)), .val (.ref b9), .val (.ref b11), .val (.ref r_13), .val (.int (((p5.toUInt32 >>> ((3 : Int32) &&& 31).toUInt32).toInt32) &&& (3 : Int32))), .unset] [])) (fun _ k => Jvm.RoadKit.acmp (g := (mkF m 158 #[.val (.int p0), .val (.int p1), .val (.int p2), .val (.int p3), .val (.int p4), .val (.int p5), .val (.ref (f1 p0 w_NAME w_QUOTED_NAME w_STRING w_COMMENT w_OTHER)), .val (.ref (f0_z1 p0 p5 w_NAME w_QUOTED_NAME w_STRING w_COMMENT w_OTHER)), .val (.int (f0_z2 p1 p3 p5)), .val (.int (f0_z3 p2 p4 p5)), .val (.ref b9), .val (.ref b11), .val (.ref r_13), .val (.int (((p5.toUInt32 >>> ((3 : Int32) &&& 31).toUInt32).toInt32) &&& (3 : Int32))), .unset] [(.ref (f0_z1 p0 p5 w_NAME w_QUOTED_NAME w_STRING w_COMMENT w_OTHER)), (.ref (f1 p0 w_NAME w_QUOTED_NAME w_STRING w_COMMENT w_OTHER))])) X13 hx rfl rfl rfl (pc0 := 158) (pc' := 161) (same := true) rfl (hb hby at_158) rfl (decide_eq_true (congrArg Value.ref hc28)) (by decide) (by decide) k) ?_
            refine go (B := T13.setTop (mkF m 162 #[.val (.int p0), .val (.int p1), .val (.int p2), .val (.int p3), .val (.int p4), .val (.int p5), .val (.ref (f1 p0 w_NAME w_QUOTED_NAME w_STRING w_COMMENT w_OTHER)), .val (.ref (f0_z1 p0 p5 w_NAME w_QUOTED_NAME w_STRING w_COMMENT w_OTHER)), .val (.int (f0_z2 p1 p3 p5)), .val (.int (f0_z3 p2 p4 p5)), .val (.ref b9), .val (.ref b11), .val (.ref r_13), .val (.int (((p5.toUInt32 >>> ((3 : Int32) &&& 31).toUInt32).toInt32) &&& (3 : Int32))), .unset] [(.int p1)])) (fun _ k => XS.iloadN X13.here hx rfl (hb hby at_161) rfl k) ?_
            refine go (B := T13.setTop (mkF m 164 #[.val (.int p0), .val (.int p1), .val (.int p2), .val (.int p3), .val (.int p4), .val (.int p5), .val (.ref (f1 p0 w_NAME w_QUOTED_NAME w_STRING w_COMMENT w_OTHER)), .val (.ref (f0_z1 p0 p5 w_NAME w_QUOTED_NAME w_STRING w_COMMENT w_OTHER)), .val (.int (f0_z2 p1 p3 p5)), .val (.int (f0_z3 p2 p4 p5)), .val (.ref b9), .val (.ref b11), .val (.ref r_13), .val (.int (((p5.toUInt32 >>> ((3 : Int32) &&& 31).toUInt32).toInt32) &&& (3 : Int32))), .unset] [(.int (f0_z2 p1 p3 p5)), (.int p1)])) (fun _ k => XS.iload X13.here hx rfl (hb hby at_162) rfl k) ?_
            by_cases hc29 : p1 = (f0_z2 p1 p3 p5)
            · refine go (B := T13.setTop (mkF m 167 #[.val (.int p0), .val (.int p1), .val (.int p2), .val (.int p3), .val (.int p4), .val (.int p5), .val (.ref (f1 p0 w_NAME w_QUOTED_NAME w_STRING w_COMMENT w_OTHER)), .val (.ref (f0_z1 p0 p5 w_NAME w_QUOTED_NAME w_STRING w_COMMENT w_OTHER)), .val (.int (f0_z2 p1 p3 p5)), .val (.int (f0_z3 p2 p4 p5)), .val (.ref b9), .val (.ref b11), .val (.ref r_13), .val (.int (((p5.toUInt32 >>> ((3 : Int32) &&& 31).toUInt32).toInt32) &&& (3 : Int32))), .unset] [])) (fun _ k => XS.icmpNo X13.here hx rfl (hb hby at_164) rfl (teq hc29).2 k) ?_
              refine go (B := T13.setTop (mkF m 168 #[.val (.int p0), .val (.int p1), .val (.int p2), .val (.int p3), .val (.int p4), .val (.int p5), .val (.ref (f1 p0 w_NAME w_QUOTED_NAME w_STRING w_COMMENT w_OTHER)), .val (.ref (f0_z1 p0 p5 w_NAME w_QUOTED_NAME w_STRING w_COMMENT w_OTHER)), .val (.int (f0_z2 p1 p3 p5)), .val (.int (f0_z3 p2 p4 p5)), .val (.ref b9), .val (.ref b11), .val (.ref r_13), .val (.int (((p5.toUInt32 >>> ((3 : Int32) &&& 31).toUInt32).toInt32) &&& (3 : Int32))), .unset] [(.int p2)])) (fun _ k => XS.iloadN X13.here hx rfl (hb hby at_167) rfl k) ?_
              refine go (B := T13.setTop (mkF m 170 #[.val (.int p0), .val (.int p1), .val (.int p2), .val (.int p3), .val (.int p4), .val (.int p5), .val (.ref (f1 p0 w_NAME w_QUOTED_NAME w_STRING w_COMMENT w_OTHER)), .val (.ref (f0_z1 p0 p5 w_NAME w_QUOTED_NAME w_STRING w_COMMENT w_OTHER)), .val (.int (f0_z2 p1 p3 p5)), .val (.int (f0_z3 p2 p4 p5)), .val (.ref b9), .val (.ref b11), .val (.ref r_13), .val (.int (((p5.toUInt32 >>> ((3 : Int32) &&& 31).toUInt32).toInt32) &&& (3 : Int32))), .unset] [(.int (f0_z3 p2 p4 p5)), (.int p2)])) (fun _ k => XS.iload X13.here hx rfl (hb hby at_168) rfl k) ?_
              by_cases hc30 : p2 = (f0_z3 p2 p4 p5)
              · refine go (B := T13.setTop (mkF m 173 #[.val (.int p0), .val (.int p1), .val (.int p2), .val (.int p3), .val (.int p4), .val (.int p5), .val (.ref (f1 p0 w_NAME w_QUOTED_NAME w_STRING w_COMMENT w_OTHER)), .val (.ref (f0_z1 p0 p5 w_NAME w_QUOTED_NAME w_STRING w_COMMENT w_OTHER)), .val (.int (f0_z2 p1 p3 p5)), .val (.int (f0_z3 p2 p4 p5)), .val (.ref b9), .val (.ref b11), .val (.ref r_13), .val (.int (((p5.toUInt32 >>> ((3 : Int32) &&& 31).toUInt32).toInt32) &&& (3 : Int32))), .unset] [])) (fun _ k => XS.icmpNo X13.here hx rfl (hb hby at_170) rfl (teq hc30).2 k) ?_
                refine go (B := T13.setTop (mkF m 174 #[.val (.int p0), .val (.int p1), .val (.int p2), .val (.int p3), .val (.int p4), .val (.int p5), .val (.ref (f1 p0 w_NAME w_QUOTED_NAME w_STRING w_COMMENT w_OTHER)), .val (.ref (f0_z1 p0 p5 w_NAME w_QUOTED_NAME w_STRING w_COMMENT w_OTHER)), .val (.int (f0_z2 p1 p3 p5)), .val (.int (f0_z3 p2 p4 p5)), .val (.ref b9), .val (.ref b11), .val (.ref r_13), .val (.int (((p5.toUInt32 >>> ((3 : Int32) &&& 31).toUInt32).toInt32) &&& (3 : Int32))), .unset] [(.int (1 : Int32))])) (fun _ k => XS.iconst X13.here hx rfl (hb hby at_173) k) ?_
                refine go (B := T13.setTop (mkF m 178 #[.val (.int p0), .val (.int p1), .val (.int p2), .val (.int p3), .val (.int p4), .val (.int p5), .val (.ref (f1 p0 w_NAME w_QUOTED_NAME w_STRING w_COMMENT w_OTHER)), .val (.ref (f0_z1 p0 p5 w_NAME w_QUOTED_NAME w_STRING w_COMMENT w_OTHER)), .val (.int (f0_z2 p1 p3 p5)), .val (.int (f0_z3 p2 p4 p5)), .val (.ref b9), .val (.ref b11), .val (.ref r_13), .val (.int (((p5.toUInt32 >>> ((3 : Int32) &&& 31).toUInt32).toInt32) &&& (3 : Int32))), .unset] [(.int (1 : Int32))])) (fun _ k => XS.goto X13.here hx rfl (pc0 := 174) (pc' := 178) rfl (hb hby at_174) (by decide) (by decide) k) ?_
                rw [show (f0_z5 p0 p1 p2 p3 p4 p5 w_NAME w_QUOTED_NAME w_STRING w_COMMENT w_OTHER) = (1 : Int32) from by unfold f0_z5; rw [if_pos hc28, if_pos hc29, if_pos hc30]] at Kj27
                exact Kj27 _ _ X13 N13 rfl
              · refine go (B := T13.setTop (mkF m 177 #[.val (.int p0), .val (.int p1), .val (.int p2), .val (.int p3), .val (.int p4), .val (.int p5), .val (.ref (f1 p0 w_NAME w_QUOTED_NAME w_STRING w_COMMENT w_OTHER)), .val (.ref (f0_z1 p0 p5 w_NAME w_QUOTED_NAME w_STRING w_COMMENT w_OTHER)), .val (.int (f0_z2 p1 p3 p5)), .val (.int (f0_z3 p2 p4 p5)), .val (.ref b9), .val (.ref b11), .val (.ref r_13), .val (.int (((p5.toUInt32 >>> ((3 : Int32) &&& 31).toUInt32).toInt32) &&& (3 : Int32))), .unset] [])) (fun _ k => XS.icmpYes X13.here hx rfl (pc0 := 170) (pc' := 177) rfl (hb hby at_170) rfl (feq hc30).2 (by decide) (by decide) k) ?_
                refine go (B := T13.setTop (mkF m 178 #[.val (.int p0), .val (.int p1), .val (.int p2), .val (.int p3), .val (.int p4), .val (.int p5), .val (.ref (f1 p0 w_NAME w_QUOTED_NAME w_STRING w_COMMENT w_OTHER)), .val (.ref (f0_z1 p0 p5 w_NAME w_QUOTED_NAME w_STRING w_COMMENT w_OTHER)), .val (.int (f0_z2 p1 p3 p5)), .val (.int (f0_z3 p2 p4 p5)), .val (.ref b9), .val (.ref b11), .val (.ref r_13), .val (.int (((p5.toUInt32 >>> ((3 : Int32) &&& 31).toUInt32).toInt32) &&& (3 : Int32))), .unset] [(.int (0 : Int32))])) (fun _ k => XS.iconst X13.here hx rfl (hb hby at_177) k) ?_
                rw [show (f0_z5 p0 p1 p2 p3 p4 p5 w_NAME w_QUOTED_NAME w_STRING w_COMMENT w_OTHER) = (0 : Int32) from by unfold f0_z5; rw [if_pos hc28, if_pos hc29, if_neg hc30]] at Kj27
                exact Kj27 _ _ X13 N13 rfl
            · refine go (B := T13.setTop (mkF m 177 #[.val (.int p0), .val (.int p1), .val (.int p2), .val (.int p3), .val (.int p4), .val (.int p5), .val (.ref (f1 p0 w_NAME w_QUOTED_NAME w_STRING w_COMMENT w_OTHER)), .val (.ref (f0_z1 p0 p5 w_NAME w_QUOTED_NAME w_STRING w_COMMENT w_OTHER)), .val (.int (f0_z2 p1 p3 p5)), .val (.int (f0_z3 p2 p4 p5)), .val (.ref b9), .val (.ref b11), .val (.ref r_13), .val (.int (((p5.toUInt32 >>> ((3 : Int32) &&& 31).toUInt32).toInt32) &&& (3 : Int32))), .unset] [])) (fun _ k => XS.icmpYes X13.here hx rfl (pc0 := 164) (pc' := 177) rfl (hb hby at_164) rfl (feq hc29).2 (by decide) (by decide) k) ?_
              refine go (B := T13.setTop (mkF m 178 #[.val (.int p0), .val (.int p1), .val (.int p2), .val (.int p3), .val (.int p4), .val (.int p5), .val (.ref (f1 p0 w_NAME w_QUOTED_NAME w_STRING w_COMMENT w_OTHER)), .val (.ref (f0_z1 p0 p5 w_NAME w_QUOTED_NAME w_STRING w_COMMENT w_OTHER)), .val (.int (f0_z2 p1 p3 p5)), .val (.int (f0_z3 p2 p4 p5)), .val (.ref b9), .val (.ref b11), .val (.ref r_13), .val (.int (((p5.toUInt32 >>> ((3 : Int32) &&& 31).toUInt32).toInt32) &&& (3 : Int32))), .unset] [(.int (0 : Int32))])) (fun _ k => XS.iconst X13.here hx rfl (hb hby at_177) k) ?_
              rw [show (f0_z5 p0 p1 p2 p3 p4 p5 w_NAME w_QUOTED_NAME w_STRING w_COMMENT w_OTHER) = (0 : Int32) from by unfold f0_z5; rw [if_pos hc28, if_neg hc29]] at Kj27
              exact Kj27 _ _ X13 N13 rfl
          · refine go (B := T13.setTop (mkF m 177 #[.val (.int p0), .val (.int p1), .val (.int p2), .val (.int p3), .val (.int p4), .val (.int p5), .val (.ref (f1 p0 w_NAME w_QUOTED_NAME w_STRING w_COMMENT w_OTHER)), .val (.ref (f0_z1 p0 p5 w_NAME w_QUOTED_NAME w_STRING w_COMMENT w_OTHER)), .val (.int (f0_z2 p1 p3 p5)), .val (.int (f0_z3 p2 p4 p5)), .val (.ref b9), .val (.ref b11), .val (.ref r_13), .val (.int (((p5.toUInt32 >>> ((3 : Int32) &&& 31).toUInt32).toInt32) &&& (3 : Int32))), .unset] [])) (fun _ k => Jvm.RoadKit.acmp (g := (mkF m 158 #[.val (.int p0), .val (.int p1), .val (.int p2), .val (.int p3), .val (.int p4), .val (.int p5), .val (.ref (f1 p0 w_NAME w_QUOTED_NAME w_STRING w_COMMENT w_OTHER)), .val (.ref (f0_z1 p0 p5 w_NAME w_QUOTED_NAME w_STRING w_COMMENT w_OTHER)), .val (.int (f0_z2 p1 p3 p5)), .val (.int (f0_z3 p2 p4 p5)), .val (.ref b9), .val (.ref b11), .val (.ref r_13), .val (.int (((p5.toUInt32 >>> ((3 : Int32) &&& 31).toUInt32).toInt32) &&& (3 : Int32))), .unset] [(.ref (f0_z1 p0 p5 w_NAME w_QUOTED_NAME w_STRING w_COMMENT w_OTHER)), (.ref (f1 p0 w_NAME w_QUOTED_NAME w_STRING w_COMMENT w_OTHER))])) X13 hx rfl rfl rfl (pc0 := 158) (pc' := 177) (same := false) rfl (hb hby at_158) rfl (decide_eq_false fun q => hc28 (Value.ref.inj q)) (by decide) (by decide) k) ?_
            refine go (B := T13.setTop (mkF m 178 #[.val (.int p0), .val (.int p1), .val (.int p2), .val (.int p3), .val (.int p4), .val (.int p5), .val (.ref (f1 p0 w_NAME w_QUOTED_NAME w_STRING w_COMMENT w_OTHER)), .val (.ref (f0_z1 p0 p5 w_NAME w_QUOTED_NAME w_STRING w_COMMENT w_OTHER)), .val (.int (f0_z2 p1 p3 p5)), .val (.int (f0_z3 p2 p4 p5)), .val (.ref b9), .val (.ref b11), .val (.ref r_13), .val (.int (((p5.toUInt32 >>> ((3 : Int32) &&& 31).toUInt32).toInt32) &&& (3 : Int32))), .unset] [(.int (0 : Int32))])) (fun _ k => XS.iconst X13.here hx rfl (hb hby at_177) k) ?_
            rw [show (f0_z5 p0 p1 p2 p3 p4 p5 w_NAME w_QUOTED_NAME w_STRING w_COMMENT w_OTHER) = (0 : Int32) from by unfold f0_z5; rw [if_neg hc28]] at Kj27
            exact Kj27 _ _ X13 N13 rfl
        intro T27 L27 X27 N27 e27
        refine go (B := T27.setTop (mkF m 180 #[.val (.int p0), .val (.int p1), .val (.int p2), .val (.int p3), .val (.int p4), .val (.int p5), .val (.ref (f1 p0 w_NAME w_QUOTED_NAME w_STRING w_COMMENT w_OTHER)), .val (.ref (f0_z1 p0 p5 w_NAME w_QUOTED_NAME w_STRING w_COMMENT w_OTHER)), .val (.int (f0_z2 p1 p3 p5)), .val (.int (f0_z3 p2 p4 p5)), .val (.ref b9), .val (.ref b11), .val (.ref r_13), .val (.int (((p5.toUInt32 >>> ((3 : Int32) &&& 31).toUInt32).toInt32) &&& (3 : Int32))), .val (.int (f0_z5 p0 p1 p2 p3 p4 p5 w_NAME w_QUOTED_NAME w_STRING w_COMMENT w_OTHER))] [])) (fun _ k => XS.istore X27.here hx rfl (hb hby at_178) rfl (l' := #[.val (.int p0), .val (.int p1), .val (.int p2), .val (.int p3), .val (.int p4), .val (.int p5), .val (.ref (f1 p0 w_NAME w_QUOTED_NAME w_STRING w_COMMENT w_OTHER)), .val (.ref (f0_z1 p0 p5 w_NAME w_QUOTED_NAME w_STRING w_COMMENT w_OTHER)), .val (.int (f0_z2 p1 p3 p5)), .val (.int (f0_z3 p2 p4 p5)), .val (.ref b9), .val (.ref b11), .val (.ref r_13), .val (.int (((p5.toUInt32 >>> ((3 : Int32) &&& 31).toUInt32).toInt32) &&& (3 : Int32))), .val (.int (f0_z5 p0 p1 p2 p3 p4 p5 w_NAME w_QUOTED_NAME w_STRING w_COMMENT w_OTHER))]) rfl k) ?_
        refine go (B := T27.setTop (mkF m 182 #[.val (.int p0), .val (.int p1), .val (.int p2), .val (.int p3), .val (.int p4), .val (.int p5), .val (.ref (f1 p0 w_NAME w_QUOTED_NAME w_STRING w_COMMENT w_OTHER)), .val (.ref (f0_z1 p0 p5 w_NAME w_QUOTED_NAME w_STRING w_COMMENT w_OTHER)), .val (.int (f0_z2 p1 p3 p5)), .val (.int (f0_z3 p2 p4 p5)), .val (.ref b9), .val (.ref b11), .val (.ref r_13), .val (.int (((p5.toUInt32 >>> ((3 : Int32) &&& 31).toUInt32).toInt32) &&& (3 : Int32))), .val (.int (f0_z5 p0 p1 p2 p3 p4 p5 w_NAME w_QUOTED_NAME w_STRING w_COMMENT w_OTHER))] [(.ref b9)])) (fun _ k => XS.aload X27.here hx rfl (hb hby at_180) rfl rfl k) ?_
        refine go (B := T27.setTop (mkF m 184 #[.val (.int p0), .val (.int p1), .val (.int p2), .val (.int p3), .val (.int p4), .val (.int p5), .val (.ref (f1 p0 w_NAME w_QUOTED_NAME w_STRING w_COMMENT w_OTHER)), .val (.ref (f0_z1 p0 p5 w_NAME w_QUOTED_NAME w_STRING w_COMMENT w_OTHER)), .val (.int (f0_z2 p1 p3 p5)), .val (.int (f0_z3 p2 p4 p5)), .val (.ref b9), .val (.ref b11), .val (.ref r_13), .val (.int (((p5.toUInt32 >>> ((3 : Int32) &&& 31).toUInt32).toInt32) &&& (3 : Int32))), .val (.int (f0_z5 p0 p1 p2 p3 p4 p5 w_NAME w_QUOTED_NAME w_STRING w_COMMENT w_OTHER))] [(.ref b11), (.ref b9)])) (fun _ k => XS.aload X27.here hx rfl (hb hby at_182) rfl rfl k) ?_
        obtain ⟨cq31, kq31, q31a, q31b, q31c⟩ := isOf hZ e27 E_b9_13
        obtain ⟨_, _, ⟨T31, L31, k31, n31⟩, -, X31, ⟨Lc31, hQ31, l31, y31, z31⟩, st31⟩ := X27.virtualBack hx (y := (⟨"com/example/purposeward/purposeward/Lexeme", "equals", "(Ljava/lang/Object;)Z"⟩ : MethodName)) (z := (⟨"com/example/purposeward/purposeward/Lexeme", "equals", "(Ljava/lang/Object;)Z"⟩ : MethodName)) hown (mvT hZ (hw _ (List.mem_of_getElem? (i := 30) rfl))) (mvT hZ (hw _ (List.mem_of_getElem? (i := 31) rfl))) (notFace_of_selects (args := #[]) (mvT hZ (hw _ (List.mem_of_getElem? (i := 33) rfl)))) (mvT hZ (hw _ (List.mem_of_getElem? (i := 33) rfl))) (mvT hZ (hw _ (List.mem_of_getElem? (i := 32) rfl))) (by decide) (backOf (W := 0) (rm5x l Z aw hw [] b9 b11 (f0_z1 p0 p5 w_NAME w_QUOTED_NAME w_STRING w_COMMENT w_OTHER) (f1 p0 w_NAME w_QUOTED_NAME w_STRING w_COMMENT w_OTHER) (f0_z2 p1 p3 p5) p1 (f0_z3 p2 p4 p5) p2 T13.heap n0 Z13 O13 E_b11_13 F_kind_b11_13 F_kind_b9_13 F_begin_b11_13 F_begin_b9_13 F_end_b11_13 F_end_b9_13) hZ (hw _ (List.mem_of_getElem? (i := 34) rfl)) (hw _ (List.mem_of_getElem? (i := 10) rfl)) (by decide) (by decide)) q31a q31c (g := (mkF m 184 #[.val (.int p0), .val (.int p1), .val (.int p2), .val (.int p3), .val (.int p4), .val (.int p5), .val (.ref (f1 p0 w_NAME w_QUOTED_NAME w_STRING w_COMMENT w_OTHER)), .val (.ref (f0_z1 p0 p5 w_NAME w_QUOTED_NAME w_STRING w_COMMENT w_OTHER)), .val (.int (f0_z2 p1 p3 p5)), .val (.int (f0_z3 p2 p4 p5)), .val (.ref b9), .val (.ref b11), .val (.ref r_13), .val (.int (((p5.toUInt32 >>> ((3 : Int32) &&& 31).toUInt32).toInt32) &&& (3 : Int32))), .val (.int (f0_z5 p0 p1 p2 p3 p4 p5 w_NAME w_QUOTED_NAME w_STRING w_COMMENT w_OTHER))] [(.ref b11), (.ref b9)])) rfl (by rw [hml]; rfl) (Steps.refl _) (argsL := [(.ref b11)]) (rest := []) (lenOf pd_5 rfl) rfl (by show 2 * 0 + _ ≤ _; exact Nat.le_of_eq rfl) (hb hby at_184) (fun _ _ => ⟨rfl, e27, (by decide : 3 + 0 ≤ _), (by decide : 7 + 0 ≤ _)⟩)
        dsimp only [Pt.U, Pt.locs, Pt.cells, Pt.slots] at X31 l31 y31 z31 st31 hQ31
        subst l31 y31 z31
        obtain ⟨rfl, rfl, e31⟩ := hQ31
        have N31 := Fr.app N27 (Fr.nil n0)
        refine go (B := T31.setTop (mkF m 187 #[.val (.int p0), .val (.int p1), .val (.int p2), .val (.int p3), .val (.int p4), .val (.int p5), .val (.ref (f1 p0 w_NAME w_QUOTED_NAME w_STRING w_COMMENT w_OTHER)), .val (.ref (f0_z1 p0 p5 w_NAME w_QUOTED_NAME w_STRING w_COMMENT w_OTHER)), .val (.int (f0_z2 p1 p3 p5)), .val (.int (f0_z3 p2 p4 p5)), .val (.ref b9), .val (.ref b11), .val (.ref r_13), .val (.int (((p5.toUInt32 >>> ((3 : Int32) &&& 31).toUInt32).toInt32) &&& (3 : Int32))), .val (.int (f0_z5 p0 p1 p2 p3 p4 p5 w_NAME w_QUOTED_NAME w_STRING w_COMMENT w_OTHER))] [(.int (f0_t6 p0 p1 p2 p3 p4 p5 w_NAME w_QUOTED_NAME w_STRING w_COMMENT w_OTHER))])) (fun _ k => st31.trans k) ?_
        refine go (B := T31.setTop (mkF m 189 #[.val (.int p0), .val (.int p1), .val (.int p2), .val (.int p3), .val (.int p4), .val (.int p5), .val (.ref (f1 p0 w_NAME w_QUOTED_NAME w_STRING w_COMMENT w_OTHER)), .val (.ref (f0_z1 p0 p5 w_NAME w_QUOTED_NAME w_STRING w_COMMENT w_OTHER)), .val (.int (f0_z2 p1 p3 p5)), .val (.int (f0_z3 p2 p4 p5)), .val (.ref b9), .val (.ref b11), .val (.ref r_13), .val (.int (((p5.toUInt32 >>> ((3 : Int32) &&& 31).toUInt32).toInt32) &&& (3 : Int32))), .val (.int (f0_z5 p0 p1 p2 p3 p4 p5 w_NAME w_QUOTED_NAME w_STRING w_COMMENT w_OTHER))] [(.int (f0_z5 p0 p1 p2 p3 p4 p5 w_NAME w_QUOTED_NAME w_STRING w_COMMENT w_OTHER)), (.int (f0_t6 p0 p1 p2 p3 p4 p5 w_NAME w_QUOTED_NAME w_STRING w_COMMENT w_OTHER))])) (fun _ k => XS.iload X31.here hx rfl (hb hby at_187) rfl k) ?_
        by_cases hc32 : (f0_t6 p0 p1 p2 p3 p4 p5 w_NAME w_QUOTED_NAME w_STRING w_COMMENT w_OTHER) = (f0_z5 p0 p1 p2 p3 p4 p5 w_NAME w_QUOTED_NAME w_STRING w_COMMENT w_OTHER)
        · refine go (B := T31.setTop (mkF m 192 #[.val (.int p0), .val (.int p1), .val (.int p2), .val (.int p3), .val (.int p4), .val (.int p5), .val (.ref (f1 p0 w_NAME w_QUOTED_NAME w_STRING w_COMMENT w_OTHER)), .val (.ref (f0_z1 p0 p5 w_NAME w_QUOTED_NAME w_STRING w_COMMENT w_OTHER)), .val (.int (f0_z2 p1 p3 p5)), .val (.int (f0_z3 p2 p4 p5)), .val (.ref b9), .val (.ref b11), .val (.ref r_13), .val (.int (((p5.toUInt32 >>> ((3 : Int32) &&& 31).toUInt32).toInt32) &&& (3 : Int32))), .val (.int (f0_z5 p0 p1 p2 p3 p4 p5 w_NAME w_QUOTED_NAME w_STRING w_COMMENT w_OTHER))] [])) (fun _ k => XS.icmpNo X31.here hx rfl (hb hby at_189) rfl (teq hc32).2 k) ?_
          refine go (B := T31.setTop (mkF m 194 #[.val (.int p0), .val (.int p1), .val (.int p2), .val (.int p3), .val (.int p4), .val (.int p5), .val (.ref (f1 p0 w_NAME w_QUOTED_NAME w_STRING w_COMMENT w_OTHER)), .val (.ref (f0_z1 p0 p5 w_NAME w_QUOTED_NAME w_STRING w_COMMENT w_OTHER)), .val (.int (f0_z2 p1 p3 p5)), .val (.int (f0_z3 p2 p4 p5)), .val (.ref b9), .val (.ref b11), .val (.ref r_13), .val (.int (((p5.toUInt32 >>> ((3 : Int32) &&& 31).toUInt32).toInt32) &&& (3 : Int32))), .val (.int (f0_z5 p0 p1 p2 p3 p4 p5 w_NAME w_QUOTED_NAME w_STRING w_COMMENT w_OTHER))] [(.ref b11)])) (fun _ k => XS.aload X31.here hx rfl (hb hby at_192) rfl rfl k) ?_
          refine go (B := T31.setTop (mkF m 196 #[.val (.int p0), .val (.int p1), .val (.int p2), .val (.int p3), .val (.int p4), .val (.int p5), .val (.ref (f1 p0 w_NAME w_QUOTED_NAME w_STRING w_COMMENT w_OTHER)), .val (.ref (f0_z1 p0 p5 w_NAME w_QUOTED_NAME w_STRING w_COMMENT w_OTHER)), .val (.int (f0_z2 p1 p3 p5)), .val (.int (f0_z3 p2 p4 p5)), .val (.ref b9), .val (.ref b11), .val (.ref r_13), .val (.int (((p5.toUInt32 >>> ((3 : Int32) &&& 31).toUInt32).toInt32) &&& (3 : Int32))), .val (.int (f0_z5 p0 p1 p2 p3 p4 p5 w_NAME w_QUOTED_NAME w_STRING w_COMMENT w_OTHER))] [(.ref b9), (.ref b11)])) (fun _ k => XS.aload X31.here hx rfl (hb hby at_194) rfl rfl k) ?_
          obtain ⟨cq33, kq33, q33a, q33b, q33c⟩ := isOf hZ e31 E_b11_13
          obtain ⟨_, _, ⟨T33, L33, k33, n33⟩, -, X33, ⟨Lc33, hQ33, l33, y33, z33⟩, st33⟩ := X31.virtualBack hx (y := (⟨"com/example/purposeward/purposeward/Lexeme", "equals", "(Ljava/lang/Object;)Z"⟩ : MethodName)) (z := (⟨"com/example/purposeward/purposeward/Lexeme", "equals", "(Ljava/lang/Object;)Z"⟩ : MethodName)) hown (mvT hZ (hw _ (List.mem_of_getElem? (i := 30) rfl))) (mvT hZ (hw _ (List.mem_of_getElem? (i := 31) rfl))) (notFace_of_selects (args := #[]) (mvT hZ (hw _ (List.mem_of_getElem? (i := 33) rfl)))) (mvT hZ (hw _ (List.mem_of_getElem? (i := 33) rfl))) (mvT hZ (hw _ (List.mem_of_getElem? (i := 32) rfl))) (by decide) (backOf (W := 0) (rm5x l Z aw hw [] b11 b9 (f1 p0 w_NAME w_QUOTED_NAME w_STRING w_COMMENT w_OTHER) (f0_z1 p0 p5 w_NAME w_QUOTED_NAME w_STRING w_COMMENT w_OTHER) p1 (f0_z2 p1 p3 p5) p2 (f0_z3 p2 p4 p5) T13.heap n0 Z13 O13 E_b9_13 F_kind_b9_13 F_kind_b11_13 F_begin_b9_13 F_begin_b11_13 F_end_b9_13 F_end_b11_13) hZ (hw _ (List.mem_of_getElem? (i := 34) rfl)) (hw _ (List.mem_of_getElem? (i := 10) rfl)) (by decide) (by decide)) q33a q33c (g := (mkF m 196 #[.val (.int p0), .val (.int p1), .val (.int p2), .val (.int p3), .val (.int p4), .val (.int p5), .val (.ref (f1 p0 w_NAME w_QUOTED_NAME w_STRING w_COMMENT w_OTHER)), .val (.ref (f0_z1 p0 p5 w_NAME w_QUOTED_NAME w_STRING w_COMMENT w_OTHER)), .val (.int (f0_z2 p1 p3 p5)), .val (.int (f0_z3 p2 p4 p5)), .val (.ref b9), .val (.ref b11), .val (.ref r_13), .val (.int (((p5.toUInt32 >>> ((3 : Int32) &&& 31).toUInt32).toInt32) &&& (3 : Int32))), .val (.int (f0_z5 p0 p1 p2 p3 p4 p5 w_NAME w_QUOTED_NAME w_STRING w_COMMENT w_OTHER))] [(.ref b9), (.ref b11)])) rfl (by rw [hml]; rfl) (Steps.refl _) (argsL := [(.ref b9)]) (rest := []) (lenOf pd_5 rfl) rfl (by show 2 * 0 + _ ≤ _; exact Nat.le_of_eq rfl) (hb hby at_196) (fun _ _ => ⟨rfl, e31, (by decide : 3 + 0 ≤ _), (by decide : 7 + 0 ≤ _)⟩)
          dsimp only [Pt.U, Pt.locs, Pt.cells, Pt.slots] at X33 l33 y33 z33 st33 hQ33
          subst l33 y33 z33
          obtain ⟨rfl, rfl, e33⟩ := hQ33
          have N33 := Fr.app N31 (Fr.nil n0)
          refine go (B := T33.setTop (mkF m 199 #[.val (.int p0), .val (.int p1), .val (.int p2), .val (.int p3), .val (.int p4), .val (.int p5), .val (.ref (f1 p0 w_NAME w_QUOTED_NAME w_STRING w_COMMENT w_OTHER)), .val (.ref (f0_z1 p0 p5 w_NAME w_QUOTED_NAME w_STRING w_COMMENT w_OTHER)), .val (.int (f0_z2 p1 p3 p5)), .val (.int (f0_z3 p2 p4 p5)), .val (.ref b9), .val (.ref b11), .val (.ref r_13), .val (.int (((p5.toUInt32 >>> ((3 : Int32) &&& 31).toUInt32).toInt32) &&& (3 : Int32))), .val (.int (f0_z5 p0 p1 p2 p3 p4 p5 w_NAME w_QUOTED_NAME w_STRING w_COMMENT w_OTHER))] [(.int (f0_t7 p0 p1 p2 p3 p4 p5 w_NAME w_QUOTED_NAME w_STRING w_COMMENT w_OTHER))])) (fun _ k => st33.trans k) ?_
          refine go (B := T33.setTop (mkF m 201 #[.val (.int p0), .val (.int p1), .val (.int p2), .val (.int p3), .val (.int p4), .val (.int p5), .val (.ref (f1 p0 w_NAME w_QUOTED_NAME w_STRING w_COMMENT w_OTHER)), .val (.ref (f0_z1 p0 p5 w_NAME w_QUOTED_NAME w_STRING w_COMMENT w_OTHER)), .val (.int (f0_z2 p1 p3 p5)), .val (.int (f0_z3 p2 p4 p5)), .val (.ref b9), .val (.ref b11), .val (.ref r_13), .val (.int (((p5.toUInt32 >>> ((3 : Int32) &&& 31).toUInt32).toInt32) &&& (3 : Int32))), .val (.int (f0_z5 p0 p1 p2 p3 p4 p5 w_NAME w_QUOTED_NAME w_STRING w_COMMENT w_OTHER))] [(.int (f0_z5 p0 p1 p2 p3 p4 p5 w_NAME w_QUOTED_NAME w_STRING w_COMMENT w_OTHER)), (.int (f0_t7 p0 p1 p2 p3 p4 p5 w_NAME w_QUOTED_NAME w_STRING w_COMMENT w_OTHER))])) (fun _ k => XS.iload X33.here hx rfl (hb hby at_199) rfl k) ?_
          by_cases hc34 : (f0_t7 p0 p1 p2 p3 p4 p5 w_NAME w_QUOTED_NAME w_STRING w_COMMENT w_OTHER) = (f0_z5 p0 p1 p2 p3 p4 p5 w_NAME w_QUOTED_NAME w_STRING w_COMMENT w_OTHER)
          · refine go (B := T33.setTop (mkF m 204 #[.val (.int p0), .val (.int p1), .val (.int p2), .val (.int p3), .val (.int p4), .val (.int p5), .val (.ref (f1 p0 w_NAME w_QUOTED_NAME w_STRING w_COMMENT w_OTHER)), .val (.ref (f0_z1 p0 p5 w_NAME w_QUOTED_NAME w_STRING w_COMMENT w_OTHER)), .val (.int (f0_z2 p1 p3 p5)), .val (.int (f0_z3 p2 p4 p5)), .val (.ref b9), .val (.ref b11), .val (.ref r_13), .val (.int (((p5.toUInt32 >>> ((3 : Int32) &&& 31).toUInt32).toInt32) &&& (3 : Int32))), .val (.int (f0_z5 p0 p1 p2 p3 p4 p5 w_NAME w_QUOTED_NAME w_STRING w_COMMENT w_OTHER))] [])) (fun _ k => XS.icmpNo X33.here hx rfl (hb hby at_201) rfl (teq hc34).2 k) ?_
            refine go (B := T33.setTop (mkF m 205 #[.val (.int p0), .val (.int p1), .val (.int p2), .val (.int p3), .val (.int p4), .val (.int p5), .val (.ref (f1 p0 w_NAME w_QUOTED_NAME w_STRING w_COMMENT w_OTHER)), .val (.ref (f0_z1 p0 p5 w_NAME w_QUOTED_NAME w_STRING w_COMMENT w_OTHER)), .val (.int (f0_z2 p1 p3 p5)), .val (.int (f0_z3 p2 p4 p5)), .val (.ref b9), .val (.ref b11), .val (.ref r_13), .val (.int (((p5.toUInt32 >>> ((3 : Int32) &&& 31).toUInt32).toInt32) &&& (3 : Int32))), .val (.int (f0_z5 p0 p1 p2 p3 p4 p5 w_NAME w_QUOTED_NAME w_STRING w_COMMENT w_OTHER))] [(.int (1 : Int32))])) (fun _ k => XS.iconst X33.here hx rfl (hb hby at_204) k) ?_
            refine go (B := T33.setTop (mkF m 209 #[.val (.int p0), .val (.int p1), .val (.int p2), .val (.int p3), .val (.int p4), .val (.int p5), .val (.ref (f1 p0 w_NAME w_QUOTED_NAME w_STRING w_COMMENT w_OTHER)), .val (.ref (f0_z1 p0 p5 w_NAME w_QUOTED_NAME w_STRING w_COMMENT w_OTHER)), .val (.int (f0_z2 p1 p3 p5)), .val (.int (f0_z3 p2 p4 p5)), .val (.ref b9), .val (.ref b11), .val (.ref r_13), .val (.int (((p5.toUInt32 >>> ((3 : Int32) &&& 31).toUInt32).toInt32) &&& (3 : Int32))), .val (.int (f0_z5 p0 p1 p2 p3 p4 p5 w_NAME w_QUOTED_NAME w_STRING w_COMMENT w_OTHER))] [(.int (1 : Int32))])) (fun _ k => XS.goto X33.here hx rfl (pc0 := 205) (pc' := 209) rfl (hb hby at_205) (by decide) (by decide) k) ?_
            have r35 : (f0 p0 p1 p2 p3 p4 p5 w_NAME w_QUOTED_NAME w_STRING w_COMMENT w_OTHER) = (1 : Int32) := by unfold f0; rw [if_neg hc14, if_neg hc19, if_neg hc24, if_pos hc32, if_pos hc34]
            exact end_nar X33 hx Bd.notSynchronized (t := .boolean) Bd.returns (by simp) (hb hby at_209) hF e33 (by decide) (by decide) ⟨(congrArg (fun z => some (Value.int z)) (r35.symm.trans (own_law p0 p1 p2 p3 p4 p5 w_NAME w_QUOTED_NAME w_STRING w_COMMENT w_OTHER))), N33⟩
          · refine go (B := T33.setTop (mkF m 208 #[.val (.int p0), .val (.int p1), .val (.int p2), .val (.int p3), .val (.int p4), .val (.int p5), .val (.ref (f1 p0 w_NAME w_QUOTED_NAME w_STRING w_COMMENT w_OTHER)), .val (.ref (f0_z1 p0 p5 w_NAME w_QUOTED_NAME w_STRING w_COMMENT w_OTHER)), .val (.int (f0_z2 p1 p3 p5)), .val (.int (f0_z3 p2 p4 p5)), .val (.ref b9), .val (.ref b11), .val (.ref r_13), .val (.int (((p5.toUInt32 >>> ((3 : Int32) &&& 31).toUInt32).toInt32) &&& (3 : Int32))), .val (.int (f0_z5 p0 p1 p2 p3 p4 p5 w_NAME w_QUOTED_NAME w_STRING w_COMMENT w_OTHER))] [])) (fun _ k => XS.icmpYes X33.here hx rfl (pc0 := 201) (pc' := 208) rfl (hb hby at_201) rfl (feq hc34).2 (by decide) (by decide) k) ?_
            refine go (B := T33.setTop (mkF m 209 #[.val (.int p0), .val (.int p1), .val (.int p2), .val (.int p3), .val (.int p4), .val (.int p5), .val (.ref (f1 p0 w_NAME w_QUOTED_NAME w_STRING w_COMMENT w_OTHER)), .val (.ref (f0_z1 p0 p5 w_NAME w_QUOTED_NAME w_STRING w_COMMENT w_OTHER)), .val (.int (f0_z2 p1 p3 p5)), .val (.int (f0_z3 p2 p4 p5)), .val (.ref b9), .val (.ref b11), .val (.ref r_13), .val (.int (((p5.toUInt32 >>> ((3 : Int32) &&& 31).toUInt32).toInt32) &&& (3 : Int32))), .val (.int (f0_z5 p0 p1 p2 p3 p4 p5 w_NAME w_QUOTED_NAME w_STRING w_COMMENT w_OTHER))] [(.int (0 : Int32))])) (fun _ k => XS.iconst X33.here hx rfl (hb hby at_208) k) ?_
            have r36 : (f0 p0 p1 p2 p3 p4 p5 w_NAME w_QUOTED_NAME w_STRING w_COMMENT w_OTHER) = (0 : Int32) := by unfold f0; rw [if_neg hc14, if_neg hc19, if_neg hc24, if_pos hc32, if_neg hc34]
            exact end_nar X33 hx Bd.notSynchronized (t := .boolean) Bd.returns (by simp) (hb hby at_209) hF e33 (by decide) (by decide) ⟨(congrArg (fun z => some (Value.int z)) (r36.symm.trans (own_law p0 p1 p2 p3 p4 p5 w_NAME w_QUOTED_NAME w_STRING w_COMMENT w_OTHER))), N33⟩
        · refine go (B := T31.setTop (mkF m 208 #[.val (.int p0), .val (.int p1), .val (.int p2), .val (.int p3), .val (.int p4), .val (.int p5), .val (.ref (f1 p0 w_NAME w_QUOTED_NAME w_STRING w_COMMENT w_OTHER)), .val (.ref (f0_z1 p0 p5 w_NAME w_QUOTED_NAME w_STRING w_COMMENT w_OTHER)), .val (.int (f0_z2 p1 p3 p5)), .val (.int (f0_z3 p2 p4 p5)), .val (.ref b9), .val (.ref b11), .val (.ref r_13), .val (.int (((p5.toUInt32 >>> ((3 : Int32) &&& 31).toUInt32).toInt32) &&& (3 : Int32))), .val (.int (f0_z5 p0 p1 p2 p3 p4 p5 w_NAME w_QUOTED_NAME w_STRING w_COMMENT w_OTHER))] [])) (fun _ k => XS.icmpYes X31.here hx rfl (pc0 := 189) (pc' := 208) rfl (hb hby at_189) rfl (feq hc32).2 (by decide) (by decide) k) ?_
          refine go (B := T31.setTop (mkF m 209 #[.val (.int p0), .val (.int p1), .val (.int p2), .val (.int p3), .val (.int p4), .val (.int p5), .val (.ref (f1 p0 w_NAME w_QUOTED_NAME w_STRING w_COMMENT w_OTHER)), .val (.ref (f0_z1 p0 p5 w_NAME w_QUOTED_NAME w_STRING w_COMMENT w_OTHER)), .val (.int (f0_z2 p1 p3 p5)), .val (.int (f0_z3 p2 p4 p5)), .val (.ref b9), .val (.ref b11), .val (.ref r_13), .val (.int (((p5.toUInt32 >>> ((3 : Int32) &&& 31).toUInt32).toInt32) &&& (3 : Int32))), .val (.int (f0_z5 p0 p1 p2 p3 p4 p5 w_NAME w_QUOTED_NAME w_STRING w_COMMENT w_OTHER))] [(.int (0 : Int32))])) (fun _ k => XS.iconst X31.here hx rfl (hb hby at_208) k) ?_
          have r37 : (f0 p0 p1 p2 p3 p4 p5 w_NAME w_QUOTED_NAME w_STRING w_COMMENT w_OTHER) = (0 : Int32) := by unfold f0; rw [if_neg hc14, if_neg hc19, if_neg hc24, if_neg hc32]
          exact end_nar X31 hx Bd.notSynchronized (t := .boolean) Bd.returns (by simp) (hb hby at_209) hF e31 (by decide) (by decide) ⟨(congrArg (fun z => some (Value.int z)) (r37.symm.trans (own_law p0 p1 p2 p3 p4 p5 w_NAME w_QUOTED_NAME w_STRING w_COMMENT w_OTHER))), N31⟩
set_option maxRecDepth 65536 in
set_option maxHeartbeats 40000000 in
theorem comes_1 {Post : Tables → Env → Array Value → State → Outcome → State → Prop} (hpost : ∀ tb e args s v u, (limb_1_1.after args s (.returned v) u = true ∧ limb_1_2.after args s (.returned v) u = true ∧ True) → FrameEnd s (.returned v) u (Jvm.fieldLocs frame_1_writes args s ++ Jvm.arrayLocs frame_1_arrays args s ++ Jvm.staticLocs frame_1_statics s) 16 128 → Post tb e args s (.returned v) u) :
    ArmFor flags0 classFile x code maxLocals ret World_1 tables_1 room_1 Calls_1 rest_1 Pre_1 Post := by
  intro l hfl _ _ p e ha hc hk s m args below hf hA hF happ hP
  obtain ⟨hcalls, hrest, hpre⟩ := hP
  obtain ⟨-, -, -, hnamed, -, -, -, hat⟩ := (Spec.applies_iff hf).mp happ
  obtain ⟨hg, hn⟩ := and_e (Cond.before_iff.mp (show (Jvm.Cond.and given_1 narrow_1).before args s = true from hpre))
  obtain ⟨gg1, gg2⟩ := and_e hg
  obtain ⟨gg3, gg4⟩ := and_e gg2
  obtain ⟨gg5, gg6⟩ := and_e gg4
  obtain ⟨gg7, gg8⟩ := and_e gg6
  obtain ⟨gg9, gg10⟩ := and_e gg8
  obtain ⟨gg11, gg12⟩ := and_e gg10
  obtain ⟨w0, w1, w2, w3, w4, w5, rfl⟩ : ∃ w0 w1 w2 w3 w4 w5 : Value, args = #[w0, w1, w2, w3, w4, w5] := by
    have hs : args.size = 6 := by simpa [Cond.value, given_1] using gg1
    obtain ⟨L⟩ := args
    match L, hs with
    | [w0, w1, w2, w3, w4, w5], _ => exact ⟨w0, w1, w2, w3, w4, w5, rfl⟩
  have hw := fun d (hd : d ∈ tables_1) => atoms_spec (ws := Jvm.Cond.code x code maxLocals ret :: tables_1) hat d (List.mem_cons_of_mem _ hd)
  have hfit : Fit s := fun {y c} hc i hi => by
    obtain ⟨ha, rfl⟩ := Array.getElem?_eq_some_iff.mp hc
    have q := List.all_eq_true.mp ((Array.all_eq_true_iff_forall_mem.mp hF) _ (Array.getElem_mem ha)) i (List.mem_range.mpr hi)
    simpa [Array.getElem?_eq_getElem hi] using q
  obtain ⟨hsets, hown0⟩ := atoms_of _ (rest_1_c_eq ▸ (show rest_1_c.before _ s = true from hrest))
  have hr0 := Cond.before_iff.mp hown0
  obtain ⟨i0, ei0⟩ := is_v gg3
  obtain rfl : w0 = (.int i0) := Option.some.inj ei0
  obtain ⟨i1, ei1⟩ := is_v gg5
  obtain rfl : w1 = (.int i1) := Option.some.inj ei1
  obtain ⟨i2, ei2⟩ := is_v gg7
  obtain rfl : w2 = (.int i2) := Option.some.inj ei2
  obtain ⟨i3, ei3⟩ := is_v gg9
  obtain rfl : w3 = (.int i3) := Option.some.inj ei3
  obtain ⟨i4, ei4⟩ := is_v gg11
  obtain rfl : w4 = (.int i4) := Option.some.inj ei4
  obtain ⟨i5, ei5⟩ := is_v gg12
  obtain rfl : w5 = (.int i5) := Option.some.inj ei5
  obtain ⟨nn1, nn2⟩ := and_e hn
  obtain ⟨nn3, nn4⟩ := and_e nn2
  obtain ⟨nn5, nn6⟩ := and_e nn4
  obtain ⟨nn7, nn8⟩ := and_e nn6
  obtain ⟨nn9, nn10⟩ := and_e nn8
  obtain ⟨nn11, nn12⟩ := and_e nn10
  obtain ⟨nn13, nn14⟩ := and_e nn12
  obtain ⟨nn15, nn16⟩ := and_e nn14
  obtain ⟨nn17, nn18⟩ := and_e nn16
  obtain ⟨w_NAME, evw_NAME⟩ := exa_v nn1
  have E_w_NAME := Exa.start evw_NAME nn1
  have S_NAME : Sta s s.heap "com/example/purposeward/purposeward/Lexeme$Kind" "NAME" "Lcom/example/purposeward/purposeward/Lexeme$Kind;" (.ref w_NAME) := Sta.start evw_NAME (Or.inr ⟨(hw _ (List.mem_of_getElem? (i := 6) rfl)), (hw _ (List.mem_of_getElem? (i := 7) rfl))⟩)
  have O_w_NAME := own_fld evw_NAME nn7
  obtain ⟨w_QUOTED_NAME, evw_QUOTED_NAME⟩ := exa_v nn11
  have E_w_QUOTED_NAME := Exa.start evw_QUOTED_NAME nn11
  have S_QUOTED_NAME : Sta s s.heap "com/example/purposeward/purposeward/Lexeme$Kind" "QUOTED_NAME" "Lcom/example/purposeward/purposeward/Lexeme$Kind;" (.ref w_QUOTED_NAME) := Sta.start evw_QUOTED_NAME (Or.inr ⟨(hw _ (List.mem_of_getElem? (i := 6) rfl)), (hw _ (List.mem_of_getElem? (i := 57) rfl))⟩)
  have O_w_QUOTED_NAME := own_fld evw_QUOTED_NAME nn13
  obtain ⟨w_STRING, evw_STRING⟩ := exa_v nn15
  have E_w_STRING := Exa.start evw_STRING nn15
  have S_STRING : Sta s s.heap "com/example/purposeward/purposeward/Lexeme$Kind" "STRING" "Lcom/example/purposeward/purposeward/Lexeme$Kind;" (.ref w_STRING) := Sta.start evw_STRING (Or.inr ⟨(hw _ (List.mem_of_getElem? (i := 6) rfl)), (hw _ (List.mem_of_getElem? (i := 62) rfl))⟩)
  have O_w_STRING := own_fld evw_STRING nn18
  obtain ⟨w_COMMENT, evw_COMMENT⟩ := exa_v nn9
  have E_w_COMMENT := Exa.start evw_COMMENT nn9
  have S_COMMENT : Sta s s.heap "com/example/purposeward/purposeward/Lexeme$Kind" "COMMENT" "Lcom/example/purposeward/purposeward/Lexeme$Kind;" (.ref w_COMMENT) := Sta.start evw_COMMENT (Or.inr ⟨(hw _ (List.mem_of_getElem? (i := 6) rfl)), (hw _ (List.mem_of_getElem? (i := 40) rfl))⟩)
  have O_w_COMMENT := own_fld evw_COMMENT nn17
  obtain ⟨w_OTHER, evw_OTHER⟩ := exa_v nn3
  have E_w_OTHER := Exa.start evw_OTHER nn3
  have S_OTHER : Sta s s.heap "com/example/purposeward/purposeward/Lexeme$Kind" "OTHER" "Lcom/example/purposeward/purposeward/Lexeme$Kind;" (.ref w_OTHER) := Sta.start evw_OTHER (Or.inr ⟨(hw _ (List.mem_of_getElem? (i := 6) rfl)), (hw _ (List.mem_of_getElem? (i := 38) rfl))⟩)
  have O_w_OTHER := own_fld evw_OTHER nn5
  have ne_w_NAME_w_QUOTED_NAME : w_NAME ≠ w_QUOTED_NAME := Fld.ne O_w_NAME O_w_QUOTED_NAME (by decide)
  have ne_w_NAME_w_STRING : w_NAME ≠ w_STRING := Fld.ne O_w_NAME O_w_STRING (by decide)
  have ne_w_NAME_w_COMMENT : w_NAME ≠ w_COMMENT := Fld.ne O_w_NAME O_w_COMMENT (by decide)
  have ne_w_NAME_w_OTHER : w_NAME ≠ w_OTHER := Fld.ne O_w_NAME O_w_OTHER (by decide)
  have ne_w_QUOTED_NAME_w_STRING : w_QUOTED_NAME ≠ w_STRING := Fld.ne O_w_QUOTED_NAME O_w_STRING (by decide)
  have ne_w_QUOTED_NAME_w_COMMENT : w_QUOTED_NAME ≠ w_COMMENT := Fld.ne O_w_QUOTED_NAME O_w_COMMENT (by decide)
  have ne_w_QUOTED_NAME_w_OTHER : w_QUOTED_NAME ≠ w_OTHER := Fld.ne O_w_QUOTED_NAME O_w_OTHER (by decide)
  have ne_w_STRING_w_COMMENT : w_STRING ≠ w_COMMENT := Fld.ne O_w_STRING O_w_COMMENT (by decide)
  have ne_w_STRING_w_OTHER : w_STRING ≠ w_OTHER := Fld.ne O_w_STRING O_w_OTHER (by decide)
  have ne_w_COMMENT_w_OTHER : w_COMMENT ≠ w_OTHER := Fld.ne O_w_COMMENT O_w_OTHER (by decide)
  have O0 := Old.start s
  have S_high : Sta s s.heap "java/lang/Integer$IntegerCache" "high" "I" (.int (127 : Int32)) := Sta.start (eqv_i (Term.int_eval 127) (Cond.before_iff.mp (hsets _ (List.mem_of_getElem? (i := 3) rfl)))) (Or.inl (hsets _ (List.mem_of_getElem? (i := 1) rfl)))
  obtain ⟨w_cache, ev_cache⟩ := exa_v (Cond.before_iff.mp (hsets _ (List.mem_of_getElem? (i := 5) rfl)))
  have S_cache : Sta s s.heap "java/lang/Integer$IntegerCache" "cache" "[Ljava/lang/Integer;" (.ref w_cache) := Sta.start ev_cache (Or.inr ⟨(hw _ (List.mem_of_getElem? (i := 28) rfl)), (hsets _ (List.mem_of_getElem? (i := 2) rfl))⟩)
  obtain ⟨cl_w_cache, A_cache⟩ := Arr.start ev_cache (Cond.before_iff.mp (hsets _ (List.mem_of_getElem? (i := 4) rfl)))
  have B_w_cache := own_bxs (fun _ => ev_cache) A_cache (Cond.before_iff.mp (hsets _ (List.mem_of_getElem? (i := 6) rfl))) (Cond.before_iff.mp (hsets _ (List.mem_of_getElem? (i := 7) rfl)))
  obtain ⟨n, o, h1, h2, h3, _, L, rfl, ⟨rfl, N⟩, hq⟩ := rm0 l s _ hw tables_1 i0 i1 i2 i3 i4 i5 w_cache cl_w_cache w_NAME w_QUOTED_NAME w_STRING w_COMMENT w_OTHER s.heap s.heap.size (Nat.le_refl _) O0 S_high S_cache B_w_cache S_NAME S_QUOTED_NAME S_STRING S_COMMENT S_OTHER p e ha hc hk s m _ below hf ((Spec.applies_iff_loose hf).mp happ).1 ⟨rfl, State.Warmed39.refl s, rfl⟩ trivial
  refine ⟨n, _, h1, h2, h3, hpost _ _ _ _ _ _ ⟨Cond.after_iff.mpr rfl, Cond.after_iff.mpr (eq_i res_at (Term.int_eval (1)) rfl), trivial⟩ ⟨hq.1, hq.2.1, (hq.2.2.sift fun y hy => Or.inr (N y hy)).mono (by decide) (by decide)⟩⟩
theorem main_1_1 : Claimed_1_1 := comes_1 fun _ _ _ _ _ _ h hF => ⟨h.1, hF⟩
theorem main_1_2 : Claimed_1_2 := comes_1 fun _ _ _ _ _ _ h hF => ⟨h.2.1, hF⟩
end Jvm.Pilot.@@N@@
namespace Jvm.Pilot.@@N@@
open Jvm Jvm.ClassFile Sem Op Lib Jvm.Free Jvm.Stand Jvm.Pilot.@@N@@.Jvm.D
/-! MADE BY PROGRAM (witnessworld.py) out of the Statement's table words and the real class files: 18 classes; the members and pool entries that the words name. The judged class is class 1, her method 2. -/
namespace start1
open Jvm.ClassFile
def u (s : String) : CpInfo := .utf8 (stringToUtf16 s)
/-- a pool by its gaps: so many unusable entries, then the entry; so many at the end -/
def gap : Nat → List CpInfo → List CpInfo
  | 0, r => r
  | n + 1, r => .unusable :: gap n r
def poolList (es : List (Nat × CpInfo)) (last : Nat) : List CpInfo := es.foldr (fun e r => gap e.1 (e.2 :: r)) (gap last [])
def pool (es : List (Nat × CpInfo)) (last : Nat) : Array CpInfo := ⟨poolList es last⟩
def fileOf (pool : Array CpInfo) (this : Nat) (attrs : Array Attribute := #[]) (ms : Array MethodInfo := #[]) (fl : Nat := 33) (sup : Nat := 0) (ifs : Array Nat := #[]) (fds : Array FieldInfo := #[]) : ClassFile where
  minorVersion := 0
  majorVersion := 65
  constantPool := pool
  accessFlags := fl
  thisClass := this
  superClass := sup
  interfaces := ifs
  fields := fds
  methods := ms
  attributes := attrs
def plain (name : String) (sup : Option ClassId) : Class where
  name := name
  kind := .ordinary
  loader := none
  accessFlags := 33
  super := sup
  interfaces := #[]
  cf := none
  fields := #[]
  methods := #[]
  instanceTypes := #[]
  staticTypes := #[]
  resolved := #[]
  callSites := []
  init := .initialized
  statics := none
  mirror := none

def pool0 : Array CpInfo := pool [(5, u "<init>"), (0, u "()V"), (1, .class_ 10), (1, u "java/lang/Object")] 113

def k0c0 : Code := { maxStack := 0, maxLocals := 1, code := object_method_1_code, exceptionTable := #[], attributes := #[] }
def k0m0 : Method := { name := "<init>", desc := "()V", sig := { parameters := [], returnType := none }, accessFlags := 1, code := some k0c0 }
/-- java/lang/Object -/
def k0 : Class := { plain "java/lang/Object" none with
  accessFlags := 33
  interfaces := #[]
  cf := some (fileOf pool0 8 #[] #[{ accessFlags := 1, nameIndex := 5, descriptorIndex := 6, attributes := #[] }] 33 0 #[] #[])
  fields := #[]
  methods := #[k0m0]
  instanceTypes := #[]
  staticTypes := #[]
  resolved := Array.replicate 124 none
  statics := none }

def pool1 : Array CpInfo := pool [(2, .class_ 4), (1, u "java/lang/Object"), (0, u "<init>"), (0, u "()V"), (0, .integer 2147483647), (0, .fieldref 9 10), (0, .class_ 11), (0, .nameAndType 12 13), (0, u "com/example/purposeward/purposeward/Lexeme$Kind"), (0, u "NAME"), (0, u "Lcom/example/purposeward/purposeward/Lexeme$Kind;"), (0, .fieldref 9 15), (0, .nameAndType 16 13), (0, u "QUOTED_NAME"), (0, .fieldref 9 18), (0, .nameAndType 19 13), (0, u "STRING"), (0, .fieldref 9 21), (0, .nameAndType 22 13), (0, u "COMMENT"), (0, .fieldref 9 24), (0, .nameAndType 25 13), (0, u "OTHER"), (0, .methodref 27 28), (0, .class_ 29), (0, .nameAndType 30 31), (0, u "com/example/purposeward/purposeward/LexemeEqualsPinLaw"), (0, u "kindOf"), (0, u "(I)Lcom/example/purposeward/purposeward/Lexeme$Kind;"), (0, .class_ 33), (0, u "com/example/purposeward/purposeward/Lexeme"), (0, .methodref 32 35), (0, .nameAndType 5 36), (0, u "(Lcom/example/purposeward/purposeward/Lexeme$Kind;II)V"), (0, .methodref 38 39), (0, .class_ 40), (0, .nameAndType 41 42), (0, u "java/lang/Integer"), (0, u "valueOf"), (0, u "(I)Ljava/lang/Integer;"), (0, .methodref 32 44), (0, .nameAndType 45 46), (0, u "equals"), (0, u "(Ljava/lang/Object;)Z"), (3, u "law"), (0, u "(IIIIII)Z")] 4

def k1m0 : Method := { name := "<init>", desc := "()V", sig := { parameters := [], returnType := none }, accessFlags := 1, code := none }
def k1c1 : Code := { maxStack := 2, maxLocals := 2, code := method_2_code, exceptionTable := #[], attributes := #[] }
def k1m1 : Method := { name := "kindOf", desc := "(I)Lcom/example/purposeward/purposeward/Lexeme$Kind;", sig := { parameters := [.int], returnType := some (.object "com/example/purposeward/purposeward/Lexeme$Kind") }, accessFlags := 10, code := some k1c1 }
def k1c2 : Code := { maxStack := 5, maxLocals := 15, code := code, exceptionTable := #[], attributes := #[] }
def k1m2 : Method := { name := "law", desc := "(IIIIII)Z", sig := { parameters := [.int, .int, .int, .int, .int, .int], returnType := some .boolean }, accessFlags := 9, code := some k1c2 }
/-- com/example/purposeward/purposeward/LexemeEqualsPinLaw -/
def k1 : Class := { plain "com/example/purposeward/purposeward/LexemeEqualsPinLaw" (some 0) with
  accessFlags := 49
  interfaces := #[]
  cf := some (fileOf pool1 27 #[] #[{ accessFlags := 1, nameIndex := 5, descriptorIndex := 6, attributes := #[] }, { accessFlags := 10, nameIndex := 30, descriptorIndex := 31, attributes := #[] }, { accessFlags := 9, nameIndex := 50, descriptorIndex := 51, attributes := #[] }] 49 2 #[] #[])
  fields := #[]
  methods := #[k1m0, k1m1, k1m2]
  instanceTypes := #[]
  staticTypes := #[]
  resolved := Array.replicate 56 none
  statics := none }

def pool2 : Array CpInfo := pool [(1, .class_ 2), (0, u "java/lang/constant/Constable"), (0, .class_ 4), (0, u "java/lang/Object")] 6

/-- java/lang/constant/Constable -/
def k2 : Class := { plain "java/lang/constant/Constable" (some 0) with
  accessFlags := 1537
  interfaces := #[]
  cf := some (fileOf pool2 1 #[] #[] 1537 3 #[] #[])
  fields := #[]
  methods := #[]
  instanceTypes := #[]
  staticTypes := #[]
  resolved := Array.replicate 11 none
  statics := none }

def pool3 : Array CpInfo := pool [(1, .class_ 2), (0, u "java/lang/Comparable"), (0, .class_ 4), (0, u "java/lang/Object")] 7

/-- java/lang/Comparable -/
def k3 : Class := { plain "java/lang/Comparable" (some 0) with
  accessFlags := 1537
  interfaces := #[]
  cf := some (fileOf pool3 1 #[] #[] 1537 3 #[] #[])
  fields := #[]
  methods := #[]
  instanceTypes := #[]
  staticTypes := #[]
  resolved := Array.replicate 12 none
  statics := none }

def pool4 : Array CpInfo := pool [(1, .class_ 2), (0, u "java/io/Serializable"), (0, .class_ 4), (0, u "java/lang/Object")] 2

/-- java/io/Serializable -/
def k4 : Class := { plain "java/io/Serializable" (some 0) with
  accessFlags := 1537
  interfaces := #[]
  cf := some (fileOf pool4 1 #[] #[] 1537 3 #[] #[])
  fields := #[]
  methods := #[]
  instanceTypes := #[]
  staticTypes := #[]
  resolved := Array.replicate 7 none
  statics := none }

def pool5 : Array CpInfo := pool [(2, .class_ 4), (1, u "java/lang/Enum"), (0, u "name"), (0, u "Ljava/lang/String;"), (2, u "ordinal"), (0, u "I"), (1, .class_ 14), (1, u "java/lang/Object"), (4, u "hash"), (86, .class_ 108), (1, u "java/lang/Enum$EnumDesc"), (2, .class_ 112), (0, u "java/lang/constant/Constable"), (0, .class_ 114), (0, u "java/lang/Comparable"), (0, .class_ 116), (0, u "java/io/Serializable")] 87

/-- java/lang/Enum -/
def k5 : Class := { plain "java/lang/Enum" (some 0) with
  accessFlags := 1057
  interfaces := #[2, 3, 4]
  cf := some (fileOf pool5 2 #[.nestMembers #[106]] #[] 1057 12 #[111, 113, 115] #[{ accessFlags := 18, nameIndex := 5, descriptorIndex := 6, attributes := #[] }, { accessFlags := 18, nameIndex := 9, descriptorIndex := 10, attributes := #[] }, { accessFlags := 2, nameIndex := 19, descriptorIndex := 10, attributes := #[] }])
  fields := #[{ name := "name", type := (.object "java/lang/String"), accessFlags := 18, slot := 0, constantValue := 0 }, { name := "ordinal", type := .int, accessFlags := 18, slot := 1, constantValue := 0 }, { name := "hash", type := .int, accessFlags := 2, slot := 2, constantValue := 0 }]
  methods := #[]
  instanceTypes := #[(.object "java/lang/String"), .int, .int]
  staticTypes := #[]
  resolved := Array.replicate 204 none
  statics := none }

def pool6 : Array CpInfo := pool [(1, .class_ 2), (0, u "com/example/purposeward/purposeward/Lexeme$Kind"), (2, u "NAME"), (0, u "Lcom/example/purposeward/purposeward/Lexeme$Kind;"), (2, u "QUOTED_NAME"), (2, u "STRING"), (2, u "COMMENT"), (2, u "OTHER"), (2, u "$VALUES"), (0, u "[Lcom/example/purposeward/purposeward/Lexeme$Kind;"), (6, .class_ 31), (1, u "java/lang/Enum"), (8, u "described"), (0, u "Ljava/lang/String;"), (36, .class_ 79), (0, u "com/example/purposeward/purposeward/Lexeme")] 2

/-- com/example/purposeward/purposeward/Lexeme$Kind -/
def k6 : Class := { plain "com/example/purposeward/purposeward/Lexeme$Kind" (some 5) with
  accessFlags := 16432
  interfaces := #[]
  cf := some (fileOf pool6 1 #[.nestHost 78] #[] 16432 29 #[] #[{ accessFlags := 16409, nameIndex := 5, descriptorIndex := 6, attributes := #[] }, { accessFlags := 16409, nameIndex := 9, descriptorIndex := 6, attributes := #[] }, { accessFlags := 16409, nameIndex := 12, descriptorIndex := 6, attributes := #[] }, { accessFlags := 16409, nameIndex := 15, descriptorIndex := 6, attributes := #[] }, { accessFlags := 16409, nameIndex := 18, descriptorIndex := 6, attributes := #[] }, { accessFlags := 18, nameIndex := 40, descriptorIndex := 41, attributes := #[] }, { accessFlags := 4122, nameIndex := 21, descriptorIndex := 22, attributes := #[] }])
  fields := #[{ name := "NAME", type := (.object "com/example/purposeward/purposeward/Lexeme$Kind"), accessFlags := 16409, slot := 0, constantValue := 0 }, { name := "QUOTED_NAME", type := (.object "com/example/purposeward/purposeward/Lexeme$Kind"), accessFlags := 16409, slot := 1, constantValue := 0 }, { name := "STRING", type := (.object "com/example/purposeward/purposeward/Lexeme$Kind"), accessFlags := 16409, slot := 2, constantValue := 0 }, { name := "COMMENT", type := (.object "com/example/purposeward/purposeward/Lexeme$Kind"), accessFlags := 16409, slot := 3, constantValue := 0 }, { name := "OTHER", type := (.object "com/example/purposeward/purposeward/Lexeme$Kind"), accessFlags := 16409, slot := 4, constantValue := 0 }, { name := "described", type := (.object "java/lang/String"), accessFlags := 18, slot := 3, constantValue := 0 }, { name := "$VALUES", type := (.array (.object "com/example/purposeward/purposeward/Lexeme$Kind")), accessFlags := 4122, slot := 5, constantValue := 0 }]
  methods := #[]
  instanceTypes := #[(.object "java/lang/String"), .int, .int, (.object "java/lang/String")]
  staticTypes := #[(.object "com/example/purposeward/purposeward/Lexeme$Kind"), (.object "com/example/purposeward/purposeward/Lexeme$Kind"), (.object "com/example/purposeward/purposeward/Lexeme$Kind"), (.object "com/example/purposeward/purposeward/Lexeme$Kind"), (.object "com/example/purposeward/purposeward/Lexeme$Kind"), (.array (.object "com/example/purposeward/purposeward/Lexeme$Kind"))]
  resolved := Array.replicate 82 none
  statics := some 0 }

def pool7 : Array CpInfo := pool [(1, .methodref 2 3), (0, .class_ 4), (0, .nameAndType 5 6), (0, u "java/lang/Object"), (0, u "<init>"), (0, u "()V"), (0, .fieldref 8 9), (0, .class_ 10), (0, .nameAndType 11 12), (0, u "com/example/purposeward/purposeward/Lexeme"), (0, u "kind"), (0, u "Lcom/example/purposeward/purposeward/Lexeme$Kind;"), (0, .fieldref 8 14), (0, .nameAndType 15 16), (0, u "begin"), (0, u "I"), (0, .fieldref 8 18), (0, .nameAndType 19 16), (0, u "end"), (1, .class_ 23), (1, u "com/example/purposeward/purposeward/Lexeme$Kind"), (2, u "(Lcom/example/purposeward/purposeward/Lexeme$Kind;II)V"), (3, u "equals"), (0, u "(Ljava/lang/Object;)Z")] 6

def k7c0 : Code := { maxStack := 2, maxLocals := 4, code := prog_4_method_1_code, exceptionTable := #[], attributes := #[] }
def k7m0 : Method := { name := "<init>", desc := "(Lcom/example/purposeward/purposeward/Lexeme$Kind;II)V", sig := { parameters := [(.object "com/example/purposeward/purposeward/Lexeme$Kind"), .int, .int], returnType := none }, accessFlags := 0, code := some k7c0 }
def k7c1 : Code := { maxStack := 2, maxLocals := 3, code := prog_4_method_5_code, exceptionTable := #[], attributes := #[] }
def k7m1 : Method := { name := "equals", desc := "(Ljava/lang/Object;)Z", sig := { parameters := [(.object "java/lang/Object")], returnType := some .boolean }, accessFlags := 1, code := some k7c1 }
/-- com/example/purposeward/purposeward/Lexeme -/
def k7 : Class := { plain "com/example/purposeward/purposeward/Lexeme" (some 0) with
  accessFlags := 48
  interfaces := #[]
  cf := some (fileOf pool7 8 #[.nestMembers #[21]] #[{ accessFlags := 0, nameIndex := 5, descriptorIndex := 26, attributes := #[] }, { accessFlags := 1, nameIndex := 30, descriptorIndex := 31, attributes := #[] }] 48 2 #[] #[{ accessFlags := 18, nameIndex := 11, descriptorIndex := 12, attributes := #[] }, { accessFlags := 18, nameIndex := 15, descriptorIndex := 16, attributes := #[] }, { accessFlags := 18, nameIndex := 19, descriptorIndex := 16, attributes := #[] }])
  fields := #[{ name := "kind", type := (.object "com/example/purposeward/purposeward/Lexeme$Kind"), accessFlags := 18, slot := 0, constantValue := 0 }, { name := "begin", type := .int, accessFlags := 18, slot := 1, constantValue := 0 }, { name := "end", type := .int, accessFlags := 18, slot := 2, constantValue := 0 }]
  methods := #[k7m0, k7m1]
  instanceTypes := #[(.object "com/example/purposeward/purposeward/Lexeme$Kind"), .int, .int]
  staticTypes := #[]
  resolved := Array.replicate 38 none
  statics := none }

def pool8 : Array CpInfo := pool [(1, .methodref 2 3), (0, .class_ 4), (0, .nameAndType 5 6), (0, u "java/lang/Object"), (0, u "<init>"), (0, u "()V"), (1, .class_ 10), (1, u "java/lang/Number"), (2, .class_ 14), (0, u "java/io/Serializable"), (0, u "serialVersionUID"), (0, u "J")] 20

def k8c0 : Code := { maxStack := 1, maxLocals := 1, code := jdk_18_method_1_code, exceptionTable := #[], attributes := #[] }
def k8m0 : Method := { name := "<init>", desc := "()V", sig := { parameters := [], returnType := none }, accessFlags := 1, code := some k8c0 }
/-- java/lang/Number -/
def k8 : Class := { plain "java/lang/Number" (some 0) with
  accessFlags := 1057
  interfaces := #[4]
  cf := some (fileOf pool8 8 #[] #[{ accessFlags := 1, nameIndex := 5, descriptorIndex := 6, attributes := #[] }] 1057 2 #[13] #[{ accessFlags := 26, nameIndex := 15, descriptorIndex := 16, attributes := #[] }])
  fields := #[{ name := "serialVersionUID", type := .long, accessFlags := 26, slot := 0, constantValue := 0 }]
  methods := #[k8m0]
  instanceTypes := #[]
  staticTypes := #[.long]
  resolved := Array.replicate 37 none
  statics := none }

def pool9 : Array CpInfo := pool [(1, .class_ 2), (0, u "java/lang/constant/ConstantDesc"), (0, .class_ 4), (0, u "java/lang/Object")] 32

/-- java/lang/constant/ConstantDesc -/
def k9 : Class := { plain "java/lang/constant/ConstantDesc" (some 0) with
  accessFlags := 1537
  interfaces := #[]
  cf := some (fileOf pool9 1 #[] #[] 1537 3 #[] #[])
  fields := #[]
  methods := #[]
  instanceTypes := #[]
  staticTypes := #[]
  resolved := Array.replicate 37 none
  statics := none }

def pool10 : Array CpInfo := pool [(1, .class_ 2), (0, u "java/lang/Integer"), (16, u "digits"), (0, u "[C"), (46, u "<init>"), (17, u "DigitOnes"), (0, u "[B"), (2, u "DigitTens"), (10, .nameAndType 67 101), (0, u "()V"), (85, u "valueOf"), (0, u "(I)Ljava/lang/Integer;"), (0, .class_ 190), (0, u "java/lang/Integer$IntegerCache"), (0, .fieldref 189 192), (0, .nameAndType 193 194), (0, u "high"), (0, u "I"), (0, .fieldref 189 196), (0, .nameAndType 197 198), (0, u "cache"), (0, u "[Ljava/lang/Integer;"), (0, .methodref 1 200), (0, .nameAndType 67 201), (0, u "(I)V"), (0, .methodref 203 100), (0, .class_ 204), (0, u "java/lang/Number"), (0, .fieldref 1 206), (0, .nameAndType 207 194), (0, u "value"), (94, u "TYPE"), (0, u "Ljava/lang/Class;"), (0, .class_ 305), (0, u "java/lang/Comparable"), (0, .class_ 307), (0, u "java/lang/constant/Constable"), (0, .class_ 309), (0, u "java/lang/constant/ConstantDesc"), (0, u "MIN_VALUE"), (1, u "MAX_VALUE"), (3, u "SIZE"), (1, u "BYTES"), (1, u "serialVersionUID"), (0, u "J")] 131

def k10c0 : Code := { maxStack := 3, maxLocals := 1, code := jdk_33_method_22_code, exceptionTable := #[], attributes := #[] }
def k10m0 : Method := { name := "valueOf", desc := "(I)Ljava/lang/Integer;", sig := { parameters := [.int], returnType := some (.object "java/lang/Integer") }, accessFlags := 9, code := some k10c0 }
def k10c1 : Code := { maxStack := 2, maxLocals := 2, code := jdk_33_method_23_code, exceptionTable := #[], attributes := #[] }
def k10m1 : Method := { name := "<init>", desc := "(I)V", sig := { parameters := [.int], returnType := none }, accessFlags := 1, code := some k10c1 }
/-- java/lang/Integer -/
def k10 : Class := { plain "java/lang/Integer" (some 8) with
  accessFlags := 49
  interfaces := #[3, 2, 9]
  cf := some (fileOf pool10 1 #[.nestMembers #[189]] #[{ accessFlags := 9, nameIndex := 187, descriptorIndex := 188, attributes := #[] }, { accessFlags := 1, nameIndex := 67, descriptorIndex := 201, attributes := #[] }] 49 203 #[304, 306, 308] #[{ accessFlags := 25, nameIndex := 310, descriptorIndex := 194, attributes := #[] }, { accessFlags := 25, nameIndex := 312, descriptorIndex := 194, attributes := #[] }, { accessFlags := 25, nameIndex := 302, descriptorIndex := 303, attributes := #[] }, { accessFlags := 24, nameIndex := 19, descriptorIndex := 20, attributes := #[] }, { accessFlags := 24, nameIndex := 89, descriptorIndex := 86, attributes := #[] }, { accessFlags := 24, nameIndex := 85, descriptorIndex := 86, attributes := #[] }, { accessFlags := 18, nameIndex := 207, descriptorIndex := 194, attributes := #[] }, { accessFlags := 25, nameIndex := 316, descriptorIndex := 194, attributes := #[] }, { accessFlags := 25, nameIndex := 318, descriptorIndex := 194, attributes := #[] }, { accessFlags := 26, nameIndex := 320, descriptorIndex := 321, attributes := #[] }])
  fields := #[{ name := "MIN_VALUE", type := .int, accessFlags := 25, slot := 0, constantValue := 0 }, { name := "MAX_VALUE", type := .int, accessFlags := 25, slot := 1, constantValue := 0 }, { name := "TYPE", type := (.object "java/lang/Class"), accessFlags := 25, slot := 2, constantValue := 0 }, { name := "digits", type := (.array .char), accessFlags := 24, slot := 3, constantValue := 0 }, { name := "DigitTens", type := (.array .byte), accessFlags := 24, slot := 4, constantValue := 0 }, { name := "DigitOnes", type := (.array .byte), accessFlags := 24, slot := 5, constantValue := 0 }, { name := "value", type := .int, accessFlags := 18, slot := 0, constantValue := 0 }, { name := "SIZE", type := .int, accessFlags := 25, slot := 6, constantValue := 0 }, { name := "BYTES", type := .int, accessFlags := 25, slot := 7, constantValue := 0 }, { name := "serialVersionUID", type := .long, accessFlags := 26, slot := 8, constantValue := 0 }]
  methods := #[k10m0, k10m1]
  instanceTypes := #[.int]
  staticTypes := #[.int, .int, (.object "java/lang/Class"), (.array .char), (.array .byte), (.array .byte), .int, .int, .long]
  resolved := Array.replicate 453 none
  statics := none }

def pool11 : Array CpInfo := pool [(2, .class_ 4), (1, u "java/lang/Object"), (0, u "<init>"), (0, u "()V"), (0, .class_ 8), (0, u "java/lang/Integer"), (7, .class_ 18), (1, u "java/lang/Integer$IntegerCache"), (0, u "$assertionsDisabled"), (0, u "Z"), (26, u "high"), (0, u "I"), (8, u "archivedCache"), (0, u "[Ljava/lang/Integer;"), (12, u "cache"), (0, u "low")] 27

def k11m0 : Method := { name := "<init>", desc := "()V", sig := { parameters := [], returnType := none }, accessFlags := 2, code := none }
/-- java/lang/Integer$IntegerCache -/
def k11 : Class := { plain "java/lang/Integer$IntegerCache" (some 0) with
  accessFlags := 48
  interfaces := #[]
  cf := some (fileOf pool11 16 #[.nestHost 7] #[{ accessFlags := 2, nameIndex := 5, descriptorIndex := 6, attributes := #[] }] 48 2 #[] #[{ accessFlags := 24, nameIndex := 72, descriptorIndex := 48, attributes := #[] }, { accessFlags := 24, nameIndex := 47, descriptorIndex := 48, attributes := #[] }, { accessFlags := 24, nameIndex := 71, descriptorIndex := 58, attributes := #[] }, { accessFlags := 8, nameIndex := 57, descriptorIndex := 58, attributes := #[] }, { accessFlags := 4120, nameIndex := 19, descriptorIndex := 20, attributes := #[] }])
  fields := #[{ name := "low", type := .int, accessFlags := 24, slot := 0, constantValue := 0 }, { name := "high", type := .int, accessFlags := 24, slot := 1, constantValue := 0 }, { name := "cache", type := (.array (.object "java/lang/Integer")), accessFlags := 24, slot := 2, constantValue := 0 }, { name := "archivedCache", type := (.array (.object "java/lang/Integer")), accessFlags := 8, slot := 3, constantValue := 0 }, { name := "$assertionsDisabled", type := .boolean, accessFlags := 4120, slot := 4, constantValue := 0 }]
  methods := #[k11m0]
  instanceTypes := #[]
  staticTypes := #[.int, .int, (.array (.object "java/lang/Integer")), (.array (.object "java/lang/Integer")), .boolean]
  resolved := Array.replicate 100 none
  statics := some 1 }

def pool12 : Array CpInfo := pool [(1, u "java/lang/Cloneable"), (0, .class_ 1), (0, u "java/lang/Object"), (0, .class_ 3)] 3

/-- java/lang/Cloneable -/
def k12 : Class := { plain "java/lang/Cloneable" (some 0) with
  accessFlags := 1537
  interfaces := #[]
  cf := some (fileOf pool12 2 #[] #[] 1537 4 #[] #[])
  fields := #[]
  methods := #[]
  instanceTypes := #[]
  staticTypes := #[]
  resolved := Array.replicate 8 none
  statics := none }

/-- the primitive byte -/
def k13 : Class := { plain "byte" none with kind := .primitive 'B', accessFlags := 0x411 }
/-- [B -/
def k14 : Class := { plain "[B" (some 0) with kind := .array 13 .byte, interfaces := #[12, 4], accessFlags := 1041 }

/-- the primitive int -/
def k15 : Class := { plain "int" none with kind := .primitive 'I', accessFlags := 0x411 }
/-- [I -/
def k16 : Class := { plain "[I" (some 0) with kind := .array 15 .int, interfaces := #[12, 4], accessFlags := 1041 }

/-- [Ljava/lang/Integer; -/
def k17 : Class := { plain "[Ljava/lang/Integer;" (some 0) with kind := .array 10 (.object "java/lang/Integer"), interfaces := #[12, 4], accessFlags := 1041 }

def heap : Heap := #[{ cls := 6, slots := #[.ref 259, .ref 260, .ref 261, .ref 262, .ref 263, .null], vm := .statics 6 },
  { cls := 11, slots := #[.int 0, .int 127, .ref 2, .null, .int 0], vm := .statics 11 },
  { cls := 17, slots := #[.ref 3, .ref 4, .ref 5, .ref 6, .ref 7, .ref 8, .ref 9, .ref 10, .ref 11, .ref 12, .ref 13, .ref 14, .ref 15, .ref 16, .ref 17, .ref 18, .ref 19, .ref 20, .ref 21, .ref 22, .ref 23, .ref 24, .ref 25, .ref 26, .ref 27, .ref 28, .ref 29, .ref 30, .ref 31, .ref 32, .ref 33, .ref 34, .ref 35, .ref 36, .ref 37, .ref 38, .ref 39, .ref 40, .ref 41, .ref 42, .ref 43, .ref 44, .ref 45, .ref 46, .ref 47, .ref 48, .ref 49, .ref 50, .ref 51, .ref 52, .ref 53, .ref 54, .ref 55, .ref 56, .ref 57, .ref 58, .ref 59, .ref 60, .ref 61, .ref 62, .ref 63, .ref 64, .ref 65, .ref 66, .ref 67, .ref 68, .ref 69, .ref 70, .ref 71, .ref 72, .ref 73, .ref 74, .ref 75, .ref 76, .ref 77, .ref 78, .ref 79, .ref 80, .ref 81, .ref 82, .ref 83, .ref 84, .ref 85, .ref 86, .ref 87, .ref 88, .ref 89, .ref 90, .ref 91, .ref 92, .ref 93, .ref 94, .ref 95, .ref 96, .ref 97, .ref 98, .ref 99, .ref 100, .ref 101, .ref 102, .ref 103, .ref 104, .ref 105, .ref 106, .ref 107, .ref 108, .ref 109, .ref 110, .ref 111, .ref 112, .ref 113, .ref 114, .ref 115, .ref 116, .ref 117, .ref 118, .ref 119, .ref 120, .ref 121, .ref 122, .ref 123, .ref 124, .ref 125, .ref 126, .ref 127, .ref 128, .ref 129, .ref 130, .ref 131, .ref 132, .ref 133, .ref 134, .ref 135, .ref 136, .ref 137, .ref 138, .ref 139, .ref 140, .ref 141, .ref 142, .ref 143, .ref 144, .ref 145, .ref 146, .ref 147, .ref 148, .ref 149, .ref 150, .ref 151, .ref 152, .ref 153, .ref 154, .ref 155, .ref 156, .ref 157, .ref 158, .ref 159, .ref 160, .ref 161, .ref 162, .ref 163, .ref 164, .ref 165, .ref 166, .ref 167, .ref 168, .ref 169, .ref 170, .ref 171, .ref 172, .ref 173, .ref 174, .ref 175, .ref 176, .ref 177, .ref 178, .ref 179, .ref 180, .ref 181, .ref 182, .ref 183, .ref 184, .ref 185, .ref 186, .ref 187, .ref 188, .ref 189, .ref 190, .ref 191, .ref 192, .ref 193, .ref 194, .ref 195, .ref 196, .ref 197, .ref 198, .ref 199, .ref 200, .ref 201, .ref 202, .ref 203, .ref 204, .ref 205, .ref 206, .ref 207, .ref 208, .ref 209, .ref 210, .ref 211, .ref 212, .ref 213, .ref 214, .ref 215, .ref 216, .ref 217, .ref 218, .ref 219, .ref 220, .ref 221, .ref 222, .ref 223, .ref 224, .ref 225, .ref 226, .ref 227, .ref 228, .ref 229, .ref 230, .ref 231, .ref 232, .ref 233, .ref 234, .ref 235, .ref 236, .ref 237, .ref 238, .ref 239, .ref 240, .ref 241, .ref 242, .ref 243, .ref 244, .ref 245, .ref 246, .ref 247, .ref 248, .ref 249, .ref 250, .ref 251, .ref 252, .ref 253, .ref 254, .ref 255, .ref 256, .ref 257, .ref 258], vm := .none },
  { cls := 10, slots := #[.int (-128)], vm := .none },
  { cls := 10, slots := #[.int (-127)], vm := .none },
  { cls := 10, slots := #[.int (-126)], vm := .none },
  { cls := 10, slots := #[.int (-125)], vm := .none },
  { cls := 10, slots := #[.int (-124)], vm := .none },
  { cls := 10, slots := #[.int (-123)], vm := .none },
  { cls := 10, slots := #[.int (-122)], vm := .none },
  { cls := 10, slots := #[.int (-121)], vm := .none },
  { cls := 10, slots := #[.int (-120)], vm := .none },
  { cls := 10, slots := #[.int (-119)], vm := .none },
  { cls := 10, slots := #[.int (-118)], vm := .none },
  { cls := 10, slots := #[.int (-117)], vm := .none },
  { cls := 10, slots := #[.int (-116)], vm := .none },
  { cls := 10, slots := #[.int (-115)], vm := .none },
  { cls := 10, slots := #[.int (-114)], vm := .none },
  { cls := 10, slots := #[.int (-113)], vm := .none },
  { cls := 10, slots := #[.int (-112)], vm := .none },
  { cls := 10, slots := #[.int (-111)], vm := .none },
  { cls := 10, slots := #[.int (-110)], vm := .none },
  { cls := 10, slots := #[.int (-109)], vm := .none },
  { cls := 10, slots := #[.int (-108)], vm := .none },
  { cls := 10, slots := #[.int (-107)], vm := .none },
  { cls := 10, slots := #[.int (-106)], vm := .none },
  { cls := 10, slots := #[.int (-105)], vm := .none },
  { cls := 10, slots := #[.int (-104)], vm := .none },
  { cls := 10, slots := #[.int (-103)], vm := .none },
  { cls := 10, slots := #[.int (-102)], vm := .none },
  { cls := 10, slots := #[.int (-101)], vm := .none },
  { cls := 10, slots := #[.int (-100)], vm := .none },
  { cls := 10, slots := #[.int (-99)], vm := .none },
  { cls := 10, slots := #[.int (-98)], vm := .none },
  { cls := 10, slots := #[.int (-97)], vm := .none },
  { cls := 10, slots := #[.int (-96)], vm := .none },
  { cls := 10, slots := #[.int (-95)], vm := .none },
  { cls := 10, slots := #[.int (-94)], vm := .none },
  { cls := 10, slots := #[.int (-93)], vm := .none },
  { cls := 10, slots := #[.int (-92)], vm := .none },
  { cls := 10, slots := #[.int (-91)], vm := .none },
  { cls := 10, slots := #[.int (-90)], vm := .none },
  { cls := 10, slots := #[.int (-89)], vm := .none },
  { cls := 10, slots := #[.int (-88)], vm := .none },
  { cls := 10, slots := #[.int (-87)], vm := .none },
  { cls := 10, slots := #[.int (-86)], vm := .none },
  { cls := 10, slots := #[.int (-85)], vm := .none },
  { cls := 10, slots := #[.int (-84)], vm := .none },
  { cls := 10, slots := #[.int (-83)], vm := .none },
  { cls := 10, slots := #[.int (-82)], vm := .none },
  { cls := 10, slots := #[.int (-81)], vm := .none },
  { cls := 10, slots := #[.int (-80)], vm := .none },
  { cls := 10, slots := #[.int (-79)], vm := .none },
  { cls := 10, slots := #[.int (-78)], vm := .none },
  { cls := 10, slots := #[.int (-77)], vm := .none },
  { cls := 10, slots := #[.int (-76)], vm := .none },
  { cls := 10, slots := #[.int (-75)], vm := .none },
  { cls := 10, slots := #[.int (-74)], vm := .none },
  { cls := 10, slots := #[.int (-73)], vm := .none },
  { cls := 10, slots := #[.int (-72)], vm := .none },
  { cls := 10, slots := #[.int (-71)], vm := .none },
  { cls := 10, slots := #[.int (-70)], vm := .none },
  { cls := 10, slots := #[.int (-69)], vm := .none },
  { cls := 10, slots := #[.int (-68)], vm := .none },
  { cls := 10, slots := #[.int (-67)], vm := .none },
  { cls := 10, slots := #[.int (-66)], vm := .none },
  { cls := 10, slots := #[.int (-65)], vm := .none },
  { cls := 10, slots := #[.int (-64)], vm := .none },
  { cls := 10, slots := #[.int (-63)], vm := .none },
  { cls := 10, slots := #[.int (-62)], vm := .none },
  { cls := 10, slots := #[.int (-61)], vm := .none },
  { cls := 10, slots := #[.int (-60)], vm := .none },
  { cls := 10, slots := #[.int (-59)], vm := .none },
  { cls := 10, slots := #[.int (-58)], vm := .none },
  { cls := 10, slots := #[.int (-57)], vm := .none },
  { cls := 10, slots := #[.int (-56)], vm := .none },
  { cls := 10, slots := #[.int (-55)], vm := .none },
  { cls := 10, slots := #[.int (-54)], vm := .none },
  { cls := 10, slots := #[.int (-53)], vm := .none },
  { cls := 10, slots := #[.int (-52)], vm := .none },
  { cls := 10, slots := #[.int (-51)], vm := .none },
  { cls := 10, slots := #[.int (-50)], vm := .none },
  { cls := 10, slots := #[.int (-49)], vm := .none },
  { cls := 10, slots := #[.int (-48)], vm := .none },
  { cls := 10, slots := #[.int (-47)], vm := .none },
  { cls := 10, slots := #[.int (-46)], vm := .none },
  { cls := 10, slots := #[.int (-45)], vm := .none },
  { cls := 10, slots := #[.int (-44)], vm := .none },
  { cls := 10, slots := #[.int (-43)], vm := .none },
  { cls := 10, slots := #[.int (-42)], vm := .none },
  { cls := 10, slots := #[.int (-41)], vm := .none },
  { cls := 10, slots := #[.int (-40)], vm := .none },
  { cls := 10, slots := #[.int (-39)], vm := .none },
  { cls := 10, slots := #[.int (-38)], vm := .none },
  { cls := 10, slots := #[.int (-37)], vm := .none },
  { cls := 10, slots := #[.int (-36)], vm := .none },
  { cls := 10, slots := #[.int (-35)], vm := .none },
  { cls := 10, slots := #[.int (-34)], vm := .none },
  { cls := 10, slots := #[.int (-33)], vm := .none },
  { cls := 10, slots := #[.int (-32)], vm := .none },
  { cls := 10, slots := #[.int (-31)], vm := .none },
  { cls := 10, slots := #[.int (-30)], vm := .none },
  { cls := 10, slots := #[.int (-29)], vm := .none },
  { cls := 10, slots := #[.int (-28)], vm := .none },
  { cls := 10, slots := #[.int (-27)], vm := .none },
  { cls := 10, slots := #[.int (-26)], vm := .none },
  { cls := 10, slots := #[.int (-25)], vm := .none },
  { cls := 10, slots := #[.int (-24)], vm := .none },
  { cls := 10, slots := #[.int (-23)], vm := .none },
  { cls := 10, slots := #[.int (-22)], vm := .none },
  { cls := 10, slots := #[.int (-21)], vm := .none },
  { cls := 10, slots := #[.int (-20)], vm := .none },
  { cls := 10, slots := #[.int (-19)], vm := .none },
  { cls := 10, slots := #[.int (-18)], vm := .none },
  { cls := 10, slots := #[.int (-17)], vm := .none },
  { cls := 10, slots := #[.int (-16)], vm := .none },
  { cls := 10, slots := #[.int (-15)], vm := .none },
  { cls := 10, slots := #[.int (-14)], vm := .none },
  { cls := 10, slots := #[.int (-13)], vm := .none },
  { cls := 10, slots := #[.int (-12)], vm := .none },
  { cls := 10, slots := #[.int (-11)], vm := .none },
  { cls := 10, slots := #[.int (-10)], vm := .none },
  { cls := 10, slots := #[.int (-9)], vm := .none },
  { cls := 10, slots := #[.int (-8)], vm := .none },
  { cls := 10, slots := #[.int (-7)], vm := .none },
  { cls := 10, slots := #[.int (-6)], vm := .none },
  { cls := 10, slots := #[.int (-5)], vm := .none },
  { cls := 10, slots := #[.int (-4)], vm := .none },
  { cls := 10, slots := #[.int (-3)], vm := .none },
  { cls := 10, slots := #[.int (-2)], vm := .none },
  { cls := 10, slots := #[.int (-1)], vm := .none },
  { cls := 10, slots := #[.int 0], vm := .none },
  { cls := 10, slots := #[.int 1], vm := .none },
  { cls := 10, slots := #[.int 2], vm := .none },
  { cls := 10, slots := #[.int 3], vm := .none },
  { cls := 10, slots := #[.int 4], vm := .none },
  { cls := 10, slots := #[.int 5], vm := .none },
  { cls := 10, slots := #[.int 6], vm := .none },
  { cls := 10, slots := #[.int 7], vm := .none },
  { cls := 10, slots := #[.int 8], vm := .none },
  { cls := 10, slots := #[.int 9], vm := .none },
  { cls := 10, slots := #[.int 10], vm := .none },
  { cls := 10, slots := #[.int 11], vm := .none },
  { cls := 10, slots := #[.int 12], vm := .none },
  { cls := 10, slots := #[.int 13], vm := .none },
  { cls := 10, slots := #[.int 14], vm := .none },
  { cls := 10, slots := #[.int 15], vm := .none },
  { cls := 10, slots := #[.int 16], vm := .none },
  { cls := 10, slots := #[.int 17], vm := .none },
  { cls := 10, slots := #[.int 18], vm := .none },
  { cls := 10, slots := #[.int 19], vm := .none },
  { cls := 10, slots := #[.int 20], vm := .none },
  { cls := 10, slots := #[.int 21], vm := .none },
  { cls := 10, slots := #[.int 22], vm := .none },
  { cls := 10, slots := #[.int 23], vm := .none },
  { cls := 10, slots := #[.int 24], vm := .none },
  { cls := 10, slots := #[.int 25], vm := .none },
  { cls := 10, slots := #[.int 26], vm := .none },
  { cls := 10, slots := #[.int 27], vm := .none },
  { cls := 10, slots := #[.int 28], vm := .none },
  { cls := 10, slots := #[.int 29], vm := .none },
  { cls := 10, slots := #[.int 30], vm := .none },
  { cls := 10, slots := #[.int 31], vm := .none },
  { cls := 10, slots := #[.int 32], vm := .none },
  { cls := 10, slots := #[.int 33], vm := .none },
  { cls := 10, slots := #[.int 34], vm := .none },
  { cls := 10, slots := #[.int 35], vm := .none },
  { cls := 10, slots := #[.int 36], vm := .none },
  { cls := 10, slots := #[.int 37], vm := .none },
  { cls := 10, slots := #[.int 38], vm := .none },
  { cls := 10, slots := #[.int 39], vm := .none },
  { cls := 10, slots := #[.int 40], vm := .none },
  { cls := 10, slots := #[.int 41], vm := .none },
  { cls := 10, slots := #[.int 42], vm := .none },
  { cls := 10, slots := #[.int 43], vm := .none },
  { cls := 10, slots := #[.int 44], vm := .none },
  { cls := 10, slots := #[.int 45], vm := .none },
  { cls := 10, slots := #[.int 46], vm := .none },
  { cls := 10, slots := #[.int 47], vm := .none },
  { cls := 10, slots := #[.int 48], vm := .none },
  { cls := 10, slots := #[.int 49], vm := .none },
  { cls := 10, slots := #[.int 50], vm := .none },
  { cls := 10, slots := #[.int 51], vm := .none },
  { cls := 10, slots := #[.int 52], vm := .none },
  { cls := 10, slots := #[.int 53], vm := .none },
  { cls := 10, slots := #[.int 54], vm := .none },
  { cls := 10, slots := #[.int 55], vm := .none },
  { cls := 10, slots := #[.int 56], vm := .none },
  { cls := 10, slots := #[.int 57], vm := .none },
  { cls := 10, slots := #[.int 58], vm := .none },
  { cls := 10, slots := #[.int 59], vm := .none },
  { cls := 10, slots := #[.int 60], vm := .none },
  { cls := 10, slots := #[.int 61], vm := .none },
  { cls := 10, slots := #[.int 62], vm := .none },
  { cls := 10, slots := #[.int 63], vm := .none },
  { cls := 10, slots := #[.int 64], vm := .none },
  { cls := 10, slots := #[.int 65], vm := .none },
  { cls := 10, slots := #[.int 66], vm := .none },
  { cls := 10, slots := #[.int 67], vm := .none },
  { cls := 10, slots := #[.int 68], vm := .none },
  { cls := 10, slots := #[.int 69], vm := .none },
  { cls := 10, slots := #[.int 70], vm := .none },
  { cls := 10, slots := #[.int 71], vm := .none },
  { cls := 10, slots := #[.int 72], vm := .none },
  { cls := 10, slots := #[.int 73], vm := .none },
  { cls := 10, slots := #[.int 74], vm := .none },
  { cls := 10, slots := #[.int 75], vm := .none },
  { cls := 10, slots := #[.int 76], vm := .none },
  { cls := 10, slots := #[.int 77], vm := .none },
  { cls := 10, slots := #[.int 78], vm := .none },
  { cls := 10, slots := #[.int 79], vm := .none },
  { cls := 10, slots := #[.int 80], vm := .none },
  { cls := 10, slots := #[.int 81], vm := .none },
  { cls := 10, slots := #[.int 82], vm := .none },
  { cls := 10, slots := #[.int 83], vm := .none },
  { cls := 10, slots := #[.int 84], vm := .none },
  { cls := 10, slots := #[.int 85], vm := .none },
  { cls := 10, slots := #[.int 86], vm := .none },
  { cls := 10, slots := #[.int 87], vm := .none },
  { cls := 10, slots := #[.int 88], vm := .none },
  { cls := 10, slots := #[.int 89], vm := .none },
  { cls := 10, slots := #[.int 90], vm := .none },
  { cls := 10, slots := #[.int 91], vm := .none },
  { cls := 10, slots := #[.int 92], vm := .none },
  { cls := 10, slots := #[.int 93], vm := .none },
  { cls := 10, slots := #[.int 94], vm := .none },
  { cls := 10, slots := #[.int 95], vm := .none },
  { cls := 10, slots := #[.int 96], vm := .none },
  { cls := 10, slots := #[.int 97], vm := .none },
  { cls := 10, slots := #[.int 98], vm := .none },
  { cls := 10, slots := #[.int 99], vm := .none },
  { cls := 10, slots := #[.int 100], vm := .none },
  { cls := 10, slots := #[.int 101], vm := .none },
  { cls := 10, slots := #[.int 102], vm := .none },
  { cls := 10, slots := #[.int 103], vm := .none },
  { cls := 10, slots := #[.int 104], vm := .none },
  { cls := 10, slots := #[.int 105], vm := .none },
  { cls := 10, slots := #[.int 106], vm := .none },
  { cls := 10, slots := #[.int 107], vm := .none },
  { cls := 10, slots := #[.int 108], vm := .none },
  { cls := 10, slots := #[.int 109], vm := .none },
  { cls := 10, slots := #[.int 110], vm := .none },
  { cls := 10, slots := #[.int 111], vm := .none },
  { cls := 10, slots := #[.int 112], vm := .none },
  { cls := 10, slots := #[.int 113], vm := .none },
  { cls := 10, slots := #[.int 114], vm := .none },
  { cls := 10, slots := #[.int 115], vm := .none },
  { cls := 10, slots := #[.int 116], vm := .none },
  { cls := 10, slots := #[.int 117], vm := .none },
  { cls := 10, slots := #[.int 118], vm := .none },
  { cls := 10, slots := #[.int 119], vm := .none },
  { cls := 10, slots := #[.int 120], vm := .none },
  { cls := 10, slots := #[.int 121], vm := .none },
  { cls := 10, slots := #[.int 122], vm := .none },
  { cls := 10, slots := #[.int 123], vm := .none },
  { cls := 10, slots := #[.int 124], vm := .none },
  { cls := 10, slots := #[.int 125], vm := .none },
  { cls := 10, slots := #[.int 126], vm := .none },
  { cls := 10, slots := #[.int 127], vm := .none },
  { cls := 6, slots := #[.null, .int 0, .int 0, .null], vm := .none },
  { cls := 6, slots := #[.null, .int 1, .int 0, .null], vm := .none },
  { cls := 6, slots := #[.null, .int 2, .int 0, .null], vm := .none },
  { cls := 6, slots := #[.null, .int 3, .int 0, .null], vm := .none },
  { cls := 6, slots := #[.null, .int 4, .int 0, .null], vm := .none }]
def classes : Array Class := #[k0, k1, k2, k3, k4, k5, k6, k7, k8, k9, k10, k11, k12, k13, k14, k15, k16, k17]
def interned : List (Array UInt16 × Addr) := []
def slotsUsed : Nat := 543
def theMethod : MethodId := ⟨1, 2⟩
def args0 : Array Value := #[.int 5, .int 6, .int 7, .int 8, .int 9, .int 0]
def aboutOver (below : List Frame) : State where
  vm := { classes := classes, interned := interned.toArray }
  heap := heap
  slotsUsed := slotsUsed
  threads := #[{ frames := .invoking theMethod args0 :: below }]
def below0 : List Frame := [.native { method := ⟨0, 0⟩, args := #[] }]
def about1 : State := aboutOver below0
def p0 : Program := .bare "" "" ""
def e0 : Env := launch0.env 0 0 0
theorem w_frames : about1.frames = Frame.invoking theMethod args0 :: below0 := rfl
set_option maxRecDepth 65536 in
theorem w_args : argsFit about1.vm theMethod args0 = true := by decide +kernel
set_option maxRecDepth 65536 in
theorem w_heap : heapFits about1 = true := by decide +kernel
set_option maxRecDepth 65536 in
theorem w_runnable : about1.curStatus? = some .runnable := by decide +kernel
set_option maxRecDepth 65536 in
theorem w_alone : about1.alone = true := by decide +kernel
set_option maxRecDepth 65536 in
theorem w_named : about1.methodNamed? x = some theMethod := by decide +kernel
set_option maxRecDepth 65536 in
theorem w_hears : about1.hears theMethod below0 = true := by decide +kernel
set_option maxRecDepth 65536 in
theorem w_ripe : about1.ripe theMethod args0 below0 = true := by decide +kernel
theorem w_running : about1.status = .running := rfl
set_option maxRecDepth 65536 in
theorem w_room : about1.hasRoom e0.platform room_1 = true :=
  launch0.hasRoom_least _ room_1 (by decide +kernel) (by decide +kernel) (by decide +kernel) (by decide +kernel) (by decide +kernel) (by decide +kernel)
theorem allAtoms_all (ts : List Jvm.Cond) (a : Array Jvm.Value) (st : Jvm.State) : (allAtoms ts).before a st = ts.all (fun c => c.before a st) := by
  induction ts with
  | nil => rfl
  | cons c t ih =>
    show (Jvm.Cond.and c (allAtoms t)).before a st = _
    rw [Jvm.Cond.before_and, ih, List.all_cons]
def words1 : List Jvm.Cond := Jvm.Cond.code x code maxLocals ret :: tables_1
/-- a 'code' word, met by the world's own term for the bytes: nothing is compared byte by byte -/
theorem code_word {y : MethodName} {bytes : ByteArray} {mx : Nat} {rt : Option FieldType} {a : Array Value} {s : State} {m : MethodId} {meth : Method} {c : Code} (h1 : s.methodNamed? y = some m) (h2 : s.vm.method? m = some meth) (h3 : meth.code = some c) (h4 : c.code = bytes)
    (h5 : (c.maxLocals == mx && c.exceptionTable.isEmpty && decide (c.maxStack ≤ mostOperands) && decide (meth.sig.returnType = rt) && !meth.locks && decide (parseMethodDescriptor y.desc = some meth.sig)) = true) : (Jvm.Cond.code y bytes mx rt).before a s = true := by
  simp only [Bool.and_eq_true, beq_iff_eq, Bool.not_eq_true', decide_eq_true_eq] at h5
  obtain ⟨⟨⟨⟨⟨g1, g2⟩, g3⟩, g4⟩, g5⟩, g6⟩ := h5
  simp [Cond.before, Cond.holds, Cond.value, h1, h2, h3, h4, g1, g2, g3, g4, g5, g6]
def isCode : Jvm.Cond → Bool
  | .code _ _ _ _ => true
  | _ => false
theorem all_split {L : List Jvm.Cond} {P : Jvm.Cond → Bool} (h1 : L.all (fun c => isCode c || P c) = true) (h2 : ∀ c ∈ L.filter isCode, P c = true) : L.all P = true := by
  refine List.all_eq_true.mpr fun c hc => ?_
  have h := List.all_eq_true.mp h1 c hc
  rcases Bool.eq_false_or_eq_true (isCode c) with hi | hi
  · exact h2 c (List.mem_filter.mpr ⟨hc, hi⟩)
  · simpa [hi] using h
set_option maxRecDepth 65536 in
theorem w_c0 : (Jvm.Cond.code x code maxLocals ret).before args0 about1 = true := code_word (m := ⟨1, 2⟩) (meth := k1m2) (c := k1c2) (by decide +kernel) rfl rfl rfl (by decide +kernel)
set_option maxRecDepth 65536 in
theorem w_c1 : (Jvm.Cond.code ({ cls := "com/example/purposeward/purposeward/LexemeEqualsPinLaw", name := "kindOf", desc := "(I)Lcom/example/purposeward/purposeward/Lexeme$Kind;" } : Jvm.MethodName) method_2_code (2 : Nat) (Option.some (Jvm.ClassFile.FieldType.object "com/example/purposeward/purposeward/Lexeme$Kind"))).before args0 about1 = true := code_word (m := ⟨1, 1⟩) (meth := k1m1) (c := k1c1) (by decide +kernel) rfl rfl rfl (by decide +kernel)
set_option maxRecDepth 65536 in
theorem w_c2 : (Jvm.Cond.code ({ cls := "com/example/purposeward/purposeward/Lexeme", name := "<init>", desc := "(Lcom/example/purposeward/purposeward/Lexeme$Kind;II)V" } : Jvm.MethodName) prog_4_method_1_code (4 : Nat) (Option.none : Option Jvm.ClassFile.FieldType)).before args0 about1 = true := code_word (m := ⟨7, 0⟩) (meth := k7m0) (c := k7c0) (by decide +kernel) rfl rfl rfl (by decide +kernel)
set_option maxRecDepth 65536 in
theorem w_c3 : (Jvm.Cond.code ({ cls := "java/lang/Object", name := "<init>", desc := "()V" } : Jvm.MethodName) object_method_1_code (1 : Nat) (Option.none : Option Jvm.ClassFile.FieldType)).before args0 about1 = true := code_word (m := ⟨0, 0⟩) (meth := k0m0) (c := k0c0) (by decide +kernel) rfl rfl rfl (by decide +kernel)
set_option maxRecDepth 65536 in
theorem w_c4 : (Jvm.Cond.code ({ cls := "java/lang/Integer", name := "valueOf", desc := "(I)Ljava/lang/Integer;" } : Jvm.MethodName) jdk_33_method_22_code (1 : Nat) (Option.some (Jvm.ClassFile.FieldType.object "java/lang/Integer"))).before args0 about1 = true := code_word (m := ⟨10, 0⟩) (meth := k10m0) (c := k10c0) (by decide +kernel) rfl rfl rfl (by decide +kernel)
set_option maxRecDepth 65536 in
theorem w_c5 : (Jvm.Cond.code ({ cls := "com/example/purposeward/purposeward/Lexeme", name := "equals", desc := "(Ljava/lang/Object;)Z" } : Jvm.MethodName) prog_4_method_5_code (3 : Nat) (Option.some Jvm.ClassFile.FieldType.boolean)).before args0 about1 = true := code_word (m := ⟨7, 1⟩) (meth := k7m1) (c := k7c1) (by decide +kernel) rfl rfl rfl (by decide +kernel)
set_option maxRecDepth 65536 in
theorem w_c6 : (Jvm.Cond.code ({ cls := "java/lang/Integer", name := "<init>", desc := "(I)V" } : Jvm.MethodName) jdk_33_method_23_code (2 : Nat) (Option.none : Option Jvm.ClassFile.FieldType)).before args0 about1 = true := code_word (m := ⟨10, 1⟩) (meth := k10m1) (c := k10c1) (by decide +kernel) rfl rfl rfl (by decide +kernel)
set_option maxRecDepth 65536 in
theorem w_c7 : (Jvm.Cond.code ({ cls := "java/lang/Number", name := "<init>", desc := "()V" } : Jvm.MethodName) jdk_18_method_1_code (1 : Nat) (Option.none : Option Jvm.ClassFile.FieldType)).before args0 about1 = true := code_word (m := ⟨8, 0⟩) (meth := k8m0) (c := k8c0) (by decide +kernel) rfl rfl rfl (by decide +kernel)
def codes1 : List Jvm.Cond := [Jvm.Cond.code x code maxLocals ret, Jvm.Cond.code ({ cls := "com/example/purposeward/purposeward/LexemeEqualsPinLaw", name := "kindOf", desc := "(I)Lcom/example/purposeward/purposeward/Lexeme$Kind;" } : Jvm.MethodName) method_2_code (2 : Nat) (Option.some (Jvm.ClassFile.FieldType.object "com/example/purposeward/purposeward/Lexeme$Kind")), Jvm.Cond.code ({ cls := "com/example/purposeward/purposeward/Lexeme", name := "<init>", desc := "(Lcom/example/purposeward/purposeward/Lexeme$Kind;II)V" } : Jvm.MethodName) prog_4_method_1_code (4 : Nat) (Option.none : Option Jvm.ClassFile.FieldType), Jvm.Cond.code ({ cls := "java/lang/Object", name := "<init>", desc := "()V" } : Jvm.MethodName) object_method_1_code (1 : Nat) (Option.none : Option Jvm.ClassFile.FieldType), Jvm.Cond.code ({ cls := "java/lang/Integer", name := "valueOf", desc := "(I)Ljava/lang/Integer;" } : Jvm.MethodName) jdk_33_method_22_code (1 : Nat) (Option.some (Jvm.ClassFile.FieldType.object "java/lang/Integer")), Jvm.Cond.code ({ cls := "com/example/purposeward/purposeward/Lexeme", name := "equals", desc := "(Ljava/lang/Object;)Z" } : Jvm.MethodName) prog_4_method_5_code (3 : Nat) (Option.some Jvm.ClassFile.FieldType.boolean), Jvm.Cond.code ({ cls := "java/lang/Integer", name := "<init>", desc := "(I)V" } : Jvm.MethodName) jdk_33_method_23_code (2 : Nat) (Option.none : Option Jvm.ClassFile.FieldType), Jvm.Cond.code ({ cls := "java/lang/Number", name := "<init>", desc := "()V" } : Jvm.MethodName) jdk_18_method_1_code (1 : Nat) (Option.none : Option Jvm.ClassFile.FieldType)]
set_option maxRecDepth 65536 in
theorem codes_eq : words1.filter isCode = codes1 := rfl
theorem w_codes : ∀ c ∈ words1.filter isCode, c.before args0 about1 = true := by
  rw [codes_eq]
  intro c hc
  simp only [codes1, List.mem_cons, List.not_mem_nil, or_false] at hc
  rcases hc with rfl | rfl | rfl | rfl | rfl | rfl | rfl | rfl
  · exact w_c0
  · exact w_c1
  · exact w_c2
  · exact w_c3
  · exact w_c4
  · exact w_c5
  · exact w_c6
  · exact w_c7
set_option maxRecDepth 65536 in
theorem w_t1 : (words1.take 24).all (fun c => isCode c || c.before args0 about1) = true := by decide +kernel
set_option maxRecDepth 65536 in
theorem w_t2 : ((words1.drop 24).take 24).all (fun c => isCode c || c.before args0 about1) = true := by decide +kernel
set_option maxRecDepth 65536 in
theorem w_t3 : ((words1.drop 24).drop 24).all (fun c => isCode c || c.before args0 about1) = true := by decide +kernel
theorem w_tables : (allAtoms (Jvm.Cond.code x code maxLocals ret :: tables_1)).before args0 about1 = true := by
  rw [allAtoms_all]
  show words1.all (fun c => c.before args0 about1) = true
  refine all_split ?_ w_codes
  rw [← List.take_append_drop 24 words1, List.all_append, w_t1, ← List.take_append_drop 24 (words1.drop 24), List.all_append, w_t2, w_t3]
  rfl
set_option maxRecDepth 65536 in
theorem w_rest : rest_1_c.before args0 about1 = true := by decide +kernel
set_option maxRecDepth 65536 in
theorem w_case : (Jvm.Cond.and given_1 narrow_1).before args0 about1 = true := by decide +kernel
theorem w_applies : (headSpec (Jvm.Cond.code x code maxLocals ret :: tables_1) room_1).applies x e0.platform about1 = true :=
  (Spec.applies_iff w_frames).mpr ⟨w_running, w_runnable, w_alone, w_named, w_hears, w_ripe, w_room, w_tables⟩
theorem atStart : AtStart classFile x code maxLocals ret World_1 tables_1 room_1 Calls_1 rest_1 Pre_1 launch0 p0 e0 about1 theMethod args0 below0 :=
  ⟨lists_1, trivial, launch0.admits_env _ _ _, launch0.least_env, fairChoices_fair.cas, fairChoices_fair.clock, w_frames, w_args, w_heap, w_applies, trivial, w_rest, w_case⟩
end start1
theorem witness_1 : WitnessClaimed_1 := ⟨start1.p0, start1.e0, start1.about1, start1.theMethod, start1.args0, start1.below0, start1.atStart⟩
end Jvm.Pilot.@@N@@
