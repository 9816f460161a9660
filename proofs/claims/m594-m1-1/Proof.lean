import JvmDerived
import JvmDerived.Pilot.@@N@@Statement
import JvmDerived.Pilot.@@N@@Code
set_option linter.unusedVariables false
set_option linter.unusedSimpArgs false
namespace Jvm.Pilot.@@N@@
open Jvm Jvm.ClassFile Sem Op Lib Jvm.Free Jvm.Stand Jvm.LawKit Jvm.RoadKit Bundle Jvm.Pilot.@@N@@.Jvm.D
/-! own: the walk's goal, read backwards -/
def Go (tb : Tables) (e : Env) (below : List Frame) (F : State → Outcome → Prop) (A : State) : Prop := ∃ t o, Steps tb e below A t ∧ F t o
def Fin (below : List Frame) (s : State) (Q : Option Value → Heap → List Loc → Prop) (k n : Nat) (t : State) (o : Outcome) : Prop := t.status = .running ∧ Ended t below o ∧ ∃ v L, o = .returned v ∧ Q v t.heap L ∧ FrameEnd s o t L k n
theorem go {tb : Tables} {e : Env} {below : List Frame} {F : State → Outcome → Prop} {A B : State} (st : ∀ t, Steps tb e below B t → Steps tb e below A t) (h : Go tb e below F B) : Go tb e below F A := by
  obtain ⟨t, o, h1, h2⟩ := h
  exact ⟨t, o, st t h1, h2⟩
theorem go_in {p : Program} {e : Env} {below : List Frame} {s s₁ : State} {Q : Option Value → Heap → List Loc → Prop} {k n : Nat} {A : State} (h : ∀ F : State → Outcome → Prop, (∀ t o, Fin below s Q k n t o → F t o) → Go p.tables e below F A) :
    ∃ t o, Steps p.tables e below A t ∧ t.status = .running ∧ Ended t below o ∧ ∃ v L, o = .returned v ∧ Q v t.heap L ∧ FrameEnd s o t L k n := by
  obtain ⟨t, o, h1, h2, h3, h4⟩ := h (Fin below s Q k n) (fun _ _ h => h)
  exact ⟨t, o, h1, h2, h3, h4⟩
theorem own_fld {s : State} {args : Array Value} {t : Term} {C n d : String} {a : Addr} {k : Int32} (ev : t.eval args s none [] s = some (.ref a)) (h : (Cond.eq (.field t C n d) (.int k)).value args s none s [] = some true) : Fld s s.heap a C n d (.int k) := Fld.start ((fld_at ev).symm.trans (eqv_i (Term.int_eval k) h))
def NSt (h : Heap) (x : Addr) : Prop := ∃ c : Cell, h[x]? = some c ∧ c.vm.isStatics = false
theorem own_sta_keep {Z : State} {h h' : Heap} {C n d : String} {v : Value} {ws : List Addr} (F : Sta Z h C n d v) (K : Keep h h' ws) (q : ∀ x ∈ ws, NSt h x) : Sta Z h' C n d v := by
  obtain ⟨cf, i, k, f, st, cell, h1, h2, h3, h4, h5, h6, h7⟩ := F
  refine ⟨cf, i, k, f, st, cell, h1, h2, h3, h4, K.2.1 _ _ h5 (fun z => ?_), h6, h7⟩
  obtain ⟨c, g1, g2⟩ := q _ z
  cases h5.symm.trans g1
  rw [h6] at g2; cases g2
end Jvm.Pilot.@@N@@
namespace Jvm.RoadKit
theorem Exa.ns {Z : State} {h : Heap} {a : Addr} {C : String} (F : Exa Z h a C) : Jvm.Pilot.@@N@@.NSt h a := by
  obtain ⟨c, _, h1, -, -, h4, -⟩ := F; exact ⟨c, h1, h4⟩
theorem Arv.ns {Z : State} {h : Heap} {a : Addr} {k : ClassId} {ty : ClassFile.FieldType} {z : Int32} {vs : List Value} {dv : Value} (F : Arv Z h a k ty z vs dv) : Jvm.Pilot.@@N@@.NSt h a := by
  obtain ⟨c, A, -⟩ := F; exact ⟨c, A.1, A.plain⟩
end Jvm.RoadKit
namespace Jvm.Pilot.@@N@@
open Jvm Jvm.ClassFile Sem Op Lib Jvm.Free Jvm.Stand Jvm.LawKit Jvm.RoadKit Bundle Jvm.Pilot.@@N@@.Jvm.D
theorem own_no {Z : State} {aw : Array Value} {X Y : String} {t : List String} {n : Nat} (hwc : ∀ w ∈ Cond.chainWords (X :: t), w.before aw Z = true) (wi : (Cond.instantiable Y n).before aw Z = true) (hn : Y ∉ X :: t) : ∃ c t, Z.vm.findClass X = some c ∧ Z.vm.findClass Y = some t ∧ Z.vm.assignable c t = false := by
  obtain ⟨cy, ky, hy1, hy2, hy3, hy4, -⟩ := Cond.instantiable_spec wi
  obtain ⟨cx, k, hx, -⟩ := Cond.chain_head hwc
  exact ⟨cx, cy, hx, hy1, Vm.notAssignable_of_chain hx hy1 hy2 hy3 (Bool.or_eq_false_iff.mp hy4).1 hwc hn⟩
theorem own_selp {Z s : State} {aw args : Array Value} {y : MethodName} {n : Nat} (hZ : Z.Warmed39 s.vm) (wi : (Cond.instantiable y.cls n).before aw Z = true) (wp : (Cond.privateMethod y).before aw Z = true) (wm : (Cond.instanceMethod y).before aw Z = true) (hy : y.cls ≠ "java/lang/invoke/MethodHandle" ∧ y.cls ≠ "java/lang/invoke/VarHandle") : (Cond.selects y.cls y y).before args s = true := by
  obtain ⟨c, k, h1, h2, -, h4, -⟩ := Cond.instantiable_spec (mvT (args := args) hZ wi)
  exact selects_self_of_private h1 h2 (Bool.or_eq_false_iff.mp h4).1 (Cond.privateMethod_at (mvP hZ wp (args := args))) (mvT hZ wm) hy
section Ends
variable {p : Program} {l : Launch} {e : Env} {R : Room} {s : State} {m : MethodId} {args : Array Value} {below : List Frame} {meth : Method} {c : Code} {T : State} {locs : List Loc} {cells slots : Nat} {F : State → Outcome → Prop} {Q : Option Value → Heap → List Loc → Prop} {k n : Nat} {pc : Nat} {Ls : Array Slot} {rest : List Value} {h : Heap}
/-- the end of a walk: what is returned, what the heap says -/
theorem go_end (X : Stand p l e R s m args below meth c T locs cells slots) (hlk : meth.locks = false) (hF : ∀ t o, Fin below s Q k n t o → F t o) (eT : T.heap = h) (hk : cells ≤ k) (hn : slots ≤ n) {v : Option Value} (hv : meth.sig.returnType = none → v = none) (hQ : Q v h locs) {A : State}
    (hs : ∀ fs, (∀ (f : JFrame) (acts : List Action), f.method = m → f.locked = none → f.entered = [] → (doReturn e (T.setTop f) acts v).1 = T.setFrames fs) → Steps p.tables e below A (T.setFrames fs)) : Go p.tables e below F A := by
  obtain ⟨fs, hr, hrun, hended, hW, hsame⟩ := X.leave (v := v) hv hlk
  subst eT
  exact ⟨_, _, hs fs hr, hF _ _ ⟨hrun, hended, _, _, rfl, hQ, ⟨_, rfl⟩, hW, hsame.mono hk hn⟩⟩
theorem end_void (X : Stand p l e R s m args below meth c T locs cells slots) (hx : p.tables.exec = Jvm.exec) (hlk : meth.locks = false) (hret : meth.sig.returnType = none) (hd : decode c.code pc = .ok (.return_, 1)) (hF : ∀ t o, Fin below s Q k n t o → F t o) (eT : T.heap = h) (hk : cells ≤ k) (hn : slots ≤ n) (hQ : Q none h locs) : Go p.tables e below F (T.setTop (mkF m pc Ls [])) :=
  go_end X hlk hF eT hk hn (fun _ => rfl) hQ fun fs hr => X.returnOut hx hret hd hr
theorem end_nar {z : Int32} {t : FieldType} (X : Stand p l e R s m args below meth c T locs cells slots) (hx : p.tables.exec = Jvm.exec) (hlk : meth.locks = false) (hret : meth.sig.returnType = some t) (ht : t = .boolean ∨ t = .byte ∨ t = .char ∨ t = .short) (hd : decode c.code pc = .ok (.ireturn, 1)) (hF : ∀ t o, Fin below s Q k n t o → F t o) (eT : T.heap = h) (hk : cells ≤ k) (hn : slots ≤ n) (hQ : Q (some (.int (nar t z))) h locs) : Go p.tables e below F (T.setTop (mkF m pc Ls (.int z :: rest))) :=
  go_end X hlk hF eT hk hn (fun h => by rw [hret] at h; cases h) hQ fun fs hr => retN X hx hret ht hd hr
theorem end_int {z : Int32} (X : Stand p l e R s m args below meth c T locs cells slots) (hx : p.tables.exec = Jvm.exec) (hlk : meth.locks = false) (hret : meth.sig.returnType = some .int) (hd : decode c.code pc = .ok (.ireturn, 1)) (hF : ∀ t o, Fin below s Q k n t o → F t o) (eT : T.heap = h) (hk : cells ≤ k) (hn : slots ≤ n) (hQ : Q (some (.int z)) h locs) : Go p.tables e below F (T.setTop (mkF m pc Ls (.int z :: rest))) :=
  go_end X hlk hF eT hk hn (fun h => by rw [hret] at h; cases h) hQ fun fs hr => retOut X hx hret rfl (Or.inl ⟨rfl, Or.inl rfl, _, rfl⟩) hd hr
theorem end_long {z : Int64} (X : Stand p l e R s m args below meth c T locs cells slots) (hx : p.tables.exec = Jvm.exec) (hlk : meth.locks = false) (hret : meth.sig.returnType = some .long) (hd : decode c.code pc = .ok (.lreturn, 1)) (hF : ∀ t o, Fin below s Q k n t o → F t o) (eT : T.heap = h) (hk : cells ≤ k) (hn : slots ≤ n) (hQ : Q (some (.long z)) h locs) : Go p.tables e below F (T.setTop (mkF m pc Ls (.long z :: rest))) :=
  go_end X hlk hF eT hk hn (fun h => by rw [hret] at h; cases h) hQ fun fs hr => retOut X hx hret rfl (Or.inr (Or.inl ⟨rfl, rfl, _, rfl⟩)) hd hr
theorem end_ref {w : Value} {t : FieldType} (X : Stand p l e R s m args below meth c T locs cells slots) (hx : p.tables.exec = Jvm.exec) (hlk : meth.locks = false) (hret : meth.sig.returnType = some t) (ht : t.isReference = true) (hw : w.isRef = true) (hnr : narrow t w = w) (hd : decode c.code pc = .ok (.areturn, 1)) (hF : ∀ t o, Fin below s Q k n t o → F t o) (eT : T.heap = h) (hk : cells ≤ k) (hn : slots ≤ n) (hQ : Q (some w) h locs) : Go p.tables e below F (T.setTop (mkF m pc Ls (w :: rest))) :=
  go_end X hlk hF eT hk hn (fun h => by rw [hret] at h; cases h) hQ fun fs hr => retOut X hx hret hnr (Or.inr (Or.inr (Or.inr (Or.inr ⟨rfl, ht, hw⟩)))) hd hr
end Ends
theorem d1_0 : decode prog_1_method_1_code 0 = .ok (.aload_n 0, 1) := by decide +kernel
theorem d1_1 : decode prog_1_method_1_code 1 = .ok (.invokespecial 1, 3) := by decide +kernel
theorem d1_4 : decode prog_1_method_1_code 4 = .ok (.aload_n 0, 1) := by decide +kernel
theorem d1_5 : decode prog_1_method_1_code 5 = .ok (.lload_n 1, 1) := by decide +kernel
theorem d1_6 : decode prog_1_method_1_code 6 = .ok (.putfield 7, 3) := by decide +kernel
theorem d1_9 : decode prog_1_method_1_code 9 = .ok (.return_, 1) := by decide +kernel
theorem pn_1 : plainName "com/example/saltwake/saltwake/core/Chance" = true := by first | (simp [plainName, overriddenIn]; done) | decide +kernel
theorem ef_1 (m : MethodId) (a0 : Addr) (q1 : Int64) : entryFrame m #[(.ref a0), (.long q1)] 3 = mkF m 0 #[.val (.ref a0), .val (.long q1), .second] [] := by first | (simp [entryFrame, mkF, argsToLocals, Value.category]; done) | rfl
abbrev room1 : Room := { frames := 1, cells := 0, slots := 0, locals := 12 }
def Q1 (Z : State) (a0 : Addr) (q1 : Int64) (h0 : Heap) (n0 : Nat) (v : Option Value) (h : Heap) (L : List Loc) : Prop := v = none ∧ Fr n0 L ∧ Keep h0 h [a0] ∧ Exa Z h a0 "com/example/saltwake/saltwake/core/Chance" ∧ Fld Z h a0 "com/example/saltwake/saltwake/core/Chance" "state" "J" (.long q1)
set_option maxRecDepth 65536 in
set_option maxHeartbeats 40000000 in
theorem rm1 (l : Launch) (Z : State) (aw : Array Value) (hw : ∀ d ∈ tables_1, d.before aw Z = true) (ws : List Jvm.Cond) (a0 : Addr) (q1 : Int64) (h0 : Heap) (n0 : Nat) (Z0 : n0 ≤ h0.size) (F_state_a0 : Fld Z h0 a0 "com/example/saltwake/saltwake/core/Chance" "state" "J" (.long (0 : Int64))) (E_a0 : Exa Z h0 a0 "com/example/saltwake/saltwake/core/Chance") (g_a0 : n0 ≤ a0) :
    MetFree l (⟨"com/example/saltwake/saltwake/core/Chance", "<init>", "(J)V"⟩ : MethodName) (head1 (Jvm.Cond.code (⟨"com/example/saltwake/saltwake/core/Chance", "<init>", "(J)V"⟩ : MethodName) prog_1_method_1_code 3 none :: ws) room1) (fun a U => a = #[(.ref a0), (.long q1)] ∧ Z.Warmed39 U.vm ∧ U.heap = h0) (fun _ _ _ _ _ => True) (fun _ U o U' => ∃ v L, o = .returned v ∧ Q1 Z a0 q1 h0 n0 v U'.heap L ∧ FrameEnd U o U' L room1.cells room1.slots) := by
  refine MetFree.of_bodySF (plainFor_of_name pn_1) hisR ?_
  intro p e s m args below meth c s₁ Bd hml0 hP hK
  obtain ⟨rfl, hZ, hh⟩ := hP
  have hx := Bd.exec
  have hby := Bd.bytes
  have hml : c.maxLocals = 3 := hml0
  have hown : s.vm.findClass "com/example/saltwake/saltwake/core/Chance" = some m.cls := findClass_of_methodNamed Bd.named
  have hnm := (name_of_methodNamed Bd.named Bd.method).1
  have X0 : Stand p l e room1 s m #[(.ref a0), (.long q1)] below meth c s₁ [] 0 0 := Stand.of_body Bd
  have e0 : s₁.heap = h0 := by rw [← hh, Bd.state]; rfl
  have N0 := Fr.nil n0
  have K0 := Keep.refl h0 [a0]
  rw [ef_1 m a0 q1]
  refine go_in (s₁ := s₁) (Q := Q1 Z a0 q1 h0 n0) fun F hF => ?_
  refine go (B := s₁.setTop (mkF m 1 #[.val (.ref a0), .val (.long q1), .second] [(.ref a0)])) (fun _ k => XS.aloadN X0.here hx rfl (hb hby d1_0) rfl rfl k) ?_
  obtain ⟨T1, X1, e1, st1⟩ := initO X0 hx hZ hown (hw _ (List.mem_of_getElem? (i := 6) rfl)) (hw _ (List.mem_of_getElem? (i := 7) rfl)) (hw _ (List.mem_of_getElem? (i := 8) rfl)) e0 (g := (mkF m 1 #[.val (.ref a0), .val (.long q1), .second] [(.ref a0)])) rfl (by rw [hml]; rfl) rfl (hb hby d1_1) (by decide) (W := 0) (by show 2 * 0 + _ ≤ _; exact Nat.le_of_eq rfl) (by decide)
  refine go (B := T1.setTop (mkF m 4 #[.val (.ref a0), .val (.long q1), .second] [])) st1 ?_
  refine go (B := T1.setTop (mkF m 5 #[.val (.ref a0), .val (.long q1), .second] [(.ref a0)])) (fun _ k => XS.aloadN X1.here hx rfl (hb hby d1_4) rfl rfl k) ?_
  refine go (B := T1.setTop (mkF m 6 #[.val (.ref a0), .val (.long q1), .second] [(.long q1), (.ref a0)])) (fun _ k => XS.lloadN X1.here hx rfl (hb hby d1_5) rfl k) ?_
  obtain ⟨T2, h2, X2, e2, W2, st2⟩ := putF X1 hx hZ hown (host := "") (Or.inl (hw _ (List.mem_of_getElem? (i := 9) rfl))) Via.refl e1 F_state_a0 E_a0 (Or.inl (hw _ (List.mem_of_getElem? (i := 10) rfl))) (hw _ (List.mem_of_getElem? (i := 1) rfl)) (ty := .long) (by decide) rfl rfl (g := (mkF m 6 #[.val (.ref a0), .val (.long q1), .second] [(.long q1), (.ref a0)])) rfl rfl (hb hby d1_6)
  have E_a0_2 := E_a0.wr W2
  have F_state_a0_2 := Fld.same W2 F_state_a0
  have Z2 := Nat.le_trans Z0 (Keep.of_wr W2).1
  have K2 := K0.wr W2 (Or.inl (List.mem_of_getElem? (i := 0) rfl))
  have N2 := Fr.snoc X2 N0 g_a0
  refine go (B := T2.setTop (mkF m 9 #[.val (.ref a0), .val (.long q1), .second] [])) st2 ?_
  exact end_void X2 hx Bd.notSynchronized Bd.returns (hb hby d1_9) hF e2 (by decide) (by decide) ⟨rfl, N2, K2, E_a0_2, F_state_a0_2⟩
theorem d3_0 : decode prog_1_method_2_code 0 = .ok (.aload_n 0, 1) := by decide +kernel
theorem d3_1 : decode prog_1_method_2_code 1 = .ok (.dup, 1) := by decide +kernel
theorem d3_2 : decode prog_1_method_2_code 2 = .ok (.getfield 7, 3) := by decide +kernel
theorem d3_5 : decode prog_1_method_2_code 5 = .ok (.ldc2_w 13, 3) := by decide +kernel
theorem d3_8 : decode prog_1_method_2_code 8 = .ok (.ladd, 1) := by decide +kernel
theorem d3_9 : decode prog_1_method_2_code 9 = .ok (.putfield 7, 3) := by decide +kernel
theorem d3_12 : decode prog_1_method_2_code 12 = .ok (.aload_n 0, 1) := by decide +kernel
theorem d3_13 : decode prog_1_method_2_code 13 = .ok (.getfield 7, 3) := by decide +kernel
theorem d3_16 : decode prog_1_method_2_code 16 = .ok (.lstore_n 1, 1) := by decide +kernel
theorem d3_17 : decode prog_1_method_2_code 17 = .ok (.lload_n 1, 1) := by decide +kernel
theorem d3_18 : decode prog_1_method_2_code 18 = .ok (.lload_n 1, 1) := by decide +kernel
theorem d3_19 : decode prog_1_method_2_code 19 = .ok (.bipush 30, 2) := by decide +kernel
theorem d3_21 : decode prog_1_method_2_code 21 = .ok (.lushr, 1) := by decide +kernel
theorem d3_22 : decode prog_1_method_2_code 22 = .ok (.lxor, 1) := by decide +kernel
theorem d3_23 : decode prog_1_method_2_code 23 = .ok (.ldc2_w 15, 3) := by decide +kernel
theorem d3_26 : decode prog_1_method_2_code 26 = .ok (.lmul, 1) := by decide +kernel
theorem d3_27 : decode prog_1_method_2_code 27 = .ok (.lstore_n 1, 1) := by decide +kernel
theorem d3_28 : decode prog_1_method_2_code 28 = .ok (.lload_n 1, 1) := by decide +kernel
theorem d3_29 : decode prog_1_method_2_code 29 = .ok (.lload_n 1, 1) := by decide +kernel
theorem d3_30 : decode prog_1_method_2_code 30 = .ok (.bipush 27, 2) := by decide +kernel
theorem d3_32 : decode prog_1_method_2_code 32 = .ok (.lushr, 1) := by decide +kernel
theorem d3_33 : decode prog_1_method_2_code 33 = .ok (.lxor, 1) := by decide +kernel
theorem d3_34 : decode prog_1_method_2_code 34 = .ok (.ldc2_w 17, 3) := by decide +kernel
theorem d3_37 : decode prog_1_method_2_code 37 = .ok (.lmul, 1) := by decide +kernel
theorem d3_38 : decode prog_1_method_2_code 38 = .ok (.lstore_n 1, 1) := by decide +kernel
theorem d3_39 : decode prog_1_method_2_code 39 = .ok (.lload_n 1, 1) := by decide +kernel
theorem d3_40 : decode prog_1_method_2_code 40 = .ok (.lload_n 1, 1) := by decide +kernel
theorem d3_41 : decode prog_1_method_2_code 41 = .ok (.bipush 31, 2) := by decide +kernel
theorem d3_43 : decode prog_1_method_2_code 43 = .ok (.lushr, 1) := by decide +kernel
theorem d3_44 : decode prog_1_method_2_code 44 = .ok (.lxor, 1) := by decide +kernel
theorem d3_45 : decode prog_1_method_2_code 45 = .ok (.lreturn, 1) := by decide +kernel
theorem ef_3 (m : MethodId) (a0 : Addr) : entryFrame m #[(.ref a0)] 3 = mkF m 0 #[.val (.ref a0), .unset, .unset] [] := by first | (simp [entryFrame, mkF, argsToLocals, Value.category]; done) | rfl
def f3_t0 (w_state_a0 : Int64) : Int64 := (((w_state_a0 + (-7046029254386353131 : Int64)).toUInt64 >>> ((30 : Int32) &&& 0x3f).toInt64.toUInt64).toInt64)
def f3_t1 (w_state_a0 : Int64) : Int64 := (((w_state_a0 + (-7046029254386353131 : Int64)) ^^^ (f3_t0 w_state_a0)) * (-4658895280553007687 : Int64))
def f3_t2 (w_state_a0 : Int64) : Int64 := ((f3_t1 w_state_a0) ^^^ (((f3_t1 w_state_a0).toUInt64 >>> ((27 : Int32) &&& 0x3f).toInt64.toUInt64).toInt64))
def f3_t3 (w_state_a0 : Int64) : Int64 := ((((f3_t2 w_state_a0) * (-7723592293110705685 : Int64)).toUInt64 >>> ((31 : Int32) &&& 0x3f).toInt64.toUInt64).toInt64)
def f3 (w_state_a0 : Int64) : Int64 := (((f3_t2 w_state_a0) * (-7723592293110705685 : Int64)) ^^^ (f3_t3 w_state_a0))
abbrev room3 : Room := { frames := 0, cells := 0, slots := 0, locals := 0 }
def Q3 (Z : State) (a0 : Addr) (w_state_a0 : Int64) (h0 : Heap) (n0 : Nat) (v : Option Value) (h : Heap) (L : List Loc) : Prop := v = some (.long (f3 w_state_a0)) ∧ Fr n0 L ∧ Keep h0 h [a0] ∧ Exa Z h a0 "com/example/saltwake/saltwake/core/Chance" ∧ Fld Z h a0 "com/example/saltwake/saltwake/core/Chance" "state" "J" (.long (w_state_a0 + (-7046029254386353131 : Int64)))
set_option maxRecDepth 65536 in
set_option maxHeartbeats 40000000 in
theorem rm3 (l : Launch) (Z : State) (aw : Array Value) (hw : ∀ d ∈ tables_1, d.before aw Z = true) (ws : List Jvm.Cond) (a0 : Addr) (w_state_a0 : Int64) (h0 : Heap) (n0 : Nat) (Z0 : n0 ≤ h0.size) (F_state_a0 : Fld Z h0 a0 "com/example/saltwake/saltwake/core/Chance" "state" "J" (.long w_state_a0)) (E_a0 : Exa Z h0 a0 "com/example/saltwake/saltwake/core/Chance") (g_a0 : n0 ≤ a0) :
    MetFree l (⟨"com/example/saltwake/saltwake/core/Chance", "nextLong", "()J"⟩ : MethodName) (head1 (Jvm.Cond.code (⟨"com/example/saltwake/saltwake/core/Chance", "nextLong", "()J"⟩ : MethodName) prog_1_method_2_code 3 (some .long) :: ws) room3) (fun a U => a = #[(.ref a0)] ∧ Z.Warmed39 U.vm ∧ U.heap = h0) (fun _ _ _ _ _ => True) (fun _ U o U' => ∃ v L, o = .returned v ∧ Q3 Z a0 w_state_a0 h0 n0 v U'.heap L ∧ FrameEnd U o U' L room3.cells room3.slots) := by
  refine MetFree.of_bodySF (plainFor_of_name pn_1) hisR ?_
  intro p e s m args below meth c s₁ Bd hml0 hP hK
  obtain ⟨rfl, hZ, hh⟩ := hP
  have hx := Bd.exec
  have hby := Bd.bytes
  have hml : c.maxLocals = 3 := hml0
  have hown : s.vm.findClass "com/example/saltwake/saltwake/core/Chance" = some m.cls := findClass_of_methodNamed Bd.named
  have hnm := (name_of_methodNamed Bd.named Bd.method).1
  have X0 : Stand p l e room3 s m #[(.ref a0)] below meth c s₁ [] 0 0 := Stand.of_body Bd
  have e0 : s₁.heap = h0 := by rw [← hh, Bd.state]; rfl
  have N0 := Fr.nil n0
  have K0 := Keep.refl h0 [a0]
  rw [ef_3 m a0]
  refine go_in (s₁ := s₁) (Q := Q3 Z a0 w_state_a0 h0 n0) fun F hF => ?_
  refine go (B := s₁.setTop (mkF m 1 #[.val (.ref a0), .unset, .unset] [(.ref a0)])) (fun _ k => XS.aloadN X0.here hx rfl (hb hby d3_0) rfl rfl k) ?_
  refine go (B := s₁.setTop (mkF m 2 #[.val (.ref a0), .unset, .unset] [(.ref a0), (.ref a0)])) (fun _ k => XS.dup X0.here hx rfl (hb hby d3_1) rfl rfl k) ?_
  obtain ⟨T1, X1, e1, st1⟩ := getF X0 hx hZ hown (host := "") (Or.inl (hw _ (List.mem_of_getElem? (i := 9) rfl))) Via.refl e0 F_state_a0 (g := (mkF m 2 #[.val (.ref a0), .unset, .unset] [(.ref a0), (.ref a0)])) rfl rfl (hb hby d3_2)
  refine go (B := T1.setTop (mkF m 5 #[.val (.ref a0), .unset, .unset] [(.long w_state_a0), (.ref a0)])) st1 ?_
  refine go (B := T1.setTop (mkF m 8 #[.val (.ref a0), .unset, .unset] [(.long (-7046029254386353131 : Int64)), (.long w_state_a0), (.ref a0)])) (fun _ k => X1.ldc2Long hx hown (mvT hZ (hw _ (List.mem_of_getElem? (i := 16) rfl))) (g := (mkF m 5 #[.val (.ref a0), .unset, .unset] [(.long w_state_a0), (.ref a0)])) rfl (hb hby d3_5) _ k) ?_
  refine go (B := T1.setTop (mkF m 9 #[.val (.ref a0), .unset, .unset] [(.long (w_state_a0 + (-7046029254386353131 : Int64))), (.ref a0)])) (fun _ k => XS.ladd X1.here hx rfl (hb hby d3_8) rfl k) ?_
  obtain ⟨T2, h2, X2, e2, W2, st2⟩ := putF X1 hx hZ hown (host := "") (Or.inl (hw _ (List.mem_of_getElem? (i := 9) rfl))) Via.refl e1 F_state_a0 E_a0 (Or.inl (hw _ (List.mem_of_getElem? (i := 10) rfl))) (hw _ (List.mem_of_getElem? (i := 1) rfl)) (ty := .long) (by decide) rfl rfl (g := (mkF m 9 #[.val (.ref a0), .unset, .unset] [(.long (w_state_a0 + (-7046029254386353131 : Int64))), (.ref a0)])) rfl rfl (hb hby d3_9)
  have E_a0_2 := E_a0.wr W2
  have F_state_a0_2 := Fld.same W2 F_state_a0
  have Z2 := Nat.le_trans Z0 (Keep.of_wr W2).1
  have K2 := K0.wr W2 (Or.inl (List.mem_of_getElem? (i := 0) rfl))
  have N2 := Fr.snoc X2 N0 g_a0
  refine go (B := T2.setTop (mkF m 12 #[.val (.ref a0), .unset, .unset] [])) st2 ?_
  refine go (B := T2.setTop (mkF m 13 #[.val (.ref a0), .unset, .unset] [(.ref a0)])) (fun _ k => XS.aloadN X2.here hx rfl (hb hby d3_12) rfl rfl k) ?_
  obtain ⟨T3, X3, e3, st3⟩ := getF X2 hx hZ hown (host := "") (Or.inl (hw _ (List.mem_of_getElem? (i := 9) rfl))) Via.refl e2 F_state_a0_2 (g := (mkF m 13 #[.val (.ref a0), .unset, .unset] [(.ref a0)])) rfl rfl (hb hby d3_13)
  refine go (B := T3.setTop (mkF m 16 #[.val (.ref a0), .unset, .unset] [(.long (w_state_a0 + (-7046029254386353131 : Int64)))])) st3 ?_
  refine go (B := T3.setTop (mkF m 17 #[.val (.ref a0), .val (.long (w_state_a0 + (-7046029254386353131 : Int64))), .second] [])) (fun _ k => XS.lstoreN X3.here hx rfl (hb hby d3_16) rfl (l' := #[.val (.ref a0), .val (.long (w_state_a0 + (-7046029254386353131 : Int64))), .second]) rfl k) ?_
  refine go (B := T3.setTop (mkF m 18 #[.val (.ref a0), .val (.long (w_state_a0 + (-7046029254386353131 : Int64))), .second] [(.long (w_state_a0 + (-7046029254386353131 : Int64)))])) (fun _ k => XS.lloadN X3.here hx rfl (hb hby d3_17) rfl k) ?_
  refine go (B := T3.setTop (mkF m 19 #[.val (.ref a0), .val (.long (w_state_a0 + (-7046029254386353131 : Int64))), .second] [(.long (w_state_a0 + (-7046029254386353131 : Int64))), (.long (w_state_a0 + (-7046029254386353131 : Int64)))])) (fun _ k => XS.lloadN X3.here hx rfl (hb hby d3_18) rfl k) ?_
  refine go (B := T3.setTop (mkF m 21 #[.val (.ref a0), .val (.long (w_state_a0 + (-7046029254386353131 : Int64))), .second] [(.int (30 : Int32)), (.long (w_state_a0 + (-7046029254386353131 : Int64))), (.long (w_state_a0 + (-7046029254386353131 : Int64)))])) (fun _ k => XS.bipush X3.here hx rfl (hb hby d3_19) k) ?_
  refine go (B := T3.setTop (mkF m 22 #[.val (.ref a0), .val (.long (w_state_a0 + (-7046029254386353131 : Int64))), .second] [(.long (f3_t0 w_state_a0)), (.long (w_state_a0 + (-7046029254386353131 : Int64)))])) (fun _ k => XS.lushr X3.here hx rfl (hb hby d3_21) rfl k) ?_
  refine go (B := T3.setTop (mkF m 23 #[.val (.ref a0), .val (.long (w_state_a0 + (-7046029254386353131 : Int64))), .second] [(.long ((w_state_a0 + (-7046029254386353131 : Int64)) ^^^ (f3_t0 w_state_a0)))])) (fun _ k => XS.lxor X3.here hx rfl (hb hby d3_22) rfl k) ?_
  refine go (B := T3.setTop (mkF m 26 #[.val (.ref a0), .val (.long (w_state_a0 + (-7046029254386353131 : Int64))), .second] [(.long (-4658895280553007687 : Int64)), (.long ((w_state_a0 + (-7046029254386353131 : Int64)) ^^^ (f3_t0 w_state_a0)))])) (fun _ k => X3.ldc2Long hx hown (mvT hZ (hw _ (List.mem_of_getElem? (i := 17) rfl))) (g := (mkF m 23 #[.val (.ref a0), .val (.long (w_state_a0 + (-7046029254386353131 : Int64))), .second] [(.long ((w_state_a0 + (-7046029254386353131 : Int64)) ^^^ (f3_t0 w_state_a0)))])) rfl (hb hby d3_23) _ k) ?_
  refine go (B := T3.setTop (mkF m 27 #[.val (.ref a0), .val (.long (w_state_a0 + (-7046029254386353131 : Int64))), .second] [(.long (f3_t1 w_state_a0))])) (fun _ k => XS.lmul X3.here hx rfl (hb hby d3_26) rfl k) ?_
  refine go (B := T3.setTop (mkF m 28 #[.val (.ref a0), .val (.long (f3_t1 w_state_a0)), .second] [])) (fun _ k => XS.lstoreN X3.here hx rfl (hb hby d3_27) rfl (l' := #[.val (.ref a0), .val (.long (f3_t1 w_state_a0)), .second]) rfl k) ?_
  refine go (B := T3.setTop (mkF m 29 #[.val (.ref a0), .val (.long (f3_t1 w_state_a0)), .second] [(.long (f3_t1 w_state_a0))])) (fun _ k => XS.lloadN X3.here hx rfl (hb hby d3_28) rfl k) ?_
  refine go (B := T3.setTop (mkF m 30 #[.val (.ref a0), .val (.long (f3_t1 w_state_a0)), .second] [(.long (f3_t1 w_state_a0)), (.long (f3_t1 w_state_a0))])) (fun _ k => XS.lloadN X3.here hx rfl (hb hby d3_29) rfl k) ?_
  refine go (B := T3.setTop (mkF m 32 #[.val (.ref a0), .val (.long (f3_t1 w_state_a0)), .second] [(.int (27 : Int32)), (.long (f3_t1 w_state_a0)), (.long (f3_t1 w_state_a0))])) (fun _ k => XS.bipush X3.here hx rfl (hb hby d3_30) k) ?_
  refine go (B := T3.setTop (mkF m 33 #[.val (.ref a0), .val (.long (f3_t1 w_state_a0)), .second] [(.long (((f3_t1 w_state_a0).toUInt64 >>> ((27 : Int32) &&& 0x3f).toInt64.toUInt64).toInt64)), (.long (f3_t1 w_state_a0))])) (fun _ k => XS.lushr X3.here hx rfl (hb hby d3_32) rfl k) ?_
  refine go (B := T3.setTop (mkF m 34 #[.val (.ref a0), .val (.long (f3_t1 w_state_a0)), .second] [(.long (f3_t2 w_state_a0))])) (fun _ k => XS.lxor X3.here hx rfl (hb hby d3_33) rfl k) ?_
  refine go (B := T3.setTop (mkF m 37 #[.val (.ref a0), .val (.long (f3_t1 w_state_a0)), .second] [(.long (-7723592293110705685 : Int64)), (.long (f3_t2 w_state_a0))])) (fun _ k => X3.ldc2Long hx hown (mvT hZ (hw _ (List.mem_of_getElem? (i := 18) rfl))) (g := (mkF m 34 #[.val (.ref a0), .val (.long (f3_t1 w_state_a0)), .second] [(.long (f3_t2 w_state_a0))])) rfl (hb hby d3_34) _ k) ?_
  refine go (B := T3.setTop (mkF m 38 #[.val (.ref a0), .val (.long (f3_t1 w_state_a0)), .second] [(.long ((f3_t2 w_state_a0) * (-7723592293110705685 : Int64)))])) (fun _ k => XS.lmul X3.here hx rfl (hb hby d3_37) rfl k) ?_
  refine go (B := T3.setTop (mkF m 39 #[.val (.ref a0), .val (.long ((f3_t2 w_state_a0) * (-7723592293110705685 : Int64))), .second] [])) (fun _ k => XS.lstoreN X3.here hx rfl (hb hby d3_38) rfl (l' := #[.val (.ref a0), .val (.long ((f3_t2 w_state_a0) * (-7723592293110705685 : Int64))), .second]) rfl k) ?_
  refine go (B := T3.setTop (mkF m 40 #[.val (.ref a0), .val (.long ((f3_t2 w_state_a0) * (-7723592293110705685 : Int64))), .second] [(.long ((f3_t2 w_state_a0) * (-7723592293110705685 : Int64)))])) (fun _ k => XS.lloadN X3.here hx rfl (hb hby d3_39) rfl k) ?_
  refine go (B := T3.setTop (mkF m 41 #[.val (.ref a0), .val (.long ((f3_t2 w_state_a0) * (-7723592293110705685 : Int64))), .second] [(.long ((f3_t2 w_state_a0) * (-7723592293110705685 : Int64))), (.long ((f3_t2 w_state_a0) * (-7723592293110705685 : Int64)))])) (fun _ k => XS.lloadN X3.here hx rfl (hb hby d3_40) rfl k) ?_
  refine go (B := T3.setTop (mkF m 43 #[.val (.ref a0), .val (.long ((f3_t2 w_state_a0) * (-7723592293110705685 : Int64))), .second] [(.int (31 : Int32)), (.long ((f3_t2 w_state_a0) * (-7723592293110705685 : Int64))), (.long ((f3_t2 w_state_a0) * (-7723592293110705685 : Int64)))])) (fun _ k => XS.bipush X3.here hx rfl (hb hby d3_41) k) ?_
  refine go (B := T3.setTop (mkF m 44 #[.val (.ref a0), .val (.long ((f3_t2 w_state_a0) * (-7723592293110705685 : Int64))), .second] [(.long (f3_t3 w_state_a0)), (.long ((f3_t2 w_state_a0) * (-7723592293110705685 : Int64)))])) (fun _ k => XS.lushr X3.here hx rfl (hb hby d3_43) rfl k) ?_
  refine go (B := T3.setTop (mkF m 45 #[.val (.ref a0), .val (.long ((f3_t2 w_state_a0) * (-7723592293110705685 : Int64))), .second] [(.long (((f3_t2 w_state_a0) * (-7723592293110705685 : Int64)) ^^^ (f3_t3 w_state_a0)))])) (fun _ k => XS.lxor X3.here hx rfl (hb hby d3_44) rfl k) ?_
  have r4 : (f3 w_state_a0) = (((f3_t2 w_state_a0) * (-7723592293110705685 : Int64)) ^^^ (f3_t3 w_state_a0)) := by unfold f3; rfl
  exact end_long X3 hx Bd.notSynchronized Bd.returns (hb hby d3_45) hF e3 (by decide) (by decide) ⟨(congrArg (fun z => some (Value.long z)) r4.symm), N2, K2, E_a0_2, F_state_a0_2⟩
theorem d4_0 : decode method_3_code 0 = .ok (.lload_n 0, 1) := by decide +kernel
theorem d4_1 : decode method_3_code 1 = .ok (.lload_n 0, 1) := by decide +kernel
theorem d4_2 : decode method_3_code 2 = .ok (.bipush 31, 2) := by decide +kernel
theorem d4_4 : decode method_3_code 4 = .ok (.lushr, 1) := by decide +kernel
theorem d4_5 : decode method_3_code 5 = .ok (.lxor, 1) := by decide +kernel
theorem d4_6 : decode method_3_code 6 = .ok (.lload_n 0, 1) := by decide +kernel
theorem d4_7 : decode method_3_code 7 = .ok (.bipush 62, 2) := by decide +kernel
theorem d4_9 : decode method_3_code 9 = .ok (.lushr, 1) := by decide +kernel
theorem d4_10 : decode method_3_code 10 = .ok (.lxor, 1) := by decide +kernel
theorem d4_11 : decode method_3_code 11 = .ok (.lstore_n 2, 1) := by decide +kernel
theorem d4_12 : decode method_3_code 12 = .ok (.lload_n 2, 1) := by decide +kernel
theorem d4_13 : decode method_3_code 13 = .ok (.ldc2_w 24, 3) := by decide +kernel
theorem d4_16 : decode method_3_code 16 = .ok (.lmul, 1) := by decide +kernel
theorem d4_17 : decode method_3_code 17 = .ok (.lstore_n 2, 1) := by decide +kernel
theorem d4_18 : decode method_3_code 18 = .ok (.lload_n 2, 1) := by decide +kernel
theorem d4_19 : decode method_3_code 19 = .ok (.lload_n 2, 1) := by decide +kernel
theorem d4_20 : decode method_3_code 20 = .ok (.bipush 27, 2) := by decide +kernel
theorem d4_22 : decode method_3_code 22 = .ok (.lushr, 1) := by decide +kernel
theorem d4_23 : decode method_3_code 23 = .ok (.lxor, 1) := by decide +kernel
theorem d4_24 : decode method_3_code 24 = .ok (.lload_n 2, 1) := by decide +kernel
theorem d4_25 : decode method_3_code 25 = .ok (.bipush 54, 2) := by decide +kernel
theorem d4_27 : decode method_3_code 27 = .ok (.lushr, 1) := by decide +kernel
theorem d4_28 : decode method_3_code 28 = .ok (.lxor, 1) := by decide +kernel
theorem d4_29 : decode method_3_code 29 = .ok (.lstore_n 2, 1) := by decide +kernel
theorem d4_30 : decode method_3_code 30 = .ok (.lload_n 2, 1) := by decide +kernel
theorem d4_31 : decode method_3_code 31 = .ok (.ldc2_w 26, 3) := by decide +kernel
theorem d4_34 : decode method_3_code 34 = .ok (.lmul, 1) := by decide +kernel
theorem d4_35 : decode method_3_code 35 = .ok (.lstore_n 2, 1) := by decide +kernel
theorem d4_36 : decode method_3_code 36 = .ok (.lload_n 2, 1) := by decide +kernel
theorem d4_37 : decode method_3_code 37 = .ok (.lload_n 2, 1) := by decide +kernel
theorem d4_38 : decode method_3_code 38 = .ok (.bipush 30, 2) := by decide +kernel
theorem d4_40 : decode method_3_code 40 = .ok (.lushr, 1) := by decide +kernel
theorem d4_41 : decode method_3_code 41 = .ok (.lxor, 1) := by decide +kernel
theorem d4_42 : decode method_3_code 42 = .ok (.lload_n 2, 1) := by decide +kernel
theorem d4_43 : decode method_3_code 43 = .ok (.bipush 60, 2) := by decide +kernel
theorem d4_45 : decode method_3_code 45 = .ok (.lushr, 1) := by decide +kernel
theorem d4_46 : decode method_3_code 46 = .ok (.lxor, 1) := by decide +kernel
theorem d4_47 : decode method_3_code 47 = .ok (.lstore_n 2, 1) := by decide +kernel
theorem d4_48 : decode method_3_code 48 = .ok (.lload_n 2, 1) := by decide +kernel
theorem d4_49 : decode method_3_code 49 = .ok (.lreturn, 1) := by decide +kernel
theorem pn_4 : plainName "com/example/saltwake/saltwake/core/ChanceNextLongPinLaw" = true := by first | (simp [plainName, overriddenIn]; done) | decide +kernel
theorem ef_4 (m : MethodId) (q0 : Int64) : entryFrame m #[(.long q0)] 4 = mkF m 0 #[.val (.long q0), .second, .unset, .unset] [] := by first | (simp [entryFrame, mkF, argsToLocals, Value.category]; done) | rfl
def f4_t0 (q0 : Int64) : Int64 := ((q0 ^^^ ((q0.toUInt64 >>> ((31 : Int32) &&& 0x3f).toInt64.toUInt64).toInt64)) ^^^ ((q0.toUInt64 >>> ((62 : Int32) &&& 0x3f).toInt64.toUInt64).toInt64))
def f4_t1 (q0 : Int64) : Int64 := ((((f4_t0 q0) * (3573116690164977347 : Int64)).toUInt64 >>> ((27 : Int32) &&& 0x3f).toInt64.toUInt64).toInt64)
def f4_t2 (q0 : Int64) : Int64 := ((((f4_t0 q0) * (3573116690164977347 : Int64)).toUInt64 >>> ((54 : Int32) &&& 0x3f).toInt64.toUInt64).toInt64)
def f4_t3 (q0 : Int64) : Int64 := (((((f4_t0 q0) * (3573116690164977347 : Int64)) ^^^ (f4_t1 q0)) ^^^ (f4_t2 q0)) * (-7575587736534282103 : Int64))
def f4_t4 (q0 : Int64) : Int64 := ((f4_t3 q0) ^^^ (((f4_t3 q0).toUInt64 >>> ((30 : Int32) &&& 0x3f).toInt64.toUInt64).toInt64))
def f4_t5 (q0 : Int64) : Int64 := ((f4_t4 q0) ^^^ (((f4_t3 q0).toUInt64 >>> ((60 : Int32) &&& 0x3f).toInt64.toUInt64).toInt64))
def f4 (q0 : Int64) : Int64 := (f4_t5 q0)
abbrev room4 : Room := { frames := 0, cells := 0, slots := 0, locals := 0 }
def Q4 (Z : State) (q0 : Int64) (h0 : Heap) (n0 : Nat) (v : Option Value) (h : Heap) (L : List Loc) : Prop := v = some (.long (f4 q0)) ∧ L = [] ∧ h = h0
set_option maxRecDepth 65536 in
set_option maxHeartbeats 40000000 in
theorem rm4 (l : Launch) (Z : State) (aw : Array Value) (hw : ∀ d ∈ tables_1, d.before aw Z = true) (ws : List Jvm.Cond) (q0 : Int64) (h0 : Heap) (n0 : Nat) (Z0 : n0 ≤ h0.size) :
    MetFree l (⟨"com/example/saltwake/saltwake/core/ChanceNextLongPinLaw", "unmix", "(J)J"⟩ : MethodName) (head1 (Jvm.Cond.code (⟨"com/example/saltwake/saltwake/core/ChanceNextLongPinLaw", "unmix", "(J)J"⟩ : MethodName) method_3_code 4 (some .long) :: ws) room4) (fun a U => a = #[(.long q0)] ∧ Z.Warmed39 U.vm ∧ U.heap = h0) (fun _ _ _ _ _ => True) (fun _ U o U' => ∃ v L, o = .returned v ∧ Q4 Z q0 h0 n0 v U'.heap L ∧ FrameEnd U o U' L room4.cells room4.slots) := by
  refine MetFree.of_bodySF (plainFor_of_name pn_4) hisR ?_
  intro p e s m args below meth c s₁ Bd hml0 hP hK
  obtain ⟨rfl, hZ, hh⟩ := hP
  have hx := Bd.exec
  have hby := Bd.bytes
  have hml : c.maxLocals = 4 := hml0
  have hown : s.vm.findClass "com/example/saltwake/saltwake/core/ChanceNextLongPinLaw" = some m.cls := findClass_of_methodNamed Bd.named
  have hnm := (name_of_methodNamed Bd.named Bd.method).1
  have X0 : Stand p l e room4 s m #[(.long q0)] below meth c s₁ [] 0 0 := Stand.of_body Bd
  have e0 : s₁.heap = h0 := by rw [← hh, Bd.state]; rfl
  have N0 := Fr.nil n0
  rw [ef_4 m q0]
  refine go_in (s₁ := s₁) (Q := Q4 Z q0 h0 n0) fun F hF => ?_
  refine go (B := s₁.setTop (mkF m 1 #[.val (.long q0), .second, .unset, .unset] [(.long q0)])) (fun _ k => XS.lloadN X0.here hx rfl (hb hby d4_0) rfl k) ?_
  refine go (B := s₁.setTop (mkF m 2 #[.val (.long q0), .second, .unset, .unset] [(.long q0), (.long q0)])) (fun _ k => XS.lloadN X0.here hx rfl (hb hby d4_1) rfl k) ?_
  refine go (B := s₁.setTop (mkF m 4 #[.val (.long q0), .second, .unset, .unset] [(.int (31 : Int32)), (.long q0), (.long q0)])) (fun _ k => XS.bipush X0.here hx rfl (hb hby d4_2) k) ?_
  refine go (B := s₁.setTop (mkF m 5 #[.val (.long q0), .second, .unset, .unset] [(.long ((q0.toUInt64 >>> ((31 : Int32) &&& 0x3f).toInt64.toUInt64).toInt64)), (.long q0)])) (fun _ k => XS.lushr X0.here hx rfl (hb hby d4_4) rfl k) ?_
  refine go (B := s₁.setTop (mkF m 6 #[.val (.long q0), .second, .unset, .unset] [(.long (q0 ^^^ ((q0.toUInt64 >>> ((31 : Int32) &&& 0x3f).toInt64.toUInt64).toInt64)))])) (fun _ k => XS.lxor X0.here hx rfl (hb hby d4_5) rfl k) ?_
  refine go (B := s₁.setTop (mkF m 7 #[.val (.long q0), .second, .unset, .unset] [(.long q0), (.long (q0 ^^^ ((q0.toUInt64 >>> ((31 : Int32) &&& 0x3f).toInt64.toUInt64).toInt64)))])) (fun _ k => XS.lloadN X0.here hx rfl (hb hby d4_6) rfl k) ?_
  refine go (B := s₁.setTop (mkF m 9 #[.val (.long q0), .second, .unset, .unset] [(.int (62 : Int32)), (.long q0), (.long (q0 ^^^ ((q0.toUInt64 >>> ((31 : Int32) &&& 0x3f).toInt64.toUInt64).toInt64)))])) (fun _ k => XS.bipush X0.here hx rfl (hb hby d4_7) k) ?_
  refine go (B := s₁.setTop (mkF m 10 #[.val (.long q0), .second, .unset, .unset] [(.long ((q0.toUInt64 >>> ((62 : Int32) &&& 0x3f).toInt64.toUInt64).toInt64)), (.long (q0 ^^^ ((q0.toUInt64 >>> ((31 : Int32) &&& 0x3f).toInt64.toUInt64).toInt64)))])) (fun _ k => XS.lushr X0.here hx rfl (hb hby d4_9) rfl k) ?_
  refine go (B := s₁.setTop (mkF m 11 #[.val (.long q0), .second, .unset, .unset] [(.long (f4_t0 q0))])) (fun _ k => XS.lxor X0.here hx rfl (hb hby d4_10) rfl k) ?_
  refine go (B := s₁.setTop (mkF m 12 #[.val (.long q0), .second, .val (.long (f4_t0 q0)), .second] [])) (fun _ k => XS.lstoreN X0.here hx rfl (hb hby d4_11) rfl (l' := #[.val (.long q0), .second, .val (.long (f4_t0 q0)), .second]) rfl k) ?_
  refine go (B := s₁.setTop (mkF m 13 #[.val (.long q0), .second, .val (.long (f4_t0 q0)), .second] [(.long (f4_t0 q0))])) (fun _ k => XS.lloadN X0.here hx rfl (hb hby d4_12) rfl k) ?_
  refine go (B := s₁.setTop (mkF m 16 #[.val (.long q0), .second, .val (.long (f4_t0 q0)), .second] [(.long (3573116690164977347 : Int64)), (.long (f4_t0 q0))])) (fun _ k => X0.ldc2Long hx hown (mvT hZ (hw _ (List.mem_of_getElem? (i := 24) rfl))) (g := (mkF m 13 #[.val (.long q0), .second, .val (.long (f4_t0 q0)), .second] [(.long (f4_t0 q0))])) rfl (hb hby d4_13) _ k) ?_
  refine go (B := s₁.setTop (mkF m 17 #[.val (.long q0), .second, .val (.long (f4_t0 q0)), .second] [(.long ((f4_t0 q0) * (3573116690164977347 : Int64)))])) (fun _ k => XS.lmul X0.here hx rfl (hb hby d4_16) rfl k) ?_
  refine go (B := s₁.setTop (mkF m 18 #[.val (.long q0), .second, .val (.long ((f4_t0 q0) * (3573116690164977347 : Int64))), .second] [])) (fun _ k => XS.lstoreN X0.here hx rfl (hb hby d4_17) rfl (l' := #[.val (.long q0), .second, .val (.long ((f4_t0 q0) * (3573116690164977347 : Int64))), .second]) rfl k) ?_
  refine go (B := s₁.setTop (mkF m 19 #[.val (.long q0), .second, .val (.long ((f4_t0 q0) * (3573116690164977347 : Int64))), .second] [(.long ((f4_t0 q0) * (3573116690164977347 : Int64)))])) (fun _ k => XS.lloadN X0.here hx rfl (hb hby d4_18) rfl k) ?_
  refine go (B := s₁.setTop (mkF m 20 #[.val (.long q0), .second, .val (.long ((f4_t0 q0) * (3573116690164977347 : Int64))), .second] [(.long ((f4_t0 q0) * (3573116690164977347 : Int64))), (.long ((f4_t0 q0) * (3573116690164977347 : Int64)))])) (fun _ k => XS.lloadN X0.here hx rfl (hb hby d4_19) rfl k) ?_
  refine go (B := s₁.setTop (mkF m 22 #[.val (.long q0), .second, .val (.long ((f4_t0 q0) * (3573116690164977347 : Int64))), .second] [(.int (27 : Int32)), (.long ((f4_t0 q0) * (3573116690164977347 : Int64))), (.long ((f4_t0 q0) * (3573116690164977347 : Int64)))])) (fun _ k => XS.bipush X0.here hx rfl (hb hby d4_20) k) ?_
  refine go (B := s₁.setTop (mkF m 23 #[.val (.long q0), .second, .val (.long ((f4_t0 q0) * (3573116690164977347 : Int64))), .second] [(.long (f4_t1 q0)), (.long ((f4_t0 q0) * (3573116690164977347 : Int64)))])) (fun _ k => XS.lushr X0.here hx rfl (hb hby d4_22) rfl k) ?_
  refine go (B := s₁.setTop (mkF m 24 #[.val (.long q0), .second, .val (.long ((f4_t0 q0) * (3573116690164977347 : Int64))), .second] [(.long (((f4_t0 q0) * (3573116690164977347 : Int64)) ^^^ (f4_t1 q0)))])) (fun _ k => XS.lxor X0.here hx rfl (hb hby d4_23) rfl k) ?_
  refine go (B := s₁.setTop (mkF m 25 #[.val (.long q0), .second, .val (.long ((f4_t0 q0) * (3573116690164977347 : Int64))), .second] [(.long ((f4_t0 q0) * (3573116690164977347 : Int64))), (.long (((f4_t0 q0) * (3573116690164977347 : Int64)) ^^^ (f4_t1 q0)))])) (fun _ k => XS.lloadN X0.here hx rfl (hb hby d4_24) rfl k) ?_
  refine go (B := s₁.setTop (mkF m 27 #[.val (.long q0), .second, .val (.long ((f4_t0 q0) * (3573116690164977347 : Int64))), .second] [(.int (54 : Int32)), (.long ((f4_t0 q0) * (3573116690164977347 : Int64))), (.long (((f4_t0 q0) * (3573116690164977347 : Int64)) ^^^ (f4_t1 q0)))])) (fun _ k => XS.bipush X0.here hx rfl (hb hby d4_25) k) ?_
  refine go (B := s₁.setTop (mkF m 28 #[.val (.long q0), .second, .val (.long ((f4_t0 q0) * (3573116690164977347 : Int64))), .second] [(.long (f4_t2 q0)), (.long (((f4_t0 q0) * (3573116690164977347 : Int64)) ^^^ (f4_t1 q0)))])) (fun _ k => XS.lushr X0.here hx rfl (hb hby d4_27) rfl k) ?_
  refine go (B := s₁.setTop (mkF m 29 #[.val (.long q0), .second, .val (.long ((f4_t0 q0) * (3573116690164977347 : Int64))), .second] [(.long ((((f4_t0 q0) * (3573116690164977347 : Int64)) ^^^ (f4_t1 q0)) ^^^ (f4_t2 q0)))])) (fun _ k => XS.lxor X0.here hx rfl (hb hby d4_28) rfl k) ?_
  refine go (B := s₁.setTop (mkF m 30 #[.val (.long q0), .second, .val (.long ((((f4_t0 q0) * (3573116690164977347 : Int64)) ^^^ (f4_t1 q0)) ^^^ (f4_t2 q0))), .second] [])) (fun _ k => XS.lstoreN X0.here hx rfl (hb hby d4_29) rfl (l' := #[.val (.long q0), .second, .val (.long ((((f4_t0 q0) * (3573116690164977347 : Int64)) ^^^ (f4_t1 q0)) ^^^ (f4_t2 q0))), .second]) rfl k) ?_
  refine go (B := s₁.setTop (mkF m 31 #[.val (.long q0), .second, .val (.long ((((f4_t0 q0) * (3573116690164977347 : Int64)) ^^^ (f4_t1 q0)) ^^^ (f4_t2 q0))), .second] [(.long ((((f4_t0 q0) * (3573116690164977347 : Int64)) ^^^ (f4_t1 q0)) ^^^ (f4_t2 q0)))])) (fun _ k => XS.lloadN X0.here hx rfl (hb hby d4_30) rfl k) ?_
  refine go (B := s₁.setTop (mkF m 34 #[.val (.long q0), .second, .val (.long ((((f4_t0 q0) * (3573116690164977347 : Int64)) ^^^ (f4_t1 q0)) ^^^ (f4_t2 q0))), .second] [(.long (-7575587736534282103 : Int64)), (.long ((((f4_t0 q0) * (3573116690164977347 : Int64)) ^^^ (f4_t1 q0)) ^^^ (f4_t2 q0)))])) (fun _ k => X0.ldc2Long hx hown (mvT hZ (hw _ (List.mem_of_getElem? (i := 25) rfl))) (g := (mkF m 31 #[.val (.long q0), .second, .val (.long ((((f4_t0 q0) * (3573116690164977347 : Int64)) ^^^ (f4_t1 q0)) ^^^ (f4_t2 q0))), .second] [(.long ((((f4_t0 q0) * (3573116690164977347 : Int64)) ^^^ (f4_t1 q0)) ^^^ (f4_t2 q0)))])) rfl (hb hby d4_31) _ k) ?_
  refine go (B := s₁.setTop (mkF m 35 #[.val (.long q0), .second, .val (.long ((((f4_t0 q0) * (3573116690164977347 : Int64)) ^^^ (f4_t1 q0)) ^^^ (f4_t2 q0))), .second] [(.long (f4_t3 q0))])) (fun _ k => XS.lmul X0.here hx rfl (hb hby d4_34) rfl k) ?_
  refine go (B := s₁.setTop (mkF m 36 #[.val (.long q0), .second, .val (.long (f4_t3 q0)), .second] [])) (fun _ k => XS.lstoreN X0.here hx rfl (hb hby d4_35) rfl (l' := #[.val (.long q0), .second, .val (.long (f4_t3 q0)), .second]) rfl k) ?_
  refine go (B := s₁.setTop (mkF m 37 #[.val (.long q0), .second, .val (.long (f4_t3 q0)), .second] [(.long (f4_t3 q0))])) (fun _ k => XS.lloadN X0.here hx rfl (hb hby d4_36) rfl k) ?_
  refine go (B := s₁.setTop (mkF m 38 #[.val (.long q0), .second, .val (.long (f4_t3 q0)), .second] [(.long (f4_t3 q0)), (.long (f4_t3 q0))])) (fun _ k => XS.lloadN X0.here hx rfl (hb hby d4_37) rfl k) ?_
  refine go (B := s₁.setTop (mkF m 40 #[.val (.long q0), .second, .val (.long (f4_t3 q0)), .second] [(.int (30 : Int32)), (.long (f4_t3 q0)), (.long (f4_t3 q0))])) (fun _ k => XS.bipush X0.here hx rfl (hb hby d4_38) k) ?_
  refine go (B := s₁.setTop (mkF m 41 #[.val (.long q0), .second, .val (.long (f4_t3 q0)), .second] [(.long (((f4_t3 q0).toUInt64 >>> ((30 : Int32) &&& 0x3f).toInt64.toUInt64).toInt64)), (.long (f4_t3 q0))])) (fun _ k => XS.lushr X0.here hx rfl (hb hby d4_40) rfl k) ?_
  refine go (B := s₁.setTop (mkF m 42 #[.val (.long q0), .second, .val (.long (f4_t3 q0)), .second] [(.long (f4_t4 q0))])) (fun _ k => XS.lxor X0.here hx rfl (hb hby d4_41) rfl k) ?_
  refine go (B := s₁.setTop (mkF m 43 #[.val (.long q0), .second, .val (.long (f4_t3 q0)), .second] [(.long (f4_t3 q0)), (.long (f4_t4 q0))])) (fun _ k => XS.lloadN X0.here hx rfl (hb hby d4_42) rfl k) ?_
  refine go (B := s₁.setTop (mkF m 45 #[.val (.long q0), .second, .val (.long (f4_t3 q0)), .second] [(.int (60 : Int32)), (.long (f4_t3 q0)), (.long (f4_t4 q0))])) (fun _ k => XS.bipush X0.here hx rfl (hb hby d4_43) k) ?_
  refine go (B := s₁.setTop (mkF m 46 #[.val (.long q0), .second, .val (.long (f4_t3 q0)), .second] [(.long (((f4_t3 q0).toUInt64 >>> ((60 : Int32) &&& 0x3f).toInt64.toUInt64).toInt64)), (.long (f4_t4 q0))])) (fun _ k => XS.lushr X0.here hx rfl (hb hby d4_45) rfl k) ?_
  refine go (B := s₁.setTop (mkF m 47 #[.val (.long q0), .second, .val (.long (f4_t3 q0)), .second] [(.long (f4_t5 q0))])) (fun _ k => XS.lxor X0.here hx rfl (hb hby d4_46) rfl k) ?_
  refine go (B := s₁.setTop (mkF m 48 #[.val (.long q0), .second, .val (.long (f4_t5 q0)), .second] [])) (fun _ k => XS.lstoreN X0.here hx rfl (hb hby d4_47) rfl (l' := #[.val (.long q0), .second, .val (.long (f4_t5 q0)), .second]) rfl k) ?_
  refine go (B := s₁.setTop (mkF m 49 #[.val (.long q0), .second, .val (.long (f4_t5 q0)), .second] [(.long (f4_t5 q0))])) (fun _ k => XS.lloadN X0.here hx rfl (hb hby d4_48) rfl k) ?_
  have r1 : (f4 q0) = (f4_t5 q0) := by unfold f4; rfl
  exact end_long X0 hx Bd.notSynchronized Bd.returns (hb hby d4_49) hF e0 (by decide) (by decide) ⟨(congrArg (fun z => some (Value.long z)) r1.symm), rfl, rfl⟩
theorem pd_0 : parseMethodDescriptor "(J)V" = some ⟨[.long], none⟩ := by decide +kernel
theorem pd_1 : parseMethodDescriptor "()J" = some ⟨[], some .long⟩ := by decide +kernel
theorem pd_2 : parseMethodDescriptor "(J)J" = some ⟨[.long], some .long⟩ := by decide +kernel
theorem ef_0 (m : MethodId) (q0 : Int64) : entryFrame m #[(.long q0)] maxLocals = mkF m 0 #[.val (.long q0), .second, .unset, .unset, .unset, .unset, .unset, .unset, .unset] [] := by first | (simp [entryFrame, mkF, argsToLocals, Value.category, maxLocals]; done) | rfl
def f0 (q0 : Int64) : Int32 := if (lcmpW (f4 (f3 q0)) (q0 + (-7046029254386353131 : Int64))) = (0 : Int32) then if (lcmpW (f4 (f3 (q0 + (-7046029254386353131 : Int64)))) ((q0 + (-7046029254386353131 : Int64)) + (-7046029254386353131 : Int64))) = (0 : Int32) then (1 : Int32) else (0 : Int32) else (0 : Int32)
theorem own_sh {k : Int32} (n : Nat) (hk : ((k &&& 0x3f).toInt64.toUInt64.toBitVec % 64).toNat = n) (x : Int64) : ((x.toUInt64 >>> (k &&& 0x3f).toInt64.toUInt64).toInt64).toBitVec = x.toBitVec >>> n := by
  show (x.toUInt64 >>> (k &&& 0x3f).toInt64.toUInt64).toBitVec = _
  rw [UInt64.toBitVec_shiftRight, BitVec.ushiftRight_eq', hk]; rfl
theorem own_bv (n : Nat) (h : 64 ≤ 3 * n) (x y : BitVec 64) (hy : y = x ^^^ x >>> n) : (y ^^^ y >>> n) ^^^ y >>> (2 * n) = x := by
  subst hy
  apply BitVec.eq_of_getLsbD_eq
  intro i hi
  simp only [BitVec.getLsbD_xor, BitVec.getLsbD_ushiftRight]
  rw [show n + (n + i) = 2 * n + i from by omega, show n + (2 * n + i) = 3 * n + i from by omega, BitVec.getLsbD_of_ge x (3 * n + i) (by omega)]
  cases x.getLsbD i <;> cases x.getLsbD (n + i) <;> cases x.getLsbD (2 * n + i) <;> rfl
theorem own_un {k k2 : Int32} (n : Nat) (hk : ((k &&& 0x3f).toInt64.toUInt64.toBitVec % 64).toNat = n) (hk2 : ((k2 &&& 0x3f).toInt64.toUInt64.toBitVec % 64).toNat = 2 * n) (h : 64 ≤ 3 * n) (x y : Int64) (hy : y = x ^^^ ((x.toUInt64 >>> (k &&& 0x3f).toInt64.toUInt64).toInt64)) :
    (y ^^^ ((y.toUInt64 >>> (k &&& 0x3f).toInt64.toUInt64).toInt64)) ^^^ ((y.toUInt64 >>> (k2 &&& 0x3f).toInt64.toUInt64).toInt64) = x := by
  apply Int64.toBitVec_inj.mp
  rw [Int64.toBitVec_xor, Int64.toBitVec_xor, own_sh n hk, own_sh (2 * n) hk2]
  refine own_bv n h _ _ ?_
  rw [hy, Int64.toBitVec_xor, own_sh n hk]
theorem own_inv (x : Int64) : f4 (f3 x) = x + (-7046029254386353131 : Int64) := by
  have h1 : f4_t0 (f3 x) = f3_t2 x * (-7723592293110705685 : Int64) := by
    unfold f4_t0
    exact own_un 31 (by decide) (by decide) (by decide) _ _ (by unfold f3 f3_t3; rfl)
  have h2 : f4_t0 (f3 x) * (3573116690164977347 : Int64) = f3_t2 x := by
    rw [h1, Int64.mul_assoc, show ((-7723592293110705685 : Int64) * (3573116690164977347 : Int64)) = 1 from by decide, Int64.mul_one]
  have h3 : f4_t3 (f3 x) = f3_t1 x * (-7575587736534282103 : Int64) := by
    unfold f4_t3 f4_t2 f4_t1
    rw [h2]
    rw [own_un (k := 27) (k2 := 54) 27 (by decide) (by decide) (by decide) (f3_t1 x) _ (by unfold f3_t2; rfl)]
  have h4 : f4_t3 (f3 x) = (x + (-7046029254386353131 : Int64)) ^^^ (f3_t0 x) := by
    rw [h3]; unfold f3_t1
    rw [Int64.mul_assoc, show ((-4658895280553007687 : Int64) * (-7575587736534282103 : Int64)) = 1 from by decide, Int64.mul_one]
  unfold f4 f4_t5 f4_t4
  rw [own_un (k := 30) (k2 := 60) 30 (by decide) (by decide) (by decide) (x + (-7046029254386353131 : Int64)) _ (by rw [h4]; unfold f3_t0; rfl)]
theorem own_law (q0 : Int64) : f0 q0 = 1 := by
  unfold f0
  rw [own_inv, own_inv, if_pos ((lw_eq _ _).mpr rfl), if_pos ((lw_eq _ _).mpr rfl)]
def Q0 (Z : State) (q0 : Int64) (h0 : Heap) (n0 : Nat) (v : Option Value) (h : Heap) (L : List Loc) : Prop := v = some (.int (1 : Int32)) ∧ Fr n0 L
set_option maxRecDepth 65536 in
set_option maxHeartbeats 40000000 in
theorem rm0 (l : Launch) (Z : State) (aw : Array Value) (hw : ∀ d ∈ tables_1, d.before aw Z = true) (ws : List Jvm.Cond) (q0 : Int64) (h0 : Heap) (n0 : Nat) (Z0 : n0 ≤ h0.size) :
    MetFree l x (head1 (Jvm.Cond.code x code maxLocals ret :: ws) room_1) (fun a U => a = #[(.long q0)] ∧ Z.Warmed39 U.vm ∧ U.heap = h0) (fun _ _ _ _ _ => True) (fun _ U o U' => ∃ v L, o = .returned v ∧ Q0 Z q0 h0 n0 v U'.heap L ∧ FrameEnd U o U' L room_1.cells room_1.slots) := by
  refine MetFree.of_bodySF (plainFor_of_name pn_4) hisR ?_
  intro p e s m args below meth c s₁ Bd hml0 hP hK
  obtain ⟨rfl, hZ, hh⟩ := hP
  have hx := Bd.exec
  have hby := Bd.bytes
  have hml : c.maxLocals = 9 := hml0
  have hown : s.vm.findClass "com/example/saltwake/saltwake/core/ChanceNextLongPinLaw" = some m.cls := findClass_of_methodNamed Bd.named
  have hnm := (name_of_methodNamed Bd.named Bd.method).1
  have X0 : Stand p l e room_1 s m #[(.long q0)] below meth c s₁ [] 0 0 := Stand.of_body Bd
  have e0 : s₁.heap = h0 := by rw [← hh, Bd.state]; rfl
  have N0 := Fr.nil n0
  rw [ef_0 m q0]
  refine go_in (s₁ := s₁) (Q := Q0 Z q0 h0 n0) fun F hF => ?_
  obtain ⟨T1, h1, X1, e1, E1, A1, D1, -, st1⟩ := newO X0 hx hZ hown (hw _ (List.mem_of_getElem? (i := 0) rfl)) (hw _ (List.mem_of_getElem? (i := 1) rfl)) (hw _ (List.mem_of_getElem? (i := 2) rfl)) e0 (g := (mkF m 0 #[.val (.long q0), .second, .unset, .unset, .unset, .unset, .unset, .unset, .unset] [])) rfl (hb hby at_0) (by decide) (by decide)
  obtain ⟨b1, g1⟩ : ∃ z, z = h0.size := ⟨_, rfl⟩
  rw [← g1] at A1 D1 st1
  have g_b1 : n0 ≤ b1 := Nat.le_trans Z0 (Nat.le_of_eq g1.symm)
  have Z1 := Nat.le_trans Z0 E1.1
  have F_state_b1 : Fld Z h1 b1 "com/example/saltwake/saltwake/core/Chance" "state" "J" (.long (0 : Int64)) := D1 (Or.inl (hw _ (List.mem_of_getElem? (i := 10) rfl))) (ty := .long) (by decide)
  have E_b1 := A1
  refine go (B := T1.setTop (mkF m 3 #[.val (.long q0), .second, .unset, .unset, .unset, .unset, .unset, .unset, .unset] [(.ref b1)])) st1 ?_
  refine go (B := T1.setTop (mkF m 4 #[.val (.long q0), .second, .unset, .unset, .unset, .unset, .unset, .unset, .unset] [(.ref b1), (.ref b1)])) (fun _ k => XS.dup X1.here hx rfl (hb hby at_3) rfl rfl k) ?_
  refine go (B := T1.setTop (mkF m 5 #[.val (.long q0), .second, .unset, .unset, .unset, .unset, .unset, .unset, .unset] [(.long q0), (.ref b1), (.ref b1)])) (fun _ k => XS.lloadN X1.here hx rfl (hb hby at_4) rfl k) ?_
  obtain ⟨_, _, ⟨T2, L2, k2, n2⟩, -, X2, ⟨Lc2, hQ2, l2, y2, z2⟩, st2⟩ := X1.specialBack hx (y := (⟨"com/example/saltwake/saltwake/core/Chance", "<init>", "(J)V"⟩ : MethodName)) rfl hown (mvT hZ (hw _ (List.mem_of_getElem? (i := 3) rfl))) (mvT hZ (hw _ (List.mem_of_getElem? (i := 4) rfl))) (mvT hZ (hw _ (List.mem_of_getElem? (i := 5) rfl))) (by decide) (backOf (W := 1) (rm1 l Z aw hw [] b1 q0 h1 n0 Z1 F_state_b1 E_b1 g_b1) hZ (hw _ (List.mem_of_getElem? (i := 5) rfl)) (hw _ (List.mem_of_getElem? (i := 2) rfl)) (by decide) (by decide)) (g := (mkF m 5 #[.val (.long q0), .second, .unset, .unset, .unset, .unset, .unset, .unset, .unset] [(.long q0), (.ref b1), (.ref b1)])) rfl (by rw [hml]; rfl) (Steps.refl _) (a := b1) (argsL := [(.long q0)]) (rest := [(.ref b1)]) (lenOf pd_0 rfl) rfl (by show 2 * 0 + _ ≤ _; exact Nat.le_of_eq rfl) (hb hby at_5) (fun _ _ => ⟨rfl, e1, (by decide : 1 + 0 ≤ _), (by decide : 1 + 0 ≤ _)⟩)
  dsimp only [Pt.U, Pt.locs, Pt.cells, Pt.slots] at X2 l2 y2 z2 st2 hQ2
  subst l2 y2 z2
  obtain ⟨rfl, N2q, Kc2, o2_0, o2_1⟩ := hQ2
  have E_b1_2 := E_b1.keep Kc2
  have N2 := Fr.app N0 N2q
  have Z2 := Nat.le_trans Z1 Kc2.1
  refine go (B := T2.setTop (mkF m 8 #[.val (.long q0), .second, .unset, .unset, .unset, .unset, .unset, .unset, .unset] [(.ref b1)])) (fun _ k => st2.trans k) ?_
  refine go (B := T2.setTop (mkF m 9 #[.val (.long q0), .second, .val (.ref b1), .unset, .unset, .unset, .unset, .unset, .unset] [])) (fun _ k => XS.astoreN X2.here hx rfl (hb hby at_8) rfl rfl (l' := #[.val (.long q0), .second, .val (.ref b1), .unset, .unset, .unset, .unset, .unset, .unset]) rfl k) ?_
  refine go (B := T2.setTop (mkF m 10 #[.val (.long q0), .second, .val (.ref b1), .unset, .unset, .unset, .unset, .unset, .unset] [(.ref b1)])) (fun _ k => XS.aloadN X2.here hx rfl (hb hby at_9) rfl rfl k) ?_
  obtain ⟨cq3, kq3, q3a, q3b, q3c⟩ := isOf hZ rfl o2_0
  obtain ⟨_, _, ⟨T3, L3, k3, n3⟩, -, X3, ⟨Lc3, hQ3, l3, y3, z3⟩, st3⟩ := X2.virtualBack hx (y := (⟨"com/example/saltwake/saltwake/core/Chance", "nextLong", "()J"⟩ : MethodName)) (z := (⟨"com/example/saltwake/saltwake/core/Chance", "nextLong", "()J"⟩ : MethodName)) hown (mvT hZ (hw _ (List.mem_of_getElem? (i := 11) rfl))) (mvT hZ (hw _ (List.mem_of_getElem? (i := 12) rfl))) (notFace_of_selects (args := #[]) (mvT hZ (hw _ (List.mem_of_getElem? (i := 14) rfl)))) (mvT hZ (hw _ (List.mem_of_getElem? (i := 14) rfl))) (mvT hZ (hw _ (List.mem_of_getElem? (i := 13) rfl))) (by decide) (backOf (W := 0) (rm3 l Z aw hw [] b1 q0 T2.heap n0 Z2 o2_1 o2_0 g_b1) hZ (hw _ (List.mem_of_getElem? (i := 15) rfl)) (hw _ (List.mem_of_getElem? (i := 2) rfl)) (by decide) (by decide)) q3a q3c (g := (mkF m 10 #[.val (.long q0), .second, .val (.ref b1), .unset, .unset, .unset, .unset, .unset, .unset] [(.ref b1)])) rfl (by rw [hml]; rfl) (Steps.refl _) (argsL := []) (rest := []) (lenOf pd_1 rfl) rfl (by show 2 * 0 + _ ≤ _; exact Nat.le_of_eq rfl) (hb hby at_10) (fun _ _ => ⟨rfl, rfl, (by decide : 1 + 0 ≤ _), (by decide : 1 + 0 ≤ _)⟩)
  dsimp only [Pt.U, Pt.locs, Pt.cells, Pt.slots] at X3 l3 y3 z3 st3 hQ3
  subst l3 y3 z3
  obtain ⟨rfl, N3q, Kc3, o3_0, o3_1⟩ := hQ3
  have E_b1_3 := o2_0.keep Kc3
  have N3 := Fr.app N2 N3q
  have Z3 := Nat.le_trans Z2 Kc3.1
  refine go (B := T3.setTop (mkF m 13 #[.val (.long q0), .second, .val (.ref b1), .unset, .unset, .unset, .unset, .unset, .unset] [(.long (f3 q0))])) (fun _ k => st3.trans k) ?_
  refine go (B := T3.setTop (mkF m 14 #[.val (.long q0), .second, .val (.ref b1), .val (.long (f3 q0)), .second, .unset, .unset, .unset, .unset] [])) (fun _ k => XS.lstoreN X3.here hx rfl (hb hby at_13) rfl (l' := #[.val (.long q0), .second, .val (.ref b1), .val (.long (f3 q0)), .second, .unset, .unset, .unset, .unset]) rfl k) ?_
  refine go (B := T3.setTop (mkF m 15 #[.val (.long q0), .second, .val (.ref b1), .val (.long (f3 q0)), .second, .unset, .unset, .unset, .unset] [(.ref b1)])) (fun _ k => XS.aloadN X3.here hx rfl (hb hby at_14) rfl rfl k) ?_
  obtain ⟨cq4, kq4, q4a, q4b, q4c⟩ := isOf hZ rfl o3_0
  obtain ⟨_, _, ⟨T4, L4, k4, n4⟩, -, X4, ⟨Lc4, hQ4, l4, y4, z4⟩, st4⟩ := X3.virtualBack hx (y := (⟨"com/example/saltwake/saltwake/core/Chance", "nextLong", "()J"⟩ : MethodName)) (z := (⟨"com/example/saltwake/saltwake/core/Chance", "nextLong", "()J"⟩ : MethodName)) hown (mvT hZ (hw _ (List.mem_of_getElem? (i := 11) rfl))) (mvT hZ (hw _ (List.mem_of_getElem? (i := 12) rfl))) (notFace_of_selects (args := #[]) (mvT hZ (hw _ (List.mem_of_getElem? (i := 14) rfl)))) (mvT hZ (hw _ (List.mem_of_getElem? (i := 14) rfl))) (mvT hZ (hw _ (List.mem_of_getElem? (i := 13) rfl))) (by decide) (backOf (W := 0) (rm3 l Z aw hw [] b1 (q0 + (-7046029254386353131 : Int64)) T3.heap n0 Z3 o3_1 o3_0 g_b1) hZ (hw _ (List.mem_of_getElem? (i := 15) rfl)) (hw _ (List.mem_of_getElem? (i := 2) rfl)) (by decide) (by decide)) q4a q4c (g := (mkF m 15 #[.val (.long q0), .second, .val (.ref b1), .val (.long (f3 q0)), .second, .unset, .unset, .unset, .unset] [(.ref b1)])) rfl (by rw [hml]; rfl) (Steps.refl _) (argsL := []) (rest := []) (lenOf pd_1 rfl) rfl (by show 2 * 0 + _ ≤ _; exact Nat.le_of_eq rfl) (hb hby at_15) (fun _ _ => ⟨rfl, rfl, (by decide : 1 + 0 ≤ _), (by decide : 1 + 0 ≤ _)⟩)
  dsimp only [Pt.U, Pt.locs, Pt.cells, Pt.slots] at X4 l4 y4 z4 st4 hQ4
  subst l4 y4 z4
  obtain ⟨rfl, N4q, Kc4, o4_0, o4_1⟩ := hQ4
  have E_b1_4 := o3_0.keep Kc4
  have N4 := Fr.app N3 N4q
  have Z4 := Nat.le_trans Z3 Kc4.1
  refine go (B := T4.setTop (mkF m 18 #[.val (.long q0), .second, .val (.ref b1), .val (.long (f3 q0)), .second, .unset, .unset, .unset, .unset] [(.long (f3 (q0 + (-7046029254386353131 : Int64))))])) (fun _ k => st4.trans k) ?_
  refine go (B := T4.setTop (mkF m 20 #[.val (.long q0), .second, .val (.ref b1), .val (.long (f3 q0)), .second, .val (.long (f3 (q0 + (-7046029254386353131 : Int64)))), .second, .unset, .unset] [])) (fun _ k => XS.lstore X4.here hx rfl (hb hby at_18) rfl (l' := #[.val (.long q0), .second, .val (.ref b1), .val (.long (f3 q0)), .second, .val (.long (f3 (q0 + (-7046029254386353131 : Int64)))), .second, .unset, .unset]) rfl k) ?_
  refine go (B := T4.setTop (mkF m 23 #[.val (.long q0), .second, .val (.ref b1), .val (.long (f3 q0)), .second, .val (.long (f3 (q0 + (-7046029254386353131 : Int64)))), .second, .unset, .unset] [(.long (-7046029254386353131 : Int64))])) (fun _ k => X4.ldc2Long hx hown (mvT hZ (hw _ (List.mem_of_getElem? (i := 19) rfl))) (g := (mkF m 20 #[.val (.long q0), .second, .val (.ref b1), .val (.long (f3 q0)), .second, .val (.long (f3 (q0 + (-7046029254386353131 : Int64)))), .second, .unset, .unset] [])) rfl (hb hby at_20) _ k) ?_
  refine go (B := T4.setTop (mkF m 25 #[.val (.long q0), .second, .val (.ref b1), .val (.long (f3 q0)), .second, .val (.long (f3 (q0 + (-7046029254386353131 : Int64)))), .second, .val (.long (-7046029254386353131 : Int64)), .second] [])) (fun _ k => XS.lstore X4.here hx rfl (hb hby at_23) rfl (l' := #[.val (.long q0), .second, .val (.ref b1), .val (.long (f3 q0)), .second, .val (.long (f3 (q0 + (-7046029254386353131 : Int64)))), .second, .val (.long (-7046029254386353131 : Int64)), .second]) rfl k) ?_
  refine go (B := T4.setTop (mkF m 26 #[.val (.long q0), .second, .val (.ref b1), .val (.long (f3 q0)), .second, .val (.long (f3 (q0 + (-7046029254386353131 : Int64)))), .second, .val (.long (-7046029254386353131 : Int64)), .second] [(.long (f3 q0))])) (fun _ k => XS.lloadN X4.here hx rfl (hb hby at_25) rfl k) ?_
  obtain ⟨_, _, ⟨T5, L5, k5, n5⟩, -, X5, ⟨Lc5, hQ5, l5, y5, z5⟩, st5⟩ := Jvm.LawKit.callS X4 hx (y := (⟨"com/example/saltwake/saltwake/core/ChanceNextLongPinLaw", "unmix", "(J)J"⟩ : MethodName)) hown (mvT hZ (hw _ (List.mem_of_getElem? (i := 20) rfl))) (mvT hZ (hw _ (List.mem_of_getElem? (i := 21) rfl))) (mvT hZ (hw _ (List.mem_of_getElem? (i := 22) rfl))) (mvT hZ (hw _ (List.mem_of_getElem? (i := 23) rfl))) (by decide) (backOf (W := 0) (rm4 l Z aw hw [] (f3 q0) T4.heap n0 Z4 ) hZ (hw _ (List.mem_of_getElem? (i := 23) rfl)) (hw _ (List.mem_of_getElem? (i := 22) rfl)) (by decide) (by decide)) (g := (mkF m 26 #[.val (.long q0), .second, .val (.ref b1), .val (.long (f3 q0)), .second, .val (.long (f3 (q0 + (-7046029254386353131 : Int64)))), .second, .val (.long (-7046029254386353131 : Int64)), .second] [(.long (f3 q0))])) rfl (by rw [hml]; rfl) (argsL := [(.long (f3 q0))]) (rest := []) (lenOf pd_2 rfl) rfl (by show 2 * 0 + _ ≤ _; exact Nat.le_of_eq rfl) (hb hby at_26) (fun _ _ => ⟨rfl, rfl, (by decide : 1 + 0 ≤ _), (by decide : 1 + 0 ≤ _)⟩)
  dsimp only [Pt.U, Pt.locs, Pt.cells, Pt.slots] at X5 l5 y5 z5 st5 hQ5
  subst l5 y5 z5
  obtain ⟨rfl, rfl, e5⟩ := hQ5
  have N5 := Fr.app N4 (Fr.nil n0)
  refine go (B := T5.setTop (mkF m 29 #[.val (.long q0), .second, .val (.ref b1), .val (.long (f3 q0)), .second, .val (.long (f3 (q0 + (-7046029254386353131 : Int64)))), .second, .val (.long (-7046029254386353131 : Int64)), .second] [(.long (f4 (f3 q0)))])) (fun _ k => st5 _ k) ?_
  refine go (B := T5.setTop (mkF m 30 #[.val (.long q0), .second, .val (.ref b1), .val (.long (f3 q0)), .second, .val (.long (f3 (q0 + (-7046029254386353131 : Int64)))), .second, .val (.long (-7046029254386353131 : Int64)), .second] [(.long q0), (.long (f4 (f3 q0)))])) (fun _ k => XS.lloadN X5.here hx rfl (hb hby at_29) rfl k) ?_
  refine go (B := T5.setTop (mkF m 32 #[.val (.long q0), .second, .val (.ref b1), .val (.long (f3 q0)), .second, .val (.long (f3 (q0 + (-7046029254386353131 : Int64)))), .second, .val (.long (-7046029254386353131 : Int64)), .second] [(.long (-7046029254386353131 : Int64)), (.long q0), (.long (f4 (f3 q0)))])) (fun _ k => XS.lload X5.here hx rfl (hb hby at_30) rfl k) ?_
  refine go (B := T5.setTop (mkF m 33 #[.val (.long q0), .second, .val (.ref b1), .val (.long (f3 q0)), .second, .val (.long (f3 (q0 + (-7046029254386353131 : Int64)))), .second, .val (.long (-7046029254386353131 : Int64)), .second] [(.long (q0 + (-7046029254386353131 : Int64))), (.long (f4 (f3 q0)))])) (fun _ k => XS.ladd X5.here hx rfl (hb hby at_32) rfl k) ?_
  refine go (B := T5.setTop (mkF m 34 #[.val (.long q0), .second, .val (.ref b1), .val (.long (f3 q0)), .second, .val (.long (f3 (q0 + (-7046029254386353131 : Int64)))), .second, .val (.long (-7046029254386353131 : Int64)), .second] [(.int (lcmpW (f4 (f3 q0)) (q0 + (-7046029254386353131 : Int64))))])) (fun _ k => XS.lcmp X5.here hx rfl (hb hby at_33) rfl k) ?_
  by_cases hc6 : (lcmpW (f4 (f3 q0)) (q0 + (-7046029254386353131 : Int64))) = (0 : Int32)
  · refine go (B := T5.setTop (mkF m 37 #[.val (.long q0), .second, .val (.ref b1), .val (.long (f3 q0)), .second, .val (.long (f3 (q0 + (-7046029254386353131 : Int64)))), .second, .val (.long (-7046029254386353131 : Int64)), .second] [])) (fun _ k => XS.ifNo X5.here hx rfl (hb hby at_34) rfl ((if0 _ _).trans (teq hc6).2) k) ?_
    refine go (B := T5.setTop (mkF m 39 #[.val (.long q0), .second, .val (.ref b1), .val (.long (f3 q0)), .second, .val (.long (f3 (q0 + (-7046029254386353131 : Int64)))), .second, .val (.long (-7046029254386353131 : Int64)), .second] [(.long (f3 (q0 + (-7046029254386353131 : Int64))))])) (fun _ k => XS.lload X5.here hx rfl (hb hby at_37) rfl k) ?_
    obtain ⟨_, _, ⟨T7, L7, k7, n7⟩, -, X7, ⟨Lc7, hQ7, l7, y7, z7⟩, st7⟩ := Jvm.LawKit.callS X5 hx (y := (⟨"com/example/saltwake/saltwake/core/ChanceNextLongPinLaw", "unmix", "(J)J"⟩ : MethodName)) hown (mvT hZ (hw _ (List.mem_of_getElem? (i := 20) rfl))) (mvT hZ (hw _ (List.mem_of_getElem? (i := 21) rfl))) (mvT hZ (hw _ (List.mem_of_getElem? (i := 22) rfl))) (mvT hZ (hw _ (List.mem_of_getElem? (i := 23) rfl))) (by decide) (backOf (W := 0) (rm4 l Z aw hw [] (f3 (q0 + (-7046029254386353131 : Int64))) T4.heap n0 Z4 ) hZ (hw _ (List.mem_of_getElem? (i := 23) rfl)) (hw _ (List.mem_of_getElem? (i := 22) rfl)) (by decide) (by decide)) (g := (mkF m 39 #[.val (.long q0), .second, .val (.ref b1), .val (.long (f3 q0)), .second, .val (.long (f3 (q0 + (-7046029254386353131 : Int64)))), .second, .val (.long (-7046029254386353131 : Int64)), .second] [(.long (f3 (q0 + (-7046029254386353131 : Int64))))])) rfl (by rw [hml]; rfl) (argsL := [(.long (f3 (q0 + (-7046029254386353131 : Int64))))]) (rest := []) (lenOf pd_2 rfl) rfl (by show 2 * 0 + _ ≤ _; exact Nat.le_of_eq rfl) (hb hby at_39) (fun _ _ => ⟨rfl, e5, (by decide : 1 + 0 ≤ _), (by decide : 1 + 0 ≤ _)⟩)
    dsimp only [Pt.U, Pt.locs, Pt.cells, Pt.slots] at X7 l7 y7 z7 st7 hQ7
    subst l7 y7 z7
    obtain ⟨rfl, rfl, e7⟩ := hQ7
    have N7 := Fr.app N5 (Fr.nil n0)
    refine go (B := T7.setTop (mkF m 42 #[.val (.long q0), .second, .val (.ref b1), .val (.long (f3 q0)), .second, .val (.long (f3 (q0 + (-7046029254386353131 : Int64)))), .second, .val (.long (-7046029254386353131 : Int64)), .second] [(.long (f4 (f3 (q0 + (-7046029254386353131 : Int64)))))])) (fun _ k => st7 _ k) ?_
    refine go (B := T7.setTop (mkF m 43 #[.val (.long q0), .second, .val (.ref b1), .val (.long (f3 q0)), .second, .val (.long (f3 (q0 + (-7046029254386353131 : Int64)))), .second, .val (.long (-7046029254386353131 : Int64)), .second] [(.long q0), (.long (f4 (f3 (q0 + (-7046029254386353131 : Int64)))))])) (fun _ k => XS.lloadN X7.here hx rfl (hb hby at_42) rfl k) ?_
    refine go (B := T7.setTop (mkF m 45 #[.val (.long q0), .second, .val (.ref b1), .val (.long (f3 q0)), .second, .val (.long (f3 (q0 + (-7046029254386353131 : Int64)))), .second, .val (.long (-7046029254386353131 : Int64)), .second] [(.long (-7046029254386353131 : Int64)), (.long q0), (.long (f4 (f3 (q0 + (-7046029254386353131 : Int64)))))])) (fun _ k => XS.lload X7.here hx rfl (hb hby at_43) rfl k) ?_
    refine go (B := T7.setTop (mkF m 46 #[.val (.long q0), .second, .val (.ref b1), .val (.long (f3 q0)), .second, .val (.long (f3 (q0 + (-7046029254386353131 : Int64)))), .second, .val (.long (-7046029254386353131 : Int64)), .second] [(.long (q0 + (-7046029254386353131 : Int64))), (.long (f4 (f3 (q0 + (-7046029254386353131 : Int64)))))])) (fun _ k => XS.ladd X7.here hx rfl (hb hby at_45) rfl k) ?_
    refine go (B := T7.setTop (mkF m 48 #[.val (.long q0), .second, .val (.ref b1), .val (.long (f3 q0)), .second, .val (.long (f3 (q0 + (-7046029254386353131 : Int64)))), .second, .val (.long (-7046029254386353131 : Int64)), .second] [(.long (-7046029254386353131 : Int64)), (.long (q0 + (-7046029254386353131 : Int64))), (.long (f4 (f3 (q0 + (-7046029254386353131 : Int64)))))])) (fun _ k => XS.lload X7.here hx rfl (hb hby at_46) rfl k) ?_
    refine go (B := T7.setTop (mkF m 49 #[.val (.long q0), .second, .val (.ref b1), .val (.long (f3 q0)), .second, .val (.long (f3 (q0 + (-7046029254386353131 : Int64)))), .second, .val (.long (-7046029254386353131 : Int64)), .second] [(.long ((q0 + (-7046029254386353131 : Int64)) + (-7046029254386353131 : Int64))), (.long (f4 (f3 (q0 + (-7046029254386353131 : Int64)))))])) (fun _ k => XS.ladd X7.here hx rfl (hb hby at_48) rfl k) ?_
    refine go (B := T7.setTop (mkF m 50 #[.val (.long q0), .second, .val (.ref b1), .val (.long (f3 q0)), .second, .val (.long (f3 (q0 + (-7046029254386353131 : Int64)))), .second, .val (.long (-7046029254386353131 : Int64)), .second] [(.int (lcmpW (f4 (f3 (q0 + (-7046029254386353131 : Int64)))) ((q0 + (-7046029254386353131 : Int64)) + (-7046029254386353131 : Int64))))])) (fun _ k => XS.lcmp X7.here hx rfl (hb hby at_49) rfl k) ?_
    by_cases hc8 : (lcmpW (f4 (f3 (q0 + (-7046029254386353131 : Int64)))) ((q0 + (-7046029254386353131 : Int64)) + (-7046029254386353131 : Int64))) = (0 : Int32)
    · refine go (B := T7.setTop (mkF m 53 #[.val (.long q0), .second, .val (.ref b1), .val (.long (f3 q0)), .second, .val (.long (f3 (q0 + (-7046029254386353131 : Int64)))), .second, .val (.long (-7046029254386353131 : Int64)), .second] [])) (fun _ k => XS.ifNo X7.here hx rfl (hb hby at_50) rfl ((if0 _ _).trans (teq hc8).2) k) ?_
      refine go (B := T7.setTop (mkF m 54 #[.val (.long q0), .second, .val (.ref b1), .val (.long (f3 q0)), .second, .val (.long (f3 (q0 + (-7046029254386353131 : Int64)))), .second, .val (.long (-7046029254386353131 : Int64)), .second] [(.int (1 : Int32))])) (fun _ k => XS.iconst X7.here hx rfl (hb hby at_53) k) ?_
      refine go (B := T7.setTop (mkF m 58 #[.val (.long q0), .second, .val (.ref b1), .val (.long (f3 q0)), .second, .val (.long (f3 (q0 + (-7046029254386353131 : Int64)))), .second, .val (.long (-7046029254386353131 : Int64)), .second] [(.int (1 : Int32))])) (fun _ k => XS.goto X7.here hx rfl (pc0 := 54) (pc' := 58) rfl (hb hby at_54) (by decide) (by decide) k) ?_
      have r9 : (f0 q0) = (1 : Int32) := by unfold f0; rw [if_pos hc6, if_pos hc8]
      exact end_nar X7 hx Bd.notSynchronized (t := .boolean) Bd.returns (by simp) (hb hby at_58) hF e7 (by decide) (by decide) ⟨(congrArg (fun z => some (Value.int z)) (r9.symm.trans (own_law q0))), N7⟩
    · refine go (B := T7.setTop (mkF m 57 #[.val (.long q0), .second, .val (.ref b1), .val (.long (f3 q0)), .second, .val (.long (f3 (q0 + (-7046029254386353131 : Int64)))), .second, .val (.long (-7046029254386353131 : Int64)), .second] [])) (fun _ k => XS.ifYes X7.here hx rfl (pc0 := 50) (pc' := 57) rfl (hb hby at_50) rfl ((if0 _ _).trans (feq hc8).2) (by decide) (by decide) k) ?_
      refine go (B := T7.setTop (mkF m 58 #[.val (.long q0), .second, .val (.ref b1), .val (.long (f3 q0)), .second, .val (.long (f3 (q0 + (-7046029254386353131 : Int64)))), .second, .val (.long (-7046029254386353131 : Int64)), .second] [(.int (0 : Int32))])) (fun _ k => XS.iconst X7.here hx rfl (hb hby at_57) k) ?_
      have r10 : (f0 q0) = (0 : Int32) := by unfold f0; rw [if_pos hc6, if_neg hc8]
      exact end_nar X7 hx Bd.notSynchronized (t := .boolean) Bd.returns (by simp) (hb hby at_58) hF e7 (by decide) (by decide) ⟨(congrArg (fun z => some (Value.int z)) (r10.symm.trans (own_law q0))), N7⟩
  · refine go (B := T5.setTop (mkF m 57 #[.val (.long q0), .second, .val (.ref b1), .val (.long (f3 q0)), .second, .val (.long (f3 (q0 + (-7046029254386353131 : Int64)))), .second, .val (.long (-7046029254386353131 : Int64)), .second] [])) (fun _ k => XS.ifYes X5.here hx rfl (pc0 := 34) (pc' := 57) rfl (hb hby at_34) rfl ((if0 _ _).trans (feq hc6).2) (by decide) (by decide) k) ?_
    refine go (B := T5.setTop (mkF m 58 #[.val (.long q0), .second, .val (.ref b1), .val (.long (f3 q0)), .second, .val (.long (f3 (q0 + (-7046029254386353131 : Int64)))), .second, .val (.long (-7046029254386353131 : Int64)), .second] [(.int (0 : Int32))])) (fun _ k => XS.iconst X5.here hx rfl (hb hby at_57) k) ?_
    have r11 : (f0 q0) = (0 : Int32) := by unfold f0; rw [if_neg hc6]
    exact end_nar X5 hx Bd.notSynchronized (t := .boolean) Bd.returns (by simp) (hb hby at_58) hF e5 (by decide) (by decide) ⟨(congrArg (fun z => some (Value.int z)) (r11.symm.trans (own_law q0))), N5⟩
set_option maxRecDepth 65536 in
set_option maxHeartbeats 40000000 in
theorem comes_1 {Post : Tables → Env → Array Value → State → Outcome → State → Prop} (hpost : ∀ tb e args s v u, (limb_1_1.after args s (.returned v) u = true ∧ limb_1_2.after args s (.returned v) u = true ∧ True) → FrameEnd s (.returned v) u (Jvm.fieldLocs frame_1_writes args s ++ Jvm.arrayLocs frame_1_arrays args s ++ Jvm.staticLocs frame_1_statics s) 16 128 → Post tb e args s (.returned v) u) :
    ArmFor flags0 classFile x code maxLocals ret World_1 tables_1 room_1 Calls_1 rest_1 Pre_1 Post := by
  intro l hfl _ _ p e ha hc hk s m args below hf hA hF happ hP
  obtain ⟨hcalls, hrest, hpre⟩ := hP
  obtain ⟨-, -, -, hnamed, -, -, -, hat⟩ := (Spec.applies_iff hf).mp happ
  obtain ⟨hg, hn⟩ := and_e (Cond.before_iff.mp (show (Jvm.Cond.and given_1 narrow_1).before args s = true from hpre))
  obtain ⟨gg1, gg2⟩ := and_e hg
  obtain ⟨w0, rfl⟩ : ∃ w0 : Value, args = #[w0] := by
    have hs : args.size = 1 := by simpa [Cond.value, given_1] using gg1
    obtain ⟨L⟩ := args
    match L, hs with
    | [w0], _ => exact ⟨w0, rfl⟩
  have hw := fun d (hd : d ∈ tables_1) => atoms_spec (ws := Jvm.Cond.code x code maxLocals ret :: tables_1) hat d (List.mem_cons_of_mem _ hd)
  have hfit : Fit s := fun {y c} hc i hi => by
    obtain ⟨ha, rfl⟩ := Array.getElem?_eq_some_iff.mp hc
    have q := List.all_eq_true.mp ((Array.all_eq_true_iff_forall_mem.mp hF) _ (Array.getElem_mem ha)) i (List.mem_range.mpr hi)
    simpa [Array.getElem?_eq_getElem hi] using q
  obtain ⟨i0, ei0⟩ := isL_v gg2
  obtain rfl : w0 = (.long i0) := Option.some.inj ei0
  obtain ⟨n, o, h1, h2, h3, _, L, rfl, ⟨rfl, N⟩, hq⟩ := rm0 l s _ hw tables_1 i0 s.heap s.heap.size (Nat.le_refl _)  p e ha hc hk s m _ below hf ((Spec.applies_iff_loose hf).mp happ).1 ⟨rfl, State.Warmed39.refl s, rfl⟩ trivial
  refine ⟨n, _, h1, h2, h3, hpost _ _ _ _ _ _ ⟨Cond.after_iff.mpr rfl, Cond.after_iff.mpr (eq_i res_at (Term.int_eval (1)) rfl), trivial⟩ ⟨hq.1, hq.2.1, (hq.2.2.sift fun y hy => Or.inr (N y hy)).mono (by decide) (by decide)⟩⟩
theorem main_1_1 : Claimed_1_1 := comes_1 fun _ _ _ _ _ _ h hF => ⟨h.1, hF⟩
theorem main_1_2 : Claimed_1_2 := comes_1 fun _ _ _ _ _ _ h hF => ⟨h.2.1, hF⟩
end Jvm.Pilot.@@N@@
namespace Jvm.Pilot.@@N@@
open Jvm Jvm.ClassFile Sem Op Lib Jvm.Free Jvm.Stand Jvm.Pilot.@@N@@.Jvm.D
/-! MADE BY PROGRAM (witnessworld.py) out of the Statement's table words and the real class files: 9 classes; the members and pool entries that the words name. The judged class is class 1, her method 1. -/
namespace start1
open Jvm.ClassFile
def u (s : String) : CpInfo := .utf8 (stringToUtf16 s)
/-- a pool by its gaps: so many unusable entries, then the entry; so many at the end -/
def gap : Nat → List CpInfo → List CpInfo
  | 0, r => r
  | n + 1, r => .unusable :: gap n r
def poolList (es : List (Nat × CpInfo)) (last : Nat) : List CpInfo := es.foldr (fun e r => gap e.1 (e.2 :: r)) (gap last [])
def pool (es : List (Nat × CpInfo)) (last : Nat) : Array CpInfo := ⟨poolList es last⟩
def fileOf (pool : Array CpInfo) (this : Nat) (attrs : Array Attribute := #[]) (ms : Array MethodInfo := #[]) (fl : Nat := 33) (sup : Nat := 0) (ifs : Array Nat := #[]) (fds : Array FieldInfo := #[]) : ClassFile where
  minorVersion := 0
  majorVersion := 65
  constantPool := pool
  accessFlags := fl
  thisClass := this
  superClass := sup
  interfaces := ifs
  fields := fds
  methods := ms
  attributes := attrs
def plain (name : String) (sup : Option ClassId) : Class where
  name := name
  kind := .ordinary
  loader := none
  accessFlags := 33
  super := sup
  interfaces := #[]
  cf := none
  fields := #[]
  methods := #[]
  instanceTypes := #[]
  staticTypes := #[]
  resolved := #[]
  callSites := []
  init := .initialized
  statics := none
  mirror := none

def pool0 : Array CpInfo := pool [(5, u "<init>"), (0, u "()V"), (1, .class_ 10), (1, u "java/lang/Object")] 113

def k0c0 : Code := { maxStack := 0, maxLocals := 1, code := object_method_1_code, exceptionTable := #[], attributes := #[] }
def k0m0 : Method := { name := "<init>", desc := "()V", sig := { parameters := [], returnType := none }, accessFlags := 1, code := some k0c0 }
/-- java/lang/Object -/
def k0 : Class := { plain "java/lang/Object" none with
  accessFlags := 33
  interfaces := #[]
  cf := some (fileOf pool0 8 #[] #[{ accessFlags := 1, nameIndex := 5, descriptorIndex := 6, attributes := #[] }] 33 0 #[] #[])
  fields := #[]
  methods := #[k0m0]
  instanceTypes := #[]
  staticTypes := #[]
  resolved := Array.replicate 124 none
  statics := none }

def pool1 : Array CpInfo := pool [(2, .class_ 4), (1, u "java/lang/Object"), (0, u "<init>"), (0, u "()V"), (0, .class_ 8), (0, u "com/example/saltwake/saltwake/core/Chance"), (0, .methodref 7 10), (0, .nameAndType 5 11), (0, u "(J)V"), (0, .methodref 7 13), (0, .nameAndType 14 15), (0, u "nextLong"), (0, u "()J"), (0, .long 11400714819323198485), (1, .methodref 19 20), (0, .class_ 21), (0, .nameAndType 22 23), (0, u "com/example/saltwake/saltwake/core/ChanceNextLongPinLaw"), (0, u "unmix"), (0, u "(J)J"), (0, .long 3573116690164977347), (1, .long 10871156337175269513), (3, u "law"), (0, u "(J)Z")] 3

def k1m0 : Method := { name := "<init>", desc := "()V", sig := { parameters := [], returnType := none }, accessFlags := 1, code := none }
def k1c1 : Code := { maxStack := 6, maxLocals := 9, code := code, exceptionTable := #[], attributes := #[] }
def k1m1 : Method := { name := "law", desc := "(J)Z", sig := { parameters := [.long], returnType := some .boolean }, accessFlags := 9, code := some k1c1 }
def k1c2 : Code := { maxStack := 5, maxLocals := 4, code := method_3_code, exceptionTable := #[], attributes := #[] }
def k1m2 : Method := { name := "unmix", desc := "(J)J", sig := { parameters := [.long], returnType := some .long }, accessFlags := 10, code := some k1c2 }
/-- com/example/saltwake/saltwake/core/ChanceNextLongPinLaw -/
def k1 : Class := { plain "com/example/saltwake/saltwake/core/ChanceNextLongPinLaw" (some 0) with
  accessFlags := 49
  interfaces := #[]
  cf := some (fileOf pool1 19 #[] #[{ accessFlags := 1, nameIndex := 5, descriptorIndex := 6, attributes := #[] }, { accessFlags := 9, nameIndex := 30, descriptorIndex := 31, attributes := #[] }, { accessFlags := 10, nameIndex := 22, descriptorIndex := 23, attributes := #[] }] 49 2 #[] #[])
  fields := #[]
  methods := #[k1m0, k1m1, k1m2]
  instanceTypes := #[]
  staticTypes := #[]
  resolved := Array.replicate 35 none
  statics := none }

def pool2 : Array CpInfo := pool [(1, .methodref 2 3), (0, .class_ 4), (0, .nameAndType 5 6), (0, u "java/lang/Object"), (0, u "<init>"), (0, u "()V"), (0, .fieldref 8 9), (0, .class_ 10), (0, .nameAndType 11 12), (0, u "com/example/saltwake/saltwake/core/Chance"), (0, u "state"), (0, u "J"), (0, .long 11400714819323198485), (1, .long 13787848793156543929), (1, .long 10723151780598845931), (14, u "nextLong"), (0, u "()J"), (16, u "GOLDEN_GAMMA"), (1, u "TWO_TO_THE_32"), (0, u "(J)V")] 24

def k2c0 : Code := { maxStack := 3, maxLocals := 3, code := prog_1_method_1_code, exceptionTable := #[], attributes := #[] }
def k2m0 : Method := { name := "<init>", desc := "(J)V", sig := { parameters := [.long], returnType := none }, accessFlags := 1, code := some k2c0 }
def k2c1 : Code := { maxStack := 5, maxLocals := 3, code := prog_1_method_2_code, exceptionTable := #[], attributes := #[] }
def k2m1 : Method := { name := "nextLong", desc := "()J", sig := { parameters := [], returnType := some .long }, accessFlags := 1, code := some k2c1 }
/-- com/example/saltwake/saltwake/core/Chance -/
def k2 : Class := { plain "com/example/saltwake/saltwake/core/Chance" (some 0) with
  accessFlags := 49
  interfaces := #[]
  cf := some (fileOf pool2 8 #[] #[{ accessFlags := 1, nameIndex := 5, descriptorIndex := 53, attributes := #[] }, { accessFlags := 1, nameIndex := 32, descriptorIndex := 33, attributes := #[] }] 49 2 #[] #[{ accessFlags := 26, nameIndex := 50, descriptorIndex := 12, attributes := #[] }, { accessFlags := 26, nameIndex := 52, descriptorIndex := 12, attributes := #[] }, { accessFlags := 2, nameIndex := 11, descriptorIndex := 12, attributes := #[] }])
  fields := #[{ name := "GOLDEN_GAMMA", type := .long, accessFlags := 26, slot := 0, constantValue := 0 }, { name := "TWO_TO_THE_32", type := .long, accessFlags := 26, slot := 1, constantValue := 0 }, { name := "state", type := .long, accessFlags := 2, slot := 0, constantValue := 0 }]
  methods := #[k2m0, k2m1]
  instanceTypes := #[.long]
  staticTypes := #[.long, .long]
  resolved := Array.replicate 78 none
  statics := none }

def pool3 : Array CpInfo := pool [(1, u "java/lang/Cloneable"), (0, .class_ 1), (0, u "java/lang/Object"), (0, .class_ 3)] 3

/-- java/lang/Cloneable -/
def k3 : Class := { plain "java/lang/Cloneable" (some 0) with
  accessFlags := 1537
  interfaces := #[]
  cf := some (fileOf pool3 2 #[] #[] 1537 4 #[] #[])
  fields := #[]
  methods := #[]
  instanceTypes := #[]
  staticTypes := #[]
  resolved := Array.replicate 8 none
  statics := none }

def pool4 : Array CpInfo := pool [(1, u "java/io/Serializable"), (0, .class_ 1), (0, u "java/lang/Object"), (0, .class_ 3)] 3

/-- java/io/Serializable -/
def k4 : Class := { plain "java/io/Serializable" (some 0) with
  accessFlags := 1537
  interfaces := #[]
  cf := some (fileOf pool4 2 #[] #[] 1537 4 #[] #[])
  fields := #[]
  methods := #[]
  instanceTypes := #[]
  staticTypes := #[]
  resolved := Array.replicate 8 none
  statics := none }

/-- the primitive byte -/
def k5 : Class := { plain "byte" none with kind := .primitive 'B', accessFlags := 0x411 }
/-- [B -/
def k6 : Class := { plain "[B" (some 0) with kind := .array 5 .byte, interfaces := #[3, 4], accessFlags := 1041 }

/-- the primitive int -/
def k7 : Class := { plain "int" none with kind := .primitive 'I', accessFlags := 0x411 }
/-- [I -/
def k8 : Class := { plain "[I" (some 0) with kind := .array 7 .int, interfaces := #[3, 4], accessFlags := 1041 }

def heap : Heap := #[]
def classes : Array Class := #[k0, k1, k2, k3, k4, k5, k6, k7, k8]
def interned : List (Array UInt16 × Addr) := []
def slotsUsed : Nat := 0
def theMethod : MethodId := ⟨1, 1⟩
def args0 : Array Value := #[.long 5]
def aboutOver (below : List Frame) : State where
  vm := { classes := classes, interned := interned.toArray }
  heap := heap
  slotsUsed := slotsUsed
  threads := #[{ frames := .invoking theMethod args0 :: below }]
def below0 : List Frame := [.native { method := ⟨0, 0⟩, args := #[] }]
def about1 : State := aboutOver below0
def p0 : Program := .bare "" "" ""
def e0 : Env := launch0.env 0 0 0
theorem w_frames : about1.frames = Frame.invoking theMethod args0 :: below0 := rfl
set_option maxRecDepth 65536 in
theorem w_args : argsFit about1.vm theMethod args0 = true := by decide +kernel
set_option maxRecDepth 65536 in
theorem w_heap : heapFits about1 = true := by decide +kernel
set_option maxRecDepth 65536 in
theorem w_runnable : about1.curStatus? = some .runnable := by decide +kernel
set_option maxRecDepth 65536 in
theorem w_alone : about1.alone = true := by decide +kernel
set_option maxRecDepth 65536 in
theorem w_named : about1.methodNamed? x = some theMethod := by decide +kernel
set_option maxRecDepth 65536 in
theorem w_hears : about1.hears theMethod below0 = true := by decide +kernel
set_option maxRecDepth 65536 in
theorem w_ripe : about1.ripe theMethod args0 below0 = true := by decide +kernel
theorem w_running : about1.status = .running := rfl
set_option maxRecDepth 65536 in
theorem w_room : about1.hasRoom e0.platform room_1 = true :=
  launch0.hasRoom_least _ room_1 (by decide +kernel) (by decide +kernel) (by decide +kernel) (by decide +kernel) (by decide +kernel) (by decide +kernel)
theorem allAtoms_all (ts : List Jvm.Cond) (a : Array Jvm.Value) (st : Jvm.State) : (allAtoms ts).before a st = ts.all (fun c => c.before a st) := by
  induction ts with
  | nil => rfl
  | cons c t ih =>
    show (Jvm.Cond.and c (allAtoms t)).before a st = _
    rw [Jvm.Cond.before_and, ih, List.all_cons]
def words1 : List Jvm.Cond := Jvm.Cond.code x code maxLocals ret :: tables_1
/-- a 'code' word, met by the world's own term for the bytes: nothing is compared byte by byte -/
theorem code_word {y : MethodName} {bytes : ByteArray} {mx : Nat} {rt : Option FieldType} {a : Array Value} {s : State} {m : MethodId} {meth : Method} {c : Code} (h1 : s.methodNamed? y = some m) (h2 : s.vm.method? m = some meth) (h3 : meth.code = some c) (h4 : c.code = bytes)
    (h5 : (c.maxLocals == mx && c.exceptionTable.isEmpty && decide (c.maxStack ≤ mostOperands) && decide (meth.sig.returnType = rt) && !meth.locks && decide (parseMethodDescriptor y.desc = some meth.sig)) = true) : (Jvm.Cond.code y bytes mx rt).before a s = true := by
  simp only [Bool.and_eq_true, beq_iff_eq, Bool.not_eq_true', decide_eq_true_eq] at h5
  obtain ⟨⟨⟨⟨⟨g1, g2⟩, g3⟩, g4⟩, g5⟩, g6⟩ := h5
  simp [Cond.before, Cond.holds, Cond.value, h1, h2, h3, h4, g1, g2, g3, g4, g5, g6]
def isCode : Jvm.Cond → Bool
  | .code _ _ _ _ => true
  | _ => false
theorem all_split {L : List Jvm.Cond} {P : Jvm.Cond → Bool} (h1 : L.all (fun c => isCode c || P c) = true) (h2 : ∀ c ∈ L.filter isCode, P c = true) : L.all P = true := by
  refine List.all_eq_true.mpr fun c hc => ?_
  have h := List.all_eq_true.mp h1 c hc
  rcases Bool.eq_false_or_eq_true (isCode c) with hi | hi
  · exact h2 c (List.mem_filter.mpr ⟨hc, hi⟩)
  · simpa [hi] using h
set_option maxRecDepth 65536 in
theorem w_c0 : (Jvm.Cond.code x code maxLocals ret).before args0 about1 = true := code_word (m := ⟨1, 1⟩) (meth := k1m1) (c := k1c1) (by decide +kernel) rfl rfl rfl (by decide +kernel)
set_option maxRecDepth 65536 in
theorem w_c1 : (Jvm.Cond.code ({ cls := "com/example/saltwake/saltwake/core/Chance", name := "<init>", desc := "(J)V" } : Jvm.MethodName) prog_1_method_1_code (3 : Nat) (Option.none : Option Jvm.ClassFile.FieldType)).before args0 about1 = true := code_word (m := ⟨2, 0⟩) (meth := k2m0) (c := k2c0) (by decide +kernel) rfl rfl rfl (by decide +kernel)
set_option maxRecDepth 65536 in
theorem w_c2 : (Jvm.Cond.code ({ cls := "java/lang/Object", name := "<init>", desc := "()V" } : Jvm.MethodName) object_method_1_code (1 : Nat) (Option.none : Option Jvm.ClassFile.FieldType)).before args0 about1 = true := code_word (m := ⟨0, 0⟩) (meth := k0m0) (c := k0c0) (by decide +kernel) rfl rfl rfl (by decide +kernel)
set_option maxRecDepth 65536 in
theorem w_c3 : (Jvm.Cond.code ({ cls := "com/example/saltwake/saltwake/core/Chance", name := "nextLong", desc := "()J" } : Jvm.MethodName) prog_1_method_2_code (3 : Nat) (Option.some Jvm.ClassFile.FieldType.long)).before args0 about1 = true := code_word (m := ⟨2, 1⟩) (meth := k2m1) (c := k2c1) (by decide +kernel) rfl rfl rfl (by decide +kernel)
set_option maxRecDepth 65536 in
theorem w_c4 : (Jvm.Cond.code ({ cls := "com/example/saltwake/saltwake/core/ChanceNextLongPinLaw", name := "unmix", desc := "(J)J" } : Jvm.MethodName) method_3_code (4 : Nat) (Option.some Jvm.ClassFile.FieldType.long)).before args0 about1 = true := code_word (m := ⟨1, 2⟩) (meth := k1m2) (c := k1c2) (by decide +kernel) rfl rfl rfl (by decide +kernel)
def codes1 : List Jvm.Cond := [Jvm.Cond.code x code maxLocals ret, Jvm.Cond.code ({ cls := "com/example/saltwake/saltwake/core/Chance", name := "<init>", desc := "(J)V" } : Jvm.MethodName) prog_1_method_1_code (3 : Nat) (Option.none : Option Jvm.ClassFile.FieldType), Jvm.Cond.code ({ cls := "java/lang/Object", name := "<init>", desc := "()V" } : Jvm.MethodName) object_method_1_code (1 : Nat) (Option.none : Option Jvm.ClassFile.FieldType), Jvm.Cond.code ({ cls := "com/example/saltwake/saltwake/core/Chance", name := "nextLong", desc := "()J" } : Jvm.MethodName) prog_1_method_2_code (3 : Nat) (Option.some Jvm.ClassFile.FieldType.long), Jvm.Cond.code ({ cls := "com/example/saltwake/saltwake/core/ChanceNextLongPinLaw", name := "unmix", desc := "(J)J" } : Jvm.MethodName) method_3_code (4 : Nat) (Option.some Jvm.ClassFile.FieldType.long)]
set_option maxRecDepth 65536 in
theorem codes_eq : words1.filter isCode = codes1 := rfl
theorem w_codes : ∀ c ∈ words1.filter isCode, c.before args0 about1 = true := by
  rw [codes_eq]
  intro c hc
  simp only [codes1, List.mem_cons, List.not_mem_nil, or_false] at hc
  rcases hc with rfl | rfl | rfl | rfl | rfl
  · exact w_c0
  · exact w_c1
  · exact w_c2
  · exact w_c3
  · exact w_c4
set_option maxRecDepth 65536 in
theorem w_t1 : (words1.take 24).all (fun c => isCode c || c.before args0 about1) = true := by decide +kernel
set_option maxRecDepth 65536 in
theorem w_t2 : (words1.drop 24).all (fun c => isCode c || c.before args0 about1) = true := by decide +kernel
theorem w_tables : (allAtoms (Jvm.Cond.code x code maxLocals ret :: tables_1)).before args0 about1 = true := by
  rw [allAtoms_all]
  show words1.all (fun c => c.before args0 about1) = true
  refine all_split ?_ w_codes
  rw [← List.take_append_drop 24 words1, List.all_append, w_t1, w_t2]
  rfl
set_option maxRecDepth 65536 in
theorem w_case : (Jvm.Cond.and given_1 narrow_1).before args0 about1 = true := by decide +kernel
theorem w_applies : (headSpec (Jvm.Cond.code x code maxLocals ret :: tables_1) room_1).applies x e0.platform about1 = true :=
  (Spec.applies_iff w_frames).mpr ⟨w_running, w_runnable, w_alone, w_named, w_hears, w_ripe, w_room, w_tables⟩
theorem atStart : AtStart classFile x code maxLocals ret World_1 tables_1 room_1 Calls_1 rest_1 Pre_1 launch0 p0 e0 about1 theMethod args0 below0 :=
  ⟨lists_1, trivial, launch0.admits_env _ _ _, launch0.least_env, fairChoices_fair.cas, fairChoices_fair.clock, w_frames, w_args, w_heap, w_applies, trivial, trivial, w_case⟩
end start1
theorem witness_1 : WitnessClaimed_1 := ⟨start1.p0, start1.e0, start1.about1, start1.theMethod, start1.args0, start1.below0, start1.atStart⟩
end Jvm.Pilot.@@N@@
