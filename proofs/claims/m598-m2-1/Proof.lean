import JvmDerived
import JvmDerived.Pilot.@@N@@Statement
import JvmDerived.Pilot.@@N@@Code
set_option linter.unusedVariables false
set_option linter.unusedSimpArgs false
namespace Jvm.Pilot.@@N@@
open Jvm Jvm.ClassFile Sem Op Lib Jvm.Free Jvm.Stand Jvm.LawKit Jvm.RoadKit Bundle Jvm.Pilot.@@N@@.Jvm.D
/-! own: the walk's goal, read backwards -/
def Go (tb : Tables) (e : Env) (below : List Frame) (F : State → Outcome → Prop) (A : State) : Prop := ∃ t o, Steps tb e below A t ∧ F t o
def Fin (below : List Frame) (s : State) (Q : Option Value → Heap → List Loc → Prop) (k n : Nat) (t : State) (o : Outcome) : Prop := t.status = .running ∧ Ended t below o ∧ ∃ v L, o = .returned v ∧ Q v t.heap L ∧ FrameEnd s o t L k n
theorem go {tb : Tables} {e : Env} {below : List Frame} {F : State → Outcome → Prop} {A B : State} (st : ∀ t, Steps tb e below B t → Steps tb e below A t) (h : Go tb e below F B) : Go tb e below F A := by
  obtain ⟨t, o, h1, h2⟩ := h
  exact ⟨t, o, st t h1, h2⟩
theorem go_in {p : Program} {e : Env} {below : List Frame} {s s₁ : State} {Q : Option Value → Heap → List Loc → Prop} {k n : Nat} {A : State} (h : ∀ F : State → Outcome → Prop, (∀ t o, Fin below s Q k n t o → F t o) → Go p.tables e below F A) :
    ∃ t o, Steps p.tables e below A t ∧ t.status = .running ∧ Ended t below o ∧ ∃ v L, o = .returned v ∧ Q v t.heap L ∧ FrameEnd s o t L k n := by
  obtain ⟨t, o, h1, h2, h3, h4⟩ := h (Fin below s Q k n) (fun _ _ h => h)
  exact ⟨t, o, h1, h2, h3, h4⟩
theorem own_fld {s : State} {args : Array Value} {t : Term} {C n d : String} {a : Addr} {k : Int32} (ev : t.eval args s none [] s = some (.ref a)) (h : (Cond.eq (.field t C n d) (.int k)).value args s none s [] = some true) : Fld s s.heap a C n d (.int k) := Fld.start ((fld_at ev).symm.trans (eqv_i (Term.int_eval k) h))
def NSt (h : Heap) (x : Addr) : Prop := ∃ c : Cell, h[x]? = some c ∧ c.vm.isStatics = false
theorem own_sta_keep {Z : State} {h h' : Heap} {C n d : String} {v : Value} {ws : List Addr} (F : Sta Z h C n d v) (K : Keep h h' ws) (q : ∀ x ∈ ws, NSt h x) : Sta Z h' C n d v := by
  obtain ⟨cf, i, k, f, st, cell, h1, h2, h3, h4, h5, h6, h7⟩ := F
  refine ⟨cf, i, k, f, st, cell, h1, h2, h3, h4, K.2.1 _ _ h5 (fun z => ?_), h6, h7⟩
  obtain ⟨c, g1, g2⟩ := q _ z
  cases h5.symm.trans g1
  rw [h6] at g2; cases g2
end Jvm.Pilot.@@N@@
namespace Jvm.RoadKit
theorem Exa.ns {Z : State} {h : Heap} {a : Addr} {C : String} (F : Exa Z h a C) : Jvm.Pilot.@@N@@.NSt h a := by
  obtain ⟨c, _, h1, -, -, h4, -⟩ := F; exact ⟨c, h1, h4⟩
theorem Arv.ns {Z : State} {h : Heap} {a : Addr} {k : ClassId} {ty : ClassFile.FieldType} {z : Int32} {vs : List Value} {dv : Value} (F : Arv Z h a k ty z vs dv) : Jvm.Pilot.@@N@@.NSt h a := by
  obtain ⟨c, A, -⟩ := F; exact ⟨c, A.1, A.plain⟩
end Jvm.RoadKit
namespace Jvm.Pilot.@@N@@
open Jvm Jvm.ClassFile Sem Op Lib Jvm.Free Jvm.Stand Jvm.LawKit Jvm.RoadKit Bundle Jvm.Pilot.@@N@@.Jvm.D
theorem own_no {Z : State} {aw : Array Value} {X Y : String} {t : List String} {n : Nat} (hwc : ∀ w ∈ Cond.chainWords (X :: t), w.before aw Z = true) (wi : (Cond.instantiable Y n).before aw Z = true) (hn : Y ∉ X :: t) : ∃ c t, Z.vm.findClass X = some c ∧ Z.vm.findClass Y = some t ∧ Z.vm.assignable c t = false := by
  obtain ⟨cy, ky, hy1, hy2, hy3, hy4, -⟩ := Cond.instantiable_spec wi
  obtain ⟨cx, k, hx, -⟩ := Cond.chain_head hwc
  exact ⟨cx, cy, hx, hy1, Vm.notAssignable_of_chain hx hy1 hy2 hy3 (Bool.or_eq_false_iff.mp hy4).1 hwc hn⟩
theorem own_selp {Z s : State} {aw args : Array Value} {y : MethodName} {n : Nat} (hZ : Z.Warmed39 s.vm) (wi : (Cond.instantiable y.cls n).before aw Z = true) (wp : (Cond.privateMethod y).before aw Z = true) (wm : (Cond.instanceMethod y).before aw Z = true) (hy : y.cls ≠ "java/lang/invoke/MethodHandle" ∧ y.cls ≠ "java/lang/invoke/VarHandle") : (Cond.selects y.cls y y).before args s = true := by
  obtain ⟨c, k, h1, h2, -, h4, -⟩ := Cond.instantiable_spec (mvT (args := args) hZ wi)
  exact selects_self_of_private h1 h2 (Bool.or_eq_false_iff.mp h4).1 (Cond.privateMethod_at (mvP hZ wp (args := args))) (mvT hZ wm) hy
section Ends
variable {p : Program} {l : Launch} {e : Env} {R : Room} {s : State} {m : MethodId} {args : Array Value} {below : List Frame} {meth : Method} {c : Code} {T : State} {locs : List Loc} {cells slots : Nat} {F : State → Outcome → Prop} {Q : Option Value → Heap → List Loc → Prop} {k n : Nat} {pc : Nat} {Ls : Array Slot} {rest : List Value} {h : Heap}
/-- the end of a walk: what is returned, what the heap says -/
theorem go_end (X : Stand p l e R s m args below meth c T locs cells slots) (hlk : meth.locks = false) (hF : ∀ t o, Fin below s Q k n t o → F t o) (eT : T.heap = h) (hk : cells ≤ k) (hn : slots ≤ n) {v : Option Value} (hv : meth.sig.returnType = none → v = none) (hQ : Q v h locs) {A : State}
    (hs : ∀ fs, (∀ (f : JFrame) (acts : List Action), f.method = m → f.locked = none → f.entered = [] → (doReturn e (T.setTop f) acts v).1 = T.setFrames fs) → Steps p.tables e below A (T.setFrames fs)) : Go p.tables e below F A := by
  obtain ⟨fs, hr, hrun, hended, hW, hsame⟩ := X.leave (v := v) hv hlk
  subst eT
  exact ⟨_, _, hs fs hr, hF _ _ ⟨hrun, hended, _, _, rfl, hQ, ⟨_, rfl⟩, hW, hsame.mono hk hn⟩⟩
theorem end_void (X : Stand p l e R s m args below meth c T locs cells slots) (hx : p.tables.exec = Jvm.exec) (hlk : meth.locks = false) (hret : meth.sig.returnType = none) (hd : decode c.code pc = .ok (.return_, 1)) (hF : ∀ t o, Fin below s Q k n t o → F t o) (eT : T.heap = h) (hk : cells ≤ k) (hn : slots ≤ n) (hQ : Q none h locs) : Go p.tables e below F (T.setTop (mkF m pc Ls [])) :=
  go_end X hlk hF eT hk hn (fun _ => rfl) hQ fun fs hr => X.returnOut hx hret hd hr
theorem end_nar {z : Int32} {t : FieldType} (X : Stand p l e R s m args below meth c T locs cells slots) (hx : p.tables.exec = Jvm.exec) (hlk : meth.locks = false) (hret : meth.sig.returnType = some t) (ht : t = .boolean ∨ t = .byte ∨ t = .char ∨ t = .short) (hd : decode c.code pc = .ok (.ireturn, 1)) (hF : ∀ t o, Fin below s Q k n t o → F t o) (eT : T.heap = h) (hk : cells ≤ k) (hn : slots ≤ n) (hQ : Q (some (.int (nar t z))) h locs) : Go p.tables e below F (T.setTop (mkF m pc Ls (.int z :: rest))) :=
  go_end X hlk hF eT hk hn (fun h => by rw [hret] at h; cases h) hQ fun fs hr => retN X hx hret ht hd hr
theorem end_int {z : Int32} (X : Stand p l e R s m args below meth c T locs cells slots) (hx : p.tables.exec = Jvm.exec) (hlk : meth.locks = false) (hret : meth.sig.returnType = some .int) (hd : decode c.code pc = .ok (.ireturn, 1)) (hF : ∀ t o, Fin below s Q k n t o → F t o) (eT : T.heap = h) (hk : cells ≤ k) (hn : slots ≤ n) (hQ : Q (some (.int z)) h locs) : Go p.tables e below F (T.setTop (mkF m pc Ls (.int z :: rest))) :=
  go_end X hlk hF eT hk hn (fun h => by rw [hret] at h; cases h) hQ fun fs hr => retOut X hx hret rfl (Or.inl ⟨rfl, Or.inl rfl, _, rfl⟩) hd hr
theorem end_long {z : Int64} (X : Stand p l e R s m args below meth c T locs cells slots) (hx : p.tables.exec = Jvm.exec) (hlk : meth.locks = false) (hret : meth.sig.returnType = some .long) (hd : decode c.code pc = .ok (.lreturn, 1)) (hF : ∀ t o, Fin below s Q k n t o → F t o) (eT : T.heap = h) (hk : cells ≤ k) (hn : slots ≤ n) (hQ : Q (some (.long z)) h locs) : Go p.tables e below F (T.setTop (mkF m pc Ls (.long z :: rest))) :=
  go_end X hlk hF eT hk hn (fun h => by rw [hret] at h; cases h) hQ fun fs hr => retOut X hx hret rfl (Or.inr (Or.inl ⟨rfl, rfl, _, rfl⟩)) hd hr
theorem end_double {z : UInt64} (X : Stand p l e R s m args below meth c T locs cells slots) (hx : p.tables.exec = Jvm.exec) (hlk : meth.locks = false) (hret : meth.sig.returnType = some .double) (hd : decode c.code pc = .ok (.dreturn, 1)) (hF : ∀ t o, Fin below s Q k n t o → F t o) (eT : T.heap = h) (hk : cells ≤ k) (hn : slots ≤ n) (hQ : Q (some (.double z)) h locs) : Go p.tables e below F (T.setTop (mkF m pc Ls (.double z :: rest))) :=
  go_end X hlk hF eT hk hn (fun h => by rw [hret] at h; cases h) hQ fun fs hr => retOut X hx hret rfl (Or.inr (Or.inr (Or.inl ⟨rfl, rfl, _, rfl⟩))) hd hr
theorem end_ref {w : Value} {t : FieldType} (X : Stand p l e R s m args below meth c T locs cells slots) (hx : p.tables.exec = Jvm.exec) (hlk : meth.locks = false) (hret : meth.sig.returnType = some t) (ht : t.isReference = true) (hw : w.isRef = true) (hnr : narrow t w = w) (hd : decode c.code pc = .ok (.areturn, 1)) (hF : ∀ t o, Fin below s Q k n t o → F t o) (eT : T.heap = h) (hk : cells ≤ k) (hn : slots ≤ n) (hQ : Q (some w) h locs) : Go p.tables e below F (T.setTop (mkF m pc Ls (w :: rest))) :=
  go_end X hlk hF eT hk hn (fun h => by rw [hret] at h; cases h) hQ fun fs hr => retOut X hx hret hnr (Or.inr (Or.inr (Or.inr (Or.inr ⟨rfl, ht, hw⟩)))) hd hr
end Ends
open Jvm.FP Jvm.Free.Fl
theorem own_raw {p : Program} {l : Launch} {e : Env} {R : Room} {s : State} {m : MethodId} {args : Array Value} {below : List Frame} {meth : Method} {c : Code} {T : State} {locs : List Loc} {cells slots : Nat} {Z : State} {aw : Array Value} {h : Heap}
    (X : Stand p l e R s m args below meth c T locs cells slots) (hx : p.tables.exec = Jvm.exec) (hZ : Z.Warmed39 s.vm) {own : String} {index : Nat} (hown : s.vm.findClass own = some m.cls) (w1 : (Cond.methodLink own index Jvm.Free.NT.doubleBitsN).before aw Z = true) (w2 : (Cond.static Jvm.Free.NT.doubleBitsN).before aw Z = true) (w3 : (Cond.initialized "java/lang/Double").before aw Z = true) (w4 : (Cond.native Jvm.Free.NT.doubleBitsN).before aw Z = true)
    (eT : T.heap = h) {W : Nat} (hfr : 1 ≤ R.frames) (hlo : W + 15 ≤ R.locals) {g : JFrame} (hg : g.method = m) (hsize : g.locals.size = c.maxLocals) {b : UInt64} {rest : List Value} (hst : g.stack = .double b :: rest) (hW : 2 * g.monitorRoom + (rest.map fun v => v.category).sum ≤ W) (hd : decode c.code g.pc = .ok (.invokestatic index, 3)) :
    ∃ T', Stand p l e R s m args below meth c T' locs cells slots ∧ T'.heap = h ∧ ∀ target, Steps p.tables e below (T'.setTop { g with pc := g.pc + 3, stack := .long b.toInt64 :: rest }) target → Steps p.tables e below (T.setTop g) target := by
  have c4 : (Cond.native Jvm.Free.NT.doubleBitsN).before args s = true := mvT hZ w4
  have c2 : (Cond.static Jvm.Free.NT.doubleBitsN).before args s = true := mvT hZ w2
  obtain ⟨mk, methM, hnamed, hmethM, -, -, -, hsigM⟩ := Cond.native_spec c4
  obtain ⟨v, vm1, B, hW1, X', ⟨hB, hv⟩, st⟩ := Stand.staticBack (args := args) X hx hown (mvT hZ w1) c2 (mvT hZ w3) hnamed hmethM hsigM (by decide) (Jvm.Free.NT.DoubleBits.pays c4 c2 hfr hlo) hg hsize (Steps.refl _) (argsL := [.double b]) (rest := rest) (lenOf (d := "(D)J") (ps := [.double]) (r := some .long) (by decide +kernel) rfl) hst hW hd (fun vm1 _ => ⟨b, rfl⟩)
  have hv' := hv b rfl
  subst hv' hB
  exact ⟨_, X', eT, fun target k => st.trans k⟩
theorem own_nn0 : NoNaN64 (0 : UInt64) := by unfold NoNaN64; decide
theorem d1_0 : decode prog_78_method_1_code 0 = .ok (.aload_n 0, 1) := by decide +kernel
theorem d1_1 : decode prog_78_method_1_code 1 = .ok (.invokespecial 1, 3) := by decide +kernel
theorem d1_4 : decode prog_78_method_1_code 4 = .ok (.aload_n 0, 1) := by decide +kernel
theorem d1_5 : decode prog_78_method_1_code 5 = .ok (.iload_n 1, 1) := by decide +kernel
theorem d1_6 : decode prog_78_method_1_code 6 = .ok (.newarray .double, 2) := by decide +kernel
theorem d1_8 : decode prog_78_method_1_code 8 = .ok (.putfield 7, 3) := by decide +kernel
theorem d1_11 : decode prog_78_method_1_code 11 = .ok (.aload_n 0, 1) := by decide +kernel
theorem d1_12 : decode prog_78_method_1_code 12 = .ok (.iload_n 1, 1) := by decide +kernel
theorem d1_13 : decode prog_78_method_1_code 13 = .ok (.newarray .int, 2) := by decide +kernel
theorem d1_15 : decode prog_78_method_1_code 15 = .ok (.putfield 13, 3) := by decide +kernel
theorem d1_18 : decode prog_78_method_1_code 18 = .ok (.return_, 1) := by decide +kernel
theorem pn_1 : plainName "com/example/constrained_flow/constrainedflow/planner/search/LeastFirst" = true := by first | (simp [plainName, overriddenIn]; done) | decide +kernel
theorem ef_1 (m : MethodId) (a0 : Addr) : entryFrame m #[(.ref a0), (.int (3 : Int32))] 2 = mkF m 0 #[.val (.ref a0), .val (.int (3 : Int32))] [] := by first | (simp [entryFrame, mkF, argsToLocals, Value.category]; done) | rfl
abbrev room1 : Room := { frames := 1, cells := 2, slots := 6, locals := 12 }
def Q1 (Z : State) (a0 : Addr) (h0 : Heap) (n0 : Nat) (v : Option Value) (h : Heap) (L : List Loc) : Prop := ∃ b2 : Addr, ∃ k2 : ClassId, ∃ b4 : Addr, ∃ k4 : ClassId, v = none ∧ Fr n0 L ∧ Keep h0 h [a0] ∧ h0.size ≤ b2 ∧ h0.size ≤ b4 ∧ b2 ≠ b4 ∧ Fld Z h a0 "com/example/constrained_flow/constrainedflow/planner/search/LeastFirst" "size" "I" (.int (0 : Int32)) ∧ Exa Z h a0 "com/example/constrained_flow/constrainedflow/planner/search/LeastFirst" ∧ Fld Z h a0 "com/example/constrained_flow/constrainedflow/planner/search/LeastFirst" "keys" "[D" (.ref b2) ∧ Fld Z h a0 "com/example/constrained_flow/constrainedflow/planner/search/LeastFirst" "numbers" "[I" (.ref b4) ∧ Arv Z h b2 k2 .double (3 : Int32) [(.double (0 : UInt64)), (.double (0 : UInt64)), (.double (0 : UInt64))] (.double (0 : UInt64)) ∧ Arv Z h b4 k4 .int (3 : Int32) [(.int (0 : Int32)), (.int (0 : Int32)), (.int (0 : Int32))] (.int (0 : Int32))
set_option maxRecDepth 65536 in
set_option maxHeartbeats 40000000 in
theorem rm1 (l : Launch) (Z : State) (aw : Array Value) (hw : ∀ d ∈ tables_1, d.before aw Z = true) (ws : List Jvm.Cond) (a0 : Addr) (h0 : Heap) (n0 : Nat) (Z0 : n0 ≤ h0.size) (F_keys_a0 : Fld Z h0 a0 "com/example/constrained_flow/constrainedflow/planner/search/LeastFirst" "keys" "[D" .null) (F_numbers_a0 : Fld Z h0 a0 "com/example/constrained_flow/constrainedflow/planner/search/LeastFirst" "numbers" "[I" .null) (F_size_a0 : Fld Z h0 a0 "com/example/constrained_flow/constrainedflow/planner/search/LeastFirst" "size" "I" (.int (0 : Int32))) (E_a0 : Exa Z h0 a0 "com/example/constrained_flow/constrainedflow/planner/search/LeastFirst") (g_a0 : n0 ≤ a0) :
    MetFree l (⟨"com/example/constrained_flow/constrainedflow/planner/search/LeastFirst", "<init>", "(I)V"⟩ : MethodName) (head1 (Jvm.Cond.code (⟨"com/example/constrained_flow/constrainedflow/planner/search/LeastFirst", "<init>", "(I)V"⟩ : MethodName) prog_78_method_1_code 2 none :: ws) room1) (fun a U => a = #[(.ref a0), (.int (3 : Int32))] ∧ Z.Warmed39 U.vm ∧ U.heap = h0) (fun _ _ _ _ _ => True) (fun _ U o U' => ∃ v L, o = .returned v ∧ Q1 Z a0 h0 n0 v U'.heap L ∧ FrameEnd U o U' L room1.cells room1.slots) := by
  refine MetFree.of_bodySF (plainFor_of_name pn_1) hisR ?_
  intro p e s m args below meth c s₁ Bd hml0 hP hK
  obtain ⟨rfl, hZ, hh⟩ := hP
  have hx := Bd.exec
  have hby := Bd.bytes
  have hml : c.maxLocals = 2 := hml0
  have hown : s.vm.findClass "com/example/constrained_flow/constrainedflow/planner/search/LeastFirst" = some m.cls := findClass_of_methodNamed Bd.named
  have hnm := (name_of_methodNamed Bd.named Bd.method).1
  have X0 : Stand p l e room1 s m #[(.ref a0), (.int (3 : Int32))] below meth c s₁ [] 0 0 := Stand.of_body Bd
  have e0 : s₁.heap = h0 := by rw [← hh, Bd.state]; rfl
  have N0 := Fr.nil n0
  have K0 := Keep.refl h0 [a0]
  rw [ef_1 m a0]
  refine go_in (s₁ := s₁) (Q := Q1 Z a0 h0 n0) fun F hF => ?_
  refine go (B := s₁.setTop (mkF m 1 #[.val (.ref a0), .val (.int (3 : Int32))] [(.ref a0)])) (fun _ k => XS.aloadN X0.here hx rfl (hb hby d1_0) rfl rfl k) ?_
  obtain ⟨T1, X1, e1, st1⟩ := initO X0 hx hZ hown (hw _ (List.mem_of_getElem? (i := 6) rfl)) (hw _ (List.mem_of_getElem? (i := 7) rfl)) (hw _ (List.mem_of_getElem? (i := 8) rfl)) e0 (g := (mkF m 1 #[.val (.ref a0), .val (.int (3 : Int32))] [(.ref a0)])) rfl (by rw [hml]; rfl) rfl (hb hby d1_1) (by decide) (W := 0) (by show 2 * 0 + _ ≤ _; exact Nat.le_of_eq rfl) (by decide)
  refine go (B := T1.setTop (mkF m 4 #[.val (.ref a0), .val (.int (3 : Int32))] [])) st1 ?_
  refine go (B := T1.setTop (mkF m 5 #[.val (.ref a0), .val (.int (3 : Int32))] [(.ref a0)])) (fun _ k => XS.aloadN X1.here hx rfl (hb hby d1_4) rfl rfl k) ?_
  refine go (B := T1.setTop (mkF m 6 #[.val (.ref a0), .val (.int (3 : Int32))] [(.int (3 : Int32)), (.ref a0)])) (fun _ k => XS.iloadN X1.here hx rfl (hb hby d1_5) rfl k) ?_
  obtain ⟨T2, h2, k2, X2, e2, E2, A2, st2⟩ := newP X1 hx hZ (hw _ (List.mem_of_getElem? (i := 9) rfl)) e1 (g := (mkF m 6 #[.val (.ref a0), .val (.int (3 : Int32))] [(.int (3 : Int32)), (.ref a0)])) rfl (hb hby d1_6) rfl (by decide) (cap := 3) (by decide) (by decide) (by decide) (by decide)
  obtain ⟨b2, g2⟩ : ∃ z, z = h0.size := ⟨_, rfl⟩
  rw [← g2] at A2 st2
  have g_b2 : n0 ≤ b2 := Nat.le_trans Z0 (Nat.le_of_eq g2.symm)
  have sz_b2 : h0.size ≤ b2 := Nat.le_trans K0.1 (Nat.le_of_eq g2.symm)
  have ne_a0_b2 : a0 ≠ b2 := Nat.ne_of_lt (Nat.lt_of_lt_of_le F_keys_a0.lt (Nat.le_of_eq g2.symm))
  have F_keys_a0_2 := F_keys_a0.ext E2
  have F_numbers_a0_2 := F_numbers_a0.ext E2
  have F_size_a0_2 := F_size_a0.ext E2
  have E_a0_2 := E_a0.ext E2
  have Z2 := Nat.le_trans Z0 E2.1
  have K2 := K0.ext E2
  have V_b2 : Arv Z h2 b2 k2 .double (3 : Int32) [(.double (0 : UInt64)), (.double (0 : UInt64)), (.double (0 : UInt64))] (.double (0 : UInt64)) := (Arv.new A2 (by decide)).pad (pad_rep [] (.double (0 : UInt64)) 3)
  refine go (B := T2.setTop (mkF m 8 #[.val (.ref a0), .val (.int (3 : Int32))] [(.ref b2), (.ref a0)])) st2 ?_
  obtain ⟨T3, h3, X3, e3, W3, st3⟩ := putF X2 hx hZ hown (host := "") (Or.inl (hw _ (List.mem_of_getElem? (i := 10) rfl))) Via.refl e2 F_keys_a0_2 E_a0_2 (Or.inr ⟨(hw _ (List.mem_of_getElem? (i := 11) rfl)), rfl, hnm⟩) (hw _ (List.mem_of_getElem? (i := 1) rfl)) (ty := (.array .double)) (by decide) rfl rfl (g := (mkF m 8 #[.val (.ref a0), .val (.int (3 : Int32))] [(.ref b2), (.ref a0)])) rfl rfl (hb hby d1_8)
  have F_numbers_a0_3 := Fld.other W3 F_numbers_a0_2 (Or.inr (slot_ne (Or.inr (hw _ (List.mem_of_getElem? (i := 14) rfl))) (Or.inr (hw _ (List.mem_of_getElem? (i := 11) rfl))) (by decide) (t := (.array .int)) (t' := (.array .double)) (by decide) (by decide)))
  have F_size_a0_3 := Fld.other W3 F_size_a0_2 (Or.inr (slot_ne (Or.inl (hw _ (List.mem_of_getElem? (i := 21) rfl))) (Or.inr (hw _ (List.mem_of_getElem? (i := 11) rfl))) (by decide) (t := .int) (t' := (.array .double)) (by decide) (by decide)))
  have E_a0_3 := E_a0_2.wr W3
  have V_b2_3 := V_b2.other W3 (Ne.symm ne_a0_b2)
  have F_keys_a0_3 := Fld.same W3 F_keys_a0_2
  have Z3 := Nat.le_trans Z2 (Keep.of_wr W3).1
  have K3 := K2.wr W3 (Or.inl (List.mem_of_getElem? (i := 0) rfl))
  have N3 := Fr.snoc X3 N0 g_a0
  refine go (B := T3.setTop (mkF m 11 #[.val (.ref a0), .val (.int (3 : Int32))] [])) st3 ?_
  refine go (B := T3.setTop (mkF m 12 #[.val (.ref a0), .val (.int (3 : Int32))] [(.ref a0)])) (fun _ k => XS.aloadN X3.here hx rfl (hb hby d1_11) rfl rfl k) ?_
  refine go (B := T3.setTop (mkF m 13 #[.val (.ref a0), .val (.int (3 : Int32))] [(.int (3 : Int32)), (.ref a0)])) (fun _ k => XS.iloadN X3.here hx rfl (hb hby d1_12) rfl k) ?_
  obtain ⟨T4, h4, k4, X4, e4, E4, A4, st4⟩ := newP X3 hx hZ (hw _ (List.mem_of_getElem? (i := 12) rfl)) e3 (g := (mkF m 13 #[.val (.ref a0), .val (.int (3 : Int32))] [(.int (3 : Int32)), (.ref a0)])) rfl (hb hby d1_13) rfl (by decide) (cap := 3) (by decide) (by decide) (by decide) (by decide)
  obtain ⟨b4, g4⟩ : ∃ z, z = h3.size := ⟨_, rfl⟩
  rw [← g4] at A4 st4
  have g_b4 : n0 ≤ b4 := Nat.le_trans Z3 (Nat.le_of_eq g4.symm)
  have sz_b4 : h0.size ≤ b4 := Nat.le_trans K3.1 (Nat.le_of_eq g4.symm)
  have ne_a0_b4 : a0 ≠ b4 := Nat.ne_of_lt (Nat.lt_of_lt_of_le F_numbers_a0_3.lt (Nat.le_of_eq g4.symm))
  have ne_b2_b4 : b2 ≠ b4 := Nat.ne_of_lt (Nat.lt_of_lt_of_le V_b2_3.lt (Nat.le_of_eq g4.symm))
  have F_numbers_a0_4 := F_numbers_a0_3.ext E4
  have F_size_a0_4 := F_size_a0_3.ext E4
  have E_a0_4 := E_a0_3.ext E4
  have V_b2_4 := V_b2_3.ext E4
  have F_keys_a0_4 := F_keys_a0_3.ext E4
  have Z4 := Nat.le_trans Z3 E4.1
  have K4 := K3.ext E4
  have V_b4 : Arv Z h4 b4 k4 .int (3 : Int32) [(.int (0 : Int32)), (.int (0 : Int32)), (.int (0 : Int32))] (.int (0 : Int32)) := (Arv.new A4 (by decide)).pad (pad_rep [] (.int (0 : Int32)) 3)
  refine go (B := T4.setTop (mkF m 15 #[.val (.ref a0), .val (.int (3 : Int32))] [(.ref b4), (.ref a0)])) st4 ?_
  obtain ⟨T5, h5, X5, e5, W5, st5⟩ := putF X4 hx hZ hown (host := "") (Or.inl (hw _ (List.mem_of_getElem? (i := 13) rfl))) Via.refl e4 F_numbers_a0_4 E_a0_4 (Or.inr ⟨(hw _ (List.mem_of_getElem? (i := 14) rfl)), rfl, hnm⟩) (hw _ (List.mem_of_getElem? (i := 1) rfl)) (ty := (.array .int)) (by decide) rfl rfl (g := (mkF m 15 #[.val (.ref a0), .val (.int (3 : Int32))] [(.ref b4), (.ref a0)])) rfl rfl (hb hby d1_15)
  have F_size_a0_5 := Fld.other W5 F_size_a0_4 (Or.inr (slot_ne (Or.inl (hw _ (List.mem_of_getElem? (i := 21) rfl))) (Or.inr (hw _ (List.mem_of_getElem? (i := 14) rfl))) (by decide) (t := .int) (t' := (.array .int)) (by decide) (by decide)))
  have E_a0_5 := E_a0_4.wr W5
  have V_b2_5 := V_b2_4.other W5 (Ne.symm ne_a0_b2)
  have F_keys_a0_5 := Fld.other W5 F_keys_a0_4 (Or.inr (slot_ne (Or.inr (hw _ (List.mem_of_getElem? (i := 11) rfl))) (Or.inr (hw _ (List.mem_of_getElem? (i := 14) rfl))) (by decide) (t := (.array .double)) (t' := (.array .int)) (by decide) (by decide)))
  have V_b4_5 := V_b4.other W5 (Ne.symm ne_a0_b4)
  have F_numbers_a0_5 := Fld.same W5 F_numbers_a0_4
  have Z5 := Nat.le_trans Z4 (Keep.of_wr W5).1
  have K5 := K4.wr W5 (Or.inl (List.mem_of_getElem? (i := 0) rfl))
  have N5 := Fr.snoc X5 N3 g_a0
  refine go (B := T5.setTop (mkF m 18 #[.val (.ref a0), .val (.int (3 : Int32))] [])) st5 ?_
  exact end_void X5 hx Bd.notSynchronized Bd.returns (hb hby d1_18) hF e5 (by decide) (by decide) ⟨b2, k2, b4, k4, rfl, N5, K5, sz_b2, sz_b4, ne_b2_b4, F_size_a0_5, E_a0_5, F_keys_a0_5, F_numbers_a0_5, V_b2_5, V_b4_5⟩
theorem d3_0 : decode prog_78_method_2_code 0 = .ok (.aload_n 0, 1) := by decide +kernel
theorem d3_1 : decode prog_78_method_2_code 1 = .ok (.getfield 17, 3) := by decide +kernel
theorem d3_4 : decode prog_78_method_2_code 4 = .ok (.ifCond .ne 7, 3) := by decide +kernel
theorem d3_7 : decode prog_78_method_2_code 7 = .ok (.iconst 1, 1) := by decide +kernel
theorem d3_8 : decode prog_78_method_2_code 8 = .ok (.goto 4, 3) := by decide +kernel
theorem d3_11 : decode prog_78_method_2_code 11 = .ok (.iconst 0, 1) := by decide +kernel
theorem d3_12 : decode prog_78_method_2_code 12 = .ok (.ireturn, 1) := by decide +kernel
theorem ef_3 (m : MethodId) (a0 : Addr) : entryFrame m #[(.ref a0)] 1 = mkF m 0 #[.val (.ref a0)] [] := by first | (simp [entryFrame, mkF, argsToLocals, Value.category]; done) | rfl
def f3 (w_size_a0 : Int32) : Int32 := if w_size_a0 = (0 : Int32) then (1 : Int32) else (0 : Int32)
abbrev room3 : Room := { frames := 0, cells := 0, slots := 0, locals := 0 }
def Q3 (Z : State) (a0 : Addr) (w_size_a0 : Int32) (h0 : Heap) (n0 : Nat) (v : Option Value) (h : Heap) (L : List Loc) : Prop := v = some (.int (f3 w_size_a0)) ∧ L = [] ∧ h = h0
set_option maxRecDepth 65536 in
set_option maxHeartbeats 40000000 in
theorem rm3 (l : Launch) (Z : State) (aw : Array Value) (hw : ∀ d ∈ tables_1, d.before aw Z = true) (ws : List Jvm.Cond) (a0 : Addr) (w_size_a0 : Int32) (h0 : Heap) (n0 : Nat) (Z0 : n0 ≤ h0.size) (F_size_a0 : Fld Z h0 a0 "com/example/constrained_flow/constrainedflow/planner/search/LeastFirst" "size" "I" (.int w_size_a0)) :
    MetFree l (⟨"com/example/constrained_flow/constrainedflow/planner/search/LeastFirst", "isEmpty", "()Z"⟩ : MethodName) (head1 (Jvm.Cond.code (⟨"com/example/constrained_flow/constrainedflow/planner/search/LeastFirst", "isEmpty", "()Z"⟩ : MethodName) prog_78_method_2_code 1 (some .boolean) :: ws) room3) (fun a U => a = #[(.ref a0)] ∧ Z.Warmed39 U.vm ∧ U.heap = h0) (fun _ _ _ _ _ => True) (fun _ U o U' => ∃ v L, o = .returned v ∧ Q3 Z a0 w_size_a0 h0 n0 v U'.heap L ∧ FrameEnd U o U' L room3.cells room3.slots) := by
  refine MetFree.of_bodySF (plainFor_of_name pn_1) hisR ?_
  intro p e s m args below meth c s₁ Bd hml0 hP hK
  obtain ⟨rfl, hZ, hh⟩ := hP
  have hx := Bd.exec
  have hby := Bd.bytes
  have hml : c.maxLocals = 1 := hml0
  have hown : s.vm.findClass "com/example/constrained_flow/constrainedflow/planner/search/LeastFirst" = some m.cls := findClass_of_methodNamed Bd.named
  have hnm := (name_of_methodNamed Bd.named Bd.method).1
  have X0 : Stand p l e room3 s m #[(.ref a0)] below meth c s₁ [] 0 0 := Stand.of_body Bd
  have e0 : s₁.heap = h0 := by rw [← hh, Bd.state]; rfl
  have N0 := Fr.nil n0
  rw [ef_3 m a0]
  refine go_in (s₁ := s₁) (Q := Q3 Z a0 w_size_a0 h0 n0) fun F hF => ?_
  refine go (B := s₁.setTop (mkF m 1 #[.val (.ref a0)] [(.ref a0)])) (fun _ k => XS.aloadN X0.here hx rfl (hb hby d3_0) rfl rfl k) ?_
  obtain ⟨T1, X1, e1, st1⟩ := getF X0 hx hZ hown (host := "") (Or.inl (hw _ (List.mem_of_getElem? (i := 20) rfl))) Via.refl e0 F_size_a0 (g := (mkF m 1 #[.val (.ref a0)] [(.ref a0)])) rfl rfl (hb hby d3_1)
  refine go (B := T1.setTop (mkF m 4 #[.val (.ref a0)] [(.int w_size_a0)])) st1 ?_
  by_cases hc2 : w_size_a0 = (0 : Int32)
  · refine go (B := T1.setTop (mkF m 7 #[.val (.ref a0)] [])) (fun _ k => XS.ifNo X1.here hx rfl (hb hby d3_4) rfl ((if0 _ _).trans (teq hc2).2) k) ?_
    refine go (B := T1.setTop (mkF m 8 #[.val (.ref a0)] [(.int (1 : Int32))])) (fun _ k => XS.iconst X1.here hx rfl (hb hby d3_7) k) ?_
    refine go (B := T1.setTop (mkF m 12 #[.val (.ref a0)] [(.int (1 : Int32))])) (fun _ k => XS.goto X1.here hx rfl (pc0 := 8) (pc' := 12) rfl (hb hby d3_8) (by decide) (by decide) k) ?_
    have r3 : (f3 w_size_a0) = (1 : Int32) := by unfold f3; rw [if_pos hc2]
    exact end_nar X1 hx Bd.notSynchronized (t := .boolean) Bd.returns (by simp) (hb hby d3_12) hF e1 (by decide) (by decide) ⟨(congrArg (fun z => some (Value.int z)) r3.symm), rfl, rfl⟩
  · refine go (B := T1.setTop (mkF m 11 #[.val (.ref a0)] [])) (fun _ k => XS.ifYes X1.here hx rfl (pc0 := 4) (pc' := 11) rfl (hb hby d3_4) rfl ((if0 _ _).trans (feq hc2).2) (by decide) (by decide) k) ?_
    refine go (B := T1.setTop (mkF m 12 #[.val (.ref a0)] [(.int (0 : Int32))])) (fun _ k => XS.iconst X1.here hx rfl (hb hby d3_11) k) ?_
    have r4 : (f3 w_size_a0) = (0 : Int32) := by unfold f3; rw [if_neg hc2]
    exact end_nar X1 hx Bd.notSynchronized (t := .boolean) Bd.returns (by simp) (hb hby d3_12) hF e1 (by decide) (by decide) ⟨(congrArg (fun z => some (Value.int z)) r4.symm), rfl, rfl⟩
theorem d9_0 : decode jdk_117_method_6_code 0 = .ok (.dload_n 0, 1) := by decide +kernel
theorem d9_1 : decode jdk_117_method_6_code 1 = .ok (.dload_n 0, 1) := by decide +kernel
theorem d9_2 : decode jdk_117_method_6_code 2 = .ok (.dcmp .l, 1) := by decide +kernel
theorem d9_3 : decode jdk_117_method_6_code 3 = .ok (.ifCond .eq 7, 3) := by decide +kernel
theorem d9_6 : decode jdk_117_method_6_code 6 = .ok (.iconst 1, 1) := by decide +kernel
theorem d9_7 : decode jdk_117_method_6_code 7 = .ok (.goto 4, 3) := by decide +kernel
theorem d9_10 : decode jdk_117_method_6_code 10 = .ok (.iconst 0, 1) := by decide +kernel
theorem d9_11 : decode jdk_117_method_6_code 11 = .ok (.ireturn, 1) := by decide +kernel
theorem pn_9 : plainName "java/lang/Double" = true := by first | (simp [plainName, overriddenIn]; done) | decide +kernel
theorem ef_9 (m : MethodId) (r0 : UInt64) : entryFrame m #[(.double r0)] 2 = mkF m 0 #[.val (.double r0), .second] [] := by first | (simp [entryFrame, mkF, argsToLocals, Value.category]; done) | rfl
def f9 (r0 : UInt64) : Int32 := if (cmpValue (FP.dcmp r0 r0) .l) = (0 : Int32) then (0 : Int32) else (1 : Int32)
abbrev room9 : Room := { frames := 0, cells := 0, slots := 0, locals := 0 }
def Q9 (Z : State) (r0 : UInt64) (h0 : Heap) (n0 : Nat) (v : Option Value) (h : Heap) (L : List Loc) : Prop := v = some (.int (f9 r0)) ∧ L = [] ∧ h = h0
set_option maxRecDepth 65536 in
set_option maxHeartbeats 40000000 in
theorem rm9 (l : Launch) (Z : State) (aw : Array Value) (hw : ∀ d ∈ tables_1, d.before aw Z = true) (ws : List Jvm.Cond) (r0 : UInt64) (h0 : Heap) (n0 : Nat) (Z0 : n0 ≤ h0.size) :
    MetFree l (⟨"java/lang/Double", "isNaN", "(D)Z"⟩ : MethodName) (head1 (Jvm.Cond.code (⟨"java/lang/Double", "isNaN", "(D)Z"⟩ : MethodName) jdk_117_method_6_code 2 (some .boolean) :: ws) room9) (fun a U => a = #[(.double r0)] ∧ Z.Warmed39 U.vm ∧ U.heap = h0) (fun _ _ _ _ _ => True) (fun _ U o U' => ∃ v L, o = .returned v ∧ Q9 Z r0 h0 n0 v U'.heap L ∧ FrameEnd U o U' L room9.cells room9.slots) := by
  refine MetFree.of_bodySF (plainFor_of_name pn_9) hisR ?_
  intro p e s m args below meth c s₁ Bd hml0 hP hK
  obtain ⟨rfl, hZ, hh⟩ := hP
  have hx := Bd.exec
  have hby := Bd.bytes
  have hml : c.maxLocals = 2 := hml0
  have hown : s.vm.findClass "java/lang/Double" = some m.cls := findClass_of_methodNamed Bd.named
  have hnm := (name_of_methodNamed Bd.named Bd.method).1
  have X0 : Stand p l e room9 s m #[(.double r0)] below meth c s₁ [] 0 0 := Stand.of_body Bd
  have e0 : s₁.heap = h0 := by rw [← hh, Bd.state]; rfl
  have N0 := Fr.nil n0
  rw [ef_9 m r0]
  refine go_in (s₁ := s₁) (Q := Q9 Z r0 h0 n0) fun F hF => ?_
  refine go (B := s₁.setTop (mkF m 1 #[.val (.double r0), .second] [(.double r0)])) (fun _ k => XS.dloadN X0.here hx rfl (hb hby d9_0) rfl k) ?_
  refine go (B := s₁.setTop (mkF m 2 #[.val (.double r0), .second] [(.double r0), (.double r0)])) (fun _ k => XS.dloadN X0.here hx rfl (hb hby d9_1) rfl k) ?_
  refine go (B := s₁.setTop (mkF m 3 #[.val (.double r0), .second] [(.int (cmpValue (FP.dcmp r0 r0) .l))])) (fun _ k => XS.dcmpS X0.here hx rfl (hb hby d9_2) rfl rfl k) ?_
  by_cases hc1 : (cmpValue (FP.dcmp r0 r0) .l) = (0 : Int32)
  · refine go (B := s₁.setTop (mkF m 10 #[.val (.double r0), .second] [])) (fun _ k => XS.ifYes X0.here hx rfl (pc0 := 3) (pc' := 10) rfl (hb hby d9_3) rfl ((if0 _ _).trans (teq hc1).1) (by decide) (by decide) k) ?_
    refine go (B := s₁.setTop (mkF m 11 #[.val (.double r0), .second] [(.int (0 : Int32))])) (fun _ k => XS.iconst X0.here hx rfl (hb hby d9_10) k) ?_
    have r2 : (f9 r0) = (0 : Int32) := by unfold f9; rw [if_pos hc1]
    exact end_nar X0 hx Bd.notSynchronized (t := .boolean) Bd.returns (by simp) (hb hby d9_11) hF e0 (by decide) (by decide) ⟨(congrArg (fun z => some (Value.int z)) r2.symm), rfl, rfl⟩
  · refine go (B := s₁.setTop (mkF m 6 #[.val (.double r0), .second] [])) (fun _ k => XS.ifNo X0.here hx rfl (hb hby d9_3) rfl ((if0 _ _).trans (feq hc1).1) k) ?_
    refine go (B := s₁.setTop (mkF m 7 #[.val (.double r0), .second] [(.int (1 : Int32))])) (fun _ k => XS.iconst X0.here hx rfl (hb hby d9_6) k) ?_
    refine go (B := s₁.setTop (mkF m 11 #[.val (.double r0), .second] [(.int (1 : Int32))])) (fun _ k => XS.goto X0.here hx rfl (pc0 := 7) (pc' := 11) rfl (hb hby d9_7) (by decide) (by decide) k) ?_
    have r3 : (f9 r0) = (1 : Int32) := by unfold f9; rw [if_neg hc1]
    exact end_nar X0 hx Bd.notSynchronized (t := .boolean) Bd.returns (by simp) (hb hby d9_11) hF e0 (by decide) (by decide) ⟨(congrArg (fun z => some (Value.int z)) r3.symm), rfl, rfl⟩
theorem pd_0 : parseMethodDescriptor "(D)Z" = some ⟨[.double], some .boolean⟩ := by decide +kernel
theorem d8_0 : decode jdk_117_method_23_code 0 = .ok (.dload_n 0, 1) := by decide +kernel
theorem d8_1 : decode jdk_117_method_23_code 1 = .ok (.invokestatic 122, 3) := by decide +kernel
theorem d8_4 : decode jdk_117_method_23_code 4 = .ok (.ifCond .ne 8, 3) := by decide +kernel
theorem d8_7 : decode jdk_117_method_23_code 7 = .ok (.dload_n 0, 1) := by decide +kernel
theorem d8_8 : decode jdk_117_method_23_code 8 = .ok (.invokestatic 134, 3) := by decide +kernel
theorem d8_11 : decode jdk_117_method_23_code 11 = .ok (.lreturn, 1) := by decide +kernel
theorem ef_8 (m : MethodId) (r0 : UInt64) : entryFrame m #[(.double r0)] 2 = mkF m 0 #[.val (.double r0), .second] [] := by first | (simp [entryFrame, mkF, argsToLocals, Value.category]; done) | rfl
def f8 (r0 : UInt64) : Int64 := (r0.toInt64)
abbrev room8 : Room := { frames := 1, cells := 0, slots := 0, locals := 15 }
def Q8 (Z : State) (r0 : UInt64) (h0 : Heap) (n0 : Nat) (v : Option Value) (h : Heap) (L : List Loc) : Prop := v = some (.long (f8 r0)) ∧ L = [] ∧ h = h0
set_option maxRecDepth 65536 in
set_option maxHeartbeats 40000000 in
theorem rm8 (l : Launch) (Z : State) (aw : Array Value) (hw : ∀ d ∈ tables_1, d.before aw Z = true) (ws : List Jvm.Cond) (r0 : UInt64) (h0 : Heap) (n0 : Nat) (Z0 : n0 ≤ h0.size) (ha0 : (f9 r0) = (0 : Int32)) :
    MetFree l (⟨"java/lang/Double", "doubleToLongBits", "(D)J"⟩ : MethodName) (head1 (Jvm.Cond.code (⟨"java/lang/Double", "doubleToLongBits", "(D)J"⟩ : MethodName) jdk_117_method_23_code 2 (some .long) :: ws) room8) (fun a U => a = #[(.double r0)] ∧ Z.Warmed39 U.vm ∧ U.heap = h0) (fun _ _ _ _ _ => True) (fun _ U o U' => ∃ v L, o = .returned v ∧ Q8 Z r0 h0 n0 v U'.heap L ∧ FrameEnd U o U' L room8.cells room8.slots) := by
  refine MetFree.of_bodySF (plainFor_of_name pn_9) hisR ?_
  intro p e s m args below meth c s₁ Bd hml0 hP hK
  obtain ⟨rfl, hZ, hh⟩ := hP
  have hx := Bd.exec
  have hby := Bd.bytes
  have hml : c.maxLocals = 2 := hml0
  have hown : s.vm.findClass "java/lang/Double" = some m.cls := findClass_of_methodNamed Bd.named
  have hnm := (name_of_methodNamed Bd.named Bd.method).1
  have X0 : Stand p l e room8 s m #[(.double r0)] below meth c s₁ [] 0 0 := Stand.of_body Bd
  have e0 : s₁.heap = h0 := by rw [← hh, Bd.state]; rfl
  have N0 := Fr.nil n0
  rw [ef_8 m r0]
  refine go_in (s₁ := s₁) (Q := Q8 Z r0 h0 n0) fun F hF => ?_
  refine go (B := s₁.setTop (mkF m 1 #[.val (.double r0), .second] [(.double r0)])) (fun _ k => XS.dloadN X0.here hx rfl (hb hby d8_0) rfl k) ?_
  obtain ⟨_, _, ⟨T1, L1, k1, n1⟩, -, X1, ⟨Lc1, hQ1, l1, y1, z1⟩, st1⟩ := Jvm.LawKit.callS X0 hx (y := (⟨"java/lang/Double", "isNaN", "(D)Z"⟩ : MethodName)) hown (mvT hZ (hw _ (List.mem_of_getElem? (i := 43) rfl))) (mvT hZ (hw _ (List.mem_of_getElem? (i := 44) rfl))) (mvT hZ (hw _ (List.mem_of_getElem? (i := 33) rfl))) (mvT hZ (hw _ (List.mem_of_getElem? (i := 45) rfl))) (by decide) (backOf (W := 0) (rm9 l Z aw hw [] r0 h0 n0 Z0 ) hZ (hw _ (List.mem_of_getElem? (i := 45) rfl)) (hw _ (List.mem_of_getElem? (i := 33) rfl)) (by decide) (by decide)) (g := (mkF m 1 #[.val (.double r0), .second] [(.double r0)])) rfl (by rw [hml]; rfl) (argsL := [(.double r0)]) (rest := []) (lenOf pd_0 rfl) rfl (by show 2 * 0 + _ ≤ _; exact Nat.le_of_eq rfl) (hb hby d8_1) (fun _ _ => ⟨rfl, e0, (by decide : 0 + 0 ≤ _), (by decide : 0 + 0 ≤ _)⟩)
  dsimp only [Pt.U, Pt.locs, Pt.cells, Pt.slots] at X1 l1 y1 z1 st1 hQ1
  subst l1 y1 z1
  obtain ⟨rfl, rfl, e1⟩ := hQ1
  refine go (B := T1.setTop (mkF m 4 #[.val (.double r0), .second] [(.int (f9 r0))])) (fun _ k => st1 _ k) ?_
  refine go (B := T1.setTop (mkF m 7 #[.val (.double r0), .second] [])) (fun _ k => XS.ifNo X1.here hx rfl (hb hby d8_4) rfl ((if0 _ _).trans (teq ha0).2) k) ?_
  refine go (B := T1.setTop (mkF m 8 #[.val (.double r0), .second] [(.double r0)])) (fun _ k => XS.dloadN X1.here hx rfl (hb hby d8_7) rfl k) ?_
  obtain ⟨T2, X2, e2, st2⟩ := own_raw X1 hx hZ hown (hw _ (List.mem_of_getElem? (i := 46) rfl)) (hw _ (List.mem_of_getElem? (i := 47) rfl)) (hw _ (List.mem_of_getElem? (i := 33) rfl)) (hw _ (List.mem_of_getElem? (i := 48) rfl)) e1 (W := 0) (by decide) (by decide) (g := (mkF m 8 #[.val (.double r0), .second] [(.double r0)])) rfl (by rw [hml]; rfl) rfl (by show 2 * 0 + _ ≤ _; exact Nat.le_of_eq rfl) (hb hby d8_8)
  refine go (B := T2.setTop (mkF m 11 #[.val (.double r0), .second] [(.long (r0.toInt64))])) st2 ?_
  have r3 : (f8 r0) = (r0.toInt64) := by unfold f8; rfl
  exact end_long X2 hx Bd.notSynchronized Bd.returns (hb hby d8_11) hF e2 (by decide) (by decide) ⟨(congrArg (fun z => some (Value.long z)) r3.symm), rfl, rfl⟩
theorem own_nan {x : UInt64} (h : NoNaN64 x) : f9 x = (0 : Int32) := by
  unfold f9; rw [dcmpV_self h .l, if_pos rfl]
theorem pd_1 : parseMethodDescriptor "(D)J" = some ⟨[.double], some .long⟩ := by decide +kernel
theorem d6_0 : decode jdk_117_method_27_code 0 = .ok (.dload_n 0, 1) := by decide +kernel
theorem d6_1 : decode jdk_117_method_27_code 1 = .ok (.dload_n 2, 1) := by decide +kernel
theorem d6_2 : decode jdk_117_method_27_code 2 = .ok (.dcmp .g, 1) := by decide +kernel
theorem d6_3 : decode jdk_117_method_27_code 3 = .ok (.ifCond .ge 5, 3) := by decide +kernel
theorem d6_6 : decode jdk_117_method_27_code 6 = .ok (.iconst (-1), 1) := by decide +kernel
theorem d6_7 : decode jdk_117_method_27_code 7 = .ok (.ireturn, 1) := by decide +kernel
theorem d6_8 : decode jdk_117_method_27_code 8 = .ok (.dload_n 0, 1) := by decide +kernel
theorem d6_9 : decode jdk_117_method_27_code 9 = .ok (.dload_n 2, 1) := by decide +kernel
theorem d6_10 : decode jdk_117_method_27_code 10 = .ok (.dcmp .l, 1) := by decide +kernel
theorem d6_11 : decode jdk_117_method_27_code 11 = .ok (.ifCond .le 5, 3) := by decide +kernel
theorem d6_14 : decode jdk_117_method_27_code 14 = .ok (.iconst 1, 1) := by decide +kernel
theorem d6_15 : decode jdk_117_method_27_code 15 = .ok (.ireturn, 1) := by decide +kernel
theorem d6_16 : decode jdk_117_method_27_code 16 = .ok (.dload_n 0, 1) := by decide +kernel
theorem d6_17 : decode jdk_117_method_27_code 17 = .ok (.invokestatic 46, 3) := by decide +kernel
theorem d6_20 : decode jdk_117_method_27_code 20 = .ok (.lstore 4, 2) := by decide +kernel
theorem d6_22 : decode jdk_117_method_27_code 22 = .ok (.dload_n 2, 1) := by decide +kernel
theorem d6_23 : decode jdk_117_method_27_code 23 = .ok (.invokestatic 46, 3) := by decide +kernel
theorem d6_26 : decode jdk_117_method_27_code 26 = .ok (.lstore 6, 2) := by decide +kernel
theorem d6_28 : decode jdk_117_method_27_code 28 = .ok (.lload 4, 2) := by decide +kernel
theorem d6_30 : decode jdk_117_method_27_code 30 = .ok (.lload 6, 2) := by decide +kernel
theorem d6_32 : decode jdk_117_method_27_code 32 = .ok (.lcmp, 1) := by decide +kernel
theorem d6_33 : decode jdk_117_method_27_code 33 = .ok (.ifCond .ne 7, 3) := by decide +kernel
theorem d6_36 : decode jdk_117_method_27_code 36 = .ok (.iconst 0, 1) := by decide +kernel
theorem d6_37 : decode jdk_117_method_27_code 37 = .ok (.goto 16, 3) := by decide +kernel
theorem d6_40 : decode jdk_117_method_27_code 40 = .ok (.lload 4, 2) := by decide +kernel
theorem d6_42 : decode jdk_117_method_27_code 42 = .ok (.lload 6, 2) := by decide +kernel
theorem d6_44 : decode jdk_117_method_27_code 44 = .ok (.lcmp, 1) := by decide +kernel
theorem d6_45 : decode jdk_117_method_27_code 45 = .ok (.ifCond .ge 7, 3) := by decide +kernel
theorem d6_48 : decode jdk_117_method_27_code 48 = .ok (.iconst (-1), 1) := by decide +kernel
theorem d6_49 : decode jdk_117_method_27_code 49 = .ok (.goto 4, 3) := by decide +kernel
theorem d6_52 : decode jdk_117_method_27_code 52 = .ok (.iconst 1, 1) := by decide +kernel
theorem d6_53 : decode jdk_117_method_27_code 53 = .ok (.ireturn, 1) := by decide +kernel
theorem ef_6 (m : MethodId) (r0 : UInt64) (r1 : UInt64) : entryFrame m #[(.double r0), (.double r1)] 8 = mkF m 0 #[.val (.double r0), .second, .val (.double r1), .second, .unset, .unset, .unset, .unset] [] := by first | (simp [entryFrame, mkF, argsToLocals, Value.category]; done) | rfl
def f6 (r0 : UInt64) (r1 : UInt64) : Int32 := if (cmpValue (FP.dcmp r0 r1) .g) < (0 : Int32) then (-1 : Int32) else if (0 : Int32) < (cmpValue (FP.dcmp r0 r1) .l) then (1 : Int32) else if (lcmpW (f8 r0) (f8 r1)) = (0 : Int32) then (0 : Int32) else if (lcmpW (f8 r0) (f8 r1)) < (0 : Int32) then (-1 : Int32) else (1 : Int32)
abbrev room6 : Room := { frames := 2, cells := 0, slots := 0, locals := 28 }
def Q6 (Z : State) (r0 : UInt64) (r1 : UInt64) (h0 : Heap) (n0 : Nat) (v : Option Value) (h : Heap) (L : List Loc) : Prop := v = some (.int (f6 r0 r1)) ∧ L = [] ∧ h = h0
set_option maxRecDepth 65536 in
set_option maxHeartbeats 40000000 in
theorem rm6 (l : Launch) (Z : State) (aw : Array Value) (hw : ∀ d ∈ tables_1, d.before aw Z = true) (ws : List Jvm.Cond) (r0 : UInt64) (r1 : UInt64) (h0 : Heap) (n0 : Nat) (Z0 : n0 ≤ h0.size) (h0n : NoNaN64 r0) (h1n : NoNaN64 r1) :
    MetFree l (⟨"java/lang/Double", "compare", "(DD)I"⟩ : MethodName) (head1 (Jvm.Cond.code (⟨"java/lang/Double", "compare", "(DD)I"⟩ : MethodName) jdk_117_method_27_code 8 (some .int) :: ws) room6) (fun a U => a = #[(.double r0), (.double r1)] ∧ Z.Warmed39 U.vm ∧ U.heap = h0) (fun _ _ _ _ _ => True) (fun _ U o U' => ∃ v L, o = .returned v ∧ Q6 Z r0 r1 h0 n0 v U'.heap L ∧ FrameEnd U o U' L room6.cells room6.slots) := by
  refine MetFree.of_bodySF (plainFor_of_name pn_9) hisR ?_
  intro p e s m args below meth c s₁ Bd hml0 hP hK
  obtain ⟨rfl, hZ, hh⟩ := hP
  have hx := Bd.exec
  have hby := Bd.bytes
  have hml : c.maxLocals = 8 := hml0
  have hown : s.vm.findClass "java/lang/Double" = some m.cls := findClass_of_methodNamed Bd.named
  have hnm := (name_of_methodNamed Bd.named Bd.method).1
  have X0 : Stand p l e room6 s m #[(.double r0), (.double r1)] below meth c s₁ [] 0 0 := Stand.of_body Bd
  have e0 : s₁.heap = h0 := by rw [← hh, Bd.state]; rfl
  have N0 := Fr.nil n0
  rw [ef_6 m r0 r1]
  refine go_in (s₁ := s₁) (Q := Q6 Z r0 r1 h0 n0) fun F hF => ?_
  refine go (B := s₁.setTop (mkF m 1 #[.val (.double r0), .second, .val (.double r1), .second, .unset, .unset, .unset, .unset] [(.double r0)])) (fun _ k => XS.dloadN X0.here hx rfl (hb hby d6_0) rfl k) ?_
  refine go (B := s₁.setTop (mkF m 2 #[.val (.double r0), .second, .val (.double r1), .second, .unset, .unset, .unset, .unset] [(.double r1), (.double r0)])) (fun _ k => XS.dloadN X0.here hx rfl (hb hby d6_1) rfl k) ?_
  refine go (B := s₁.setTop (mkF m 3 #[.val (.double r0), .second, .val (.double r1), .second, .unset, .unset, .unset, .unset] [(.int (cmpValue (FP.dcmp r0 r1) .g))])) (fun _ k => XS.dcmpS X0.here hx rfl (hb hby d6_2) rfl rfl k) ?_
  by_cases hc1 : (cmpValue (FP.dcmp r0 r1) .g) < (0 : Int32)
  · refine go (B := s₁.setTop (mkF m 6 #[.val (.double r0), .second, .val (.double r1), .second, .unset, .unset, .unset, .unset] [])) (fun _ k => XS.ifNo X0.here hx rfl (hb hby d6_3) rfl ((if0 _ _).trans (tlt hc1).2.1) k) ?_
    refine go (B := s₁.setTop (mkF m 7 #[.val (.double r0), .second, .val (.double r1), .second, .unset, .unset, .unset, .unset] [(.int (-1 : Int32))])) (fun _ k => XS.iconst X0.here hx rfl (hb hby d6_6) k) ?_
    have r2 : (f6 r0 r1) = (-1 : Int32) := by unfold f6; rw [if_pos hc1]
    exact end_int X0 hx Bd.notSynchronized Bd.returns (hb hby d6_7) hF e0 (by decide) (by decide) ⟨(congrArg (fun z => some (Value.int z)) r2.symm), rfl, rfl⟩
  · refine go (B := s₁.setTop (mkF m 8 #[.val (.double r0), .second, .val (.double r1), .second, .unset, .unset, .unset, .unset] [])) (fun _ k => XS.ifYes X0.here hx rfl (pc0 := 3) (pc' := 8) rfl (hb hby d6_3) rfl ((if0 _ _).trans (flt hc1).2.1) (by decide) (by decide) k) ?_
    refine go (B := s₁.setTop (mkF m 9 #[.val (.double r0), .second, .val (.double r1), .second, .unset, .unset, .unset, .unset] [(.double r0)])) (fun _ k => XS.dloadN X0.here hx rfl (hb hby d6_8) rfl k) ?_
    refine go (B := s₁.setTop (mkF m 10 #[.val (.double r0), .second, .val (.double r1), .second, .unset, .unset, .unset, .unset] [(.double r1), (.double r0)])) (fun _ k => XS.dloadN X0.here hx rfl (hb hby d6_9) rfl k) ?_
    refine go (B := s₁.setTop (mkF m 11 #[.val (.double r0), .second, .val (.double r1), .second, .unset, .unset, .unset, .unset] [(.int (cmpValue (FP.dcmp r0 r1) .l))])) (fun _ k => XS.dcmpS X0.here hx rfl (hb hby d6_10) rfl rfl k) ?_
    by_cases hc3 : (0 : Int32) < (cmpValue (FP.dcmp r0 r1) .l)
    · refine go (B := s₁.setTop (mkF m 14 #[.val (.double r0), .second, .val (.double r1), .second, .unset, .unset, .unset, .unset] [])) (fun _ k => XS.ifNo X0.here hx rfl (hb hby d6_11) rfl ((if0 _ _).trans (tlt hc3).2.2.2) k) ?_
      refine go (B := s₁.setTop (mkF m 15 #[.val (.double r0), .second, .val (.double r1), .second, .unset, .unset, .unset, .unset] [(.int (1 : Int32))])) (fun _ k => XS.iconst X0.here hx rfl (hb hby d6_14) k) ?_
      have r4 : (f6 r0 r1) = (1 : Int32) := by unfold f6; rw [if_neg hc1, if_pos hc3]
      exact end_int X0 hx Bd.notSynchronized Bd.returns (hb hby d6_15) hF e0 (by decide) (by decide) ⟨(congrArg (fun z => some (Value.int z)) r4.symm), rfl, rfl⟩
    · refine go (B := s₁.setTop (mkF m 16 #[.val (.double r0), .second, .val (.double r1), .second, .unset, .unset, .unset, .unset] [])) (fun _ k => XS.ifYes X0.here hx rfl (pc0 := 11) (pc' := 16) rfl (hb hby d6_11) rfl ((if0 _ _).trans (flt hc3).2.2.2) (by decide) (by decide) k) ?_
      refine go (B := s₁.setTop (mkF m 17 #[.val (.double r0), .second, .val (.double r1), .second, .unset, .unset, .unset, .unset] [(.double r0)])) (fun _ k => XS.dloadN X0.here hx rfl (hb hby d6_16) rfl k) ?_
      obtain ⟨_, _, ⟨T5, L5, k5, n5⟩, -, X5, ⟨Lc5, hQ5, l5, y5, z5⟩, st5⟩ := Jvm.LawKit.callS X0 hx (y := (⟨"java/lang/Double", "doubleToLongBits", "(D)J"⟩ : MethodName)) hown (mvT hZ (hw _ (List.mem_of_getElem? (i := 40) rfl))) (mvT hZ (hw _ (List.mem_of_getElem? (i := 41) rfl))) (mvT hZ (hw _ (List.mem_of_getElem? (i := 33) rfl))) (mvT hZ (hw _ (List.mem_of_getElem? (i := 42) rfl))) (by decide) (backOf (W := 0) (rm8 l Z aw hw [] r0 h0 n0 Z0 (show (f9 r0) = (0 : Int32) from own_nan h0n)) hZ (hw _ (List.mem_of_getElem? (i := 42) rfl)) (hw _ (List.mem_of_getElem? (i := 33) rfl)) (by decide) (by decide)) (g := (mkF m 17 #[.val (.double r0), .second, .val (.double r1), .second, .unset, .unset, .unset, .unset] [(.double r0)])) rfl (by rw [hml]; rfl) (argsL := [(.double r0)]) (rest := []) (lenOf pd_1 rfl) rfl (by show 2 * 0 + _ ≤ _; exact Nat.le_of_eq rfl) (hb hby d6_17) (fun _ _ => ⟨rfl, e0, (by decide : 0 + 0 ≤ _), (by decide : 0 + 0 ≤ _)⟩)
      dsimp only [Pt.U, Pt.locs, Pt.cells, Pt.slots] at X5 l5 y5 z5 st5 hQ5
      subst l5 y5 z5
      obtain ⟨rfl, rfl, e5⟩ := hQ5
      refine go (B := T5.setTop (mkF m 20 #[.val (.double r0), .second, .val (.double r1), .second, .unset, .unset, .unset, .unset] [(.long (f8 r0))])) (fun _ k => st5 _ k) ?_
      refine go (B := T5.setTop (mkF m 22 #[.val (.double r0), .second, .val (.double r1), .second, .val (.long (f8 r0)), .second, .unset, .unset] [])) (fun _ k => XS.lstore X5.here hx rfl (hb hby d6_20) rfl (l' := #[.val (.double r0), .second, .val (.double r1), .second, .val (.long (f8 r0)), .second, .unset, .unset]) rfl k) ?_
      refine go (B := T5.setTop (mkF m 23 #[.val (.double r0), .second, .val (.double r1), .second, .val (.long (f8 r0)), .second, .unset, .unset] [(.double r1)])) (fun _ k => XS.dloadN X5.here hx rfl (hb hby d6_22) rfl k) ?_
      obtain ⟨_, _, ⟨T6, L6, k6, n6⟩, -, X6, ⟨Lc6, hQ6, l6, y6, z6⟩, st6⟩ := Jvm.LawKit.callS X5 hx (y := (⟨"java/lang/Double", "doubleToLongBits", "(D)J"⟩ : MethodName)) hown (mvT hZ (hw _ (List.mem_of_getElem? (i := 40) rfl))) (mvT hZ (hw _ (List.mem_of_getElem? (i := 41) rfl))) (mvT hZ (hw _ (List.mem_of_getElem? (i := 33) rfl))) (mvT hZ (hw _ (List.mem_of_getElem? (i := 42) rfl))) (by decide) (backOf (W := 0) (rm8 l Z aw hw [] r1 h0 n0 Z0 (show (f9 r1) = (0 : Int32) from own_nan h1n)) hZ (hw _ (List.mem_of_getElem? (i := 42) rfl)) (hw _ (List.mem_of_getElem? (i := 33) rfl)) (by decide) (by decide)) (g := (mkF m 23 #[.val (.double r0), .second, .val (.double r1), .second, .val (.long (f8 r0)), .second, .unset, .unset] [(.double r1)])) rfl (by rw [hml]; rfl) (argsL := [(.double r1)]) (rest := []) (lenOf pd_1 rfl) rfl (by show 2 * 0 + _ ≤ _; exact Nat.le_of_eq rfl) (hb hby d6_23) (fun _ _ => ⟨rfl, e5, (by decide : 0 + 0 ≤ _), (by decide : 0 + 0 ≤ _)⟩)
      dsimp only [Pt.U, Pt.locs, Pt.cells, Pt.slots] at X6 l6 y6 z6 st6 hQ6
      subst l6 y6 z6
      obtain ⟨rfl, rfl, e6⟩ := hQ6
      refine go (B := T6.setTop (mkF m 26 #[.val (.double r0), .second, .val (.double r1), .second, .val (.long (f8 r0)), .second, .unset, .unset] [(.long (f8 r1))])) (fun _ k => st6 _ k) ?_
      refine go (B := T6.setTop (mkF m 28 #[.val (.double r0), .second, .val (.double r1), .second, .val (.long (f8 r0)), .second, .val (.long (f8 r1)), .second] [])) (fun _ k => XS.lstore X6.here hx rfl (hb hby d6_26) rfl (l' := #[.val (.double r0), .second, .val (.double r1), .second, .val (.long (f8 r0)), .second, .val (.long (f8 r1)), .second]) rfl k) ?_
      refine go (B := T6.setTop (mkF m 30 #[.val (.double r0), .second, .val (.double r1), .second, .val (.long (f8 r0)), .second, .val (.long (f8 r1)), .second] [(.long (f8 r0))])) (fun _ k => XS.lload X6.here hx rfl (hb hby d6_28) rfl k) ?_
      refine go (B := T6.setTop (mkF m 32 #[.val (.double r0), .second, .val (.double r1), .second, .val (.long (f8 r0)), .second, .val (.long (f8 r1)), .second] [(.long (f8 r1)), (.long (f8 r0))])) (fun _ k => XS.lload X6.here hx rfl (hb hby d6_30) rfl k) ?_
      refine go (B := T6.setTop (mkF m 33 #[.val (.double r0), .second, .val (.double r1), .second, .val (.long (f8 r0)), .second, .val (.long (f8 r1)), .second] [(.int (lcmpW (f8 r0) (f8 r1)))])) (fun _ k => XS.lcmp X6.here hx rfl (hb hby d6_32) rfl k) ?_
      by_cases hc7 : (lcmpW (f8 r0) (f8 r1)) = (0 : Int32)
      · refine go (B := T6.setTop (mkF m 36 #[.val (.double r0), .second, .val (.double r1), .second, .val (.long (f8 r0)), .second, .val (.long (f8 r1)), .second] [])) (fun _ k => XS.ifNo X6.here hx rfl (hb hby d6_33) rfl ((if0 _ _).trans (teq hc7).2) k) ?_
        refine go (B := T6.setTop (mkF m 37 #[.val (.double r0), .second, .val (.double r1), .second, .val (.long (f8 r0)), .second, .val (.long (f8 r1)), .second] [(.int (0 : Int32))])) (fun _ k => XS.iconst X6.here hx rfl (hb hby d6_36) k) ?_
        refine go (B := T6.setTop (mkF m 53 #[.val (.double r0), .second, .val (.double r1), .second, .val (.long (f8 r0)), .second, .val (.long (f8 r1)), .second] [(.int (0 : Int32))])) (fun _ k => XS.goto X6.here hx rfl (pc0 := 37) (pc' := 53) rfl (hb hby d6_37) (by decide) (by decide) k) ?_
        have r8 : (f6 r0 r1) = (0 : Int32) := by unfold f6; rw [if_neg hc1, if_neg hc3, if_pos hc7]
        exact end_int X6 hx Bd.notSynchronized Bd.returns (hb hby d6_53) hF e6 (by decide) (by decide) ⟨(congrArg (fun z => some (Value.int z)) r8.symm), rfl, rfl⟩
      · refine go (B := T6.setTop (mkF m 40 #[.val (.double r0), .second, .val (.double r1), .second, .val (.long (f8 r0)), .second, .val (.long (f8 r1)), .second] [])) (fun _ k => XS.ifYes X6.here hx rfl (pc0 := 33) (pc' := 40) rfl (hb hby d6_33) rfl ((if0 _ _).trans (feq hc7).2) (by decide) (by decide) k) ?_
        refine go (B := T6.setTop (mkF m 42 #[.val (.double r0), .second, .val (.double r1), .second, .val (.long (f8 r0)), .second, .val (.long (f8 r1)), .second] [(.long (f8 r0))])) (fun _ k => XS.lload X6.here hx rfl (hb hby d6_40) rfl k) ?_
        refine go (B := T6.setTop (mkF m 44 #[.val (.double r0), .second, .val (.double r1), .second, .val (.long (f8 r0)), .second, .val (.long (f8 r1)), .second] [(.long (f8 r1)), (.long (f8 r0))])) (fun _ k => XS.lload X6.here hx rfl (hb hby d6_42) rfl k) ?_
        refine go (B := T6.setTop (mkF m 45 #[.val (.double r0), .second, .val (.double r1), .second, .val (.long (f8 r0)), .second, .val (.long (f8 r1)), .second] [(.int (lcmpW (f8 r0) (f8 r1)))])) (fun _ k => XS.lcmp X6.here hx rfl (hb hby d6_44) rfl k) ?_
        by_cases hc9 : (lcmpW (f8 r0) (f8 r1)) < (0 : Int32)
        · refine go (B := T6.setTop (mkF m 48 #[.val (.double r0), .second, .val (.double r1), .second, .val (.long (f8 r0)), .second, .val (.long (f8 r1)), .second] [])) (fun _ k => XS.ifNo X6.here hx rfl (hb hby d6_45) rfl ((if0 _ _).trans (tlt hc9).2.1) k) ?_
          refine go (B := T6.setTop (mkF m 49 #[.val (.double r0), .second, .val (.double r1), .second, .val (.long (f8 r0)), .second, .val (.long (f8 r1)), .second] [(.int (-1 : Int32))])) (fun _ k => XS.iconst X6.here hx rfl (hb hby d6_48) k) ?_
          refine go (B := T6.setTop (mkF m 53 #[.val (.double r0), .second, .val (.double r1), .second, .val (.long (f8 r0)), .second, .val (.long (f8 r1)), .second] [(.int (-1 : Int32))])) (fun _ k => XS.goto X6.here hx rfl (pc0 := 49) (pc' := 53) rfl (hb hby d6_49) (by decide) (by decide) k) ?_
          have r10 : (f6 r0 r1) = (-1 : Int32) := by unfold f6; rw [if_neg hc1, if_neg hc3, if_neg hc7, if_pos hc9]
          exact end_int X6 hx Bd.notSynchronized Bd.returns (hb hby d6_53) hF e6 (by decide) (by decide) ⟨(congrArg (fun z => some (Value.int z)) r10.symm), rfl, rfl⟩
        · refine go (B := T6.setTop (mkF m 52 #[.val (.double r0), .second, .val (.double r1), .second, .val (.long (f8 r0)), .second, .val (.long (f8 r1)), .second] [])) (fun _ k => XS.ifYes X6.here hx rfl (pc0 := 45) (pc' := 52) rfl (hb hby d6_45) rfl ((if0 _ _).trans (flt hc9).2.1) (by decide) (by decide) k) ?_
          refine go (B := T6.setTop (mkF m 53 #[.val (.double r0), .second, .val (.double r1), .second, .val (.long (f8 r0)), .second, .val (.long (f8 r1)), .second] [(.int (1 : Int32))])) (fun _ k => XS.iconst X6.here hx rfl (hb hby d6_52) k) ?_
          have r11 : (f6 r0 r1) = (1 : Int32) := by unfold f6; rw [if_neg hc1, if_neg hc3, if_neg hc7, if_neg hc9]
          exact end_int X6 hx Bd.notSynchronized Bd.returns (hb hby d6_53) hF e6 (by decide) (by decide) ⟨(congrArg (fun z => some (Value.int z)) r11.symm), rfl, rfl⟩
theorem d5_0 : decode prog_78_method_3_code 0 = .ok (.aload_n 0, 1) := by decide +kernel
theorem d5_1 : decode prog_78_method_3_code 1 = .ok (.dup, 1) := by decide +kernel
theorem d5_2 : decode prog_78_method_3_code 2 = .ok (.getfield 17, 3) := by decide +kernel
theorem d5_5 : decode prog_78_method_3_code 5 = .ok (.dup_x1, 1) := by decide +kernel
theorem d5_6 : decode prog_78_method_3_code 6 = .ok (.iconst 1, 1) := by decide +kernel
theorem d5_7 : decode prog_78_method_3_code 7 = .ok (.iadd, 1) := by decide +kernel
theorem d5_8 : decode prog_78_method_3_code 8 = .ok (.putfield 17, 3) := by decide +kernel
theorem d5_11 : decode prog_78_method_3_code 11 = .ok (.istore 4, 2) := by decide +kernel
theorem d5_13 : decode prog_78_method_3_code 13 = .ok (.iload 4, 2) := by decide +kernel
theorem d5_15 : decode prog_78_method_3_code 15 = .ok (.ifCond .le 63, 3) := by decide +kernel
theorem d5_78 : decode prog_78_method_3_code 78 = .ok (.aload_n 0, 1) := by decide +kernel
theorem d5_79 : decode prog_78_method_3_code 79 = .ok (.getfield 7, 3) := by decide +kernel
theorem d5_82 : decode prog_78_method_3_code 82 = .ok (.iload 4, 2) := by decide +kernel
theorem d5_84 : decode prog_78_method_3_code 84 = .ok (.dload_n 1, 1) := by decide +kernel
theorem d5_85 : decode prog_78_method_3_code 85 = .ok (.dastore, 1) := by decide +kernel
theorem d5_86 : decode prog_78_method_3_code 86 = .ok (.aload_n 0, 1) := by decide +kernel
theorem d5_87 : decode prog_78_method_3_code 87 = .ok (.getfield 13, 3) := by decide +kernel
theorem d5_90 : decode prog_78_method_3_code 90 = .ok (.iload 4, 2) := by decide +kernel
theorem d5_92 : decode prog_78_method_3_code 92 = .ok (.iload_n 3, 1) := by decide +kernel
theorem d5_93 : decode prog_78_method_3_code 93 = .ok (.iastore, 1) := by decide +kernel
theorem d5_94 : decode prog_78_method_3_code 94 = .ok (.return_, 1) := by decide +kernel
theorem ef_5s0 (m : MethodId) (a0 : Addr) (r1 : UInt64) (p2 : Int32) : entryFrame m #[(.ref a0), (.double r1), (.int p2)] 6 = mkF m 0 #[.val (.ref a0), .val (.double r1), .second, .val (.int p2), .unset, .unset] [] := by first | (simp [entryFrame, mkF, argsToLocals, Value.category]; done) | rfl
abbrev room5s0 : Room := { frames := 0, cells := 0, slots := 0, locals := 0 }
def Q5s0 (Z : State) (a0 : Addr) (r1 : UInt64) (p2 : Int32) (w_keys_a0 : Addr) (w_numbers_a0 : Addr) (k_w_keys_a0 : ClassId) (xk_0 : UInt64) (xk_1 : UInt64) (xk_2 : UInt64) (k_w_numbers_a0 : ClassId) (xn_0 : Int32) (xn_1 : Int32) (xn_2 : Int32) (h0 : Heap) (n0 : Nat) (v : Option Value) (h : Heap) (L : List Loc) : Prop := ∃ K0 : UInt64, ∃ K1 : UInt64, ∃ K2 : UInt64, ∃ M0 : Int32, ∃ M1 : Int32, ∃ M2 : Int32, v = none ∧ Fr n0 L ∧ Keep h0 h [a0, w_keys_a0, w_numbers_a0] ∧ Exa Z h a0 "com/example/constrained_flow/constrainedflow/planner/search/LeastFirst" ∧ Fld Z h a0 "com/example/constrained_flow/constrainedflow/planner/search/LeastFirst" "keys" "[D" (.ref w_keys_a0) ∧ Fld Z h a0 "com/example/constrained_flow/constrainedflow/planner/search/LeastFirst" "numbers" "[I" (.ref w_numbers_a0) ∧ Fld Z h a0 "com/example/constrained_flow/constrainedflow/planner/search/LeastFirst" "size" "I" (.int (1 : Int32)) ∧ Arv Z h w_keys_a0 k_w_keys_a0 .double (3 : Int32) [(.double K0), (.double K1), (.double K2)] (.double (0 : UInt64)) ∧ Arv Z h w_numbers_a0 k_w_numbers_a0 .int (3 : Int32) [(.int M0), (.int M1), (.int M2)] (.int (0 : Int32)) ∧ NoNaN64 K0 ∧ NoNaN64 K1 ∧ NoNaN64 K2
set_option maxRecDepth 65536 in
set_option maxHeartbeats 40000000 in
theorem rm5s0 (l : Launch) (Z : State) (aw : Array Value) (hw : ∀ d ∈ tables_1, d.before aw Z = true) (ws : List Jvm.Cond) (a0 : Addr) (r1 : UInt64) (p2 : Int32) (w_keys_a0 : Addr) (w_numbers_a0 : Addr) (k_w_keys_a0 : ClassId) (xk_0 : UInt64) (xk_1 : UInt64) (xk_2 : UInt64) (k_w_numbers_a0 : ClassId) (xn_0 : Int32) (xn_1 : Int32) (xn_2 : Int32) (h0 : Heap) (n0 : Nat) (Z0 : n0 ≤ h0.size) (F_keys_a0 : Fld Z h0 a0 "com/example/constrained_flow/constrainedflow/planner/search/LeastFirst" "keys" "[D" (.ref w_keys_a0)) (F_numbers_a0 : Fld Z h0 a0 "com/example/constrained_flow/constrainedflow/planner/search/LeastFirst" "numbers" "[I" (.ref w_numbers_a0)) (F_size_a0 : Fld Z h0 a0 "com/example/constrained_flow/constrainedflow/planner/search/LeastFirst" "size" "I" (.int (0 : Int32))) (E_a0 : Exa Z h0 a0 "com/example/constrained_flow/constrainedflow/planner/search/LeastFirst") (V_w_keys_a0 : Arv Z h0 w_keys_a0 k_w_keys_a0 .double (3 : Int32) [(.double xk_0), (.double xk_1), (.double xk_2)] (.double (0 : UInt64))) (V_w_numbers_a0 : Arv Z h0 w_numbers_a0 k_w_numbers_a0 .int (3 : Int32) [(.int xn_0), (.int xn_1), (.int xn_2)] (.int (0 : Int32))) (ne_a0_w_keys_a0 : a0 ≠ w_keys_a0) (ne_a0_w_numbers_a0 : a0 ≠ w_numbers_a0) (ne_w_keys_a0_w_numbers_a0 : w_keys_a0 ≠ w_numbers_a0) (g_a0 : n0 ≤ a0) (g_w_keys_a0 : n0 ≤ w_keys_a0) (g_w_numbers_a0 : n0 ≤ w_numbers_a0) (hk0 : NoNaN64 xk_0) (hk1 : NoNaN64 xk_1) (hk2 : NoNaN64 xk_2) (hr1 : NoNaN64 r1) :
    MetFree l (⟨"com/example/constrained_flow/constrainedflow/planner/search/LeastFirst", "add", "(DI)V"⟩ : MethodName) (head1 (Jvm.Cond.code (⟨"com/example/constrained_flow/constrainedflow/planner/search/LeastFirst", "add", "(DI)V"⟩ : MethodName) prog_78_method_3_code 6 none :: ws) room5s0) (fun a U => a = #[(.ref a0), (.double r1), (.int p2)] ∧ Z.Warmed39 U.vm ∧ U.heap = h0) (fun _ _ _ _ _ => True) (fun _ U o U' => ∃ v L, o = .returned v ∧ Q5s0 Z a0 r1 p2 w_keys_a0 w_numbers_a0 k_w_keys_a0 xk_0 xk_1 xk_2 k_w_numbers_a0 xn_0 xn_1 xn_2 h0 n0 v U'.heap L ∧ FrameEnd U o U' L room5s0.cells room5s0.slots) := by
  refine MetFree.of_bodySF (plainFor_of_name pn_1) hisR ?_
  intro p e s m args below meth c s₁ Bd hml0 hP hK
  obtain ⟨rfl, hZ, hh⟩ := hP
  have hx := Bd.exec
  have hby := Bd.bytes
  have hml : c.maxLocals = 6 := hml0
  have hown : s.vm.findClass "com/example/constrained_flow/constrainedflow/planner/search/LeastFirst" = some m.cls := findClass_of_methodNamed Bd.named
  have hnm := (name_of_methodNamed Bd.named Bd.method).1
  have X0 : Stand p l e room5s0 s m #[(.ref a0), (.double r1), (.int p2)] below meth c s₁ [] 0 0 := Stand.of_body Bd
  have e0 : s₁.heap = h0 := by rw [← hh, Bd.state]; rfl
  have N0 := Fr.nil n0
  have K0 := Keep.refl h0 [a0, w_keys_a0, w_numbers_a0]
  rw [ef_5s0 m a0 r1 p2]
  refine go_in (s₁ := s₁) (Q := Q5s0 Z a0 r1 p2 w_keys_a0 w_numbers_a0 k_w_keys_a0 xk_0 xk_1 xk_2 k_w_numbers_a0 xn_0 xn_1 xn_2 h0 n0) fun F hF => ?_
  refine go (B := s₁.setTop (mkF m 1 #[.val (.ref a0), .val (.double r1), .second, .val (.int p2), .unset, .unset] [(.ref a0)])) (fun _ k => XS.aloadN X0.here hx rfl (hb hby d5_0) rfl rfl k) ?_
  refine go (B := s₁.setTop (mkF m 2 #[.val (.ref a0), .val (.double r1), .second, .val (.int p2), .unset, .unset] [(.ref a0), (.ref a0)])) (fun _ k => XS.dup X0.here hx rfl (hb hby d5_1) rfl rfl k) ?_
  obtain ⟨T1, X1, e1, st1⟩ := getF X0 hx hZ hown (host := "") (Or.inl (hw _ (List.mem_of_getElem? (i := 20) rfl))) Via.refl e0 F_size_a0 (g := (mkF m 2 #[.val (.ref a0), .val (.double r1), .second, .val (.int p2), .unset, .unset] [(.ref a0), (.ref a0)])) rfl rfl (hb hby d5_2)
  refine go (B := T1.setTop (mkF m 5 #[.val (.ref a0), .val (.double r1), .second, .val (.int p2), .unset, .unset] [(.int (0 : Int32)), (.ref a0)])) st1 ?_
  refine go (B := T1.setTop (mkF m 6 #[.val (.ref a0), .val (.double r1), .second, .val (.int p2), .unset, .unset] [(.int (0 : Int32)), (.ref a0), (.int (0 : Int32))])) (fun _ k => XS.dupX1 X1.here hx rfl (hb hby d5_5) rfl rfl rfl k) ?_
  refine go (B := T1.setTop (mkF m 7 #[.val (.ref a0), .val (.double r1), .second, .val (.int p2), .unset, .unset] [(.int (1 : Int32)), (.int (0 : Int32)), (.ref a0), (.int (0 : Int32))])) (fun _ k => XS.iconst X1.here hx rfl (hb hby d5_6) k) ?_
  refine go (B := T1.setTop (mkF m 8 #[.val (.ref a0), .val (.double r1), .second, .val (.int p2), .unset, .unset] [(.int (1 : Int32)), (.ref a0), (.int (0 : Int32))])) (fun _ k => XS.iadd X1.here hx rfl (hb hby d5_7) rfl k) ?_
  obtain ⟨T2, h2, X2, e2, W2, st2⟩ := putF X1 hx hZ hown (host := "") (Or.inl (hw _ (List.mem_of_getElem? (i := 20) rfl))) Via.refl e1 F_size_a0 E_a0 (Or.inl (hw _ (List.mem_of_getElem? (i := 21) rfl))) (hw _ (List.mem_of_getElem? (i := 1) rfl)) (ty := .int) (by decide) rfl rfl (g := (mkF m 8 #[.val (.ref a0), .val (.double r1), .second, .val (.int p2), .unset, .unset] [(.int (1 : Int32)), (.ref a0), (.int (0 : Int32))])) rfl rfl (hb hby d5_8)
  have F_keys_a0_2 := Fld.other W2 F_keys_a0 (Or.inr (slot_ne (Or.inr (hw _ (List.mem_of_getElem? (i := 11) rfl))) (Or.inl (hw _ (List.mem_of_getElem? (i := 21) rfl))) (by decide) (t := (.array .double)) (t' := .int) (by decide) (by decide)))
  have F_numbers_a0_2 := Fld.other W2 F_numbers_a0 (Or.inr (slot_ne (Or.inr (hw _ (List.mem_of_getElem? (i := 14) rfl))) (Or.inl (hw _ (List.mem_of_getElem? (i := 21) rfl))) (by decide) (t := (.array .int)) (t' := .int) (by decide) (by decide)))
  have E_a0_2 := E_a0.wr W2
  have V_w_keys_a0_2 := V_w_keys_a0.other W2 (Ne.symm ne_a0_w_keys_a0)
  have V_w_numbers_a0_2 := V_w_numbers_a0.other W2 (Ne.symm ne_a0_w_numbers_a0)
  have F_size_a0_2 := Fld.same W2 F_size_a0
  have Z2 := Nat.le_trans Z0 (Keep.of_wr W2).1
  have K2 := K0.wr W2 (Or.inl (List.mem_of_getElem? (i := 0) rfl))
  have N2 := Fr.snoc X2 N0 g_a0
  refine go (B := T2.setTop (mkF m 11 #[.val (.ref a0), .val (.double r1), .second, .val (.int p2), .unset, .unset] [(.int (0 : Int32))])) st2 ?_
  refine go (B := T2.setTop (mkF m 13 #[.val (.ref a0), .val (.double r1), .second, .val (.int p2), .val (.int (0 : Int32)), .unset] [])) (fun _ k => XS.istore X2.here hx rfl (hb hby d5_11) rfl (l' := #[.val (.ref a0), .val (.double r1), .second, .val (.int p2), .val (.int (0 : Int32)), .unset]) rfl k) ?_
  refine go (B := T2.setTop (mkF m 15 #[.val (.ref a0), .val (.double r1), .second, .val (.int p2), .val (.int (0 : Int32)), .unset] [(.int (0 : Int32))])) (fun _ k => XS.iload X2.here hx rfl (hb hby d5_13) rfl k) ?_
  refine go (B := T2.setTop (mkF m 78 #[.val (.ref a0), .val (.double r1), .second, .val (.int p2), .val (.int (0 : Int32)), .unset] [])) (fun _ k => XS.ifYes X2.here hx rfl (pc0 := 15) (pc' := 78) rfl (hb hby d5_15) rfl ((if0 _ _).trans (flt (by decide : ¬ ((0 : Int32) < (0 : Int32)))).2.2.2) (by decide) (by decide) k) ?_
  refine go (B := T2.setTop (mkF m 79 #[.val (.ref a0), .val (.double r1), .second, .val (.int p2), .val (.int (0 : Int32)), .unset] [(.ref a0)])) (fun _ k => XS.aloadN X2.here hx rfl (hb hby d5_78) rfl rfl k) ?_
  obtain ⟨T3, X3, e3, st3⟩ := getF X2 hx hZ hown (host := "") (Or.inl (hw _ (List.mem_of_getElem? (i := 10) rfl))) Via.refl e2 F_keys_a0_2 (g := (mkF m 79 #[.val (.ref a0), .val (.double r1), .second, .val (.int p2), .val (.int (0 : Int32)), .unset] [(.ref a0)])) rfl rfl (hb hby d5_79)
  refine go (B := T3.setTop (mkF m 82 #[.val (.ref a0), .val (.double r1), .second, .val (.int p2), .val (.int (0 : Int32)), .unset] [(.ref w_keys_a0)])) st3 ?_
  refine go (B := T3.setTop (mkF m 84 #[.val (.ref a0), .val (.double r1), .second, .val (.int p2), .val (.int (0 : Int32)), .unset] [(.int (0 : Int32)), (.ref w_keys_a0)])) (fun _ k => XS.iload X3.here hx rfl (hb hby d5_82) rfl k) ?_
  refine go (B := T3.setTop (mkF m 85 #[.val (.ref a0), .val (.double r1), .second, .val (.int p2), .val (.int (0 : Int32)), .unset] [(.double r1), (.int (0 : Int32)), (.ref w_keys_a0)])) (fun _ k => XS.dloadN X3.here hx rfl (hb hby d5_84) rfl k) ?_
  obtain ⟨cl4, Ar4, qa4, Sa4, Na4, Ha4, Ga4⟩ := id V_w_keys_a0_2
  have hin4 : ¬ ((0 : Int32) < 0 ∨ cl4.slots.size ≤ ((0 : Int32)).toNatClampNeg) := inb_of Sa4 ⟨by decide, by decide⟩
  obtain ⟨T4, h4, X4, e4, W4, st4⟩ := stD X3 hx hZ e3 Ar4 (j := (0 : Int32)) hin4 (g := (mkF m 85 #[.val (.ref a0), .val (.double r1), .second, .val (.int p2), .val (.int (0 : Int32)), .unset] [(.double r1), (.int (0 : Int32)), (.ref w_keys_a0)])) rfl rfl (hb hby d5_85)
  have F_keys_a0_4 := Fld.other W4 F_keys_a0_2 (Or.inl ne_a0_w_keys_a0)
  have F_numbers_a0_4 := Fld.other W4 F_numbers_a0_2 (Or.inl ne_a0_w_keys_a0)
  have E_a0_4 := E_a0_2.wr W4
  have V_w_numbers_a0_4 := V_w_numbers_a0_2.other W4 (Ne.symm ne_w_keys_a0_w_numbers_a0)
  have F_size_a0_4 := Fld.other W4 F_size_a0_2 (Or.inl ne_a0_w_keys_a0)
  have Z4 := Nat.le_trans Z2 (Keep.of_wr W4).1
  have K4 := K2.wr W4 (Or.inl (List.mem_of_getElem? (i := 1) rfl))
  have N4 := Fr.snoc X4 N2 g_w_keys_a0
  have V_w_keys_a0_4 : Arv Z h4 w_keys_a0 k_w_keys_a0 .double (3 : Int32) [(.double r1), (.double xk_1), (.double xk_2)] (.double (0 : UInt64)) := Arv.set Ar4 qa4 Sa4 Na4 Ha4 Ga4 rfl W4 0 rfl (Nat.le_of_ble_eq_true rfl)
  refine go (B := T4.setTop (mkF m 86 #[.val (.ref a0), .val (.double r1), .second, .val (.int p2), .val (.int (0 : Int32)), .unset] [])) st4 ?_
  refine go (B := T4.setTop (mkF m 87 #[.val (.ref a0), .val (.double r1), .second, .val (.int p2), .val (.int (0 : Int32)), .unset] [(.ref a0)])) (fun _ k => XS.aloadN X4.here hx rfl (hb hby d5_86) rfl rfl k) ?_
  obtain ⟨T5, X5, e5, st5⟩ := getF X4 hx hZ hown (host := "") (Or.inl (hw _ (List.mem_of_getElem? (i := 13) rfl))) Via.refl e4 F_numbers_a0_4 (g := (mkF m 87 #[.val (.ref a0), .val (.double r1), .second, .val (.int p2), .val (.int (0 : Int32)), .unset] [(.ref a0)])) rfl rfl (hb hby d5_87)
  refine go (B := T5.setTop (mkF m 90 #[.val (.ref a0), .val (.double r1), .second, .val (.int p2), .val (.int (0 : Int32)), .unset] [(.ref w_numbers_a0)])) st5 ?_
  refine go (B := T5.setTop (mkF m 92 #[.val (.ref a0), .val (.double r1), .second, .val (.int p2), .val (.int (0 : Int32)), .unset] [(.int (0 : Int32)), (.ref w_numbers_a0)])) (fun _ k => XS.iload X5.here hx rfl (hb hby d5_90) rfl k) ?_
  refine go (B := T5.setTop (mkF m 93 #[.val (.ref a0), .val (.double r1), .second, .val (.int p2), .val (.int (0 : Int32)), .unset] [(.int p2), (.int (0 : Int32)), (.ref w_numbers_a0)])) (fun _ k => XS.iloadN X5.here hx rfl (hb hby d5_92) rfl k) ?_
  obtain ⟨cl6, Ar6, qa6, Sa6, Na6, Ha6, Ga6⟩ := id V_w_numbers_a0_4
  have hin6 : ¬ ((0 : Int32) < 0 ∨ cl6.slots.size ≤ ((0 : Int32)).toNatClampNeg) := inb_of Sa6 ⟨by decide, by decide⟩
  obtain ⟨T6, h6, X6, e6, W6, st6⟩ := stI X5 hx hZ e5 Ar6 (j := (0 : Int32)) hin6 (g := (mkF m 93 #[.val (.ref a0), .val (.double r1), .second, .val (.int p2), .val (.int (0 : Int32)), .unset] [(.int p2), (.int (0 : Int32)), (.ref w_numbers_a0)])) rfl rfl (hb hby d5_93)
  have F_keys_a0_6 := Fld.other W6 F_keys_a0_4 (Or.inl ne_a0_w_numbers_a0)
  have F_numbers_a0_6 := Fld.other W6 F_numbers_a0_4 (Or.inl ne_a0_w_numbers_a0)
  have E_a0_6 := E_a0_4.wr W6
  have F_size_a0_6 := Fld.other W6 F_size_a0_4 (Or.inl ne_a0_w_numbers_a0)
  have V_w_keys_a0_6 := V_w_keys_a0_4.other W6 ne_w_keys_a0_w_numbers_a0
  have Z6 := Nat.le_trans Z4 (Keep.of_wr W6).1
  have K6 := K4.wr W6 (Or.inl (List.mem_of_getElem? (i := 2) rfl))
  have N6 := Fr.snoc X6 N4 g_w_numbers_a0
  have V_w_numbers_a0_6 : Arv Z h6 w_numbers_a0 k_w_numbers_a0 .int (3 : Int32) [(.int p2), (.int xn_1), (.int xn_2)] (.int (0 : Int32)) := Arv.set Ar6 qa6 Sa6 Na6 Ha6 Ga6 rfl W6 0 rfl (Nat.le_of_ble_eq_true rfl)
  refine go (B := T6.setTop (mkF m 94 #[.val (.ref a0), .val (.double r1), .second, .val (.int p2), .val (.int (0 : Int32)), .unset] [])) st6 ?_
  exact end_void X6 hx Bd.notSynchronized Bd.returns (hb hby d5_94) hF e6 (by decide) (by decide) ⟨r1, xk_1, xk_2, p2, xn_1, xn_2, rfl, N6, K6, E_a0_6, F_keys_a0_6, F_numbers_a0_6, F_size_a0_6, V_w_keys_a0_6, V_w_numbers_a0_6, hr1, hk1, hk2⟩
theorem pd_2 : parseMethodDescriptor "(DD)I" = some ⟨[.double, .double], some .int⟩ := by decide +kernel
theorem d5_18 : decode prog_78_method_3_code 18 = .ok (.iload 4, 2) := by decide +kernel
theorem d5_20 : decode prog_78_method_3_code 20 = .ok (.iconst 1, 1) := by decide +kernel
theorem d5_21 : decode prog_78_method_3_code 21 = .ok (.isub, 1) := by decide +kernel
theorem d5_22 : decode prog_78_method_3_code 22 = .ok (.iconst 1, 1) := by decide +kernel
theorem d5_23 : decode prog_78_method_3_code 23 = .ok (.iushr, 1) := by decide +kernel
theorem d5_24 : decode prog_78_method_3_code 24 = .ok (.istore 5, 2) := by decide +kernel
theorem d5_26 : decode prog_78_method_3_code 26 = .ok (.dload_n 1, 1) := by decide +kernel
theorem d5_27 : decode prog_78_method_3_code 27 = .ok (.aload_n 0, 1) := by decide +kernel
theorem d5_28 : decode prog_78_method_3_code 28 = .ok (.getfield 7, 3) := by decide +kernel
theorem d5_31 : decode prog_78_method_3_code 31 = .ok (.iload 5, 2) := by decide +kernel
theorem d5_33 : decode prog_78_method_3_code 33 = .ok (.daload, 1) := by decide +kernel
theorem d5_34 : decode prog_78_method_3_code 34 = .ok (.invokestatic 21, 3) := by decide +kernel
theorem d5_37 : decode prog_78_method_3_code 37 = .ok (.ifCond .lt 6, 3) := by decide +kernel
theorem d5_40 : decode prog_78_method_3_code 40 = .ok (.goto 38, 3) := by decide +kernel
theorem d5_43 : decode prog_78_method_3_code 43 = .ok (.aload_n 0, 1) := by decide +kernel
theorem d5_44 : decode prog_78_method_3_code 44 = .ok (.getfield 7, 3) := by decide +kernel
theorem d5_47 : decode prog_78_method_3_code 47 = .ok (.iload 4, 2) := by decide +kernel
theorem d5_49 : decode prog_78_method_3_code 49 = .ok (.aload_n 0, 1) := by decide +kernel
theorem d5_50 : decode prog_78_method_3_code 50 = .ok (.getfield 7, 3) := by decide +kernel
theorem d5_53 : decode prog_78_method_3_code 53 = .ok (.iload 5, 2) := by decide +kernel
theorem d5_55 : decode prog_78_method_3_code 55 = .ok (.daload, 1) := by decide +kernel
theorem d5_56 : decode prog_78_method_3_code 56 = .ok (.dastore, 1) := by decide +kernel
theorem d5_57 : decode prog_78_method_3_code 57 = .ok (.aload_n 0, 1) := by decide +kernel
theorem d5_58 : decode prog_78_method_3_code 58 = .ok (.getfield 13, 3) := by decide +kernel
theorem d5_61 : decode prog_78_method_3_code 61 = .ok (.iload 4, 2) := by decide +kernel
theorem d5_63 : decode prog_78_method_3_code 63 = .ok (.aload_n 0, 1) := by decide +kernel
theorem d5_64 : decode prog_78_method_3_code 64 = .ok (.getfield 13, 3) := by decide +kernel
theorem d5_67 : decode prog_78_method_3_code 67 = .ok (.iload 5, 2) := by decide +kernel
theorem d5_69 : decode prog_78_method_3_code 69 = .ok (.iaload, 1) := by decide +kernel
theorem d5_70 : decode prog_78_method_3_code 70 = .ok (.iastore, 1) := by decide +kernel
theorem d5_71 : decode prog_78_method_3_code 71 = .ok (.iload 5, 2) := by decide +kernel
theorem d5_73 : decode prog_78_method_3_code 73 = .ok (.istore 4, 2) := by decide +kernel
theorem d5_75 : decode prog_78_method_3_code 75 = .ok (.goto (-62), 3) := by decide +kernel
theorem ef_5s1 (m : MethodId) (a0 : Addr) (r1 : UInt64) (p2 : Int32) : entryFrame m #[(.ref a0), (.double r1), (.int p2)] 6 = mkF m 0 #[.val (.ref a0), .val (.double r1), .second, .val (.int p2), .unset, .unset] [] := by first | (simp [entryFrame, mkF, argsToLocals, Value.category]; done) | rfl
abbrev room5s1 : Room := { frames := 3, cells := 0, slots := 0, locals := 47 }
def Q5s1 (Z : State) (a0 : Addr) (r1 : UInt64) (p2 : Int32) (w_keys_a0 : Addr) (w_numbers_a0 : Addr) (k_w_keys_a0 : ClassId) (xk_0 : UInt64) (xk_1 : UInt64) (xk_2 : UInt64) (k_w_numbers_a0 : ClassId) (xn_0 : Int32) (xn_1 : Int32) (xn_2 : Int32) (h0 : Heap) (n0 : Nat) (v : Option Value) (h : Heap) (L : List Loc) : Prop := ∃ K0 : UInt64, ∃ K1 : UInt64, ∃ K2 : UInt64, ∃ M0 : Int32, ∃ M1 : Int32, ∃ M2 : Int32, v = none ∧ Fr n0 L ∧ Keep h0 h [a0, w_keys_a0, w_numbers_a0] ∧ Exa Z h a0 "com/example/constrained_flow/constrainedflow/planner/search/LeastFirst" ∧ Fld Z h a0 "com/example/constrained_flow/constrainedflow/planner/search/LeastFirst" "keys" "[D" (.ref w_keys_a0) ∧ Fld Z h a0 "com/example/constrained_flow/constrainedflow/planner/search/LeastFirst" "numbers" "[I" (.ref w_numbers_a0) ∧ Fld Z h a0 "com/example/constrained_flow/constrainedflow/planner/search/LeastFirst" "size" "I" (.int (2 : Int32)) ∧ Arv Z h w_keys_a0 k_w_keys_a0 .double (3 : Int32) [(.double K0), (.double K1), (.double K2)] (.double (0 : UInt64)) ∧ Arv Z h w_numbers_a0 k_w_numbers_a0 .int (3 : Int32) [(.int M0), (.int M1), (.int M2)] (.int (0 : Int32)) ∧ NoNaN64 K0 ∧ NoNaN64 K1 ∧ NoNaN64 K2
set_option maxRecDepth 65536 in
set_option maxHeartbeats 40000000 in
theorem rm5s1 (l : Launch) (Z : State) (aw : Array Value) (hw : ∀ d ∈ tables_1, d.before aw Z = true) (ws : List Jvm.Cond) (a0 : Addr) (r1 : UInt64) (p2 : Int32) (w_keys_a0 : Addr) (w_numbers_a0 : Addr) (k_w_keys_a0 : ClassId) (xk_0 : UInt64) (xk_1 : UInt64) (xk_2 : UInt64) (k_w_numbers_a0 : ClassId) (xn_0 : Int32) (xn_1 : Int32) (xn_2 : Int32) (h0 : Heap) (n0 : Nat) (Z0 : n0 ≤ h0.size) (F_keys_a0 : Fld Z h0 a0 "com/example/constrained_flow/constrainedflow/planner/search/LeastFirst" "keys" "[D" (.ref w_keys_a0)) (F_numbers_a0 : Fld Z h0 a0 "com/example/constrained_flow/constrainedflow/planner/search/LeastFirst" "numbers" "[I" (.ref w_numbers_a0)) (F_size_a0 : Fld Z h0 a0 "com/example/constrained_flow/constrainedflow/planner/search/LeastFirst" "size" "I" (.int (1 : Int32))) (E_a0 : Exa Z h0 a0 "com/example/constrained_flow/constrainedflow/planner/search/LeastFirst") (V_w_keys_a0 : Arv Z h0 w_keys_a0 k_w_keys_a0 .double (3 : Int32) [(.double xk_0), (.double xk_1), (.double xk_2)] (.double (0 : UInt64))) (V_w_numbers_a0 : Arv Z h0 w_numbers_a0 k_w_numbers_a0 .int (3 : Int32) [(.int xn_0), (.int xn_1), (.int xn_2)] (.int (0 : Int32))) (ne_a0_w_keys_a0 : a0 ≠ w_keys_a0) (ne_a0_w_numbers_a0 : a0 ≠ w_numbers_a0) (ne_w_keys_a0_w_numbers_a0 : w_keys_a0 ≠ w_numbers_a0) (g_a0 : n0 ≤ a0) (g_w_keys_a0 : n0 ≤ w_keys_a0) (g_w_numbers_a0 : n0 ≤ w_numbers_a0) (hk0 : NoNaN64 xk_0) (hk1 : NoNaN64 xk_1) (hk2 : NoNaN64 xk_2) (hr1 : NoNaN64 r1) :
    MetFree l (⟨"com/example/constrained_flow/constrainedflow/planner/search/LeastFirst", "add", "(DI)V"⟩ : MethodName) (head1 (Jvm.Cond.code (⟨"com/example/constrained_flow/constrainedflow/planner/search/LeastFirst", "add", "(DI)V"⟩ : MethodName) prog_78_method_3_code 6 none :: ws) room5s1) (fun a U => a = #[(.ref a0), (.double r1), (.int p2)] ∧ Z.Warmed39 U.vm ∧ U.heap = h0) (fun _ _ _ _ _ => True) (fun _ U o U' => ∃ v L, o = .returned v ∧ Q5s1 Z a0 r1 p2 w_keys_a0 w_numbers_a0 k_w_keys_a0 xk_0 xk_1 xk_2 k_w_numbers_a0 xn_0 xn_1 xn_2 h0 n0 v U'.heap L ∧ FrameEnd U o U' L room5s1.cells room5s1.slots) := by
  refine MetFree.of_bodySF (plainFor_of_name pn_1) hisR ?_
  intro p e s m args below meth c s₁ Bd hml0 hP hK
  obtain ⟨rfl, hZ, hh⟩ := hP
  have hx := Bd.exec
  have hby := Bd.bytes
  have hml : c.maxLocals = 6 := hml0
  have hown : s.vm.findClass "com/example/constrained_flow/constrainedflow/planner/search/LeastFirst" = some m.cls := findClass_of_methodNamed Bd.named
  have hnm := (name_of_methodNamed Bd.named Bd.method).1
  have X0 : Stand p l e room5s1 s m #[(.ref a0), (.double r1), (.int p2)] below meth c s₁ [] 0 0 := Stand.of_body Bd
  have e0 : s₁.heap = h0 := by rw [← hh, Bd.state]; rfl
  have N0 := Fr.nil n0
  have K0 := Keep.refl h0 [a0, w_keys_a0, w_numbers_a0]
  rw [ef_5s1 m a0 r1 p2]
  refine go_in (s₁ := s₁) (Q := Q5s1 Z a0 r1 p2 w_keys_a0 w_numbers_a0 k_w_keys_a0 xk_0 xk_1 xk_2 k_w_numbers_a0 xn_0 xn_1 xn_2 h0 n0) fun F hF => ?_
  refine go (B := s₁.setTop (mkF m 1 #[.val (.ref a0), .val (.double r1), .second, .val (.int p2), .unset, .unset] [(.ref a0)])) (fun _ k => XS.aloadN X0.here hx rfl (hb hby d5_0) rfl rfl k) ?_
  refine go (B := s₁.setTop (mkF m 2 #[.val (.ref a0), .val (.double r1), .second, .val (.int p2), .unset, .unset] [(.ref a0), (.ref a0)])) (fun _ k => XS.dup X0.here hx rfl (hb hby d5_1) rfl rfl k) ?_
  obtain ⟨T1, X1, e1, st1⟩ := getF X0 hx hZ hown (host := "") (Or.inl (hw _ (List.mem_of_getElem? (i := 20) rfl))) Via.refl e0 F_size_a0 (g := (mkF m 2 #[.val (.ref a0), .val (.double r1), .second, .val (.int p2), .unset, .unset] [(.ref a0), (.ref a0)])) rfl rfl (hb hby d5_2)
  refine go (B := T1.setTop (mkF m 5 #[.val (.ref a0), .val (.double r1), .second, .val (.int p2), .unset, .unset] [(.int (1 : Int32)), (.ref a0)])) st1 ?_
  refine go (B := T1.setTop (mkF m 6 #[.val (.ref a0), .val (.double r1), .second, .val (.int p2), .unset, .unset] [(.int (1 : Int32)), (.ref a0), (.int (1 : Int32))])) (fun _ k => XS.dupX1 X1.here hx rfl (hb hby d5_5) rfl rfl rfl k) ?_
  refine go (B := T1.setTop (mkF m 7 #[.val (.ref a0), .val (.double r1), .second, .val (.int p2), .unset, .unset] [(.int (1 : Int32)), (.int (1 : Int32)), (.ref a0), (.int (1 : Int32))])) (fun _ k => XS.iconst X1.here hx rfl (hb hby d5_6) k) ?_
  refine go (B := T1.setTop (mkF m 8 #[.val (.ref a0), .val (.double r1), .second, .val (.int p2), .unset, .unset] [(.int (2 : Int32)), (.ref a0), (.int (1 : Int32))])) (fun _ k => XS.iadd X1.here hx rfl (hb hby d5_7) rfl k) ?_
  obtain ⟨T2, h2, X2, e2, W2, st2⟩ := putF X1 hx hZ hown (host := "") (Or.inl (hw _ (List.mem_of_getElem? (i := 20) rfl))) Via.refl e1 F_size_a0 E_a0 (Or.inl (hw _ (List.mem_of_getElem? (i := 21) rfl))) (hw _ (List.mem_of_getElem? (i := 1) rfl)) (ty := .int) (by decide) rfl rfl (g := (mkF m 8 #[.val (.ref a0), .val (.double r1), .second, .val (.int p2), .unset, .unset] [(.int (2 : Int32)), (.ref a0), (.int (1 : Int32))])) rfl rfl (hb hby d5_8)
  have F_keys_a0_2 := Fld.other W2 F_keys_a0 (Or.inr (slot_ne (Or.inr (hw _ (List.mem_of_getElem? (i := 11) rfl))) (Or.inl (hw _ (List.mem_of_getElem? (i := 21) rfl))) (by decide) (t := (.array .double)) (t' := .int) (by decide) (by decide)))
  have F_numbers_a0_2 := Fld.other W2 F_numbers_a0 (Or.inr (slot_ne (Or.inr (hw _ (List.mem_of_getElem? (i := 14) rfl))) (Or.inl (hw _ (List.mem_of_getElem? (i := 21) rfl))) (by decide) (t := (.array .int)) (t' := .int) (by decide) (by decide)))
  have E_a0_2 := E_a0.wr W2
  have V_w_keys_a0_2 := V_w_keys_a0.other W2 (Ne.symm ne_a0_w_keys_a0)
  have V_w_numbers_a0_2 := V_w_numbers_a0.other W2 (Ne.symm ne_a0_w_numbers_a0)
  have F_size_a0_2 := Fld.same W2 F_size_a0
  have Z2 := Nat.le_trans Z0 (Keep.of_wr W2).1
  have K2 := K0.wr W2 (Or.inl (List.mem_of_getElem? (i := 0) rfl))
  have N2 := Fr.snoc X2 N0 g_a0
  refine go (B := T2.setTop (mkF m 11 #[.val (.ref a0), .val (.double r1), .second, .val (.int p2), .unset, .unset] [(.int (1 : Int32))])) st2 ?_
  refine go (B := T2.setTop (mkF m 13 #[.val (.ref a0), .val (.double r1), .second, .val (.int p2), .val (.int (1 : Int32)), .unset] [])) (fun _ k => XS.istore X2.here hx rfl (hb hby d5_11) rfl (l' := #[.val (.ref a0), .val (.double r1), .second, .val (.int p2), .val (.int (1 : Int32)), .unset]) rfl k) ?_
  refine go (B := T2.setTop (mkF m 15 #[.val (.ref a0), .val (.double r1), .second, .val (.int p2), .val (.int (1 : Int32)), .unset] [(.int (1 : Int32))])) (fun _ k => XS.iload X2.here hx rfl (hb hby d5_13) rfl k) ?_
  refine go (B := T2.setTop (mkF m 18 #[.val (.ref a0), .val (.double r1), .second, .val (.int p2), .val (.int (1 : Int32)), .unset] [])) (fun _ k => XS.ifNo X2.here hx rfl (hb hby d5_15) rfl ((if0 _ _).trans (tlt (by decide : (0 : Int32) < (1 : Int32))).2.2.2) k) ?_
  refine go (B := T2.setTop (mkF m 20 #[.val (.ref a0), .val (.double r1), .second, .val (.int p2), .val (.int (1 : Int32)), .unset] [(.int (1 : Int32))])) (fun _ k => XS.iload X2.here hx rfl (hb hby d5_18) rfl k) ?_
  refine go (B := T2.setTop (mkF m 21 #[.val (.ref a0), .val (.double r1), .second, .val (.int p2), .val (.int (1 : Int32)), .unset] [(.int (1 : Int32)), (.int (1 : Int32))])) (fun _ k => XS.iconst X2.here hx rfl (hb hby d5_20) k) ?_
  refine go (B := T2.setTop (mkF m 22 #[.val (.ref a0), .val (.double r1), .second, .val (.int p2), .val (.int (1 : Int32)), .unset] [(.int (0 : Int32))])) (fun _ k => XS.isub X2.here hx rfl (hb hby d5_21) rfl k) ?_
  refine go (B := T2.setTop (mkF m 23 #[.val (.ref a0), .val (.double r1), .second, .val (.int p2), .val (.int (1 : Int32)), .unset] [(.int (1 : Int32)), (.int (0 : Int32))])) (fun _ k => XS.iconst X2.here hx rfl (hb hby d5_22) k) ?_
  refine go (B := T2.setTop (mkF m 24 #[.val (.ref a0), .val (.double r1), .second, .val (.int p2), .val (.int (1 : Int32)), .unset] [(.int (0 : Int32))])) (fun _ k => XS.iushr X2.here hx rfl (hb hby d5_23) rfl k) ?_
  refine go (B := T2.setTop (mkF m 26 #[.val (.ref a0), .val (.double r1), .second, .val (.int p2), .val (.int (1 : Int32)), .val (.int (0 : Int32))] [])) (fun _ k => XS.istore X2.here hx rfl (hb hby d5_24) rfl (l' := #[.val (.ref a0), .val (.double r1), .second, .val (.int p2), .val (.int (1 : Int32)), .val (.int (0 : Int32))]) rfl k) ?_
  refine go (B := T2.setTop (mkF m 27 #[.val (.ref a0), .val (.double r1), .second, .val (.int p2), .val (.int (1 : Int32)), .val (.int (0 : Int32))] [(.double r1)])) (fun _ k => XS.dloadN X2.here hx rfl (hb hby d5_26) rfl k) ?_
  refine go (B := T2.setTop (mkF m 28 #[.val (.ref a0), .val (.double r1), .second, .val (.int p2), .val (.int (1 : Int32)), .val (.int (0 : Int32))] [(.ref a0), (.double r1)])) (fun _ k => XS.aloadN X2.here hx rfl (hb hby d5_27) rfl rfl k) ?_
  obtain ⟨T3, X3, e3, st3⟩ := getF X2 hx hZ hown (host := "") (Or.inl (hw _ (List.mem_of_getElem? (i := 10) rfl))) Via.refl e2 F_keys_a0_2 (g := (mkF m 28 #[.val (.ref a0), .val (.double r1), .second, .val (.int p2), .val (.int (1 : Int32)), .val (.int (0 : Int32))] [(.ref a0), (.double r1)])) rfl rfl (hb hby d5_28)
  refine go (B := T3.setTop (mkF m 31 #[.val (.ref a0), .val (.double r1), .second, .val (.int p2), .val (.int (1 : Int32)), .val (.int (0 : Int32))] [(.ref w_keys_a0), (.double r1)])) st3 ?_
  refine go (B := T3.setTop (mkF m 33 #[.val (.ref a0), .val (.double r1), .second, .val (.int p2), .val (.int (1 : Int32)), .val (.int (0 : Int32))] [(.int (0 : Int32)), (.ref w_keys_a0), (.double r1)])) (fun _ k => XS.iload X3.here hx rfl (hb hby d5_31) rfl k) ?_
  obtain ⟨cl4, Ar4, qa4, Sa4, Na4, Ha4, Ga4⟩ := id V_w_keys_a0_2
  have hin4 : ¬ ((0 : Int32) < 0 ∨ cl4.slots.size ≤ ((0 : Int32)).toNatClampNeg) := inb_of Sa4 ⟨by decide, by decide⟩
  have hat4 : cl4.slots[((0 : Int32)).toNatClampNeg]? = some (.double xk_0) := Has.at Ha4 hin4 rfl
  refine go (B := T3.setTop (mkF m 34 #[.val (.ref a0), .val (.double r1), .second, .val (.int p2), .val (.int (1 : Int32)), .val (.int (0 : Int32))] [(.double xk_0), (.double r1)])) (fun _ k => X3.daload hx (j := (0 : Int32)) (v := (.double xk_0)) (by rw [e3]; exact Ar4.1) (State.isArrayOf_alike hZ.alike Ar4.2.1) Ar4.2.2 hin4 hat4 (g := (mkF m 33 #[.val (.ref a0), .val (.double r1), .second, .val (.int p2), .val (.int (1 : Int32)), .val (.int (0 : Int32))] [(.int (0 : Int32)), (.ref w_keys_a0), (.double r1)])) rfl rfl (hb hby d5_33) _ k) ?_
  obtain ⟨_, _, ⟨T5, L5, k5, n5⟩, -, X5, ⟨Lc5, hQ5, l5, y5, z5⟩, st5⟩ := Jvm.LawKit.callS X3 hx (y := (⟨"java/lang/Double", "compare", "(DD)I"⟩ : MethodName)) hown (mvT hZ (hw _ (List.mem_of_getElem? (i := 31) rfl))) (mvT hZ (hw _ (List.mem_of_getElem? (i := 32) rfl))) (mvT hZ (hw _ (List.mem_of_getElem? (i := 33) rfl))) (mvT hZ (hw _ (List.mem_of_getElem? (i := 34) rfl))) (by decide) (backOf (W := 0) (rm6 l Z aw hw [] r1 xk_0 h2 n0 Z2 hr1 hk0) hZ (hw _ (List.mem_of_getElem? (i := 34) rfl)) (hw _ (List.mem_of_getElem? (i := 33) rfl)) (by decide) (by decide)) (g := (mkF m 34 #[.val (.ref a0), .val (.double r1), .second, .val (.int p2), .val (.int (1 : Int32)), .val (.int (0 : Int32))] [(.double xk_0), (.double r1)])) rfl (by rw [hml]; rfl) (argsL := [(.double r1), (.double xk_0)]) (rest := []) (lenOf pd_2 rfl) rfl (by show 2 * 0 + _ ≤ _; exact Nat.le_of_eq rfl) (hb hby d5_34) (fun _ _ => ⟨rfl, e3, (by decide : 0 + 0 ≤ _), (by decide : 0 + 0 ≤ _)⟩)
  dsimp only [Pt.U, Pt.locs, Pt.cells, Pt.slots] at X5 l5 y5 z5 st5 hQ5
  subst l5 y5 z5
  obtain ⟨rfl, rfl, e5⟩ := hQ5
  have N5 := Fr.app N2 (Fr.nil n0)
  refine go (B := T5.setTop (mkF m 37 #[.val (.ref a0), .val (.double r1), .second, .val (.int p2), .val (.int (1 : Int32)), .val (.int (0 : Int32))] [(.int (f6 r1 xk_0))])) (fun _ k => st5 _ k) ?_
  by_cases hc6 : (f6 r1 xk_0) < (0 : Int32)
  · refine go (B := T5.setTop (mkF m 43 #[.val (.ref a0), .val (.double r1), .second, .val (.int p2), .val (.int (1 : Int32)), .val (.int (0 : Int32))] [])) (fun _ k => XS.ifYes X5.here hx rfl (pc0 := 37) (pc' := 43) rfl (hb hby d5_37) rfl ((if0 _ _).trans (tlt hc6).1) (by decide) (by decide) k) ?_
    refine go (B := T5.setTop (mkF m 44 #[.val (.ref a0), .val (.double r1), .second, .val (.int p2), .val (.int (1 : Int32)), .val (.int (0 : Int32))] [(.ref a0)])) (fun _ k => XS.aloadN X5.here hx rfl (hb hby d5_43) rfl rfl k) ?_
    obtain ⟨T7, X7, e7, st7⟩ := getF X5 hx hZ hown (host := "") (Or.inl (hw _ (List.mem_of_getElem? (i := 10) rfl))) Via.refl e5 F_keys_a0_2 (g := (mkF m 44 #[.val (.ref a0), .val (.double r1), .second, .val (.int p2), .val (.int (1 : Int32)), .val (.int (0 : Int32))] [(.ref a0)])) rfl rfl (hb hby d5_44)
    refine go (B := T7.setTop (mkF m 47 #[.val (.ref a0), .val (.double r1), .second, .val (.int p2), .val (.int (1 : Int32)), .val (.int (0 : Int32))] [(.ref w_keys_a0)])) st7 ?_
    refine go (B := T7.setTop (mkF m 49 #[.val (.ref a0), .val (.double r1), .second, .val (.int p2), .val (.int (1 : Int32)), .val (.int (0 : Int32))] [(.int (1 : Int32)), (.ref w_keys_a0)])) (fun _ k => XS.iload X7.here hx rfl (hb hby d5_47) rfl k) ?_
    refine go (B := T7.setTop (mkF m 50 #[.val (.ref a0), .val (.double r1), .second, .val (.int p2), .val (.int (1 : Int32)), .val (.int (0 : Int32))] [(.ref a0), (.int (1 : Int32)), (.ref w_keys_a0)])) (fun _ k => XS.aloadN X7.here hx rfl (hb hby d5_49) rfl rfl k) ?_
    obtain ⟨T8, X8, e8, st8⟩ := getF X7 hx hZ hown (host := "") (Or.inl (hw _ (List.mem_of_getElem? (i := 10) rfl))) Via.refl e7 F_keys_a0_2 (g := (mkF m 50 #[.val (.ref a0), .val (.double r1), .second, .val (.int p2), .val (.int (1 : Int32)), .val (.int (0 : Int32))] [(.ref a0), (.int (1 : Int32)), (.ref w_keys_a0)])) rfl rfl (hb hby d5_50)
    refine go (B := T8.setTop (mkF m 53 #[.val (.ref a0), .val (.double r1), .second, .val (.int p2), .val (.int (1 : Int32)), .val (.int (0 : Int32))] [(.ref w_keys_a0), (.int (1 : Int32)), (.ref w_keys_a0)])) st8 ?_
    refine go (B := T8.setTop (mkF m 55 #[.val (.ref a0), .val (.double r1), .second, .val (.int p2), .val (.int (1 : Int32)), .val (.int (0 : Int32))] [(.int (0 : Int32)), (.ref w_keys_a0), (.int (1 : Int32)), (.ref w_keys_a0)])) (fun _ k => XS.iload X8.here hx rfl (hb hby d5_53) rfl k) ?_
    obtain ⟨cl9, Ar9, qa9, Sa9, Na9, Ha9, Ga9⟩ := id V_w_keys_a0_2
    have hin9 : ¬ ((0 : Int32) < 0 ∨ cl9.slots.size ≤ ((0 : Int32)).toNatClampNeg) := inb_of Sa9 ⟨by decide, by decide⟩
    have hat9 : cl9.slots[((0 : Int32)).toNatClampNeg]? = some (.double xk_0) := Has.at Ha9 hin9 rfl
    refine go (B := T8.setTop (mkF m 56 #[.val (.ref a0), .val (.double r1), .second, .val (.int p2), .val (.int (1 : Int32)), .val (.int (0 : Int32))] [(.double xk_0), (.int (1 : Int32)), (.ref w_keys_a0)])) (fun _ k => X8.daload hx (j := (0 : Int32)) (v := (.double xk_0)) (by rw [e8]; exact Ar9.1) (State.isArrayOf_alike hZ.alike Ar9.2.1) Ar9.2.2 hin9 hat9 (g := (mkF m 55 #[.val (.ref a0), .val (.double r1), .second, .val (.int p2), .val (.int (1 : Int32)), .val (.int (0 : Int32))] [(.int (0 : Int32)), (.ref w_keys_a0), (.int (1 : Int32)), (.ref w_keys_a0)])) rfl rfl (hb hby d5_55) _ k) ?_
    obtain ⟨cl10, Ar10, qa10, Sa10, Na10, Ha10, Ga10⟩ := id V_w_keys_a0_2
    have hin10 : ¬ ((1 : Int32) < 0 ∨ cl10.slots.size ≤ ((1 : Int32)).toNatClampNeg) := inb_of Sa10 ⟨by decide, by decide⟩
    obtain ⟨T10, h10, X10, e10, W10, st10⟩ := stD X8 hx hZ e8 Ar10 (j := (1 : Int32)) hin10 (g := (mkF m 56 #[.val (.ref a0), .val (.double r1), .second, .val (.int p2), .val (.int (1 : Int32)), .val (.int (0 : Int32))] [(.double xk_0), (.int (1 : Int32)), (.ref w_keys_a0)])) rfl rfl (hb hby d5_56)
    have F_keys_a0_10 := Fld.other W10 F_keys_a0_2 (Or.inl ne_a0_w_keys_a0)
    have F_numbers_a0_10 := Fld.other W10 F_numbers_a0_2 (Or.inl ne_a0_w_keys_a0)
    have E_a0_10 := E_a0_2.wr W10
    have V_w_numbers_a0_10 := V_w_numbers_a0_2.other W10 (Ne.symm ne_w_keys_a0_w_numbers_a0)
    have F_size_a0_10 := Fld.other W10 F_size_a0_2 (Or.inl ne_a0_w_keys_a0)
    have Z10 := Nat.le_trans Z2 (Keep.of_wr W10).1
    have K10 := K2.wr W10 (Or.inl (List.mem_of_getElem? (i := 1) rfl))
    have N10 := Fr.snoc X10 N5 g_w_keys_a0
    have V_w_keys_a0_10 : Arv Z h10 w_keys_a0 k_w_keys_a0 .double (3 : Int32) [(.double xk_0), (.double xk_0), (.double xk_2)] (.double (0 : UInt64)) := Arv.set Ar10 qa10 Sa10 Na10 Ha10 Ga10 rfl W10 1 rfl (Nat.le_of_ble_eq_true rfl)
    refine go (B := T10.setTop (mkF m 57 #[.val (.ref a0), .val (.double r1), .second, .val (.int p2), .val (.int (1 : Int32)), .val (.int (0 : Int32))] [])) st10 ?_
    refine go (B := T10.setTop (mkF m 58 #[.val (.ref a0), .val (.double r1), .second, .val (.int p2), .val (.int (1 : Int32)), .val (.int (0 : Int32))] [(.ref a0)])) (fun _ k => XS.aloadN X10.here hx rfl (hb hby d5_57) rfl rfl k) ?_
    obtain ⟨T11, X11, e11, st11⟩ := getF X10 hx hZ hown (host := "") (Or.inl (hw _ (List.mem_of_getElem? (i := 13) rfl))) Via.refl e10 F_numbers_a0_10 (g := (mkF m 58 #[.val (.ref a0), .val (.double r1), .second, .val (.int p2), .val (.int (1 : Int32)), .val (.int (0 : Int32))] [(.ref a0)])) rfl rfl (hb hby d5_58)
    refine go (B := T11.setTop (mkF m 61 #[.val (.ref a0), .val (.double r1), .second, .val (.int p2), .val (.int (1 : Int32)), .val (.int (0 : Int32))] [(.ref w_numbers_a0)])) st11 ?_
    refine go (B := T11.setTop (mkF m 63 #[.val (.ref a0), .val (.double r1), .second, .val (.int p2), .val (.int (1 : Int32)), .val (.int (0 : Int32))] [(.int (1 : Int32)), (.ref w_numbers_a0)])) (fun _ k => XS.iload X11.here hx rfl (hb hby d5_61) rfl k) ?_
    refine go (B := T11.setTop (mkF m 64 #[.val (.ref a0), .val (.double r1), .second, .val (.int p2), .val (.int (1 : Int32)), .val (.int (0 : Int32))] [(.ref a0), (.int (1 : Int32)), (.ref w_numbers_a0)])) (fun _ k => XS.aloadN X11.here hx rfl (hb hby d5_63) rfl rfl k) ?_
    obtain ⟨T12, X12, e12, st12⟩ := getF X11 hx hZ hown (host := "") (Or.inl (hw _ (List.mem_of_getElem? (i := 13) rfl))) Via.refl e11 F_numbers_a0_10 (g := (mkF m 64 #[.val (.ref a0), .val (.double r1), .second, .val (.int p2), .val (.int (1 : Int32)), .val (.int (0 : Int32))] [(.ref a0), (.int (1 : Int32)), (.ref w_numbers_a0)])) rfl rfl (hb hby d5_64)
    refine go (B := T12.setTop (mkF m 67 #[.val (.ref a0), .val (.double r1), .second, .val (.int p2), .val (.int (1 : Int32)), .val (.int (0 : Int32))] [(.ref w_numbers_a0), (.int (1 : Int32)), (.ref w_numbers_a0)])) st12 ?_
    refine go (B := T12.setTop (mkF m 69 #[.val (.ref a0), .val (.double r1), .second, .val (.int p2), .val (.int (1 : Int32)), .val (.int (0 : Int32))] [(.int (0 : Int32)), (.ref w_numbers_a0), (.int (1 : Int32)), (.ref w_numbers_a0)])) (fun _ k => XS.iload X12.here hx rfl (hb hby d5_67) rfl k) ?_
    obtain ⟨cl13, Ar13, qa13, Sa13, Na13, Ha13, Ga13⟩ := id V_w_numbers_a0_10
    have hin13 : ¬ ((0 : Int32) < 0 ∨ cl13.slots.size ≤ ((0 : Int32)).toNatClampNeg) := inb_of Sa13 ⟨by decide, by decide⟩
    have hat13 : cl13.slots[((0 : Int32)).toNatClampNeg]? = some (.int xn_0) := Has.at Ha13 hin13 rfl
    refine go (B := T12.setTop (mkF m 70 #[.val (.ref a0), .val (.double r1), .second, .val (.int p2), .val (.int (1 : Int32)), .val (.int (0 : Int32))] [(.int xn_0), (.int (1 : Int32)), (.ref w_numbers_a0)])) (fun _ k => X12.iaload hx (j := (0 : Int32)) (v := (.int xn_0)) (by rw [e12]; exact Ar13.1) (State.isArrayOf_alike hZ.alike Ar13.2.1) Ar13.2.2 hin13 hat13 (g := (mkF m 69 #[.val (.ref a0), .val (.double r1), .second, .val (.int p2), .val (.int (1 : Int32)), .val (.int (0 : Int32))] [(.int (0 : Int32)), (.ref w_numbers_a0), (.int (1 : Int32)), (.ref w_numbers_a0)])) rfl rfl (hb hby d5_69) _ k) ?_
    obtain ⟨cl14, Ar14, qa14, Sa14, Na14, Ha14, Ga14⟩ := id V_w_numbers_a0_10
    have hin14 : ¬ ((1 : Int32) < 0 ∨ cl14.slots.size ≤ ((1 : Int32)).toNatClampNeg) := inb_of Sa14 ⟨by decide, by decide⟩
    obtain ⟨T14, h14, X14, e14, W14, st14⟩ := stI X12 hx hZ e12 Ar14 (j := (1 : Int32)) hin14 (g := (mkF m 70 #[.val (.ref a0), .val (.double r1), .second, .val (.int p2), .val (.int (1 : Int32)), .val (.int (0 : Int32))] [(.int xn_0), (.int (1 : Int32)), (.ref w_numbers_a0)])) rfl rfl (hb hby d5_70)
    have F_keys_a0_14 := Fld.other W14 F_keys_a0_10 (Or.inl ne_a0_w_numbers_a0)
    have F_numbers_a0_14 := Fld.other W14 F_numbers_a0_10 (Or.inl ne_a0_w_numbers_a0)
    have E_a0_14 := E_a0_10.wr W14
    have F_size_a0_14 := Fld.other W14 F_size_a0_10 (Or.inl ne_a0_w_numbers_a0)
    have V_w_keys_a0_14 := V_w_keys_a0_10.other W14 ne_w_keys_a0_w_numbers_a0
    have Z14 := Nat.le_trans Z10 (Keep.of_wr W14).1
    have K14 := K10.wr W14 (Or.inl (List.mem_of_getElem? (i := 2) rfl))
    have N14 := Fr.snoc X14 N10 g_w_numbers_a0
    have V_w_numbers_a0_14 : Arv Z h14 w_numbers_a0 k_w_numbers_a0 .int (3 : Int32) [(.int xn_0), (.int xn_0), (.int xn_2)] (.int (0 : Int32)) := Arv.set Ar14 qa14 Sa14 Na14 Ha14 Ga14 rfl W14 1 rfl (Nat.le_of_ble_eq_true rfl)
    refine go (B := T14.setTop (mkF m 71 #[.val (.ref a0), .val (.double r1), .second, .val (.int p2), .val (.int (1 : Int32)), .val (.int (0 : Int32))] [])) st14 ?_
    refine go (B := T14.setTop (mkF m 73 #[.val (.ref a0), .val (.double r1), .second, .val (.int p2), .val (.int (1 : Int32)), .val (.int (0 : Int32))] [(.int (0 : Int32))])) (fun _ k => XS.iload X14.here hx rfl (hb hby d5_71) rfl k) ?_
    refine go (B := T14.setTop (mkF m 75 #[.val (.ref a0), .val (.double r1), .second, .val (.int p2), .val (.int (0 : Int32)), .val (.int (0 : Int32))] [])) (fun _ k => XS.istore X14.here hx rfl (hb hby d5_73) rfl (l' := #[.val (.ref a0), .val (.double r1), .second, .val (.int p2), .val (.int (0 : Int32)), .val (.int (0 : Int32))]) rfl k) ?_
    refine go (B := T14.setTop (mkF m 13 #[.val (.ref a0), .val (.double r1), .second, .val (.int p2), .val (.int (0 : Int32)), .val (.int (0 : Int32))] [])) (fun _ k => XS.goto X14.here hx rfl (pc0 := 75) (pc' := 13) rfl (hb hby d5_75) (by decide) (by decide) k) ?_
    refine go (B := T14.setTop (mkF m 15 #[.val (.ref a0), .val (.double r1), .second, .val (.int p2), .val (.int (0 : Int32)), .val (.int (0 : Int32))] [(.int (0 : Int32))])) (fun _ k => XS.iload X14.here hx rfl (hb hby d5_13) rfl k) ?_
    refine go (B := T14.setTop (mkF m 78 #[.val (.ref a0), .val (.double r1), .second, .val (.int p2), .val (.int (0 : Int32)), .val (.int (0 : Int32))] [])) (fun _ k => XS.ifYes X14.here hx rfl (pc0 := 15) (pc' := 78) rfl (hb hby d5_15) rfl ((if0 _ _).trans (flt (by decide : ¬ ((0 : Int32) < (0 : Int32)))).2.2.2) (by decide) (by decide) k) ?_
    refine go (B := T14.setTop (mkF m 79 #[.val (.ref a0), .val (.double r1), .second, .val (.int p2), .val (.int (0 : Int32)), .val (.int (0 : Int32))] [(.ref a0)])) (fun _ k => XS.aloadN X14.here hx rfl (hb hby d5_78) rfl rfl k) ?_
    obtain ⟨T15, X15, e15, st15⟩ := getF X14 hx hZ hown (host := "") (Or.inl (hw _ (List.mem_of_getElem? (i := 10) rfl))) Via.refl e14 F_keys_a0_14 (g := (mkF m 79 #[.val (.ref a0), .val (.double r1), .second, .val (.int p2), .val (.int (0 : Int32)), .val (.int (0 : Int32))] [(.ref a0)])) rfl rfl (hb hby d5_79)
    refine go (B := T15.setTop (mkF m 82 #[.val (.ref a0), .val (.double r1), .second, .val (.int p2), .val (.int (0 : Int32)), .val (.int (0 : Int32))] [(.ref w_keys_a0)])) st15 ?_
    refine go (B := T15.setTop (mkF m 84 #[.val (.ref a0), .val (.double r1), .second, .val (.int p2), .val (.int (0 : Int32)), .val (.int (0 : Int32))] [(.int (0 : Int32)), (.ref w_keys_a0)])) (fun _ k => XS.iload X15.here hx rfl (hb hby d5_82) rfl k) ?_
    refine go (B := T15.setTop (mkF m 85 #[.val (.ref a0), .val (.double r1), .second, .val (.int p2), .val (.int (0 : Int32)), .val (.int (0 : Int32))] [(.double r1), (.int (0 : Int32)), (.ref w_keys_a0)])) (fun _ k => XS.dloadN X15.here hx rfl (hb hby d5_84) rfl k) ?_
    obtain ⟨cl16, Ar16, qa16, Sa16, Na16, Ha16, Ga16⟩ := id V_w_keys_a0_14
    have hin16 : ¬ ((0 : Int32) < 0 ∨ cl16.slots.size ≤ ((0 : Int32)).toNatClampNeg) := inb_of Sa16 ⟨by decide, by decide⟩
    obtain ⟨T16, h16, X16, e16, W16, st16⟩ := stD X15 hx hZ e15 Ar16 (j := (0 : Int32)) hin16 (g := (mkF m 85 #[.val (.ref a0), .val (.double r1), .second, .val (.int p2), .val (.int (0 : Int32)), .val (.int (0 : Int32))] [(.double r1), (.int (0 : Int32)), (.ref w_keys_a0)])) rfl rfl (hb hby d5_85)
    have F_keys_a0_16 := Fld.other W16 F_keys_a0_14 (Or.inl ne_a0_w_keys_a0)
    have F_numbers_a0_16 := Fld.other W16 F_numbers_a0_14 (Or.inl ne_a0_w_keys_a0)
    have E_a0_16 := E_a0_14.wr W16
    have F_size_a0_16 := Fld.other W16 F_size_a0_14 (Or.inl ne_a0_w_keys_a0)
    have V_w_numbers_a0_16 := V_w_numbers_a0_14.other W16 (Ne.symm ne_w_keys_a0_w_numbers_a0)
    have Z16 := Nat.le_trans Z14 (Keep.of_wr W16).1
    have K16 := K14.wr W16 (Or.inl (List.mem_of_getElem? (i := 1) rfl))
    have N16 := Fr.snoc X16 N14 g_w_keys_a0
    have V_w_keys_a0_16 : Arv Z h16 w_keys_a0 k_w_keys_a0 .double (3 : Int32) [(.double r1), (.double xk_0), (.double xk_2)] (.double (0 : UInt64)) := Arv.set Ar16 qa16 Sa16 Na16 Ha16 Ga16 rfl W16 0 rfl (Nat.le_of_ble_eq_true rfl)
    refine go (B := T16.setTop (mkF m 86 #[.val (.ref a0), .val (.double r1), .second, .val (.int p2), .val (.int (0 : Int32)), .val (.int (0 : Int32))] [])) st16 ?_
    refine go (B := T16.setTop (mkF m 87 #[.val (.ref a0), .val (.double r1), .second, .val (.int p2), .val (.int (0 : Int32)), .val (.int (0 : Int32))] [(.ref a0)])) (fun _ k => XS.aloadN X16.here hx rfl (hb hby d5_86) rfl rfl k) ?_
    obtain ⟨T17, X17, e17, st17⟩ := getF X16 hx hZ hown (host := "") (Or.inl (hw _ (List.mem_of_getElem? (i := 13) rfl))) Via.refl e16 F_numbers_a0_16 (g := (mkF m 87 #[.val (.ref a0), .val (.double r1), .second, .val (.int p2), .val (.int (0 : Int32)), .val (.int (0 : Int32))] [(.ref a0)])) rfl rfl (hb hby d5_87)
    refine go (B := T17.setTop (mkF m 90 #[.val (.ref a0), .val (.double r1), .second, .val (.int p2), .val (.int (0 : Int32)), .val (.int (0 : Int32))] [(.ref w_numbers_a0)])) st17 ?_
    refine go (B := T17.setTop (mkF m 92 #[.val (.ref a0), .val (.double r1), .second, .val (.int p2), .val (.int (0 : Int32)), .val (.int (0 : Int32))] [(.int (0 : Int32)), (.ref w_numbers_a0)])) (fun _ k => XS.iload X17.here hx rfl (hb hby d5_90) rfl k) ?_
    refine go (B := T17.setTop (mkF m 93 #[.val (.ref a0), .val (.double r1), .second, .val (.int p2), .val (.int (0 : Int32)), .val (.int (0 : Int32))] [(.int p2), (.int (0 : Int32)), (.ref w_numbers_a0)])) (fun _ k => XS.iloadN X17.here hx rfl (hb hby d5_92) rfl k) ?_
    obtain ⟨cl18, Ar18, qa18, Sa18, Na18, Ha18, Ga18⟩ := id V_w_numbers_a0_16
    have hin18 : ¬ ((0 : Int32) < 0 ∨ cl18.slots.size ≤ ((0 : Int32)).toNatClampNeg) := inb_of Sa18 ⟨by decide, by decide⟩
    obtain ⟨T18, h18, X18, e18, W18, st18⟩ := stI X17 hx hZ e17 Ar18 (j := (0 : Int32)) hin18 (g := (mkF m 93 #[.val (.ref a0), .val (.double r1), .second, .val (.int p2), .val (.int (0 : Int32)), .val (.int (0 : Int32))] [(.int p2), (.int (0 : Int32)), (.ref w_numbers_a0)])) rfl rfl (hb hby d5_93)
    have F_keys_a0_18 := Fld.other W18 F_keys_a0_16 (Or.inl ne_a0_w_numbers_a0)
    have F_numbers_a0_18 := Fld.other W18 F_numbers_a0_16 (Or.inl ne_a0_w_numbers_a0)
    have E_a0_18 := E_a0_16.wr W18
    have F_size_a0_18 := Fld.other W18 F_size_a0_16 (Or.inl ne_a0_w_numbers_a0)
    have V_w_keys_a0_18 := V_w_keys_a0_16.other W18 ne_w_keys_a0_w_numbers_a0
    have Z18 := Nat.le_trans Z16 (Keep.of_wr W18).1
    have K18 := K16.wr W18 (Or.inl (List.mem_of_getElem? (i := 2) rfl))
    have N18 := Fr.snoc X18 N16 g_w_numbers_a0
    have V_w_numbers_a0_18 : Arv Z h18 w_numbers_a0 k_w_numbers_a0 .int (3 : Int32) [(.int p2), (.int xn_0), (.int xn_2)] (.int (0 : Int32)) := Arv.set Ar18 qa18 Sa18 Na18 Ha18 Ga18 rfl W18 0 rfl (Nat.le_of_ble_eq_true rfl)
    refine go (B := T18.setTop (mkF m 94 #[.val (.ref a0), .val (.double r1), .second, .val (.int p2), .val (.int (0 : Int32)), .val (.int (0 : Int32))] [])) st18 ?_
    exact end_void X18 hx Bd.notSynchronized Bd.returns (hb hby d5_94) hF e18 (by decide) (by decide) ⟨r1, xk_0, xk_2, p2, xn_0, xn_2, rfl, N18, K18, E_a0_18, F_keys_a0_18, F_numbers_a0_18, F_size_a0_18, V_w_keys_a0_18, V_w_numbers_a0_18, hr1, hk0, hk2⟩
  · refine go (B := T5.setTop (mkF m 40 #[.val (.ref a0), .val (.double r1), .second, .val (.int p2), .val (.int (1 : Int32)), .val (.int (0 : Int32))] [])) (fun _ k => XS.ifNo X5.here hx rfl (hb hby d5_37) rfl ((if0 _ _).trans (flt hc6).1) k) ?_
    refine go (B := T5.setTop (mkF m 78 #[.val (.ref a0), .val (.double r1), .second, .val (.int p2), .val (.int (1 : Int32)), .val (.int (0 : Int32))] [])) (fun _ k => XS.goto X5.here hx rfl (pc0 := 40) (pc' := 78) rfl (hb hby d5_40) (by decide) (by decide) k) ?_
    refine go (B := T5.setTop (mkF m 79 #[.val (.ref a0), .val (.double r1), .second, .val (.int p2), .val (.int (1 : Int32)), .val (.int (0 : Int32))] [(.ref a0)])) (fun _ k => XS.aloadN X5.here hx rfl (hb hby d5_78) rfl rfl k) ?_
    obtain ⟨T19, X19, e19, st19⟩ := getF X5 hx hZ hown (host := "") (Or.inl (hw _ (List.mem_of_getElem? (i := 10) rfl))) Via.refl e5 F_keys_a0_2 (g := (mkF m 79 #[.val (.ref a0), .val (.double r1), .second, .val (.int p2), .val (.int (1 : Int32)), .val (.int (0 : Int32))] [(.ref a0)])) rfl rfl (hb hby d5_79)
    refine go (B := T19.setTop (mkF m 82 #[.val (.ref a0), .val (.double r1), .second, .val (.int p2), .val (.int (1 : Int32)), .val (.int (0 : Int32))] [(.ref w_keys_a0)])) st19 ?_
    refine go (B := T19.setTop (mkF m 84 #[.val (.ref a0), .val (.double r1), .second, .val (.int p2), .val (.int (1 : Int32)), .val (.int (0 : Int32))] [(.int (1 : Int32)), (.ref w_keys_a0)])) (fun _ k => XS.iload X19.here hx rfl (hb hby d5_82) rfl k) ?_
    refine go (B := T19.setTop (mkF m 85 #[.val (.ref a0), .val (.double r1), .second, .val (.int p2), .val (.int (1 : Int32)), .val (.int (0 : Int32))] [(.double r1), (.int (1 : Int32)), (.ref w_keys_a0)])) (fun _ k => XS.dloadN X19.here hx rfl (hb hby d5_84) rfl k) ?_
    obtain ⟨cl20, Ar20, qa20, Sa20, Na20, Ha20, Ga20⟩ := id V_w_keys_a0_2
    have hin20 : ¬ ((1 : Int32) < 0 ∨ cl20.slots.size ≤ ((1 : Int32)).toNatClampNeg) := inb_of Sa20 ⟨by decide, by decide⟩
    obtain ⟨T20, h20, X20, e20, W20, st20⟩ := stD X19 hx hZ e19 Ar20 (j := (1 : Int32)) hin20 (g := (mkF m 85 #[.val (.ref a0), .val (.double r1), .second, .val (.int p2), .val (.int (1 : Int32)), .val (.int (0 : Int32))] [(.double r1), (.int (1 : Int32)), (.ref w_keys_a0)])) rfl rfl (hb hby d5_85)
    have F_keys_a0_20 := Fld.other W20 F_keys_a0_2 (Or.inl ne_a0_w_keys_a0)
    have F_numbers_a0_20 := Fld.other W20 F_numbers_a0_2 (Or.inl ne_a0_w_keys_a0)
    have E_a0_20 := E_a0_2.wr W20
    have V_w_numbers_a0_20 := V_w_numbers_a0_2.other W20 (Ne.symm ne_w_keys_a0_w_numbers_a0)
    have F_size_a0_20 := Fld.other W20 F_size_a0_2 (Or.inl ne_a0_w_keys_a0)
    have Z20 := Nat.le_trans Z2 (Keep.of_wr W20).1
    have K20 := K2.wr W20 (Or.inl (List.mem_of_getElem? (i := 1) rfl))
    have N20 := Fr.snoc X20 N5 g_w_keys_a0
    have V_w_keys_a0_20 : Arv Z h20 w_keys_a0 k_w_keys_a0 .double (3 : Int32) [(.double xk_0), (.double r1), (.double xk_2)] (.double (0 : UInt64)) := Arv.set Ar20 qa20 Sa20 Na20 Ha20 Ga20 rfl W20 1 rfl (Nat.le_of_ble_eq_true rfl)
    refine go (B := T20.setTop (mkF m 86 #[.val (.ref a0), .val (.double r1), .second, .val (.int p2), .val (.int (1 : Int32)), .val (.int (0 : Int32))] [])) st20 ?_
    refine go (B := T20.setTop (mkF m 87 #[.val (.ref a0), .val (.double r1), .second, .val (.int p2), .val (.int (1 : Int32)), .val (.int (0 : Int32))] [(.ref a0)])) (fun _ k => XS.aloadN X20.here hx rfl (hb hby d5_86) rfl rfl k) ?_
    obtain ⟨T21, X21, e21, st21⟩ := getF X20 hx hZ hown (host := "") (Or.inl (hw _ (List.mem_of_getElem? (i := 13) rfl))) Via.refl e20 F_numbers_a0_20 (g := (mkF m 87 #[.val (.ref a0), .val (.double r1), .second, .val (.int p2), .val (.int (1 : Int32)), .val (.int (0 : Int32))] [(.ref a0)])) rfl rfl (hb hby d5_87)
    refine go (B := T21.setTop (mkF m 90 #[.val (.ref a0), .val (.double r1), .second, .val (.int p2), .val (.int (1 : Int32)), .val (.int (0 : Int32))] [(.ref w_numbers_a0)])) st21 ?_
    refine go (B := T21.setTop (mkF m 92 #[.val (.ref a0), .val (.double r1), .second, .val (.int p2), .val (.int (1 : Int32)), .val (.int (0 : Int32))] [(.int (1 : Int32)), (.ref w_numbers_a0)])) (fun _ k => XS.iload X21.here hx rfl (hb hby d5_90) rfl k) ?_
    refine go (B := T21.setTop (mkF m 93 #[.val (.ref a0), .val (.double r1), .second, .val (.int p2), .val (.int (1 : Int32)), .val (.int (0 : Int32))] [(.int p2), (.int (1 : Int32)), (.ref w_numbers_a0)])) (fun _ k => XS.iloadN X21.here hx rfl (hb hby d5_92) rfl k) ?_
    obtain ⟨cl22, Ar22, qa22, Sa22, Na22, Ha22, Ga22⟩ := id V_w_numbers_a0_20
    have hin22 : ¬ ((1 : Int32) < 0 ∨ cl22.slots.size ≤ ((1 : Int32)).toNatClampNeg) := inb_of Sa22 ⟨by decide, by decide⟩
    obtain ⟨T22, h22, X22, e22, W22, st22⟩ := stI X21 hx hZ e21 Ar22 (j := (1 : Int32)) hin22 (g := (mkF m 93 #[.val (.ref a0), .val (.double r1), .second, .val (.int p2), .val (.int (1 : Int32)), .val (.int (0 : Int32))] [(.int p2), (.int (1 : Int32)), (.ref w_numbers_a0)])) rfl rfl (hb hby d5_93)
    have F_keys_a0_22 := Fld.other W22 F_keys_a0_20 (Or.inl ne_a0_w_numbers_a0)
    have F_numbers_a0_22 := Fld.other W22 F_numbers_a0_20 (Or.inl ne_a0_w_numbers_a0)
    have E_a0_22 := E_a0_20.wr W22
    have F_size_a0_22 := Fld.other W22 F_size_a0_20 (Or.inl ne_a0_w_numbers_a0)
    have V_w_keys_a0_22 := V_w_keys_a0_20.other W22 ne_w_keys_a0_w_numbers_a0
    have Z22 := Nat.le_trans Z20 (Keep.of_wr W22).1
    have K22 := K20.wr W22 (Or.inl (List.mem_of_getElem? (i := 2) rfl))
    have N22 := Fr.snoc X22 N20 g_w_numbers_a0
    have V_w_numbers_a0_22 : Arv Z h22 w_numbers_a0 k_w_numbers_a0 .int (3 : Int32) [(.int xn_0), (.int p2), (.int xn_2)] (.int (0 : Int32)) := Arv.set Ar22 qa22 Sa22 Na22 Ha22 Ga22 rfl W22 1 rfl (Nat.le_of_ble_eq_true rfl)
    refine go (B := T22.setTop (mkF m 94 #[.val (.ref a0), .val (.double r1), .second, .val (.int p2), .val (.int (1 : Int32)), .val (.int (0 : Int32))] [])) st22 ?_
    exact end_void X22 hx Bd.notSynchronized Bd.returns (hb hby d5_94) hF e22 (by decide) (by decide) ⟨xk_0, r1, xk_2, xn_0, p2, xn_2, rfl, N22, K22, E_a0_22, F_keys_a0_22, F_numbers_a0_22, F_size_a0_22, V_w_keys_a0_22, V_w_numbers_a0_22, hk0, hr1, hk2⟩
theorem ef_5s2 (m : MethodId) (a0 : Addr) (r1 : UInt64) (p2 : Int32) : entryFrame m #[(.ref a0), (.double r1), (.int p2)] 6 = mkF m 0 #[.val (.ref a0), .val (.double r1), .second, .val (.int p2), .unset, .unset] [] := by first | (simp [entryFrame, mkF, argsToLocals, Value.category]; done) | rfl
abbrev room5s2 : Room := { frames := 3, cells := 0, slots := 0, locals := 47 }
def Q5s2 (Z : State) (a0 : Addr) (r1 : UInt64) (p2 : Int32) (w_keys_a0 : Addr) (w_numbers_a0 : Addr) (k_w_keys_a0 : ClassId) (xk_0 : UInt64) (xk_1 : UInt64) (xk_2 : UInt64) (k_w_numbers_a0 : ClassId) (xn_0 : Int32) (xn_1 : Int32) (xn_2 : Int32) (h0 : Heap) (n0 : Nat) (v : Option Value) (h : Heap) (L : List Loc) : Prop := ∃ K0 : UInt64, ∃ K1 : UInt64, ∃ K2 : UInt64, ∃ M0 : Int32, ∃ M1 : Int32, ∃ M2 : Int32, v = none ∧ Fr n0 L ∧ Keep h0 h [a0, w_keys_a0, w_numbers_a0] ∧ Exa Z h a0 "com/example/constrained_flow/constrainedflow/planner/search/LeastFirst" ∧ Fld Z h a0 "com/example/constrained_flow/constrainedflow/planner/search/LeastFirst" "keys" "[D" (.ref w_keys_a0) ∧ Fld Z h a0 "com/example/constrained_flow/constrainedflow/planner/search/LeastFirst" "numbers" "[I" (.ref w_numbers_a0) ∧ Fld Z h a0 "com/example/constrained_flow/constrainedflow/planner/search/LeastFirst" "size" "I" (.int (3 : Int32)) ∧ Arv Z h w_keys_a0 k_w_keys_a0 .double (3 : Int32) [(.double K0), (.double K1), (.double K2)] (.double (0 : UInt64)) ∧ Arv Z h w_numbers_a0 k_w_numbers_a0 .int (3 : Int32) [(.int M0), (.int M1), (.int M2)] (.int (0 : Int32)) ∧ NoNaN64 K0 ∧ NoNaN64 K1 ∧ NoNaN64 K2
set_option maxRecDepth 65536 in
set_option maxHeartbeats 40000000 in
theorem rm5s2 (l : Launch) (Z : State) (aw : Array Value) (hw : ∀ d ∈ tables_1, d.before aw Z = true) (ws : List Jvm.Cond) (a0 : Addr) (r1 : UInt64) (p2 : Int32) (w_keys_a0 : Addr) (w_numbers_a0 : Addr) (k_w_keys_a0 : ClassId) (xk_0 : UInt64) (xk_1 : UInt64) (xk_2 : UInt64) (k_w_numbers_a0 : ClassId) (xn_0 : Int32) (xn_1 : Int32) (xn_2 : Int32) (h0 : Heap) (n0 : Nat) (Z0 : n0 ≤ h0.size) (F_keys_a0 : Fld Z h0 a0 "com/example/constrained_flow/constrainedflow/planner/search/LeastFirst" "keys" "[D" (.ref w_keys_a0)) (F_numbers_a0 : Fld Z h0 a0 "com/example/constrained_flow/constrainedflow/planner/search/LeastFirst" "numbers" "[I" (.ref w_numbers_a0)) (F_size_a0 : Fld Z h0 a0 "com/example/constrained_flow/constrainedflow/planner/search/LeastFirst" "size" "I" (.int (2 : Int32))) (E_a0 : Exa Z h0 a0 "com/example/constrained_flow/constrainedflow/planner/search/LeastFirst") (V_w_keys_a0 : Arv Z h0 w_keys_a0 k_w_keys_a0 .double (3 : Int32) [(.double xk_0), (.double xk_1), (.double xk_2)] (.double (0 : UInt64))) (V_w_numbers_a0 : Arv Z h0 w_numbers_a0 k_w_numbers_a0 .int (3 : Int32) [(.int xn_0), (.int xn_1), (.int xn_2)] (.int (0 : Int32))) (ne_a0_w_keys_a0 : a0 ≠ w_keys_a0) (ne_a0_w_numbers_a0 : a0 ≠ w_numbers_a0) (ne_w_keys_a0_w_numbers_a0 : w_keys_a0 ≠ w_numbers_a0) (g_a0 : n0 ≤ a0) (g_w_keys_a0 : n0 ≤ w_keys_a0) (g_w_numbers_a0 : n0 ≤ w_numbers_a0) (hk0 : NoNaN64 xk_0) (hk1 : NoNaN64 xk_1) (hk2 : NoNaN64 xk_2) (hr1 : NoNaN64 r1) :
    MetFree l (⟨"com/example/constrained_flow/constrainedflow/planner/search/LeastFirst", "add", "(DI)V"⟩ : MethodName) (head1 (Jvm.Cond.code (⟨"com/example/constrained_flow/constrainedflow/planner/search/LeastFirst", "add", "(DI)V"⟩ : MethodName) prog_78_method_3_code 6 none :: ws) room5s2) (fun a U => a = #[(.ref a0), (.double r1), (.int p2)] ∧ Z.Warmed39 U.vm ∧ U.heap = h0) (fun _ _ _ _ _ => True) (fun _ U o U' => ∃ v L, o = .returned v ∧ Q5s2 Z a0 r1 p2 w_keys_a0 w_numbers_a0 k_w_keys_a0 xk_0 xk_1 xk_2 k_w_numbers_a0 xn_0 xn_1 xn_2 h0 n0 v U'.heap L ∧ FrameEnd U o U' L room5s2.cells room5s2.slots) := by
  refine MetFree.of_bodySF (plainFor_of_name pn_1) hisR ?_
  intro p e s m args below meth c s₁ Bd hml0 hP hK
  obtain ⟨rfl, hZ, hh⟩ := hP
  have hx := Bd.exec
  have hby := Bd.bytes
  have hml : c.maxLocals = 6 := hml0
  have hown : s.vm.findClass "com/example/constrained_flow/constrainedflow/planner/search/LeastFirst" = some m.cls := findClass_of_methodNamed Bd.named
  have hnm := (name_of_methodNamed Bd.named Bd.method).1
  have X0 : Stand p l e room5s2 s m #[(.ref a0), (.double r1), (.int p2)] below meth c s₁ [] 0 0 := Stand.of_body Bd
  have e0 : s₁.heap = h0 := by rw [← hh, Bd.state]; rfl
  have N0 := Fr.nil n0
  have K0 := Keep.refl h0 [a0, w_keys_a0, w_numbers_a0]
  rw [ef_5s2 m a0 r1 p2]
  refine go_in (s₁ := s₁) (Q := Q5s2 Z a0 r1 p2 w_keys_a0 w_numbers_a0 k_w_keys_a0 xk_0 xk_1 xk_2 k_w_numbers_a0 xn_0 xn_1 xn_2 h0 n0) fun F hF => ?_
  refine go (B := s₁.setTop (mkF m 1 #[.val (.ref a0), .val (.double r1), .second, .val (.int p2), .unset, .unset] [(.ref a0)])) (fun _ k => XS.aloadN X0.here hx rfl (hb hby d5_0) rfl rfl k) ?_
  refine go (B := s₁.setTop (mkF m 2 #[.val (.ref a0), .val (.double r1), .second, .val (.int p2), .unset, .unset] [(.ref a0), (.ref a0)])) (fun _ k => XS.dup X0.here hx rfl (hb hby d5_1) rfl rfl k) ?_
  obtain ⟨T1, X1, e1, st1⟩ := getF X0 hx hZ hown (host := "") (Or.inl (hw _ (List.mem_of_getElem? (i := 20) rfl))) Via.refl e0 F_size_a0 (g := (mkF m 2 #[.val (.ref a0), .val (.double r1), .second, .val (.int p2), .unset, .unset] [(.ref a0), (.ref a0)])) rfl rfl (hb hby d5_2)
  refine go (B := T1.setTop (mkF m 5 #[.val (.ref a0), .val (.double r1), .second, .val (.int p2), .unset, .unset] [(.int (2 : Int32)), (.ref a0)])) st1 ?_
  refine go (B := T1.setTop (mkF m 6 #[.val (.ref a0), .val (.double r1), .second, .val (.int p2), .unset, .unset] [(.int (2 : Int32)), (.ref a0), (.int (2 : Int32))])) (fun _ k => XS.dupX1 X1.here hx rfl (hb hby d5_5) rfl rfl rfl k) ?_
  refine go (B := T1.setTop (mkF m 7 #[.val (.ref a0), .val (.double r1), .second, .val (.int p2), .unset, .unset] [(.int (1 : Int32)), (.int (2 : Int32)), (.ref a0), (.int (2 : Int32))])) (fun _ k => XS.iconst X1.here hx rfl (hb hby d5_6) k) ?_
  refine go (B := T1.setTop (mkF m 8 #[.val (.ref a0), .val (.double r1), .second, .val (.int p2), .unset, .unset] [(.int (3 : Int32)), (.ref a0), (.int (2 : Int32))])) (fun _ k => XS.iadd X1.here hx rfl (hb hby d5_7) rfl k) ?_
  obtain ⟨T2, h2, X2, e2, W2, st2⟩ := putF X1 hx hZ hown (host := "") (Or.inl (hw _ (List.mem_of_getElem? (i := 20) rfl))) Via.refl e1 F_size_a0 E_a0 (Or.inl (hw _ (List.mem_of_getElem? (i := 21) rfl))) (hw _ (List.mem_of_getElem? (i := 1) rfl)) (ty := .int) (by decide) rfl rfl (g := (mkF m 8 #[.val (.ref a0), .val (.double r1), .second, .val (.int p2), .unset, .unset] [(.int (3 : Int32)), (.ref a0), (.int (2 : Int32))])) rfl rfl (hb hby d5_8)
  have F_keys_a0_2 := Fld.other W2 F_keys_a0 (Or.inr (slot_ne (Or.inr (hw _ (List.mem_of_getElem? (i := 11) rfl))) (Or.inl (hw _ (List.mem_of_getElem? (i := 21) rfl))) (by decide) (t := (.array .double)) (t' := .int) (by decide) (by decide)))
  have F_numbers_a0_2 := Fld.other W2 F_numbers_a0 (Or.inr (slot_ne (Or.inr (hw _ (List.mem_of_getElem? (i := 14) rfl))) (Or.inl (hw _ (List.mem_of_getElem? (i := 21) rfl))) (by decide) (t := (.array .int)) (t' := .int) (by decide) (by decide)))
  have E_a0_2 := E_a0.wr W2
  have V_w_keys_a0_2 := V_w_keys_a0.other W2 (Ne.symm ne_a0_w_keys_a0)
  have V_w_numbers_a0_2 := V_w_numbers_a0.other W2 (Ne.symm ne_a0_w_numbers_a0)
  have F_size_a0_2 := Fld.same W2 F_size_a0
  have Z2 := Nat.le_trans Z0 (Keep.of_wr W2).1
  have K2 := K0.wr W2 (Or.inl (List.mem_of_getElem? (i := 0) rfl))
  have N2 := Fr.snoc X2 N0 g_a0
  refine go (B := T2.setTop (mkF m 11 #[.val (.ref a0), .val (.double r1), .second, .val (.int p2), .unset, .unset] [(.int (2 : Int32))])) st2 ?_
  refine go (B := T2.setTop (mkF m 13 #[.val (.ref a0), .val (.double r1), .second, .val (.int p2), .val (.int (2 : Int32)), .unset] [])) (fun _ k => XS.istore X2.here hx rfl (hb hby d5_11) rfl (l' := #[.val (.ref a0), .val (.double r1), .second, .val (.int p2), .val (.int (2 : Int32)), .unset]) rfl k) ?_
  refine go (B := T2.setTop (mkF m 15 #[.val (.ref a0), .val (.double r1), .second, .val (.int p2), .val (.int (2 : Int32)), .unset] [(.int (2 : Int32))])) (fun _ k => XS.iload X2.here hx rfl (hb hby d5_13) rfl k) ?_
  refine go (B := T2.setTop (mkF m 18 #[.val (.ref a0), .val (.double r1), .second, .val (.int p2), .val (.int (2 : Int32)), .unset] [])) (fun _ k => XS.ifNo X2.here hx rfl (hb hby d5_15) rfl ((if0 _ _).trans (tlt (by decide : (0 : Int32) < (2 : Int32))).2.2.2) k) ?_
  refine go (B := T2.setTop (mkF m 20 #[.val (.ref a0), .val (.double r1), .second, .val (.int p2), .val (.int (2 : Int32)), .unset] [(.int (2 : Int32))])) (fun _ k => XS.iload X2.here hx rfl (hb hby d5_18) rfl k) ?_
  refine go (B := T2.setTop (mkF m 21 #[.val (.ref a0), .val (.double r1), .second, .val (.int p2), .val (.int (2 : Int32)), .unset] [(.int (1 : Int32)), (.int (2 : Int32))])) (fun _ k => XS.iconst X2.here hx rfl (hb hby d5_20) k) ?_
  refine go (B := T2.setTop (mkF m 22 #[.val (.ref a0), .val (.double r1), .second, .val (.int p2), .val (.int (2 : Int32)), .unset] [(.int (1 : Int32))])) (fun _ k => XS.isub X2.here hx rfl (hb hby d5_21) rfl k) ?_
  refine go (B := T2.setTop (mkF m 23 #[.val (.ref a0), .val (.double r1), .second, .val (.int p2), .val (.int (2 : Int32)), .unset] [(.int (1 : Int32)), (.int (1 : Int32))])) (fun _ k => XS.iconst X2.here hx rfl (hb hby d5_22) k) ?_
  refine go (B := T2.setTop (mkF m 24 #[.val (.ref a0), .val (.double r1), .second, .val (.int p2), .val (.int (2 : Int32)), .unset] [(.int (0 : Int32))])) (fun _ k => XS.iushr X2.here hx rfl (hb hby d5_23) rfl k) ?_
  refine go (B := T2.setTop (mkF m 26 #[.val (.ref a0), .val (.double r1), .second, .val (.int p2), .val (.int (2 : Int32)), .val (.int (0 : Int32))] [])) (fun _ k => XS.istore X2.here hx rfl (hb hby d5_24) rfl (l' := #[.val (.ref a0), .val (.double r1), .second, .val (.int p2), .val (.int (2 : Int32)), .val (.int (0 : Int32))]) rfl k) ?_
  refine go (B := T2.setTop (mkF m 27 #[.val (.ref a0), .val (.double r1), .second, .val (.int p2), .val (.int (2 : Int32)), .val (.int (0 : Int32))] [(.double r1)])) (fun _ k => XS.dloadN X2.here hx rfl (hb hby d5_26) rfl k) ?_
  refine go (B := T2.setTop (mkF m 28 #[.val (.ref a0), .val (.double r1), .second, .val (.int p2), .val (.int (2 : Int32)), .val (.int (0 : Int32))] [(.ref a0), (.double r1)])) (fun _ k => XS.aloadN X2.here hx rfl (hb hby d5_27) rfl rfl k) ?_
  obtain ⟨T3, X3, e3, st3⟩ := getF X2 hx hZ hown (host := "") (Or.inl (hw _ (List.mem_of_getElem? (i := 10) rfl))) Via.refl e2 F_keys_a0_2 (g := (mkF m 28 #[.val (.ref a0), .val (.double r1), .second, .val (.int p2), .val (.int (2 : Int32)), .val (.int (0 : Int32))] [(.ref a0), (.double r1)])) rfl rfl (hb hby d5_28)
  refine go (B := T3.setTop (mkF m 31 #[.val (.ref a0), .val (.double r1), .second, .val (.int p2), .val (.int (2 : Int32)), .val (.int (0 : Int32))] [(.ref w_keys_a0), (.double r1)])) st3 ?_
  refine go (B := T3.setTop (mkF m 33 #[.val (.ref a0), .val (.double r1), .second, .val (.int p2), .val (.int (2 : Int32)), .val (.int (0 : Int32))] [(.int (0 : Int32)), (.ref w_keys_a0), (.double r1)])) (fun _ k => XS.iload X3.here hx rfl (hb hby d5_31) rfl k) ?_
  obtain ⟨cl4, Ar4, qa4, Sa4, Na4, Ha4, Ga4⟩ := id V_w_keys_a0_2
  have hin4 : ¬ ((0 : Int32) < 0 ∨ cl4.slots.size ≤ ((0 : Int32)).toNatClampNeg) := inb_of Sa4 ⟨by decide, by decide⟩
  have hat4 : cl4.slots[((0 : Int32)).toNatClampNeg]? = some (.double xk_0) := Has.at Ha4 hin4 rfl
  refine go (B := T3.setTop (mkF m 34 #[.val (.ref a0), .val (.double r1), .second, .val (.int p2), .val (.int (2 : Int32)), .val (.int (0 : Int32))] [(.double xk_0), (.double r1)])) (fun _ k => X3.daload hx (j := (0 : Int32)) (v := (.double xk_0)) (by rw [e3]; exact Ar4.1) (State.isArrayOf_alike hZ.alike Ar4.2.1) Ar4.2.2 hin4 hat4 (g := (mkF m 33 #[.val (.ref a0), .val (.double r1), .second, .val (.int p2), .val (.int (2 : Int32)), .val (.int (0 : Int32))] [(.int (0 : Int32)), (.ref w_keys_a0), (.double r1)])) rfl rfl (hb hby d5_33) _ k) ?_
  obtain ⟨_, _, ⟨T5, L5, k5, n5⟩, -, X5, ⟨Lc5, hQ5, l5, y5, z5⟩, st5⟩ := Jvm.LawKit.callS X3 hx (y := (⟨"java/lang/Double", "compare", "(DD)I"⟩ : MethodName)) hown (mvT hZ (hw _ (List.mem_of_getElem? (i := 31) rfl))) (mvT hZ (hw _ (List.mem_of_getElem? (i := 32) rfl))) (mvT hZ (hw _ (List.mem_of_getElem? (i := 33) rfl))) (mvT hZ (hw _ (List.mem_of_getElem? (i := 34) rfl))) (by decide) (backOf (W := 0) (rm6 l Z aw hw [] r1 xk_0 h2 n0 Z2 hr1 hk0) hZ (hw _ (List.mem_of_getElem? (i := 34) rfl)) (hw _ (List.mem_of_getElem? (i := 33) rfl)) (by decide) (by decide)) (g := (mkF m 34 #[.val (.ref a0), .val (.double r1), .second, .val (.int p2), .val (.int (2 : Int32)), .val (.int (0 : Int32))] [(.double xk_0), (.double r1)])) rfl (by rw [hml]; rfl) (argsL := [(.double r1), (.double xk_0)]) (rest := []) (lenOf pd_2 rfl) rfl (by show 2 * 0 + _ ≤ _; exact Nat.le_of_eq rfl) (hb hby d5_34) (fun _ _ => ⟨rfl, e3, (by decide : 0 + 0 ≤ _), (by decide : 0 + 0 ≤ _)⟩)
  dsimp only [Pt.U, Pt.locs, Pt.cells, Pt.slots] at X5 l5 y5 z5 st5 hQ5
  subst l5 y5 z5
  obtain ⟨rfl, rfl, e5⟩ := hQ5
  have N5 := Fr.app N2 (Fr.nil n0)
  refine go (B := T5.setTop (mkF m 37 #[.val (.ref a0), .val (.double r1), .second, .val (.int p2), .val (.int (2 : Int32)), .val (.int (0 : Int32))] [(.int (f6 r1 xk_0))])) (fun _ k => st5 _ k) ?_
  by_cases hc6 : (f6 r1 xk_0) < (0 : Int32)
  · refine go (B := T5.setTop (mkF m 43 #[.val (.ref a0), .val (.double r1), .second, .val (.int p2), .val (.int (2 : Int32)), .val (.int (0 : Int32))] [])) (fun _ k => XS.ifYes X5.here hx rfl (pc0 := 37) (pc' := 43) rfl (hb hby d5_37) rfl ((if0 _ _).trans (tlt hc6).1) (by decide) (by decide) k) ?_
    refine go (B := T5.setTop (mkF m 44 #[.val (.ref a0), .val (.double r1), .second, .val (.int p2), .val (.int (2 : Int32)), .val (.int (0 : Int32))] [(.ref a0)])) (fun _ k => XS.aloadN X5.here hx rfl (hb hby d5_43) rfl rfl k) ?_
    obtain ⟨T7, X7, e7, st7⟩ := getF X5 hx hZ hown (host := "") (Or.inl (hw _ (List.mem_of_getElem? (i := 10) rfl))) Via.refl e5 F_keys_a0_2 (g := (mkF m 44 #[.val (.ref a0), .val (.double r1), .second, .val (.int p2), .val (.int (2 : Int32)), .val (.int (0 : Int32))] [(.ref a0)])) rfl rfl (hb hby d5_44)
    refine go (B := T7.setTop (mkF m 47 #[.val (.ref a0), .val (.double r1), .second, .val (.int p2), .val (.int (2 : Int32)), .val (.int (0 : Int32))] [(.ref w_keys_a0)])) st7 ?_
    refine go (B := T7.setTop (mkF m 49 #[.val (.ref a0), .val (.double r1), .second, .val (.int p2), .val (.int (2 : Int32)), .val (.int (0 : Int32))] [(.int (2 : Int32)), (.ref w_keys_a0)])) (fun _ k => XS.iload X7.here hx rfl (hb hby d5_47) rfl k) ?_
    refine go (B := T7.setTop (mkF m 50 #[.val (.ref a0), .val (.double r1), .second, .val (.int p2), .val (.int (2 : Int32)), .val (.int (0 : Int32))] [(.ref a0), (.int (2 : Int32)), (.ref w_keys_a0)])) (fun _ k => XS.aloadN X7.here hx rfl (hb hby d5_49) rfl rfl k) ?_
    obtain ⟨T8, X8, e8, st8⟩ := getF X7 hx hZ hown (host := "") (Or.inl (hw _ (List.mem_of_getElem? (i := 10) rfl))) Via.refl e7 F_keys_a0_2 (g := (mkF m 50 #[.val (.ref a0), .val (.double r1), .second, .val (.int p2), .val (.int (2 : Int32)), .val (.int (0 : Int32))] [(.ref a0), (.int (2 : Int32)), (.ref w_keys_a0)])) rfl rfl (hb hby d5_50)
    refine go (B := T8.setTop (mkF m 53 #[.val (.ref a0), .val (.double r1), .second, .val (.int p2), .val (.int (2 : Int32)), .val (.int (0 : Int32))] [(.ref w_keys_a0), (.int (2 : Int32)), (.ref w_keys_a0)])) st8 ?_
    refine go (B := T8.setTop (mkF m 55 #[.val (.ref a0), .val (.double r1), .second, .val (.int p2), .val (.int (2 : Int32)), .val (.int (0 : Int32))] [(.int (0 : Int32)), (.ref w_keys_a0), (.int (2 : Int32)), (.ref w_keys_a0)])) (fun _ k => XS.iload X8.here hx rfl (hb hby d5_53) rfl k) ?_
    obtain ⟨cl9, Ar9, qa9, Sa9, Na9, Ha9, Ga9⟩ := id V_w_keys_a0_2
    have hin9 : ¬ ((0 : Int32) < 0 ∨ cl9.slots.size ≤ ((0 : Int32)).toNatClampNeg) := inb_of Sa9 ⟨by decide, by decide⟩
    have hat9 : cl9.slots[((0 : Int32)).toNatClampNeg]? = some (.double xk_0) := Has.at Ha9 hin9 rfl
    refine go (B := T8.setTop (mkF m 56 #[.val (.ref a0), .val (.double r1), .second, .val (.int p2), .val (.int (2 : Int32)), .val (.int (0 : Int32))] [(.double xk_0), (.int (2 : Int32)), (.ref w_keys_a0)])) (fun _ k => X8.daload hx (j := (0 : Int32)) (v := (.double xk_0)) (by rw [e8]; exact Ar9.1) (State.isArrayOf_alike hZ.alike Ar9.2.1) Ar9.2.2 hin9 hat9 (g := (mkF m 55 #[.val (.ref a0), .val (.double r1), .second, .val (.int p2), .val (.int (2 : Int32)), .val (.int (0 : Int32))] [(.int (0 : Int32)), (.ref w_keys_a0), (.int (2 : Int32)), (.ref w_keys_a0)])) rfl rfl (hb hby d5_55) _ k) ?_
    obtain ⟨cl10, Ar10, qa10, Sa10, Na10, Ha10, Ga10⟩ := id V_w_keys_a0_2
    have hin10 : ¬ ((2 : Int32) < 0 ∨ cl10.slots.size ≤ ((2 : Int32)).toNatClampNeg) := inb_of Sa10 ⟨by decide, by decide⟩
    obtain ⟨T10, h10, X10, e10, W10, st10⟩ := stD X8 hx hZ e8 Ar10 (j := (2 : Int32)) hin10 (g := (mkF m 56 #[.val (.ref a0), .val (.double r1), .second, .val (.int p2), .val (.int (2 : Int32)), .val (.int (0 : Int32))] [(.double xk_0), (.int (2 : Int32)), (.ref w_keys_a0)])) rfl rfl (hb hby d5_56)
    have F_keys_a0_10 := Fld.other W10 F_keys_a0_2 (Or.inl ne_a0_w_keys_a0)
    have F_numbers_a0_10 := Fld.other W10 F_numbers_a0_2 (Or.inl ne_a0_w_keys_a0)
    have E_a0_10 := E_a0_2.wr W10
    have V_w_numbers_a0_10 := V_w_numbers_a0_2.other W10 (Ne.symm ne_w_keys_a0_w_numbers_a0)
    have F_size_a0_10 := Fld.other W10 F_size_a0_2 (Or.inl ne_a0_w_keys_a0)
    have Z10 := Nat.le_trans Z2 (Keep.of_wr W10).1
    have K10 := K2.wr W10 (Or.inl (List.mem_of_getElem? (i := 1) rfl))
    have N10 := Fr.snoc X10 N5 g_w_keys_a0
    have V_w_keys_a0_10 : Arv Z h10 w_keys_a0 k_w_keys_a0 .double (3 : Int32) [(.double xk_0), (.double xk_1), (.double xk_0)] (.double (0 : UInt64)) := Arv.set Ar10 qa10 Sa10 Na10 Ha10 Ga10 rfl W10 2 rfl (Nat.le_of_ble_eq_true rfl)
    refine go (B := T10.setTop (mkF m 57 #[.val (.ref a0), .val (.double r1), .second, .val (.int p2), .val (.int (2 : Int32)), .val (.int (0 : Int32))] [])) st10 ?_
    refine go (B := T10.setTop (mkF m 58 #[.val (.ref a0), .val (.double r1), .second, .val (.int p2), .val (.int (2 : Int32)), .val (.int (0 : Int32))] [(.ref a0)])) (fun _ k => XS.aloadN X10.here hx rfl (hb hby d5_57) rfl rfl k) ?_
    obtain ⟨T11, X11, e11, st11⟩ := getF X10 hx hZ hown (host := "") (Or.inl (hw _ (List.mem_of_getElem? (i := 13) rfl))) Via.refl e10 F_numbers_a0_10 (g := (mkF m 58 #[.val (.ref a0), .val (.double r1), .second, .val (.int p2), .val (.int (2 : Int32)), .val (.int (0 : Int32))] [(.ref a0)])) rfl rfl (hb hby d5_58)
    refine go (B := T11.setTop (mkF m 61 #[.val (.ref a0), .val (.double r1), .second, .val (.int p2), .val (.int (2 : Int32)), .val (.int (0 : Int32))] [(.ref w_numbers_a0)])) st11 ?_
    refine go (B := T11.setTop (mkF m 63 #[.val (.ref a0), .val (.double r1), .second, .val (.int p2), .val (.int (2 : Int32)), .val (.int (0 : Int32))] [(.int (2 : Int32)), (.ref w_numbers_a0)])) (fun _ k => XS.iload X11.here hx rfl (hb hby d5_61) rfl k) ?_
    refine go (B := T11.setTop (mkF m 64 #[.val (.ref a0), .val (.double r1), .second, .val (.int p2), .val (.int (2 : Int32)), .val (.int (0 : Int32))] [(.ref a0), (.int (2 : Int32)), (.ref w_numbers_a0)])) (fun _ k => XS.aloadN X11.here hx rfl (hb hby d5_63) rfl rfl k) ?_
    obtain ⟨T12, X12, e12, st12⟩ := getF X11 hx hZ hown (host := "") (Or.inl (hw _ (List.mem_of_getElem? (i := 13) rfl))) Via.refl e11 F_numbers_a0_10 (g := (mkF m 64 #[.val (.ref a0), .val (.double r1), .second, .val (.int p2), .val (.int (2 : Int32)), .val (.int (0 : Int32))] [(.ref a0), (.int (2 : Int32)), (.ref w_numbers_a0)])) rfl rfl (hb hby d5_64)
    refine go (B := T12.setTop (mkF m 67 #[.val (.ref a0), .val (.double r1), .second, .val (.int p2), .val (.int (2 : Int32)), .val (.int (0 : Int32))] [(.ref w_numbers_a0), (.int (2 : Int32)), (.ref w_numbers_a0)])) st12 ?_
    refine go (B := T12.setTop (mkF m 69 #[.val (.ref a0), .val (.double r1), .second, .val (.int p2), .val (.int (2 : Int32)), .val (.int (0 : Int32))] [(.int (0 : Int32)), (.ref w_numbers_a0), (.int (2 : Int32)), (.ref w_numbers_a0)])) (fun _ k => XS.iload X12.here hx rfl (hb hby d5_67) rfl k) ?_
    obtain ⟨cl13, Ar13, qa13, Sa13, Na13, Ha13, Ga13⟩ := id V_w_numbers_a0_10
    have hin13 : ¬ ((0 : Int32) < 0 ∨ cl13.slots.size ≤ ((0 : Int32)).toNatClampNeg) := inb_of Sa13 ⟨by decide, by decide⟩
    have hat13 : cl13.slots[((0 : Int32)).toNatClampNeg]? = some (.int xn_0) := Has.at Ha13 hin13 rfl
    refine go (B := T12.setTop (mkF m 70 #[.val (.ref a0), .val (.double r1), .second, .val (.int p2), .val (.int (2 : Int32)), .val (.int (0 : Int32))] [(.int xn_0), (.int (2 : Int32)), (.ref w_numbers_a0)])) (fun _ k => X12.iaload hx (j := (0 : Int32)) (v := (.int xn_0)) (by rw [e12]; exact Ar13.1) (State.isArrayOf_alike hZ.alike Ar13.2.1) Ar13.2.2 hin13 hat13 (g := (mkF m 69 #[.val (.ref a0), .val (.double r1), .second, .val (.int p2), .val (.int (2 : Int32)), .val (.int (0 : Int32))] [(.int (0 : Int32)), (.ref w_numbers_a0), (.int (2 : Int32)), (.ref w_numbers_a0)])) rfl rfl (hb hby d5_69) _ k) ?_
    obtain ⟨cl14, Ar14, qa14, Sa14, Na14, Ha14, Ga14⟩ := id V_w_numbers_a0_10
    have hin14 : ¬ ((2 : Int32) < 0 ∨ cl14.slots.size ≤ ((2 : Int32)).toNatClampNeg) := inb_of Sa14 ⟨by decide, by decide⟩
    obtain ⟨T14, h14, X14, e14, W14, st14⟩ := stI X12 hx hZ e12 Ar14 (j := (2 : Int32)) hin14 (g := (mkF m 70 #[.val (.ref a0), .val (.double r1), .second, .val (.int p2), .val (.int (2 : Int32)), .val (.int (0 : Int32))] [(.int xn_0), (.int (2 : Int32)), (.ref w_numbers_a0)])) rfl rfl (hb hby d5_70)
    have F_keys_a0_14 := Fld.other W14 F_keys_a0_10 (Or.inl ne_a0_w_numbers_a0)
    have F_numbers_a0_14 := Fld.other W14 F_numbers_a0_10 (Or.inl ne_a0_w_numbers_a0)
    have E_a0_14 := E_a0_10.wr W14
    have F_size_a0_14 := Fld.other W14 F_size_a0_10 (Or.inl ne_a0_w_numbers_a0)
    have V_w_keys_a0_14 := V_w_keys_a0_10.other W14 ne_w_keys_a0_w_numbers_a0
    have Z14 := Nat.le_trans Z10 (Keep.of_wr W14).1
    have K14 := K10.wr W14 (Or.inl (List.mem_of_getElem? (i := 2) rfl))
    have N14 := Fr.snoc X14 N10 g_w_numbers_a0
    have V_w_numbers_a0_14 : Arv Z h14 w_numbers_a0 k_w_numbers_a0 .int (3 : Int32) [(.int xn_0), (.int xn_1), (.int xn_0)] (.int (0 : Int32)) := Arv.set Ar14 qa14 Sa14 Na14 Ha14 Ga14 rfl W14 2 rfl (Nat.le_of_ble_eq_true rfl)
    refine go (B := T14.setTop (mkF m 71 #[.val (.ref a0), .val (.double r1), .second, .val (.int p2), .val (.int (2 : Int32)), .val (.int (0 : Int32))] [])) st14 ?_
    refine go (B := T14.setTop (mkF m 73 #[.val (.ref a0), .val (.double r1), .second, .val (.int p2), .val (.int (2 : Int32)), .val (.int (0 : Int32))] [(.int (0 : Int32))])) (fun _ k => XS.iload X14.here hx rfl (hb hby d5_71) rfl k) ?_
    refine go (B := T14.setTop (mkF m 75 #[.val (.ref a0), .val (.double r1), .second, .val (.int p2), .val (.int (0 : Int32)), .val (.int (0 : Int32))] [])) (fun _ k => XS.istore X14.here hx rfl (hb hby d5_73) rfl (l' := #[.val (.ref a0), .val (.double r1), .second, .val (.int p2), .val (.int (0 : Int32)), .val (.int (0 : Int32))]) rfl k) ?_
    refine go (B := T14.setTop (mkF m 13 #[.val (.ref a0), .val (.double r1), .second, .val (.int p2), .val (.int (0 : Int32)), .val (.int (0 : Int32))] [])) (fun _ k => XS.goto X14.here hx rfl (pc0 := 75) (pc' := 13) rfl (hb hby d5_75) (by decide) (by decide) k) ?_
    refine go (B := T14.setTop (mkF m 15 #[.val (.ref a0), .val (.double r1), .second, .val (.int p2), .val (.int (0 : Int32)), .val (.int (0 : Int32))] [(.int (0 : Int32))])) (fun _ k => XS.iload X14.here hx rfl (hb hby d5_13) rfl k) ?_
    refine go (B := T14.setTop (mkF m 78 #[.val (.ref a0), .val (.double r1), .second, .val (.int p2), .val (.int (0 : Int32)), .val (.int (0 : Int32))] [])) (fun _ k => XS.ifYes X14.here hx rfl (pc0 := 15) (pc' := 78) rfl (hb hby d5_15) rfl ((if0 _ _).trans (flt (by decide : ¬ ((0 : Int32) < (0 : Int32)))).2.2.2) (by decide) (by decide) k) ?_
    refine go (B := T14.setTop (mkF m 79 #[.val (.ref a0), .val (.double r1), .second, .val (.int p2), .val (.int (0 : Int32)), .val (.int (0 : Int32))] [(.ref a0)])) (fun _ k => XS.aloadN X14.here hx rfl (hb hby d5_78) rfl rfl k) ?_
    obtain ⟨T15, X15, e15, st15⟩ := getF X14 hx hZ hown (host := "") (Or.inl (hw _ (List.mem_of_getElem? (i := 10) rfl))) Via.refl e14 F_keys_a0_14 (g := (mkF m 79 #[.val (.ref a0), .val (.double r1), .second, .val (.int p2), .val (.int (0 : Int32)), .val (.int (0 : Int32))] [(.ref a0)])) rfl rfl (hb hby d5_79)
    refine go (B := T15.setTop (mkF m 82 #[.val (.ref a0), .val (.double r1), .second, .val (.int p2), .val (.int (0 : Int32)), .val (.int (0 : Int32))] [(.ref w_keys_a0)])) st15 ?_
    refine go (B := T15.setTop (mkF m 84 #[.val (.ref a0), .val (.double r1), .second, .val (.int p2), .val (.int (0 : Int32)), .val (.int (0 : Int32))] [(.int (0 : Int32)), (.ref w_keys_a0)])) (fun _ k => XS.iload X15.here hx rfl (hb hby d5_82) rfl k) ?_
    refine go (B := T15.setTop (mkF m 85 #[.val (.ref a0), .val (.double r1), .second, .val (.int p2), .val (.int (0 : Int32)), .val (.int (0 : Int32))] [(.double r1), (.int (0 : Int32)), (.ref w_keys_a0)])) (fun _ k => XS.dloadN X15.here hx rfl (hb hby d5_84) rfl k) ?_
    obtain ⟨cl16, Ar16, qa16, Sa16, Na16, Ha16, Ga16⟩ := id V_w_keys_a0_14
    have hin16 : ¬ ((0 : Int32) < 0 ∨ cl16.slots.size ≤ ((0 : Int32)).toNatClampNeg) := inb_of Sa16 ⟨by decide, by decide⟩
    obtain ⟨T16, h16, X16, e16, W16, st16⟩ := stD X15 hx hZ e15 Ar16 (j := (0 : Int32)) hin16 (g := (mkF m 85 #[.val (.ref a0), .val (.double r1), .second, .val (.int p2), .val (.int (0 : Int32)), .val (.int (0 : Int32))] [(.double r1), (.int (0 : Int32)), (.ref w_keys_a0)])) rfl rfl (hb hby d5_85)
    have F_keys_a0_16 := Fld.other W16 F_keys_a0_14 (Or.inl ne_a0_w_keys_a0)
    have F_numbers_a0_16 := Fld.other W16 F_numbers_a0_14 (Or.inl ne_a0_w_keys_a0)
    have E_a0_16 := E_a0_14.wr W16
    have F_size_a0_16 := Fld.other W16 F_size_a0_14 (Or.inl ne_a0_w_keys_a0)
    have V_w_numbers_a0_16 := V_w_numbers_a0_14.other W16 (Ne.symm ne_w_keys_a0_w_numbers_a0)
    have Z16 := Nat.le_trans Z14 (Keep.of_wr W16).1
    have K16 := K14.wr W16 (Or.inl (List.mem_of_getElem? (i := 1) rfl))
    have N16 := Fr.snoc X16 N14 g_w_keys_a0
    have V_w_keys_a0_16 : Arv Z h16 w_keys_a0 k_w_keys_a0 .double (3 : Int32) [(.double r1), (.double xk_1), (.double xk_0)] (.double (0 : UInt64)) := Arv.set Ar16 qa16 Sa16 Na16 Ha16 Ga16 rfl W16 0 rfl (Nat.le_of_ble_eq_true rfl)
    refine go (B := T16.setTop (mkF m 86 #[.val (.ref a0), .val (.double r1), .second, .val (.int p2), .val (.int (0 : Int32)), .val (.int (0 : Int32))] [])) st16 ?_
    refine go (B := T16.setTop (mkF m 87 #[.val (.ref a0), .val (.double r1), .second, .val (.int p2), .val (.int (0 : Int32)), .val (.int (0 : Int32))] [(.ref a0)])) (fun _ k => XS.aloadN X16.here hx rfl (hb hby d5_86) rfl rfl k) ?_
    obtain ⟨T17, X17, e17, st17⟩ := getF X16 hx hZ hown (host := "") (Or.inl (hw _ (List.mem_of_getElem? (i := 13) rfl))) Via.refl e16 F_numbers_a0_16 (g := (mkF m 87 #[.val (.ref a0), .val (.double r1), .second, .val (.int p2), .val (.int (0 : Int32)), .val (.int (0 : Int32))] [(.ref a0)])) rfl rfl (hb hby d5_87)
    refine go (B := T17.setTop (mkF m 90 #[.val (.ref a0), .val (.double r1), .second, .val (.int p2), .val (.int (0 : Int32)), .val (.int (0 : Int32))] [(.ref w_numbers_a0)])) st17 ?_
    refine go (B := T17.setTop (mkF m 92 #[.val (.ref a0), .val (.double r1), .second, .val (.int p2), .val (.int (0 : Int32)), .val (.int (0 : Int32))] [(.int (0 : Int32)), (.ref w_numbers_a0)])) (fun _ k => XS.iload X17.here hx rfl (hb hby d5_90) rfl k) ?_
    refine go (B := T17.setTop (mkF m 93 #[.val (.ref a0), .val (.double r1), .second, .val (.int p2), .val (.int (0 : Int32)), .val (.int (0 : Int32))] [(.int p2), (.int (0 : Int32)), (.ref w_numbers_a0)])) (fun _ k => XS.iloadN X17.here hx rfl (hb hby d5_92) rfl k) ?_
    obtain ⟨cl18, Ar18, qa18, Sa18, Na18, Ha18, Ga18⟩ := id V_w_numbers_a0_16
    have hin18 : ¬ ((0 : Int32) < 0 ∨ cl18.slots.size ≤ ((0 : Int32)).toNatClampNeg) := inb_of Sa18 ⟨by decide, by decide⟩
    obtain ⟨T18, h18, X18, e18, W18, st18⟩ := stI X17 hx hZ e17 Ar18 (j := (0 : Int32)) hin18 (g := (mkF m 93 #[.val (.ref a0), .val (.double r1), .second, .val (.int p2), .val (.int (0 : Int32)), .val (.int (0 : Int32))] [(.int p2), (.int (0 : Int32)), (.ref w_numbers_a0)])) rfl rfl (hb hby d5_93)
    have F_keys_a0_18 := Fld.other W18 F_keys_a0_16 (Or.inl ne_a0_w_numbers_a0)
    have F_numbers_a0_18 := Fld.other W18 F_numbers_a0_16 (Or.inl ne_a0_w_numbers_a0)
    have E_a0_18 := E_a0_16.wr W18
    have F_size_a0_18 := Fld.other W18 F_size_a0_16 (Or.inl ne_a0_w_numbers_a0)
    have V_w_keys_a0_18 := V_w_keys_a0_16.other W18 ne_w_keys_a0_w_numbers_a0
    have Z18 := Nat.le_trans Z16 (Keep.of_wr W18).1
    have K18 := K16.wr W18 (Or.inl (List.mem_of_getElem? (i := 2) rfl))
    have N18 := Fr.snoc X18 N16 g_w_numbers_a0
    have V_w_numbers_a0_18 : Arv Z h18 w_numbers_a0 k_w_numbers_a0 .int (3 : Int32) [(.int p2), (.int xn_1), (.int xn_0)] (.int (0 : Int32)) := Arv.set Ar18 qa18 Sa18 Na18 Ha18 Ga18 rfl W18 0 rfl (Nat.le_of_ble_eq_true rfl)
    refine go (B := T18.setTop (mkF m 94 #[.val (.ref a0), .val (.double r1), .second, .val (.int p2), .val (.int (0 : Int32)), .val (.int (0 : Int32))] [])) st18 ?_
    exact end_void X18 hx Bd.notSynchronized Bd.returns (hb hby d5_94) hF e18 (by decide) (by decide) ⟨r1, xk_1, xk_0, p2, xn_1, xn_0, rfl, N18, K18, E_a0_18, F_keys_a0_18, F_numbers_a0_18, F_size_a0_18, V_w_keys_a0_18, V_w_numbers_a0_18, hr1, hk1, hk0⟩
  · refine go (B := T5.setTop (mkF m 40 #[.val (.ref a0), .val (.double r1), .second, .val (.int p2), .val (.int (2 : Int32)), .val (.int (0 : Int32))] [])) (fun _ k => XS.ifNo X5.here hx rfl (hb hby d5_37) rfl ((if0 _ _).trans (flt hc6).1) k) ?_
    refine go (B := T5.setTop (mkF m 78 #[.val (.ref a0), .val (.double r1), .second, .val (.int p2), .val (.int (2 : Int32)), .val (.int (0 : Int32))] [])) (fun _ k => XS.goto X5.here hx rfl (pc0 := 40) (pc' := 78) rfl (hb hby d5_40) (by decide) (by decide) k) ?_
    refine go (B := T5.setTop (mkF m 79 #[.val (.ref a0), .val (.double r1), .second, .val (.int p2), .val (.int (2 : Int32)), .val (.int (0 : Int32))] [(.ref a0)])) (fun _ k => XS.aloadN X5.here hx rfl (hb hby d5_78) rfl rfl k) ?_
    obtain ⟨T19, X19, e19, st19⟩ := getF X5 hx hZ hown (host := "") (Or.inl (hw _ (List.mem_of_getElem? (i := 10) rfl))) Via.refl e5 F_keys_a0_2 (g := (mkF m 79 #[.val (.ref a0), .val (.double r1), .second, .val (.int p2), .val (.int (2 : Int32)), .val (.int (0 : Int32))] [(.ref a0)])) rfl rfl (hb hby d5_79)
    refine go (B := T19.setTop (mkF m 82 #[.val (.ref a0), .val (.double r1), .second, .val (.int p2), .val (.int (2 : Int32)), .val (.int (0 : Int32))] [(.ref w_keys_a0)])) st19 ?_
    refine go (B := T19.setTop (mkF m 84 #[.val (.ref a0), .val (.double r1), .second, .val (.int p2), .val (.int (2 : Int32)), .val (.int (0 : Int32))] [(.int (2 : Int32)), (.ref w_keys_a0)])) (fun _ k => XS.iload X19.here hx rfl (hb hby d5_82) rfl k) ?_
    refine go (B := T19.setTop (mkF m 85 #[.val (.ref a0), .val (.double r1), .second, .val (.int p2), .val (.int (2 : Int32)), .val (.int (0 : Int32))] [(.double r1), (.int (2 : Int32)), (.ref w_keys_a0)])) (fun _ k => XS.dloadN X19.here hx rfl (hb hby d5_84) rfl k) ?_
    obtain ⟨cl20, Ar20, qa20, Sa20, Na20, Ha20, Ga20⟩ := id V_w_keys_a0_2
    have hin20 : ¬ ((2 : Int32) < 0 ∨ cl20.slots.size ≤ ((2 : Int32)).toNatClampNeg) := inb_of Sa20 ⟨by decide, by decide⟩
    obtain ⟨T20, h20, X20, e20, W20, st20⟩ := stD X19 hx hZ e19 Ar20 (j := (2 : Int32)) hin20 (g := (mkF m 85 #[.val (.ref a0), .val (.double r1), .second, .val (.int p2), .val (.int (2 : Int32)), .val (.int (0 : Int32))] [(.double r1), (.int (2 : Int32)), (.ref w_keys_a0)])) rfl rfl (hb hby d5_85)
    have F_keys_a0_20 := Fld.other W20 F_keys_a0_2 (Or.inl ne_a0_w_keys_a0)
    have F_numbers_a0_20 := Fld.other W20 F_numbers_a0_2 (Or.inl ne_a0_w_keys_a0)
    have E_a0_20 := E_a0_2.wr W20
    have V_w_numbers_a0_20 := V_w_numbers_a0_2.other W20 (Ne.symm ne_w_keys_a0_w_numbers_a0)
    have F_size_a0_20 := Fld.other W20 F_size_a0_2 (Or.inl ne_a0_w_keys_a0)
    have Z20 := Nat.le_trans Z2 (Keep.of_wr W20).1
    have K20 := K2.wr W20 (Or.inl (List.mem_of_getElem? (i := 1) rfl))
    have N20 := Fr.snoc X20 N5 g_w_keys_a0
    have V_w_keys_a0_20 : Arv Z h20 w_keys_a0 k_w_keys_a0 .double (3 : Int32) [(.double xk_0), (.double xk_1), (.double r1)] (.double (0 : UInt64)) := Arv.set Ar20 qa20 Sa20 Na20 Ha20 Ga20 rfl W20 2 rfl (Nat.le_of_ble_eq_true rfl)
    refine go (B := T20.setTop (mkF m 86 #[.val (.ref a0), .val (.double r1), .second, .val (.int p2), .val (.int (2 : Int32)), .val (.int (0 : Int32))] [])) st20 ?_
    refine go (B := T20.setTop (mkF m 87 #[.val (.ref a0), .val (.double r1), .second, .val (.int p2), .val (.int (2 : Int32)), .val (.int (0 : Int32))] [(.ref a0)])) (fun _ k => XS.aloadN X20.here hx rfl (hb hby d5_86) rfl rfl k) ?_
    obtain ⟨T21, X21, e21, st21⟩ := getF X20 hx hZ hown (host := "") (Or.inl (hw _ (List.mem_of_getElem? (i := 13) rfl))) Via.refl e20 F_numbers_a0_20 (g := (mkF m 87 #[.val (.ref a0), .val (.double r1), .second, .val (.int p2), .val (.int (2 : Int32)), .val (.int (0 : Int32))] [(.ref a0)])) rfl rfl (hb hby d5_87)
    refine go (B := T21.setTop (mkF m 90 #[.val (.ref a0), .val (.double r1), .second, .val (.int p2), .val (.int (2 : Int32)), .val (.int (0 : Int32))] [(.ref w_numbers_a0)])) st21 ?_
    refine go (B := T21.setTop (mkF m 92 #[.val (.ref a0), .val (.double r1), .second, .val (.int p2), .val (.int (2 : Int32)), .val (.int (0 : Int32))] [(.int (2 : Int32)), (.ref w_numbers_a0)])) (fun _ k => XS.iload X21.here hx rfl (hb hby d5_90) rfl k) ?_
    refine go (B := T21.setTop (mkF m 93 #[.val (.ref a0), .val (.double r1), .second, .val (.int p2), .val (.int (2 : Int32)), .val (.int (0 : Int32))] [(.int p2), (.int (2 : Int32)), (.ref w_numbers_a0)])) (fun _ k => XS.iloadN X21.here hx rfl (hb hby d5_92) rfl k) ?_
    obtain ⟨cl22, Ar22, qa22, Sa22, Na22, Ha22, Ga22⟩ := id V_w_numbers_a0_20
    have hin22 : ¬ ((2 : Int32) < 0 ∨ cl22.slots.size ≤ ((2 : Int32)).toNatClampNeg) := inb_of Sa22 ⟨by decide, by decide⟩
    obtain ⟨T22, h22, X22, e22, W22, st22⟩ := stI X21 hx hZ e21 Ar22 (j := (2 : Int32)) hin22 (g := (mkF m 93 #[.val (.ref a0), .val (.double r1), .second, .val (.int p2), .val (.int (2 : Int32)), .val (.int (0 : Int32))] [(.int p2), (.int (2 : Int32)), (.ref w_numbers_a0)])) rfl rfl (hb hby d5_93)
    have F_keys_a0_22 := Fld.other W22 F_keys_a0_20 (Or.inl ne_a0_w_numbers_a0)
    have F_numbers_a0_22 := Fld.other W22 F_numbers_a0_20 (Or.inl ne_a0_w_numbers_a0)
    have E_a0_22 := E_a0_20.wr W22
    have F_size_a0_22 := Fld.other W22 F_size_a0_20 (Or.inl ne_a0_w_numbers_a0)
    have V_w_keys_a0_22 := V_w_keys_a0_20.other W22 ne_w_keys_a0_w_numbers_a0
    have Z22 := Nat.le_trans Z20 (Keep.of_wr W22).1
    have K22 := K20.wr W22 (Or.inl (List.mem_of_getElem? (i := 2) rfl))
    have N22 := Fr.snoc X22 N20 g_w_numbers_a0
    have V_w_numbers_a0_22 : Arv Z h22 w_numbers_a0 k_w_numbers_a0 .int (3 : Int32) [(.int xn_0), (.int xn_1), (.int p2)] (.int (0 : Int32)) := Arv.set Ar22 qa22 Sa22 Na22 Ha22 Ga22 rfl W22 2 rfl (Nat.le_of_ble_eq_true rfl)
    refine go (B := T22.setTop (mkF m 94 #[.val (.ref a0), .val (.double r1), .second, .val (.int p2), .val (.int (2 : Int32)), .val (.int (0 : Int32))] [])) st22 ?_
    exact end_void X22 hx Bd.notSynchronized Bd.returns (hb hby d5_94) hF e22 (by decide) (by decide) ⟨xk_0, xk_1, r1, xn_0, xn_1, p2, rfl, N22, K22, E_a0_22, F_keys_a0_22, F_numbers_a0_22, F_size_a0_22, V_w_keys_a0_22, V_w_numbers_a0_22, hk0, hk1, hr1⟩
theorem d7_0 : decode prog_78_method_5_code 0 = .ok (.aload_n 0, 1) := by decide +kernel
theorem d7_1 : decode prog_78_method_5_code 1 = .ok (.getfield 13, 3) := by decide +kernel
theorem d7_4 : decode prog_78_method_5_code 4 = .ok (.iconst 0, 1) := by decide +kernel
theorem d7_5 : decode prog_78_method_5_code 5 = .ok (.iaload, 1) := by decide +kernel
theorem d7_6 : decode prog_78_method_5_code 6 = .ok (.istore_n 1, 1) := by decide +kernel
theorem d7_7 : decode prog_78_method_5_code 7 = .ok (.aload_n 0, 1) := by decide +kernel
theorem d7_8 : decode prog_78_method_5_code 8 = .ok (.dup, 1) := by decide +kernel
theorem d7_9 : decode prog_78_method_5_code 9 = .ok (.getfield 17, 3) := by decide +kernel
theorem d7_12 : decode prog_78_method_5_code 12 = .ok (.iconst 1, 1) := by decide +kernel
theorem d7_13 : decode prog_78_method_5_code 13 = .ok (.isub, 1) := by decide +kernel
theorem d7_14 : decode prog_78_method_5_code 14 = .ok (.dup_x1, 1) := by decide +kernel
theorem d7_15 : decode prog_78_method_5_code 15 = .ok (.putfield 17, 3) := by decide +kernel
theorem d7_18 : decode prog_78_method_5_code 18 = .ok (.istore_n 2, 1) := by decide +kernel
theorem d7_19 : decode prog_78_method_5_code 19 = .ok (.aload_n 0, 1) := by decide +kernel
theorem d7_20 : decode prog_78_method_5_code 20 = .ok (.getfield 7, 3) := by decide +kernel
theorem d7_23 : decode prog_78_method_5_code 23 = .ok (.iload_n 2, 1) := by decide +kernel
theorem d7_24 : decode prog_78_method_5_code 24 = .ok (.daload, 1) := by decide +kernel
theorem d7_25 : decode prog_78_method_5_code 25 = .ok (.dstore_n 3, 1) := by decide +kernel
theorem d7_26 : decode prog_78_method_5_code 26 = .ok (.aload_n 0, 1) := by decide +kernel
theorem d7_27 : decode prog_78_method_5_code 27 = .ok (.getfield 13, 3) := by decide +kernel
theorem d7_30 : decode prog_78_method_5_code 30 = .ok (.iload_n 2, 1) := by decide +kernel
theorem d7_31 : decode prog_78_method_5_code 31 = .ok (.iaload, 1) := by decide +kernel
theorem d7_32 : decode prog_78_method_5_code 32 = .ok (.istore 5, 2) := by decide +kernel
theorem d7_34 : decode prog_78_method_5_code 34 = .ok (.iconst 0, 1) := by decide +kernel
theorem d7_35 : decode prog_78_method_5_code 35 = .ok (.istore 6, 2) := by decide +kernel
theorem d7_37 : decode prog_78_method_5_code 37 = .ok (.iload_n 2, 1) := by decide +kernel
theorem d7_38 : decode prog_78_method_5_code 38 = .ok (.iconst 1, 1) := by decide +kernel
theorem d7_39 : decode prog_78_method_5_code 39 = .ok (.iushr, 1) := by decide +kernel
theorem d7_40 : decode prog_78_method_5_code 40 = .ok (.istore 7, 2) := by decide +kernel
theorem d7_42 : decode prog_78_method_5_code 42 = .ok (.iload 6, 2) := by decide +kernel
theorem d7_44 : decode prog_78_method_5_code 44 = .ok (.iload 7, 2) := by decide +kernel
theorem d7_46 : decode prog_78_method_5_code 46 = .ok (.if_icmp .ge 99, 3) := by decide +kernel
theorem d7_145 : decode prog_78_method_5_code 145 = .ok (.iload_n 2, 1) := by decide +kernel
theorem d7_146 : decode prog_78_method_5_code 146 = .ok (.ifCond .le 20, 3) := by decide +kernel
theorem d7_166 : decode prog_78_method_5_code 166 = .ok (.iload_n 1, 1) := by decide +kernel
theorem d7_167 : decode prog_78_method_5_code 167 = .ok (.ireturn, 1) := by decide +kernel
theorem ef_7s1 (m : MethodId) (a0 : Addr) : entryFrame m #[(.ref a0)] 10 = mkF m 0 #[.val (.ref a0), .unset, .unset, .unset, .unset, .unset, .unset, .unset, .unset, .unset] [] := by first | (simp [entryFrame, mkF, argsToLocals, Value.category]; done) | rfl
def f7s1 (xn_0 : Int32) : Int32 := xn_0
abbrev room7s1 : Room := { frames := 0, cells := 0, slots := 0, locals := 0 }
def Q7s1 (Z : State) (a0 : Addr) (w_keys_a0 : Addr) (w_numbers_a0 : Addr) (k_w_keys_a0 : ClassId) (xk_0 : UInt64) (xk_1 : UInt64) (xk_2 : UInt64) (k_w_numbers_a0 : ClassId) (xn_0 : Int32) (xn_1 : Int32) (xn_2 : Int32) (h0 : Heap) (n0 : Nat) (v : Option Value) (h : Heap) (L : List Loc) : Prop := ∃ K0 : UInt64, ∃ K1 : UInt64, ∃ K2 : UInt64, ∃ M0 : Int32, ∃ M1 : Int32, ∃ M2 : Int32, v = some (.int (f7s1 xn_0)) ∧ Fr n0 L ∧ Keep h0 h [a0, w_keys_a0, w_numbers_a0] ∧ Exa Z h a0 "com/example/constrained_flow/constrainedflow/planner/search/LeastFirst" ∧ Fld Z h a0 "com/example/constrained_flow/constrainedflow/planner/search/LeastFirst" "keys" "[D" (.ref w_keys_a0) ∧ Fld Z h a0 "com/example/constrained_flow/constrainedflow/planner/search/LeastFirst" "numbers" "[I" (.ref w_numbers_a0) ∧ Fld Z h a0 "com/example/constrained_flow/constrainedflow/planner/search/LeastFirst" "size" "I" (.int (0 : Int32)) ∧ Arv Z h w_keys_a0 k_w_keys_a0 .double (3 : Int32) [(.double K0), (.double K1), (.double K2)] (.double (0 : UInt64)) ∧ Arv Z h w_numbers_a0 k_w_numbers_a0 .int (3 : Int32) [(.int M0), (.int M1), (.int M2)] (.int (0 : Int32)) ∧ NoNaN64 K0 ∧ NoNaN64 K1 ∧ NoNaN64 K2
set_option maxRecDepth 65536 in
set_option maxHeartbeats 40000000 in
theorem rm7s1 (l : Launch) (Z : State) (aw : Array Value) (hw : ∀ d ∈ tables_1, d.before aw Z = true) (ws : List Jvm.Cond) (a0 : Addr) (w_keys_a0 : Addr) (w_numbers_a0 : Addr) (k_w_keys_a0 : ClassId) (xk_0 : UInt64) (xk_1 : UInt64) (xk_2 : UInt64) (k_w_numbers_a0 : ClassId) (xn_0 : Int32) (xn_1 : Int32) (xn_2 : Int32) (h0 : Heap) (n0 : Nat) (Z0 : n0 ≤ h0.size) (F_keys_a0 : Fld Z h0 a0 "com/example/constrained_flow/constrainedflow/planner/search/LeastFirst" "keys" "[D" (.ref w_keys_a0)) (F_numbers_a0 : Fld Z h0 a0 "com/example/constrained_flow/constrainedflow/planner/search/LeastFirst" "numbers" "[I" (.ref w_numbers_a0)) (F_size_a0 : Fld Z h0 a0 "com/example/constrained_flow/constrainedflow/planner/search/LeastFirst" "size" "I" (.int (1 : Int32))) (E_a0 : Exa Z h0 a0 "com/example/constrained_flow/constrainedflow/planner/search/LeastFirst") (V_w_keys_a0 : Arv Z h0 w_keys_a0 k_w_keys_a0 .double (3 : Int32) [(.double xk_0), (.double xk_1), (.double xk_2)] (.double (0 : UInt64))) (V_w_numbers_a0 : Arv Z h0 w_numbers_a0 k_w_numbers_a0 .int (3 : Int32) [(.int xn_0), (.int xn_1), (.int xn_2)] (.int (0 : Int32))) (ne_a0_w_keys_a0 : a0 ≠ w_keys_a0) (ne_a0_w_numbers_a0 : a0 ≠ w_numbers_a0) (ne_w_keys_a0_w_numbers_a0 : w_keys_a0 ≠ w_numbers_a0) (g_a0 : n0 ≤ a0) (g_w_keys_a0 : n0 ≤ w_keys_a0) (g_w_numbers_a0 : n0 ≤ w_numbers_a0) (hk0 : NoNaN64 xk_0) (hk1 : NoNaN64 xk_1) (hk2 : NoNaN64 xk_2) :
    MetFree l (⟨"com/example/constrained_flow/constrainedflow/planner/search/LeastFirst", "take", "()I"⟩ : MethodName) (head1 (Jvm.Cond.code (⟨"com/example/constrained_flow/constrainedflow/planner/search/LeastFirst", "take", "()I"⟩ : MethodName) prog_78_method_5_code 10 (some .int) :: ws) room7s1) (fun a U => a = #[(.ref a0)] ∧ Z.Warmed39 U.vm ∧ U.heap = h0) (fun _ _ _ _ _ => True) (fun _ U o U' => ∃ v L, o = .returned v ∧ Q7s1 Z a0 w_keys_a0 w_numbers_a0 k_w_keys_a0 xk_0 xk_1 xk_2 k_w_numbers_a0 xn_0 xn_1 xn_2 h0 n0 v U'.heap L ∧ FrameEnd U o U' L room7s1.cells room7s1.slots) := by
  refine MetFree.of_bodySF (plainFor_of_name pn_1) hisR ?_
  intro p e s m args below meth c s₁ Bd hml0 hP hK
  obtain ⟨rfl, hZ, hh⟩ := hP
  have hx := Bd.exec
  have hby := Bd.bytes
  have hml : c.maxLocals = 10 := hml0
  have hown : s.vm.findClass "com/example/constrained_flow/constrainedflow/planner/search/LeastFirst" = some m.cls := findClass_of_methodNamed Bd.named
  have hnm := (name_of_methodNamed Bd.named Bd.method).1
  have X0 : Stand p l e room7s1 s m #[(.ref a0)] below meth c s₁ [] 0 0 := Stand.of_body Bd
  have e0 : s₁.heap = h0 := by rw [← hh, Bd.state]; rfl
  have N0 := Fr.nil n0
  have K0 := Keep.refl h0 [a0, w_keys_a0, w_numbers_a0]
  rw [ef_7s1 m a0]
  refine go_in (s₁ := s₁) (Q := Q7s1 Z a0 w_keys_a0 w_numbers_a0 k_w_keys_a0 xk_0 xk_1 xk_2 k_w_numbers_a0 xn_0 xn_1 xn_2 h0 n0) fun F hF => ?_
  refine go (B := s₁.setTop (mkF m 1 #[.val (.ref a0), .unset, .unset, .unset, .unset, .unset, .unset, .unset, .unset, .unset] [(.ref a0)])) (fun _ k => XS.aloadN X0.here hx rfl (hb hby d7_0) rfl rfl k) ?_
  obtain ⟨T1, X1, e1, st1⟩ := getF X0 hx hZ hown (host := "") (Or.inl (hw _ (List.mem_of_getElem? (i := 13) rfl))) Via.refl e0 F_numbers_a0 (g := (mkF m 1 #[.val (.ref a0), .unset, .unset, .unset, .unset, .unset, .unset, .unset, .unset, .unset] [(.ref a0)])) rfl rfl (hb hby d7_1)
  refine go (B := T1.setTop (mkF m 4 #[.val (.ref a0), .unset, .unset, .unset, .unset, .unset, .unset, .unset, .unset, .unset] [(.ref w_numbers_a0)])) st1 ?_
  refine go (B := T1.setTop (mkF m 5 #[.val (.ref a0), .unset, .unset, .unset, .unset, .unset, .unset, .unset, .unset, .unset] [(.int (0 : Int32)), (.ref w_numbers_a0)])) (fun _ k => XS.iconst X1.here hx rfl (hb hby d7_4) k) ?_
  obtain ⟨cl2, Ar2, qa2, Sa2, Na2, Ha2, Ga2⟩ := id V_w_numbers_a0
  have hin2 : ¬ ((0 : Int32) < 0 ∨ cl2.slots.size ≤ ((0 : Int32)).toNatClampNeg) := inb_of Sa2 ⟨by decide, by decide⟩
  have hat2 : cl2.slots[((0 : Int32)).toNatClampNeg]? = some (.int xn_0) := Has.at Ha2 hin2 rfl
  refine go (B := T1.setTop (mkF m 6 #[.val (.ref a0), .unset, .unset, .unset, .unset, .unset, .unset, .unset, .unset, .unset] [(.int xn_0)])) (fun _ k => X1.iaload hx (j := (0 : Int32)) (v := (.int xn_0)) (by rw [e1]; exact Ar2.1) (State.isArrayOf_alike hZ.alike Ar2.2.1) Ar2.2.2 hin2 hat2 (g := (mkF m 5 #[.val (.ref a0), .unset, .unset, .unset, .unset, .unset, .unset, .unset, .unset, .unset] [(.int (0 : Int32)), (.ref w_numbers_a0)])) rfl rfl (hb hby d7_5) _ k) ?_
  refine go (B := T1.setTop (mkF m 7 #[.val (.ref a0), .val (.int xn_0), .unset, .unset, .unset, .unset, .unset, .unset, .unset, .unset] [])) (fun _ k => XS.istoreN X1.here hx rfl (hb hby d7_6) rfl (l' := #[.val (.ref a0), .val (.int xn_0), .unset, .unset, .unset, .unset, .unset, .unset, .unset, .unset]) rfl k) ?_
  refine go (B := T1.setTop (mkF m 8 #[.val (.ref a0), .val (.int xn_0), .unset, .unset, .unset, .unset, .unset, .unset, .unset, .unset] [(.ref a0)])) (fun _ k => XS.aloadN X1.here hx rfl (hb hby d7_7) rfl rfl k) ?_
  refine go (B := T1.setTop (mkF m 9 #[.val (.ref a0), .val (.int xn_0), .unset, .unset, .unset, .unset, .unset, .unset, .unset, .unset] [(.ref a0), (.ref a0)])) (fun _ k => XS.dup X1.here hx rfl (hb hby d7_8) rfl rfl k) ?_
  obtain ⟨T3, X3, e3, st3⟩ := getF X1 hx hZ hown (host := "") (Or.inl (hw _ (List.mem_of_getElem? (i := 20) rfl))) Via.refl e1 F_size_a0 (g := (mkF m 9 #[.val (.ref a0), .val (.int xn_0), .unset, .unset, .unset, .unset, .unset, .unset, .unset, .unset] [(.ref a0), (.ref a0)])) rfl rfl (hb hby d7_9)
  refine go (B := T3.setTop (mkF m 12 #[.val (.ref a0), .val (.int xn_0), .unset, .unset, .unset, .unset, .unset, .unset, .unset, .unset] [(.int (1 : Int32)), (.ref a0)])) st3 ?_
  refine go (B := T3.setTop (mkF m 13 #[.val (.ref a0), .val (.int xn_0), .unset, .unset, .unset, .unset, .unset, .unset, .unset, .unset] [(.int (1 : Int32)), (.int (1 : Int32)), (.ref a0)])) (fun _ k => XS.iconst X3.here hx rfl (hb hby d7_12) k) ?_
  refine go (B := T3.setTop (mkF m 14 #[.val (.ref a0), .val (.int xn_0), .unset, .unset, .unset, .unset, .unset, .unset, .unset, .unset] [(.int (0 : Int32)), (.ref a0)])) (fun _ k => XS.isub X3.here hx rfl (hb hby d7_13) rfl k) ?_
  refine go (B := T3.setTop (mkF m 15 #[.val (.ref a0), .val (.int xn_0), .unset, .unset, .unset, .unset, .unset, .unset, .unset, .unset] [(.int (0 : Int32)), (.ref a0), (.int (0 : Int32))])) (fun _ k => XS.dupX1 X3.here hx rfl (hb hby d7_14) rfl rfl rfl k) ?_
  obtain ⟨T4, h4, X4, e4, W4, st4⟩ := putF X3 hx hZ hown (host := "") (Or.inl (hw _ (List.mem_of_getElem? (i := 20) rfl))) Via.refl e3 F_size_a0 E_a0 (Or.inl (hw _ (List.mem_of_getElem? (i := 21) rfl))) (hw _ (List.mem_of_getElem? (i := 1) rfl)) (ty := .int) (by decide) rfl rfl (g := (mkF m 15 #[.val (.ref a0), .val (.int xn_0), .unset, .unset, .unset, .unset, .unset, .unset, .unset, .unset] [(.int (0 : Int32)), (.ref a0), (.int (0 : Int32))])) rfl rfl (hb hby d7_15)
  have F_keys_a0_4 := Fld.other W4 F_keys_a0 (Or.inr (slot_ne (Or.inr (hw _ (List.mem_of_getElem? (i := 11) rfl))) (Or.inl (hw _ (List.mem_of_getElem? (i := 21) rfl))) (by decide) (t := (.array .double)) (t' := .int) (by decide) (by decide)))
  have F_numbers_a0_4 := Fld.other W4 F_numbers_a0 (Or.inr (slot_ne (Or.inr (hw _ (List.mem_of_getElem? (i := 14) rfl))) (Or.inl (hw _ (List.mem_of_getElem? (i := 21) rfl))) (by decide) (t := (.array .int)) (t' := .int) (by decide) (by decide)))
  have E_a0_4 := E_a0.wr W4
  have V_w_keys_a0_4 := V_w_keys_a0.other W4 (Ne.symm ne_a0_w_keys_a0)
  have V_w_numbers_a0_4 := V_w_numbers_a0.other W4 (Ne.symm ne_a0_w_numbers_a0)
  have F_size_a0_4 := Fld.same W4 F_size_a0
  have Z4 := Nat.le_trans Z0 (Keep.of_wr W4).1
  have K4 := K0.wr W4 (Or.inl (List.mem_of_getElem? (i := 0) rfl))
  have N4 := Fr.snoc X4 N0 g_a0
  refine go (B := T4.setTop (mkF m 18 #[.val (.ref a0), .val (.int xn_0), .unset, .unset, .unset, .unset, .unset, .unset, .unset, .unset] [(.int (0 : Int32))])) st4 ?_
  refine go (B := T4.setTop (mkF m 19 #[.val (.ref a0), .val (.int xn_0), .val (.int (0 : Int32)), .unset, .unset, .unset, .unset, .unset, .unset, .unset] [])) (fun _ k => XS.istoreN X4.here hx rfl (hb hby d7_18) rfl (l' := #[.val (.ref a0), .val (.int xn_0), .val (.int (0 : Int32)), .unset, .unset, .unset, .unset, .unset, .unset, .unset]) rfl k) ?_
  refine go (B := T4.setTop (mkF m 20 #[.val (.ref a0), .val (.int xn_0), .val (.int (0 : Int32)), .unset, .unset, .unset, .unset, .unset, .unset, .unset] [(.ref a0)])) (fun _ k => XS.aloadN X4.here hx rfl (hb hby d7_19) rfl rfl k) ?_
  obtain ⟨T5, X5, e5, st5⟩ := getF X4 hx hZ hown (host := "") (Or.inl (hw _ (List.mem_of_getElem? (i := 10) rfl))) Via.refl e4 F_keys_a0_4 (g := (mkF m 20 #[.val (.ref a0), .val (.int xn_0), .val (.int (0 : Int32)), .unset, .unset, .unset, .unset, .unset, .unset, .unset] [(.ref a0)])) rfl rfl (hb hby d7_20)
  refine go (B := T5.setTop (mkF m 23 #[.val (.ref a0), .val (.int xn_0), .val (.int (0 : Int32)), .unset, .unset, .unset, .unset, .unset, .unset, .unset] [(.ref w_keys_a0)])) st5 ?_
  refine go (B := T5.setTop (mkF m 24 #[.val (.ref a0), .val (.int xn_0), .val (.int (0 : Int32)), .unset, .unset, .unset, .unset, .unset, .unset, .unset] [(.int (0 : Int32)), (.ref w_keys_a0)])) (fun _ k => XS.iloadN X5.here hx rfl (hb hby d7_23) rfl k) ?_
  obtain ⟨cl6, Ar6, qa6, Sa6, Na6, Ha6, Ga6⟩ := id V_w_keys_a0_4
  have hin6 : ¬ ((0 : Int32) < 0 ∨ cl6.slots.size ≤ ((0 : Int32)).toNatClampNeg) := inb_of Sa6 ⟨by decide, by decide⟩
  have hat6 : cl6.slots[((0 : Int32)).toNatClampNeg]? = some (.double xk_0) := Has.at Ha6 hin6 rfl
  refine go (B := T5.setTop (mkF m 25 #[.val (.ref a0), .val (.int xn_0), .val (.int (0 : Int32)), .unset, .unset, .unset, .unset, .unset, .unset, .unset] [(.double xk_0)])) (fun _ k => X5.daload hx (j := (0 : Int32)) (v := (.double xk_0)) (by rw [e5]; exact Ar6.1) (State.isArrayOf_alike hZ.alike Ar6.2.1) Ar6.2.2 hin6 hat6 (g := (mkF m 24 #[.val (.ref a0), .val (.int xn_0), .val (.int (0 : Int32)), .unset, .unset, .unset, .unset, .unset, .unset, .unset] [(.int (0 : Int32)), (.ref w_keys_a0)])) rfl rfl (hb hby d7_24) _ k) ?_
  refine go (B := T5.setTop (mkF m 26 #[.val (.ref a0), .val (.int xn_0), .val (.int (0 : Int32)), .val (.double xk_0), .second, .unset, .unset, .unset, .unset, .unset] [])) (fun _ k => XS.dstoreN X5.here hx rfl (hb hby d7_25) rfl (l' := #[.val (.ref a0), .val (.int xn_0), .val (.int (0 : Int32)), .val (.double xk_0), .second, .unset, .unset, .unset, .unset, .unset]) rfl k) ?_
  refine go (B := T5.setTop (mkF m 27 #[.val (.ref a0), .val (.int xn_0), .val (.int (0 : Int32)), .val (.double xk_0), .second, .unset, .unset, .unset, .unset, .unset] [(.ref a0)])) (fun _ k => XS.aloadN X5.here hx rfl (hb hby d7_26) rfl rfl k) ?_
  obtain ⟨T7, X7, e7, st7⟩ := getF X5 hx hZ hown (host := "") (Or.inl (hw _ (List.mem_of_getElem? (i := 13) rfl))) Via.refl e5 F_numbers_a0_4 (g := (mkF m 27 #[.val (.ref a0), .val (.int xn_0), .val (.int (0 : Int32)), .val (.double xk_0), .second, .unset, .unset, .unset, .unset, .unset] [(.ref a0)])) rfl rfl (hb hby d7_27)
  refine go (B := T7.setTop (mkF m 30 #[.val (.ref a0), .val (.int xn_0), .val (.int (0 : Int32)), .val (.double xk_0), .second, .unset, .unset, .unset, .unset, .unset] [(.ref w_numbers_a0)])) st7 ?_
  refine go (B := T7.setTop (mkF m 31 #[.val (.ref a0), .val (.int xn_0), .val (.int (0 : Int32)), .val (.double xk_0), .second, .unset, .unset, .unset, .unset, .unset] [(.int (0 : Int32)), (.ref w_numbers_a0)])) (fun _ k => XS.iloadN X7.here hx rfl (hb hby d7_30) rfl k) ?_
  obtain ⟨cl8, Ar8, qa8, Sa8, Na8, Ha8, Ga8⟩ := id V_w_numbers_a0_4
  have hin8 : ¬ ((0 : Int32) < 0 ∨ cl8.slots.size ≤ ((0 : Int32)).toNatClampNeg) := inb_of Sa8 ⟨by decide, by decide⟩
  have hat8 : cl8.slots[((0 : Int32)).toNatClampNeg]? = some (.int xn_0) := Has.at Ha8 hin8 rfl
  refine go (B := T7.setTop (mkF m 32 #[.val (.ref a0), .val (.int xn_0), .val (.int (0 : Int32)), .val (.double xk_0), .second, .unset, .unset, .unset, .unset, .unset] [(.int xn_0)])) (fun _ k => X7.iaload hx (j := (0 : Int32)) (v := (.int xn_0)) (by rw [e7]; exact Ar8.1) (State.isArrayOf_alike hZ.alike Ar8.2.1) Ar8.2.2 hin8 hat8 (g := (mkF m 31 #[.val (.ref a0), .val (.int xn_0), .val (.int (0 : Int32)), .val (.double xk_0), .second, .unset, .unset, .unset, .unset, .unset] [(.int (0 : Int32)), (.ref w_numbers_a0)])) rfl rfl (hb hby d7_31) _ k) ?_
  refine go (B := T7.setTop (mkF m 34 #[.val (.ref a0), .val (.int xn_0), .val (.int (0 : Int32)), .val (.double xk_0), .second, .val (.int xn_0), .unset, .unset, .unset, .unset] [])) (fun _ k => XS.istore X7.here hx rfl (hb hby d7_32) rfl (l' := #[.val (.ref a0), .val (.int xn_0), .val (.int (0 : Int32)), .val (.double xk_0), .second, .val (.int xn_0), .unset, .unset, .unset, .unset]) rfl k) ?_
  refine go (B := T7.setTop (mkF m 35 #[.val (.ref a0), .val (.int xn_0), .val (.int (0 : Int32)), .val (.double xk_0), .second, .val (.int xn_0), .unset, .unset, .unset, .unset] [(.int (0 : Int32))])) (fun _ k => XS.iconst X7.here hx rfl (hb hby d7_34) k) ?_
  refine go (B := T7.setTop (mkF m 37 #[.val (.ref a0), .val (.int xn_0), .val (.int (0 : Int32)), .val (.double xk_0), .second, .val (.int xn_0), .val (.int (0 : Int32)), .unset, .unset, .unset] [])) (fun _ k => XS.istore X7.here hx rfl (hb hby d7_35) rfl (l' := #[.val (.ref a0), .val (.int xn_0), .val (.int (0 : Int32)), .val (.double xk_0), .second, .val (.int xn_0), .val (.int (0 : Int32)), .unset, .unset, .unset]) rfl k) ?_
  refine go (B := T7.setTop (mkF m 38 #[.val (.ref a0), .val (.int xn_0), .val (.int (0 : Int32)), .val (.double xk_0), .second, .val (.int xn_0), .val (.int (0 : Int32)), .unset, .unset, .unset] [(.int (0 : Int32))])) (fun _ k => XS.iloadN X7.here hx rfl (hb hby d7_37) rfl k) ?_
  refine go (B := T7.setTop (mkF m 39 #[.val (.ref a0), .val (.int xn_0), .val (.int (0 : Int32)), .val (.double xk_0), .second, .val (.int xn_0), .val (.int (0 : Int32)), .unset, .unset, .unset] [(.int (1 : Int32)), (.int (0 : Int32))])) (fun _ k => XS.iconst X7.here hx rfl (hb hby d7_38) k) ?_
  refine go (B := T7.setTop (mkF m 40 #[.val (.ref a0), .val (.int xn_0), .val (.int (0 : Int32)), .val (.double xk_0), .second, .val (.int xn_0), .val (.int (0 : Int32)), .unset, .unset, .unset] [(.int (0 : Int32))])) (fun _ k => XS.iushr X7.here hx rfl (hb hby d7_39) rfl k) ?_
  refine go (B := T7.setTop (mkF m 42 #[.val (.ref a0), .val (.int xn_0), .val (.int (0 : Int32)), .val (.double xk_0), .second, .val (.int xn_0), .val (.int (0 : Int32)), .val (.int (0 : Int32)), .unset, .unset] [])) (fun _ k => XS.istore X7.here hx rfl (hb hby d7_40) rfl (l' := #[.val (.ref a0), .val (.int xn_0), .val (.int (0 : Int32)), .val (.double xk_0), .second, .val (.int xn_0), .val (.int (0 : Int32)), .val (.int (0 : Int32)), .unset, .unset]) rfl k) ?_
  refine go (B := T7.setTop (mkF m 44 #[.val (.ref a0), .val (.int xn_0), .val (.int (0 : Int32)), .val (.double xk_0), .second, .val (.int xn_0), .val (.int (0 : Int32)), .val (.int (0 : Int32)), .unset, .unset] [(.int (0 : Int32))])) (fun _ k => XS.iload X7.here hx rfl (hb hby d7_42) rfl k) ?_
  refine go (B := T7.setTop (mkF m 46 #[.val (.ref a0), .val (.int xn_0), .val (.int (0 : Int32)), .val (.double xk_0), .second, .val (.int xn_0), .val (.int (0 : Int32)), .val (.int (0 : Int32)), .unset, .unset] [(.int (0 : Int32)), (.int (0 : Int32))])) (fun _ k => XS.iload X7.here hx rfl (hb hby d7_44) rfl k) ?_
  refine go (B := T7.setTop (mkF m 145 #[.val (.ref a0), .val (.int xn_0), .val (.int (0 : Int32)), .val (.double xk_0), .second, .val (.int xn_0), .val (.int (0 : Int32)), .val (.int (0 : Int32)), .unset, .unset] [])) (fun _ k => XS.icmpYes X7.here hx rfl (pc0 := 46) (pc' := 145) rfl (hb hby d7_46) rfl (flt (by decide : ¬ ((0 : Int32) < (0 : Int32)))).2.1 (by decide) (by decide) k) ?_
  refine go (B := T7.setTop (mkF m 146 #[.val (.ref a0), .val (.int xn_0), .val (.int (0 : Int32)), .val (.double xk_0), .second, .val (.int xn_0), .val (.int (0 : Int32)), .val (.int (0 : Int32)), .unset, .unset] [(.int (0 : Int32))])) (fun _ k => XS.iloadN X7.here hx rfl (hb hby d7_145) rfl k) ?_
  refine go (B := T7.setTop (mkF m 166 #[.val (.ref a0), .val (.int xn_0), .val (.int (0 : Int32)), .val (.double xk_0), .second, .val (.int xn_0), .val (.int (0 : Int32)), .val (.int (0 : Int32)), .unset, .unset] [])) (fun _ k => XS.ifYes X7.here hx rfl (pc0 := 146) (pc' := 166) rfl (hb hby d7_146) rfl ((if0 _ _).trans (flt (by decide : ¬ ((0 : Int32) < (0 : Int32)))).2.2.2) (by decide) (by decide) k) ?_
  refine go (B := T7.setTop (mkF m 167 #[.val (.ref a0), .val (.int xn_0), .val (.int (0 : Int32)), .val (.double xk_0), .second, .val (.int xn_0), .val (.int (0 : Int32)), .val (.int (0 : Int32)), .unset, .unset] [(.int xn_0)])) (fun _ k => XS.iloadN X7.here hx rfl (hb hby d7_166) rfl k) ?_
  have r9 : (f7s1 xn_0) = xn_0 := by unfold f7s1; rfl
  exact end_int X7 hx Bd.notSynchronized Bd.returns (hb hby d7_167) hF e7 (by decide) (by decide) ⟨xk_0, xk_1, xk_2, xn_0, xn_1, xn_2, (congrArg (fun z => some (Value.int z)) r9.symm), N4, K4, E_a0_4, F_keys_a0_4, F_numbers_a0_4, F_size_a0_4, V_w_keys_a0_4, V_w_numbers_a0_4, hk0, hk1, hk2⟩
theorem d7_149 : decode prog_78_method_5_code 149 = .ok (.aload_n 0, 1) := by decide +kernel
theorem d7_150 : decode prog_78_method_5_code 150 = .ok (.getfield 7, 3) := by decide +kernel
theorem d7_153 : decode prog_78_method_5_code 153 = .ok (.iload 6, 2) := by decide +kernel
theorem d7_155 : decode prog_78_method_5_code 155 = .ok (.dload_n 3, 1) := by decide +kernel
theorem d7_156 : decode prog_78_method_5_code 156 = .ok (.dastore, 1) := by decide +kernel
theorem d7_157 : decode prog_78_method_5_code 157 = .ok (.aload_n 0, 1) := by decide +kernel
theorem d7_158 : decode prog_78_method_5_code 158 = .ok (.getfield 13, 3) := by decide +kernel
theorem d7_161 : decode prog_78_method_5_code 161 = .ok (.iload 6, 2) := by decide +kernel
theorem d7_163 : decode prog_78_method_5_code 163 = .ok (.iload 5, 2) := by decide +kernel
theorem d7_165 : decode prog_78_method_5_code 165 = .ok (.iastore, 1) := by decide +kernel
theorem ef_7s2 (m : MethodId) (a0 : Addr) : entryFrame m #[(.ref a0)] 10 = mkF m 0 #[.val (.ref a0), .unset, .unset, .unset, .unset, .unset, .unset, .unset, .unset, .unset] [] := by first | (simp [entryFrame, mkF, argsToLocals, Value.category]; done) | rfl
def f7s2 (xn_0 : Int32) : Int32 := xn_0
abbrev room7s2 : Room := { frames := 0, cells := 0, slots := 0, locals := 0 }
def Q7s2 (Z : State) (a0 : Addr) (w_keys_a0 : Addr) (w_numbers_a0 : Addr) (k_w_keys_a0 : ClassId) (xk_0 : UInt64) (xk_1 : UInt64) (xk_2 : UInt64) (k_w_numbers_a0 : ClassId) (xn_0 : Int32) (xn_1 : Int32) (xn_2 : Int32) (h0 : Heap) (n0 : Nat) (v : Option Value) (h : Heap) (L : List Loc) : Prop := ∃ K0 : UInt64, ∃ K1 : UInt64, ∃ K2 : UInt64, ∃ M0 : Int32, ∃ M1 : Int32, ∃ M2 : Int32, v = some (.int (f7s2 xn_0)) ∧ Fr n0 L ∧ Keep h0 h [a0, w_keys_a0, w_numbers_a0] ∧ Exa Z h a0 "com/example/constrained_flow/constrainedflow/planner/search/LeastFirst" ∧ Fld Z h a0 "com/example/constrained_flow/constrainedflow/planner/search/LeastFirst" "keys" "[D" (.ref w_keys_a0) ∧ Fld Z h a0 "com/example/constrained_flow/constrainedflow/planner/search/LeastFirst" "numbers" "[I" (.ref w_numbers_a0) ∧ Fld Z h a0 "com/example/constrained_flow/constrainedflow/planner/search/LeastFirst" "size" "I" (.int (1 : Int32)) ∧ Arv Z h w_keys_a0 k_w_keys_a0 .double (3 : Int32) [(.double K0), (.double K1), (.double K2)] (.double (0 : UInt64)) ∧ Arv Z h w_numbers_a0 k_w_numbers_a0 .int (3 : Int32) [(.int M0), (.int M1), (.int M2)] (.int (0 : Int32)) ∧ NoNaN64 K0 ∧ NoNaN64 K1 ∧ NoNaN64 K2
set_option maxRecDepth 65536 in
set_option maxHeartbeats 40000000 in
theorem rm7s2 (l : Launch) (Z : State) (aw : Array Value) (hw : ∀ d ∈ tables_1, d.before aw Z = true) (ws : List Jvm.Cond) (a0 : Addr) (w_keys_a0 : Addr) (w_numbers_a0 : Addr) (k_w_keys_a0 : ClassId) (xk_0 : UInt64) (xk_1 : UInt64) (xk_2 : UInt64) (k_w_numbers_a0 : ClassId) (xn_0 : Int32) (xn_1 : Int32) (xn_2 : Int32) (h0 : Heap) (n0 : Nat) (Z0 : n0 ≤ h0.size) (F_keys_a0 : Fld Z h0 a0 "com/example/constrained_flow/constrainedflow/planner/search/LeastFirst" "keys" "[D" (.ref w_keys_a0)) (F_numbers_a0 : Fld Z h0 a0 "com/example/constrained_flow/constrainedflow/planner/search/LeastFirst" "numbers" "[I" (.ref w_numbers_a0)) (F_size_a0 : Fld Z h0 a0 "com/example/constrained_flow/constrainedflow/planner/search/LeastFirst" "size" "I" (.int (2 : Int32))) (E_a0 : Exa Z h0 a0 "com/example/constrained_flow/constrainedflow/planner/search/LeastFirst") (V_w_keys_a0 : Arv Z h0 w_keys_a0 k_w_keys_a0 .double (3 : Int32) [(.double xk_0), (.double xk_1), (.double xk_2)] (.double (0 : UInt64))) (V_w_numbers_a0 : Arv Z h0 w_numbers_a0 k_w_numbers_a0 .int (3 : Int32) [(.int xn_0), (.int xn_1), (.int xn_2)] (.int (0 : Int32))) (ne_a0_w_keys_a0 : a0 ≠ w_keys_a0) (ne_a0_w_numbers_a0 : a0 ≠ w_numbers_a0) (ne_w_keys_a0_w_numbers_a0 : w_keys_a0 ≠ w_numbers_a0) (g_a0 : n0 ≤ a0) (g_w_keys_a0 : n0 ≤ w_keys_a0) (g_w_numbers_a0 : n0 ≤ w_numbers_a0) (hk0 : NoNaN64 xk_0) (hk1 : NoNaN64 xk_1) (hk2 : NoNaN64 xk_2) :
    MetFree l (⟨"com/example/constrained_flow/constrainedflow/planner/search/LeastFirst", "take", "()I"⟩ : MethodName) (head1 (Jvm.Cond.code (⟨"com/example/constrained_flow/constrainedflow/planner/search/LeastFirst", "take", "()I"⟩ : MethodName) prog_78_method_5_code 10 (some .int) :: ws) room7s2) (fun a U => a = #[(.ref a0)] ∧ Z.Warmed39 U.vm ∧ U.heap = h0) (fun _ _ _ _ _ => True) (fun _ U o U' => ∃ v L, o = .returned v ∧ Q7s2 Z a0 w_keys_a0 w_numbers_a0 k_w_keys_a0 xk_0 xk_1 xk_2 k_w_numbers_a0 xn_0 xn_1 xn_2 h0 n0 v U'.heap L ∧ FrameEnd U o U' L room7s2.cells room7s2.slots) := by
  refine MetFree.of_bodySF (plainFor_of_name pn_1) hisR ?_
  intro p e s m args below meth c s₁ Bd hml0 hP hK
  obtain ⟨rfl, hZ, hh⟩ := hP
  have hx := Bd.exec
  have hby := Bd.bytes
  have hml : c.maxLocals = 10 := hml0
  have hown : s.vm.findClass "com/example/constrained_flow/constrainedflow/planner/search/LeastFirst" = some m.cls := findClass_of_methodNamed Bd.named
  have hnm := (name_of_methodNamed Bd.named Bd.method).1
  have X0 : Stand p l e room7s2 s m #[(.ref a0)] below meth c s₁ [] 0 0 := Stand.of_body Bd
  have e0 : s₁.heap = h0 := by rw [← hh, Bd.state]; rfl
  have N0 := Fr.nil n0
  have K0 := Keep.refl h0 [a0, w_keys_a0, w_numbers_a0]
  rw [ef_7s2 m a0]
  refine go_in (s₁ := s₁) (Q := Q7s2 Z a0 w_keys_a0 w_numbers_a0 k_w_keys_a0 xk_0 xk_1 xk_2 k_w_numbers_a0 xn_0 xn_1 xn_2 h0 n0) fun F hF => ?_
  refine go (B := s₁.setTop (mkF m 1 #[.val (.ref a0), .unset, .unset, .unset, .unset, .unset, .unset, .unset, .unset, .unset] [(.ref a0)])) (fun _ k => XS.aloadN X0.here hx rfl (hb hby d7_0) rfl rfl k) ?_
  obtain ⟨T1, X1, e1, st1⟩ := getF X0 hx hZ hown (host := "") (Or.inl (hw _ (List.mem_of_getElem? (i := 13) rfl))) Via.refl e0 F_numbers_a0 (g := (mkF m 1 #[.val (.ref a0), .unset, .unset, .unset, .unset, .unset, .unset, .unset, .unset, .unset] [(.ref a0)])) rfl rfl (hb hby d7_1)
  refine go (B := T1.setTop (mkF m 4 #[.val (.ref a0), .unset, .unset, .unset, .unset, .unset, .unset, .unset, .unset, .unset] [(.ref w_numbers_a0)])) st1 ?_
  refine go (B := T1.setTop (mkF m 5 #[.val (.ref a0), .unset, .unset, .unset, .unset, .unset, .unset, .unset, .unset, .unset] [(.int (0 : Int32)), (.ref w_numbers_a0)])) (fun _ k => XS.iconst X1.here hx rfl (hb hby d7_4) k) ?_
  obtain ⟨cl2, Ar2, qa2, Sa2, Na2, Ha2, Ga2⟩ := id V_w_numbers_a0
  have hin2 : ¬ ((0 : Int32) < 0 ∨ cl2.slots.size ≤ ((0 : Int32)).toNatClampNeg) := inb_of Sa2 ⟨by decide, by decide⟩
  have hat2 : cl2.slots[((0 : Int32)).toNatClampNeg]? = some (.int xn_0) := Has.at Ha2 hin2 rfl
  refine go (B := T1.setTop (mkF m 6 #[.val (.ref a0), .unset, .unset, .unset, .unset, .unset, .unset, .unset, .unset, .unset] [(.int xn_0)])) (fun _ k => X1.iaload hx (j := (0 : Int32)) (v := (.int xn_0)) (by rw [e1]; exact Ar2.1) (State.isArrayOf_alike hZ.alike Ar2.2.1) Ar2.2.2 hin2 hat2 (g := (mkF m 5 #[.val (.ref a0), .unset, .unset, .unset, .unset, .unset, .unset, .unset, .unset, .unset] [(.int (0 : Int32)), (.ref w_numbers_a0)])) rfl rfl (hb hby d7_5) _ k) ?_
  refine go (B := T1.setTop (mkF m 7 #[.val (.ref a0), .val (.int xn_0), .unset, .unset, .unset, .unset, .unset, .unset, .unset, .unset] [])) (fun _ k => XS.istoreN X1.here hx rfl (hb hby d7_6) rfl (l' := #[.val (.ref a0), .val (.int xn_0), .unset, .unset, .unset, .unset, .unset, .unset, .unset, .unset]) rfl k) ?_
  refine go (B := T1.setTop (mkF m 8 #[.val (.ref a0), .val (.int xn_0), .unset, .unset, .unset, .unset, .unset, .unset, .unset, .unset] [(.ref a0)])) (fun _ k => XS.aloadN X1.here hx rfl (hb hby d7_7) rfl rfl k) ?_
  refine go (B := T1.setTop (mkF m 9 #[.val (.ref a0), .val (.int xn_0), .unset, .unset, .unset, .unset, .unset, .unset, .unset, .unset] [(.ref a0), (.ref a0)])) (fun _ k => XS.dup X1.here hx rfl (hb hby d7_8) rfl rfl k) ?_
  obtain ⟨T3, X3, e3, st3⟩ := getF X1 hx hZ hown (host := "") (Or.inl (hw _ (List.mem_of_getElem? (i := 20) rfl))) Via.refl e1 F_size_a0 (g := (mkF m 9 #[.val (.ref a0), .val (.int xn_0), .unset, .unset, .unset, .unset, .unset, .unset, .unset, .unset] [(.ref a0), (.ref a0)])) rfl rfl (hb hby d7_9)
  refine go (B := T3.setTop (mkF m 12 #[.val (.ref a0), .val (.int xn_0), .unset, .unset, .unset, .unset, .unset, .unset, .unset, .unset] [(.int (2 : Int32)), (.ref a0)])) st3 ?_
  refine go (B := T3.setTop (mkF m 13 #[.val (.ref a0), .val (.int xn_0), .unset, .unset, .unset, .unset, .unset, .unset, .unset, .unset] [(.int (1 : Int32)), (.int (2 : Int32)), (.ref a0)])) (fun _ k => XS.iconst X3.here hx rfl (hb hby d7_12) k) ?_
  refine go (B := T3.setTop (mkF m 14 #[.val (.ref a0), .val (.int xn_0), .unset, .unset, .unset, .unset, .unset, .unset, .unset, .unset] [(.int (1 : Int32)), (.ref a0)])) (fun _ k => XS.isub X3.here hx rfl (hb hby d7_13) rfl k) ?_
  refine go (B := T3.setTop (mkF m 15 #[.val (.ref a0), .val (.int xn_0), .unset, .unset, .unset, .unset, .unset, .unset, .unset, .unset] [(.int (1 : Int32)), (.ref a0), (.int (1 : Int32))])) (fun _ k => XS.dupX1 X3.here hx rfl (hb hby d7_14) rfl rfl rfl k) ?_
  obtain ⟨T4, h4, X4, e4, W4, st4⟩ := putF X3 hx hZ hown (host := "") (Or.inl (hw _ (List.mem_of_getElem? (i := 20) rfl))) Via.refl e3 F_size_a0 E_a0 (Or.inl (hw _ (List.mem_of_getElem? (i := 21) rfl))) (hw _ (List.mem_of_getElem? (i := 1) rfl)) (ty := .int) (by decide) rfl rfl (g := (mkF m 15 #[.val (.ref a0), .val (.int xn_0), .unset, .unset, .unset, .unset, .unset, .unset, .unset, .unset] [(.int (1 : Int32)), (.ref a0), (.int (1 : Int32))])) rfl rfl (hb hby d7_15)
  have F_keys_a0_4 := Fld.other W4 F_keys_a0 (Or.inr (slot_ne (Or.inr (hw _ (List.mem_of_getElem? (i := 11) rfl))) (Or.inl (hw _ (List.mem_of_getElem? (i := 21) rfl))) (by decide) (t := (.array .double)) (t' := .int) (by decide) (by decide)))
  have F_numbers_a0_4 := Fld.other W4 F_numbers_a0 (Or.inr (slot_ne (Or.inr (hw _ (List.mem_of_getElem? (i := 14) rfl))) (Or.inl (hw _ (List.mem_of_getElem? (i := 21) rfl))) (by decide) (t := (.array .int)) (t' := .int) (by decide) (by decide)))
  have E_a0_4 := E_a0.wr W4
  have V_w_keys_a0_4 := V_w_keys_a0.other W4 (Ne.symm ne_a0_w_keys_a0)
  have V_w_numbers_a0_4 := V_w_numbers_a0.other W4 (Ne.symm ne_a0_w_numbers_a0)
  have F_size_a0_4 := Fld.same W4 F_size_a0
  have Z4 := Nat.le_trans Z0 (Keep.of_wr W4).1
  have K4 := K0.wr W4 (Or.inl (List.mem_of_getElem? (i := 0) rfl))
  have N4 := Fr.snoc X4 N0 g_a0
  refine go (B := T4.setTop (mkF m 18 #[.val (.ref a0), .val (.int xn_0), .unset, .unset, .unset, .unset, .unset, .unset, .unset, .unset] [(.int (1 : Int32))])) st4 ?_
  refine go (B := T4.setTop (mkF m 19 #[.val (.ref a0), .val (.int xn_0), .val (.int (1 : Int32)), .unset, .unset, .unset, .unset, .unset, .unset, .unset] [])) (fun _ k => XS.istoreN X4.here hx rfl (hb hby d7_18) rfl (l' := #[.val (.ref a0), .val (.int xn_0), .val (.int (1 : Int32)), .unset, .unset, .unset, .unset, .unset, .unset, .unset]) rfl k) ?_
  refine go (B := T4.setTop (mkF m 20 #[.val (.ref a0), .val (.int xn_0), .val (.int (1 : Int32)), .unset, .unset, .unset, .unset, .unset, .unset, .unset] [(.ref a0)])) (fun _ k => XS.aloadN X4.here hx rfl (hb hby d7_19) rfl rfl k) ?_
  obtain ⟨T5, X5, e5, st5⟩ := getF X4 hx hZ hown (host := "") (Or.inl (hw _ (List.mem_of_getElem? (i := 10) rfl))) Via.refl e4 F_keys_a0_4 (g := (mkF m 20 #[.val (.ref a0), .val (.int xn_0), .val (.int (1 : Int32)), .unset, .unset, .unset, .unset, .unset, .unset, .unset] [(.ref a0)])) rfl rfl (hb hby d7_20)
  refine go (B := T5.setTop (mkF m 23 #[.val (.ref a0), .val (.int xn_0), .val (.int (1 : Int32)), .unset, .unset, .unset, .unset, .unset, .unset, .unset] [(.ref w_keys_a0)])) st5 ?_
  refine go (B := T5.setTop (mkF m 24 #[.val (.ref a0), .val (.int xn_0), .val (.int (1 : Int32)), .unset, .unset, .unset, .unset, .unset, .unset, .unset] [(.int (1 : Int32)), (.ref w_keys_a0)])) (fun _ k => XS.iloadN X5.here hx rfl (hb hby d7_23) rfl k) ?_
  obtain ⟨cl6, Ar6, qa6, Sa6, Na6, Ha6, Ga6⟩ := id V_w_keys_a0_4
  have hin6 : ¬ ((1 : Int32) < 0 ∨ cl6.slots.size ≤ ((1 : Int32)).toNatClampNeg) := inb_of Sa6 ⟨by decide, by decide⟩
  have hat6 : cl6.slots[((1 : Int32)).toNatClampNeg]? = some (.double xk_1) := Has.at Ha6 hin6 rfl
  refine go (B := T5.setTop (mkF m 25 #[.val (.ref a0), .val (.int xn_0), .val (.int (1 : Int32)), .unset, .unset, .unset, .unset, .unset, .unset, .unset] [(.double xk_1)])) (fun _ k => X5.daload hx (j := (1 : Int32)) (v := (.double xk_1)) (by rw [e5]; exact Ar6.1) (State.isArrayOf_alike hZ.alike Ar6.2.1) Ar6.2.2 hin6 hat6 (g := (mkF m 24 #[.val (.ref a0), .val (.int xn_0), .val (.int (1 : Int32)), .unset, .unset, .unset, .unset, .unset, .unset, .unset] [(.int (1 : Int32)), (.ref w_keys_a0)])) rfl rfl (hb hby d7_24) _ k) ?_
  refine go (B := T5.setTop (mkF m 26 #[.val (.ref a0), .val (.int xn_0), .val (.int (1 : Int32)), .val (.double xk_1), .second, .unset, .unset, .unset, .unset, .unset] [])) (fun _ k => XS.dstoreN X5.here hx rfl (hb hby d7_25) rfl (l' := #[.val (.ref a0), .val (.int xn_0), .val (.int (1 : Int32)), .val (.double xk_1), .second, .unset, .unset, .unset, .unset, .unset]) rfl k) ?_
  refine go (B := T5.setTop (mkF m 27 #[.val (.ref a0), .val (.int xn_0), .val (.int (1 : Int32)), .val (.double xk_1), .second, .unset, .unset, .unset, .unset, .unset] [(.ref a0)])) (fun _ k => XS.aloadN X5.here hx rfl (hb hby d7_26) rfl rfl k) ?_
  obtain ⟨T7, X7, e7, st7⟩ := getF X5 hx hZ hown (host := "") (Or.inl (hw _ (List.mem_of_getElem? (i := 13) rfl))) Via.refl e5 F_numbers_a0_4 (g := (mkF m 27 #[.val (.ref a0), .val (.int xn_0), .val (.int (1 : Int32)), .val (.double xk_1), .second, .unset, .unset, .unset, .unset, .unset] [(.ref a0)])) rfl rfl (hb hby d7_27)
  refine go (B := T7.setTop (mkF m 30 #[.val (.ref a0), .val (.int xn_0), .val (.int (1 : Int32)), .val (.double xk_1), .second, .unset, .unset, .unset, .unset, .unset] [(.ref w_numbers_a0)])) st7 ?_
  refine go (B := T7.setTop (mkF m 31 #[.val (.ref a0), .val (.int xn_0), .val (.int (1 : Int32)), .val (.double xk_1), .second, .unset, .unset, .unset, .unset, .unset] [(.int (1 : Int32)), (.ref w_numbers_a0)])) (fun _ k => XS.iloadN X7.here hx rfl (hb hby d7_30) rfl k) ?_
  obtain ⟨cl8, Ar8, qa8, Sa8, Na8, Ha8, Ga8⟩ := id V_w_numbers_a0_4
  have hin8 : ¬ ((1 : Int32) < 0 ∨ cl8.slots.size ≤ ((1 : Int32)).toNatClampNeg) := inb_of Sa8 ⟨by decide, by decide⟩
  have hat8 : cl8.slots[((1 : Int32)).toNatClampNeg]? = some (.int xn_1) := Has.at Ha8 hin8 rfl
  refine go (B := T7.setTop (mkF m 32 #[.val (.ref a0), .val (.int xn_0), .val (.int (1 : Int32)), .val (.double xk_1), .second, .unset, .unset, .unset, .unset, .unset] [(.int xn_1)])) (fun _ k => X7.iaload hx (j := (1 : Int32)) (v := (.int xn_1)) (by rw [e7]; exact Ar8.1) (State.isArrayOf_alike hZ.alike Ar8.2.1) Ar8.2.2 hin8 hat8 (g := (mkF m 31 #[.val (.ref a0), .val (.int xn_0), .val (.int (1 : Int32)), .val (.double xk_1), .second, .unset, .unset, .unset, .unset, .unset] [(.int (1 : Int32)), (.ref w_numbers_a0)])) rfl rfl (hb hby d7_31) _ k) ?_
  refine go (B := T7.setTop (mkF m 34 #[.val (.ref a0), .val (.int xn_0), .val (.int (1 : Int32)), .val (.double xk_1), .second, .val (.int xn_1), .unset, .unset, .unset, .unset] [])) (fun _ k => XS.istore X7.here hx rfl (hb hby d7_32) rfl (l' := #[.val (.ref a0), .val (.int xn_0), .val (.int (1 : Int32)), .val (.double xk_1), .second, .val (.int xn_1), .unset, .unset, .unset, .unset]) rfl k) ?_
  refine go (B := T7.setTop (mkF m 35 #[.val (.ref a0), .val (.int xn_0), .val (.int (1 : Int32)), .val (.double xk_1), .second, .val (.int xn_1), .unset, .unset, .unset, .unset] [(.int (0 : Int32))])) (fun _ k => XS.iconst X7.here hx rfl (hb hby d7_34) k) ?_
  refine go (B := T7.setTop (mkF m 37 #[.val (.ref a0), .val (.int xn_0), .val (.int (1 : Int32)), .val (.double xk_1), .second, .val (.int xn_1), .val (.int (0 : Int32)), .unset, .unset, .unset] [])) (fun _ k => XS.istore X7.here hx rfl (hb hby d7_35) rfl (l' := #[.val (.ref a0), .val (.int xn_0), .val (.int (1 : Int32)), .val (.double xk_1), .second, .val (.int xn_1), .val (.int (0 : Int32)), .unset, .unset, .unset]) rfl k) ?_
  refine go (B := T7.setTop (mkF m 38 #[.val (.ref a0), .val (.int xn_0), .val (.int (1 : Int32)), .val (.double xk_1), .second, .val (.int xn_1), .val (.int (0 : Int32)), .unset, .unset, .unset] [(.int (1 : Int32))])) (fun _ k => XS.iloadN X7.here hx rfl (hb hby d7_37) rfl k) ?_
  refine go (B := T7.setTop (mkF m 39 #[.val (.ref a0), .val (.int xn_0), .val (.int (1 : Int32)), .val (.double xk_1), .second, .val (.int xn_1), .val (.int (0 : Int32)), .unset, .unset, .unset] [(.int (1 : Int32)), (.int (1 : Int32))])) (fun _ k => XS.iconst X7.here hx rfl (hb hby d7_38) k) ?_
  refine go (B := T7.setTop (mkF m 40 #[.val (.ref a0), .val (.int xn_0), .val (.int (1 : Int32)), .val (.double xk_1), .second, .val (.int xn_1), .val (.int (0 : Int32)), .unset, .unset, .unset] [(.int (0 : Int32))])) (fun _ k => XS.iushr X7.here hx rfl (hb hby d7_39) rfl k) ?_
  refine go (B := T7.setTop (mkF m 42 #[.val (.ref a0), .val (.int xn_0), .val (.int (1 : Int32)), .val (.double xk_1), .second, .val (.int xn_1), .val (.int (0 : Int32)), .val (.int (0 : Int32)), .unset, .unset] [])) (fun _ k => XS.istore X7.here hx rfl (hb hby d7_40) rfl (l' := #[.val (.ref a0), .val (.int xn_0), .val (.int (1 : Int32)), .val (.double xk_1), .second, .val (.int xn_1), .val (.int (0 : Int32)), .val (.int (0 : Int32)), .unset, .unset]) rfl k) ?_
  refine go (B := T7.setTop (mkF m 44 #[.val (.ref a0), .val (.int xn_0), .val (.int (1 : Int32)), .val (.double xk_1), .second, .val (.int xn_1), .val (.int (0 : Int32)), .val (.int (0 : Int32)), .unset, .unset] [(.int (0 : Int32))])) (fun _ k => XS.iload X7.here hx rfl (hb hby d7_42) rfl k) ?_
  refine go (B := T7.setTop (mkF m 46 #[.val (.ref a0), .val (.int xn_0), .val (.int (1 : Int32)), .val (.double xk_1), .second, .val (.int xn_1), .val (.int (0 : Int32)), .val (.int (0 : Int32)), .unset, .unset] [(.int (0 : Int32)), (.int (0 : Int32))])) (fun _ k => XS.iload X7.here hx rfl (hb hby d7_44) rfl k) ?_
  refine go (B := T7.setTop (mkF m 145 #[.val (.ref a0), .val (.int xn_0), .val (.int (1 : Int32)), .val (.double xk_1), .second, .val (.int xn_1), .val (.int (0 : Int32)), .val (.int (0 : Int32)), .unset, .unset] [])) (fun _ k => XS.icmpYes X7.here hx rfl (pc0 := 46) (pc' := 145) rfl (hb hby d7_46) rfl (flt (by decide : ¬ ((0 : Int32) < (0 : Int32)))).2.1 (by decide) (by decide) k) ?_
  refine go (B := T7.setTop (mkF m 146 #[.val (.ref a0), .val (.int xn_0), .val (.int (1 : Int32)), .val (.double xk_1), .second, .val (.int xn_1), .val (.int (0 : Int32)), .val (.int (0 : Int32)), .unset, .unset] [(.int (1 : Int32))])) (fun _ k => XS.iloadN X7.here hx rfl (hb hby d7_145) rfl k) ?_
  refine go (B := T7.setTop (mkF m 149 #[.val (.ref a0), .val (.int xn_0), .val (.int (1 : Int32)), .val (.double xk_1), .second, .val (.int xn_1), .val (.int (0 : Int32)), .val (.int (0 : Int32)), .unset, .unset] [])) (fun _ k => XS.ifNo X7.here hx rfl (hb hby d7_146) rfl ((if0 _ _).trans (tlt (by decide : (0 : Int32) < (1 : Int32))).2.2.2) k) ?_
  refine go (B := T7.setTop (mkF m 150 #[.val (.ref a0), .val (.int xn_0), .val (.int (1 : Int32)), .val (.double xk_1), .second, .val (.int xn_1), .val (.int (0 : Int32)), .val (.int (0 : Int32)), .unset, .unset] [(.ref a0)])) (fun _ k => XS.aloadN X7.here hx rfl (hb hby d7_149) rfl rfl k) ?_
  obtain ⟨T9, X9, e9, st9⟩ := getF X7 hx hZ hown (host := "") (Or.inl (hw _ (List.mem_of_getElem? (i := 10) rfl))) Via.refl e7 F_keys_a0_4 (g := (mkF m 150 #[.val (.ref a0), .val (.int xn_0), .val (.int (1 : Int32)), .val (.double xk_1), .second, .val (.int xn_1), .val (.int (0 : Int32)), .val (.int (0 : Int32)), .unset, .unset] [(.ref a0)])) rfl rfl (hb hby d7_150)
  refine go (B := T9.setTop (mkF m 153 #[.val (.ref a0), .val (.int xn_0), .val (.int (1 : Int32)), .val (.double xk_1), .second, .val (.int xn_1), .val (.int (0 : Int32)), .val (.int (0 : Int32)), .unset, .unset] [(.ref w_keys_a0)])) st9 ?_
  refine go (B := T9.setTop (mkF m 155 #[.val (.ref a0), .val (.int xn_0), .val (.int (1 : Int32)), .val (.double xk_1), .second, .val (.int xn_1), .val (.int (0 : Int32)), .val (.int (0 : Int32)), .unset, .unset] [(.int (0 : Int32)), (.ref w_keys_a0)])) (fun _ k => XS.iload X9.here hx rfl (hb hby d7_153) rfl k) ?_
  refine go (B := T9.setTop (mkF m 156 #[.val (.ref a0), .val (.int xn_0), .val (.int (1 : Int32)), .val (.double xk_1), .second, .val (.int xn_1), .val (.int (0 : Int32)), .val (.int (0 : Int32)), .unset, .unset] [(.double xk_1), (.int (0 : Int32)), (.ref w_keys_a0)])) (fun _ k => XS.dloadN X9.here hx rfl (hb hby d7_155) rfl k) ?_
  obtain ⟨cl10, Ar10, qa10, Sa10, Na10, Ha10, Ga10⟩ := id V_w_keys_a0_4
  have hin10 : ¬ ((0 : Int32) < 0 ∨ cl10.slots.size ≤ ((0 : Int32)).toNatClampNeg) := inb_of Sa10 ⟨by decide, by decide⟩
  obtain ⟨T10, h10, X10, e10, W10, st10⟩ := stD X9 hx hZ e9 Ar10 (j := (0 : Int32)) hin10 (g := (mkF m 156 #[.val (.ref a0), .val (.int xn_0), .val (.int (1 : Int32)), .val (.double xk_1), .second, .val (.int xn_1), .val (.int (0 : Int32)), .val (.int (0 : Int32)), .unset, .unset] [(.double xk_1), (.int (0 : Int32)), (.ref w_keys_a0)])) rfl rfl (hb hby d7_156)
  have F_keys_a0_10 := Fld.other W10 F_keys_a0_4 (Or.inl ne_a0_w_keys_a0)
  have F_numbers_a0_10 := Fld.other W10 F_numbers_a0_4 (Or.inl ne_a0_w_keys_a0)
  have E_a0_10 := E_a0_4.wr W10
  have V_w_numbers_a0_10 := V_w_numbers_a0_4.other W10 (Ne.symm ne_w_keys_a0_w_numbers_a0)
  have F_size_a0_10 := Fld.other W10 F_size_a0_4 (Or.inl ne_a0_w_keys_a0)
  have Z10 := Nat.le_trans Z4 (Keep.of_wr W10).1
  have K10 := K4.wr W10 (Or.inl (List.mem_of_getElem? (i := 1) rfl))
  have N10 := Fr.snoc X10 N4 g_w_keys_a0
  have V_w_keys_a0_10 : Arv Z h10 w_keys_a0 k_w_keys_a0 .double (3 : Int32) [(.double xk_1), (.double xk_1), (.double xk_2)] (.double (0 : UInt64)) := Arv.set Ar10 qa10 Sa10 Na10 Ha10 Ga10 rfl W10 0 rfl (Nat.le_of_ble_eq_true rfl)
  refine go (B := T10.setTop (mkF m 157 #[.val (.ref a0), .val (.int xn_0), .val (.int (1 : Int32)), .val (.double xk_1), .second, .val (.int xn_1), .val (.int (0 : Int32)), .val (.int (0 : Int32)), .unset, .unset] [])) st10 ?_
  refine go (B := T10.setTop (mkF m 158 #[.val (.ref a0), .val (.int xn_0), .val (.int (1 : Int32)), .val (.double xk_1), .second, .val (.int xn_1), .val (.int (0 : Int32)), .val (.int (0 : Int32)), .unset, .unset] [(.ref a0)])) (fun _ k => XS.aloadN X10.here hx rfl (hb hby d7_157) rfl rfl k) ?_
  obtain ⟨T11, X11, e11, st11⟩ := getF X10 hx hZ hown (host := "") (Or.inl (hw _ (List.mem_of_getElem? (i := 13) rfl))) Via.refl e10 F_numbers_a0_10 (g := (mkF m 158 #[.val (.ref a0), .val (.int xn_0), .val (.int (1 : Int32)), .val (.double xk_1), .second, .val (.int xn_1), .val (.int (0 : Int32)), .val (.int (0 : Int32)), .unset, .unset] [(.ref a0)])) rfl rfl (hb hby d7_158)
  refine go (B := T11.setTop (mkF m 161 #[.val (.ref a0), .val (.int xn_0), .val (.int (1 : Int32)), .val (.double xk_1), .second, .val (.int xn_1), .val (.int (0 : Int32)), .val (.int (0 : Int32)), .unset, .unset] [(.ref w_numbers_a0)])) st11 ?_
  refine go (B := T11.setTop (mkF m 163 #[.val (.ref a0), .val (.int xn_0), .val (.int (1 : Int32)), .val (.double xk_1), .second, .val (.int xn_1), .val (.int (0 : Int32)), .val (.int (0 : Int32)), .unset, .unset] [(.int (0 : Int32)), (.ref w_numbers_a0)])) (fun _ k => XS.iload X11.here hx rfl (hb hby d7_161) rfl k) ?_
  refine go (B := T11.setTop (mkF m 165 #[.val (.ref a0), .val (.int xn_0), .val (.int (1 : Int32)), .val (.double xk_1), .second, .val (.int xn_1), .val (.int (0 : Int32)), .val (.int (0 : Int32)), .unset, .unset] [(.int xn_1), (.int (0 : Int32)), (.ref w_numbers_a0)])) (fun _ k => XS.iload X11.here hx rfl (hb hby d7_163) rfl k) ?_
  obtain ⟨cl12, Ar12, qa12, Sa12, Na12, Ha12, Ga12⟩ := id V_w_numbers_a0_10
  have hin12 : ¬ ((0 : Int32) < 0 ∨ cl12.slots.size ≤ ((0 : Int32)).toNatClampNeg) := inb_of Sa12 ⟨by decide, by decide⟩
  obtain ⟨T12, h12, X12, e12, W12, st12⟩ := stI X11 hx hZ e11 Ar12 (j := (0 : Int32)) hin12 (g := (mkF m 165 #[.val (.ref a0), .val (.int xn_0), .val (.int (1 : Int32)), .val (.double xk_1), .second, .val (.int xn_1), .val (.int (0 : Int32)), .val (.int (0 : Int32)), .unset, .unset] [(.int xn_1), (.int (0 : Int32)), (.ref w_numbers_a0)])) rfl rfl (hb hby d7_165)
  have F_keys_a0_12 := Fld.other W12 F_keys_a0_10 (Or.inl ne_a0_w_numbers_a0)
  have F_numbers_a0_12 := Fld.other W12 F_numbers_a0_10 (Or.inl ne_a0_w_numbers_a0)
  have E_a0_12 := E_a0_10.wr W12
  have F_size_a0_12 := Fld.other W12 F_size_a0_10 (Or.inl ne_a0_w_numbers_a0)
  have V_w_keys_a0_12 := V_w_keys_a0_10.other W12 ne_w_keys_a0_w_numbers_a0
  have Z12 := Nat.le_trans Z10 (Keep.of_wr W12).1
  have K12 := K10.wr W12 (Or.inl (List.mem_of_getElem? (i := 2) rfl))
  have N12 := Fr.snoc X12 N10 g_w_numbers_a0
  have V_w_numbers_a0_12 : Arv Z h12 w_numbers_a0 k_w_numbers_a0 .int (3 : Int32) [(.int xn_1), (.int xn_1), (.int xn_2)] (.int (0 : Int32)) := Arv.set Ar12 qa12 Sa12 Na12 Ha12 Ga12 rfl W12 0 rfl (Nat.le_of_ble_eq_true rfl)
  refine go (B := T12.setTop (mkF m 166 #[.val (.ref a0), .val (.int xn_0), .val (.int (1 : Int32)), .val (.double xk_1), .second, .val (.int xn_1), .val (.int (0 : Int32)), .val (.int (0 : Int32)), .unset, .unset] [])) st12 ?_
  refine go (B := T12.setTop (mkF m 167 #[.val (.ref a0), .val (.int xn_0), .val (.int (1 : Int32)), .val (.double xk_1), .second, .val (.int xn_1), .val (.int (0 : Int32)), .val (.int (0 : Int32)), .unset, .unset] [(.int xn_0)])) (fun _ k => XS.iloadN X12.here hx rfl (hb hby d7_166) rfl k) ?_
  have r13 : (f7s2 xn_0) = xn_0 := by unfold f7s2; rfl
  exact end_int X12 hx Bd.notSynchronized Bd.returns (hb hby d7_167) hF e12 (by decide) (by decide) ⟨xk_1, xk_1, xk_2, xn_1, xn_1, xn_2, (congrArg (fun z => some (Value.int z)) r13.symm), N12, K12, E_a0_12, F_keys_a0_12, F_numbers_a0_12, F_size_a0_12, V_w_keys_a0_12, V_w_numbers_a0_12, hk1, hk1, hk2⟩
theorem d7_49 : decode prog_78_method_5_code 49 = .ok (.iconst 2, 1) := by decide +kernel
theorem d7_50 : decode prog_78_method_5_code 50 = .ok (.iload 6, 2) := by decide +kernel
theorem d7_52 : decode prog_78_method_5_code 52 = .ok (.imul, 1) := by decide +kernel
theorem d7_53 : decode prog_78_method_5_code 53 = .ok (.iconst 1, 1) := by decide +kernel
theorem d7_54 : decode prog_78_method_5_code 54 = .ok (.iadd, 1) := by decide +kernel
theorem d7_55 : decode prog_78_method_5_code 55 = .ok (.istore 8, 2) := by decide +kernel
theorem d7_57 : decode prog_78_method_5_code 57 = .ok (.iload 8, 2) := by decide +kernel
theorem d7_59 : decode prog_78_method_5_code 59 = .ok (.iconst 1, 1) := by decide +kernel
theorem d7_60 : decode prog_78_method_5_code 60 = .ok (.iadd, 1) := by decide +kernel
theorem d7_61 : decode prog_78_method_5_code 61 = .ok (.istore 9, 2) := by decide +kernel
theorem d7_63 : decode prog_78_method_5_code 63 = .ok (.iload 9, 2) := by decide +kernel
theorem d7_65 : decode prog_78_method_5_code 65 = .ok (.iload_n 2, 1) := by decide +kernel
theorem d7_66 : decode prog_78_method_5_code 66 = .ok (.if_icmp .ge 27, 3) := by decide +kernel
theorem d7_93 : decode prog_78_method_5_code 93 = .ok (.dload_n 3, 1) := by decide +kernel
theorem d7_94 : decode prog_78_method_5_code 94 = .ok (.aload_n 0, 1) := by decide +kernel
theorem d7_95 : decode prog_78_method_5_code 95 = .ok (.getfield 7, 3) := by decide +kernel
theorem d7_98 : decode prog_78_method_5_code 98 = .ok (.iload 8, 2) := by decide +kernel
theorem d7_100 : decode prog_78_method_5_code 100 = .ok (.daload, 1) := by decide +kernel
theorem d7_101 : decode prog_78_method_5_code 101 = .ok (.invokestatic 21, 3) := by decide +kernel
theorem d7_104 : decode prog_78_method_5_code 104 = .ok (.ifCond .gt 6, 3) := by decide +kernel
theorem d7_107 : decode prog_78_method_5_code 107 = .ok (.goto 38, 3) := by decide +kernel
theorem d7_110 : decode prog_78_method_5_code 110 = .ok (.aload_n 0, 1) := by decide +kernel
theorem d7_111 : decode prog_78_method_5_code 111 = .ok (.getfield 7, 3) := by decide +kernel
theorem d7_114 : decode prog_78_method_5_code 114 = .ok (.iload 6, 2) := by decide +kernel
theorem d7_116 : decode prog_78_method_5_code 116 = .ok (.aload_n 0, 1) := by decide +kernel
theorem d7_117 : decode prog_78_method_5_code 117 = .ok (.getfield 7, 3) := by decide +kernel
theorem d7_120 : decode prog_78_method_5_code 120 = .ok (.iload 8, 2) := by decide +kernel
theorem d7_122 : decode prog_78_method_5_code 122 = .ok (.daload, 1) := by decide +kernel
theorem d7_123 : decode prog_78_method_5_code 123 = .ok (.dastore, 1) := by decide +kernel
theorem d7_124 : decode prog_78_method_5_code 124 = .ok (.aload_n 0, 1) := by decide +kernel
theorem d7_125 : decode prog_78_method_5_code 125 = .ok (.getfield 13, 3) := by decide +kernel
theorem d7_128 : decode prog_78_method_5_code 128 = .ok (.iload 6, 2) := by decide +kernel
theorem d7_130 : decode prog_78_method_5_code 130 = .ok (.aload_n 0, 1) := by decide +kernel
theorem d7_131 : decode prog_78_method_5_code 131 = .ok (.getfield 13, 3) := by decide +kernel
theorem d7_134 : decode prog_78_method_5_code 134 = .ok (.iload 8, 2) := by decide +kernel
theorem d7_136 : decode prog_78_method_5_code 136 = .ok (.iaload, 1) := by decide +kernel
theorem d7_137 : decode prog_78_method_5_code 137 = .ok (.iastore, 1) := by decide +kernel
theorem d7_138 : decode prog_78_method_5_code 138 = .ok (.iload 8, 2) := by decide +kernel
theorem d7_140 : decode prog_78_method_5_code 140 = .ok (.istore 6, 2) := by decide +kernel
theorem d7_142 : decode prog_78_method_5_code 142 = .ok (.goto (-100), 3) := by decide +kernel
theorem ef_7s3 (m : MethodId) (a0 : Addr) : entryFrame m #[(.ref a0)] 10 = mkF m 0 #[.val (.ref a0), .unset, .unset, .unset, .unset, .unset, .unset, .unset, .unset, .unset] [] := by first | (simp [entryFrame, mkF, argsToLocals, Value.category]; done) | rfl
def f7s3 (xk_1 : UInt64) (xk_2 : UInt64) (xn_0 : Int32) : Int32 := if (0 : Int32) < (f6 xk_2 xk_1) then xn_0 else xn_0
abbrev room7s3 : Room := { frames := 3, cells := 0, slots := 0, locals := 47 }
def Q7s3 (Z : State) (a0 : Addr) (w_keys_a0 : Addr) (w_numbers_a0 : Addr) (k_w_keys_a0 : ClassId) (xk_0 : UInt64) (xk_1 : UInt64) (xk_2 : UInt64) (k_w_numbers_a0 : ClassId) (xn_0 : Int32) (xn_1 : Int32) (xn_2 : Int32) (h0 : Heap) (n0 : Nat) (v : Option Value) (h : Heap) (L : List Loc) : Prop := ∃ K0 : UInt64, ∃ K1 : UInt64, ∃ K2 : UInt64, ∃ M0 : Int32, ∃ M1 : Int32, ∃ M2 : Int32, v = some (.int (f7s3 xk_1 xk_2 xn_0)) ∧ Fr n0 L ∧ Keep h0 h [a0, w_keys_a0, w_numbers_a0] ∧ Exa Z h a0 "com/example/constrained_flow/constrainedflow/planner/search/LeastFirst" ∧ Fld Z h a0 "com/example/constrained_flow/constrainedflow/planner/search/LeastFirst" "keys" "[D" (.ref w_keys_a0) ∧ Fld Z h a0 "com/example/constrained_flow/constrainedflow/planner/search/LeastFirst" "numbers" "[I" (.ref w_numbers_a0) ∧ Fld Z h a0 "com/example/constrained_flow/constrainedflow/planner/search/LeastFirst" "size" "I" (.int (2 : Int32)) ∧ Arv Z h w_keys_a0 k_w_keys_a0 .double (3 : Int32) [(.double K0), (.double K1), (.double K2)] (.double (0 : UInt64)) ∧ Arv Z h w_numbers_a0 k_w_numbers_a0 .int (3 : Int32) [(.int M0), (.int M1), (.int M2)] (.int (0 : Int32)) ∧ NoNaN64 K0 ∧ NoNaN64 K1 ∧ NoNaN64 K2
set_option maxRecDepth 65536 in
set_option maxHeartbeats 40000000 in
theorem rm7s3 (l : Launch) (Z : State) (aw : Array Value) (hw : ∀ d ∈ tables_1, d.before aw Z = true) (ws : List Jvm.Cond) (a0 : Addr) (w_keys_a0 : Addr) (w_numbers_a0 : Addr) (k_w_keys_a0 : ClassId) (xk_0 : UInt64) (xk_1 : UInt64) (xk_2 : UInt64) (k_w_numbers_a0 : ClassId) (xn_0 : Int32) (xn_1 : Int32) (xn_2 : Int32) (h0 : Heap) (n0 : Nat) (Z0 : n0 ≤ h0.size) (F_keys_a0 : Fld Z h0 a0 "com/example/constrained_flow/constrainedflow/planner/search/LeastFirst" "keys" "[D" (.ref w_keys_a0)) (F_numbers_a0 : Fld Z h0 a0 "com/example/constrained_flow/constrainedflow/planner/search/LeastFirst" "numbers" "[I" (.ref w_numbers_a0)) (F_size_a0 : Fld Z h0 a0 "com/example/constrained_flow/constrainedflow/planner/search/LeastFirst" "size" "I" (.int (3 : Int32))) (E_a0 : Exa Z h0 a0 "com/example/constrained_flow/constrainedflow/planner/search/LeastFirst") (V_w_keys_a0 : Arv Z h0 w_keys_a0 k_w_keys_a0 .double (3 : Int32) [(.double xk_0), (.double xk_1), (.double xk_2)] (.double (0 : UInt64))) (V_w_numbers_a0 : Arv Z h0 w_numbers_a0 k_w_numbers_a0 .int (3 : Int32) [(.int xn_0), (.int xn_1), (.int xn_2)] (.int (0 : Int32))) (ne_a0_w_keys_a0 : a0 ≠ w_keys_a0) (ne_a0_w_numbers_a0 : a0 ≠ w_numbers_a0) (ne_w_keys_a0_w_numbers_a0 : w_keys_a0 ≠ w_numbers_a0) (g_a0 : n0 ≤ a0) (g_w_keys_a0 : n0 ≤ w_keys_a0) (g_w_numbers_a0 : n0 ≤ w_numbers_a0) (hk0 : NoNaN64 xk_0) (hk1 : NoNaN64 xk_1) (hk2 : NoNaN64 xk_2) :
    MetFree l (⟨"com/example/constrained_flow/constrainedflow/planner/search/LeastFirst", "take", "()I"⟩ : MethodName) (head1 (Jvm.Cond.code (⟨"com/example/constrained_flow/constrainedflow/planner/search/LeastFirst", "take", "()I"⟩ : MethodName) prog_78_method_5_code 10 (some .int) :: ws) room7s3) (fun a U => a = #[(.ref a0)] ∧ Z.Warmed39 U.vm ∧ U.heap = h0) (fun _ _ _ _ _ => True) (fun _ U o U' => ∃ v L, o = .returned v ∧ Q7s3 Z a0 w_keys_a0 w_numbers_a0 k_w_keys_a0 xk_0 xk_1 xk_2 k_w_numbers_a0 xn_0 xn_1 xn_2 h0 n0 v U'.heap L ∧ FrameEnd U o U' L room7s3.cells room7s3.slots) := by
  refine MetFree.of_bodySF (plainFor_of_name pn_1) hisR ?_
  intro p e s m args below meth c s₁ Bd hml0 hP hK
  obtain ⟨rfl, hZ, hh⟩ := hP
  have hx := Bd.exec
  have hby := Bd.bytes
  have hml : c.maxLocals = 10 := hml0
  have hown : s.vm.findClass "com/example/constrained_flow/constrainedflow/planner/search/LeastFirst" = some m.cls := findClass_of_methodNamed Bd.named
  have hnm := (name_of_methodNamed Bd.named Bd.method).1
  have X0 : Stand p l e room7s3 s m #[(.ref a0)] below meth c s₁ [] 0 0 := Stand.of_body Bd
  have e0 : s₁.heap = h0 := by rw [← hh, Bd.state]; rfl
  have N0 := Fr.nil n0
  have K0 := Keep.refl h0 [a0, w_keys_a0, w_numbers_a0]
  rw [ef_7s3 m a0]
  refine go_in (s₁ := s₁) (Q := Q7s3 Z a0 w_keys_a0 w_numbers_a0 k_w_keys_a0 xk_0 xk_1 xk_2 k_w_numbers_a0 xn_0 xn_1 xn_2 h0 n0) fun F hF => ?_
  refine go (B := s₁.setTop (mkF m 1 #[.val (.ref a0), .unset, .unset, .unset, .unset, .unset, .unset, .unset, .unset, .unset] [(.ref a0)])) (fun _ k => XS.aloadN X0.here hx rfl (hb hby d7_0) rfl rfl k) ?_
  obtain ⟨T1, X1, e1, st1⟩ := getF X0 hx hZ hown (host := "") (Or.inl (hw _ (List.mem_of_getElem? (i := 13) rfl))) Via.refl e0 F_numbers_a0 (g := (mkF m 1 #[.val (.ref a0), .unset, .unset, .unset, .unset, .unset, .unset, .unset, .unset, .unset] [(.ref a0)])) rfl rfl (hb hby d7_1)
  refine go (B := T1.setTop (mkF m 4 #[.val (.ref a0), .unset, .unset, .unset, .unset, .unset, .unset, .unset, .unset, .unset] [(.ref w_numbers_a0)])) st1 ?_
  refine go (B := T1.setTop (mkF m 5 #[.val (.ref a0), .unset, .unset, .unset, .unset, .unset, .unset, .unset, .unset, .unset] [(.int (0 : Int32)), (.ref w_numbers_a0)])) (fun _ k => XS.iconst X1.here hx rfl (hb hby d7_4) k) ?_
  obtain ⟨cl2, Ar2, qa2, Sa2, Na2, Ha2, Ga2⟩ := id V_w_numbers_a0
  have hin2 : ¬ ((0 : Int32) < 0 ∨ cl2.slots.size ≤ ((0 : Int32)).toNatClampNeg) := inb_of Sa2 ⟨by decide, by decide⟩
  have hat2 : cl2.slots[((0 : Int32)).toNatClampNeg]? = some (.int xn_0) := Has.at Ha2 hin2 rfl
  refine go (B := T1.setTop (mkF m 6 #[.val (.ref a0), .unset, .unset, .unset, .unset, .unset, .unset, .unset, .unset, .unset] [(.int xn_0)])) (fun _ k => X1.iaload hx (j := (0 : Int32)) (v := (.int xn_0)) (by rw [e1]; exact Ar2.1) (State.isArrayOf_alike hZ.alike Ar2.2.1) Ar2.2.2 hin2 hat2 (g := (mkF m 5 #[.val (.ref a0), .unset, .unset, .unset, .unset, .unset, .unset, .unset, .unset, .unset] [(.int (0 : Int32)), (.ref w_numbers_a0)])) rfl rfl (hb hby d7_5) _ k) ?_
  refine go (B := T1.setTop (mkF m 7 #[.val (.ref a0), .val (.int xn_0), .unset, .unset, .unset, .unset, .unset, .unset, .unset, .unset] [])) (fun _ k => XS.istoreN X1.here hx rfl (hb hby d7_6) rfl (l' := #[.val (.ref a0), .val (.int xn_0), .unset, .unset, .unset, .unset, .unset, .unset, .unset, .unset]) rfl k) ?_
  refine go (B := T1.setTop (mkF m 8 #[.val (.ref a0), .val (.int xn_0), .unset, .unset, .unset, .unset, .unset, .unset, .unset, .unset] [(.ref a0)])) (fun _ k => XS.aloadN X1.here hx rfl (hb hby d7_7) rfl rfl k) ?_
  refine go (B := T1.setTop (mkF m 9 #[.val (.ref a0), .val (.int xn_0), .unset, .unset, .unset, .unset, .unset, .unset, .unset, .unset] [(.ref a0), (.ref a0)])) (fun _ k => XS.dup X1.here hx rfl (hb hby d7_8) rfl rfl k) ?_
  obtain ⟨T3, X3, e3, st3⟩ := getF X1 hx hZ hown (host := "") (Or.inl (hw _ (List.mem_of_getElem? (i := 20) rfl))) Via.refl e1 F_size_a0 (g := (mkF m 9 #[.val (.ref a0), .val (.int xn_0), .unset, .unset, .unset, .unset, .unset, .unset, .unset, .unset] [(.ref a0), (.ref a0)])) rfl rfl (hb hby d7_9)
  refine go (B := T3.setTop (mkF m 12 #[.val (.ref a0), .val (.int xn_0), .unset, .unset, .unset, .unset, .unset, .unset, .unset, .unset] [(.int (3 : Int32)), (.ref a0)])) st3 ?_
  refine go (B := T3.setTop (mkF m 13 #[.val (.ref a0), .val (.int xn_0), .unset, .unset, .unset, .unset, .unset, .unset, .unset, .unset] [(.int (1 : Int32)), (.int (3 : Int32)), (.ref a0)])) (fun _ k => XS.iconst X3.here hx rfl (hb hby d7_12) k) ?_
  refine go (B := T3.setTop (mkF m 14 #[.val (.ref a0), .val (.int xn_0), .unset, .unset, .unset, .unset, .unset, .unset, .unset, .unset] [(.int (2 : Int32)), (.ref a0)])) (fun _ k => XS.isub X3.here hx rfl (hb hby d7_13) rfl k) ?_
  refine go (B := T3.setTop (mkF m 15 #[.val (.ref a0), .val (.int xn_0), .unset, .unset, .unset, .unset, .unset, .unset, .unset, .unset] [(.int (2 : Int32)), (.ref a0), (.int (2 : Int32))])) (fun _ k => XS.dupX1 X3.here hx rfl (hb hby d7_14) rfl rfl rfl k) ?_
  obtain ⟨T4, h4, X4, e4, W4, st4⟩ := putF X3 hx hZ hown (host := "") (Or.inl (hw _ (List.mem_of_getElem? (i := 20) rfl))) Via.refl e3 F_size_a0 E_a0 (Or.inl (hw _ (List.mem_of_getElem? (i := 21) rfl))) (hw _ (List.mem_of_getElem? (i := 1) rfl)) (ty := .int) (by decide) rfl rfl (g := (mkF m 15 #[.val (.ref a0), .val (.int xn_0), .unset, .unset, .unset, .unset, .unset, .unset, .unset, .unset] [(.int (2 : Int32)), (.ref a0), (.int (2 : Int32))])) rfl rfl (hb hby d7_15)
  have F_keys_a0_4 := Fld.other W4 F_keys_a0 (Or.inr (slot_ne (Or.inr (hw _ (List.mem_of_getElem? (i := 11) rfl))) (Or.inl (hw _ (List.mem_of_getElem? (i := 21) rfl))) (by decide) (t := (.array .double)) (t' := .int) (by decide) (by decide)))
  have F_numbers_a0_4 := Fld.other W4 F_numbers_a0 (Or.inr (slot_ne (Or.inr (hw _ (List.mem_of_getElem? (i := 14) rfl))) (Or.inl (hw _ (List.mem_of_getElem? (i := 21) rfl))) (by decide) (t := (.array .int)) (t' := .int) (by decide) (by decide)))
  have E_a0_4 := E_a0.wr W4
  have V_w_keys_a0_4 := V_w_keys_a0.other W4 (Ne.symm ne_a0_w_keys_a0)
  have V_w_numbers_a0_4 := V_w_numbers_a0.other W4 (Ne.symm ne_a0_w_numbers_a0)
  have F_size_a0_4 := Fld.same W4 F_size_a0
  have Z4 := Nat.le_trans Z0 (Keep.of_wr W4).1
  have K4 := K0.wr W4 (Or.inl (List.mem_of_getElem? (i := 0) rfl))
  have N4 := Fr.snoc X4 N0 g_a0
  refine go (B := T4.setTop (mkF m 18 #[.val (.ref a0), .val (.int xn_0), .unset, .unset, .unset, .unset, .unset, .unset, .unset, .unset] [(.int (2 : Int32))])) st4 ?_
  refine go (B := T4.setTop (mkF m 19 #[.val (.ref a0), .val (.int xn_0), .val (.int (2 : Int32)), .unset, .unset, .unset, .unset, .unset, .unset, .unset] [])) (fun _ k => XS.istoreN X4.here hx rfl (hb hby d7_18) rfl (l' := #[.val (.ref a0), .val (.int xn_0), .val (.int (2 : Int32)), .unset, .unset, .unset, .unset, .unset, .unset, .unset]) rfl k) ?_
  refine go (B := T4.setTop (mkF m 20 #[.val (.ref a0), .val (.int xn_0), .val (.int (2 : Int32)), .unset, .unset, .unset, .unset, .unset, .unset, .unset] [(.ref a0)])) (fun _ k => XS.aloadN X4.here hx rfl (hb hby d7_19) rfl rfl k) ?_
  obtain ⟨T5, X5, e5, st5⟩ := getF X4 hx hZ hown (host := "") (Or.inl (hw _ (List.mem_of_getElem? (i := 10) rfl))) Via.refl e4 F_keys_a0_4 (g := (mkF m 20 #[.val (.ref a0), .val (.int xn_0), .val (.int (2 : Int32)), .unset, .unset, .unset, .unset, .unset, .unset, .unset] [(.ref a0)])) rfl rfl (hb hby d7_20)
  refine go (B := T5.setTop (mkF m 23 #[.val (.ref a0), .val (.int xn_0), .val (.int (2 : Int32)), .unset, .unset, .unset, .unset, .unset, .unset, .unset] [(.ref w_keys_a0)])) st5 ?_
  refine go (B := T5.setTop (mkF m 24 #[.val (.ref a0), .val (.int xn_0), .val (.int (2 : Int32)), .unset, .unset, .unset, .unset, .unset, .unset, .unset] [(.int (2 : Int32)), (.ref w_keys_a0)])) (fun _ k => XS.iloadN X5.here hx rfl (hb hby d7_23) rfl k) ?_
  obtain ⟨cl6, Ar6, qa6, Sa6, Na6, Ha6, Ga6⟩ := id V_w_keys_a0_4
  have hin6 : ¬ ((2 : Int32) < 0 ∨ cl6.slots.size ≤ ((2 : Int32)).toNatClampNeg) := inb_of Sa6 ⟨by decide, by decide⟩
  have hat6 : cl6.slots[((2 : Int32)).toNatClampNeg]? = some (.double xk_2) := Has.at Ha6 hin6 rfl
  refine go (B := T5.setTop (mkF m 25 #[.val (.ref a0), .val (.int xn_0), .val (.int (2 : Int32)), .unset, .unset, .unset, .unset, .unset, .unset, .unset] [(.double xk_2)])) (fun _ k => X5.daload hx (j := (2 : Int32)) (v := (.double xk_2)) (by rw [e5]; exact Ar6.1) (State.isArrayOf_alike hZ.alike Ar6.2.1) Ar6.2.2 hin6 hat6 (g := (mkF m 24 #[.val (.ref a0), .val (.int xn_0), .val (.int (2 : Int32)), .unset, .unset, .unset, .unset, .unset, .unset, .unset] [(.int (2 : Int32)), (.ref w_keys_a0)])) rfl rfl (hb hby d7_24) _ k) ?_
  refine go (B := T5.setTop (mkF m 26 #[.val (.ref a0), .val (.int xn_0), .val (.int (2 : Int32)), .val (.double xk_2), .second, .unset, .unset, .unset, .unset, .unset] [])) (fun _ k => XS.dstoreN X5.here hx rfl (hb hby d7_25) rfl (l' := #[.val (.ref a0), .val (.int xn_0), .val (.int (2 : Int32)), .val (.double xk_2), .second, .unset, .unset, .unset, .unset, .unset]) rfl k) ?_
  refine go (B := T5.setTop (mkF m 27 #[.val (.ref a0), .val (.int xn_0), .val (.int (2 : Int32)), .val (.double xk_2), .second, .unset, .unset, .unset, .unset, .unset] [(.ref a0)])) (fun _ k => XS.aloadN X5.here hx rfl (hb hby d7_26) rfl rfl k) ?_
  obtain ⟨T7, X7, e7, st7⟩ := getF X5 hx hZ hown (host := "") (Or.inl (hw _ (List.mem_of_getElem? (i := 13) rfl))) Via.refl e5 F_numbers_a0_4 (g := (mkF m 27 #[.val (.ref a0), .val (.int xn_0), .val (.int (2 : Int32)), .val (.double xk_2), .second, .unset, .unset, .unset, .unset, .unset] [(.ref a0)])) rfl rfl (hb hby d7_27)
  refine go (B := T7.setTop (mkF m 30 #[.val (.ref a0), .val (.int xn_0), .val (.int (2 : Int32)), .val (.double xk_2), .second, .unset, .unset, .unset, .unset, .unset] [(.ref w_numbers_a0)])) st7 ?_
  refine go (B := T7.setTop (mkF m 31 #[.val (.ref a0), .val (.int xn_0), .val (.int (2 : Int32)), .val (.double xk_2), .second, .unset, .unset, .unset, .unset, .unset] [(.int (2 : Int32)), (.ref w_numbers_a0)])) (fun _ k => XS.iloadN X7.here hx rfl (hb hby d7_30) rfl k) ?_
  obtain ⟨cl8, Ar8, qa8, Sa8, Na8, Ha8, Ga8⟩ := id V_w_numbers_a0_4
  have hin8 : ¬ ((2 : Int32) < 0 ∨ cl8.slots.size ≤ ((2 : Int32)).toNatClampNeg) := inb_of Sa8 ⟨by decide, by decide⟩
  have hat8 : cl8.slots[((2 : Int32)).toNatClampNeg]? = some (.int xn_2) := Has.at Ha8 hin8 rfl
  refine go (B := T7.setTop (mkF m 32 #[.val (.ref a0), .val (.int xn_0), .val (.int (2 : Int32)), .val (.double xk_2), .second, .unset, .unset, .unset, .unset, .unset] [(.int xn_2)])) (fun _ k => X7.iaload hx (j := (2 : Int32)) (v := (.int xn_2)) (by rw [e7]; exact Ar8.1) (State.isArrayOf_alike hZ.alike Ar8.2.1) Ar8.2.2 hin8 hat8 (g := (mkF m 31 #[.val (.ref a0), .val (.int xn_0), .val (.int (2 : Int32)), .val (.double xk_2), .second, .unset, .unset, .unset, .unset, .unset] [(.int (2 : Int32)), (.ref w_numbers_a0)])) rfl rfl (hb hby d7_31) _ k) ?_
  refine go (B := T7.setTop (mkF m 34 #[.val (.ref a0), .val (.int xn_0), .val (.int (2 : Int32)), .val (.double xk_2), .second, .val (.int xn_2), .unset, .unset, .unset, .unset] [])) (fun _ k => XS.istore X7.here hx rfl (hb hby d7_32) rfl (l' := #[.val (.ref a0), .val (.int xn_0), .val (.int (2 : Int32)), .val (.double xk_2), .second, .val (.int xn_2), .unset, .unset, .unset, .unset]) rfl k) ?_
  refine go (B := T7.setTop (mkF m 35 #[.val (.ref a0), .val (.int xn_0), .val (.int (2 : Int32)), .val (.double xk_2), .second, .val (.int xn_2), .unset, .unset, .unset, .unset] [(.int (0 : Int32))])) (fun _ k => XS.iconst X7.here hx rfl (hb hby d7_34) k) ?_
  refine go (B := T7.setTop (mkF m 37 #[.val (.ref a0), .val (.int xn_0), .val (.int (2 : Int32)), .val (.double xk_2), .second, .val (.int xn_2), .val (.int (0 : Int32)), .unset, .unset, .unset] [])) (fun _ k => XS.istore X7.here hx rfl (hb hby d7_35) rfl (l' := #[.val (.ref a0), .val (.int xn_0), .val (.int (2 : Int32)), .val (.double xk_2), .second, .val (.int xn_2), .val (.int (0 : Int32)), .unset, .unset, .unset]) rfl k) ?_
  refine go (B := T7.setTop (mkF m 38 #[.val (.ref a0), .val (.int xn_0), .val (.int (2 : Int32)), .val (.double xk_2), .second, .val (.int xn_2), .val (.int (0 : Int32)), .unset, .unset, .unset] [(.int (2 : Int32))])) (fun _ k => XS.iloadN X7.here hx rfl (hb hby d7_37) rfl k) ?_
  refine go (B := T7.setTop (mkF m 39 #[.val (.ref a0), .val (.int xn_0), .val (.int (2 : Int32)), .val (.double xk_2), .second, .val (.int xn_2), .val (.int (0 : Int32)), .unset, .unset, .unset] [(.int (1 : Int32)), (.int (2 : Int32))])) (fun _ k => XS.iconst X7.here hx rfl (hb hby d7_38) k) ?_
  refine go (B := T7.setTop (mkF m 40 #[.val (.ref a0), .val (.int xn_0), .val (.int (2 : Int32)), .val (.double xk_2), .second, .val (.int xn_2), .val (.int (0 : Int32)), .unset, .unset, .unset] [(.int (1 : Int32))])) (fun _ k => XS.iushr X7.here hx rfl (hb hby d7_39) rfl k) ?_
  refine go (B := T7.setTop (mkF m 42 #[.val (.ref a0), .val (.int xn_0), .val (.int (2 : Int32)), .val (.double xk_2), .second, .val (.int xn_2), .val (.int (0 : Int32)), .val (.int (1 : Int32)), .unset, .unset] [])) (fun _ k => XS.istore X7.here hx rfl (hb hby d7_40) rfl (l' := #[.val (.ref a0), .val (.int xn_0), .val (.int (2 : Int32)), .val (.double xk_2), .second, .val (.int xn_2), .val (.int (0 : Int32)), .val (.int (1 : Int32)), .unset, .unset]) rfl k) ?_
  refine go (B := T7.setTop (mkF m 44 #[.val (.ref a0), .val (.int xn_0), .val (.int (2 : Int32)), .val (.double xk_2), .second, .val (.int xn_2), .val (.int (0 : Int32)), .val (.int (1 : Int32)), .unset, .unset] [(.int (0 : Int32))])) (fun _ k => XS.iload X7.here hx rfl (hb hby d7_42) rfl k) ?_
  refine go (B := T7.setTop (mkF m 46 #[.val (.ref a0), .val (.int xn_0), .val (.int (2 : Int32)), .val (.double xk_2), .second, .val (.int xn_2), .val (.int (0 : Int32)), .val (.int (1 : Int32)), .unset, .unset] [(.int (1 : Int32)), (.int (0 : Int32))])) (fun _ k => XS.iload X7.here hx rfl (hb hby d7_44) rfl k) ?_
  refine go (B := T7.setTop (mkF m 49 #[.val (.ref a0), .val (.int xn_0), .val (.int (2 : Int32)), .val (.double xk_2), .second, .val (.int xn_2), .val (.int (0 : Int32)), .val (.int (1 : Int32)), .unset, .unset] [])) (fun _ k => XS.icmpNo X7.here hx rfl (hb hby d7_46) rfl (tlt (by decide : (0 : Int32) < (1 : Int32))).2.1 k) ?_
  refine go (B := T7.setTop (mkF m 50 #[.val (.ref a0), .val (.int xn_0), .val (.int (2 : Int32)), .val (.double xk_2), .second, .val (.int xn_2), .val (.int (0 : Int32)), .val (.int (1 : Int32)), .unset, .unset] [(.int (2 : Int32))])) (fun _ k => XS.iconst X7.here hx rfl (hb hby d7_49) k) ?_
  refine go (B := T7.setTop (mkF m 52 #[.val (.ref a0), .val (.int xn_0), .val (.int (2 : Int32)), .val (.double xk_2), .second, .val (.int xn_2), .val (.int (0 : Int32)), .val (.int (1 : Int32)), .unset, .unset] [(.int (0 : Int32)), (.int (2 : Int32))])) (fun _ k => XS.iload X7.here hx rfl (hb hby d7_50) rfl k) ?_
  refine go (B := T7.setTop (mkF m 53 #[.val (.ref a0), .val (.int xn_0), .val (.int (2 : Int32)), .val (.double xk_2), .second, .val (.int xn_2), .val (.int (0 : Int32)), .val (.int (1 : Int32)), .unset, .unset] [(.int (0 : Int32))])) (fun _ k => XS.imul X7.here hx rfl (hb hby d7_52) rfl k) ?_
  refine go (B := T7.setTop (mkF m 54 #[.val (.ref a0), .val (.int xn_0), .val (.int (2 : Int32)), .val (.double xk_2), .second, .val (.int xn_2), .val (.int (0 : Int32)), .val (.int (1 : Int32)), .unset, .unset] [(.int (1 : Int32)), (.int (0 : Int32))])) (fun _ k => XS.iconst X7.here hx rfl (hb hby d7_53) k) ?_
  refine go (B := T7.setTop (mkF m 55 #[.val (.ref a0), .val (.int xn_0), .val (.int (2 : Int32)), .val (.double xk_2), .second, .val (.int xn_2), .val (.int (0 : Int32)), .val (.int (1 : Int32)), .unset, .unset] [(.int (1 : Int32))])) (fun _ k => XS.iadd X7.here hx rfl (hb hby d7_54) rfl k) ?_
  refine go (B := T7.setTop (mkF m 57 #[.val (.ref a0), .val (.int xn_0), .val (.int (2 : Int32)), .val (.double xk_2), .second, .val (.int xn_2), .val (.int (0 : Int32)), .val (.int (1 : Int32)), .val (.int (1 : Int32)), .unset] [])) (fun _ k => XS.istore X7.here hx rfl (hb hby d7_55) rfl (l' := #[.val (.ref a0), .val (.int xn_0), .val (.int (2 : Int32)), .val (.double xk_2), .second, .val (.int xn_2), .val (.int (0 : Int32)), .val (.int (1 : Int32)), .val (.int (1 : Int32)), .unset]) rfl k) ?_
  refine go (B := T7.setTop (mkF m 59 #[.val (.ref a0), .val (.int xn_0), .val (.int (2 : Int32)), .val (.double xk_2), .second, .val (.int xn_2), .val (.int (0 : Int32)), .val (.int (1 : Int32)), .val (.int (1 : Int32)), .unset] [(.int (1 : Int32))])) (fun _ k => XS.iload X7.here hx rfl (hb hby d7_57) rfl k) ?_
  refine go (B := T7.setTop (mkF m 60 #[.val (.ref a0), .val (.int xn_0), .val (.int (2 : Int32)), .val (.double xk_2), .second, .val (.int xn_2), .val (.int (0 : Int32)), .val (.int (1 : Int32)), .val (.int (1 : Int32)), .unset] [(.int (1 : Int32)), (.int (1 : Int32))])) (fun _ k => XS.iconst X7.here hx rfl (hb hby d7_59) k) ?_
  refine go (B := T7.setTop (mkF m 61 #[.val (.ref a0), .val (.int xn_0), .val (.int (2 : Int32)), .val (.double xk_2), .second, .val (.int xn_2), .val (.int (0 : Int32)), .val (.int (1 : Int32)), .val (.int (1 : Int32)), .unset] [(.int (2 : Int32))])) (fun _ k => XS.iadd X7.here hx rfl (hb hby d7_60) rfl k) ?_
  refine go (B := T7.setTop (mkF m 63 #[.val (.ref a0), .val (.int xn_0), .val (.int (2 : Int32)), .val (.double xk_2), .second, .val (.int xn_2), .val (.int (0 : Int32)), .val (.int (1 : Int32)), .val (.int (1 : Int32)), .val (.int (2 : Int32))] [])) (fun _ k => XS.istore X7.here hx rfl (hb hby d7_61) rfl (l' := #[.val (.ref a0), .val (.int xn_0), .val (.int (2 : Int32)), .val (.double xk_2), .second, .val (.int xn_2), .val (.int (0 : Int32)), .val (.int (1 : Int32)), .val (.int (1 : Int32)), .val (.int (2 : Int32))]) rfl k) ?_
  refine go (B := T7.setTop (mkF m 65 #[.val (.ref a0), .val (.int xn_0), .val (.int (2 : Int32)), .val (.double xk_2), .second, .val (.int xn_2), .val (.int (0 : Int32)), .val (.int (1 : Int32)), .val (.int (1 : Int32)), .val (.int (2 : Int32))] [(.int (2 : Int32))])) (fun _ k => XS.iload X7.here hx rfl (hb hby d7_63) rfl k) ?_
  refine go (B := T7.setTop (mkF m 66 #[.val (.ref a0), .val (.int xn_0), .val (.int (2 : Int32)), .val (.double xk_2), .second, .val (.int xn_2), .val (.int (0 : Int32)), .val (.int (1 : Int32)), .val (.int (1 : Int32)), .val (.int (2 : Int32))] [(.int (2 : Int32)), (.int (2 : Int32))])) (fun _ k => XS.iloadN X7.here hx rfl (hb hby d7_65) rfl k) ?_
  refine go (B := T7.setTop (mkF m 93 #[.val (.ref a0), .val (.int xn_0), .val (.int (2 : Int32)), .val (.double xk_2), .second, .val (.int xn_2), .val (.int (0 : Int32)), .val (.int (1 : Int32)), .val (.int (1 : Int32)), .val (.int (2 : Int32))] [])) (fun _ k => XS.icmpYes X7.here hx rfl (pc0 := 66) (pc' := 93) rfl (hb hby d7_66) rfl (flt (by decide : ¬ ((2 : Int32) < (2 : Int32)))).2.1 (by decide) (by decide) k) ?_
  refine go (B := T7.setTop (mkF m 94 #[.val (.ref a0), .val (.int xn_0), .val (.int (2 : Int32)), .val (.double xk_2), .second, .val (.int xn_2), .val (.int (0 : Int32)), .val (.int (1 : Int32)), .val (.int (1 : Int32)), .val (.int (2 : Int32))] [(.double xk_2)])) (fun _ k => XS.dloadN X7.here hx rfl (hb hby d7_93) rfl k) ?_
  refine go (B := T7.setTop (mkF m 95 #[.val (.ref a0), .val (.int xn_0), .val (.int (2 : Int32)), .val (.double xk_2), .second, .val (.int xn_2), .val (.int (0 : Int32)), .val (.int (1 : Int32)), .val (.int (1 : Int32)), .val (.int (2 : Int32))] [(.ref a0), (.double xk_2)])) (fun _ k => XS.aloadN X7.here hx rfl (hb hby d7_94) rfl rfl k) ?_
  obtain ⟨T9, X9, e9, st9⟩ := getF X7 hx hZ hown (host := "") (Or.inl (hw _ (List.mem_of_getElem? (i := 10) rfl))) Via.refl e7 F_keys_a0_4 (g := (mkF m 95 #[.val (.ref a0), .val (.int xn_0), .val (.int (2 : Int32)), .val (.double xk_2), .second, .val (.int xn_2), .val (.int (0 : Int32)), .val (.int (1 : Int32)), .val (.int (1 : Int32)), .val (.int (2 : Int32))] [(.ref a0), (.double xk_2)])) rfl rfl (hb hby d7_95)
  refine go (B := T9.setTop (mkF m 98 #[.val (.ref a0), .val (.int xn_0), .val (.int (2 : Int32)), .val (.double xk_2), .second, .val (.int xn_2), .val (.int (0 : Int32)), .val (.int (1 : Int32)), .val (.int (1 : Int32)), .val (.int (2 : Int32))] [(.ref w_keys_a0), (.double xk_2)])) st9 ?_
  refine go (B := T9.setTop (mkF m 100 #[.val (.ref a0), .val (.int xn_0), .val (.int (2 : Int32)), .val (.double xk_2), .second, .val (.int xn_2), .val (.int (0 : Int32)), .val (.int (1 : Int32)), .val (.int (1 : Int32)), .val (.int (2 : Int32))] [(.int (1 : Int32)), (.ref w_keys_a0), (.double xk_2)])) (fun _ k => XS.iload X9.here hx rfl (hb hby d7_98) rfl k) ?_
  obtain ⟨cl10, Ar10, qa10, Sa10, Na10, Ha10, Ga10⟩ := id V_w_keys_a0_4
  have hin10 : ¬ ((1 : Int32) < 0 ∨ cl10.slots.size ≤ ((1 : Int32)).toNatClampNeg) := inb_of Sa10 ⟨by decide, by decide⟩
  have hat10 : cl10.slots[((1 : Int32)).toNatClampNeg]? = some (.double xk_1) := Has.at Ha10 hin10 rfl
  refine go (B := T9.setTop (mkF m 101 #[.val (.ref a0), .val (.int xn_0), .val (.int (2 : Int32)), .val (.double xk_2), .second, .val (.int xn_2), .val (.int (0 : Int32)), .val (.int (1 : Int32)), .val (.int (1 : Int32)), .val (.int (2 : Int32))] [(.double xk_1), (.double xk_2)])) (fun _ k => X9.daload hx (j := (1 : Int32)) (v := (.double xk_1)) (by rw [e9]; exact Ar10.1) (State.isArrayOf_alike hZ.alike Ar10.2.1) Ar10.2.2 hin10 hat10 (g := (mkF m 100 #[.val (.ref a0), .val (.int xn_0), .val (.int (2 : Int32)), .val (.double xk_2), .second, .val (.int xn_2), .val (.int (0 : Int32)), .val (.int (1 : Int32)), .val (.int (1 : Int32)), .val (.int (2 : Int32))] [(.int (1 : Int32)), (.ref w_keys_a0), (.double xk_2)])) rfl rfl (hb hby d7_100) _ k) ?_
  obtain ⟨_, _, ⟨T11, L11, k11, n11⟩, -, X11, ⟨Lc11, hQ11, l11, y11, z11⟩, st11⟩ := Jvm.LawKit.callS X9 hx (y := (⟨"java/lang/Double", "compare", "(DD)I"⟩ : MethodName)) hown (mvT hZ (hw _ (List.mem_of_getElem? (i := 31) rfl))) (mvT hZ (hw _ (List.mem_of_getElem? (i := 32) rfl))) (mvT hZ (hw _ (List.mem_of_getElem? (i := 33) rfl))) (mvT hZ (hw _ (List.mem_of_getElem? (i := 34) rfl))) (by decide) (backOf (W := 0) (rm6 l Z aw hw [] xk_2 xk_1 h4 n0 Z4 hk2 hk1) hZ (hw _ (List.mem_of_getElem? (i := 34) rfl)) (hw _ (List.mem_of_getElem? (i := 33) rfl)) (by decide) (by decide)) (g := (mkF m 101 #[.val (.ref a0), .val (.int xn_0), .val (.int (2 : Int32)), .val (.double xk_2), .second, .val (.int xn_2), .val (.int (0 : Int32)), .val (.int (1 : Int32)), .val (.int (1 : Int32)), .val (.int (2 : Int32))] [(.double xk_1), (.double xk_2)])) rfl (by rw [hml]; rfl) (argsL := [(.double xk_2), (.double xk_1)]) (rest := []) (lenOf pd_2 rfl) rfl (by show 2 * 0 + _ ≤ _; exact Nat.le_of_eq rfl) (hb hby d7_101) (fun _ _ => ⟨rfl, e9, (by decide : 0 + 0 ≤ _), (by decide : 0 + 0 ≤ _)⟩)
  dsimp only [Pt.U, Pt.locs, Pt.cells, Pt.slots] at X11 l11 y11 z11 st11 hQ11
  subst l11 y11 z11
  obtain ⟨rfl, rfl, e11⟩ := hQ11
  have N11 := Fr.app N4 (Fr.nil n0)
  refine go (B := T11.setTop (mkF m 104 #[.val (.ref a0), .val (.int xn_0), .val (.int (2 : Int32)), .val (.double xk_2), .second, .val (.int xn_2), .val (.int (0 : Int32)), .val (.int (1 : Int32)), .val (.int (1 : Int32)), .val (.int (2 : Int32))] [(.int (f6 xk_2 xk_1))])) (fun _ k => st11 _ k) ?_
  by_cases hc12 : (0 : Int32) < (f6 xk_2 xk_1)
  · refine go (B := T11.setTop (mkF m 110 #[.val (.ref a0), .val (.int xn_0), .val (.int (2 : Int32)), .val (.double xk_2), .second, .val (.int xn_2), .val (.int (0 : Int32)), .val (.int (1 : Int32)), .val (.int (1 : Int32)), .val (.int (2 : Int32))] [])) (fun _ k => XS.ifYes X11.here hx rfl (pc0 := 104) (pc' := 110) rfl (hb hby d7_104) rfl ((if0 _ _).trans (tlt hc12).2.2.1) (by decide) (by decide) k) ?_
    refine go (B := T11.setTop (mkF m 111 #[.val (.ref a0), .val (.int xn_0), .val (.int (2 : Int32)), .val (.double xk_2), .second, .val (.int xn_2), .val (.int (0 : Int32)), .val (.int (1 : Int32)), .val (.int (1 : Int32)), .val (.int (2 : Int32))] [(.ref a0)])) (fun _ k => XS.aloadN X11.here hx rfl (hb hby d7_110) rfl rfl k) ?_
    obtain ⟨T13, X13, e13, st13⟩ := getF X11 hx hZ hown (host := "") (Or.inl (hw _ (List.mem_of_getElem? (i := 10) rfl))) Via.refl e11 F_keys_a0_4 (g := (mkF m 111 #[.val (.ref a0), .val (.int xn_0), .val (.int (2 : Int32)), .val (.double xk_2), .second, .val (.int xn_2), .val (.int (0 : Int32)), .val (.int (1 : Int32)), .val (.int (1 : Int32)), .val (.int (2 : Int32))] [(.ref a0)])) rfl rfl (hb hby d7_111)
    refine go (B := T13.setTop (mkF m 114 #[.val (.ref a0), .val (.int xn_0), .val (.int (2 : Int32)), .val (.double xk_2), .second, .val (.int xn_2), .val (.int (0 : Int32)), .val (.int (1 : Int32)), .val (.int (1 : Int32)), .val (.int (2 : Int32))] [(.ref w_keys_a0)])) st13 ?_
    refine go (B := T13.setTop (mkF m 116 #[.val (.ref a0), .val (.int xn_0), .val (.int (2 : Int32)), .val (.double xk_2), .second, .val (.int xn_2), .val (.int (0 : Int32)), .val (.int (1 : Int32)), .val (.int (1 : Int32)), .val (.int (2 : Int32))] [(.int (0 : Int32)), (.ref w_keys_a0)])) (fun _ k => XS.iload X13.here hx rfl (hb hby d7_114) rfl k) ?_
    refine go (B := T13.setTop (mkF m 117 #[.val (.ref a0), .val (.int xn_0), .val (.int (2 : Int32)), .val (.double xk_2), .second, .val (.int xn_2), .val (.int (0 : Int32)), .val (.int (1 : Int32)), .val (.int (1 : Int32)), .val (.int (2 : Int32))] [(.ref a0), (.int (0 : Int32)), (.ref w_keys_a0)])) (fun _ k => XS.aloadN X13.here hx rfl (hb hby d7_116) rfl rfl k) ?_
    obtain ⟨T14, X14, e14, st14⟩ := getF X13 hx hZ hown (host := "") (Or.inl (hw _ (List.mem_of_getElem? (i := 10) rfl))) Via.refl e13 F_keys_a0_4 (g := (mkF m 117 #[.val (.ref a0), .val (.int xn_0), .val (.int (2 : Int32)), .val (.double xk_2), .second, .val (.int xn_2), .val (.int (0 : Int32)), .val (.int (1 : Int32)), .val (.int (1 : Int32)), .val (.int (2 : Int32))] [(.ref a0), (.int (0 : Int32)), (.ref w_keys_a0)])) rfl rfl (hb hby d7_117)
    refine go (B := T14.setTop (mkF m 120 #[.val (.ref a0), .val (.int xn_0), .val (.int (2 : Int32)), .val (.double xk_2), .second, .val (.int xn_2), .val (.int (0 : Int32)), .val (.int (1 : Int32)), .val (.int (1 : Int32)), .val (.int (2 : Int32))] [(.ref w_keys_a0), (.int (0 : Int32)), (.ref w_keys_a0)])) st14 ?_
    refine go (B := T14.setTop (mkF m 122 #[.val (.ref a0), .val (.int xn_0), .val (.int (2 : Int32)), .val (.double xk_2), .second, .val (.int xn_2), .val (.int (0 : Int32)), .val (.int (1 : Int32)), .val (.int (1 : Int32)), .val (.int (2 : Int32))] [(.int (1 : Int32)), (.ref w_keys_a0), (.int (0 : Int32)), (.ref w_keys_a0)])) (fun _ k => XS.iload X14.here hx rfl (hb hby d7_120) rfl k) ?_
    obtain ⟨cl15, Ar15, qa15, Sa15, Na15, Ha15, Ga15⟩ := id V_w_keys_a0_4
    have hin15 : ¬ ((1 : Int32) < 0 ∨ cl15.slots.size ≤ ((1 : Int32)).toNatClampNeg) := inb_of Sa15 ⟨by decide, by decide⟩
    have hat15 : cl15.slots[((1 : Int32)).toNatClampNeg]? = some (.double xk_1) := Has.at Ha15 hin15 rfl
    refine go (B := T14.setTop (mkF m 123 #[.val (.ref a0), .val (.int xn_0), .val (.int (2 : Int32)), .val (.double xk_2), .second, .val (.int xn_2), .val (.int (0 : Int32)), .val (.int (1 : Int32)), .val (.int (1 : Int32)), .val (.int (2 : Int32))] [(.double xk_1), (.int (0 : Int32)), (.ref w_keys_a0)])) (fun _ k => X14.daload hx (j := (1 : Int32)) (v := (.double xk_1)) (by rw [e14]; exact Ar15.1) (State.isArrayOf_alike hZ.alike Ar15.2.1) Ar15.2.2 hin15 hat15 (g := (mkF m 122 #[.val (.ref a0), .val (.int xn_0), .val (.int (2 : Int32)), .val (.double xk_2), .second, .val (.int xn_2), .val (.int (0 : Int32)), .val (.int (1 : Int32)), .val (.int (1 : Int32)), .val (.int (2 : Int32))] [(.int (1 : Int32)), (.ref w_keys_a0), (.int (0 : Int32)), (.ref w_keys_a0)])) rfl rfl (hb hby d7_122) _ k) ?_
    obtain ⟨cl16, Ar16, qa16, Sa16, Na16, Ha16, Ga16⟩ := id V_w_keys_a0_4
    have hin16 : ¬ ((0 : Int32) < 0 ∨ cl16.slots.size ≤ ((0 : Int32)).toNatClampNeg) := inb_of Sa16 ⟨by decide, by decide⟩
    obtain ⟨T16, h16, X16, e16, W16, st16⟩ := stD X14 hx hZ e14 Ar16 (j := (0 : Int32)) hin16 (g := (mkF m 123 #[.val (.ref a0), .val (.int xn_0), .val (.int (2 : Int32)), .val (.double xk_2), .second, .val (.int xn_2), .val (.int (0 : Int32)), .val (.int (1 : Int32)), .val (.int (1 : Int32)), .val (.int (2 : Int32))] [(.double xk_1), (.int (0 : Int32)), (.ref w_keys_a0)])) rfl rfl (hb hby d7_123)
    have F_keys_a0_16 := Fld.other W16 F_keys_a0_4 (Or.inl ne_a0_w_keys_a0)
    have F_numbers_a0_16 := Fld.other W16 F_numbers_a0_4 (Or.inl ne_a0_w_keys_a0)
    have E_a0_16 := E_a0_4.wr W16
    have V_w_numbers_a0_16 := V_w_numbers_a0_4.other W16 (Ne.symm ne_w_keys_a0_w_numbers_a0)
    have F_size_a0_16 := Fld.other W16 F_size_a0_4 (Or.inl ne_a0_w_keys_a0)
    have Z16 := Nat.le_trans Z4 (Keep.of_wr W16).1
    have K16 := K4.wr W16 (Or.inl (List.mem_of_getElem? (i := 1) rfl))
    have N16 := Fr.snoc X16 N11 g_w_keys_a0
    have V_w_keys_a0_16 : Arv Z h16 w_keys_a0 k_w_keys_a0 .double (3 : Int32) [(.double xk_1), (.double xk_1), (.double xk_2)] (.double (0 : UInt64)) := Arv.set Ar16 qa16 Sa16 Na16 Ha16 Ga16 rfl W16 0 rfl (Nat.le_of_ble_eq_true rfl)
    refine go (B := T16.setTop (mkF m 124 #[.val (.ref a0), .val (.int xn_0), .val (.int (2 : Int32)), .val (.double xk_2), .second, .val (.int xn_2), .val (.int (0 : Int32)), .val (.int (1 : Int32)), .val (.int (1 : Int32)), .val (.int (2 : Int32))] [])) st16 ?_
    refine go (B := T16.setTop (mkF m 125 #[.val (.ref a0), .val (.int xn_0), .val (.int (2 : Int32)), .val (.double xk_2), .second, .val (.int xn_2), .val (.int (0 : Int32)), .val (.int (1 : Int32)), .val (.int (1 : Int32)), .val (.int (2 : Int32))] [(.ref a0)])) (fun _ k => XS.aloadN X16.here hx rfl (hb hby d7_124) rfl rfl k) ?_
    obtain ⟨T17, X17, e17, st17⟩ := getF X16 hx hZ hown (host := "") (Or.inl (hw _ (List.mem_of_getElem? (i := 13) rfl))) Via.refl e16 F_numbers_a0_16 (g := (mkF m 125 #[.val (.ref a0), .val (.int xn_0), .val (.int (2 : Int32)), .val (.double xk_2), .second, .val (.int xn_2), .val (.int (0 : Int32)), .val (.int (1 : Int32)), .val (.int (1 : Int32)), .val (.int (2 : Int32))] [(.ref a0)])) rfl rfl (hb hby d7_125)
    refine go (B := T17.setTop (mkF m 128 #[.val (.ref a0), .val (.int xn_0), .val (.int (2 : Int32)), .val (.double xk_2), .second, .val (.int xn_2), .val (.int (0 : Int32)), .val (.int (1 : Int32)), .val (.int (1 : Int32)), .val (.int (2 : Int32))] [(.ref w_numbers_a0)])) st17 ?_
    refine go (B := T17.setTop (mkF m 130 #[.val (.ref a0), .val (.int xn_0), .val (.int (2 : Int32)), .val (.double xk_2), .second, .val (.int xn_2), .val (.int (0 : Int32)), .val (.int (1 : Int32)), .val (.int (1 : Int32)), .val (.int (2 : Int32))] [(.int (0 : Int32)), (.ref w_numbers_a0)])) (fun _ k => XS.iload X17.here hx rfl (hb hby d7_128) rfl k) ?_
    refine go (B := T17.setTop (mkF m 131 #[.val (.ref a0), .val (.int xn_0), .val (.int (2 : Int32)), .val (.double xk_2), .second, .val (.int xn_2), .val (.int (0 : Int32)), .val (.int (1 : Int32)), .val (.int (1 : Int32)), .val (.int (2 : Int32))] [(.ref a0), (.int (0 : Int32)), (.ref w_numbers_a0)])) (fun _ k => XS.aloadN X17.here hx rfl (hb hby d7_130) rfl rfl k) ?_
    obtain ⟨T18, X18, e18, st18⟩ := getF X17 hx hZ hown (host := "") (Or.inl (hw _ (List.mem_of_getElem? (i := 13) rfl))) Via.refl e17 F_numbers_a0_16 (g := (mkF m 131 #[.val (.ref a0), .val (.int xn_0), .val (.int (2 : Int32)), .val (.double xk_2), .second, .val (.int xn_2), .val (.int (0 : Int32)), .val (.int (1 : Int32)), .val (.int (1 : Int32)), .val (.int (2 : Int32))] [(.ref a0), (.int (0 : Int32)), (.ref w_numbers_a0)])) rfl rfl (hb hby d7_131)
    refine go (B := T18.setTop (mkF m 134 #[.val (.ref a0), .val (.int xn_0), .val (.int (2 : Int32)), .val (.double xk_2), .second, .val (.int xn_2), .val (.int (0 : Int32)), .val (.int (1 : Int32)), .val (.int (1 : Int32)), .val (.int (2 : Int32))] [(.ref w_numbers_a0), (.int (0 : Int32)), (.ref w_numbers_a0)])) st18 ?_
    refine go (B := T18.setTop (mkF m 136 #[.val (.ref a0), .val (.int xn_0), .val (.int (2 : Int32)), .val (.double xk_2), .second, .val (.int xn_2), .val (.int (0 : Int32)), .val (.int (1 : Int32)), .val (.int (1 : Int32)), .val (.int (2 : Int32))] [(.int (1 : Int32)), (.ref w_numbers_a0), (.int (0 : Int32)), (.ref w_numbers_a0)])) (fun _ k => XS.iload X18.here hx rfl (hb hby d7_134) rfl k) ?_
    obtain ⟨cl19, Ar19, qa19, Sa19, Na19, Ha19, Ga19⟩ := id V_w_numbers_a0_16
    have hin19 : ¬ ((1 : Int32) < 0 ∨ cl19.slots.size ≤ ((1 : Int32)).toNatClampNeg) := inb_of Sa19 ⟨by decide, by decide⟩
    have hat19 : cl19.slots[((1 : Int32)).toNatClampNeg]? = some (.int xn_1) := Has.at Ha19 hin19 rfl
    refine go (B := T18.setTop (mkF m 137 #[.val (.ref a0), .val (.int xn_0), .val (.int (2 : Int32)), .val (.double xk_2), .second, .val (.int xn_2), .val (.int (0 : Int32)), .val (.int (1 : Int32)), .val (.int (1 : Int32)), .val (.int (2 : Int32))] [(.int xn_1), (.int (0 : Int32)), (.ref w_numbers_a0)])) (fun _ k => X18.iaload hx (j := (1 : Int32)) (v := (.int xn_1)) (by rw [e18]; exact Ar19.1) (State.isArrayOf_alike hZ.alike Ar19.2.1) Ar19.2.2 hin19 hat19 (g := (mkF m 136 #[.val (.ref a0), .val (.int xn_0), .val (.int (2 : Int32)), .val (.double xk_2), .second, .val (.int xn_2), .val (.int (0 : Int32)), .val (.int (1 : Int32)), .val (.int (1 : Int32)), .val (.int (2 : Int32))] [(.int (1 : Int32)), (.ref w_numbers_a0), (.int (0 : Int32)), (.ref w_numbers_a0)])) rfl rfl (hb hby d7_136) _ k) ?_
    obtain ⟨cl20, Ar20, qa20, Sa20, Na20, Ha20, Ga20⟩ := id V_w_numbers_a0_16
    have hin20 : ¬ ((0 : Int32) < 0 ∨ cl20.slots.size ≤ ((0 : Int32)).toNatClampNeg) := inb_of Sa20 ⟨by decide, by decide⟩
    obtain ⟨T20, h20, X20, e20, W20, st20⟩ := stI X18 hx hZ e18 Ar20 (j := (0 : Int32)) hin20 (g := (mkF m 137 #[.val (.ref a0), .val (.int xn_0), .val (.int (2 : Int32)), .val (.double xk_2), .second, .val (.int xn_2), .val (.int (0 : Int32)), .val (.int (1 : Int32)), .val (.int (1 : Int32)), .val (.int (2 : Int32))] [(.int xn_1), (.int (0 : Int32)), (.ref w_numbers_a0)])) rfl rfl (hb hby d7_137)
    have F_keys_a0_20 := Fld.other W20 F_keys_a0_16 (Or.inl ne_a0_w_numbers_a0)
    have F_numbers_a0_20 := Fld.other W20 F_numbers_a0_16 (Or.inl ne_a0_w_numbers_a0)
    have E_a0_20 := E_a0_16.wr W20
    have F_size_a0_20 := Fld.other W20 F_size_a0_16 (Or.inl ne_a0_w_numbers_a0)
    have V_w_keys_a0_20 := V_w_keys_a0_16.other W20 ne_w_keys_a0_w_numbers_a0
    have Z20 := Nat.le_trans Z16 (Keep.of_wr W20).1
    have K20 := K16.wr W20 (Or.inl (List.mem_of_getElem? (i := 2) rfl))
    have N20 := Fr.snoc X20 N16 g_w_numbers_a0
    have V_w_numbers_a0_20 : Arv Z h20 w_numbers_a0 k_w_numbers_a0 .int (3 : Int32) [(.int xn_1), (.int xn_1), (.int xn_2)] (.int (0 : Int32)) := Arv.set Ar20 qa20 Sa20 Na20 Ha20 Ga20 rfl W20 0 rfl (Nat.le_of_ble_eq_true rfl)
    refine go (B := T20.setTop (mkF m 138 #[.val (.ref a0), .val (.int xn_0), .val (.int (2 : Int32)), .val (.double xk_2), .second, .val (.int xn_2), .val (.int (0 : Int32)), .val (.int (1 : Int32)), .val (.int (1 : Int32)), .val (.int (2 : Int32))] [])) st20 ?_
    refine go (B := T20.setTop (mkF m 140 #[.val (.ref a0), .val (.int xn_0), .val (.int (2 : Int32)), .val (.double xk_2), .second, .val (.int xn_2), .val (.int (0 : Int32)), .val (.int (1 : Int32)), .val (.int (1 : Int32)), .val (.int (2 : Int32))] [(.int (1 : Int32))])) (fun _ k => XS.iload X20.here hx rfl (hb hby d7_138) rfl k) ?_
    refine go (B := T20.setTop (mkF m 142 #[.val (.ref a0), .val (.int xn_0), .val (.int (2 : Int32)), .val (.double xk_2), .second, .val (.int xn_2), .val (.int (1 : Int32)), .val (.int (1 : Int32)), .val (.int (1 : Int32)), .val (.int (2 : Int32))] [])) (fun _ k => XS.istore X20.here hx rfl (hb hby d7_140) rfl (l' := #[.val (.ref a0), .val (.int xn_0), .val (.int (2 : Int32)), .val (.double xk_2), .second, .val (.int xn_2), .val (.int (1 : Int32)), .val (.int (1 : Int32)), .val (.int (1 : Int32)), .val (.int (2 : Int32))]) rfl k) ?_
    refine go (B := T20.setTop (mkF m 42 #[.val (.ref a0), .val (.int xn_0), .val (.int (2 : Int32)), .val (.double xk_2), .second, .val (.int xn_2), .val (.int (1 : Int32)), .val (.int (1 : Int32)), .val (.int (1 : Int32)), .val (.int (2 : Int32))] [])) (fun _ k => XS.goto X20.here hx rfl (pc0 := 142) (pc' := 42) rfl (hb hby d7_142) (by decide) (by decide) k) ?_
    refine go (B := T20.setTop (mkF m 44 #[.val (.ref a0), .val (.int xn_0), .val (.int (2 : Int32)), .val (.double xk_2), .second, .val (.int xn_2), .val (.int (1 : Int32)), .val (.int (1 : Int32)), .val (.int (1 : Int32)), .val (.int (2 : Int32))] [(.int (1 : Int32))])) (fun _ k => XS.iload X20.here hx rfl (hb hby d7_42) rfl k) ?_
    refine go (B := T20.setTop (mkF m 46 #[.val (.ref a0), .val (.int xn_0), .val (.int (2 : Int32)), .val (.double xk_2), .second, .val (.int xn_2), .val (.int (1 : Int32)), .val (.int (1 : Int32)), .val (.int (1 : Int32)), .val (.int (2 : Int32))] [(.int (1 : Int32)), (.int (1 : Int32))])) (fun _ k => XS.iload X20.here hx rfl (hb hby d7_44) rfl k) ?_
    refine go (B := T20.setTop (mkF m 145 #[.val (.ref a0), .val (.int xn_0), .val (.int (2 : Int32)), .val (.double xk_2), .second, .val (.int xn_2), .val (.int (1 : Int32)), .val (.int (1 : Int32)), .val (.int (1 : Int32)), .val (.int (2 : Int32))] [])) (fun _ k => XS.icmpYes X20.here hx rfl (pc0 := 46) (pc' := 145) rfl (hb hby d7_46) rfl (flt (by decide : ¬ ((1 : Int32) < (1 : Int32)))).2.1 (by decide) (by decide) k) ?_
    refine go (B := T20.setTop (mkF m 146 #[.val (.ref a0), .val (.int xn_0), .val (.int (2 : Int32)), .val (.double xk_2), .second, .val (.int xn_2), .val (.int (1 : Int32)), .val (.int (1 : Int32)), .val (.int (1 : Int32)), .val (.int (2 : Int32))] [(.int (2 : Int32))])) (fun _ k => XS.iloadN X20.here hx rfl (hb hby d7_145) rfl k) ?_
    refine go (B := T20.setTop (mkF m 149 #[.val (.ref a0), .val (.int xn_0), .val (.int (2 : Int32)), .val (.double xk_2), .second, .val (.int xn_2), .val (.int (1 : Int32)), .val (.int (1 : Int32)), .val (.int (1 : Int32)), .val (.int (2 : Int32))] [])) (fun _ k => XS.ifNo X20.here hx rfl (hb hby d7_146) rfl ((if0 _ _).trans (tlt (by decide : (0 : Int32) < (2 : Int32))).2.2.2) k) ?_
    refine go (B := T20.setTop (mkF m 150 #[.val (.ref a0), .val (.int xn_0), .val (.int (2 : Int32)), .val (.double xk_2), .second, .val (.int xn_2), .val (.int (1 : Int32)), .val (.int (1 : Int32)), .val (.int (1 : Int32)), .val (.int (2 : Int32))] [(.ref a0)])) (fun _ k => XS.aloadN X20.here hx rfl (hb hby d7_149) rfl rfl k) ?_
    obtain ⟨T21, X21, e21, st21⟩ := getF X20 hx hZ hown (host := "") (Or.inl (hw _ (List.mem_of_getElem? (i := 10) rfl))) Via.refl e20 F_keys_a0_20 (g := (mkF m 150 #[.val (.ref a0), .val (.int xn_0), .val (.int (2 : Int32)), .val (.double xk_2), .second, .val (.int xn_2), .val (.int (1 : Int32)), .val (.int (1 : Int32)), .val (.int (1 : Int32)), .val (.int (2 : Int32))] [(.ref a0)])) rfl rfl (hb hby d7_150)
    refine go (B := T21.setTop (mkF m 153 #[.val (.ref a0), .val (.int xn_0), .val (.int (2 : Int32)), .val (.double xk_2), .second, .val (.int xn_2), .val (.int (1 : Int32)), .val (.int (1 : Int32)), .val (.int (1 : Int32)), .val (.int (2 : Int32))] [(.ref w_keys_a0)])) st21 ?_
    refine go (B := T21.setTop (mkF m 155 #[.val (.ref a0), .val (.int xn_0), .val (.int (2 : Int32)), .val (.double xk_2), .second, .val (.int xn_2), .val (.int (1 : Int32)), .val (.int (1 : Int32)), .val (.int (1 : Int32)), .val (.int (2 : Int32))] [(.int (1 : Int32)), (.ref w_keys_a0)])) (fun _ k => XS.iload X21.here hx rfl (hb hby d7_153) rfl k) ?_
    refine go (B := T21.setTop (mkF m 156 #[.val (.ref a0), .val (.int xn_0), .val (.int (2 : Int32)), .val (.double xk_2), .second, .val (.int xn_2), .val (.int (1 : Int32)), .val (.int (1 : Int32)), .val (.int (1 : Int32)), .val (.int (2 : Int32))] [(.double xk_2), (.int (1 : Int32)), (.ref w_keys_a0)])) (fun _ k => XS.dloadN X21.here hx rfl (hb hby d7_155) rfl k) ?_
    obtain ⟨cl22, Ar22, qa22, Sa22, Na22, Ha22, Ga22⟩ := id V_w_keys_a0_20
    have hin22 : ¬ ((1 : Int32) < 0 ∨ cl22.slots.size ≤ ((1 : Int32)).toNatClampNeg) := inb_of Sa22 ⟨by decide, by decide⟩
    obtain ⟨T22, h22, X22, e22, W22, st22⟩ := stD X21 hx hZ e21 Ar22 (j := (1 : Int32)) hin22 (g := (mkF m 156 #[.val (.ref a0), .val (.int xn_0), .val (.int (2 : Int32)), .val (.double xk_2), .second, .val (.int xn_2), .val (.int (1 : Int32)), .val (.int (1 : Int32)), .val (.int (1 : Int32)), .val (.int (2 : Int32))] [(.double xk_2), (.int (1 : Int32)), (.ref w_keys_a0)])) rfl rfl (hb hby d7_156)
    have F_keys_a0_22 := Fld.other W22 F_keys_a0_20 (Or.inl ne_a0_w_keys_a0)
    have F_numbers_a0_22 := Fld.other W22 F_numbers_a0_20 (Or.inl ne_a0_w_keys_a0)
    have E_a0_22 := E_a0_20.wr W22
    have F_size_a0_22 := Fld.other W22 F_size_a0_20 (Or.inl ne_a0_w_keys_a0)
    have V_w_numbers_a0_22 := V_w_numbers_a0_20.other W22 (Ne.symm ne_w_keys_a0_w_numbers_a0)
    have Z22 := Nat.le_trans Z20 (Keep.of_wr W22).1
    have K22 := K20.wr W22 (Or.inl (List.mem_of_getElem? (i := 1) rfl))
    have N22 := Fr.snoc X22 N20 g_w_keys_a0
    have V_w_keys_a0_22 : Arv Z h22 w_keys_a0 k_w_keys_a0 .double (3 : Int32) [(.double xk_1), (.double xk_2), (.double xk_2)] (.double (0 : UInt64)) := Arv.set Ar22 qa22 Sa22 Na22 Ha22 Ga22 rfl W22 1 rfl (Nat.le_of_ble_eq_true rfl)
    refine go (B := T22.setTop (mkF m 157 #[.val (.ref a0), .val (.int xn_0), .val (.int (2 : Int32)), .val (.double xk_2), .second, .val (.int xn_2), .val (.int (1 : Int32)), .val (.int (1 : Int32)), .val (.int (1 : Int32)), .val (.int (2 : Int32))] [])) st22 ?_
    refine go (B := T22.setTop (mkF m 158 #[.val (.ref a0), .val (.int xn_0), .val (.int (2 : Int32)), .val (.double xk_2), .second, .val (.int xn_2), .val (.int (1 : Int32)), .val (.int (1 : Int32)), .val (.int (1 : Int32)), .val (.int (2 : Int32))] [(.ref a0)])) (fun _ k => XS.aloadN X22.here hx rfl (hb hby d7_157) rfl rfl k) ?_
    obtain ⟨T23, X23, e23, st23⟩ := getF X22 hx hZ hown (host := "") (Or.inl (hw _ (List.mem_of_getElem? (i := 13) rfl))) Via.refl e22 F_numbers_a0_22 (g := (mkF m 158 #[.val (.ref a0), .val (.int xn_0), .val (.int (2 : Int32)), .val (.double xk_2), .second, .val (.int xn_2), .val (.int (1 : Int32)), .val (.int (1 : Int32)), .val (.int (1 : Int32)), .val (.int (2 : Int32))] [(.ref a0)])) rfl rfl (hb hby d7_158)
    refine go (B := T23.setTop (mkF m 161 #[.val (.ref a0), .val (.int xn_0), .val (.int (2 : Int32)), .val (.double xk_2), .second, .val (.int xn_2), .val (.int (1 : Int32)), .val (.int (1 : Int32)), .val (.int (1 : Int32)), .val (.int (2 : Int32))] [(.ref w_numbers_a0)])) st23 ?_
    refine go (B := T23.setTop (mkF m 163 #[.val (.ref a0), .val (.int xn_0), .val (.int (2 : Int32)), .val (.double xk_2), .second, .val (.int xn_2), .val (.int (1 : Int32)), .val (.int (1 : Int32)), .val (.int (1 : Int32)), .val (.int (2 : Int32))] [(.int (1 : Int32)), (.ref w_numbers_a0)])) (fun _ k => XS.iload X23.here hx rfl (hb hby d7_161) rfl k) ?_
    refine go (B := T23.setTop (mkF m 165 #[.val (.ref a0), .val (.int xn_0), .val (.int (2 : Int32)), .val (.double xk_2), .second, .val (.int xn_2), .val (.int (1 : Int32)), .val (.int (1 : Int32)), .val (.int (1 : Int32)), .val (.int (2 : Int32))] [(.int xn_2), (.int (1 : Int32)), (.ref w_numbers_a0)])) (fun _ k => XS.iload X23.here hx rfl (hb hby d7_163) rfl k) ?_
    obtain ⟨cl24, Ar24, qa24, Sa24, Na24, Ha24, Ga24⟩ := id V_w_numbers_a0_22
    have hin24 : ¬ ((1 : Int32) < 0 ∨ cl24.slots.size ≤ ((1 : Int32)).toNatClampNeg) := inb_of Sa24 ⟨by decide, by decide⟩
    obtain ⟨T24, h24, X24, e24, W24, st24⟩ := stI X23 hx hZ e23 Ar24 (j := (1 : Int32)) hin24 (g := (mkF m 165 #[.val (.ref a0), .val (.int xn_0), .val (.int (2 : Int32)), .val (.double xk_2), .second, .val (.int xn_2), .val (.int (1 : Int32)), .val (.int (1 : Int32)), .val (.int (1 : Int32)), .val (.int (2 : Int32))] [(.int xn_2), (.int (1 : Int32)), (.ref w_numbers_a0)])) rfl rfl (hb hby d7_165)
    have F_keys_a0_24 := Fld.other W24 F_keys_a0_22 (Or.inl ne_a0_w_numbers_a0)
    have F_numbers_a0_24 := Fld.other W24 F_numbers_a0_22 (Or.inl ne_a0_w_numbers_a0)
    have E_a0_24 := E_a0_22.wr W24
    have F_size_a0_24 := Fld.other W24 F_size_a0_22 (Or.inl ne_a0_w_numbers_a0)
    have V_w_keys_a0_24 := V_w_keys_a0_22.other W24 ne_w_keys_a0_w_numbers_a0
    have Z24 := Nat.le_trans Z22 (Keep.of_wr W24).1
    have K24 := K22.wr W24 (Or.inl (List.mem_of_getElem? (i := 2) rfl))
    have N24 := Fr.snoc X24 N22 g_w_numbers_a0
    have V_w_numbers_a0_24 : Arv Z h24 w_numbers_a0 k_w_numbers_a0 .int (3 : Int32) [(.int xn_1), (.int xn_2), (.int xn_2)] (.int (0 : Int32)) := Arv.set Ar24 qa24 Sa24 Na24 Ha24 Ga24 rfl W24 1 rfl (Nat.le_of_ble_eq_true rfl)
    refine go (B := T24.setTop (mkF m 166 #[.val (.ref a0), .val (.int xn_0), .val (.int (2 : Int32)), .val (.double xk_2), .second, .val (.int xn_2), .val (.int (1 : Int32)), .val (.int (1 : Int32)), .val (.int (1 : Int32)), .val (.int (2 : Int32))] [])) st24 ?_
    refine go (B := T24.setTop (mkF m 167 #[.val (.ref a0), .val (.int xn_0), .val (.int (2 : Int32)), .val (.double xk_2), .second, .val (.int xn_2), .val (.int (1 : Int32)), .val (.int (1 : Int32)), .val (.int (1 : Int32)), .val (.int (2 : Int32))] [(.int xn_0)])) (fun _ k => XS.iloadN X24.here hx rfl (hb hby d7_166) rfl k) ?_
    have r25 : (f7s3 xk_1 xk_2 xn_0) = xn_0 := by unfold f7s3; rw [if_pos hc12]
    exact end_int X24 hx Bd.notSynchronized Bd.returns (hb hby d7_167) hF e24 (by decide) (by decide) ⟨xk_1, xk_2, xk_2, xn_1, xn_2, xn_2, (congrArg (fun z => some (Value.int z)) r25.symm), N24, K24, E_a0_24, F_keys_a0_24, F_numbers_a0_24, F_size_a0_24, V_w_keys_a0_24, V_w_numbers_a0_24, hk1, hk2, hk2⟩
  · refine go (B := T11.setTop (mkF m 107 #[.val (.ref a0), .val (.int xn_0), .val (.int (2 : Int32)), .val (.double xk_2), .second, .val (.int xn_2), .val (.int (0 : Int32)), .val (.int (1 : Int32)), .val (.int (1 : Int32)), .val (.int (2 : Int32))] [])) (fun _ k => XS.ifNo X11.here hx rfl (hb hby d7_104) rfl ((if0 _ _).trans (flt hc12).2.2.1) k) ?_
    refine go (B := T11.setTop (mkF m 145 #[.val (.ref a0), .val (.int xn_0), .val (.int (2 : Int32)), .val (.double xk_2), .second, .val (.int xn_2), .val (.int (0 : Int32)), .val (.int (1 : Int32)), .val (.int (1 : Int32)), .val (.int (2 : Int32))] [])) (fun _ k => XS.goto X11.here hx rfl (pc0 := 107) (pc' := 145) rfl (hb hby d7_107) (by decide) (by decide) k) ?_
    refine go (B := T11.setTop (mkF m 146 #[.val (.ref a0), .val (.int xn_0), .val (.int (2 : Int32)), .val (.double xk_2), .second, .val (.int xn_2), .val (.int (0 : Int32)), .val (.int (1 : Int32)), .val (.int (1 : Int32)), .val (.int (2 : Int32))] [(.int (2 : Int32))])) (fun _ k => XS.iloadN X11.here hx rfl (hb hby d7_145) rfl k) ?_
    refine go (B := T11.setTop (mkF m 149 #[.val (.ref a0), .val (.int xn_0), .val (.int (2 : Int32)), .val (.double xk_2), .second, .val (.int xn_2), .val (.int (0 : Int32)), .val (.int (1 : Int32)), .val (.int (1 : Int32)), .val (.int (2 : Int32))] [])) (fun _ k => XS.ifNo X11.here hx rfl (hb hby d7_146) rfl ((if0 _ _).trans (tlt (by decide : (0 : Int32) < (2 : Int32))).2.2.2) k) ?_
    refine go (B := T11.setTop (mkF m 150 #[.val (.ref a0), .val (.int xn_0), .val (.int (2 : Int32)), .val (.double xk_2), .second, .val (.int xn_2), .val (.int (0 : Int32)), .val (.int (1 : Int32)), .val (.int (1 : Int32)), .val (.int (2 : Int32))] [(.ref a0)])) (fun _ k => XS.aloadN X11.here hx rfl (hb hby d7_149) rfl rfl k) ?_
    obtain ⟨T26, X26, e26, st26⟩ := getF X11 hx hZ hown (host := "") (Or.inl (hw _ (List.mem_of_getElem? (i := 10) rfl))) Via.refl e11 F_keys_a0_4 (g := (mkF m 150 #[.val (.ref a0), .val (.int xn_0), .val (.int (2 : Int32)), .val (.double xk_2), .second, .val (.int xn_2), .val (.int (0 : Int32)), .val (.int (1 : Int32)), .val (.int (1 : Int32)), .val (.int (2 : Int32))] [(.ref a0)])) rfl rfl (hb hby d7_150)
    refine go (B := T26.setTop (mkF m 153 #[.val (.ref a0), .val (.int xn_0), .val (.int (2 : Int32)), .val (.double xk_2), .second, .val (.int xn_2), .val (.int (0 : Int32)), .val (.int (1 : Int32)), .val (.int (1 : Int32)), .val (.int (2 : Int32))] [(.ref w_keys_a0)])) st26 ?_
    refine go (B := T26.setTop (mkF m 155 #[.val (.ref a0), .val (.int xn_0), .val (.int (2 : Int32)), .val (.double xk_2), .second, .val (.int xn_2), .val (.int (0 : Int32)), .val (.int (1 : Int32)), .val (.int (1 : Int32)), .val (.int (2 : Int32))] [(.int (0 : Int32)), (.ref w_keys_a0)])) (fun _ k => XS.iload X26.here hx rfl (hb hby d7_153) rfl k) ?_
    refine go (B := T26.setTop (mkF m 156 #[.val (.ref a0), .val (.int xn_0), .val (.int (2 : Int32)), .val (.double xk_2), .second, .val (.int xn_2), .val (.int (0 : Int32)), .val (.int (1 : Int32)), .val (.int (1 : Int32)), .val (.int (2 : Int32))] [(.double xk_2), (.int (0 : Int32)), (.ref w_keys_a0)])) (fun _ k => XS.dloadN X26.here hx rfl (hb hby d7_155) rfl k) ?_
    obtain ⟨cl27, Ar27, qa27, Sa27, Na27, Ha27, Ga27⟩ := id V_w_keys_a0_4
    have hin27 : ¬ ((0 : Int32) < 0 ∨ cl27.slots.size ≤ ((0 : Int32)).toNatClampNeg) := inb_of Sa27 ⟨by decide, by decide⟩
    obtain ⟨T27, h27, X27, e27, W27, st27⟩ := stD X26 hx hZ e26 Ar27 (j := (0 : Int32)) hin27 (g := (mkF m 156 #[.val (.ref a0), .val (.int xn_0), .val (.int (2 : Int32)), .val (.double xk_2), .second, .val (.int xn_2), .val (.int (0 : Int32)), .val (.int (1 : Int32)), .val (.int (1 : Int32)), .val (.int (2 : Int32))] [(.double xk_2), (.int (0 : Int32)), (.ref w_keys_a0)])) rfl rfl (hb hby d7_156)
    have F_keys_a0_27 := Fld.other W27 F_keys_a0_4 (Or.inl ne_a0_w_keys_a0)
    have F_numbers_a0_27 := Fld.other W27 F_numbers_a0_4 (Or.inl ne_a0_w_keys_a0)
    have E_a0_27 := E_a0_4.wr W27
    have V_w_numbers_a0_27 := V_w_numbers_a0_4.other W27 (Ne.symm ne_w_keys_a0_w_numbers_a0)
    have F_size_a0_27 := Fld.other W27 F_size_a0_4 (Or.inl ne_a0_w_keys_a0)
    have Z27 := Nat.le_trans Z4 (Keep.of_wr W27).1
    have K27 := K4.wr W27 (Or.inl (List.mem_of_getElem? (i := 1) rfl))
    have N27 := Fr.snoc X27 N11 g_w_keys_a0
    have V_w_keys_a0_27 : Arv Z h27 w_keys_a0 k_w_keys_a0 .double (3 : Int32) [(.double xk_2), (.double xk_1), (.double xk_2)] (.double (0 : UInt64)) := Arv.set Ar27 qa27 Sa27 Na27 Ha27 Ga27 rfl W27 0 rfl (Nat.le_of_ble_eq_true rfl)
    refine go (B := T27.setTop (mkF m 157 #[.val (.ref a0), .val (.int xn_0), .val (.int (2 : Int32)), .val (.double xk_2), .second, .val (.int xn_2), .val (.int (0 : Int32)), .val (.int (1 : Int32)), .val (.int (1 : Int32)), .val (.int (2 : Int32))] [])) st27 ?_
    refine go (B := T27.setTop (mkF m 158 #[.val (.ref a0), .val (.int xn_0), .val (.int (2 : Int32)), .val (.double xk_2), .second, .val (.int xn_2), .val (.int (0 : Int32)), .val (.int (1 : Int32)), .val (.int (1 : Int32)), .val (.int (2 : Int32))] [(.ref a0)])) (fun _ k => XS.aloadN X27.here hx rfl (hb hby d7_157) rfl rfl k) ?_
    obtain ⟨T28, X28, e28, st28⟩ := getF X27 hx hZ hown (host := "") (Or.inl (hw _ (List.mem_of_getElem? (i := 13) rfl))) Via.refl e27 F_numbers_a0_27 (g := (mkF m 158 #[.val (.ref a0), .val (.int xn_0), .val (.int (2 : Int32)), .val (.double xk_2), .second, .val (.int xn_2), .val (.int (0 : Int32)), .val (.int (1 : Int32)), .val (.int (1 : Int32)), .val (.int (2 : Int32))] [(.ref a0)])) rfl rfl (hb hby d7_158)
    refine go (B := T28.setTop (mkF m 161 #[.val (.ref a0), .val (.int xn_0), .val (.int (2 : Int32)), .val (.double xk_2), .second, .val (.int xn_2), .val (.int (0 : Int32)), .val (.int (1 : Int32)), .val (.int (1 : Int32)), .val (.int (2 : Int32))] [(.ref w_numbers_a0)])) st28 ?_
    refine go (B := T28.setTop (mkF m 163 #[.val (.ref a0), .val (.int xn_0), .val (.int (2 : Int32)), .val (.double xk_2), .second, .val (.int xn_2), .val (.int (0 : Int32)), .val (.int (1 : Int32)), .val (.int (1 : Int32)), .val (.int (2 : Int32))] [(.int (0 : Int32)), (.ref w_numbers_a0)])) (fun _ k => XS.iload X28.here hx rfl (hb hby d7_161) rfl k) ?_
    refine go (B := T28.setTop (mkF m 165 #[.val (.ref a0), .val (.int xn_0), .val (.int (2 : Int32)), .val (.double xk_2), .second, .val (.int xn_2), .val (.int (0 : Int32)), .val (.int (1 : Int32)), .val (.int (1 : Int32)), .val (.int (2 : Int32))] [(.int xn_2), (.int (0 : Int32)), (.ref w_numbers_a0)])) (fun _ k => XS.iload X28.here hx rfl (hb hby d7_163) rfl k) ?_
    obtain ⟨cl29, Ar29, qa29, Sa29, Na29, Ha29, Ga29⟩ := id V_w_numbers_a0_27
    have hin29 : ¬ ((0 : Int32) < 0 ∨ cl29.slots.size ≤ ((0 : Int32)).toNatClampNeg) := inb_of Sa29 ⟨by decide, by decide⟩
    obtain ⟨T29, h29, X29, e29, W29, st29⟩ := stI X28 hx hZ e28 Ar29 (j := (0 : Int32)) hin29 (g := (mkF m 165 #[.val (.ref a0), .val (.int xn_0), .val (.int (2 : Int32)), .val (.double xk_2), .second, .val (.int xn_2), .val (.int (0 : Int32)), .val (.int (1 : Int32)), .val (.int (1 : Int32)), .val (.int (2 : Int32))] [(.int xn_2), (.int (0 : Int32)), (.ref w_numbers_a0)])) rfl rfl (hb hby d7_165)
    have F_keys_a0_29 := Fld.other W29 F_keys_a0_27 (Or.inl ne_a0_w_numbers_a0)
    have F_numbers_a0_29 := Fld.other W29 F_numbers_a0_27 (Or.inl ne_a0_w_numbers_a0)
    have E_a0_29 := E_a0_27.wr W29
    have F_size_a0_29 := Fld.other W29 F_size_a0_27 (Or.inl ne_a0_w_numbers_a0)
    have V_w_keys_a0_29 := V_w_keys_a0_27.other W29 ne_w_keys_a0_w_numbers_a0
    have Z29 := Nat.le_trans Z27 (Keep.of_wr W29).1
    have K29 := K27.wr W29 (Or.inl (List.mem_of_getElem? (i := 2) rfl))
    have N29 := Fr.snoc X29 N27 g_w_numbers_a0
    have V_w_numbers_a0_29 : Arv Z h29 w_numbers_a0 k_w_numbers_a0 .int (3 : Int32) [(.int xn_2), (.int xn_1), (.int xn_2)] (.int (0 : Int32)) := Arv.set Ar29 qa29 Sa29 Na29 Ha29 Ga29 rfl W29 0 rfl (Nat.le_of_ble_eq_true rfl)
    refine go (B := T29.setTop (mkF m 166 #[.val (.ref a0), .val (.int xn_0), .val (.int (2 : Int32)), .val (.double xk_2), .second, .val (.int xn_2), .val (.int (0 : Int32)), .val (.int (1 : Int32)), .val (.int (1 : Int32)), .val (.int (2 : Int32))] [])) st29 ?_
    refine go (B := T29.setTop (mkF m 167 #[.val (.ref a0), .val (.int xn_0), .val (.int (2 : Int32)), .val (.double xk_2), .second, .val (.int xn_2), .val (.int (0 : Int32)), .val (.int (1 : Int32)), .val (.int (1 : Int32)), .val (.int (2 : Int32))] [(.int xn_0)])) (fun _ k => XS.iloadN X29.here hx rfl (hb hby d7_166) rfl k) ?_
    have r30 : (f7s3 xk_1 xk_2 xn_0) = xn_0 := by unfold f7s3; rw [if_neg hc12]
    exact end_int X29 hx Bd.notSynchronized Bd.returns (hb hby d7_167) hF e29 (by decide) (by decide) ⟨xk_2, xk_1, xk_2, xn_2, xn_1, xn_2, (congrArg (fun z => some (Value.int z)) r30.symm), N29, K29, E_a0_29, F_keys_a0_29, F_numbers_a0_29, F_size_a0_29, V_w_keys_a0_29, V_w_numbers_a0_29, hk2, hk1, hk2⟩
theorem pd_3 : parseMethodDescriptor "(DI)V" = some ⟨[.double, .int], none⟩ := by decide +kernel
theorem d4_0 : decode method_2_code 0 = .ok (.iload_n 1, 1) := by decide +kernel
theorem d4_1 : decode method_2_code 1 = .ok (.iconst 1, 1) := by decide +kernel
theorem d4_2 : decode method_2_code 2 = .ok (.iand, 1) := by decide +kernel
theorem d4_3 : decode method_2_code 3 = .ok (.ifCond .eq 21, 3) := by decide +kernel
theorem d4_6 : decode method_2_code 6 = .ok (.iload_n 2, 1) := by decide +kernel
theorem d4_7 : decode method_2_code 7 = .ok (.iconst 3, 1) := by decide +kernel
theorem d4_8 : decode method_2_code 8 = .ok (.if_icmp .ge 14, 3) := by decide +kernel
theorem d4_11 : decode method_2_code 11 = .ok (.aload_n 0, 1) := by decide +kernel
theorem d4_12 : decode method_2_code 12 = .ok (.iload_n 3, 1) := by decide +kernel
theorem d4_13 : decode method_2_code 13 = .ok (.i2d, 1) := by decide +kernel
theorem d4_14 : decode method_2_code 14 = .ok (.iload_n 3, 1) := by decide +kernel
theorem d4_15 : decode method_2_code 15 = .ok (.invokevirtual 7, 3) := by decide +kernel
theorem d4_18 : decode method_2_code 18 = .ok (.iload_n 2, 1) := by decide +kernel
theorem d4_19 : decode method_2_code 19 = .ok (.iconst 1, 1) := by decide +kernel
theorem d4_20 : decode method_2_code 20 = .ok (.iadd, 1) := by decide +kernel
theorem d4_21 : decode method_2_code 21 = .ok (.ireturn, 1) := by decide +kernel
theorem pn_4n0a : plainName "com/example/constrained_flow/constrainedflow/planner/search/LeastFirstIsEmptyPinLaw" = true := by first | (simp [plainName, overriddenIn]; done) | decide +kernel
theorem ef_4n0a (m : MethodId) (a0 : Addr) (p1 : Int32) (p3 : Int32) : entryFrame m #[(.ref a0), (.int p1), (.int (0 : Int32)), (.int p3)] 4 = mkF m 0 #[.val (.ref a0), .val (.int p1), .val (.int (0 : Int32)), .val (.int p3)] [] := by first | (simp [entryFrame, mkF, argsToLocals, Value.category]; done) | rfl
def f4n0a : Int32 := (1 : Int32)
abbrev room4n0a : Room := { frames := 1, cells := 0, slots := 0, locals := 17 }
def Q4n0a (Z : State) (a0 : Addr) (p1 : Int32) (p3 : Int32) (w_keys_a0 : Addr) (w_numbers_a0 : Addr) (k_w_keys_a0 : ClassId) (xk_0 : UInt64) (xk_1 : UInt64) (xk_2 : UInt64) (k_w_numbers_a0 : ClassId) (xn_0 : Int32) (xn_1 : Int32) (xn_2 : Int32) (h0 : Heap) (n0 : Nat) (v : Option Value) (h : Heap) (L : List Loc) : Prop := ∃ K0 : UInt64, ∃ K1 : UInt64, ∃ K2 : UInt64, ∃ M0 : Int32, ∃ M1 : Int32, ∃ M2 : Int32, v = some (.int f4n0a) ∧ Fr n0 L ∧ Keep h0 h [a0, w_keys_a0, w_numbers_a0] ∧ Exa Z h a0 "com/example/constrained_flow/constrainedflow/planner/search/LeastFirst" ∧ Fld Z h a0 "com/example/constrained_flow/constrainedflow/planner/search/LeastFirst" "keys" "[D" (.ref w_keys_a0) ∧ Fld Z h a0 "com/example/constrained_flow/constrainedflow/planner/search/LeastFirst" "numbers" "[I" (.ref w_numbers_a0) ∧ Fld Z h a0 "com/example/constrained_flow/constrainedflow/planner/search/LeastFirst" "size" "I" (.int (1 : Int32)) ∧ Arv Z h w_keys_a0 k_w_keys_a0 .double (3 : Int32) [(.double K0), (.double K1), (.double K2)] (.double (0 : UInt64)) ∧ Arv Z h w_numbers_a0 k_w_numbers_a0 .int (3 : Int32) [(.int M0), (.int M1), (.int M2)] (.int (0 : Int32)) ∧ NoNaN64 K0 ∧ NoNaN64 K1 ∧ NoNaN64 K2
set_option maxRecDepth 65536 in
set_option maxHeartbeats 40000000 in
theorem rm4n0a (l : Launch) (Z : State) (aw : Array Value) (hw : ∀ d ∈ tables_1, d.before aw Z = true) (ws : List Jvm.Cond) (a0 : Addr) (p1 : Int32) (p3 : Int32) (w_keys_a0 : Addr) (w_numbers_a0 : Addr) (k_w_keys_a0 : ClassId) (xk_0 : UInt64) (xk_1 : UInt64) (xk_2 : UInt64) (k_w_numbers_a0 : ClassId) (xn_0 : Int32) (xn_1 : Int32) (xn_2 : Int32) (h0 : Heap) (n0 : Nat) (Z0 : n0 ≤ h0.size) (F_keys_a0 : Fld Z h0 a0 "com/example/constrained_flow/constrainedflow/planner/search/LeastFirst" "keys" "[D" (.ref w_keys_a0)) (F_numbers_a0 : Fld Z h0 a0 "com/example/constrained_flow/constrainedflow/planner/search/LeastFirst" "numbers" "[I" (.ref w_numbers_a0)) (F_size_a0 : Fld Z h0 a0 "com/example/constrained_flow/constrainedflow/planner/search/LeastFirst" "size" "I" (.int (0 : Int32))) (E_a0 : Exa Z h0 a0 "com/example/constrained_flow/constrainedflow/planner/search/LeastFirst") (V_w_keys_a0 : Arv Z h0 w_keys_a0 k_w_keys_a0 .double (3 : Int32) [(.double xk_0), (.double xk_1), (.double xk_2)] (.double (0 : UInt64))) (V_w_numbers_a0 : Arv Z h0 w_numbers_a0 k_w_numbers_a0 .int (3 : Int32) [(.int xn_0), (.int xn_1), (.int xn_2)] (.int (0 : Int32))) (ne_a0_w_keys_a0 : a0 ≠ w_keys_a0) (ne_a0_w_numbers_a0 : a0 ≠ w_numbers_a0) (ne_w_keys_a0_w_numbers_a0 : w_keys_a0 ≠ w_numbers_a0) (g_a0 : n0 ≤ a0) (g_w_keys_a0 : n0 ≤ w_keys_a0) (g_w_numbers_a0 : n0 ≤ w_numbers_a0) (hk0 : NoNaN64 xk_0) (hk1 : NoNaN64 xk_1) (hk2 : NoNaN64 xk_2) (ha0 : ¬ ((p1 &&& (1 : Int32)) = (0 : Int32))) :
    MetFree l (⟨"com/example/constrained_flow/constrainedflow/planner/search/LeastFirstIsEmptyPinLaw", "step", "(Lcom/example/constrained_flow/constrainedflow/planner/search/LeastFirst;III)I"⟩ : MethodName) (head1 (Jvm.Cond.code (⟨"com/example/constrained_flow/constrainedflow/planner/search/LeastFirstIsEmptyPinLaw", "step", "(Lcom/example/constrained_flow/constrainedflow/planner/search/LeastFirst;III)I"⟩ : MethodName) method_2_code 4 (some .int) :: ws) room4n0a) (fun a U => a = #[(.ref a0), (.int p1), (.int (0 : Int32)), (.int p3)] ∧ Z.Warmed39 U.vm ∧ U.heap = h0) (fun _ _ _ _ _ => True) (fun _ U o U' => ∃ v L, o = .returned v ∧ Q4n0a Z a0 p1 p3 w_keys_a0 w_numbers_a0 k_w_keys_a0 xk_0 xk_1 xk_2 k_w_numbers_a0 xn_0 xn_1 xn_2 h0 n0 v U'.heap L ∧ FrameEnd U o U' L room4n0a.cells room4n0a.slots) := by
  refine MetFree.of_bodySF (plainFor_of_name pn_4n0a) hisR ?_
  intro p e s m args below meth c s₁ Bd hml0 hP hK
  obtain ⟨rfl, hZ, hh⟩ := hP
  have hx := Bd.exec
  have hby := Bd.bytes
  have hml : c.maxLocals = 4 := hml0
  have hown : s.vm.findClass "com/example/constrained_flow/constrainedflow/planner/search/LeastFirstIsEmptyPinLaw" = some m.cls := findClass_of_methodNamed Bd.named
  have hnm := (name_of_methodNamed Bd.named Bd.method).1
  have X0 : Stand p l e room4n0a s m #[(.ref a0), (.int p1), (.int (0 : Int32)), (.int p3)] below meth c s₁ [] 0 0 := Stand.of_body Bd
  have e0 : s₁.heap = h0 := by rw [← hh, Bd.state]; rfl
  have N0 := Fr.nil n0
  have K0 := Keep.refl h0 [a0, w_keys_a0, w_numbers_a0]
  rw [ef_4n0a m a0 p1 p3]
  refine go_in (s₁ := s₁) (Q := Q4n0a Z a0 p1 p3 w_keys_a0 w_numbers_a0 k_w_keys_a0 xk_0 xk_1 xk_2 k_w_numbers_a0 xn_0 xn_1 xn_2 h0 n0) fun F hF => ?_
  refine go (B := s₁.setTop (mkF m 1 #[.val (.ref a0), .val (.int p1), .val (.int (0 : Int32)), .val (.int p3)] [(.int p1)])) (fun _ k => XS.iloadN X0.here hx rfl (hb hby d4_0) rfl k) ?_
  refine go (B := s₁.setTop (mkF m 2 #[.val (.ref a0), .val (.int p1), .val (.int (0 : Int32)), .val (.int p3)] [(.int (1 : Int32)), (.int p1)])) (fun _ k => XS.iconst X0.here hx rfl (hb hby d4_1) k) ?_
  refine go (B := s₁.setTop (mkF m 3 #[.val (.ref a0), .val (.int p1), .val (.int (0 : Int32)), .val (.int p3)] [(.int (p1 &&& (1 : Int32)))])) (fun _ k => XS.iand X0.here hx rfl (hb hby d4_2) rfl k) ?_
  refine go (B := s₁.setTop (mkF m 6 #[.val (.ref a0), .val (.int p1), .val (.int (0 : Int32)), .val (.int p3)] [])) (fun _ k => XS.ifNo X0.here hx rfl (hb hby d4_3) rfl ((if0 _ _).trans (feq ha0).1) k) ?_
  refine go (B := s₁.setTop (mkF m 7 #[.val (.ref a0), .val (.int p1), .val (.int (0 : Int32)), .val (.int p3)] [(.int (0 : Int32))])) (fun _ k => XS.iloadN X0.here hx rfl (hb hby d4_6) rfl k) ?_
  refine go (B := s₁.setTop (mkF m 8 #[.val (.ref a0), .val (.int p1), .val (.int (0 : Int32)), .val (.int p3)] [(.int (3 : Int32)), (.int (0 : Int32))])) (fun _ k => XS.iconst X0.here hx rfl (hb hby d4_7) k) ?_
  refine go (B := s₁.setTop (mkF m 11 #[.val (.ref a0), .val (.int p1), .val (.int (0 : Int32)), .val (.int p3)] [])) (fun _ k => XS.icmpNo X0.here hx rfl (hb hby d4_8) rfl (tlt (by decide : (0 : Int32) < (3 : Int32))).2.1 k) ?_
  refine go (B := s₁.setTop (mkF m 12 #[.val (.ref a0), .val (.int p1), .val (.int (0 : Int32)), .val (.int p3)] [(.ref a0)])) (fun _ k => XS.aloadN X0.here hx rfl (hb hby d4_11) rfl rfl k) ?_
  refine go (B := s₁.setTop (mkF m 13 #[.val (.ref a0), .val (.int p1), .val (.int (0 : Int32)), .val (.int p3)] [(.int p3), (.ref a0)])) (fun _ k => XS.iloadN X0.here hx rfl (hb hby d4_12) rfl k) ?_
  refine go (B := s₁.setTop (mkF m 14 #[.val (.ref a0), .val (.int p1), .val (.int (0 : Int32)), .val (.int p3)] [(.double (FP.i2d p3)), (.ref a0)])) (fun _ k => XS.i2dS X0.here hx rfl (hb hby d4_13) rfl rfl k) ?_
  refine go (B := s₁.setTop (mkF m 15 #[.val (.ref a0), .val (.int p1), .val (.int (0 : Int32)), .val (.int p3)] [(.int p3), (.double (FP.i2d p3)), (.ref a0)])) (fun _ k => XS.iloadN X0.here hx rfl (hb hby d4_14) rfl k) ?_
  obtain ⟨cq1, kq1, q1a, q1b, q1c⟩ := isOf hZ e0 E_a0
  obtain ⟨_, _, ⟨T1, L1, k1, n1⟩, -, X1, ⟨Lc1, hQ1, l1, y1, z1⟩, st1⟩ := X0.virtualBack hx (y := (⟨"com/example/constrained_flow/constrainedflow/planner/search/LeastFirst", "add", "(DI)V"⟩ : MethodName)) (z := (⟨"com/example/constrained_flow/constrainedflow/planner/search/LeastFirst", "add", "(DI)V"⟩ : MethodName)) hown (mvT hZ (hw _ (List.mem_of_getElem? (i := 26) rfl))) (mvT hZ (hw _ (List.mem_of_getElem? (i := 27) rfl))) (notFace_of_selects (args := #[]) (mvT hZ (hw _ (List.mem_of_getElem? (i := 29) rfl)))) (mvT hZ (hw _ (List.mem_of_getElem? (i := 29) rfl))) (mvT hZ (hw _ (List.mem_of_getElem? (i := 28) rfl))) (by decide) (backOf (W := 0) (rm5s0 l Z aw hw [] a0 (FP.i2d p3) p3 w_keys_a0 w_numbers_a0 k_w_keys_a0 xk_0 xk_1 xk_2 k_w_numbers_a0 xn_0 xn_1 xn_2 h0 n0 Z0 F_keys_a0 F_numbers_a0 F_size_a0 E_a0 V_w_keys_a0 V_w_numbers_a0 ne_a0_w_keys_a0 ne_a0_w_numbers_a0 ne_w_keys_a0_w_numbers_a0 g_a0 g_w_keys_a0 g_w_numbers_a0 hk0 hk1 hk2 (i2d_fin _).noNaN) hZ (hw _ (List.mem_of_getElem? (i := 30) rfl)) (hw _ (List.mem_of_getElem? (i := 2) rfl)) (by decide) (by decide)) q1a q1c (g := (mkF m 15 #[.val (.ref a0), .val (.int p1), .val (.int (0 : Int32)), .val (.int p3)] [(.int p3), (.double (FP.i2d p3)), (.ref a0)])) rfl (by rw [hml]; rfl) (Steps.refl _) (argsL := [(.double (FP.i2d p3)), (.int p3)]) (rest := []) (lenOf pd_3 rfl) rfl (by show 2 * 0 + _ ≤ _; exact Nat.le_of_eq rfl) (hb hby d4_15) (fun _ _ => ⟨rfl, e0, (by decide : 0 + 0 ≤ _), (by decide : 0 + 0 ≤ _)⟩)
  dsimp only [Pt.U, Pt.locs, Pt.cells, Pt.slots] at X1 l1 y1 z1 st1 hQ1
  subst l1 y1 z1
  obtain ⟨K0_1, K1_1, K2_1, M0_1, M1_1, M2_1, rfl, N1q, Kc1, o1_0, o1_1, o1_2, o1_3, o1_4, o1_5, o1_6, o1_7, o1_8⟩ := hQ1
  have E_a0_1 := E_a0.keep Kc1
  have N1 := Fr.app N0 N1q
  have Z1 := Nat.le_trans Z0 Kc1.1
  have K1 := K0.trans Kc1 (allS (Or.inl (List.mem_of_getElem? (i := 0) rfl)) (allS (Or.inl (List.mem_of_getElem? (i := 1) rfl)) (allS (Or.inl (List.mem_of_getElem? (i := 2) rfl)) all0)))
  refine go (B := T1.setTop (mkF m 18 #[.val (.ref a0), .val (.int p1), .val (.int (0 : Int32)), .val (.int p3)] [])) (fun _ k => st1.trans k) ?_
  refine go (B := T1.setTop (mkF m 19 #[.val (.ref a0), .val (.int p1), .val (.int (0 : Int32)), .val (.int p3)] [(.int (0 : Int32))])) (fun _ k => XS.iloadN X1.here hx rfl (hb hby d4_18) rfl k) ?_
  refine go (B := T1.setTop (mkF m 20 #[.val (.ref a0), .val (.int p1), .val (.int (0 : Int32)), .val (.int p3)] [(.int (1 : Int32)), (.int (0 : Int32))])) (fun _ k => XS.iconst X1.here hx rfl (hb hby d4_19) k) ?_
  refine go (B := T1.setTop (mkF m 21 #[.val (.ref a0), .val (.int p1), .val (.int (0 : Int32)), .val (.int p3)] [(.int (1 : Int32))])) (fun _ k => XS.iadd X1.here hx rfl (hb hby d4_20) rfl k) ?_
  have r2 : f4n0a = (1 : Int32) := by unfold f4n0a; rfl
  exact end_int X1 hx Bd.notSynchronized Bd.returns (hb hby d4_21) hF rfl (by decide) (by decide) ⟨K0_1, K1_1, K2_1, M0_1, M1_1, M2_1, (congrArg (fun z => some (Value.int z)) r2.symm), N1, K1, o1_0, o1_1, o1_2, o1_3, o1_4, o1_5, o1_6, o1_7, o1_8⟩
theorem d4_24 : decode method_2_code 24 = .ok (.iload_n 2, 1) := by decide +kernel
theorem d4_25 : decode method_2_code 25 = .ok (.ifCond .le 12, 3) := by decide +kernel
theorem d4_37 : decode method_2_code 37 = .ok (.iload_n 2, 1) := by decide +kernel
theorem d4_38 : decode method_2_code 38 = .ok (.ireturn, 1) := by decide +kernel
theorem ef_4n0t (m : MethodId) (a0 : Addr) (p1 : Int32) (p3 : Int32) : entryFrame m #[(.ref a0), (.int p1), (.int (0 : Int32)), (.int p3)] 4 = mkF m 0 #[.val (.ref a0), .val (.int p1), .val (.int (0 : Int32)), .val (.int p3)] [] := by first | (simp [entryFrame, mkF, argsToLocals, Value.category]; done) | rfl
def f4n0t : Int32 := (0 : Int32)
abbrev room4n0t : Room := { frames := 0, cells := 0, slots := 0, locals := 0 }
def Q4n0t (Z : State) (a0 : Addr) (p1 : Int32) (p3 : Int32) (w_keys_a0 : Addr) (w_numbers_a0 : Addr) (k_w_keys_a0 : ClassId) (xk_0 : UInt64) (xk_1 : UInt64) (xk_2 : UInt64) (k_w_numbers_a0 : ClassId) (xn_0 : Int32) (xn_1 : Int32) (xn_2 : Int32) (h0 : Heap) (n0 : Nat) (v : Option Value) (h : Heap) (L : List Loc) : Prop := ∃ K0 : UInt64, ∃ K1 : UInt64, ∃ K2 : UInt64, ∃ M0 : Int32, ∃ M1 : Int32, ∃ M2 : Int32, v = some (.int f4n0t) ∧ Fr n0 L ∧ Keep h0 h [a0, w_keys_a0, w_numbers_a0] ∧ Exa Z h a0 "com/example/constrained_flow/constrainedflow/planner/search/LeastFirst" ∧ Fld Z h a0 "com/example/constrained_flow/constrainedflow/planner/search/LeastFirst" "keys" "[D" (.ref w_keys_a0) ∧ Fld Z h a0 "com/example/constrained_flow/constrainedflow/planner/search/LeastFirst" "numbers" "[I" (.ref w_numbers_a0) ∧ Fld Z h a0 "com/example/constrained_flow/constrainedflow/planner/search/LeastFirst" "size" "I" (.int (0 : Int32)) ∧ Arv Z h w_keys_a0 k_w_keys_a0 .double (3 : Int32) [(.double K0), (.double K1), (.double K2)] (.double (0 : UInt64)) ∧ Arv Z h w_numbers_a0 k_w_numbers_a0 .int (3 : Int32) [(.int M0), (.int M1), (.int M2)] (.int (0 : Int32)) ∧ NoNaN64 K0 ∧ NoNaN64 K1 ∧ NoNaN64 K2
set_option maxRecDepth 65536 in
set_option maxHeartbeats 40000000 in
theorem rm4n0t (l : Launch) (Z : State) (aw : Array Value) (hw : ∀ d ∈ tables_1, d.before aw Z = true) (ws : List Jvm.Cond) (a0 : Addr) (p1 : Int32) (p3 : Int32) (w_keys_a0 : Addr) (w_numbers_a0 : Addr) (k_w_keys_a0 : ClassId) (xk_0 : UInt64) (xk_1 : UInt64) (xk_2 : UInt64) (k_w_numbers_a0 : ClassId) (xn_0 : Int32) (xn_1 : Int32) (xn_2 : Int32) (h0 : Heap) (n0 : Nat) (Z0 : n0 ≤ h0.size) (F_keys_a0 : Fld Z h0 a0 "com/example/constrained_flow/constrainedflow/planner/search/LeastFirst" "keys" "[D" (.ref w_keys_a0)) (F_numbers_a0 : Fld Z h0 a0 "com/example/constrained_flow/constrainedflow/planner/search/LeastFirst" "numbers" "[I" (.ref w_numbers_a0)) (F_size_a0 : Fld Z h0 a0 "com/example/constrained_flow/constrainedflow/planner/search/LeastFirst" "size" "I" (.int (0 : Int32))) (E_a0 : Exa Z h0 a0 "com/example/constrained_flow/constrainedflow/planner/search/LeastFirst") (V_w_keys_a0 : Arv Z h0 w_keys_a0 k_w_keys_a0 .double (3 : Int32) [(.double xk_0), (.double xk_1), (.double xk_2)] (.double (0 : UInt64))) (V_w_numbers_a0 : Arv Z h0 w_numbers_a0 k_w_numbers_a0 .int (3 : Int32) [(.int xn_0), (.int xn_1), (.int xn_2)] (.int (0 : Int32))) (ne_a0_w_keys_a0 : a0 ≠ w_keys_a0) (ne_a0_w_numbers_a0 : a0 ≠ w_numbers_a0) (ne_w_keys_a0_w_numbers_a0 : w_keys_a0 ≠ w_numbers_a0) (g_a0 : n0 ≤ a0) (g_w_keys_a0 : n0 ≤ w_keys_a0) (g_w_numbers_a0 : n0 ≤ w_numbers_a0) (hk0 : NoNaN64 xk_0) (hk1 : NoNaN64 xk_1) (hk2 : NoNaN64 xk_2) (ha0 : (p1 &&& (1 : Int32)) = (0 : Int32)) :
    MetFree l (⟨"com/example/constrained_flow/constrainedflow/planner/search/LeastFirstIsEmptyPinLaw", "step", "(Lcom/example/constrained_flow/constrainedflow/planner/search/LeastFirst;III)I"⟩ : MethodName) (head1 (Jvm.Cond.code (⟨"com/example/constrained_flow/constrainedflow/planner/search/LeastFirstIsEmptyPinLaw", "step", "(Lcom/example/constrained_flow/constrainedflow/planner/search/LeastFirst;III)I"⟩ : MethodName) method_2_code 4 (some .int) :: ws) room4n0t) (fun a U => a = #[(.ref a0), (.int p1), (.int (0 : Int32)), (.int p3)] ∧ Z.Warmed39 U.vm ∧ U.heap = h0) (fun _ _ _ _ _ => True) (fun _ U o U' => ∃ v L, o = .returned v ∧ Q4n0t Z a0 p1 p3 w_keys_a0 w_numbers_a0 k_w_keys_a0 xk_0 xk_1 xk_2 k_w_numbers_a0 xn_0 xn_1 xn_2 h0 n0 v U'.heap L ∧ FrameEnd U o U' L room4n0t.cells room4n0t.slots) := by
  refine MetFree.of_bodySF (plainFor_of_name pn_4n0a) hisR ?_
  intro p e s m args below meth c s₁ Bd hml0 hP hK
  obtain ⟨rfl, hZ, hh⟩ := hP
  have hx := Bd.exec
  have hby := Bd.bytes
  have hml : c.maxLocals = 4 := hml0
  have hown : s.vm.findClass "com/example/constrained_flow/constrainedflow/planner/search/LeastFirstIsEmptyPinLaw" = some m.cls := findClass_of_methodNamed Bd.named
  have hnm := (name_of_methodNamed Bd.named Bd.method).1
  have X0 : Stand p l e room4n0t s m #[(.ref a0), (.int p1), (.int (0 : Int32)), (.int p3)] below meth c s₁ [] 0 0 := Stand.of_body Bd
  have e0 : s₁.heap = h0 := by rw [← hh, Bd.state]; rfl
  have N0 := Fr.nil n0
  have K0 := Keep.refl h0 [a0, w_keys_a0, w_numbers_a0]
  rw [ef_4n0t m a0 p1 p3]
  refine go_in (s₁ := s₁) (Q := Q4n0t Z a0 p1 p3 w_keys_a0 w_numbers_a0 k_w_keys_a0 xk_0 xk_1 xk_2 k_w_numbers_a0 xn_0 xn_1 xn_2 h0 n0) fun F hF => ?_
  refine go (B := s₁.setTop (mkF m 1 #[.val (.ref a0), .val (.int p1), .val (.int (0 : Int32)), .val (.int p3)] [(.int p1)])) (fun _ k => XS.iloadN X0.here hx rfl (hb hby d4_0) rfl k) ?_
  refine go (B := s₁.setTop (mkF m 2 #[.val (.ref a0), .val (.int p1), .val (.int (0 : Int32)), .val (.int p3)] [(.int (1 : Int32)), (.int p1)])) (fun _ k => XS.iconst X0.here hx rfl (hb hby d4_1) k) ?_
  refine go (B := s₁.setTop (mkF m 3 #[.val (.ref a0), .val (.int p1), .val (.int (0 : Int32)), .val (.int p3)] [(.int (p1 &&& (1 : Int32)))])) (fun _ k => XS.iand X0.here hx rfl (hb hby d4_2) rfl k) ?_
  refine go (B := s₁.setTop (mkF m 24 #[.val (.ref a0), .val (.int p1), .val (.int (0 : Int32)), .val (.int p3)] [])) (fun _ k => XS.ifYes X0.here hx rfl (pc0 := 3) (pc' := 24) rfl (hb hby d4_3) rfl ((if0 _ _).trans (teq ha0).1) (by decide) (by decide) k) ?_
  refine go (B := s₁.setTop (mkF m 25 #[.val (.ref a0), .val (.int p1), .val (.int (0 : Int32)), .val (.int p3)] [(.int (0 : Int32))])) (fun _ k => XS.iloadN X0.here hx rfl (hb hby d4_24) rfl k) ?_
  refine go (B := s₁.setTop (mkF m 37 #[.val (.ref a0), .val (.int p1), .val (.int (0 : Int32)), .val (.int p3)] [])) (fun _ k => XS.ifYes X0.here hx rfl (pc0 := 25) (pc' := 37) rfl (hb hby d4_25) rfl ((if0 _ _).trans (flt (by decide : ¬ ((0 : Int32) < (0 : Int32)))).2.2.2) (by decide) (by decide) k) ?_
  refine go (B := s₁.setTop (mkF m 38 #[.val (.ref a0), .val (.int p1), .val (.int (0 : Int32)), .val (.int p3)] [(.int (0 : Int32))])) (fun _ k => XS.iloadN X0.here hx rfl (hb hby d4_37) rfl k) ?_
  have r1 : f4n0t = (0 : Int32) := by unfold f4n0t; rfl
  exact end_int X0 hx Bd.notSynchronized Bd.returns (hb hby d4_38) hF e0 (by decide) (by decide) ⟨xk_0, xk_1, xk_2, xn_0, xn_1, xn_2, (congrArg (fun z => some (Value.int z)) r1.symm), N0, K0, E_a0, F_keys_a0, F_numbers_a0, F_size_a0, V_w_keys_a0, V_w_numbers_a0, hk0, hk1, hk2⟩
theorem ef_4n1a (m : MethodId) (a0 : Addr) (p1 : Int32) (p3 : Int32) : entryFrame m #[(.ref a0), (.int p1), (.int (1 : Int32)), (.int p3)] 4 = mkF m 0 #[.val (.ref a0), .val (.int p1), .val (.int (1 : Int32)), .val (.int p3)] [] := by first | (simp [entryFrame, mkF, argsToLocals, Value.category]; done) | rfl
def f4n1a : Int32 := (2 : Int32)
abbrev room4n1a : Room := { frames := 4, cells := 0, slots := 0, locals := 64 }
def Q4n1a (Z : State) (a0 : Addr) (p1 : Int32) (p3 : Int32) (w_keys_a0 : Addr) (w_numbers_a0 : Addr) (k_w_keys_a0 : ClassId) (xk_0 : UInt64) (xk_1 : UInt64) (xk_2 : UInt64) (k_w_numbers_a0 : ClassId) (xn_0 : Int32) (xn_1 : Int32) (xn_2 : Int32) (h0 : Heap) (n0 : Nat) (v : Option Value) (h : Heap) (L : List Loc) : Prop := ∃ K0 : UInt64, ∃ K1 : UInt64, ∃ K2 : UInt64, ∃ M0 : Int32, ∃ M1 : Int32, ∃ M2 : Int32, v = some (.int f4n1a) ∧ Fr n0 L ∧ Keep h0 h [a0, w_keys_a0, w_numbers_a0] ∧ Exa Z h a0 "com/example/constrained_flow/constrainedflow/planner/search/LeastFirst" ∧ Fld Z h a0 "com/example/constrained_flow/constrainedflow/planner/search/LeastFirst" "keys" "[D" (.ref w_keys_a0) ∧ Fld Z h a0 "com/example/constrained_flow/constrainedflow/planner/search/LeastFirst" "numbers" "[I" (.ref w_numbers_a0) ∧ Fld Z h a0 "com/example/constrained_flow/constrainedflow/planner/search/LeastFirst" "size" "I" (.int (2 : Int32)) ∧ Arv Z h w_keys_a0 k_w_keys_a0 .double (3 : Int32) [(.double K0), (.double K1), (.double K2)] (.double (0 : UInt64)) ∧ Arv Z h w_numbers_a0 k_w_numbers_a0 .int (3 : Int32) [(.int M0), (.int M1), (.int M2)] (.int (0 : Int32)) ∧ NoNaN64 K0 ∧ NoNaN64 K1 ∧ NoNaN64 K2
set_option maxRecDepth 65536 in
set_option maxHeartbeats 40000000 in
theorem rm4n1a (l : Launch) (Z : State) (aw : Array Value) (hw : ∀ d ∈ tables_1, d.before aw Z = true) (ws : List Jvm.Cond) (a0 : Addr) (p1 : Int32) (p3 : Int32) (w_keys_a0 : Addr) (w_numbers_a0 : Addr) (k_w_keys_a0 : ClassId) (xk_0 : UInt64) (xk_1 : UInt64) (xk_2 : UInt64) (k_w_numbers_a0 : ClassId) (xn_0 : Int32) (xn_1 : Int32) (xn_2 : Int32) (h0 : Heap) (n0 : Nat) (Z0 : n0 ≤ h0.size) (F_keys_a0 : Fld Z h0 a0 "com/example/constrained_flow/constrainedflow/planner/search/LeastFirst" "keys" "[D" (.ref w_keys_a0)) (F_numbers_a0 : Fld Z h0 a0 "com/example/constrained_flow/constrainedflow/planner/search/LeastFirst" "numbers" "[I" (.ref w_numbers_a0)) (F_size_a0 : Fld Z h0 a0 "com/example/constrained_flow/constrainedflow/planner/search/LeastFirst" "size" "I" (.int (1 : Int32))) (E_a0 : Exa Z h0 a0 "com/example/constrained_flow/constrainedflow/planner/search/LeastFirst") (V_w_keys_a0 : Arv Z h0 w_keys_a0 k_w_keys_a0 .double (3 : Int32) [(.double xk_0), (.double xk_1), (.double xk_2)] (.double (0 : UInt64))) (V_w_numbers_a0 : Arv Z h0 w_numbers_a0 k_w_numbers_a0 .int (3 : Int32) [(.int xn_0), (.int xn_1), (.int xn_2)] (.int (0 : Int32))) (ne_a0_w_keys_a0 : a0 ≠ w_keys_a0) (ne_a0_w_numbers_a0 : a0 ≠ w_numbers_a0) (ne_w_keys_a0_w_numbers_a0 : w_keys_a0 ≠ w_numbers_a0) (g_a0 : n0 ≤ a0) (g_w_keys_a0 : n0 ≤ w_keys_a0) (g_w_numbers_a0 : n0 ≤ w_numbers_a0) (hk0 : NoNaN64 xk_0) (hk1 : NoNaN64 xk_1) (hk2 : NoNaN64 xk_2) (ha0 : ¬ ((p1 &&& (1 : Int32)) = (0 : Int32))) :
    MetFree l (⟨"com/example/constrained_flow/constrainedflow/planner/search/LeastFirstIsEmptyPinLaw", "step", "(Lcom/example/constrained_flow/constrainedflow/planner/search/LeastFirst;III)I"⟩ : MethodName) (head1 (Jvm.Cond.code (⟨"com/example/constrained_flow/constrainedflow/planner/search/LeastFirstIsEmptyPinLaw", "step", "(Lcom/example/constrained_flow/constrainedflow/planner/search/LeastFirst;III)I"⟩ : MethodName) method_2_code 4 (some .int) :: ws) room4n1a) (fun a U => a = #[(.ref a0), (.int p1), (.int (1 : Int32)), (.int p3)] ∧ Z.Warmed39 U.vm ∧ U.heap = h0) (fun _ _ _ _ _ => True) (fun _ U o U' => ∃ v L, o = .returned v ∧ Q4n1a Z a0 p1 p3 w_keys_a0 w_numbers_a0 k_w_keys_a0 xk_0 xk_1 xk_2 k_w_numbers_a0 xn_0 xn_1 xn_2 h0 n0 v U'.heap L ∧ FrameEnd U o U' L room4n1a.cells room4n1a.slots) := by
  refine MetFree.of_bodySF (plainFor_of_name pn_4n0a) hisR ?_
  intro p e s m args below meth c s₁ Bd hml0 hP hK
  obtain ⟨rfl, hZ, hh⟩ := hP
  have hx := Bd.exec
  have hby := Bd.bytes
  have hml : c.maxLocals = 4 := hml0
  have hown : s.vm.findClass "com/example/constrained_flow/constrainedflow/planner/search/LeastFirstIsEmptyPinLaw" = some m.cls := findClass_of_methodNamed Bd.named
  have hnm := (name_of_methodNamed Bd.named Bd.method).1
  have X0 : Stand p l e room4n1a s m #[(.ref a0), (.int p1), (.int (1 : Int32)), (.int p3)] below meth c s₁ [] 0 0 := Stand.of_body Bd
  have e0 : s₁.heap = h0 := by rw [← hh, Bd.state]; rfl
  have N0 := Fr.nil n0
  have K0 := Keep.refl h0 [a0, w_keys_a0, w_numbers_a0]
  rw [ef_4n1a m a0 p1 p3]
  refine go_in (s₁ := s₁) (Q := Q4n1a Z a0 p1 p3 w_keys_a0 w_numbers_a0 k_w_keys_a0 xk_0 xk_1 xk_2 k_w_numbers_a0 xn_0 xn_1 xn_2 h0 n0) fun F hF => ?_
  refine go (B := s₁.setTop (mkF m 1 #[.val (.ref a0), .val (.int p1), .val (.int (1 : Int32)), .val (.int p3)] [(.int p1)])) (fun _ k => XS.iloadN X0.here hx rfl (hb hby d4_0) rfl k) ?_
  refine go (B := s₁.setTop (mkF m 2 #[.val (.ref a0), .val (.int p1), .val (.int (1 : Int32)), .val (.int p3)] [(.int (1 : Int32)), (.int p1)])) (fun _ k => XS.iconst X0.here hx rfl (hb hby d4_1) k) ?_
  refine go (B := s₁.setTop (mkF m 3 #[.val (.ref a0), .val (.int p1), .val (.int (1 : Int32)), .val (.int p3)] [(.int (p1 &&& (1 : Int32)))])) (fun _ k => XS.iand X0.here hx rfl (hb hby d4_2) rfl k) ?_
  refine go (B := s₁.setTop (mkF m 6 #[.val (.ref a0), .val (.int p1), .val (.int (1 : Int32)), .val (.int p3)] [])) (fun _ k => XS.ifNo X0.here hx rfl (hb hby d4_3) rfl ((if0 _ _).trans (feq ha0).1) k) ?_
  refine go (B := s₁.setTop (mkF m 7 #[.val (.ref a0), .val (.int p1), .val (.int (1 : Int32)), .val (.int p3)] [(.int (1 : Int32))])) (fun _ k => XS.iloadN X0.here hx rfl (hb hby d4_6) rfl k) ?_
  refine go (B := s₁.setTop (mkF m 8 #[.val (.ref a0), .val (.int p1), .val (.int (1 : Int32)), .val (.int p3)] [(.int (3 : Int32)), (.int (1 : Int32))])) (fun _ k => XS.iconst X0.here hx rfl (hb hby d4_7) k) ?_
  refine go (B := s₁.setTop (mkF m 11 #[.val (.ref a0), .val (.int p1), .val (.int (1 : Int32)), .val (.int p3)] [])) (fun _ k => XS.icmpNo X0.here hx rfl (hb hby d4_8) rfl (tlt (by decide : (1 : Int32) < (3 : Int32))).2.1 k) ?_
  refine go (B := s₁.setTop (mkF m 12 #[.val (.ref a0), .val (.int p1), .val (.int (1 : Int32)), .val (.int p3)] [(.ref a0)])) (fun _ k => XS.aloadN X0.here hx rfl (hb hby d4_11) rfl rfl k) ?_
  refine go (B := s₁.setTop (mkF m 13 #[.val (.ref a0), .val (.int p1), .val (.int (1 : Int32)), .val (.int p3)] [(.int p3), (.ref a0)])) (fun _ k => XS.iloadN X0.here hx rfl (hb hby d4_12) rfl k) ?_
  refine go (B := s₁.setTop (mkF m 14 #[.val (.ref a0), .val (.int p1), .val (.int (1 : Int32)), .val (.int p3)] [(.double (FP.i2d p3)), (.ref a0)])) (fun _ k => XS.i2dS X0.here hx rfl (hb hby d4_13) rfl rfl k) ?_
  refine go (B := s₁.setTop (mkF m 15 #[.val (.ref a0), .val (.int p1), .val (.int (1 : Int32)), .val (.int p3)] [(.int p3), (.double (FP.i2d p3)), (.ref a0)])) (fun _ k => XS.iloadN X0.here hx rfl (hb hby d4_14) rfl k) ?_
  obtain ⟨cq1, kq1, q1a, q1b, q1c⟩ := isOf hZ e0 E_a0
  obtain ⟨_, _, ⟨T1, L1, k1, n1⟩, -, X1, ⟨Lc1, hQ1, l1, y1, z1⟩, st1⟩ := X0.virtualBack hx (y := (⟨"com/example/constrained_flow/constrainedflow/planner/search/LeastFirst", "add", "(DI)V"⟩ : MethodName)) (z := (⟨"com/example/constrained_flow/constrainedflow/planner/search/LeastFirst", "add", "(DI)V"⟩ : MethodName)) hown (mvT hZ (hw _ (List.mem_of_getElem? (i := 26) rfl))) (mvT hZ (hw _ (List.mem_of_getElem? (i := 27) rfl))) (notFace_of_selects (args := #[]) (mvT hZ (hw _ (List.mem_of_getElem? (i := 29) rfl)))) (mvT hZ (hw _ (List.mem_of_getElem? (i := 29) rfl))) (mvT hZ (hw _ (List.mem_of_getElem? (i := 28) rfl))) (by decide) (backOf (W := 0) (rm5s1 l Z aw hw [] a0 (FP.i2d p3) p3 w_keys_a0 w_numbers_a0 k_w_keys_a0 xk_0 xk_1 xk_2 k_w_numbers_a0 xn_0 xn_1 xn_2 h0 n0 Z0 F_keys_a0 F_numbers_a0 F_size_a0 E_a0 V_w_keys_a0 V_w_numbers_a0 ne_a0_w_keys_a0 ne_a0_w_numbers_a0 ne_w_keys_a0_w_numbers_a0 g_a0 g_w_keys_a0 g_w_numbers_a0 hk0 hk1 hk2 (i2d_fin _).noNaN) hZ (hw _ (List.mem_of_getElem? (i := 30) rfl)) (hw _ (List.mem_of_getElem? (i := 2) rfl)) (by decide) (by decide)) q1a q1c (g := (mkF m 15 #[.val (.ref a0), .val (.int p1), .val (.int (1 : Int32)), .val (.int p3)] [(.int p3), (.double (FP.i2d p3)), (.ref a0)])) rfl (by rw [hml]; rfl) (Steps.refl _) (argsL := [(.double (FP.i2d p3)), (.int p3)]) (rest := []) (lenOf pd_3 rfl) rfl (by show 2 * 0 + _ ≤ _; exact Nat.le_of_eq rfl) (hb hby d4_15) (fun _ _ => ⟨rfl, e0, (by decide : 0 + 0 ≤ _), (by decide : 0 + 0 ≤ _)⟩)
  dsimp only [Pt.U, Pt.locs, Pt.cells, Pt.slots] at X1 l1 y1 z1 st1 hQ1
  subst l1 y1 z1
  obtain ⟨K0_1, K1_1, K2_1, M0_1, M1_1, M2_1, rfl, N1q, Kc1, o1_0, o1_1, o1_2, o1_3, o1_4, o1_5, o1_6, o1_7, o1_8⟩ := hQ1
  have E_a0_1 := E_a0.keep Kc1
  have N1 := Fr.app N0 N1q
  have Z1 := Nat.le_trans Z0 Kc1.1
  have K1 := K0.trans Kc1 (allS (Or.inl (List.mem_of_getElem? (i := 0) rfl)) (allS (Or.inl (List.mem_of_getElem? (i := 1) rfl)) (allS (Or.inl (List.mem_of_getElem? (i := 2) rfl)) all0)))
  refine go (B := T1.setTop (mkF m 18 #[.val (.ref a0), .val (.int p1), .val (.int (1 : Int32)), .val (.int p3)] [])) (fun _ k => st1.trans k) ?_
  refine go (B := T1.setTop (mkF m 19 #[.val (.ref a0), .val (.int p1), .val (.int (1 : Int32)), .val (.int p3)] [(.int (1 : Int32))])) (fun _ k => XS.iloadN X1.here hx rfl (hb hby d4_18) rfl k) ?_
  refine go (B := T1.setTop (mkF m 20 #[.val (.ref a0), .val (.int p1), .val (.int (1 : Int32)), .val (.int p3)] [(.int (1 : Int32)), (.int (1 : Int32))])) (fun _ k => XS.iconst X1.here hx rfl (hb hby d4_19) k) ?_
  refine go (B := T1.setTop (mkF m 21 #[.val (.ref a0), .val (.int p1), .val (.int (1 : Int32)), .val (.int p3)] [(.int (2 : Int32))])) (fun _ k => XS.iadd X1.here hx rfl (hb hby d4_20) rfl k) ?_
  have r2 : f4n1a = (2 : Int32) := by unfold f4n1a; rfl
  exact end_int X1 hx Bd.notSynchronized Bd.returns (hb hby d4_21) hF rfl (by decide) (by decide) ⟨K0_1, K1_1, K2_1, M0_1, M1_1, M2_1, (congrArg (fun z => some (Value.int z)) r2.symm), N1, K1, o1_0, o1_1, o1_2, o1_3, o1_4, o1_5, o1_6, o1_7, o1_8⟩
theorem pd_4 : parseMethodDescriptor "()I" = some ⟨[], some .int⟩ := by decide +kernel
theorem d4_28 : decode method_2_code 28 = .ok (.aload_n 0, 1) := by decide +kernel
theorem d4_29 : decode method_2_code 29 = .ok (.invokevirtual 13, 3) := by decide +kernel
theorem d4_32 : decode method_2_code 32 = .ok (.pop, 1) := by decide +kernel
theorem d4_33 : decode method_2_code 33 = .ok (.iload_n 2, 1) := by decide +kernel
theorem d4_34 : decode method_2_code 34 = .ok (.iconst 1, 1) := by decide +kernel
theorem d4_35 : decode method_2_code 35 = .ok (.isub, 1) := by decide +kernel
theorem d4_36 : decode method_2_code 36 = .ok (.ireturn, 1) := by decide +kernel
theorem ef_4n1t (m : MethodId) (a0 : Addr) (p1 : Int32) (p3 : Int32) : entryFrame m #[(.ref a0), (.int p1), (.int (1 : Int32)), (.int p3)] 4 = mkF m 0 #[.val (.ref a0), .val (.int p1), .val (.int (1 : Int32)), .val (.int p3)] [] := by first | (simp [entryFrame, mkF, argsToLocals, Value.category]; done) | rfl
def f4n1t : Int32 := (0 : Int32)
abbrev room4n1t : Room := { frames := 1, cells := 0, slots := 0, locals := 21 }
def Q4n1t (Z : State) (a0 : Addr) (p1 : Int32) (p3 : Int32) (w_keys_a0 : Addr) (w_numbers_a0 : Addr) (k_w_keys_a0 : ClassId) (xk_0 : UInt64) (xk_1 : UInt64) (xk_2 : UInt64) (k_w_numbers_a0 : ClassId) (xn_0 : Int32) (xn_1 : Int32) (xn_2 : Int32) (h0 : Heap) (n0 : Nat) (v : Option Value) (h : Heap) (L : List Loc) : Prop := ∃ K0 : UInt64, ∃ K1 : UInt64, ∃ K2 : UInt64, ∃ M0 : Int32, ∃ M1 : Int32, ∃ M2 : Int32, v = some (.int f4n1t) ∧ Fr n0 L ∧ Keep h0 h [a0, w_keys_a0, w_numbers_a0] ∧ Exa Z h a0 "com/example/constrained_flow/constrainedflow/planner/search/LeastFirst" ∧ Fld Z h a0 "com/example/constrained_flow/constrainedflow/planner/search/LeastFirst" "keys" "[D" (.ref w_keys_a0) ∧ Fld Z h a0 "com/example/constrained_flow/constrainedflow/planner/search/LeastFirst" "numbers" "[I" (.ref w_numbers_a0) ∧ Fld Z h a0 "com/example/constrained_flow/constrainedflow/planner/search/LeastFirst" "size" "I" (.int (0 : Int32)) ∧ Arv Z h w_keys_a0 k_w_keys_a0 .double (3 : Int32) [(.double K0), (.double K1), (.double K2)] (.double (0 : UInt64)) ∧ Arv Z h w_numbers_a0 k_w_numbers_a0 .int (3 : Int32) [(.int M0), (.int M1), (.int M2)] (.int (0 : Int32)) ∧ NoNaN64 K0 ∧ NoNaN64 K1 ∧ NoNaN64 K2
set_option maxRecDepth 65536 in
set_option maxHeartbeats 40000000 in
theorem rm4n1t (l : Launch) (Z : State) (aw : Array Value) (hw : ∀ d ∈ tables_1, d.before aw Z = true) (ws : List Jvm.Cond) (a0 : Addr) (p1 : Int32) (p3 : Int32) (w_keys_a0 : Addr) (w_numbers_a0 : Addr) (k_w_keys_a0 : ClassId) (xk_0 : UInt64) (xk_1 : UInt64) (xk_2 : UInt64) (k_w_numbers_a0 : ClassId) (xn_0 : Int32) (xn_1 : Int32) (xn_2 : Int32) (h0 : Heap) (n0 : Nat) (Z0 : n0 ≤ h0.size) (F_keys_a0 : Fld Z h0 a0 "com/example/constrained_flow/constrainedflow/planner/search/LeastFirst" "keys" "[D" (.ref w_keys_a0)) (F_numbers_a0 : Fld Z h0 a0 "com/example/constrained_flow/constrainedflow/planner/search/LeastFirst" "numbers" "[I" (.ref w_numbers_a0)) (F_size_a0 : Fld Z h0 a0 "com/example/constrained_flow/constrainedflow/planner/search/LeastFirst" "size" "I" (.int (1 : Int32))) (E_a0 : Exa Z h0 a0 "com/example/constrained_flow/constrainedflow/planner/search/LeastFirst") (V_w_keys_a0 : Arv Z h0 w_keys_a0 k_w_keys_a0 .double (3 : Int32) [(.double xk_0), (.double xk_1), (.double xk_2)] (.double (0 : UInt64))) (V_w_numbers_a0 : Arv Z h0 w_numbers_a0 k_w_numbers_a0 .int (3 : Int32) [(.int xn_0), (.int xn_1), (.int xn_2)] (.int (0 : Int32))) (ne_a0_w_keys_a0 : a0 ≠ w_keys_a0) (ne_a0_w_numbers_a0 : a0 ≠ w_numbers_a0) (ne_w_keys_a0_w_numbers_a0 : w_keys_a0 ≠ w_numbers_a0) (g_a0 : n0 ≤ a0) (g_w_keys_a0 : n0 ≤ w_keys_a0) (g_w_numbers_a0 : n0 ≤ w_numbers_a0) (hk0 : NoNaN64 xk_0) (hk1 : NoNaN64 xk_1) (hk2 : NoNaN64 xk_2) (ha0 : (p1 &&& (1 : Int32)) = (0 : Int32)) :
    MetFree l (⟨"com/example/constrained_flow/constrainedflow/planner/search/LeastFirstIsEmptyPinLaw", "step", "(Lcom/example/constrained_flow/constrainedflow/planner/search/LeastFirst;III)I"⟩ : MethodName) (head1 (Jvm.Cond.code (⟨"com/example/constrained_flow/constrainedflow/planner/search/LeastFirstIsEmptyPinLaw", "step", "(Lcom/example/constrained_flow/constrainedflow/planner/search/LeastFirst;III)I"⟩ : MethodName) method_2_code 4 (some .int) :: ws) room4n1t) (fun a U => a = #[(.ref a0), (.int p1), (.int (1 : Int32)), (.int p3)] ∧ Z.Warmed39 U.vm ∧ U.heap = h0) (fun _ _ _ _ _ => True) (fun _ U o U' => ∃ v L, o = .returned v ∧ Q4n1t Z a0 p1 p3 w_keys_a0 w_numbers_a0 k_w_keys_a0 xk_0 xk_1 xk_2 k_w_numbers_a0 xn_0 xn_1 xn_2 h0 n0 v U'.heap L ∧ FrameEnd U o U' L room4n1t.cells room4n1t.slots) := by
  refine MetFree.of_bodySF (plainFor_of_name pn_4n0a) hisR ?_
  intro p e s m args below meth c s₁ Bd hml0 hP hK
  obtain ⟨rfl, hZ, hh⟩ := hP
  have hx := Bd.exec
  have hby := Bd.bytes
  have hml : c.maxLocals = 4 := hml0
  have hown : s.vm.findClass "com/example/constrained_flow/constrainedflow/planner/search/LeastFirstIsEmptyPinLaw" = some m.cls := findClass_of_methodNamed Bd.named
  have hnm := (name_of_methodNamed Bd.named Bd.method).1
  have X0 : Stand p l e room4n1t s m #[(.ref a0), (.int p1), (.int (1 : Int32)), (.int p3)] below meth c s₁ [] 0 0 := Stand.of_body Bd
  have e0 : s₁.heap = h0 := by rw [← hh, Bd.state]; rfl
  have N0 := Fr.nil n0
  have K0 := Keep.refl h0 [a0, w_keys_a0, w_numbers_a0]
  rw [ef_4n1t m a0 p1 p3]
  refine go_in (s₁ := s₁) (Q := Q4n1t Z a0 p1 p3 w_keys_a0 w_numbers_a0 k_w_keys_a0 xk_0 xk_1 xk_2 k_w_numbers_a0 xn_0 xn_1 xn_2 h0 n0) fun F hF => ?_
  refine go (B := s₁.setTop (mkF m 1 #[.val (.ref a0), .val (.int p1), .val (.int (1 : Int32)), .val (.int p3)] [(.int p1)])) (fun _ k => XS.iloadN X0.here hx rfl (hb hby d4_0) rfl k) ?_
  refine go (B := s₁.setTop (mkF m 2 #[.val (.ref a0), .val (.int p1), .val (.int (1 : Int32)), .val (.int p3)] [(.int (1 : Int32)), (.int p1)])) (fun _ k => XS.iconst X0.here hx rfl (hb hby d4_1) k) ?_
  refine go (B := s₁.setTop (mkF m 3 #[.val (.ref a0), .val (.int p1), .val (.int (1 : Int32)), .val (.int p3)] [(.int (p1 &&& (1 : Int32)))])) (fun _ k => XS.iand X0.here hx rfl (hb hby d4_2) rfl k) ?_
  refine go (B := s₁.setTop (mkF m 24 #[.val (.ref a0), .val (.int p1), .val (.int (1 : Int32)), .val (.int p3)] [])) (fun _ k => XS.ifYes X0.here hx rfl (pc0 := 3) (pc' := 24) rfl (hb hby d4_3) rfl ((if0 _ _).trans (teq ha0).1) (by decide) (by decide) k) ?_
  refine go (B := s₁.setTop (mkF m 25 #[.val (.ref a0), .val (.int p1), .val (.int (1 : Int32)), .val (.int p3)] [(.int (1 : Int32))])) (fun _ k => XS.iloadN X0.here hx rfl (hb hby d4_24) rfl k) ?_
  refine go (B := s₁.setTop (mkF m 28 #[.val (.ref a0), .val (.int p1), .val (.int (1 : Int32)), .val (.int p3)] [])) (fun _ k => XS.ifNo X0.here hx rfl (hb hby d4_25) rfl ((if0 _ _).trans (tlt (by decide : (0 : Int32) < (1 : Int32))).2.2.2) k) ?_
  refine go (B := s₁.setTop (mkF m 29 #[.val (.ref a0), .val (.int p1), .val (.int (1 : Int32)), .val (.int p3)] [(.ref a0)])) (fun _ k => XS.aloadN X0.here hx rfl (hb hby d4_28) rfl rfl k) ?_
  obtain ⟨cq1, kq1, q1a, q1b, q1c⟩ := isOf hZ e0 E_a0
  obtain ⟨_, _, ⟨T1, L1, k1, n1⟩, -, X1, ⟨Lc1, hQ1, l1, y1, z1⟩, st1⟩ := X0.virtualBack hx (y := (⟨"com/example/constrained_flow/constrainedflow/planner/search/LeastFirst", "take", "()I"⟩ : MethodName)) (z := (⟨"com/example/constrained_flow/constrainedflow/planner/search/LeastFirst", "take", "()I"⟩ : MethodName)) hown (mvT hZ (hw _ (List.mem_of_getElem? (i := 35) rfl))) (mvT hZ (hw _ (List.mem_of_getElem? (i := 36) rfl))) (notFace_of_selects (args := #[]) (mvT hZ (hw _ (List.mem_of_getElem? (i := 38) rfl)))) (mvT hZ (hw _ (List.mem_of_getElem? (i := 38) rfl))) (mvT hZ (hw _ (List.mem_of_getElem? (i := 37) rfl))) (by decide) (backOf (W := 0) (rm7s1 l Z aw hw [] a0 w_keys_a0 w_numbers_a0 k_w_keys_a0 xk_0 xk_1 xk_2 k_w_numbers_a0 xn_0 xn_1 xn_2 h0 n0 Z0 F_keys_a0 F_numbers_a0 F_size_a0 E_a0 V_w_keys_a0 V_w_numbers_a0 ne_a0_w_keys_a0 ne_a0_w_numbers_a0 ne_w_keys_a0_w_numbers_a0 g_a0 g_w_keys_a0 g_w_numbers_a0 hk0 hk1 hk2) hZ (hw _ (List.mem_of_getElem? (i := 39) rfl)) (hw _ (List.mem_of_getElem? (i := 2) rfl)) (by decide) (by decide)) q1a q1c (g := (mkF m 29 #[.val (.ref a0), .val (.int p1), .val (.int (1 : Int32)), .val (.int p3)] [(.ref a0)])) rfl (by rw [hml]; rfl) (Steps.refl _) (argsL := []) (rest := []) (lenOf pd_4 rfl) rfl (by show 2 * 0 + _ ≤ _; exact Nat.le_of_eq rfl) (hb hby d4_29) (fun _ _ => ⟨rfl, e0, (by decide : 0 + 0 ≤ _), (by decide : 0 + 0 ≤ _)⟩)
  dsimp only [Pt.U, Pt.locs, Pt.cells, Pt.slots] at X1 l1 y1 z1 st1 hQ1
  subst l1 y1 z1
  obtain ⟨K0_1, K1_1, K2_1, M0_1, M1_1, M2_1, rfl, N1q, Kc1, o1_0, o1_1, o1_2, o1_3, o1_4, o1_5, o1_6, o1_7, o1_8⟩ := hQ1
  have E_a0_1 := E_a0.keep Kc1
  have N1 := Fr.app N0 N1q
  have Z1 := Nat.le_trans Z0 Kc1.1
  have K1 := K0.trans Kc1 (allS (Or.inl (List.mem_of_getElem? (i := 0) rfl)) (allS (Or.inl (List.mem_of_getElem? (i := 1) rfl)) (allS (Or.inl (List.mem_of_getElem? (i := 2) rfl)) all0)))
  refine go (B := T1.setTop (mkF m 32 #[.val (.ref a0), .val (.int p1), .val (.int (1 : Int32)), .val (.int p3)] [(.int (f7s1 xn_0))])) (fun _ k => st1.trans k) ?_
  refine go (B := T1.setTop (mkF m 33 #[.val (.ref a0), .val (.int p1), .val (.int (1 : Int32)), .val (.int p3)] [])) (fun _ k => XS.pop X1.here hx rfl (hb hby d4_32) rfl rfl k) ?_
  refine go (B := T1.setTop (mkF m 34 #[.val (.ref a0), .val (.int p1), .val (.int (1 : Int32)), .val (.int p3)] [(.int (1 : Int32))])) (fun _ k => XS.iloadN X1.here hx rfl (hb hby d4_33) rfl k) ?_
  refine go (B := T1.setTop (mkF m 35 #[.val (.ref a0), .val (.int p1), .val (.int (1 : Int32)), .val (.int p3)] [(.int (1 : Int32)), (.int (1 : Int32))])) (fun _ k => XS.iconst X1.here hx rfl (hb hby d4_34) k) ?_
  refine go (B := T1.setTop (mkF m 36 #[.val (.ref a0), .val (.int p1), .val (.int (1 : Int32)), .val (.int p3)] [(.int (0 : Int32))])) (fun _ k => XS.isub X1.here hx rfl (hb hby d4_35) rfl k) ?_
  have r2 : f4n1t = (0 : Int32) := by unfold f4n1t; rfl
  exact end_int X1 hx Bd.notSynchronized Bd.returns (hb hby d4_36) hF rfl (by decide) (by decide) ⟨K0_1, K1_1, K2_1, M0_1, M1_1, M2_1, (congrArg (fun z => some (Value.int z)) r2.symm), N1, K1, o1_0, o1_1, o1_2, o1_3, o1_4, o1_5, o1_6, o1_7, o1_8⟩
theorem ef_4n2a (m : MethodId) (a0 : Addr) (p1 : Int32) (p3 : Int32) : entryFrame m #[(.ref a0), (.int p1), (.int (2 : Int32)), (.int p3)] 4 = mkF m 0 #[.val (.ref a0), .val (.int p1), .val (.int (2 : Int32)), .val (.int p3)] [] := by first | (simp [entryFrame, mkF, argsToLocals, Value.category]; done) | rfl
def f4n2a : Int32 := (3 : Int32)
abbrev room4n2a : Room := { frames := 4, cells := 0, slots := 0, locals := 64 }
def Q4n2a (Z : State) (a0 : Addr) (p1 : Int32) (p3 : Int32) (w_keys_a0 : Addr) (w_numbers_a0 : Addr) (k_w_keys_a0 : ClassId) (xk_0 : UInt64) (xk_1 : UInt64) (xk_2 : UInt64) (k_w_numbers_a0 : ClassId) (xn_0 : Int32) (xn_1 : Int32) (xn_2 : Int32) (h0 : Heap) (n0 : Nat) (v : Option Value) (h : Heap) (L : List Loc) : Prop := ∃ K0 : UInt64, ∃ K1 : UInt64, ∃ K2 : UInt64, ∃ M0 : Int32, ∃ M1 : Int32, ∃ M2 : Int32, v = some (.int f4n2a) ∧ Fr n0 L ∧ Keep h0 h [a0, w_keys_a0, w_numbers_a0] ∧ Exa Z h a0 "com/example/constrained_flow/constrainedflow/planner/search/LeastFirst" ∧ Fld Z h a0 "com/example/constrained_flow/constrainedflow/planner/search/LeastFirst" "keys" "[D" (.ref w_keys_a0) ∧ Fld Z h a0 "com/example/constrained_flow/constrainedflow/planner/search/LeastFirst" "numbers" "[I" (.ref w_numbers_a0) ∧ Fld Z h a0 "com/example/constrained_flow/constrainedflow/planner/search/LeastFirst" "size" "I" (.int (3 : Int32)) ∧ Arv Z h w_keys_a0 k_w_keys_a0 .double (3 : Int32) [(.double K0), (.double K1), (.double K2)] (.double (0 : UInt64)) ∧ Arv Z h w_numbers_a0 k_w_numbers_a0 .int (3 : Int32) [(.int M0), (.int M1), (.int M2)] (.int (0 : Int32)) ∧ NoNaN64 K0 ∧ NoNaN64 K1 ∧ NoNaN64 K2
set_option maxRecDepth 65536 in
set_option maxHeartbeats 40000000 in
theorem rm4n2a (l : Launch) (Z : State) (aw : Array Value) (hw : ∀ d ∈ tables_1, d.before aw Z = true) (ws : List Jvm.Cond) (a0 : Addr) (p1 : Int32) (p3 : Int32) (w_keys_a0 : Addr) (w_numbers_a0 : Addr) (k_w_keys_a0 : ClassId) (xk_0 : UInt64) (xk_1 : UInt64) (xk_2 : UInt64) (k_w_numbers_a0 : ClassId) (xn_0 : Int32) (xn_1 : Int32) (xn_2 : Int32) (h0 : Heap) (n0 : Nat) (Z0 : n0 ≤ h0.size) (F_keys_a0 : Fld Z h0 a0 "com/example/constrained_flow/constrainedflow/planner/search/LeastFirst" "keys" "[D" (.ref w_keys_a0)) (F_numbers_a0 : Fld Z h0 a0 "com/example/constrained_flow/constrainedflow/planner/search/LeastFirst" "numbers" "[I" (.ref w_numbers_a0)) (F_size_a0 : Fld Z h0 a0 "com/example/constrained_flow/constrainedflow/planner/search/LeastFirst" "size" "I" (.int (2 : Int32))) (E_a0 : Exa Z h0 a0 "com/example/constrained_flow/constrainedflow/planner/search/LeastFirst") (V_w_keys_a0 : Arv Z h0 w_keys_a0 k_w_keys_a0 .double (3 : Int32) [(.double xk_0), (.double xk_1), (.double xk_2)] (.double (0 : UInt64))) (V_w_numbers_a0 : Arv Z h0 w_numbers_a0 k_w_numbers_a0 .int (3 : Int32) [(.int xn_0), (.int xn_1), (.int xn_2)] (.int (0 : Int32))) (ne_a0_w_keys_a0 : a0 ≠ w_keys_a0) (ne_a0_w_numbers_a0 : a0 ≠ w_numbers_a0) (ne_w_keys_a0_w_numbers_a0 : w_keys_a0 ≠ w_numbers_a0) (g_a0 : n0 ≤ a0) (g_w_keys_a0 : n0 ≤ w_keys_a0) (g_w_numbers_a0 : n0 ≤ w_numbers_a0) (hk0 : NoNaN64 xk_0) (hk1 : NoNaN64 xk_1) (hk2 : NoNaN64 xk_2) (ha0 : ¬ ((p1 &&& (1 : Int32)) = (0 : Int32))) :
    MetFree l (⟨"com/example/constrained_flow/constrainedflow/planner/search/LeastFirstIsEmptyPinLaw", "step", "(Lcom/example/constrained_flow/constrainedflow/planner/search/LeastFirst;III)I"⟩ : MethodName) (head1 (Jvm.Cond.code (⟨"com/example/constrained_flow/constrainedflow/planner/search/LeastFirstIsEmptyPinLaw", "step", "(Lcom/example/constrained_flow/constrainedflow/planner/search/LeastFirst;III)I"⟩ : MethodName) method_2_code 4 (some .int) :: ws) room4n2a) (fun a U => a = #[(.ref a0), (.int p1), (.int (2 : Int32)), (.int p3)] ∧ Z.Warmed39 U.vm ∧ U.heap = h0) (fun _ _ _ _ _ => True) (fun _ U o U' => ∃ v L, o = .returned v ∧ Q4n2a Z a0 p1 p3 w_keys_a0 w_numbers_a0 k_w_keys_a0 xk_0 xk_1 xk_2 k_w_numbers_a0 xn_0 xn_1 xn_2 h0 n0 v U'.heap L ∧ FrameEnd U o U' L room4n2a.cells room4n2a.slots) := by
  refine MetFree.of_bodySF (plainFor_of_name pn_4n0a) hisR ?_
  intro p e s m args below meth c s₁ Bd hml0 hP hK
  obtain ⟨rfl, hZ, hh⟩ := hP
  have hx := Bd.exec
  have hby := Bd.bytes
  have hml : c.maxLocals = 4 := hml0
  have hown : s.vm.findClass "com/example/constrained_flow/constrainedflow/planner/search/LeastFirstIsEmptyPinLaw" = some m.cls := findClass_of_methodNamed Bd.named
  have hnm := (name_of_methodNamed Bd.named Bd.method).1
  have X0 : Stand p l e room4n2a s m #[(.ref a0), (.int p1), (.int (2 : Int32)), (.int p3)] below meth c s₁ [] 0 0 := Stand.of_body Bd
  have e0 : s₁.heap = h0 := by rw [← hh, Bd.state]; rfl
  have N0 := Fr.nil n0
  have K0 := Keep.refl h0 [a0, w_keys_a0, w_numbers_a0]
  rw [ef_4n2a m a0 p1 p3]
  refine go_in (s₁ := s₁) (Q := Q4n2a Z a0 p1 p3 w_keys_a0 w_numbers_a0 k_w_keys_a0 xk_0 xk_1 xk_2 k_w_numbers_a0 xn_0 xn_1 xn_2 h0 n0) fun F hF => ?_
  refine go (B := s₁.setTop (mkF m 1 #[.val (.ref a0), .val (.int p1), .val (.int (2 : Int32)), .val (.int p3)] [(.int p1)])) (fun _ k => XS.iloadN X0.here hx rfl (hb hby d4_0) rfl k) ?_
  refine go (B := s₁.setTop (mkF m 2 #[.val (.ref a0), .val (.int p1), .val (.int (2 : Int32)), .val (.int p3)] [(.int (1 : Int32)), (.int p1)])) (fun _ k => XS.iconst X0.here hx rfl (hb hby d4_1) k) ?_
  refine go (B := s₁.setTop (mkF m 3 #[.val (.ref a0), .val (.int p1), .val (.int (2 : Int32)), .val (.int p3)] [(.int (p1 &&& (1 : Int32)))])) (fun _ k => XS.iand X0.here hx rfl (hb hby d4_2) rfl k) ?_
  refine go (B := s₁.setTop (mkF m 6 #[.val (.ref a0), .val (.int p1), .val (.int (2 : Int32)), .val (.int p3)] [])) (fun _ k => XS.ifNo X0.here hx rfl (hb hby d4_3) rfl ((if0 _ _).trans (feq ha0).1) k) ?_
  refine go (B := s₁.setTop (mkF m 7 #[.val (.ref a0), .val (.int p1), .val (.int (2 : Int32)), .val (.int p3)] [(.int (2 : Int32))])) (fun _ k => XS.iloadN X0.here hx rfl (hb hby d4_6) rfl k) ?_
  refine go (B := s₁.setTop (mkF m 8 #[.val (.ref a0), .val (.int p1), .val (.int (2 : Int32)), .val (.int p3)] [(.int (3 : Int32)), (.int (2 : Int32))])) (fun _ k => XS.iconst X0.here hx rfl (hb hby d4_7) k) ?_
  refine go (B := s₁.setTop (mkF m 11 #[.val (.ref a0), .val (.int p1), .val (.int (2 : Int32)), .val (.int p3)] [])) (fun _ k => XS.icmpNo X0.here hx rfl (hb hby d4_8) rfl (tlt (by decide : (2 : Int32) < (3 : Int32))).2.1 k) ?_
  refine go (B := s₁.setTop (mkF m 12 #[.val (.ref a0), .val (.int p1), .val (.int (2 : Int32)), .val (.int p3)] [(.ref a0)])) (fun _ k => XS.aloadN X0.here hx rfl (hb hby d4_11) rfl rfl k) ?_
  refine go (B := s₁.setTop (mkF m 13 #[.val (.ref a0), .val (.int p1), .val (.int (2 : Int32)), .val (.int p3)] [(.int p3), (.ref a0)])) (fun _ k => XS.iloadN X0.here hx rfl (hb hby d4_12) rfl k) ?_
  refine go (B := s₁.setTop (mkF m 14 #[.val (.ref a0), .val (.int p1), .val (.int (2 : Int32)), .val (.int p3)] [(.double (FP.i2d p3)), (.ref a0)])) (fun _ k => XS.i2dS X0.here hx rfl (hb hby d4_13) rfl rfl k) ?_
  refine go (B := s₁.setTop (mkF m 15 #[.val (.ref a0), .val (.int p1), .val (.int (2 : Int32)), .val (.int p3)] [(.int p3), (.double (FP.i2d p3)), (.ref a0)])) (fun _ k => XS.iloadN X0.here hx rfl (hb hby d4_14) rfl k) ?_
  obtain ⟨cq1, kq1, q1a, q1b, q1c⟩ := isOf hZ e0 E_a0
  obtain ⟨_, _, ⟨T1, L1, k1, n1⟩, -, X1, ⟨Lc1, hQ1, l1, y1, z1⟩, st1⟩ := X0.virtualBack hx (y := (⟨"com/example/constrained_flow/constrainedflow/planner/search/LeastFirst", "add", "(DI)V"⟩ : MethodName)) (z := (⟨"com/example/constrained_flow/constrainedflow/planner/search/LeastFirst", "add", "(DI)V"⟩ : MethodName)) hown (mvT hZ (hw _ (List.mem_of_getElem? (i := 26) rfl))) (mvT hZ (hw _ (List.mem_of_getElem? (i := 27) rfl))) (notFace_of_selects (args := #[]) (mvT hZ (hw _ (List.mem_of_getElem? (i := 29) rfl)))) (mvT hZ (hw _ (List.mem_of_getElem? (i := 29) rfl))) (mvT hZ (hw _ (List.mem_of_getElem? (i := 28) rfl))) (by decide) (backOf (W := 0) (rm5s2 l Z aw hw [] a0 (FP.i2d p3) p3 w_keys_a0 w_numbers_a0 k_w_keys_a0 xk_0 xk_1 xk_2 k_w_numbers_a0 xn_0 xn_1 xn_2 h0 n0 Z0 F_keys_a0 F_numbers_a0 F_size_a0 E_a0 V_w_keys_a0 V_w_numbers_a0 ne_a0_w_keys_a0 ne_a0_w_numbers_a0 ne_w_keys_a0_w_numbers_a0 g_a0 g_w_keys_a0 g_w_numbers_a0 hk0 hk1 hk2 (i2d_fin _).noNaN) hZ (hw _ (List.mem_of_getElem? (i := 30) rfl)) (hw _ (List.mem_of_getElem? (i := 2) rfl)) (by decide) (by decide)) q1a q1c (g := (mkF m 15 #[.val (.ref a0), .val (.int p1), .val (.int (2 : Int32)), .val (.int p3)] [(.int p3), (.double (FP.i2d p3)), (.ref a0)])) rfl (by rw [hml]; rfl) (Steps.refl _) (argsL := [(.double (FP.i2d p3)), (.int p3)]) (rest := []) (lenOf pd_3 rfl) rfl (by show 2 * 0 + _ ≤ _; exact Nat.le_of_eq rfl) (hb hby d4_15) (fun _ _ => ⟨rfl, e0, (by decide : 0 + 0 ≤ _), (by decide : 0 + 0 ≤ _)⟩)
  dsimp only [Pt.U, Pt.locs, Pt.cells, Pt.slots] at X1 l1 y1 z1 st1 hQ1
  subst l1 y1 z1
  obtain ⟨K0_1, K1_1, K2_1, M0_1, M1_1, M2_1, rfl, N1q, Kc1, o1_0, o1_1, o1_2, o1_3, o1_4, o1_5, o1_6, o1_7, o1_8⟩ := hQ1
  have E_a0_1 := E_a0.keep Kc1
  have N1 := Fr.app N0 N1q
  have Z1 := Nat.le_trans Z0 Kc1.1
  have K1 := K0.trans Kc1 (allS (Or.inl (List.mem_of_getElem? (i := 0) rfl)) (allS (Or.inl (List.mem_of_getElem? (i := 1) rfl)) (allS (Or.inl (List.mem_of_getElem? (i := 2) rfl)) all0)))
  refine go (B := T1.setTop (mkF m 18 #[.val (.ref a0), .val (.int p1), .val (.int (2 : Int32)), .val (.int p3)] [])) (fun _ k => st1.trans k) ?_
  refine go (B := T1.setTop (mkF m 19 #[.val (.ref a0), .val (.int p1), .val (.int (2 : Int32)), .val (.int p3)] [(.int (2 : Int32))])) (fun _ k => XS.iloadN X1.here hx rfl (hb hby d4_18) rfl k) ?_
  refine go (B := T1.setTop (mkF m 20 #[.val (.ref a0), .val (.int p1), .val (.int (2 : Int32)), .val (.int p3)] [(.int (1 : Int32)), (.int (2 : Int32))])) (fun _ k => XS.iconst X1.here hx rfl (hb hby d4_19) k) ?_
  refine go (B := T1.setTop (mkF m 21 #[.val (.ref a0), .val (.int p1), .val (.int (2 : Int32)), .val (.int p3)] [(.int (3 : Int32))])) (fun _ k => XS.iadd X1.here hx rfl (hb hby d4_20) rfl k) ?_
  have r2 : f4n2a = (3 : Int32) := by unfold f4n2a; rfl
  exact end_int X1 hx Bd.notSynchronized Bd.returns (hb hby d4_21) hF rfl (by decide) (by decide) ⟨K0_1, K1_1, K2_1, M0_1, M1_1, M2_1, (congrArg (fun z => some (Value.int z)) r2.symm), N1, K1, o1_0, o1_1, o1_2, o1_3, o1_4, o1_5, o1_6, o1_7, o1_8⟩
theorem ef_4n2t (m : MethodId) (a0 : Addr) (p1 : Int32) (p3 : Int32) : entryFrame m #[(.ref a0), (.int p1), (.int (2 : Int32)), (.int p3)] 4 = mkF m 0 #[.val (.ref a0), .val (.int p1), .val (.int (2 : Int32)), .val (.int p3)] [] := by first | (simp [entryFrame, mkF, argsToLocals, Value.category]; done) | rfl
def f4n2t : Int32 := (1 : Int32)
abbrev room4n2t : Room := { frames := 1, cells := 0, slots := 0, locals := 21 }
def Q4n2t (Z : State) (a0 : Addr) (p1 : Int32) (p3 : Int32) (w_keys_a0 : Addr) (w_numbers_a0 : Addr) (k_w_keys_a0 : ClassId) (xk_0 : UInt64) (xk_1 : UInt64) (xk_2 : UInt64) (k_w_numbers_a0 : ClassId) (xn_0 : Int32) (xn_1 : Int32) (xn_2 : Int32) (h0 : Heap) (n0 : Nat) (v : Option Value) (h : Heap) (L : List Loc) : Prop := ∃ K0 : UInt64, ∃ K1 : UInt64, ∃ K2 : UInt64, ∃ M0 : Int32, ∃ M1 : Int32, ∃ M2 : Int32, v = some (.int f4n2t) ∧ Fr n0 L ∧ Keep h0 h [a0, w_keys_a0, w_numbers_a0] ∧ Exa Z h a0 "com/example/constrained_flow/constrainedflow/planner/search/LeastFirst" ∧ Fld Z h a0 "com/example/constrained_flow/constrainedflow/planner/search/LeastFirst" "keys" "[D" (.ref w_keys_a0) ∧ Fld Z h a0 "com/example/constrained_flow/constrainedflow/planner/search/LeastFirst" "numbers" "[I" (.ref w_numbers_a0) ∧ Fld Z h a0 "com/example/constrained_flow/constrainedflow/planner/search/LeastFirst" "size" "I" (.int (1 : Int32)) ∧ Arv Z h w_keys_a0 k_w_keys_a0 .double (3 : Int32) [(.double K0), (.double K1), (.double K2)] (.double (0 : UInt64)) ∧ Arv Z h w_numbers_a0 k_w_numbers_a0 .int (3 : Int32) [(.int M0), (.int M1), (.int M2)] (.int (0 : Int32)) ∧ NoNaN64 K0 ∧ NoNaN64 K1 ∧ NoNaN64 K2
set_option maxRecDepth 65536 in
set_option maxHeartbeats 40000000 in
theorem rm4n2t (l : Launch) (Z : State) (aw : Array Value) (hw : ∀ d ∈ tables_1, d.before aw Z = true) (ws : List Jvm.Cond) (a0 : Addr) (p1 : Int32) (p3 : Int32) (w_keys_a0 : Addr) (w_numbers_a0 : Addr) (k_w_keys_a0 : ClassId) (xk_0 : UInt64) (xk_1 : UInt64) (xk_2 : UInt64) (k_w_numbers_a0 : ClassId) (xn_0 : Int32) (xn_1 : Int32) (xn_2 : Int32) (h0 : Heap) (n0 : Nat) (Z0 : n0 ≤ h0.size) (F_keys_a0 : Fld Z h0 a0 "com/example/constrained_flow/constrainedflow/planner/search/LeastFirst" "keys" "[D" (.ref w_keys_a0)) (F_numbers_a0 : Fld Z h0 a0 "com/example/constrained_flow/constrainedflow/planner/search/LeastFirst" "numbers" "[I" (.ref w_numbers_a0)) (F_size_a0 : Fld Z h0 a0 "com/example/constrained_flow/constrainedflow/planner/search/LeastFirst" "size" "I" (.int (2 : Int32))) (E_a0 : Exa Z h0 a0 "com/example/constrained_flow/constrainedflow/planner/search/LeastFirst") (V_w_keys_a0 : Arv Z h0 w_keys_a0 k_w_keys_a0 .double (3 : Int32) [(.double xk_0), (.double xk_1), (.double xk_2)] (.double (0 : UInt64))) (V_w_numbers_a0 : Arv Z h0 w_numbers_a0 k_w_numbers_a0 .int (3 : Int32) [(.int xn_0), (.int xn_1), (.int xn_2)] (.int (0 : Int32))) (ne_a0_w_keys_a0 : a0 ≠ w_keys_a0) (ne_a0_w_numbers_a0 : a0 ≠ w_numbers_a0) (ne_w_keys_a0_w_numbers_a0 : w_keys_a0 ≠ w_numbers_a0) (g_a0 : n0 ≤ a0) (g_w_keys_a0 : n0 ≤ w_keys_a0) (g_w_numbers_a0 : n0 ≤ w_numbers_a0) (hk0 : NoNaN64 xk_0) (hk1 : NoNaN64 xk_1) (hk2 : NoNaN64 xk_2) (ha0 : (p1 &&& (1 : Int32)) = (0 : Int32)) :
    MetFree l (⟨"com/example/constrained_flow/constrainedflow/planner/search/LeastFirstIsEmptyPinLaw", "step", "(Lcom/example/constrained_flow/constrainedflow/planner/search/LeastFirst;III)I"⟩ : MethodName) (head1 (Jvm.Cond.code (⟨"com/example/constrained_flow/constrainedflow/planner/search/LeastFirstIsEmptyPinLaw", "step", "(Lcom/example/constrained_flow/constrainedflow/planner/search/LeastFirst;III)I"⟩ : MethodName) method_2_code 4 (some .int) :: ws) room4n2t) (fun a U => a = #[(.ref a0), (.int p1), (.int (2 : Int32)), (.int p3)] ∧ Z.Warmed39 U.vm ∧ U.heap = h0) (fun _ _ _ _ _ => True) (fun _ U o U' => ∃ v L, o = .returned v ∧ Q4n2t Z a0 p1 p3 w_keys_a0 w_numbers_a0 k_w_keys_a0 xk_0 xk_1 xk_2 k_w_numbers_a0 xn_0 xn_1 xn_2 h0 n0 v U'.heap L ∧ FrameEnd U o U' L room4n2t.cells room4n2t.slots) := by
  refine MetFree.of_bodySF (plainFor_of_name pn_4n0a) hisR ?_
  intro p e s m args below meth c s₁ Bd hml0 hP hK
  obtain ⟨rfl, hZ, hh⟩ := hP
  have hx := Bd.exec
  have hby := Bd.bytes
  have hml : c.maxLocals = 4 := hml0
  have hown : s.vm.findClass "com/example/constrained_flow/constrainedflow/planner/search/LeastFirstIsEmptyPinLaw" = some m.cls := findClass_of_methodNamed Bd.named
  have hnm := (name_of_methodNamed Bd.named Bd.method).1
  have X0 : Stand p l e room4n2t s m #[(.ref a0), (.int p1), (.int (2 : Int32)), (.int p3)] below meth c s₁ [] 0 0 := Stand.of_body Bd
  have e0 : s₁.heap = h0 := by rw [← hh, Bd.state]; rfl
  have N0 := Fr.nil n0
  have K0 := Keep.refl h0 [a0, w_keys_a0, w_numbers_a0]
  rw [ef_4n2t m a0 p1 p3]
  refine go_in (s₁ := s₁) (Q := Q4n2t Z a0 p1 p3 w_keys_a0 w_numbers_a0 k_w_keys_a0 xk_0 xk_1 xk_2 k_w_numbers_a0 xn_0 xn_1 xn_2 h0 n0) fun F hF => ?_
  refine go (B := s₁.setTop (mkF m 1 #[.val (.ref a0), .val (.int p1), .val (.int (2 : Int32)), .val (.int p3)] [(.int p1)])) (fun _ k => XS.iloadN X0.here hx rfl (hb hby d4_0) rfl k) ?_
  refine go (B := s₁.setTop (mkF m 2 #[.val (.ref a0), .val (.int p1), .val (.int (2 : Int32)), .val (.int p3)] [(.int (1 : Int32)), (.int p1)])) (fun _ k => XS.iconst X0.here hx rfl (hb hby d4_1) k) ?_
  refine go (B := s₁.setTop (mkF m 3 #[.val (.ref a0), .val (.int p1), .val (.int (2 : Int32)), .val (.int p3)] [(.int (p1 &&& (1 : Int32)))])) (fun _ k => XS.iand X0.here hx rfl (hb hby d4_2) rfl k) ?_
  refine go (B := s₁.setTop (mkF m 24 #[.val (.ref a0), .val (.int p1), .val (.int (2 : Int32)), .val (.int p3)] [])) (fun _ k => XS.ifYes X0.here hx rfl (pc0 := 3) (pc' := 24) rfl (hb hby d4_3) rfl ((if0 _ _).trans (teq ha0).1) (by decide) (by decide) k) ?_
  refine go (B := s₁.setTop (mkF m 25 #[.val (.ref a0), .val (.int p1), .val (.int (2 : Int32)), .val (.int p3)] [(.int (2 : Int32))])) (fun _ k => XS.iloadN X0.here hx rfl (hb hby d4_24) rfl k) ?_
  refine go (B := s₁.setTop (mkF m 28 #[.val (.ref a0), .val (.int p1), .val (.int (2 : Int32)), .val (.int p3)] [])) (fun _ k => XS.ifNo X0.here hx rfl (hb hby d4_25) rfl ((if0 _ _).trans (tlt (by decide : (0 : Int32) < (2 : Int32))).2.2.2) k) ?_
  refine go (B := s₁.setTop (mkF m 29 #[.val (.ref a0), .val (.int p1), .val (.int (2 : Int32)), .val (.int p3)] [(.ref a0)])) (fun _ k => XS.aloadN X0.here hx rfl (hb hby d4_28) rfl rfl k) ?_
  obtain ⟨cq1, kq1, q1a, q1b, q1c⟩ := isOf hZ e0 E_a0
  obtain ⟨_, _, ⟨T1, L1, k1, n1⟩, -, X1, ⟨Lc1, hQ1, l1, y1, z1⟩, st1⟩ := X0.virtualBack hx (y := (⟨"com/example/constrained_flow/constrainedflow/planner/search/LeastFirst", "take", "()I"⟩ : MethodName)) (z := (⟨"com/example/constrained_flow/constrainedflow/planner/search/LeastFirst", "take", "()I"⟩ : MethodName)) hown (mvT hZ (hw _ (List.mem_of_getElem? (i := 35) rfl))) (mvT hZ (hw _ (List.mem_of_getElem? (i := 36) rfl))) (notFace_of_selects (args := #[]) (mvT hZ (hw _ (List.mem_of_getElem? (i := 38) rfl)))) (mvT hZ (hw _ (List.mem_of_getElem? (i := 38) rfl))) (mvT hZ (hw _ (List.mem_of_getElem? (i := 37) rfl))) (by decide) (backOf (W := 0) (rm7s2 l Z aw hw [] a0 w_keys_a0 w_numbers_a0 k_w_keys_a0 xk_0 xk_1 xk_2 k_w_numbers_a0 xn_0 xn_1 xn_2 h0 n0 Z0 F_keys_a0 F_numbers_a0 F_size_a0 E_a0 V_w_keys_a0 V_w_numbers_a0 ne_a0_w_keys_a0 ne_a0_w_numbers_a0 ne_w_keys_a0_w_numbers_a0 g_a0 g_w_keys_a0 g_w_numbers_a0 hk0 hk1 hk2) hZ (hw _ (List.mem_of_getElem? (i := 39) rfl)) (hw _ (List.mem_of_getElem? (i := 2) rfl)) (by decide) (by decide)) q1a q1c (g := (mkF m 29 #[.val (.ref a0), .val (.int p1), .val (.int (2 : Int32)), .val (.int p3)] [(.ref a0)])) rfl (by rw [hml]; rfl) (Steps.refl _) (argsL := []) (rest := []) (lenOf pd_4 rfl) rfl (by show 2 * 0 + _ ≤ _; exact Nat.le_of_eq rfl) (hb hby d4_29) (fun _ _ => ⟨rfl, e0, (by decide : 0 + 0 ≤ _), (by decide : 0 + 0 ≤ _)⟩)
  dsimp only [Pt.U, Pt.locs, Pt.cells, Pt.slots] at X1 l1 y1 z1 st1 hQ1
  subst l1 y1 z1
  obtain ⟨K0_1, K1_1, K2_1, M0_1, M1_1, M2_1, rfl, N1q, Kc1, o1_0, o1_1, o1_2, o1_3, o1_4, o1_5, o1_6, o1_7, o1_8⟩ := hQ1
  have E_a0_1 := E_a0.keep Kc1
  have N1 := Fr.app N0 N1q
  have Z1 := Nat.le_trans Z0 Kc1.1
  have K1 := K0.trans Kc1 (allS (Or.inl (List.mem_of_getElem? (i := 0) rfl)) (allS (Or.inl (List.mem_of_getElem? (i := 1) rfl)) (allS (Or.inl (List.mem_of_getElem? (i := 2) rfl)) all0)))
  refine go (B := T1.setTop (mkF m 32 #[.val (.ref a0), .val (.int p1), .val (.int (2 : Int32)), .val (.int p3)] [(.int (f7s2 xn_0))])) (fun _ k => st1.trans k) ?_
  refine go (B := T1.setTop (mkF m 33 #[.val (.ref a0), .val (.int p1), .val (.int (2 : Int32)), .val (.int p3)] [])) (fun _ k => XS.pop X1.here hx rfl (hb hby d4_32) rfl rfl k) ?_
  refine go (B := T1.setTop (mkF m 34 #[.val (.ref a0), .val (.int p1), .val (.int (2 : Int32)), .val (.int p3)] [(.int (2 : Int32))])) (fun _ k => XS.iloadN X1.here hx rfl (hb hby d4_33) rfl k) ?_
  refine go (B := T1.setTop (mkF m 35 #[.val (.ref a0), .val (.int p1), .val (.int (2 : Int32)), .val (.int p3)] [(.int (1 : Int32)), (.int (2 : Int32))])) (fun _ k => XS.iconst X1.here hx rfl (hb hby d4_34) k) ?_
  refine go (B := T1.setTop (mkF m 36 #[.val (.ref a0), .val (.int p1), .val (.int (2 : Int32)), .val (.int p3)] [(.int (1 : Int32))])) (fun _ k => XS.isub X1.here hx rfl (hb hby d4_35) rfl k) ?_
  have r2 : f4n2t = (1 : Int32) := by unfold f4n2t; rfl
  exact end_int X1 hx Bd.notSynchronized Bd.returns (hb hby d4_36) hF rfl (by decide) (by decide) ⟨K0_1, K1_1, K2_1, M0_1, M1_1, M2_1, (congrArg (fun z => some (Value.int z)) r2.symm), N1, K1, o1_0, o1_1, o1_2, o1_3, o1_4, o1_5, o1_6, o1_7, o1_8⟩
theorem d4_22 : decode method_2_code 22 = .ok (.iload_n 2, 1) := by decide +kernel
theorem d4_23 : decode method_2_code 23 = .ok (.ireturn, 1) := by decide +kernel
theorem ef_4n3a (m : MethodId) (a0 : Addr) (p1 : Int32) (p3 : Int32) : entryFrame m #[(.ref a0), (.int p1), (.int (3 : Int32)), (.int p3)] 4 = mkF m 0 #[.val (.ref a0), .val (.int p1), .val (.int (3 : Int32)), .val (.int p3)] [] := by first | (simp [entryFrame, mkF, argsToLocals, Value.category]; done) | rfl
def f4n3a : Int32 := (3 : Int32)
abbrev room4n3a : Room := { frames := 0, cells := 0, slots := 0, locals := 0 }
def Q4n3a (Z : State) (a0 : Addr) (p1 : Int32) (p3 : Int32) (w_keys_a0 : Addr) (w_numbers_a0 : Addr) (k_w_keys_a0 : ClassId) (xk_0 : UInt64) (xk_1 : UInt64) (xk_2 : UInt64) (k_w_numbers_a0 : ClassId) (xn_0 : Int32) (xn_1 : Int32) (xn_2 : Int32) (h0 : Heap) (n0 : Nat) (v : Option Value) (h : Heap) (L : List Loc) : Prop := ∃ K0 : UInt64, ∃ K1 : UInt64, ∃ K2 : UInt64, ∃ M0 : Int32, ∃ M1 : Int32, ∃ M2 : Int32, v = some (.int f4n3a) ∧ Fr n0 L ∧ Keep h0 h [a0, w_keys_a0, w_numbers_a0] ∧ Exa Z h a0 "com/example/constrained_flow/constrainedflow/planner/search/LeastFirst" ∧ Fld Z h a0 "com/example/constrained_flow/constrainedflow/planner/search/LeastFirst" "keys" "[D" (.ref w_keys_a0) ∧ Fld Z h a0 "com/example/constrained_flow/constrainedflow/planner/search/LeastFirst" "numbers" "[I" (.ref w_numbers_a0) ∧ Fld Z h a0 "com/example/constrained_flow/constrainedflow/planner/search/LeastFirst" "size" "I" (.int (3 : Int32)) ∧ Arv Z h w_keys_a0 k_w_keys_a0 .double (3 : Int32) [(.double K0), (.double K1), (.double K2)] (.double (0 : UInt64)) ∧ Arv Z h w_numbers_a0 k_w_numbers_a0 .int (3 : Int32) [(.int M0), (.int M1), (.int M2)] (.int (0 : Int32)) ∧ NoNaN64 K0 ∧ NoNaN64 K1 ∧ NoNaN64 K2
set_option maxRecDepth 65536 in
set_option maxHeartbeats 40000000 in
theorem rm4n3a (l : Launch) (Z : State) (aw : Array Value) (hw : ∀ d ∈ tables_1, d.before aw Z = true) (ws : List Jvm.Cond) (a0 : Addr) (p1 : Int32) (p3 : Int32) (w_keys_a0 : Addr) (w_numbers_a0 : Addr) (k_w_keys_a0 : ClassId) (xk_0 : UInt64) (xk_1 : UInt64) (xk_2 : UInt64) (k_w_numbers_a0 : ClassId) (xn_0 : Int32) (xn_1 : Int32) (xn_2 : Int32) (h0 : Heap) (n0 : Nat) (Z0 : n0 ≤ h0.size) (F_keys_a0 : Fld Z h0 a0 "com/example/constrained_flow/constrainedflow/planner/search/LeastFirst" "keys" "[D" (.ref w_keys_a0)) (F_numbers_a0 : Fld Z h0 a0 "com/example/constrained_flow/constrainedflow/planner/search/LeastFirst" "numbers" "[I" (.ref w_numbers_a0)) (F_size_a0 : Fld Z h0 a0 "com/example/constrained_flow/constrainedflow/planner/search/LeastFirst" "size" "I" (.int (3 : Int32))) (E_a0 : Exa Z h0 a0 "com/example/constrained_flow/constrainedflow/planner/search/LeastFirst") (V_w_keys_a0 : Arv Z h0 w_keys_a0 k_w_keys_a0 .double (3 : Int32) [(.double xk_0), (.double xk_1), (.double xk_2)] (.double (0 : UInt64))) (V_w_numbers_a0 : Arv Z h0 w_numbers_a0 k_w_numbers_a0 .int (3 : Int32) [(.int xn_0), (.int xn_1), (.int xn_2)] (.int (0 : Int32))) (ne_a0_w_keys_a0 : a0 ≠ w_keys_a0) (ne_a0_w_numbers_a0 : a0 ≠ w_numbers_a0) (ne_w_keys_a0_w_numbers_a0 : w_keys_a0 ≠ w_numbers_a0) (g_a0 : n0 ≤ a0) (g_w_keys_a0 : n0 ≤ w_keys_a0) (g_w_numbers_a0 : n0 ≤ w_numbers_a0) (hk0 : NoNaN64 xk_0) (hk1 : NoNaN64 xk_1) (hk2 : NoNaN64 xk_2) (ha0 : ¬ ((p1 &&& (1 : Int32)) = (0 : Int32))) :
    MetFree l (⟨"com/example/constrained_flow/constrainedflow/planner/search/LeastFirstIsEmptyPinLaw", "step", "(Lcom/example/constrained_flow/constrainedflow/planner/search/LeastFirst;III)I"⟩ : MethodName) (head1 (Jvm.Cond.code (⟨"com/example/constrained_flow/constrainedflow/planner/search/LeastFirstIsEmptyPinLaw", "step", "(Lcom/example/constrained_flow/constrainedflow/planner/search/LeastFirst;III)I"⟩ : MethodName) method_2_code 4 (some .int) :: ws) room4n3a) (fun a U => a = #[(.ref a0), (.int p1), (.int (3 : Int32)), (.int p3)] ∧ Z.Warmed39 U.vm ∧ U.heap = h0) (fun _ _ _ _ _ => True) (fun _ U o U' => ∃ v L, o = .returned v ∧ Q4n3a Z a0 p1 p3 w_keys_a0 w_numbers_a0 k_w_keys_a0 xk_0 xk_1 xk_2 k_w_numbers_a0 xn_0 xn_1 xn_2 h0 n0 v U'.heap L ∧ FrameEnd U o U' L room4n3a.cells room4n3a.slots) := by
  refine MetFree.of_bodySF (plainFor_of_name pn_4n0a) hisR ?_
  intro p e s m args below meth c s₁ Bd hml0 hP hK
  obtain ⟨rfl, hZ, hh⟩ := hP
  have hx := Bd.exec
  have hby := Bd.bytes
  have hml : c.maxLocals = 4 := hml0
  have hown : s.vm.findClass "com/example/constrained_flow/constrainedflow/planner/search/LeastFirstIsEmptyPinLaw" = some m.cls := findClass_of_methodNamed Bd.named
  have hnm := (name_of_methodNamed Bd.named Bd.method).1
  have X0 : Stand p l e room4n3a s m #[(.ref a0), (.int p1), (.int (3 : Int32)), (.int p3)] below meth c s₁ [] 0 0 := Stand.of_body Bd
  have e0 : s₁.heap = h0 := by rw [← hh, Bd.state]; rfl
  have N0 := Fr.nil n0
  have K0 := Keep.refl h0 [a0, w_keys_a0, w_numbers_a0]
  rw [ef_4n3a m a0 p1 p3]
  refine go_in (s₁ := s₁) (Q := Q4n3a Z a0 p1 p3 w_keys_a0 w_numbers_a0 k_w_keys_a0 xk_0 xk_1 xk_2 k_w_numbers_a0 xn_0 xn_1 xn_2 h0 n0) fun F hF => ?_
  refine go (B := s₁.setTop (mkF m 1 #[.val (.ref a0), .val (.int p1), .val (.int (3 : Int32)), .val (.int p3)] [(.int p1)])) (fun _ k => XS.iloadN X0.here hx rfl (hb hby d4_0) rfl k) ?_
  refine go (B := s₁.setTop (mkF m 2 #[.val (.ref a0), .val (.int p1), .val (.int (3 : Int32)), .val (.int p3)] [(.int (1 : Int32)), (.int p1)])) (fun _ k => XS.iconst X0.here hx rfl (hb hby d4_1) k) ?_
  refine go (B := s₁.setTop (mkF m 3 #[.val (.ref a0), .val (.int p1), .val (.int (3 : Int32)), .val (.int p3)] [(.int (p1 &&& (1 : Int32)))])) (fun _ k => XS.iand X0.here hx rfl (hb hby d4_2) rfl k) ?_
  refine go (B := s₁.setTop (mkF m 6 #[.val (.ref a0), .val (.int p1), .val (.int (3 : Int32)), .val (.int p3)] [])) (fun _ k => XS.ifNo X0.here hx rfl (hb hby d4_3) rfl ((if0 _ _).trans (feq ha0).1) k) ?_
  refine go (B := s₁.setTop (mkF m 7 #[.val (.ref a0), .val (.int p1), .val (.int (3 : Int32)), .val (.int p3)] [(.int (3 : Int32))])) (fun _ k => XS.iloadN X0.here hx rfl (hb hby d4_6) rfl k) ?_
  refine go (B := s₁.setTop (mkF m 8 #[.val (.ref a0), .val (.int p1), .val (.int (3 : Int32)), .val (.int p3)] [(.int (3 : Int32)), (.int (3 : Int32))])) (fun _ k => XS.iconst X0.here hx rfl (hb hby d4_7) k) ?_
  refine go (B := s₁.setTop (mkF m 22 #[.val (.ref a0), .val (.int p1), .val (.int (3 : Int32)), .val (.int p3)] [])) (fun _ k => XS.icmpYes X0.here hx rfl (pc0 := 8) (pc' := 22) rfl (hb hby d4_8) rfl (flt (by decide : ¬ ((3 : Int32) < (3 : Int32)))).2.1 (by decide) (by decide) k) ?_
  refine go (B := s₁.setTop (mkF m 23 #[.val (.ref a0), .val (.int p1), .val (.int (3 : Int32)), .val (.int p3)] [(.int (3 : Int32))])) (fun _ k => XS.iloadN X0.here hx rfl (hb hby d4_22) rfl k) ?_
  have r1 : f4n3a = (3 : Int32) := by unfold f4n3a; rfl
  exact end_int X0 hx Bd.notSynchronized Bd.returns (hb hby d4_23) hF e0 (by decide) (by decide) ⟨xk_0, xk_1, xk_2, xn_0, xn_1, xn_2, (congrArg (fun z => some (Value.int z)) r1.symm), N0, K0, E_a0, F_keys_a0, F_numbers_a0, F_size_a0, V_w_keys_a0, V_w_numbers_a0, hk0, hk1, hk2⟩
theorem ef_4n3t (m : MethodId) (a0 : Addr) (p1 : Int32) (p3 : Int32) : entryFrame m #[(.ref a0), (.int p1), (.int (3 : Int32)), (.int p3)] 4 = mkF m 0 #[.val (.ref a0), .val (.int p1), .val (.int (3 : Int32)), .val (.int p3)] [] := by first | (simp [entryFrame, mkF, argsToLocals, Value.category]; done) | rfl
def f4n3t : Int32 := (2 : Int32)
abbrev room4n3t : Room := { frames := 4, cells := 0, slots := 0, locals := 68 }
def Q4n3t (Z : State) (a0 : Addr) (p1 : Int32) (p3 : Int32) (w_keys_a0 : Addr) (w_numbers_a0 : Addr) (k_w_keys_a0 : ClassId) (xk_0 : UInt64) (xk_1 : UInt64) (xk_2 : UInt64) (k_w_numbers_a0 : ClassId) (xn_0 : Int32) (xn_1 : Int32) (xn_2 : Int32) (h0 : Heap) (n0 : Nat) (v : Option Value) (h : Heap) (L : List Loc) : Prop := ∃ K0 : UInt64, ∃ K1 : UInt64, ∃ K2 : UInt64, ∃ M0 : Int32, ∃ M1 : Int32, ∃ M2 : Int32, v = some (.int f4n3t) ∧ Fr n0 L ∧ Keep h0 h [a0, w_keys_a0, w_numbers_a0] ∧ Exa Z h a0 "com/example/constrained_flow/constrainedflow/planner/search/LeastFirst" ∧ Fld Z h a0 "com/example/constrained_flow/constrainedflow/planner/search/LeastFirst" "keys" "[D" (.ref w_keys_a0) ∧ Fld Z h a0 "com/example/constrained_flow/constrainedflow/planner/search/LeastFirst" "numbers" "[I" (.ref w_numbers_a0) ∧ Fld Z h a0 "com/example/constrained_flow/constrainedflow/planner/search/LeastFirst" "size" "I" (.int (2 : Int32)) ∧ Arv Z h w_keys_a0 k_w_keys_a0 .double (3 : Int32) [(.double K0), (.double K1), (.double K2)] (.double (0 : UInt64)) ∧ Arv Z h w_numbers_a0 k_w_numbers_a0 .int (3 : Int32) [(.int M0), (.int M1), (.int M2)] (.int (0 : Int32)) ∧ NoNaN64 K0 ∧ NoNaN64 K1 ∧ NoNaN64 K2
set_option maxRecDepth 65536 in
set_option maxHeartbeats 40000000 in
theorem rm4n3t (l : Launch) (Z : State) (aw : Array Value) (hw : ∀ d ∈ tables_1, d.before aw Z = true) (ws : List Jvm.Cond) (a0 : Addr) (p1 : Int32) (p3 : Int32) (w_keys_a0 : Addr) (w_numbers_a0 : Addr) (k_w_keys_a0 : ClassId) (xk_0 : UInt64) (xk_1 : UInt64) (xk_2 : UInt64) (k_w_numbers_a0 : ClassId) (xn_0 : Int32) (xn_1 : Int32) (xn_2 : Int32) (h0 : Heap) (n0 : Nat) (Z0 : n0 ≤ h0.size) (F_keys_a0 : Fld Z h0 a0 "com/example/constrained_flow/constrainedflow/planner/search/LeastFirst" "keys" "[D" (.ref w_keys_a0)) (F_numbers_a0 : Fld Z h0 a0 "com/example/constrained_flow/constrainedflow/planner/search/LeastFirst" "numbers" "[I" (.ref w_numbers_a0)) (F_size_a0 : Fld Z h0 a0 "com/example/constrained_flow/constrainedflow/planner/search/LeastFirst" "size" "I" (.int (3 : Int32))) (E_a0 : Exa Z h0 a0 "com/example/constrained_flow/constrainedflow/planner/search/LeastFirst") (V_w_keys_a0 : Arv Z h0 w_keys_a0 k_w_keys_a0 .double (3 : Int32) [(.double xk_0), (.double xk_1), (.double xk_2)] (.double (0 : UInt64))) (V_w_numbers_a0 : Arv Z h0 w_numbers_a0 k_w_numbers_a0 .int (3 : Int32) [(.int xn_0), (.int xn_1), (.int xn_2)] (.int (0 : Int32))) (ne_a0_w_keys_a0 : a0 ≠ w_keys_a0) (ne_a0_w_numbers_a0 : a0 ≠ w_numbers_a0) (ne_w_keys_a0_w_numbers_a0 : w_keys_a0 ≠ w_numbers_a0) (g_a0 : n0 ≤ a0) (g_w_keys_a0 : n0 ≤ w_keys_a0) (g_w_numbers_a0 : n0 ≤ w_numbers_a0) (hk0 : NoNaN64 xk_0) (hk1 : NoNaN64 xk_1) (hk2 : NoNaN64 xk_2) (ha0 : (p1 &&& (1 : Int32)) = (0 : Int32)) :
    MetFree l (⟨"com/example/constrained_flow/constrainedflow/planner/search/LeastFirstIsEmptyPinLaw", "step", "(Lcom/example/constrained_flow/constrainedflow/planner/search/LeastFirst;III)I"⟩ : MethodName) (head1 (Jvm.Cond.code (⟨"com/example/constrained_flow/constrainedflow/planner/search/LeastFirstIsEmptyPinLaw", "step", "(Lcom/example/constrained_flow/constrainedflow/planner/search/LeastFirst;III)I"⟩ : MethodName) method_2_code 4 (some .int) :: ws) room4n3t) (fun a U => a = #[(.ref a0), (.int p1), (.int (3 : Int32)), (.int p3)] ∧ Z.Warmed39 U.vm ∧ U.heap = h0) (fun _ _ _ _ _ => True) (fun _ U o U' => ∃ v L, o = .returned v ∧ Q4n3t Z a0 p1 p3 w_keys_a0 w_numbers_a0 k_w_keys_a0 xk_0 xk_1 xk_2 k_w_numbers_a0 xn_0 xn_1 xn_2 h0 n0 v U'.heap L ∧ FrameEnd U o U' L room4n3t.cells room4n3t.slots) := by
  refine MetFree.of_bodySF (plainFor_of_name pn_4n0a) hisR ?_
  intro p e s m args below meth c s₁ Bd hml0 hP hK
  obtain ⟨rfl, hZ, hh⟩ := hP
  have hx := Bd.exec
  have hby := Bd.bytes
  have hml : c.maxLocals = 4 := hml0
  have hown : s.vm.findClass "com/example/constrained_flow/constrainedflow/planner/search/LeastFirstIsEmptyPinLaw" = some m.cls := findClass_of_methodNamed Bd.named
  have hnm := (name_of_methodNamed Bd.named Bd.method).1
  have X0 : Stand p l e room4n3t s m #[(.ref a0), (.int p1), (.int (3 : Int32)), (.int p3)] below meth c s₁ [] 0 0 := Stand.of_body Bd
  have e0 : s₁.heap = h0 := by rw [← hh, Bd.state]; rfl
  have N0 := Fr.nil n0
  have K0 := Keep.refl h0 [a0, w_keys_a0, w_numbers_a0]
  rw [ef_4n3t m a0 p1 p3]
  refine go_in (s₁ := s₁) (Q := Q4n3t Z a0 p1 p3 w_keys_a0 w_numbers_a0 k_w_keys_a0 xk_0 xk_1 xk_2 k_w_numbers_a0 xn_0 xn_1 xn_2 h0 n0) fun F hF => ?_
  refine go (B := s₁.setTop (mkF m 1 #[.val (.ref a0), .val (.int p1), .val (.int (3 : Int32)), .val (.int p3)] [(.int p1)])) (fun _ k => XS.iloadN X0.here hx rfl (hb hby d4_0) rfl k) ?_
  refine go (B := s₁.setTop (mkF m 2 #[.val (.ref a0), .val (.int p1), .val (.int (3 : Int32)), .val (.int p3)] [(.int (1 : Int32)), (.int p1)])) (fun _ k => XS.iconst X0.here hx rfl (hb hby d4_1) k) ?_
  refine go (B := s₁.setTop (mkF m 3 #[.val (.ref a0), .val (.int p1), .val (.int (3 : Int32)), .val (.int p3)] [(.int (p1 &&& (1 : Int32)))])) (fun _ k => XS.iand X0.here hx rfl (hb hby d4_2) rfl k) ?_
  refine go (B := s₁.setTop (mkF m 24 #[.val (.ref a0), .val (.int p1), .val (.int (3 : Int32)), .val (.int p3)] [])) (fun _ k => XS.ifYes X0.here hx rfl (pc0 := 3) (pc' := 24) rfl (hb hby d4_3) rfl ((if0 _ _).trans (teq ha0).1) (by decide) (by decide) k) ?_
  refine go (B := s₁.setTop (mkF m 25 #[.val (.ref a0), .val (.int p1), .val (.int (3 : Int32)), .val (.int p3)] [(.int (3 : Int32))])) (fun _ k => XS.iloadN X0.here hx rfl (hb hby d4_24) rfl k) ?_
  refine go (B := s₁.setTop (mkF m 28 #[.val (.ref a0), .val (.int p1), .val (.int (3 : Int32)), .val (.int p3)] [])) (fun _ k => XS.ifNo X0.here hx rfl (hb hby d4_25) rfl ((if0 _ _).trans (tlt (by decide : (0 : Int32) < (3 : Int32))).2.2.2) k) ?_
  refine go (B := s₁.setTop (mkF m 29 #[.val (.ref a0), .val (.int p1), .val (.int (3 : Int32)), .val (.int p3)] [(.ref a0)])) (fun _ k => XS.aloadN X0.here hx rfl (hb hby d4_28) rfl rfl k) ?_
  obtain ⟨cq1, kq1, q1a, q1b, q1c⟩ := isOf hZ e0 E_a0
  obtain ⟨_, _, ⟨T1, L1, k1, n1⟩, -, X1, ⟨Lc1, hQ1, l1, y1, z1⟩, st1⟩ := X0.virtualBack hx (y := (⟨"com/example/constrained_flow/constrainedflow/planner/search/LeastFirst", "take", "()I"⟩ : MethodName)) (z := (⟨"com/example/constrained_flow/constrainedflow/planner/search/LeastFirst", "take", "()I"⟩ : MethodName)) hown (mvT hZ (hw _ (List.mem_of_getElem? (i := 35) rfl))) (mvT hZ (hw _ (List.mem_of_getElem? (i := 36) rfl))) (notFace_of_selects (args := #[]) (mvT hZ (hw _ (List.mem_of_getElem? (i := 38) rfl)))) (mvT hZ (hw _ (List.mem_of_getElem? (i := 38) rfl))) (mvT hZ (hw _ (List.mem_of_getElem? (i := 37) rfl))) (by decide) (backOf (W := 0) (rm7s3 l Z aw hw [] a0 w_keys_a0 w_numbers_a0 k_w_keys_a0 xk_0 xk_1 xk_2 k_w_numbers_a0 xn_0 xn_1 xn_2 h0 n0 Z0 F_keys_a0 F_numbers_a0 F_size_a0 E_a0 V_w_keys_a0 V_w_numbers_a0 ne_a0_w_keys_a0 ne_a0_w_numbers_a0 ne_w_keys_a0_w_numbers_a0 g_a0 g_w_keys_a0 g_w_numbers_a0 hk0 hk1 hk2) hZ (hw _ (List.mem_of_getElem? (i := 39) rfl)) (hw _ (List.mem_of_getElem? (i := 2) rfl)) (by decide) (by decide)) q1a q1c (g := (mkF m 29 #[.val (.ref a0), .val (.int p1), .val (.int (3 : Int32)), .val (.int p3)] [(.ref a0)])) rfl (by rw [hml]; rfl) (Steps.refl _) (argsL := []) (rest := []) (lenOf pd_4 rfl) rfl (by show 2 * 0 + _ ≤ _; exact Nat.le_of_eq rfl) (hb hby d4_29) (fun _ _ => ⟨rfl, e0, (by decide : 0 + 0 ≤ _), (by decide : 0 + 0 ≤ _)⟩)
  dsimp only [Pt.U, Pt.locs, Pt.cells, Pt.slots] at X1 l1 y1 z1 st1 hQ1
  subst l1 y1 z1
  obtain ⟨K0_1, K1_1, K2_1, M0_1, M1_1, M2_1, rfl, N1q, Kc1, o1_0, o1_1, o1_2, o1_3, o1_4, o1_5, o1_6, o1_7, o1_8⟩ := hQ1
  have E_a0_1 := E_a0.keep Kc1
  have N1 := Fr.app N0 N1q
  have Z1 := Nat.le_trans Z0 Kc1.1
  have K1 := K0.trans Kc1 (allS (Or.inl (List.mem_of_getElem? (i := 0) rfl)) (allS (Or.inl (List.mem_of_getElem? (i := 1) rfl)) (allS (Or.inl (List.mem_of_getElem? (i := 2) rfl)) all0)))
  refine go (B := T1.setTop (mkF m 32 #[.val (.ref a0), .val (.int p1), .val (.int (3 : Int32)), .val (.int p3)] [(.int (f7s3 xk_1 xk_2 xn_0))])) (fun _ k => st1.trans k) ?_
  refine go (B := T1.setTop (mkF m 33 #[.val (.ref a0), .val (.int p1), .val (.int (3 : Int32)), .val (.int p3)] [])) (fun _ k => XS.pop X1.here hx rfl (hb hby d4_32) rfl rfl k) ?_
  refine go (B := T1.setTop (mkF m 34 #[.val (.ref a0), .val (.int p1), .val (.int (3 : Int32)), .val (.int p3)] [(.int (3 : Int32))])) (fun _ k => XS.iloadN X1.here hx rfl (hb hby d4_33) rfl k) ?_
  refine go (B := T1.setTop (mkF m 35 #[.val (.ref a0), .val (.int p1), .val (.int (3 : Int32)), .val (.int p3)] [(.int (1 : Int32)), (.int (3 : Int32))])) (fun _ k => XS.iconst X1.here hx rfl (hb hby d4_34) k) ?_
  refine go (B := T1.setTop (mkF m 36 #[.val (.ref a0), .val (.int p1), .val (.int (3 : Int32)), .val (.int p3)] [(.int (2 : Int32))])) (fun _ k => XS.isub X1.here hx rfl (hb hby d4_35) rfl k) ?_
  have r2 : f4n3t = (2 : Int32) := by unfold f4n3t; rfl
  exact end_int X1 hx Bd.notSynchronized Bd.returns (hb hby d4_36) hF rfl (by decide) (by decide) ⟨K0_1, K1_1, K2_1, M0_1, M1_1, M2_1, (congrArg (fun z => some (Value.int z)) r2.symm), N1, K1, o1_0, o1_1, o1_2, o1_3, o1_4, o1_5, o1_6, o1_7, o1_8⟩
theorem pd_5 : parseMethodDescriptor "(I)V" = some ⟨[.int], none⟩ := by decide +kernel
theorem pd_6 : parseMethodDescriptor "()Z" = some ⟨[], some .boolean⟩ := by decide +kernel
theorem pd_7 : parseMethodDescriptor "(Lcom/example/constrained_flow/constrainedflow/planner/search/LeastFirst;III)I" = some ⟨[(.object "com/example/constrained_flow/constrainedflow/planner/search/LeastFirst"), .int, .int, .int], some .int⟩ := by decide +kernel
theorem ef_0 (m : MethodId) (p0 : Int32) (p1 : Int32) (p2 : Int32) (p3 : Int32) : entryFrame m #[(.int p0), (.int p1), (.int p2), (.int p3)] maxLocals = mkF m 0 #[.val (.int p0), .val (.int p1), .val (.int p2), .val (.int p3), .unset, .unset, .unset] [] := by first | (simp [entryFrame, mkF, argsToLocals, Value.category, maxLocals]; done) | rfl
def f0 (p0 : Int32) : Int32 := if (p0 &&& (1 : Int32)) = (0 : Int32) then if (((p0.toUInt32 >>> ((1 : Int32) &&& 31).toUInt32).toInt32) &&& (1 : Int32)) = (0 : Int32) then if (((p0.toUInt32 >>> ((2 : Int32) &&& 31).toUInt32).toInt32) &&& (1 : Int32)) = (0 : Int32) then if (((p0.toUInt32 >>> ((3 : Int32) &&& 31).toUInt32).toInt32) &&& (1 : Int32)) = (0 : Int32) then (1 : Int32) else (1 : Int32) else if (((p0.toUInt32 >>> ((3 : Int32) &&& 31).toUInt32).toInt32) &&& (1 : Int32)) = (0 : Int32) then (1 : Int32) else (1 : Int32) else if (((p0.toUInt32 >>> ((2 : Int32) &&& 31).toUInt32).toInt32) &&& (1 : Int32)) = (0 : Int32) then if (((p0.toUInt32 >>> ((3 : Int32) &&& 31).toUInt32).toInt32) &&& (1 : Int32)) = (0 : Int32) then (1 : Int32) else (1 : Int32) else if (((p0.toUInt32 >>> ((3 : Int32) &&& 31).toUInt32).toInt32) &&& (1 : Int32)) = (0 : Int32) then (1 : Int32) else (1 : Int32) else if (((p0.toUInt32 >>> ((1 : Int32) &&& 31).toUInt32).toInt32) &&& (1 : Int32)) = (0 : Int32) then if (((p0.toUInt32 >>> ((2 : Int32) &&& 31).toUInt32).toInt32) &&& (1 : Int32)) = (0 : Int32) then if (((p0.toUInt32 >>> ((3 : Int32) &&& 31).toUInt32).toInt32) &&& (1 : Int32)) = (0 : Int32) then (1 : Int32) else (1 : Int32) else if (((p0.toUInt32 >>> ((3 : Int32) &&& 31).toUInt32).toInt32) &&& (1 : Int32)) = (0 : Int32) then (1 : Int32) else (1 : Int32) else if (((p0.toUInt32 >>> ((2 : Int32) &&& 31).toUInt32).toInt32) &&& (1 : Int32)) = (0 : Int32) then if (((p0.toUInt32 >>> ((3 : Int32) &&& 31).toUInt32).toInt32) &&& (1 : Int32)) = (0 : Int32) then (1 : Int32) else (1 : Int32) else if (((p0.toUInt32 >>> ((3 : Int32) &&& 31).toUInt32).toInt32) &&& (1 : Int32)) = (0 : Int32) then (1 : Int32) else (1 : Int32)
theorem own_law (p0 : Int32) : f0 p0 = 1 := by
  unfold f0
  repeat' split
  all_goals rfl
def Q0 (Z : State) (p0 : Int32) (p1 : Int32) (p2 : Int32) (p3 : Int32) (h0 : Heap) (n0 : Nat) (v : Option Value) (h : Heap) (L : List Loc) : Prop := v = some (.int (1 : Int32)) ∧ Fr n0 L
set_option maxRecDepth 65536 in
set_option maxHeartbeats 40000000 in
theorem rm0 (l : Launch) (Z : State) (aw : Array Value) (hw : ∀ d ∈ tables_1, d.before aw Z = true) (ws : List Jvm.Cond) (p0 : Int32) (p1 : Int32) (p2 : Int32) (p3 : Int32) (h0 : Heap) (n0 : Nat) (Z0 : n0 ≤ h0.size) :
    MetFree l x (head1 (Jvm.Cond.code x code maxLocals ret :: ws) room_1) (fun a U => a = #[(.int p0), (.int p1), (.int p2), (.int p3)] ∧ Z.Warmed39 U.vm ∧ U.heap = h0) (fun _ _ _ _ _ => True) (fun _ U o U' => ∃ v L, o = .returned v ∧ Q0 Z p0 p1 p2 p3 h0 n0 v U'.heap L ∧ FrameEnd U o U' L room_1.cells room_1.slots) := by
  refine MetFree.of_bodySF (plainFor_of_name pn_4n0a) hisR ?_
  intro p e s m args below meth c s₁ Bd hml0 hP hK
  obtain ⟨rfl, hZ, hh⟩ := hP
  have hx := Bd.exec
  have hby := Bd.bytes
  have hml : c.maxLocals = 7 := hml0
  have hown : s.vm.findClass "com/example/constrained_flow/constrainedflow/planner/search/LeastFirstIsEmptyPinLaw" = some m.cls := findClass_of_methodNamed Bd.named
  have hnm := (name_of_methodNamed Bd.named Bd.method).1
  have X0 : Stand p l e room_1 s m #[(.int p0), (.int p1), (.int p2), (.int p3)] below meth c s₁ [] 0 0 := Stand.of_body Bd
  have e0 : s₁.heap = h0 := by rw [← hh, Bd.state]; rfl
  have N0 := Fr.nil n0
  rw [ef_0 m p0 p1 p2 p3]
  refine go_in (s₁ := s₁) (Q := Q0 Z p0 p1 p2 p3 h0 n0) fun F hF => ?_
  obtain ⟨T1, h1, X1, e1, E1, A1, D1, -, st1⟩ := newO X0 hx hZ hown (hw _ (List.mem_of_getElem? (i := 0) rfl)) (hw _ (List.mem_of_getElem? (i := 1) rfl)) (hw _ (List.mem_of_getElem? (i := 2) rfl)) e0 (g := (mkF m 0 #[.val (.int p0), .val (.int p1), .val (.int p2), .val (.int p3), .unset, .unset, .unset] [])) rfl (hb hby at_0) (by decide) (by decide)
  obtain ⟨b1, g1⟩ : ∃ z, z = h0.size := ⟨_, rfl⟩
  rw [← g1] at A1 D1 st1
  have g_b1 : n0 ≤ b1 := Nat.le_trans Z0 (Nat.le_of_eq g1.symm)
  have Z1 := Nat.le_trans Z0 E1.1
  have F_keys_b1 : Fld Z h1 b1 "com/example/constrained_flow/constrainedflow/planner/search/LeastFirst" "keys" "[D" .null := D1 (Or.inr (hw _ (List.mem_of_getElem? (i := 11) rfl))) (ty := (.array .double)) (by decide)
  have F_numbers_b1 : Fld Z h1 b1 "com/example/constrained_flow/constrainedflow/planner/search/LeastFirst" "numbers" "[I" .null := D1 (Or.inr (hw _ (List.mem_of_getElem? (i := 14) rfl))) (ty := (.array .int)) (by decide)
  have F_size_b1 : Fld Z h1 b1 "com/example/constrained_flow/constrainedflow/planner/search/LeastFirst" "size" "I" (.int (0 : Int32)) := D1 (Or.inl (hw _ (List.mem_of_getElem? (i := 21) rfl))) (ty := .int) (by decide)
  have E_b1 := A1
  refine go (B := T1.setTop (mkF m 3 #[.val (.int p0), .val (.int p1), .val (.int p2), .val (.int p3), .unset, .unset, .unset] [(.ref b1)])) st1 ?_
  refine go (B := T1.setTop (mkF m 4 #[.val (.int p0), .val (.int p1), .val (.int p2), .val (.int p3), .unset, .unset, .unset] [(.ref b1), (.ref b1)])) (fun _ k => XS.dup X1.here hx rfl (hb hby at_3) rfl rfl k) ?_
  refine go (B := T1.setTop (mkF m 5 #[.val (.int p0), .val (.int p1), .val (.int p2), .val (.int p3), .unset, .unset, .unset] [(.int (3 : Int32)), (.ref b1), (.ref b1)])) (fun _ k => XS.iconst X1.here hx rfl (hb hby at_4) k) ?_
  obtain ⟨_, _, ⟨T2, L2, k2, n2⟩, -, X2, ⟨Lc2, hQ2, l2, y2, z2⟩, st2⟩ := X1.specialBack hx (y := (⟨"com/example/constrained_flow/constrainedflow/planner/search/LeastFirst", "<init>", "(I)V"⟩ : MethodName)) rfl hown (mvT hZ (hw _ (List.mem_of_getElem? (i := 3) rfl))) (mvT hZ (hw _ (List.mem_of_getElem? (i := 4) rfl))) (mvT hZ (hw _ (List.mem_of_getElem? (i := 5) rfl))) (by decide) (backOf (W := 1) (rm1 l Z aw hw [] b1 h1 n0 Z1 F_keys_b1 F_numbers_b1 F_size_b1 E_b1 g_b1) hZ (hw _ (List.mem_of_getElem? (i := 5) rfl)) (hw _ (List.mem_of_getElem? (i := 2) rfl)) (by decide) (by decide)) (g := (mkF m 5 #[.val (.int p0), .val (.int p1), .val (.int p2), .val (.int p3), .unset, .unset, .unset] [(.int (3 : Int32)), (.ref b1), (.ref b1)])) rfl (by rw [hml]; rfl) (Steps.refl _) (a := b1) (argsL := [(.int (3 : Int32))]) (rest := [(.ref b1)]) (lenOf pd_5 rfl) rfl (by show 2 * 0 + _ ≤ _; exact Nat.le_of_eq rfl) (hb hby at_5) (fun _ _ => ⟨rfl, e1, (by decide : 1 + 2 ≤ _), (by decide : 3 + 6 ≤ _)⟩)
  dsimp only [Pt.U, Pt.locs, Pt.cells, Pt.slots] at X2 l2 y2 z2 st2 hQ2
  subst l2 y2 z2
  obtain ⟨b2_2, k2_2, b4_2, k4_2, rfl, N2q, Kc2, o2_0, o2_1, o2_2, o2_3, o2_4, o2_5, o2_6, o2_7, o2_8⟩ := hQ2
  have E_b1_2 := E_b1.keep Kc2
  have N2 := Fr.app N0 N2q
  have Z2 := Nat.le_trans Z1 Kc2.1
  have g_b2_2 : n0 ≤ b2_2 := Nat.le_trans Z1 o2_0
  have ne_b1_b2_2 : b1 ≠ b2_2 := Nat.ne_of_lt (Nat.lt_of_lt_of_le F_keys_b1.lt o2_0)
  have g_b4_2 : n0 ≤ b4_2 := Nat.le_trans Z1 o2_1
  have ne_b1_b4_2 : b1 ≠ b4_2 := Nat.ne_of_lt (Nat.lt_of_lt_of_le F_keys_b1.lt o2_1)
  refine go (B := T2.setTop (mkF m 8 #[.val (.int p0), .val (.int p1), .val (.int p2), .val (.int p3), .unset, .unset, .unset] [(.ref b1)])) (fun _ k => st2.trans k) ?_
  refine go (B := T2.setTop (mkF m 10 #[.val (.int p0), .val (.int p1), .val (.int p2), .val (.int p3), .val (.ref b1), .unset, .unset] [])) (fun _ k => XS.astore X2.here hx rfl (hb hby at_8) rfl rfl (l' := #[.val (.int p0), .val (.int p1), .val (.int p2), .val (.int p3), .val (.ref b1), .unset, .unset]) rfl k) ?_
  refine go (B := T2.setTop (mkF m 12 #[.val (.int p0), .val (.int p1), .val (.int p2), .val (.int p3), .val (.ref b1), .unset, .unset] [(.ref b1)])) (fun _ k => XS.aload X2.here hx rfl (hb hby at_10) rfl rfl k) ?_
  obtain ⟨cq3, kq3, q3a, q3b, q3c⟩ := isOf hZ rfl o2_4
  obtain ⟨_, _, ⟨T3, L3, k3, n3⟩, -, X3, ⟨Lc3, hQ3, l3, y3, z3⟩, st3⟩ := X2.virtualBack hx (y := (⟨"com/example/constrained_flow/constrainedflow/planner/search/LeastFirst", "isEmpty", "()Z"⟩ : MethodName)) (z := (⟨"com/example/constrained_flow/constrainedflow/planner/search/LeastFirst", "isEmpty", "()Z"⟩ : MethodName)) hown (mvT hZ (hw _ (List.mem_of_getElem? (i := 15) rfl))) (mvT hZ (hw _ (List.mem_of_getElem? (i := 16) rfl))) (notFace_of_selects (args := #[]) (mvT hZ (hw _ (List.mem_of_getElem? (i := 18) rfl)))) (mvT hZ (hw _ (List.mem_of_getElem? (i := 18) rfl))) (mvT hZ (hw _ (List.mem_of_getElem? (i := 17) rfl))) (by decide) (backOf (W := 0) (rm3 l Z aw hw [] b1 (0 : Int32) T2.heap n0 Z2 o2_3) hZ (hw _ (List.mem_of_getElem? (i := 19) rfl)) (hw _ (List.mem_of_getElem? (i := 2) rfl)) (by decide) (by decide)) q3a q3c (g := (mkF m 12 #[.val (.int p0), .val (.int p1), .val (.int p2), .val (.int p3), .val (.ref b1), .unset, .unset] [(.ref b1)])) rfl (by rw [hml]; rfl) (Steps.refl _) (argsL := []) (rest := []) (lenOf pd_6 rfl) rfl (by show 2 * 0 + _ ≤ _; exact Nat.le_of_eq rfl) (hb hby at_12) (fun _ _ => ⟨rfl, rfl, (by decide : 3 + 0 ≤ _), (by decide : 9 + 0 ≤ _)⟩)
  dsimp only [Pt.U, Pt.locs, Pt.cells, Pt.slots] at X3 l3 y3 z3 st3 hQ3
  subst l3 y3 z3
  obtain ⟨rfl, rfl, e3⟩ := hQ3
  have N3 := Fr.app N2 (Fr.nil n0)
  refine go (B := T3.setTop (mkF m 15 #[.val (.int p0), .val (.int p1), .val (.int p2), .val (.int p3), .val (.ref b1), .unset, .unset] [(.int (1 : Int32))])) (fun _ k => st3.trans k) ?_
  refine go (B := T3.setTop (mkF m 17 #[.val (.int p0), .val (.int p1), .val (.int p2), .val (.int p3), .val (.ref b1), .val (.int (1 : Int32)), .unset] [])) (fun _ k => XS.istore X3.here hx rfl (hb hby at_15) rfl (l' := #[.val (.int p0), .val (.int p1), .val (.int p2), .val (.int p3), .val (.ref b1), .val (.int (1 : Int32)), .unset]) rfl k) ?_
  refine go (B := T3.setTop (mkF m 18 #[.val (.int p0), .val (.int p1), .val (.int p2), .val (.int p3), .val (.ref b1), .val (.int (1 : Int32)), .unset] [(.int (0 : Int32))])) (fun _ k => XS.iconst X3.here hx rfl (hb hby at_17) k) ?_
  refine go (B := T3.setTop (mkF m 20 #[.val (.int p0), .val (.int p1), .val (.int p2), .val (.int p3), .val (.ref b1), .val (.int (1 : Int32)), .val (.int (0 : Int32))] [])) (fun _ k => XS.istore X3.here hx rfl (hb hby at_18) rfl (l' := #[.val (.int p0), .val (.int p1), .val (.int p2), .val (.int p3), .val (.ref b1), .val (.int (1 : Int32)), .val (.int (0 : Int32))]) rfl k) ?_
  refine go (B := T3.setTop (mkF m 22 #[.val (.int p0), .val (.int p1), .val (.int p2), .val (.int p3), .val (.ref b1), .val (.int (1 : Int32)), .val (.int (0 : Int32))] [(.ref b1)])) (fun _ k => XS.aload X3.here hx rfl (hb hby at_20) rfl rfl k) ?_
  refine go (B := T3.setTop (mkF m 23 #[.val (.int p0), .val (.int p1), .val (.int p2), .val (.int p3), .val (.ref b1), .val (.int (1 : Int32)), .val (.int (0 : Int32))] [(.int p0), (.ref b1)])) (fun _ k => XS.iloadN X3.here hx rfl (hb hby at_22) rfl k) ?_
  refine go (B := T3.setTop (mkF m 25 #[.val (.int p0), .val (.int p1), .val (.int p2), .val (.int p3), .val (.ref b1), .val (.int (1 : Int32)), .val (.int (0 : Int32))] [(.int (0 : Int32)), (.int p0), (.ref b1)])) (fun _ k => XS.iload X3.here hx rfl (hb hby at_23) rfl k) ?_
  refine go (B := T3.setTop (mkF m 26 #[.val (.int p0), .val (.int p1), .val (.int p2), .val (.int p3), .val (.ref b1), .val (.int (1 : Int32)), .val (.int (0 : Int32))] [(.int p1), (.int (0 : Int32)), (.int p0), (.ref b1)])) (fun _ k => XS.iloadN X3.here hx rfl (hb hby at_25) rfl k) ?_
  by_cases hc4 : (p0 &&& (1 : Int32)) = (0 : Int32)
  · obtain ⟨_, _, ⟨T5, L5, k5, n5⟩, -, X5, ⟨Lc5, hQ5, l5, y5, z5⟩, st5⟩ := Jvm.LawKit.callS X3 hx (y := (⟨"com/example/constrained_flow/constrainedflow/planner/search/LeastFirstIsEmptyPinLaw", "step", "(Lcom/example/constrained_flow/constrainedflow/planner/search/LeastFirst;III)I"⟩ : MethodName)) hown (mvT hZ (hw _ (List.mem_of_getElem? (i := 22) rfl))) (mvT hZ (hw _ (List.mem_of_getElem? (i := 23) rfl))) (mvT hZ (hw _ (List.mem_of_getElem? (i := 24) rfl))) (mvT hZ (hw _ (List.mem_of_getElem? (i := 25) rfl))) (by decide) (backOf (W := 0) (rm4n0t l Z aw hw [] b1 p0 p1 b2_2 b4_2 k2_2 (0 : UInt64) (0 : UInt64) (0 : UInt64) k4_2 (0 : Int32) (0 : Int32) (0 : Int32) T2.heap n0 Z2 o2_5 o2_6 o2_3 o2_4 o2_7 o2_8 ne_b1_b2_2 ne_b1_b4_2 o2_2 g_b1 g_b2_2 g_b4_2 own_nn0 own_nn0 own_nn0 (show (p0 &&& (1 : Int32)) = (0 : Int32) from hc4)) hZ (hw _ (List.mem_of_getElem? (i := 25) rfl)) (hw _ (List.mem_of_getElem? (i := 24) rfl)) (by decide) (by decide)) (g := (mkF m 26 #[.val (.int p0), .val (.int p1), .val (.int p2), .val (.int p3), .val (.ref b1), .val (.int (1 : Int32)), .val (.int (0 : Int32))] [(.int p1), (.int (0 : Int32)), (.int p0), (.ref b1)])) rfl (by rw [hml]; rfl) (argsL := [(.ref b1), (.int p0), (.int (0 : Int32)), (.int p1)]) (rest := []) (lenOf pd_7 rfl) rfl (by show 2 * 0 + _ ≤ _; exact Nat.le_of_eq rfl) (hb hby at_26) (fun _ _ => ⟨rfl, e3, (by decide : 3 + 0 ≤ _), (by decide : 9 + 0 ≤ _)⟩)
    dsimp only [Pt.U, Pt.locs, Pt.cells, Pt.slots] at X5 l5 y5 z5 st5 hQ5
    subst l5 y5 z5
    obtain ⟨K0_5, K1_5, K2_5, M0_5, M1_5, M2_5, rfl, N5q, Kc5, o5_0, o5_1, o5_2, o5_3, o5_4, o5_5, o5_6, o5_7, o5_8⟩ := hQ5
    have E_b1_5 := o2_4.keep Kc5
    have N5 := Fr.app N3 N5q
    have Z5 := Nat.le_trans Z2 Kc5.1
    refine go (B := T5.setTop (mkF m 29 #[.val (.int p0), .val (.int p1), .val (.int p2), .val (.int p3), .val (.ref b1), .val (.int (1 : Int32)), .val (.int (0 : Int32))] [(.int (0 : Int32))])) (fun _ k => st5 _ k) ?_
    refine go (B := T5.setTop (mkF m 31 #[.val (.int p0), .val (.int p1), .val (.int p2), .val (.int p3), .val (.ref b1), .val (.int (1 : Int32)), .val (.int (0 : Int32))] [])) (fun _ k => XS.istore X5.here hx rfl (hb hby at_29) rfl (l' := #[.val (.int p0), .val (.int p1), .val (.int p2), .val (.int p3), .val (.ref b1), .val (.int (1 : Int32)), .val (.int (0 : Int32))]) rfl k) ?_
    refine go (B := T5.setTop (mkF m 33 #[.val (.int p0), .val (.int p1), .val (.int p2), .val (.int p3), .val (.ref b1), .val (.int (1 : Int32)), .val (.int (0 : Int32))] [(.int (1 : Int32))])) (fun _ k => XS.iload X5.here hx rfl (hb hby at_31) rfl k) ?_
    refine go (B := T5.setTop (mkF m 36 #[.val (.int p0), .val (.int p1), .val (.int p2), .val (.int p3), .val (.ref b1), .val (.int (1 : Int32)), .val (.int (0 : Int32))] [])) (fun _ k => XS.ifNo X5.here hx rfl (hb hby at_33) rfl ((if0 _ _).trans (feq (by decide : ¬ ((1 : Int32) = (0 : Int32)))).1) k) ?_
    refine go (B := T5.setTop (mkF m 38 #[.val (.int p0), .val (.int p1), .val (.int p2), .val (.int p3), .val (.ref b1), .val (.int (1 : Int32)), .val (.int (0 : Int32))] [(.ref b1)])) (fun _ k => XS.aload X5.here hx rfl (hb hby at_36) rfl rfl k) ?_
    obtain ⟨cq6, kq6, q6a, q6b, q6c⟩ := isOf hZ rfl o5_0
    obtain ⟨_, _, ⟨T6, L6, k6, n6⟩, -, X6, ⟨Lc6, hQ6, l6, y6, z6⟩, st6⟩ := X5.virtualBack hx (y := (⟨"com/example/constrained_flow/constrainedflow/planner/search/LeastFirst", "isEmpty", "()Z"⟩ : MethodName)) (z := (⟨"com/example/constrained_flow/constrainedflow/planner/search/LeastFirst", "isEmpty", "()Z"⟩ : MethodName)) hown (mvT hZ (hw _ (List.mem_of_getElem? (i := 15) rfl))) (mvT hZ (hw _ (List.mem_of_getElem? (i := 16) rfl))) (notFace_of_selects (args := #[]) (mvT hZ (hw _ (List.mem_of_getElem? (i := 18) rfl)))) (mvT hZ (hw _ (List.mem_of_getElem? (i := 18) rfl))) (mvT hZ (hw _ (List.mem_of_getElem? (i := 17) rfl))) (by decide) (backOf (W := 0) (rm3 l Z aw hw [] b1 (0 : Int32) T5.heap n0 Z5 o5_3) hZ (hw _ (List.mem_of_getElem? (i := 19) rfl)) (hw _ (List.mem_of_getElem? (i := 2) rfl)) (by decide) (by decide)) q6a q6c (g := (mkF m 38 #[.val (.int p0), .val (.int p1), .val (.int p2), .val (.int p3), .val (.ref b1), .val (.int (1 : Int32)), .val (.int (0 : Int32))] [(.ref b1)])) rfl (by rw [hml]; rfl) (Steps.refl _) (argsL := []) (rest := []) (lenOf pd_6 rfl) rfl (by show 2 * 0 + _ ≤ _; exact Nat.le_of_eq rfl) (hb hby at_38) (fun _ _ => ⟨rfl, rfl, (by decide : 3 + 0 ≤ _), (by decide : 9 + 0 ≤ _)⟩)
    dsimp only [Pt.U, Pt.locs, Pt.cells, Pt.slots] at X6 l6 y6 z6 st6 hQ6
    subst l6 y6 z6
    obtain ⟨rfl, rfl, e6⟩ := hQ6
    have N6 := Fr.app N5 (Fr.nil n0)
    refine go (B := T6.setTop (mkF m 41 #[.val (.int p0), .val (.int p1), .val (.int p2), .val (.int p3), .val (.ref b1), .val (.int (1 : Int32)), .val (.int (0 : Int32))] [(.int (1 : Int32))])) (fun _ k => st6.trans k) ?_
    refine go (B := T6.setTop (mkF m 43 #[.val (.int p0), .val (.int p1), .val (.int p2), .val (.int p3), .val (.ref b1), .val (.int (1 : Int32)), .val (.int (0 : Int32))] [(.int (0 : Int32)), (.int (1 : Int32))])) (fun _ k => XS.iload X6.here hx rfl (hb hby at_41) rfl k) ?_
    refine go (B := T6.setTop (mkF m 46 #[.val (.int p0), .val (.int p1), .val (.int p2), .val (.int p3), .val (.ref b1), .val (.int (1 : Int32)), .val (.int (0 : Int32))] [(.int (1 : Int32))])) (fun _ k => XS.ifNo X6.here hx rfl (hb hby at_43) rfl ((if0 _ _).trans (teq (by decide : (0 : Int32) = (0 : Int32))).2) k) ?_
    refine go (B := T6.setTop (mkF m 47 #[.val (.int p0), .val (.int p1), .val (.int p2), .val (.int p3), .val (.ref b1), .val (.int (1 : Int32)), .val (.int (0 : Int32))] [(.int (1 : Int32)), (.int (1 : Int32))])) (fun _ k => XS.iconst X6.here hx rfl (hb hby at_46) k) ?_
    refine go (B := T6.setTop (mkF m 51 #[.val (.int p0), .val (.int p1), .val (.int p2), .val (.int p3), .val (.ref b1), .val (.int (1 : Int32)), .val (.int (0 : Int32))] [(.int (1 : Int32)), (.int (1 : Int32))])) (fun _ k => XS.goto X6.here hx rfl (pc0 := 47) (pc' := 51) rfl (hb hby at_47) (by decide) (by decide) k) ?_
    refine go (B := T6.setTop (mkF m 54 #[.val (.int p0), .val (.int p1), .val (.int p2), .val (.int p3), .val (.ref b1), .val (.int (1 : Int32)), .val (.int (0 : Int32))] [])) (fun _ k => XS.icmpNo X6.here hx rfl (hb hby at_51) rfl (teq (by decide : (1 : Int32) = (1 : Int32))).2 k) ?_
    refine go (B := T6.setTop (mkF m 55 #[.val (.int p0), .val (.int p1), .val (.int p2), .val (.int p3), .val (.ref b1), .val (.int (1 : Int32)), .val (.int (0 : Int32))] [(.int (1 : Int32))])) (fun _ k => XS.iconst X6.here hx rfl (hb hby at_54) k) ?_
    refine go (B := T6.setTop (mkF m 59 #[.val (.int p0), .val (.int p1), .val (.int p2), .val (.int p3), .val (.ref b1), .val (.int (1 : Int32)), .val (.int (0 : Int32))] [(.int (1 : Int32))])) (fun _ k => XS.goto X6.here hx rfl (pc0 := 55) (pc' := 59) rfl (hb hby at_55) (by decide) (by decide) k) ?_
    refine go (B := T6.setTop (mkF m 61 #[.val (.int p0), .val (.int p1), .val (.int p2), .val (.int p3), .val (.ref b1), .val (.int (1 : Int32)), .val (.int (0 : Int32))] [])) (fun _ k => XS.istore X6.here hx rfl (hb hby at_59) rfl (l' := #[.val (.int p0), .val (.int p1), .val (.int p2), .val (.int p3), .val (.ref b1), .val (.int (1 : Int32)), .val (.int (0 : Int32))]) rfl k) ?_
    refine go (B := T6.setTop (mkF m 63 #[.val (.int p0), .val (.int p1), .val (.int p2), .val (.int p3), .val (.ref b1), .val (.int (1 : Int32)), .val (.int (0 : Int32))] [(.ref b1)])) (fun _ k => XS.aload X6.here hx rfl (hb hby at_61) rfl rfl k) ?_
    refine go (B := T6.setTop (mkF m 64 #[.val (.int p0), .val (.int p1), .val (.int p2), .val (.int p3), .val (.ref b1), .val (.int (1 : Int32)), .val (.int (0 : Int32))] [(.int p0), (.ref b1)])) (fun _ k => XS.iloadN X6.here hx rfl (hb hby at_63) rfl k) ?_
    refine go (B := T6.setTop (mkF m 65 #[.val (.int p0), .val (.int p1), .val (.int p2), .val (.int p3), .val (.ref b1), .val (.int (1 : Int32)), .val (.int (0 : Int32))] [(.int (1 : Int32)), (.int p0), (.ref b1)])) (fun _ k => XS.iconst X6.here hx rfl (hb hby at_64) k) ?_
    refine go (B := T6.setTop (mkF m 66 #[.val (.int p0), .val (.int p1), .val (.int p2), .val (.int p3), .val (.ref b1), .val (.int (1 : Int32)), .val (.int (0 : Int32))] [(.int ((p0.toUInt32 >>> ((1 : Int32) &&& 31).toUInt32).toInt32)), (.ref b1)])) (fun _ k => XS.iushr X6.here hx rfl (hb hby at_65) rfl k) ?_
    refine go (B := T6.setTop (mkF m 68 #[.val (.int p0), .val (.int p1), .val (.int p2), .val (.int p3), .val (.ref b1), .val (.int (1 : Int32)), .val (.int (0 : Int32))] [(.int (0 : Int32)), (.int ((p0.toUInt32 >>> ((1 : Int32) &&& 31).toUInt32).toInt32)), (.ref b1)])) (fun _ k => XS.iload X6.here hx rfl (hb hby at_66) rfl k) ?_
    refine go (B := T6.setTop (mkF m 69 #[.val (.int p0), .val (.int p1), .val (.int p2), .val (.int p3), .val (.ref b1), .val (.int (1 : Int32)), .val (.int (0 : Int32))] [(.int p2), (.int (0 : Int32)), (.int ((p0.toUInt32 >>> ((1 : Int32) &&& 31).toUInt32).toInt32)), (.ref b1)])) (fun _ k => XS.iloadN X6.here hx rfl (hb hby at_68) rfl k) ?_
    by_cases hc7 : (((p0.toUInt32 >>> ((1 : Int32) &&& 31).toUInt32).toInt32) &&& (1 : Int32)) = (0 : Int32)
    · obtain ⟨_, _, ⟨T8, L8, k8, n8⟩, -, X8, ⟨Lc8, hQ8, l8, y8, z8⟩, st8⟩ := Jvm.LawKit.callS X6 hx (y := (⟨"com/example/constrained_flow/constrainedflow/planner/search/LeastFirstIsEmptyPinLaw", "step", "(Lcom/example/constrained_flow/constrainedflow/planner/search/LeastFirst;III)I"⟩ : MethodName)) hown (mvT hZ (hw _ (List.mem_of_getElem? (i := 22) rfl))) (mvT hZ (hw _ (List.mem_of_getElem? (i := 23) rfl))) (mvT hZ (hw _ (List.mem_of_getElem? (i := 24) rfl))) (mvT hZ (hw _ (List.mem_of_getElem? (i := 25) rfl))) (by decide) (backOf (W := 0) (rm4n0t l Z aw hw [] b1 ((p0.toUInt32 >>> ((1 : Int32) &&& 31).toUInt32).toInt32) p2 b2_2 b4_2 k2_2 K0_5 K1_5 K2_5 k4_2 M0_5 M1_5 M2_5 T5.heap n0 Z5 o5_1 o5_2 o5_3 o5_0 o5_4 o5_5 ne_b1_b2_2 ne_b1_b4_2 o2_2 g_b1 g_b2_2 g_b4_2 o5_6 o5_7 o5_8 (show (((p0.toUInt32 >>> ((1 : Int32) &&& 31).toUInt32).toInt32) &&& (1 : Int32)) = (0 : Int32) from hc7)) hZ (hw _ (List.mem_of_getElem? (i := 25) rfl)) (hw _ (List.mem_of_getElem? (i := 24) rfl)) (by decide) (by decide)) (g := (mkF m 69 #[.val (.int p0), .val (.int p1), .val (.int p2), .val (.int p3), .val (.ref b1), .val (.int (1 : Int32)), .val (.int (0 : Int32))] [(.int p2), (.int (0 : Int32)), (.int ((p0.toUInt32 >>> ((1 : Int32) &&& 31).toUInt32).toInt32)), (.ref b1)])) rfl (by rw [hml]; rfl) (argsL := [(.ref b1), (.int ((p0.toUInt32 >>> ((1 : Int32) &&& 31).toUInt32).toInt32)), (.int (0 : Int32)), (.int p2)]) (rest := []) (lenOf pd_7 rfl) rfl (by show 2 * 0 + _ ≤ _; exact Nat.le_of_eq rfl) (hb hby at_69) (fun _ _ => ⟨rfl, e6, (by decide : 3 + 0 ≤ _), (by decide : 9 + 0 ≤ _)⟩)
      dsimp only [Pt.U, Pt.locs, Pt.cells, Pt.slots] at X8 l8 y8 z8 st8 hQ8
      subst l8 y8 z8
      obtain ⟨K0_8, K1_8, K2_8, M0_8, M1_8, M2_8, rfl, N8q, Kc8, o8_0, o8_1, o8_2, o8_3, o8_4, o8_5, o8_6, o8_7, o8_8⟩ := hQ8
      have E_b1_8 := o5_0.keep Kc8
      have N8 := Fr.app N6 N8q
      have Z8 := Nat.le_trans Z5 Kc8.1
      refine go (B := T8.setTop (mkF m 72 #[.val (.int p0), .val (.int p1), .val (.int p2), .val (.int p3), .val (.ref b1), .val (.int (1 : Int32)), .val (.int (0 : Int32))] [(.int (0 : Int32))])) (fun _ k => st8 _ k) ?_
      refine go (B := T8.setTop (mkF m 74 #[.val (.int p0), .val (.int p1), .val (.int p2), .val (.int p3), .val (.ref b1), .val (.int (1 : Int32)), .val (.int (0 : Int32))] [])) (fun _ k => XS.istore X8.here hx rfl (hb hby at_72) rfl (l' := #[.val (.int p0), .val (.int p1), .val (.int p2), .val (.int p3), .val (.ref b1), .val (.int (1 : Int32)), .val (.int (0 : Int32))]) rfl k) ?_
      refine go (B := T8.setTop (mkF m 76 #[.val (.int p0), .val (.int p1), .val (.int p2), .val (.int p3), .val (.ref b1), .val (.int (1 : Int32)), .val (.int (0 : Int32))] [(.int (1 : Int32))])) (fun _ k => XS.iload X8.here hx rfl (hb hby at_74) rfl k) ?_
      refine go (B := T8.setTop (mkF m 79 #[.val (.int p0), .val (.int p1), .val (.int p2), .val (.int p3), .val (.ref b1), .val (.int (1 : Int32)), .val (.int (0 : Int32))] [])) (fun _ k => XS.ifNo X8.here hx rfl (hb hby at_76) rfl ((if0 _ _).trans (feq (by decide : ¬ ((1 : Int32) = (0 : Int32)))).1) k) ?_
      refine go (B := T8.setTop (mkF m 81 #[.val (.int p0), .val (.int p1), .val (.int p2), .val (.int p3), .val (.ref b1), .val (.int (1 : Int32)), .val (.int (0 : Int32))] [(.ref b1)])) (fun _ k => XS.aload X8.here hx rfl (hb hby at_79) rfl rfl k) ?_
      obtain ⟨cq9, kq9, q9a, q9b, q9c⟩ := isOf hZ rfl o8_0
      obtain ⟨_, _, ⟨T9, L9, k9, n9⟩, -, X9, ⟨Lc9, hQ9, l9, y9, z9⟩, st9⟩ := X8.virtualBack hx (y := (⟨"com/example/constrained_flow/constrainedflow/planner/search/LeastFirst", "isEmpty", "()Z"⟩ : MethodName)) (z := (⟨"com/example/constrained_flow/constrainedflow/planner/search/LeastFirst", "isEmpty", "()Z"⟩ : MethodName)) hown (mvT hZ (hw _ (List.mem_of_getElem? (i := 15) rfl))) (mvT hZ (hw _ (List.mem_of_getElem? (i := 16) rfl))) (notFace_of_selects (args := #[]) (mvT hZ (hw _ (List.mem_of_getElem? (i := 18) rfl)))) (mvT hZ (hw _ (List.mem_of_getElem? (i := 18) rfl))) (mvT hZ (hw _ (List.mem_of_getElem? (i := 17) rfl))) (by decide) (backOf (W := 0) (rm3 l Z aw hw [] b1 (0 : Int32) T8.heap n0 Z8 o8_3) hZ (hw _ (List.mem_of_getElem? (i := 19) rfl)) (hw _ (List.mem_of_getElem? (i := 2) rfl)) (by decide) (by decide)) q9a q9c (g := (mkF m 81 #[.val (.int p0), .val (.int p1), .val (.int p2), .val (.int p3), .val (.ref b1), .val (.int (1 : Int32)), .val (.int (0 : Int32))] [(.ref b1)])) rfl (by rw [hml]; rfl) (Steps.refl _) (argsL := []) (rest := []) (lenOf pd_6 rfl) rfl (by show 2 * 0 + _ ≤ _; exact Nat.le_of_eq rfl) (hb hby at_81) (fun _ _ => ⟨rfl, rfl, (by decide : 3 + 0 ≤ _), (by decide : 9 + 0 ≤ _)⟩)
      dsimp only [Pt.U, Pt.locs, Pt.cells, Pt.slots] at X9 l9 y9 z9 st9 hQ9
      subst l9 y9 z9
      obtain ⟨rfl, rfl, e9⟩ := hQ9
      have N9 := Fr.app N8 (Fr.nil n0)
      refine go (B := T9.setTop (mkF m 84 #[.val (.int p0), .val (.int p1), .val (.int p2), .val (.int p3), .val (.ref b1), .val (.int (1 : Int32)), .val (.int (0 : Int32))] [(.int (1 : Int32))])) (fun _ k => st9.trans k) ?_
      refine go (B := T9.setTop (mkF m 86 #[.val (.int p0), .val (.int p1), .val (.int p2), .val (.int p3), .val (.ref b1), .val (.int (1 : Int32)), .val (.int (0 : Int32))] [(.int (0 : Int32)), (.int (1 : Int32))])) (fun _ k => XS.iload X9.here hx rfl (hb hby at_84) rfl k) ?_
      refine go (B := T9.setTop (mkF m 89 #[.val (.int p0), .val (.int p1), .val (.int p2), .val (.int p3), .val (.ref b1), .val (.int (1 : Int32)), .val (.int (0 : Int32))] [(.int (1 : Int32))])) (fun _ k => XS.ifNo X9.here hx rfl (hb hby at_86) rfl ((if0 _ _).trans (teq (by decide : (0 : Int32) = (0 : Int32))).2) k) ?_
      refine go (B := T9.setTop (mkF m 90 #[.val (.int p0), .val (.int p1), .val (.int p2), .val (.int p3), .val (.ref b1), .val (.int (1 : Int32)), .val (.int (0 : Int32))] [(.int (1 : Int32)), (.int (1 : Int32))])) (fun _ k => XS.iconst X9.here hx rfl (hb hby at_89) k) ?_
      refine go (B := T9.setTop (mkF m 94 #[.val (.int p0), .val (.int p1), .val (.int p2), .val (.int p3), .val (.ref b1), .val (.int (1 : Int32)), .val (.int (0 : Int32))] [(.int (1 : Int32)), (.int (1 : Int32))])) (fun _ k => XS.goto X9.here hx rfl (pc0 := 90) (pc' := 94) rfl (hb hby at_90) (by decide) (by decide) k) ?_
      refine go (B := T9.setTop (mkF m 97 #[.val (.int p0), .val (.int p1), .val (.int p2), .val (.int p3), .val (.ref b1), .val (.int (1 : Int32)), .val (.int (0 : Int32))] [])) (fun _ k => XS.icmpNo X9.here hx rfl (hb hby at_94) rfl (teq (by decide : (1 : Int32) = (1 : Int32))).2 k) ?_
      refine go (B := T9.setTop (mkF m 98 #[.val (.int p0), .val (.int p1), .val (.int p2), .val (.int p3), .val (.ref b1), .val (.int (1 : Int32)), .val (.int (0 : Int32))] [(.int (1 : Int32))])) (fun _ k => XS.iconst X9.here hx rfl (hb hby at_97) k) ?_
      refine go (B := T9.setTop (mkF m 102 #[.val (.int p0), .val (.int p1), .val (.int p2), .val (.int p3), .val (.ref b1), .val (.int (1 : Int32)), .val (.int (0 : Int32))] [(.int (1 : Int32))])) (fun _ k => XS.goto X9.here hx rfl (pc0 := 98) (pc' := 102) rfl (hb hby at_98) (by decide) (by decide) k) ?_
      refine go (B := T9.setTop (mkF m 104 #[.val (.int p0), .val (.int p1), .val (.int p2), .val (.int p3), .val (.ref b1), .val (.int (1 : Int32)), .val (.int (0 : Int32))] [])) (fun _ k => XS.istore X9.here hx rfl (hb hby at_102) rfl (l' := #[.val (.int p0), .val (.int p1), .val (.int p2), .val (.int p3), .val (.ref b1), .val (.int (1 : Int32)), .val (.int (0 : Int32))]) rfl k) ?_
      refine go (B := T9.setTop (mkF m 106 #[.val (.int p0), .val (.int p1), .val (.int p2), .val (.int p3), .val (.ref b1), .val (.int (1 : Int32)), .val (.int (0 : Int32))] [(.ref b1)])) (fun _ k => XS.aload X9.here hx rfl (hb hby at_104) rfl rfl k) ?_
      refine go (B := T9.setTop (mkF m 107 #[.val (.int p0), .val (.int p1), .val (.int p2), .val (.int p3), .val (.ref b1), .val (.int (1 : Int32)), .val (.int (0 : Int32))] [(.int p0), (.ref b1)])) (fun _ k => XS.iloadN X9.here hx rfl (hb hby at_106) rfl k) ?_
      refine go (B := T9.setTop (mkF m 108 #[.val (.int p0), .val (.int p1), .val (.int p2), .val (.int p3), .val (.ref b1), .val (.int (1 : Int32)), .val (.int (0 : Int32))] [(.int (2 : Int32)), (.int p0), (.ref b1)])) (fun _ k => XS.iconst X9.here hx rfl (hb hby at_107) k) ?_
      refine go (B := T9.setTop (mkF m 109 #[.val (.int p0), .val (.int p1), .val (.int p2), .val (.int p3), .val (.ref b1), .val (.int (1 : Int32)), .val (.int (0 : Int32))] [(.int ((p0.toUInt32 >>> ((2 : Int32) &&& 31).toUInt32).toInt32)), (.ref b1)])) (fun _ k => XS.iushr X9.here hx rfl (hb hby at_108) rfl k) ?_
      refine go (B := T9.setTop (mkF m 111 #[.val (.int p0), .val (.int p1), .val (.int p2), .val (.int p3), .val (.ref b1), .val (.int (1 : Int32)), .val (.int (0 : Int32))] [(.int (0 : Int32)), (.int ((p0.toUInt32 >>> ((2 : Int32) &&& 31).toUInt32).toInt32)), (.ref b1)])) (fun _ k => XS.iload X9.here hx rfl (hb hby at_109) rfl k) ?_
      refine go (B := T9.setTop (mkF m 112 #[.val (.int p0), .val (.int p1), .val (.int p2), .val (.int p3), .val (.ref b1), .val (.int (1 : Int32)), .val (.int (0 : Int32))] [(.int p3), (.int (0 : Int32)), (.int ((p0.toUInt32 >>> ((2 : Int32) &&& 31).toUInt32).toInt32)), (.ref b1)])) (fun _ k => XS.iloadN X9.here hx rfl (hb hby at_111) rfl k) ?_
      by_cases hc10 : (((p0.toUInt32 >>> ((2 : Int32) &&& 31).toUInt32).toInt32) &&& (1 : Int32)) = (0 : Int32)
      · obtain ⟨_, _, ⟨T11, L11, k11, n11⟩, -, X11, ⟨Lc11, hQ11, l11, y11, z11⟩, st11⟩ := Jvm.LawKit.callS X9 hx (y := (⟨"com/example/constrained_flow/constrainedflow/planner/search/LeastFirstIsEmptyPinLaw", "step", "(Lcom/example/constrained_flow/constrainedflow/planner/search/LeastFirst;III)I"⟩ : MethodName)) hown (mvT hZ (hw _ (List.mem_of_getElem? (i := 22) rfl))) (mvT hZ (hw _ (List.mem_of_getElem? (i := 23) rfl))) (mvT hZ (hw _ (List.mem_of_getElem? (i := 24) rfl))) (mvT hZ (hw _ (List.mem_of_getElem? (i := 25) rfl))) (by decide) (backOf (W := 0) (rm4n0t l Z aw hw [] b1 ((p0.toUInt32 >>> ((2 : Int32) &&& 31).toUInt32).toInt32) p3 b2_2 b4_2 k2_2 K0_8 K1_8 K2_8 k4_2 M0_8 M1_8 M2_8 T8.heap n0 Z8 o8_1 o8_2 o8_3 o8_0 o8_4 o8_5 ne_b1_b2_2 ne_b1_b4_2 o2_2 g_b1 g_b2_2 g_b4_2 o8_6 o8_7 o8_8 (show (((p0.toUInt32 >>> ((2 : Int32) &&& 31).toUInt32).toInt32) &&& (1 : Int32)) = (0 : Int32) from hc10)) hZ (hw _ (List.mem_of_getElem? (i := 25) rfl)) (hw _ (List.mem_of_getElem? (i := 24) rfl)) (by decide) (by decide)) (g := (mkF m 112 #[.val (.int p0), .val (.int p1), .val (.int p2), .val (.int p3), .val (.ref b1), .val (.int (1 : Int32)), .val (.int (0 : Int32))] [(.int p3), (.int (0 : Int32)), (.int ((p0.toUInt32 >>> ((2 : Int32) &&& 31).toUInt32).toInt32)), (.ref b1)])) rfl (by rw [hml]; rfl) (argsL := [(.ref b1), (.int ((p0.toUInt32 >>> ((2 : Int32) &&& 31).toUInt32).toInt32)), (.int (0 : Int32)), (.int p3)]) (rest := []) (lenOf pd_7 rfl) rfl (by show 2 * 0 + _ ≤ _; exact Nat.le_of_eq rfl) (hb hby at_112) (fun _ _ => ⟨rfl, e9, (by decide : 3 + 0 ≤ _), (by decide : 9 + 0 ≤ _)⟩)
        dsimp only [Pt.U, Pt.locs, Pt.cells, Pt.slots] at X11 l11 y11 z11 st11 hQ11
        subst l11 y11 z11
        obtain ⟨K0_11, K1_11, K2_11, M0_11, M1_11, M2_11, rfl, N11q, Kc11, o11_0, o11_1, o11_2, o11_3, o11_4, o11_5, o11_6, o11_7, o11_8⟩ := hQ11
        have E_b1_11 := o8_0.keep Kc11
        have N11 := Fr.app N9 N11q
        have Z11 := Nat.le_trans Z8 Kc11.1
        refine go (B := T11.setTop (mkF m 115 #[.val (.int p0), .val (.int p1), .val (.int p2), .val (.int p3), .val (.ref b1), .val (.int (1 : Int32)), .val (.int (0 : Int32))] [(.int (0 : Int32))])) (fun _ k => st11 _ k) ?_
        refine go (B := T11.setTop (mkF m 117 #[.val (.int p0), .val (.int p1), .val (.int p2), .val (.int p3), .val (.ref b1), .val (.int (1 : Int32)), .val (.int (0 : Int32))] [])) (fun _ k => XS.istore X11.here hx rfl (hb hby at_115) rfl (l' := #[.val (.int p0), .val (.int p1), .val (.int p2), .val (.int p3), .val (.ref b1), .val (.int (1 : Int32)), .val (.int (0 : Int32))]) rfl k) ?_
        refine go (B := T11.setTop (mkF m 119 #[.val (.int p0), .val (.int p1), .val (.int p2), .val (.int p3), .val (.ref b1), .val (.int (1 : Int32)), .val (.int (0 : Int32))] [(.int (1 : Int32))])) (fun _ k => XS.iload X11.here hx rfl (hb hby at_117) rfl k) ?_
        refine go (B := T11.setTop (mkF m 122 #[.val (.int p0), .val (.int p1), .val (.int p2), .val (.int p3), .val (.ref b1), .val (.int (1 : Int32)), .val (.int (0 : Int32))] [])) (fun _ k => XS.ifNo X11.here hx rfl (hb hby at_119) rfl ((if0 _ _).trans (feq (by decide : ¬ ((1 : Int32) = (0 : Int32)))).1) k) ?_
        refine go (B := T11.setTop (mkF m 124 #[.val (.int p0), .val (.int p1), .val (.int p2), .val (.int p3), .val (.ref b1), .val (.int (1 : Int32)), .val (.int (0 : Int32))] [(.ref b1)])) (fun _ k => XS.aload X11.here hx rfl (hb hby at_122) rfl rfl k) ?_
        obtain ⟨cq12, kq12, q12a, q12b, q12c⟩ := isOf hZ rfl o11_0
        obtain ⟨_, _, ⟨T12, L12, k12, n12⟩, -, X12, ⟨Lc12, hQ12, l12, y12, z12⟩, st12⟩ := X11.virtualBack hx (y := (⟨"com/example/constrained_flow/constrainedflow/planner/search/LeastFirst", "isEmpty", "()Z"⟩ : MethodName)) (z := (⟨"com/example/constrained_flow/constrainedflow/planner/search/LeastFirst", "isEmpty", "()Z"⟩ : MethodName)) hown (mvT hZ (hw _ (List.mem_of_getElem? (i := 15) rfl))) (mvT hZ (hw _ (List.mem_of_getElem? (i := 16) rfl))) (notFace_of_selects (args := #[]) (mvT hZ (hw _ (List.mem_of_getElem? (i := 18) rfl)))) (mvT hZ (hw _ (List.mem_of_getElem? (i := 18) rfl))) (mvT hZ (hw _ (List.mem_of_getElem? (i := 17) rfl))) (by decide) (backOf (W := 0) (rm3 l Z aw hw [] b1 (0 : Int32) T11.heap n0 Z11 o11_3) hZ (hw _ (List.mem_of_getElem? (i := 19) rfl)) (hw _ (List.mem_of_getElem? (i := 2) rfl)) (by decide) (by decide)) q12a q12c (g := (mkF m 124 #[.val (.int p0), .val (.int p1), .val (.int p2), .val (.int p3), .val (.ref b1), .val (.int (1 : Int32)), .val (.int (0 : Int32))] [(.ref b1)])) rfl (by rw [hml]; rfl) (Steps.refl _) (argsL := []) (rest := []) (lenOf pd_6 rfl) rfl (by show 2 * 0 + _ ≤ _; exact Nat.le_of_eq rfl) (hb hby at_124) (fun _ _ => ⟨rfl, rfl, (by decide : 3 + 0 ≤ _), (by decide : 9 + 0 ≤ _)⟩)
        dsimp only [Pt.U, Pt.locs, Pt.cells, Pt.slots] at X12 l12 y12 z12 st12 hQ12
        subst l12 y12 z12
        obtain ⟨rfl, rfl, e12⟩ := hQ12
        have N12 := Fr.app N11 (Fr.nil n0)
        refine go (B := T12.setTop (mkF m 127 #[.val (.int p0), .val (.int p1), .val (.int p2), .val (.int p3), .val (.ref b1), .val (.int (1 : Int32)), .val (.int (0 : Int32))] [(.int (1 : Int32))])) (fun _ k => st12.trans k) ?_
        refine go (B := T12.setTop (mkF m 129 #[.val (.int p0), .val (.int p1), .val (.int p2), .val (.int p3), .val (.ref b1), .val (.int (1 : Int32)), .val (.int (0 : Int32))] [(.int (0 : Int32)), (.int (1 : Int32))])) (fun _ k => XS.iload X12.here hx rfl (hb hby at_127) rfl k) ?_
        refine go (B := T12.setTop (mkF m 132 #[.val (.int p0), .val (.int p1), .val (.int p2), .val (.int p3), .val (.ref b1), .val (.int (1 : Int32)), .val (.int (0 : Int32))] [(.int (1 : Int32))])) (fun _ k => XS.ifNo X12.here hx rfl (hb hby at_129) rfl ((if0 _ _).trans (teq (by decide : (0 : Int32) = (0 : Int32))).2) k) ?_
        refine go (B := T12.setTop (mkF m 133 #[.val (.int p0), .val (.int p1), .val (.int p2), .val (.int p3), .val (.ref b1), .val (.int (1 : Int32)), .val (.int (0 : Int32))] [(.int (1 : Int32)), (.int (1 : Int32))])) (fun _ k => XS.iconst X12.here hx rfl (hb hby at_132) k) ?_
        refine go (B := T12.setTop (mkF m 137 #[.val (.int p0), .val (.int p1), .val (.int p2), .val (.int p3), .val (.ref b1), .val (.int (1 : Int32)), .val (.int (0 : Int32))] [(.int (1 : Int32)), (.int (1 : Int32))])) (fun _ k => XS.goto X12.here hx rfl (pc0 := 133) (pc' := 137) rfl (hb hby at_133) (by decide) (by decide) k) ?_
        refine go (B := T12.setTop (mkF m 140 #[.val (.int p0), .val (.int p1), .val (.int p2), .val (.int p3), .val (.ref b1), .val (.int (1 : Int32)), .val (.int (0 : Int32))] [])) (fun _ k => XS.icmpNo X12.here hx rfl (hb hby at_137) rfl (teq (by decide : (1 : Int32) = (1 : Int32))).2 k) ?_
        refine go (B := T12.setTop (mkF m 141 #[.val (.int p0), .val (.int p1), .val (.int p2), .val (.int p3), .val (.ref b1), .val (.int (1 : Int32)), .val (.int (0 : Int32))] [(.int (1 : Int32))])) (fun _ k => XS.iconst X12.here hx rfl (hb hby at_140) k) ?_
        refine go (B := T12.setTop (mkF m 145 #[.val (.int p0), .val (.int p1), .val (.int p2), .val (.int p3), .val (.ref b1), .val (.int (1 : Int32)), .val (.int (0 : Int32))] [(.int (1 : Int32))])) (fun _ k => XS.goto X12.here hx rfl (pc0 := 141) (pc' := 145) rfl (hb hby at_141) (by decide) (by decide) k) ?_
        refine go (B := T12.setTop (mkF m 147 #[.val (.int p0), .val (.int p1), .val (.int p2), .val (.int p3), .val (.ref b1), .val (.int (1 : Int32)), .val (.int (0 : Int32))] [])) (fun _ k => XS.istore X12.here hx rfl (hb hby at_145) rfl (l' := #[.val (.int p0), .val (.int p1), .val (.int p2), .val (.int p3), .val (.ref b1), .val (.int (1 : Int32)), .val (.int (0 : Int32))]) rfl k) ?_
        refine go (B := T12.setTop (mkF m 149 #[.val (.int p0), .val (.int p1), .val (.int p2), .val (.int p3), .val (.ref b1), .val (.int (1 : Int32)), .val (.int (0 : Int32))] [(.ref b1)])) (fun _ k => XS.aload X12.here hx rfl (hb hby at_147) rfl rfl k) ?_
        refine go (B := T12.setTop (mkF m 150 #[.val (.int p0), .val (.int p1), .val (.int p2), .val (.int p3), .val (.ref b1), .val (.int (1 : Int32)), .val (.int (0 : Int32))] [(.int p0), (.ref b1)])) (fun _ k => XS.iloadN X12.here hx rfl (hb hby at_149) rfl k) ?_
        refine go (B := T12.setTop (mkF m 151 #[.val (.int p0), .val (.int p1), .val (.int p2), .val (.int p3), .val (.ref b1), .val (.int (1 : Int32)), .val (.int (0 : Int32))] [(.int (3 : Int32)), (.int p0), (.ref b1)])) (fun _ k => XS.iconst X12.here hx rfl (hb hby at_150) k) ?_
        refine go (B := T12.setTop (mkF m 152 #[.val (.int p0), .val (.int p1), .val (.int p2), .val (.int p3), .val (.ref b1), .val (.int (1 : Int32)), .val (.int (0 : Int32))] [(.int ((p0.toUInt32 >>> ((3 : Int32) &&& 31).toUInt32).toInt32)), (.ref b1)])) (fun _ k => XS.iushr X12.here hx rfl (hb hby at_151) rfl k) ?_
        refine go (B := T12.setTop (mkF m 154 #[.val (.int p0), .val (.int p1), .val (.int p2), .val (.int p3), .val (.ref b1), .val (.int (1 : Int32)), .val (.int (0 : Int32))] [(.int (0 : Int32)), (.int ((p0.toUInt32 >>> ((3 : Int32) &&& 31).toUInt32).toInt32)), (.ref b1)])) (fun _ k => XS.iload X12.here hx rfl (hb hby at_152) rfl k) ?_
        refine go (B := T12.setTop (mkF m 155 #[.val (.int p0), .val (.int p1), .val (.int p2), .val (.int p3), .val (.ref b1), .val (.int (1 : Int32)), .val (.int (0 : Int32))] [(.int p1), (.int (0 : Int32)), (.int ((p0.toUInt32 >>> ((3 : Int32) &&& 31).toUInt32).toInt32)), (.ref b1)])) (fun _ k => XS.iloadN X12.here hx rfl (hb hby at_154) rfl k) ?_
        refine go (B := T12.setTop (mkF m 156 #[.val (.int p0), .val (.int p1), .val (.int p2), .val (.int p3), .val (.ref b1), .val (.int (1 : Int32)), .val (.int (0 : Int32))] [(.int p2), (.int p1), (.int (0 : Int32)), (.int ((p0.toUInt32 >>> ((3 : Int32) &&& 31).toUInt32).toInt32)), (.ref b1)])) (fun _ k => XS.iloadN X12.here hx rfl (hb hby at_155) rfl k) ?_
        refine go (B := T12.setTop (mkF m 157 #[.val (.int p0), .val (.int p1), .val (.int p2), .val (.int p3), .val (.ref b1), .val (.int (1 : Int32)), .val (.int (0 : Int32))] [(.int (p1 ^^^ p2)), (.int (0 : Int32)), (.int ((p0.toUInt32 >>> ((3 : Int32) &&& 31).toUInt32).toInt32)), (.ref b1)])) (fun _ k => XS.ixor X12.here hx rfl (hb hby at_156) rfl k) ?_
        by_cases hc13 : (((p0.toUInt32 >>> ((3 : Int32) &&& 31).toUInt32).toInt32) &&& (1 : Int32)) = (0 : Int32)
        · obtain ⟨_, _, ⟨T14, L14, k14, n14⟩, -, X14, ⟨Lc14, hQ14, l14, y14, z14⟩, st14⟩ := Jvm.LawKit.callS X12 hx (y := (⟨"com/example/constrained_flow/constrainedflow/planner/search/LeastFirstIsEmptyPinLaw", "step", "(Lcom/example/constrained_flow/constrainedflow/planner/search/LeastFirst;III)I"⟩ : MethodName)) hown (mvT hZ (hw _ (List.mem_of_getElem? (i := 22) rfl))) (mvT hZ (hw _ (List.mem_of_getElem? (i := 23) rfl))) (mvT hZ (hw _ (List.mem_of_getElem? (i := 24) rfl))) (mvT hZ (hw _ (List.mem_of_getElem? (i := 25) rfl))) (by decide) (backOf (W := 0) (rm4n0t l Z aw hw [] b1 ((p0.toUInt32 >>> ((3 : Int32) &&& 31).toUInt32).toInt32) (p1 ^^^ p2) b2_2 b4_2 k2_2 K0_11 K1_11 K2_11 k4_2 M0_11 M1_11 M2_11 T11.heap n0 Z11 o11_1 o11_2 o11_3 o11_0 o11_4 o11_5 ne_b1_b2_2 ne_b1_b4_2 o2_2 g_b1 g_b2_2 g_b4_2 o11_6 o11_7 o11_8 (show (((p0.toUInt32 >>> ((3 : Int32) &&& 31).toUInt32).toInt32) &&& (1 : Int32)) = (0 : Int32) from hc13)) hZ (hw _ (List.mem_of_getElem? (i := 25) rfl)) (hw _ (List.mem_of_getElem? (i := 24) rfl)) (by decide) (by decide)) (g := (mkF m 157 #[.val (.int p0), .val (.int p1), .val (.int p2), .val (.int p3), .val (.ref b1), .val (.int (1 : Int32)), .val (.int (0 : Int32))] [(.int (p1 ^^^ p2)), (.int (0 : Int32)), (.int ((p0.toUInt32 >>> ((3 : Int32) &&& 31).toUInt32).toInt32)), (.ref b1)])) rfl (by rw [hml]; rfl) (argsL := [(.ref b1), (.int ((p0.toUInt32 >>> ((3 : Int32) &&& 31).toUInt32).toInt32)), (.int (0 : Int32)), (.int (p1 ^^^ p2))]) (rest := []) (lenOf pd_7 rfl) rfl (by show 2 * 0 + _ ≤ _; exact Nat.le_of_eq rfl) (hb hby at_157) (fun _ _ => ⟨rfl, e12, (by decide : 3 + 0 ≤ _), (by decide : 9 + 0 ≤ _)⟩)
          dsimp only [Pt.U, Pt.locs, Pt.cells, Pt.slots] at X14 l14 y14 z14 st14 hQ14
          subst l14 y14 z14
          obtain ⟨K0_14, K1_14, K2_14, M0_14, M1_14, M2_14, rfl, N14q, Kc14, o14_0, o14_1, o14_2, o14_3, o14_4, o14_5, o14_6, o14_7, o14_8⟩ := hQ14
          have E_b1_14 := o11_0.keep Kc14
          have N14 := Fr.app N12 N14q
          have Z14 := Nat.le_trans Z11 Kc14.1
          refine go (B := T14.setTop (mkF m 160 #[.val (.int p0), .val (.int p1), .val (.int p2), .val (.int p3), .val (.ref b1), .val (.int (1 : Int32)), .val (.int (0 : Int32))] [(.int (0 : Int32))])) (fun _ k => st14 _ k) ?_
          refine go (B := T14.setTop (mkF m 162 #[.val (.int p0), .val (.int p1), .val (.int p2), .val (.int p3), .val (.ref b1), .val (.int (1 : Int32)), .val (.int (0 : Int32))] [])) (fun _ k => XS.istore X14.here hx rfl (hb hby at_160) rfl (l' := #[.val (.int p0), .val (.int p1), .val (.int p2), .val (.int p3), .val (.ref b1), .val (.int (1 : Int32)), .val (.int (0 : Int32))]) rfl k) ?_
          refine go (B := T14.setTop (mkF m 164 #[.val (.int p0), .val (.int p1), .val (.int p2), .val (.int p3), .val (.ref b1), .val (.int (1 : Int32)), .val (.int (0 : Int32))] [(.int (1 : Int32))])) (fun _ k => XS.iload X14.here hx rfl (hb hby at_162) rfl k) ?_
          refine go (B := T14.setTop (mkF m 167 #[.val (.int p0), .val (.int p1), .val (.int p2), .val (.int p3), .val (.ref b1), .val (.int (1 : Int32)), .val (.int (0 : Int32))] [])) (fun _ k => XS.ifNo X14.here hx rfl (hb hby at_164) rfl ((if0 _ _).trans (feq (by decide : ¬ ((1 : Int32) = (0 : Int32)))).1) k) ?_
          refine go (B := T14.setTop (mkF m 169 #[.val (.int p0), .val (.int p1), .val (.int p2), .val (.int p3), .val (.ref b1), .val (.int (1 : Int32)), .val (.int (0 : Int32))] [(.ref b1)])) (fun _ k => XS.aload X14.here hx rfl (hb hby at_167) rfl rfl k) ?_
          obtain ⟨cq15, kq15, q15a, q15b, q15c⟩ := isOf hZ rfl o14_0
          obtain ⟨_, _, ⟨T15, L15, k15, n15⟩, -, X15, ⟨Lc15, hQ15, l15, y15, z15⟩, st15⟩ := X14.virtualBack hx (y := (⟨"com/example/constrained_flow/constrainedflow/planner/search/LeastFirst", "isEmpty", "()Z"⟩ : MethodName)) (z := (⟨"com/example/constrained_flow/constrainedflow/planner/search/LeastFirst", "isEmpty", "()Z"⟩ : MethodName)) hown (mvT hZ (hw _ (List.mem_of_getElem? (i := 15) rfl))) (mvT hZ (hw _ (List.mem_of_getElem? (i := 16) rfl))) (notFace_of_selects (args := #[]) (mvT hZ (hw _ (List.mem_of_getElem? (i := 18) rfl)))) (mvT hZ (hw _ (List.mem_of_getElem? (i := 18) rfl))) (mvT hZ (hw _ (List.mem_of_getElem? (i := 17) rfl))) (by decide) (backOf (W := 0) (rm3 l Z aw hw [] b1 (0 : Int32) T14.heap n0 Z14 o14_3) hZ (hw _ (List.mem_of_getElem? (i := 19) rfl)) (hw _ (List.mem_of_getElem? (i := 2) rfl)) (by decide) (by decide)) q15a q15c (g := (mkF m 169 #[.val (.int p0), .val (.int p1), .val (.int p2), .val (.int p3), .val (.ref b1), .val (.int (1 : Int32)), .val (.int (0 : Int32))] [(.ref b1)])) rfl (by rw [hml]; rfl) (Steps.refl _) (argsL := []) (rest := []) (lenOf pd_6 rfl) rfl (by show 2 * 0 + _ ≤ _; exact Nat.le_of_eq rfl) (hb hby at_169) (fun _ _ => ⟨rfl, rfl, (by decide : 3 + 0 ≤ _), (by decide : 9 + 0 ≤ _)⟩)
          dsimp only [Pt.U, Pt.locs, Pt.cells, Pt.slots] at X15 l15 y15 z15 st15 hQ15
          subst l15 y15 z15
          obtain ⟨rfl, rfl, e15⟩ := hQ15
          have N15 := Fr.app N14 (Fr.nil n0)
          refine go (B := T15.setTop (mkF m 172 #[.val (.int p0), .val (.int p1), .val (.int p2), .val (.int p3), .val (.ref b1), .val (.int (1 : Int32)), .val (.int (0 : Int32))] [(.int (1 : Int32))])) (fun _ k => st15.trans k) ?_
          refine go (B := T15.setTop (mkF m 174 #[.val (.int p0), .val (.int p1), .val (.int p2), .val (.int p3), .val (.ref b1), .val (.int (1 : Int32)), .val (.int (0 : Int32))] [(.int (0 : Int32)), (.int (1 : Int32))])) (fun _ k => XS.iload X15.here hx rfl (hb hby at_172) rfl k) ?_
          refine go (B := T15.setTop (mkF m 177 #[.val (.int p0), .val (.int p1), .val (.int p2), .val (.int p3), .val (.ref b1), .val (.int (1 : Int32)), .val (.int (0 : Int32))] [(.int (1 : Int32))])) (fun _ k => XS.ifNo X15.here hx rfl (hb hby at_174) rfl ((if0 _ _).trans (teq (by decide : (0 : Int32) = (0 : Int32))).2) k) ?_
          refine go (B := T15.setTop (mkF m 178 #[.val (.int p0), .val (.int p1), .val (.int p2), .val (.int p3), .val (.ref b1), .val (.int (1 : Int32)), .val (.int (0 : Int32))] [(.int (1 : Int32)), (.int (1 : Int32))])) (fun _ k => XS.iconst X15.here hx rfl (hb hby at_177) k) ?_
          refine go (B := T15.setTop (mkF m 182 #[.val (.int p0), .val (.int p1), .val (.int p2), .val (.int p3), .val (.ref b1), .val (.int (1 : Int32)), .val (.int (0 : Int32))] [(.int (1 : Int32)), (.int (1 : Int32))])) (fun _ k => XS.goto X15.here hx rfl (pc0 := 178) (pc' := 182) rfl (hb hby at_178) (by decide) (by decide) k) ?_
          refine go (B := T15.setTop (mkF m 185 #[.val (.int p0), .val (.int p1), .val (.int p2), .val (.int p3), .val (.ref b1), .val (.int (1 : Int32)), .val (.int (0 : Int32))] [])) (fun _ k => XS.icmpNo X15.here hx rfl (hb hby at_182) rfl (teq (by decide : (1 : Int32) = (1 : Int32))).2 k) ?_
          refine go (B := T15.setTop (mkF m 186 #[.val (.int p0), .val (.int p1), .val (.int p2), .val (.int p3), .val (.ref b1), .val (.int (1 : Int32)), .val (.int (0 : Int32))] [(.int (1 : Int32))])) (fun _ k => XS.iconst X15.here hx rfl (hb hby at_185) k) ?_
          refine go (B := T15.setTop (mkF m 190 #[.val (.int p0), .val (.int p1), .val (.int p2), .val (.int p3), .val (.ref b1), .val (.int (1 : Int32)), .val (.int (0 : Int32))] [(.int (1 : Int32))])) (fun _ k => XS.goto X15.here hx rfl (pc0 := 186) (pc' := 190) rfl (hb hby at_186) (by decide) (by decide) k) ?_
          refine go (B := T15.setTop (mkF m 192 #[.val (.int p0), .val (.int p1), .val (.int p2), .val (.int p3), .val (.ref b1), .val (.int (1 : Int32)), .val (.int (0 : Int32))] [])) (fun _ k => XS.istore X15.here hx rfl (hb hby at_190) rfl (l' := #[.val (.int p0), .val (.int p1), .val (.int p2), .val (.int p3), .val (.ref b1), .val (.int (1 : Int32)), .val (.int (0 : Int32))]) rfl k) ?_
          refine go (B := T15.setTop (mkF m 194 #[.val (.int p0), .val (.int p1), .val (.int p2), .val (.int p3), .val (.ref b1), .val (.int (1 : Int32)), .val (.int (0 : Int32))] [(.int (1 : Int32))])) (fun _ k => XS.iload X15.here hx rfl (hb hby at_192) rfl k) ?_
          have r16 : (f0 p0) = (1 : Int32) := by unfold f0; rw [if_pos hc4, if_pos hc7, if_pos hc10, if_pos hc13]
          exact end_nar X15 hx Bd.notSynchronized (t := .boolean) Bd.returns (by simp) (hb hby at_194) hF e15 (by decide) (by decide) ⟨(congrArg (fun z => some (Value.int z)) (r16.symm.trans (own_law p0))), N15⟩
        · obtain ⟨_, _, ⟨T17, L17, k17, n17⟩, -, X17, ⟨Lc17, hQ17, l17, y17, z17⟩, st17⟩ := Jvm.LawKit.callS X12 hx (y := (⟨"com/example/constrained_flow/constrainedflow/planner/search/LeastFirstIsEmptyPinLaw", "step", "(Lcom/example/constrained_flow/constrainedflow/planner/search/LeastFirst;III)I"⟩ : MethodName)) hown (mvT hZ (hw _ (List.mem_of_getElem? (i := 22) rfl))) (mvT hZ (hw _ (List.mem_of_getElem? (i := 23) rfl))) (mvT hZ (hw _ (List.mem_of_getElem? (i := 24) rfl))) (mvT hZ (hw _ (List.mem_of_getElem? (i := 25) rfl))) (by decide) (backOf (W := 0) (rm4n0a l Z aw hw [] b1 ((p0.toUInt32 >>> ((3 : Int32) &&& 31).toUInt32).toInt32) (p1 ^^^ p2) b2_2 b4_2 k2_2 K0_11 K1_11 K2_11 k4_2 M0_11 M1_11 M2_11 T11.heap n0 Z11 o11_1 o11_2 o11_3 o11_0 o11_4 o11_5 ne_b1_b2_2 ne_b1_b4_2 o2_2 g_b1 g_b2_2 g_b4_2 o11_6 o11_7 o11_8 (show ¬ ((((p0.toUInt32 >>> ((3 : Int32) &&& 31).toUInt32).toInt32) &&& (1 : Int32)) = (0 : Int32)) from hc13)) hZ (hw _ (List.mem_of_getElem? (i := 25) rfl)) (hw _ (List.mem_of_getElem? (i := 24) rfl)) (by decide) (by decide)) (g := (mkF m 157 #[.val (.int p0), .val (.int p1), .val (.int p2), .val (.int p3), .val (.ref b1), .val (.int (1 : Int32)), .val (.int (0 : Int32))] [(.int (p1 ^^^ p2)), (.int (0 : Int32)), (.int ((p0.toUInt32 >>> ((3 : Int32) &&& 31).toUInt32).toInt32)), (.ref b1)])) rfl (by rw [hml]; rfl) (argsL := [(.ref b1), (.int ((p0.toUInt32 >>> ((3 : Int32) &&& 31).toUInt32).toInt32)), (.int (0 : Int32)), (.int (p1 ^^^ p2))]) (rest := []) (lenOf pd_7 rfl) rfl (by show 2 * 0 + _ ≤ _; exact Nat.le_of_eq rfl) (hb hby at_157) (fun _ _ => ⟨rfl, e12, (by decide : 3 + 0 ≤ _), (by decide : 9 + 0 ≤ _)⟩)
          dsimp only [Pt.U, Pt.locs, Pt.cells, Pt.slots] at X17 l17 y17 z17 st17 hQ17
          subst l17 y17 z17
          obtain ⟨K0_17, K1_17, K2_17, M0_17, M1_17, M2_17, rfl, N17q, Kc17, o17_0, o17_1, o17_2, o17_3, o17_4, o17_5, o17_6, o17_7, o17_8⟩ := hQ17
          have E_b1_17 := o11_0.keep Kc17
          have N17 := Fr.app N12 N17q
          have Z17 := Nat.le_trans Z11 Kc17.1
          refine go (B := T17.setTop (mkF m 160 #[.val (.int p0), .val (.int p1), .val (.int p2), .val (.int p3), .val (.ref b1), .val (.int (1 : Int32)), .val (.int (0 : Int32))] [(.int (1 : Int32))])) (fun _ k => st17 _ k) ?_
          refine go (B := T17.setTop (mkF m 162 #[.val (.int p0), .val (.int p1), .val (.int p2), .val (.int p3), .val (.ref b1), .val (.int (1 : Int32)), .val (.int (1 : Int32))] [])) (fun _ k => XS.istore X17.here hx rfl (hb hby at_160) rfl (l' := #[.val (.int p0), .val (.int p1), .val (.int p2), .val (.int p3), .val (.ref b1), .val (.int (1 : Int32)), .val (.int (1 : Int32))]) rfl k) ?_
          refine go (B := T17.setTop (mkF m 164 #[.val (.int p0), .val (.int p1), .val (.int p2), .val (.int p3), .val (.ref b1), .val (.int (1 : Int32)), .val (.int (1 : Int32))] [(.int (1 : Int32))])) (fun _ k => XS.iload X17.here hx rfl (hb hby at_162) rfl k) ?_
          refine go (B := T17.setTop (mkF m 167 #[.val (.int p0), .val (.int p1), .val (.int p2), .val (.int p3), .val (.ref b1), .val (.int (1 : Int32)), .val (.int (1 : Int32))] [])) (fun _ k => XS.ifNo X17.here hx rfl (hb hby at_164) rfl ((if0 _ _).trans (feq (by decide : ¬ ((1 : Int32) = (0 : Int32)))).1) k) ?_
          refine go (B := T17.setTop (mkF m 169 #[.val (.int p0), .val (.int p1), .val (.int p2), .val (.int p3), .val (.ref b1), .val (.int (1 : Int32)), .val (.int (1 : Int32))] [(.ref b1)])) (fun _ k => XS.aload X17.here hx rfl (hb hby at_167) rfl rfl k) ?_
          obtain ⟨cq18, kq18, q18a, q18b, q18c⟩ := isOf hZ rfl o17_0
          obtain ⟨_, _, ⟨T18, L18, k18, n18⟩, -, X18, ⟨Lc18, hQ18, l18, y18, z18⟩, st18⟩ := X17.virtualBack hx (y := (⟨"com/example/constrained_flow/constrainedflow/planner/search/LeastFirst", "isEmpty", "()Z"⟩ : MethodName)) (z := (⟨"com/example/constrained_flow/constrainedflow/planner/search/LeastFirst", "isEmpty", "()Z"⟩ : MethodName)) hown (mvT hZ (hw _ (List.mem_of_getElem? (i := 15) rfl))) (mvT hZ (hw _ (List.mem_of_getElem? (i := 16) rfl))) (notFace_of_selects (args := #[]) (mvT hZ (hw _ (List.mem_of_getElem? (i := 18) rfl)))) (mvT hZ (hw _ (List.mem_of_getElem? (i := 18) rfl))) (mvT hZ (hw _ (List.mem_of_getElem? (i := 17) rfl))) (by decide) (backOf (W := 0) (rm3 l Z aw hw [] b1 (1 : Int32) T17.heap n0 Z17 o17_3) hZ (hw _ (List.mem_of_getElem? (i := 19) rfl)) (hw _ (List.mem_of_getElem? (i := 2) rfl)) (by decide) (by decide)) q18a q18c (g := (mkF m 169 #[.val (.int p0), .val (.int p1), .val (.int p2), .val (.int p3), .val (.ref b1), .val (.int (1 : Int32)), .val (.int (1 : Int32))] [(.ref b1)])) rfl (by rw [hml]; rfl) (Steps.refl _) (argsL := []) (rest := []) (lenOf pd_6 rfl) rfl (by show 2 * 0 + _ ≤ _; exact Nat.le_of_eq rfl) (hb hby at_169) (fun _ _ => ⟨rfl, rfl, (by decide : 3 + 0 ≤ _), (by decide : 9 + 0 ≤ _)⟩)
          dsimp only [Pt.U, Pt.locs, Pt.cells, Pt.slots] at X18 l18 y18 z18 st18 hQ18
          subst l18 y18 z18
          obtain ⟨rfl, rfl, e18⟩ := hQ18
          have N18 := Fr.app N17 (Fr.nil n0)
          refine go (B := T18.setTop (mkF m 172 #[.val (.int p0), .val (.int p1), .val (.int p2), .val (.int p3), .val (.ref b1), .val (.int (1 : Int32)), .val (.int (1 : Int32))] [(.int (0 : Int32))])) (fun _ k => st18.trans k) ?_
          refine go (B := T18.setTop (mkF m 174 #[.val (.int p0), .val (.int p1), .val (.int p2), .val (.int p3), .val (.ref b1), .val (.int (1 : Int32)), .val (.int (1 : Int32))] [(.int (1 : Int32)), (.int (0 : Int32))])) (fun _ k => XS.iload X18.here hx rfl (hb hby at_172) rfl k) ?_
          refine go (B := T18.setTop (mkF m 181 #[.val (.int p0), .val (.int p1), .val (.int p2), .val (.int p3), .val (.ref b1), .val (.int (1 : Int32)), .val (.int (1 : Int32))] [(.int (0 : Int32))])) (fun _ k => XS.ifYes X18.here hx rfl (pc0 := 174) (pc' := 181) rfl (hb hby at_174) rfl ((if0 _ _).trans (feq (by decide : ¬ ((1 : Int32) = (0 : Int32)))).2) (by decide) (by decide) k) ?_
          refine go (B := T18.setTop (mkF m 182 #[.val (.int p0), .val (.int p1), .val (.int p2), .val (.int p3), .val (.ref b1), .val (.int (1 : Int32)), .val (.int (1 : Int32))] [(.int (0 : Int32)), (.int (0 : Int32))])) (fun _ k => XS.iconst X18.here hx rfl (hb hby at_181) k) ?_
          refine go (B := T18.setTop (mkF m 185 #[.val (.int p0), .val (.int p1), .val (.int p2), .val (.int p3), .val (.ref b1), .val (.int (1 : Int32)), .val (.int (1 : Int32))] [])) (fun _ k => XS.icmpNo X18.here hx rfl (hb hby at_182) rfl (teq (by decide : (0 : Int32) = (0 : Int32))).2 k) ?_
          refine go (B := T18.setTop (mkF m 186 #[.val (.int p0), .val (.int p1), .val (.int p2), .val (.int p3), .val (.ref b1), .val (.int (1 : Int32)), .val (.int (1 : Int32))] [(.int (1 : Int32))])) (fun _ k => XS.iconst X18.here hx rfl (hb hby at_185) k) ?_
          refine go (B := T18.setTop (mkF m 190 #[.val (.int p0), .val (.int p1), .val (.int p2), .val (.int p3), .val (.ref b1), .val (.int (1 : Int32)), .val (.int (1 : Int32))] [(.int (1 : Int32))])) (fun _ k => XS.goto X18.here hx rfl (pc0 := 186) (pc' := 190) rfl (hb hby at_186) (by decide) (by decide) k) ?_
          refine go (B := T18.setTop (mkF m 192 #[.val (.int p0), .val (.int p1), .val (.int p2), .val (.int p3), .val (.ref b1), .val (.int (1 : Int32)), .val (.int (1 : Int32))] [])) (fun _ k => XS.istore X18.here hx rfl (hb hby at_190) rfl (l' := #[.val (.int p0), .val (.int p1), .val (.int p2), .val (.int p3), .val (.ref b1), .val (.int (1 : Int32)), .val (.int (1 : Int32))]) rfl k) ?_
          refine go (B := T18.setTop (mkF m 194 #[.val (.int p0), .val (.int p1), .val (.int p2), .val (.int p3), .val (.ref b1), .val (.int (1 : Int32)), .val (.int (1 : Int32))] [(.int (1 : Int32))])) (fun _ k => XS.iload X18.here hx rfl (hb hby at_192) rfl k) ?_
          have r19 : (f0 p0) = (1 : Int32) := by unfold f0; rw [if_pos hc4, if_pos hc7, if_pos hc10, if_neg hc13]
          exact end_nar X18 hx Bd.notSynchronized (t := .boolean) Bd.returns (by simp) (hb hby at_194) hF e18 (by decide) (by decide) ⟨(congrArg (fun z => some (Value.int z)) (r19.symm.trans (own_law p0))), N18⟩
      · obtain ⟨_, _, ⟨T20, L20, k20, n20⟩, -, X20, ⟨Lc20, hQ20, l20, y20, z20⟩, st20⟩ := Jvm.LawKit.callS X9 hx (y := (⟨"com/example/constrained_flow/constrainedflow/planner/search/LeastFirstIsEmptyPinLaw", "step", "(Lcom/example/constrained_flow/constrainedflow/planner/search/LeastFirst;III)I"⟩ : MethodName)) hown (mvT hZ (hw _ (List.mem_of_getElem? (i := 22) rfl))) (mvT hZ (hw _ (List.mem_of_getElem? (i := 23) rfl))) (mvT hZ (hw _ (List.mem_of_getElem? (i := 24) rfl))) (mvT hZ (hw _ (List.mem_of_getElem? (i := 25) rfl))) (by decide) (backOf (W := 0) (rm4n0a l Z aw hw [] b1 ((p0.toUInt32 >>> ((2 : Int32) &&& 31).toUInt32).toInt32) p3 b2_2 b4_2 k2_2 K0_8 K1_8 K2_8 k4_2 M0_8 M1_8 M2_8 T8.heap n0 Z8 o8_1 o8_2 o8_3 o8_0 o8_4 o8_5 ne_b1_b2_2 ne_b1_b4_2 o2_2 g_b1 g_b2_2 g_b4_2 o8_6 o8_7 o8_8 (show ¬ ((((p0.toUInt32 >>> ((2 : Int32) &&& 31).toUInt32).toInt32) &&& (1 : Int32)) = (0 : Int32)) from hc10)) hZ (hw _ (List.mem_of_getElem? (i := 25) rfl)) (hw _ (List.mem_of_getElem? (i := 24) rfl)) (by decide) (by decide)) (g := (mkF m 112 #[.val (.int p0), .val (.int p1), .val (.int p2), .val (.int p3), .val (.ref b1), .val (.int (1 : Int32)), .val (.int (0 : Int32))] [(.int p3), (.int (0 : Int32)), (.int ((p0.toUInt32 >>> ((2 : Int32) &&& 31).toUInt32).toInt32)), (.ref b1)])) rfl (by rw [hml]; rfl) (argsL := [(.ref b1), (.int ((p0.toUInt32 >>> ((2 : Int32) &&& 31).toUInt32).toInt32)), (.int (0 : Int32)), (.int p3)]) (rest := []) (lenOf pd_7 rfl) rfl (by show 2 * 0 + _ ≤ _; exact Nat.le_of_eq rfl) (hb hby at_112) (fun _ _ => ⟨rfl, e9, (by decide : 3 + 0 ≤ _), (by decide : 9 + 0 ≤ _)⟩)
        dsimp only [Pt.U, Pt.locs, Pt.cells, Pt.slots] at X20 l20 y20 z20 st20 hQ20
        subst l20 y20 z20
        obtain ⟨K0_20, K1_20, K2_20, M0_20, M1_20, M2_20, rfl, N20q, Kc20, o20_0, o20_1, o20_2, o20_3, o20_4, o20_5, o20_6, o20_7, o20_8⟩ := hQ20
        have E_b1_20 := o8_0.keep Kc20
        have N20 := Fr.app N9 N20q
        have Z20 := Nat.le_trans Z8 Kc20.1
        refine go (B := T20.setTop (mkF m 115 #[.val (.int p0), .val (.int p1), .val (.int p2), .val (.int p3), .val (.ref b1), .val (.int (1 : Int32)), .val (.int (0 : Int32))] [(.int (1 : Int32))])) (fun _ k => st20 _ k) ?_
        refine go (B := T20.setTop (mkF m 117 #[.val (.int p0), .val (.int p1), .val (.int p2), .val (.int p3), .val (.ref b1), .val (.int (1 : Int32)), .val (.int (1 : Int32))] [])) (fun _ k => XS.istore X20.here hx rfl (hb hby at_115) rfl (l' := #[.val (.int p0), .val (.int p1), .val (.int p2), .val (.int p3), .val (.ref b1), .val (.int (1 : Int32)), .val (.int (1 : Int32))]) rfl k) ?_
        refine go (B := T20.setTop (mkF m 119 #[.val (.int p0), .val (.int p1), .val (.int p2), .val (.int p3), .val (.ref b1), .val (.int (1 : Int32)), .val (.int (1 : Int32))] [(.int (1 : Int32))])) (fun _ k => XS.iload X20.here hx rfl (hb hby at_117) rfl k) ?_
        refine go (B := T20.setTop (mkF m 122 #[.val (.int p0), .val (.int p1), .val (.int p2), .val (.int p3), .val (.ref b1), .val (.int (1 : Int32)), .val (.int (1 : Int32))] [])) (fun _ k => XS.ifNo X20.here hx rfl (hb hby at_119) rfl ((if0 _ _).trans (feq (by decide : ¬ ((1 : Int32) = (0 : Int32)))).1) k) ?_
        refine go (B := T20.setTop (mkF m 124 #[.val (.int p0), .val (.int p1), .val (.int p2), .val (.int p3), .val (.ref b1), .val (.int (1 : Int32)), .val (.int (1 : Int32))] [(.ref b1)])) (fun _ k => XS.aload X20.here hx rfl (hb hby at_122) rfl rfl k) ?_
        obtain ⟨cq21, kq21, q21a, q21b, q21c⟩ := isOf hZ rfl o20_0
        obtain ⟨_, _, ⟨T21, L21, k21, n21⟩, -, X21, ⟨Lc21, hQ21, l21, y21, z21⟩, st21⟩ := X20.virtualBack hx (y := (⟨"com/example/constrained_flow/constrainedflow/planner/search/LeastFirst", "isEmpty", "()Z"⟩ : MethodName)) (z := (⟨"com/example/constrained_flow/constrainedflow/planner/search/LeastFirst", "isEmpty", "()Z"⟩ : MethodName)) hown (mvT hZ (hw _ (List.mem_of_getElem? (i := 15) rfl))) (mvT hZ (hw _ (List.mem_of_getElem? (i := 16) rfl))) (notFace_of_selects (args := #[]) (mvT hZ (hw _ (List.mem_of_getElem? (i := 18) rfl)))) (mvT hZ (hw _ (List.mem_of_getElem? (i := 18) rfl))) (mvT hZ (hw _ (List.mem_of_getElem? (i := 17) rfl))) (by decide) (backOf (W := 0) (rm3 l Z aw hw [] b1 (1 : Int32) T20.heap n0 Z20 o20_3) hZ (hw _ (List.mem_of_getElem? (i := 19) rfl)) (hw _ (List.mem_of_getElem? (i := 2) rfl)) (by decide) (by decide)) q21a q21c (g := (mkF m 124 #[.val (.int p0), .val (.int p1), .val (.int p2), .val (.int p3), .val (.ref b1), .val (.int (1 : Int32)), .val (.int (1 : Int32))] [(.ref b1)])) rfl (by rw [hml]; rfl) (Steps.refl _) (argsL := []) (rest := []) (lenOf pd_6 rfl) rfl (by show 2 * 0 + _ ≤ _; exact Nat.le_of_eq rfl) (hb hby at_124) (fun _ _ => ⟨rfl, rfl, (by decide : 3 + 0 ≤ _), (by decide : 9 + 0 ≤ _)⟩)
        dsimp only [Pt.U, Pt.locs, Pt.cells, Pt.slots] at X21 l21 y21 z21 st21 hQ21
        subst l21 y21 z21
        obtain ⟨rfl, rfl, e21⟩ := hQ21
        have N21 := Fr.app N20 (Fr.nil n0)
        refine go (B := T21.setTop (mkF m 127 #[.val (.int p0), .val (.int p1), .val (.int p2), .val (.int p3), .val (.ref b1), .val (.int (1 : Int32)), .val (.int (1 : Int32))] [(.int (0 : Int32))])) (fun _ k => st21.trans k) ?_
        refine go (B := T21.setTop (mkF m 129 #[.val (.int p0), .val (.int p1), .val (.int p2), .val (.int p3), .val (.ref b1), .val (.int (1 : Int32)), .val (.int (1 : Int32))] [(.int (1 : Int32)), (.int (0 : Int32))])) (fun _ k => XS.iload X21.here hx rfl (hb hby at_127) rfl k) ?_
        refine go (B := T21.setTop (mkF m 136 #[.val (.int p0), .val (.int p1), .val (.int p2), .val (.int p3), .val (.ref b1), .val (.int (1 : Int32)), .val (.int (1 : Int32))] [(.int (0 : Int32))])) (fun _ k => XS.ifYes X21.here hx rfl (pc0 := 129) (pc' := 136) rfl (hb hby at_129) rfl ((if0 _ _).trans (feq (by decide : ¬ ((1 : Int32) = (0 : Int32)))).2) (by decide) (by decide) k) ?_
        refine go (B := T21.setTop (mkF m 137 #[.val (.int p0), .val (.int p1), .val (.int p2), .val (.int p3), .val (.ref b1), .val (.int (1 : Int32)), .val (.int (1 : Int32))] [(.int (0 : Int32)), (.int (0 : Int32))])) (fun _ k => XS.iconst X21.here hx rfl (hb hby at_136) k) ?_
        refine go (B := T21.setTop (mkF m 140 #[.val (.int p0), .val (.int p1), .val (.int p2), .val (.int p3), .val (.ref b1), .val (.int (1 : Int32)), .val (.int (1 : Int32))] [])) (fun _ k => XS.icmpNo X21.here hx rfl (hb hby at_137) rfl (teq (by decide : (0 : Int32) = (0 : Int32))).2 k) ?_
        refine go (B := T21.setTop (mkF m 141 #[.val (.int p0), .val (.int p1), .val (.int p2), .val (.int p3), .val (.ref b1), .val (.int (1 : Int32)), .val (.int (1 : Int32))] [(.int (1 : Int32))])) (fun _ k => XS.iconst X21.here hx rfl (hb hby at_140) k) ?_
        refine go (B := T21.setTop (mkF m 145 #[.val (.int p0), .val (.int p1), .val (.int p2), .val (.int p3), .val (.ref b1), .val (.int (1 : Int32)), .val (.int (1 : Int32))] [(.int (1 : Int32))])) (fun _ k => XS.goto X21.here hx rfl (pc0 := 141) (pc' := 145) rfl (hb hby at_141) (by decide) (by decide) k) ?_
        refine go (B := T21.setTop (mkF m 147 #[.val (.int p0), .val (.int p1), .val (.int p2), .val (.int p3), .val (.ref b1), .val (.int (1 : Int32)), .val (.int (1 : Int32))] [])) (fun _ k => XS.istore X21.here hx rfl (hb hby at_145) rfl (l' := #[.val (.int p0), .val (.int p1), .val (.int p2), .val (.int p3), .val (.ref b1), .val (.int (1 : Int32)), .val (.int (1 : Int32))]) rfl k) ?_
        refine go (B := T21.setTop (mkF m 149 #[.val (.int p0), .val (.int p1), .val (.int p2), .val (.int p3), .val (.ref b1), .val (.int (1 : Int32)), .val (.int (1 : Int32))] [(.ref b1)])) (fun _ k => XS.aload X21.here hx rfl (hb hby at_147) rfl rfl k) ?_
        refine go (B := T21.setTop (mkF m 150 #[.val (.int p0), .val (.int p1), .val (.int p2), .val (.int p3), .val (.ref b1), .val (.int (1 : Int32)), .val (.int (1 : Int32))] [(.int p0), (.ref b1)])) (fun _ k => XS.iloadN X21.here hx rfl (hb hby at_149) rfl k) ?_
        refine go (B := T21.setTop (mkF m 151 #[.val (.int p0), .val (.int p1), .val (.int p2), .val (.int p3), .val (.ref b1), .val (.int (1 : Int32)), .val (.int (1 : Int32))] [(.int (3 : Int32)), (.int p0), (.ref b1)])) (fun _ k => XS.iconst X21.here hx rfl (hb hby at_150) k) ?_
        refine go (B := T21.setTop (mkF m 152 #[.val (.int p0), .val (.int p1), .val (.int p2), .val (.int p3), .val (.ref b1), .val (.int (1 : Int32)), .val (.int (1 : Int32))] [(.int ((p0.toUInt32 >>> ((3 : Int32) &&& 31).toUInt32).toInt32)), (.ref b1)])) (fun _ k => XS.iushr X21.here hx rfl (hb hby at_151) rfl k) ?_
        refine go (B := T21.setTop (mkF m 154 #[.val (.int p0), .val (.int p1), .val (.int p2), .val (.int p3), .val (.ref b1), .val (.int (1 : Int32)), .val (.int (1 : Int32))] [(.int (1 : Int32)), (.int ((p0.toUInt32 >>> ((3 : Int32) &&& 31).toUInt32).toInt32)), (.ref b1)])) (fun _ k => XS.iload X21.here hx rfl (hb hby at_152) rfl k) ?_
        refine go (B := T21.setTop (mkF m 155 #[.val (.int p0), .val (.int p1), .val (.int p2), .val (.int p3), .val (.ref b1), .val (.int (1 : Int32)), .val (.int (1 : Int32))] [(.int p1), (.int (1 : Int32)), (.int ((p0.toUInt32 >>> ((3 : Int32) &&& 31).toUInt32).toInt32)), (.ref b1)])) (fun _ k => XS.iloadN X21.here hx rfl (hb hby at_154) rfl k) ?_
        refine go (B := T21.setTop (mkF m 156 #[.val (.int p0), .val (.int p1), .val (.int p2), .val (.int p3), .val (.ref b1), .val (.int (1 : Int32)), .val (.int (1 : Int32))] [(.int p2), (.int p1), (.int (1 : Int32)), (.int ((p0.toUInt32 >>> ((3 : Int32) &&& 31).toUInt32).toInt32)), (.ref b1)])) (fun _ k => XS.iloadN X21.here hx rfl (hb hby at_155) rfl k) ?_
        refine go (B := T21.setTop (mkF m 157 #[.val (.int p0), .val (.int p1), .val (.int p2), .val (.int p3), .val (.ref b1), .val (.int (1 : Int32)), .val (.int (1 : Int32))] [(.int (p1 ^^^ p2)), (.int (1 : Int32)), (.int ((p0.toUInt32 >>> ((3 : Int32) &&& 31).toUInt32).toInt32)), (.ref b1)])) (fun _ k => XS.ixor X21.here hx rfl (hb hby at_156) rfl k) ?_
        by_cases hc22 : (((p0.toUInt32 >>> ((3 : Int32) &&& 31).toUInt32).toInt32) &&& (1 : Int32)) = (0 : Int32)
        · obtain ⟨_, _, ⟨T23, L23, k23, n23⟩, -, X23, ⟨Lc23, hQ23, l23, y23, z23⟩, st23⟩ := Jvm.LawKit.callS X21 hx (y := (⟨"com/example/constrained_flow/constrainedflow/planner/search/LeastFirstIsEmptyPinLaw", "step", "(Lcom/example/constrained_flow/constrainedflow/planner/search/LeastFirst;III)I"⟩ : MethodName)) hown (mvT hZ (hw _ (List.mem_of_getElem? (i := 22) rfl))) (mvT hZ (hw _ (List.mem_of_getElem? (i := 23) rfl))) (mvT hZ (hw _ (List.mem_of_getElem? (i := 24) rfl))) (mvT hZ (hw _ (List.mem_of_getElem? (i := 25) rfl))) (by decide) (backOf (W := 0) (rm4n1t l Z aw hw [] b1 ((p0.toUInt32 >>> ((3 : Int32) &&& 31).toUInt32).toInt32) (p1 ^^^ p2) b2_2 b4_2 k2_2 K0_20 K1_20 K2_20 k4_2 M0_20 M1_20 M2_20 T20.heap n0 Z20 o20_1 o20_2 o20_3 o20_0 o20_4 o20_5 ne_b1_b2_2 ne_b1_b4_2 o2_2 g_b1 g_b2_2 g_b4_2 o20_6 o20_7 o20_8 (show (((p0.toUInt32 >>> ((3 : Int32) &&& 31).toUInt32).toInt32) &&& (1 : Int32)) = (0 : Int32) from hc22)) hZ (hw _ (List.mem_of_getElem? (i := 25) rfl)) (hw _ (List.mem_of_getElem? (i := 24) rfl)) (by decide) (by decide)) (g := (mkF m 157 #[.val (.int p0), .val (.int p1), .val (.int p2), .val (.int p3), .val (.ref b1), .val (.int (1 : Int32)), .val (.int (1 : Int32))] [(.int (p1 ^^^ p2)), (.int (1 : Int32)), (.int ((p0.toUInt32 >>> ((3 : Int32) &&& 31).toUInt32).toInt32)), (.ref b1)])) rfl (by rw [hml]; rfl) (argsL := [(.ref b1), (.int ((p0.toUInt32 >>> ((3 : Int32) &&& 31).toUInt32).toInt32)), (.int (1 : Int32)), (.int (p1 ^^^ p2))]) (rest := []) (lenOf pd_7 rfl) rfl (by show 2 * 0 + _ ≤ _; exact Nat.le_of_eq rfl) (hb hby at_157) (fun _ _ => ⟨rfl, e21, (by decide : 3 + 0 ≤ _), (by decide : 9 + 0 ≤ _)⟩)
          dsimp only [Pt.U, Pt.locs, Pt.cells, Pt.slots] at X23 l23 y23 z23 st23 hQ23
          subst l23 y23 z23
          obtain ⟨K0_23, K1_23, K2_23, M0_23, M1_23, M2_23, rfl, N23q, Kc23, o23_0, o23_1, o23_2, o23_3, o23_4, o23_5, o23_6, o23_7, o23_8⟩ := hQ23
          have E_b1_23 := o20_0.keep Kc23
          have N23 := Fr.app N21 N23q
          have Z23 := Nat.le_trans Z20 Kc23.1
          refine go (B := T23.setTop (mkF m 160 #[.val (.int p0), .val (.int p1), .val (.int p2), .val (.int p3), .val (.ref b1), .val (.int (1 : Int32)), .val (.int (1 : Int32))] [(.int (0 : Int32))])) (fun _ k => st23 _ k) ?_
          refine go (B := T23.setTop (mkF m 162 #[.val (.int p0), .val (.int p1), .val (.int p2), .val (.int p3), .val (.ref b1), .val (.int (1 : Int32)), .val (.int (0 : Int32))] [])) (fun _ k => XS.istore X23.here hx rfl (hb hby at_160) rfl (l' := #[.val (.int p0), .val (.int p1), .val (.int p2), .val (.int p3), .val (.ref b1), .val (.int (1 : Int32)), .val (.int (0 : Int32))]) rfl k) ?_
          refine go (B := T23.setTop (mkF m 164 #[.val (.int p0), .val (.int p1), .val (.int p2), .val (.int p3), .val (.ref b1), .val (.int (1 : Int32)), .val (.int (0 : Int32))] [(.int (1 : Int32))])) (fun _ k => XS.iload X23.here hx rfl (hb hby at_162) rfl k) ?_
          refine go (B := T23.setTop (mkF m 167 #[.val (.int p0), .val (.int p1), .val (.int p2), .val (.int p3), .val (.ref b1), .val (.int (1 : Int32)), .val (.int (0 : Int32))] [])) (fun _ k => XS.ifNo X23.here hx rfl (hb hby at_164) rfl ((if0 _ _).trans (feq (by decide : ¬ ((1 : Int32) = (0 : Int32)))).1) k) ?_
          refine go (B := T23.setTop (mkF m 169 #[.val (.int p0), .val (.int p1), .val (.int p2), .val (.int p3), .val (.ref b1), .val (.int (1 : Int32)), .val (.int (0 : Int32))] [(.ref b1)])) (fun _ k => XS.aload X23.here hx rfl (hb hby at_167) rfl rfl k) ?_
          obtain ⟨cq24, kq24, q24a, q24b, q24c⟩ := isOf hZ rfl o23_0
          obtain ⟨_, _, ⟨T24, L24, k24, n24⟩, -, X24, ⟨Lc24, hQ24, l24, y24, z24⟩, st24⟩ := X23.virtualBack hx (y := (⟨"com/example/constrained_flow/constrainedflow/planner/search/LeastFirst", "isEmpty", "()Z"⟩ : MethodName)) (z := (⟨"com/example/constrained_flow/constrainedflow/planner/search/LeastFirst", "isEmpty", "()Z"⟩ : MethodName)) hown (mvT hZ (hw _ (List.mem_of_getElem? (i := 15) rfl))) (mvT hZ (hw _ (List.mem_of_getElem? (i := 16) rfl))) (notFace_of_selects (args := #[]) (mvT hZ (hw _ (List.mem_of_getElem? (i := 18) rfl)))) (mvT hZ (hw _ (List.mem_of_getElem? (i := 18) rfl))) (mvT hZ (hw _ (List.mem_of_getElem? (i := 17) rfl))) (by decide) (backOf (W := 0) (rm3 l Z aw hw [] b1 (0 : Int32) T23.heap n0 Z23 o23_3) hZ (hw _ (List.mem_of_getElem? (i := 19) rfl)) (hw _ (List.mem_of_getElem? (i := 2) rfl)) (by decide) (by decide)) q24a q24c (g := (mkF m 169 #[.val (.int p0), .val (.int p1), .val (.int p2), .val (.int p3), .val (.ref b1), .val (.int (1 : Int32)), .val (.int (0 : Int32))] [(.ref b1)])) rfl (by rw [hml]; rfl) (Steps.refl _) (argsL := []) (rest := []) (lenOf pd_6 rfl) rfl (by show 2 * 0 + _ ≤ _; exact Nat.le_of_eq rfl) (hb hby at_169) (fun _ _ => ⟨rfl, rfl, (by decide : 3 + 0 ≤ _), (by decide : 9 + 0 ≤ _)⟩)
          dsimp only [Pt.U, Pt.locs, Pt.cells, Pt.slots] at X24 l24 y24 z24 st24 hQ24
          subst l24 y24 z24
          obtain ⟨rfl, rfl, e24⟩ := hQ24
          have N24 := Fr.app N23 (Fr.nil n0)
          refine go (B := T24.setTop (mkF m 172 #[.val (.int p0), .val (.int p1), .val (.int p2), .val (.int p3), .val (.ref b1), .val (.int (1 : Int32)), .val (.int (0 : Int32))] [(.int (1 : Int32))])) (fun _ k => st24.trans k) ?_
          refine go (B := T24.setTop (mkF m 174 #[.val (.int p0), .val (.int p1), .val (.int p2), .val (.int p3), .val (.ref b1), .val (.int (1 : Int32)), .val (.int (0 : Int32))] [(.int (0 : Int32)), (.int (1 : Int32))])) (fun _ k => XS.iload X24.here hx rfl (hb hby at_172) rfl k) ?_
          refine go (B := T24.setTop (mkF m 177 #[.val (.int p0), .val (.int p1), .val (.int p2), .val (.int p3), .val (.ref b1), .val (.int (1 : Int32)), .val (.int (0 : Int32))] [(.int (1 : Int32))])) (fun _ k => XS.ifNo X24.here hx rfl (hb hby at_174) rfl ((if0 _ _).trans (teq (by decide : (0 : Int32) = (0 : Int32))).2) k) ?_
          refine go (B := T24.setTop (mkF m 178 #[.val (.int p0), .val (.int p1), .val (.int p2), .val (.int p3), .val (.ref b1), .val (.int (1 : Int32)), .val (.int (0 : Int32))] [(.int (1 : Int32)), (.int (1 : Int32))])) (fun _ k => XS.iconst X24.here hx rfl (hb hby at_177) k) ?_
          refine go (B := T24.setTop (mkF m 182 #[.val (.int p0), .val (.int p1), .val (.int p2), .val (.int p3), .val (.ref b1), .val (.int (1 : Int32)), .val (.int (0 : Int32))] [(.int (1 : Int32)), (.int (1 : Int32))])) (fun _ k => XS.goto X24.here hx rfl (pc0 := 178) (pc' := 182) rfl (hb hby at_178) (by decide) (by decide) k) ?_
          refine go (B := T24.setTop (mkF m 185 #[.val (.int p0), .val (.int p1), .val (.int p2), .val (.int p3), .val (.ref b1), .val (.int (1 : Int32)), .val (.int (0 : Int32))] [])) (fun _ k => XS.icmpNo X24.here hx rfl (hb hby at_182) rfl (teq (by decide : (1 : Int32) = (1 : Int32))).2 k) ?_
          refine go (B := T24.setTop (mkF m 186 #[.val (.int p0), .val (.int p1), .val (.int p2), .val (.int p3), .val (.ref b1), .val (.int (1 : Int32)), .val (.int (0 : Int32))] [(.int (1 : Int32))])) (fun _ k => XS.iconst X24.here hx rfl (hb hby at_185) k) ?_
          refine go (B := T24.setTop (mkF m 190 #[.val (.int p0), .val (.int p1), .val (.int p2), .val (.int p3), .val (.ref b1), .val (.int (1 : Int32)), .val (.int (0 : Int32))] [(.int (1 : Int32))])) (fun _ k => XS.goto X24.here hx rfl (pc0 := 186) (pc' := 190) rfl (hb hby at_186) (by decide) (by decide) k) ?_
          refine go (B := T24.setTop (mkF m 192 #[.val (.int p0), .val (.int p1), .val (.int p2), .val (.int p3), .val (.ref b1), .val (.int (1 : Int32)), .val (.int (0 : Int32))] [])) (fun _ k => XS.istore X24.here hx rfl (hb hby at_190) rfl (l' := #[.val (.int p0), .val (.int p1), .val (.int p2), .val (.int p3), .val (.ref b1), .val (.int (1 : Int32)), .val (.int (0 : Int32))]) rfl k) ?_
          refine go (B := T24.setTop (mkF m 194 #[.val (.int p0), .val (.int p1), .val (.int p2), .val (.int p3), .val (.ref b1), .val (.int (1 : Int32)), .val (.int (0 : Int32))] [(.int (1 : Int32))])) (fun _ k => XS.iload X24.here hx rfl (hb hby at_192) rfl k) ?_
          have r25 : (f0 p0) = (1 : Int32) := by unfold f0; rw [if_pos hc4, if_pos hc7, if_neg hc10, if_pos hc22]
          exact end_nar X24 hx Bd.notSynchronized (t := .boolean) Bd.returns (by simp) (hb hby at_194) hF e24 (by decide) (by decide) ⟨(congrArg (fun z => some (Value.int z)) (r25.symm.trans (own_law p0))), N24⟩
        · obtain ⟨_, _, ⟨T26, L26, k26, n26⟩, -, X26, ⟨Lc26, hQ26, l26, y26, z26⟩, st26⟩ := Jvm.LawKit.callS X21 hx (y := (⟨"com/example/constrained_flow/constrainedflow/planner/search/LeastFirstIsEmptyPinLaw", "step", "(Lcom/example/constrained_flow/constrainedflow/planner/search/LeastFirst;III)I"⟩ : MethodName)) hown (mvT hZ (hw _ (List.mem_of_getElem? (i := 22) rfl))) (mvT hZ (hw _ (List.mem_of_getElem? (i := 23) rfl))) (mvT hZ (hw _ (List.mem_of_getElem? (i := 24) rfl))) (mvT hZ (hw _ (List.mem_of_getElem? (i := 25) rfl))) (by decide) (backOf (W := 0) (rm4n1a l Z aw hw [] b1 ((p0.toUInt32 >>> ((3 : Int32) &&& 31).toUInt32).toInt32) (p1 ^^^ p2) b2_2 b4_2 k2_2 K0_20 K1_20 K2_20 k4_2 M0_20 M1_20 M2_20 T20.heap n0 Z20 o20_1 o20_2 o20_3 o20_0 o20_4 o20_5 ne_b1_b2_2 ne_b1_b4_2 o2_2 g_b1 g_b2_2 g_b4_2 o20_6 o20_7 o20_8 (show ¬ ((((p0.toUInt32 >>> ((3 : Int32) &&& 31).toUInt32).toInt32) &&& (1 : Int32)) = (0 : Int32)) from hc22)) hZ (hw _ (List.mem_of_getElem? (i := 25) rfl)) (hw _ (List.mem_of_getElem? (i := 24) rfl)) (by decide) (by decide)) (g := (mkF m 157 #[.val (.int p0), .val (.int p1), .val (.int p2), .val (.int p3), .val (.ref b1), .val (.int (1 : Int32)), .val (.int (1 : Int32))] [(.int (p1 ^^^ p2)), (.int (1 : Int32)), (.int ((p0.toUInt32 >>> ((3 : Int32) &&& 31).toUInt32).toInt32)), (.ref b1)])) rfl (by rw [hml]; rfl) (argsL := [(.ref b1), (.int ((p0.toUInt32 >>> ((3 : Int32) &&& 31).toUInt32).toInt32)), (.int (1 : Int32)), (.int (p1 ^^^ p2))]) (rest := []) (lenOf pd_7 rfl) rfl (by show 2 * 0 + _ ≤ _; exact Nat.le_of_eq rfl) (hb hby at_157) (fun _ _ => ⟨rfl, e21, (by decide : 3 + 0 ≤ _), (by decide : 9 + 0 ≤ _)⟩)
          dsimp only [Pt.U, Pt.locs, Pt.cells, Pt.slots] at X26 l26 y26 z26 st26 hQ26
          subst l26 y26 z26
          obtain ⟨K0_26, K1_26, K2_26, M0_26, M1_26, M2_26, rfl, N26q, Kc26, o26_0, o26_1, o26_2, o26_3, o26_4, o26_5, o26_6, o26_7, o26_8⟩ := hQ26
          have E_b1_26 := o20_0.keep Kc26
          have N26 := Fr.app N21 N26q
          have Z26 := Nat.le_trans Z20 Kc26.1
          refine go (B := T26.setTop (mkF m 160 #[.val (.int p0), .val (.int p1), .val (.int p2), .val (.int p3), .val (.ref b1), .val (.int (1 : Int32)), .val (.int (1 : Int32))] [(.int (2 : Int32))])) (fun _ k => st26 _ k) ?_
          refine go (B := T26.setTop (mkF m 162 #[.val (.int p0), .val (.int p1), .val (.int p2), .val (.int p3), .val (.ref b1), .val (.int (1 : Int32)), .val (.int (2 : Int32))] [])) (fun _ k => XS.istore X26.here hx rfl (hb hby at_160) rfl (l' := #[.val (.int p0), .val (.int p1), .val (.int p2), .val (.int p3), .val (.ref b1), .val (.int (1 : Int32)), .val (.int (2 : Int32))]) rfl k) ?_
          refine go (B := T26.setTop (mkF m 164 #[.val (.int p0), .val (.int p1), .val (.int p2), .val (.int p3), .val (.ref b1), .val (.int (1 : Int32)), .val (.int (2 : Int32))] [(.int (1 : Int32))])) (fun _ k => XS.iload X26.here hx rfl (hb hby at_162) rfl k) ?_
          refine go (B := T26.setTop (mkF m 167 #[.val (.int p0), .val (.int p1), .val (.int p2), .val (.int p3), .val (.ref b1), .val (.int (1 : Int32)), .val (.int (2 : Int32))] [])) (fun _ k => XS.ifNo X26.here hx rfl (hb hby at_164) rfl ((if0 _ _).trans (feq (by decide : ¬ ((1 : Int32) = (0 : Int32)))).1) k) ?_
          refine go (B := T26.setTop (mkF m 169 #[.val (.int p0), .val (.int p1), .val (.int p2), .val (.int p3), .val (.ref b1), .val (.int (1 : Int32)), .val (.int (2 : Int32))] [(.ref b1)])) (fun _ k => XS.aload X26.here hx rfl (hb hby at_167) rfl rfl k) ?_
          obtain ⟨cq27, kq27, q27a, q27b, q27c⟩ := isOf hZ rfl o26_0
          obtain ⟨_, _, ⟨T27, L27, k27, n27⟩, -, X27, ⟨Lc27, hQ27, l27, y27, z27⟩, st27⟩ := X26.virtualBack hx (y := (⟨"com/example/constrained_flow/constrainedflow/planner/search/LeastFirst", "isEmpty", "()Z"⟩ : MethodName)) (z := (⟨"com/example/constrained_flow/constrainedflow/planner/search/LeastFirst", "isEmpty", "()Z"⟩ : MethodName)) hown (mvT hZ (hw _ (List.mem_of_getElem? (i := 15) rfl))) (mvT hZ (hw _ (List.mem_of_getElem? (i := 16) rfl))) (notFace_of_selects (args := #[]) (mvT hZ (hw _ (List.mem_of_getElem? (i := 18) rfl)))) (mvT hZ (hw _ (List.mem_of_getElem? (i := 18) rfl))) (mvT hZ (hw _ (List.mem_of_getElem? (i := 17) rfl))) (by decide) (backOf (W := 0) (rm3 l Z aw hw [] b1 (2 : Int32) T26.heap n0 Z26 o26_3) hZ (hw _ (List.mem_of_getElem? (i := 19) rfl)) (hw _ (List.mem_of_getElem? (i := 2) rfl)) (by decide) (by decide)) q27a q27c (g := (mkF m 169 #[.val (.int p0), .val (.int p1), .val (.int p2), .val (.int p3), .val (.ref b1), .val (.int (1 : Int32)), .val (.int (2 : Int32))] [(.ref b1)])) rfl (by rw [hml]; rfl) (Steps.refl _) (argsL := []) (rest := []) (lenOf pd_6 rfl) rfl (by show 2 * 0 + _ ≤ _; exact Nat.le_of_eq rfl) (hb hby at_169) (fun _ _ => ⟨rfl, rfl, (by decide : 3 + 0 ≤ _), (by decide : 9 + 0 ≤ _)⟩)
          dsimp only [Pt.U, Pt.locs, Pt.cells, Pt.slots] at X27 l27 y27 z27 st27 hQ27
          subst l27 y27 z27
          obtain ⟨rfl, rfl, e27⟩ := hQ27
          have N27 := Fr.app N26 (Fr.nil n0)
          refine go (B := T27.setTop (mkF m 172 #[.val (.int p0), .val (.int p1), .val (.int p2), .val (.int p3), .val (.ref b1), .val (.int (1 : Int32)), .val (.int (2 : Int32))] [(.int (0 : Int32))])) (fun _ k => st27.trans k) ?_
          refine go (B := T27.setTop (mkF m 174 #[.val (.int p0), .val (.int p1), .val (.int p2), .val (.int p3), .val (.ref b1), .val (.int (1 : Int32)), .val (.int (2 : Int32))] [(.int (2 : Int32)), (.int (0 : Int32))])) (fun _ k => XS.iload X27.here hx rfl (hb hby at_172) rfl k) ?_
          refine go (B := T27.setTop (mkF m 181 #[.val (.int p0), .val (.int p1), .val (.int p2), .val (.int p3), .val (.ref b1), .val (.int (1 : Int32)), .val (.int (2 : Int32))] [(.int (0 : Int32))])) (fun _ k => XS.ifYes X27.here hx rfl (pc0 := 174) (pc' := 181) rfl (hb hby at_174) rfl ((if0 _ _).trans (feq (by decide : ¬ ((2 : Int32) = (0 : Int32)))).2) (by decide) (by decide) k) ?_
          refine go (B := T27.setTop (mkF m 182 #[.val (.int p0), .val (.int p1), .val (.int p2), .val (.int p3), .val (.ref b1), .val (.int (1 : Int32)), .val (.int (2 : Int32))] [(.int (0 : Int32)), (.int (0 : Int32))])) (fun _ k => XS.iconst X27.here hx rfl (hb hby at_181) k) ?_
          refine go (B := T27.setTop (mkF m 185 #[.val (.int p0), .val (.int p1), .val (.int p2), .val (.int p3), .val (.ref b1), .val (.int (1 : Int32)), .val (.int (2 : Int32))] [])) (fun _ k => XS.icmpNo X27.here hx rfl (hb hby at_182) rfl (teq (by decide : (0 : Int32) = (0 : Int32))).2 k) ?_
          refine go (B := T27.setTop (mkF m 186 #[.val (.int p0), .val (.int p1), .val (.int p2), .val (.int p3), .val (.ref b1), .val (.int (1 : Int32)), .val (.int (2 : Int32))] [(.int (1 : Int32))])) (fun _ k => XS.iconst X27.here hx rfl (hb hby at_185) k) ?_
          refine go (B := T27.setTop (mkF m 190 #[.val (.int p0), .val (.int p1), .val (.int p2), .val (.int p3), .val (.ref b1), .val (.int (1 : Int32)), .val (.int (2 : Int32))] [(.int (1 : Int32))])) (fun _ k => XS.goto X27.here hx rfl (pc0 := 186) (pc' := 190) rfl (hb hby at_186) (by decide) (by decide) k) ?_
          refine go (B := T27.setTop (mkF m 192 #[.val (.int p0), .val (.int p1), .val (.int p2), .val (.int p3), .val (.ref b1), .val (.int (1 : Int32)), .val (.int (2 : Int32))] [])) (fun _ k => XS.istore X27.here hx rfl (hb hby at_190) rfl (l' := #[.val (.int p0), .val (.int p1), .val (.int p2), .val (.int p3), .val (.ref b1), .val (.int (1 : Int32)), .val (.int (2 : Int32))]) rfl k) ?_
          refine go (B := T27.setTop (mkF m 194 #[.val (.int p0), .val (.int p1), .val (.int p2), .val (.int p3), .val (.ref b1), .val (.int (1 : Int32)), .val (.int (2 : Int32))] [(.int (1 : Int32))])) (fun _ k => XS.iload X27.here hx rfl (hb hby at_192) rfl k) ?_
          have r28 : (f0 p0) = (1 : Int32) := by unfold f0; rw [if_pos hc4, if_pos hc7, if_neg hc10, if_neg hc22]
          exact end_nar X27 hx Bd.notSynchronized (t := .boolean) Bd.returns (by simp) (hb hby at_194) hF e27 (by decide) (by decide) ⟨(congrArg (fun z => some (Value.int z)) (r28.symm.trans (own_law p0))), N27⟩
    · obtain ⟨_, _, ⟨T29, L29, k29, n29⟩, -, X29, ⟨Lc29, hQ29, l29, y29, z29⟩, st29⟩ := Jvm.LawKit.callS X6 hx (y := (⟨"com/example/constrained_flow/constrainedflow/planner/search/LeastFirstIsEmptyPinLaw", "step", "(Lcom/example/constrained_flow/constrainedflow/planner/search/LeastFirst;III)I"⟩ : MethodName)) hown (mvT hZ (hw _ (List.mem_of_getElem? (i := 22) rfl))) (mvT hZ (hw _ (List.mem_of_getElem? (i := 23) rfl))) (mvT hZ (hw _ (List.mem_of_getElem? (i := 24) rfl))) (mvT hZ (hw _ (List.mem_of_getElem? (i := 25) rfl))) (by decide) (backOf (W := 0) (rm4n0a l Z aw hw [] b1 ((p0.toUInt32 >>> ((1 : Int32) &&& 31).toUInt32).toInt32) p2 b2_2 b4_2 k2_2 K0_5 K1_5 K2_5 k4_2 M0_5 M1_5 M2_5 T5.heap n0 Z5 o5_1 o5_2 o5_3 o5_0 o5_4 o5_5 ne_b1_b2_2 ne_b1_b4_2 o2_2 g_b1 g_b2_2 g_b4_2 o5_6 o5_7 o5_8 (show ¬ ((((p0.toUInt32 >>> ((1 : Int32) &&& 31).toUInt32).toInt32) &&& (1 : Int32)) = (0 : Int32)) from hc7)) hZ (hw _ (List.mem_of_getElem? (i := 25) rfl)) (hw _ (List.mem_of_getElem? (i := 24) rfl)) (by decide) (by decide)) (g := (mkF m 69 #[.val (.int p0), .val (.int p1), .val (.int p2), .val (.int p3), .val (.ref b1), .val (.int (1 : Int32)), .val (.int (0 : Int32))] [(.int p2), (.int (0 : Int32)), (.int ((p0.toUInt32 >>> ((1 : Int32) &&& 31).toUInt32).toInt32)), (.ref b1)])) rfl (by rw [hml]; rfl) (argsL := [(.ref b1), (.int ((p0.toUInt32 >>> ((1 : Int32) &&& 31).toUInt32).toInt32)), (.int (0 : Int32)), (.int p2)]) (rest := []) (lenOf pd_7 rfl) rfl (by show 2 * 0 + _ ≤ _; exact Nat.le_of_eq rfl) (hb hby at_69) (fun _ _ => ⟨rfl, e6, (by decide : 3 + 0 ≤ _), (by decide : 9 + 0 ≤ _)⟩)
      dsimp only [Pt.U, Pt.locs, Pt.cells, Pt.slots] at X29 l29 y29 z29 st29 hQ29
      subst l29 y29 z29
      obtain ⟨K0_29, K1_29, K2_29, M0_29, M1_29, M2_29, rfl, N29q, Kc29, o29_0, o29_1, o29_2, o29_3, o29_4, o29_5, o29_6, o29_7, o29_8⟩ := hQ29
      have E_b1_29 := o5_0.keep Kc29
      have N29 := Fr.app N6 N29q
      have Z29 := Nat.le_trans Z5 Kc29.1
      refine go (B := T29.setTop (mkF m 72 #[.val (.int p0), .val (.int p1), .val (.int p2), .val (.int p3), .val (.ref b1), .val (.int (1 : Int32)), .val (.int (0 : Int32))] [(.int (1 : Int32))])) (fun _ k => st29 _ k) ?_
      refine go (B := T29.setTop (mkF m 74 #[.val (.int p0), .val (.int p1), .val (.int p2), .val (.int p3), .val (.ref b1), .val (.int (1 : Int32)), .val (.int (1 : Int32))] [])) (fun _ k => XS.istore X29.here hx rfl (hb hby at_72) rfl (l' := #[.val (.int p0), .val (.int p1), .val (.int p2), .val (.int p3), .val (.ref b1), .val (.int (1 : Int32)), .val (.int (1 : Int32))]) rfl k) ?_
      refine go (B := T29.setTop (mkF m 76 #[.val (.int p0), .val (.int p1), .val (.int p2), .val (.int p3), .val (.ref b1), .val (.int (1 : Int32)), .val (.int (1 : Int32))] [(.int (1 : Int32))])) (fun _ k => XS.iload X29.here hx rfl (hb hby at_74) rfl k) ?_
      refine go (B := T29.setTop (mkF m 79 #[.val (.int p0), .val (.int p1), .val (.int p2), .val (.int p3), .val (.ref b1), .val (.int (1 : Int32)), .val (.int (1 : Int32))] [])) (fun _ k => XS.ifNo X29.here hx rfl (hb hby at_76) rfl ((if0 _ _).trans (feq (by decide : ¬ ((1 : Int32) = (0 : Int32)))).1) k) ?_
      refine go (B := T29.setTop (mkF m 81 #[.val (.int p0), .val (.int p1), .val (.int p2), .val (.int p3), .val (.ref b1), .val (.int (1 : Int32)), .val (.int (1 : Int32))] [(.ref b1)])) (fun _ k => XS.aload X29.here hx rfl (hb hby at_79) rfl rfl k) ?_
      obtain ⟨cq30, kq30, q30a, q30b, q30c⟩ := isOf hZ rfl o29_0
      obtain ⟨_, _, ⟨T30, L30, k30, n30⟩, -, X30, ⟨Lc30, hQ30, l30, y30, z30⟩, st30⟩ := X29.virtualBack hx (y := (⟨"com/example/constrained_flow/constrainedflow/planner/search/LeastFirst", "isEmpty", "()Z"⟩ : MethodName)) (z := (⟨"com/example/constrained_flow/constrainedflow/planner/search/LeastFirst", "isEmpty", "()Z"⟩ : MethodName)) hown (mvT hZ (hw _ (List.mem_of_getElem? (i := 15) rfl))) (mvT hZ (hw _ (List.mem_of_getElem? (i := 16) rfl))) (notFace_of_selects (args := #[]) (mvT hZ (hw _ (List.mem_of_getElem? (i := 18) rfl)))) (mvT hZ (hw _ (List.mem_of_getElem? (i := 18) rfl))) (mvT hZ (hw _ (List.mem_of_getElem? (i := 17) rfl))) (by decide) (backOf (W := 0) (rm3 l Z aw hw [] b1 (1 : Int32) T29.heap n0 Z29 o29_3) hZ (hw _ (List.mem_of_getElem? (i := 19) rfl)) (hw _ (List.mem_of_getElem? (i := 2) rfl)) (by decide) (by decide)) q30a q30c (g := (mkF m 81 #[.val (.int p0), .val (.int p1), .val (.int p2), .val (.int p3), .val (.ref b1), .val (.int (1 : Int32)), .val (.int (1 : Int32))] [(.ref b1)])) rfl (by rw [hml]; rfl) (Steps.refl _) (argsL := []) (rest := []) (lenOf pd_6 rfl) rfl (by show 2 * 0 + _ ≤ _; exact Nat.le_of_eq rfl) (hb hby at_81) (fun _ _ => ⟨rfl, rfl, (by decide : 3 + 0 ≤ _), (by decide : 9 + 0 ≤ _)⟩)
      dsimp only [Pt.U, Pt.locs, Pt.cells, Pt.slots] at X30 l30 y30 z30 st30 hQ30
      subst l30 y30 z30
      obtain ⟨rfl, rfl, e30⟩ := hQ30
      have N30 := Fr.app N29 (Fr.nil n0)
      refine go (B := T30.setTop (mkF m 84 #[.val (.int p0), .val (.int p1), .val (.int p2), .val (.int p3), .val (.ref b1), .val (.int (1 : Int32)), .val (.int (1 : Int32))] [(.int (0 : Int32))])) (fun _ k => st30.trans k) ?_
      refine go (B := T30.setTop (mkF m 86 #[.val (.int p0), .val (.int p1), .val (.int p2), .val (.int p3), .val (.ref b1), .val (.int (1 : Int32)), .val (.int (1 : Int32))] [(.int (1 : Int32)), (.int (0 : Int32))])) (fun _ k => XS.iload X30.here hx rfl (hb hby at_84) rfl k) ?_
      refine go (B := T30.setTop (mkF m 93 #[.val (.int p0), .val (.int p1), .val (.int p2), .val (.int p3), .val (.ref b1), .val (.int (1 : Int32)), .val (.int (1 : Int32))] [(.int (0 : Int32))])) (fun _ k => XS.ifYes X30.here hx rfl (pc0 := 86) (pc' := 93) rfl (hb hby at_86) rfl ((if0 _ _).trans (feq (by decide : ¬ ((1 : Int32) = (0 : Int32)))).2) (by decide) (by decide) k) ?_
      refine go (B := T30.setTop (mkF m 94 #[.val (.int p0), .val (.int p1), .val (.int p2), .val (.int p3), .val (.ref b1), .val (.int (1 : Int32)), .val (.int (1 : Int32))] [(.int (0 : Int32)), (.int (0 : Int32))])) (fun _ k => XS.iconst X30.here hx rfl (hb hby at_93) k) ?_
      refine go (B := T30.setTop (mkF m 97 #[.val (.int p0), .val (.int p1), .val (.int p2), .val (.int p3), .val (.ref b1), .val (.int (1 : Int32)), .val (.int (1 : Int32))] [])) (fun _ k => XS.icmpNo X30.here hx rfl (hb hby at_94) rfl (teq (by decide : (0 : Int32) = (0 : Int32))).2 k) ?_
      refine go (B := T30.setTop (mkF m 98 #[.val (.int p0), .val (.int p1), .val (.int p2), .val (.int p3), .val (.ref b1), .val (.int (1 : Int32)), .val (.int (1 : Int32))] [(.int (1 : Int32))])) (fun _ k => XS.iconst X30.here hx rfl (hb hby at_97) k) ?_
      refine go (B := T30.setTop (mkF m 102 #[.val (.int p0), .val (.int p1), .val (.int p2), .val (.int p3), .val (.ref b1), .val (.int (1 : Int32)), .val (.int (1 : Int32))] [(.int (1 : Int32))])) (fun _ k => XS.goto X30.here hx rfl (pc0 := 98) (pc' := 102) rfl (hb hby at_98) (by decide) (by decide) k) ?_
      refine go (B := T30.setTop (mkF m 104 #[.val (.int p0), .val (.int p1), .val (.int p2), .val (.int p3), .val (.ref b1), .val (.int (1 : Int32)), .val (.int (1 : Int32))] [])) (fun _ k => XS.istore X30.here hx rfl (hb hby at_102) rfl (l' := #[.val (.int p0), .val (.int p1), .val (.int p2), .val (.int p3), .val (.ref b1), .val (.int (1 : Int32)), .val (.int (1 : Int32))]) rfl k) ?_
      refine go (B := T30.setTop (mkF m 106 #[.val (.int p0), .val (.int p1), .val (.int p2), .val (.int p3), .val (.ref b1), .val (.int (1 : Int32)), .val (.int (1 : Int32))] [(.ref b1)])) (fun _ k => XS.aload X30.here hx rfl (hb hby at_104) rfl rfl k) ?_
      refine go (B := T30.setTop (mkF m 107 #[.val (.int p0), .val (.int p1), .val (.int p2), .val (.int p3), .val (.ref b1), .val (.int (1 : Int32)), .val (.int (1 : Int32))] [(.int p0), (.ref b1)])) (fun _ k => XS.iloadN X30.here hx rfl (hb hby at_106) rfl k) ?_
      refine go (B := T30.setTop (mkF m 108 #[.val (.int p0), .val (.int p1), .val (.int p2), .val (.int p3), .val (.ref b1), .val (.int (1 : Int32)), .val (.int (1 : Int32))] [(.int (2 : Int32)), (.int p0), (.ref b1)])) (fun _ k => XS.iconst X30.here hx rfl (hb hby at_107) k) ?_
      refine go (B := T30.setTop (mkF m 109 #[.val (.int p0), .val (.int p1), .val (.int p2), .val (.int p3), .val (.ref b1), .val (.int (1 : Int32)), .val (.int (1 : Int32))] [(.int ((p0.toUInt32 >>> ((2 : Int32) &&& 31).toUInt32).toInt32)), (.ref b1)])) (fun _ k => XS.iushr X30.here hx rfl (hb hby at_108) rfl k) ?_
      refine go (B := T30.setTop (mkF m 111 #[.val (.int p0), .val (.int p1), .val (.int p2), .val (.int p3), .val (.ref b1), .val (.int (1 : Int32)), .val (.int (1 : Int32))] [(.int (1 : Int32)), (.int ((p0.toUInt32 >>> ((2 : Int32) &&& 31).toUInt32).toInt32)), (.ref b1)])) (fun _ k => XS.iload X30.here hx rfl (hb hby at_109) rfl k) ?_
      refine go (B := T30.setTop (mkF m 112 #[.val (.int p0), .val (.int p1), .val (.int p2), .val (.int p3), .val (.ref b1), .val (.int (1 : Int32)), .val (.int (1 : Int32))] [(.int p3), (.int (1 : Int32)), (.int ((p0.toUInt32 >>> ((2 : Int32) &&& 31).toUInt32).toInt32)), (.ref b1)])) (fun _ k => XS.iloadN X30.here hx rfl (hb hby at_111) rfl k) ?_
      by_cases hc31 : (((p0.toUInt32 >>> ((2 : Int32) &&& 31).toUInt32).toInt32) &&& (1 : Int32)) = (0 : Int32)
      · obtain ⟨_, _, ⟨T32, L32, k32, n32⟩, -, X32, ⟨Lc32, hQ32, l32, y32, z32⟩, st32⟩ := Jvm.LawKit.callS X30 hx (y := (⟨"com/example/constrained_flow/constrainedflow/planner/search/LeastFirstIsEmptyPinLaw", "step", "(Lcom/example/constrained_flow/constrainedflow/planner/search/LeastFirst;III)I"⟩ : MethodName)) hown (mvT hZ (hw _ (List.mem_of_getElem? (i := 22) rfl))) (mvT hZ (hw _ (List.mem_of_getElem? (i := 23) rfl))) (mvT hZ (hw _ (List.mem_of_getElem? (i := 24) rfl))) (mvT hZ (hw _ (List.mem_of_getElem? (i := 25) rfl))) (by decide) (backOf (W := 0) (rm4n1t l Z aw hw [] b1 ((p0.toUInt32 >>> ((2 : Int32) &&& 31).toUInt32).toInt32) p3 b2_2 b4_2 k2_2 K0_29 K1_29 K2_29 k4_2 M0_29 M1_29 M2_29 T29.heap n0 Z29 o29_1 o29_2 o29_3 o29_0 o29_4 o29_5 ne_b1_b2_2 ne_b1_b4_2 o2_2 g_b1 g_b2_2 g_b4_2 o29_6 o29_7 o29_8 (show (((p0.toUInt32 >>> ((2 : Int32) &&& 31).toUInt32).toInt32) &&& (1 : Int32)) = (0 : Int32) from hc31)) hZ (hw _ (List.mem_of_getElem? (i := 25) rfl)) (hw _ (List.mem_of_getElem? (i := 24) rfl)) (by decide) (by decide)) (g := (mkF m 112 #[.val (.int p0), .val (.int p1), .val (.int p2), .val (.int p3), .val (.ref b1), .val (.int (1 : Int32)), .val (.int (1 : Int32))] [(.int p3), (.int (1 : Int32)), (.int ((p0.toUInt32 >>> ((2 : Int32) &&& 31).toUInt32).toInt32)), (.ref b1)])) rfl (by rw [hml]; rfl) (argsL := [(.ref b1), (.int ((p0.toUInt32 >>> ((2 : Int32) &&& 31).toUInt32).toInt32)), (.int (1 : Int32)), (.int p3)]) (rest := []) (lenOf pd_7 rfl) rfl (by show 2 * 0 + _ ≤ _; exact Nat.le_of_eq rfl) (hb hby at_112) (fun _ _ => ⟨rfl, e30, (by decide : 3 + 0 ≤ _), (by decide : 9 + 0 ≤ _)⟩)
        dsimp only [Pt.U, Pt.locs, Pt.cells, Pt.slots] at X32 l32 y32 z32 st32 hQ32
        subst l32 y32 z32
        obtain ⟨K0_32, K1_32, K2_32, M0_32, M1_32, M2_32, rfl, N32q, Kc32, o32_0, o32_1, o32_2, o32_3, o32_4, o32_5, o32_6, o32_7, o32_8⟩ := hQ32
        have E_b1_32 := o29_0.keep Kc32
        have N32 := Fr.app N30 N32q
        have Z32 := Nat.le_trans Z29 Kc32.1
        refine go (B := T32.setTop (mkF m 115 #[.val (.int p0), .val (.int p1), .val (.int p2), .val (.int p3), .val (.ref b1), .val (.int (1 : Int32)), .val (.int (1 : Int32))] [(.int (0 : Int32))])) (fun _ k => st32 _ k) ?_
        refine go (B := T32.setTop (mkF m 117 #[.val (.int p0), .val (.int p1), .val (.int p2), .val (.int p3), .val (.ref b1), .val (.int (1 : Int32)), .val (.int (0 : Int32))] [])) (fun _ k => XS.istore X32.here hx rfl (hb hby at_115) rfl (l' := #[.val (.int p0), .val (.int p1), .val (.int p2), .val (.int p3), .val (.ref b1), .val (.int (1 : Int32)), .val (.int (0 : Int32))]) rfl k) ?_
        refine go (B := T32.setTop (mkF m 119 #[.val (.int p0), .val (.int p1), .val (.int p2), .val (.int p3), .val (.ref b1), .val (.int (1 : Int32)), .val (.int (0 : Int32))] [(.int (1 : Int32))])) (fun _ k => XS.iload X32.here hx rfl (hb hby at_117) rfl k) ?_
        refine go (B := T32.setTop (mkF m 122 #[.val (.int p0), .val (.int p1), .val (.int p2), .val (.int p3), .val (.ref b1), .val (.int (1 : Int32)), .val (.int (0 : Int32))] [])) (fun _ k => XS.ifNo X32.here hx rfl (hb hby at_119) rfl ((if0 _ _).trans (feq (by decide : ¬ ((1 : Int32) = (0 : Int32)))).1) k) ?_
        refine go (B := T32.setTop (mkF m 124 #[.val (.int p0), .val (.int p1), .val (.int p2), .val (.int p3), .val (.ref b1), .val (.int (1 : Int32)), .val (.int (0 : Int32))] [(.ref b1)])) (fun _ k => XS.aload X32.here hx rfl (hb hby at_122) rfl rfl k) ?_
        obtain ⟨cq33, kq33, q33a, q33b, q33c⟩ := isOf hZ rfl o32_0
        obtain ⟨_, _, ⟨T33, L33, k33, n33⟩, -, X33, ⟨Lc33, hQ33, l33, y33, z33⟩, st33⟩ := X32.virtualBack hx (y := (⟨"com/example/constrained_flow/constrainedflow/planner/search/LeastFirst", "isEmpty", "()Z"⟩ : MethodName)) (z := (⟨"com/example/constrained_flow/constrainedflow/planner/search/LeastFirst", "isEmpty", "()Z"⟩ : MethodName)) hown (mvT hZ (hw _ (List.mem_of_getElem? (i := 15) rfl))) (mvT hZ (hw _ (List.mem_of_getElem? (i := 16) rfl))) (notFace_of_selects (args := #[]) (mvT hZ (hw _ (List.mem_of_getElem? (i := 18) rfl)))) (mvT hZ (hw _ (List.mem_of_getElem? (i := 18) rfl))) (mvT hZ (hw _ (List.mem_of_getElem? (i := 17) rfl))) (by decide) (backOf (W := 0) (rm3 l Z aw hw [] b1 (0 : Int32) T32.heap n0 Z32 o32_3) hZ (hw _ (List.mem_of_getElem? (i := 19) rfl)) (hw _ (List.mem_of_getElem? (i := 2) rfl)) (by decide) (by decide)) q33a q33c (g := (mkF m 124 #[.val (.int p0), .val (.int p1), .val (.int p2), .val (.int p3), .val (.ref b1), .val (.int (1 : Int32)), .val (.int (0 : Int32))] [(.ref b1)])) rfl (by rw [hml]; rfl) (Steps.refl _) (argsL := []) (rest := []) (lenOf pd_6 rfl) rfl (by show 2 * 0 + _ ≤ _; exact Nat.le_of_eq rfl) (hb hby at_124) (fun _ _ => ⟨rfl, rfl, (by decide : 3 + 0 ≤ _), (by decide : 9 + 0 ≤ _)⟩)
        dsimp only [Pt.U, Pt.locs, Pt.cells, Pt.slots] at X33 l33 y33 z33 st33 hQ33
        subst l33 y33 z33
        obtain ⟨rfl, rfl, e33⟩ := hQ33
        have N33 := Fr.app N32 (Fr.nil n0)
        refine go (B := T33.setTop (mkF m 127 #[.val (.int p0), .val (.int p1), .val (.int p2), .val (.int p3), .val (.ref b1), .val (.int (1 : Int32)), .val (.int (0 : Int32))] [(.int (1 : Int32))])) (fun _ k => st33.trans k) ?_
        refine go (B := T33.setTop (mkF m 129 #[.val (.int p0), .val (.int p1), .val (.int p2), .val (.int p3), .val (.ref b1), .val (.int (1 : Int32)), .val (.int (0 : Int32))] [(.int (0 : Int32)), (.int (1 : Int32))])) (fun _ k => XS.iload X33.here hx rfl (hb hby at_127) rfl k) ?_
        refine go (B := T33.setTop (mkF m 132 #[.val (.int p0), .val (.int p1), .val (.int p2), .val (.int p3), .val (.ref b1), .val (.int (1 : Int32)), .val (.int (0 : Int32))] [(.int (1 : Int32))])) (fun _ k => XS.ifNo X33.here hx rfl (hb hby at_129) rfl ((if0 _ _).trans (teq (by decide : (0 : Int32) = (0 : Int32))).2) k) ?_
        refine go (B := T33.setTop (mkF m 133 #[.val (.int p0), .val (.int p1), .val (.int p2), .val (.int p3), .val (.ref b1), .val (.int (1 : Int32)), .val (.int (0 : Int32))] [(.int (1 : Int32)), (.int (1 : Int32))])) (fun _ k => XS.iconst X33.here hx rfl (hb hby at_132) k) ?_
        refine go (B := T33.setTop (mkF m 137 #[.val (.int p0), .val (.int p1), .val (.int p2), .val (.int p3), .val (.ref b1), .val (.int (1 : Int32)), .val (.int (0 : Int32))] [(.int (1 : Int32)), (.int (1 : Int32))])) (fun _ k => XS.goto X33.here hx rfl (pc0 := 133) (pc' := 137) rfl (hb hby at_133) (by decide) (by decide) k) ?_
        refine go (B := T33.setTop (mkF m 140 #[.val (.int p0), .val (.int p1), .val (.int p2), .val (.int p3), .val (.ref b1), .val (.int (1 : Int32)), .val (.int (0 : Int32))] [])) (fun _ k => XS.icmpNo X33.here hx rfl (hb hby at_137) rfl (teq (by decide : (1 : Int32) = (1 : Int32))).2 k) ?_
        refine go (B := T33.setTop (mkF m 141 #[.val (.int p0), .val (.int p1), .val (.int p2), .val (.int p3), .val (.ref b1), .val (.int (1 : Int32)), .val (.int (0 : Int32))] [(.int (1 : Int32))])) (fun _ k => XS.iconst X33.here hx rfl (hb hby at_140) k) ?_
        refine go (B := T33.setTop (mkF m 145 #[.val (.int p0), .val (.int p1), .val (.int p2), .val (.int p3), .val (.ref b1), .val (.int (1 : Int32)), .val (.int (0 : Int32))] [(.int (1 : Int32))])) (fun _ k => XS.goto X33.here hx rfl (pc0 := 141) (pc' := 145) rfl (hb hby at_141) (by decide) (by decide) k) ?_
        refine go (B := T33.setTop (mkF m 147 #[.val (.int p0), .val (.int p1), .val (.int p2), .val (.int p3), .val (.ref b1), .val (.int (1 : Int32)), .val (.int (0 : Int32))] [])) (fun _ k => XS.istore X33.here hx rfl (hb hby at_145) rfl (l' := #[.val (.int p0), .val (.int p1), .val (.int p2), .val (.int p3), .val (.ref b1), .val (.int (1 : Int32)), .val (.int (0 : Int32))]) rfl k) ?_
        refine go (B := T33.setTop (mkF m 149 #[.val (.int p0), .val (.int p1), .val (.int p2), .val (.int p3), .val (.ref b1), .val (.int (1 : Int32)), .val (.int (0 : Int32))] [(.ref b1)])) (fun _ k => XS.aload X33.here hx rfl (hb hby at_147) rfl rfl k) ?_
        refine go (B := T33.setTop (mkF m 150 #[.val (.int p0), .val (.int p1), .val (.int p2), .val (.int p3), .val (.ref b1), .val (.int (1 : Int32)), .val (.int (0 : Int32))] [(.int p0), (.ref b1)])) (fun _ k => XS.iloadN X33.here hx rfl (hb hby at_149) rfl k) ?_
        refine go (B := T33.setTop (mkF m 151 #[.val (.int p0), .val (.int p1), .val (.int p2), .val (.int p3), .val (.ref b1), .val (.int (1 : Int32)), .val (.int (0 : Int32))] [(.int (3 : Int32)), (.int p0), (.ref b1)])) (fun _ k => XS.iconst X33.here hx rfl (hb hby at_150) k) ?_
        refine go (B := T33.setTop (mkF m 152 #[.val (.int p0), .val (.int p1), .val (.int p2), .val (.int p3), .val (.ref b1), .val (.int (1 : Int32)), .val (.int (0 : Int32))] [(.int ((p0.toUInt32 >>> ((3 : Int32) &&& 31).toUInt32).toInt32)), (.ref b1)])) (fun _ k => XS.iushr X33.here hx rfl (hb hby at_151) rfl k) ?_
        refine go (B := T33.setTop (mkF m 154 #[.val (.int p0), .val (.int p1), .val (.int p2), .val (.int p3), .val (.ref b1), .val (.int (1 : Int32)), .val (.int (0 : Int32))] [(.int (0 : Int32)), (.int ((p0.toUInt32 >>> ((3 : Int32) &&& 31).toUInt32).toInt32)), (.ref b1)])) (fun _ k => XS.iload X33.here hx rfl (hb hby at_152) rfl k) ?_
        refine go (B := T33.setTop (mkF m 155 #[.val (.int p0), .val (.int p1), .val (.int p2), .val (.int p3), .val (.ref b1), .val (.int (1 : Int32)), .val (.int (0 : Int32))] [(.int p1), (.int (0 : Int32)), (.int ((p0.toUInt32 >>> ((3 : Int32) &&& 31).toUInt32).toInt32)), (.ref b1)])) (fun _ k => XS.iloadN X33.here hx rfl (hb hby at_154) rfl k) ?_
        refine go (B := T33.setTop (mkF m 156 #[.val (.int p0), .val (.int p1), .val (.int p2), .val (.int p3), .val (.ref b1), .val (.int (1 : Int32)), .val (.int (0 : Int32))] [(.int p2), (.int p1), (.int (0 : Int32)), (.int ((p0.toUInt32 >>> ((3 : Int32) &&& 31).toUInt32).toInt32)), (.ref b1)])) (fun _ k => XS.iloadN X33.here hx rfl (hb hby at_155) rfl k) ?_
        refine go (B := T33.setTop (mkF m 157 #[.val (.int p0), .val (.int p1), .val (.int p2), .val (.int p3), .val (.ref b1), .val (.int (1 : Int32)), .val (.int (0 : Int32))] [(.int (p1 ^^^ p2)), (.int (0 : Int32)), (.int ((p0.toUInt32 >>> ((3 : Int32) &&& 31).toUInt32).toInt32)), (.ref b1)])) (fun _ k => XS.ixor X33.here hx rfl (hb hby at_156) rfl k) ?_
        by_cases hc34 : (((p0.toUInt32 >>> ((3 : Int32) &&& 31).toUInt32).toInt32) &&& (1 : Int32)) = (0 : Int32)
        · obtain ⟨_, _, ⟨T35, L35, k35, n35⟩, -, X35, ⟨Lc35, hQ35, l35, y35, z35⟩, st35⟩ := Jvm.LawKit.callS X33 hx (y := (⟨"com/example/constrained_flow/constrainedflow/planner/search/LeastFirstIsEmptyPinLaw", "step", "(Lcom/example/constrained_flow/constrainedflow/planner/search/LeastFirst;III)I"⟩ : MethodName)) hown (mvT hZ (hw _ (List.mem_of_getElem? (i := 22) rfl))) (mvT hZ (hw _ (List.mem_of_getElem? (i := 23) rfl))) (mvT hZ (hw _ (List.mem_of_getElem? (i := 24) rfl))) (mvT hZ (hw _ (List.mem_of_getElem? (i := 25) rfl))) (by decide) (backOf (W := 0) (rm4n0t l Z aw hw [] b1 ((p0.toUInt32 >>> ((3 : Int32) &&& 31).toUInt32).toInt32) (p1 ^^^ p2) b2_2 b4_2 k2_2 K0_32 K1_32 K2_32 k4_2 M0_32 M1_32 M2_32 T32.heap n0 Z32 o32_1 o32_2 o32_3 o32_0 o32_4 o32_5 ne_b1_b2_2 ne_b1_b4_2 o2_2 g_b1 g_b2_2 g_b4_2 o32_6 o32_7 o32_8 (show (((p0.toUInt32 >>> ((3 : Int32) &&& 31).toUInt32).toInt32) &&& (1 : Int32)) = (0 : Int32) from hc34)) hZ (hw _ (List.mem_of_getElem? (i := 25) rfl)) (hw _ (List.mem_of_getElem? (i := 24) rfl)) (by decide) (by decide)) (g := (mkF m 157 #[.val (.int p0), .val (.int p1), .val (.int p2), .val (.int p3), .val (.ref b1), .val (.int (1 : Int32)), .val (.int (0 : Int32))] [(.int (p1 ^^^ p2)), (.int (0 : Int32)), (.int ((p0.toUInt32 >>> ((3 : Int32) &&& 31).toUInt32).toInt32)), (.ref b1)])) rfl (by rw [hml]; rfl) (argsL := [(.ref b1), (.int ((p0.toUInt32 >>> ((3 : Int32) &&& 31).toUInt32).toInt32)), (.int (0 : Int32)), (.int (p1 ^^^ p2))]) (rest := []) (lenOf pd_7 rfl) rfl (by show 2 * 0 + _ ≤ _; exact Nat.le_of_eq rfl) (hb hby at_157) (fun _ _ => ⟨rfl, e33, (by decide : 3 + 0 ≤ _), (by decide : 9 + 0 ≤ _)⟩)
          dsimp only [Pt.U, Pt.locs, Pt.cells, Pt.slots] at X35 l35 y35 z35 st35 hQ35
          subst l35 y35 z35
          obtain ⟨K0_35, K1_35, K2_35, M0_35, M1_35, M2_35, rfl, N35q, Kc35, o35_0, o35_1, o35_2, o35_3, o35_4, o35_5, o35_6, o35_7, o35_8⟩ := hQ35
          have E_b1_35 := o32_0.keep Kc35
          have N35 := Fr.app N33 N35q
          have Z35 := Nat.le_trans Z32 Kc35.1
          refine go (B := T35.setTop (mkF m 160 #[.val (.int p0), .val (.int p1), .val (.int p2), .val (.int p3), .val (.ref b1), .val (.int (1 : Int32)), .val (.int (0 : Int32))] [(.int (0 : Int32))])) (fun _ k => st35 _ k) ?_
          refine go (B := T35.setTop (mkF m 162 #[.val (.int p0), .val (.int p1), .val (.int p2), .val (.int p3), .val (.ref b1), .val (.int (1 : Int32)), .val (.int (0 : Int32))] [])) (fun _ k => XS.istore X35.here hx rfl (hb hby at_160) rfl (l' := #[.val (.int p0), .val (.int p1), .val (.int p2), .val (.int p3), .val (.ref b1), .val (.int (1 : Int32)), .val (.int (0 : Int32))]) rfl k) ?_
          refine go (B := T35.setTop (mkF m 164 #[.val (.int p0), .val (.int p1), .val (.int p2), .val (.int p3), .val (.ref b1), .val (.int (1 : Int32)), .val (.int (0 : Int32))] [(.int (1 : Int32))])) (fun _ k => XS.iload X35.here hx rfl (hb hby at_162) rfl k) ?_
          refine go (B := T35.setTop (mkF m 167 #[.val (.int p0), .val (.int p1), .val (.int p2), .val (.int p3), .val (.ref b1), .val (.int (1 : Int32)), .val (.int (0 : Int32))] [])) (fun _ k => XS.ifNo X35.here hx rfl (hb hby at_164) rfl ((if0 _ _).trans (feq (by decide : ¬ ((1 : Int32) = (0 : Int32)))).1) k) ?_
          refine go (B := T35.setTop (mkF m 169 #[.val (.int p0), .val (.int p1), .val (.int p2), .val (.int p3), .val (.ref b1), .val (.int (1 : Int32)), .val (.int (0 : Int32))] [(.ref b1)])) (fun _ k => XS.aload X35.here hx rfl (hb hby at_167) rfl rfl k) ?_
          obtain ⟨cq36, kq36, q36a, q36b, q36c⟩ := isOf hZ rfl o35_0
          obtain ⟨_, _, ⟨T36, L36, k36, n36⟩, -, X36, ⟨Lc36, hQ36, l36, y36, z36⟩, st36⟩ := X35.virtualBack hx (y := (⟨"com/example/constrained_flow/constrainedflow/planner/search/LeastFirst", "isEmpty", "()Z"⟩ : MethodName)) (z := (⟨"com/example/constrained_flow/constrainedflow/planner/search/LeastFirst", "isEmpty", "()Z"⟩ : MethodName)) hown (mvT hZ (hw _ (List.mem_of_getElem? (i := 15) rfl))) (mvT hZ (hw _ (List.mem_of_getElem? (i := 16) rfl))) (notFace_of_selects (args := #[]) (mvT hZ (hw _ (List.mem_of_getElem? (i := 18) rfl)))) (mvT hZ (hw _ (List.mem_of_getElem? (i := 18) rfl))) (mvT hZ (hw _ (List.mem_of_getElem? (i := 17) rfl))) (by decide) (backOf (W := 0) (rm3 l Z aw hw [] b1 (0 : Int32) T35.heap n0 Z35 o35_3) hZ (hw _ (List.mem_of_getElem? (i := 19) rfl)) (hw _ (List.mem_of_getElem? (i := 2) rfl)) (by decide) (by decide)) q36a q36c (g := (mkF m 169 #[.val (.int p0), .val (.int p1), .val (.int p2), .val (.int p3), .val (.ref b1), .val (.int (1 : Int32)), .val (.int (0 : Int32))] [(.ref b1)])) rfl (by rw [hml]; rfl) (Steps.refl _) (argsL := []) (rest := []) (lenOf pd_6 rfl) rfl (by show 2 * 0 + _ ≤ _; exact Nat.le_of_eq rfl) (hb hby at_169) (fun _ _ => ⟨rfl, rfl, (by decide : 3 + 0 ≤ _), (by decide : 9 + 0 ≤ _)⟩)
          dsimp only [Pt.U, Pt.locs, Pt.cells, Pt.slots] at X36 l36 y36 z36 st36 hQ36
          subst l36 y36 z36
          obtain ⟨rfl, rfl, e36⟩ := hQ36
          have N36 := Fr.app N35 (Fr.nil n0)
          refine go (B := T36.setTop (mkF m 172 #[.val (.int p0), .val (.int p1), .val (.int p2), .val (.int p3), .val (.ref b1), .val (.int (1 : Int32)), .val (.int (0 : Int32))] [(.int (1 : Int32))])) (fun _ k => st36.trans k) ?_
          refine go (B := T36.setTop (mkF m 174 #[.val (.int p0), .val (.int p1), .val (.int p2), .val (.int p3), .val (.ref b1), .val (.int (1 : Int32)), .val (.int (0 : Int32))] [(.int (0 : Int32)), (.int (1 : Int32))])) (fun _ k => XS.iload X36.here hx rfl (hb hby at_172) rfl k) ?_
          refine go (B := T36.setTop (mkF m 177 #[.val (.int p0), .val (.int p1), .val (.int p2), .val (.int p3), .val (.ref b1), .val (.int (1 : Int32)), .val (.int (0 : Int32))] [(.int (1 : Int32))])) (fun _ k => XS.ifNo X36.here hx rfl (hb hby at_174) rfl ((if0 _ _).trans (teq (by decide : (0 : Int32) = (0 : Int32))).2) k) ?_
          refine go (B := T36.setTop (mkF m 178 #[.val (.int p0), .val (.int p1), .val (.int p2), .val (.int p3), .val (.ref b1), .val (.int (1 : Int32)), .val (.int (0 : Int32))] [(.int (1 : Int32)), (.int (1 : Int32))])) (fun _ k => XS.iconst X36.here hx rfl (hb hby at_177) k) ?_
          refine go (B := T36.setTop (mkF m 182 #[.val (.int p0), .val (.int p1), .val (.int p2), .val (.int p3), .val (.ref b1), .val (.int (1 : Int32)), .val (.int (0 : Int32))] [(.int (1 : Int32)), (.int (1 : Int32))])) (fun _ k => XS.goto X36.here hx rfl (pc0 := 178) (pc' := 182) rfl (hb hby at_178) (by decide) (by decide) k) ?_
          refine go (B := T36.setTop (mkF m 185 #[.val (.int p0), .val (.int p1), .val (.int p2), .val (.int p3), .val (.ref b1), .val (.int (1 : Int32)), .val (.int (0 : Int32))] [])) (fun _ k => XS.icmpNo X36.here hx rfl (hb hby at_182) rfl (teq (by decide : (1 : Int32) = (1 : Int32))).2 k) ?_
          refine go (B := T36.setTop (mkF m 186 #[.val (.int p0), .val (.int p1), .val (.int p2), .val (.int p3), .val (.ref b1), .val (.int (1 : Int32)), .val (.int (0 : Int32))] [(.int (1 : Int32))])) (fun _ k => XS.iconst X36.here hx rfl (hb hby at_185) k) ?_
          refine go (B := T36.setTop (mkF m 190 #[.val (.int p0), .val (.int p1), .val (.int p2), .val (.int p3), .val (.ref b1), .val (.int (1 : Int32)), .val (.int (0 : Int32))] [(.int (1 : Int32))])) (fun _ k => XS.goto X36.here hx rfl (pc0 := 186) (pc' := 190) rfl (hb hby at_186) (by decide) (by decide) k) ?_
          refine go (B := T36.setTop (mkF m 192 #[.val (.int p0), .val (.int p1), .val (.int p2), .val (.int p3), .val (.ref b1), .val (.int (1 : Int32)), .val (.int (0 : Int32))] [])) (fun _ k => XS.istore X36.here hx rfl (hb hby at_190) rfl (l' := #[.val (.int p0), .val (.int p1), .val (.int p2), .val (.int p3), .val (.ref b1), .val (.int (1 : Int32)), .val (.int (0 : Int32))]) rfl k) ?_
          refine go (B := T36.setTop (mkF m 194 #[.val (.int p0), .val (.int p1), .val (.int p2), .val (.int p3), .val (.ref b1), .val (.int (1 : Int32)), .val (.int (0 : Int32))] [(.int (1 : Int32))])) (fun _ k => XS.iload X36.here hx rfl (hb hby at_192) rfl k) ?_
          have r37 : (f0 p0) = (1 : Int32) := by unfold f0; rw [if_pos hc4, if_neg hc7, if_pos hc31, if_pos hc34]
          exact end_nar X36 hx Bd.notSynchronized (t := .boolean) Bd.returns (by simp) (hb hby at_194) hF e36 (by decide) (by decide) ⟨(congrArg (fun z => some (Value.int z)) (r37.symm.trans (own_law p0))), N36⟩
        · obtain ⟨_, _, ⟨T38, L38, k38, n38⟩, -, X38, ⟨Lc38, hQ38, l38, y38, z38⟩, st38⟩ := Jvm.LawKit.callS X33 hx (y := (⟨"com/example/constrained_flow/constrainedflow/planner/search/LeastFirstIsEmptyPinLaw", "step", "(Lcom/example/constrained_flow/constrainedflow/planner/search/LeastFirst;III)I"⟩ : MethodName)) hown (mvT hZ (hw _ (List.mem_of_getElem? (i := 22) rfl))) (mvT hZ (hw _ (List.mem_of_getElem? (i := 23) rfl))) (mvT hZ (hw _ (List.mem_of_getElem? (i := 24) rfl))) (mvT hZ (hw _ (List.mem_of_getElem? (i := 25) rfl))) (by decide) (backOf (W := 0) (rm4n0a l Z aw hw [] b1 ((p0.toUInt32 >>> ((3 : Int32) &&& 31).toUInt32).toInt32) (p1 ^^^ p2) b2_2 b4_2 k2_2 K0_32 K1_32 K2_32 k4_2 M0_32 M1_32 M2_32 T32.heap n0 Z32 o32_1 o32_2 o32_3 o32_0 o32_4 o32_5 ne_b1_b2_2 ne_b1_b4_2 o2_2 g_b1 g_b2_2 g_b4_2 o32_6 o32_7 o32_8 (show ¬ ((((p0.toUInt32 >>> ((3 : Int32) &&& 31).toUInt32).toInt32) &&& (1 : Int32)) = (0 : Int32)) from hc34)) hZ (hw _ (List.mem_of_getElem? (i := 25) rfl)) (hw _ (List.mem_of_getElem? (i := 24) rfl)) (by decide) (by decide)) (g := (mkF m 157 #[.val (.int p0), .val (.int p1), .val (.int p2), .val (.int p3), .val (.ref b1), .val (.int (1 : Int32)), .val (.int (0 : Int32))] [(.int (p1 ^^^ p2)), (.int (0 : Int32)), (.int ((p0.toUInt32 >>> ((3 : Int32) &&& 31).toUInt32).toInt32)), (.ref b1)])) rfl (by rw [hml]; rfl) (argsL := [(.ref b1), (.int ((p0.toUInt32 >>> ((3 : Int32) &&& 31).toUInt32).toInt32)), (.int (0 : Int32)), (.int (p1 ^^^ p2))]) (rest := []) (lenOf pd_7 rfl) rfl (by show 2 * 0 + _ ≤ _; exact Nat.le_of_eq rfl) (hb hby at_157) (fun _ _ => ⟨rfl, e33, (by decide : 3 + 0 ≤ _), (by decide : 9 + 0 ≤ _)⟩)
          dsimp only [Pt.U, Pt.locs, Pt.cells, Pt.slots] at X38 l38 y38 z38 st38 hQ38
          subst l38 y38 z38
          obtain ⟨K0_38, K1_38, K2_38, M0_38, M1_38, M2_38, rfl, N38q, Kc38, o38_0, o38_1, o38_2, o38_3, o38_4, o38_5, o38_6, o38_7, o38_8⟩ := hQ38
          have E_b1_38 := o32_0.keep Kc38
          have N38 := Fr.app N33 N38q
          have Z38 := Nat.le_trans Z32 Kc38.1
          refine go (B := T38.setTop (mkF m 160 #[.val (.int p0), .val (.int p1), .val (.int p2), .val (.int p3), .val (.ref b1), .val (.int (1 : Int32)), .val (.int (0 : Int32))] [(.int (1 : Int32))])) (fun _ k => st38 _ k) ?_
          refine go (B := T38.setTop (mkF m 162 #[.val (.int p0), .val (.int p1), .val (.int p2), .val (.int p3), .val (.ref b1), .val (.int (1 : Int32)), .val (.int (1 : Int32))] [])) (fun _ k => XS.istore X38.here hx rfl (hb hby at_160) rfl (l' := #[.val (.int p0), .val (.int p1), .val (.int p2), .val (.int p3), .val (.ref b1), .val (.int (1 : Int32)), .val (.int (1 : Int32))]) rfl k) ?_
          refine go (B := T38.setTop (mkF m 164 #[.val (.int p0), .val (.int p1), .val (.int p2), .val (.int p3), .val (.ref b1), .val (.int (1 : Int32)), .val (.int (1 : Int32))] [(.int (1 : Int32))])) (fun _ k => XS.iload X38.here hx rfl (hb hby at_162) rfl k) ?_
          refine go (B := T38.setTop (mkF m 167 #[.val (.int p0), .val (.int p1), .val (.int p2), .val (.int p3), .val (.ref b1), .val (.int (1 : Int32)), .val (.int (1 : Int32))] [])) (fun _ k => XS.ifNo X38.here hx rfl (hb hby at_164) rfl ((if0 _ _).trans (feq (by decide : ¬ ((1 : Int32) = (0 : Int32)))).1) k) ?_
          refine go (B := T38.setTop (mkF m 169 #[.val (.int p0), .val (.int p1), .val (.int p2), .val (.int p3), .val (.ref b1), .val (.int (1 : Int32)), .val (.int (1 : Int32))] [(.ref b1)])) (fun _ k => XS.aload X38.here hx rfl (hb hby at_167) rfl rfl k) ?_
          obtain ⟨cq39, kq39, q39a, q39b, q39c⟩ := isOf hZ rfl o38_0
          obtain ⟨_, _, ⟨T39, L39, k39, n39⟩, -, X39, ⟨Lc39, hQ39, l39, y39, z39⟩, st39⟩ := X38.virtualBack hx (y := (⟨"com/example/constrained_flow/constrainedflow/planner/search/LeastFirst", "isEmpty", "()Z"⟩ : MethodName)) (z := (⟨"com/example/constrained_flow/constrainedflow/planner/search/LeastFirst", "isEmpty", "()Z"⟩ : MethodName)) hown (mvT hZ (hw _ (List.mem_of_getElem? (i := 15) rfl))) (mvT hZ (hw _ (List.mem_of_getElem? (i := 16) rfl))) (notFace_of_selects (args := #[]) (mvT hZ (hw _ (List.mem_of_getElem? (i := 18) rfl)))) (mvT hZ (hw _ (List.mem_of_getElem? (i := 18) rfl))) (mvT hZ (hw _ (List.mem_of_getElem? (i := 17) rfl))) (by decide) (backOf (W := 0) (rm3 l Z aw hw [] b1 (1 : Int32) T38.heap n0 Z38 o38_3) hZ (hw _ (List.mem_of_getElem? (i := 19) rfl)) (hw _ (List.mem_of_getElem? (i := 2) rfl)) (by decide) (by decide)) q39a q39c (g := (mkF m 169 #[.val (.int p0), .val (.int p1), .val (.int p2), .val (.int p3), .val (.ref b1), .val (.int (1 : Int32)), .val (.int (1 : Int32))] [(.ref b1)])) rfl (by rw [hml]; rfl) (Steps.refl _) (argsL := []) (rest := []) (lenOf pd_6 rfl) rfl (by show 2 * 0 + _ ≤ _; exact Nat.le_of_eq rfl) (hb hby at_169) (fun _ _ => ⟨rfl, rfl, (by decide : 3 + 0 ≤ _), (by decide : 9 + 0 ≤ _)⟩)
          dsimp only [Pt.U, Pt.locs, Pt.cells, Pt.slots] at X39 l39 y39 z39 st39 hQ39
          subst l39 y39 z39
          obtain ⟨rfl, rfl, e39⟩ := hQ39
          have N39 := Fr.app N38 (Fr.nil n0)
          refine go (B := T39.setTop (mkF m 172 #[.val (.int p0), .val (.int p1), .val (.int p2), .val (.int p3), .val (.ref b1), .val (.int (1 : Int32)), .val (.int (1 : Int32))] [(.int (0 : Int32))])) (fun _ k => st39.trans k) ?_
          refine go (B := T39.setTop (mkF m 174 #[.val (.int p0), .val (.int p1), .val (.int p2), .val (.int p3), .val (.ref b1), .val (.int (1 : Int32)), .val (.int (1 : Int32))] [(.int (1 : Int32)), (.int (0 : Int32))])) (fun _ k => XS.iload X39.here hx rfl (hb hby at_172) rfl k) ?_
          refine go (B := T39.setTop (mkF m 181 #[.val (.int p0), .val (.int p1), .val (.int p2), .val (.int p3), .val (.ref b1), .val (.int (1 : Int32)), .val (.int (1 : Int32))] [(.int (0 : Int32))])) (fun _ k => XS.ifYes X39.here hx rfl (pc0 := 174) (pc' := 181) rfl (hb hby at_174) rfl ((if0 _ _).trans (feq (by decide : ¬ ((1 : Int32) = (0 : Int32)))).2) (by decide) (by decide) k) ?_
          refine go (B := T39.setTop (mkF m 182 #[.val (.int p0), .val (.int p1), .val (.int p2), .val (.int p3), .val (.ref b1), .val (.int (1 : Int32)), .val (.int (1 : Int32))] [(.int (0 : Int32)), (.int (0 : Int32))])) (fun _ k => XS.iconst X39.here hx rfl (hb hby at_181) k) ?_
          refine go (B := T39.setTop (mkF m 185 #[.val (.int p0), .val (.int p1), .val (.int p2), .val (.int p3), .val (.ref b1), .val (.int (1 : Int32)), .val (.int (1 : Int32))] [])) (fun _ k => XS.icmpNo X39.here hx rfl (hb hby at_182) rfl (teq (by decide : (0 : Int32) = (0 : Int32))).2 k) ?_
          refine go (B := T39.setTop (mkF m 186 #[.val (.int p0), .val (.int p1), .val (.int p2), .val (.int p3), .val (.ref b1), .val (.int (1 : Int32)), .val (.int (1 : Int32))] [(.int (1 : Int32))])) (fun _ k => XS.iconst X39.here hx rfl (hb hby at_185) k) ?_
          refine go (B := T39.setTop (mkF m 190 #[.val (.int p0), .val (.int p1), .val (.int p2), .val (.int p3), .val (.ref b1), .val (.int (1 : Int32)), .val (.int (1 : Int32))] [(.int (1 : Int32))])) (fun _ k => XS.goto X39.here hx rfl (pc0 := 186) (pc' := 190) rfl (hb hby at_186) (by decide) (by decide) k) ?_
          refine go (B := T39.setTop (mkF m 192 #[.val (.int p0), .val (.int p1), .val (.int p2), .val (.int p3), .val (.ref b1), .val (.int (1 : Int32)), .val (.int (1 : Int32))] [])) (fun _ k => XS.istore X39.here hx rfl (hb hby at_190) rfl (l' := #[.val (.int p0), .val (.int p1), .val (.int p2), .val (.int p3), .val (.ref b1), .val (.int (1 : Int32)), .val (.int (1 : Int32))]) rfl k) ?_
          refine go (B := T39.setTop (mkF m 194 #[.val (.int p0), .val (.int p1), .val (.int p2), .val (.int p3), .val (.ref b1), .val (.int (1 : Int32)), .val (.int (1 : Int32))] [(.int (1 : Int32))])) (fun _ k => XS.iload X39.here hx rfl (hb hby at_192) rfl k) ?_
          have r40 : (f0 p0) = (1 : Int32) := by unfold f0; rw [if_pos hc4, if_neg hc7, if_pos hc31, if_neg hc34]
          exact end_nar X39 hx Bd.notSynchronized (t := .boolean) Bd.returns (by simp) (hb hby at_194) hF e39 (by decide) (by decide) ⟨(congrArg (fun z => some (Value.int z)) (r40.symm.trans (own_law p0))), N39⟩
      · obtain ⟨_, _, ⟨T41, L41, k41, n41⟩, -, X41, ⟨Lc41, hQ41, l41, y41, z41⟩, st41⟩ := Jvm.LawKit.callS X30 hx (y := (⟨"com/example/constrained_flow/constrainedflow/planner/search/LeastFirstIsEmptyPinLaw", "step", "(Lcom/example/constrained_flow/constrainedflow/planner/search/LeastFirst;III)I"⟩ : MethodName)) hown (mvT hZ (hw _ (List.mem_of_getElem? (i := 22) rfl))) (mvT hZ (hw _ (List.mem_of_getElem? (i := 23) rfl))) (mvT hZ (hw _ (List.mem_of_getElem? (i := 24) rfl))) (mvT hZ (hw _ (List.mem_of_getElem? (i := 25) rfl))) (by decide) (backOf (W := 0) (rm4n1a l Z aw hw [] b1 ((p0.toUInt32 >>> ((2 : Int32) &&& 31).toUInt32).toInt32) p3 b2_2 b4_2 k2_2 K0_29 K1_29 K2_29 k4_2 M0_29 M1_29 M2_29 T29.heap n0 Z29 o29_1 o29_2 o29_3 o29_0 o29_4 o29_5 ne_b1_b2_2 ne_b1_b4_2 o2_2 g_b1 g_b2_2 g_b4_2 o29_6 o29_7 o29_8 (show ¬ ((((p0.toUInt32 >>> ((2 : Int32) &&& 31).toUInt32).toInt32) &&& (1 : Int32)) = (0 : Int32)) from hc31)) hZ (hw _ (List.mem_of_getElem? (i := 25) rfl)) (hw _ (List.mem_of_getElem? (i := 24) rfl)) (by decide) (by decide)) (g := (mkF m 112 #[.val (.int p0), .val (.int p1), .val (.int p2), .val (.int p3), .val (.ref b1), .val (.int (1 : Int32)), .val (.int (1 : Int32))] [(.int p3), (.int (1 : Int32)), (.int ((p0.toUInt32 >>> ((2 : Int32) &&& 31).toUInt32).toInt32)), (.ref b1)])) rfl (by rw [hml]; rfl) (argsL := [(.ref b1), (.int ((p0.toUInt32 >>> ((2 : Int32) &&& 31).toUInt32).toInt32)), (.int (1 : Int32)), (.int p3)]) (rest := []) (lenOf pd_7 rfl) rfl (by show 2 * 0 + _ ≤ _; exact Nat.le_of_eq rfl) (hb hby at_112) (fun _ _ => ⟨rfl, e30, (by decide : 3 + 0 ≤ _), (by decide : 9 + 0 ≤ _)⟩)
        dsimp only [Pt.U, Pt.locs, Pt.cells, Pt.slots] at X41 l41 y41 z41 st41 hQ41
        subst l41 y41 z41
        obtain ⟨K0_41, K1_41, K2_41, M0_41, M1_41, M2_41, rfl, N41q, Kc41, o41_0, o41_1, o41_2, o41_3, o41_4, o41_5, o41_6, o41_7, o41_8⟩ := hQ41
        have E_b1_41 := o29_0.keep Kc41
        have N41 := Fr.app N30 N41q
        have Z41 := Nat.le_trans Z29 Kc41.1
        refine go (B := T41.setTop (mkF m 115 #[.val (.int p0), .val (.int p1), .val (.int p2), .val (.int p3), .val (.ref b1), .val (.int (1 : Int32)), .val (.int (1 : Int32))] [(.int (2 : Int32))])) (fun _ k => st41 _ k) ?_
        refine go (B := T41.setTop (mkF m 117 #[.val (.int p0), .val (.int p1), .val (.int p2), .val (.int p3), .val (.ref b1), .val (.int (1 : Int32)), .val (.int (2 : Int32))] [])) (fun _ k => XS.istore X41.here hx rfl (hb hby at_115) rfl (l' := #[.val (.int p0), .val (.int p1), .val (.int p2), .val (.int p3), .val (.ref b1), .val (.int (1 : Int32)), .val (.int (2 : Int32))]) rfl k) ?_
        refine go (B := T41.setTop (mkF m 119 #[.val (.int p0), .val (.int p1), .val (.int p2), .val (.int p3), .val (.ref b1), .val (.int (1 : Int32)), .val (.int (2 : Int32))] [(.int (1 : Int32))])) (fun _ k => XS.iload X41.here hx rfl (hb hby at_117) rfl k) ?_
        refine go (B := T41.setTop (mkF m 122 #[.val (.int p0), .val (.int p1), .val (.int p2), .val (.int p3), .val (.ref b1), .val (.int (1 : Int32)), .val (.int (2 : Int32))] [])) (fun _ k => XS.ifNo X41.here hx rfl (hb hby at_119) rfl ((if0 _ _).trans (feq (by decide : ¬ ((1 : Int32) = (0 : Int32)))).1) k) ?_
        refine go (B := T41.setTop (mkF m 124 #[.val (.int p0), .val (.int p1), .val (.int p2), .val (.int p3), .val (.ref b1), .val (.int (1 : Int32)), .val (.int (2 : Int32))] [(.ref b1)])) (fun _ k => XS.aload X41.here hx rfl (hb hby at_122) rfl rfl k) ?_
        obtain ⟨cq42, kq42, q42a, q42b, q42c⟩ := isOf hZ rfl o41_0
        obtain ⟨_, _, ⟨T42, L42, k42, n42⟩, -, X42, ⟨Lc42, hQ42, l42, y42, z42⟩, st42⟩ := X41.virtualBack hx (y := (⟨"com/example/constrained_flow/constrainedflow/planner/search/LeastFirst", "isEmpty", "()Z"⟩ : MethodName)) (z := (⟨"com/example/constrained_flow/constrainedflow/planner/search/LeastFirst", "isEmpty", "()Z"⟩ : MethodName)) hown (mvT hZ (hw _ (List.mem_of_getElem? (i := 15) rfl))) (mvT hZ (hw _ (List.mem_of_getElem? (i := 16) rfl))) (notFace_of_selects (args := #[]) (mvT hZ (hw _ (List.mem_of_getElem? (i := 18) rfl)))) (mvT hZ (hw _ (List.mem_of_getElem? (i := 18) rfl))) (mvT hZ (hw _ (List.mem_of_getElem? (i := 17) rfl))) (by decide) (backOf (W := 0) (rm3 l Z aw hw [] b1 (2 : Int32) T41.heap n0 Z41 o41_3) hZ (hw _ (List.mem_of_getElem? (i := 19) rfl)) (hw _ (List.mem_of_getElem? (i := 2) rfl)) (by decide) (by decide)) q42a q42c (g := (mkF m 124 #[.val (.int p0), .val (.int p1), .val (.int p2), .val (.int p3), .val (.ref b1), .val (.int (1 : Int32)), .val (.int (2 : Int32))] [(.ref b1)])) rfl (by rw [hml]; rfl) (Steps.refl _) (argsL := []) (rest := []) (lenOf pd_6 rfl) rfl (by show 2 * 0 + _ ≤ _; exact Nat.le_of_eq rfl) (hb hby at_124) (fun _ _ => ⟨rfl, rfl, (by decide : 3 + 0 ≤ _), (by decide : 9 + 0 ≤ _)⟩)
        dsimp only [Pt.U, Pt.locs, Pt.cells, Pt.slots] at X42 l42 y42 z42 st42 hQ42
        subst l42 y42 z42
        obtain ⟨rfl, rfl, e42⟩ := hQ42
        have N42 := Fr.app N41 (Fr.nil n0)
        refine go (B := T42.setTop (mkF m 127 #[.val (.int p0), .val (.int p1), .val (.int p2), .val (.int p3), .val (.ref b1), .val (.int (1 : Int32)), .val (.int (2 : Int32))] [(.int (0 : Int32))])) (fun _ k => st42.trans k) ?_
        refine go (B := T42.setTop (mkF m 129 #[.val (.int p0), .val (.int p1), .val (.int p2), .val (.int p3), .val (.ref b1), .val (.int (1 : Int32)), .val (.int (2 : Int32))] [(.int (2 : Int32)), (.int (0 : Int32))])) (fun _ k => XS.iload X42.here hx rfl (hb hby at_127) rfl k) ?_
        refine go (B := T42.setTop (mkF m 136 #[.val (.int p0), .val (.int p1), .val (.int p2), .val (.int p3), .val (.ref b1), .val (.int (1 : Int32)), .val (.int (2 : Int32))] [(.int (0 : Int32))])) (fun _ k => XS.ifYes X42.here hx rfl (pc0 := 129) (pc' := 136) rfl (hb hby at_129) rfl ((if0 _ _).trans (feq (by decide : ¬ ((2 : Int32) = (0 : Int32)))).2) (by decide) (by decide) k) ?_
        refine go (B := T42.setTop (mkF m 137 #[.val (.int p0), .val (.int p1), .val (.int p2), .val (.int p3), .val (.ref b1), .val (.int (1 : Int32)), .val (.int (2 : Int32))] [(.int (0 : Int32)), (.int (0 : Int32))])) (fun _ k => XS.iconst X42.here hx rfl (hb hby at_136) k) ?_
        refine go (B := T42.setTop (mkF m 140 #[.val (.int p0), .val (.int p1), .val (.int p2), .val (.int p3), .val (.ref b1), .val (.int (1 : Int32)), .val (.int (2 : Int32))] [])) (fun _ k => XS.icmpNo X42.here hx rfl (hb hby at_137) rfl (teq (by decide : (0 : Int32) = (0 : Int32))).2 k) ?_
        refine go (B := T42.setTop (mkF m 141 #[.val (.int p0), .val (.int p1), .val (.int p2), .val (.int p3), .val (.ref b1), .val (.int (1 : Int32)), .val (.int (2 : Int32))] [(.int (1 : Int32))])) (fun _ k => XS.iconst X42.here hx rfl (hb hby at_140) k) ?_
        refine go (B := T42.setTop (mkF m 145 #[.val (.int p0), .val (.int p1), .val (.int p2), .val (.int p3), .val (.ref b1), .val (.int (1 : Int32)), .val (.int (2 : Int32))] [(.int (1 : Int32))])) (fun _ k => XS.goto X42.here hx rfl (pc0 := 141) (pc' := 145) rfl (hb hby at_141) (by decide) (by decide) k) ?_
        refine go (B := T42.setTop (mkF m 147 #[.val (.int p0), .val (.int p1), .val (.int p2), .val (.int p3), .val (.ref b1), .val (.int (1 : Int32)), .val (.int (2 : Int32))] [])) (fun _ k => XS.istore X42.here hx rfl (hb hby at_145) rfl (l' := #[.val (.int p0), .val (.int p1), .val (.int p2), .val (.int p3), .val (.ref b1), .val (.int (1 : Int32)), .val (.int (2 : Int32))]) rfl k) ?_
        refine go (B := T42.setTop (mkF m 149 #[.val (.int p0), .val (.int p1), .val (.int p2), .val (.int p3), .val (.ref b1), .val (.int (1 : Int32)), .val (.int (2 : Int32))] [(.ref b1)])) (fun _ k => XS.aload X42.here hx rfl (hb hby at_147) rfl rfl k) ?_
        refine go (B := T42.setTop (mkF m 150 #[.val (.int p0), .val (.int p1), .val (.int p2), .val (.int p3), .val (.ref b1), .val (.int (1 : Int32)), .val (.int (2 : Int32))] [(.int p0), (.ref b1)])) (fun _ k => XS.iloadN X42.here hx rfl (hb hby at_149) rfl k) ?_
        refine go (B := T42.setTop (mkF m 151 #[.val (.int p0), .val (.int p1), .val (.int p2), .val (.int p3), .val (.ref b1), .val (.int (1 : Int32)), .val (.int (2 : Int32))] [(.int (3 : Int32)), (.int p0), (.ref b1)])) (fun _ k => XS.iconst X42.here hx rfl (hb hby at_150) k) ?_
        refine go (B := T42.setTop (mkF m 152 #[.val (.int p0), .val (.int p1), .val (.int p2), .val (.int p3), .val (.ref b1), .val (.int (1 : Int32)), .val (.int (2 : Int32))] [(.int ((p0.toUInt32 >>> ((3 : Int32) &&& 31).toUInt32).toInt32)), (.ref b1)])) (fun _ k => XS.iushr X42.here hx rfl (hb hby at_151) rfl k) ?_
        refine go (B := T42.setTop (mkF m 154 #[.val (.int p0), .val (.int p1), .val (.int p2), .val (.int p3), .val (.ref b1), .val (.int (1 : Int32)), .val (.int (2 : Int32))] [(.int (2 : Int32)), (.int ((p0.toUInt32 >>> ((3 : Int32) &&& 31).toUInt32).toInt32)), (.ref b1)])) (fun _ k => XS.iload X42.here hx rfl (hb hby at_152) rfl k) ?_
        refine go (B := T42.setTop (mkF m 155 #[.val (.int p0), .val (.int p1), .val (.int p2), .val (.int p3), .val (.ref b1), .val (.int (1 : Int32)), .val (.int (2 : Int32))] [(.int p1), (.int (2 : Int32)), (.int ((p0.toUInt32 >>> ((3 : Int32) &&& 31).toUInt32).toInt32)), (.ref b1)])) (fun _ k => XS.iloadN X42.here hx rfl (hb hby at_154) rfl k) ?_
        refine go (B := T42.setTop (mkF m 156 #[.val (.int p0), .val (.int p1), .val (.int p2), .val (.int p3), .val (.ref b1), .val (.int (1 : Int32)), .val (.int (2 : Int32))] [(.int p2), (.int p1), (.int (2 : Int32)), (.int ((p0.toUInt32 >>> ((3 : Int32) &&& 31).toUInt32).toInt32)), (.ref b1)])) (fun _ k => XS.iloadN X42.here hx rfl (hb hby at_155) rfl k) ?_
        refine go (B := T42.setTop (mkF m 157 #[.val (.int p0), .val (.int p1), .val (.int p2), .val (.int p3), .val (.ref b1), .val (.int (1 : Int32)), .val (.int (2 : Int32))] [(.int (p1 ^^^ p2)), (.int (2 : Int32)), (.int ((p0.toUInt32 >>> ((3 : Int32) &&& 31).toUInt32).toInt32)), (.ref b1)])) (fun _ k => XS.ixor X42.here hx rfl (hb hby at_156) rfl k) ?_
        by_cases hc43 : (((p0.toUInt32 >>> ((3 : Int32) &&& 31).toUInt32).toInt32) &&& (1 : Int32)) = (0 : Int32)
        · obtain ⟨_, _, ⟨T44, L44, k44, n44⟩, -, X44, ⟨Lc44, hQ44, l44, y44, z44⟩, st44⟩ := Jvm.LawKit.callS X42 hx (y := (⟨"com/example/constrained_flow/constrainedflow/planner/search/LeastFirstIsEmptyPinLaw", "step", "(Lcom/example/constrained_flow/constrainedflow/planner/search/LeastFirst;III)I"⟩ : MethodName)) hown (mvT hZ (hw _ (List.mem_of_getElem? (i := 22) rfl))) (mvT hZ (hw _ (List.mem_of_getElem? (i := 23) rfl))) (mvT hZ (hw _ (List.mem_of_getElem? (i := 24) rfl))) (mvT hZ (hw _ (List.mem_of_getElem? (i := 25) rfl))) (by decide) (backOf (W := 0) (rm4n2t l Z aw hw [] b1 ((p0.toUInt32 >>> ((3 : Int32) &&& 31).toUInt32).toInt32) (p1 ^^^ p2) b2_2 b4_2 k2_2 K0_41 K1_41 K2_41 k4_2 M0_41 M1_41 M2_41 T41.heap n0 Z41 o41_1 o41_2 o41_3 o41_0 o41_4 o41_5 ne_b1_b2_2 ne_b1_b4_2 o2_2 g_b1 g_b2_2 g_b4_2 o41_6 o41_7 o41_8 (show (((p0.toUInt32 >>> ((3 : Int32) &&& 31).toUInt32).toInt32) &&& (1 : Int32)) = (0 : Int32) from hc43)) hZ (hw _ (List.mem_of_getElem? (i := 25) rfl)) (hw _ (List.mem_of_getElem? (i := 24) rfl)) (by decide) (by decide)) (g := (mkF m 157 #[.val (.int p0), .val (.int p1), .val (.int p2), .val (.int p3), .val (.ref b1), .val (.int (1 : Int32)), .val (.int (2 : Int32))] [(.int (p1 ^^^ p2)), (.int (2 : Int32)), (.int ((p0.toUInt32 >>> ((3 : Int32) &&& 31).toUInt32).toInt32)), (.ref b1)])) rfl (by rw [hml]; rfl) (argsL := [(.ref b1), (.int ((p0.toUInt32 >>> ((3 : Int32) &&& 31).toUInt32).toInt32)), (.int (2 : Int32)), (.int (p1 ^^^ p2))]) (rest := []) (lenOf pd_7 rfl) rfl (by show 2 * 0 + _ ≤ _; exact Nat.le_of_eq rfl) (hb hby at_157) (fun _ _ => ⟨rfl, e42, (by decide : 3 + 0 ≤ _), (by decide : 9 + 0 ≤ _)⟩)
          dsimp only [Pt.U, Pt.locs, Pt.cells, Pt.slots] at X44 l44 y44 z44 st44 hQ44
          subst l44 y44 z44
          obtain ⟨K0_44, K1_44, K2_44, M0_44, M1_44, M2_44, rfl, N44q, Kc44, o44_0, o44_1, o44_2, o44_3, o44_4, o44_5, o44_6, o44_7, o44_8⟩ := hQ44
          have E_b1_44 := o41_0.keep Kc44
          have N44 := Fr.app N42 N44q
          have Z44 := Nat.le_trans Z41 Kc44.1
          refine go (B := T44.setTop (mkF m 160 #[.val (.int p0), .val (.int p1), .val (.int p2), .val (.int p3), .val (.ref b1), .val (.int (1 : Int32)), .val (.int (2 : Int32))] [(.int (1 : Int32))])) (fun _ k => st44 _ k) ?_
          refine go (B := T44.setTop (mkF m 162 #[.val (.int p0), .val (.int p1), .val (.int p2), .val (.int p3), .val (.ref b1), .val (.int (1 : Int32)), .val (.int (1 : Int32))] [])) (fun _ k => XS.istore X44.here hx rfl (hb hby at_160) rfl (l' := #[.val (.int p0), .val (.int p1), .val (.int p2), .val (.int p3), .val (.ref b1), .val (.int (1 : Int32)), .val (.int (1 : Int32))]) rfl k) ?_
          refine go (B := T44.setTop (mkF m 164 #[.val (.int p0), .val (.int p1), .val (.int p2), .val (.int p3), .val (.ref b1), .val (.int (1 : Int32)), .val (.int (1 : Int32))] [(.int (1 : Int32))])) (fun _ k => XS.iload X44.here hx rfl (hb hby at_162) rfl k) ?_
          refine go (B := T44.setTop (mkF m 167 #[.val (.int p0), .val (.int p1), .val (.int p2), .val (.int p3), .val (.ref b1), .val (.int (1 : Int32)), .val (.int (1 : Int32))] [])) (fun _ k => XS.ifNo X44.here hx rfl (hb hby at_164) rfl ((if0 _ _).trans (feq (by decide : ¬ ((1 : Int32) = (0 : Int32)))).1) k) ?_
          refine go (B := T44.setTop (mkF m 169 #[.val (.int p0), .val (.int p1), .val (.int p2), .val (.int p3), .val (.ref b1), .val (.int (1 : Int32)), .val (.int (1 : Int32))] [(.ref b1)])) (fun _ k => XS.aload X44.here hx rfl (hb hby at_167) rfl rfl k) ?_
          obtain ⟨cq45, kq45, q45a, q45b, q45c⟩ := isOf hZ rfl o44_0
          obtain ⟨_, _, ⟨T45, L45, k45, n45⟩, -, X45, ⟨Lc45, hQ45, l45, y45, z45⟩, st45⟩ := X44.virtualBack hx (y := (⟨"com/example/constrained_flow/constrainedflow/planner/search/LeastFirst", "isEmpty", "()Z"⟩ : MethodName)) (z := (⟨"com/example/constrained_flow/constrainedflow/planner/search/LeastFirst", "isEmpty", "()Z"⟩ : MethodName)) hown (mvT hZ (hw _ (List.mem_of_getElem? (i := 15) rfl))) (mvT hZ (hw _ (List.mem_of_getElem? (i := 16) rfl))) (notFace_of_selects (args := #[]) (mvT hZ (hw _ (List.mem_of_getElem? (i := 18) rfl)))) (mvT hZ (hw _ (List.mem_of_getElem? (i := 18) rfl))) (mvT hZ (hw _ (List.mem_of_getElem? (i := 17) rfl))) (by decide) (backOf (W := 0) (rm3 l Z aw hw [] b1 (1 : Int32) T44.heap n0 Z44 o44_3) hZ (hw _ (List.mem_of_getElem? (i := 19) rfl)) (hw _ (List.mem_of_getElem? (i := 2) rfl)) (by decide) (by decide)) q45a q45c (g := (mkF m 169 #[.val (.int p0), .val (.int p1), .val (.int p2), .val (.int p3), .val (.ref b1), .val (.int (1 : Int32)), .val (.int (1 : Int32))] [(.ref b1)])) rfl (by rw [hml]; rfl) (Steps.refl _) (argsL := []) (rest := []) (lenOf pd_6 rfl) rfl (by show 2 * 0 + _ ≤ _; exact Nat.le_of_eq rfl) (hb hby at_169) (fun _ _ => ⟨rfl, rfl, (by decide : 3 + 0 ≤ _), (by decide : 9 + 0 ≤ _)⟩)
          dsimp only [Pt.U, Pt.locs, Pt.cells, Pt.slots] at X45 l45 y45 z45 st45 hQ45
          subst l45 y45 z45
          obtain ⟨rfl, rfl, e45⟩ := hQ45
          have N45 := Fr.app N44 (Fr.nil n0)
          refine go (B := T45.setTop (mkF m 172 #[.val (.int p0), .val (.int p1), .val (.int p2), .val (.int p3), .val (.ref b1), .val (.int (1 : Int32)), .val (.int (1 : Int32))] [(.int (0 : Int32))])) (fun _ k => st45.trans k) ?_
          refine go (B := T45.setTop (mkF m 174 #[.val (.int p0), .val (.int p1), .val (.int p2), .val (.int p3), .val (.ref b1), .val (.int (1 : Int32)), .val (.int (1 : Int32))] [(.int (1 : Int32)), (.int (0 : Int32))])) (fun _ k => XS.iload X45.here hx rfl (hb hby at_172) rfl k) ?_
          refine go (B := T45.setTop (mkF m 181 #[.val (.int p0), .val (.int p1), .val (.int p2), .val (.int p3), .val (.ref b1), .val (.int (1 : Int32)), .val (.int (1 : Int32))] [(.int (0 : Int32))])) (fun _ k => XS.ifYes X45.here hx rfl (pc0 := 174) (pc' := 181) rfl (hb hby at_174) rfl ((if0 _ _).trans (feq (by decide : ¬ ((1 : Int32) = (0 : Int32)))).2) (by decide) (by decide) k) ?_
          refine go (B := T45.setTop (mkF m 182 #[.val (.int p0), .val (.int p1), .val (.int p2), .val (.int p3), .val (.ref b1), .val (.int (1 : Int32)), .val (.int (1 : Int32))] [(.int (0 : Int32)), (.int (0 : Int32))])) (fun _ k => XS.iconst X45.here hx rfl (hb hby at_181) k) ?_
          refine go (B := T45.setTop (mkF m 185 #[.val (.int p0), .val (.int p1), .val (.int p2), .val (.int p3), .val (.ref b1), .val (.int (1 : Int32)), .val (.int (1 : Int32))] [])) (fun _ k => XS.icmpNo X45.here hx rfl (hb hby at_182) rfl (teq (by decide : (0 : Int32) = (0 : Int32))).2 k) ?_
          refine go (B := T45.setTop (mkF m 186 #[.val (.int p0), .val (.int p1), .val (.int p2), .val (.int p3), .val (.ref b1), .val (.int (1 : Int32)), .val (.int (1 : Int32))] [(.int (1 : Int32))])) (fun _ k => XS.iconst X45.here hx rfl (hb hby at_185) k) ?_
          refine go (B := T45.setTop (mkF m 190 #[.val (.int p0), .val (.int p1), .val (.int p2), .val (.int p3), .val (.ref b1), .val (.int (1 : Int32)), .val (.int (1 : Int32))] [(.int (1 : Int32))])) (fun _ k => XS.goto X45.here hx rfl (pc0 := 186) (pc' := 190) rfl (hb hby at_186) (by decide) (by decide) k) ?_
          refine go (B := T45.setTop (mkF m 192 #[.val (.int p0), .val (.int p1), .val (.int p2), .val (.int p3), .val (.ref b1), .val (.int (1 : Int32)), .val (.int (1 : Int32))] [])) (fun _ k => XS.istore X45.here hx rfl (hb hby at_190) rfl (l' := #[.val (.int p0), .val (.int p1), .val (.int p2), .val (.int p3), .val (.ref b1), .val (.int (1 : Int32)), .val (.int (1 : Int32))]) rfl k) ?_
          refine go (B := T45.setTop (mkF m 194 #[.val (.int p0), .val (.int p1), .val (.int p2), .val (.int p3), .val (.ref b1), .val (.int (1 : Int32)), .val (.int (1 : Int32))] [(.int (1 : Int32))])) (fun _ k => XS.iload X45.here hx rfl (hb hby at_192) rfl k) ?_
          have r46 : (f0 p0) = (1 : Int32) := by unfold f0; rw [if_pos hc4, if_neg hc7, if_neg hc31, if_pos hc43]
          exact end_nar X45 hx Bd.notSynchronized (t := .boolean) Bd.returns (by simp) (hb hby at_194) hF e45 (by decide) (by decide) ⟨(congrArg (fun z => some (Value.int z)) (r46.symm.trans (own_law p0))), N45⟩
        · obtain ⟨_, _, ⟨T47, L47, k47, n47⟩, -, X47, ⟨Lc47, hQ47, l47, y47, z47⟩, st47⟩ := Jvm.LawKit.callS X42 hx (y := (⟨"com/example/constrained_flow/constrainedflow/planner/search/LeastFirstIsEmptyPinLaw", "step", "(Lcom/example/constrained_flow/constrainedflow/planner/search/LeastFirst;III)I"⟩ : MethodName)) hown (mvT hZ (hw _ (List.mem_of_getElem? (i := 22) rfl))) (mvT hZ (hw _ (List.mem_of_getElem? (i := 23) rfl))) (mvT hZ (hw _ (List.mem_of_getElem? (i := 24) rfl))) (mvT hZ (hw _ (List.mem_of_getElem? (i := 25) rfl))) (by decide) (backOf (W := 0) (rm4n2a l Z aw hw [] b1 ((p0.toUInt32 >>> ((3 : Int32) &&& 31).toUInt32).toInt32) (p1 ^^^ p2) b2_2 b4_2 k2_2 K0_41 K1_41 K2_41 k4_2 M0_41 M1_41 M2_41 T41.heap n0 Z41 o41_1 o41_2 o41_3 o41_0 o41_4 o41_5 ne_b1_b2_2 ne_b1_b4_2 o2_2 g_b1 g_b2_2 g_b4_2 o41_6 o41_7 o41_8 (show ¬ ((((p0.toUInt32 >>> ((3 : Int32) &&& 31).toUInt32).toInt32) &&& (1 : Int32)) = (0 : Int32)) from hc43)) hZ (hw _ (List.mem_of_getElem? (i := 25) rfl)) (hw _ (List.mem_of_getElem? (i := 24) rfl)) (by decide) (by decide)) (g := (mkF m 157 #[.val (.int p0), .val (.int p1), .val (.int p2), .val (.int p3), .val (.ref b1), .val (.int (1 : Int32)), .val (.int (2 : Int32))] [(.int (p1 ^^^ p2)), (.int (2 : Int32)), (.int ((p0.toUInt32 >>> ((3 : Int32) &&& 31).toUInt32).toInt32)), (.ref b1)])) rfl (by rw [hml]; rfl) (argsL := [(.ref b1), (.int ((p0.toUInt32 >>> ((3 : Int32) &&& 31).toUInt32).toInt32)), (.int (2 : Int32)), (.int (p1 ^^^ p2))]) (rest := []) (lenOf pd_7 rfl) rfl (by show 2 * 0 + _ ≤ _; exact Nat.le_of_eq rfl) (hb hby at_157) (fun _ _ => ⟨rfl, e42, (by decide : 3 + 0 ≤ _), (by decide : 9 + 0 ≤ _)⟩)
          dsimp only [Pt.U, Pt.locs, Pt.cells, Pt.slots] at X47 l47 y47 z47 st47 hQ47
          subst l47 y47 z47
          obtain ⟨K0_47, K1_47, K2_47, M0_47, M1_47, M2_47, rfl, N47q, Kc47, o47_0, o47_1, o47_2, o47_3, o47_4, o47_5, o47_6, o47_7, o47_8⟩ := hQ47
          have E_b1_47 := o41_0.keep Kc47
          have N47 := Fr.app N42 N47q
          have Z47 := Nat.le_trans Z41 Kc47.1
          refine go (B := T47.setTop (mkF m 160 #[.val (.int p0), .val (.int p1), .val (.int p2), .val (.int p3), .val (.ref b1), .val (.int (1 : Int32)), .val (.int (2 : Int32))] [(.int (3 : Int32))])) (fun _ k => st47 _ k) ?_
          refine go (B := T47.setTop (mkF m 162 #[.val (.int p0), .val (.int p1), .val (.int p2), .val (.int p3), .val (.ref b1), .val (.int (1 : Int32)), .val (.int (3 : Int32))] [])) (fun _ k => XS.istore X47.here hx rfl (hb hby at_160) rfl (l' := #[.val (.int p0), .val (.int p1), .val (.int p2), .val (.int p3), .val (.ref b1), .val (.int (1 : Int32)), .val (.int (3 : Int32))]) rfl k) ?_
          refine go (B := T47.setTop (mkF m 164 #[.val (.int p0), .val (.int p1), .val (.int p2), .val (.int p3), .val (.ref b1), .val (.int (1 : Int32)), .val (.int (3 : Int32))] [(.int (1 : Int32))])) (fun _ k => XS.iload X47.here hx rfl (hb hby at_162) rfl k) ?_
          refine go (B := T47.setTop (mkF m 167 #[.val (.int p0), .val (.int p1), .val (.int p2), .val (.int p3), .val (.ref b1), .val (.int (1 : Int32)), .val (.int (3 : Int32))] [])) (fun _ k => XS.ifNo X47.here hx rfl (hb hby at_164) rfl ((if0 _ _).trans (feq (by decide : ¬ ((1 : Int32) = (0 : Int32)))).1) k) ?_
          refine go (B := T47.setTop (mkF m 169 #[.val (.int p0), .val (.int p1), .val (.int p2), .val (.int p3), .val (.ref b1), .val (.int (1 : Int32)), .val (.int (3 : Int32))] [(.ref b1)])) (fun _ k => XS.aload X47.here hx rfl (hb hby at_167) rfl rfl k) ?_
          obtain ⟨cq48, kq48, q48a, q48b, q48c⟩ := isOf hZ rfl o47_0
          obtain ⟨_, _, ⟨T48, L48, k48, n48⟩, -, X48, ⟨Lc48, hQ48, l48, y48, z48⟩, st48⟩ := X47.virtualBack hx (y := (⟨"com/example/constrained_flow/constrainedflow/planner/search/LeastFirst", "isEmpty", "()Z"⟩ : MethodName)) (z := (⟨"com/example/constrained_flow/constrainedflow/planner/search/LeastFirst", "isEmpty", "()Z"⟩ : MethodName)) hown (mvT hZ (hw _ (List.mem_of_getElem? (i := 15) rfl))) (mvT hZ (hw _ (List.mem_of_getElem? (i := 16) rfl))) (notFace_of_selects (args := #[]) (mvT hZ (hw _ (List.mem_of_getElem? (i := 18) rfl)))) (mvT hZ (hw _ (List.mem_of_getElem? (i := 18) rfl))) (mvT hZ (hw _ (List.mem_of_getElem? (i := 17) rfl))) (by decide) (backOf (W := 0) (rm3 l Z aw hw [] b1 (3 : Int32) T47.heap n0 Z47 o47_3) hZ (hw _ (List.mem_of_getElem? (i := 19) rfl)) (hw _ (List.mem_of_getElem? (i := 2) rfl)) (by decide) (by decide)) q48a q48c (g := (mkF m 169 #[.val (.int p0), .val (.int p1), .val (.int p2), .val (.int p3), .val (.ref b1), .val (.int (1 : Int32)), .val (.int (3 : Int32))] [(.ref b1)])) rfl (by rw [hml]; rfl) (Steps.refl _) (argsL := []) (rest := []) (lenOf pd_6 rfl) rfl (by show 2 * 0 + _ ≤ _; exact Nat.le_of_eq rfl) (hb hby at_169) (fun _ _ => ⟨rfl, rfl, (by decide : 3 + 0 ≤ _), (by decide : 9 + 0 ≤ _)⟩)
          dsimp only [Pt.U, Pt.locs, Pt.cells, Pt.slots] at X48 l48 y48 z48 st48 hQ48
          subst l48 y48 z48
          obtain ⟨rfl, rfl, e48⟩ := hQ48
          have N48 := Fr.app N47 (Fr.nil n0)
          refine go (B := T48.setTop (mkF m 172 #[.val (.int p0), .val (.int p1), .val (.int p2), .val (.int p3), .val (.ref b1), .val (.int (1 : Int32)), .val (.int (3 : Int32))] [(.int (0 : Int32))])) (fun _ k => st48.trans k) ?_
          refine go (B := T48.setTop (mkF m 174 #[.val (.int p0), .val (.int p1), .val (.int p2), .val (.int p3), .val (.ref b1), .val (.int (1 : Int32)), .val (.int (3 : Int32))] [(.int (3 : Int32)), (.int (0 : Int32))])) (fun _ k => XS.iload X48.here hx rfl (hb hby at_172) rfl k) ?_
          refine go (B := T48.setTop (mkF m 181 #[.val (.int p0), .val (.int p1), .val (.int p2), .val (.int p3), .val (.ref b1), .val (.int (1 : Int32)), .val (.int (3 : Int32))] [(.int (0 : Int32))])) (fun _ k => XS.ifYes X48.here hx rfl (pc0 := 174) (pc' := 181) rfl (hb hby at_174) rfl ((if0 _ _).trans (feq (by decide : ¬ ((3 : Int32) = (0 : Int32)))).2) (by decide) (by decide) k) ?_
          refine go (B := T48.setTop (mkF m 182 #[.val (.int p0), .val (.int p1), .val (.int p2), .val (.int p3), .val (.ref b1), .val (.int (1 : Int32)), .val (.int (3 : Int32))] [(.int (0 : Int32)), (.int (0 : Int32))])) (fun _ k => XS.iconst X48.here hx rfl (hb hby at_181) k) ?_
          refine go (B := T48.setTop (mkF m 185 #[.val (.int p0), .val (.int p1), .val (.int p2), .val (.int p3), .val (.ref b1), .val (.int (1 : Int32)), .val (.int (3 : Int32))] [])) (fun _ k => XS.icmpNo X48.here hx rfl (hb hby at_182) rfl (teq (by decide : (0 : Int32) = (0 : Int32))).2 k) ?_
          refine go (B := T48.setTop (mkF m 186 #[.val (.int p0), .val (.int p1), .val (.int p2), .val (.int p3), .val (.ref b1), .val (.int (1 : Int32)), .val (.int (3 : Int32))] [(.int (1 : Int32))])) (fun _ k => XS.iconst X48.here hx rfl (hb hby at_185) k) ?_
          refine go (B := T48.setTop (mkF m 190 #[.val (.int p0), .val (.int p1), .val (.int p2), .val (.int p3), .val (.ref b1), .val (.int (1 : Int32)), .val (.int (3 : Int32))] [(.int (1 : Int32))])) (fun _ k => XS.goto X48.here hx rfl (pc0 := 186) (pc' := 190) rfl (hb hby at_186) (by decide) (by decide) k) ?_
          refine go (B := T48.setTop (mkF m 192 #[.val (.int p0), .val (.int p1), .val (.int p2), .val (.int p3), .val (.ref b1), .val (.int (1 : Int32)), .val (.int (3 : Int32))] [])) (fun _ k => XS.istore X48.here hx rfl (hb hby at_190) rfl (l' := #[.val (.int p0), .val (.int p1), .val (.int p2), .val (.int p3), .val (.ref b1), .val (.int (1 : Int32)), .val (.int (3 : Int32))]) rfl k) ?_
          refine go (B := T48.setTop (mkF m 194 #[.val (.int p0), .val (.int p1), .val (.int p2), .val (.int p3), .val (.ref b1), .val (.int (1 : Int32)), .val (.int (3 : Int32))] [(.int (1 : Int32))])) (fun _ k => XS.iload X48.here hx rfl (hb hby at_192) rfl k) ?_
          have r49 : (f0 p0) = (1 : Int32) := by unfold f0; rw [if_pos hc4, if_neg hc7, if_neg hc31, if_neg hc43]
          exact end_nar X48 hx Bd.notSynchronized (t := .boolean) Bd.returns (by simp) (hb hby at_194) hF e48 (by decide) (by decide) ⟨(congrArg (fun z => some (Value.int z)) (r49.symm.trans (own_law p0))), N48⟩
  · obtain ⟨_, _, ⟨T50, L50, k50, n50⟩, -, X50, ⟨Lc50, hQ50, l50, y50, z50⟩, st50⟩ := Jvm.LawKit.callS X3 hx (y := (⟨"com/example/constrained_flow/constrainedflow/planner/search/LeastFirstIsEmptyPinLaw", "step", "(Lcom/example/constrained_flow/constrainedflow/planner/search/LeastFirst;III)I"⟩ : MethodName)) hown (mvT hZ (hw _ (List.mem_of_getElem? (i := 22) rfl))) (mvT hZ (hw _ (List.mem_of_getElem? (i := 23) rfl))) (mvT hZ (hw _ (List.mem_of_getElem? (i := 24) rfl))) (mvT hZ (hw _ (List.mem_of_getElem? (i := 25) rfl))) (by decide) (backOf (W := 0) (rm4n0a l Z aw hw [] b1 p0 p1 b2_2 b4_2 k2_2 (0 : UInt64) (0 : UInt64) (0 : UInt64) k4_2 (0 : Int32) (0 : Int32) (0 : Int32) T2.heap n0 Z2 o2_5 o2_6 o2_3 o2_4 o2_7 o2_8 ne_b1_b2_2 ne_b1_b4_2 o2_2 g_b1 g_b2_2 g_b4_2 own_nn0 own_nn0 own_nn0 (show ¬ ((p0 &&& (1 : Int32)) = (0 : Int32)) from hc4)) hZ (hw _ (List.mem_of_getElem? (i := 25) rfl)) (hw _ (List.mem_of_getElem? (i := 24) rfl)) (by decide) (by decide)) (g := (mkF m 26 #[.val (.int p0), .val (.int p1), .val (.int p2), .val (.int p3), .val (.ref b1), .val (.int (1 : Int32)), .val (.int (0 : Int32))] [(.int p1), (.int (0 : Int32)), (.int p0), (.ref b1)])) rfl (by rw [hml]; rfl) (argsL := [(.ref b1), (.int p0), (.int (0 : Int32)), (.int p1)]) (rest := []) (lenOf pd_7 rfl) rfl (by show 2 * 0 + _ ≤ _; exact Nat.le_of_eq rfl) (hb hby at_26) (fun _ _ => ⟨rfl, e3, (by decide : 3 + 0 ≤ _), (by decide : 9 + 0 ≤ _)⟩)
    dsimp only [Pt.U, Pt.locs, Pt.cells, Pt.slots] at X50 l50 y50 z50 st50 hQ50
    subst l50 y50 z50
    obtain ⟨K0_50, K1_50, K2_50, M0_50, M1_50, M2_50, rfl, N50q, Kc50, o50_0, o50_1, o50_2, o50_3, o50_4, o50_5, o50_6, o50_7, o50_8⟩ := hQ50
    have E_b1_50 := o2_4.keep Kc50
    have N50 := Fr.app N3 N50q
    have Z50 := Nat.le_trans Z2 Kc50.1
    refine go (B := T50.setTop (mkF m 29 #[.val (.int p0), .val (.int p1), .val (.int p2), .val (.int p3), .val (.ref b1), .val (.int (1 : Int32)), .val (.int (0 : Int32))] [(.int (1 : Int32))])) (fun _ k => st50 _ k) ?_
    refine go (B := T50.setTop (mkF m 31 #[.val (.int p0), .val (.int p1), .val (.int p2), .val (.int p3), .val (.ref b1), .val (.int (1 : Int32)), .val (.int (1 : Int32))] [])) (fun _ k => XS.istore X50.here hx rfl (hb hby at_29) rfl (l' := #[.val (.int p0), .val (.int p1), .val (.int p2), .val (.int p3), .val (.ref b1), .val (.int (1 : Int32)), .val (.int (1 : Int32))]) rfl k) ?_
    refine go (B := T50.setTop (mkF m 33 #[.val (.int p0), .val (.int p1), .val (.int p2), .val (.int p3), .val (.ref b1), .val (.int (1 : Int32)), .val (.int (1 : Int32))] [(.int (1 : Int32))])) (fun _ k => XS.iload X50.here hx rfl (hb hby at_31) rfl k) ?_
    refine go (B := T50.setTop (mkF m 36 #[.val (.int p0), .val (.int p1), .val (.int p2), .val (.int p3), .val (.ref b1), .val (.int (1 : Int32)), .val (.int (1 : Int32))] [])) (fun _ k => XS.ifNo X50.here hx rfl (hb hby at_33) rfl ((if0 _ _).trans (feq (by decide : ¬ ((1 : Int32) = (0 : Int32)))).1) k) ?_
    refine go (B := T50.setTop (mkF m 38 #[.val (.int p0), .val (.int p1), .val (.int p2), .val (.int p3), .val (.ref b1), .val (.int (1 : Int32)), .val (.int (1 : Int32))] [(.ref b1)])) (fun _ k => XS.aload X50.here hx rfl (hb hby at_36) rfl rfl k) ?_
    obtain ⟨cq51, kq51, q51a, q51b, q51c⟩ := isOf hZ rfl o50_0
    obtain ⟨_, _, ⟨T51, L51, k51, n51⟩, -, X51, ⟨Lc51, hQ51, l51, y51, z51⟩, st51⟩ := X50.virtualBack hx (y := (⟨"com/example/constrained_flow/constrainedflow/planner/search/LeastFirst", "isEmpty", "()Z"⟩ : MethodName)) (z := (⟨"com/example/constrained_flow/constrainedflow/planner/search/LeastFirst", "isEmpty", "()Z"⟩ : MethodName)) hown (mvT hZ (hw _ (List.mem_of_getElem? (i := 15) rfl))) (mvT hZ (hw _ (List.mem_of_getElem? (i := 16) rfl))) (notFace_of_selects (args := #[]) (mvT hZ (hw _ (List.mem_of_getElem? (i := 18) rfl)))) (mvT hZ (hw _ (List.mem_of_getElem? (i := 18) rfl))) (mvT hZ (hw _ (List.mem_of_getElem? (i := 17) rfl))) (by decide) (backOf (W := 0) (rm3 l Z aw hw [] b1 (1 : Int32) T50.heap n0 Z50 o50_3) hZ (hw _ (List.mem_of_getElem? (i := 19) rfl)) (hw _ (List.mem_of_getElem? (i := 2) rfl)) (by decide) (by decide)) q51a q51c (g := (mkF m 38 #[.val (.int p0), .val (.int p1), .val (.int p2), .val (.int p3), .val (.ref b1), .val (.int (1 : Int32)), .val (.int (1 : Int32))] [(.ref b1)])) rfl (by rw [hml]; rfl) (Steps.refl _) (argsL := []) (rest := []) (lenOf pd_6 rfl) rfl (by show 2 * 0 + _ ≤ _; exact Nat.le_of_eq rfl) (hb hby at_38) (fun _ _ => ⟨rfl, rfl, (by decide : 3 + 0 ≤ _), (by decide : 9 + 0 ≤ _)⟩)
    dsimp only [Pt.U, Pt.locs, Pt.cells, Pt.slots] at X51 l51 y51 z51 st51 hQ51
    subst l51 y51 z51
    obtain ⟨rfl, rfl, e51⟩ := hQ51
    have N51 := Fr.app N50 (Fr.nil n0)
    refine go (B := T51.setTop (mkF m 41 #[.val (.int p0), .val (.int p1), .val (.int p2), .val (.int p3), .val (.ref b1), .val (.int (1 : Int32)), .val (.int (1 : Int32))] [(.int (0 : Int32))])) (fun _ k => st51.trans k) ?_
    refine go (B := T51.setTop (mkF m 43 #[.val (.int p0), .val (.int p1), .val (.int p2), .val (.int p3), .val (.ref b1), .val (.int (1 : Int32)), .val (.int (1 : Int32))] [(.int (1 : Int32)), (.int (0 : Int32))])) (fun _ k => XS.iload X51.here hx rfl (hb hby at_41) rfl k) ?_
    refine go (B := T51.setTop (mkF m 50 #[.val (.int p0), .val (.int p1), .val (.int p2), .val (.int p3), .val (.ref b1), .val (.int (1 : Int32)), .val (.int (1 : Int32))] [(.int (0 : Int32))])) (fun _ k => XS.ifYes X51.here hx rfl (pc0 := 43) (pc' := 50) rfl (hb hby at_43) rfl ((if0 _ _).trans (feq (by decide : ¬ ((1 : Int32) = (0 : Int32)))).2) (by decide) (by decide) k) ?_
    refine go (B := T51.setTop (mkF m 51 #[.val (.int p0), .val (.int p1), .val (.int p2), .val (.int p3), .val (.ref b1), .val (.int (1 : Int32)), .val (.int (1 : Int32))] [(.int (0 : Int32)), (.int (0 : Int32))])) (fun _ k => XS.iconst X51.here hx rfl (hb hby at_50) k) ?_
    refine go (B := T51.setTop (mkF m 54 #[.val (.int p0), .val (.int p1), .val (.int p2), .val (.int p3), .val (.ref b1), .val (.int (1 : Int32)), .val (.int (1 : Int32))] [])) (fun _ k => XS.icmpNo X51.here hx rfl (hb hby at_51) rfl (teq (by decide : (0 : Int32) = (0 : Int32))).2 k) ?_
    refine go (B := T51.setTop (mkF m 55 #[.val (.int p0), .val (.int p1), .val (.int p2), .val (.int p3), .val (.ref b1), .val (.int (1 : Int32)), .val (.int (1 : Int32))] [(.int (1 : Int32))])) (fun _ k => XS.iconst X51.here hx rfl (hb hby at_54) k) ?_
    refine go (B := T51.setTop (mkF m 59 #[.val (.int p0), .val (.int p1), .val (.int p2), .val (.int p3), .val (.ref b1), .val (.int (1 : Int32)), .val (.int (1 : Int32))] [(.int (1 : Int32))])) (fun _ k => XS.goto X51.here hx rfl (pc0 := 55) (pc' := 59) rfl (hb hby at_55) (by decide) (by decide) k) ?_
    refine go (B := T51.setTop (mkF m 61 #[.val (.int p0), .val (.int p1), .val (.int p2), .val (.int p3), .val (.ref b1), .val (.int (1 : Int32)), .val (.int (1 : Int32))] [])) (fun _ k => XS.istore X51.here hx rfl (hb hby at_59) rfl (l' := #[.val (.int p0), .val (.int p1), .val (.int p2), .val (.int p3), .val (.ref b1), .val (.int (1 : Int32)), .val (.int (1 : Int32))]) rfl k) ?_
    refine go (B := T51.setTop (mkF m 63 #[.val (.int p0), .val (.int p1), .val (.int p2), .val (.int p3), .val (.ref b1), .val (.int (1 : Int32)), .val (.int (1 : Int32))] [(.ref b1)])) (fun _ k => XS.aload X51.here hx rfl (hb hby at_61) rfl rfl k) ?_
    refine go (B := T51.setTop (mkF m 64 #[.val (.int p0), .val (.int p1), .val (.int p2), .val (.int p3), .val (.ref b1), .val (.int (1 : Int32)), .val (.int (1 : Int32))] [(.int p0), (.ref b1)])) (fun _ k => XS.iloadN X51.here hx rfl (hb hby at_63) rfl k) ?_
    refine go (B := T51.setTop (mkF m 65 #[.val (.int p0), .val (.int p1), .val (.int p2), .val (.int p3), .val (.ref b1), .val (.int (1 : Int32)), .val (.int (1 : Int32))] [(.int (1 : Int32)), (.int p0), (.ref b1)])) (fun _ k => XS.iconst X51.here hx rfl (hb hby at_64) k) ?_
    refine go (B := T51.setTop (mkF m 66 #[.val (.int p0), .val (.int p1), .val (.int p2), .val (.int p3), .val (.ref b1), .val (.int (1 : Int32)), .val (.int (1 : Int32))] [(.int ((p0.toUInt32 >>> ((1 : Int32) &&& 31).toUInt32).toInt32)), (.ref b1)])) (fun _ k => XS.iushr X51.here hx rfl (hb hby at_65) rfl k) ?_
    refine go (B := T51.setTop (mkF m 68 #[.val (.int p0), .val (.int p1), .val (.int p2), .val (.int p3), .val (.ref b1), .val (.int (1 : Int32)), .val (.int (1 : Int32))] [(.int (1 : Int32)), (.int ((p0.toUInt32 >>> ((1 : Int32) &&& 31).toUInt32).toInt32)), (.ref b1)])) (fun _ k => XS.iload X51.here hx rfl (hb hby at_66) rfl k) ?_
    refine go (B := T51.setTop (mkF m 69 #[.val (.int p0), .val (.int p1), .val (.int p2), .val (.int p3), .val (.ref b1), .val (.int (1 : Int32)), .val (.int (1 : Int32))] [(.int p2), (.int (1 : Int32)), (.int ((p0.toUInt32 >>> ((1 : Int32) &&& 31).toUInt32).toInt32)), (.ref b1)])) (fun _ k => XS.iloadN X51.here hx rfl (hb hby at_68) rfl k) ?_
    by_cases hc52 : (((p0.toUInt32 >>> ((1 : Int32) &&& 31).toUInt32).toInt32) &&& (1 : Int32)) = (0 : Int32)
    · obtain ⟨_, _, ⟨T53, L53, k53, n53⟩, -, X53, ⟨Lc53, hQ53, l53, y53, z53⟩, st53⟩ := Jvm.LawKit.callS X51 hx (y := (⟨"com/example/constrained_flow/constrainedflow/planner/search/LeastFirstIsEmptyPinLaw", "step", "(Lcom/example/constrained_flow/constrainedflow/planner/search/LeastFirst;III)I"⟩ : MethodName)) hown (mvT hZ (hw _ (List.mem_of_getElem? (i := 22) rfl))) (mvT hZ (hw _ (List.mem_of_getElem? (i := 23) rfl))) (mvT hZ (hw _ (List.mem_of_getElem? (i := 24) rfl))) (mvT hZ (hw _ (List.mem_of_getElem? (i := 25) rfl))) (by decide) (backOf (W := 0) (rm4n1t l Z aw hw [] b1 ((p0.toUInt32 >>> ((1 : Int32) &&& 31).toUInt32).toInt32) p2 b2_2 b4_2 k2_2 K0_50 K1_50 K2_50 k4_2 M0_50 M1_50 M2_50 T50.heap n0 Z50 o50_1 o50_2 o50_3 o50_0 o50_4 o50_5 ne_b1_b2_2 ne_b1_b4_2 o2_2 g_b1 g_b2_2 g_b4_2 o50_6 o50_7 o50_8 (show (((p0.toUInt32 >>> ((1 : Int32) &&& 31).toUInt32).toInt32) &&& (1 : Int32)) = (0 : Int32) from hc52)) hZ (hw _ (List.mem_of_getElem? (i := 25) rfl)) (hw _ (List.mem_of_getElem? (i := 24) rfl)) (by decide) (by decide)) (g := (mkF m 69 #[.val (.int p0), .val (.int p1), .val (.int p2), .val (.int p3), .val (.ref b1), .val (.int (1 : Int32)), .val (.int (1 : Int32))] [(.int p2), (.int (1 : Int32)), (.int ((p0.toUInt32 >>> ((1 : Int32) &&& 31).toUInt32).toInt32)), (.ref b1)])) rfl (by rw [hml]; rfl) (argsL := [(.ref b1), (.int ((p0.toUInt32 >>> ((1 : Int32) &&& 31).toUInt32).toInt32)), (.int (1 : Int32)), (.int p2)]) (rest := []) (lenOf pd_7 rfl) rfl (by show 2 * 0 + _ ≤ _; exact Nat.le_of_eq rfl) (hb hby at_69) (fun _ _ => ⟨rfl, e51, (by decide : 3 + 0 ≤ _), (by decide : 9 + 0 ≤ _)⟩)
      dsimp only [Pt.U, Pt.locs, Pt.cells, Pt.slots] at X53 l53 y53 z53 st53 hQ53
      subst l53 y53 z53
      obtain ⟨K0_53, K1_53, K2_53, M0_53, M1_53, M2_53, rfl, N53q, Kc53, o53_0, o53_1, o53_2, o53_3, o53_4, o53_5, o53_6, o53_7, o53_8⟩ := hQ53
      have E_b1_53 := o50_0.keep Kc53
      have N53 := Fr.app N51 N53q
      have Z53 := Nat.le_trans Z50 Kc53.1
      refine go (B := T53.setTop (mkF m 72 #[.val (.int p0), .val (.int p1), .val (.int p2), .val (.int p3), .val (.ref b1), .val (.int (1 : Int32)), .val (.int (1 : Int32))] [(.int (0 : Int32))])) (fun _ k => st53 _ k) ?_
      refine go (B := T53.setTop (mkF m 74 #[.val (.int p0), .val (.int p1), .val (.int p2), .val (.int p3), .val (.ref b1), .val (.int (1 : Int32)), .val (.int (0 : Int32))] [])) (fun _ k => XS.istore X53.here hx rfl (hb hby at_72) rfl (l' := #[.val (.int p0), .val (.int p1), .val (.int p2), .val (.int p3), .val (.ref b1), .val (.int (1 : Int32)), .val (.int (0 : Int32))]) rfl k) ?_
      refine go (B := T53.setTop (mkF m 76 #[.val (.int p0), .val (.int p1), .val (.int p2), .val (.int p3), .val (.ref b1), .val (.int (1 : Int32)), .val (.int (0 : Int32))] [(.int (1 : Int32))])) (fun _ k => XS.iload X53.here hx rfl (hb hby at_74) rfl k) ?_
      refine go (B := T53.setTop (mkF m 79 #[.val (.int p0), .val (.int p1), .val (.int p2), .val (.int p3), .val (.ref b1), .val (.int (1 : Int32)), .val (.int (0 : Int32))] [])) (fun _ k => XS.ifNo X53.here hx rfl (hb hby at_76) rfl ((if0 _ _).trans (feq (by decide : ¬ ((1 : Int32) = (0 : Int32)))).1) k) ?_
      refine go (B := T53.setTop (mkF m 81 #[.val (.int p0), .val (.int p1), .val (.int p2), .val (.int p3), .val (.ref b1), .val (.int (1 : Int32)), .val (.int (0 : Int32))] [(.ref b1)])) (fun _ k => XS.aload X53.here hx rfl (hb hby at_79) rfl rfl k) ?_
      obtain ⟨cq54, kq54, q54a, q54b, q54c⟩ := isOf hZ rfl o53_0
      obtain ⟨_, _, ⟨T54, L54, k54, n54⟩, -, X54, ⟨Lc54, hQ54, l54, y54, z54⟩, st54⟩ := X53.virtualBack hx (y := (⟨"com/example/constrained_flow/constrainedflow/planner/search/LeastFirst", "isEmpty", "()Z"⟩ : MethodName)) (z := (⟨"com/example/constrained_flow/constrainedflow/planner/search/LeastFirst", "isEmpty", "()Z"⟩ : MethodName)) hown (mvT hZ (hw _ (List.mem_of_getElem? (i := 15) rfl))) (mvT hZ (hw _ (List.mem_of_getElem? (i := 16) rfl))) (notFace_of_selects (args := #[]) (mvT hZ (hw _ (List.mem_of_getElem? (i := 18) rfl)))) (mvT hZ (hw _ (List.mem_of_getElem? (i := 18) rfl))) (mvT hZ (hw _ (List.mem_of_getElem? (i := 17) rfl))) (by decide) (backOf (W := 0) (rm3 l Z aw hw [] b1 (0 : Int32) T53.heap n0 Z53 o53_3) hZ (hw _ (List.mem_of_getElem? (i := 19) rfl)) (hw _ (List.mem_of_getElem? (i := 2) rfl)) (by decide) (by decide)) q54a q54c (g := (mkF m 81 #[.val (.int p0), .val (.int p1), .val (.int p2), .val (.int p3), .val (.ref b1), .val (.int (1 : Int32)), .val (.int (0 : Int32))] [(.ref b1)])) rfl (by rw [hml]; rfl) (Steps.refl _) (argsL := []) (rest := []) (lenOf pd_6 rfl) rfl (by show 2 * 0 + _ ≤ _; exact Nat.le_of_eq rfl) (hb hby at_81) (fun _ _ => ⟨rfl, rfl, (by decide : 3 + 0 ≤ _), (by decide : 9 + 0 ≤ _)⟩)
      dsimp only [Pt.U, Pt.locs, Pt.cells, Pt.slots] at X54 l54 y54 z54 st54 hQ54
      subst l54 y54 z54
      obtain ⟨rfl, rfl, e54⟩ := hQ54
      have N54 := Fr.app N53 (Fr.nil n0)
      refine go (B := T54.setTop (mkF m 84 #[.val (.int p0), .val (.int p1), .val (.int p2), .val (.int p3), .val (.ref b1), .val (.int (1 : Int32)), .val (.int (0 : Int32))] [(.int (1 : Int32))])) (fun _ k => st54.trans k) ?_
      refine go (B := T54.setTop (mkF m 86 #[.val (.int p0), .val (.int p1), .val (.int p2), .val (.int p3), .val (.ref b1), .val (.int (1 : Int32)), .val (.int (0 : Int32))] [(.int (0 : Int32)), (.int (1 : Int32))])) (fun _ k => XS.iload X54.here hx rfl (hb hby at_84) rfl k) ?_
      refine go (B := T54.setTop (mkF m 89 #[.val (.int p0), .val (.int p1), .val (.int p2), .val (.int p3), .val (.ref b1), .val (.int (1 : Int32)), .val (.int (0 : Int32))] [(.int (1 : Int32))])) (fun _ k => XS.ifNo X54.here hx rfl (hb hby at_86) rfl ((if0 _ _).trans (teq (by decide : (0 : Int32) = (0 : Int32))).2) k) ?_
      refine go (B := T54.setTop (mkF m 90 #[.val (.int p0), .val (.int p1), .val (.int p2), .val (.int p3), .val (.ref b1), .val (.int (1 : Int32)), .val (.int (0 : Int32))] [(.int (1 : Int32)), (.int (1 : Int32))])) (fun _ k => XS.iconst X54.here hx rfl (hb hby at_89) k) ?_
      refine go (B := T54.setTop (mkF m 94 #[.val (.int p0), .val (.int p1), .val (.int p2), .val (.int p3), .val (.ref b1), .val (.int (1 : Int32)), .val (.int (0 : Int32))] [(.int (1 : Int32)), (.int (1 : Int32))])) (fun _ k => XS.goto X54.here hx rfl (pc0 := 90) (pc' := 94) rfl (hb hby at_90) (by decide) (by decide) k) ?_
      refine go (B := T54.setTop (mkF m 97 #[.val (.int p0), .val (.int p1), .val (.int p2), .val (.int p3), .val (.ref b1), .val (.int (1 : Int32)), .val (.int (0 : Int32))] [])) (fun _ k => XS.icmpNo X54.here hx rfl (hb hby at_94) rfl (teq (by decide : (1 : Int32) = (1 : Int32))).2 k) ?_
      refine go (B := T54.setTop (mkF m 98 #[.val (.int p0), .val (.int p1), .val (.int p2), .val (.int p3), .val (.ref b1), .val (.int (1 : Int32)), .val (.int (0 : Int32))] [(.int (1 : Int32))])) (fun _ k => XS.iconst X54.here hx rfl (hb hby at_97) k) ?_
      refine go (B := T54.setTop (mkF m 102 #[.val (.int p0), .val (.int p1), .val (.int p2), .val (.int p3), .val (.ref b1), .val (.int (1 : Int32)), .val (.int (0 : Int32))] [(.int (1 : Int32))])) (fun _ k => XS.goto X54.here hx rfl (pc0 := 98) (pc' := 102) rfl (hb hby at_98) (by decide) (by decide) k) ?_
      refine go (B := T54.setTop (mkF m 104 #[.val (.int p0), .val (.int p1), .val (.int p2), .val (.int p3), .val (.ref b1), .val (.int (1 : Int32)), .val (.int (0 : Int32))] [])) (fun _ k => XS.istore X54.here hx rfl (hb hby at_102) rfl (l' := #[.val (.int p0), .val (.int p1), .val (.int p2), .val (.int p3), .val (.ref b1), .val (.int (1 : Int32)), .val (.int (0 : Int32))]) rfl k) ?_
      refine go (B := T54.setTop (mkF m 106 #[.val (.int p0), .val (.int p1), .val (.int p2), .val (.int p3), .val (.ref b1), .val (.int (1 : Int32)), .val (.int (0 : Int32))] [(.ref b1)])) (fun _ k => XS.aload X54.here hx rfl (hb hby at_104) rfl rfl k) ?_
      refine go (B := T54.setTop (mkF m 107 #[.val (.int p0), .val (.int p1), .val (.int p2), .val (.int p3), .val (.ref b1), .val (.int (1 : Int32)), .val (.int (0 : Int32))] [(.int p0), (.ref b1)])) (fun _ k => XS.iloadN X54.here hx rfl (hb hby at_106) rfl k) ?_
      refine go (B := T54.setTop (mkF m 108 #[.val (.int p0), .val (.int p1), .val (.int p2), .val (.int p3), .val (.ref b1), .val (.int (1 : Int32)), .val (.int (0 : Int32))] [(.int (2 : Int32)), (.int p0), (.ref b1)])) (fun _ k => XS.iconst X54.here hx rfl (hb hby at_107) k) ?_
      refine go (B := T54.setTop (mkF m 109 #[.val (.int p0), .val (.int p1), .val (.int p2), .val (.int p3), .val (.ref b1), .val (.int (1 : Int32)), .val (.int (0 : Int32))] [(.int ((p0.toUInt32 >>> ((2 : Int32) &&& 31).toUInt32).toInt32)), (.ref b1)])) (fun _ k => XS.iushr X54.here hx rfl (hb hby at_108) rfl k) ?_
      refine go (B := T54.setTop (mkF m 111 #[.val (.int p0), .val (.int p1), .val (.int p2), .val (.int p3), .val (.ref b1), .val (.int (1 : Int32)), .val (.int (0 : Int32))] [(.int (0 : Int32)), (.int ((p0.toUInt32 >>> ((2 : Int32) &&& 31).toUInt32).toInt32)), (.ref b1)])) (fun _ k => XS.iload X54.here hx rfl (hb hby at_109) rfl k) ?_
      refine go (B := T54.setTop (mkF m 112 #[.val (.int p0), .val (.int p1), .val (.int p2), .val (.int p3), .val (.ref b1), .val (.int (1 : Int32)), .val (.int (0 : Int32))] [(.int p3), (.int (0 : Int32)), (.int ((p0.toUInt32 >>> ((2 : Int32) &&& 31).toUInt32).toInt32)), (.ref b1)])) (fun _ k => XS.iloadN X54.here hx rfl (hb hby at_111) rfl k) ?_
      by_cases hc55 : (((p0.toUInt32 >>> ((2 : Int32) &&& 31).toUInt32).toInt32) &&& (1 : Int32)) = (0 : Int32)
      · obtain ⟨_, _, ⟨T56, L56, k56, n56⟩, -, X56, ⟨Lc56, hQ56, l56, y56, z56⟩, st56⟩ := Jvm.LawKit.callS X54 hx (y := (⟨"com/example/constrained_flow/constrainedflow/planner/search/LeastFirstIsEmptyPinLaw", "step", "(Lcom/example/constrained_flow/constrainedflow/planner/search/LeastFirst;III)I"⟩ : MethodName)) hown (mvT hZ (hw _ (List.mem_of_getElem? (i := 22) rfl))) (mvT hZ (hw _ (List.mem_of_getElem? (i := 23) rfl))) (mvT hZ (hw _ (List.mem_of_getElem? (i := 24) rfl))) (mvT hZ (hw _ (List.mem_of_getElem? (i := 25) rfl))) (by decide) (backOf (W := 0) (rm4n0t l Z aw hw [] b1 ((p0.toUInt32 >>> ((2 : Int32) &&& 31).toUInt32).toInt32) p3 b2_2 b4_2 k2_2 K0_53 K1_53 K2_53 k4_2 M0_53 M1_53 M2_53 T53.heap n0 Z53 o53_1 o53_2 o53_3 o53_0 o53_4 o53_5 ne_b1_b2_2 ne_b1_b4_2 o2_2 g_b1 g_b2_2 g_b4_2 o53_6 o53_7 o53_8 (show (((p0.toUInt32 >>> ((2 : Int32) &&& 31).toUInt32).toInt32) &&& (1 : Int32)) = (0 : Int32) from hc55)) hZ (hw _ (List.mem_of_getElem? (i := 25) rfl)) (hw _ (List.mem_of_getElem? (i := 24) rfl)) (by decide) (by decide)) (g := (mkF m 112 #[.val (.int p0), .val (.int p1), .val (.int p2), .val (.int p3), .val (.ref b1), .val (.int (1 : Int32)), .val (.int (0 : Int32))] [(.int p3), (.int (0 : Int32)), (.int ((p0.toUInt32 >>> ((2 : Int32) &&& 31).toUInt32).toInt32)), (.ref b1)])) rfl (by rw [hml]; rfl) (argsL := [(.ref b1), (.int ((p0.toUInt32 >>> ((2 : Int32) &&& 31).toUInt32).toInt32)), (.int (0 : Int32)), (.int p3)]) (rest := []) (lenOf pd_7 rfl) rfl (by show 2 * 0 + _ ≤ _; exact Nat.le_of_eq rfl) (hb hby at_112) (fun _ _ => ⟨rfl, e54, (by decide : 3 + 0 ≤ _), (by decide : 9 + 0 ≤ _)⟩)
        dsimp only [Pt.U, Pt.locs, Pt.cells, Pt.slots] at X56 l56 y56 z56 st56 hQ56
        subst l56 y56 z56
        obtain ⟨K0_56, K1_56, K2_56, M0_56, M1_56, M2_56, rfl, N56q, Kc56, o56_0, o56_1, o56_2, o56_3, o56_4, o56_5, o56_6, o56_7, o56_8⟩ := hQ56
        have E_b1_56 := o53_0.keep Kc56
        have N56 := Fr.app N54 N56q
        have Z56 := Nat.le_trans Z53 Kc56.1
        refine go (B := T56.setTop (mkF m 115 #[.val (.int p0), .val (.int p1), .val (.int p2), .val (.int p3), .val (.ref b1), .val (.int (1 : Int32)), .val (.int (0 : Int32))] [(.int (0 : Int32))])) (fun _ k => st56 _ k) ?_
        refine go (B := T56.setTop (mkF m 117 #[.val (.int p0), .val (.int p1), .val (.int p2), .val (.int p3), .val (.ref b1), .val (.int (1 : Int32)), .val (.int (0 : Int32))] [])) (fun _ k => XS.istore X56.here hx rfl (hb hby at_115) rfl (l' := #[.val (.int p0), .val (.int p1), .val (.int p2), .val (.int p3), .val (.ref b1), .val (.int (1 : Int32)), .val (.int (0 : Int32))]) rfl k) ?_
        refine go (B := T56.setTop (mkF m 119 #[.val (.int p0), .val (.int p1), .val (.int p2), .val (.int p3), .val (.ref b1), .val (.int (1 : Int32)), .val (.int (0 : Int32))] [(.int (1 : Int32))])) (fun _ k => XS.iload X56.here hx rfl (hb hby at_117) rfl k) ?_
        refine go (B := T56.setTop (mkF m 122 #[.val (.int p0), .val (.int p1), .val (.int p2), .val (.int p3), .val (.ref b1), .val (.int (1 : Int32)), .val (.int (0 : Int32))] [])) (fun _ k => XS.ifNo X56.here hx rfl (hb hby at_119) rfl ((if0 _ _).trans (feq (by decide : ¬ ((1 : Int32) = (0 : Int32)))).1) k) ?_
        refine go (B := T56.setTop (mkF m 124 #[.val (.int p0), .val (.int p1), .val (.int p2), .val (.int p3), .val (.ref b1), .val (.int (1 : Int32)), .val (.int (0 : Int32))] [(.ref b1)])) (fun _ k => XS.aload X56.here hx rfl (hb hby at_122) rfl rfl k) ?_
        obtain ⟨cq57, kq57, q57a, q57b, q57c⟩ := isOf hZ rfl o56_0
        obtain ⟨_, _, ⟨T57, L57, k57, n57⟩, -, X57, ⟨Lc57, hQ57, l57, y57, z57⟩, st57⟩ := X56.virtualBack hx (y := (⟨"com/example/constrained_flow/constrainedflow/planner/search/LeastFirst", "isEmpty", "()Z"⟩ : MethodName)) (z := (⟨"com/example/constrained_flow/constrainedflow/planner/search/LeastFirst", "isEmpty", "()Z"⟩ : MethodName)) hown (mvT hZ (hw _ (List.mem_of_getElem? (i := 15) rfl))) (mvT hZ (hw _ (List.mem_of_getElem? (i := 16) rfl))) (notFace_of_selects (args := #[]) (mvT hZ (hw _ (List.mem_of_getElem? (i := 18) rfl)))) (mvT hZ (hw _ (List.mem_of_getElem? (i := 18) rfl))) (mvT hZ (hw _ (List.mem_of_getElem? (i := 17) rfl))) (by decide) (backOf (W := 0) (rm3 l Z aw hw [] b1 (0 : Int32) T56.heap n0 Z56 o56_3) hZ (hw _ (List.mem_of_getElem? (i := 19) rfl)) (hw _ (List.mem_of_getElem? (i := 2) rfl)) (by decide) (by decide)) q57a q57c (g := (mkF m 124 #[.val (.int p0), .val (.int p1), .val (.int p2), .val (.int p3), .val (.ref b1), .val (.int (1 : Int32)), .val (.int (0 : Int32))] [(.ref b1)])) rfl (by rw [hml]; rfl) (Steps.refl _) (argsL := []) (rest := []) (lenOf pd_6 rfl) rfl (by show 2 * 0 + _ ≤ _; exact Nat.le_of_eq rfl) (hb hby at_124) (fun _ _ => ⟨rfl, rfl, (by decide : 3 + 0 ≤ _), (by decide : 9 + 0 ≤ _)⟩)
        dsimp only [Pt.U, Pt.locs, Pt.cells, Pt.slots] at X57 l57 y57 z57 st57 hQ57
        subst l57 y57 z57
        obtain ⟨rfl, rfl, e57⟩ := hQ57
        have N57 := Fr.app N56 (Fr.nil n0)
        refine go (B := T57.setTop (mkF m 127 #[.val (.int p0), .val (.int p1), .val (.int p2), .val (.int p3), .val (.ref b1), .val (.int (1 : Int32)), .val (.int (0 : Int32))] [(.int (1 : Int32))])) (fun _ k => st57.trans k) ?_
        refine go (B := T57.setTop (mkF m 129 #[.val (.int p0), .val (.int p1), .val (.int p2), .val (.int p3), .val (.ref b1), .val (.int (1 : Int32)), .val (.int (0 : Int32))] [(.int (0 : Int32)), (.int (1 : Int32))])) (fun _ k => XS.iload X57.here hx rfl (hb hby at_127) rfl k) ?_
        refine go (B := T57.setTop (mkF m 132 #[.val (.int p0), .val (.int p1), .val (.int p2), .val (.int p3), .val (.ref b1), .val (.int (1 : Int32)), .val (.int (0 : Int32))] [(.int (1 : Int32))])) (fun _ k => XS.ifNo X57.here hx rfl (hb hby at_129) rfl ((if0 _ _).trans (teq (by decide : (0 : Int32) = (0 : Int32))).2) k) ?_
        refine go (B := T57.setTop (mkF m 133 #[.val (.int p0), .val (.int p1), .val (.int p2), .val (.int p3), .val (.ref b1), .val (.int (1 : Int32)), .val (.int (0 : Int32))] [(.int (1 : Int32)), (.int (1 : Int32))])) (fun _ k => XS.iconst X57.here hx rfl (hb hby at_132) k) ?_
        refine go (B := T57.setTop (mkF m 137 #[.val (.int p0), .val (.int p1), .val (.int p2), .val (.int p3), .val (.ref b1), .val (.int (1 : Int32)), .val (.int (0 : Int32))] [(.int (1 : Int32)), (.int (1 : Int32))])) (fun _ k => XS.goto X57.here hx rfl (pc0 := 133) (pc' := 137) rfl (hb hby at_133) (by decide) (by decide) k) ?_
        refine go (B := T57.setTop (mkF m 140 #[.val (.int p0), .val (.int p1), .val (.int p2), .val (.int p3), .val (.ref b1), .val (.int (1 : Int32)), .val (.int (0 : Int32))] [])) (fun _ k => XS.icmpNo X57.here hx rfl (hb hby at_137) rfl (teq (by decide : (1 : Int32) = (1 : Int32))).2 k) ?_
        refine go (B := T57.setTop (mkF m 141 #[.val (.int p0), .val (.int p1), .val (.int p2), .val (.int p3), .val (.ref b1), .val (.int (1 : Int32)), .val (.int (0 : Int32))] [(.int (1 : Int32))])) (fun _ k => XS.iconst X57.here hx rfl (hb hby at_140) k) ?_
        refine go (B := T57.setTop (mkF m 145 #[.val (.int p0), .val (.int p1), .val (.int p2), .val (.int p3), .val (.ref b1), .val (.int (1 : Int32)), .val (.int (0 : Int32))] [(.int (1 : Int32))])) (fun _ k => XS.goto X57.here hx rfl (pc0 := 141) (pc' := 145) rfl (hb hby at_141) (by decide) (by decide) k) ?_
        refine go (B := T57.setTop (mkF m 147 #[.val (.int p0), .val (.int p1), .val (.int p2), .val (.int p3), .val (.ref b1), .val (.int (1 : Int32)), .val (.int (0 : Int32))] [])) (fun _ k => XS.istore X57.here hx rfl (hb hby at_145) rfl (l' := #[.val (.int p0), .val (.int p1), .val (.int p2), .val (.int p3), .val (.ref b1), .val (.int (1 : Int32)), .val (.int (0 : Int32))]) rfl k) ?_
        refine go (B := T57.setTop (mkF m 149 #[.val (.int p0), .val (.int p1), .val (.int p2), .val (.int p3), .val (.ref b1), .val (.int (1 : Int32)), .val (.int (0 : Int32))] [(.ref b1)])) (fun _ k => XS.aload X57.here hx rfl (hb hby at_147) rfl rfl k) ?_
        refine go (B := T57.setTop (mkF m 150 #[.val (.int p0), .val (.int p1), .val (.int p2), .val (.int p3), .val (.ref b1), .val (.int (1 : Int32)), .val (.int (0 : Int32))] [(.int p0), (.ref b1)])) (fun _ k => XS.iloadN X57.here hx rfl (hb hby at_149) rfl k) ?_
        refine go (B := T57.setTop (mkF m 151 #[.val (.int p0), .val (.int p1), .val (.int p2), .val (.int p3), .val (.ref b1), .val (.int (1 : Int32)), .val (.int (0 : Int32))] [(.int (3 : Int32)), (.int p0), (.ref b1)])) (fun _ k => XS.iconst X57.here hx rfl (hb hby at_150) k) ?_
        refine go (B := T57.setTop (mkF m 152 #[.val (.int p0), .val (.int p1), .val (.int p2), .val (.int p3), .val (.ref b1), .val (.int (1 : Int32)), .val (.int (0 : Int32))] [(.int ((p0.toUInt32 >>> ((3 : Int32) &&& 31).toUInt32).toInt32)), (.ref b1)])) (fun _ k => XS.iushr X57.here hx rfl (hb hby at_151) rfl k) ?_
        refine go (B := T57.setTop (mkF m 154 #[.val (.int p0), .val (.int p1), .val (.int p2), .val (.int p3), .val (.ref b1), .val (.int (1 : Int32)), .val (.int (0 : Int32))] [(.int (0 : Int32)), (.int ((p0.toUInt32 >>> ((3 : Int32) &&& 31).toUInt32).toInt32)), (.ref b1)])) (fun _ k => XS.iload X57.here hx rfl (hb hby at_152) rfl k) ?_
        refine go (B := T57.setTop (mkF m 155 #[.val (.int p0), .val (.int p1), .val (.int p2), .val (.int p3), .val (.ref b1), .val (.int (1 : Int32)), .val (.int (0 : Int32))] [(.int p1), (.int (0 : Int32)), (.int ((p0.toUInt32 >>> ((3 : Int32) &&& 31).toUInt32).toInt32)), (.ref b1)])) (fun _ k => XS.iloadN X57.here hx rfl (hb hby at_154) rfl k) ?_
        refine go (B := T57.setTop (mkF m 156 #[.val (.int p0), .val (.int p1), .val (.int p2), .val (.int p3), .val (.ref b1), .val (.int (1 : Int32)), .val (.int (0 : Int32))] [(.int p2), (.int p1), (.int (0 : Int32)), (.int ((p0.toUInt32 >>> ((3 : Int32) &&& 31).toUInt32).toInt32)), (.ref b1)])) (fun _ k => XS.iloadN X57.here hx rfl (hb hby at_155) rfl k) ?_
        refine go (B := T57.setTop (mkF m 157 #[.val (.int p0), .val (.int p1), .val (.int p2), .val (.int p3), .val (.ref b1), .val (.int (1 : Int32)), .val (.int (0 : Int32))] [(.int (p1 ^^^ p2)), (.int (0 : Int32)), (.int ((p0.toUInt32 >>> ((3 : Int32) &&& 31).toUInt32).toInt32)), (.ref b1)])) (fun _ k => XS.ixor X57.here hx rfl (hb hby at_156) rfl k) ?_
        by_cases hc58 : (((p0.toUInt32 >>> ((3 : Int32) &&& 31).toUInt32).toInt32) &&& (1 : Int32)) = (0 : Int32)
        · obtain ⟨_, _, ⟨T59, L59, k59, n59⟩, -, X59, ⟨Lc59, hQ59, l59, y59, z59⟩, st59⟩ := Jvm.LawKit.callS X57 hx (y := (⟨"com/example/constrained_flow/constrainedflow/planner/search/LeastFirstIsEmptyPinLaw", "step", "(Lcom/example/constrained_flow/constrainedflow/planner/search/LeastFirst;III)I"⟩ : MethodName)) hown (mvT hZ (hw _ (List.mem_of_getElem? (i := 22) rfl))) (mvT hZ (hw _ (List.mem_of_getElem? (i := 23) rfl))) (mvT hZ (hw _ (List.mem_of_getElem? (i := 24) rfl))) (mvT hZ (hw _ (List.mem_of_getElem? (i := 25) rfl))) (by decide) (backOf (W := 0) (rm4n0t l Z aw hw [] b1 ((p0.toUInt32 >>> ((3 : Int32) &&& 31).toUInt32).toInt32) (p1 ^^^ p2) b2_2 b4_2 k2_2 K0_56 K1_56 K2_56 k4_2 M0_56 M1_56 M2_56 T56.heap n0 Z56 o56_1 o56_2 o56_3 o56_0 o56_4 o56_5 ne_b1_b2_2 ne_b1_b4_2 o2_2 g_b1 g_b2_2 g_b4_2 o56_6 o56_7 o56_8 (show (((p0.toUInt32 >>> ((3 : Int32) &&& 31).toUInt32).toInt32) &&& (1 : Int32)) = (0 : Int32) from hc58)) hZ (hw _ (List.mem_of_getElem? (i := 25) rfl)) (hw _ (List.mem_of_getElem? (i := 24) rfl)) (by decide) (by decide)) (g := (mkF m 157 #[.val (.int p0), .val (.int p1), .val (.int p2), .val (.int p3), .val (.ref b1), .val (.int (1 : Int32)), .val (.int (0 : Int32))] [(.int (p1 ^^^ p2)), (.int (0 : Int32)), (.int ((p0.toUInt32 >>> ((3 : Int32) &&& 31).toUInt32).toInt32)), (.ref b1)])) rfl (by rw [hml]; rfl) (argsL := [(.ref b1), (.int ((p0.toUInt32 >>> ((3 : Int32) &&& 31).toUInt32).toInt32)), (.int (0 : Int32)), (.int (p1 ^^^ p2))]) (rest := []) (lenOf pd_7 rfl) rfl (by show 2 * 0 + _ ≤ _; exact Nat.le_of_eq rfl) (hb hby at_157) (fun _ _ => ⟨rfl, e57, (by decide : 3 + 0 ≤ _), (by decide : 9 + 0 ≤ _)⟩)
          dsimp only [Pt.U, Pt.locs, Pt.cells, Pt.slots] at X59 l59 y59 z59 st59 hQ59
          subst l59 y59 z59
          obtain ⟨K0_59, K1_59, K2_59, M0_59, M1_59, M2_59, rfl, N59q, Kc59, o59_0, o59_1, o59_2, o59_3, o59_4, o59_5, o59_6, o59_7, o59_8⟩ := hQ59
          have E_b1_59 := o56_0.keep Kc59
          have N59 := Fr.app N57 N59q
          have Z59 := Nat.le_trans Z56 Kc59.1
          refine go (B := T59.setTop (mkF m 160 #[.val (.int p0), .val (.int p1), .val (.int p2), .val (.int p3), .val (.ref b1), .val (.int (1 : Int32)), .val (.int (0 : Int32))] [(.int (0 : Int32))])) (fun _ k => st59 _ k) ?_
          refine go (B := T59.setTop (mkF m 162 #[.val (.int p0), .val (.int p1), .val (.int p2), .val (.int p3), .val (.ref b1), .val (.int (1 : Int32)), .val (.int (0 : Int32))] [])) (fun _ k => XS.istore X59.here hx rfl (hb hby at_160) rfl (l' := #[.val (.int p0), .val (.int p1), .val (.int p2), .val (.int p3), .val (.ref b1), .val (.int (1 : Int32)), .val (.int (0 : Int32))]) rfl k) ?_
          refine go (B := T59.setTop (mkF m 164 #[.val (.int p0), .val (.int p1), .val (.int p2), .val (.int p3), .val (.ref b1), .val (.int (1 : Int32)), .val (.int (0 : Int32))] [(.int (1 : Int32))])) (fun _ k => XS.iload X59.here hx rfl (hb hby at_162) rfl k) ?_
          refine go (B := T59.setTop (mkF m 167 #[.val (.int p0), .val (.int p1), .val (.int p2), .val (.int p3), .val (.ref b1), .val (.int (1 : Int32)), .val (.int (0 : Int32))] [])) (fun _ k => XS.ifNo X59.here hx rfl (hb hby at_164) rfl ((if0 _ _).trans (feq (by decide : ¬ ((1 : Int32) = (0 : Int32)))).1) k) ?_
          refine go (B := T59.setTop (mkF m 169 #[.val (.int p0), .val (.int p1), .val (.int p2), .val (.int p3), .val (.ref b1), .val (.int (1 : Int32)), .val (.int (0 : Int32))] [(.ref b1)])) (fun _ k => XS.aload X59.here hx rfl (hb hby at_167) rfl rfl k) ?_
          obtain ⟨cq60, kq60, q60a, q60b, q60c⟩ := isOf hZ rfl o59_0
          obtain ⟨_, _, ⟨T60, L60, k60, n60⟩, -, X60, ⟨Lc60, hQ60, l60, y60, z60⟩, st60⟩ := X59.virtualBack hx (y := (⟨"com/example/constrained_flow/constrainedflow/planner/search/LeastFirst", "isEmpty", "()Z"⟩ : MethodName)) (z := (⟨"com/example/constrained_flow/constrainedflow/planner/search/LeastFirst", "isEmpty", "()Z"⟩ : MethodName)) hown (mvT hZ (hw _ (List.mem_of_getElem? (i := 15) rfl))) (mvT hZ (hw _ (List.mem_of_getElem? (i := 16) rfl))) (notFace_of_selects (args := #[]) (mvT hZ (hw _ (List.mem_of_getElem? (i := 18) rfl)))) (mvT hZ (hw _ (List.mem_of_getElem? (i := 18) rfl))) (mvT hZ (hw _ (List.mem_of_getElem? (i := 17) rfl))) (by decide) (backOf (W := 0) (rm3 l Z aw hw [] b1 (0 : Int32) T59.heap n0 Z59 o59_3) hZ (hw _ (List.mem_of_getElem? (i := 19) rfl)) (hw _ (List.mem_of_getElem? (i := 2) rfl)) (by decide) (by decide)) q60a q60c (g := (mkF m 169 #[.val (.int p0), .val (.int p1), .val (.int p2), .val (.int p3), .val (.ref b1), .val (.int (1 : Int32)), .val (.int (0 : Int32))] [(.ref b1)])) rfl (by rw [hml]; rfl) (Steps.refl _) (argsL := []) (rest := []) (lenOf pd_6 rfl) rfl (by show 2 * 0 + _ ≤ _; exact Nat.le_of_eq rfl) (hb hby at_169) (fun _ _ => ⟨rfl, rfl, (by decide : 3 + 0 ≤ _), (by decide : 9 + 0 ≤ _)⟩)
          dsimp only [Pt.U, Pt.locs, Pt.cells, Pt.slots] at X60 l60 y60 z60 st60 hQ60
          subst l60 y60 z60
          obtain ⟨rfl, rfl, e60⟩ := hQ60
          have N60 := Fr.app N59 (Fr.nil n0)
          refine go (B := T60.setTop (mkF m 172 #[.val (.int p0), .val (.int p1), .val (.int p2), .val (.int p3), .val (.ref b1), .val (.int (1 : Int32)), .val (.int (0 : Int32))] [(.int (1 : Int32))])) (fun _ k => st60.trans k) ?_
          refine go (B := T60.setTop (mkF m 174 #[.val (.int p0), .val (.int p1), .val (.int p2), .val (.int p3), .val (.ref b1), .val (.int (1 : Int32)), .val (.int (0 : Int32))] [(.int (0 : Int32)), (.int (1 : Int32))])) (fun _ k => XS.iload X60.here hx rfl (hb hby at_172) rfl k) ?_
          refine go (B := T60.setTop (mkF m 177 #[.val (.int p0), .val (.int p1), .val (.int p2), .val (.int p3), .val (.ref b1), .val (.int (1 : Int32)), .val (.int (0 : Int32))] [(.int (1 : Int32))])) (fun _ k => XS.ifNo X60.here hx rfl (hb hby at_174) rfl ((if0 _ _).trans (teq (by decide : (0 : Int32) = (0 : Int32))).2) k) ?_
          refine go (B := T60.setTop (mkF m 178 #[.val (.int p0), .val (.int p1), .val (.int p2), .val (.int p3), .val (.ref b1), .val (.int (1 : Int32)), .val (.int (0 : Int32))] [(.int (1 : Int32)), (.int (1 : Int32))])) (fun _ k => XS.iconst X60.here hx rfl (hb hby at_177) k) ?_
          refine go (B := T60.setTop (mkF m 182 #[.val (.int p0), .val (.int p1), .val (.int p2), .val (.int p3), .val (.ref b1), .val (.int (1 : Int32)), .val (.int (0 : Int32))] [(.int (1 : Int32)), (.int (1 : Int32))])) (fun _ k => XS.goto X60.here hx rfl (pc0 := 178) (pc' := 182) rfl (hb hby at_178) (by decide) (by decide) k) ?_
          refine go (B := T60.setTop (mkF m 185 #[.val (.int p0), .val (.int p1), .val (.int p2), .val (.int p3), .val (.ref b1), .val (.int (1 : Int32)), .val (.int (0 : Int32))] [])) (fun _ k => XS.icmpNo X60.here hx rfl (hb hby at_182) rfl (teq (by decide : (1 : Int32) = (1 : Int32))).2 k) ?_
          refine go (B := T60.setTop (mkF m 186 #[.val (.int p0), .val (.int p1), .val (.int p2), .val (.int p3), .val (.ref b1), .val (.int (1 : Int32)), .val (.int (0 : Int32))] [(.int (1 : Int32))])) (fun _ k => XS.iconst X60.here hx rfl (hb hby at_185) k) ?_
          refine go (B := T60.setTop (mkF m 190 #[.val (.int p0), .val (.int p1), .val (.int p2), .val (.int p3), .val (.ref b1), .val (.int (1 : Int32)), .val (.int (0 : Int32))] [(.int (1 : Int32))])) (fun _ k => XS.goto X60.here hx rfl (pc0 := 186) (pc' := 190) rfl (hb hby at_186) (by decide) (by decide) k) ?_
          refine go (B := T60.setTop (mkF m 192 #[.val (.int p0), .val (.int p1), .val (.int p2), .val (.int p3), .val (.ref b1), .val (.int (1 : Int32)), .val (.int (0 : Int32))] [])) (fun _ k => XS.istore X60.here hx rfl (hb hby at_190) rfl (l' := #[.val (.int p0), .val (.int p1), .val (.int p2), .val (.int p3), .val (.ref b1), .val (.int (1 : Int32)), .val (.int (0 : Int32))]) rfl k) ?_
          refine go (B := T60.setTop (mkF m 194 #[.val (.int p0), .val (.int p1), .val (.int p2), .val (.int p3), .val (.ref b1), .val (.int (1 : Int32)), .val (.int (0 : Int32))] [(.int (1 : Int32))])) (fun _ k => XS.iload X60.here hx rfl (hb hby at_192) rfl k) ?_
          have r61 : (f0 p0) = (1 : Int32) := by unfold f0; rw [if_neg hc4, if_pos hc52, if_pos hc55, if_pos hc58]
          exact end_nar X60 hx Bd.notSynchronized (t := .boolean) Bd.returns (by simp) (hb hby at_194) hF e60 (by decide) (by decide) ⟨(congrArg (fun z => some (Value.int z)) (r61.symm.trans (own_law p0))), N60⟩
        · obtain ⟨_, _, ⟨T62, L62, k62, n62⟩, -, X62, ⟨Lc62, hQ62, l62, y62, z62⟩, st62⟩ := Jvm.LawKit.callS X57 hx (y := (⟨"com/example/constrained_flow/constrainedflow/planner/search/LeastFirstIsEmptyPinLaw", "step", "(Lcom/example/constrained_flow/constrainedflow/planner/search/LeastFirst;III)I"⟩ : MethodName)) hown (mvT hZ (hw _ (List.mem_of_getElem? (i := 22) rfl))) (mvT hZ (hw _ (List.mem_of_getElem? (i := 23) rfl))) (mvT hZ (hw _ (List.mem_of_getElem? (i := 24) rfl))) (mvT hZ (hw _ (List.mem_of_getElem? (i := 25) rfl))) (by decide) (backOf (W := 0) (rm4n0a l Z aw hw [] b1 ((p0.toUInt32 >>> ((3 : Int32) &&& 31).toUInt32).toInt32) (p1 ^^^ p2) b2_2 b4_2 k2_2 K0_56 K1_56 K2_56 k4_2 M0_56 M1_56 M2_56 T56.heap n0 Z56 o56_1 o56_2 o56_3 o56_0 o56_4 o56_5 ne_b1_b2_2 ne_b1_b4_2 o2_2 g_b1 g_b2_2 g_b4_2 o56_6 o56_7 o56_8 (show ¬ ((((p0.toUInt32 >>> ((3 : Int32) &&& 31).toUInt32).toInt32) &&& (1 : Int32)) = (0 : Int32)) from hc58)) hZ (hw _ (List.mem_of_getElem? (i := 25) rfl)) (hw _ (List.mem_of_getElem? (i := 24) rfl)) (by decide) (by decide)) (g := (mkF m 157 #[.val (.int p0), .val (.int p1), .val (.int p2), .val (.int p3), .val (.ref b1), .val (.int (1 : Int32)), .val (.int (0 : Int32))] [(.int (p1 ^^^ p2)), (.int (0 : Int32)), (.int ((p0.toUInt32 >>> ((3 : Int32) &&& 31).toUInt32).toInt32)), (.ref b1)])) rfl (by rw [hml]; rfl) (argsL := [(.ref b1), (.int ((p0.toUInt32 >>> ((3 : Int32) &&& 31).toUInt32).toInt32)), (.int (0 : Int32)), (.int (p1 ^^^ p2))]) (rest := []) (lenOf pd_7 rfl) rfl (by show 2 * 0 + _ ≤ _; exact Nat.le_of_eq rfl) (hb hby at_157) (fun _ _ => ⟨rfl, e57, (by decide : 3 + 0 ≤ _), (by decide : 9 + 0 ≤ _)⟩)
          dsimp only [Pt.U, Pt.locs, Pt.cells, Pt.slots] at X62 l62 y62 z62 st62 hQ62
          subst l62 y62 z62
          obtain ⟨K0_62, K1_62, K2_62, M0_62, M1_62, M2_62, rfl, N62q, Kc62, o62_0, o62_1, o62_2, o62_3, o62_4, o62_5, o62_6, o62_7, o62_8⟩ := hQ62
          have E_b1_62 := o56_0.keep Kc62
          have N62 := Fr.app N57 N62q
          have Z62 := Nat.le_trans Z56 Kc62.1
          refine go (B := T62.setTop (mkF m 160 #[.val (.int p0), .val (.int p1), .val (.int p2), .val (.int p3), .val (.ref b1), .val (.int (1 : Int32)), .val (.int (0 : Int32))] [(.int (1 : Int32))])) (fun _ k => st62 _ k) ?_
          refine go (B := T62.setTop (mkF m 162 #[.val (.int p0), .val (.int p1), .val (.int p2), .val (.int p3), .val (.ref b1), .val (.int (1 : Int32)), .val (.int (1 : Int32))] [])) (fun _ k => XS.istore X62.here hx rfl (hb hby at_160) rfl (l' := #[.val (.int p0), .val (.int p1), .val (.int p2), .val (.int p3), .val (.ref b1), .val (.int (1 : Int32)), .val (.int (1 : Int32))]) rfl k) ?_
          refine go (B := T62.setTop (mkF m 164 #[.val (.int p0), .val (.int p1), .val (.int p2), .val (.int p3), .val (.ref b1), .val (.int (1 : Int32)), .val (.int (1 : Int32))] [(.int (1 : Int32))])) (fun _ k => XS.iload X62.here hx rfl (hb hby at_162) rfl k) ?_
          refine go (B := T62.setTop (mkF m 167 #[.val (.int p0), .val (.int p1), .val (.int p2), .val (.int p3), .val (.ref b1), .val (.int (1 : Int32)), .val (.int (1 : Int32))] [])) (fun _ k => XS.ifNo X62.here hx rfl (hb hby at_164) rfl ((if0 _ _).trans (feq (by decide : ¬ ((1 : Int32) = (0 : Int32)))).1) k) ?_
          refine go (B := T62.setTop (mkF m 169 #[.val (.int p0), .val (.int p1), .val (.int p2), .val (.int p3), .val (.ref b1), .val (.int (1 : Int32)), .val (.int (1 : Int32))] [(.ref b1)])) (fun _ k => XS.aload X62.here hx rfl (hb hby at_167) rfl rfl k) ?_
          obtain ⟨cq63, kq63, q63a, q63b, q63c⟩ := isOf hZ rfl o62_0
          obtain ⟨_, _, ⟨T63, L63, k63, n63⟩, -, X63, ⟨Lc63, hQ63, l63, y63, z63⟩, st63⟩ := X62.virtualBack hx (y := (⟨"com/example/constrained_flow/constrainedflow/planner/search/LeastFirst", "isEmpty", "()Z"⟩ : MethodName)) (z := (⟨"com/example/constrained_flow/constrainedflow/planner/search/LeastFirst", "isEmpty", "()Z"⟩ : MethodName)) hown (mvT hZ (hw _ (List.mem_of_getElem? (i := 15) rfl))) (mvT hZ (hw _ (List.mem_of_getElem? (i := 16) rfl))) (notFace_of_selects (args := #[]) (mvT hZ (hw _ (List.mem_of_getElem? (i := 18) rfl)))) (mvT hZ (hw _ (List.mem_of_getElem? (i := 18) rfl))) (mvT hZ (hw _ (List.mem_of_getElem? (i := 17) rfl))) (by decide) (backOf (W := 0) (rm3 l Z aw hw [] b1 (1 : Int32) T62.heap n0 Z62 o62_3) hZ (hw _ (List.mem_of_getElem? (i := 19) rfl)) (hw _ (List.mem_of_getElem? (i := 2) rfl)) (by decide) (by decide)) q63a q63c (g := (mkF m 169 #[.val (.int p0), .val (.int p1), .val (.int p2), .val (.int p3), .val (.ref b1), .val (.int (1 : Int32)), .val (.int (1 : Int32))] [(.ref b1)])) rfl (by rw [hml]; rfl) (Steps.refl _) (argsL := []) (rest := []) (lenOf pd_6 rfl) rfl (by show 2 * 0 + _ ≤ _; exact Nat.le_of_eq rfl) (hb hby at_169) (fun _ _ => ⟨rfl, rfl, (by decide : 3 + 0 ≤ _), (by decide : 9 + 0 ≤ _)⟩)
          dsimp only [Pt.U, Pt.locs, Pt.cells, Pt.slots] at X63 l63 y63 z63 st63 hQ63
          subst l63 y63 z63
          obtain ⟨rfl, rfl, e63⟩ := hQ63
          have N63 := Fr.app N62 (Fr.nil n0)
          refine go (B := T63.setTop (mkF m 172 #[.val (.int p0), .val (.int p1), .val (.int p2), .val (.int p3), .val (.ref b1), .val (.int (1 : Int32)), .val (.int (1 : Int32))] [(.int (0 : Int32))])) (fun _ k => st63.trans k) ?_
          refine go (B := T63.setTop (mkF m 174 #[.val (.int p0), .val (.int p1), .val (.int p2), .val (.int p3), .val (.ref b1), .val (.int (1 : Int32)), .val (.int (1 : Int32))] [(.int (1 : Int32)), (.int (0 : Int32))])) (fun _ k => XS.iload X63.here hx rfl (hb hby at_172) rfl k) ?_
          refine go (B := T63.setTop (mkF m 181 #[.val (.int p0), .val (.int p1), .val (.int p2), .val (.int p3), .val (.ref b1), .val (.int (1 : Int32)), .val (.int (1 : Int32))] [(.int (0 : Int32))])) (fun _ k => XS.ifYes X63.here hx rfl (pc0 := 174) (pc' := 181) rfl (hb hby at_174) rfl ((if0 _ _).trans (feq (by decide : ¬ ((1 : Int32) = (0 : Int32)))).2) (by decide) (by decide) k) ?_
          refine go (B := T63.setTop (mkF m 182 #[.val (.int p0), .val (.int p1), .val (.int p2), .val (.int p3), .val (.ref b1), .val (.int (1 : Int32)), .val (.int (1 : Int32))] [(.int (0 : Int32)), (.int (0 : Int32))])) (fun _ k => XS.iconst X63.here hx rfl (hb hby at_181) k) ?_
          refine go (B := T63.setTop (mkF m 185 #[.val (.int p0), .val (.int p1), .val (.int p2), .val (.int p3), .val (.ref b1), .val (.int (1 : Int32)), .val (.int (1 : Int32))] [])) (fun _ k => XS.icmpNo X63.here hx rfl (hb hby at_182) rfl (teq (by decide : (0 : Int32) = (0 : Int32))).2 k) ?_
          refine go (B := T63.setTop (mkF m 186 #[.val (.int p0), .val (.int p1), .val (.int p2), .val (.int p3), .val (.ref b1), .val (.int (1 : Int32)), .val (.int (1 : Int32))] [(.int (1 : Int32))])) (fun _ k => XS.iconst X63.here hx rfl (hb hby at_185) k) ?_
          refine go (B := T63.setTop (mkF m 190 #[.val (.int p0), .val (.int p1), .val (.int p2), .val (.int p3), .val (.ref b1), .val (.int (1 : Int32)), .val (.int (1 : Int32))] [(.int (1 : Int32))])) (fun _ k => XS.goto X63.here hx rfl (pc0 := 186) (pc' := 190) rfl (hb hby at_186) (by decide) (by decide) k) ?_
          refine go (B := T63.setTop (mkF m 192 #[.val (.int p0), .val (.int p1), .val (.int p2), .val (.int p3), .val (.ref b1), .val (.int (1 : Int32)), .val (.int (1 : Int32))] [])) (fun _ k => XS.istore X63.here hx rfl (hb hby at_190) rfl (l' := #[.val (.int p0), .val (.int p1), .val (.int p2), .val (.int p3), .val (.ref b1), .val (.int (1 : Int32)), .val (.int (1 : Int32))]) rfl k) ?_
          refine go (B := T63.setTop (mkF m 194 #[.val (.int p0), .val (.int p1), .val (.int p2), .val (.int p3), .val (.ref b1), .val (.int (1 : Int32)), .val (.int (1 : Int32))] [(.int (1 : Int32))])) (fun _ k => XS.iload X63.here hx rfl (hb hby at_192) rfl k) ?_
          have r64 : (f0 p0) = (1 : Int32) := by unfold f0; rw [if_neg hc4, if_pos hc52, if_pos hc55, if_neg hc58]
          exact end_nar X63 hx Bd.notSynchronized (t := .boolean) Bd.returns (by simp) (hb hby at_194) hF e63 (by decide) (by decide) ⟨(congrArg (fun z => some (Value.int z)) (r64.symm.trans (own_law p0))), N63⟩
      · obtain ⟨_, _, ⟨T65, L65, k65, n65⟩, -, X65, ⟨Lc65, hQ65, l65, y65, z65⟩, st65⟩ := Jvm.LawKit.callS X54 hx (y := (⟨"com/example/constrained_flow/constrainedflow/planner/search/LeastFirstIsEmptyPinLaw", "step", "(Lcom/example/constrained_flow/constrainedflow/planner/search/LeastFirst;III)I"⟩ : MethodName)) hown (mvT hZ (hw _ (List.mem_of_getElem? (i := 22) rfl))) (mvT hZ (hw _ (List.mem_of_getElem? (i := 23) rfl))) (mvT hZ (hw _ (List.mem_of_getElem? (i := 24) rfl))) (mvT hZ (hw _ (List.mem_of_getElem? (i := 25) rfl))) (by decide) (backOf (W := 0) (rm4n0a l Z aw hw [] b1 ((p0.toUInt32 >>> ((2 : Int32) &&& 31).toUInt32).toInt32) p3 b2_2 b4_2 k2_2 K0_53 K1_53 K2_53 k4_2 M0_53 M1_53 M2_53 T53.heap n0 Z53 o53_1 o53_2 o53_3 o53_0 o53_4 o53_5 ne_b1_b2_2 ne_b1_b4_2 o2_2 g_b1 g_b2_2 g_b4_2 o53_6 o53_7 o53_8 (show ¬ ((((p0.toUInt32 >>> ((2 : Int32) &&& 31).toUInt32).toInt32) &&& (1 : Int32)) = (0 : Int32)) from hc55)) hZ (hw _ (List.mem_of_getElem? (i := 25) rfl)) (hw _ (List.mem_of_getElem? (i := 24) rfl)) (by decide) (by decide)) (g := (mkF m 112 #[.val (.int p0), .val (.int p1), .val (.int p2), .val (.int p3), .val (.ref b1), .val (.int (1 : Int32)), .val (.int (0 : Int32))] [(.int p3), (.int (0 : Int32)), (.int ((p0.toUInt32 >>> ((2 : Int32) &&& 31).toUInt32).toInt32)), (.ref b1)])) rfl (by rw [hml]; rfl) (argsL := [(.ref b1), (.int ((p0.toUInt32 >>> ((2 : Int32) &&& 31).toUInt32).toInt32)), (.int (0 : Int32)), (.int p3)]) (rest := []) (lenOf pd_7 rfl) rfl (by show 2 * 0 + _ ≤ _; exact Nat.le_of_eq rfl) (hb hby at_112) (fun _ _ => ⟨rfl, e54, (by decide : 3 + 0 ≤ _), (by decide : 9 + 0 ≤ _)⟩)
        dsimp only [Pt.U, Pt.locs, Pt.cells, Pt.slots] at X65 l65 y65 z65 st65 hQ65
        subst l65 y65 z65
        obtain ⟨K0_65, K1_65, K2_65, M0_65, M1_65, M2_65, rfl, N65q, Kc65, o65_0, o65_1, o65_2, o65_3, o65_4, o65_5, o65_6, o65_7, o65_8⟩ := hQ65
        have E_b1_65 := o53_0.keep Kc65
        have N65 := Fr.app N54 N65q
        have Z65 := Nat.le_trans Z53 Kc65.1
        refine go (B := T65.setTop (mkF m 115 #[.val (.int p0), .val (.int p1), .val (.int p2), .val (.int p3), .val (.ref b1), .val (.int (1 : Int32)), .val (.int (0 : Int32))] [(.int (1 : Int32))])) (fun _ k => st65 _ k) ?_
        refine go (B := T65.setTop (mkF m 117 #[.val (.int p0), .val (.int p1), .val (.int p2), .val (.int p3), .val (.ref b1), .val (.int (1 : Int32)), .val (.int (1 : Int32))] [])) (fun _ k => XS.istore X65.here hx rfl (hb hby at_115) rfl (l' := #[.val (.int p0), .val (.int p1), .val (.int p2), .val (.int p3), .val (.ref b1), .val (.int (1 : Int32)), .val (.int (1 : Int32))]) rfl k) ?_
        refine go (B := T65.setTop (mkF m 119 #[.val (.int p0), .val (.int p1), .val (.int p2), .val (.int p3), .val (.ref b1), .val (.int (1 : Int32)), .val (.int (1 : Int32))] [(.int (1 : Int32))])) (fun _ k => XS.iload X65.here hx rfl (hb hby at_117) rfl k) ?_
        refine go (B := T65.setTop (mkF m 122 #[.val (.int p0), .val (.int p1), .val (.int p2), .val (.int p3), .val (.ref b1), .val (.int (1 : Int32)), .val (.int (1 : Int32))] [])) (fun _ k => XS.ifNo X65.here hx rfl (hb hby at_119) rfl ((if0 _ _).trans (feq (by decide : ¬ ((1 : Int32) = (0 : Int32)))).1) k) ?_
        refine go (B := T65.setTop (mkF m 124 #[.val (.int p0), .val (.int p1), .val (.int p2), .val (.int p3), .val (.ref b1), .val (.int (1 : Int32)), .val (.int (1 : Int32))] [(.ref b1)])) (fun _ k => XS.aload X65.here hx rfl (hb hby at_122) rfl rfl k) ?_
        obtain ⟨cq66, kq66, q66a, q66b, q66c⟩ := isOf hZ rfl o65_0
        obtain ⟨_, _, ⟨T66, L66, k66, n66⟩, -, X66, ⟨Lc66, hQ66, l66, y66, z66⟩, st66⟩ := X65.virtualBack hx (y := (⟨"com/example/constrained_flow/constrainedflow/planner/search/LeastFirst", "isEmpty", "()Z"⟩ : MethodName)) (z := (⟨"com/example/constrained_flow/constrainedflow/planner/search/LeastFirst", "isEmpty", "()Z"⟩ : MethodName)) hown (mvT hZ (hw _ (List.mem_of_getElem? (i := 15) rfl))) (mvT hZ (hw _ (List.mem_of_getElem? (i := 16) rfl))) (notFace_of_selects (args := #[]) (mvT hZ (hw _ (List.mem_of_getElem? (i := 18) rfl)))) (mvT hZ (hw _ (List.mem_of_getElem? (i := 18) rfl))) (mvT hZ (hw _ (List.mem_of_getElem? (i := 17) rfl))) (by decide) (backOf (W := 0) (rm3 l Z aw hw [] b1 (1 : Int32) T65.heap n0 Z65 o65_3) hZ (hw _ (List.mem_of_getElem? (i := 19) rfl)) (hw _ (List.mem_of_getElem? (i := 2) rfl)) (by decide) (by decide)) q66a q66c (g := (mkF m 124 #[.val (.int p0), .val (.int p1), .val (.int p2), .val (.int p3), .val (.ref b1), .val (.int (1 : Int32)), .val (.int (1 : Int32))] [(.ref b1)])) rfl (by rw [hml]; rfl) (Steps.refl _) (argsL := []) (rest := []) (lenOf pd_6 rfl) rfl (by show 2 * 0 + _ ≤ _; exact Nat.le_of_eq rfl) (hb hby at_124) (fun _ _ => ⟨rfl, rfl, (by decide : 3 + 0 ≤ _), (by decide : 9 + 0 ≤ _)⟩)
        dsimp only [Pt.U, Pt.locs, Pt.cells, Pt.slots] at X66 l66 y66 z66 st66 hQ66
        subst l66 y66 z66
        obtain ⟨rfl, rfl, e66⟩ := hQ66
        have N66 := Fr.app N65 (Fr.nil n0)
        refine go (B := T66.setTop (mkF m 127 #[.val (.int p0), .val (.int p1), .val (.int p2), .val (.int p3), .val (.ref b1), .val (.int (1 : Int32)), .val (.int (1 : Int32))] [(.int (0 : Int32))])) (fun _ k => st66.trans k) ?_
        refine go (B := T66.setTop (mkF m 129 #[.val (.int p0), .val (.int p1), .val (.int p2), .val (.int p3), .val (.ref b1), .val (.int (1 : Int32)), .val (.int (1 : Int32))] [(.int (1 : Int32)), (.int (0 : Int32))])) (fun _ k => XS.iload X66.here hx rfl (hb hby at_127) rfl k) ?_
        refine go (B := T66.setTop (mkF m 136 #[.val (.int p0), .val (.int p1), .val (.int p2), .val (.int p3), .val (.ref b1), .val (.int (1 : Int32)), .val (.int (1 : Int32))] [(.int (0 : Int32))])) (fun _ k => XS.ifYes X66.here hx rfl (pc0 := 129) (pc' := 136) rfl (hb hby at_129) rfl ((if0 _ _).trans (feq (by decide : ¬ ((1 : Int32) = (0 : Int32)))).2) (by decide) (by decide) k) ?_
        refine go (B := T66.setTop (mkF m 137 #[.val (.int p0), .val (.int p1), .val (.int p2), .val (.int p3), .val (.ref b1), .val (.int (1 : Int32)), .val (.int (1 : Int32))] [(.int (0 : Int32)), (.int (0 : Int32))])) (fun _ k => XS.iconst X66.here hx rfl (hb hby at_136) k) ?_
        refine go (B := T66.setTop (mkF m 140 #[.val (.int p0), .val (.int p1), .val (.int p2), .val (.int p3), .val (.ref b1), .val (.int (1 : Int32)), .val (.int (1 : Int32))] [])) (fun _ k => XS.icmpNo X66.here hx rfl (hb hby at_137) rfl (teq (by decide : (0 : Int32) = (0 : Int32))).2 k) ?_
        refine go (B := T66.setTop (mkF m 141 #[.val (.int p0), .val (.int p1), .val (.int p2), .val (.int p3), .val (.ref b1), .val (.int (1 : Int32)), .val (.int (1 : Int32))] [(.int (1 : Int32))])) (fun _ k => XS.iconst X66.here hx rfl (hb hby at_140) k) ?_
        refine go (B := T66.setTop (mkF m 145 #[.val (.int p0), .val (.int p1), .val (.int p2), .val (.int p3), .val (.ref b1), .val (.int (1 : Int32)), .val (.int (1 : Int32))] [(.int (1 : Int32))])) (fun _ k => XS.goto X66.here hx rfl (pc0 := 141) (pc' := 145) rfl (hb hby at_141) (by decide) (by decide) k) ?_
        refine go (B := T66.setTop (mkF m 147 #[.val (.int p0), .val (.int p1), .val (.int p2), .val (.int p3), .val (.ref b1), .val (.int (1 : Int32)), .val (.int (1 : Int32))] [])) (fun _ k => XS.istore X66.here hx rfl (hb hby at_145) rfl (l' := #[.val (.int p0), .val (.int p1), .val (.int p2), .val (.int p3), .val (.ref b1), .val (.int (1 : Int32)), .val (.int (1 : Int32))]) rfl k) ?_
        refine go (B := T66.setTop (mkF m 149 #[.val (.int p0), .val (.int p1), .val (.int p2), .val (.int p3), .val (.ref b1), .val (.int (1 : Int32)), .val (.int (1 : Int32))] [(.ref b1)])) (fun _ k => XS.aload X66.here hx rfl (hb hby at_147) rfl rfl k) ?_
        refine go (B := T66.setTop (mkF m 150 #[.val (.int p0), .val (.int p1), .val (.int p2), .val (.int p3), .val (.ref b1), .val (.int (1 : Int32)), .val (.int (1 : Int32))] [(.int p0), (.ref b1)])) (fun _ k => XS.iloadN X66.here hx rfl (hb hby at_149) rfl k) ?_
        refine go (B := T66.setTop (mkF m 151 #[.val (.int p0), .val (.int p1), .val (.int p2), .val (.int p3), .val (.ref b1), .val (.int (1 : Int32)), .val (.int (1 : Int32))] [(.int (3 : Int32)), (.int p0), (.ref b1)])) (fun _ k => XS.iconst X66.here hx rfl (hb hby at_150) k) ?_
        refine go (B := T66.setTop (mkF m 152 #[.val (.int p0), .val (.int p1), .val (.int p2), .val (.int p3), .val (.ref b1), .val (.int (1 : Int32)), .val (.int (1 : Int32))] [(.int ((p0.toUInt32 >>> ((3 : Int32) &&& 31).toUInt32).toInt32)), (.ref b1)])) (fun _ k => XS.iushr X66.here hx rfl (hb hby at_151) rfl k) ?_
        refine go (B := T66.setTop (mkF m 154 #[.val (.int p0), .val (.int p1), .val (.int p2), .val (.int p3), .val (.ref b1), .val (.int (1 : Int32)), .val (.int (1 : Int32))] [(.int (1 : Int32)), (.int ((p0.toUInt32 >>> ((3 : Int32) &&& 31).toUInt32).toInt32)), (.ref b1)])) (fun _ k => XS.iload X66.here hx rfl (hb hby at_152) rfl k) ?_
        refine go (B := T66.setTop (mkF m 155 #[.val (.int p0), .val (.int p1), .val (.int p2), .val (.int p3), .val (.ref b1), .val (.int (1 : Int32)), .val (.int (1 : Int32))] [(.int p1), (.int (1 : Int32)), (.int ((p0.toUInt32 >>> ((3 : Int32) &&& 31).toUInt32).toInt32)), (.ref b1)])) (fun _ k => XS.iloadN X66.here hx rfl (hb hby at_154) rfl k) ?_
        refine go (B := T66.setTop (mkF m 156 #[.val (.int p0), .val (.int p1), .val (.int p2), .val (.int p3), .val (.ref b1), .val (.int (1 : Int32)), .val (.int (1 : Int32))] [(.int p2), (.int p1), (.int (1 : Int32)), (.int ((p0.toUInt32 >>> ((3 : Int32) &&& 31).toUInt32).toInt32)), (.ref b1)])) (fun _ k => XS.iloadN X66.here hx rfl (hb hby at_155) rfl k) ?_
        refine go (B := T66.setTop (mkF m 157 #[.val (.int p0), .val (.int p1), .val (.int p2), .val (.int p3), .val (.ref b1), .val (.int (1 : Int32)), .val (.int (1 : Int32))] [(.int (p1 ^^^ p2)), (.int (1 : Int32)), (.int ((p0.toUInt32 >>> ((3 : Int32) &&& 31).toUInt32).toInt32)), (.ref b1)])) (fun _ k => XS.ixor X66.here hx rfl (hb hby at_156) rfl k) ?_
        by_cases hc67 : (((p0.toUInt32 >>> ((3 : Int32) &&& 31).toUInt32).toInt32) &&& (1 : Int32)) = (0 : Int32)
        · obtain ⟨_, _, ⟨T68, L68, k68, n68⟩, -, X68, ⟨Lc68, hQ68, l68, y68, z68⟩, st68⟩ := Jvm.LawKit.callS X66 hx (y := (⟨"com/example/constrained_flow/constrainedflow/planner/search/LeastFirstIsEmptyPinLaw", "step", "(Lcom/example/constrained_flow/constrainedflow/planner/search/LeastFirst;III)I"⟩ : MethodName)) hown (mvT hZ (hw _ (List.mem_of_getElem? (i := 22) rfl))) (mvT hZ (hw _ (List.mem_of_getElem? (i := 23) rfl))) (mvT hZ (hw _ (List.mem_of_getElem? (i := 24) rfl))) (mvT hZ (hw _ (List.mem_of_getElem? (i := 25) rfl))) (by decide) (backOf (W := 0) (rm4n1t l Z aw hw [] b1 ((p0.toUInt32 >>> ((3 : Int32) &&& 31).toUInt32).toInt32) (p1 ^^^ p2) b2_2 b4_2 k2_2 K0_65 K1_65 K2_65 k4_2 M0_65 M1_65 M2_65 T65.heap n0 Z65 o65_1 o65_2 o65_3 o65_0 o65_4 o65_5 ne_b1_b2_2 ne_b1_b4_2 o2_2 g_b1 g_b2_2 g_b4_2 o65_6 o65_7 o65_8 (show (((p0.toUInt32 >>> ((3 : Int32) &&& 31).toUInt32).toInt32) &&& (1 : Int32)) = (0 : Int32) from hc67)) hZ (hw _ (List.mem_of_getElem? (i := 25) rfl)) (hw _ (List.mem_of_getElem? (i := 24) rfl)) (by decide) (by decide)) (g := (mkF m 157 #[.val (.int p0), .val (.int p1), .val (.int p2), .val (.int p3), .val (.ref b1), .val (.int (1 : Int32)), .val (.int (1 : Int32))] [(.int (p1 ^^^ p2)), (.int (1 : Int32)), (.int ((p0.toUInt32 >>> ((3 : Int32) &&& 31).toUInt32).toInt32)), (.ref b1)])) rfl (by rw [hml]; rfl) (argsL := [(.ref b1), (.int ((p0.toUInt32 >>> ((3 : Int32) &&& 31).toUInt32).toInt32)), (.int (1 : Int32)), (.int (p1 ^^^ p2))]) (rest := []) (lenOf pd_7 rfl) rfl (by show 2 * 0 + _ ≤ _; exact Nat.le_of_eq rfl) (hb hby at_157) (fun _ _ => ⟨rfl, e66, (by decide : 3 + 0 ≤ _), (by decide : 9 + 0 ≤ _)⟩)
          dsimp only [Pt.U, Pt.locs, Pt.cells, Pt.slots] at X68 l68 y68 z68 st68 hQ68
          subst l68 y68 z68
          obtain ⟨K0_68, K1_68, K2_68, M0_68, M1_68, M2_68, rfl, N68q, Kc68, o68_0, o68_1, o68_2, o68_3, o68_4, o68_5, o68_6, o68_7, o68_8⟩ := hQ68
          have E_b1_68 := o65_0.keep Kc68
          have N68 := Fr.app N66 N68q
          have Z68 := Nat.le_trans Z65 Kc68.1
          refine go (B := T68.setTop (mkF m 160 #[.val (.int p0), .val (.int p1), .val (.int p2), .val (.int p3), .val (.ref b1), .val (.int (1 : Int32)), .val (.int (1 : Int32))] [(.int (0 : Int32))])) (fun _ k => st68 _ k) ?_
          refine go (B := T68.setTop (mkF m 162 #[.val (.int p0), .val (.int p1), .val (.int p2), .val (.int p3), .val (.ref b1), .val (.int (1 : Int32)), .val (.int (0 : Int32))] [])) (fun _ k => XS.istore X68.here hx rfl (hb hby at_160) rfl (l' := #[.val (.int p0), .val (.int p1), .val (.int p2), .val (.int p3), .val (.ref b1), .val (.int (1 : Int32)), .val (.int (0 : Int32))]) rfl k) ?_
          refine go (B := T68.setTop (mkF m 164 #[.val (.int p0), .val (.int p1), .val (.int p2), .val (.int p3), .val (.ref b1), .val (.int (1 : Int32)), .val (.int (0 : Int32))] [(.int (1 : Int32))])) (fun _ k => XS.iload X68.here hx rfl (hb hby at_162) rfl k) ?_
          refine go (B := T68.setTop (mkF m 167 #[.val (.int p0), .val (.int p1), .val (.int p2), .val (.int p3), .val (.ref b1), .val (.int (1 : Int32)), .val (.int (0 : Int32))] [])) (fun _ k => XS.ifNo X68.here hx rfl (hb hby at_164) rfl ((if0 _ _).trans (feq (by decide : ¬ ((1 : Int32) = (0 : Int32)))).1) k) ?_
          refine go (B := T68.setTop (mkF m 169 #[.val (.int p0), .val (.int p1), .val (.int p2), .val (.int p3), .val (.ref b1), .val (.int (1 : Int32)), .val (.int (0 : Int32))] [(.ref b1)])) (fun _ k => XS.aload X68.here hx rfl (hb hby at_167) rfl rfl k) ?_
          obtain ⟨cq69, kq69, q69a, q69b, q69c⟩ := isOf hZ rfl o68_0
          obtain ⟨_, _, ⟨T69, L69, k69, n69⟩, -, X69, ⟨Lc69, hQ69, l69, y69, z69⟩, st69⟩ := X68.virtualBack hx (y := (⟨"com/example/constrained_flow/constrainedflow/planner/search/LeastFirst", "isEmpty", "()Z"⟩ : MethodName)) (z := (⟨"com/example/constrained_flow/constrainedflow/planner/search/LeastFirst", "isEmpty", "()Z"⟩ : MethodName)) hown (mvT hZ (hw _ (List.mem_of_getElem? (i := 15) rfl))) (mvT hZ (hw _ (List.mem_of_getElem? (i := 16) rfl))) (notFace_of_selects (args := #[]) (mvT hZ (hw _ (List.mem_of_getElem? (i := 18) rfl)))) (mvT hZ (hw _ (List.mem_of_getElem? (i := 18) rfl))) (mvT hZ (hw _ (List.mem_of_getElem? (i := 17) rfl))) (by decide) (backOf (W := 0) (rm3 l Z aw hw [] b1 (0 : Int32) T68.heap n0 Z68 o68_3) hZ (hw _ (List.mem_of_getElem? (i := 19) rfl)) (hw _ (List.mem_of_getElem? (i := 2) rfl)) (by decide) (by decide)) q69a q69c (g := (mkF m 169 #[.val (.int p0), .val (.int p1), .val (.int p2), .val (.int p3), .val (.ref b1), .val (.int (1 : Int32)), .val (.int (0 : Int32))] [(.ref b1)])) rfl (by rw [hml]; rfl) (Steps.refl _) (argsL := []) (rest := []) (lenOf pd_6 rfl) rfl (by show 2 * 0 + _ ≤ _; exact Nat.le_of_eq rfl) (hb hby at_169) (fun _ _ => ⟨rfl, rfl, (by decide : 3 + 0 ≤ _), (by decide : 9 + 0 ≤ _)⟩)
          dsimp only [Pt.U, Pt.locs, Pt.cells, Pt.slots] at X69 l69 y69 z69 st69 hQ69
          subst l69 y69 z69
          obtain ⟨rfl, rfl, e69⟩ := hQ69
          have N69 := Fr.app N68 (Fr.nil n0)
          refine go (B := T69.setTop (mkF m 172 #[.val (.int p0), .val (.int p1), .val (.int p2), .val (.int p3), .val (.ref b1), .val (.int (1 : Int32)), .val (.int (0 : Int32))] [(.int (1 : Int32))])) (fun _ k => st69.trans k) ?_
          refine go (B := T69.setTop (mkF m 174 #[.val (.int p0), .val (.int p1), .val (.int p2), .val (.int p3), .val (.ref b1), .val (.int (1 : Int32)), .val (.int (0 : Int32))] [(.int (0 : Int32)), (.int (1 : Int32))])) (fun _ k => XS.iload X69.here hx rfl (hb hby at_172) rfl k) ?_
          refine go (B := T69.setTop (mkF m 177 #[.val (.int p0), .val (.int p1), .val (.int p2), .val (.int p3), .val (.ref b1), .val (.int (1 : Int32)), .val (.int (0 : Int32))] [(.int (1 : Int32))])) (fun _ k => XS.ifNo X69.here hx rfl (hb hby at_174) rfl ((if0 _ _).trans (teq (by decide : (0 : Int32) = (0 : Int32))).2) k) ?_
          refine go (B := T69.setTop (mkF m 178 #[.val (.int p0), .val (.int p1), .val (.int p2), .val (.int p3), .val (.ref b1), .val (.int (1 : Int32)), .val (.int (0 : Int32))] [(.int (1 : Int32)), (.int (1 : Int32))])) (fun _ k => XS.iconst X69.here hx rfl (hb hby at_177) k) ?_
          refine go (B := T69.setTop (mkF m 182 #[.val (.int p0), .val (.int p1), .val (.int p2), .val (.int p3), .val (.ref b1), .val (.int (1 : Int32)), .val (.int (0 : Int32))] [(.int (1 : Int32)), (.int (1 : Int32))])) (fun _ k => XS.goto X69.here hx rfl (pc0 := 178) (pc' := 182) rfl (hb hby at_178) (by decide) (by decide) k) ?_
          refine go (B := T69.setTop (mkF m 185 #[.val (.int p0), .val (.int p1), .val (.int p2), .val (.int p3), .val (.ref b1), .val (.int (1 : Int32)), .val (.int (0 : Int32))] [])) (fun _ k => XS.icmpNo X69.here hx rfl (hb hby at_182) rfl (teq (by decide : (1 : Int32) = (1 : Int32))).2 k) ?_
          refine go (B := T69.setTop (mkF m 186 #[.val (.int p0), .val (.int p1), .val (.int p2), .val (.int p3), .val (.ref b1), .val (.int (1 : Int32)), .val (.int (0 : Int32))] [(.int (1 : Int32))])) (fun _ k => XS.iconst X69.here hx rfl (hb hby at_185) k) ?_
          refine go (B := T69.setTop (mkF m 190 #[.val (.int p0), .val (.int p1), .val (.int p2), .val (.int p3), .val (.ref b1), .val (.int (1 : Int32)), .val (.int (0 : Int32))] [(.int (1 : Int32))])) (fun _ k => XS.goto X69.here hx rfl (pc0 := 186) (pc' := 190) rfl (hb hby at_186) (by decide) (by decide) k) ?_
          refine go (B := T69.setTop (mkF m 192 #[.val (.int p0), .val (.int p1), .val (.int p2), .val (.int p3), .val (.ref b1), .val (.int (1 : Int32)), .val (.int (0 : Int32))] [])) (fun _ k => XS.istore X69.here hx rfl (hb hby at_190) rfl (l' := #[.val (.int p0), .val (.int p1), .val (.int p2), .val (.int p3), .val (.ref b1), .val (.int (1 : Int32)), .val (.int (0 : Int32))]) rfl k) ?_
          refine go (B := T69.setTop (mkF m 194 #[.val (.int p0), .val (.int p1), .val (.int p2), .val (.int p3), .val (.ref b1), .val (.int (1 : Int32)), .val (.int (0 : Int32))] [(.int (1 : Int32))])) (fun _ k => XS.iload X69.here hx rfl (hb hby at_192) rfl k) ?_
          have r70 : (f0 p0) = (1 : Int32) := by unfold f0; rw [if_neg hc4, if_pos hc52, if_neg hc55, if_pos hc67]
          exact end_nar X69 hx Bd.notSynchronized (t := .boolean) Bd.returns (by simp) (hb hby at_194) hF e69 (by decide) (by decide) ⟨(congrArg (fun z => some (Value.int z)) (r70.symm.trans (own_law p0))), N69⟩
        · obtain ⟨_, _, ⟨T71, L71, k71, n71⟩, -, X71, ⟨Lc71, hQ71, l71, y71, z71⟩, st71⟩ := Jvm.LawKit.callS X66 hx (y := (⟨"com/example/constrained_flow/constrainedflow/planner/search/LeastFirstIsEmptyPinLaw", "step", "(Lcom/example/constrained_flow/constrainedflow/planner/search/LeastFirst;III)I"⟩ : MethodName)) hown (mvT hZ (hw _ (List.mem_of_getElem? (i := 22) rfl))) (mvT hZ (hw _ (List.mem_of_getElem? (i := 23) rfl))) (mvT hZ (hw _ (List.mem_of_getElem? (i := 24) rfl))) (mvT hZ (hw _ (List.mem_of_getElem? (i := 25) rfl))) (by decide) (backOf (W := 0) (rm4n1a l Z aw hw [] b1 ((p0.toUInt32 >>> ((3 : Int32) &&& 31).toUInt32).toInt32) (p1 ^^^ p2) b2_2 b4_2 k2_2 K0_65 K1_65 K2_65 k4_2 M0_65 M1_65 M2_65 T65.heap n0 Z65 o65_1 o65_2 o65_3 o65_0 o65_4 o65_5 ne_b1_b2_2 ne_b1_b4_2 o2_2 g_b1 g_b2_2 g_b4_2 o65_6 o65_7 o65_8 (show ¬ ((((p0.toUInt32 >>> ((3 : Int32) &&& 31).toUInt32).toInt32) &&& (1 : Int32)) = (0 : Int32)) from hc67)) hZ (hw _ (List.mem_of_getElem? (i := 25) rfl)) (hw _ (List.mem_of_getElem? (i := 24) rfl)) (by decide) (by decide)) (g := (mkF m 157 #[.val (.int p0), .val (.int p1), .val (.int p2), .val (.int p3), .val (.ref b1), .val (.int (1 : Int32)), .val (.int (1 : Int32))] [(.int (p1 ^^^ p2)), (.int (1 : Int32)), (.int ((p0.toUInt32 >>> ((3 : Int32) &&& 31).toUInt32).toInt32)), (.ref b1)])) rfl (by rw [hml]; rfl) (argsL := [(.ref b1), (.int ((p0.toUInt32 >>> ((3 : Int32) &&& 31).toUInt32).toInt32)), (.int (1 : Int32)), (.int (p1 ^^^ p2))]) (rest := []) (lenOf pd_7 rfl) rfl (by show 2 * 0 + _ ≤ _; exact Nat.le_of_eq rfl) (hb hby at_157) (fun _ _ => ⟨rfl, e66, (by decide : 3 + 0 ≤ _), (by decide : 9 + 0 ≤ _)⟩)
          dsimp only [Pt.U, Pt.locs, Pt.cells, Pt.slots] at X71 l71 y71 z71 st71 hQ71
          subst l71 y71 z71
          obtain ⟨K0_71, K1_71, K2_71, M0_71, M1_71, M2_71, rfl, N71q, Kc71, o71_0, o71_1, o71_2, o71_3, o71_4, o71_5, o71_6, o71_7, o71_8⟩ := hQ71
          have E_b1_71 := o65_0.keep Kc71
          have N71 := Fr.app N66 N71q
          have Z71 := Nat.le_trans Z65 Kc71.1
          refine go (B := T71.setTop (mkF m 160 #[.val (.int p0), .val (.int p1), .val (.int p2), .val (.int p3), .val (.ref b1), .val (.int (1 : Int32)), .val (.int (1 : Int32))] [(.int (2 : Int32))])) (fun _ k => st71 _ k) ?_
          refine go (B := T71.setTop (mkF m 162 #[.val (.int p0), .val (.int p1), .val (.int p2), .val (.int p3), .val (.ref b1), .val (.int (1 : Int32)), .val (.int (2 : Int32))] [])) (fun _ k => XS.istore X71.here hx rfl (hb hby at_160) rfl (l' := #[.val (.int p0), .val (.int p1), .val (.int p2), .val (.int p3), .val (.ref b1), .val (.int (1 : Int32)), .val (.int (2 : Int32))]) rfl k) ?_
          refine go (B := T71.setTop (mkF m 164 #[.val (.int p0), .val (.int p1), .val (.int p2), .val (.int p3), .val (.ref b1), .val (.int (1 : Int32)), .val (.int (2 : Int32))] [(.int (1 : Int32))])) (fun _ k => XS.iload X71.here hx rfl (hb hby at_162) rfl k) ?_
          refine go (B := T71.setTop (mkF m 167 #[.val (.int p0), .val (.int p1), .val (.int p2), .val (.int p3), .val (.ref b1), .val (.int (1 : Int32)), .val (.int (2 : Int32))] [])) (fun _ k => XS.ifNo X71.here hx rfl (hb hby at_164) rfl ((if0 _ _).trans (feq (by decide : ¬ ((1 : Int32) = (0 : Int32)))).1) k) ?_
          refine go (B := T71.setTop (mkF m 169 #[.val (.int p0), .val (.int p1), .val (.int p2), .val (.int p3), .val (.ref b1), .val (.int (1 : Int32)), .val (.int (2 : Int32))] [(.ref b1)])) (fun _ k => XS.aload X71.here hx rfl (hb hby at_167) rfl rfl k) ?_
          obtain ⟨cq72, kq72, q72a, q72b, q72c⟩ := isOf hZ rfl o71_0
          obtain ⟨_, _, ⟨T72, L72, k72, n72⟩, -, X72, ⟨Lc72, hQ72, l72, y72, z72⟩, st72⟩ := X71.virtualBack hx (y := (⟨"com/example/constrained_flow/constrainedflow/planner/search/LeastFirst", "isEmpty", "()Z"⟩ : MethodName)) (z := (⟨"com/example/constrained_flow/constrainedflow/planner/search/LeastFirst", "isEmpty", "()Z"⟩ : MethodName)) hown (mvT hZ (hw _ (List.mem_of_getElem? (i := 15) rfl))) (mvT hZ (hw _ (List.mem_of_getElem? (i := 16) rfl))) (notFace_of_selects (args := #[]) (mvT hZ (hw _ (List.mem_of_getElem? (i := 18) rfl)))) (mvT hZ (hw _ (List.mem_of_getElem? (i := 18) rfl))) (mvT hZ (hw _ (List.mem_of_getElem? (i := 17) rfl))) (by decide) (backOf (W := 0) (rm3 l Z aw hw [] b1 (2 : Int32) T71.heap n0 Z71 o71_3) hZ (hw _ (List.mem_of_getElem? (i := 19) rfl)) (hw _ (List.mem_of_getElem? (i := 2) rfl)) (by decide) (by decide)) q72a q72c (g := (mkF m 169 #[.val (.int p0), .val (.int p1), .val (.int p2), .val (.int p3), .val (.ref b1), .val (.int (1 : Int32)), .val (.int (2 : Int32))] [(.ref b1)])) rfl (by rw [hml]; rfl) (Steps.refl _) (argsL := []) (rest := []) (lenOf pd_6 rfl) rfl (by show 2 * 0 + _ ≤ _; exact Nat.le_of_eq rfl) (hb hby at_169) (fun _ _ => ⟨rfl, rfl, (by decide : 3 + 0 ≤ _), (by decide : 9 + 0 ≤ _)⟩)
          dsimp only [Pt.U, Pt.locs, Pt.cells, Pt.slots] at X72 l72 y72 z72 st72 hQ72
          subst l72 y72 z72
          obtain ⟨rfl, rfl, e72⟩ := hQ72
          have N72 := Fr.app N71 (Fr.nil n0)
          refine go (B := T72.setTop (mkF m 172 #[.val (.int p0), .val (.int p1), .val (.int p2), .val (.int p3), .val (.ref b1), .val (.int (1 : Int32)), .val (.int (2 : Int32))] [(.int (0 : Int32))])) (fun _ k => st72.trans k) ?_
          refine go (B := T72.setTop (mkF m 174 #[.val (.int p0), .val (.int p1), .val (.int p2), .val (.int p3), .val (.ref b1), .val (.int (1 : Int32)), .val (.int (2 : Int32))] [(.int (2 : Int32)), (.int (0 : Int32))])) (fun _ k => XS.iload X72.here hx rfl (hb hby at_172) rfl k) ?_
          refine go (B := T72.setTop (mkF m 181 #[.val (.int p0), .val (.int p1), .val (.int p2), .val (.int p3), .val (.ref b1), .val (.int (1 : Int32)), .val (.int (2 : Int32))] [(.int (0 : Int32))])) (fun _ k => XS.ifYes X72.here hx rfl (pc0 := 174) (pc' := 181) rfl (hb hby at_174) rfl ((if0 _ _).trans (feq (by decide : ¬ ((2 : Int32) = (0 : Int32)))).2) (by decide) (by decide) k) ?_
          refine go (B := T72.setTop (mkF m 182 #[.val (.int p0), .val (.int p1), .val (.int p2), .val (.int p3), .val (.ref b1), .val (.int (1 : Int32)), .val (.int (2 : Int32))] [(.int (0 : Int32)), (.int (0 : Int32))])) (fun _ k => XS.iconst X72.here hx rfl (hb hby at_181) k) ?_
          refine go (B := T72.setTop (mkF m 185 #[.val (.int p0), .val (.int p1), .val (.int p2), .val (.int p3), .val (.ref b1), .val (.int (1 : Int32)), .val (.int (2 : Int32))] [])) (fun _ k => XS.icmpNo X72.here hx rfl (hb hby at_182) rfl (teq (by decide : (0 : Int32) = (0 : Int32))).2 k) ?_
          refine go (B := T72.setTop (mkF m 186 #[.val (.int p0), .val (.int p1), .val (.int p2), .val (.int p3), .val (.ref b1), .val (.int (1 : Int32)), .val (.int (2 : Int32))] [(.int (1 : Int32))])) (fun _ k => XS.iconst X72.here hx rfl (hb hby at_185) k) ?_
          refine go (B := T72.setTop (mkF m 190 #[.val (.int p0), .val (.int p1), .val (.int p2), .val (.int p3), .val (.ref b1), .val (.int (1 : Int32)), .val (.int (2 : Int32))] [(.int (1 : Int32))])) (fun _ k => XS.goto X72.here hx rfl (pc0 := 186) (pc' := 190) rfl (hb hby at_186) (by decide) (by decide) k) ?_
          refine go (B := T72.setTop (mkF m 192 #[.val (.int p0), .val (.int p1), .val (.int p2), .val (.int p3), .val (.ref b1), .val (.int (1 : Int32)), .val (.int (2 : Int32))] [])) (fun _ k => XS.istore X72.here hx rfl (hb hby at_190) rfl (l' := #[.val (.int p0), .val (.int p1), .val (.int p2), .val (.int p3), .val (.ref b1), .val (.int (1 : Int32)), .val (.int (2 : Int32))]) rfl k) ?_
          refine go (B := T72.setTop (mkF m 194 #[.val (.int p0), .val (.int p1), .val (.int p2), .val (.int p3), .val (.ref b1), .val (.int (1 : Int32)), .val (.int (2 : Int32))] [(.int (1 : Int32))])) (fun _ k => XS.iload X72.here hx rfl (hb hby at_192) rfl k) ?_
          have r73 : (f0 p0) = (1 : Int32) := by unfold f0; rw [if_neg hc4, if_pos hc52, if_neg hc55, if_neg hc67]
          exact end_nar X72 hx Bd.notSynchronized (t := .boolean) Bd.returns (by simp) (hb hby at_194) hF e72 (by decide) (by decide) ⟨(congrArg (fun z => some (Value.int z)) (r73.symm.trans (own_law p0))), N72⟩
    · obtain ⟨_, _, ⟨T74, L74, k74, n74⟩, -, X74, ⟨Lc74, hQ74, l74, y74, z74⟩, st74⟩ := Jvm.LawKit.callS X51 hx (y := (⟨"com/example/constrained_flow/constrainedflow/planner/search/LeastFirstIsEmptyPinLaw", "step", "(Lcom/example/constrained_flow/constrainedflow/planner/search/LeastFirst;III)I"⟩ : MethodName)) hown (mvT hZ (hw _ (List.mem_of_getElem? (i := 22) rfl))) (mvT hZ (hw _ (List.mem_of_getElem? (i := 23) rfl))) (mvT hZ (hw _ (List.mem_of_getElem? (i := 24) rfl))) (mvT hZ (hw _ (List.mem_of_getElem? (i := 25) rfl))) (by decide) (backOf (W := 0) (rm4n1a l Z aw hw [] b1 ((p0.toUInt32 >>> ((1 : Int32) &&& 31).toUInt32).toInt32) p2 b2_2 b4_2 k2_2 K0_50 K1_50 K2_50 k4_2 M0_50 M1_50 M2_50 T50.heap n0 Z50 o50_1 o50_2 o50_3 o50_0 o50_4 o50_5 ne_b1_b2_2 ne_b1_b4_2 o2_2 g_b1 g_b2_2 g_b4_2 o50_6 o50_7 o50_8 (show ¬ ((((p0.toUInt32 >>> ((1 : Int32) &&& 31).toUInt32).toInt32) &&& (1 : Int32)) = (0 : Int32)) from hc52)) hZ (hw _ (List.mem_of_getElem? (i := 25) rfl)) (hw _ (List.mem_of_getElem? (i := 24) rfl)) (by decide) (by decide)) (g := (mkF m 69 #[.val (.int p0), .val (.int p1), .val (.int p2), .val (.int p3), .val (.ref b1), .val (.int (1 : Int32)), .val (.int (1 : Int32))] [(.int p2), (.int (1 : Int32)), (.int ((p0.toUInt32 >>> ((1 : Int32) &&& 31).toUInt32).toInt32)), (.ref b1)])) rfl (by rw [hml]; rfl) (argsL := [(.ref b1), (.int ((p0.toUInt32 >>> ((1 : Int32) &&& 31).toUInt32).toInt32)), (.int (1 : Int32)), (.int p2)]) (rest := []) (lenOf pd_7 rfl) rfl (by show 2 * 0 + _ ≤ _; exact Nat.le_of_eq rfl) (hb hby at_69) (fun _ _ => ⟨rfl, e51, (by decide : 3 + 0 ≤ _), (by decide : 9 + 0 ≤ _)⟩)
      dsimp only [Pt.U, Pt.locs, Pt.cells, Pt.slots] at X74 l74 y74 z74 st74 hQ74
      subst l74 y74 z74
      obtain ⟨K0_74, K1_74, K2_74, M0_74, M1_74, M2_74, rfl, N74q, Kc74, o74_0, o74_1, o74_2, o74_3, o74_4, o74_5, o74_6, o74_7, o74_8⟩ := hQ74
      have E_b1_74 := o50_0.keep Kc74
      have N74 := Fr.app N51 N74q
      have Z74 := Nat.le_trans Z50 Kc74.1
      refine go (B := T74.setTop (mkF m 72 #[.val (.int p0), .val (.int p1), .val (.int p2), .val (.int p3), .val (.ref b1), .val (.int (1 : Int32)), .val (.int (1 : Int32))] [(.int (2 : Int32))])) (fun _ k => st74 _ k) ?_
      refine go (B := T74.setTop (mkF m 74 #[.val (.int p0), .val (.int p1), .val (.int p2), .val (.int p3), .val (.ref b1), .val (.int (1 : Int32)), .val (.int (2 : Int32))] [])) (fun _ k => XS.istore X74.here hx rfl (hb hby at_72) rfl (l' := #[.val (.int p0), .val (.int p1), .val (.int p2), .val (.int p3), .val (.ref b1), .val (.int (1 : Int32)), .val (.int (2 : Int32))]) rfl k) ?_
      refine go (B := T74.setTop (mkF m 76 #[.val (.int p0), .val (.int p1), .val (.int p2), .val (.int p3), .val (.ref b1), .val (.int (1 : Int32)), .val (.int (2 : Int32))] [(.int (1 : Int32))])) (fun _ k => XS.iload X74.here hx rfl (hb hby at_74) rfl k) ?_
      refine go (B := T74.setTop (mkF m 79 #[.val (.int p0), .val (.int p1), .val (.int p2), .val (.int p3), .val (.ref b1), .val (.int (1 : Int32)), .val (.int (2 : Int32))] [])) (fun _ k => XS.ifNo X74.here hx rfl (hb hby at_76) rfl ((if0 _ _).trans (feq (by decide : ¬ ((1 : Int32) = (0 : Int32)))).1) k) ?_
      refine go (B := T74.setTop (mkF m 81 #[.val (.int p0), .val (.int p1), .val (.int p2), .val (.int p3), .val (.ref b1), .val (.int (1 : Int32)), .val (.int (2 : Int32))] [(.ref b1)])) (fun _ k => XS.aload X74.here hx rfl (hb hby at_79) rfl rfl k) ?_
      obtain ⟨cq75, kq75, q75a, q75b, q75c⟩ := isOf hZ rfl o74_0
      obtain ⟨_, _, ⟨T75, L75, k75, n75⟩, -, X75, ⟨Lc75, hQ75, l75, y75, z75⟩, st75⟩ := X74.virtualBack hx (y := (⟨"com/example/constrained_flow/constrainedflow/planner/search/LeastFirst", "isEmpty", "()Z"⟩ : MethodName)) (z := (⟨"com/example/constrained_flow/constrainedflow/planner/search/LeastFirst", "isEmpty", "()Z"⟩ : MethodName)) hown (mvT hZ (hw _ (List.mem_of_getElem? (i := 15) rfl))) (mvT hZ (hw _ (List.mem_of_getElem? (i := 16) rfl))) (notFace_of_selects (args := #[]) (mvT hZ (hw _ (List.mem_of_getElem? (i := 18) rfl)))) (mvT hZ (hw _ (List.mem_of_getElem? (i := 18) rfl))) (mvT hZ (hw _ (List.mem_of_getElem? (i := 17) rfl))) (by decide) (backOf (W := 0) (rm3 l Z aw hw [] b1 (2 : Int32) T74.heap n0 Z74 o74_3) hZ (hw _ (List.mem_of_getElem? (i := 19) rfl)) (hw _ (List.mem_of_getElem? (i := 2) rfl)) (by decide) (by decide)) q75a q75c (g := (mkF m 81 #[.val (.int p0), .val (.int p1), .val (.int p2), .val (.int p3), .val (.ref b1), .val (.int (1 : Int32)), .val (.int (2 : Int32))] [(.ref b1)])) rfl (by rw [hml]; rfl) (Steps.refl _) (argsL := []) (rest := []) (lenOf pd_6 rfl) rfl (by show 2 * 0 + _ ≤ _; exact Nat.le_of_eq rfl) (hb hby at_81) (fun _ _ => ⟨rfl, rfl, (by decide : 3 + 0 ≤ _), (by decide : 9 + 0 ≤ _)⟩)
      dsimp only [Pt.U, Pt.locs, Pt.cells, Pt.slots] at X75 l75 y75 z75 st75 hQ75
      subst l75 y75 z75
      obtain ⟨rfl, rfl, e75⟩ := hQ75
      have N75 := Fr.app N74 (Fr.nil n0)
      refine go (B := T75.setTop (mkF m 84 #[.val (.int p0), .val (.int p1), .val (.int p2), .val (.int p3), .val (.ref b1), .val (.int (1 : Int32)), .val (.int (2 : Int32))] [(.int (0 : Int32))])) (fun _ k => st75.trans k) ?_
      refine go (B := T75.setTop (mkF m 86 #[.val (.int p0), .val (.int p1), .val (.int p2), .val (.int p3), .val (.ref b1), .val (.int (1 : Int32)), .val (.int (2 : Int32))] [(.int (2 : Int32)), (.int (0 : Int32))])) (fun _ k => XS.iload X75.here hx rfl (hb hby at_84) rfl k) ?_
      refine go (B := T75.setTop (mkF m 93 #[.val (.int p0), .val (.int p1), .val (.int p2), .val (.int p3), .val (.ref b1), .val (.int (1 : Int32)), .val (.int (2 : Int32))] [(.int (0 : Int32))])) (fun _ k => XS.ifYes X75.here hx rfl (pc0 := 86) (pc' := 93) rfl (hb hby at_86) rfl ((if0 _ _).trans (feq (by decide : ¬ ((2 : Int32) = (0 : Int32)))).2) (by decide) (by decide) k) ?_
      refine go (B := T75.setTop (mkF m 94 #[.val (.int p0), .val (.int p1), .val (.int p2), .val (.int p3), .val (.ref b1), .val (.int (1 : Int32)), .val (.int (2 : Int32))] [(.int (0 : Int32)), (.int (0 : Int32))])) (fun _ k => XS.iconst X75.here hx rfl (hb hby at_93) k) ?_
      refine go (B := T75.setTop (mkF m 97 #[.val (.int p0), .val (.int p1), .val (.int p2), .val (.int p3), .val (.ref b1), .val (.int (1 : Int32)), .val (.int (2 : Int32))] [])) (fun _ k => XS.icmpNo X75.here hx rfl (hb hby at_94) rfl (teq (by decide : (0 : Int32) = (0 : Int32))).2 k) ?_
      refine go (B := T75.setTop (mkF m 98 #[.val (.int p0), .val (.int p1), .val (.int p2), .val (.int p3), .val (.ref b1), .val (.int (1 : Int32)), .val (.int (2 : Int32))] [(.int (1 : Int32))])) (fun _ k => XS.iconst X75.here hx rfl (hb hby at_97) k) ?_
      refine go (B := T75.setTop (mkF m 102 #[.val (.int p0), .val (.int p1), .val (.int p2), .val (.int p3), .val (.ref b1), .val (.int (1 : Int32)), .val (.int (2 : Int32))] [(.int (1 : Int32))])) (fun _ k => XS.goto X75.here hx rfl (pc0 := 98) (pc' := 102) rfl (hb hby at_98) (by decide) (by decide) k) ?_
      refine go (B := T75.setTop (mkF m 104 #[.val (.int p0), .val (.int p1), .val (.int p2), .val (.int p3), .val (.ref b1), .val (.int (1 : Int32)), .val (.int (2 : Int32))] [])) (fun _ k => XS.istore X75.here hx rfl (hb hby at_102) rfl (l' := #[.val (.int p0), .val (.int p1), .val (.int p2), .val (.int p3), .val (.ref b1), .val (.int (1 : Int32)), .val (.int (2 : Int32))]) rfl k) ?_
      refine go (B := T75.setTop (mkF m 106 #[.val (.int p0), .val (.int p1), .val (.int p2), .val (.int p3), .val (.ref b1), .val (.int (1 : Int32)), .val (.int (2 : Int32))] [(.ref b1)])) (fun _ k => XS.aload X75.here hx rfl (hb hby at_104) rfl rfl k) ?_
      refine go (B := T75.setTop (mkF m 107 #[.val (.int p0), .val (.int p1), .val (.int p2), .val (.int p3), .val (.ref b1), .val (.int (1 : Int32)), .val (.int (2 : Int32))] [(.int p0), (.ref b1)])) (fun _ k => XS.iloadN X75.here hx rfl (hb hby at_106) rfl k) ?_
      refine go (B := T75.setTop (mkF m 108 #[.val (.int p0), .val (.int p1), .val (.int p2), .val (.int p3), .val (.ref b1), .val (.int (1 : Int32)), .val (.int (2 : Int32))] [(.int (2 : Int32)), (.int p0), (.ref b1)])) (fun _ k => XS.iconst X75.here hx rfl (hb hby at_107) k) ?_
      refine go (B := T75.setTop (mkF m 109 #[.val (.int p0), .val (.int p1), .val (.int p2), .val (.int p3), .val (.ref b1), .val (.int (1 : Int32)), .val (.int (2 : Int32))] [(.int ((p0.toUInt32 >>> ((2 : Int32) &&& 31).toUInt32).toInt32)), (.ref b1)])) (fun _ k => XS.iushr X75.here hx rfl (hb hby at_108) rfl k) ?_
      refine go (B := T75.setTop (mkF m 111 #[.val (.int p0), .val (.int p1), .val (.int p2), .val (.int p3), .val (.ref b1), .val (.int (1 : Int32)), .val (.int (2 : Int32))] [(.int (2 : Int32)), (.int ((p0.toUInt32 >>> ((2 : Int32) &&& 31).toUInt32).toInt32)), (.ref b1)])) (fun _ k => XS.iload X75.here hx rfl (hb hby at_109) rfl k) ?_
      refine go (B := T75.setTop (mkF m 112 #[.val (.int p0), .val (.int p1), .val (.int p2), .val (.int p3), .val (.ref b1), .val (.int (1 : Int32)), .val (.int (2 : Int32))] [(.int p3), (.int (2 : Int32)), (.int ((p0.toUInt32 >>> ((2 : Int32) &&& 31).toUInt32).toInt32)), (.ref b1)])) (fun _ k => XS.iloadN X75.here hx rfl (hb hby at_111) rfl k) ?_
      by_cases hc76 : (((p0.toUInt32 >>> ((2 : Int32) &&& 31).toUInt32).toInt32) &&& (1 : Int32)) = (0 : Int32)
      · obtain ⟨_, _, ⟨T77, L77, k77, n77⟩, -, X77, ⟨Lc77, hQ77, l77, y77, z77⟩, st77⟩ := Jvm.LawKit.callS X75 hx (y := (⟨"com/example/constrained_flow/constrainedflow/planner/search/LeastFirstIsEmptyPinLaw", "step", "(Lcom/example/constrained_flow/constrainedflow/planner/search/LeastFirst;III)I"⟩ : MethodName)) hown (mvT hZ (hw _ (List.mem_of_getElem? (i := 22) rfl))) (mvT hZ (hw _ (List.mem_of_getElem? (i := 23) rfl))) (mvT hZ (hw _ (List.mem_of_getElem? (i := 24) rfl))) (mvT hZ (hw _ (List.mem_of_getElem? (i := 25) rfl))) (by decide) (backOf (W := 0) (rm4n2t l Z aw hw [] b1 ((p0.toUInt32 >>> ((2 : Int32) &&& 31).toUInt32).toInt32) p3 b2_2 b4_2 k2_2 K0_74 K1_74 K2_74 k4_2 M0_74 M1_74 M2_74 T74.heap n0 Z74 o74_1 o74_2 o74_3 o74_0 o74_4 o74_5 ne_b1_b2_2 ne_b1_b4_2 o2_2 g_b1 g_b2_2 g_b4_2 o74_6 o74_7 o74_8 (show (((p0.toUInt32 >>> ((2 : Int32) &&& 31).toUInt32).toInt32) &&& (1 : Int32)) = (0 : Int32) from hc76)) hZ (hw _ (List.mem_of_getElem? (i := 25) rfl)) (hw _ (List.mem_of_getElem? (i := 24) rfl)) (by decide) (by decide)) (g := (mkF m 112 #[.val (.int p0), .val (.int p1), .val (.int p2), .val (.int p3), .val (.ref b1), .val (.int (1 : Int32)), .val (.int (2 : Int32))] [(.int p3), (.int (2 : Int32)), (.int ((p0.toUInt32 >>> ((2 : Int32) &&& 31).toUInt32).toInt32)), (.ref b1)])) rfl (by rw [hml]; rfl) (argsL := [(.ref b1), (.int ((p0.toUInt32 >>> ((2 : Int32) &&& 31).toUInt32).toInt32)), (.int (2 : Int32)), (.int p3)]) (rest := []) (lenOf pd_7 rfl) rfl (by show 2 * 0 + _ ≤ _; exact Nat.le_of_eq rfl) (hb hby at_112) (fun _ _ => ⟨rfl, e75, (by decide : 3 + 0 ≤ _), (by decide : 9 + 0 ≤ _)⟩)
        dsimp only [Pt.U, Pt.locs, Pt.cells, Pt.slots] at X77 l77 y77 z77 st77 hQ77
        subst l77 y77 z77
        obtain ⟨K0_77, K1_77, K2_77, M0_77, M1_77, M2_77, rfl, N77q, Kc77, o77_0, o77_1, o77_2, o77_3, o77_4, o77_5, o77_6, o77_7, o77_8⟩ := hQ77
        have E_b1_77 := o74_0.keep Kc77
        have N77 := Fr.app N75 N77q
        have Z77 := Nat.le_trans Z74 Kc77.1
        refine go (B := T77.setTop (mkF m 115 #[.val (.int p0), .val (.int p1), .val (.int p2), .val (.int p3), .val (.ref b1), .val (.int (1 : Int32)), .val (.int (2 : Int32))] [(.int (1 : Int32))])) (fun _ k => st77 _ k) ?_
        refine go (B := T77.setTop (mkF m 117 #[.val (.int p0), .val (.int p1), .val (.int p2), .val (.int p3), .val (.ref b1), .val (.int (1 : Int32)), .val (.int (1 : Int32))] [])) (fun _ k => XS.istore X77.here hx rfl (hb hby at_115) rfl (l' := #[.val (.int p0), .val (.int p1), .val (.int p2), .val (.int p3), .val (.ref b1), .val (.int (1 : Int32)), .val (.int (1 : Int32))]) rfl k) ?_
        refine go (B := T77.setTop (mkF m 119 #[.val (.int p0), .val (.int p1), .val (.int p2), .val (.int p3), .val (.ref b1), .val (.int (1 : Int32)), .val (.int (1 : Int32))] [(.int (1 : Int32))])) (fun _ k => XS.iload X77.here hx rfl (hb hby at_117) rfl k) ?_
        refine go (B := T77.setTop (mkF m 122 #[.val (.int p0), .val (.int p1), .val (.int p2), .val (.int p3), .val (.ref b1), .val (.int (1 : Int32)), .val (.int (1 : Int32))] [])) (fun _ k => XS.ifNo X77.here hx rfl (hb hby at_119) rfl ((if0 _ _).trans (feq (by decide : ¬ ((1 : Int32) = (0 : Int32)))).1) k) ?_
        refine go (B := T77.setTop (mkF m 124 #[.val (.int p0), .val (.int p1), .val (.int p2), .val (.int p3), .val (.ref b1), .val (.int (1 : Int32)), .val (.int (1 : Int32))] [(.ref b1)])) (fun _ k => XS.aload X77.here hx rfl (hb hby at_122) rfl rfl k) ?_
        obtain ⟨cq78, kq78, q78a, q78b, q78c⟩ := isOf hZ rfl o77_0
        obtain ⟨_, _, ⟨T78, L78, k78, n78⟩, -, X78, ⟨Lc78, hQ78, l78, y78, z78⟩, st78⟩ := X77.virtualBack hx (y := (⟨"com/example/constrained_flow/constrainedflow/planner/search/LeastFirst", "isEmpty", "()Z"⟩ : MethodName)) (z := (⟨"com/example/constrained_flow/constrainedflow/planner/search/LeastFirst", "isEmpty", "()Z"⟩ : MethodName)) hown (mvT hZ (hw _ (List.mem_of_getElem? (i := 15) rfl))) (mvT hZ (hw _ (List.mem_of_getElem? (i := 16) rfl))) (notFace_of_selects (args := #[]) (mvT hZ (hw _ (List.mem_of_getElem? (i := 18) rfl)))) (mvT hZ (hw _ (List.mem_of_getElem? (i := 18) rfl))) (mvT hZ (hw _ (List.mem_of_getElem? (i := 17) rfl))) (by decide) (backOf (W := 0) (rm3 l Z aw hw [] b1 (1 : Int32) T77.heap n0 Z77 o77_3) hZ (hw _ (List.mem_of_getElem? (i := 19) rfl)) (hw _ (List.mem_of_getElem? (i := 2) rfl)) (by decide) (by decide)) q78a q78c (g := (mkF m 124 #[.val (.int p0), .val (.int p1), .val (.int p2), .val (.int p3), .val (.ref b1), .val (.int (1 : Int32)), .val (.int (1 : Int32))] [(.ref b1)])) rfl (by rw [hml]; rfl) (Steps.refl _) (argsL := []) (rest := []) (lenOf pd_6 rfl) rfl (by show 2 * 0 + _ ≤ _; exact Nat.le_of_eq rfl) (hb hby at_124) (fun _ _ => ⟨rfl, rfl, (by decide : 3 + 0 ≤ _), (by decide : 9 + 0 ≤ _)⟩)
        dsimp only [Pt.U, Pt.locs, Pt.cells, Pt.slots] at X78 l78 y78 z78 st78 hQ78
        subst l78 y78 z78
        obtain ⟨rfl, rfl, e78⟩ := hQ78
        have N78 := Fr.app N77 (Fr.nil n0)
        refine go (B := T78.setTop (mkF m 127 #[.val (.int p0), .val (.int p1), .val (.int p2), .val (.int p3), .val (.ref b1), .val (.int (1 : Int32)), .val (.int (1 : Int32))] [(.int (0 : Int32))])) (fun _ k => st78.trans k) ?_
        refine go (B := T78.setTop (mkF m 129 #[.val (.int p0), .val (.int p1), .val (.int p2), .val (.int p3), .val (.ref b1), .val (.int (1 : Int32)), .val (.int (1 : Int32))] [(.int (1 : Int32)), (.int (0 : Int32))])) (fun _ k => XS.iload X78.here hx rfl (hb hby at_127) rfl k) ?_
        refine go (B := T78.setTop (mkF m 136 #[.val (.int p0), .val (.int p1), .val (.int p2), .val (.int p3), .val (.ref b1), .val (.int (1 : Int32)), .val (.int (1 : Int32))] [(.int (0 : Int32))])) (fun _ k => XS.ifYes X78.here hx rfl (pc0 := 129) (pc' := 136) rfl (hb hby at_129) rfl ((if0 _ _).trans (feq (by decide : ¬ ((1 : Int32) = (0 : Int32)))).2) (by decide) (by decide) k) ?_
        refine go (B := T78.setTop (mkF m 137 #[.val (.int p0), .val (.int p1), .val (.int p2), .val (.int p3), .val (.ref b1), .val (.int (1 : Int32)), .val (.int (1 : Int32))] [(.int (0 : Int32)), (.int (0 : Int32))])) (fun _ k => XS.iconst X78.here hx rfl (hb hby at_136) k) ?_
        refine go (B := T78.setTop (mkF m 140 #[.val (.int p0), .val (.int p1), .val (.int p2), .val (.int p3), .val (.ref b1), .val (.int (1 : Int32)), .val (.int (1 : Int32))] [])) (fun _ k => XS.icmpNo X78.here hx rfl (hb hby at_137) rfl (teq (by decide : (0 : Int32) = (0 : Int32))).2 k) ?_
        refine go (B := T78.setTop (mkF m 141 #[.val (.int p0), .val (.int p1), .val (.int p2), .val (.int p3), .val (.ref b1), .val (.int (1 : Int32)), .val (.int (1 : Int32))] [(.int (1 : Int32))])) (fun _ k => XS.iconst X78.here hx rfl (hb hby at_140) k) ?_
        refine go (B := T78.setTop (mkF m 145 #[.val (.int p0), .val (.int p1), .val (.int p2), .val (.int p3), .val (.ref b1), .val (.int (1 : Int32)), .val (.int (1 : Int32))] [(.int (1 : Int32))])) (fun _ k => XS.goto X78.here hx rfl (pc0 := 141) (pc' := 145) rfl (hb hby at_141) (by decide) (by decide) k) ?_
        refine go (B := T78.setTop (mkF m 147 #[.val (.int p0), .val (.int p1), .val (.int p2), .val (.int p3), .val (.ref b1), .val (.int (1 : Int32)), .val (.int (1 : Int32))] [])) (fun _ k => XS.istore X78.here hx rfl (hb hby at_145) rfl (l' := #[.val (.int p0), .val (.int p1), .val (.int p2), .val (.int p3), .val (.ref b1), .val (.int (1 : Int32)), .val (.int (1 : Int32))]) rfl k) ?_
        refine go (B := T78.setTop (mkF m 149 #[.val (.int p0), .val (.int p1), .val (.int p2), .val (.int p3), .val (.ref b1), .val (.int (1 : Int32)), .val (.int (1 : Int32))] [(.ref b1)])) (fun _ k => XS.aload X78.here hx rfl (hb hby at_147) rfl rfl k) ?_
        refine go (B := T78.setTop (mkF m 150 #[.val (.int p0), .val (.int p1), .val (.int p2), .val (.int p3), .val (.ref b1), .val (.int (1 : Int32)), .val (.int (1 : Int32))] [(.int p0), (.ref b1)])) (fun _ k => XS.iloadN X78.here hx rfl (hb hby at_149) rfl k) ?_
        refine go (B := T78.setTop (mkF m 151 #[.val (.int p0), .val (.int p1), .val (.int p2), .val (.int p3), .val (.ref b1), .val (.int (1 : Int32)), .val (.int (1 : Int32))] [(.int (3 : Int32)), (.int p0), (.ref b1)])) (fun _ k => XS.iconst X78.here hx rfl (hb hby at_150) k) ?_
        refine go (B := T78.setTop (mkF m 152 #[.val (.int p0), .val (.int p1), .val (.int p2), .val (.int p3), .val (.ref b1), .val (.int (1 : Int32)), .val (.int (1 : Int32))] [(.int ((p0.toUInt32 >>> ((3 : Int32) &&& 31).toUInt32).toInt32)), (.ref b1)])) (fun _ k => XS.iushr X78.here hx rfl (hb hby at_151) rfl k) ?_
        refine go (B := T78.setTop (mkF m 154 #[.val (.int p0), .val (.int p1), .val (.int p2), .val (.int p3), .val (.ref b1), .val (.int (1 : Int32)), .val (.int (1 : Int32))] [(.int (1 : Int32)), (.int ((p0.toUInt32 >>> ((3 : Int32) &&& 31).toUInt32).toInt32)), (.ref b1)])) (fun _ k => XS.iload X78.here hx rfl (hb hby at_152) rfl k) ?_
        refine go (B := T78.setTop (mkF m 155 #[.val (.int p0), .val (.int p1), .val (.int p2), .val (.int p3), .val (.ref b1), .val (.int (1 : Int32)), .val (.int (1 : Int32))] [(.int p1), (.int (1 : Int32)), (.int ((p0.toUInt32 >>> ((3 : Int32) &&& 31).toUInt32).toInt32)), (.ref b1)])) (fun _ k => XS.iloadN X78.here hx rfl (hb hby at_154) rfl k) ?_
        refine go (B := T78.setTop (mkF m 156 #[.val (.int p0), .val (.int p1), .val (.int p2), .val (.int p3), .val (.ref b1), .val (.int (1 : Int32)), .val (.int (1 : Int32))] [(.int p2), (.int p1), (.int (1 : Int32)), (.int ((p0.toUInt32 >>> ((3 : Int32) &&& 31).toUInt32).toInt32)), (.ref b1)])) (fun _ k => XS.iloadN X78.here hx rfl (hb hby at_155) rfl k) ?_
        refine go (B := T78.setTop (mkF m 157 #[.val (.int p0), .val (.int p1), .val (.int p2), .val (.int p3), .val (.ref b1), .val (.int (1 : Int32)), .val (.int (1 : Int32))] [(.int (p1 ^^^ p2)), (.int (1 : Int32)), (.int ((p0.toUInt32 >>> ((3 : Int32) &&& 31).toUInt32).toInt32)), (.ref b1)])) (fun _ k => XS.ixor X78.here hx rfl (hb hby at_156) rfl k) ?_
        by_cases hc79 : (((p0.toUInt32 >>> ((3 : Int32) &&& 31).toUInt32).toInt32) &&& (1 : Int32)) = (0 : Int32)
        · obtain ⟨_, _, ⟨T80, L80, k80, n80⟩, -, X80, ⟨Lc80, hQ80, l80, y80, z80⟩, st80⟩ := Jvm.LawKit.callS X78 hx (y := (⟨"com/example/constrained_flow/constrainedflow/planner/search/LeastFirstIsEmptyPinLaw", "step", "(Lcom/example/constrained_flow/constrainedflow/planner/search/LeastFirst;III)I"⟩ : MethodName)) hown (mvT hZ (hw _ (List.mem_of_getElem? (i := 22) rfl))) (mvT hZ (hw _ (List.mem_of_getElem? (i := 23) rfl))) (mvT hZ (hw _ (List.mem_of_getElem? (i := 24) rfl))) (mvT hZ (hw _ (List.mem_of_getElem? (i := 25) rfl))) (by decide) (backOf (W := 0) (rm4n1t l Z aw hw [] b1 ((p0.toUInt32 >>> ((3 : Int32) &&& 31).toUInt32).toInt32) (p1 ^^^ p2) b2_2 b4_2 k2_2 K0_77 K1_77 K2_77 k4_2 M0_77 M1_77 M2_77 T77.heap n0 Z77 o77_1 o77_2 o77_3 o77_0 o77_4 o77_5 ne_b1_b2_2 ne_b1_b4_2 o2_2 g_b1 g_b2_2 g_b4_2 o77_6 o77_7 o77_8 (show (((p0.toUInt32 >>> ((3 : Int32) &&& 31).toUInt32).toInt32) &&& (1 : Int32)) = (0 : Int32) from hc79)) hZ (hw _ (List.mem_of_getElem? (i := 25) rfl)) (hw _ (List.mem_of_getElem? (i := 24) rfl)) (by decide) (by decide)) (g := (mkF m 157 #[.val (.int p0), .val (.int p1), .val (.int p2), .val (.int p3), .val (.ref b1), .val (.int (1 : Int32)), .val (.int (1 : Int32))] [(.int (p1 ^^^ p2)), (.int (1 : Int32)), (.int ((p0.toUInt32 >>> ((3 : Int32) &&& 31).toUInt32).toInt32)), (.ref b1)])) rfl (by rw [hml]; rfl) (argsL := [(.ref b1), (.int ((p0.toUInt32 >>> ((3 : Int32) &&& 31).toUInt32).toInt32)), (.int (1 : Int32)), (.int (p1 ^^^ p2))]) (rest := []) (lenOf pd_7 rfl) rfl (by show 2 * 0 + _ ≤ _; exact Nat.le_of_eq rfl) (hb hby at_157) (fun _ _ => ⟨rfl, e78, (by decide : 3 + 0 ≤ _), (by decide : 9 + 0 ≤ _)⟩)
          dsimp only [Pt.U, Pt.locs, Pt.cells, Pt.slots] at X80 l80 y80 z80 st80 hQ80
          subst l80 y80 z80
          obtain ⟨K0_80, K1_80, K2_80, M0_80, M1_80, M2_80, rfl, N80q, Kc80, o80_0, o80_1, o80_2, o80_3, o80_4, o80_5, o80_6, o80_7, o80_8⟩ := hQ80
          have E_b1_80 := o77_0.keep Kc80
          have N80 := Fr.app N78 N80q
          have Z80 := Nat.le_trans Z77 Kc80.1
          refine go (B := T80.setTop (mkF m 160 #[.val (.int p0), .val (.int p1), .val (.int p2), .val (.int p3), .val (.ref b1), .val (.int (1 : Int32)), .val (.int (1 : Int32))] [(.int (0 : Int32))])) (fun _ k => st80 _ k) ?_
          refine go (B := T80.setTop (mkF m 162 #[.val (.int p0), .val (.int p1), .val (.int p2), .val (.int p3), .val (.ref b1), .val (.int (1 : Int32)), .val (.int (0 : Int32))] [])) (fun _ k => XS.istore X80.here hx rfl (hb hby at_160) rfl (l' := #[.val (.int p0), .val (.int p1), .val (.int p2), .val (.int p3), .val (.ref b1), .val (.int (1 : Int32)), .val (.int (0 : Int32))]) rfl k) ?_
          refine go (B := T80.setTop (mkF m 164 #[.val (.int p0), .val (.int p1), .val (.int p2), .val (.int p3), .val (.ref b1), .val (.int (1 : Int32)), .val (.int (0 : Int32))] [(.int (1 : Int32))])) (fun _ k => XS.iload X80.here hx rfl (hb hby at_162) rfl k) ?_
          refine go (B := T80.setTop (mkF m 167 #[.val (.int p0), .val (.int p1), .val (.int p2), .val (.int p3), .val (.ref b1), .val (.int (1 : Int32)), .val (.int (0 : Int32))] [])) (fun _ k => XS.ifNo X80.here hx rfl (hb hby at_164) rfl ((if0 _ _).trans (feq (by decide : ¬ ((1 : Int32) = (0 : Int32)))).1) k) ?_
          refine go (B := T80.setTop (mkF m 169 #[.val (.int p0), .val (.int p1), .val (.int p2), .val (.int p3), .val (.ref b1), .val (.int (1 : Int32)), .val (.int (0 : Int32))] [(.ref b1)])) (fun _ k => XS.aload X80.here hx rfl (hb hby at_167) rfl rfl k) ?_
          obtain ⟨cq81, kq81, q81a, q81b, q81c⟩ := isOf hZ rfl o80_0
          obtain ⟨_, _, ⟨T81, L81, k81, n81⟩, -, X81, ⟨Lc81, hQ81, l81, y81, z81⟩, st81⟩ := X80.virtualBack hx (y := (⟨"com/example/constrained_flow/constrainedflow/planner/search/LeastFirst", "isEmpty", "()Z"⟩ : MethodName)) (z := (⟨"com/example/constrained_flow/constrainedflow/planner/search/LeastFirst", "isEmpty", "()Z"⟩ : MethodName)) hown (mvT hZ (hw _ (List.mem_of_getElem? (i := 15) rfl))) (mvT hZ (hw _ (List.mem_of_getElem? (i := 16) rfl))) (notFace_of_selects (args := #[]) (mvT hZ (hw _ (List.mem_of_getElem? (i := 18) rfl)))) (mvT hZ (hw _ (List.mem_of_getElem? (i := 18) rfl))) (mvT hZ (hw _ (List.mem_of_getElem? (i := 17) rfl))) (by decide) (backOf (W := 0) (rm3 l Z aw hw [] b1 (0 : Int32) T80.heap n0 Z80 o80_3) hZ (hw _ (List.mem_of_getElem? (i := 19) rfl)) (hw _ (List.mem_of_getElem? (i := 2) rfl)) (by decide) (by decide)) q81a q81c (g := (mkF m 169 #[.val (.int p0), .val (.int p1), .val (.int p2), .val (.int p3), .val (.ref b1), .val (.int (1 : Int32)), .val (.int (0 : Int32))] [(.ref b1)])) rfl (by rw [hml]; rfl) (Steps.refl _) (argsL := []) (rest := []) (lenOf pd_6 rfl) rfl (by show 2 * 0 + _ ≤ _; exact Nat.le_of_eq rfl) (hb hby at_169) (fun _ _ => ⟨rfl, rfl, (by decide : 3 + 0 ≤ _), (by decide : 9 + 0 ≤ _)⟩)
          dsimp only [Pt.U, Pt.locs, Pt.cells, Pt.slots] at X81 l81 y81 z81 st81 hQ81
          subst l81 y81 z81
          obtain ⟨rfl, rfl, e81⟩ := hQ81
          have N81 := Fr.app N80 (Fr.nil n0)
          refine go (B := T81.setTop (mkF m 172 #[.val (.int p0), .val (.int p1), .val (.int p2), .val (.int p3), .val (.ref b1), .val (.int (1 : Int32)), .val (.int (0 : Int32))] [(.int (1 : Int32))])) (fun _ k => st81.trans k) ?_
          refine go (B := T81.setTop (mkF m 174 #[.val (.int p0), .val (.int p1), .val (.int p2), .val (.int p3), .val (.ref b1), .val (.int (1 : Int32)), .val (.int (0 : Int32))] [(.int (0 : Int32)), (.int (1 : Int32))])) (fun _ k => XS.iload X81.here hx rfl (hb hby at_172) rfl k) ?_
          refine go (B := T81.setTop (mkF m 177 #[.val (.int p0), .val (.int p1), .val (.int p2), .val (.int p3), .val (.ref b1), .val (.int (1 : Int32)), .val (.int (0 : Int32))] [(.int (1 : Int32))])) (fun _ k => XS.ifNo X81.here hx rfl (hb hby at_174) rfl ((if0 _ _).trans (teq (by decide : (0 : Int32) = (0 : Int32))).2) k) ?_
          refine go (B := T81.setTop (mkF m 178 #[.val (.int p0), .val (.int p1), .val (.int p2), .val (.int p3), .val (.ref b1), .val (.int (1 : Int32)), .val (.int (0 : Int32))] [(.int (1 : Int32)), (.int (1 : Int32))])) (fun _ k => XS.iconst X81.here hx rfl (hb hby at_177) k) ?_
          refine go (B := T81.setTop (mkF m 182 #[.val (.int p0), .val (.int p1), .val (.int p2), .val (.int p3), .val (.ref b1), .val (.int (1 : Int32)), .val (.int (0 : Int32))] [(.int (1 : Int32)), (.int (1 : Int32))])) (fun _ k => XS.goto X81.here hx rfl (pc0 := 178) (pc' := 182) rfl (hb hby at_178) (by decide) (by decide) k) ?_
          refine go (B := T81.setTop (mkF m 185 #[.val (.int p0), .val (.int p1), .val (.int p2), .val (.int p3), .val (.ref b1), .val (.int (1 : Int32)), .val (.int (0 : Int32))] [])) (fun _ k => XS.icmpNo X81.here hx rfl (hb hby at_182) rfl (teq (by decide : (1 : Int32) = (1 : Int32))).2 k) ?_
          refine go (B := T81.setTop (mkF m 186 #[.val (.int p0), .val (.int p1), .val (.int p2), .val (.int p3), .val (.ref b1), .val (.int (1 : Int32)), .val (.int (0 : Int32))] [(.int (1 : Int32))])) (fun _ k => XS.iconst X81.here hx rfl (hb hby at_185) k) ?_
          refine go (B := T81.setTop (mkF m 190 #[.val (.int p0), .val (.int p1), .val (.int p2), .val (.int p3), .val (.ref b1), .val (.int (1 : Int32)), .val (.int (0 : Int32))] [(.int (1 : Int32))])) (fun _ k => XS.goto X81.here hx rfl (pc0 := 186) (pc' := 190) rfl (hb hby at_186) (by decide) (by decide) k) ?_
          refine go (B := T81.setTop (mkF m 192 #[.val (.int p0), .val (.int p1), .val (.int p2), .val (.int p3), .val (.ref b1), .val (.int (1 : Int32)), .val (.int (0 : Int32))] [])) (fun _ k => XS.istore X81.here hx rfl (hb hby at_190) rfl (l' := #[.val (.int p0), .val (.int p1), .val (.int p2), .val (.int p3), .val (.ref b1), .val (.int (1 : Int32)), .val (.int (0 : Int32))]) rfl k) ?_
          refine go (B := T81.setTop (mkF m 194 #[.val (.int p0), .val (.int p1), .val (.int p2), .val (.int p3), .val (.ref b1), .val (.int (1 : Int32)), .val (.int (0 : Int32))] [(.int (1 : Int32))])) (fun _ k => XS.iload X81.here hx rfl (hb hby at_192) rfl k) ?_
          have r82 : (f0 p0) = (1 : Int32) := by unfold f0; rw [if_neg hc4, if_neg hc52, if_pos hc76, if_pos hc79]
          exact end_nar X81 hx Bd.notSynchronized (t := .boolean) Bd.returns (by simp) (hb hby at_194) hF e81 (by decide) (by decide) ⟨(congrArg (fun z => some (Value.int z)) (r82.symm.trans (own_law p0))), N81⟩
        · obtain ⟨_, _, ⟨T83, L83, k83, n83⟩, -, X83, ⟨Lc83, hQ83, l83, y83, z83⟩, st83⟩ := Jvm.LawKit.callS X78 hx (y := (⟨"com/example/constrained_flow/constrainedflow/planner/search/LeastFirstIsEmptyPinLaw", "step", "(Lcom/example/constrained_flow/constrainedflow/planner/search/LeastFirst;III)I"⟩ : MethodName)) hown (mvT hZ (hw _ (List.mem_of_getElem? (i := 22) rfl))) (mvT hZ (hw _ (List.mem_of_getElem? (i := 23) rfl))) (mvT hZ (hw _ (List.mem_of_getElem? (i := 24) rfl))) (mvT hZ (hw _ (List.mem_of_getElem? (i := 25) rfl))) (by decide) (backOf (W := 0) (rm4n1a l Z aw hw [] b1 ((p0.toUInt32 >>> ((3 : Int32) &&& 31).toUInt32).toInt32) (p1 ^^^ p2) b2_2 b4_2 k2_2 K0_77 K1_77 K2_77 k4_2 M0_77 M1_77 M2_77 T77.heap n0 Z77 o77_1 o77_2 o77_3 o77_0 o77_4 o77_5 ne_b1_b2_2 ne_b1_b4_2 o2_2 g_b1 g_b2_2 g_b4_2 o77_6 o77_7 o77_8 (show ¬ ((((p0.toUInt32 >>> ((3 : Int32) &&& 31).toUInt32).toInt32) &&& (1 : Int32)) = (0 : Int32)) from hc79)) hZ (hw _ (List.mem_of_getElem? (i := 25) rfl)) (hw _ (List.mem_of_getElem? (i := 24) rfl)) (by decide) (by decide)) (g := (mkF m 157 #[.val (.int p0), .val (.int p1), .val (.int p2), .val (.int p3), .val (.ref b1), .val (.int (1 : Int32)), .val (.int (1 : Int32))] [(.int (p1 ^^^ p2)), (.int (1 : Int32)), (.int ((p0.toUInt32 >>> ((3 : Int32) &&& 31).toUInt32).toInt32)), (.ref b1)])) rfl (by rw [hml]; rfl) (argsL := [(.ref b1), (.int ((p0.toUInt32 >>> ((3 : Int32) &&& 31).toUInt32).toInt32)), (.int (1 : Int32)), (.int (p1 ^^^ p2))]) (rest := []) (lenOf pd_7 rfl) rfl (by show 2 * 0 + _ ≤ _; exact Nat.le_of_eq rfl) (hb hby at_157) (fun _ _ => ⟨rfl, e78, (by decide : 3 + 0 ≤ _), (by decide : 9 + 0 ≤ _)⟩)
          dsimp only [Pt.U, Pt.locs, Pt.cells, Pt.slots] at X83 l83 y83 z83 st83 hQ83
          subst l83 y83 z83
          obtain ⟨K0_83, K1_83, K2_83, M0_83, M1_83, M2_83, rfl, N83q, Kc83, o83_0, o83_1, o83_2, o83_3, o83_4, o83_5, o83_6, o83_7, o83_8⟩ := hQ83
          have E_b1_83 := o77_0.keep Kc83
          have N83 := Fr.app N78 N83q
          have Z83 := Nat.le_trans Z77 Kc83.1
          refine go (B := T83.setTop (mkF m 160 #[.val (.int p0), .val (.int p1), .val (.int p2), .val (.int p3), .val (.ref b1), .val (.int (1 : Int32)), .val (.int (1 : Int32))] [(.int (2 : Int32))])) (fun _ k => st83 _ k) ?_
          refine go (B := T83.setTop (mkF m 162 #[.val (.int p0), .val (.int p1), .val (.int p2), .val (.int p3), .val (.ref b1), .val (.int (1 : Int32)), .val (.int (2 : Int32))] [])) (fun _ k => XS.istore X83.here hx rfl (hb hby at_160) rfl (l' := #[.val (.int p0), .val (.int p1), .val (.int p2), .val (.int p3), .val (.ref b1), .val (.int (1 : Int32)), .val (.int (2 : Int32))]) rfl k) ?_
          refine go (B := T83.setTop (mkF m 164 #[.val (.int p0), .val (.int p1), .val (.int p2), .val (.int p3), .val (.ref b1), .val (.int (1 : Int32)), .val (.int (2 : Int32))] [(.int (1 : Int32))])) (fun _ k => XS.iload X83.here hx rfl (hb hby at_162) rfl k) ?_
          refine go (B := T83.setTop (mkF m 167 #[.val (.int p0), .val (.int p1), .val (.int p2), .val (.int p3), .val (.ref b1), .val (.int (1 : Int32)), .val (.int (2 : Int32))] [])) (fun _ k => XS.ifNo X83.here hx rfl (hb hby at_164) rfl ((if0 _ _).trans (feq (by decide : ¬ ((1 : Int32) = (0 : Int32)))).1) k) ?_
          refine go (B := T83.setTop (mkF m 169 #[.val (.int p0), .val (.int p1), .val (.int p2), .val (.int p3), .val (.ref b1), .val (.int (1 : Int32)), .val (.int (2 : Int32))] [(.ref b1)])) (fun _ k => XS.aload X83.here hx rfl (hb hby at_167) rfl rfl k) ?_
          obtain ⟨cq84, kq84, q84a, q84b, q84c⟩ := isOf hZ rfl o83_0
          obtain ⟨_, _, ⟨T84, L84, k84, n84⟩, -, X84, ⟨Lc84, hQ84, l84, y84, z84⟩, st84⟩ := X83.virtualBack hx (y := (⟨"com/example/constrained_flow/constrainedflow/planner/search/LeastFirst", "isEmpty", "()Z"⟩ : MethodName)) (z := (⟨"com/example/constrained_flow/constrainedflow/planner/search/LeastFirst", "isEmpty", "()Z"⟩ : MethodName)) hown (mvT hZ (hw _ (List.mem_of_getElem? (i := 15) rfl))) (mvT hZ (hw _ (List.mem_of_getElem? (i := 16) rfl))) (notFace_of_selects (args := #[]) (mvT hZ (hw _ (List.mem_of_getElem? (i := 18) rfl)))) (mvT hZ (hw _ (List.mem_of_getElem? (i := 18) rfl))) (mvT hZ (hw _ (List.mem_of_getElem? (i := 17) rfl))) (by decide) (backOf (W := 0) (rm3 l Z aw hw [] b1 (2 : Int32) T83.heap n0 Z83 o83_3) hZ (hw _ (List.mem_of_getElem? (i := 19) rfl)) (hw _ (List.mem_of_getElem? (i := 2) rfl)) (by decide) (by decide)) q84a q84c (g := (mkF m 169 #[.val (.int p0), .val (.int p1), .val (.int p2), .val (.int p3), .val (.ref b1), .val (.int (1 : Int32)), .val (.int (2 : Int32))] [(.ref b1)])) rfl (by rw [hml]; rfl) (Steps.refl _) (argsL := []) (rest := []) (lenOf pd_6 rfl) rfl (by show 2 * 0 + _ ≤ _; exact Nat.le_of_eq rfl) (hb hby at_169) (fun _ _ => ⟨rfl, rfl, (by decide : 3 + 0 ≤ _), (by decide : 9 + 0 ≤ _)⟩)
          dsimp only [Pt.U, Pt.locs, Pt.cells, Pt.slots] at X84 l84 y84 z84 st84 hQ84
          subst l84 y84 z84
          obtain ⟨rfl, rfl, e84⟩ := hQ84
          have N84 := Fr.app N83 (Fr.nil n0)
          refine go (B := T84.setTop (mkF m 172 #[.val (.int p0), .val (.int p1), .val (.int p2), .val (.int p3), .val (.ref b1), .val (.int (1 : Int32)), .val (.int (2 : Int32))] [(.int (0 : Int32))])) (fun _ k => st84.trans k) ?_
          refine go (B := T84.setTop (mkF m 174 #[.val (.int p0), .val (.int p1), .val (.int p2), .val (.int p3), .val (.ref b1), .val (.int (1 : Int32)), .val (.int (2 : Int32))] [(.int (2 : Int32)), (.int (0 : Int32))])) (fun _ k => XS.iload X84.here hx rfl (hb hby at_172) rfl k) ?_
          refine go (B := T84.setTop (mkF m 181 #[.val (.int p0), .val (.int p1), .val (.int p2), .val (.int p3), .val (.ref b1), .val (.int (1 : Int32)), .val (.int (2 : Int32))] [(.int (0 : Int32))])) (fun _ k => XS.ifYes X84.here hx rfl (pc0 := 174) (pc' := 181) rfl (hb hby at_174) rfl ((if0 _ _).trans (feq (by decide : ¬ ((2 : Int32) = (0 : Int32)))).2) (by decide) (by decide) k) ?_
          refine go (B := T84.setTop (mkF m 182 #[.val (.int p0), .val (.int p1), .val (.int p2), .val (.int p3), .val (.ref b1), .val (.int (1 : Int32)), .val (.int (2 : Int32))] [(.int (0 : Int32)), (.int (0 : Int32))])) (fun _ k => XS.iconst X84.here hx rfl (hb hby at_181) k) ?_
          refine go (B := T84.setTop (mkF m 185 #[.val (.int p0), .val (.int p1), .val (.int p2), .val (.int p3), .val (.ref b1), .val (.int (1 : Int32)), .val (.int (2 : Int32))] [])) (fun _ k => XS.icmpNo X84.here hx rfl (hb hby at_182) rfl (teq (by decide : (0 : Int32) = (0 : Int32))).2 k) ?_
          refine go (B := T84.setTop (mkF m 186 #[.val (.int p0), .val (.int p1), .val (.int p2), .val (.int p3), .val (.ref b1), .val (.int (1 : Int32)), .val (.int (2 : Int32))] [(.int (1 : Int32))])) (fun _ k => XS.iconst X84.here hx rfl (hb hby at_185) k) ?_
          refine go (B := T84.setTop (mkF m 190 #[.val (.int p0), .val (.int p1), .val (.int p2), .val (.int p3), .val (.ref b1), .val (.int (1 : Int32)), .val (.int (2 : Int32))] [(.int (1 : Int32))])) (fun _ k => XS.goto X84.here hx rfl (pc0 := 186) (pc' := 190) rfl (hb hby at_186) (by decide) (by decide) k) ?_
          refine go (B := T84.setTop (mkF m 192 #[.val (.int p0), .val (.int p1), .val (.int p2), .val (.int p3), .val (.ref b1), .val (.int (1 : Int32)), .val (.int (2 : Int32))] [])) (fun _ k => XS.istore X84.here hx rfl (hb hby at_190) rfl (l' := #[.val (.int p0), .val (.int p1), .val (.int p2), .val (.int p3), .val (.ref b1), .val (.int (1 : Int32)), .val (.int (2 : Int32))]) rfl k) ?_
          refine go (B := T84.setTop (mkF m 194 #[.val (.int p0), .val (.int p1), .val (.int p2), .val (.int p3), .val (.ref b1), .val (.int (1 : Int32)), .val (.int (2 : Int32))] [(.int (1 : Int32))])) (fun _ k => XS.iload X84.here hx rfl (hb hby at_192) rfl k) ?_
          have r85 : (f0 p0) = (1 : Int32) := by unfold f0; rw [if_neg hc4, if_neg hc52, if_pos hc76, if_neg hc79]
          exact end_nar X84 hx Bd.notSynchronized (t := .boolean) Bd.returns (by simp) (hb hby at_194) hF e84 (by decide) (by decide) ⟨(congrArg (fun z => some (Value.int z)) (r85.symm.trans (own_law p0))), N84⟩
      · obtain ⟨_, _, ⟨T86, L86, k86, n86⟩, -, X86, ⟨Lc86, hQ86, l86, y86, z86⟩, st86⟩ := Jvm.LawKit.callS X75 hx (y := (⟨"com/example/constrained_flow/constrainedflow/planner/search/LeastFirstIsEmptyPinLaw", "step", "(Lcom/example/constrained_flow/constrainedflow/planner/search/LeastFirst;III)I"⟩ : MethodName)) hown (mvT hZ (hw _ (List.mem_of_getElem? (i := 22) rfl))) (mvT hZ (hw _ (List.mem_of_getElem? (i := 23) rfl))) (mvT hZ (hw _ (List.mem_of_getElem? (i := 24) rfl))) (mvT hZ (hw _ (List.mem_of_getElem? (i := 25) rfl))) (by decide) (backOf (W := 0) (rm4n2a l Z aw hw [] b1 ((p0.toUInt32 >>> ((2 : Int32) &&& 31).toUInt32).toInt32) p3 b2_2 b4_2 k2_2 K0_74 K1_74 K2_74 k4_2 M0_74 M1_74 M2_74 T74.heap n0 Z74 o74_1 o74_2 o74_3 o74_0 o74_4 o74_5 ne_b1_b2_2 ne_b1_b4_2 o2_2 g_b1 g_b2_2 g_b4_2 o74_6 o74_7 o74_8 (show ¬ ((((p0.toUInt32 >>> ((2 : Int32) &&& 31).toUInt32).toInt32) &&& (1 : Int32)) = (0 : Int32)) from hc76)) hZ (hw _ (List.mem_of_getElem? (i := 25) rfl)) (hw _ (List.mem_of_getElem? (i := 24) rfl)) (by decide) (by decide)) (g := (mkF m 112 #[.val (.int p0), .val (.int p1), .val (.int p2), .val (.int p3), .val (.ref b1), .val (.int (1 : Int32)), .val (.int (2 : Int32))] [(.int p3), (.int (2 : Int32)), (.int ((p0.toUInt32 >>> ((2 : Int32) &&& 31).toUInt32).toInt32)), (.ref b1)])) rfl (by rw [hml]; rfl) (argsL := [(.ref b1), (.int ((p0.toUInt32 >>> ((2 : Int32) &&& 31).toUInt32).toInt32)), (.int (2 : Int32)), (.int p3)]) (rest := []) (lenOf pd_7 rfl) rfl (by show 2 * 0 + _ ≤ _; exact Nat.le_of_eq rfl) (hb hby at_112) (fun _ _ => ⟨rfl, e75, (by decide : 3 + 0 ≤ _), (by decide : 9 + 0 ≤ _)⟩)
        dsimp only [Pt.U, Pt.locs, Pt.cells, Pt.slots] at X86 l86 y86 z86 st86 hQ86
        subst l86 y86 z86
        obtain ⟨K0_86, K1_86, K2_86, M0_86, M1_86, M2_86, rfl, N86q, Kc86, o86_0, o86_1, o86_2, o86_3, o86_4, o86_5, o86_6, o86_7, o86_8⟩ := hQ86
        have E_b1_86 := o74_0.keep Kc86
        have N86 := Fr.app N75 N86q
        have Z86 := Nat.le_trans Z74 Kc86.1
        refine go (B := T86.setTop (mkF m 115 #[.val (.int p0), .val (.int p1), .val (.int p2), .val (.int p3), .val (.ref b1), .val (.int (1 : Int32)), .val (.int (2 : Int32))] [(.int (3 : Int32))])) (fun _ k => st86 _ k) ?_
        refine go (B := T86.setTop (mkF m 117 #[.val (.int p0), .val (.int p1), .val (.int p2), .val (.int p3), .val (.ref b1), .val (.int (1 : Int32)), .val (.int (3 : Int32))] [])) (fun _ k => XS.istore X86.here hx rfl (hb hby at_115) rfl (l' := #[.val (.int p0), .val (.int p1), .val (.int p2), .val (.int p3), .val (.ref b1), .val (.int (1 : Int32)), .val (.int (3 : Int32))]) rfl k) ?_
        refine go (B := T86.setTop (mkF m 119 #[.val (.int p0), .val (.int p1), .val (.int p2), .val (.int p3), .val (.ref b1), .val (.int (1 : Int32)), .val (.int (3 : Int32))] [(.int (1 : Int32))])) (fun _ k => XS.iload X86.here hx rfl (hb hby at_117) rfl k) ?_
        refine go (B := T86.setTop (mkF m 122 #[.val (.int p0), .val (.int p1), .val (.int p2), .val (.int p3), .val (.ref b1), .val (.int (1 : Int32)), .val (.int (3 : Int32))] [])) (fun _ k => XS.ifNo X86.here hx rfl (hb hby at_119) rfl ((if0 _ _).trans (feq (by decide : ¬ ((1 : Int32) = (0 : Int32)))).1) k) ?_
        refine go (B := T86.setTop (mkF m 124 #[.val (.int p0), .val (.int p1), .val (.int p2), .val (.int p3), .val (.ref b1), .val (.int (1 : Int32)), .val (.int (3 : Int32))] [(.ref b1)])) (fun _ k => XS.aload X86.here hx rfl (hb hby at_122) rfl rfl k) ?_
        obtain ⟨cq87, kq87, q87a, q87b, q87c⟩ := isOf hZ rfl o86_0
        obtain ⟨_, _, ⟨T87, L87, k87, n87⟩, -, X87, ⟨Lc87, hQ87, l87, y87, z87⟩, st87⟩ := X86.virtualBack hx (y := (⟨"com/example/constrained_flow/constrainedflow/planner/search/LeastFirst", "isEmpty", "()Z"⟩ : MethodName)) (z := (⟨"com/example/constrained_flow/constrainedflow/planner/search/LeastFirst", "isEmpty", "()Z"⟩ : MethodName)) hown (mvT hZ (hw _ (List.mem_of_getElem? (i := 15) rfl))) (mvT hZ (hw _ (List.mem_of_getElem? (i := 16) rfl))) (notFace_of_selects (args := #[]) (mvT hZ (hw _ (List.mem_of_getElem? (i := 18) rfl)))) (mvT hZ (hw _ (List.mem_of_getElem? (i := 18) rfl))) (mvT hZ (hw _ (List.mem_of_getElem? (i := 17) rfl))) (by decide) (backOf (W := 0) (rm3 l Z aw hw [] b1 (3 : Int32) T86.heap n0 Z86 o86_3) hZ (hw _ (List.mem_of_getElem? (i := 19) rfl)) (hw _ (List.mem_of_getElem? (i := 2) rfl)) (by decide) (by decide)) q87a q87c (g := (mkF m 124 #[.val (.int p0), .val (.int p1), .val (.int p2), .val (.int p3), .val (.ref b1), .val (.int (1 : Int32)), .val (.int (3 : Int32))] [(.ref b1)])) rfl (by rw [hml]; rfl) (Steps.refl _) (argsL := []) (rest := []) (lenOf pd_6 rfl) rfl (by show 2 * 0 + _ ≤ _; exact Nat.le_of_eq rfl) (hb hby at_124) (fun _ _ => ⟨rfl, rfl, (by decide : 3 + 0 ≤ _), (by decide : 9 + 0 ≤ _)⟩)
        dsimp only [Pt.U, Pt.locs, Pt.cells, Pt.slots] at X87 l87 y87 z87 st87 hQ87
        subst l87 y87 z87
        obtain ⟨rfl, rfl, e87⟩ := hQ87
        have N87 := Fr.app N86 (Fr.nil n0)
        refine go (B := T87.setTop (mkF m 127 #[.val (.int p0), .val (.int p1), .val (.int p2), .val (.int p3), .val (.ref b1), .val (.int (1 : Int32)), .val (.int (3 : Int32))] [(.int (0 : Int32))])) (fun _ k => st87.trans k) ?_
        refine go (B := T87.setTop (mkF m 129 #[.val (.int p0), .val (.int p1), .val (.int p2), .val (.int p3), .val (.ref b1), .val (.int (1 : Int32)), .val (.int (3 : Int32))] [(.int (3 : Int32)), (.int (0 : Int32))])) (fun _ k => XS.iload X87.here hx rfl (hb hby at_127) rfl k) ?_
        refine go (B := T87.setTop (mkF m 136 #[.val (.int p0), .val (.int p1), .val (.int p2), .val (.int p3), .val (.ref b1), .val (.int (1 : Int32)), .val (.int (3 : Int32))] [(.int (0 : Int32))])) (fun _ k => XS.ifYes X87.here hx rfl (pc0 := 129) (pc' := 136) rfl (hb hby at_129) rfl ((if0 _ _).trans (feq (by decide : ¬ ((3 : Int32) = (0 : Int32)))).2) (by decide) (by decide) k) ?_
        refine go (B := T87.setTop (mkF m 137 #[.val (.int p0), .val (.int p1), .val (.int p2), .val (.int p3), .val (.ref b1), .val (.int (1 : Int32)), .val (.int (3 : Int32))] [(.int (0 : Int32)), (.int (0 : Int32))])) (fun _ k => XS.iconst X87.here hx rfl (hb hby at_136) k) ?_
        refine go (B := T87.setTop (mkF m 140 #[.val (.int p0), .val (.int p1), .val (.int p2), .val (.int p3), .val (.ref b1), .val (.int (1 : Int32)), .val (.int (3 : Int32))] [])) (fun _ k => XS.icmpNo X87.here hx rfl (hb hby at_137) rfl (teq (by decide : (0 : Int32) = (0 : Int32))).2 k) ?_
        refine go (B := T87.setTop (mkF m 141 #[.val (.int p0), .val (.int p1), .val (.int p2), .val (.int p3), .val (.ref b1), .val (.int (1 : Int32)), .val (.int (3 : Int32))] [(.int (1 : Int32))])) (fun _ k => XS.iconst X87.here hx rfl (hb hby at_140) k) ?_
        refine go (B := T87.setTop (mkF m 145 #[.val (.int p0), .val (.int p1), .val (.int p2), .val (.int p3), .val (.ref b1), .val (.int (1 : Int32)), .val (.int (3 : Int32))] [(.int (1 : Int32))])) (fun _ k => XS.goto X87.here hx rfl (pc0 := 141) (pc' := 145) rfl (hb hby at_141) (by decide) (by decide) k) ?_
        refine go (B := T87.setTop (mkF m 147 #[.val (.int p0), .val (.int p1), .val (.int p2), .val (.int p3), .val (.ref b1), .val (.int (1 : Int32)), .val (.int (3 : Int32))] [])) (fun _ k => XS.istore X87.here hx rfl (hb hby at_145) rfl (l' := #[.val (.int p0), .val (.int p1), .val (.int p2), .val (.int p3), .val (.ref b1), .val (.int (1 : Int32)), .val (.int (3 : Int32))]) rfl k) ?_
        refine go (B := T87.setTop (mkF m 149 #[.val (.int p0), .val (.int p1), .val (.int p2), .val (.int p3), .val (.ref b1), .val (.int (1 : Int32)), .val (.int (3 : Int32))] [(.ref b1)])) (fun _ k => XS.aload X87.here hx rfl (hb hby at_147) rfl rfl k) ?_
        refine go (B := T87.setTop (mkF m 150 #[.val (.int p0), .val (.int p1), .val (.int p2), .val (.int p3), .val (.ref b1), .val (.int (1 : Int32)), .val (.int (3 : Int32))] [(.int p0), (.ref b1)])) (fun _ k => XS.iloadN X87.here hx rfl (hb hby at_149) rfl k) ?_
        refine go (B := T87.setTop (mkF m 151 #[.val (.int p0), .val (.int p1), .val (.int p2), .val (.int p3), .val (.ref b1), .val (.int (1 : Int32)), .val (.int (3 : Int32))] [(.int (3 : Int32)), (.int p0), (.ref b1)])) (fun _ k => XS.iconst X87.here hx rfl (hb hby at_150) k) ?_
        refine go (B := T87.setTop (mkF m 152 #[.val (.int p0), .val (.int p1), .val (.int p2), .val (.int p3), .val (.ref b1), .val (.int (1 : Int32)), .val (.int (3 : Int32))] [(.int ((p0.toUInt32 >>> ((3 : Int32) &&& 31).toUInt32).toInt32)), (.ref b1)])) (fun _ k => XS.iushr X87.here hx rfl (hb hby at_151) rfl k) ?_
        refine go (B := T87.setTop (mkF m 154 #[.val (.int p0), .val (.int p1), .val (.int p2), .val (.int p3), .val (.ref b1), .val (.int (1 : Int32)), .val (.int (3 : Int32))] [(.int (3 : Int32)), (.int ((p0.toUInt32 >>> ((3 : Int32) &&& 31).toUInt32).toInt32)), (.ref b1)])) (fun _ k => XS.iload X87.here hx rfl (hb hby at_152) rfl k) ?_
        refine go (B := T87.setTop (mkF m 155 #[.val (.int p0), .val (.int p1), .val (.int p2), .val (.int p3), .val (.ref b1), .val (.int (1 : Int32)), .val (.int (3 : Int32))] [(.int p1), (.int (3 : Int32)), (.int ((p0.toUInt32 >>> ((3 : Int32) &&& 31).toUInt32).toInt32)), (.ref b1)])) (fun _ k => XS.iloadN X87.here hx rfl (hb hby at_154) rfl k) ?_
        refine go (B := T87.setTop (mkF m 156 #[.val (.int p0), .val (.int p1), .val (.int p2), .val (.int p3), .val (.ref b1), .val (.int (1 : Int32)), .val (.int (3 : Int32))] [(.int p2), (.int p1), (.int (3 : Int32)), (.int ((p0.toUInt32 >>> ((3 : Int32) &&& 31).toUInt32).toInt32)), (.ref b1)])) (fun _ k => XS.iloadN X87.here hx rfl (hb hby at_155) rfl k) ?_
        refine go (B := T87.setTop (mkF m 157 #[.val (.int p0), .val (.int p1), .val (.int p2), .val (.int p3), .val (.ref b1), .val (.int (1 : Int32)), .val (.int (3 : Int32))] [(.int (p1 ^^^ p2)), (.int (3 : Int32)), (.int ((p0.toUInt32 >>> ((3 : Int32) &&& 31).toUInt32).toInt32)), (.ref b1)])) (fun _ k => XS.ixor X87.here hx rfl (hb hby at_156) rfl k) ?_
        by_cases hc88 : (((p0.toUInt32 >>> ((3 : Int32) &&& 31).toUInt32).toInt32) &&& (1 : Int32)) = (0 : Int32)
        · obtain ⟨_, _, ⟨T89, L89, k89, n89⟩, -, X89, ⟨Lc89, hQ89, l89, y89, z89⟩, st89⟩ := Jvm.LawKit.callS X87 hx (y := (⟨"com/example/constrained_flow/constrainedflow/planner/search/LeastFirstIsEmptyPinLaw", "step", "(Lcom/example/constrained_flow/constrainedflow/planner/search/LeastFirst;III)I"⟩ : MethodName)) hown (mvT hZ (hw _ (List.mem_of_getElem? (i := 22) rfl))) (mvT hZ (hw _ (List.mem_of_getElem? (i := 23) rfl))) (mvT hZ (hw _ (List.mem_of_getElem? (i := 24) rfl))) (mvT hZ (hw _ (List.mem_of_getElem? (i := 25) rfl))) (by decide) (backOf (W := 0) (rm4n3t l Z aw hw [] b1 ((p0.toUInt32 >>> ((3 : Int32) &&& 31).toUInt32).toInt32) (p1 ^^^ p2) b2_2 b4_2 k2_2 K0_86 K1_86 K2_86 k4_2 M0_86 M1_86 M2_86 T86.heap n0 Z86 o86_1 o86_2 o86_3 o86_0 o86_4 o86_5 ne_b1_b2_2 ne_b1_b4_2 o2_2 g_b1 g_b2_2 g_b4_2 o86_6 o86_7 o86_8 (show (((p0.toUInt32 >>> ((3 : Int32) &&& 31).toUInt32).toInt32) &&& (1 : Int32)) = (0 : Int32) from hc88)) hZ (hw _ (List.mem_of_getElem? (i := 25) rfl)) (hw _ (List.mem_of_getElem? (i := 24) rfl)) (by decide) (by decide)) (g := (mkF m 157 #[.val (.int p0), .val (.int p1), .val (.int p2), .val (.int p3), .val (.ref b1), .val (.int (1 : Int32)), .val (.int (3 : Int32))] [(.int (p1 ^^^ p2)), (.int (3 : Int32)), (.int ((p0.toUInt32 >>> ((3 : Int32) &&& 31).toUInt32).toInt32)), (.ref b1)])) rfl (by rw [hml]; rfl) (argsL := [(.ref b1), (.int ((p0.toUInt32 >>> ((3 : Int32) &&& 31).toUInt32).toInt32)), (.int (3 : Int32)), (.int (p1 ^^^ p2))]) (rest := []) (lenOf pd_7 rfl) rfl (by show 2 * 0 + _ ≤ _; exact Nat.le_of_eq rfl) (hb hby at_157) (fun _ _ => ⟨rfl, e87, (by decide : 3 + 0 ≤ _), (by decide : 9 + 0 ≤ _)⟩)
          dsimp only [Pt.U, Pt.locs, Pt.cells, Pt.slots] at X89 l89 y89 z89 st89 hQ89
          subst l89 y89 z89
          obtain ⟨K0_89, K1_89, K2_89, M0_89, M1_89, M2_89, rfl, N89q, Kc89, o89_0, o89_1, o89_2, o89_3, o89_4, o89_5, o89_6, o89_7, o89_8⟩ := hQ89
          have E_b1_89 := o86_0.keep Kc89
          have N89 := Fr.app N87 N89q
          have Z89 := Nat.le_trans Z86 Kc89.1
          refine go (B := T89.setTop (mkF m 160 #[.val (.int p0), .val (.int p1), .val (.int p2), .val (.int p3), .val (.ref b1), .val (.int (1 : Int32)), .val (.int (3 : Int32))] [(.int (2 : Int32))])) (fun _ k => st89 _ k) ?_
          refine go (B := T89.setTop (mkF m 162 #[.val (.int p0), .val (.int p1), .val (.int p2), .val (.int p3), .val (.ref b1), .val (.int (1 : Int32)), .val (.int (2 : Int32))] [])) (fun _ k => XS.istore X89.here hx rfl (hb hby at_160) rfl (l' := #[.val (.int p0), .val (.int p1), .val (.int p2), .val (.int p3), .val (.ref b1), .val (.int (1 : Int32)), .val (.int (2 : Int32))]) rfl k) ?_
          refine go (B := T89.setTop (mkF m 164 #[.val (.int p0), .val (.int p1), .val (.int p2), .val (.int p3), .val (.ref b1), .val (.int (1 : Int32)), .val (.int (2 : Int32))] [(.int (1 : Int32))])) (fun _ k => XS.iload X89.here hx rfl (hb hby at_162) rfl k) ?_
          refine go (B := T89.setTop (mkF m 167 #[.val (.int p0), .val (.int p1), .val (.int p2), .val (.int p3), .val (.ref b1), .val (.int (1 : Int32)), .val (.int (2 : Int32))] [])) (fun _ k => XS.ifNo X89.here hx rfl (hb hby at_164) rfl ((if0 _ _).trans (feq (by decide : ¬ ((1 : Int32) = (0 : Int32)))).1) k) ?_
          refine go (B := T89.setTop (mkF m 169 #[.val (.int p0), .val (.int p1), .val (.int p2), .val (.int p3), .val (.ref b1), .val (.int (1 : Int32)), .val (.int (2 : Int32))] [(.ref b1)])) (fun _ k => XS.aload X89.here hx rfl (hb hby at_167) rfl rfl k) ?_
          obtain ⟨cq90, kq90, q90a, q90b, q90c⟩ := isOf hZ rfl o89_0
          obtain ⟨_, _, ⟨T90, L90, k90, n90⟩, -, X90, ⟨Lc90, hQ90, l90, y90, z90⟩, st90⟩ := X89.virtualBack hx (y := (⟨"com/example/constrained_flow/constrainedflow/planner/search/LeastFirst", "isEmpty", "()Z"⟩ : MethodName)) (z := (⟨"com/example/constrained_flow/constrainedflow/planner/search/LeastFirst", "isEmpty", "()Z"⟩ : MethodName)) hown (mvT hZ (hw _ (List.mem_of_getElem? (i := 15) rfl))) (mvT hZ (hw _ (List.mem_of_getElem? (i := 16) rfl))) (notFace_of_selects (args := #[]) (mvT hZ (hw _ (List.mem_of_getElem? (i := 18) rfl)))) (mvT hZ (hw _ (List.mem_of_getElem? (i := 18) rfl))) (mvT hZ (hw _ (List.mem_of_getElem? (i := 17) rfl))) (by decide) (backOf (W := 0) (rm3 l Z aw hw [] b1 (2 : Int32) T89.heap n0 Z89 o89_3) hZ (hw _ (List.mem_of_getElem? (i := 19) rfl)) (hw _ (List.mem_of_getElem? (i := 2) rfl)) (by decide) (by decide)) q90a q90c (g := (mkF m 169 #[.val (.int p0), .val (.int p1), .val (.int p2), .val (.int p3), .val (.ref b1), .val (.int (1 : Int32)), .val (.int (2 : Int32))] [(.ref b1)])) rfl (by rw [hml]; rfl) (Steps.refl _) (argsL := []) (rest := []) (lenOf pd_6 rfl) rfl (by show 2 * 0 + _ ≤ _; exact Nat.le_of_eq rfl) (hb hby at_169) (fun _ _ => ⟨rfl, rfl, (by decide : 3 + 0 ≤ _), (by decide : 9 + 0 ≤ _)⟩)
          dsimp only [Pt.U, Pt.locs, Pt.cells, Pt.slots] at X90 l90 y90 z90 st90 hQ90
          subst l90 y90 z90
          obtain ⟨rfl, rfl, e90⟩ := hQ90
          have N90 := Fr.app N89 (Fr.nil n0)
          refine go (B := T90.setTop (mkF m 172 #[.val (.int p0), .val (.int p1), .val (.int p2), .val (.int p3), .val (.ref b1), .val (.int (1 : Int32)), .val (.int (2 : Int32))] [(.int (0 : Int32))])) (fun _ k => st90.trans k) ?_
          refine go (B := T90.setTop (mkF m 174 #[.val (.int p0), .val (.int p1), .val (.int p2), .val (.int p3), .val (.ref b1), .val (.int (1 : Int32)), .val (.int (2 : Int32))] [(.int (2 : Int32)), (.int (0 : Int32))])) (fun _ k => XS.iload X90.here hx rfl (hb hby at_172) rfl k) ?_
          refine go (B := T90.setTop (mkF m 181 #[.val (.int p0), .val (.int p1), .val (.int p2), .val (.int p3), .val (.ref b1), .val (.int (1 : Int32)), .val (.int (2 : Int32))] [(.int (0 : Int32))])) (fun _ k => XS.ifYes X90.here hx rfl (pc0 := 174) (pc' := 181) rfl (hb hby at_174) rfl ((if0 _ _).trans (feq (by decide : ¬ ((2 : Int32) = (0 : Int32)))).2) (by decide) (by decide) k) ?_
          refine go (B := T90.setTop (mkF m 182 #[.val (.int p0), .val (.int p1), .val (.int p2), .val (.int p3), .val (.ref b1), .val (.int (1 : Int32)), .val (.int (2 : Int32))] [(.int (0 : Int32)), (.int (0 : Int32))])) (fun _ k => XS.iconst X90.here hx rfl (hb hby at_181) k) ?_
          refine go (B := T90.setTop (mkF m 185 #[.val (.int p0), .val (.int p1), .val (.int p2), .val (.int p3), .val (.ref b1), .val (.int (1 : Int32)), .val (.int (2 : Int32))] [])) (fun _ k => XS.icmpNo X90.here hx rfl (hb hby at_182) rfl (teq (by decide : (0 : Int32) = (0 : Int32))).2 k) ?_
          refine go (B := T90.setTop (mkF m 186 #[.val (.int p0), .val (.int p1), .val (.int p2), .val (.int p3), .val (.ref b1), .val (.int (1 : Int32)), .val (.int (2 : Int32))] [(.int (1 : Int32))])) (fun _ k => XS.iconst X90.here hx rfl (hb hby at_185) k) ?_
          refine go (B := T90.setTop (mkF m 190 #[.val (.int p0), .val (.int p1), .val (.int p2), .val (.int p3), .val (.ref b1), .val (.int (1 : Int32)), .val (.int (2 : Int32))] [(.int (1 : Int32))])) (fun _ k => XS.goto X90.here hx rfl (pc0 := 186) (pc' := 190) rfl (hb hby at_186) (by decide) (by decide) k) ?_
          refine go (B := T90.setTop (mkF m 192 #[.val (.int p0), .val (.int p1), .val (.int p2), .val (.int p3), .val (.ref b1), .val (.int (1 : Int32)), .val (.int (2 : Int32))] [])) (fun _ k => XS.istore X90.here hx rfl (hb hby at_190) rfl (l' := #[.val (.int p0), .val (.int p1), .val (.int p2), .val (.int p3), .val (.ref b1), .val (.int (1 : Int32)), .val (.int (2 : Int32))]) rfl k) ?_
          refine go (B := T90.setTop (mkF m 194 #[.val (.int p0), .val (.int p1), .val (.int p2), .val (.int p3), .val (.ref b1), .val (.int (1 : Int32)), .val (.int (2 : Int32))] [(.int (1 : Int32))])) (fun _ k => XS.iload X90.here hx rfl (hb hby at_192) rfl k) ?_
          have r91 : (f0 p0) = (1 : Int32) := by unfold f0; rw [if_neg hc4, if_neg hc52, if_neg hc76, if_pos hc88]
          exact end_nar X90 hx Bd.notSynchronized (t := .boolean) Bd.returns (by simp) (hb hby at_194) hF e90 (by decide) (by decide) ⟨(congrArg (fun z => some (Value.int z)) (r91.symm.trans (own_law p0))), N90⟩
        · obtain ⟨_, _, ⟨T92, L92, k92, n92⟩, -, X92, ⟨Lc92, hQ92, l92, y92, z92⟩, st92⟩ := Jvm.LawKit.callS X87 hx (y := (⟨"com/example/constrained_flow/constrainedflow/planner/search/LeastFirstIsEmptyPinLaw", "step", "(Lcom/example/constrained_flow/constrainedflow/planner/search/LeastFirst;III)I"⟩ : MethodName)) hown (mvT hZ (hw _ (List.mem_of_getElem? (i := 22) rfl))) (mvT hZ (hw _ (List.mem_of_getElem? (i := 23) rfl))) (mvT hZ (hw _ (List.mem_of_getElem? (i := 24) rfl))) (mvT hZ (hw _ (List.mem_of_getElem? (i := 25) rfl))) (by decide) (backOf (W := 0) (rm4n3a l Z aw hw [] b1 ((p0.toUInt32 >>> ((3 : Int32) &&& 31).toUInt32).toInt32) (p1 ^^^ p2) b2_2 b4_2 k2_2 K0_86 K1_86 K2_86 k4_2 M0_86 M1_86 M2_86 T86.heap n0 Z86 o86_1 o86_2 o86_3 o86_0 o86_4 o86_5 ne_b1_b2_2 ne_b1_b4_2 o2_2 g_b1 g_b2_2 g_b4_2 o86_6 o86_7 o86_8 (show ¬ ((((p0.toUInt32 >>> ((3 : Int32) &&& 31).toUInt32).toInt32) &&& (1 : Int32)) = (0 : Int32)) from hc88)) hZ (hw _ (List.mem_of_getElem? (i := 25) rfl)) (hw _ (List.mem_of_getElem? (i := 24) rfl)) (by decide) (by decide)) (g := (mkF m 157 #[.val (.int p0), .val (.int p1), .val (.int p2), .val (.int p3), .val (.ref b1), .val (.int (1 : Int32)), .val (.int (3 : Int32))] [(.int (p1 ^^^ p2)), (.int (3 : Int32)), (.int ((p0.toUInt32 >>> ((3 : Int32) &&& 31).toUInt32).toInt32)), (.ref b1)])) rfl (by rw [hml]; rfl) (argsL := [(.ref b1), (.int ((p0.toUInt32 >>> ((3 : Int32) &&& 31).toUInt32).toInt32)), (.int (3 : Int32)), (.int (p1 ^^^ p2))]) (rest := []) (lenOf pd_7 rfl) rfl (by show 2 * 0 + _ ≤ _; exact Nat.le_of_eq rfl) (hb hby at_157) (fun _ _ => ⟨rfl, e87, (by decide : 3 + 0 ≤ _), (by decide : 9 + 0 ≤ _)⟩)
          dsimp only [Pt.U, Pt.locs, Pt.cells, Pt.slots] at X92 l92 y92 z92 st92 hQ92
          subst l92 y92 z92
          obtain ⟨K0_92, K1_92, K2_92, M0_92, M1_92, M2_92, rfl, N92q, Kc92, o92_0, o92_1, o92_2, o92_3, o92_4, o92_5, o92_6, o92_7, o92_8⟩ := hQ92
          have E_b1_92 := o86_0.keep Kc92
          have N92 := Fr.app N87 N92q
          have Z92 := Nat.le_trans Z86 Kc92.1
          refine go (B := T92.setTop (mkF m 160 #[.val (.int p0), .val (.int p1), .val (.int p2), .val (.int p3), .val (.ref b1), .val (.int (1 : Int32)), .val (.int (3 : Int32))] [(.int (3 : Int32))])) (fun _ k => st92 _ k) ?_
          refine go (B := T92.setTop (mkF m 162 #[.val (.int p0), .val (.int p1), .val (.int p2), .val (.int p3), .val (.ref b1), .val (.int (1 : Int32)), .val (.int (3 : Int32))] [])) (fun _ k => XS.istore X92.here hx rfl (hb hby at_160) rfl (l' := #[.val (.int p0), .val (.int p1), .val (.int p2), .val (.int p3), .val (.ref b1), .val (.int (1 : Int32)), .val (.int (3 : Int32))]) rfl k) ?_
          refine go (B := T92.setTop (mkF m 164 #[.val (.int p0), .val (.int p1), .val (.int p2), .val (.int p3), .val (.ref b1), .val (.int (1 : Int32)), .val (.int (3 : Int32))] [(.int (1 : Int32))])) (fun _ k => XS.iload X92.here hx rfl (hb hby at_162) rfl k) ?_
          refine go (B := T92.setTop (mkF m 167 #[.val (.int p0), .val (.int p1), .val (.int p2), .val (.int p3), .val (.ref b1), .val (.int (1 : Int32)), .val (.int (3 : Int32))] [])) (fun _ k => XS.ifNo X92.here hx rfl (hb hby at_164) rfl ((if0 _ _).trans (feq (by decide : ¬ ((1 : Int32) = (0 : Int32)))).1) k) ?_
          refine go (B := T92.setTop (mkF m 169 #[.val (.int p0), .val (.int p1), .val (.int p2), .val (.int p3), .val (.ref b1), .val (.int (1 : Int32)), .val (.int (3 : Int32))] [(.ref b1)])) (fun _ k => XS.aload X92.here hx rfl (hb hby at_167) rfl rfl k) ?_
          obtain ⟨cq93, kq93, q93a, q93b, q93c⟩ := isOf hZ rfl o92_0
          obtain ⟨_, _, ⟨T93, L93, k93, n93⟩, -, X93, ⟨Lc93, hQ93, l93, y93, z93⟩, st93⟩ := X92.virtualBack hx (y := (⟨"com/example/constrained_flow/constrainedflow/planner/search/LeastFirst", "isEmpty", "()Z"⟩ : MethodName)) (z := (⟨"com/example/constrained_flow/constrainedflow/planner/search/LeastFirst", "isEmpty", "()Z"⟩ : MethodName)) hown (mvT hZ (hw _ (List.mem_of_getElem? (i := 15) rfl))) (mvT hZ (hw _ (List.mem_of_getElem? (i := 16) rfl))) (notFace_of_selects (args := #[]) (mvT hZ (hw _ (List.mem_of_getElem? (i := 18) rfl)))) (mvT hZ (hw _ (List.mem_of_getElem? (i := 18) rfl))) (mvT hZ (hw _ (List.mem_of_getElem? (i := 17) rfl))) (by decide) (backOf (W := 0) (rm3 l Z aw hw [] b1 (3 : Int32) T92.heap n0 Z92 o92_3) hZ (hw _ (List.mem_of_getElem? (i := 19) rfl)) (hw _ (List.mem_of_getElem? (i := 2) rfl)) (by decide) (by decide)) q93a q93c (g := (mkF m 169 #[.val (.int p0), .val (.int p1), .val (.int p2), .val (.int p3), .val (.ref b1), .val (.int (1 : Int32)), .val (.int (3 : Int32))] [(.ref b1)])) rfl (by rw [hml]; rfl) (Steps.refl _) (argsL := []) (rest := []) (lenOf pd_6 rfl) rfl (by show 2 * 0 + _ ≤ _; exact Nat.le_of_eq rfl) (hb hby at_169) (fun _ _ => ⟨rfl, rfl, (by decide : 3 + 0 ≤ _), (by decide : 9 + 0 ≤ _)⟩)
          dsimp only [Pt.U, Pt.locs, Pt.cells, Pt.slots] at X93 l93 y93 z93 st93 hQ93
          subst l93 y93 z93
          obtain ⟨rfl, rfl, e93⟩ := hQ93
          have N93 := Fr.app N92 (Fr.nil n0)
          refine go (B := T93.setTop (mkF m 172 #[.val (.int p0), .val (.int p1), .val (.int p2), .val (.int p3), .val (.ref b1), .val (.int (1 : Int32)), .val (.int (3 : Int32))] [(.int (0 : Int32))])) (fun _ k => st93.trans k) ?_
          refine go (B := T93.setTop (mkF m 174 #[.val (.int p0), .val (.int p1), .val (.int p2), .val (.int p3), .val (.ref b1), .val (.int (1 : Int32)), .val (.int (3 : Int32))] [(.int (3 : Int32)), (.int (0 : Int32))])) (fun _ k => XS.iload X93.here hx rfl (hb hby at_172) rfl k) ?_
          refine go (B := T93.setTop (mkF m 181 #[.val (.int p0), .val (.int p1), .val (.int p2), .val (.int p3), .val (.ref b1), .val (.int (1 : Int32)), .val (.int (3 : Int32))] [(.int (0 : Int32))])) (fun _ k => XS.ifYes X93.here hx rfl (pc0 := 174) (pc' := 181) rfl (hb hby at_174) rfl ((if0 _ _).trans (feq (by decide : ¬ ((3 : Int32) = (0 : Int32)))).2) (by decide) (by decide) k) ?_
          refine go (B := T93.setTop (mkF m 182 #[.val (.int p0), .val (.int p1), .val (.int p2), .val (.int p3), .val (.ref b1), .val (.int (1 : Int32)), .val (.int (3 : Int32))] [(.int (0 : Int32)), (.int (0 : Int32))])) (fun _ k => XS.iconst X93.here hx rfl (hb hby at_181) k) ?_
          refine go (B := T93.setTop (mkF m 185 #[.val (.int p0), .val (.int p1), .val (.int p2), .val (.int p3), .val (.ref b1), .val (.int (1 : Int32)), .val (.int (3 : Int32))] [])) (fun _ k => XS.icmpNo X93.here hx rfl (hb hby at_182) rfl (teq (by decide : (0 : Int32) = (0 : Int32))).2 k) ?_
          refine go (B := T93.setTop (mkF m 186 #[.val (.int p0), .val (.int p1), .val (.int p2), .val (.int p3), .val (.ref b1), .val (.int (1 : Int32)), .val (.int (3 : Int32))] [(.int (1 : Int32))])) (fun _ k => XS.iconst X93.here hx rfl (hb hby at_185) k) ?_
          refine go (B := T93.setTop (mkF m 190 #[.val (.int p0), .val (.int p1), .val (.int p2), .val (.int p3), .val (.ref b1), .val (.int (1 : Int32)), .val (.int (3 : Int32))] [(.int (1 : Int32))])) (fun _ k => XS.goto X93.here hx rfl (pc0 := 186) (pc' := 190) rfl (hb hby at_186) (by decide) (by decide) k) ?_
          refine go (B := T93.setTop (mkF m 192 #[.val (.int p0), .val (.int p1), .val (.int p2), .val (.int p3), .val (.ref b1), .val (.int (1 : Int32)), .val (.int (3 : Int32))] [])) (fun _ k => XS.istore X93.here hx rfl (hb hby at_190) rfl (l' := #[.val (.int p0), .val (.int p1), .val (.int p2), .val (.int p3), .val (.ref b1), .val (.int (1 : Int32)), .val (.int (3 : Int32))]) rfl k) ?_
          refine go (B := T93.setTop (mkF m 194 #[.val (.int p0), .val (.int p1), .val (.int p2), .val (.int p3), .val (.ref b1), .val (.int (1 : Int32)), .val (.int (3 : Int32))] [(.int (1 : Int32))])) (fun _ k => XS.iload X93.here hx rfl (hb hby at_192) rfl k) ?_
          have r94 : (f0 p0) = (1 : Int32) := by unfold f0; rw [if_neg hc4, if_neg hc52, if_neg hc76, if_neg hc88]
          exact end_nar X93 hx Bd.notSynchronized (t := .boolean) Bd.returns (by simp) (hb hby at_194) hF e93 (by decide) (by decide) ⟨(congrArg (fun z => some (Value.int z)) (r94.symm.trans (own_law p0))), N93⟩
set_option maxRecDepth 65536 in
set_option maxHeartbeats 40000000 in
theorem comes_1 {Post : Tables → Env → Array Value → State → Outcome → State → Prop} (hpost : ∀ tb e args s v u, (limb_1_1.after args s (.returned v) u = true ∧ limb_1_2.after args s (.returned v) u = true ∧ True) → FrameEnd s (.returned v) u (Jvm.fieldLocs frame_1_writes args s ++ Jvm.arrayLocs frame_1_arrays args s ++ Jvm.staticLocs frame_1_statics s) 16 128 → Post tb e args s (.returned v) u) :
    ArmFor flags0 classFile x code maxLocals ret World_1 tables_1 room_1 Calls_1 rest_1 Pre_1 Post := by
  intro l hfl _ _ p e ha hc hk s m args below hf hA hF happ hP
  obtain ⟨hcalls, hrest, hpre⟩ := hP
  obtain ⟨-, -, -, hnamed, -, -, -, hat⟩ := (Spec.applies_iff hf).mp happ
  obtain ⟨hg, hn⟩ := and_e (Cond.before_iff.mp (show (Jvm.Cond.and given_1 narrow_1).before args s = true from hpre))
  obtain ⟨gg1, gg2⟩ := and_e hg
  obtain ⟨gg3, gg4⟩ := and_e gg2
  obtain ⟨gg5, gg6⟩ := and_e gg4
  obtain ⟨gg7, gg8⟩ := and_e gg6
  obtain ⟨w0, w1, w2, w3, rfl⟩ : ∃ w0 w1 w2 w3 : Value, args = #[w0, w1, w2, w3] := by
    have hs : args.size = 4 := by simpa [Cond.value, given_1] using gg1
    obtain ⟨L⟩ := args
    match L, hs with
    | [w0, w1, w2, w3], _ => exact ⟨w0, w1, w2, w3, rfl⟩
  have hw := fun d (hd : d ∈ tables_1) => atoms_spec (ws := Jvm.Cond.code x code maxLocals ret :: tables_1) hat d (List.mem_cons_of_mem _ hd)
  have hfit : Fit s := fun {y c} hc i hi => by
    obtain ⟨ha, rfl⟩ := Array.getElem?_eq_some_iff.mp hc
    have q := List.all_eq_true.mp ((Array.all_eq_true_iff_forall_mem.mp hF) _ (Array.getElem_mem ha)) i (List.mem_range.mpr hi)
    simpa [Array.getElem?_eq_getElem hi] using q
  obtain ⟨i0, ei0⟩ := is_v gg3
  obtain rfl : w0 = (.int i0) := Option.some.inj ei0
  obtain ⟨i1, ei1⟩ := is_v gg5
  obtain rfl : w1 = (.int i1) := Option.some.inj ei1
  obtain ⟨i2, ei2⟩ := is_v gg7
  obtain rfl : w2 = (.int i2) := Option.some.inj ei2
  obtain ⟨i3, ei3⟩ := is_v gg8
  obtain rfl : w3 = (.int i3) := Option.some.inj ei3
  obtain ⟨n, o, h1, h2, h3, _, L, rfl, ⟨rfl, N⟩, hq⟩ := rm0 l s _ hw tables_1 i0 i1 i2 i3 s.heap s.heap.size (Nat.le_refl _)  p e ha hc hk s m _ below hf ((Spec.applies_iff_loose hf).mp happ).1 ⟨rfl, State.Warmed39.refl s, rfl⟩ trivial
  refine ⟨n, _, h1, h2, h3, hpost _ _ _ _ _ _ ⟨Cond.after_iff.mpr rfl, Cond.after_iff.mpr (eq_i res_at (Term.int_eval (1)) rfl), trivial⟩ ⟨hq.1, hq.2.1, (hq.2.2.sift fun y hy => Or.inr (N y hy)).mono (by decide) (by decide)⟩⟩
theorem main_1_1 : Claimed_1_1 := comes_1 fun _ _ _ _ _ _ h hF => ⟨h.1, hF⟩
theorem main_1_2 : Claimed_1_2 := comes_1 fun _ _ _ _ _ _ h hF => ⟨h.2.1, hF⟩
end Jvm.Pilot.@@N@@
namespace Jvm.Pilot.@@N@@
open Jvm Jvm.ClassFile Sem Op Lib Jvm.Free Jvm.Stand Jvm.Pilot.@@N@@.Jvm.D
/-! MADE BY PROGRAM (witnessworld.py) out of the Statement's table words and the real class files: 14 classes; the members and pool entries that the words name. The judged class is class 1, her method 2. -/
namespace start1
open Jvm.ClassFile
def u (s : String) : CpInfo := .utf8 (stringToUtf16 s)
/-- a pool by its gaps: so many unusable entries, then the entry; so many at the end -/
def gap : Nat → List CpInfo → List CpInfo
  | 0, r => r
  | n + 1, r => .unusable :: gap n r
def poolList (es : List (Nat × CpInfo)) (last : Nat) : List CpInfo := es.foldr (fun e r => gap e.1 (e.2 :: r)) (gap last [])
def pool (es : List (Nat × CpInfo)) (last : Nat) : Array CpInfo := ⟨poolList es last⟩
def fileOf (pool : Array CpInfo) (this : Nat) (attrs : Array Attribute := #[]) (ms : Array MethodInfo := #[]) (fl : Nat := 33) (sup : Nat := 0) (ifs : Array Nat := #[]) (fds : Array FieldInfo := #[]) : ClassFile where
  minorVersion := 0
  majorVersion := 65
  constantPool := pool
  accessFlags := fl
  thisClass := this
  superClass := sup
  interfaces := ifs
  fields := fds
  methods := ms
  attributes := attrs
def plain (name : String) (sup : Option ClassId) : Class where
  name := name
  kind := .ordinary
  loader := none
  accessFlags := 33
  super := sup
  interfaces := #[]
  cf := none
  fields := #[]
  methods := #[]
  instanceTypes := #[]
  staticTypes := #[]
  resolved := #[]
  callSites := []
  init := .initialized
  statics := none
  mirror := none

def pool0 : Array CpInfo := pool [(5, u "<init>"), (0, u "()V"), (1, .class_ 10), (1, u "java/lang/Object")] 113

def k0c0 : Code := { maxStack := 0, maxLocals := 1, code := object_method_1_code, exceptionTable := #[], attributes := #[] }
def k0m0 : Method := { name := "<init>", desc := "()V", sig := { parameters := [], returnType := none }, accessFlags := 1, code := some k0c0 }
/-- java/lang/Object -/
def k0 : Class := { plain "java/lang/Object" none with
  accessFlags := 33
  interfaces := #[]
  cf := some (fileOf pool0 8 #[] #[{ accessFlags := 1, nameIndex := 5, descriptorIndex := 6, attributes := #[] }] 33 0 #[] #[])
  fields := #[]
  methods := #[k0m0]
  instanceTypes := #[]
  staticTypes := #[]
  resolved := Array.replicate 124 none
  statics := none }

def pool1 : Array CpInfo := pool [(2, .class_ 4), (1, u "java/lang/Object"), (0, u "<init>"), (0, u "()V"), (0, .methodref 8 9), (0, .class_ 10), (0, .nameAndType 11 12), (0, u "com/example/constrained_flow/constrainedflow/planner/search/LeastFirst"), (0, u "add"), (0, u "(DI)V"), (0, .methodref 8 14), (0, .nameAndType 15 16), (0, u "take"), (0, u "()I"), (0, .methodref 8 18), (0, .nameAndType 5 19), (0, u "(I)V"), (0, .methodref 8 21), (0, .nameAndType 22 23), (0, u "isEmpty"), (0, u "()Z"), (0, .methodref 25 26), (0, .class_ 27), (0, .nameAndType 28 29), (0, u "com/example/constrained_flow/constrainedflow/planner/search/LeastFirstIsEmptyPinLaw"), (0, u "step"), (0, u "(Lcom/example/constrained_flow/constrainedflow/planner/search/LeastFirst;III)I"), (3, u "law"), (0, u "(IIII)Z")] 2

def k1m0 : Method := { name := "<init>", desc := "()V", sig := { parameters := [], returnType := none }, accessFlags := 2, code := none }
def k1c1 : Code := { maxStack := 4, maxLocals := 4, code := method_2_code, exceptionTable := #[], attributes := #[] }
def k1m1 : Method := { name := "step", desc := "(Lcom/example/constrained_flow/constrainedflow/planner/search/LeastFirst;III)I", sig := { parameters := [(.object "com/example/constrained_flow/constrainedflow/planner/search/LeastFirst"), .int, .int, .int], returnType := some .int }, accessFlags := 10, code := some k1c1 }
def k1c2 : Code := { maxStack := 5, maxLocals := 7, code := code, exceptionTable := #[], attributes := #[] }
def k1m2 : Method := { name := "law", desc := "(IIII)Z", sig := { parameters := [.int, .int, .int, .int], returnType := some .boolean }, accessFlags := 9, code := some k1c2 }
/-- com/example/constrained_flow/constrainedflow/planner/search/LeastFirstIsEmptyPinLaw -/
def k1 : Class := { plain "com/example/constrained_flow/constrainedflow/planner/search/LeastFirstIsEmptyPinLaw" (some 0) with
  accessFlags := 49
  interfaces := #[]
  cf := some (fileOf pool1 25 #[] #[{ accessFlags := 2, nameIndex := 5, descriptorIndex := 6, attributes := #[] }, { accessFlags := 10, nameIndex := 28, descriptorIndex := 29, attributes := #[] }, { accessFlags := 9, nameIndex := 33, descriptorIndex := 34, attributes := #[] }] 49 2 #[] #[])
  fields := #[]
  methods := #[k1m0, k1m1, k1m2]
  instanceTypes := #[]
  staticTypes := #[]
  resolved := Array.replicate 37 none
  statics := none }

def pool2 : Array CpInfo := pool [(1, .methodref 2 3), (0, .class_ 4), (0, .nameAndType 5 6), (0, u "java/lang/Object"), (0, u "<init>"), (0, u "()V"), (0, .fieldref 8 9), (0, .class_ 10), (0, .nameAndType 11 12), (0, u "com/example/constrained_flow/constrainedflow/planner/search/LeastFirst"), (0, u "keys"), (0, u "[D"), (0, .fieldref 8 14), (0, .nameAndType 15 16), (0, u "numbers"), (0, u "[I"), (0, .fieldref 8 18), (0, .nameAndType 19 20), (0, u "size"), (0, u "I"), (0, .methodref 22 23), (0, .class_ 24), (0, .nameAndType 25 26), (0, u "java/lang/Double"), (0, u "compare"), (0, u "(DD)I"), (0, u "(I)V"), (2, u "isEmpty"), (0, u "()Z"), (1, u "add"), (0, u "(DI)V"), (2, u "take"), (0, u "()I")] 2

def k2c0 : Code := { maxStack := 2, maxLocals := 2, code := prog_78_method_1_code, exceptionTable := #[], attributes := #[] }
def k2m0 : Method := { name := "<init>", desc := "(I)V", sig := { parameters := [.int], returnType := none }, accessFlags := 0, code := some k2c0 }
def k2c1 : Code := { maxStack := 1, maxLocals := 1, code := prog_78_method_2_code, exceptionTable := #[], attributes := #[] }
def k2m1 : Method := { name := "isEmpty", desc := "()Z", sig := { parameters := [], returnType := some .boolean }, accessFlags := 0, code := some k2c1 }
def k2c2 : Code := { maxStack := 4, maxLocals := 6, code := prog_78_method_3_code, exceptionTable := #[], attributes := #[] }
def k2m2 : Method := { name := "add", desc := "(DI)V", sig := { parameters := [.double, .int], returnType := none }, accessFlags := 0, code := some k2c2 }
def k2c3 : Code := { maxStack := 4, maxLocals := 10, code := prog_78_method_5_code, exceptionTable := #[], attributes := #[] }
def k2m3 : Method := { name := "take", desc := "()I", sig := { parameters := [], returnType := some .int }, accessFlags := 0, code := some k2c3 }
/-- com/example/constrained_flow/constrainedflow/planner/search/LeastFirst -/
def k2 : Class := { plain "com/example/constrained_flow/constrainedflow/planner/search/LeastFirst" (some 0) with
  accessFlags := 32
  interfaces := #[]
  cf := some (fileOf pool2 8 #[] #[{ accessFlags := 0, nameIndex := 5, descriptorIndex := 27, attributes := #[] }, { accessFlags := 0, nameIndex := 30, descriptorIndex := 31, attributes := #[] }, { accessFlags := 0, nameIndex := 33, descriptorIndex := 34, attributes := #[] }, { accessFlags := 0, nameIndex := 37, descriptorIndex := 38, attributes := #[] }] 32 2 #[] #[{ accessFlags := 18, nameIndex := 11, descriptorIndex := 12, attributes := #[] }, { accessFlags := 18, nameIndex := 15, descriptorIndex := 16, attributes := #[] }, { accessFlags := 2, nameIndex := 19, descriptorIndex := 20, attributes := #[] }])
  fields := #[{ name := "keys", type := (.array .double), accessFlags := 18, slot := 0, constantValue := 0 }, { name := "numbers", type := (.array .int), accessFlags := 18, slot := 1, constantValue := 0 }, { name := "size", type := .int, accessFlags := 2, slot := 2, constantValue := 0 }]
  methods := #[k2m0, k2m1, k2m2, k2m3]
  instanceTypes := #[(.array .double), (.array .int), .int]
  staticTypes := #[]
  resolved := Array.replicate 41 none
  statics := none }

def pool3 : Array CpInfo := pool [(1, .class_ 2), (0, u "java/io/Serializable"), (0, .class_ 4), (0, u "java/lang/Object")] 2

/-- java/io/Serializable -/
def k3 : Class := { plain "java/io/Serializable" (some 0) with
  accessFlags := 1537
  interfaces := #[]
  cf := some (fileOf pool3 1 #[] #[] 1537 3 #[] #[])
  fields := #[]
  methods := #[]
  instanceTypes := #[]
  staticTypes := #[]
  resolved := Array.replicate 7 none
  statics := none }

def pool4 : Array CpInfo := pool [(2, .class_ 4), (1, u "java/lang/Object"), (0, u "<init>"), (0, u "()V"), (1, .class_ 10), (1, u "java/lang/Number"), (2, .class_ 14), (0, u "java/io/Serializable"), (0, u "serialVersionUID"), (0, u "J")] 20

def k4m0 : Method := { name := "<init>", desc := "()V", sig := { parameters := [], returnType := none }, accessFlags := 1, code := none }
/-- java/lang/Number -/
def k4 : Class := { plain "java/lang/Number" (some 0) with
  accessFlags := 1057
  interfaces := #[3]
  cf := some (fileOf pool4 8 #[] #[{ accessFlags := 1, nameIndex := 5, descriptorIndex := 6, attributes := #[] }] 1057 2 #[13] #[{ accessFlags := 26, nameIndex := 15, descriptorIndex := 16, attributes := #[] }])
  fields := #[{ name := "serialVersionUID", type := .long, accessFlags := 26, slot := 0, constantValue := 0 }]
  methods := #[k4m0]
  instanceTypes := #[]
  staticTypes := #[.long]
  resolved := Array.replicate 37 none
  statics := none }

def pool5 : Array CpInfo := pool [(1, .class_ 2), (0, u "java/lang/Comparable"), (0, .class_ 4), (0, u "java/lang/Object")] 7

/-- java/lang/Comparable -/
def k5 : Class := { plain "java/lang/Comparable" (some 0) with
  accessFlags := 1537
  interfaces := #[]
  cf := some (fileOf pool5 1 #[] #[] 1537 3 #[] #[])
  fields := #[]
  methods := #[]
  instanceTypes := #[]
  staticTypes := #[]
  resolved := Array.replicate 12 none
  statics := none }

def pool6 : Array CpInfo := pool [(1, .class_ 2), (0, u "java/lang/constant/Constable"), (0, .class_ 4), (0, u "java/lang/Object")] 6

/-- java/lang/constant/Constable -/
def k6 : Class := { plain "java/lang/constant/Constable" (some 0) with
  accessFlags := 1537
  interfaces := #[]
  cf := some (fileOf pool6 1 #[] #[] 1537 3 #[] #[])
  fields := #[]
  methods := #[]
  instanceTypes := #[]
  staticTypes := #[]
  resolved := Array.replicate 11 none
  statics := none }

def pool7 : Array CpInfo := pool [(1, .class_ 2), (0, u "java/lang/constant/ConstantDesc"), (0, .class_ 4), (0, u "java/lang/Object")] 32

/-- java/lang/constant/ConstantDesc -/
def k7 : Class := { plain "java/lang/constant/ConstantDesc" (some 0) with
  accessFlags := 1537
  interfaces := #[]
  cf := some (fileOf pool7 1 #[] #[] 1537 3 #[] #[])
  fields := #[]
  methods := #[]
  instanceTypes := #[]
  staticTypes := #[]
  resolved := Array.replicate 37 none
  statics := none }

def pool8 : Array CpInfo := pool [(1, .class_ 2), (0, u "java/lang/Double"), (11, u "(D)Z"), (31, .methodref 1 47), (0, .nameAndType 48 49), (0, u "doubleToLongBits"), (0, u "(D)J"), (64, .class_ 116), (1, u "java/lang/Number"), (3, u "value"), (0, u "D"), (0, .methodref 1 123), (0, .nameAndType 124 14), (0, u "isNaN"), (9, .methodref 1 135), (0, .nameAndType 136 49), (0, u "doubleToRawLongBits"), (4, u "compare"), (0, u "(DD)I"), (30, u "TYPE"), (0, u "Ljava/lang/Class;"), (0, .class_ 176), (0, u "java/lang/Comparable"), (0, .class_ 178), (0, u "java/lang/constant/Constable"), (0, .class_ 180), (0, u "java/lang/constant/ConstantDesc"), (0, u "POSITIVE_INFINITY"), (3, u "NEGATIVE_INFINITY"), (2, u "NaN"), (2, u "MAX_VALUE"), (0, u "MIN_NORMAL"), (0, u "MIN_VALUE"), (2, u "SIZE"), (0, u "I"), (1, u "PRECISION"), (1, u "MAX_EXPONENT"), (1, u "MIN_EXPONENT"), (1, u "BYTES"), (3, u "serialVersionUID"), (0, u "J")] 79

def k8c0 : Code := { maxStack := 4, maxLocals := 2, code := jdk_117_method_6_code, exceptionTable := #[], attributes := #[] }
def k8m0 : Method := { name := "isNaN", desc := "(D)Z", sig := { parameters := [.double], returnType := some .boolean }, accessFlags := 9, code := some k8c0 }
def k8c1 : Code := { maxStack := 2, maxLocals := 2, code := jdk_117_method_23_code, exceptionTable := #[], attributes := #[] }
def k8m1 : Method := { name := "doubleToLongBits", desc := "(D)J", sig := { parameters := [.double], returnType := some .long }, accessFlags := 9, code := some k8c1 }
def k8m2 : Method := { name := "doubleToRawLongBits", desc := "(D)J", sig := { parameters := [.double], returnType := some .long }, accessFlags := 265, code := none }
def k8c3 : Code := { maxStack := 4, maxLocals := 8, code := jdk_117_method_27_code, exceptionTable := #[], attributes := #[] }
def k8m3 : Method := { name := "compare", desc := "(DD)I", sig := { parameters := [.double, .double], returnType := some .int }, accessFlags := 9, code := some k8c3 }
/-- java/lang/Double -/
def k8 : Class := { plain "java/lang/Double" (some 4) with
  accessFlags := 49
  interfaces := #[5, 6, 7]
  cf := some (fileOf pool8 1 #[] #[{ accessFlags := 9, nameIndex := 124, descriptorIndex := 14, attributes := #[] }, { accessFlags := 9, nameIndex := 48, descriptorIndex := 49, attributes := #[] }, { accessFlags := 265, nameIndex := 136, descriptorIndex := 49, attributes := #[] }, { accessFlags := 9, nameIndex := 141, descriptorIndex := 142, attributes := #[] }] 49 114 #[175, 177, 179] #[{ accessFlags := 25, nameIndex := 181, descriptorIndex := 121, attributes := #[] }, { accessFlags := 25, nameIndex := 185, descriptorIndex := 121, attributes := #[] }, { accessFlags := 25, nameIndex := 188, descriptorIndex := 121, attributes := #[] }, { accessFlags := 25, nameIndex := 191, descriptorIndex := 121, attributes := #[] }, { accessFlags := 25, nameIndex := 192, descriptorIndex := 121, attributes := #[] }, { accessFlags := 25, nameIndex := 193, descriptorIndex := 121, attributes := #[] }, { accessFlags := 25, nameIndex := 196, descriptorIndex := 197, attributes := #[] }, { accessFlags := 25, nameIndex := 199, descriptorIndex := 197, attributes := #[] }, { accessFlags := 25, nameIndex := 201, descriptorIndex := 197, attributes := #[] }, { accessFlags := 25, nameIndex := 203, descriptorIndex := 197, attributes := #[] }, { accessFlags := 25, nameIndex := 205, descriptorIndex := 197, attributes := #[] }, { accessFlags := 25, nameIndex := 173, descriptorIndex := 174, attributes := #[] }, { accessFlags := 18, nameIndex := 120, descriptorIndex := 121, attributes := #[] }, { accessFlags := 26, nameIndex := 209, descriptorIndex := 210, attributes := #[] }])
  fields := #[{ name := "POSITIVE_INFINITY", type := .double, accessFlags := 25, slot := 0, constantValue := 0 }, { name := "NEGATIVE_INFINITY", type := .double, accessFlags := 25, slot := 1, constantValue := 0 }, { name := "NaN", type := .double, accessFlags := 25, slot := 2, constantValue := 0 }, { name := "MAX_VALUE", type := .double, accessFlags := 25, slot := 3, constantValue := 0 }, { name := "MIN_NORMAL", type := .double, accessFlags := 25, slot := 4, constantValue := 0 }, { name := "MIN_VALUE", type := .double, accessFlags := 25, slot := 5, constantValue := 0 }, { name := "SIZE", type := .int, accessFlags := 25, slot := 6, constantValue := 0 }, { name := "PRECISION", type := .int, accessFlags := 25, slot := 7, constantValue := 0 }, { name := "MAX_EXPONENT", type := .int, accessFlags := 25, slot := 8, constantValue := 0 }, { name := "MIN_EXPONENT", type := .int, accessFlags := 25, slot := 9, constantValue := 0 }, { name := "BYTES", type := .int, accessFlags := 25, slot := 10, constantValue := 0 }, { name := "TYPE", type := (.object "java/lang/Class"), accessFlags := 25, slot := 11, constantValue := 0 }, { name := "value", type := .double, accessFlags := 18, slot := 0, constantValue := 0 }, { name := "serialVersionUID", type := .long, accessFlags := 26, slot := 12, constantValue := 0 }]
  methods := #[k8m0, k8m1, k8m2, k8m3]
  instanceTypes := #[.double]
  staticTypes := #[.double, .double, .double, .double, .double, .double, .int, .int, .int, .int, .int, (.object "java/lang/Class"), .long]
  resolved := Array.replicate 290 none
  statics := none }

def pool9 : Array CpInfo := pool [(1, u "java/lang/Cloneable"), (0, .class_ 1), (0, u "java/lang/Object"), (0, .class_ 3)] 3

/-- java/lang/Cloneable -/
def k9 : Class := { plain "java/lang/Cloneable" (some 0) with
  accessFlags := 1537
  interfaces := #[]
  cf := some (fileOf pool9 2 #[] #[] 1537 4 #[] #[])
  fields := #[]
  methods := #[]
  instanceTypes := #[]
  staticTypes := #[]
  resolved := Array.replicate 8 none
  statics := none }

/-- the primitive byte -/
def k10 : Class := { plain "byte" none with kind := .primitive 'B', accessFlags := 0x411 }
/-- [B -/
def k11 : Class := { plain "[B" (some 0) with kind := .array 10 .byte, interfaces := #[9, 3], accessFlags := 1041 }

/-- the primitive int -/
def k12 : Class := { plain "int" none with kind := .primitive 'I', accessFlags := 0x411 }
/-- [I -/
def k13 : Class := { plain "[I" (some 0) with kind := .array 12 .int, interfaces := #[9, 3], accessFlags := 1041 }

/-- the primitive double -/
def k14 : Class := { plain "double" none with kind := .primitive 'D', accessFlags := 0x411 }
/-- [D -/
def k15 : Class := { plain "[D" (some 0) with kind := .array 14 .double, interfaces := #[9, 3], accessFlags := 1041 }

def heap : Heap := #[]
def classes : Array Class := #[k0, k1, k2, k3, k4, k5, k6, k7, k8, k9, k10, k11, k12, k13, k14, k15]
def interned : List (Array UInt16 × Addr) := []
def slotsUsed : Nat := 0
def theMethod : MethodId := ⟨1, 2⟩
def args0 : Array Value := #[.int 5, .int 77, .int 123, .int 3]
def aboutOver (below : List Frame) : State where
  vm := { classes := classes, interned := interned.toArray }
  heap := heap
  slotsUsed := slotsUsed
  threads := #[{ frames := .invoking theMethod args0 :: below }]
def below0 : List Frame := [.native { method := ⟨0, 0⟩, args := #[] }]
def about1 : State := aboutOver below0
def p0 : Program := .bare "" "" ""
def e0 : Env := launch0.env 0 0 0
theorem w_frames : about1.frames = Frame.invoking theMethod args0 :: below0 := rfl
set_option maxRecDepth 65536 in
theorem w_args : argsFit about1.vm theMethod args0 = true := by decide +kernel
set_option maxRecDepth 65536 in
theorem w_heap : heapFits about1 = true := by decide +kernel
set_option maxRecDepth 65536 in
theorem w_runnable : about1.curStatus? = some .runnable := by decide +kernel
set_option maxRecDepth 65536 in
theorem w_alone : about1.alone = true := by decide +kernel
set_option maxRecDepth 65536 in
theorem w_named : about1.methodNamed? x = some theMethod := by decide +kernel
set_option maxRecDepth 65536 in
theorem w_hears : about1.hears theMethod below0 = true := by decide +kernel
set_option maxRecDepth 65536 in
theorem w_ripe : about1.ripe theMethod args0 below0 = true := by decide +kernel
theorem w_running : about1.status = .running := rfl
set_option maxRecDepth 65536 in
theorem w_room : about1.hasRoom e0.platform room_1 = true :=
  launch0.hasRoom_least _ room_1 (by decide +kernel) (by decide +kernel) (by decide +kernel) (by decide +kernel) (by decide +kernel) (by decide +kernel)
theorem allAtoms_all (ts : List Jvm.Cond) (a : Array Jvm.Value) (st : Jvm.State) : (allAtoms ts).before a st = ts.all (fun c => c.before a st) := by
  induction ts with
  | nil => rfl
  | cons c t ih =>
    show (Jvm.Cond.and c (allAtoms t)).before a st = _
    rw [Jvm.Cond.before_and, ih, List.all_cons]
def words1 : List Jvm.Cond := Jvm.Cond.code x code maxLocals ret :: tables_1
/-- a 'code' word, met by the world's own term for the bytes: nothing is compared byte by byte -/
theorem code_word {y : MethodName} {bytes : ByteArray} {mx : Nat} {rt : Option FieldType} {a : Array Value} {s : State} {m : MethodId} {meth : Method} {c : Code} (h1 : s.methodNamed? y = some m) (h2 : s.vm.method? m = some meth) (h3 : meth.code = some c) (h4 : c.code = bytes)
    (h5 : (c.maxLocals == mx && c.exceptionTable.isEmpty && decide (c.maxStack ≤ mostOperands) && decide (meth.sig.returnType = rt) && !meth.locks && decide (parseMethodDescriptor y.desc = some meth.sig)) = true) : (Jvm.Cond.code y bytes mx rt).before a s = true := by
  simp only [Bool.and_eq_true, beq_iff_eq, Bool.not_eq_true', decide_eq_true_eq] at h5
  obtain ⟨⟨⟨⟨⟨g1, g2⟩, g3⟩, g4⟩, g5⟩, g6⟩ := h5
  simp [Cond.before, Cond.holds, Cond.value, h1, h2, h3, h4, g1, g2, g3, g4, g5, g6]
def isCode : Jvm.Cond → Bool
  | .code _ _ _ _ => true
  | _ => false
theorem all_split {L : List Jvm.Cond} {P : Jvm.Cond → Bool} (h1 : L.all (fun c => isCode c || P c) = true) (h2 : ∀ c ∈ L.filter isCode, P c = true) : L.all P = true := by
  refine List.all_eq_true.mpr fun c hc => ?_
  have h := List.all_eq_true.mp h1 c hc
  rcases Bool.eq_false_or_eq_true (isCode c) with hi | hi
  · exact h2 c (List.mem_filter.mpr ⟨hc, hi⟩)
  · simpa [hi] using h
set_option maxRecDepth 65536 in
theorem w_c0 : (Jvm.Cond.code x code maxLocals ret).before args0 about1 = true := code_word (m := ⟨1, 2⟩) (meth := k1m2) (c := k1c2) (by decide +kernel) rfl rfl rfl (by decide +kernel)
set_option maxRecDepth 65536 in
theorem w_c1 : (Jvm.Cond.code ({ cls := "com/example/constrained_flow/constrainedflow/planner/search/LeastFirst", name := "<init>", desc := "(I)V" } : Jvm.MethodName) prog_78_method_1_code (2 : Nat) (Option.none : Option Jvm.ClassFile.FieldType)).before args0 about1 = true := code_word (m := ⟨2, 0⟩) (meth := k2m0) (c := k2c0) (by decide +kernel) rfl rfl rfl (by decide +kernel)
set_option maxRecDepth 65536 in
theorem w_c2 : (Jvm.Cond.code ({ cls := "java/lang/Object", name := "<init>", desc := "()V" } : Jvm.MethodName) object_method_1_code (1 : Nat) (Option.none : Option Jvm.ClassFile.FieldType)).before args0 about1 = true := code_word (m := ⟨0, 0⟩) (meth := k0m0) (c := k0c0) (by decide +kernel) rfl rfl rfl (by decide +kernel)
set_option maxRecDepth 65536 in
theorem w_c3 : (Jvm.Cond.code ({ cls := "com/example/constrained_flow/constrainedflow/planner/search/LeastFirst", name := "isEmpty", desc := "()Z" } : Jvm.MethodName) prog_78_method_2_code (1 : Nat) (Option.some Jvm.ClassFile.FieldType.boolean)).before args0 about1 = true := code_word (m := ⟨2, 1⟩) (meth := k2m1) (c := k2c1) (by decide +kernel) rfl rfl rfl (by decide +kernel)
set_option maxRecDepth 65536 in
theorem w_c4 : (Jvm.Cond.code ({ cls := "com/example/constrained_flow/constrainedflow/planner/search/LeastFirstIsEmptyPinLaw", name := "step", desc := "(Lcom/example/constrained_flow/constrainedflow/planner/search/LeastFirst;III)I" } : Jvm.MethodName) method_2_code (4 : Nat) (Option.some Jvm.ClassFile.FieldType.int)).before args0 about1 = true := code_word (m := ⟨1, 1⟩) (meth := k1m1) (c := k1c1) (by decide +kernel) rfl rfl rfl (by decide +kernel)
set_option maxRecDepth 65536 in
theorem w_c5 : (Jvm.Cond.code ({ cls := "com/example/constrained_flow/constrainedflow/planner/search/LeastFirst", name := "add", desc := "(DI)V" } : Jvm.MethodName) prog_78_method_3_code (6 : Nat) (Option.none : Option Jvm.ClassFile.FieldType)).before args0 about1 = true := code_word (m := ⟨2, 2⟩) (meth := k2m2) (c := k2c2) (by decide +kernel) rfl rfl rfl (by decide +kernel)
set_option maxRecDepth 65536 in
theorem w_c6 : (Jvm.Cond.code ({ cls := "java/lang/Double", name := "compare", desc := "(DD)I" } : Jvm.MethodName) jdk_117_method_27_code (8 : Nat) (Option.some Jvm.ClassFile.FieldType.int)).before args0 about1 = true := code_word (m := ⟨8, 3⟩) (meth := k8m3) (c := k8c3) (by decide +kernel) rfl rfl rfl (by decide +kernel)
set_option maxRecDepth 65536 in
theorem w_c7 : (Jvm.Cond.code ({ cls := "com/example/constrained_flow/constrainedflow/planner/search/LeastFirst", name := "take", desc := "()I" } : Jvm.MethodName) prog_78_method_5_code (10 : Nat) (Option.some Jvm.ClassFile.FieldType.int)).before args0 about1 = true := code_word (m := ⟨2, 3⟩) (meth := k2m3) (c := k2c3) (by decide +kernel) rfl rfl rfl (by decide +kernel)
set_option maxRecDepth 65536 in
theorem w_c8 : (Jvm.Cond.code ({ cls := "java/lang/Double", name := "doubleToLongBits", desc := "(D)J" } : Jvm.MethodName) jdk_117_method_23_code (2 : Nat) (Option.some Jvm.ClassFile.FieldType.long)).before args0 about1 = true := code_word (m := ⟨8, 1⟩) (meth := k8m1) (c := k8c1) (by decide +kernel) rfl rfl rfl (by decide +kernel)
set_option maxRecDepth 65536 in
theorem w_c9 : (Jvm.Cond.code ({ cls := "java/lang/Double", name := "isNaN", desc := "(D)Z" } : Jvm.MethodName) jdk_117_method_6_code (2 : Nat) (Option.some Jvm.ClassFile.FieldType.boolean)).before args0 about1 = true := code_word (m := ⟨8, 0⟩) (meth := k8m0) (c := k8c0) (by decide +kernel) rfl rfl rfl (by decide +kernel)
def codes1 : List Jvm.Cond := [Jvm.Cond.code x code maxLocals ret, Jvm.Cond.code ({ cls := "com/example/constrained_flow/constrainedflow/planner/search/LeastFirst", name := "<init>", desc := "(I)V" } : Jvm.MethodName) prog_78_method_1_code (2 : Nat) (Option.none : Option Jvm.ClassFile.FieldType), Jvm.Cond.code ({ cls := "java/lang/Object", name := "<init>", desc := "()V" } : Jvm.MethodName) object_method_1_code (1 : Nat) (Option.none : Option Jvm.ClassFile.FieldType), Jvm.Cond.code ({ cls := "com/example/constrained_flow/constrainedflow/planner/search/LeastFirst", name := "isEmpty", desc := "()Z" } : Jvm.MethodName) prog_78_method_2_code (1 : Nat) (Option.some Jvm.ClassFile.FieldType.boolean), Jvm.Cond.code ({ cls := "com/example/constrained_flow/constrainedflow/planner/search/LeastFirstIsEmptyPinLaw", name := "step", desc := "(Lcom/example/constrained_flow/constrainedflow/planner/search/LeastFirst;III)I" } : Jvm.MethodName) method_2_code (4 : Nat) (Option.some Jvm.ClassFile.FieldType.int), Jvm.Cond.code ({ cls := "com/example/constrained_flow/constrainedflow/planner/search/LeastFirst", name := "add", desc := "(DI)V" } : Jvm.MethodName) prog_78_method_3_code (6 : Nat) (Option.none : Option Jvm.ClassFile.FieldType), Jvm.Cond.code ({ cls := "java/lang/Double", name := "compare", desc := "(DD)I" } : Jvm.MethodName) jdk_117_method_27_code (8 : Nat) (Option.some Jvm.ClassFile.FieldType.int), Jvm.Cond.code ({ cls := "com/example/constrained_flow/constrainedflow/planner/search/LeastFirst", name := "take", desc := "()I" } : Jvm.MethodName) prog_78_method_5_code (10 : Nat) (Option.some Jvm.ClassFile.FieldType.int), Jvm.Cond.code ({ cls := "java/lang/Double", name := "doubleToLongBits", desc := "(D)J" } : Jvm.MethodName) jdk_117_method_23_code (2 : Nat) (Option.some Jvm.ClassFile.FieldType.long), Jvm.Cond.code ({ cls := "java/lang/Double", name := "isNaN", desc := "(D)Z" } : Jvm.MethodName) jdk_117_method_6_code (2 : Nat) (Option.some Jvm.ClassFile.FieldType.boolean)]
set_option maxRecDepth 65536 in
theorem codes_eq : words1.filter isCode = codes1 := rfl
theorem w_codes : ∀ c ∈ words1.filter isCode, c.before args0 about1 = true := by
  rw [codes_eq]
  intro c hc
  simp only [codes1, List.mem_cons, List.not_mem_nil, or_false] at hc
  rcases hc with rfl | rfl | rfl | rfl | rfl | rfl | rfl | rfl | rfl | rfl
  · exact w_c0
  · exact w_c1
  · exact w_c2
  · exact w_c3
  · exact w_c4
  · exact w_c5
  · exact w_c6
  · exact w_c7
  · exact w_c8
  · exact w_c9
set_option maxRecDepth 65536 in
theorem w_t1 : (words1.take 24).all (fun c => isCode c || c.before args0 about1) = true := by decide +kernel
set_option maxRecDepth 65536 in
theorem w_t2 : ((words1.drop 24).take 24).all (fun c => isCode c || c.before args0 about1) = true := by decide +kernel
set_option maxRecDepth 65536 in
theorem w_t3 : ((words1.drop 24).drop 24).all (fun c => isCode c || c.before args0 about1) = true := by decide +kernel
theorem w_tables : (allAtoms (Jvm.Cond.code x code maxLocals ret :: tables_1)).before args0 about1 = true := by
  rw [allAtoms_all]
  show words1.all (fun c => c.before args0 about1) = true
  refine all_split ?_ w_codes
  rw [← List.take_append_drop 24 words1, List.all_append, w_t1, ← List.take_append_drop 24 (words1.drop 24), List.all_append, w_t2, w_t3]
  rfl
set_option maxRecDepth 65536 in
theorem w_case : (Jvm.Cond.and given_1 narrow_1).before args0 about1 = true := by decide +kernel
theorem w_applies : (headSpec (Jvm.Cond.code x code maxLocals ret :: tables_1) room_1).applies x e0.platform about1 = true :=
  (Spec.applies_iff w_frames).mpr ⟨w_running, w_runnable, w_alone, w_named, w_hears, w_ripe, w_room, w_tables⟩
theorem atStart : AtStart classFile x code maxLocals ret World_1 tables_1 room_1 Calls_1 rest_1 Pre_1 launch0 p0 e0 about1 theMethod args0 below0 :=
  ⟨lists_1, trivial, launch0.admits_env _ _ _, launch0.least_env, fairChoices_fair.cas, fairChoices_fair.clock, w_frames, w_args, w_heap, w_applies, trivial, trivial, w_case⟩
end start1
theorem witness_1 : WitnessClaimed_1 := ⟨start1.p0, start1.e0, start1.about1, start1.theMethod, start1.args0, start1.below0, start1.atStart⟩
end Jvm.Pilot.@@N@@
