import JvmDerived
import JvmDerived.Pilot.@@N@@Statement
import JvmDerived.Pilot.@@N@@Code
set_option linter.unusedVariables false
set_option linter.unusedSimpArgs false
namespace Jvm.Pilot.@@N@@
open Jvm Jvm.ClassFile Sem Op Lib Jvm.Free Jvm.Stand Jvm.LawKit Jvm.RoadKit Bundle Jvm.Pilot.@@N@@.Jvm.D
/-! own: the walk's goal, read backwards -/
def Go (tb : Tables) (e : Env) (below : List Frame) (F : State → Outcome → Prop) (A : State) : Prop := ∃ t o, Steps tb e below A t ∧ F t o
def Fin (below : List Frame) (s : State) (Q : Option Value → Heap → List Loc → Prop) (k n : Nat) (t : State) (o : Outcome) : Prop := t.status = .running ∧ Ended t below o ∧ ∃ v L, o = .returned v ∧ Q v t.heap L ∧ FrameEnd s o t L k n
theorem go {tb : Tables} {e : Env} {below : List Frame} {F : State → Outcome → Prop} {A B : State} (st : ∀ t, Steps tb e below B t → Steps tb e below A t) (h : Go tb e below F B) : Go tb e below F A := by
  obtain ⟨t, o, h1, h2⟩ := h
  exact ⟨t, o, st t h1, h2⟩
theorem go_in {p : Program} {e : Env} {below : List Frame} {s s₁ : State} {Q : Option Value → Heap → List Loc → Prop} {k n : Nat} {A : State} (h : ∀ F : State → Outcome → Prop, (∀ t o, Fin below s Q k n t o → F t o) → Go p.tables e below F A) :
    ∃ t o, Steps p.tables e below A t ∧ t.status = .running ∧ Ended t below o ∧ ∃ v L, o = .returned v ∧ Q v t.heap L ∧ FrameEnd s o t L k n := by
  obtain ⟨t, o, h1, h2, h3, h4⟩ := h (Fin below s Q k n) (fun _ _ h => h)
  exact ⟨t, o, h1, h2, h3, h4⟩
theorem own_fld {s : State} {args : Array Value} {t : Term} {C n d : String} {a : Addr} {k : Int32} (ev : t.eval args s none [] s = some (.ref a)) (h : (Cond.eq (.field t C n d) (.int k)).value args s none s [] = some true) : Fld s s.heap a C n d (.int k) := Fld.start ((fld_at ev).symm.trans (eqv_i (Term.int_eval k) h))
def NSt (h : Heap) (x : Addr) : Prop := ∃ c : Cell, h[x]? = some c ∧ c.vm.isStatics = false
theorem own_sta_keep {Z : State} {h h' : Heap} {C n d : String} {v : Value} {ws : List Addr} (F : Sta Z h C n d v) (K : Keep h h' ws) (q : ∀ x ∈ ws, NSt h x) : Sta Z h' C n d v := by
  obtain ⟨cf, i, k, f, st, cell, h1, h2, h3, h4, h5, h6, h7⟩ := F
  refine ⟨cf, i, k, f, st, cell, h1, h2, h3, h4, K.2.1 _ _ h5 (fun z => ?_), h6, h7⟩
  obtain ⟨c, g1, g2⟩ := q _ z
  cases h5.symm.trans g1
  rw [h6] at g2; cases g2
end Jvm.Pilot.@@N@@
namespace Jvm.RoadKit
theorem Exa.ns {Z : State} {h : Heap} {a : Addr} {C : String} (F : Exa Z h a C) : Jvm.Pilot.@@N@@.NSt h a := by
  obtain ⟨c, _, h1, -, -, h4, -⟩ := F; exact ⟨c, h1, h4⟩
theorem Arv.ns {Z : State} {h : Heap} {a : Addr} {k : ClassId} {ty : ClassFile.FieldType} {z : Int32} {vs : List Value} {dv : Value} (F : Arv Z h a k ty z vs dv) : Jvm.Pilot.@@N@@.NSt h a := by
  obtain ⟨c, A, -⟩ := F; exact ⟨c, A.1, A.plain⟩
end Jvm.RoadKit
namespace Jvm.Pilot.@@N@@
open Jvm Jvm.ClassFile Sem Op Lib Jvm.Free Jvm.Stand Jvm.LawKit Jvm.RoadKit Bundle Jvm.Pilot.@@N@@.Jvm.D
theorem own_no {Z : State} {aw : Array Value} {X Y : String} {t : List String} {n : Nat} (hwc : ∀ w ∈ Cond.chainWords (X :: t), w.before aw Z = true) (wi : (Cond.instantiable Y n).before aw Z = true) (hn : Y ∉ X :: t) : ∃ c t, Z.vm.findClass X = some c ∧ Z.vm.findClass Y = some t ∧ Z.vm.assignable c t = false := by
  obtain ⟨cy, ky, hy1, hy2, hy3, hy4, -⟩ := Cond.instantiable_spec wi
  obtain ⟨cx, k, hx, -⟩ := Cond.chain_head hwc
  exact ⟨cx, cy, hx, hy1, Vm.notAssignable_of_chain hx hy1 hy2 hy3 (Bool.or_eq_false_iff.mp hy4).1 hwc hn⟩
theorem own_selp {Z s : State} {aw args : Array Value} {y : MethodName} {n : Nat} (hZ : Z.Warmed39 s.vm) (wi : (Cond.instantiable y.cls n).before aw Z = true) (wp : (Cond.privateMethod y).before aw Z = true) (wm : (Cond.instanceMethod y).before aw Z = true) (hy : y.cls ≠ "java/lang/invoke/MethodHandle" ∧ y.cls ≠ "java/lang/invoke/VarHandle") : (Cond.selects y.cls y y).before args s = true := by
  obtain ⟨c, k, h1, h2, -, h4, -⟩ := Cond.instantiable_spec (mvT (args := args) hZ wi)
  exact selects_self_of_private h1 h2 (Bool.or_eq_false_iff.mp h4).1 (Cond.privateMethod_at (mvP hZ wp (args := args))) (mvT hZ wm) hy
theorem own_hp {T : State} {h : Heap} {a : Nat} {c : Cell} (e : T.heap = h) (q : h[a]? = some c) : T.heap[a]? = some c := by rw [e]; exact q
section Ends
variable {p : Program} {l : Launch} {e : Env} {R : Room} {s : State} {m : MethodId} {args : Array Value} {below : List Frame} {meth : Method} {c : Code} {T : State} {locs : List Loc} {cells slots : Nat} {F : State → Outcome → Prop} {Q : Option Value → Heap → List Loc → Prop} {k n : Nat} {pc : Nat} {Ls : Array Slot} {rest : List Value} {h : Heap}
/-- the end of a walk: what is returned, what the heap says -/
theorem go_end (X : Stand p l e R s m args below meth c T locs cells slots) (hlk : meth.locks = false) (hF : ∀ t o, Fin below s Q k n t o → F t o) (eT : T.heap = h) (hk : cells ≤ k) (hn : slots ≤ n) {v : Option Value} (hv : meth.sig.returnType = none → v = none) (hQ : Q v h locs) {A : State}
    (hs : ∀ fs, (∀ (f : JFrame) (acts : List Action), f.method = m → f.locked = none → f.entered = [] → (doReturn e (T.setTop f) acts v).1 = T.setFrames fs) → Steps p.tables e below A (T.setFrames fs)) : Go p.tables e below F A := by
  obtain ⟨fs, hr, hrun, hended, hW, hsame⟩ := X.leave (v := v) hv hlk
  subst eT
  exact ⟨_, _, hs fs hr, hF _ _ ⟨hrun, hended, _, _, rfl, hQ, ⟨_, rfl⟩, hW, hsame.mono hk hn⟩⟩
theorem end_void (X : Stand p l e R s m args below meth c T locs cells slots) (hx : p.tables.exec = Jvm.exec) (hlk : meth.locks = false) (hret : meth.sig.returnType = none) (hd : decode c.code pc = .ok (.return_, 1)) (hF : ∀ t o, Fin below s Q k n t o → F t o) (eT : T.heap = h) (hk : cells ≤ k) (hn : slots ≤ n) (hQ : Q none h locs) : Go p.tables e below F (T.setTop (mkF m pc Ls [])) :=
  go_end X hlk hF eT hk hn (fun _ => rfl) hQ fun fs hr => X.returnOut hx hret hd hr
theorem end_nar {z : Int32} {t : FieldType} (X : Stand p l e R s m args below meth c T locs cells slots) (hx : p.tables.exec = Jvm.exec) (hlk : meth.locks = false) (hret : meth.sig.returnType = some t) (ht : t = .boolean ∨ t = .byte ∨ t = .char ∨ t = .short) (hd : decode c.code pc = .ok (.ireturn, 1)) (hF : ∀ t o, Fin below s Q k n t o → F t o) (eT : T.heap = h) (hk : cells ≤ k) (hn : slots ≤ n) (hQ : Q (some (.int (nar t z))) h locs) : Go p.tables e below F (T.setTop (mkF m pc Ls (.int z :: rest))) :=
  go_end X hlk hF eT hk hn (fun h => by rw [hret] at h; cases h) hQ fun fs hr => retN X hx hret ht hd hr
theorem end_int {z : Int32} (X : Stand p l e R s m args below meth c T locs cells slots) (hx : p.tables.exec = Jvm.exec) (hlk : meth.locks = false) (hret : meth.sig.returnType = some .int) (hd : decode c.code pc = .ok (.ireturn, 1)) (hF : ∀ t o, Fin below s Q k n t o → F t o) (eT : T.heap = h) (hk : cells ≤ k) (hn : slots ≤ n) (hQ : Q (some (.int z)) h locs) : Go p.tables e below F (T.setTop (mkF m pc Ls (.int z :: rest))) :=
  go_end X hlk hF eT hk hn (fun h => by rw [hret] at h; cases h) hQ fun fs hr => retOut X hx hret rfl (Or.inl ⟨rfl, Or.inl rfl, _, rfl⟩) hd hr
theorem end_long {z : Int64} (X : Stand p l e R s m args below meth c T locs cells slots) (hx : p.tables.exec = Jvm.exec) (hlk : meth.locks = false) (hret : meth.sig.returnType = some .long) (hd : decode c.code pc = .ok (.lreturn, 1)) (hF : ∀ t o, Fin below s Q k n t o → F t o) (eT : T.heap = h) (hk : cells ≤ k) (hn : slots ≤ n) (hQ : Q (some (.long z)) h locs) : Go p.tables e below F (T.setTop (mkF m pc Ls (.long z :: rest))) :=
  go_end X hlk hF eT hk hn (fun h => by rw [hret] at h; cases h) hQ fun fs hr => retOut X hx hret rfl (Or.inr (Or.inl ⟨rfl, rfl, _, rfl⟩)) hd hr
theorem end_double {z : UInt64} (X : Stand p l e R s m args below meth c T locs cells slots) (hx : p.tables.exec = Jvm.exec) (hlk : meth.locks = false) (hret : meth.sig.returnType = some .double) (hd : decode c.code pc = .ok (.dreturn, 1)) (hF : ∀ t o, Fin below s Q k n t o → F t o) (eT : T.heap = h) (hk : cells ≤ k) (hn : slots ≤ n) (hQ : Q (some (.double z)) h locs) : Go p.tables e below F (T.setTop (mkF m pc Ls (.double z :: rest))) :=
  go_end X hlk hF eT hk hn (fun h => by rw [hret] at h; cases h) hQ fun fs hr => retOut X hx hret rfl (Or.inr (Or.inr (Or.inl ⟨rfl, rfl, _, rfl⟩))) hd hr
theorem end_ref {w : Value} {t : FieldType} (X : Stand p l e R s m args below meth c T locs cells slots) (hx : p.tables.exec = Jvm.exec) (hlk : meth.locks = false) (hret : meth.sig.returnType = some t) (ht : t.isReference = true) (hw : w.isRef = true) (hnr : narrow t w = w) (hd : decode c.code pc = .ok (.areturn, 1)) (hF : ∀ t o, Fin below s Q k n t o → F t o) (eT : T.heap = h) (hk : cells ≤ k) (hn : slots ≤ n) (hQ : Q (some w) h locs) : Go p.tables e below F (T.setTop (mkF m pc Ls (w :: rest))) :=
  go_end X hlk hF eT hk hn (fun h => by rw [hret] at h; cases h) hQ fun fs hr => retOut X hx hret hnr (Or.inr (Or.inr (Or.inr (Or.inr ⟨rfl, ht, hw⟩)))) hd hr
end Ends
/-! own: the ends of a walk that may have interned (the frame is the wide one) -/
def FinW (below : List Frame) (s : State) (Q : Option Value → Heap → List Loc → Prop) (k n : Nat) (t : State) (o : Outcome) : Prop := t.status = .running ∧ Ended t below o ∧ ∃ v L, o = .returned v ∧ Q v t.heap L ∧ ReturnedEndW s o t L k n
theorem go_inW {p : Program} {e : Env} {below : List Frame} {s s₁ : State} {Q : Option Value → Heap → List Loc → Prop} {k n : Nat} {A : State} (h : ∀ F : State → Outcome → Prop, (∀ t o, FinW below s Q k n t o → F t o) → Go p.tables e below F A) :
    ∃ t o, Steps p.tables e below A t ∧ t.status = .running ∧ Ended t below o ∧ ∃ v L, o = .returned v ∧ Q v t.heap L ∧ ReturnedEndW s o t L k n := by
  obtain ⟨t, o, h1, h2, h3, h4⟩ := h (FinW below s Q k n) (fun _ _ h => h)
  exact ⟨t, o, h1, h2, h3, h4⟩
section EndsW
variable {p : Program} {l : Launch} {e : Env} {R : Room} {s : State} {m : MethodId} {args : Array Value} {below : List Frame} {meth : Method} {c : Code} {T : State} {locs : List Loc} {cells slots : Nat} {F : State → Outcome → Prop} {Q : Option Value → Heap → List Loc → Prop} {k n : Nat} {pc : Nat} {Ls : Array Slot} {rest : List Value} {h : Heap} {vm1 : Vm} {n1 : Nat}
theorem go_endW (X : Stand p l e R (s.setVm vm1) m args below meth c T locs cells slots) (hS : s.Since vm1 n1) (hn1 : n1 ≤ h.size) (hlk : meth.locks = false) (hF : ∀ t o, FinW below s Q k n t o → F t o) (eT : T.heap = h) (hk : cells ≤ k) (hn : slots ≤ n) {v : Option Value} (hv : meth.sig.returnType = none → v = none) (hQ : Q v h locs) {A : State}
    (hs : ∀ fs, (∀ (f : JFrame) (acts : List Action), f.method = m → f.locked = none → f.entered = [] → (doReturn e (T.setTop f) acts v).1 = T.setFrames fs) → Steps p.tables e below A (T.setFrames fs)) : Go p.tables e below F A := by
  subst eT
  obtain ⟨fs, hr, hrun, hended, hW⟩ := X.leaveW hS hn1 (v := v) hv hlk
  exact ⟨_, _, hs fs hr, hF _ _ ⟨hrun, hended, _, _, rfl, hQ, hW.1, hW.2.1, hW.2.2.1, hW.2.2.2.mono hk hn⟩⟩
theorem end_voidW (X : Stand p l e R (s.setVm vm1) m args below meth c T locs cells slots) (hS : s.Since vm1 n1) (hn1 : n1 ≤ h.size) (hx : p.tables.exec = Jvm.exec) (hlk : meth.locks = false) (hret : meth.sig.returnType = none) (hd : decode c.code pc = .ok (.return_, 1)) (hF : ∀ t o, FinW below s Q k n t o → F t o) (eT : T.heap = h) (hk : cells ≤ k) (hn : slots ≤ n) (hQ : Q none h locs) : Go p.tables e below F (T.setTop (mkF m pc Ls [])) :=
  go_endW X hS hn1 hlk hF eT hk hn (fun _ => rfl) hQ fun fs hr => X.returnOut hx hret hd hr
theorem end_narW {z : Int32} {t : FieldType} (X : Stand p l e R (s.setVm vm1) m args below meth c T locs cells slots) (hS : s.Since vm1 n1) (hn1 : n1 ≤ h.size) (hx : p.tables.exec = Jvm.exec) (hlk : meth.locks = false) (hret : meth.sig.returnType = some t) (ht : t = .boolean ∨ t = .byte ∨ t = .char ∨ t = .short) (hd : decode c.code pc = .ok (.ireturn, 1)) (hF : ∀ t o, FinW below s Q k n t o → F t o) (eT : T.heap = h) (hk : cells ≤ k) (hn : slots ≤ n) (hQ : Q (some (.int (nar t z))) h locs) : Go p.tables e below F (T.setTop (mkF m pc Ls (.int z :: rest))) :=
  go_endW X hS hn1 hlk hF eT hk hn (fun h => by rw [hret] at h; cases h) hQ fun fs hr => retN X hx hret ht hd hr
theorem end_intW {z : Int32} (X : Stand p l e R (s.setVm vm1) m args below meth c T locs cells slots) (hS : s.Since vm1 n1) (hn1 : n1 ≤ h.size) (hx : p.tables.exec = Jvm.exec) (hlk : meth.locks = false) (hret : meth.sig.returnType = some .int) (hd : decode c.code pc = .ok (.ireturn, 1)) (hF : ∀ t o, FinW below s Q k n t o → F t o) (eT : T.heap = h) (hk : cells ≤ k) (hn : slots ≤ n) (hQ : Q (some (.int z)) h locs) : Go p.tables e below F (T.setTop (mkF m pc Ls (.int z :: rest))) :=
  go_endW X hS hn1 hlk hF eT hk hn (fun h => by rw [hret] at h; cases h) hQ fun fs hr => retOut X hx hret rfl (Or.inl ⟨rfl, Or.inl rfl, _, rfl⟩) hd hr
theorem end_refW {w : Value} {t : FieldType} (X : Stand p l e R (s.setVm vm1) m args below meth c T locs cells slots) (hS : s.Since vm1 n1) (hn1 : n1 ≤ h.size) (hx : p.tables.exec = Jvm.exec) (hlk : meth.locks = false) (hret : meth.sig.returnType = some t) (ht : t.isReference = true) (hw : w.isRef = true) (hnr : narrow t w = w) (hd : decode c.code pc = .ok (.areturn, 1)) (hF : ∀ t o, FinW below s Q k n t o → F t o) (eT : T.heap = h) (hk : cells ≤ k) (hn : slots ≤ n) (hQ : Q (some w) h locs) : Go p.tables e below F (T.setTop (mkF m pc Ls (w :: rest))) :=
  go_endW X hS hn1 hlk hF eT hk hn (fun h => by rw [hret] at h; cases h) hQ fun fs hr => retOut X hx hret hnr (Or.inr (Or.inr (Or.inr (Or.inr ⟨rfl, ht, hw⟩)))) hd hr
theorem own_sk {a : Nat} (e : T.heap = h) (q : a ≤ h.size) : a ≤ T.heap.size := by rw [e]; exact q
end EndsW
theorem own_wS {Z : State} {aw : Array Value} (hw : ∀ d ∈ tables_1, d.before aw Z = true) : ∀ a ∈ Bundle.stringAtoms, a.before aw Z = true := by
  intro a ha
  simp only [Bundle.stringAtoms, List.mem_cons, List.not_mem_nil, or_false] at ha
  rcases ha with rfl | rfl | rfl | rfl | rfl | rfl | rfl
  · first | exact (hw _ (List.mem_of_getElem? (i := 26) rfl)) | exact (hw _ (List.mem_of_getElem? (i := 27) rfl)) | exact (hw _ (List.mem_of_getElem? (i := 28) rfl)) | exact (hw _ (List.mem_of_getElem? (i := 29) rfl)) | exact (hw _ (List.mem_of_getElem? (i := 30) rfl)) | exact (hw _ (List.mem_of_getElem? (i := 31) rfl)) | exact (hw _ (List.mem_of_getElem? (i := 32) rfl))
  · first | exact (hw _ (List.mem_of_getElem? (i := 26) rfl)) | exact (hw _ (List.mem_of_getElem? (i := 27) rfl)) | exact (hw _ (List.mem_of_getElem? (i := 28) rfl)) | exact (hw _ (List.mem_of_getElem? (i := 29) rfl)) | exact (hw _ (List.mem_of_getElem? (i := 30) rfl)) | exact (hw _ (List.mem_of_getElem? (i := 31) rfl)) | exact (hw _ (List.mem_of_getElem? (i := 32) rfl))
  · first | exact (hw _ (List.mem_of_getElem? (i := 26) rfl)) | exact (hw _ (List.mem_of_getElem? (i := 27) rfl)) | exact (hw _ (List.mem_of_getElem? (i := 28) rfl)) | exact (hw _ (List.mem_of_getElem? (i := 29) rfl)) | exact (hw _ (List.mem_of_getElem? (i := 30) rfl)) | exact (hw _ (List.mem_of_getElem? (i := 31) rfl)) | exact (hw _ (List.mem_of_getElem? (i := 32) rfl))
  · first | exact (hw _ (List.mem_of_getElem? (i := 26) rfl)) | exact (hw _ (List.mem_of_getElem? (i := 27) rfl)) | exact (hw _ (List.mem_of_getElem? (i := 28) rfl)) | exact (hw _ (List.mem_of_getElem? (i := 29) rfl)) | exact (hw _ (List.mem_of_getElem? (i := 30) rfl)) | exact (hw _ (List.mem_of_getElem? (i := 31) rfl)) | exact (hw _ (List.mem_of_getElem? (i := 32) rfl))
  · first | exact (hw _ (List.mem_of_getElem? (i := 26) rfl)) | exact (hw _ (List.mem_of_getElem? (i := 27) rfl)) | exact (hw _ (List.mem_of_getElem? (i := 28) rfl)) | exact (hw _ (List.mem_of_getElem? (i := 29) rfl)) | exact (hw _ (List.mem_of_getElem? (i := 30) rfl)) | exact (hw _ (List.mem_of_getElem? (i := 31) rfl)) | exact (hw _ (List.mem_of_getElem? (i := 32) rfl))
  · first | exact (hw _ (List.mem_of_getElem? (i := 26) rfl)) | exact (hw _ (List.mem_of_getElem? (i := 27) rfl)) | exact (hw _ (List.mem_of_getElem? (i := 28) rfl)) | exact (hw _ (List.mem_of_getElem? (i := 29) rfl)) | exact (hw _ (List.mem_of_getElem? (i := 30) rfl)) | exact (hw _ (List.mem_of_getElem? (i := 31) rfl)) | exact (hw _ (List.mem_of_getElem? (i := 32) rfl))
  · first | exact (hw _ (List.mem_of_getElem? (i := 26) rfl)) | exact (hw _ (List.mem_of_getElem? (i := 27) rfl)) | exact (hw _ (List.mem_of_getElem? (i := 28) rfl)) | exact (hw _ (List.mem_of_getElem? (i := 29) rfl)) | exact (hw _ (List.mem_of_getElem? (i := 30) rfl)) | exact (hw _ (List.mem_of_getElem? (i := 31) rfl)) | exact (hw _ (List.mem_of_getElem? (i := 32) rfl))

theorem d1_0 : decode method_2_code 0 = .ok (.iload_n 0, 1) := by decide +kernel
theorem d1_1 : decode method_2_code 1 = .ok (.ifCond .ne 7, 3) := by decide +kernel
theorem d1_4 : decode method_2_code 4 = .ok (.getstatic 7, 3) := by decide +kernel
theorem d1_7 : decode method_2_code 7 = .ok (.areturn, 1) := by decide +kernel
theorem d1_8 : decode method_2_code 8 = .ok (.iload_n 0, 1) := by decide +kernel
theorem d1_9 : decode method_2_code 9 = .ok (.iconst 1, 1) := by decide +kernel
theorem d1_10 : decode method_2_code 10 = .ok (.if_icmp .ne 7, 3) := by decide +kernel
theorem d1_13 : decode method_2_code 13 = .ok (.getstatic 13, 3) := by decide +kernel
theorem d1_16 : decode method_2_code 16 = .ok (.areturn, 1) := by decide +kernel
theorem d1_17 : decode method_2_code 17 = .ok (.getstatic 16, 3) := by decide +kernel
theorem d1_20 : decode method_2_code 20 = .ok (.areturn, 1) := by decide +kernel
theorem pn_1 : plainName "com/example/fenced_widget/fencedwidget/fence/TraceEventEqualsPinLaw" = true := by first | (simp [plainName, overriddenIn]; done) | decide +kernel
theorem ef_1 (m : MethodId) (p0 : Int32) : entryFrame m #[(.int p0)] 1 = mkF m 0 #[.val (.int p0)] [] := by first | (simp [entryFrame, mkF, argsToLocals, Value.category]; done) | rfl
def f1 (p0 : Int32) (w_MOVE : Addr) (w_PRESS : Addr) (w_RELEASE : Addr) : Addr := if p0 = (0 : Int32) then w_MOVE else if p0 = (1 : Int32) then w_PRESS else w_RELEASE
abbrev room1 : Room := { frames := 0, cells := 0, slots := 0, locals := 0 }
def Q1 (Z : State) (p0 : Int32) (w_MOVE : Addr) (w_PRESS : Addr) (w_RELEASE : Addr) (h0 : Heap) (n0 : Nat) (v : Option Value) (h : Heap) (L : List Loc) : Prop := v = some (.ref (f1 p0 w_MOVE w_PRESS w_RELEASE)) ∧ L = [] ∧ h = h0
set_option maxRecDepth 65536 in
set_option maxHeartbeats 40000000 in
theorem rm1 (l : Launch) (Z : State) (aw : Array Value) (hw : ∀ d ∈ tables_1, d.before aw Z = true) (ws : List Jvm.Cond) (p0 : Int32) (w_MOVE : Addr) (w_PRESS : Addr) (w_RELEASE : Addr) (h0 : Heap) (n0 : Nat) (Z0 : n0 ≤ h0.size) (O0 : Old Z n0 h0) (S_MOVE : Sta Z Z.heap "com/example/fenced_widget/fencedwidget/protocol/InputType" "MOVE" "Lcom/example/fenced_widget/fencedwidget/protocol/InputType;" (.ref w_MOVE)) (S_PRESS : Sta Z Z.heap "com/example/fenced_widget/fencedwidget/protocol/InputType" "PRESS" "Lcom/example/fenced_widget/fencedwidget/protocol/InputType;" (.ref w_PRESS)) (S_RELEASE : Sta Z Z.heap "com/example/fenced_widget/fencedwidget/protocol/InputType" "RELEASE" "Lcom/example/fenced_widget/fencedwidget/protocol/InputType;" (.ref w_RELEASE)) :
    MetFree l (⟨"com/example/fenced_widget/fencedwidget/fence/TraceEventEqualsPinLaw", "type", "(I)Lcom/example/fenced_widget/fencedwidget/protocol/InputType;"⟩ : MethodName) (head1 (Jvm.Cond.code (⟨"com/example/fenced_widget/fencedwidget/fence/TraceEventEqualsPinLaw", "type", "(I)Lcom/example/fenced_widget/fencedwidget/protocol/InputType;"⟩ : MethodName) method_2_code 1 (some (.object "com/example/fenced_widget/fencedwidget/protocol/InputType")) :: ws) room1) (fun a U => a = #[(.int p0)] ∧ Z.Warmed39 U.vm ∧ U.heap = h0) (fun _ _ _ _ _ => True) (fun _ U o U' => ∃ v L, o = .returned v ∧ Q1 Z p0 w_MOVE w_PRESS w_RELEASE h0 n0 v U'.heap L ∧ FrameEnd U o U' L room1.cells room1.slots) := by
  refine MetFree.of_bodySF (plainFor_of_name pn_1) hisR ?_
  intro p e s m args below meth c s₁ Bd hml0 hP hK
  obtain ⟨rfl, hZ, hh⟩ := hP
  have hx := Bd.exec
  have hby := Bd.bytes
  have hml : c.maxLocals = 1 := hml0
  have hown : s.vm.findClass "com/example/fenced_widget/fencedwidget/fence/TraceEventEqualsPinLaw" = some m.cls := findClass_of_methodNamed Bd.named
  have hnm := (name_of_methodNamed Bd.named Bd.method).1
  have X0 : Stand p l e room1 s m #[(.int p0)] below meth c s₁ [] 0 0 := Stand.of_body Bd
  have e0 : s₁.heap = h0 := by rw [← hh, Bd.state]; rfl
  have N0 := Fr.nil n0
  rw [ef_1 m p0]
  refine go_in (s₁ := s₁) (Q := Q1 Z p0 w_MOVE w_PRESS w_RELEASE h0 n0) fun F hF => ?_
  refine go (B := s₁.setTop (mkF m 1 #[.val (.int p0)] [(.int p0)])) (fun _ k => XS.iloadN X0.here hx rfl (hb hby d1_0) rfl k) ?_
  by_cases hc1 : p0 = (0 : Int32)
  · refine go (B := s₁.setTop (mkF m 4 #[.val (.int p0)] [])) (fun _ k => XS.ifNo X0.here hx rfl (hb hby d1_1) rfl ((if0 _ _).trans (teq hc1).2) k) ?_
    obtain ⟨T2, X2, e2, st2⟩ := getS2 X0 hx hZ hown (host := "") (Or.inl (hw _ (List.mem_of_getElem? (i := 8) rfl))) Via.refl e0 (S_MOVE.ext O0.2) (g := (mkF m 4 #[.val (.int p0)] [])) rfl (hb hby d1_4)
    refine go (B := T2.setTop (mkF m 7 #[.val (.int p0)] [(.ref w_MOVE)])) st2 ?_
    have r3 : (f1 p0 w_MOVE w_PRESS w_RELEASE) = w_MOVE := by unfold f1; rw [if_pos hc1]
    exact end_ref X2 hx Bd.notSynchronized Bd.returns rfl rfl rfl (hb hby d1_7) hF e2 (by decide) (by decide) ⟨(congrArg (fun z => some (Value.ref z)) r3.symm), rfl, rfl⟩
  · refine go (B := s₁.setTop (mkF m 8 #[.val (.int p0)] [])) (fun _ k => XS.ifYes X0.here hx rfl (pc0 := 1) (pc' := 8) rfl (hb hby d1_1) rfl ((if0 _ _).trans (feq hc1).2) (by decide) (by decide) k) ?_
    refine go (B := s₁.setTop (mkF m 9 #[.val (.int p0)] [(.int p0)])) (fun _ k => XS.iloadN X0.here hx rfl (hb hby d1_8) rfl k) ?_
    refine go (B := s₁.setTop (mkF m 10 #[.val (.int p0)] [(.int (1 : Int32)), (.int p0)])) (fun _ k => XS.iconst X0.here hx rfl (hb hby d1_9) k) ?_
    by_cases hc4 : p0 = (1 : Int32)
    · refine go (B := s₁.setTop (mkF m 13 #[.val (.int p0)] [])) (fun _ k => XS.icmpNo X0.here hx rfl (hb hby d1_10) rfl (teq hc4).2 k) ?_
      obtain ⟨T5, X5, e5, st5⟩ := getS2 X0 hx hZ hown (host := "") (Or.inl (hw _ (List.mem_of_getElem? (i := 57) rfl))) Via.refl e0 (S_PRESS.ext O0.2) (g := (mkF m 13 #[.val (.int p0)] [])) rfl (hb hby d1_13)
      refine go (B := T5.setTop (mkF m 16 #[.val (.int p0)] [(.ref w_PRESS)])) st5 ?_
      have r6 : (f1 p0 w_MOVE w_PRESS w_RELEASE) = w_PRESS := by unfold f1; rw [if_neg hc1, if_pos hc4]
      exact end_ref X5 hx Bd.notSynchronized Bd.returns rfl rfl rfl (hb hby d1_16) hF e5 (by decide) (by decide) ⟨(congrArg (fun z => some (Value.ref z)) r6.symm), rfl, rfl⟩
    · refine go (B := s₁.setTop (mkF m 17 #[.val (.int p0)] [])) (fun _ k => XS.icmpYes X0.here hx rfl (pc0 := 10) (pc' := 17) rfl (hb hby d1_10) rfl (feq hc4).2 (by decide) (by decide) k) ?_
      obtain ⟨T7, X7, e7, st7⟩ := getS2 X0 hx hZ hown (host := "") (Or.inl (hw _ (List.mem_of_getElem? (i := 61) rfl))) Via.refl e0 (S_RELEASE.ext O0.2) (g := (mkF m 17 #[.val (.int p0)] [])) rfl (hb hby d1_17)
      refine go (B := T7.setTop (mkF m 20 #[.val (.int p0)] [(.ref w_RELEASE)])) st7 ?_
      have r8 : (f1 p0 w_MOVE w_PRESS w_RELEASE) = w_RELEASE := by unfold f1; rw [if_neg hc1, if_neg hc4]
      exact end_ref X7 hx Bd.notSynchronized Bd.returns rfl rfl rfl (hb hby d1_20) hF e7 (by decide) (by decide) ⟨(congrArg (fun z => some (Value.ref z)) r8.symm), rfl, rfl⟩
theorem d2_0 : decode method_3_code 0 = .ok (.iload_n 0, 1) := by decide +kernel
theorem d2_1 : decode method_3_code 1 = .ok (.ifCond .ne 7, 3) := by decide +kernel
theorem d2_4 : decode method_3_code 4 = .ok (.getstatic 19, 3) := by decide +kernel
theorem d2_7 : decode method_3_code 7 = .ok (.areturn, 1) := by decide +kernel
theorem d2_8 : decode method_3_code 8 = .ok (.iload_n 0, 1) := by decide +kernel
theorem d2_9 : decode method_3_code 9 = .ok (.iconst 1, 1) := by decide +kernel
theorem d2_10 : decode method_3_code 10 = .ok (.if_icmp .ne 7, 3) := by decide +kernel
theorem d2_13 : decode method_3_code 13 = .ok (.getstatic 25, 3) := by decide +kernel
theorem d2_16 : decode method_3_code 16 = .ok (.areturn, 1) := by decide +kernel
theorem d2_17 : decode method_3_code 17 = .ok (.getstatic 28, 3) := by decide +kernel
theorem d2_20 : decode method_3_code 20 = .ok (.areturn, 1) := by decide +kernel
theorem ef_2 (m : MethodId) (p0 : Int32) : entryFrame m #[(.int p0)] 1 = mkF m 0 #[.val (.int p0)] [] := by first | (simp [entryFrame, mkF, argsToLocals, Value.category]; done) | rfl
def f2 (p0 : Int32) (w_LEFT : Addr) (w_RIGHT : Addr) (w_NONE : Addr) : Addr := if p0 = (0 : Int32) then w_LEFT else if p0 = (1 : Int32) then w_RIGHT else w_NONE
abbrev room2 : Room := { frames := 0, cells := 0, slots := 0, locals := 0 }
def Q2 (Z : State) (p0 : Int32) (w_LEFT : Addr) (w_RIGHT : Addr) (w_NONE : Addr) (h0 : Heap) (n0 : Nat) (v : Option Value) (h : Heap) (L : List Loc) : Prop := v = some (.ref (f2 p0 w_LEFT w_RIGHT w_NONE)) ∧ L = [] ∧ h = h0
set_option maxRecDepth 65536 in
set_option maxHeartbeats 40000000 in
theorem rm2 (l : Launch) (Z : State) (aw : Array Value) (hw : ∀ d ∈ tables_1, d.before aw Z = true) (ws : List Jvm.Cond) (p0 : Int32) (w_LEFT : Addr) (w_RIGHT : Addr) (w_NONE : Addr) (h0 : Heap) (n0 : Nat) (Z0 : n0 ≤ h0.size) (O0 : Old Z n0 h0) (S_LEFT : Sta Z Z.heap "com/example/fenced_widget/fencedwidget/protocol/Button" "LEFT" "Lcom/example/fenced_widget/fencedwidget/protocol/Button;" (.ref w_LEFT)) (S_RIGHT : Sta Z Z.heap "com/example/fenced_widget/fencedwidget/protocol/Button" "RIGHT" "Lcom/example/fenced_widget/fencedwidget/protocol/Button;" (.ref w_RIGHT)) (S_NONE : Sta Z Z.heap "com/example/fenced_widget/fencedwidget/protocol/Button" "NONE" "Lcom/example/fenced_widget/fencedwidget/protocol/Button;" (.ref w_NONE)) :
    MetFree l (⟨"com/example/fenced_widget/fencedwidget/fence/TraceEventEqualsPinLaw", "button", "(I)Lcom/example/fenced_widget/fencedwidget/protocol/Button;"⟩ : MethodName) (head1 (Jvm.Cond.code (⟨"com/example/fenced_widget/fencedwidget/fence/TraceEventEqualsPinLaw", "button", "(I)Lcom/example/fenced_widget/fencedwidget/protocol/Button;"⟩ : MethodName) method_3_code 1 (some (.object "com/example/fenced_widget/fencedwidget/protocol/Button")) :: ws) room2) (fun a U => a = #[(.int p0)] ∧ Z.Warmed39 U.vm ∧ U.heap = h0) (fun _ _ _ _ _ => True) (fun _ U o U' => ∃ v L, o = .returned v ∧ Q2 Z p0 w_LEFT w_RIGHT w_NONE h0 n0 v U'.heap L ∧ FrameEnd U o U' L room2.cells room2.slots) := by
  refine MetFree.of_bodySF (plainFor_of_name pn_1) hisR ?_
  intro p e s m args below meth c s₁ Bd hml0 hP hK
  obtain ⟨rfl, hZ, hh⟩ := hP
  have hx := Bd.exec
  have hby := Bd.bytes
  have hml : c.maxLocals = 1 := hml0
  have hown : s.vm.findClass "com/example/fenced_widget/fencedwidget/fence/TraceEventEqualsPinLaw" = some m.cls := findClass_of_methodNamed Bd.named
  have hnm := (name_of_methodNamed Bd.named Bd.method).1
  have X0 : Stand p l e room2 s m #[(.int p0)] below meth c s₁ [] 0 0 := Stand.of_body Bd
  have e0 : s₁.heap = h0 := by rw [← hh, Bd.state]; rfl
  have N0 := Fr.nil n0
  rw [ef_2 m p0]
  refine go_in (s₁ := s₁) (Q := Q2 Z p0 w_LEFT w_RIGHT w_NONE h0 n0) fun F hF => ?_
  refine go (B := s₁.setTop (mkF m 1 #[.val (.int p0)] [(.int p0)])) (fun _ k => XS.iloadN X0.here hx rfl (hb hby d2_0) rfl k) ?_
  by_cases hc1 : p0 = (0 : Int32)
  · refine go (B := s₁.setTop (mkF m 4 #[.val (.int p0)] [])) (fun _ k => XS.ifNo X0.here hx rfl (hb hby d2_1) rfl ((if0 _ _).trans (teq hc1).2) k) ?_
    obtain ⟨T2, X2, e2, st2⟩ := getS2 X0 hx hZ hown (host := "") (Or.inl (hw _ (List.mem_of_getElem? (i := 14) rfl))) Via.refl e0 (S_LEFT.ext O0.2) (g := (mkF m 4 #[.val (.int p0)] [])) rfl (hb hby d2_4)
    refine go (B := T2.setTop (mkF m 7 #[.val (.int p0)] [(.ref w_LEFT)])) st2 ?_
    have r3 : (f2 p0 w_LEFT w_RIGHT w_NONE) = w_LEFT := by unfold f2; rw [if_pos hc1]
    exact end_ref X2 hx Bd.notSynchronized Bd.returns rfl rfl rfl (hb hby d2_7) hF e2 (by decide) (by decide) ⟨(congrArg (fun z => some (Value.ref z)) r3.symm), rfl, rfl⟩
  · refine go (B := s₁.setTop (mkF m 8 #[.val (.int p0)] [])) (fun _ k => XS.ifYes X0.here hx rfl (pc0 := 1) (pc' := 8) rfl (hb hby d2_1) rfl ((if0 _ _).trans (feq hc1).2) (by decide) (by decide) k) ?_
    refine go (B := s₁.setTop (mkF m 9 #[.val (.int p0)] [(.int p0)])) (fun _ k => XS.iloadN X0.here hx rfl (hb hby d2_8) rfl k) ?_
    refine go (B := s₁.setTop (mkF m 10 #[.val (.int p0)] [(.int (1 : Int32)), (.int p0)])) (fun _ k => XS.iconst X0.here hx rfl (hb hby d2_9) k) ?_
    by_cases hc4 : p0 = (1 : Int32)
    · refine go (B := s₁.setTop (mkF m 13 #[.val (.int p0)] [])) (fun _ k => XS.icmpNo X0.here hx rfl (hb hby d2_10) rfl (teq hc4).2 k) ?_
      obtain ⟨T5, X5, e5, st5⟩ := getS2 X0 hx hZ hown (host := "") (Or.inl (hw _ (List.mem_of_getElem? (i := 59) rfl))) Via.refl e0 (S_RIGHT.ext O0.2) (g := (mkF m 13 #[.val (.int p0)] [])) rfl (hb hby d2_13)
      refine go (B := T5.setTop (mkF m 16 #[.val (.int p0)] [(.ref w_RIGHT)])) st5 ?_
      have r6 : (f2 p0 w_LEFT w_RIGHT w_NONE) = w_RIGHT := by unfold f2; rw [if_neg hc1, if_pos hc4]
      exact end_ref X5 hx Bd.notSynchronized Bd.returns rfl rfl rfl (hb hby d2_16) hF e5 (by decide) (by decide) ⟨(congrArg (fun z => some (Value.ref z)) r6.symm), rfl, rfl⟩
    · refine go (B := s₁.setTop (mkF m 17 #[.val (.int p0)] [])) (fun _ k => XS.icmpYes X0.here hx rfl (pc0 := 10) (pc' := 17) rfl (hb hby d2_10) rfl (feq hc4).2 (by decide) (by decide) k) ?_
      obtain ⟨T7, X7, e7, st7⟩ := getS2 X0 hx hZ hown (host := "") (Or.inl (hw _ (List.mem_of_getElem? (i := 63) rfl))) Via.refl e0 (S_NONE.ext O0.2) (g := (mkF m 17 #[.val (.int p0)] [])) rfl (hb hby d2_17)
      refine go (B := T7.setTop (mkF m 20 #[.val (.int p0)] [(.ref w_NONE)])) st7 ?_
      have r8 : (f2 p0 w_LEFT w_RIGHT w_NONE) = w_NONE := by unfold f2; rw [if_neg hc1, if_neg hc4]
      exact end_ref X7 hx Bd.notSynchronized Bd.returns rfl rfl rfl (hb hby d2_20) hF e7 (by decide) (by decide) ⟨(congrArg (fun z => some (Value.ref z)) r8.symm), rfl, rfl⟩
theorem d9_0 : decode jdk_18_method_1_code 0 = .ok (.aload_n 0, 1) := by decide +kernel
theorem d9_1 : decode jdk_18_method_1_code 1 = .ok (.invokespecial 1, 3) := by decide +kernel
theorem d9_4 : decode jdk_18_method_1_code 4 = .ok (.return_, 1) := by decide +kernel
theorem pn_9 : plainName "java/lang/Number" = true := by first | (simp [plainName, overriddenIn]; done) | decide +kernel
theorem ef_9 (m : MethodId) (a0 : Addr) : entryFrame m #[(.ref a0)] 1 = mkF m 0 #[.val (.ref a0)] [] := by first | (simp [entryFrame, mkF, argsToLocals, Value.category]; done) | rfl
abbrev room9 : Room := { frames := 1, cells := 0, slots := 0, locals := 12 }
def Q9 (Z : State) (a0 : Addr) (h0 : Heap) (n0 : Nat) (v : Option Value) (h : Heap) (L : List Loc) : Prop := v = none ∧ L = [] ∧ h = h0
set_option maxRecDepth 65536 in
set_option maxHeartbeats 40000000 in
theorem rm9 (l : Launch) (Z : State) (aw : Array Value) (hw : ∀ d ∈ tables_1, d.before aw Z = true) (ws : List Jvm.Cond) (a0 : Addr) (h0 : Heap) (n0 : Nat) (Z0 : n0 ≤ h0.size) (O0 : Old Z n0 h0) :
    MetFree l (⟨"java/lang/Number", "<init>", "()V"⟩ : MethodName) (head1 (Jvm.Cond.code (⟨"java/lang/Number", "<init>", "()V"⟩ : MethodName) jdk_18_method_1_code 1 none :: ws) room9) (fun a U => a = #[(.ref a0)] ∧ Z.Warmed39 U.vm ∧ U.heap = h0) (fun _ _ _ _ _ => True) (fun _ U o U' => ∃ v L, o = .returned v ∧ Q9 Z a0 h0 n0 v U'.heap L ∧ FrameEnd U o U' L room9.cells room9.slots) := by
  refine MetFree.of_bodySF (plainFor_of_name pn_9) hisR ?_
  intro p e s m args below meth c s₁ Bd hml0 hP hK
  obtain ⟨rfl, hZ, hh⟩ := hP
  have hx := Bd.exec
  have hby := Bd.bytes
  have hml : c.maxLocals = 1 := hml0
  have hown : s.vm.findClass "java/lang/Number" = some m.cls := findClass_of_methodNamed Bd.named
  have hnm := (name_of_methodNamed Bd.named Bd.method).1
  have X0 : Stand p l e room9 s m #[(.ref a0)] below meth c s₁ [] 0 0 := Stand.of_body Bd
  have e0 : s₁.heap = h0 := by rw [← hh, Bd.state]; rfl
  have N0 := Fr.nil n0
  rw [ef_9 m a0]
  refine go_in (s₁ := s₁) (Q := Q9 Z a0 h0 n0) fun F hF => ?_
  refine go (B := s₁.setTop (mkF m 1 #[.val (.ref a0)] [(.ref a0)])) (fun _ k => XS.aloadN X0.here hx rfl (hb hby d9_0) rfl rfl k) ?_
  obtain ⟨T1, X1, e1, st1⟩ := initO X0 hx hZ hown (hw _ (List.mem_of_getElem? (i := 83) rfl)) (hw _ (List.mem_of_getElem? (i := 21) rfl)) (hw _ (List.mem_of_getElem? (i := 22) rfl)) e0 (g := (mkF m 1 #[.val (.ref a0)] [(.ref a0)])) rfl (by rw [hml]; rfl) rfl (hb hby d9_1) (by decide) (W := 0) (by show 2 * 0 + _ ≤ _; exact Nat.le_of_eq rfl) (by decide)
  refine go (B := T1.setTop (mkF m 4 #[.val (.ref a0)] [])) st1 ?_
  exact end_void X1 hx Bd.notSynchronized Bd.returns (hb hby d9_4) hF e1 (by decide) (by decide) ⟨rfl, rfl, rfl⟩
theorem pd_0 : parseMethodDescriptor "()V" = some ⟨[], none⟩ := by decide +kernel
theorem d8_0 : decode jdk_35_method_26_code 0 = .ok (.aload_n 0, 1) := by decide +kernel
theorem d8_1 : decode jdk_35_method_26_code 1 = .ok (.invokespecial 270, 3) := by decide +kernel
theorem d8_4 : decode jdk_35_method_26_code 4 = .ok (.aload_n 0, 1) := by decide +kernel
theorem d8_5 : decode jdk_35_method_26_code 5 = .ok (.lload_n 1, 1) := by decide +kernel
theorem d8_6 : decode jdk_35_method_26_code 6 = .ok (.putfield 273, 3) := by decide +kernel
theorem d8_9 : decode jdk_35_method_26_code 9 = .ok (.return_, 1) := by decide +kernel
theorem pn_8 : plainName "java/lang/Long" = true := by first | (simp [plainName, overriddenIn]; done) | decide +kernel
theorem ef_8 (m : MethodId) (a0 : Addr) (q1 : Int64) : entryFrame m #[(.ref a0), (.long q1)] 3 = mkF m 0 #[.val (.ref a0), .val (.long q1), .second] [] := by first | (simp [entryFrame, mkF, argsToLocals, Value.category]; done) | rfl
abbrev room8 : Room := { frames := 2, cells := 0, slots := 0, locals := 24 }
def Q8 (Z : State) (a0 : Addr) (q1 : Int64) (h0 : Heap) (n0 : Nat) (v : Option Value) (h : Heap) (L : List Loc) : Prop := v = none ∧ Fr n0 L ∧ Keep h0 h [a0] ∧ Exa Z h a0 "java/lang/Long" ∧ Fld Z h a0 "java/lang/Long" "value" "J" (.long q1)
set_option maxRecDepth 65536 in
set_option maxHeartbeats 40000000 in
theorem rm8 (l : Launch) (Z : State) (aw : Array Value) (hw : ∀ d ∈ tables_1, d.before aw Z = true) (ws : List Jvm.Cond) (a0 : Addr) (q1 : Int64) (h0 : Heap) (n0 : Nat) (Z0 : n0 ≤ h0.size) (O0 : Old Z n0 h0) (F_value_a0 : Fld Z h0 a0 "java/lang/Long" "value" "J" (.long (0 : Int64))) (E_a0 : Exa Z h0 a0 "java/lang/Long") (g_a0 : n0 ≤ a0) :
    MetFree l (⟨"java/lang/Long", "<init>", "(J)V"⟩ : MethodName) (head1 (Jvm.Cond.code (⟨"java/lang/Long", "<init>", "(J)V"⟩ : MethodName) jdk_35_method_26_code 3 none :: ws) room8) (fun a U => a = #[(.ref a0), (.long q1)] ∧ Z.Warmed39 U.vm ∧ U.heap = h0) (fun _ _ _ _ _ => True) (fun _ U o U' => ∃ v L, o = .returned v ∧ Q8 Z a0 q1 h0 n0 v U'.heap L ∧ FrameEnd U o U' L room8.cells room8.slots) := by
  refine MetFree.of_bodySF (plainFor_of_name pn_8) hisR ?_
  intro p e s m args below meth c s₁ Bd hml0 hP hK
  obtain ⟨rfl, hZ, hh⟩ := hP
  have hx := Bd.exec
  have hby := Bd.bytes
  have hml : c.maxLocals = 3 := hml0
  have hown : s.vm.findClass "java/lang/Long" = some m.cls := findClass_of_methodNamed Bd.named
  have hnm := (name_of_methodNamed Bd.named Bd.method).1
  have X0 : Stand p l e room8 s m #[(.ref a0), (.long q1)] below meth c s₁ [] 0 0 := Stand.of_body Bd
  have e0 : s₁.heap = h0 := by rw [← hh, Bd.state]; rfl
  have N0 := Fr.nil n0
  have K0 := Keep.refl h0 [a0]
  rw [ef_8 m a0 q1]
  refine go_in (s₁ := s₁) (Q := Q8 Z a0 q1 h0 n0) fun F hF => ?_
  refine go (B := s₁.setTop (mkF m 1 #[.val (.ref a0), .val (.long q1), .second] [(.ref a0)])) (fun _ k => XS.aloadN X0.here hx rfl (hb hby d8_0) rfl rfl k) ?_
  obtain ⟨_, _, ⟨T1, L1, k1, n1⟩, -, X1, ⟨Lc1, hQ1, l1, y1, z1⟩, st1⟩ := X0.specialBack hx (y := (⟨"java/lang/Number", "<init>", "()V"⟩ : MethodName)) rfl hown (mvT hZ (hw _ (List.mem_of_getElem? (i := 77) rfl))) (mvT hZ (hw _ (List.mem_of_getElem? (i := 78) rfl))) (mvT hZ (hw _ (List.mem_of_getElem? (i := 82) rfl))) (by decide) (backOf (W := 0) (rm9 l Z aw hw [] a0 h0 n0 Z0 O0) hZ (hw _ (List.mem_of_getElem? (i := 82) rfl)) (hw _ (List.mem_of_getElem? (i := 81) rfl)) (by decide) (by decide)) (g := (mkF m 1 #[.val (.ref a0), .val (.long q1), .second] [(.ref a0)])) rfl (by rw [hml]; rfl) (Steps.refl _) (a := a0) (argsL := []) (rest := []) (lenOf pd_0 rfl) rfl (by show 2 * 0 + _ ≤ _; exact Nat.le_of_eq rfl) (hb hby d8_1) (fun _ _ => ⟨rfl, e0, (by decide : 0 + 0 ≤ _), (by decide : 0 + 0 ≤ _)⟩)
  dsimp only [Pt.U, Pt.locs, Pt.cells, Pt.slots] at X1 l1 y1 z1 st1 hQ1
  subst l1 y1 z1
  obtain ⟨rfl, rfl, e1⟩ := hQ1
  have N1 := Fr.app N0 (Fr.nil n0)
  refine go (B := T1.setTop (mkF m 4 #[.val (.ref a0), .val (.long q1), .second] [])) (fun _ k => st1.trans k) ?_
  refine go (B := T1.setTop (mkF m 5 #[.val (.ref a0), .val (.long q1), .second] [(.ref a0)])) (fun _ k => XS.aloadN X1.here hx rfl (hb hby d8_4) rfl rfl k) ?_
  refine go (B := T1.setTop (mkF m 6 #[.val (.ref a0), .val (.long q1), .second] [(.long q1), (.ref a0)])) (fun _ k => XS.lloadN X1.here hx rfl (hb hby d8_5) rfl k) ?_
  obtain ⟨T2, h2, X2, e2, W2, st2⟩ := putF X1 hx hZ hown (host := "") (Or.inl (hw _ (List.mem_of_getElem? (i := 84) rfl))) Via.refl e1 F_value_a0 E_a0 (Or.inr ⟨(hw _ (List.mem_of_getElem? (i := 85) rfl)), rfl, hnm⟩) (hw _ (List.mem_of_getElem? (i := 72) rfl)) (ty := .long) (by decide) rfl rfl (g := (mkF m 6 #[.val (.ref a0), .val (.long q1), .second] [(.long q1), (.ref a0)])) rfl rfl (hb hby d8_6)
  have O2 := O0.wr W2 g_a0
  have E_a0_2 := E_a0.wr W2
  have F_value_a0_2 := Fld.same W2 F_value_a0
  have Z2 := Nat.le_trans Z0 (Keep.of_wr W2).1
  have K2 := K0.wr W2 (Or.inl (List.mem_of_getElem? (i := 0) rfl))
  have N2 := Fr.snoc X2 N1 g_a0
  refine go (B := T2.setTop (mkF m 9 #[.val (.ref a0), .val (.long q1), .second] [])) st2 ?_
  exact end_void X2 hx Bd.notSynchronized Bd.returns (hb hby d8_9) hF e2 (by decide) (by decide) ⟨rfl, N2, K2, E_a0_2, F_value_a0_2⟩
theorem d5_0 : decode jdk_31_method_11_code 0 = .ok (.aload_n 0, 1) := by decide +kernel
theorem d5_1 : decode jdk_31_method_11_code 1 = .ok (.ifnonnull 12, 3) := by decide +kernel
theorem d5_13 : decode jdk_31_method_11_code 13 = .ok (.aload_n 0, 1) := by decide +kernel
theorem d5_14 : decode jdk_31_method_11_code 14 = .ok (.areturn, 1) := by decide +kernel
theorem pn_5 : plainName "java/util/Objects" = true := by first | (simp [plainName, overriddenIn]; done) | decide +kernel
theorem ef_5 (m : MethodId) (a0 : Addr) (a1 : Addr) : entryFrame m #[(.ref a0), (.ref a1)] 2 = mkF m 0 #[.val (.ref a0), .val (.ref a1)] [] := by first | (simp [entryFrame, mkF, argsToLocals, Value.category]; done) | rfl
def f5 (a0 : Addr) : Addr := a0
abbrev room5 : Room := { frames := 0, cells := 0, slots := 0, locals := 0 }
def Q5 (Z : State) (a0 : Addr) (a1 : Addr) (h0 : Heap) (n0 : Nat) (v : Option Value) (h : Heap) (L : List Loc) : Prop := v = some (.ref (f5 a0)) ∧ L = [] ∧ h = h0
set_option maxRecDepth 65536 in
set_option maxHeartbeats 40000000 in
theorem rm5 (l : Launch) (Z : State) (aw : Array Value) (hw : ∀ d ∈ tables_1, d.before aw Z = true) (ws : List Jvm.Cond) (a0 : Addr) (a1 : Addr) (h0 : Heap) (n0 : Nat) (Z0 : n0 ≤ h0.size) (O0 : Old Z n0 h0) :
    MetFree l (⟨"java/util/Objects", "requireNonNull", "(Ljava/lang/Object;Ljava/lang/String;)Ljava/lang/Object;"⟩ : MethodName) (head1 (Jvm.Cond.code (⟨"java/util/Objects", "requireNonNull", "(Ljava/lang/Object;Ljava/lang/String;)Ljava/lang/Object;"⟩ : MethodName) jdk_31_method_11_code 2 (some (.object "java/lang/Object")) :: ws) room5) (fun a U => a = #[(.ref a0), (.ref a1)] ∧ Z.Warmed39 U.vm ∧ U.heap = h0) (fun _ _ _ _ _ => True) (fun _ U o U' => ∃ v L, o = .returned v ∧ Q5 Z a0 a1 h0 n0 v U'.heap L ∧ FrameEnd U o U' L room5.cells room5.slots) := by
  refine MetFree.of_bodySF (plainFor_of_name pn_5) hisR ?_
  intro p e s m args below meth c s₁ Bd hml0 hP hK
  obtain ⟨rfl, hZ, hh⟩ := hP
  have hx := Bd.exec
  have hby := Bd.bytes
  have hml : c.maxLocals = 2 := hml0
  have hown : s.vm.findClass "java/util/Objects" = some m.cls := findClass_of_methodNamed Bd.named
  have hnm := (name_of_methodNamed Bd.named Bd.method).1
  have X0 : Stand p l e room5 s m #[(.ref a0), (.ref a1)] below meth c s₁ [] 0 0 := Stand.of_body Bd
  have e0 : s₁.heap = h0 := by rw [← hh, Bd.state]; rfl
  have N0 := Fr.nil n0
  rw [ef_5 m a0 a1]
  refine go_in (s₁ := s₁) (Q := Q5 Z a0 a1 h0 n0) fun F hF => ?_
  refine go (B := s₁.setTop (mkF m 1 #[.val (.ref a0), .val (.ref a1)] [(.ref a0)])) (fun _ k => XS.aloadN X0.here hx rfl (hb hby d5_0) rfl rfl k) ?_
  refine go (B := s₁.setTop (mkF m 13 #[.val (.ref a0), .val (.ref a1)] [])) (fun _ k => XS.ifnonnullYes X0.here hx rfl (pc0 := 1) (pc' := 13) rfl (hb hby d5_1) rfl (by decide) (by decide) k) ?_
  refine go (B := s₁.setTop (mkF m 14 #[.val (.ref a0), .val (.ref a1)] [(.ref a0)])) (fun _ k => XS.aloadN X0.here hx rfl (hb hby d5_13) rfl rfl k) ?_
  have r1 : (f5 a0) = a0 := by unfold f5; rfl
  exact end_ref X0 hx Bd.notSynchronized Bd.returns rfl rfl rfl (hb hby d5_14) hF e0 (by decide) (by decide) ⟨(congrArg (fun z => some (Value.ref z)) r1.symm), rfl, rfl⟩
theorem pd_1 : parseMethodDescriptor "(Ljava/lang/Object;Ljava/lang/String;)Ljava/lang/Object;" = some ⟨[(.object "java/lang/Object"), (.object "java/lang/String")], some (.object "java/lang/Object")⟩ := by decide +kernel
theorem d3_0 : decode prog_14_method_1_code 0 = .ok (.aload_n 0, 1) := by decide +kernel
theorem d3_1 : decode prog_14_method_1_code 1 = .ok (.invokespecial 1, 3) := by decide +kernel
theorem d3_4 : decode prog_14_method_1_code 4 = .ok (.lload_n 1, 1) := by decide +kernel
theorem d3_5 : decode prog_14_method_1_code 5 = .ok (.lconst 0, 1) := by decide +kernel
theorem d3_6 : decode prog_14_method_1_code 6 = .ok (.lcmp, 1) := by decide +kernel
theorem d3_7 : decode prog_14_method_1_code 7 = .ok (.ifCond .ge 17, 3) := by decide +kernel
theorem d3_24 : decode prog_14_method_1_code 24 = .ok (.aload_n 0, 1) := by decide +kernel
theorem d3_25 : decode prog_14_method_1_code 25 = .ok (.lload_n 1, 1) := by decide +kernel
theorem d3_26 : decode prog_14_method_1_code 26 = .ok (.putfield 16, 3) := by decide +kernel
theorem d3_29 : decode prog_14_method_1_code 29 = .ok (.aload_n 0, 1) := by decide +kernel
theorem d3_30 : decode prog_14_method_1_code 30 = .ok (.aload_n 3, 1) := by decide +kernel
theorem d3_31 : decode prog_14_method_1_code 31 = .ok (.ldc 22, 2) := by decide +kernel
theorem d3_33 : decode prog_14_method_1_code 33 = .ok (.invokestatic 24, 3) := by decide +kernel
theorem d3_36 : decode prog_14_method_1_code 36 = .ok (.checkcast 30, 3) := by decide +kernel
theorem d3_39 : decode prog_14_method_1_code 39 = .ok (.putfield 32, 3) := by decide +kernel
theorem d3_42 : decode prog_14_method_1_code 42 = .ok (.aload_n 0, 1) := by decide +kernel
theorem d3_43 : decode prog_14_method_1_code 43 = .ok (.iload 4, 2) := by decide +kernel
theorem d3_45 : decode prog_14_method_1_code 45 = .ok (.putfield 35, 3) := by decide +kernel
theorem d3_48 : decode prog_14_method_1_code 48 = .ok (.aload_n 0, 1) := by decide +kernel
theorem d3_49 : decode prog_14_method_1_code 49 = .ok (.iload 5, 2) := by decide +kernel
theorem d3_51 : decode prog_14_method_1_code 51 = .ok (.putfield 39, 3) := by decide +kernel
theorem d3_54 : decode prog_14_method_1_code 54 = .ok (.aload_n 0, 1) := by decide +kernel
theorem d3_55 : decode prog_14_method_1_code 55 = .ok (.aload 6, 2) := by decide +kernel
theorem d3_57 : decode prog_14_method_1_code 57 = .ok (.ldc 42, 2) := by decide +kernel
theorem d3_59 : decode prog_14_method_1_code 59 = .ok (.invokestatic 24, 3) := by decide +kernel
theorem d3_62 : decode prog_14_method_1_code 62 = .ok (.checkcast 44, 3) := by decide +kernel
theorem d3_65 : decode prog_14_method_1_code 65 = .ok (.putfield 46, 3) := by decide +kernel
theorem d3_68 : decode prog_14_method_1_code 68 = .ok (.return_, 1) := by decide +kernel
theorem pn_3 : plainName "com/example/fenced_widget/fencedwidget/fence/TraceEvent" = true := by first | (simp [plainName, overriddenIn]; done) | decide +kernel
theorem ef_3 (m : MethodId) (a0 : Addr) (q1 : Int64) (a2 : Addr) (p3 : Int32) (p4 : Int32) (a5 : Addr) : entryFrame m #[(.ref a0), (.long q1), (.ref a2), (.int p3), (.int p4), (.ref a5)] 7 = mkF m 0 #[.val (.ref a0), .val (.long q1), .second, .val (.ref a2), .val (.int p3), .val (.int p4), .val (.ref a5)] [] := by first | (simp [entryFrame, mkF, argsToLocals, Value.category]; done) | rfl
abbrev room3 : Room := { frames := 1, cells := 4, slots := 48, locals := 14 }
def Q3 (Z : State) (a0 : Addr) (q1 : Int64) (a2 : Addr) (p3 : Int32) (p4 : Int32) (a5 : Addr) (h0 : Heap) (n0 : Nat) (v : Option Value) (h : Heap) (L : List Loc) : Prop := v = none ∧ Fr n0 L ∧ Keep h0 h [a0] ∧ Exa Z h a0 "com/example/fenced_widget/fencedwidget/fence/TraceEvent" ∧ Fld Z h a0 "com/example/fenced_widget/fencedwidget/fence/TraceEvent" "timeMs" "J" (.long q1) ∧ Fld Z h a0 "com/example/fenced_widget/fencedwidget/fence/TraceEvent" "type" "Lcom/example/fenced_widget/fencedwidget/protocol/InputType;" (.ref a2) ∧ Fld Z h a0 "com/example/fenced_widget/fencedwidget/fence/TraceEvent" "x" "I" (.int p3) ∧ Fld Z h a0 "com/example/fenced_widget/fencedwidget/fence/TraceEvent" "y" "I" (.int p4) ∧ Fld Z h a0 "com/example/fenced_widget/fencedwidget/fence/TraceEvent" "button" "Lcom/example/fenced_widget/fencedwidget/protocol/Button;" (.ref a5)
set_option maxRecDepth 65536 in
set_option maxHeartbeats 40000000 in
theorem rm3 (l : Launch) (Z : State) (aw : Array Value) (hw : ∀ d ∈ tables_1, d.before aw Z = true) (ws : List Jvm.Cond) (a0 : Addr) (q1 : Int64) (a2 : Addr) (p3 : Int32) (p4 : Int32) (a5 : Addr) (h0 : Heap) (n0 : Nat) (Z0 : n0 ≤ h0.size) (O0 : Old Z n0 h0) (F_timeMs_a0 : Fld Z h0 a0 "com/example/fenced_widget/fencedwidget/fence/TraceEvent" "timeMs" "J" (.long (0 : Int64))) (F_type_a0 : Fld Z h0 a0 "com/example/fenced_widget/fencedwidget/fence/TraceEvent" "type" "Lcom/example/fenced_widget/fencedwidget/protocol/InputType;" .null) (F_x_a0 : Fld Z h0 a0 "com/example/fenced_widget/fencedwidget/fence/TraceEvent" "x" "I" (.int (0 : Int32))) (F_y_a0 : Fld Z h0 a0 "com/example/fenced_widget/fencedwidget/fence/TraceEvent" "y" "I" (.int (0 : Int32))) (F_button_a0 : Fld Z h0 a0 "com/example/fenced_widget/fencedwidget/fence/TraceEvent" "button" "Lcom/example/fenced_widget/fencedwidget/protocol/Button;" .null) (E_a0 : Exa Z h0 a0 "com/example/fenced_widget/fencedwidget/fence/TraceEvent") (E_a2 : Exa Z h0 a2 "com/example/fenced_widget/fencedwidget/protocol/InputType") (E_a5 : Exa Z h0 a5 "com/example/fenced_widget/fencedwidget/protocol/Button") (ha0 : ¬ ((lcmpW q1 (0 : Int64)) < (0 : Int32))) (g_a0 : n0 ≤ a0) :
    MetFree l (⟨"com/example/fenced_widget/fencedwidget/fence/TraceEvent", "<init>", "(JLcom/example/fenced_widget/fencedwidget/protocol/InputType;IILcom/example/fenced_widget/fencedwidget/protocol/Button;)V"⟩ : MethodName) (head1 (Jvm.Cond.code (⟨"com/example/fenced_widget/fencedwidget/fence/TraceEvent", "<init>", "(JLcom/example/fenced_widget/fencedwidget/protocol/InputType;IILcom/example/fenced_widget/fencedwidget/protocol/Button;)V"⟩ : MethodName) prog_14_method_1_code 7 none :: ws) room3) (fun a U => a = #[(.ref a0), (.long q1), (.ref a2), (.int p3), (.int p4), (.ref a5)] ∧ Z.Warmed39 U.vm ∧ U.heap = h0) (fun _ _ _ _ _ => True) (fun _ U o U' => ∃ v L, o = .returned v ∧ Q3 Z a0 q1 a2 p3 p4 a5 h0 n0 v U'.heap L ∧ ReturnedEndW U o U' L room3.cells room3.slots) := by
  refine MetFree.of_bodySF (plainFor_of_name pn_3) hisR ?_
  intro p e s m args below meth c s₁ Bd hml0 hP hK
  obtain ⟨rfl, hZ, hh⟩ := hP
  have hx := Bd.exec
  have hby := Bd.bytes
  have hml : c.maxLocals = 7 := hml0
  have hown : s.vm.findClass "com/example/fenced_widget/fencedwidget/fence/TraceEvent" = some m.cls := findClass_of_methodNamed Bd.named
  have hnm := (name_of_methodNamed Bd.named Bd.method).1
  have X0 : Stand p l e room3 (s.setVm s.vm) m #[(.ref a0), (.long q1), (.ref a2), (.int p3), (.int p4), (.ref a5)] below meth c s₁ [] 0 0 := Stand.of_body Bd
  have e0 : s₁.heap = h0 := by rw [← hh, Bd.state]; rfl
  have N0 := Fr.nil n0
  have S0 : s.Since s.vm s.heap.size := (State.WarmedH.refl s).since _
  have SK0 : s.heap.size ≤ h0.size := Nat.le_of_eq (congrArg Array.size hh)
  replace hZ : Z.Warmed39 (s.setVm s.vm).vm := hZ
  replace hown : (s.setVm s.vm).vm.findClass "com/example/fenced_widget/fencedwidget/fence/TraceEvent" = some m.cls := hown
  have K0 := Keep.refl h0 [a0]
  rw [ef_3 m a0 q1 a2 p3 p4 a5]
  refine go_inW (s₁ := s₁) (Q := Q3 Z a0 q1 a2 p3 p4 a5 h0 n0) fun F hF => ?_
  refine go (B := s₁.setTop (mkF m 1 #[.val (.ref a0), .val (.long q1), .second, .val (.ref a2), .val (.int p3), .val (.int p4), .val (.ref a5)] [(.ref a0)])) (fun _ k => XS.aloadN X0.here hx rfl (hb hby d3_0) rfl rfl k) ?_
  obtain ⟨T1, X1, e1, st1⟩ := initO X0 hx hZ hown (hw _ (List.mem_of_getElem? (i := 20) rfl)) (hw _ (List.mem_of_getElem? (i := 21) rfl)) (hw _ (List.mem_of_getElem? (i := 22) rfl)) e0 (g := (mkF m 1 #[.val (.ref a0), .val (.long q1), .second, .val (.ref a2), .val (.int p3), .val (.int p4), .val (.ref a5)] [(.ref a0)])) rfl (by rw [hml]; rfl) rfl (hb hby d3_1) (by decide) (W := 0) (by show 2 * 0 + _ ≤ _; exact Nat.le_of_eq rfl) (by decide)
  refine go (B := T1.setTop (mkF m 4 #[.val (.ref a0), .val (.long q1), .second, .val (.ref a2), .val (.int p3), .val (.int p4), .val (.ref a5)] [])) st1 ?_
  refine go (B := T1.setTop (mkF m 5 #[.val (.ref a0), .val (.long q1), .second, .val (.ref a2), .val (.int p3), .val (.int p4), .val (.ref a5)] [(.long q1)])) (fun _ k => XS.lloadN X1.here hx rfl (hb hby d3_4) rfl k) ?_
  refine go (B := T1.setTop (mkF m 6 #[.val (.ref a0), .val (.long q1), .second, .val (.ref a2), .val (.int p3), .val (.int p4), .val (.ref a5)] [(.long (0 : Int64)), (.long q1)])) (fun _ k => XS.lconst X1.here hx rfl (hb hby d3_5) k) ?_
  refine go (B := T1.setTop (mkF m 7 #[.val (.ref a0), .val (.long q1), .second, .val (.ref a2), .val (.int p3), .val (.int p4), .val (.ref a5)] [(.int (lcmpW q1 (0 : Int64)))])) (fun _ k => XS.lcmp X1.here hx rfl (hb hby d3_6) rfl k) ?_
  refine go (B := T1.setTop (mkF m 24 #[.val (.ref a0), .val (.long q1), .second, .val (.ref a2), .val (.int p3), .val (.int p4), .val (.ref a5)] [])) (fun _ k => XS.ifYes X1.here hx rfl (pc0 := 7) (pc' := 24) rfl (hb hby d3_7) rfl ((if0 _ _).trans (flt ha0).2.1) (by decide) (by decide) k) ?_
  refine go (B := T1.setTop (mkF m 25 #[.val (.ref a0), .val (.long q1), .second, .val (.ref a2), .val (.int p3), .val (.int p4), .val (.ref a5)] [(.ref a0)])) (fun _ k => XS.aloadN X1.here hx rfl (hb hby d3_24) rfl rfl k) ?_
  refine go (B := T1.setTop (mkF m 26 #[.val (.ref a0), .val (.long q1), .second, .val (.ref a2), .val (.int p3), .val (.int p4), .val (.ref a5)] [(.long q1), (.ref a0)])) (fun _ k => XS.lloadN X1.here hx rfl (hb hby d3_25) rfl k) ?_
  obtain ⟨T2, h2, X2, e2, W2, st2⟩ := putF X1 hx hZ hown (host := "") (Or.inl (hw _ (List.mem_of_getElem? (i := 23) rfl))) Via.refl e1 F_timeMs_a0 E_a0 (Or.inr ⟨(hw _ (List.mem_of_getElem? (i := 24) rfl)), rfl, hnm⟩) (hw _ (List.mem_of_getElem? (i := 2) rfl)) (ty := .long) (by decide) rfl rfl (g := (mkF m 26 #[.val (.ref a0), .val (.long q1), .second, .val (.ref a2), .val (.int p3), .val (.int p4), .val (.ref a5)] [(.long q1), (.ref a0)])) rfl rfl (hb hby d3_26)
  have O2 := O0.wr W2 g_a0
  have F_type_a0_2 := Fld.other W2 F_type_a0 (Or.inr (slot_ne (Or.inr (hw _ (List.mem_of_getElem? (i := 40) rfl))) (Or.inr (hw _ (List.mem_of_getElem? (i := 24) rfl))) (by decide) (t := (.object "com/example/fenced_widget/fencedwidget/protocol/InputType")) (t' := .long) (by decide) (by decide)))
  have F_x_a0_2 := Fld.other W2 F_x_a0 (Or.inr (slot_ne (Or.inr (hw _ (List.mem_of_getElem? (i := 42) rfl))) (Or.inr (hw _ (List.mem_of_getElem? (i := 24) rfl))) (by decide) (t := .int) (t' := .long) (by decide) (by decide)))
  have F_y_a0_2 := Fld.other W2 F_y_a0 (Or.inr (slot_ne (Or.inr (hw _ (List.mem_of_getElem? (i := 44) rfl))) (Or.inr (hw _ (List.mem_of_getElem? (i := 24) rfl))) (by decide) (t := .int) (t' := .long) (by decide) (by decide)))
  have F_button_a0_2 := Fld.other W2 F_button_a0 (Or.inr (slot_ne (Or.inr (hw _ (List.mem_of_getElem? (i := 49) rfl))) (Or.inr (hw _ (List.mem_of_getElem? (i := 24) rfl))) (by decide) (t := (.object "com/example/fenced_widget/fencedwidget/protocol/Button")) (t' := .long) (by decide) (by decide)))
  have E_a0_2 := E_a0.wr W2
  have E_a2_2 := E_a2.wr W2
  have E_a5_2 := E_a5.wr W2
  have F_timeMs_a0_2 := Fld.same W2 F_timeMs_a0
  have Z2 := Nat.le_trans Z0 (Keep.of_wr W2).1
  have SK2 := Nat.le_trans SK0 (Keep.of_wr W2).1
  have K2 := K0.wr W2 (Or.inl (List.mem_of_getElem? (i := 0) rfl))
  have N2 := Fr.snoc X2 N0 g_a0
  refine go (B := T2.setTop (mkF m 29 #[.val (.ref a0), .val (.long q1), .second, .val (.ref a2), .val (.int p3), .val (.int p4), .val (.ref a5)] [])) st2 ?_
  refine go (B := T2.setTop (mkF m 30 #[.val (.ref a0), .val (.long q1), .second, .val (.ref a2), .val (.int p3), .val (.int p4), .val (.ref a5)] [(.ref a0)])) (fun _ k => XS.aloadN X2.here hx rfl (hb hby d3_29) rfl rfl k) ?_
  refine go (B := T2.setTop (mkF m 31 #[.val (.ref a0), .val (.long q1), .second, .val (.ref a2), .val (.int p3), .val (.int p4), .val (.ref a5)] [(.ref a2), (.ref a0)])) (fun _ k => XS.aloadN X2.here hx rfl (hb hby d3_30) rfl rfl k) ?_
  obtain ⟨sa3, T3, h3, k3, X3, e3, E3, S3, SKn3, hZ, hown, st3⟩ := ldcS X2 hx hZ hown (hw _ (List.mem_of_getElem? (i := 25) rfl)) (own_wS hw) e2 S0 SK2 (g := (mkF m 31 #[.val (.ref a0), .val (.long q1), .second, .val (.ref a2), .val (.int p3), .val (.int p4), .val (.ref a5)] [(.ref a2), (.ref a0)])) rfl (hb hby d3_31) (n := 16) (by decide) (by decide) (by decide) (by decide)
  have O3 := O2.ext E3
  have F_type_a0_3 := F_type_a0_2.ext E3
  have F_x_a0_3 := F_x_a0_2.ext E3
  have F_y_a0_3 := F_y_a0_2.ext E3
  have F_button_a0_3 := F_button_a0_2.ext E3
  have E_a0_3 := E_a0_2.ext E3
  have E_a2_3 := E_a2_2.ext E3
  have E_a5_3 := E_a5_2.ext E3
  have F_timeMs_a0_3 := F_timeMs_a0_2.ext E3
  have Z3 := Nat.le_trans Z2 E3.1
  have K3 := K2.ext E3
  have SK3 := Nat.le_trans SK2 E3.1
  refine go (B := T3.setTop (mkF m 33 #[.val (.ref a0), .val (.long q1), .second, .val (.ref a2), .val (.int p3), .val (.int p4), .val (.ref a5)] [(.ref sa3), (.ref a2), (.ref a0)])) st3 ?_
  obtain ⟨_, _, ⟨T4, L4, k4, n4⟩, -, X4, ⟨Lc4, hQ4, l4, y4, z4⟩, st4⟩ := Jvm.LawKit.callS X3 hx (y := (⟨"java/util/Objects", "requireNonNull", "(Ljava/lang/Object;Ljava/lang/String;)Ljava/lang/Object;"⟩ : MethodName)) hown (mvT hZ (hw _ (List.mem_of_getElem? (i := 33) rfl))) (mvT hZ (hw _ (List.mem_of_getElem? (i := 34) rfl))) (mvT hZ (hw _ (List.mem_of_getElem? (i := 35) rfl))) (mvT hZ (hw _ (List.mem_of_getElem? (i := 36) rfl))) (by decide) (backOf (W := 1) (rm5 l Z aw hw [] a2 sa3 h3 n0 Z3 O3) hZ (hw _ (List.mem_of_getElem? (i := 36) rfl)) (hw _ (List.mem_of_getElem? (i := 35) rfl)) (by decide) (by decide)) (g := (mkF m 33 #[.val (.ref a0), .val (.long q1), .second, .val (.ref a2), .val (.int p3), .val (.int p4), .val (.ref a5)] [(.ref sa3), (.ref a2), (.ref a0)])) rfl (by rw [hml]; rfl) (argsL := [(.ref a2), (.ref sa3)]) (rest := [(.ref a0)]) (lenOf pd_1 rfl) rfl (by show 2 * 0 + _ ≤ _; exact Nat.le_of_eq rfl) (hb hby d3_33) (fun _ _ => ⟨rfl, e3, (by decide : 2 + 0 ≤ _), (by decide : 20 + 0 ≤ _)⟩)
  dsimp only [Pt.U, Pt.locs, Pt.cells, Pt.slots] at X4 l4 y4 z4 st4 hQ4
  subst l4 y4 z4
  obtain ⟨rfl, rfl, e4⟩ := hQ4
  have N4 := Fr.app N2 (Fr.nil n0)
  refine go (B := T4.setTop (mkF m 36 #[.val (.ref a0), .val (.long q1), .second, .val (.ref a2), .val (.int p3), .val (.int p4), .val (.ref a5)] [(.ref a2), (.ref a0)])) (fun _ k => st4 _ k) ?_
  obtain ⟨T5, X5, e5, st5⟩ := castY X4 hx hZ hown (hw _ (List.mem_of_getElem? (i := 37) rfl)) e4 (Ins.self E_a2_3) (g := (mkF m 36 #[.val (.ref a0), .val (.long q1), .second, .val (.ref a2), .val (.int p3), .val (.int p4), .val (.ref a5)] [(.ref a2), (.ref a0)])) rfl rfl (hb hby d3_36)
  refine go (B := T5.setTop (mkF m 39 #[.val (.ref a0), .val (.long q1), .second, .val (.ref a2), .val (.int p3), .val (.int p4), .val (.ref a5)] [(.ref a2), (.ref a0)])) st5 ?_
  obtain ⟨T6, h6, X6, e6, W6, st6⟩ := putF X5 hx hZ hown (host := "") (Or.inl (hw _ (List.mem_of_getElem? (i := 39) rfl))) Via.refl e5 F_type_a0_3 E_a0_3 (Or.inr ⟨(hw _ (List.mem_of_getElem? (i := 40) rfl)), rfl, hnm⟩) (hw _ (List.mem_of_getElem? (i := 2) rfl)) (ty := (.object "com/example/fenced_widget/fencedwidget/protocol/InputType")) (by decide) rfl rfl (g := (mkF m 39 #[.val (.ref a0), .val (.long q1), .second, .val (.ref a2), .val (.int p3), .val (.int p4), .val (.ref a5)] [(.ref a2), (.ref a0)])) rfl rfl (hb hby d3_39)
  have O6 := O3.wr W6 g_a0
  have F_x_a0_6 := Fld.other W6 F_x_a0_3 (Or.inr (slot_ne (Or.inr (hw _ (List.mem_of_getElem? (i := 42) rfl))) (Or.inr (hw _ (List.mem_of_getElem? (i := 40) rfl))) (by decide) (t := .int) (t' := (.object "com/example/fenced_widget/fencedwidget/protocol/InputType")) (by decide) (by decide)))
  have F_y_a0_6 := Fld.other W6 F_y_a0_3 (Or.inr (slot_ne (Or.inr (hw _ (List.mem_of_getElem? (i := 44) rfl))) (Or.inr (hw _ (List.mem_of_getElem? (i := 40) rfl))) (by decide) (t := .int) (t' := (.object "com/example/fenced_widget/fencedwidget/protocol/InputType")) (by decide) (by decide)))
  have F_button_a0_6 := Fld.other W6 F_button_a0_3 (Or.inr (slot_ne (Or.inr (hw _ (List.mem_of_getElem? (i := 49) rfl))) (Or.inr (hw _ (List.mem_of_getElem? (i := 40) rfl))) (by decide) (t := (.object "com/example/fenced_widget/fencedwidget/protocol/Button")) (t' := (.object "com/example/fenced_widget/fencedwidget/protocol/InputType")) (by decide) (by decide)))
  have E_a0_6 := E_a0_3.wr W6
  have E_a2_6 := E_a2_3.wr W6
  have E_a5_6 := E_a5_3.wr W6
  have F_timeMs_a0_6 := Fld.other W6 F_timeMs_a0_3 (Or.inr (slot_ne (Or.inr (hw _ (List.mem_of_getElem? (i := 24) rfl))) (Or.inr (hw _ (List.mem_of_getElem? (i := 40) rfl))) (by decide) (t := .long) (t' := (.object "com/example/fenced_widget/fencedwidget/protocol/InputType")) (by decide) (by decide)))
  have F_type_a0_6 := Fld.same W6 F_type_a0_3
  have Z6 := Nat.le_trans Z3 (Keep.of_wr W6).1
  have SK6 := Nat.le_trans SKn3 (Keep.of_wr W6).1
  have K6 := K3.wr W6 (Or.inl (List.mem_of_getElem? (i := 0) rfl))
  have N6 := Fr.snoc X6 N4 g_a0
  refine go (B := T6.setTop (mkF m 42 #[.val (.ref a0), .val (.long q1), .second, .val (.ref a2), .val (.int p3), .val (.int p4), .val (.ref a5)] [])) st6 ?_
  refine go (B := T6.setTop (mkF m 43 #[.val (.ref a0), .val (.long q1), .second, .val (.ref a2), .val (.int p3), .val (.int p4), .val (.ref a5)] [(.ref a0)])) (fun _ k => XS.aloadN X6.here hx rfl (hb hby d3_42) rfl rfl k) ?_
  refine go (B := T6.setTop (mkF m 45 #[.val (.ref a0), .val (.long q1), .second, .val (.ref a2), .val (.int p3), .val (.int p4), .val (.ref a5)] [(.int p3), (.ref a0)])) (fun _ k => XS.iload X6.here hx rfl (hb hby d3_43) rfl k) ?_
  obtain ⟨T7, h7, X7, e7, W7, st7⟩ := putF X6 hx hZ hown (host := "") (Or.inl (hw _ (List.mem_of_getElem? (i := 41) rfl))) Via.refl e6 F_x_a0_6 E_a0_6 (Or.inr ⟨(hw _ (List.mem_of_getElem? (i := 42) rfl)), rfl, hnm⟩) (hw _ (List.mem_of_getElem? (i := 2) rfl)) (ty := .int) (by decide) rfl rfl (g := (mkF m 45 #[.val (.ref a0), .val (.long q1), .second, .val (.ref a2), .val (.int p3), .val (.int p4), .val (.ref a5)] [(.int p3), (.ref a0)])) rfl rfl (hb hby d3_45)
  have O7 := O6.wr W7 g_a0
  have F_y_a0_7 := Fld.other W7 F_y_a0_6 (Or.inr (slot_ne (Or.inr (hw _ (List.mem_of_getElem? (i := 44) rfl))) (Or.inr (hw _ (List.mem_of_getElem? (i := 42) rfl))) (by decide) (t := .int) (t' := .int) (by decide) (by decide)))
  have F_button_a0_7 := Fld.other W7 F_button_a0_6 (Or.inr (slot_ne (Or.inr (hw _ (List.mem_of_getElem? (i := 49) rfl))) (Or.inr (hw _ (List.mem_of_getElem? (i := 42) rfl))) (by decide) (t := (.object "com/example/fenced_widget/fencedwidget/protocol/Button")) (t' := .int) (by decide) (by decide)))
  have E_a0_7 := E_a0_6.wr W7
  have E_a2_7 := E_a2_6.wr W7
  have E_a5_7 := E_a5_6.wr W7
  have F_timeMs_a0_7 := Fld.other W7 F_timeMs_a0_6 (Or.inr (slot_ne (Or.inr (hw _ (List.mem_of_getElem? (i := 24) rfl))) (Or.inr (hw _ (List.mem_of_getElem? (i := 42) rfl))) (by decide) (t := .long) (t' := .int) (by decide) (by decide)))
  have F_type_a0_7 := Fld.other W7 F_type_a0_6 (Or.inr (slot_ne (Or.inr (hw _ (List.mem_of_getElem? (i := 40) rfl))) (Or.inr (hw _ (List.mem_of_getElem? (i := 42) rfl))) (by decide) (t := (.object "com/example/fenced_widget/fencedwidget/protocol/InputType")) (t' := .int) (by decide) (by decide)))
  have F_x_a0_7 := Fld.same W7 F_x_a0_6
  have Z7 := Nat.le_trans Z6 (Keep.of_wr W7).1
  have SK7 := Nat.le_trans SK6 (Keep.of_wr W7).1
  have K7 := K6.wr W7 (Or.inl (List.mem_of_getElem? (i := 0) rfl))
  have N7 := Fr.snoc X7 N6 g_a0
  refine go (B := T7.setTop (mkF m 48 #[.val (.ref a0), .val (.long q1), .second, .val (.ref a2), .val (.int p3), .val (.int p4), .val (.ref a5)] [])) st7 ?_
  refine go (B := T7.setTop (mkF m 49 #[.val (.ref a0), .val (.long q1), .second, .val (.ref a2), .val (.int p3), .val (.int p4), .val (.ref a5)] [(.ref a0)])) (fun _ k => XS.aloadN X7.here hx rfl (hb hby d3_48) rfl rfl k) ?_
  refine go (B := T7.setTop (mkF m 51 #[.val (.ref a0), .val (.long q1), .second, .val (.ref a2), .val (.int p3), .val (.int p4), .val (.ref a5)] [(.int p4), (.ref a0)])) (fun _ k => XS.iload X7.here hx rfl (hb hby d3_49) rfl k) ?_
  obtain ⟨T8, h8, X8, e8, W8, st8⟩ := putF X7 hx hZ hown (host := "") (Or.inl (hw _ (List.mem_of_getElem? (i := 43) rfl))) Via.refl e7 F_y_a0_7 E_a0_7 (Or.inr ⟨(hw _ (List.mem_of_getElem? (i := 44) rfl)), rfl, hnm⟩) (hw _ (List.mem_of_getElem? (i := 2) rfl)) (ty := .int) (by decide) rfl rfl (g := (mkF m 51 #[.val (.ref a0), .val (.long q1), .second, .val (.ref a2), .val (.int p3), .val (.int p4), .val (.ref a5)] [(.int p4), (.ref a0)])) rfl rfl (hb hby d3_51)
  have O8 := O7.wr W8 g_a0
  have F_button_a0_8 := Fld.other W8 F_button_a0_7 (Or.inr (slot_ne (Or.inr (hw _ (List.mem_of_getElem? (i := 49) rfl))) (Or.inr (hw _ (List.mem_of_getElem? (i := 44) rfl))) (by decide) (t := (.object "com/example/fenced_widget/fencedwidget/protocol/Button")) (t' := .int) (by decide) (by decide)))
  have E_a0_8 := E_a0_7.wr W8
  have E_a2_8 := E_a2_7.wr W8
  have E_a5_8 := E_a5_7.wr W8
  have F_timeMs_a0_8 := Fld.other W8 F_timeMs_a0_7 (Or.inr (slot_ne (Or.inr (hw _ (List.mem_of_getElem? (i := 24) rfl))) (Or.inr (hw _ (List.mem_of_getElem? (i := 44) rfl))) (by decide) (t := .long) (t' := .int) (by decide) (by decide)))
  have F_type_a0_8 := Fld.other W8 F_type_a0_7 (Or.inr (slot_ne (Or.inr (hw _ (List.mem_of_getElem? (i := 40) rfl))) (Or.inr (hw _ (List.mem_of_getElem? (i := 44) rfl))) (by decide) (t := (.object "com/example/fenced_widget/fencedwidget/protocol/InputType")) (t' := .int) (by decide) (by decide)))
  have F_x_a0_8 := Fld.other W8 F_x_a0_7 (Or.inr (slot_ne (Or.inr (hw _ (List.mem_of_getElem? (i := 42) rfl))) (Or.inr (hw _ (List.mem_of_getElem? (i := 44) rfl))) (by decide) (t := .int) (t' := .int) (by decide) (by decide)))
  have F_y_a0_8 := Fld.same W8 F_y_a0_7
  have Z8 := Nat.le_trans Z7 (Keep.of_wr W8).1
  have SK8 := Nat.le_trans SK7 (Keep.of_wr W8).1
  have K8 := K7.wr W8 (Or.inl (List.mem_of_getElem? (i := 0) rfl))
  have N8 := Fr.snoc X8 N7 g_a0
  refine go (B := T8.setTop (mkF m 54 #[.val (.ref a0), .val (.long q1), .second, .val (.ref a2), .val (.int p3), .val (.int p4), .val (.ref a5)] [])) st8 ?_
  refine go (B := T8.setTop (mkF m 55 #[.val (.ref a0), .val (.long q1), .second, .val (.ref a2), .val (.int p3), .val (.int p4), .val (.ref a5)] [(.ref a0)])) (fun _ k => XS.aloadN X8.here hx rfl (hb hby d3_54) rfl rfl k) ?_
  refine go (B := T8.setTop (mkF m 57 #[.val (.ref a0), .val (.long q1), .second, .val (.ref a2), .val (.int p3), .val (.int p4), .val (.ref a5)] [(.ref a5), (.ref a0)])) (fun _ k => XS.aload X8.here hx rfl (hb hby d3_55) rfl rfl k) ?_
  obtain ⟨sa9, T9, h9, k9, X9, e9, E9, S9, SKn9, hZ, hown, st9⟩ := ldcS X8 hx hZ hown (hw _ (List.mem_of_getElem? (i := 45) rfl)) (own_wS hw) e8 S3 SK8 (g := (mkF m 57 #[.val (.ref a0), .val (.long q1), .second, .val (.ref a2), .val (.int p3), .val (.int p4), .val (.ref a5)] [(.ref a5), (.ref a0)])) rfl (hb hby d3_57) (n := 24) (by decide) (by decide) (by decide) (by decide)
  have O9 := O8.ext E9
  have F_button_a0_9 := F_button_a0_8.ext E9
  have E_a0_9 := E_a0_8.ext E9
  have E_a2_9 := E_a2_8.ext E9
  have E_a5_9 := E_a5_8.ext E9
  have F_timeMs_a0_9 := F_timeMs_a0_8.ext E9
  have F_type_a0_9 := F_type_a0_8.ext E9
  have F_x_a0_9 := F_x_a0_8.ext E9
  have F_y_a0_9 := F_y_a0_8.ext E9
  have Z9 := Nat.le_trans Z8 E9.1
  have K9 := K8.ext E9
  have SK9 := Nat.le_trans SK8 E9.1
  refine go (B := T9.setTop (mkF m 59 #[.val (.ref a0), .val (.long q1), .second, .val (.ref a2), .val (.int p3), .val (.int p4), .val (.ref a5)] [(.ref sa9), (.ref a5), (.ref a0)])) st9 ?_
  obtain ⟨_, _, ⟨T10, L10, k10, n10⟩, -, X10, ⟨Lc10, hQ10, l10, y10, z10⟩, st10⟩ := Jvm.LawKit.callS X9 hx (y := (⟨"java/util/Objects", "requireNonNull", "(Ljava/lang/Object;Ljava/lang/String;)Ljava/lang/Object;"⟩ : MethodName)) hown (mvT hZ (hw _ (List.mem_of_getElem? (i := 33) rfl))) (mvT hZ (hw _ (List.mem_of_getElem? (i := 34) rfl))) (mvT hZ (hw _ (List.mem_of_getElem? (i := 35) rfl))) (mvT hZ (hw _ (List.mem_of_getElem? (i := 36) rfl))) (by decide) (backOf (W := 1) (rm5 l Z aw hw [] a5 sa9 h9 n0 Z9 O9) hZ (hw _ (List.mem_of_getElem? (i := 36) rfl)) (hw _ (List.mem_of_getElem? (i := 35) rfl)) (by decide) (by decide)) (g := (mkF m 59 #[.val (.ref a0), .val (.long q1), .second, .val (.ref a2), .val (.int p3), .val (.int p4), .val (.ref a5)] [(.ref sa9), (.ref a5), (.ref a0)])) rfl (by rw [hml]; rfl) (argsL := [(.ref a5), (.ref sa9)]) (rest := [(.ref a0)]) (lenOf pd_1 rfl) rfl (by show 2 * 0 + _ ≤ _; exact Nat.le_of_eq rfl) (hb hby d3_59) (fun _ _ => ⟨rfl, e9, (by decide : 4 + 0 ≤ _), (by decide : 48 + 0 ≤ _)⟩)
  dsimp only [Pt.U, Pt.locs, Pt.cells, Pt.slots] at X10 l10 y10 z10 st10 hQ10
  subst l10 y10 z10
  obtain ⟨rfl, rfl, e10⟩ := hQ10
  have N10 := Fr.app N8 (Fr.nil n0)
  refine go (B := T10.setTop (mkF m 62 #[.val (.ref a0), .val (.long q1), .second, .val (.ref a2), .val (.int p3), .val (.int p4), .val (.ref a5)] [(.ref a5), (.ref a0)])) (fun _ k => st10 _ k) ?_
  obtain ⟨T11, X11, e11, st11⟩ := castY X10 hx hZ hown (hw _ (List.mem_of_getElem? (i := 46) rfl)) e10 (Ins.self E_a5_9) (g := (mkF m 62 #[.val (.ref a0), .val (.long q1), .second, .val (.ref a2), .val (.int p3), .val (.int p4), .val (.ref a5)] [(.ref a5), (.ref a0)])) rfl rfl (hb hby d3_62)
  refine go (B := T11.setTop (mkF m 65 #[.val (.ref a0), .val (.long q1), .second, .val (.ref a2), .val (.int p3), .val (.int p4), .val (.ref a5)] [(.ref a5), (.ref a0)])) st11 ?_
  obtain ⟨T12, h12, X12, e12, W12, st12⟩ := putF X11 hx hZ hown (host := "") (Or.inl (hw _ (List.mem_of_getElem? (i := 48) rfl))) Via.refl e11 F_button_a0_9 E_a0_9 (Or.inr ⟨(hw _ (List.mem_of_getElem? (i := 49) rfl)), rfl, hnm⟩) (hw _ (List.mem_of_getElem? (i := 2) rfl)) (ty := (.object "com/example/fenced_widget/fencedwidget/protocol/Button")) (by decide) rfl rfl (g := (mkF m 65 #[.val (.ref a0), .val (.long q1), .second, .val (.ref a2), .val (.int p3), .val (.int p4), .val (.ref a5)] [(.ref a5), (.ref a0)])) rfl rfl (hb hby d3_65)
  have O12 := O9.wr W12 g_a0
  have E_a0_12 := E_a0_9.wr W12
  have E_a2_12 := E_a2_9.wr W12
  have E_a5_12 := E_a5_9.wr W12
  have F_timeMs_a0_12 := Fld.other W12 F_timeMs_a0_9 (Or.inr (slot_ne (Or.inr (hw _ (List.mem_of_getElem? (i := 24) rfl))) (Or.inr (hw _ (List.mem_of_getElem? (i := 49) rfl))) (by decide) (t := .long) (t' := (.object "com/example/fenced_widget/fencedwidget/protocol/Button")) (by decide) (by decide)))
  have F_type_a0_12 := Fld.other W12 F_type_a0_9 (Or.inr (slot_ne (Or.inr (hw _ (List.mem_of_getElem? (i := 40) rfl))) (Or.inr (hw _ (List.mem_of_getElem? (i := 49) rfl))) (by decide) (t := (.object "com/example/fenced_widget/fencedwidget/protocol/InputType")) (t' := (.object "com/example/fenced_widget/fencedwidget/protocol/Button")) (by decide) (by decide)))
  have F_x_a0_12 := Fld.other W12 F_x_a0_9 (Or.inr (slot_ne (Or.inr (hw _ (List.mem_of_getElem? (i := 42) rfl))) (Or.inr (hw _ (List.mem_of_getElem? (i := 49) rfl))) (by decide) (t := .int) (t' := (.object "com/example/fenced_widget/fencedwidget/protocol/Button")) (by decide) (by decide)))
  have F_y_a0_12 := Fld.other W12 F_y_a0_9 (Or.inr (slot_ne (Or.inr (hw _ (List.mem_of_getElem? (i := 44) rfl))) (Or.inr (hw _ (List.mem_of_getElem? (i := 49) rfl))) (by decide) (t := .int) (t' := (.object "com/example/fenced_widget/fencedwidget/protocol/Button")) (by decide) (by decide)))
  have F_button_a0_12 := Fld.same W12 F_button_a0_9
  have Z12 := Nat.le_trans Z9 (Keep.of_wr W12).1
  have SK12 := Nat.le_trans SKn9 (Keep.of_wr W12).1
  have K12 := K9.wr W12 (Or.inl (List.mem_of_getElem? (i := 0) rfl))
  have N12 := Fr.snoc X12 N10 g_a0
  refine go (B := T12.setTop (mkF m 68 #[.val (.ref a0), .val (.long q1), .second, .val (.ref a2), .val (.int p3), .val (.int p4), .val (.ref a5)] [])) st12 ?_
  exact end_voidW X12 S9 SK12 hx Bd.notSynchronized Bd.returns (hb hby d3_68) hF e12 (by decide) (by decide) ⟨rfl, N12, K12, E_a0_12, F_timeMs_a0_12, F_type_a0_12, F_x_a0_12, F_y_a0_12, F_button_a0_12⟩
def own_Bx (Z : State) (a : Addr) (c : Cell) : Prop := Arr Z Z.heap a c (.object "java/lang/Long") ∧ c.slots.size = 256 ∧ ∀ j : Int32, ¬ (j < 0 ∨ c.slots.size ≤ j.toNatClampNeg) → ∃ b : Addr, c.slots[j.toNatClampNeg]? = some (.ref b) ∧ Exa Z Z.heap b "java/lang/Long"
theorem own_idx {p : Int64} (h1 : ¬ lcmpW p (-128 : Int64) < (0 : Int32)) (h2 : ¬ (0 : Int32) < lcmpW p (127 : Int64)) : ¬ (((p.toInt32) + (128 : Int32)) < 0 ∨ 256 ≤ ((p.toInt32) + (128 : Int32)).toNatClampNeg) := by
  rw [lw_lt, Int64.lt_iff_toInt_lt] at h1
  rw [lw_gt, Int64.lt_iff_toInt_lt] at h2
  have a1 : (-128 : Int64).toInt = -128 := rfl
  have a2 : (127 : Int64).toInt = 127 := rfl
  have a3 : (128 : Int32).toInt = 128 := rfl
  have a0 : (0 : Int32).toInt = 0 := rfl
  rw [a1] at h1; rw [a2] at h2
  have e : (p.toInt32).toInt = p.toInt := by
    rw [Int64.toInt_toInt32]
    exact Int.bmod_eq_of_le (by omega) (by omega)
  have e2 : ((p.toInt32) + (128 : Int32)).toInt = p.toInt + 128 := by
    rw [Int32.toInt_add, e, a3]
    exact Int.bmod_eq_of_le (by omega) (by omega)
  rw [Int32.lt_iff_toInt_lt]
  simp only [Int32.toNatClampNeg, e2, a0]
  omega
theorem own_ty {Z : State} {h : Heap} {C : String} {x : Int32} {a b c : Addr} (A : Exa Z h a C) (B : Exa Z h b C) (D : Exa Z h c C) : Exa Z h (f1 x a b c) C := by
  unfold f1; split
  · assumption
  · split <;> assumption
theorem own_bu {Z : State} {h : Heap} {C : String} {x : Int32} {a b c : Addr} (A : Exa Z h a C) (B : Exa Z h b C) (D : Exa Z h c C) : Exa Z h (f2 x a b c) C := by
  unfold f2; split
  · assumption
  · split <;> assumption
theorem own_and (x : Int64) : ¬ lcmpW (x &&& (9223372036854775807 : Int64)) (0 : Int64) < (0 : Int32) := by
  rw [lw_lt, Int64.lt_iff_toInt_lt]
  have h : (x &&& 9223372036854775807).toBitVec.toNat < 9223372036854775808 := by
    rw [Int64.toBitVec_and, BitVec.toNat_and]
    exact Nat.lt_of_le_of_lt Nat.and_le_right (by decide)
  have e : (x &&& 9223372036854775807).toInt = (x &&& 9223372036854775807).toBitVec.toNat := by
    show (x &&& 9223372036854775807).toBitVec.toInt = _
    rw [BitVec.toInt_eq_toNat_cond, if_pos (by omega)]
  have : (0 : Int64).toInt = 0 := rfl
  omega
theorem pd_2 : parseMethodDescriptor "(J)V" = some ⟨[.long], none⟩ := by decide +kernel
theorem d7_0 : decode jdk_35_method_24_code 0 = .ok (.sipush 128, 3) := by decide +kernel
theorem d7_3 : decode jdk_35_method_24_code 3 = .ok (.istore_n 2, 1) := by decide +kernel
theorem d7_4 : decode jdk_35_method_24_code 4 = .ok (.lload_n 0, 1) := by decide +kernel
theorem d7_5 : decode jdk_35_method_24_code 5 = .ok (.ldc2_w 230, 3) := by decide +kernel
theorem d7_8 : decode jdk_35_method_24_code 8 = .ok (.lcmp, 1) := by decide +kernel
theorem d7_9 : decode jdk_35_method_24_code 9 = .ok (.ifCond .lt 22, 3) := by decide +kernel
theorem d7_12 : decode jdk_35_method_24_code 12 = .ok (.lload_n 0, 1) := by decide +kernel
theorem d7_13 : decode jdk_35_method_24_code 13 = .ok (.ldc2_w 232, 3) := by decide +kernel
theorem d7_16 : decode jdk_35_method_24_code 16 = .ok (.lcmp, 1) := by decide +kernel
theorem d7_17 : decode jdk_35_method_24_code 17 = .ok (.ifCond .gt 14, 3) := by decide +kernel
theorem d7_20 : decode jdk_35_method_24_code 20 = .ok (.getstatic 234, 3) := by decide +kernel
theorem d7_23 : decode jdk_35_method_24_code 23 = .ok (.lload_n 0, 1) := by decide +kernel
theorem d7_24 : decode jdk_35_method_24_code 24 = .ok (.l2i, 1) := by decide +kernel
theorem d7_25 : decode jdk_35_method_24_code 25 = .ok (.sipush 128, 3) := by decide +kernel
theorem d7_28 : decode jdk_35_method_24_code 28 = .ok (.iadd, 1) := by decide +kernel
theorem d7_29 : decode jdk_35_method_24_code 29 = .ok (.aaload, 1) := by decide +kernel
theorem d7_30 : decode jdk_35_method_24_code 30 = .ok (.areturn, 1) := by decide +kernel
theorem d7_31 : decode jdk_35_method_24_code 31 = .ok (.new 1, 3) := by decide +kernel
theorem d7_34 : decode jdk_35_method_24_code 34 = .ok (.dup, 1) := by decide +kernel
theorem d7_35 : decode jdk_35_method_24_code 35 = .ok (.lload_n 0, 1) := by decide +kernel
theorem d7_36 : decode jdk_35_method_24_code 36 = .ok (.invokespecial 240, 3) := by decide +kernel
theorem d7_39 : decode jdk_35_method_24_code 39 = .ok (.areturn, 1) := by decide +kernel
theorem ef_7 (m : MethodId) (q0 : Int64) : entryFrame m #[(.long q0)] 3 = mkF m 0 #[.val (.long q0), .second, .unset] [] := by first | (simp [entryFrame, mkF, argsToLocals, Value.category]; done) | rfl
abbrev room7 : Room := { frames := 3, cells := 1, slots := 1, locals := 39 }
def Q7 (Z : State) (q0 : Int64) (w_cache : Addr) (cl_w_cache : Cell) (h0 : Heap) (n0 : Nat) (v : Option Value) (h : Heap) (L : List Loc) : Prop := ∃ r : Addr, v = some (.ref r) ∧ Fr n0 L ∧ Keep h0 h [] ∧ Exa Z h r "java/lang/Long"
set_option maxRecDepth 65536 in
set_option maxHeartbeats 40000000 in
theorem rm7 (l : Launch) (Z : State) (aw : Array Value) (hw : ∀ d ∈ tables_1, d.before aw Z = true) (ws : List Jvm.Cond) (q0 : Int64) (w_cache : Addr) (cl_w_cache : Cell) (h0 : Heap) (n0 : Nat) (Z0 : n0 ≤ h0.size) (O0 : Old Z n0 h0) (S_cache : Sta Z Z.heap "java/lang/Long$LongCache" "cache" "[Ljava/lang/Long;" (.ref w_cache)) (B_w_cache : own_Bx Z w_cache cl_w_cache) :
    MetFree l (⟨"java/lang/Long", "valueOf", "(J)Ljava/lang/Long;"⟩ : MethodName) (head1 (Jvm.Cond.code (⟨"java/lang/Long", "valueOf", "(J)Ljava/lang/Long;"⟩ : MethodName) jdk_35_method_24_code 3 (some (.object "java/lang/Long")) :: ws) room7) (fun a U => a = #[(.long q0)] ∧ Z.Warmed39 U.vm ∧ U.heap = h0) (fun _ _ _ _ _ => True) (fun _ U o U' => ∃ v L, o = .returned v ∧ Q7 Z q0 w_cache cl_w_cache h0 n0 v U'.heap L ∧ FrameEnd U o U' L room7.cells room7.slots) := by
  refine MetFree.of_bodySF (plainFor_of_name pn_8) hisR ?_
  intro p e s m args below meth c s₁ Bd hml0 hP hK
  obtain ⟨rfl, hZ, hh⟩ := hP
  have hx := Bd.exec
  have hby := Bd.bytes
  have hml : c.maxLocals = 3 := hml0
  have hown : s.vm.findClass "java/lang/Long" = some m.cls := findClass_of_methodNamed Bd.named
  have hnm := (name_of_methodNamed Bd.named Bd.method).1
  have X0 : Stand p l e room7 s m #[(.long q0)] below meth c s₁ [] 0 0 := Stand.of_body Bd
  have e0 : s₁.heap = h0 := by rw [← hh, Bd.state]; rfl
  have N0 := Fr.nil n0
  have K0 := Keep.refl h0 []
  rw [ef_7 m q0]
  refine go_in (s₁ := s₁) (Q := Q7 Z q0 w_cache cl_w_cache h0 n0) fun F hF => ?_
  refine go (B := s₁.setTop (mkF m 3 #[.val (.long q0), .second, .unset] [(.int (128 : Int32))])) (fun _ k => XS.sipush X0.here hx rfl (hb hby d7_0) k) ?_
  refine go (B := s₁.setTop (mkF m 4 #[.val (.long q0), .second, .val (.int (128 : Int32))] [])) (fun _ k => XS.istoreN X0.here hx rfl (hb hby d7_3) rfl (l' := #[.val (.long q0), .second, .val (.int (128 : Int32))]) rfl k) ?_
  refine go (B := s₁.setTop (mkF m 5 #[.val (.long q0), .second, .val (.int (128 : Int32))] [(.long q0)])) (fun _ k => XS.lloadN X0.here hx rfl (hb hby d7_4) rfl k) ?_
  refine go (B := s₁.setTop (mkF m 8 #[.val (.long q0), .second, .val (.int (128 : Int32))] [(.long (-128 : Int64)), (.long q0)])) (fun _ k => X0.ldc2Long hx hown (mvT hZ (hw _ (List.mem_of_getElem? (i := 69) rfl))) (g := (mkF m 5 #[.val (.long q0), .second, .val (.int (128 : Int32))] [(.long q0)])) rfl (hb hby d7_5) _ k) ?_
  refine go (B := s₁.setTop (mkF m 9 #[.val (.long q0), .second, .val (.int (128 : Int32))] [(.int (lcmpW q0 (-128 : Int64)))])) (fun _ k => XS.lcmp X0.here hx rfl (hb hby d7_8) rfl k) ?_
  by_cases hc1 : (lcmpW q0 (-128 : Int64)) < (0 : Int32)
  · refine go (B := s₁.setTop (mkF m 31 #[.val (.long q0), .second, .val (.int (128 : Int32))] [])) (fun _ k => XS.ifYes X0.here hx rfl (pc0 := 9) (pc' := 31) rfl (hb hby d7_9) rfl ((if0 _ _).trans (tlt hc1).1) (by decide) (by decide) k) ?_
    obtain ⟨T2, h2, X2, e2, E2, A2, D2, -, st2⟩ := newO X0 hx hZ hown (hw _ (List.mem_of_getElem? (i := 71) rfl)) (hw _ (List.mem_of_getElem? (i := 72) rfl)) (hw _ (List.mem_of_getElem? (i := 67) rfl)) e0 (g := (mkF m 31 #[.val (.long q0), .second, .val (.int (128 : Int32))] [])) rfl (hb hby d7_31) (by decide) (by decide)
    obtain ⟨b2, g2⟩ : ∃ z, z = h0.size := ⟨_, rfl⟩
    rw [← g2] at A2 D2 st2
    have g_b2 : n0 ≤ b2 := Nat.le_trans Z0 (Nat.le_of_eq g2.symm)
    have sz_b2 : h0.size ≤ b2 := Nat.le_trans K0.1 (Nat.le_of_eq g2.symm)
    have O2 := O0.ext E2
    have Z2 := Nat.le_trans Z0 E2.1
    have K2 := K0.ext E2
    have F_value_b2 : Fld Z h2 b2 "java/lang/Long" "value" "J" (.long (0 : Int64)) := D2 (Or.inr (hw _ (List.mem_of_getElem? (i := 85) rfl))) (ty := .long) (by decide)
    have E_b2 := A2
    refine go (B := T2.setTop (mkF m 34 #[.val (.long q0), .second, .val (.int (128 : Int32))] [(.ref b2)])) st2 ?_
    refine go (B := T2.setTop (mkF m 35 #[.val (.long q0), .second, .val (.int (128 : Int32))] [(.ref b2), (.ref b2)])) (fun _ k => XS.dup X2.here hx rfl (hb hby d7_34) rfl rfl k) ?_
    refine go (B := T2.setTop (mkF m 36 #[.val (.long q0), .second, .val (.int (128 : Int32))] [(.long q0), (.ref b2), (.ref b2)])) (fun _ k => XS.lloadN X2.here hx rfl (hb hby d7_35) rfl k) ?_
    obtain ⟨_, _, ⟨T3, L3, k3, n3⟩, -, X3, ⟨Lc3, hQ3, l3, y3, z3⟩, st3⟩ := X2.specialBack hx (y := (⟨"java/lang/Long", "<init>", "(J)V"⟩ : MethodName)) rfl hown (mvT hZ (hw _ (List.mem_of_getElem? (i := 73) rfl))) (mvT hZ (hw _ (List.mem_of_getElem? (i := 74) rfl))) (mvT hZ (hw _ (List.mem_of_getElem? (i := 76) rfl))) (by decide) (backOf (W := 1) (rm8 l Z aw hw [] b2 q0 h2 n0 Z2 O2 F_value_b2 E_b2 g_b2) hZ (hw _ (List.mem_of_getElem? (i := 76) rfl)) (hw _ (List.mem_of_getElem? (i := 67) rfl)) (by decide) (by decide)) (g := (mkF m 36 #[.val (.long q0), .second, .val (.int (128 : Int32))] [(.long q0), (.ref b2), (.ref b2)])) rfl (by rw [hml]; rfl) (Steps.refl _) (a := b2) (argsL := [(.long q0)]) (rest := [(.ref b2)]) (lenOf pd_2 rfl) rfl (by show 2 * 0 + _ ≤ _; exact Nat.le_of_eq rfl) (hb hby d7_36) (fun _ _ => ⟨rfl, e2, (by decide : 1 + 0 ≤ _), (by decide : 1 + 0 ≤ _)⟩)
    dsimp only [Pt.U, Pt.locs, Pt.cells, Pt.slots] at X3 l3 y3 z3 st3 hQ3
    subst l3 y3 z3
    obtain ⟨rfl, N3q, Kc3, o3_0, o3_1⟩ := hQ3
    have O3 := O2.keep Kc3 (allS g_b2 all0)
    have E_b2_3 := E_b2.keep Kc3
    have N3 := Fr.app N0 N3q
    have Z3 := Nat.le_trans Z2 Kc3.1
    have K3 := K2.trans Kc3 (allS (Or.inr sz_b2) all0)
    refine go (B := T3.setTop (mkF m 39 #[.val (.long q0), .second, .val (.int (128 : Int32))] [(.ref b2)])) (fun _ k => st3.trans k) ?_
    exact end_ref X3 hx Bd.notSynchronized Bd.returns rfl rfl rfl (hb hby d7_39) hF rfl (by decide) (by decide) ⟨b2, rfl, N3, K3, o3_0⟩
  · refine go (B := s₁.setTop (mkF m 12 #[.val (.long q0), .second, .val (.int (128 : Int32))] [])) (fun _ k => XS.ifNo X0.here hx rfl (hb hby d7_9) rfl ((if0 _ _).trans (flt hc1).1) k) ?_
    refine go (B := s₁.setTop (mkF m 13 #[.val (.long q0), .second, .val (.int (128 : Int32))] [(.long q0)])) (fun _ k => XS.lloadN X0.here hx rfl (hb hby d7_12) rfl k) ?_
    refine go (B := s₁.setTop (mkF m 16 #[.val (.long q0), .second, .val (.int (128 : Int32))] [(.long (127 : Int64)), (.long q0)])) (fun _ k => X0.ldc2Long hx hown (mvT hZ (hw _ (List.mem_of_getElem? (i := 70) rfl))) (g := (mkF m 13 #[.val (.long q0), .second, .val (.int (128 : Int32))] [(.long q0)])) rfl (hb hby d7_13) _ k) ?_
    refine go (B := s₁.setTop (mkF m 17 #[.val (.long q0), .second, .val (.int (128 : Int32))] [(.int (lcmpW q0 (127 : Int64)))])) (fun _ k => XS.lcmp X0.here hx rfl (hb hby d7_16) rfl k) ?_
    by_cases hc4 : (0 : Int32) < (lcmpW q0 (127 : Int64))
    · refine go (B := s₁.setTop (mkF m 31 #[.val (.long q0), .second, .val (.int (128 : Int32))] [])) (fun _ k => XS.ifYes X0.here hx rfl (pc0 := 17) (pc' := 31) rfl (hb hby d7_17) rfl ((if0 _ _).trans (tlt hc4).2.2.1) (by decide) (by decide) k) ?_
      obtain ⟨T5, h5, X5, e5, E5, A5, D5, -, st5⟩ := newO X0 hx hZ hown (hw _ (List.mem_of_getElem? (i := 71) rfl)) (hw _ (List.mem_of_getElem? (i := 72) rfl)) (hw _ (List.mem_of_getElem? (i := 67) rfl)) e0 (g := (mkF m 31 #[.val (.long q0), .second, .val (.int (128 : Int32))] [])) rfl (hb hby d7_31) (by decide) (by decide)
      obtain ⟨b5, g5⟩ : ∃ z, z = h0.size := ⟨_, rfl⟩
      rw [← g5] at A5 D5 st5
      have g_b5 : n0 ≤ b5 := Nat.le_trans Z0 (Nat.le_of_eq g5.symm)
      have sz_b5 : h0.size ≤ b5 := Nat.le_trans K0.1 (Nat.le_of_eq g5.symm)
      have O5 := O0.ext E5
      have Z5 := Nat.le_trans Z0 E5.1
      have K5 := K0.ext E5
      have F_value_b5 : Fld Z h5 b5 "java/lang/Long" "value" "J" (.long (0 : Int64)) := D5 (Or.inr (hw _ (List.mem_of_getElem? (i := 85) rfl))) (ty := .long) (by decide)
      have E_b5 := A5
      refine go (B := T5.setTop (mkF m 34 #[.val (.long q0), .second, .val (.int (128 : Int32))] [(.ref b5)])) st5 ?_
      refine go (B := T5.setTop (mkF m 35 #[.val (.long q0), .second, .val (.int (128 : Int32))] [(.ref b5), (.ref b5)])) (fun _ k => XS.dup X5.here hx rfl (hb hby d7_34) rfl rfl k) ?_
      refine go (B := T5.setTop (mkF m 36 #[.val (.long q0), .second, .val (.int (128 : Int32))] [(.long q0), (.ref b5), (.ref b5)])) (fun _ k => XS.lloadN X5.here hx rfl (hb hby d7_35) rfl k) ?_
      obtain ⟨_, _, ⟨T6, L6, k6, n6⟩, -, X6, ⟨Lc6, hQ6, l6, y6, z6⟩, st6⟩ := X5.specialBack hx (y := (⟨"java/lang/Long", "<init>", "(J)V"⟩ : MethodName)) rfl hown (mvT hZ (hw _ (List.mem_of_getElem? (i := 73) rfl))) (mvT hZ (hw _ (List.mem_of_getElem? (i := 74) rfl))) (mvT hZ (hw _ (List.mem_of_getElem? (i := 76) rfl))) (by decide) (backOf (W := 1) (rm8 l Z aw hw [] b5 q0 h5 n0 Z5 O5 F_value_b5 E_b5 g_b5) hZ (hw _ (List.mem_of_getElem? (i := 76) rfl)) (hw _ (List.mem_of_getElem? (i := 67) rfl)) (by decide) (by decide)) (g := (mkF m 36 #[.val (.long q0), .second, .val (.int (128 : Int32))] [(.long q0), (.ref b5), (.ref b5)])) rfl (by rw [hml]; rfl) (Steps.refl _) (a := b5) (argsL := [(.long q0)]) (rest := [(.ref b5)]) (lenOf pd_2 rfl) rfl (by show 2 * 0 + _ ≤ _; exact Nat.le_of_eq rfl) (hb hby d7_36) (fun _ _ => ⟨rfl, e5, (by decide : 1 + 0 ≤ _), (by decide : 1 + 0 ≤ _)⟩)
      dsimp only [Pt.U, Pt.locs, Pt.cells, Pt.slots] at X6 l6 y6 z6 st6 hQ6
      subst l6 y6 z6
      obtain ⟨rfl, N6q, Kc6, o6_0, o6_1⟩ := hQ6
      have O6 := O5.keep Kc6 (allS g_b5 all0)
      have E_b5_6 := E_b5.keep Kc6
      have N6 := Fr.app N0 N6q
      have Z6 := Nat.le_trans Z5 Kc6.1
      have K6 := K5.trans Kc6 (allS (Or.inr sz_b5) all0)
      refine go (B := T6.setTop (mkF m 39 #[.val (.long q0), .second, .val (.int (128 : Int32))] [(.ref b5)])) (fun _ k => st6.trans k) ?_
      exact end_ref X6 hx Bd.notSynchronized Bd.returns rfl rfl rfl (hb hby d7_39) hF rfl (by decide) (by decide) ⟨b5, rfl, N6, K6, o6_0⟩
    · refine go (B := s₁.setTop (mkF m 20 #[.val (.long q0), .second, .val (.int (128 : Int32))] [])) (fun _ k => XS.ifNo X0.here hx rfl (hb hby d7_17) rfl ((if0 _ _).trans (flt hc4).2.2.1) k) ?_
      obtain ⟨T7, X7, e7, st7⟩ := getS2 X0 hx hZ hown (host := "") (Or.inl (hw _ (List.mem_of_getElem? (i := 89) rfl))) Via.refl e0 (S_cache.ext O0.2) (g := (mkF m 20 #[.val (.long q0), .second, .val (.int (128 : Int32))] [])) rfl (hb hby d7_20)
      refine go (B := T7.setTop (mkF m 23 #[.val (.long q0), .second, .val (.int (128 : Int32))] [(.ref w_cache)])) st7 ?_
      refine go (B := T7.setTop (mkF m 24 #[.val (.long q0), .second, .val (.int (128 : Int32))] [(.long q0), (.ref w_cache)])) (fun _ k => XS.lloadN X7.here hx rfl (hb hby d7_23) rfl k) ?_
      refine go (B := T7.setTop (mkF m 25 #[.val (.long q0), .second, .val (.int (128 : Int32))] [(.int (q0.toInt32)), (.ref w_cache)])) (fun _ k => XS.l2i X7.here hx rfl (hb hby d7_24) rfl k) ?_
      refine go (B := T7.setTop (mkF m 28 #[.val (.long q0), .second, .val (.int (128 : Int32))] [(.int (128 : Int32)), (.int (q0.toInt32)), (.ref w_cache)])) (fun _ k => XS.sipush X7.here hx rfl (hb hby d7_25) k) ?_
      refine go (B := T7.setTop (mkF m 29 #[.val (.long q0), .second, .val (.int (128 : Int32))] [(.int ((q0.toInt32) + (128 : Int32))), (.ref w_cache)])) (fun _ k => XS.iadd X7.here hx rfl (hb hby d7_28) rfl k) ?_
      obtain ⟨Ac8, sz8, el8⟩ := B_w_cache
      have Ae8 := Ac8.ext O0.2
      have hin8 : ¬ (((q0.toInt32) + (128 : Int32)) < 0 ∨ cl_w_cache.slots.size ≤ (((q0.toInt32) + (128 : Int32))).toNatClampNeg) := by rw [sz8]; exact own_idx hc1 hc4
      obtain ⟨rb8, hat8, Er8⟩ := el8 _ hin8
      have E_rb8 := Er8.ext O0.2
      refine go (B := T7.setTop (mkF m 30 #[.val (.long q0), .second, .val (.int (128 : Int32))] [(.ref rb8)])) (fun _ k => X7.aaload hx (j := ((q0.toInt32) + (128 : Int32))) (v := (.ref rb8)) (by rw [e7]; exact Ae8.1) (State.isArrayOf_alike hZ.alike Ae8.2.1) rfl Ae8.2.2 hin8 hat8 (g := (mkF m 29 #[.val (.long q0), .second, .val (.int (128 : Int32))] [(.int ((q0.toInt32) + (128 : Int32))), (.ref w_cache)])) rfl rfl (hb hby d7_29) _ k) ?_
      exact end_ref X7 hx Bd.notSynchronized Bd.returns rfl rfl rfl (hb hby d7_30) hF e7 (by decide) (by decide) ⟨rb8, rfl, N0, K0, E_rb8⟩
theorem d6_0 : decode prog_14_method_10_code 0 = .ok (.aload_n 1, 1) := by decide +kernel
theorem d6_1 : decode prog_14_method_10_code 1 = .ok (.instanceof 17, 3) := by decide +kernel
theorem d6_4 : decode prog_14_method_10_code 4 = .ok (.ifCond .ne 5, 3) := by decide +kernel
theorem d6_7 : decode prog_14_method_10_code 7 = .ok (.iconst 0, 1) := by decide +kernel
theorem d6_8 : decode prog_14_method_10_code 8 = .ok (.ireturn, 1) := by decide +kernel
theorem ef_6n (m : MethodId) (a0 : Addr) : entryFrame m #[(.ref a0), .null] 3 = mkF m 0 #[.val (.ref a0), .val .null, .unset] [] := by first | (simp [entryFrame, mkF, argsToLocals, Value.category]; done) | rfl
def f6n : Int32 := (0 : Int32)
abbrev room6n : Room := { frames := 0, cells := 0, slots := 0, locals := 0 }
def Q6n (Z : State) (a0 : Addr) (h0 : Heap) (n0 : Nat) (v : Option Value) (h : Heap) (L : List Loc) : Prop := v = some (.int f6n) ∧ L = [] ∧ h = h0
set_option maxRecDepth 65536 in
set_option maxHeartbeats 40000000 in
theorem rm6n (l : Launch) (Z : State) (aw : Array Value) (hw : ∀ d ∈ tables_1, d.before aw Z = true) (ws : List Jvm.Cond) (a0 : Addr) (h0 : Heap) (n0 : Nat) (Z0 : n0 ≤ h0.size) (O0 : Old Z n0 h0) :
    MetFree l (⟨"com/example/fenced_widget/fencedwidget/fence/TraceEvent", "equals", "(Ljava/lang/Object;)Z"⟩ : MethodName) (head1 (Jvm.Cond.code (⟨"com/example/fenced_widget/fencedwidget/fence/TraceEvent", "equals", "(Ljava/lang/Object;)Z"⟩ : MethodName) prog_14_method_10_code 3 (some .boolean) :: ws) room6n) (fun a U => a = #[(.ref a0), .null] ∧ Z.Warmed39 U.vm ∧ U.heap = h0) (fun _ _ _ _ _ => True) (fun _ U o U' => ∃ v L, o = .returned v ∧ Q6n Z a0 h0 n0 v U'.heap L ∧ FrameEnd U o U' L room6n.cells room6n.slots) := by
  refine MetFree.of_bodySF (plainFor_of_name pn_3) hisR ?_
  intro p e s m args below meth c s₁ Bd hml0 hP hK
  obtain ⟨rfl, hZ, hh⟩ := hP
  have hx := Bd.exec
  have hby := Bd.bytes
  have hml : c.maxLocals = 3 := hml0
  have hown : s.vm.findClass "com/example/fenced_widget/fencedwidget/fence/TraceEvent" = some m.cls := findClass_of_methodNamed Bd.named
  have hnm := (name_of_methodNamed Bd.named Bd.method).1
  have X0 : Stand p l e room6n s m #[(.ref a0), .null] below meth c s₁ [] 0 0 := Stand.of_body Bd
  have e0 : s₁.heap = h0 := by rw [← hh, Bd.state]; rfl
  have N0 := Fr.nil n0
  rw [ef_6n m a0]
  refine go_in (s₁ := s₁) (Q := Q6n Z a0 h0 n0) fun F hF => ?_
  refine go (B := s₁.setTop (mkF m 1 #[.val (.ref a0), .val .null, .unset] [.null])) (fun _ k => XS.aloadN X0.here hx rfl (hb hby d6_0) rfl rfl k) ?_
  refine go (B := s₁.setTop (mkF m 4 #[.val (.ref a0), .val .null, .unset] [(.int (0 : Int32))])) (fun _ k => X0.instanceofNull hx (g := (mkF m 1 #[.val (.ref a0), .val .null, .unset] [.null])) rfl rfl (hb hby d6_1) _ k) ?_
  refine go (B := s₁.setTop (mkF m 7 #[.val (.ref a0), .val .null, .unset] [])) (fun _ k => XS.ifNo X0.here hx rfl (hb hby d6_4) rfl ((if0 _ _).trans (teq (by decide : (0 : Int32) = (0 : Int32))).2) k) ?_
  refine go (B := s₁.setTop (mkF m 8 #[.val (.ref a0), .val .null, .unset] [(.int (0 : Int32))])) (fun _ k => XS.iconst X0.here hx rfl (hb hby d6_7) k) ?_
  have r2 : f6n = (0 : Int32) := by unfold f6n; rfl
  exact end_nar X0 hx Bd.notSynchronized (t := .boolean) Bd.returns (by simp) (hb hby d6_8) hF e0 (by decide) (by decide) ⟨(congrArg (fun z => some (Value.int z)) r2.symm), rfl, rfl⟩
theorem ef_6l (m : MethodId) (a0 : Addr) (a1 : Addr) : entryFrame m #[(.ref a0), (.ref a1)] 3 = mkF m 0 #[.val (.ref a0), .val (.ref a1), .unset] [] := by first | (simp [entryFrame, mkF, argsToLocals, Value.category]; done) | rfl
def f6l : Int32 := (0 : Int32)
abbrev room6l : Room := { frames := 0, cells := 0, slots := 0, locals := 0 }
def Q6l (Z : State) (a0 : Addr) (a1 : Addr) (h0 : Heap) (n0 : Nat) (v : Option Value) (h : Heap) (L : List Loc) : Prop := v = some (.int f6l) ∧ L = [] ∧ h = h0
set_option maxRecDepth 65536 in
set_option maxHeartbeats 40000000 in
theorem rm6l (l : Launch) (Z : State) (aw : Array Value) (hw : ∀ d ∈ tables_1, d.before aw Z = true) (ws : List Jvm.Cond) (a0 : Addr) (a1 : Addr) (h0 : Heap) (n0 : Nat) (Z0 : n0 ≤ h0.size) (O0 : Old Z n0 h0) (E_a1 : Exa Z h0 a1 "java/lang/Long") :
    MetFree l (⟨"com/example/fenced_widget/fencedwidget/fence/TraceEvent", "equals", "(Ljava/lang/Object;)Z"⟩ : MethodName) (head1 (Jvm.Cond.code (⟨"com/example/fenced_widget/fencedwidget/fence/TraceEvent", "equals", "(Ljava/lang/Object;)Z"⟩ : MethodName) prog_14_method_10_code 3 (some .boolean) :: ws) room6l) (fun a U => a = #[(.ref a0), (.ref a1)] ∧ Z.Warmed39 U.vm ∧ U.heap = h0) (fun _ _ _ _ _ => True) (fun _ U o U' => ∃ v L, o = .returned v ∧ Q6l Z a0 a1 h0 n0 v U'.heap L ∧ FrameEnd U o U' L room6l.cells room6l.slots) := by
  refine MetFree.of_bodySF (plainFor_of_name pn_3) hisR ?_
  intro p e s m args below meth c s₁ Bd hml0 hP hK
  obtain ⟨rfl, hZ, hh⟩ := hP
  have hx := Bd.exec
  have hby := Bd.bytes
  have hml : c.maxLocals = 3 := hml0
  have hown : s.vm.findClass "com/example/fenced_widget/fencedwidget/fence/TraceEvent" = some m.cls := findClass_of_methodNamed Bd.named
  have hnm := (name_of_methodNamed Bd.named Bd.method).1
  have X0 : Stand p l e room6l s m #[(.ref a0), (.ref a1)] below meth c s₁ [] 0 0 := Stand.of_body Bd
  have e0 : s₁.heap = h0 := by rw [← hh, Bd.state]; rfl
  have N0 := Fr.nil n0
  rw [ef_6l m a0 a1]
  refine go_in (s₁ := s₁) (Q := Q6l Z a0 a1 h0 n0) fun F hF => ?_
  refine go (B := s₁.setTop (mkF m 1 #[.val (.ref a0), .val (.ref a1), .unset] [(.ref a1)])) (fun _ k => XS.aloadN X0.here hx rfl (hb hby d6_0) rfl rfl k) ?_
  have hch1 : ∀ w ∈ Cond.chainWords ("java/lang/Long" :: ["java/lang/Number", "java/lang/Object"]), w.before aw Z = true := by
    intro w hm
    simp only [Cond.chainWords, List.mem_cons, List.not_mem_nil, or_false] at hm
    rcases hm with rfl | rfl | rfl
    · exact (hw _ (List.mem_of_getElem? (i := 86) rfl))
    · exact (hw _ (List.mem_of_getElem? (i := 87) rfl))
    · exact (hw _ (List.mem_of_getElem? (i := 88) rfl))
  obtain ⟨T1, X1, e1, st1⟩ := instNo X0 hx hZ hown (hw _ (List.mem_of_getElem? (i := 55) rfl)) e0 E_a1 (own_no hch1 (hw _ (List.mem_of_getElem? (i := 2) rfl)) (by decide)) (g := (mkF m 1 #[.val (.ref a0), .val (.ref a1), .unset] [(.ref a1)])) rfl rfl (hb hby d6_1)
  refine go (B := T1.setTop (mkF m 4 #[.val (.ref a0), .val (.ref a1), .unset] [(.int (0 : Int32))])) st1 ?_
  refine go (B := T1.setTop (mkF m 7 #[.val (.ref a0), .val (.ref a1), .unset] [])) (fun _ k => XS.ifNo X1.here hx rfl (hb hby d6_4) rfl ((if0 _ _).trans (teq (by decide : (0 : Int32) = (0 : Int32))).2) k) ?_
  refine go (B := T1.setTop (mkF m 8 #[.val (.ref a0), .val (.ref a1), .unset] [(.int (0 : Int32))])) (fun _ k => XS.iconst X1.here hx rfl (hb hby d6_7) k) ?_
  have r2 : f6l = (0 : Int32) := by unfold f6l; rfl
  exact end_nar X1 hx Bd.notSynchronized (t := .boolean) Bd.returns (by simp) (hb hby d6_8) hF e1 (by decide) (by decide) ⟨(congrArg (fun z => some (Value.int z)) r2.symm), rfl, rfl⟩
theorem d6_9 : decode prog_14_method_10_code 9 = .ok (.aload_n 1, 1) := by decide +kernel
theorem d6_10 : decode prog_14_method_10_code 10 = .ok (.checkcast 17, 3) := by decide +kernel
theorem d6_13 : decode prog_14_method_10_code 13 = .ok (.astore_n 2, 1) := by decide +kernel
theorem d6_14 : decode prog_14_method_10_code 14 = .ok (.aload_n 0, 1) := by decide +kernel
theorem d6_15 : decode prog_14_method_10_code 15 = .ok (.getfield 16, 3) := by decide +kernel
theorem d6_18 : decode prog_14_method_10_code 18 = .ok (.aload_n 2, 1) := by decide +kernel
theorem d6_19 : decode prog_14_method_10_code 19 = .ok (.getfield 16, 3) := by decide +kernel
theorem d6_22 : decode prog_14_method_10_code 22 = .ok (.lcmp, 1) := by decide +kernel
theorem d6_23 : decode prog_14_method_10_code 23 = .ok (.ifCond .ne 51, 3) := by decide +kernel
theorem d6_26 : decode prog_14_method_10_code 26 = .ok (.aload_n 0, 1) := by decide +kernel
theorem d6_27 : decode prog_14_method_10_code 27 = .ok (.getfield 32, 3) := by decide +kernel
theorem d6_30 : decode prog_14_method_10_code 30 = .ok (.aload_n 2, 1) := by decide +kernel
theorem d6_31 : decode prog_14_method_10_code 31 = .ok (.getfield 32, 3) := by decide +kernel
theorem d6_34 : decode prog_14_method_10_code 34 = .ok (.if_acmp .ne 40, 3) := by decide +kernel
theorem d6_37 : decode prog_14_method_10_code 37 = .ok (.aload_n 0, 1) := by decide +kernel
theorem d6_38 : decode prog_14_method_10_code 38 = .ok (.getfield 35, 3) := by decide +kernel
theorem d6_41 : decode prog_14_method_10_code 41 = .ok (.aload_n 2, 1) := by decide +kernel
theorem d6_42 : decode prog_14_method_10_code 42 = .ok (.getfield 35, 3) := by decide +kernel
theorem d6_45 : decode prog_14_method_10_code 45 = .ok (.if_icmp .ne 29, 3) := by decide +kernel
theorem d6_48 : decode prog_14_method_10_code 48 = .ok (.aload_n 0, 1) := by decide +kernel
theorem d6_49 : decode prog_14_method_10_code 49 = .ok (.getfield 39, 3) := by decide +kernel
theorem d6_52 : decode prog_14_method_10_code 52 = .ok (.aload_n 2, 1) := by decide +kernel
theorem d6_53 : decode prog_14_method_10_code 53 = .ok (.getfield 39, 3) := by decide +kernel
theorem d6_56 : decode prog_14_method_10_code 56 = .ok (.if_icmp .ne 18, 3) := by decide +kernel
theorem d6_59 : decode prog_14_method_10_code 59 = .ok (.aload_n 0, 1) := by decide +kernel
theorem d6_60 : decode prog_14_method_10_code 60 = .ok (.getfield 46, 3) := by decide +kernel
theorem d6_63 : decode prog_14_method_10_code 63 = .ok (.aload_n 2, 1) := by decide +kernel
theorem d6_64 : decode prog_14_method_10_code 64 = .ok (.getfield 46, 3) := by decide +kernel
theorem d6_67 : decode prog_14_method_10_code 67 = .ok (.if_acmp .ne 7, 3) := by decide +kernel
theorem d6_70 : decode prog_14_method_10_code 70 = .ok (.iconst 1, 1) := by decide +kernel
theorem d6_71 : decode prog_14_method_10_code 71 = .ok (.goto 4, 3) := by decide +kernel
theorem d6_74 : decode prog_14_method_10_code 74 = .ok (.iconst 0, 1) := by decide +kernel
theorem d6_75 : decode prog_14_method_10_code 75 = .ok (.ireturn, 1) := by decide +kernel
theorem ef_6t (m : MethodId) (a0 : Addr) (a1 : Addr) : entryFrame m #[(.ref a0), (.ref a1)] 3 = mkF m 0 #[.val (.ref a0), .val (.ref a1), .unset] [] := by first | (simp [entryFrame, mkF, argsToLocals, Value.category]; done) | rfl
def f6t (w_timeMs_a0 : Int64) (w_timeMs_a1 : Int64) (w_type_a0 : Addr) (w_type_a1 : Addr) (w_x_a0 : Int32) (w_x_a1 : Int32) (w_y_a0 : Int32) (w_y_a1 : Int32) (w_button_a0 : Addr) (w_button_a1 : Addr) : Int32 := if (lcmpW w_timeMs_a0 w_timeMs_a1) = (0 : Int32) then if w_type_a0 = w_type_a1 then if w_x_a0 = w_x_a1 then if w_y_a0 = w_y_a1 then if w_button_a0 = w_button_a1 then (1 : Int32) else (0 : Int32) else (0 : Int32) else (0 : Int32) else (0 : Int32) else (0 : Int32)
abbrev room6t : Room := { frames := 0, cells := 0, slots := 0, locals := 0 }
def Q6t (Z : State) (a0 : Addr) (a1 : Addr) (w_timeMs_a0 : Int64) (w_timeMs_a1 : Int64) (w_type_a0 : Addr) (w_type_a1 : Addr) (w_x_a0 : Int32) (w_x_a1 : Int32) (w_y_a0 : Int32) (w_y_a1 : Int32) (w_button_a0 : Addr) (w_button_a1 : Addr) (h0 : Heap) (n0 : Nat) (v : Option Value) (h : Heap) (L : List Loc) : Prop := v = some (.int (f6t w_timeMs_a0 w_timeMs_a1 w_type_a0 w_type_a1 w_x_a0 w_x_a1 w_y_a0 w_y_a1 w_button_a0 w_button_a1)) ∧ L = [] ∧ h = h0
set_option maxRecDepth 65536 in
set_option maxHeartbeats 40000000 in
theorem rm6t (l : Launch) (Z : State) (aw : Array Value) (hw : ∀ d ∈ tables_1, d.before aw Z = true) (ws : List Jvm.Cond) (a0 : Addr) (a1 : Addr) (w_timeMs_a0 : Int64) (w_timeMs_a1 : Int64) (w_type_a0 : Addr) (w_type_a1 : Addr) (w_x_a0 : Int32) (w_x_a1 : Int32) (w_y_a0 : Int32) (w_y_a1 : Int32) (w_button_a0 : Addr) (w_button_a1 : Addr) (h0 : Heap) (n0 : Nat) (Z0 : n0 ≤ h0.size) (O0 : Old Z n0 h0) (E_a1 : Exa Z h0 a1 "com/example/fenced_widget/fencedwidget/fence/TraceEvent") (F_timeMs_a0 : Fld Z h0 a0 "com/example/fenced_widget/fencedwidget/fence/TraceEvent" "timeMs" "J" (.long w_timeMs_a0)) (F_timeMs_a1 : Fld Z h0 a1 "com/example/fenced_widget/fencedwidget/fence/TraceEvent" "timeMs" "J" (.long w_timeMs_a1)) (F_type_a0 : Fld Z h0 a0 "com/example/fenced_widget/fencedwidget/fence/TraceEvent" "type" "Lcom/example/fenced_widget/fencedwidget/protocol/InputType;" (.ref w_type_a0)) (F_type_a1 : Fld Z h0 a1 "com/example/fenced_widget/fencedwidget/fence/TraceEvent" "type" "Lcom/example/fenced_widget/fencedwidget/protocol/InputType;" (.ref w_type_a1)) (F_x_a0 : Fld Z h0 a0 "com/example/fenced_widget/fencedwidget/fence/TraceEvent" "x" "I" (.int w_x_a0)) (F_x_a1 : Fld Z h0 a1 "com/example/fenced_widget/fencedwidget/fence/TraceEvent" "x" "I" (.int w_x_a1)) (F_y_a0 : Fld Z h0 a0 "com/example/fenced_widget/fencedwidget/fence/TraceEvent" "y" "I" (.int w_y_a0)) (F_y_a1 : Fld Z h0 a1 "com/example/fenced_widget/fencedwidget/fence/TraceEvent" "y" "I" (.int w_y_a1)) (F_button_a0 : Fld Z h0 a0 "com/example/fenced_widget/fencedwidget/fence/TraceEvent" "button" "Lcom/example/fenced_widget/fencedwidget/protocol/Button;" (.ref w_button_a0)) (F_button_a1 : Fld Z h0 a1 "com/example/fenced_widget/fencedwidget/fence/TraceEvent" "button" "Lcom/example/fenced_widget/fencedwidget/protocol/Button;" (.ref w_button_a1)) :
    MetFree l (⟨"com/example/fenced_widget/fencedwidget/fence/TraceEvent", "equals", "(Ljava/lang/Object;)Z"⟩ : MethodName) (head1 (Jvm.Cond.code (⟨"com/example/fenced_widget/fencedwidget/fence/TraceEvent", "equals", "(Ljava/lang/Object;)Z"⟩ : MethodName) prog_14_method_10_code 3 (some .boolean) :: ws) room6t) (fun a U => a = #[(.ref a0), (.ref a1)] ∧ Z.Warmed39 U.vm ∧ U.heap = h0) (fun _ _ _ _ _ => True) (fun _ U o U' => ∃ v L, o = .returned v ∧ Q6t Z a0 a1 w_timeMs_a0 w_timeMs_a1 w_type_a0 w_type_a1 w_x_a0 w_x_a1 w_y_a0 w_y_a1 w_button_a0 w_button_a1 h0 n0 v U'.heap L ∧ FrameEnd U o U' L room6t.cells room6t.slots) := by
  refine MetFree.of_bodySF (plainFor_of_name pn_3) hisR ?_
  intro p e s m args below meth c s₁ Bd hml0 hP hK
  obtain ⟨rfl, hZ, hh⟩ := hP
  have hx := Bd.exec
  have hby := Bd.bytes
  have hml : c.maxLocals = 3 := hml0
  have hown : s.vm.findClass "com/example/fenced_widget/fencedwidget/fence/TraceEvent" = some m.cls := findClass_of_methodNamed Bd.named
  have hnm := (name_of_methodNamed Bd.named Bd.method).1
  have X0 : Stand p l e room6t s m #[(.ref a0), (.ref a1)] below meth c s₁ [] 0 0 := Stand.of_body Bd
  have e0 : s₁.heap = h0 := by rw [← hh, Bd.state]; rfl
  have N0 := Fr.nil n0
  rw [ef_6t m a0 a1]
  refine go_in (s₁ := s₁) (Q := Q6t Z a0 a1 w_timeMs_a0 w_timeMs_a1 w_type_a0 w_type_a1 w_x_a0 w_x_a1 w_y_a0 w_y_a1 w_button_a0 w_button_a1 h0 n0) fun F hF => ?_
  refine go (B := s₁.setTop (mkF m 1 #[.val (.ref a0), .val (.ref a1), .unset] [(.ref a1)])) (fun _ k => XS.aloadN X0.here hx rfl (hb hby d6_0) rfl rfl k) ?_
  obtain ⟨T1, X1, e1, st1⟩ := instY X0 hx hZ hown (hw _ (List.mem_of_getElem? (i := 55) rfl)) e0 (Ins.self E_a1) (g := (mkF m 1 #[.val (.ref a0), .val (.ref a1), .unset] [(.ref a1)])) rfl rfl (hb hby d6_1)
  refine go (B := T1.setTop (mkF m 4 #[.val (.ref a0), .val (.ref a1), .unset] [(.int (1 : Int32))])) st1 ?_
  refine go (B := T1.setTop (mkF m 9 #[.val (.ref a0), .val (.ref a1), .unset] [])) (fun _ k => XS.ifYes X1.here hx rfl (pc0 := 4) (pc' := 9) rfl (hb hby d6_4) rfl ((if0 _ _).trans (feq (by decide : ¬ ((1 : Int32) = (0 : Int32)))).2) (by decide) (by decide) k) ?_
  refine go (B := T1.setTop (mkF m 10 #[.val (.ref a0), .val (.ref a1), .unset] [(.ref a1)])) (fun _ k => XS.aloadN X1.here hx rfl (hb hby d6_9) rfl rfl k) ?_
  obtain ⟨T2, X2, e2, st2⟩ := castY X1 hx hZ hown (hw _ (List.mem_of_getElem? (i := 55) rfl)) e1 (Ins.self E_a1) (g := (mkF m 10 #[.val (.ref a0), .val (.ref a1), .unset] [(.ref a1)])) rfl rfl (hb hby d6_10)
  refine go (B := T2.setTop (mkF m 13 #[.val (.ref a0), .val (.ref a1), .unset] [(.ref a1)])) st2 ?_
  refine go (B := T2.setTop (mkF m 14 #[.val (.ref a0), .val (.ref a1), .val (.ref a1)] [])) (fun _ k => XS.astoreN X2.here hx rfl (hb hby d6_13) rfl rfl (l' := #[.val (.ref a0), .val (.ref a1), .val (.ref a1)]) rfl k) ?_
  refine go (B := T2.setTop (mkF m 15 #[.val (.ref a0), .val (.ref a1), .val (.ref a1)] [(.ref a0)])) (fun _ k => XS.aloadN X2.here hx rfl (hb hby d6_14) rfl rfl k) ?_
  obtain ⟨T3, X3, e3, st3⟩ := getF X2 hx hZ hown (host := "") (Or.inl (hw _ (List.mem_of_getElem? (i := 23) rfl))) Via.refl e2 F_timeMs_a0 (g := (mkF m 15 #[.val (.ref a0), .val (.ref a1), .val (.ref a1)] [(.ref a0)])) rfl rfl (hb hby d6_15)
  refine go (B := T3.setTop (mkF m 18 #[.val (.ref a0), .val (.ref a1), .val (.ref a1)] [(.long w_timeMs_a0)])) st3 ?_
  refine go (B := T3.setTop (mkF m 19 #[.val (.ref a0), .val (.ref a1), .val (.ref a1)] [(.ref a1), (.long w_timeMs_a0)])) (fun _ k => XS.aloadN X3.here hx rfl (hb hby d6_18) rfl rfl k) ?_
  obtain ⟨T4, X4, e4, st4⟩ := getF X3 hx hZ hown (host := "") (Or.inl (hw _ (List.mem_of_getElem? (i := 23) rfl))) Via.refl e3 F_timeMs_a1 (g := (mkF m 19 #[.val (.ref a0), .val (.ref a1), .val (.ref a1)] [(.ref a1), (.long w_timeMs_a0)])) rfl rfl (hb hby d6_19)
  refine go (B := T4.setTop (mkF m 22 #[.val (.ref a0), .val (.ref a1), .val (.ref a1)] [(.long w_timeMs_a1), (.long w_timeMs_a0)])) st4 ?_
  refine go (B := T4.setTop (mkF m 23 #[.val (.ref a0), .val (.ref a1), .val (.ref a1)] [(.int (lcmpW w_timeMs_a0 w_timeMs_a1))])) (fun _ k => XS.lcmp X4.here hx rfl (hb hby d6_22) rfl k) ?_
  by_cases hc5 : (lcmpW w_timeMs_a0 w_timeMs_a1) = (0 : Int32)
  · refine go (B := T4.setTop (mkF m 26 #[.val (.ref a0), .val (.ref a1), .val (.ref a1)] [])) (fun _ k => XS.ifNo X4.here hx rfl (hb hby d6_23) rfl ((if0 _ _).trans (teq hc5).2) k) ?_
    refine go (B := T4.setTop (mkF m 27 #[.val (.ref a0), .val (.ref a1), .val (.ref a1)] [(.ref a0)])) (fun _ k => XS.aloadN X4.here hx rfl (hb hby d6_26) rfl rfl k) ?_
    obtain ⟨T6, X6, e6, st6⟩ := getF X4 hx hZ hown (host := "") (Or.inl (hw _ (List.mem_of_getElem? (i := 39) rfl))) Via.refl e4 F_type_a0 (g := (mkF m 27 #[.val (.ref a0), .val (.ref a1), .val (.ref a1)] [(.ref a0)])) rfl rfl (hb hby d6_27)
    refine go (B := T6.setTop (mkF m 30 #[.val (.ref a0), .val (.ref a1), .val (.ref a1)] [(.ref w_type_a0)])) st6 ?_
    refine go (B := T6.setTop (mkF m 31 #[.val (.ref a0), .val (.ref a1), .val (.ref a1)] [(.ref a1), (.ref w_type_a0)])) (fun _ k => XS.aloadN X6.here hx rfl (hb hby d6_30) rfl rfl k) ?_
    obtain ⟨T7, X7, e7, st7⟩ := getF X6 hx hZ hown (host := "") (Or.inl (hw _ (List.mem_of_getElem? (i := 39) rfl))) Via.refl e6 F_type_a1 (g := (mkF m 31 #[.val (.ref a0), .val (.ref a1), .val (.ref a1)] [(.ref a1), (.ref w_type_a0)])) rfl rfl (hb hby d6_31)
    refine go (B := T7.setTop (mkF m 34 #[.val (.ref a0), .val (.ref a1), .val (.ref a1)] [(.ref w_type_a1), (.ref w_type_a0)])) st7 ?_
    by_cases hc8 : w_type_a0 = w_type_a1
    · refine go (B := T7.setTop (mkF m 37 #[.val (.ref a0), .val (.ref a1), .val (.ref a1)] [])) (fun _ k => Jvm.RoadKit.acmp (g := (mkF m 34 #[.val (.ref a0), .val (.ref a1), .val (.ref a1)] [(.ref w_type_a1), (.ref w_type_a0)])) X7 hx rfl rfl rfl (pc0 := 34) (pc' := 37) (same := true) rfl (hb hby d6_34) rfl (decide_eq_true (congrArg Value.ref hc8)) (by decide) (by decide) k) ?_
      refine go (B := T7.setTop (mkF m 38 #[.val (.ref a0), .val (.ref a1), .val (.ref a1)] [(.ref a0)])) (fun _ k => XS.aloadN X7.here hx rfl (hb hby d6_37) rfl rfl k) ?_
      obtain ⟨T9, X9, e9, st9⟩ := getF X7 hx hZ hown (host := "") (Or.inl (hw _ (List.mem_of_getElem? (i := 41) rfl))) Via.refl e7 F_x_a0 (g := (mkF m 38 #[.val (.ref a0), .val (.ref a1), .val (.ref a1)] [(.ref a0)])) rfl rfl (hb hby d6_38)
      refine go (B := T9.setTop (mkF m 41 #[.val (.ref a0), .val (.ref a1), .val (.ref a1)] [(.int w_x_a0)])) st9 ?_
      refine go (B := T9.setTop (mkF m 42 #[.val (.ref a0), .val (.ref a1), .val (.ref a1)] [(.ref a1), (.int w_x_a0)])) (fun _ k => XS.aloadN X9.here hx rfl (hb hby d6_41) rfl rfl k) ?_
      obtain ⟨T10, X10, e10, st10⟩ := getF X9 hx hZ hown (host := "") (Or.inl (hw _ (List.mem_of_getElem? (i := 41) rfl))) Via.refl e9 F_x_a1 (g := (mkF m 42 #[.val (.ref a0), .val (.ref a1), .val (.ref a1)] [(.ref a1), (.int w_x_a0)])) rfl rfl (hb hby d6_42)
      refine go (B := T10.setTop (mkF m 45 #[.val (.ref a0), .val (.ref a1), .val (.ref a1)] [(.int w_x_a1), (.int w_x_a0)])) st10 ?_
      by_cases hc11 : w_x_a0 = w_x_a1
      · refine go (B := T10.setTop (mkF m 48 #[.val (.ref a0), .val (.ref a1), .val (.ref a1)] [])) (fun _ k => XS.icmpNo X10.here hx rfl (hb hby d6_45) rfl (teq hc11).2 k) ?_
        refine go (B := T10.setTop (mkF m 49 #[.val (.ref a0), .val (.ref a1), .val (.ref a1)] [(.ref a0)])) (fun _ k => XS.aloadN X10.here hx rfl (hb hby d6_48) rfl rfl k) ?_
        obtain ⟨T12, X12, e12, st12⟩ := getF X10 hx hZ hown (host := "") (Or.inl (hw _ (List.mem_of_getElem? (i := 43) rfl))) Via.refl e10 F_y_a0 (g := (mkF m 49 #[.val (.ref a0), .val (.ref a1), .val (.ref a1)] [(.ref a0)])) rfl rfl (hb hby d6_49)
        refine go (B := T12.setTop (mkF m 52 #[.val (.ref a0), .val (.ref a1), .val (.ref a1)] [(.int w_y_a0)])) st12 ?_
        refine go (B := T12.setTop (mkF m 53 #[.val (.ref a0), .val (.ref a1), .val (.ref a1)] [(.ref a1), (.int w_y_a0)])) (fun _ k => XS.aloadN X12.here hx rfl (hb hby d6_52) rfl rfl k) ?_
        obtain ⟨T13, X13, e13, st13⟩ := getF X12 hx hZ hown (host := "") (Or.inl (hw _ (List.mem_of_getElem? (i := 43) rfl))) Via.refl e12 F_y_a1 (g := (mkF m 53 #[.val (.ref a0), .val (.ref a1), .val (.ref a1)] [(.ref a1), (.int w_y_a0)])) rfl rfl (hb hby d6_53)
        refine go (B := T13.setTop (mkF m 56 #[.val (.ref a0), .val (.ref a1), .val (.ref a1)] [(.int w_y_a1), (.int w_y_a0)])) st13 ?_
        by_cases hc14 : w_y_a0 = w_y_a1
        · refine go (B := T13.setTop (mkF m 59 #[.val (.ref a0), .val (.ref a1), .val (.ref a1)] [])) (fun _ k => XS.icmpNo X13.here hx rfl (hb hby d6_56) rfl (teq hc14).2 k) ?_
          refine go (B := T13.setTop (mkF m 60 #[.val (.ref a0), .val (.ref a1), .val (.ref a1)] [(.ref a0)])) (fun _ k => XS.aloadN X13.here hx rfl (hb hby d6_59) rfl rfl k) ?_
          obtain ⟨T15, X15, e15, st15⟩ := getF X13 hx hZ hown (host := "") (Or.inl (hw _ (List.mem_of_getElem? (i := 48) rfl))) Via.refl e13 F_button_a0 (g := (mkF m 60 #[.val (.ref a0), .val (.ref a1), .val (.ref a1)] [(.ref a0)])) rfl rfl (hb hby d6_60)
          refine go (B := T15.setTop (mkF m 63 #[.val (.ref a0), .val (.ref a1), .val (.ref a1)] [(.ref w_button_a0)])) st15 ?_
          refine go (B := T15.setTop (mkF m 64 #[.val (.ref a0), .val (.ref a1), .val (.ref a1)] [(.ref a1), (.ref w_button_a0)])) (fun _ k => XS.aloadN X15.here hx rfl (hb hby d6_63) rfl rfl k) ?_
          obtain ⟨T16, X16, e16, st16⟩ := getF X15 hx hZ hown (host := "") (Or.inl (hw _ (List.mem_of_getElem? (i := 48) rfl))) Via.refl e15 F_button_a1 (g := (mkF m 64 #[.val (.ref a0), .val (.ref a1), .val (.ref a1)] [(.ref a1), (.ref w_button_a0)])) rfl rfl (hb hby d6_64)
          refine go (B := T16.setTop (mkF m 67 #[.val (.ref a0), .val (.ref a1), .val (.ref a1)] [(.ref w_button_a1), (.ref w_button_a0)])) st16 ?_
          by_cases hc17 : w_button_a0 = w_button_a1
          · refine go (B := T16.setTop (mkF m 70 #[.val (.ref a0), .val (.ref a1), .val (.ref a1)] [])) (fun _ k => Jvm.RoadKit.acmp (g := (mkF m 67 #[.val (.ref a0), .val (.ref a1), .val (.ref a1)] [(.ref w_button_a1), (.ref w_button_a0)])) X16 hx rfl rfl rfl (pc0 := 67) (pc' := 70) (same := true) rfl (hb hby d6_67) rfl (decide_eq_true (congrArg Value.ref hc17)) (by decide) (by decide) k) ?_
            refine go (B := T16.setTop (mkF m 71 #[.val (.ref a0), .val (.ref a1), .val (.ref a1)] [(.int (1 : Int32))])) (fun _ k => XS.iconst X16.here hx rfl (hb hby d6_70) k) ?_
            refine go (B := T16.setTop (mkF m 75 #[.val (.ref a0), .val (.ref a1), .val (.ref a1)] [(.int (1 : Int32))])) (fun _ k => XS.goto X16.here hx rfl (pc0 := 71) (pc' := 75) rfl (hb hby d6_71) (by decide) (by decide) k) ?_
            have r18 : (f6t w_timeMs_a0 w_timeMs_a1 w_type_a0 w_type_a1 w_x_a0 w_x_a1 w_y_a0 w_y_a1 w_button_a0 w_button_a1) = (1 : Int32) := by unfold f6t; rw [if_pos hc5, if_pos hc8, if_pos hc11, if_pos hc14, if_pos hc17]
            exact end_nar X16 hx Bd.notSynchronized (t := .boolean) Bd.returns (by simp) (hb hby d6_75) hF e16 (by decide) (by decide) ⟨(congrArg (fun z => some (Value.int z)) r18.symm), rfl, rfl⟩
          · refine go (B := T16.setTop (mkF m 74 #[.val (.ref a0), .val (.ref a1), .val (.ref a1)] [])) (fun _ k => Jvm.RoadKit.acmp (g := (mkF m 67 #[.val (.ref a0), .val (.ref a1), .val (.ref a1)] [(.ref w_button_a1), (.ref w_button_a0)])) X16 hx rfl rfl rfl (pc0 := 67) (pc' := 74) (same := false) rfl (hb hby d6_67) rfl (decide_eq_false fun q => hc17 (Value.ref.inj q)) (by decide) (by decide) k) ?_
            refine go (B := T16.setTop (mkF m 75 #[.val (.ref a0), .val (.ref a1), .val (.ref a1)] [(.int (0 : Int32))])) (fun _ k => XS.iconst X16.here hx rfl (hb hby d6_74) k) ?_
            have r19 : (f6t w_timeMs_a0 w_timeMs_a1 w_type_a0 w_type_a1 w_x_a0 w_x_a1 w_y_a0 w_y_a1 w_button_a0 w_button_a1) = (0 : Int32) := by unfold f6t; rw [if_pos hc5, if_pos hc8, if_pos hc11, if_pos hc14, if_neg hc17]
            exact end_nar X16 hx Bd.notSynchronized (t := .boolean) Bd.returns (by simp) (hb hby d6_75) hF e16 (by decide) (by decide) ⟨(congrArg (fun z => some (Value.int z)) r19.symm), rfl, rfl⟩
        · refine go (B := T13.setTop (mkF m 74 #[.val (.ref a0), .val (.ref a1), .val (.ref a1)] [])) (fun _ k => XS.icmpYes X13.here hx rfl (pc0 := 56) (pc' := 74) rfl (hb hby d6_56) rfl (feq hc14).2 (by decide) (by decide) k) ?_
          refine go (B := T13.setTop (mkF m 75 #[.val (.ref a0), .val (.ref a1), .val (.ref a1)] [(.int (0 : Int32))])) (fun _ k => XS.iconst X13.here hx rfl (hb hby d6_74) k) ?_
          have r20 : (f6t w_timeMs_a0 w_timeMs_a1 w_type_a0 w_type_a1 w_x_a0 w_x_a1 w_y_a0 w_y_a1 w_button_a0 w_button_a1) = (0 : Int32) := by unfold f6t; rw [if_pos hc5, if_pos hc8, if_pos hc11, if_neg hc14]
          exact end_nar X13 hx Bd.notSynchronized (t := .boolean) Bd.returns (by simp) (hb hby d6_75) hF e13 (by decide) (by decide) ⟨(congrArg (fun z => some (Value.int z)) r20.symm), rfl, rfl⟩
      · refine go (B := T10.setTop (mkF m 74 #[.val (.ref a0), .val (.ref a1), .val (.ref a1)] [])) (fun _ k => XS.icmpYes X10.here hx rfl (pc0 := 45) (pc' := 74) rfl (hb hby d6_45) rfl (feq hc11).2 (by decide) (by decide) k) ?_
        refine go (B := T10.setTop (mkF m 75 #[.val (.ref a0), .val (.ref a1), .val (.ref a1)] [(.int (0 : Int32))])) (fun _ k => XS.iconst X10.here hx rfl (hb hby d6_74) k) ?_
        have r21 : (f6t w_timeMs_a0 w_timeMs_a1 w_type_a0 w_type_a1 w_x_a0 w_x_a1 w_y_a0 w_y_a1 w_button_a0 w_button_a1) = (0 : Int32) := by unfold f6t; rw [if_pos hc5, if_pos hc8, if_neg hc11]
        exact end_nar X10 hx Bd.notSynchronized (t := .boolean) Bd.returns (by simp) (hb hby d6_75) hF e10 (by decide) (by decide) ⟨(congrArg (fun z => some (Value.int z)) r21.symm), rfl, rfl⟩
    · refine go (B := T7.setTop (mkF m 74 #[.val (.ref a0), .val (.ref a1), .val (.ref a1)] [])) (fun _ k => Jvm.RoadKit.acmp (g := (mkF m 34 #[.val (.ref a0), .val (.ref a1), .val (.ref a1)] [(.ref w_type_a1), (.ref w_type_a0)])) X7 hx rfl rfl rfl (pc0 := 34) (pc' := 74) (same := false) rfl (hb hby d6_34) rfl (decide_eq_false fun q => hc8 (Value.ref.inj q)) (by decide) (by decide) k) ?_
      refine go (B := T7.setTop (mkF m 75 #[.val (.ref a0), .val (.ref a1), .val (.ref a1)] [(.int (0 : Int32))])) (fun _ k => XS.iconst X7.here hx rfl (hb hby d6_74) k) ?_
      have r22 : (f6t w_timeMs_a0 w_timeMs_a1 w_type_a0 w_type_a1 w_x_a0 w_x_a1 w_y_a0 w_y_a1 w_button_a0 w_button_a1) = (0 : Int32) := by unfold f6t; rw [if_pos hc5, if_neg hc8]
      exact end_nar X7 hx Bd.notSynchronized (t := .boolean) Bd.returns (by simp) (hb hby d6_75) hF e7 (by decide) (by decide) ⟨(congrArg (fun z => some (Value.int z)) r22.symm), rfl, rfl⟩
  · refine go (B := T4.setTop (mkF m 74 #[.val (.ref a0), .val (.ref a1), .val (.ref a1)] [])) (fun _ k => XS.ifYes X4.here hx rfl (pc0 := 23) (pc' := 74) rfl (hb hby d6_23) rfl ((if0 _ _).trans (feq hc5).2) (by decide) (by decide) k) ?_
    refine go (B := T4.setTop (mkF m 75 #[.val (.ref a0), .val (.ref a1), .val (.ref a1)] [(.int (0 : Int32))])) (fun _ k => XS.iconst X4.here hx rfl (hb hby d6_74) k) ?_
    have r23 : (f6t w_timeMs_a0 w_timeMs_a1 w_type_a0 w_type_a1 w_x_a0 w_x_a1 w_y_a0 w_y_a1 w_button_a0 w_button_a1) = (0 : Int32) := by unfold f6t; rw [if_neg hc5]
    exact end_nar X4 hx Bd.notSynchronized (t := .boolean) Bd.returns (by simp) (hb hby d6_75) hF e4 (by decide) (by decide) ⟨(congrArg (fun z => some (Value.int z)) r23.symm), rfl, rfl⟩
theorem pd_3 : parseMethodDescriptor "(I)Lcom/example/fenced_widget/fencedwidget/protocol/InputType;" = some ⟨[.int], some (.object "com/example/fenced_widget/fencedwidget/protocol/InputType")⟩ := by decide +kernel
theorem pd_4 : parseMethodDescriptor "(I)Lcom/example/fenced_widget/fencedwidget/protocol/Button;" = some ⟨[.int], some (.object "com/example/fenced_widget/fencedwidget/protocol/Button")⟩ := by decide +kernel
theorem pd_5 : parseMethodDescriptor "(JLcom/example/fenced_widget/fencedwidget/protocol/InputType;IILcom/example/fenced_widget/fencedwidget/protocol/Button;)V" = some ⟨[.long, (.object "com/example/fenced_widget/fencedwidget/protocol/InputType"), .int, .int, (.object "com/example/fenced_widget/fencedwidget/protocol/Button")], none⟩ := by decide +kernel
theorem pd_6 : parseMethodDescriptor "(Ljava/lang/Object;)Z" = some ⟨[(.object "java/lang/Object")], some .boolean⟩ := by decide +kernel
theorem pd_7 : parseMethodDescriptor "(J)Ljava/lang/Long;" = some ⟨[.long], some (.object "java/lang/Long")⟩ := by decide +kernel
theorem ef_0 (m : MethodId) (q0 : Int64) (q1 : Int64) (p2 : Int32) (p3 : Int32) (p4 : Int32) (p5 : Int32) : entryFrame m #[(.long q0), (.long q1), (.int p2), (.int p3), (.int p4), (.int p5)] maxLocals = mkF m 0 #[.val (.long q0), .second, .val (.long q1), .second, .val (.int p2), .val (.int p3), .val (.int p4), .val (.int p5), .unset, .unset, .unset, .unset, .unset, .unset, .unset, .unset, .unset, .unset, .unset, .unset, .unset, .unset] [] := by first | (simp [entryFrame, mkF, argsToLocals, Value.category, maxLocals]; done) | rfl
def f0_z0 (q0 : Int64) (q1 : Int64) (p5 : Int32) : Int64 := if (p5 &&& (1 : Int32)) = (0 : Int32) then (q1 &&& (9223372036854775807 : Int64)) else (q0 &&& (9223372036854775807 : Int64))
def f0_z1 (p2 : Int32) (p4 : Int32) (p5 : Int32) : Int32 := if (p5 &&& (2 : Int32)) = (0 : Int32) then p4 else p2
def f0_z2 (q1 : Int64) (p3 : Int32) (p5 : Int32) : Int32 := if (p5 &&& (4 : Int32)) = (0 : Int32) then (((q1.toUInt64 >>> ((32 : Int32) &&& 0x3f).toInt64.toUInt64).toInt64).toInt32) else p3
def f0_t3 (p5 : Int32) : Int32 := ((((p5.toUInt32 >>> ((3 : Int32) &&& 31).toUInt32).toInt32) &&& (3 : Int32)) % (3 : Int32))
def f0_t4 (p5 : Int32) : Int32 := ((((p5.toUInt32 >>> ((5 : Int32) &&& 31).toUInt32).toInt32) &&& (3 : Int32)) % (3 : Int32))
def f0_t5 (p5 : Int32) : Int32 := ((((p5.toUInt32 >>> ((7 : Int32) &&& 31).toUInt32).toInt32) &&& (3 : Int32)) % (3 : Int32))
def f0_t6 (p5 : Int32) : Int32 := ((((p5.toUInt32 >>> ((9 : Int32) &&& 31).toUInt32).toInt32) &&& (3 : Int32)) % (3 : Int32))
def f0_t7 (q0 : Int64) (p2 : Int32) (p3 : Int32) (p5 : Int32) (w_MOVE : Addr) (w_PRESS : Addr) (w_RELEASE : Addr) (w_LEFT : Addr) (w_RIGHT : Addr) (w_NONE : Addr) : Int32 := (f6t (q0 &&& (9223372036854775807 : Int64)) (q0 &&& (9223372036854775807 : Int64)) (f1 (f0_t3 p5) w_MOVE w_PRESS w_RELEASE) (f1 (f0_t3 p5) w_MOVE w_PRESS w_RELEASE) p2 p2 p3 p3 (f2 (f0_t5 p5) w_LEFT w_RIGHT w_NONE) (f2 (f0_t5 p5) w_LEFT w_RIGHT w_NONE))
def f0_z8 (q0 : Int64) (q1 : Int64) (p2 : Int32) (p3 : Int32) (p4 : Int32) (p5 : Int32) : Int32 := if (lcmpW (q0 &&& (9223372036854775807 : Int64)) (f0_z0 q0 q1 p5)) = (0 : Int32) then if (f0_t3 p5) = (f0_t4 p5) then if p2 = (f0_z1 p2 p4 p5) then if p3 = (f0_z2 q1 p3 p5) then if (f0_t5 p5) = (f0_t6 p5) then (1 : Int32) else (0 : Int32) else (0 : Int32) else (0 : Int32) else (0 : Int32) else (0 : Int32)
def f0_t9 (q0 : Int64) (q1 : Int64) (p2 : Int32) (p3 : Int32) (p4 : Int32) (p5 : Int32) (w_MOVE : Addr) (w_PRESS : Addr) (w_RELEASE : Addr) (w_LEFT : Addr) (w_RIGHT : Addr) (w_NONE : Addr) : Int32 := (f6t (q0 &&& (9223372036854775807 : Int64)) (f0_z0 q0 q1 p5) (f1 (f0_t3 p5) w_MOVE w_PRESS w_RELEASE) (f1 (f0_t4 p5) w_MOVE w_PRESS w_RELEASE) p2 (f0_z1 p2 p4 p5) p3 (f0_z2 q1 p3 p5) (f2 (f0_t5 p5) w_LEFT w_RIGHT w_NONE) (f2 (f0_t6 p5) w_LEFT w_RIGHT w_NONE))
def f0_t10 (q0 : Int64) (q1 : Int64) (p2 : Int32) (p3 : Int32) (p4 : Int32) (p5 : Int32) (w_MOVE : Addr) (w_PRESS : Addr) (w_RELEASE : Addr) (w_LEFT : Addr) (w_RIGHT : Addr) (w_NONE : Addr) : Int32 := (f6t (f0_z0 q0 q1 p5) (q0 &&& (9223372036854775807 : Int64)) (f1 (f0_t4 p5) w_MOVE w_PRESS w_RELEASE) (f1 (f0_t3 p5) w_MOVE w_PRESS w_RELEASE) (f0_z1 p2 p4 p5) p2 (f0_z2 q1 p3 p5) p3 (f2 (f0_t6 p5) w_LEFT w_RIGHT w_NONE) (f2 (f0_t5 p5) w_LEFT w_RIGHT w_NONE))
theorem own_z0 (q0 q1 : Int64) (p5 : Int32) : ¬ lcmpW (f0_z0 q0 q1 p5) (0 : Int64) < (0 : Int32) := by
  unfold f0_z0
  by_cases h : (p5 &&& (1 : Int32)) = (0 : Int32)
  · rw [if_pos h]; exact own_and _
  · rw [if_neg h]; exact own_and _
def f0 (q0 : Int64) (q1 : Int64) (p2 : Int32) (p3 : Int32) (p4 : Int32) (p5 : Int32) (w_MOVE : Addr) (w_PRESS : Addr) (w_RELEASE : Addr) (w_LEFT : Addr) (w_RIGHT : Addr) (w_NONE : Addr) : Int32 := if (((p5.toUInt32 >>> ((11 : Int32) &&& 31).toUInt32).toInt32) &&& (3 : Int32)) = (1 : Int32) then if f6n = (0 : Int32) then (1 : Int32) else (0 : Int32) else if (((p5.toUInt32 >>> ((11 : Int32) &&& 31).toUInt32).toInt32) &&& (3 : Int32)) = (2 : Int32) then if f6l = (0 : Int32) then (1 : Int32) else (0 : Int32) else if (((p5.toUInt32 >>> ((11 : Int32) &&& 31).toUInt32).toInt32) &&& (3 : Int32)) = (3 : Int32) then (nar .boolean (f0_t7 q0 p2 p3 p5 w_MOVE w_PRESS w_RELEASE w_LEFT w_RIGHT w_NONE)) else if (f0_t9 q0 q1 p2 p3 p4 p5 w_MOVE w_PRESS w_RELEASE w_LEFT w_RIGHT w_NONE) = (f0_z8 q0 q1 p2 p3 p4 p5) then if (f0_t10 q0 q1 p2 p3 p4 p5 w_MOVE w_PRESS w_RELEASE w_LEFT w_RIGHT w_NONE) = (f0_z8 q0 q1 p2 p3 p4 p5) then (1 : Int32) else (0 : Int32) else (0 : Int32)
theorem own_m3 (y : Int32) : (y &&& (3 : Int32)) % (3 : Int32) = 0 ∨ (y &&& (3 : Int32)) % (3 : Int32) = 1 ∨ (y &&& (3 : Int32)) % (3 : Int32) = 2 := by
  have h : (y &&& 3).toBitVec.toNat < 4 := by
    rw [Int32.toBitVec_and, BitVec.toNat_and]
    exact Nat.lt_of_le_of_lt Nat.and_le_right (by decide)
  have k : (y &&& 3) = 0 ∨ (y &&& 3) = 1 ∨ (y &&& 3) = 2 ∨ (y &&& 3) = 3 := by
    rcases (by omega : (y &&& 3).toBitVec.toNat = 0 ∨ (y &&& 3).toBitVec.toNat = 1 ∨ (y &&& 3).toBitVec.toNat = 2 ∨ (y &&& 3).toBitVec.toNat = 3) with h | h | h | h
    · exact Or.inl (Int32.toBitVec_inj.mp (BitVec.eq_of_toNat_eq h))
    · exact Or.inr (Or.inl (Int32.toBitVec_inj.mp (BitVec.eq_of_toNat_eq h)))
    · exact Or.inr (Or.inr (Or.inl (Int32.toBitVec_inj.mp (BitVec.eq_of_toNat_eq h))))
    · exact Or.inr (Or.inr (Or.inr (Int32.toBitVec_inj.mp (BitVec.eq_of_toNat_eq h))))
  rcases k with k | k | k | k <;> rw [k] <;> decide
theorem own_in1 {x y : Int32} {a b c : Addr} (hx : x = 0 ∨ x = 1 ∨ x = 2) (hy : y = 0 ∨ y = 1 ∨ y = 2) (n1 : a ≠ b) (n2 : a ≠ c) (n3 : b ≠ c) : f1 x a b c = f1 y a b c ↔ x = y := by
  unfold f1
  rcases hx with rfl | rfl | rfl <;> rcases hy with rfl | rfl | rfl <;> simp [n1, n2, n3, n1.symm, n2.symm, n3.symm]
theorem own_in2 {x y : Int32} {a b c : Addr} (hx : x = 0 ∨ x = 1 ∨ x = 2) (hy : y = 0 ∨ y = 1 ∨ y = 2) (n1 : a ≠ b) (n2 : a ≠ c) (n3 : b ≠ c) : f2 x a b c = f2 y a b c ↔ x = y := own_in1 hx hy n1 n2 n3
theorem own_sym (a0 a1 : Int64) (b0 b1 : Addr) (c0 c1 d0 d1 : Int32) (e0 e1 : Addr) : f6t a1 a0 b1 b0 c1 c0 d1 d0 e1 e0 = f6t a0 a1 b0 b1 c0 c1 d0 d1 e0 e1 := by
  unfold f6t
  simp only [lw_eq, eq_comm (a := a1), eq_comm (a := b1), eq_comm (a := c1), eq_comm (a := d1), eq_comm (a := e1)]
theorem own_law (q0 q1 : Int64) (p2 p3 p4 p5 : Int32) (a b c d e f : Addr) (n1 : a ≠ b) (n2 : a ≠ c) (n3 : b ≠ c) (n4 : d ≠ e) (n5 : d ≠ f) (n6 : e ≠ f) : f0 q0 q1 p2 p3 p4 p5 a b c d e f = 1 := by
  have t3 : f0_t3 p5 = 0 ∨ f0_t3 p5 = 1 ∨ f0_t3 p5 = 2 := own_m3 _
  have t4 : f0_t4 p5 = 0 ∨ f0_t4 p5 = 1 ∨ f0_t4 p5 = 2 := own_m3 _
  have t5 : f0_t5 p5 = 0 ∨ f0_t5 p5 = 1 ∨ f0_t5 p5 = 2 := own_m3 _
  have t6 : f0_t6 p5 = 0 ∨ f0_t6 p5 = 1 ∨ f0_t6 p5 = 2 := own_m3 _
  have h9 : f0_t9 q0 q1 p2 p3 p4 p5 a b c d e f = f0_z8 q0 q1 p2 p3 p4 p5 := by
    unfold f0_t9 f0_z8 f6t
    simp only [own_in1 t3 t4 n1 n2 n3, own_in2 t5 t6 n4 n5 n6]
  have h10 : f0_t10 q0 q1 p2 p3 p4 p5 a b c d e f = f0_z8 q0 q1 p2 p3 p4 p5 := by
    rw [← h9]; unfold f0_t10 f0_t9; exact own_sym ..
  have h7 : f0_t7 q0 p2 p3 p5 a b c d e f = 1 := by
    unfold f0_t7 f6t
    rw [if_pos ((lw_eq _ _).mpr rfl), if_pos rfl, if_pos rfl, if_pos rfl, if_pos rfl]
  have h4 : nar .boolean (1 : Int32) = 1 := rfl
  have h5 : f6n = 0 := rfl
  have h6 : f6l = 0 := rfl
  unfold f0
  rw [h9, h10, h7, h4, h5, h6, if_pos rfl, if_pos rfl, if_pos rfl]
  repeat' split
  all_goals first | rfl | (exfalso; simp_all)
theorem own_bxs {s : State} {args : Array Value} {t : Term} {G : Jvm.Cond} {a : Addr} {c : Cell} (et : ∀ idx, t.eval args s none idx s = some (.ref a)) (A : Arr s s.heap a c (.object "java/lang/Long")) (hl : (Jvm.Cond.eq (Term.length t) (Term.int 256)).value args s none s [] = some true) (h : (Jvm.Cond.all t (.and (.exactly (.elem t (.index 0)) "java/lang/Long") G)).value args s none s [] = some true) : own_Bx s a c := by
  have hA := A.fin (Vm.Alike.refl _)
  obtain ⟨a', c', e1, e2, e3⟩ := Term.length_spec (eqv_i (Term.int_eval 256) hl)
  cases (et []).symm.trans e1
  cases hA.symm.trans e2
  refine ⟨A, ?_, fun j hj => ?_⟩
  · have h5 := eqv_i (Term.int_eval 256) hl
    by_cases hn : c.slots.size < 2147483648
    · have e : (256 : Int32) = c.slots.size.toInt32 := Value.int.inj e3
      have e' := len_toInt hn
      rw [← e] at e'
      have : (256 : Int32).toInt = 256 := rfl
      omega
    · simp [Term.eval, et [], hA, hn] at h5
  · have nn : ¬ j < 0 := fun x => hj (Or.inl x)
    obtain ⟨u1, u2⟩ := and_e (Cond.all_elim (et []) hA h j.toNatClampNeg (Nat.lt_of_not_le fun x => hj (Or.inr x)))
    obtain ⟨box, eb⟩ := exa_v u1
    exact ⟨box, (elem_f (et _) (idx_at nn) hA nn).symm.trans eb, exa_at eb u1⟩
def Q0 (Z : State) (q0 : Int64) (q1 : Int64) (p2 : Int32) (p3 : Int32) (p4 : Int32) (p5 : Int32) (w_cache : Addr) (cl_w_cache : Cell) (w_MOVE : Addr) (w_PRESS : Addr) (w_RELEASE : Addr) (w_LEFT : Addr) (w_RIGHT : Addr) (w_NONE : Addr) (h0 : Heap) (n0 : Nat) (v : Option Value) (h : Heap) (L : List Loc) : Prop := v = some (.int (1 : Int32)) ∧ Fr n0 L
set_option maxRecDepth 65536 in
set_option maxHeartbeats 40000000 in
theorem rm0 (l : Launch) (Z : State) (aw : Array Value) (hw : ∀ d ∈ tables_1, d.before aw Z = true) (ws : List Jvm.Cond) (q0 : Int64) (q1 : Int64) (p2 : Int32) (p3 : Int32) (p4 : Int32) (p5 : Int32) (w_cache : Addr) (cl_w_cache : Cell) (w_MOVE : Addr) (w_PRESS : Addr) (w_RELEASE : Addr) (w_LEFT : Addr) (w_RIGHT : Addr) (w_NONE : Addr) (h0 : Heap) (n0 : Nat) (Z0 : n0 ≤ h0.size) (O0 : Old Z n0 h0) (S_cache : Sta Z Z.heap "java/lang/Long$LongCache" "cache" "[Ljava/lang/Long;" (.ref w_cache)) (B_w_cache : own_Bx Z w_cache cl_w_cache) (S_MOVE : Sta Z Z.heap "com/example/fenced_widget/fencedwidget/protocol/InputType" "MOVE" "Lcom/example/fenced_widget/fencedwidget/protocol/InputType;" (.ref w_MOVE)) (E_w_MOVE : Exa Z h0 w_MOVE "com/example/fenced_widget/fencedwidget/protocol/InputType") (S_PRESS : Sta Z Z.heap "com/example/fenced_widget/fencedwidget/protocol/InputType" "PRESS" "Lcom/example/fenced_widget/fencedwidget/protocol/InputType;" (.ref w_PRESS)) (E_w_PRESS : Exa Z h0 w_PRESS "com/example/fenced_widget/fencedwidget/protocol/InputType") (S_RELEASE : Sta Z Z.heap "com/example/fenced_widget/fencedwidget/protocol/InputType" "RELEASE" "Lcom/example/fenced_widget/fencedwidget/protocol/InputType;" (.ref w_RELEASE)) (E_w_RELEASE : Exa Z h0 w_RELEASE "com/example/fenced_widget/fencedwidget/protocol/InputType") (ne_w_MOVE_w_PRESS : w_MOVE ≠ w_PRESS) (ne_w_MOVE_w_RELEASE : w_MOVE ≠ w_RELEASE) (ne_w_PRESS_w_RELEASE : w_PRESS ≠ w_RELEASE) (S_LEFT : Sta Z Z.heap "com/example/fenced_widget/fencedwidget/protocol/Button" "LEFT" "Lcom/example/fenced_widget/fencedwidget/protocol/Button;" (.ref w_LEFT)) (E_w_LEFT : Exa Z h0 w_LEFT "com/example/fenced_widget/fencedwidget/protocol/Button") (S_RIGHT : Sta Z Z.heap "com/example/fenced_widget/fencedwidget/protocol/Button" "RIGHT" "Lcom/example/fenced_widget/fencedwidget/protocol/Button;" (.ref w_RIGHT)) (E_w_RIGHT : Exa Z h0 w_RIGHT "com/example/fenced_widget/fencedwidget/protocol/Button") (S_NONE : Sta Z Z.heap "com/example/fenced_widget/fencedwidget/protocol/Button" "NONE" "Lcom/example/fenced_widget/fencedwidget/protocol/Button;" (.ref w_NONE)) (E_w_NONE : Exa Z h0 w_NONE "com/example/fenced_widget/fencedwidget/protocol/Button") (ne_w_LEFT_w_RIGHT : w_LEFT ≠ w_RIGHT) (ne_w_LEFT_w_NONE : w_LEFT ≠ w_NONE) (ne_w_RIGHT_w_NONE : w_RIGHT ≠ w_NONE) :
    MetFree l x (head1 (Jvm.Cond.code x code maxLocals ret :: ws) room_1) (fun a U => a = #[(.long q0), (.long q1), (.int p2), (.int p3), (.int p4), (.int p5)] ∧ Z.Warmed39 U.vm ∧ U.heap = h0) (fun _ _ _ _ _ => True) (fun _ U o U' => ∃ v L, o = .returned v ∧ Q0 Z q0 q1 p2 p3 p4 p5 w_cache cl_w_cache w_MOVE w_PRESS w_RELEASE w_LEFT w_RIGHT w_NONE h0 n0 v U'.heap L ∧ ReturnedEndW U o U' L room_1.cells room_1.slots) := by
  refine MetFree.of_bodySF (plainFor_of_name pn_1) hisR ?_
  intro p e s m args below meth c s₁ Bd hml0 hP hK
  obtain ⟨rfl, hZ, hh⟩ := hP
  have hx := Bd.exec
  have hby := Bd.bytes
  have hml : c.maxLocals = 22 := hml0
  have hown : s.vm.findClass "com/example/fenced_widget/fencedwidget/fence/TraceEventEqualsPinLaw" = some m.cls := findClass_of_methodNamed Bd.named
  have hnm := (name_of_methodNamed Bd.named Bd.method).1
  have X0 : Stand p l e room_1 (s.setVm s.vm) m #[(.long q0), (.long q1), (.int p2), (.int p3), (.int p4), (.int p5)] below meth c s₁ [] 0 0 := Stand.of_body Bd
  have e0 : s₁.heap = h0 := by rw [← hh, Bd.state]; rfl
  have N0 := Fr.nil n0
  have S0 : s.Since s.vm s.heap.size := (State.WarmedH.refl s).since _
  have SK0 : s.heap.size ≤ h0.size := Nat.le_of_eq (congrArg Array.size hh)
  replace hZ : Z.Warmed39 (s.setVm s.vm).vm := hZ
  replace hown : (s.setVm s.vm).vm.findClass "com/example/fenced_widget/fencedwidget/fence/TraceEventEqualsPinLaw" = some m.cls := hown
  rw [ef_0 m q0 q1 p2 p3 p4 p5]
  refine go_inW (s₁ := s₁) (Q := Q0 Z q0 q1 p2 p3 p4 p5 w_cache cl_w_cache w_MOVE w_PRESS w_RELEASE w_LEFT w_RIGHT w_NONE h0 n0) fun F hF => ?_
  refine go (B := s₁.setTop (mkF m 1 #[.val (.long q0), .second, .val (.long q1), .second, .val (.int p2), .val (.int p3), .val (.int p4), .val (.int p5), .unset, .unset, .unset, .unset, .unset, .unset, .unset, .unset, .unset, .unset, .unset, .unset, .unset, .unset] [(.long q0)])) (fun _ k => XS.lloadN X0.here hx rfl (hb hby at_0) rfl k) ?_
  refine go (B := s₁.setTop (mkF m 4 #[.val (.long q0), .second, .val (.long q1), .second, .val (.int p2), .val (.int p3), .val (.int p4), .val (.int p5), .unset, .unset, .unset, .unset, .unset, .unset, .unset, .unset, .unset, .unset, .unset, .unset, .unset, .unset] [(.long (9223372036854775807 : Int64)), (.long q0)])) (fun _ k => X0.ldc2Long hx hown (mvT hZ (hw _ (List.mem_of_getElem? (i := 0) rfl))) (g := (mkF m 1 #[.val (.long q0), .second, .val (.long q1), .second, .val (.int p2), .val (.int p3), .val (.int p4), .val (.int p5), .unset, .unset, .unset, .unset, .unset, .unset, .unset, .unset, .unset, .unset, .unset, .unset, .unset, .unset] [(.long q0)])) rfl (hb hby at_1) _ k) ?_
  refine go (B := s₁.setTop (mkF m 5 #[.val (.long q0), .second, .val (.long q1), .second, .val (.int p2), .val (.int p3), .val (.int p4), .val (.int p5), .unset, .unset, .unset, .unset, .unset, .unset, .unset, .unset, .unset, .unset, .unset, .unset, .unset, .unset] [(.long (q0 &&& (9223372036854775807 : Int64)))])) (fun _ k => XS.land X0.here hx rfl (hb hby at_4) rfl k) ?_
  refine go (B := s₁.setTop (mkF m 7 #[.val (.long q0), .second, .val (.long q1), .second, .val (.int p2), .val (.int p3), .val (.int p4), .val (.int p5), .val (.long (q0 &&& (9223372036854775807 : Int64))), .second, .unset, .unset, .unset, .unset, .unset, .unset, .unset, .unset, .unset, .unset, .unset, .unset] [])) (fun _ k => XS.lstore X0.here hx rfl (hb hby at_5) rfl (l' := #[.val (.long q0), .second, .val (.long q1), .second, .val (.int p2), .val (.int p3), .val (.int p4), .val (.int p5), .val (.long (q0 &&& (9223372036854775807 : Int64))), .second, .unset, .unset, .unset, .unset, .unset, .unset, .unset, .unset, .unset, .unset, .unset, .unset]) rfl k) ?_
  refine go (B := s₁.setTop (mkF m 9 #[.val (.long q0), .second, .val (.long q1), .second, .val (.int p2), .val (.int p3), .val (.int p4), .val (.int p5), .val (.long (q0 &&& (9223372036854775807 : Int64))), .second, .unset, .unset, .unset, .unset, .unset, .unset, .unset, .unset, .unset, .unset, .unset, .unset] [(.int p5)])) (fun _ k => XS.iload X0.here hx rfl (hb hby at_7) rfl k) ?_
  refine go (B := s₁.setTop (mkF m 10 #[.val (.long q0), .second, .val (.long q1), .second, .val (.int p2), .val (.int p3), .val (.int p4), .val (.int p5), .val (.long (q0 &&& (9223372036854775807 : Int64))), .second, .unset, .unset, .unset, .unset, .unset, .unset, .unset, .unset, .unset, .unset, .unset, .unset] [(.int (1 : Int32)), (.int p5)])) (fun _ k => XS.iconst X0.here hx rfl (hb hby at_9) k) ?_
  refine go (B := s₁.setTop (mkF m 11 #[.val (.long q0), .second, .val (.long q1), .second, .val (.int p2), .val (.int p3), .val (.int p4), .val (.int p5), .val (.long (q0 &&& (9223372036854775807 : Int64))), .second, .unset, .unset, .unset, .unset, .unset, .unset, .unset, .unset, .unset, .unset, .unset, .unset] [(.int (p5 &&& (1 : Int32)))])) (fun _ k => XS.iand X0.here hx rfl (hb hby at_10) rfl k) ?_
  suffices Kj1 : ∀ (T1 : State) (L1 : List Loc), Stand p l e room_1 (s.setVm s.vm) m #[(.long q0), (.long q1), (.int p2), (.int p3), (.int p4), (.int p5)] below meth c T1 L1 0 0 → Fr n0 L1 → T1.heap = h0 → Go p.tables e below F (T1.setTop (mkF m 24 #[.val (.long q0), .second, .val (.long q1), .second, .val (.int p2), .val (.int p3), .val (.int p4), .val (.int p5), .val (.long (q0 &&& (9223372036854775807 : Int64))), .second, .unset, .unset, .unset, .unset, .unset, .unset, .unset, .unset, .unset, .unset, .unset, .unset] [(.long (f0_z0 q0 q1 p5))])) by
    by_cases hc2 : (p5 &&& (1 : Int32)) = (0 : Int32)
    · refine go (B := s₁.setTop (mkF m 19 #[.val (.long q0), .second, .val (.long q1), .second, .val (.int p2), .val (.int p3), .val (.int p4), .val (.int p5), .val (.long (q0 &&& (9223372036854775807 : Int64))), .second, .unset, .unset, .unset, .unset, .unset, .unset, .unset, .unset, .unset, .unset, .unset, .unset] [])) (fun _ k => XS.ifYes X0.here hx rfl (pc0 := 11) (pc' := 19) rfl (hb hby at_11) rfl ((if0 _ _).trans (teq hc2).1) (by decide) (by decide) k) ?_
      refine go (B := s₁.setTop (mkF m 20 #[.val (.long q0), .second, .val (.long q1), .second, .val (.int p2), .val (.int p3), .val (.int p4), .val (.int p5), .val (.long (q0 &&& (9223372036854775807 : Int64))), .second, .unset, .unset, .unset, .unset, .unset, .unset, .unset, .unset, .unset, .unset, .unset, .unset] [(.long q1)])) (fun _ k => XS.lloadN X0.here hx rfl (hb hby at_19) rfl k) ?_
      refine go (B := s₁.setTop (mkF m 23 #[.val (.long q0), .second, .val (.long q1), .second, .val (.int p2), .val (.int p3), .val (.int p4), .val (.int p5), .val (.long (q0 &&& (9223372036854775807 : Int64))), .second, .unset, .unset, .unset, .unset, .unset, .unset, .unset, .unset, .unset, .unset, .unset, .unset] [(.long (9223372036854775807 : Int64)), (.long q1)])) (fun _ k => X0.ldc2Long hx hown (mvT hZ (hw _ (List.mem_of_getElem? (i := 0) rfl))) (g := (mkF m 20 #[.val (.long q0), .second, .val (.long q1), .second, .val (.int p2), .val (.int p3), .val (.int p4), .val (.int p5), .val (.long (q0 &&& (9223372036854775807 : Int64))), .second, .unset, .unset, .unset, .unset, .unset, .unset, .unset, .unset, .unset, .unset, .unset, .unset] [(.long q1)])) rfl (hb hby at_20) _ k) ?_
      refine go (B := s₁.setTop (mkF m 24 #[.val (.long q0), .second, .val (.long q1), .second, .val (.int p2), .val (.int p3), .val (.int p4), .val (.int p5), .val (.long (q0 &&& (9223372036854775807 : Int64))), .second, .unset, .unset, .unset, .unset, .unset, .unset, .unset, .unset, .unset, .unset, .unset, .unset] [(.long (q1 &&& (9223372036854775807 : Int64)))])) (fun _ k => XS.land X0.here hx rfl (hb hby at_23) rfl k) ?_
      rw [show (f0_z0 q0 q1 p5) = (q1 &&& (9223372036854775807 : Int64)) from by unfold f0_z0; rw [if_pos hc2]] at Kj1
      exact Kj1 _ _ X0 N0 e0
    · refine go (B := s₁.setTop (mkF m 14 #[.val (.long q0), .second, .val (.long q1), .second, .val (.int p2), .val (.int p3), .val (.int p4), .val (.int p5), .val (.long (q0 &&& (9223372036854775807 : Int64))), .second, .unset, .unset, .unset, .unset, .unset, .unset, .unset, .unset, .unset, .unset, .unset, .unset] [])) (fun _ k => XS.ifNo X0.here hx rfl (hb hby at_11) rfl ((if0 _ _).trans (feq hc2).1) k) ?_
      refine go (B := s₁.setTop (mkF m 16 #[.val (.long q0), .second, .val (.long q1), .second, .val (.int p2), .val (.int p3), .val (.int p4), .val (.int p5), .val (.long (q0 &&& (9223372036854775807 : Int64))), .second, .unset, .unset, .unset, .unset, .unset, .unset, .unset, .unset, .unset, .unset, .unset, .unset] [(.long (q0 &&& (9223372036854775807 : Int64)))])) (fun _ k => XS.lload X0.here hx rfl (hb hby at_14) rfl k) ?_
      refine go (B := s₁.setTop (mkF m 24 #[.val (.long q0), .second, .val (.long q1), .second, .val (.int p2), .val (.int p3), .val (.int p4), .val (.int p5), .val (.long (q0 &&& (9223372036854775807 : Int64))), .second, .unset, .unset, .unset, .unset, .unset, .unset, .unset, .unset, .unset, .unset, .unset, .unset] [(.long (q0 &&& (9223372036854775807 : Int64)))])) (fun _ k => XS.goto X0.here hx rfl (pc0 := 16) (pc' := 24) rfl (hb hby at_16) (by decide) (by decide) k) ?_
      rw [show (f0_z0 q0 q1 p5) = (q0 &&& (9223372036854775807 : Int64)) from by unfold f0_z0; rw [if_neg hc2]] at Kj1
      exact Kj1 _ _ X0 N0 e0
  intro T1 L1 X1 N1 e1
  refine go (B := T1.setTop (mkF m 26 #[.val (.long q0), .second, .val (.long q1), .second, .val (.int p2), .val (.int p3), .val (.int p4), .val (.int p5), .val (.long (q0 &&& (9223372036854775807 : Int64))), .second, .val (.long (f0_z0 q0 q1 p5)), .second, .unset, .unset, .unset, .unset, .unset, .unset, .unset, .unset, .unset, .unset] [])) (fun _ k => XS.lstore X1.here hx rfl (hb hby at_24) rfl (l' := #[.val (.long q0), .second, .val (.long q1), .second, .val (.int p2), .val (.int p3), .val (.int p4), .val (.int p5), .val (.long (q0 &&& (9223372036854775807 : Int64))), .second, .val (.long (f0_z0 q0 q1 p5)), .second, .unset, .unset, .unset, .unset, .unset, .unset, .unset, .unset, .unset, .unset]) rfl k) ?_
  refine go (B := T1.setTop (mkF m 28 #[.val (.long q0), .second, .val (.long q1), .second, .val (.int p2), .val (.int p3), .val (.int p4), .val (.int p5), .val (.long (q0 &&& (9223372036854775807 : Int64))), .second, .val (.long (f0_z0 q0 q1 p5)), .second, .unset, .unset, .unset, .unset, .unset, .unset, .unset, .unset, .unset, .unset] [(.int p5)])) (fun _ k => XS.iload X1.here hx rfl (hb hby at_26) rfl k) ?_
  refine go (B := T1.setTop (mkF m 29 #[.val (.long q0), .second, .val (.long q1), .second, .val (.int p2), .val (.int p3), .val (.int p4), .val (.int p5), .val (.long (q0 &&& (9223372036854775807 : Int64))), .second, .val (.long (f0_z0 q0 q1 p5)), .second, .unset, .unset, .unset, .unset, .unset, .unset, .unset, .unset, .unset, .unset] [(.int (2 : Int32)), (.int p5)])) (fun _ k => XS.iconst X1.here hx rfl (hb hby at_28) k) ?_
  refine go (B := T1.setTop (mkF m 30 #[.val (.long q0), .second, .val (.long q1), .second, .val (.int p2), .val (.int p3), .val (.int p4), .val (.int p5), .val (.long (q0 &&& (9223372036854775807 : Int64))), .second, .val (.long (f0_z0 q0 q1 p5)), .second, .unset, .unset, .unset, .unset, .unset, .unset, .unset, .unset, .unset, .unset] [(.int (p5 &&& (2 : Int32)))])) (fun _ k => XS.iand X1.here hx rfl (hb hby at_29) rfl k) ?_
  suffices Kj3 : ∀ (T3 : State) (L3 : List Loc), Stand p l e room_1 (s.setVm s.vm) m #[(.long q0), (.long q1), (.int p2), (.int p3), (.int p4), (.int p5)] below meth c T3 L3 0 0 → Fr n0 L3 → T3.heap = h0 → Go p.tables e below F (T3.setTop (mkF m 40 #[.val (.long q0), .second, .val (.long q1), .second, .val (.int p2), .val (.int p3), .val (.int p4), .val (.int p5), .val (.long (q0 &&& (9223372036854775807 : Int64))), .second, .val (.long (f0_z0 q0 q1 p5)), .second, .unset, .unset, .unset, .unset, .unset, .unset, .unset, .unset, .unset, .unset] [(.int (f0_z1 p2 p4 p5))])) by
    by_cases hc4 : (p5 &&& (2 : Int32)) = (0 : Int32)
    · refine go (B := T1.setTop (mkF m 38 #[.val (.long q0), .second, .val (.long q1), .second, .val (.int p2), .val (.int p3), .val (.int p4), .val (.int p5), .val (.long (q0 &&& (9223372036854775807 : Int64))), .second, .val (.long (f0_z0 q0 q1 p5)), .second, .unset, .unset, .unset, .unset, .unset, .unset, .unset, .unset, .unset, .unset] [])) (fun _ k => XS.ifYes X1.here hx rfl (pc0 := 30) (pc' := 38) rfl (hb hby at_30) rfl ((if0 _ _).trans (teq hc4).1) (by decide) (by decide) k) ?_
      refine go (B := T1.setTop (mkF m 40 #[.val (.long q0), .second, .val (.long q1), .second, .val (.int p2), .val (.int p3), .val (.int p4), .val (.int p5), .val (.long (q0 &&& (9223372036854775807 : Int64))), .second, .val (.long (f0_z0 q0 q1 p5)), .second, .unset, .unset, .unset, .unset, .unset, .unset, .unset, .unset, .unset, .unset] [(.int p4)])) (fun _ k => XS.iload X1.here hx rfl (hb hby at_38) rfl k) ?_
      rw [show (f0_z1 p2 p4 p5) = p4 from by unfold f0_z1; rw [if_pos hc4]] at Kj3
      exact Kj3 _ _ X1 N1 e1
    · refine go (B := T1.setTop (mkF m 33 #[.val (.long q0), .second, .val (.long q1), .second, .val (.int p2), .val (.int p3), .val (.int p4), .val (.int p5), .val (.long (q0 &&& (9223372036854775807 : Int64))), .second, .val (.long (f0_z0 q0 q1 p5)), .second, .unset, .unset, .unset, .unset, .unset, .unset, .unset, .unset, .unset, .unset] [])) (fun _ k => XS.ifNo X1.here hx rfl (hb hby at_30) rfl ((if0 _ _).trans (feq hc4).1) k) ?_
      refine go (B := T1.setTop (mkF m 35 #[.val (.long q0), .second, .val (.long q1), .second, .val (.int p2), .val (.int p3), .val (.int p4), .val (.int p5), .val (.long (q0 &&& (9223372036854775807 : Int64))), .second, .val (.long (f0_z0 q0 q1 p5)), .second, .unset, .unset, .unset, .unset, .unset, .unset, .unset, .unset, .unset, .unset] [(.int p2)])) (fun _ k => XS.iload X1.here hx rfl (hb hby at_33) rfl k) ?_
      refine go (B := T1.setTop (mkF m 40 #[.val (.long q0), .second, .val (.long q1), .second, .val (.int p2), .val (.int p3), .val (.int p4), .val (.int p5), .val (.long (q0 &&& (9223372036854775807 : Int64))), .second, .val (.long (f0_z0 q0 q1 p5)), .second, .unset, .unset, .unset, .unset, .unset, .unset, .unset, .unset, .unset, .unset] [(.int p2)])) (fun _ k => XS.goto X1.here hx rfl (pc0 := 35) (pc' := 40) rfl (hb hby at_35) (by decide) (by decide) k) ?_
      rw [show (f0_z1 p2 p4 p5) = p2 from by unfold f0_z1; rw [if_neg hc4]] at Kj3
      exact Kj3 _ _ X1 N1 e1
  intro T3 L3 X3 N3 e3
  refine go (B := T3.setTop (mkF m 42 #[.val (.long q0), .second, .val (.long q1), .second, .val (.int p2), .val (.int p3), .val (.int p4), .val (.int p5), .val (.long (q0 &&& (9223372036854775807 : Int64))), .second, .val (.long (f0_z0 q0 q1 p5)), .second, .val (.int (f0_z1 p2 p4 p5)), .unset, .unset, .unset, .unset, .unset, .unset, .unset, .unset, .unset] [])) (fun _ k => XS.istore X3.here hx rfl (hb hby at_40) rfl (l' := #[.val (.long q0), .second, .val (.long q1), .second, .val (.int p2), .val (.int p3), .val (.int p4), .val (.int p5), .val (.long (q0 &&& (9223372036854775807 : Int64))), .second, .val (.long (f0_z0 q0 q1 p5)), .second, .val (.int (f0_z1 p2 p4 p5)), .unset, .unset, .unset, .unset, .unset, .unset, .unset, .unset, .unset]) rfl k) ?_
  refine go (B := T3.setTop (mkF m 44 #[.val (.long q0), .second, .val (.long q1), .second, .val (.int p2), .val (.int p3), .val (.int p4), .val (.int p5), .val (.long (q0 &&& (9223372036854775807 : Int64))), .second, .val (.long (f0_z0 q0 q1 p5)), .second, .val (.int (f0_z1 p2 p4 p5)), .unset, .unset, .unset, .unset, .unset, .unset, .unset, .unset, .unset] [(.int p5)])) (fun _ k => XS.iload X3.here hx rfl (hb hby at_42) rfl k) ?_
  refine go (B := T3.setTop (mkF m 45 #[.val (.long q0), .second, .val (.long q1), .second, .val (.int p2), .val (.int p3), .val (.int p4), .val (.int p5), .val (.long (q0 &&& (9223372036854775807 : Int64))), .second, .val (.long (f0_z0 q0 q1 p5)), .second, .val (.int (f0_z1 p2 p4 p5)), .unset, .unset, .unset, .unset, .unset, .unset, .unset, .unset, .unset] [(.int (4 : Int32)), (.int p5)])) (fun _ k => XS.iconst X3.here hx rfl (hb hby at_44) k) ?_
  refine go (B := T3.setTop (mkF m 46 #[.val (.long q0), .second, .val (.long q1), .second, .val (.int p2), .val (.int p3), .val (.int p4), .val (.int p5), .val (.long (q0 &&& (9223372036854775807 : Int64))), .second, .val (.long (f0_z0 q0 q1 p5)), .second, .val (.int (f0_z1 p2 p4 p5)), .unset, .unset, .unset, .unset, .unset, .unset, .unset, .unset, .unset] [(.int (p5 &&& (4 : Int32)))])) (fun _ k => XS.iand X3.here hx rfl (hb hby at_45) rfl k) ?_
  suffices Kj5 : ∀ (T5 : State) (L5 : List Loc), Stand p l e room_1 (s.setVm s.vm) m #[(.long q0), (.long q1), (.int p2), (.int p3), (.int p4), (.int p5)] below meth c T5 L5 0 0 → Fr n0 L5 → T5.heap = h0 → Go p.tables e below F (T5.setTop (mkF m 59 #[.val (.long q0), .second, .val (.long q1), .second, .val (.int p2), .val (.int p3), .val (.int p4), .val (.int p5), .val (.long (q0 &&& (9223372036854775807 : Int64))), .second, .val (.long (f0_z0 q0 q1 p5)), .second, .val (.int (f0_z1 p2 p4 p5)), .unset, .unset, .unset, .unset, .unset, .unset, .unset, .unset, .unset] [(.int (f0_z2 q1 p3 p5))])) by
    by_cases hc6 : (p5 &&& (4 : Int32)) = (0 : Int32)
    · refine go (B := T3.setTop (mkF m 54 #[.val (.long q0), .second, .val (.long q1), .second, .val (.int p2), .val (.int p3), .val (.int p4), .val (.int p5), .val (.long (q0 &&& (9223372036854775807 : Int64))), .second, .val (.long (f0_z0 q0 q1 p5)), .second, .val (.int (f0_z1 p2 p4 p5)), .unset, .unset, .unset, .unset, .unset, .unset, .unset, .unset, .unset] [])) (fun _ k => XS.ifYes X3.here hx rfl (pc0 := 46) (pc' := 54) rfl (hb hby at_46) rfl ((if0 _ _).trans (teq hc6).1) (by decide) (by decide) k) ?_
      refine go (B := T3.setTop (mkF m 55 #[.val (.long q0), .second, .val (.long q1), .second, .val (.int p2), .val (.int p3), .val (.int p4), .val (.int p5), .val (.long (q0 &&& (9223372036854775807 : Int64))), .second, .val (.long (f0_z0 q0 q1 p5)), .second, .val (.int (f0_z1 p2 p4 p5)), .unset, .unset, .unset, .unset, .unset, .unset, .unset, .unset, .unset] [(.long q1)])) (fun _ k => XS.lloadN X3.here hx rfl (hb hby at_54) rfl k) ?_
      refine go (B := T3.setTop (mkF m 57 #[.val (.long q0), .second, .val (.long q1), .second, .val (.int p2), .val (.int p3), .val (.int p4), .val (.int p5), .val (.long (q0 &&& (9223372036854775807 : Int64))), .second, .val (.long (f0_z0 q0 q1 p5)), .second, .val (.int (f0_z1 p2 p4 p5)), .unset, .unset, .unset, .unset, .unset, .unset, .unset, .unset, .unset] [(.int (32 : Int32)), (.long q1)])) (fun _ k => XS.bipush X3.here hx rfl (hb hby at_55) k) ?_
      refine go (B := T3.setTop (mkF m 58 #[.val (.long q0), .second, .val (.long q1), .second, .val (.int p2), .val (.int p3), .val (.int p4), .val (.int p5), .val (.long (q0 &&& (9223372036854775807 : Int64))), .second, .val (.long (f0_z0 q0 q1 p5)), .second, .val (.int (f0_z1 p2 p4 p5)), .unset, .unset, .unset, .unset, .unset, .unset, .unset, .unset, .unset] [(.long ((q1.toUInt64 >>> ((32 : Int32) &&& 0x3f).toInt64.toUInt64).toInt64))])) (fun _ k => XS.lushr X3.here hx rfl (hb hby at_57) rfl k) ?_
      refine go (B := T3.setTop (mkF m 59 #[.val (.long q0), .second, .val (.long q1), .second, .val (.int p2), .val (.int p3), .val (.int p4), .val (.int p5), .val (.long (q0 &&& (9223372036854775807 : Int64))), .second, .val (.long (f0_z0 q0 q1 p5)), .second, .val (.int (f0_z1 p2 p4 p5)), .unset, .unset, .unset, .unset, .unset, .unset, .unset, .unset, .unset] [(.int (((q1.toUInt64 >>> ((32 : Int32) &&& 0x3f).toInt64.toUInt64).toInt64).toInt32))])) (fun _ k => XS.l2i X3.here hx rfl (hb hby at_58) rfl k) ?_
      rw [show (f0_z2 q1 p3 p5) = (((q1.toUInt64 >>> ((32 : Int32) &&& 0x3f).toInt64.toUInt64).toInt64).toInt32) from by unfold f0_z2; rw [if_pos hc6]] at Kj5
      exact Kj5 _ _ X3 N3 e3
    · refine go (B := T3.setTop (mkF m 49 #[.val (.long q0), .second, .val (.long q1), .second, .val (.int p2), .val (.int p3), .val (.int p4), .val (.int p5), .val (.long (q0 &&& (9223372036854775807 : Int64))), .second, .val (.long (f0_z0 q0 q1 p5)), .second, .val (.int (f0_z1 p2 p4 p5)), .unset, .unset, .unset, .unset, .unset, .unset, .unset, .unset, .unset] [])) (fun _ k => XS.ifNo X3.here hx rfl (hb hby at_46) rfl ((if0 _ _).trans (feq hc6).1) k) ?_
      refine go (B := T3.setTop (mkF m 51 #[.val (.long q0), .second, .val (.long q1), .second, .val (.int p2), .val (.int p3), .val (.int p4), .val (.int p5), .val (.long (q0 &&& (9223372036854775807 : Int64))), .second, .val (.long (f0_z0 q0 q1 p5)), .second, .val (.int (f0_z1 p2 p4 p5)), .unset, .unset, .unset, .unset, .unset, .unset, .unset, .unset, .unset] [(.int p3)])) (fun _ k => XS.iload X3.here hx rfl (hb hby at_49) rfl k) ?_
      refine go (B := T3.setTop (mkF m 59 #[.val (.long q0), .second, .val (.long q1), .second, .val (.int p2), .val (.int p3), .val (.int p4), .val (.int p5), .val (.long (q0 &&& (9223372036854775807 : Int64))), .second, .val (.long (f0_z0 q0 q1 p5)), .second, .val (.int (f0_z1 p2 p4 p5)), .unset, .unset, .unset, .unset, .unset, .unset, .unset, .unset, .unset] [(.int p3)])) (fun _ k => XS.goto X3.here hx rfl (pc0 := 51) (pc' := 59) rfl (hb hby at_51) (by decide) (by decide) k) ?_
      rw [show (f0_z2 q1 p3 p5) = p3 from by unfold f0_z2; rw [if_neg hc6]] at Kj5
      exact Kj5 _ _ X3 N3 e3
  intro T5 L5 X5 N5 e5
  refine go (B := T5.setTop (mkF m 61 #[.val (.long q0), .second, .val (.long q1), .second, .val (.int p2), .val (.int p3), .val (.int p4), .val (.int p5), .val (.long (q0 &&& (9223372036854775807 : Int64))), .second, .val (.long (f0_z0 q0 q1 p5)), .second, .val (.int (f0_z1 p2 p4 p5)), .val (.int (f0_z2 q1 p3 p5)), .unset, .unset, .unset, .unset, .unset, .unset, .unset, .unset] [])) (fun _ k => XS.istore X5.here hx rfl (hb hby at_59) rfl (l' := #[.val (.long q0), .second, .val (.long q1), .second, .val (.int p2), .val (.int p3), .val (.int p4), .val (.int p5), .val (.long (q0 &&& (9223372036854775807 : Int64))), .second, .val (.long (f0_z0 q0 q1 p5)), .second, .val (.int (f0_z1 p2 p4 p5)), .val (.int (f0_z2 q1 p3 p5)), .unset, .unset, .unset, .unset, .unset, .unset, .unset, .unset]) rfl k) ?_
  refine go (B := T5.setTop (mkF m 63 #[.val (.long q0), .second, .val (.long q1), .second, .val (.int p2), .val (.int p3), .val (.int p4), .val (.int p5), .val (.long (q0 &&& (9223372036854775807 : Int64))), .second, .val (.long (f0_z0 q0 q1 p5)), .second, .val (.int (f0_z1 p2 p4 p5)), .val (.int (f0_z2 q1 p3 p5)), .unset, .unset, .unset, .unset, .unset, .unset, .unset, .unset] [(.int p5)])) (fun _ k => XS.iload X5.here hx rfl (hb hby at_61) rfl k) ?_
  refine go (B := T5.setTop (mkF m 64 #[.val (.long q0), .second, .val (.long q1), .second, .val (.int p2), .val (.int p3), .val (.int p4), .val (.int p5), .val (.long (q0 &&& (9223372036854775807 : Int64))), .second, .val (.long (f0_z0 q0 q1 p5)), .second, .val (.int (f0_z1 p2 p4 p5)), .val (.int (f0_z2 q1 p3 p5)), .unset, .unset, .unset, .unset, .unset, .unset, .unset, .unset] [(.int (3 : Int32)), (.int p5)])) (fun _ k => XS.iconst X5.here hx rfl (hb hby at_63) k) ?_
  refine go (B := T5.setTop (mkF m 65 #[.val (.long q0), .second, .val (.long q1), .second, .val (.int p2), .val (.int p3), .val (.int p4), .val (.int p5), .val (.long (q0 &&& (9223372036854775807 : Int64))), .second, .val (.long (f0_z0 q0 q1 p5)), .second, .val (.int (f0_z1 p2 p4 p5)), .val (.int (f0_z2 q1 p3 p5)), .unset, .unset, .unset, .unset, .unset, .unset, .unset, .unset] [(.int ((p5.toUInt32 >>> ((3 : Int32) &&& 31).toUInt32).toInt32))])) (fun _ k => XS.iushr X5.here hx rfl (hb hby at_64) rfl k) ?_
  refine go (B := T5.setTop (mkF m 66 #[.val (.long q0), .second, .val (.long q1), .second, .val (.int p2), .val (.int p3), .val (.int p4), .val (.int p5), .val (.long (q0 &&& (9223372036854775807 : Int64))), .second, .val (.long (f0_z0 q0 q1 p5)), .second, .val (.int (f0_z1 p2 p4 p5)), .val (.int (f0_z2 q1 p3 p5)), .unset, .unset, .unset, .unset, .unset, .unset, .unset, .unset] [(.int (3 : Int32)), (.int ((p5.toUInt32 >>> ((3 : Int32) &&& 31).toUInt32).toInt32))])) (fun _ k => XS.iconst X5.here hx rfl (hb hby at_65) k) ?_
  refine go (B := T5.setTop (mkF m 67 #[.val (.long q0), .second, .val (.long q1), .second, .val (.int p2), .val (.int p3), .val (.int p4), .val (.int p5), .val (.long (q0 &&& (9223372036854775807 : Int64))), .second, .val (.long (f0_z0 q0 q1 p5)), .second, .val (.int (f0_z1 p2 p4 p5)), .val (.int (f0_z2 q1 p3 p5)), .unset, .unset, .unset, .unset, .unset, .unset, .unset, .unset] [(.int (((p5.toUInt32 >>> ((3 : Int32) &&& 31).toUInt32).toInt32) &&& (3 : Int32)))])) (fun _ k => XS.iand X5.here hx rfl (hb hby at_66) rfl k) ?_
  refine go (B := T5.setTop (mkF m 68 #[.val (.long q0), .second, .val (.long q1), .second, .val (.int p2), .val (.int p3), .val (.int p4), .val (.int p5), .val (.long (q0 &&& (9223372036854775807 : Int64))), .second, .val (.long (f0_z0 q0 q1 p5)), .second, .val (.int (f0_z1 p2 p4 p5)), .val (.int (f0_z2 q1 p3 p5)), .unset, .unset, .unset, .unset, .unset, .unset, .unset, .unset] [(.int (3 : Int32)), (.int (((p5.toUInt32 >>> ((3 : Int32) &&& 31).toUInt32).toInt32) &&& (3 : Int32)))])) (fun _ k => XS.iconst X5.here hx rfl (hb hby at_67) k) ?_
  refine go (B := T5.setTop (mkF m 69 #[.val (.long q0), .second, .val (.long q1), .second, .val (.int p2), .val (.int p3), .val (.int p4), .val (.int p5), .val (.long (q0 &&& (9223372036854775807 : Int64))), .second, .val (.long (f0_z0 q0 q1 p5)), .second, .val (.int (f0_z1 p2 p4 p5)), .val (.int (f0_z2 q1 p3 p5)), .unset, .unset, .unset, .unset, .unset, .unset, .unset, .unset] [(.int (f0_t3 p5))])) (fun _ k => iremM X5 hx rfl (hb hby at_68) rfl (by decide) k) ?_
  refine go (B := T5.setTop (mkF m 71 #[.val (.long q0), .second, .val (.long q1), .second, .val (.int p2), .val (.int p3), .val (.int p4), .val (.int p5), .val (.long (q0 &&& (9223372036854775807 : Int64))), .second, .val (.long (f0_z0 q0 q1 p5)), .second, .val (.int (f0_z1 p2 p4 p5)), .val (.int (f0_z2 q1 p3 p5)), .val (.int (f0_t3 p5)), .unset, .unset, .unset, .unset, .unset, .unset, .unset] [])) (fun _ k => XS.istore X5.here hx rfl (hb hby at_69) rfl (l' := #[.val (.long q0), .second, .val (.long q1), .second, .val (.int p2), .val (.int p3), .val (.int p4), .val (.int p5), .val (.long (q0 &&& (9223372036854775807 : Int64))), .second, .val (.long (f0_z0 q0 q1 p5)), .second, .val (.int (f0_z1 p2 p4 p5)), .val (.int (f0_z2 q1 p3 p5)), .val (.int (f0_t3 p5)), .unset, .unset, .unset, .unset, .unset, .unset, .unset]) rfl k) ?_
  refine go (B := T5.setTop (mkF m 73 #[.val (.long q0), .second, .val (.long q1), .second, .val (.int p2), .val (.int p3), .val (.int p4), .val (.int p5), .val (.long (q0 &&& (9223372036854775807 : Int64))), .second, .val (.long (f0_z0 q0 q1 p5)), .second, .val (.int (f0_z1 p2 p4 p5)), .val (.int (f0_z2 q1 p3 p5)), .val (.int (f0_t3 p5)), .unset, .unset, .unset, .unset, .unset, .unset, .unset] [(.int p5)])) (fun _ k => XS.iload X5.here hx rfl (hb hby at_71) rfl k) ?_
  refine go (B := T5.setTop (mkF m 74 #[.val (.long q0), .second, .val (.long q1), .second, .val (.int p2), .val (.int p3), .val (.int p4), .val (.int p5), .val (.long (q0 &&& (9223372036854775807 : Int64))), .second, .val (.long (f0_z0 q0 q1 p5)), .second, .val (.int (f0_z1 p2 p4 p5)), .val (.int (f0_z2 q1 p3 p5)), .val (.int (f0_t3 p5)), .unset, .unset, .unset, .unset, .unset, .unset, .unset] [(.int (5 : Int32)), (.int p5)])) (fun _ k => XS.iconst X5.here hx rfl (hb hby at_73) k) ?_
  refine go (B := T5.setTop (mkF m 75 #[.val (.long q0), .second, .val (.long q1), .second, .val (.int p2), .val (.int p3), .val (.int p4), .val (.int p5), .val (.long (q0 &&& (9223372036854775807 : Int64))), .second, .val (.long (f0_z0 q0 q1 p5)), .second, .val (.int (f0_z1 p2 p4 p5)), .val (.int (f0_z2 q1 p3 p5)), .val (.int (f0_t3 p5)), .unset, .unset, .unset, .unset, .unset, .unset, .unset] [(.int ((p5.toUInt32 >>> ((5 : Int32) &&& 31).toUInt32).toInt32))])) (fun _ k => XS.iushr X5.here hx rfl (hb hby at_74) rfl k) ?_
  refine go (B := T5.setTop (mkF m 76 #[.val (.long q0), .second, .val (.long q1), .second, .val (.int p2), .val (.int p3), .val (.int p4), .val (.int p5), .val (.long (q0 &&& (9223372036854775807 : Int64))), .second, .val (.long (f0_z0 q0 q1 p5)), .second, .val (.int (f0_z1 p2 p4 p5)), .val (.int (f0_z2 q1 p3 p5)), .val (.int (f0_t3 p5)), .unset, .unset, .unset, .unset, .unset, .unset, .unset] [(.int (3 : Int32)), (.int ((p5.toUInt32 >>> ((5 : Int32) &&& 31).toUInt32).toInt32))])) (fun _ k => XS.iconst X5.here hx rfl (hb hby at_75) k) ?_
  refine go (B := T5.setTop (mkF m 77 #[.val (.long q0), .second, .val (.long q1), .second, .val (.int p2), .val (.int p3), .val (.int p4), .val (.int p5), .val (.long (q0 &&& (9223372036854775807 : Int64))), .second, .val (.long (f0_z0 q0 q1 p5)), .second, .val (.int (f0_z1 p2 p4 p5)), .val (.int (f0_z2 q1 p3 p5)), .val (.int (f0_t3 p5)), .unset, .unset, .unset, .unset, .unset, .unset, .unset] [(.int (((p5.toUInt32 >>> ((5 : Int32) &&& 31).toUInt32).toInt32) &&& (3 : Int32)))])) (fun _ k => XS.iand X5.here hx rfl (hb hby at_76) rfl k) ?_
  refine go (B := T5.setTop (mkF m 78 #[.val (.long q0), .second, .val (.long q1), .second, .val (.int p2), .val (.int p3), .val (.int p4), .val (.int p5), .val (.long (q0 &&& (9223372036854775807 : Int64))), .second, .val (.long (f0_z0 q0 q1 p5)), .second, .val (.int (f0_z1 p2 p4 p5)), .val (.int (f0_z2 q1 p3 p5)), .val (.int (f0_t3 p5)), .unset, .unset, .unset, .unset, .unset, .unset, .unset] [(.int (3 : Int32)), (.int (((p5.toUInt32 >>> ((5 : Int32) &&& 31).toUInt32).toInt32) &&& (3 : Int32)))])) (fun _ k => XS.iconst X5.here hx rfl (hb hby at_77) k) ?_
  refine go (B := T5.setTop (mkF m 79 #[.val (.long q0), .second, .val (.long q1), .second, .val (.int p2), .val (.int p3), .val (.int p4), .val (.int p5), .val (.long (q0 &&& (9223372036854775807 : Int64))), .second, .val (.long (f0_z0 q0 q1 p5)), .second, .val (.int (f0_z1 p2 p4 p5)), .val (.int (f0_z2 q1 p3 p5)), .val (.int (f0_t3 p5)), .unset, .unset, .unset, .unset, .unset, .unset, .unset] [(.int (f0_t4 p5))])) (fun _ k => iremM X5 hx rfl (hb hby at_78) rfl (by decide) k) ?_
  refine go (B := T5.setTop (mkF m 81 #[.val (.long q0), .second, .val (.long q1), .second, .val (.int p2), .val (.int p3), .val (.int p4), .val (.int p5), .val (.long (q0 &&& (9223372036854775807 : Int64))), .second, .val (.long (f0_z0 q0 q1 p5)), .second, .val (.int (f0_z1 p2 p4 p5)), .val (.int (f0_z2 q1 p3 p5)), .val (.int (f0_t3 p5)), .val (.int (f0_t4 p5)), .unset, .unset, .unset, .unset, .unset, .unset] [])) (fun _ k => XS.istore X5.here hx rfl (hb hby at_79) rfl (l' := #[.val (.long q0), .second, .val (.long q1), .second, .val (.int p2), .val (.int p3), .val (.int p4), .val (.int p5), .val (.long (q0 &&& (9223372036854775807 : Int64))), .second, .val (.long (f0_z0 q0 q1 p5)), .second, .val (.int (f0_z1 p2 p4 p5)), .val (.int (f0_z2 q1 p3 p5)), .val (.int (f0_t3 p5)), .val (.int (f0_t4 p5)), .unset, .unset, .unset, .unset, .unset, .unset]) rfl k) ?_
  refine go (B := T5.setTop (mkF m 83 #[.val (.long q0), .second, .val (.long q1), .second, .val (.int p2), .val (.int p3), .val (.int p4), .val (.int p5), .val (.long (q0 &&& (9223372036854775807 : Int64))), .second, .val (.long (f0_z0 q0 q1 p5)), .second, .val (.int (f0_z1 p2 p4 p5)), .val (.int (f0_z2 q1 p3 p5)), .val (.int (f0_t3 p5)), .val (.int (f0_t4 p5)), .unset, .unset, .unset, .unset, .unset, .unset] [(.int p5)])) (fun _ k => XS.iload X5.here hx rfl (hb hby at_81) rfl k) ?_
  refine go (B := T5.setTop (mkF m 85 #[.val (.long q0), .second, .val (.long q1), .second, .val (.int p2), .val (.int p3), .val (.int p4), .val (.int p5), .val (.long (q0 &&& (9223372036854775807 : Int64))), .second, .val (.long (f0_z0 q0 q1 p5)), .second, .val (.int (f0_z1 p2 p4 p5)), .val (.int (f0_z2 q1 p3 p5)), .val (.int (f0_t3 p5)), .val (.int (f0_t4 p5)), .unset, .unset, .unset, .unset, .unset, .unset] [(.int (7 : Int32)), (.int p5)])) (fun _ k => XS.bipush X5.here hx rfl (hb hby at_83) k) ?_
  refine go (B := T5.setTop (mkF m 86 #[.val (.long q0), .second, .val (.long q1), .second, .val (.int p2), .val (.int p3), .val (.int p4), .val (.int p5), .val (.long (q0 &&& (9223372036854775807 : Int64))), .second, .val (.long (f0_z0 q0 q1 p5)), .second, .val (.int (f0_z1 p2 p4 p5)), .val (.int (f0_z2 q1 p3 p5)), .val (.int (f0_t3 p5)), .val (.int (f0_t4 p5)), .unset, .unset, .unset, .unset, .unset, .unset] [(.int ((p5.toUInt32 >>> ((7 : Int32) &&& 31).toUInt32).toInt32))])) (fun _ k => XS.iushr X5.here hx rfl (hb hby at_85) rfl k) ?_
  refine go (B := T5.setTop (mkF m 87 #[.val (.long q0), .second, .val (.long q1), .second, .val (.int p2), .val (.int p3), .val (.int p4), .val (.int p5), .val (.long (q0 &&& (9223372036854775807 : Int64))), .second, .val (.long (f0_z0 q0 q1 p5)), .second, .val (.int (f0_z1 p2 p4 p5)), .val (.int (f0_z2 q1 p3 p5)), .val (.int (f0_t3 p5)), .val (.int (f0_t4 p5)), .unset, .unset, .unset, .unset, .unset, .unset] [(.int (3 : Int32)), (.int ((p5.toUInt32 >>> ((7 : Int32) &&& 31).toUInt32).toInt32))])) (fun _ k => XS.iconst X5.here hx rfl (hb hby at_86) k) ?_
  refine go (B := T5.setTop (mkF m 88 #[.val (.long q0), .second, .val (.long q1), .second, .val (.int p2), .val (.int p3), .val (.int p4), .val (.int p5), .val (.long (q0 &&& (9223372036854775807 : Int64))), .second, .val (.long (f0_z0 q0 q1 p5)), .second, .val (.int (f0_z1 p2 p4 p5)), .val (.int (f0_z2 q1 p3 p5)), .val (.int (f0_t3 p5)), .val (.int (f0_t4 p5)), .unset, .unset, .unset, .unset, .unset, .unset] [(.int (((p5.toUInt32 >>> ((7 : Int32) &&& 31).toUInt32).toInt32) &&& (3 : Int32)))])) (fun _ k => XS.iand X5.here hx rfl (hb hby at_87) rfl k) ?_
  refine go (B := T5.setTop (mkF m 89 #[.val (.long q0), .second, .val (.long q1), .second, .val (.int p2), .val (.int p3), .val (.int p4), .val (.int p5), .val (.long (q0 &&& (9223372036854775807 : Int64))), .second, .val (.long (f0_z0 q0 q1 p5)), .second, .val (.int (f0_z1 p2 p4 p5)), .val (.int (f0_z2 q1 p3 p5)), .val (.int (f0_t3 p5)), .val (.int (f0_t4 p5)), .unset, .unset, .unset, .unset, .unset, .unset] [(.int (3 : Int32)), (.int (((p5.toUInt32 >>> ((7 : Int32) &&& 31).toUInt32).toInt32) &&& (3 : Int32)))])) (fun _ k => XS.iconst X5.here hx rfl (hb hby at_88) k) ?_
  refine go (B := T5.setTop (mkF m 90 #[.val (.long q0), .second, .val (.long q1), .second, .val (.int p2), .val (.int p3), .val (.int p4), .val (.int p5), .val (.long (q0 &&& (9223372036854775807 : Int64))), .second, .val (.long (f0_z0 q0 q1 p5)), .second, .val (.int (f0_z1 p2 p4 p5)), .val (.int (f0_z2 q1 p3 p5)), .val (.int (f0_t3 p5)), .val (.int (f0_t4 p5)), .unset, .unset, .unset, .unset, .unset, .unset] [(.int (f0_t5 p5))])) (fun _ k => iremM X5 hx rfl (hb hby at_89) rfl (by decide) k) ?_
  refine go (B := T5.setTop (mkF m 92 #[.val (.long q0), .second, .val (.long q1), .second, .val (.int p2), .val (.int p3), .val (.int p4), .val (.int p5), .val (.long (q0 &&& (9223372036854775807 : Int64))), .second, .val (.long (f0_z0 q0 q1 p5)), .second, .val (.int (f0_z1 p2 p4 p5)), .val (.int (f0_z2 q1 p3 p5)), .val (.int (f0_t3 p5)), .val (.int (f0_t4 p5)), .val (.int (f0_t5 p5)), .unset, .unset, .unset, .unset, .unset] [])) (fun _ k => XS.istore X5.here hx rfl (hb hby at_90) rfl (l' := #[.val (.long q0), .second, .val (.long q1), .second, .val (.int p2), .val (.int p3), .val (.int p4), .val (.int p5), .val (.long (q0 &&& (9223372036854775807 : Int64))), .second, .val (.long (f0_z0 q0 q1 p5)), .second, .val (.int (f0_z1 p2 p4 p5)), .val (.int (f0_z2 q1 p3 p5)), .val (.int (f0_t3 p5)), .val (.int (f0_t4 p5)), .val (.int (f0_t5 p5)), .unset, .unset, .unset, .unset, .unset]) rfl k) ?_
  refine go (B := T5.setTop (mkF m 94 #[.val (.long q0), .second, .val (.long q1), .second, .val (.int p2), .val (.int p3), .val (.int p4), .val (.int p5), .val (.long (q0 &&& (9223372036854775807 : Int64))), .second, .val (.long (f0_z0 q0 q1 p5)), .second, .val (.int (f0_z1 p2 p4 p5)), .val (.int (f0_z2 q1 p3 p5)), .val (.int (f0_t3 p5)), .val (.int (f0_t4 p5)), .val (.int (f0_t5 p5)), .unset, .unset, .unset, .unset, .unset] [(.int p5)])) (fun _ k => XS.iload X5.here hx rfl (hb hby at_92) rfl k) ?_
  refine go (B := T5.setTop (mkF m 96 #[.val (.long q0), .second, .val (.long q1), .second, .val (.int p2), .val (.int p3), .val (.int p4), .val (.int p5), .val (.long (q0 &&& (9223372036854775807 : Int64))), .second, .val (.long (f0_z0 q0 q1 p5)), .second, .val (.int (f0_z1 p2 p4 p5)), .val (.int (f0_z2 q1 p3 p5)), .val (.int (f0_t3 p5)), .val (.int (f0_t4 p5)), .val (.int (f0_t5 p5)), .unset, .unset, .unset, .unset, .unset] [(.int (9 : Int32)), (.int p5)])) (fun _ k => XS.bipush X5.here hx rfl (hb hby at_94) k) ?_
  refine go (B := T5.setTop (mkF m 97 #[.val (.long q0), .second, .val (.long q1), .second, .val (.int p2), .val (.int p3), .val (.int p4), .val (.int p5), .val (.long (q0 &&& (9223372036854775807 : Int64))), .second, .val (.long (f0_z0 q0 q1 p5)), .second, .val (.int (f0_z1 p2 p4 p5)), .val (.int (f0_z2 q1 p3 p5)), .val (.int (f0_t3 p5)), .val (.int (f0_t4 p5)), .val (.int (f0_t5 p5)), .unset, .unset, .unset, .unset, .unset] [(.int ((p5.toUInt32 >>> ((9 : Int32) &&& 31).toUInt32).toInt32))])) (fun _ k => XS.iushr X5.here hx rfl (hb hby at_96) rfl k) ?_
  refine go (B := T5.setTop (mkF m 98 #[.val (.long q0), .second, .val (.long q1), .second, .val (.int p2), .val (.int p3), .val (.int p4), .val (.int p5), .val (.long (q0 &&& (9223372036854775807 : Int64))), .second, .val (.long (f0_z0 q0 q1 p5)), .second, .val (.int (f0_z1 p2 p4 p5)), .val (.int (f0_z2 q1 p3 p5)), .val (.int (f0_t3 p5)), .val (.int (f0_t4 p5)), .val (.int (f0_t5 p5)), .unset, .unset, .unset, .unset, .unset] [(.int (3 : Int32)), (.int ((p5.toUInt32 >>> ((9 : Int32) &&& 31).toUInt32).toInt32))])) (fun _ k => XS.iconst X5.here hx rfl (hb hby at_97) k) ?_
  refine go (B := T5.setTop (mkF m 99 #[.val (.long q0), .second, .val (.long q1), .second, .val (.int p2), .val (.int p3), .val (.int p4), .val (.int p5), .val (.long (q0 &&& (9223372036854775807 : Int64))), .second, .val (.long (f0_z0 q0 q1 p5)), .second, .val (.int (f0_z1 p2 p4 p5)), .val (.int (f0_z2 q1 p3 p5)), .val (.int (f0_t3 p5)), .val (.int (f0_t4 p5)), .val (.int (f0_t5 p5)), .unset, .unset, .unset, .unset, .unset] [(.int (((p5.toUInt32 >>> ((9 : Int32) &&& 31).toUInt32).toInt32) &&& (3 : Int32)))])) (fun _ k => XS.iand X5.here hx rfl (hb hby at_98) rfl k) ?_
  refine go (B := T5.setTop (mkF m 100 #[.val (.long q0), .second, .val (.long q1), .second, .val (.int p2), .val (.int p3), .val (.int p4), .val (.int p5), .val (.long (q0 &&& (9223372036854775807 : Int64))), .second, .val (.long (f0_z0 q0 q1 p5)), .second, .val (.int (f0_z1 p2 p4 p5)), .val (.int (f0_z2 q1 p3 p5)), .val (.int (f0_t3 p5)), .val (.int (f0_t4 p5)), .val (.int (f0_t5 p5)), .unset, .unset, .unset, .unset, .unset] [(.int (3 : Int32)), (.int (((p5.toUInt32 >>> ((9 : Int32) &&& 31).toUInt32).toInt32) &&& (3 : Int32)))])) (fun _ k => XS.iconst X5.here hx rfl (hb hby at_99) k) ?_
  refine go (B := T5.setTop (mkF m 101 #[.val (.long q0), .second, .val (.long q1), .second, .val (.int p2), .val (.int p3), .val (.int p4), .val (.int p5), .val (.long (q0 &&& (9223372036854775807 : Int64))), .second, .val (.long (f0_z0 q0 q1 p5)), .second, .val (.int (f0_z1 p2 p4 p5)), .val (.int (f0_z2 q1 p3 p5)), .val (.int (f0_t3 p5)), .val (.int (f0_t4 p5)), .val (.int (f0_t5 p5)), .unset, .unset, .unset, .unset, .unset] [(.int (f0_t6 p5))])) (fun _ k => iremM X5 hx rfl (hb hby at_100) rfl (by decide) k) ?_
  refine go (B := T5.setTop (mkF m 103 #[.val (.long q0), .second, .val (.long q1), .second, .val (.int p2), .val (.int p3), .val (.int p4), .val (.int p5), .val (.long (q0 &&& (9223372036854775807 : Int64))), .second, .val (.long (f0_z0 q0 q1 p5)), .second, .val (.int (f0_z1 p2 p4 p5)), .val (.int (f0_z2 q1 p3 p5)), .val (.int (f0_t3 p5)), .val (.int (f0_t4 p5)), .val (.int (f0_t5 p5)), .val (.int (f0_t6 p5)), .unset, .unset, .unset, .unset] [])) (fun _ k => XS.istore X5.here hx rfl (hb hby at_101) rfl (l' := #[.val (.long q0), .second, .val (.long q1), .second, .val (.int p2), .val (.int p3), .val (.int p4), .val (.int p5), .val (.long (q0 &&& (9223372036854775807 : Int64))), .second, .val (.long (f0_z0 q0 q1 p5)), .second, .val (.int (f0_z1 p2 p4 p5)), .val (.int (f0_z2 q1 p3 p5)), .val (.int (f0_t3 p5)), .val (.int (f0_t4 p5)), .val (.int (f0_t5 p5)), .val (.int (f0_t6 p5)), .unset, .unset, .unset, .unset]) rfl k) ?_
  refine go (B := T5.setTop (mkF m 105 #[.val (.long q0), .second, .val (.long q1), .second, .val (.int p2), .val (.int p3), .val (.int p4), .val (.int p5), .val (.long (q0 &&& (9223372036854775807 : Int64))), .second, .val (.long (f0_z0 q0 q1 p5)), .second, .val (.int (f0_z1 p2 p4 p5)), .val (.int (f0_z2 q1 p3 p5)), .val (.int (f0_t3 p5)), .val (.int (f0_t4 p5)), .val (.int (f0_t5 p5)), .val (.int (f0_t6 p5)), .unset, .unset, .unset, .unset] [(.int p5)])) (fun _ k => XS.iload X5.here hx rfl (hb hby at_103) rfl k) ?_
  refine go (B := T5.setTop (mkF m 107 #[.val (.long q0), .second, .val (.long q1), .second, .val (.int p2), .val (.int p3), .val (.int p4), .val (.int p5), .val (.long (q0 &&& (9223372036854775807 : Int64))), .second, .val (.long (f0_z0 q0 q1 p5)), .second, .val (.int (f0_z1 p2 p4 p5)), .val (.int (f0_z2 q1 p3 p5)), .val (.int (f0_t3 p5)), .val (.int (f0_t4 p5)), .val (.int (f0_t5 p5)), .val (.int (f0_t6 p5)), .unset, .unset, .unset, .unset] [(.int (11 : Int32)), (.int p5)])) (fun _ k => XS.bipush X5.here hx rfl (hb hby at_105) k) ?_
  refine go (B := T5.setTop (mkF m 108 #[.val (.long q0), .second, .val (.long q1), .second, .val (.int p2), .val (.int p3), .val (.int p4), .val (.int p5), .val (.long (q0 &&& (9223372036854775807 : Int64))), .second, .val (.long (f0_z0 q0 q1 p5)), .second, .val (.int (f0_z1 p2 p4 p5)), .val (.int (f0_z2 q1 p3 p5)), .val (.int (f0_t3 p5)), .val (.int (f0_t4 p5)), .val (.int (f0_t5 p5)), .val (.int (f0_t6 p5)), .unset, .unset, .unset, .unset] [(.int ((p5.toUInt32 >>> ((11 : Int32) &&& 31).toUInt32).toInt32))])) (fun _ k => XS.iushr X5.here hx rfl (hb hby at_107) rfl k) ?_
  refine go (B := T5.setTop (mkF m 109 #[.val (.long q0), .second, .val (.long q1), .second, .val (.int p2), .val (.int p3), .val (.int p4), .val (.int p5), .val (.long (q0 &&& (9223372036854775807 : Int64))), .second, .val (.long (f0_z0 q0 q1 p5)), .second, .val (.int (f0_z1 p2 p4 p5)), .val (.int (f0_z2 q1 p3 p5)), .val (.int (f0_t3 p5)), .val (.int (f0_t4 p5)), .val (.int (f0_t5 p5)), .val (.int (f0_t6 p5)), .unset, .unset, .unset, .unset] [(.int (3 : Int32)), (.int ((p5.toUInt32 >>> ((11 : Int32) &&& 31).toUInt32).toInt32))])) (fun _ k => XS.iconst X5.here hx rfl (hb hby at_108) k) ?_
  refine go (B := T5.setTop (mkF m 110 #[.val (.long q0), .second, .val (.long q1), .second, .val (.int p2), .val (.int p3), .val (.int p4), .val (.int p5), .val (.long (q0 &&& (9223372036854775807 : Int64))), .second, .val (.long (f0_z0 q0 q1 p5)), .second, .val (.int (f0_z1 p2 p4 p5)), .val (.int (f0_z2 q1 p3 p5)), .val (.int (f0_t3 p5)), .val (.int (f0_t4 p5)), .val (.int (f0_t5 p5)), .val (.int (f0_t6 p5)), .unset, .unset, .unset, .unset] [(.int (((p5.toUInt32 >>> ((11 : Int32) &&& 31).toUInt32).toInt32) &&& (3 : Int32)))])) (fun _ k => XS.iand X5.here hx rfl (hb hby at_109) rfl k) ?_
  refine go (B := T5.setTop (mkF m 112 #[.val (.long q0), .second, .val (.long q1), .second, .val (.int p2), .val (.int p3), .val (.int p4), .val (.int p5), .val (.long (q0 &&& (9223372036854775807 : Int64))), .second, .val (.long (f0_z0 q0 q1 p5)), .second, .val (.int (f0_z1 p2 p4 p5)), .val (.int (f0_z2 q1 p3 p5)), .val (.int (f0_t3 p5)), .val (.int (f0_t4 p5)), .val (.int (f0_t5 p5)), .val (.int (f0_t6 p5)), .val (.int (((p5.toUInt32 >>> ((11 : Int32) &&& 31).toUInt32).toInt32) &&& (3 : Int32))), .unset, .unset, .unset] [])) (fun _ k => XS.istore X5.here hx rfl (hb hby at_110) rfl (l' := #[.val (.long q0), .second, .val (.long q1), .second, .val (.int p2), .val (.int p3), .val (.int p4), .val (.int p5), .val (.long (q0 &&& (9223372036854775807 : Int64))), .second, .val (.long (f0_z0 q0 q1 p5)), .second, .val (.int (f0_z1 p2 p4 p5)), .val (.int (f0_z2 q1 p3 p5)), .val (.int (f0_t3 p5)), .val (.int (f0_t4 p5)), .val (.int (f0_t5 p5)), .val (.int (f0_t6 p5)), .val (.int (((p5.toUInt32 >>> ((11 : Int32) &&& 31).toUInt32).toInt32) &&& (3 : Int32))), .unset, .unset, .unset]) rfl k) ?_
  obtain ⟨T7, h7, X7, e7, E7, A7, D7, -, st7⟩ := newO X5 hx hZ hown (hw _ (List.mem_of_getElem? (i := 1) rfl)) (hw _ (List.mem_of_getElem? (i := 2) rfl)) (hw _ (List.mem_of_getElem? (i := 3) rfl)) e5 (g := (mkF m 112 #[.val (.long q0), .second, .val (.long q1), .second, .val (.int p2), .val (.int p3), .val (.int p4), .val (.int p5), .val (.long (q0 &&& (9223372036854775807 : Int64))), .second, .val (.long (f0_z0 q0 q1 p5)), .second, .val (.int (f0_z1 p2 p4 p5)), .val (.int (f0_z2 q1 p3 p5)), .val (.int (f0_t3 p5)), .val (.int (f0_t4 p5)), .val (.int (f0_t5 p5)), .val (.int (f0_t6 p5)), .val (.int (((p5.toUInt32 >>> ((11 : Int32) &&& 31).toUInt32).toInt32) &&& (3 : Int32))), .unset, .unset, .unset] [])) rfl (hb hby at_112) (by decide) (by decide)
  obtain ⟨b7, g7⟩ : ∃ z, z = h0.size := ⟨_, rfl⟩
  rw [← g7] at A7 D7 st7
  have g_b7 : n0 ≤ b7 := Nat.le_trans Z0 (Nat.le_of_eq g7.symm)
  have ne_w_MOVE_b7 : w_MOVE ≠ b7 := Nat.ne_of_lt (Nat.lt_of_lt_of_le E_w_MOVE.lt (Nat.le_of_eq g7.symm))
  have ne_w_PRESS_b7 : w_PRESS ≠ b7 := Nat.ne_of_lt (Nat.lt_of_lt_of_le E_w_PRESS.lt (Nat.le_of_eq g7.symm))
  have ne_w_RELEASE_b7 : w_RELEASE ≠ b7 := Nat.ne_of_lt (Nat.lt_of_lt_of_le E_w_RELEASE.lt (Nat.le_of_eq g7.symm))
  have ne_w_LEFT_b7 : w_LEFT ≠ b7 := Nat.ne_of_lt (Nat.lt_of_lt_of_le E_w_LEFT.lt (Nat.le_of_eq g7.symm))
  have ne_w_RIGHT_b7 : w_RIGHT ≠ b7 := Nat.ne_of_lt (Nat.lt_of_lt_of_le E_w_RIGHT.lt (Nat.le_of_eq g7.symm))
  have ne_w_NONE_b7 : w_NONE ≠ b7 := Nat.ne_of_lt (Nat.lt_of_lt_of_le E_w_NONE.lt (Nat.le_of_eq g7.symm))
  have O7 := O0.ext E7
  have E_w_MOVE_7 := E_w_MOVE.ext E7
  have E_w_PRESS_7 := E_w_PRESS.ext E7
  have E_w_RELEASE_7 := E_w_RELEASE.ext E7
  have E_w_LEFT_7 := E_w_LEFT.ext E7
  have E_w_RIGHT_7 := E_w_RIGHT.ext E7
  have E_w_NONE_7 := E_w_NONE.ext E7
  have Z7 := Nat.le_trans Z0 E7.1
  have SK7 := Nat.le_trans SK0 E7.1
  have F_timeMs_b7 : Fld Z h7 b7 "com/example/fenced_widget/fencedwidget/fence/TraceEvent" "timeMs" "J" (.long (0 : Int64)) := D7 (Or.inr (hw _ (List.mem_of_getElem? (i := 24) rfl))) (ty := .long) (by decide)
  have F_type_b7 : Fld Z h7 b7 "com/example/fenced_widget/fencedwidget/fence/TraceEvent" "type" "Lcom/example/fenced_widget/fencedwidget/protocol/InputType;" .null := D7 (Or.inr (hw _ (List.mem_of_getElem? (i := 40) rfl))) (ty := (.object "com/example/fenced_widget/fencedwidget/protocol/InputType")) (by decide)
  have F_x_b7 : Fld Z h7 b7 "com/example/fenced_widget/fencedwidget/fence/TraceEvent" "x" "I" (.int (0 : Int32)) := D7 (Or.inr (hw _ (List.mem_of_getElem? (i := 42) rfl))) (ty := .int) (by decide)
  have F_y_b7 : Fld Z h7 b7 "com/example/fenced_widget/fencedwidget/fence/TraceEvent" "y" "I" (.int (0 : Int32)) := D7 (Or.inr (hw _ (List.mem_of_getElem? (i := 44) rfl))) (ty := .int) (by decide)
  have F_button_b7 : Fld Z h7 b7 "com/example/fenced_widget/fencedwidget/fence/TraceEvent" "button" "Lcom/example/fenced_widget/fencedwidget/protocol/Button;" .null := D7 (Or.inr (hw _ (List.mem_of_getElem? (i := 49) rfl))) (ty := (.object "com/example/fenced_widget/fencedwidget/protocol/Button")) (by decide)
  have E_b7 := A7
  refine go (B := T7.setTop (mkF m 115 #[.val (.long q0), .second, .val (.long q1), .second, .val (.int p2), .val (.int p3), .val (.int p4), .val (.int p5), .val (.long (q0 &&& (9223372036854775807 : Int64))), .second, .val (.long (f0_z0 q0 q1 p5)), .second, .val (.int (f0_z1 p2 p4 p5)), .val (.int (f0_z2 q1 p3 p5)), .val (.int (f0_t3 p5)), .val (.int (f0_t4 p5)), .val (.int (f0_t5 p5)), .val (.int (f0_t6 p5)), .val (.int (((p5.toUInt32 >>> ((11 : Int32) &&& 31).toUInt32).toInt32) &&& (3 : Int32))), .unset, .unset, .unset] [(.ref b7)])) st7 ?_
  refine go (B := T7.setTop (mkF m 116 #[.val (.long q0), .second, .val (.long q1), .second, .val (.int p2), .val (.int p3), .val (.int p4), .val (.int p5), .val (.long (q0 &&& (9223372036854775807 : Int64))), .second, .val (.long (f0_z0 q0 q1 p5)), .second, .val (.int (f0_z1 p2 p4 p5)), .val (.int (f0_z2 q1 p3 p5)), .val (.int (f0_t3 p5)), .val (.int (f0_t4 p5)), .val (.int (f0_t5 p5)), .val (.int (f0_t6 p5)), .val (.int (((p5.toUInt32 >>> ((11 : Int32) &&& 31).toUInt32).toInt32) &&& (3 : Int32))), .unset, .unset, .unset] [(.ref b7), (.ref b7)])) (fun _ k => XS.dup X7.here hx rfl (hb hby at_115) rfl rfl k) ?_
  refine go (B := T7.setTop (mkF m 118 #[.val (.long q0), .second, .val (.long q1), .second, .val (.int p2), .val (.int p3), .val (.int p4), .val (.int p5), .val (.long (q0 &&& (9223372036854775807 : Int64))), .second, .val (.long (f0_z0 q0 q1 p5)), .second, .val (.int (f0_z1 p2 p4 p5)), .val (.int (f0_z2 q1 p3 p5)), .val (.int (f0_t3 p5)), .val (.int (f0_t4 p5)), .val (.int (f0_t5 p5)), .val (.int (f0_t6 p5)), .val (.int (((p5.toUInt32 >>> ((11 : Int32) &&& 31).toUInt32).toInt32) &&& (3 : Int32))), .unset, .unset, .unset] [(.long (q0 &&& (9223372036854775807 : Int64))), (.ref b7), (.ref b7)])) (fun _ k => XS.lload X7.here hx rfl (hb hby at_116) rfl k) ?_
  refine go (B := T7.setTop (mkF m 120 #[.val (.long q0), .second, .val (.long q1), .second, .val (.int p2), .val (.int p3), .val (.int p4), .val (.int p5), .val (.long (q0 &&& (9223372036854775807 : Int64))), .second, .val (.long (f0_z0 q0 q1 p5)), .second, .val (.int (f0_z1 p2 p4 p5)), .val (.int (f0_z2 q1 p3 p5)), .val (.int (f0_t3 p5)), .val (.int (f0_t4 p5)), .val (.int (f0_t5 p5)), .val (.int (f0_t6 p5)), .val (.int (((p5.toUInt32 >>> ((11 : Int32) &&& 31).toUInt32).toInt32) &&& (3 : Int32))), .unset, .unset, .unset] [(.int (f0_t3 p5)), (.long (q0 &&& (9223372036854775807 : Int64))), (.ref b7), (.ref b7)])) (fun _ k => XS.iload X7.here hx rfl (hb hby at_118) rfl k) ?_
  obtain ⟨_, _, ⟨T8, L8, k8, n8⟩, -, X8, ⟨Lc8, hQ8, l8, y8, z8⟩, st8⟩ := Jvm.LawKit.callS X7 hx (y := (⟨"com/example/fenced_widget/fencedwidget/fence/TraceEventEqualsPinLaw", "type", "(I)Lcom/example/fenced_widget/fencedwidget/protocol/InputType;"⟩ : MethodName)) hown (mvT hZ (hw _ (List.mem_of_getElem? (i := 4) rfl))) (mvT hZ (hw _ (List.mem_of_getElem? (i := 5) rfl))) (mvT hZ (hw _ (List.mem_of_getElem? (i := 6) rfl))) (mvT hZ (hw _ (List.mem_of_getElem? (i := 7) rfl))) (by decide) (backOf (W := 4) (rm1 l Z aw hw [] (f0_t3 p5) w_MOVE w_PRESS w_RELEASE h7 n0 Z7 O7 S_MOVE S_PRESS S_RELEASE) hZ (hw _ (List.mem_of_getElem? (i := 7) rfl)) (hw _ (List.mem_of_getElem? (i := 6) rfl)) (by decide) (by decide)) (g := (mkF m 120 #[.val (.long q0), .second, .val (.long q1), .second, .val (.int p2), .val (.int p3), .val (.int p4), .val (.int p5), .val (.long (q0 &&& (9223372036854775807 : Int64))), .second, .val (.long (f0_z0 q0 q1 p5)), .second, .val (.int (f0_z1 p2 p4 p5)), .val (.int (f0_z2 q1 p3 p5)), .val (.int (f0_t3 p5)), .val (.int (f0_t4 p5)), .val (.int (f0_t5 p5)), .val (.int (f0_t6 p5)), .val (.int (((p5.toUInt32 >>> ((11 : Int32) &&& 31).toUInt32).toInt32) &&& (3 : Int32))), .unset, .unset, .unset] [(.int (f0_t3 p5)), (.long (q0 &&& (9223372036854775807 : Int64))), (.ref b7), (.ref b7)])) rfl (by rw [hml]; rfl) (argsL := [(.int (f0_t3 p5))]) (rest := [(.long (q0 &&& (9223372036854775807 : Int64))), (.ref b7), (.ref b7)]) (lenOf pd_3 rfl) rfl (by show 2 * 0 + _ ≤ _; exact Nat.le_of_eq rfl) (hb hby at_120) (fun _ _ => ⟨rfl, e7, (by decide : 1 + 0 ≤ _), (by decide : 5 + 0 ≤ _)⟩)
  dsimp only [Pt.U, Pt.locs, Pt.cells, Pt.slots] at X8 l8 y8 z8 st8 hQ8
  subst l8 y8 z8
  obtain ⟨rfl, rfl, e8⟩ := hQ8
  have N8 := Fr.app N5 (Fr.nil n0)
  refine go (B := T8.setTop (mkF m 123 #[.val (.long q0), .second, .val (.long q1), .second, .val (.int p2), .val (.int p3), .val (.int p4), .val (.int p5), .val (.long (q0 &&& (9223372036854775807 : Int64))), .second, .val (.long (f0_z0 q0 q1 p5)), .second, .val (.int (f0_z1 p2 p4 p5)), .val (.int (f0_z2 q1 p3 p5)), .val (.int (f0_t3 p5)), .val (.int (f0_t4 p5)), .val (.int (f0_t5 p5)), .val (.int (f0_t6 p5)), .val (.int (((p5.toUInt32 >>> ((11 : Int32) &&& 31).toUInt32).toInt32) &&& (3 : Int32))), .unset, .unset, .unset] [(.ref (f1 (f0_t3 p5) w_MOVE w_PRESS w_RELEASE)), (.long (q0 &&& (9223372036854775807 : Int64))), (.ref b7), (.ref b7)])) (fun _ k => st8 _ k) ?_
  have E_q9 : Exa Z h7 (f1 (f0_t3 p5) w_MOVE w_PRESS w_RELEASE) "com/example/fenced_widget/fencedwidget/protocol/InputType" := own_ty E_w_MOVE_7 E_w_PRESS_7 E_w_RELEASE_7
  refine go (B := T8.setTop (mkF m 125 #[.val (.long q0), .second, .val (.long q1), .second, .val (.int p2), .val (.int p3), .val (.int p4), .val (.int p5), .val (.long (q0 &&& (9223372036854775807 : Int64))), .second, .val (.long (f0_z0 q0 q1 p5)), .second, .val (.int (f0_z1 p2 p4 p5)), .val (.int (f0_z2 q1 p3 p5)), .val (.int (f0_t3 p5)), .val (.int (f0_t4 p5)), .val (.int (f0_t5 p5)), .val (.int (f0_t6 p5)), .val (.int (((p5.toUInt32 >>> ((11 : Int32) &&& 31).toUInt32).toInt32) &&& (3 : Int32))), .unset, .unset, .unset] [(.int p2), (.ref (f1 (f0_t3 p5) w_MOVE w_PRESS w_RELEASE)), (.long (q0 &&& (9223372036854775807 : Int64))), (.ref b7), (.ref b7)])) (fun _ k => XS.iload X8.here hx rfl (hb hby at_123) rfl k) ?_
  refine go (B := T8.setTop (mkF m 127 #[.val (.long q0), .second, .val (.long q1), .second, .val (.int p2), .val (.int p3), .val (.int p4), .val (.int p5), .val (.long (q0 &&& (9223372036854775807 : Int64))), .second, .val (.long (f0_z0 q0 q1 p5)), .second, .val (.int (f0_z1 p2 p4 p5)), .val (.int (f0_z2 q1 p3 p5)), .val (.int (f0_t3 p5)), .val (.int (f0_t4 p5)), .val (.int (f0_t5 p5)), .val (.int (f0_t6 p5)), .val (.int (((p5.toUInt32 >>> ((11 : Int32) &&& 31).toUInt32).toInt32) &&& (3 : Int32))), .unset, .unset, .unset] [(.int p3), (.int p2), (.ref (f1 (f0_t3 p5) w_MOVE w_PRESS w_RELEASE)), (.long (q0 &&& (9223372036854775807 : Int64))), (.ref b7), (.ref b7)])) (fun _ k => XS.iload X8.here hx rfl (hb hby at_125) rfl k) ?_
  refine go (B := T8.setTop (mkF m 129 #[.val (.long q0), .second, .val (.long q1), .second, .val (.int p2), .val (.int p3), .val (.int p4), .val (.int p5), .val (.long (q0 &&& (9223372036854775807 : Int64))), .second, .val (.long (f0_z0 q0 q1 p5)), .second, .val (.int (f0_z1 p2 p4 p5)), .val (.int (f0_z2 q1 p3 p5)), .val (.int (f0_t3 p5)), .val (.int (f0_t4 p5)), .val (.int (f0_t5 p5)), .val (.int (f0_t6 p5)), .val (.int (((p5.toUInt32 >>> ((11 : Int32) &&& 31).toUInt32).toInt32) &&& (3 : Int32))), .unset, .unset, .unset] [(.int (f0_t5 p5)), (.int p3), (.int p2), (.ref (f1 (f0_t3 p5) w_MOVE w_PRESS w_RELEASE)), (.long (q0 &&& (9223372036854775807 : Int64))), (.ref b7), (.ref b7)])) (fun _ k => XS.iload X8.here hx rfl (hb hby at_127) rfl k) ?_
  obtain ⟨_, _, ⟨T10, L10, k10, n10⟩, -, X10, ⟨Lc10, hQ10, l10, y10, z10⟩, st10⟩ := Jvm.LawKit.callS X8 hx (y := (⟨"com/example/fenced_widget/fencedwidget/fence/TraceEventEqualsPinLaw", "button", "(I)Lcom/example/fenced_widget/fencedwidget/protocol/Button;"⟩ : MethodName)) hown (mvT hZ (hw _ (List.mem_of_getElem? (i := 11) rfl))) (mvT hZ (hw _ (List.mem_of_getElem? (i := 12) rfl))) (mvT hZ (hw _ (List.mem_of_getElem? (i := 6) rfl))) (mvT hZ (hw _ (List.mem_of_getElem? (i := 13) rfl))) (by decide) (backOf (W := 7) (rm2 l Z aw hw [] (f0_t5 p5) w_LEFT w_RIGHT w_NONE h7 n0 Z7 O7 S_LEFT S_RIGHT S_NONE) hZ (hw _ (List.mem_of_getElem? (i := 13) rfl)) (hw _ (List.mem_of_getElem? (i := 6) rfl)) (by decide) (by decide)) (g := (mkF m 129 #[.val (.long q0), .second, .val (.long q1), .second, .val (.int p2), .val (.int p3), .val (.int p4), .val (.int p5), .val (.long (q0 &&& (9223372036854775807 : Int64))), .second, .val (.long (f0_z0 q0 q1 p5)), .second, .val (.int (f0_z1 p2 p4 p5)), .val (.int (f0_z2 q1 p3 p5)), .val (.int (f0_t3 p5)), .val (.int (f0_t4 p5)), .val (.int (f0_t5 p5)), .val (.int (f0_t6 p5)), .val (.int (((p5.toUInt32 >>> ((11 : Int32) &&& 31).toUInt32).toInt32) &&& (3 : Int32))), .unset, .unset, .unset] [(.int (f0_t5 p5)), (.int p3), (.int p2), (.ref (f1 (f0_t3 p5) w_MOVE w_PRESS w_RELEASE)), (.long (q0 &&& (9223372036854775807 : Int64))), (.ref b7), (.ref b7)])) rfl (by rw [hml]; rfl) (argsL := [(.int (f0_t5 p5))]) (rest := [(.int p3), (.int p2), (.ref (f1 (f0_t3 p5) w_MOVE w_PRESS w_RELEASE)), (.long (q0 &&& (9223372036854775807 : Int64))), (.ref b7), (.ref b7)]) (lenOf pd_4 rfl) rfl (by show 2 * 0 + _ ≤ _; exact Nat.le_of_eq rfl) (hb hby at_129) (fun _ _ => ⟨rfl, e8, (by decide : 1 + 0 ≤ _), (by decide : 5 + 0 ≤ _)⟩)
  dsimp only [Pt.U, Pt.locs, Pt.cells, Pt.slots] at X10 l10 y10 z10 st10 hQ10
  subst l10 y10 z10
  obtain ⟨rfl, rfl, e10⟩ := hQ10
  have N10 := Fr.app N8 (Fr.nil n0)
  refine go (B := T10.setTop (mkF m 132 #[.val (.long q0), .second, .val (.long q1), .second, .val (.int p2), .val (.int p3), .val (.int p4), .val (.int p5), .val (.long (q0 &&& (9223372036854775807 : Int64))), .second, .val (.long (f0_z0 q0 q1 p5)), .second, .val (.int (f0_z1 p2 p4 p5)), .val (.int (f0_z2 q1 p3 p5)), .val (.int (f0_t3 p5)), .val (.int (f0_t4 p5)), .val (.int (f0_t5 p5)), .val (.int (f0_t6 p5)), .val (.int (((p5.toUInt32 >>> ((11 : Int32) &&& 31).toUInt32).toInt32) &&& (3 : Int32))), .unset, .unset, .unset] [(.ref (f2 (f0_t5 p5) w_LEFT w_RIGHT w_NONE)), (.int p3), (.int p2), (.ref (f1 (f0_t3 p5) w_MOVE w_PRESS w_RELEASE)), (.long (q0 &&& (9223372036854775807 : Int64))), (.ref b7), (.ref b7)])) (fun _ k => st10 _ k) ?_
  have E_q11 : Exa Z h7 (f2 (f0_t5 p5) w_LEFT w_RIGHT w_NONE) "com/example/fenced_widget/fencedwidget/protocol/Button" := own_bu E_w_LEFT_7 E_w_RIGHT_7 E_w_NONE_7
  obtain ⟨_, _, ⟨T12, L12, k12, n12⟩, -, X12, Sx12, gr12, ⟨Lc12, hQ12, l12, y12, z12⟩, st12⟩ := X10.specialBackS hx (y := (⟨"com/example/fenced_widget/fencedwidget/fence/TraceEvent", "<init>", "(JLcom/example/fenced_widget/fencedwidget/protocol/InputType;IILcom/example/fenced_widget/fencedwidget/protocol/Button;)V"⟩ : MethodName)) rfl hown (mvT hZ (hw _ (List.mem_of_getElem? (i := 17) rfl))) (mvT hZ (hw _ (List.mem_of_getElem? (i := 18) rfl))) (mvT hZ (hw _ (List.mem_of_getElem? (i := 19) rfl))) (by decide) (backOfS (W := 1) (rm3 l Z aw hw [] b7 (q0 &&& (9223372036854775807 : Int64)) (f1 (f0_t3 p5) w_MOVE w_PRESS w_RELEASE) p2 p3 (f2 (f0_t5 p5) w_LEFT w_RIGHT w_NONE) h7 n0 Z7 O7 F_timeMs_b7 F_type_b7 F_x_b7 F_y_b7 F_button_b7 E_b7 E_q9 E_q11 (show ¬ ((lcmpW (q0 &&& (9223372036854775807 : Int64)) (0 : Int64)) < (0 : Int32)) from (own_and _)) g_b7) hZ (hw _ (List.mem_of_getElem? (i := 19) rfl)) (hw _ (List.mem_of_getElem? (i := 3) rfl)) (by decide) (by decide)) (g := (mkF m 132 #[.val (.long q0), .second, .val (.long q1), .second, .val (.int p2), .val (.int p3), .val (.int p4), .val (.int p5), .val (.long (q0 &&& (9223372036854775807 : Int64))), .second, .val (.long (f0_z0 q0 q1 p5)), .second, .val (.int (f0_z1 p2 p4 p5)), .val (.int (f0_z2 q1 p3 p5)), .val (.int (f0_t3 p5)), .val (.int (f0_t4 p5)), .val (.int (f0_t5 p5)), .val (.int (f0_t6 p5)), .val (.int (((p5.toUInt32 >>> ((11 : Int32) &&& 31).toUInt32).toInt32) &&& (3 : Int32))), .unset, .unset, .unset] [(.ref (f2 (f0_t5 p5) w_LEFT w_RIGHT w_NONE)), (.int p3), (.int p2), (.ref (f1 (f0_t3 p5) w_MOVE w_PRESS w_RELEASE)), (.long (q0 &&& (9223372036854775807 : Int64))), (.ref b7), (.ref b7)])) rfl (by rw [hml]; rfl) (Steps.refl _) (a := b7) (argsL := [(.long (q0 &&& (9223372036854775807 : Int64))), (.ref (f1 (f0_t3 p5) w_MOVE w_PRESS w_RELEASE)), (.int p2), (.int p3), (.ref (f2 (f0_t5 p5) w_LEFT w_RIGHT w_NONE))]) (rest := [(.ref b7)]) (lenOf pd_5 rfl) rfl (by show 2 * 0 + _ ≤ _; exact Nat.le_of_eq rfl) (hb hby at_132) (fun _ _ => ⟨rfl, e10, (by decide : 1 + 4 ≤ _), (by decide : 5 + 48 ≤ _)⟩)
  dsimp only [Pt.U, Pt.locs, Pt.cells, Pt.slots] at X12 l12 y12 z12 st12 hQ12 Sx12 gr12
  subst l12 y12 z12
  obtain ⟨X12, S12, hZ, hown⟩ := rebS S0 (own_sk e10 SK7) X12 Sx12 gr12 hZ hown
  obtain ⟨rfl, N12q, Kc12, o12_0, o12_1, o12_2, o12_3, o12_4, o12_5⟩ := hQ12
  have O12 := O7.keep Kc12 (allS g_b7 all0)
  have E_w_MOVE_12 := E_w_MOVE_7.keep Kc12
  have E_w_PRESS_12 := E_w_PRESS_7.keep Kc12
  have E_w_RELEASE_12 := E_w_RELEASE_7.keep Kc12
  have E_w_LEFT_12 := E_w_LEFT_7.keep Kc12
  have E_w_RIGHT_12 := E_w_RIGHT_7.keep Kc12
  have E_w_NONE_12 := E_w_NONE_7.keep Kc12
  have E_b7_12 := E_b7.keep Kc12
  have E_q9_12 := E_q9.keep Kc12
  have E_q11_12 := E_q11.keep Kc12
  have N12 := Fr.app N10 N12q
  have Z12 := Nat.le_trans Z7 Kc12.1
  have SK12 := Nat.le_trans SK7 Kc12.1
  have SKw12 : T12.heap.size ≤ T12.heap.size := Nat.le_refl _
  refine go (B := T12.setTop (mkF m 135 #[.val (.long q0), .second, .val (.long q1), .second, .val (.int p2), .val (.int p3), .val (.int p4), .val (.int p5), .val (.long (q0 &&& (9223372036854775807 : Int64))), .second, .val (.long (f0_z0 q0 q1 p5)), .second, .val (.int (f0_z1 p2 p4 p5)), .val (.int (f0_z2 q1 p3 p5)), .val (.int (f0_t3 p5)), .val (.int (f0_t4 p5)), .val (.int (f0_t5 p5)), .val (.int (f0_t6 p5)), .val (.int (((p5.toUInt32 >>> ((11 : Int32) &&& 31).toUInt32).toInt32) &&& (3 : Int32))), .unset, .unset, .unset] [(.ref b7)])) (fun _ k => st12.trans k) ?_
  refine go (B := T12.setTop (mkF m 137 #[.val (.long q0), .second, .val (.long q1), .second, .val (.int p2), .val (.int p3), .val (.int p4), .val (.int p5), .val (.long (q0 &&& (9223372036854775807 : Int64))), .second, .val (.long (f0_z0 q0 q1 p5)), .second, .val (.int (f0_z1 p2 p4 p5)), .val (.int (f0_z2 q1 p3 p5)), .val (.int (f0_t3 p5)), .val (.int (f0_t4 p5)), .val (.int (f0_t5 p5)), .val (.int (f0_t6 p5)), .val (.int (((p5.toUInt32 >>> ((11 : Int32) &&& 31).toUInt32).toInt32) &&& (3 : Int32))), .val (.ref b7), .unset, .unset] [])) (fun _ k => XS.astore X12.here hx rfl (hb hby at_135) rfl rfl (l' := #[.val (.long q0), .second, .val (.long q1), .second, .val (.int p2), .val (.int p3), .val (.int p4), .val (.int p5), .val (.long (q0 &&& (9223372036854775807 : Int64))), .second, .val (.long (f0_z0 q0 q1 p5)), .second, .val (.int (f0_z1 p2 p4 p5)), .val (.int (f0_z2 q1 p3 p5)), .val (.int (f0_t3 p5)), .val (.int (f0_t4 p5)), .val (.int (f0_t5 p5)), .val (.int (f0_t6 p5)), .val (.int (((p5.toUInt32 >>> ((11 : Int32) &&& 31).toUInt32).toInt32) &&& (3 : Int32))), .val (.ref b7), .unset, .unset]) rfl k) ?_
  obtain ⟨T13, h13, X13, e13, E13, A13, D13, -, st13⟩ := newO X12 hx hZ hown (hw _ (List.mem_of_getElem? (i := 1) rfl)) (hw _ (List.mem_of_getElem? (i := 2) rfl)) (hw _ (List.mem_of_getElem? (i := 3) rfl)) rfl (g := (mkF m 137 #[.val (.long q0), .second, .val (.long q1), .second, .val (.int p2), .val (.int p3), .val (.int p4), .val (.int p5), .val (.long (q0 &&& (9223372036854775807 : Int64))), .second, .val (.long (f0_z0 q0 q1 p5)), .second, .val (.int (f0_z1 p2 p4 p5)), .val (.int (f0_z2 q1 p3 p5)), .val (.int (f0_t3 p5)), .val (.int (f0_t4 p5)), .val (.int (f0_t5 p5)), .val (.int (f0_t6 p5)), .val (.int (((p5.toUInt32 >>> ((11 : Int32) &&& 31).toUInt32).toInt32) &&& (3 : Int32))), .val (.ref b7), .unset, .unset] [])) rfl (hb hby at_137) (by decide) (by decide)
  obtain ⟨b13, g13⟩ : ∃ z, z = T12.heap.size := ⟨_, rfl⟩
  rw [← g13] at A13 D13 st13
  have g_b13 : n0 ≤ b13 := Nat.le_trans Z12 (Nat.le_of_eq g13.symm)
  have ne_w_MOVE_b13 : w_MOVE ≠ b13 := Nat.ne_of_lt (Nat.lt_of_lt_of_le E_w_MOVE_12.lt (Nat.le_of_eq g13.symm))
  have ne_w_PRESS_b13 : w_PRESS ≠ b13 := Nat.ne_of_lt (Nat.lt_of_lt_of_le E_w_PRESS_12.lt (Nat.le_of_eq g13.symm))
  have ne_w_RELEASE_b13 : w_RELEASE ≠ b13 := Nat.ne_of_lt (Nat.lt_of_lt_of_le E_w_RELEASE_12.lt (Nat.le_of_eq g13.symm))
  have ne_w_LEFT_b13 : w_LEFT ≠ b13 := Nat.ne_of_lt (Nat.lt_of_lt_of_le E_w_LEFT_12.lt (Nat.le_of_eq g13.symm))
  have ne_w_RIGHT_b13 : w_RIGHT ≠ b13 := Nat.ne_of_lt (Nat.lt_of_lt_of_le E_w_RIGHT_12.lt (Nat.le_of_eq g13.symm))
  have ne_w_NONE_b13 : w_NONE ≠ b13 := Nat.ne_of_lt (Nat.lt_of_lt_of_le E_w_NONE_12.lt (Nat.le_of_eq g13.symm))
  have ne_b7_b13 : b7 ≠ b13 := Nat.ne_of_lt (Nat.lt_of_lt_of_le o12_0.lt (Nat.le_of_eq g13.symm))
  have ne__f1__f0_t3_p5__w_MOVE_w_PRESS_w_RELEASE__b13 : (f1 (f0_t3 p5) w_MOVE w_PRESS w_RELEASE) ≠ b13 := Nat.ne_of_lt (Nat.lt_of_lt_of_le E_q9_12.lt (Nat.le_of_eq g13.symm))
  have ne__f2__f0_t5_p5__w_LEFT_w_RIGHT_w_NONE__b13 : (f2 (f0_t5 p5) w_LEFT w_RIGHT w_NONE) ≠ b13 := Nat.ne_of_lt (Nat.lt_of_lt_of_le E_q11_12.lt (Nat.le_of_eq g13.symm))
  have O13 := O12.ext E13
  have E_w_MOVE_13 := E_w_MOVE_12.ext E13
  have E_w_PRESS_13 := E_w_PRESS_12.ext E13
  have E_w_RELEASE_13 := E_w_RELEASE_12.ext E13
  have E_w_LEFT_13 := E_w_LEFT_12.ext E13
  have E_w_RIGHT_13 := E_w_RIGHT_12.ext E13
  have E_w_NONE_13 := E_w_NONE_12.ext E13
  have E_b7_13 := o12_0.ext E13
  have E_q9_13 := E_q9_12.ext E13
  have E_q11_13 := E_q11_12.ext E13
  have F_timeMs_b7_13 := o12_1.ext E13
  have F_type_b7_13 := o12_2.ext E13
  have F_x_b7_13 := o12_3.ext E13
  have F_y_b7_13 := o12_4.ext E13
  have F_button_b7_13 := o12_5.ext E13
  have Z13 := Nat.le_trans Z12 E13.1
  have SK13 := Nat.le_trans SKw12 E13.1
  have F_timeMs_b13 : Fld Z h13 b13 "com/example/fenced_widget/fencedwidget/fence/TraceEvent" "timeMs" "J" (.long (0 : Int64)) := D13 (Or.inr (hw _ (List.mem_of_getElem? (i := 24) rfl))) (ty := .long) (by decide)
  have F_type_b13 : Fld Z h13 b13 "com/example/fenced_widget/fencedwidget/fence/TraceEvent" "type" "Lcom/example/fenced_widget/fencedwidget/protocol/InputType;" .null := D13 (Or.inr (hw _ (List.mem_of_getElem? (i := 40) rfl))) (ty := (.object "com/example/fenced_widget/fencedwidget/protocol/InputType")) (by decide)
  have F_x_b13 : Fld Z h13 b13 "com/example/fenced_widget/fencedwidget/fence/TraceEvent" "x" "I" (.int (0 : Int32)) := D13 (Or.inr (hw _ (List.mem_of_getElem? (i := 42) rfl))) (ty := .int) (by decide)
  have F_y_b13 : Fld Z h13 b13 "com/example/fenced_widget/fencedwidget/fence/TraceEvent" "y" "I" (.int (0 : Int32)) := D13 (Or.inr (hw _ (List.mem_of_getElem? (i := 44) rfl))) (ty := .int) (by decide)
  have F_button_b13 : Fld Z h13 b13 "com/example/fenced_widget/fencedwidget/fence/TraceEvent" "button" "Lcom/example/fenced_widget/fencedwidget/protocol/Button;" .null := D13 (Or.inr (hw _ (List.mem_of_getElem? (i := 49) rfl))) (ty := (.object "com/example/fenced_widget/fencedwidget/protocol/Button")) (by decide)
  have E_b13 := A13
  refine go (B := T13.setTop (mkF m 140 #[.val (.long q0), .second, .val (.long q1), .second, .val (.int p2), .val (.int p3), .val (.int p4), .val (.int p5), .val (.long (q0 &&& (9223372036854775807 : Int64))), .second, .val (.long (f0_z0 q0 q1 p5)), .second, .val (.int (f0_z1 p2 p4 p5)), .val (.int (f0_z2 q1 p3 p5)), .val (.int (f0_t3 p5)), .val (.int (f0_t4 p5)), .val (.int (f0_t5 p5)), .val (.int (f0_t6 p5)), .val (.int (((p5.toUInt32 >>> ((11 : Int32) &&& 31).toUInt32).toInt32) &&& (3 : Int32))), .val (.ref b7), .unset, .unset] [(.ref b13)])) st13 ?_
  refine go (B := T13.setTop (mkF m 141 #[.val (.long q0), .second, .val (.long q1), .second, .val (.int p2), .val (.int p3), .val (.int p4), .val (.int p5), .val (.long (q0 &&& (9223372036854775807 : Int64))), .second, .val (.long (f0_z0 q0 q1 p5)), .second, .val (.int (f0_z1 p2 p4 p5)), .val (.int (f0_z2 q1 p3 p5)), .val (.int (f0_t3 p5)), .val (.int (f0_t4 p5)), .val (.int (f0_t5 p5)), .val (.int (f0_t6 p5)), .val (.int (((p5.toUInt32 >>> ((11 : Int32) &&& 31).toUInt32).toInt32) &&& (3 : Int32))), .val (.ref b7), .unset, .unset] [(.ref b13), (.ref b13)])) (fun _ k => XS.dup X13.here hx rfl (hb hby at_140) rfl rfl k) ?_
  refine go (B := T13.setTop (mkF m 143 #[.val (.long q0), .second, .val (.long q1), .second, .val (.int p2), .val (.int p3), .val (.int p4), .val (.int p5), .val (.long (q0 &&& (9223372036854775807 : Int64))), .second, .val (.long (f0_z0 q0 q1 p5)), .second, .val (.int (f0_z1 p2 p4 p5)), .val (.int (f0_z2 q1 p3 p5)), .val (.int (f0_t3 p5)), .val (.int (f0_t4 p5)), .val (.int (f0_t5 p5)), .val (.int (f0_t6 p5)), .val (.int (((p5.toUInt32 >>> ((11 : Int32) &&& 31).toUInt32).toInt32) &&& (3 : Int32))), .val (.ref b7), .unset, .unset] [(.long (f0_z0 q0 q1 p5)), (.ref b13), (.ref b13)])) (fun _ k => XS.lload X13.here hx rfl (hb hby at_141) rfl k) ?_
  refine go (B := T13.setTop (mkF m 145 #[.val (.long q0), .second, .val (.long q1), .second, .val (.int p2), .val (.int p3), .val (.int p4), .val (.int p5), .val (.long (q0 &&& (9223372036854775807 : Int64))), .second, .val (.long (f0_z0 q0 q1 p5)), .second, .val (.int (f0_z1 p2 p4 p5)), .val (.int (f0_z2 q1 p3 p5)), .val (.int (f0_t3 p5)), .val (.int (f0_t4 p5)), .val (.int (f0_t5 p5)), .val (.int (f0_t6 p5)), .val (.int (((p5.toUInt32 >>> ((11 : Int32) &&& 31).toUInt32).toInt32) &&& (3 : Int32))), .val (.ref b7), .unset, .unset] [(.int (f0_t4 p5)), (.long (f0_z0 q0 q1 p5)), (.ref b13), (.ref b13)])) (fun _ k => XS.iload X13.here hx rfl (hb hby at_143) rfl k) ?_
  obtain ⟨_, _, ⟨T14, L14, k14, n14⟩, -, X14, ⟨Lc14, hQ14, l14, y14, z14⟩, st14⟩ := Jvm.LawKit.callS X13 hx (y := (⟨"com/example/fenced_widget/fencedwidget/fence/TraceEventEqualsPinLaw", "type", "(I)Lcom/example/fenced_widget/fencedwidget/protocol/InputType;"⟩ : MethodName)) hown (mvT hZ (hw _ (List.mem_of_getElem? (i := 4) rfl))) (mvT hZ (hw _ (List.mem_of_getElem? (i := 5) rfl))) (mvT hZ (hw _ (List.mem_of_getElem? (i := 6) rfl))) (mvT hZ (hw _ (List.mem_of_getElem? (i := 7) rfl))) (by decide) (backOf (W := 4) (rm1 l Z aw hw [] (f0_t4 p5) w_MOVE w_PRESS w_RELEASE h13 n0 Z13 O13 S_MOVE S_PRESS S_RELEASE) hZ (hw _ (List.mem_of_getElem? (i := 7) rfl)) (hw _ (List.mem_of_getElem? (i := 6) rfl)) (by decide) (by decide)) (g := (mkF m 145 #[.val (.long q0), .second, .val (.long q1), .second, .val (.int p2), .val (.int p3), .val (.int p4), .val (.int p5), .val (.long (q0 &&& (9223372036854775807 : Int64))), .second, .val (.long (f0_z0 q0 q1 p5)), .second, .val (.int (f0_z1 p2 p4 p5)), .val (.int (f0_z2 q1 p3 p5)), .val (.int (f0_t3 p5)), .val (.int (f0_t4 p5)), .val (.int (f0_t5 p5)), .val (.int (f0_t6 p5)), .val (.int (((p5.toUInt32 >>> ((11 : Int32) &&& 31).toUInt32).toInt32) &&& (3 : Int32))), .val (.ref b7), .unset, .unset] [(.int (f0_t4 p5)), (.long (f0_z0 q0 q1 p5)), (.ref b13), (.ref b13)])) rfl (by rw [hml]; rfl) (argsL := [(.int (f0_t4 p5))]) (rest := [(.long (f0_z0 q0 q1 p5)), (.ref b13), (.ref b13)]) (lenOf pd_3 rfl) rfl (by show 2 * 0 + _ ≤ _; exact Nat.le_of_eq rfl) (hb hby at_145) (fun _ _ => ⟨rfl, e13, (by decide : 6 + 0 ≤ _), (by decide : 58 + 0 ≤ _)⟩)
  dsimp only [Pt.U, Pt.locs, Pt.cells, Pt.slots] at X14 l14 y14 z14 st14 hQ14
  subst l14 y14 z14
  obtain ⟨rfl, rfl, e14⟩ := hQ14
  have N14 := Fr.app N12 (Fr.nil n0)
  refine go (B := T14.setTop (mkF m 148 #[.val (.long q0), .second, .val (.long q1), .second, .val (.int p2), .val (.int p3), .val (.int p4), .val (.int p5), .val (.long (q0 &&& (9223372036854775807 : Int64))), .second, .val (.long (f0_z0 q0 q1 p5)), .second, .val (.int (f0_z1 p2 p4 p5)), .val (.int (f0_z2 q1 p3 p5)), .val (.int (f0_t3 p5)), .val (.int (f0_t4 p5)), .val (.int (f0_t5 p5)), .val (.int (f0_t6 p5)), .val (.int (((p5.toUInt32 >>> ((11 : Int32) &&& 31).toUInt32).toInt32) &&& (3 : Int32))), .val (.ref b7), .unset, .unset] [(.ref (f1 (f0_t4 p5) w_MOVE w_PRESS w_RELEASE)), (.long (f0_z0 q0 q1 p5)), (.ref b13), (.ref b13)])) (fun _ k => st14 _ k) ?_
  have E_q15 : Exa Z h13 (f1 (f0_t4 p5) w_MOVE w_PRESS w_RELEASE) "com/example/fenced_widget/fencedwidget/protocol/InputType" := own_ty E_w_MOVE_13 E_w_PRESS_13 E_w_RELEASE_13
  refine go (B := T14.setTop (mkF m 150 #[.val (.long q0), .second, .val (.long q1), .second, .val (.int p2), .val (.int p3), .val (.int p4), .val (.int p5), .val (.long (q0 &&& (9223372036854775807 : Int64))), .second, .val (.long (f0_z0 q0 q1 p5)), .second, .val (.int (f0_z1 p2 p4 p5)), .val (.int (f0_z2 q1 p3 p5)), .val (.int (f0_t3 p5)), .val (.int (f0_t4 p5)), .val (.int (f0_t5 p5)), .val (.int (f0_t6 p5)), .val (.int (((p5.toUInt32 >>> ((11 : Int32) &&& 31).toUInt32).toInt32) &&& (3 : Int32))), .val (.ref b7), .unset, .unset] [(.int (f0_z1 p2 p4 p5)), (.ref (f1 (f0_t4 p5) w_MOVE w_PRESS w_RELEASE)), (.long (f0_z0 q0 q1 p5)), (.ref b13), (.ref b13)])) (fun _ k => XS.iload X14.here hx rfl (hb hby at_148) rfl k) ?_
  refine go (B := T14.setTop (mkF m 152 #[.val (.long q0), .second, .val (.long q1), .second, .val (.int p2), .val (.int p3), .val (.int p4), .val (.int p5), .val (.long (q0 &&& (9223372036854775807 : Int64))), .second, .val (.long (f0_z0 q0 q1 p5)), .second, .val (.int (f0_z1 p2 p4 p5)), .val (.int (f0_z2 q1 p3 p5)), .val (.int (f0_t3 p5)), .val (.int (f0_t4 p5)), .val (.int (f0_t5 p5)), .val (.int (f0_t6 p5)), .val (.int (((p5.toUInt32 >>> ((11 : Int32) &&& 31).toUInt32).toInt32) &&& (3 : Int32))), .val (.ref b7), .unset, .unset] [(.int (f0_z2 q1 p3 p5)), (.int (f0_z1 p2 p4 p5)), (.ref (f1 (f0_t4 p5) w_MOVE w_PRESS w_RELEASE)), (.long (f0_z0 q0 q1 p5)), (.ref b13), (.ref b13)])) (fun _ k => XS.iload X14.here hx rfl (hb hby at_150) rfl k) ?_
  refine go (B := T14.setTop (mkF m 154 #[.val (.long q0), .second, .val (.long q1), .second, .val (.int p2), .val (.int p3), .val (.int p4), .val (.int p5), .val (.long (q0 &&& (9223372036854775807 : Int64))), .second, .val (.long (f0_z0 q0 q1 p5)), .second, .val (.int (f0_z1 p2 p4 p5)), .val (.int (f0_z2 q1 p3 p5)), .val (.int (f0_t3 p5)), .val (.int (f0_t4 p5)), .val (.int (f0_t5 p5)), .val (.int (f0_t6 p5)), .val (.int (((p5.toUInt32 >>> ((11 : Int32) &&& 31).toUInt32).toInt32) &&& (3 : Int32))), .val (.ref b7), .unset, .unset] [(.int (f0_t6 p5)), (.int (f0_z2 q1 p3 p5)), (.int (f0_z1 p2 p4 p5)), (.ref (f1 (f0_t4 p5) w_MOVE w_PRESS w_RELEASE)), (.long (f0_z0 q0 q1 p5)), (.ref b13), (.ref b13)])) (fun _ k => XS.iload X14.here hx rfl (hb hby at_152) rfl k) ?_
  obtain ⟨_, _, ⟨T16, L16, k16, n16⟩, -, X16, ⟨Lc16, hQ16, l16, y16, z16⟩, st16⟩ := Jvm.LawKit.callS X14 hx (y := (⟨"com/example/fenced_widget/fencedwidget/fence/TraceEventEqualsPinLaw", "button", "(I)Lcom/example/fenced_widget/fencedwidget/protocol/Button;"⟩ : MethodName)) hown (mvT hZ (hw _ (List.mem_of_getElem? (i := 11) rfl))) (mvT hZ (hw _ (List.mem_of_getElem? (i := 12) rfl))) (mvT hZ (hw _ (List.mem_of_getElem? (i := 6) rfl))) (mvT hZ (hw _ (List.mem_of_getElem? (i := 13) rfl))) (by decide) (backOf (W := 7) (rm2 l Z aw hw [] (f0_t6 p5) w_LEFT w_RIGHT w_NONE h13 n0 Z13 O13 S_LEFT S_RIGHT S_NONE) hZ (hw _ (List.mem_of_getElem? (i := 13) rfl)) (hw _ (List.mem_of_getElem? (i := 6) rfl)) (by decide) (by decide)) (g := (mkF m 154 #[.val (.long q0), .second, .val (.long q1), .second, .val (.int p2), .val (.int p3), .val (.int p4), .val (.int p5), .val (.long (q0 &&& (9223372036854775807 : Int64))), .second, .val (.long (f0_z0 q0 q1 p5)), .second, .val (.int (f0_z1 p2 p4 p5)), .val (.int (f0_z2 q1 p3 p5)), .val (.int (f0_t3 p5)), .val (.int (f0_t4 p5)), .val (.int (f0_t5 p5)), .val (.int (f0_t6 p5)), .val (.int (((p5.toUInt32 >>> ((11 : Int32) &&& 31).toUInt32).toInt32) &&& (3 : Int32))), .val (.ref b7), .unset, .unset] [(.int (f0_t6 p5)), (.int (f0_z2 q1 p3 p5)), (.int (f0_z1 p2 p4 p5)), (.ref (f1 (f0_t4 p5) w_MOVE w_PRESS w_RELEASE)), (.long (f0_z0 q0 q1 p5)), (.ref b13), (.ref b13)])) rfl (by rw [hml]; rfl) (argsL := [(.int (f0_t6 p5))]) (rest := [(.int (f0_z2 q1 p3 p5)), (.int (f0_z1 p2 p4 p5)), (.ref (f1 (f0_t4 p5) w_MOVE w_PRESS w_RELEASE)), (.long (f0_z0 q0 q1 p5)), (.ref b13), (.ref b13)]) (lenOf pd_4 rfl) rfl (by show 2 * 0 + _ ≤ _; exact Nat.le_of_eq rfl) (hb hby at_154) (fun _ _ => ⟨rfl, e14, (by decide : 6 + 0 ≤ _), (by decide : 58 + 0 ≤ _)⟩)
  dsimp only [Pt.U, Pt.locs, Pt.cells, Pt.slots] at X16 l16 y16 z16 st16 hQ16
  subst l16 y16 z16
  obtain ⟨rfl, rfl, e16⟩ := hQ16
  have N16 := Fr.app N14 (Fr.nil n0)
  refine go (B := T16.setTop (mkF m 157 #[.val (.long q0), .second, .val (.long q1), .second, .val (.int p2), .val (.int p3), .val (.int p4), .val (.int p5), .val (.long (q0 &&& (9223372036854775807 : Int64))), .second, .val (.long (f0_z0 q0 q1 p5)), .second, .val (.int (f0_z1 p2 p4 p5)), .val (.int (f0_z2 q1 p3 p5)), .val (.int (f0_t3 p5)), .val (.int (f0_t4 p5)), .val (.int (f0_t5 p5)), .val (.int (f0_t6 p5)), .val (.int (((p5.toUInt32 >>> ((11 : Int32) &&& 31).toUInt32).toInt32) &&& (3 : Int32))), .val (.ref b7), .unset, .unset] [(.ref (f2 (f0_t6 p5) w_LEFT w_RIGHT w_NONE)), (.int (f0_z2 q1 p3 p5)), (.int (f0_z1 p2 p4 p5)), (.ref (f1 (f0_t4 p5) w_MOVE w_PRESS w_RELEASE)), (.long (f0_z0 q0 q1 p5)), (.ref b13), (.ref b13)])) (fun _ k => st16 _ k) ?_
  have E_q17 : Exa Z h13 (f2 (f0_t6 p5) w_LEFT w_RIGHT w_NONE) "com/example/fenced_widget/fencedwidget/protocol/Button" := own_bu E_w_LEFT_13 E_w_RIGHT_13 E_w_NONE_13
  obtain ⟨_, _, ⟨T18, L18, k18, n18⟩, -, X18, Sx18, gr18, ⟨Lc18, hQ18, l18, y18, z18⟩, st18⟩ := X16.specialBackS hx (y := (⟨"com/example/fenced_widget/fencedwidget/fence/TraceEvent", "<init>", "(JLcom/example/fenced_widget/fencedwidget/protocol/InputType;IILcom/example/fenced_widget/fencedwidget/protocol/Button;)V"⟩ : MethodName)) rfl hown (mvT hZ (hw _ (List.mem_of_getElem? (i := 17) rfl))) (mvT hZ (hw _ (List.mem_of_getElem? (i := 18) rfl))) (mvT hZ (hw _ (List.mem_of_getElem? (i := 19) rfl))) (by decide) (backOfS (W := 1) (rm3 l Z aw hw [] b13 (f0_z0 q0 q1 p5) (f1 (f0_t4 p5) w_MOVE w_PRESS w_RELEASE) (f0_z1 p2 p4 p5) (f0_z2 q1 p3 p5) (f2 (f0_t6 p5) w_LEFT w_RIGHT w_NONE) h13 n0 Z13 O13 F_timeMs_b13 F_type_b13 F_x_b13 F_y_b13 F_button_b13 E_b13 E_q15 E_q17 (show ¬ ((lcmpW (f0_z0 q0 q1 p5) (0 : Int64)) < (0 : Int32)) from (own_z0 _ _ _)) g_b13) hZ (hw _ (List.mem_of_getElem? (i := 19) rfl)) (hw _ (List.mem_of_getElem? (i := 3) rfl)) (by decide) (by decide)) (g := (mkF m 157 #[.val (.long q0), .second, .val (.long q1), .second, .val (.int p2), .val (.int p3), .val (.int p4), .val (.int p5), .val (.long (q0 &&& (9223372036854775807 : Int64))), .second, .val (.long (f0_z0 q0 q1 p5)), .second, .val (.int (f0_z1 p2 p4 p5)), .val (.int (f0_z2 q1 p3 p5)), .val (.int (f0_t3 p5)), .val (.int (f0_t4 p5)), .val (.int (f0_t5 p5)), .val (.int (f0_t6 p5)), .val (.int (((p5.toUInt32 >>> ((11 : Int32) &&& 31).toUInt32).toInt32) &&& (3 : Int32))), .val (.ref b7), .unset, .unset] [(.ref (f2 (f0_t6 p5) w_LEFT w_RIGHT w_NONE)), (.int (f0_z2 q1 p3 p5)), (.int (f0_z1 p2 p4 p5)), (.ref (f1 (f0_t4 p5) w_MOVE w_PRESS w_RELEASE)), (.long (f0_z0 q0 q1 p5)), (.ref b13), (.ref b13)])) rfl (by rw [hml]; rfl) (Steps.refl _) (a := b13) (argsL := [(.long (f0_z0 q0 q1 p5)), (.ref (f1 (f0_t4 p5) w_MOVE w_PRESS w_RELEASE)), (.int (f0_z1 p2 p4 p5)), (.int (f0_z2 q1 p3 p5)), (.ref (f2 (f0_t6 p5) w_LEFT w_RIGHT w_NONE))]) (rest := [(.ref b13)]) (lenOf pd_5 rfl) rfl (by show 2 * 0 + _ ≤ _; exact Nat.le_of_eq rfl) (hb hby at_157) (fun _ _ => ⟨rfl, e16, (by decide : 6 + 4 ≤ _), (by decide : 58 + 48 ≤ _)⟩)
  dsimp only [Pt.U, Pt.locs, Pt.cells, Pt.slots] at X18 l18 y18 z18 st18 hQ18 Sx18 gr18
  subst l18 y18 z18
  obtain ⟨X18, S18, hZ, hown⟩ := rebS S12 (own_sk e16 SK13) X18 Sx18 gr18 hZ hown
  obtain ⟨rfl, N18q, Kc18, o18_0, o18_1, o18_2, o18_3, o18_4, o18_5⟩ := hQ18
  have O18 := O13.keep Kc18 (allS g_b13 all0)
  have E_w_MOVE_18 := E_w_MOVE_13.keep Kc18
  have E_w_PRESS_18 := E_w_PRESS_13.keep Kc18
  have E_w_RELEASE_18 := E_w_RELEASE_13.keep Kc18
  have E_w_LEFT_18 := E_w_LEFT_13.keep Kc18
  have E_w_RIGHT_18 := E_w_RIGHT_13.keep Kc18
  have E_w_NONE_18 := E_w_NONE_13.keep Kc18
  have E_b7_18 := E_b7_13.keep Kc18
  have E_q9_18 := E_q9_13.keep Kc18
  have E_q11_18 := E_q11_13.keep Kc18
  have F_timeMs_b7_18 := F_timeMs_b7_13.keep Kc18 (ninS ne_b7_b13 nin0)
  have F_type_b7_18 := F_type_b7_13.keep Kc18 (ninS ne_b7_b13 nin0)
  have F_x_b7_18 := F_x_b7_13.keep Kc18 (ninS ne_b7_b13 nin0)
  have F_y_b7_18 := F_y_b7_13.keep Kc18 (ninS ne_b7_b13 nin0)
  have F_button_b7_18 := F_button_b7_13.keep Kc18 (ninS ne_b7_b13 nin0)
  have E_b13_18 := E_b13.keep Kc18
  have E_q15_18 := E_q15.keep Kc18
  have E_q17_18 := E_q17.keep Kc18
  have N18 := Fr.app N16 N18q
  have Z18 := Nat.le_trans Z13 Kc18.1
  have SK18 := Nat.le_trans SK13 Kc18.1
  have SKw18 : T18.heap.size ≤ T18.heap.size := Nat.le_refl _
  refine go (B := T18.setTop (mkF m 160 #[.val (.long q0), .second, .val (.long q1), .second, .val (.int p2), .val (.int p3), .val (.int p4), .val (.int p5), .val (.long (q0 &&& (9223372036854775807 : Int64))), .second, .val (.long (f0_z0 q0 q1 p5)), .second, .val (.int (f0_z1 p2 p4 p5)), .val (.int (f0_z2 q1 p3 p5)), .val (.int (f0_t3 p5)), .val (.int (f0_t4 p5)), .val (.int (f0_t5 p5)), .val (.int (f0_t6 p5)), .val (.int (((p5.toUInt32 >>> ((11 : Int32) &&& 31).toUInt32).toInt32) &&& (3 : Int32))), .val (.ref b7), .unset, .unset] [(.ref b13)])) (fun _ k => st18.trans k) ?_
  refine go (B := T18.setTop (mkF m 162 #[.val (.long q0), .second, .val (.long q1), .second, .val (.int p2), .val (.int p3), .val (.int p4), .val (.int p5), .val (.long (q0 &&& (9223372036854775807 : Int64))), .second, .val (.long (f0_z0 q0 q1 p5)), .second, .val (.int (f0_z1 p2 p4 p5)), .val (.int (f0_z2 q1 p3 p5)), .val (.int (f0_t3 p5)), .val (.int (f0_t4 p5)), .val (.int (f0_t5 p5)), .val (.int (f0_t6 p5)), .val (.int (((p5.toUInt32 >>> ((11 : Int32) &&& 31).toUInt32).toInt32) &&& (3 : Int32))), .val (.ref b7), .val (.ref b13), .unset] [])) (fun _ k => XS.astore X18.here hx rfl (hb hby at_160) rfl rfl (l' := #[.val (.long q0), .second, .val (.long q1), .second, .val (.int p2), .val (.int p3), .val (.int p4), .val (.int p5), .val (.long (q0 &&& (9223372036854775807 : Int64))), .second, .val (.long (f0_z0 q0 q1 p5)), .second, .val (.int (f0_z1 p2 p4 p5)), .val (.int (f0_z2 q1 p3 p5)), .val (.int (f0_t3 p5)), .val (.int (f0_t4 p5)), .val (.int (f0_t5 p5)), .val (.int (f0_t6 p5)), .val (.int (((p5.toUInt32 >>> ((11 : Int32) &&& 31).toUInt32).toInt32) &&& (3 : Int32))), .val (.ref b7), .val (.ref b13), .unset]) rfl k) ?_
  refine go (B := T18.setTop (mkF m 164 #[.val (.long q0), .second, .val (.long q1), .second, .val (.int p2), .val (.int p3), .val (.int p4), .val (.int p5), .val (.long (q0 &&& (9223372036854775807 : Int64))), .second, .val (.long (f0_z0 q0 q1 p5)), .second, .val (.int (f0_z1 p2 p4 p5)), .val (.int (f0_z2 q1 p3 p5)), .val (.int (f0_t3 p5)), .val (.int (f0_t4 p5)), .val (.int (f0_t5 p5)), .val (.int (f0_t6 p5)), .val (.int (((p5.toUInt32 >>> ((11 : Int32) &&& 31).toUInt32).toInt32) &&& (3 : Int32))), .val (.ref b7), .val (.ref b13), .unset] [(.int (((p5.toUInt32 >>> ((11 : Int32) &&& 31).toUInt32).toInt32) &&& (3 : Int32)))])) (fun _ k => XS.iload X18.here hx rfl (hb hby at_162) rfl k) ?_
  refine go (B := T18.setTop (mkF m 165 #[.val (.long q0), .second, .val (.long q1), .second, .val (.int p2), .val (.int p3), .val (.int p4), .val (.int p5), .val (.long (q0 &&& (9223372036854775807 : Int64))), .second, .val (.long (f0_z0 q0 q1 p5)), .second, .val (.int (f0_z1 p2 p4 p5)), .val (.int (f0_z2 q1 p3 p5)), .val (.int (f0_t3 p5)), .val (.int (f0_t4 p5)), .val (.int (f0_t5 p5)), .val (.int (f0_t6 p5)), .val (.int (((p5.toUInt32 >>> ((11 : Int32) &&& 31).toUInt32).toInt32) &&& (3 : Int32))), .val (.ref b7), .val (.ref b13), .unset] [(.int (1 : Int32)), (.int (((p5.toUInt32 >>> ((11 : Int32) &&& 31).toUInt32).toInt32) &&& (3 : Int32)))])) (fun _ k => XS.iconst X18.here hx rfl (hb hby at_164) k) ?_
  by_cases hc19 : (((p5.toUInt32 >>> ((11 : Int32) &&& 31).toUInt32).toInt32) &&& (3 : Int32)) = (1 : Int32)
  · refine go (B := T18.setTop (mkF m 168 #[.val (.long q0), .second, .val (.long q1), .second, .val (.int p2), .val (.int p3), .val (.int p4), .val (.int p5), .val (.long (q0 &&& (9223372036854775807 : Int64))), .second, .val (.long (f0_z0 q0 q1 p5)), .second, .val (.int (f0_z1 p2 p4 p5)), .val (.int (f0_z2 q1 p3 p5)), .val (.int (f0_t3 p5)), .val (.int (f0_t4 p5)), .val (.int (f0_t5 p5)), .val (.int (f0_t6 p5)), .val (.int (((p5.toUInt32 >>> ((11 : Int32) &&& 31).toUInt32).toInt32) &&& (3 : Int32))), .val (.ref b7), .val (.ref b13), .unset] [])) (fun _ k => XS.icmpNo X18.here hx rfl (hb hby at_165) rfl (teq hc19).2 k) ?_
    refine go (B := T18.setTop (mkF m 170 #[.val (.long q0), .second, .val (.long q1), .second, .val (.int p2), .val (.int p3), .val (.int p4), .val (.int p5), .val (.long (q0 &&& (9223372036854775807 : Int64))), .second, .val (.long (f0_z0 q0 q1 p5)), .second, .val (.int (f0_z1 p2 p4 p5)), .val (.int (f0_z2 q1 p3 p5)), .val (.int (f0_t3 p5)), .val (.int (f0_t4 p5)), .val (.int (f0_t5 p5)), .val (.int (f0_t6 p5)), .val (.int (((p5.toUInt32 >>> ((11 : Int32) &&& 31).toUInt32).toInt32) &&& (3 : Int32))), .val (.ref b7), .val (.ref b13), .unset] [(.ref b7)])) (fun _ k => XS.aload X18.here hx rfl (hb hby at_168) rfl rfl k) ?_
    refine go (B := T18.setTop (mkF m 171 #[.val (.long q0), .second, .val (.long q1), .second, .val (.int p2), .val (.int p3), .val (.int p4), .val (.int p5), .val (.long (q0 &&& (9223372036854775807 : Int64))), .second, .val (.long (f0_z0 q0 q1 p5)), .second, .val (.int (f0_z1 p2 p4 p5)), .val (.int (f0_z2 q1 p3 p5)), .val (.int (f0_t3 p5)), .val (.int (f0_t4 p5)), .val (.int (f0_t5 p5)), .val (.int (f0_t6 p5)), .val (.int (((p5.toUInt32 >>> ((11 : Int32) &&& 31).toUInt32).toInt32) &&& (3 : Int32))), .val (.ref b7), .val (.ref b13), .unset] [.null, (.ref b7)])) (fun _ k => XS.aconstNull X18.here hx rfl (hb hby at_170) k) ?_
    obtain ⟨cq20, kq20, q20a, q20b, q20c⟩ := isOf hZ rfl E_b7_18
    obtain ⟨_, _, ⟨T20, L20, k20, n20⟩, -, X20, ⟨Lc20, hQ20, l20, y20, z20⟩, st20⟩ := X18.virtualBack hx (y := (⟨"com/example/fenced_widget/fencedwidget/fence/TraceEvent", "equals", "(Ljava/lang/Object;)Z"⟩ : MethodName)) (z := (⟨"com/example/fenced_widget/fencedwidget/fence/TraceEvent", "equals", "(Ljava/lang/Object;)Z"⟩ : MethodName)) hown (mvT hZ (hw _ (List.mem_of_getElem? (i := 50) rfl))) (mvT hZ (hw _ (List.mem_of_getElem? (i := 51) rfl))) (notFace_of_selects (args := #[]) (mvT hZ (hw _ (List.mem_of_getElem? (i := 53) rfl)))) (mvT hZ (hw _ (List.mem_of_getElem? (i := 53) rfl))) (mvT hZ (hw _ (List.mem_of_getElem? (i := 52) rfl))) (by decide) (backOf (W := 0) (rm6n l Z aw hw [] b7 T18.heap n0 Z18 O18) hZ (hw _ (List.mem_of_getElem? (i := 54) rfl)) (hw _ (List.mem_of_getElem? (i := 3) rfl)) (by decide) (by decide)) q20a q20c (g := (mkF m 171 #[.val (.long q0), .second, .val (.long q1), .second, .val (.int p2), .val (.int p3), .val (.int p4), .val (.int p5), .val (.long (q0 &&& (9223372036854775807 : Int64))), .second, .val (.long (f0_z0 q0 q1 p5)), .second, .val (.int (f0_z1 p2 p4 p5)), .val (.int (f0_z2 q1 p3 p5)), .val (.int (f0_t3 p5)), .val (.int (f0_t4 p5)), .val (.int (f0_t5 p5)), .val (.int (f0_t6 p5)), .val (.int (((p5.toUInt32 >>> ((11 : Int32) &&& 31).toUInt32).toInt32) &&& (3 : Int32))), .val (.ref b7), .val (.ref b13), .unset] [.null, (.ref b7)])) rfl (by rw [hml]; rfl) (Steps.refl _) (argsL := [.null]) (rest := []) (lenOf pd_6 rfl) rfl (by show 2 * 0 + _ ≤ _; exact Nat.le_of_eq rfl) (hb hby at_171) (fun _ _ => ⟨rfl, rfl, (by decide : 10 + 0 ≤ _), (by decide : 106 + 0 ≤ _)⟩)
    dsimp only [Pt.U, Pt.locs, Pt.cells, Pt.slots] at X20 l20 y20 z20 st20 hQ20
    subst l20 y20 z20
    obtain ⟨rfl, rfl, e20⟩ := hQ20
    have N20 := Fr.app N18 (Fr.nil n0)
    refine go (B := T20.setTop (mkF m 174 #[.val (.long q0), .second, .val (.long q1), .second, .val (.int p2), .val (.int p3), .val (.int p4), .val (.int p5), .val (.long (q0 &&& (9223372036854775807 : Int64))), .second, .val (.long (f0_z0 q0 q1 p5)), .second, .val (.int (f0_z1 p2 p4 p5)), .val (.int (f0_z2 q1 p3 p5)), .val (.int (f0_t3 p5)), .val (.int (f0_t4 p5)), .val (.int (f0_t5 p5)), .val (.int (f0_t6 p5)), .val (.int (((p5.toUInt32 >>> ((11 : Int32) &&& 31).toUInt32).toInt32) &&& (3 : Int32))), .val (.ref b7), .val (.ref b13), .unset] [(.int f6n)])) (fun _ k => st20.trans k) ?_
    by_cases hc21 : f6n = (0 : Int32)
    · refine go (B := T20.setTop (mkF m 177 #[.val (.long q0), .second, .val (.long q1), .second, .val (.int p2), .val (.int p3), .val (.int p4), .val (.int p5), .val (.long (q0 &&& (9223372036854775807 : Int64))), .second, .val (.long (f0_z0 q0 q1 p5)), .second, .val (.int (f0_z1 p2 p4 p5)), .val (.int (f0_z2 q1 p3 p5)), .val (.int (f0_t3 p5)), .val (.int (f0_t4 p5)), .val (.int (f0_t5 p5)), .val (.int (f0_t6 p5)), .val (.int (((p5.toUInt32 >>> ((11 : Int32) &&& 31).toUInt32).toInt32) &&& (3 : Int32))), .val (.ref b7), .val (.ref b13), .unset] [])) (fun _ k => XS.ifNo X20.here hx rfl (hb hby at_174) rfl ((if0 _ _).trans (teq hc21).2) k) ?_
      refine go (B := T20.setTop (mkF m 178 #[.val (.long q0), .second, .val (.long q1), .second, .val (.int p2), .val (.int p3), .val (.int p4), .val (.int p5), .val (.long (q0 &&& (9223372036854775807 : Int64))), .second, .val (.long (f0_z0 q0 q1 p5)), .second, .val (.int (f0_z1 p2 p4 p5)), .val (.int (f0_z2 q1 p3 p5)), .val (.int (f0_t3 p5)), .val (.int (f0_t4 p5)), .val (.int (f0_t5 p5)), .val (.int (f0_t6 p5)), .val (.int (((p5.toUInt32 >>> ((11 : Int32) &&& 31).toUInt32).toInt32) &&& (3 : Int32))), .val (.ref b7), .val (.ref b13), .unset] [(.int (1 : Int32))])) (fun _ k => XS.iconst X20.here hx rfl (hb hby at_177) k) ?_
      refine go (B := T20.setTop (mkF m 182 #[.val (.long q0), .second, .val (.long q1), .second, .val (.int p2), .val (.int p3), .val (.int p4), .val (.int p5), .val (.long (q0 &&& (9223372036854775807 : Int64))), .second, .val (.long (f0_z0 q0 q1 p5)), .second, .val (.int (f0_z1 p2 p4 p5)), .val (.int (f0_z2 q1 p3 p5)), .val (.int (f0_t3 p5)), .val (.int (f0_t4 p5)), .val (.int (f0_t5 p5)), .val (.int (f0_t6 p5)), .val (.int (((p5.toUInt32 >>> ((11 : Int32) &&& 31).toUInt32).toInt32) &&& (3 : Int32))), .val (.ref b7), .val (.ref b13), .unset] [(.int (1 : Int32))])) (fun _ k => XS.goto X20.here hx rfl (pc0 := 178) (pc' := 182) rfl (hb hby at_178) (by decide) (by decide) k) ?_
      have r22 : (f0 q0 q1 p2 p3 p4 p5 w_MOVE w_PRESS w_RELEASE w_LEFT w_RIGHT w_NONE) = (1 : Int32) := by unfold f0; rw [if_pos hc19, if_pos hc21]
      exact end_narW X20 S18 SKw18 hx Bd.notSynchronized (t := .boolean) Bd.returns (by simp) (hb hby at_182) hF e20 (by decide) (by decide) ⟨(congrArg (fun z => some (Value.int z)) (r22.symm.trans (own_law q0 q1 p2 p3 p4 p5 w_MOVE w_PRESS w_RELEASE w_LEFT w_RIGHT w_NONE ne_w_MOVE_w_PRESS ne_w_MOVE_w_RELEASE ne_w_PRESS_w_RELEASE ne_w_LEFT_w_RIGHT ne_w_LEFT_w_NONE ne_w_RIGHT_w_NONE))), N20⟩
    · refine go (B := T20.setTop (mkF m 181 #[.val (.long q0), .second, .val (.long q1), .second, .val (.int p2), .val (.int p3), .val (.int p4), .val (.int p5), .val (.long (q0 &&& (9223372036854775807 : Int64))), .second, .val (.long (f0_z0 q0 q1 p5)), .second, .val (.int (f0_z1 p2 p4 p5)), .val (.int (f0_z2 q1 p3 p5)), .val (.int (f0_t3 p5)), .val (.int (f0_t4 p5)), .val (.int (f0_t5 p5)), .val (.int (f0_t6 p5)), .val (.int (((p5.toUInt32 >>> ((11 : Int32) &&& 31).toUInt32).toInt32) &&& (3 : Int32))), .val (.ref b7), .val (.ref b13), .unset] [])) (fun _ k => XS.ifYes X20.here hx rfl (pc0 := 174) (pc' := 181) rfl (hb hby at_174) rfl ((if0 _ _).trans (feq hc21).2) (by decide) (by decide) k) ?_
      refine go (B := T20.setTop (mkF m 182 #[.val (.long q0), .second, .val (.long q1), .second, .val (.int p2), .val (.int p3), .val (.int p4), .val (.int p5), .val (.long (q0 &&& (9223372036854775807 : Int64))), .second, .val (.long (f0_z0 q0 q1 p5)), .second, .val (.int (f0_z1 p2 p4 p5)), .val (.int (f0_z2 q1 p3 p5)), .val (.int (f0_t3 p5)), .val (.int (f0_t4 p5)), .val (.int (f0_t5 p5)), .val (.int (f0_t6 p5)), .val (.int (((p5.toUInt32 >>> ((11 : Int32) &&& 31).toUInt32).toInt32) &&& (3 : Int32))), .val (.ref b7), .val (.ref b13), .unset] [(.int (0 : Int32))])) (fun _ k => XS.iconst X20.here hx rfl (hb hby at_181) k) ?_
      have r23 : (f0 q0 q1 p2 p3 p4 p5 w_MOVE w_PRESS w_RELEASE w_LEFT w_RIGHT w_NONE) = (0 : Int32) := by unfold f0; rw [if_pos hc19, if_neg hc21]
      exact end_narW X20 S18 SKw18 hx Bd.notSynchronized (t := .boolean) Bd.returns (by simp) (hb hby at_182) hF e20 (by decide) (by decide) ⟨(congrArg (fun z => some (Value.int z)) (r23.symm.trans (own_law q0 q1 p2 p3 p4 p5 w_MOVE w_PRESS w_RELEASE w_LEFT w_RIGHT w_NONE ne_w_MOVE_w_PRESS ne_w_MOVE_w_RELEASE ne_w_PRESS_w_RELEASE ne_w_LEFT_w_RIGHT ne_w_LEFT_w_NONE ne_w_RIGHT_w_NONE))), N20⟩
  · refine go (B := T18.setTop (mkF m 183 #[.val (.long q0), .second, .val (.long q1), .second, .val (.int p2), .val (.int p3), .val (.int p4), .val (.int p5), .val (.long (q0 &&& (9223372036854775807 : Int64))), .second, .val (.long (f0_z0 q0 q1 p5)), .second, .val (.int (f0_z1 p2 p4 p5)), .val (.int (f0_z2 q1 p3 p5)), .val (.int (f0_t3 p5)), .val (.int (f0_t4 p5)), .val (.int (f0_t5 p5)), .val (.int (f0_t6 p5)), .val (.int (((p5.toUInt32 >>> ((11 : Int32) &&& 31).toUInt32).toInt32) &&& (3 : Int32))), .val (.ref b7), .val (.ref b13), .unset] [])) (fun _ k => XS.icmpYes X18.here hx rfl (pc0 := 165) (pc' := 183) rfl (hb hby at_165) rfl (feq hc19).2 (by decide) (by decide) k) ?_
    refine go (B := T18.setTop (mkF m 185 #[.val (.long q0), .second, .val (.long q1), .second, .val (.int p2), .val (.int p3), .val (.int p4), .val (.int p5), .val (.long (q0 &&& (9223372036854775807 : Int64))), .second, .val (.long (f0_z0 q0 q1 p5)), .second, .val (.int (f0_z1 p2 p4 p5)), .val (.int (f0_z2 q1 p3 p5)), .val (.int (f0_t3 p5)), .val (.int (f0_t4 p5)), .val (.int (f0_t5 p5)), .val (.int (f0_t6 p5)), .val (.int (((p5.toUInt32 >>> ((11 : Int32) &&& 31).toUInt32).toInt32) &&& (3 : Int32))), .val (.ref b7), .val (.ref b13), .unset] [(.int (((p5.toUInt32 >>> ((11 : Int32) &&& 31).toUInt32).toInt32) &&& (3 : Int32)))])) (fun _ k => XS.iload X18.here hx rfl (hb hby at_183) rfl k) ?_
    refine go (B := T18.setTop (mkF m 186 #[.val (.long q0), .second, .val (.long q1), .second, .val (.int p2), .val (.int p3), .val (.int p4), .val (.int p5), .val (.long (q0 &&& (9223372036854775807 : Int64))), .second, .val (.long (f0_z0 q0 q1 p5)), .second, .val (.int (f0_z1 p2 p4 p5)), .val (.int (f0_z2 q1 p3 p5)), .val (.int (f0_t3 p5)), .val (.int (f0_t4 p5)), .val (.int (f0_t5 p5)), .val (.int (f0_t6 p5)), .val (.int (((p5.toUInt32 >>> ((11 : Int32) &&& 31).toUInt32).toInt32) &&& (3 : Int32))), .val (.ref b7), .val (.ref b13), .unset] [(.int (2 : Int32)), (.int (((p5.toUInt32 >>> ((11 : Int32) &&& 31).toUInt32).toInt32) &&& (3 : Int32)))])) (fun _ k => XS.iconst X18.here hx rfl (hb hby at_185) k) ?_
    by_cases hc24 : (((p5.toUInt32 >>> ((11 : Int32) &&& 31).toUInt32).toInt32) &&& (3 : Int32)) = (2 : Int32)
    · refine go (B := T18.setTop (mkF m 189 #[.val (.long q0), .second, .val (.long q1), .second, .val (.int p2), .val (.int p3), .val (.int p4), .val (.int p5), .val (.long (q0 &&& (9223372036854775807 : Int64))), .second, .val (.long (f0_z0 q0 q1 p5)), .second, .val (.int (f0_z1 p2 p4 p5)), .val (.int (f0_z2 q1 p3 p5)), .val (.int (f0_t3 p5)), .val (.int (f0_t4 p5)), .val (.int (f0_t5 p5)), .val (.int (f0_t6 p5)), .val (.int (((p5.toUInt32 >>> ((11 : Int32) &&& 31).toUInt32).toInt32) &&& (3 : Int32))), .val (.ref b7), .val (.ref b13), .unset] [])) (fun _ k => XS.icmpNo X18.here hx rfl (hb hby at_186) rfl (teq hc24).2 k) ?_
      refine go (B := T18.setTop (mkF m 191 #[.val (.long q0), .second, .val (.long q1), .second, .val (.int p2), .val (.int p3), .val (.int p4), .val (.int p5), .val (.long (q0 &&& (9223372036854775807 : Int64))), .second, .val (.long (f0_z0 q0 q1 p5)), .second, .val (.int (f0_z1 p2 p4 p5)), .val (.int (f0_z2 q1 p3 p5)), .val (.int (f0_t3 p5)), .val (.int (f0_t4 p5)), .val (.int (f0_t5 p5)), .val (.int (f0_t6 p5)), .val (.int (((p5.toUInt32 >>> ((11 : Int32) &&& 31).toUInt32).toInt32) &&& (3 : Int32))), .val (.ref b7), .val (.ref b13), .unset] [(.ref b7)])) (fun _ k => XS.aload X18.here hx rfl (hb hby at_189) rfl rfl k) ?_
      refine go (B := T18.setTop (mkF m 193 #[.val (.long q0), .second, .val (.long q1), .second, .val (.int p2), .val (.int p3), .val (.int p4), .val (.int p5), .val (.long (q0 &&& (9223372036854775807 : Int64))), .second, .val (.long (f0_z0 q0 q1 p5)), .second, .val (.int (f0_z1 p2 p4 p5)), .val (.int (f0_z2 q1 p3 p5)), .val (.int (f0_t3 p5)), .val (.int (f0_t4 p5)), .val (.int (f0_t5 p5)), .val (.int (f0_t6 p5)), .val (.int (((p5.toUInt32 >>> ((11 : Int32) &&& 31).toUInt32).toInt32) &&& (3 : Int32))), .val (.ref b7), .val (.ref b13), .unset] [(.long (q0 &&& (9223372036854775807 : Int64))), (.ref b7)])) (fun _ k => XS.lload X18.here hx rfl (hb hby at_191) rfl k) ?_
      obtain ⟨_, _, ⟨T25, L25, k25, n25⟩, -, X25, ⟨Lc25, hQ25, l25, y25, z25⟩, st25⟩ := Jvm.LawKit.callS X18 hx (y := (⟨"java/lang/Long", "valueOf", "(J)Ljava/lang/Long;"⟩ : MethodName)) hown (mvT hZ (hw _ (List.mem_of_getElem? (i := 65) rfl))) (mvT hZ (hw _ (List.mem_of_getElem? (i := 66) rfl))) (mvT hZ (hw _ (List.mem_of_getElem? (i := 67) rfl))) (mvT hZ (hw _ (List.mem_of_getElem? (i := 68) rfl))) (by decide) (backOf (W := 1) (rm7 l Z aw hw [] (q0 &&& (9223372036854775807 : Int64)) w_cache cl_w_cache T18.heap n0 Z18 O18 S_cache B_w_cache) hZ (hw _ (List.mem_of_getElem? (i := 68) rfl)) (hw _ (List.mem_of_getElem? (i := 67) rfl)) (by decide) (by decide)) (g := (mkF m 193 #[.val (.long q0), .second, .val (.long q1), .second, .val (.int p2), .val (.int p3), .val (.int p4), .val (.int p5), .val (.long (q0 &&& (9223372036854775807 : Int64))), .second, .val (.long (f0_z0 q0 q1 p5)), .second, .val (.int (f0_z1 p2 p4 p5)), .val (.int (f0_z2 q1 p3 p5)), .val (.int (f0_t3 p5)), .val (.int (f0_t4 p5)), .val (.int (f0_t5 p5)), .val (.int (f0_t6 p5)), .val (.int (((p5.toUInt32 >>> ((11 : Int32) &&& 31).toUInt32).toInt32) &&& (3 : Int32))), .val (.ref b7), .val (.ref b13), .unset] [(.long (q0 &&& (9223372036854775807 : Int64))), (.ref b7)])) rfl (by rw [hml]; rfl) (argsL := [(.long (q0 &&& (9223372036854775807 : Int64)))]) (rest := [(.ref b7)]) (lenOf pd_7 rfl) rfl (by show 2 * 0 + _ ≤ _; exact Nat.le_of_eq rfl) (hb hby at_193) (fun _ _ => ⟨rfl, rfl, (by decide : 10 + 1 ≤ _), (by decide : 106 + 1 ≤ _)⟩)
      dsimp only [Pt.U, Pt.locs, Pt.cells, Pt.slots] at X25 l25 y25 z25 st25 hQ25
      subst l25 y25 z25
      obtain ⟨r_25, rfl, N25q, Kc25, o25_0⟩ := hQ25
      have O25 := O18.keep Kc25 all0
      have E_w_MOVE_25 := E_w_MOVE_18.keep Kc25
      have E_w_PRESS_25 := E_w_PRESS_18.keep Kc25
      have E_w_RELEASE_25 := E_w_RELEASE_18.keep Kc25
      have E_w_LEFT_25 := E_w_LEFT_18.keep Kc25
      have E_w_RIGHT_25 := E_w_RIGHT_18.keep Kc25
      have E_w_NONE_25 := E_w_NONE_18.keep Kc25
      have E_b7_25 := E_b7_18.keep Kc25
      have E_q9_25 := E_q9_18.keep Kc25
      have E_q11_25 := E_q11_18.keep Kc25
      have F_timeMs_b7_25 := F_timeMs_b7_18.keep Kc25 nin0
      have F_type_b7_25 := F_type_b7_18.keep Kc25 nin0
      have F_x_b7_25 := F_x_b7_18.keep Kc25 nin0
      have F_y_b7_25 := F_y_b7_18.keep Kc25 nin0
      have F_button_b7_25 := F_button_b7_18.keep Kc25 nin0
      have E_b13_25 := o18_0.keep Kc25
      have E_q15_25 := E_q15_18.keep Kc25
      have E_q17_25 := E_q17_18.keep Kc25
      have F_timeMs_b13_25 := o18_1.keep Kc25 nin0
      have F_type_b13_25 := o18_2.keep Kc25 nin0
      have F_x_b13_25 := o18_3.keep Kc25 nin0
      have F_y_b13_25 := o18_4.keep Kc25 nin0
      have F_button_b13_25 := o18_5.keep Kc25 nin0
      have N25 := Fr.app N18 N25q
      have Z25 := Nat.le_trans Z18 Kc25.1
      have SK25 := Nat.le_trans SKw18 Kc25.1
      refine go (B := T25.setTop (mkF m 196 #[.val (.long q0), .second, .val (.long q1), .second, .val (.int p2), .val (.int p3), .val (.int p4), .val (.int p5), .val (.long (q0 &&& (9223372036854775807 : Int64))), .second, .val (.long (f0_z0 q0 q1 p5)), .second, .val (.int (f0_z1 p2 p4 p5)), .val (.int (f0_z2 q1 p3 p5)), .val (.int (f0_t3 p5)), .val (.int (f0_t4 p5)), .val (.int (f0_t5 p5)), .val (.int (f0_t6 p5)), .val (.int (((p5.toUInt32 >>> ((11 : Int32) &&& 31).toUInt32).toInt32) &&& (3 : Int32))), .val (.ref b7), .val (.ref b13), .unset] [(.ref r_25), (.ref b7)])) (fun _ k => st25 _ k) ?_
      obtain ⟨cq26, kq26, q26a, q26b, q26c⟩ := isOf hZ rfl E_b7_25
      obtain ⟨_, _, ⟨T26, L26, k26, n26⟩, -, X26, ⟨Lc26, hQ26, l26, y26, z26⟩, st26⟩ := X25.virtualBack hx (y := (⟨"com/example/fenced_widget/fencedwidget/fence/TraceEvent", "equals", "(Ljava/lang/Object;)Z"⟩ : MethodName)) (z := (⟨"com/example/fenced_widget/fencedwidget/fence/TraceEvent", "equals", "(Ljava/lang/Object;)Z"⟩ : MethodName)) hown (mvT hZ (hw _ (List.mem_of_getElem? (i := 50) rfl))) (mvT hZ (hw _ (List.mem_of_getElem? (i := 51) rfl))) (notFace_of_selects (args := #[]) (mvT hZ (hw _ (List.mem_of_getElem? (i := 53) rfl)))) (mvT hZ (hw _ (List.mem_of_getElem? (i := 53) rfl))) (mvT hZ (hw _ (List.mem_of_getElem? (i := 52) rfl))) (by decide) (backOf (W := 0) (rm6l l Z aw hw [] b7 r_25 T25.heap n0 Z25 O25 o25_0) hZ (hw _ (List.mem_of_getElem? (i := 54) rfl)) (hw _ (List.mem_of_getElem? (i := 3) rfl)) (by decide) (by decide)) q26a q26c (g := (mkF m 196 #[.val (.long q0), .second, .val (.long q1), .second, .val (.int p2), .val (.int p3), .val (.int p4), .val (.int p5), .val (.long (q0 &&& (9223372036854775807 : Int64))), .second, .val (.long (f0_z0 q0 q1 p5)), .second, .val (.int (f0_z1 p2 p4 p5)), .val (.int (f0_z2 q1 p3 p5)), .val (.int (f0_t3 p5)), .val (.int (f0_t4 p5)), .val (.int (f0_t5 p5)), .val (.int (f0_t6 p5)), .val (.int (((p5.toUInt32 >>> ((11 : Int32) &&& 31).toUInt32).toInt32) &&& (3 : Int32))), .val (.ref b7), .val (.ref b13), .unset] [(.ref r_25), (.ref b7)])) rfl (by rw [hml]; rfl) (Steps.refl _) (argsL := [(.ref r_25)]) (rest := []) (lenOf pd_6 rfl) rfl (by show 2 * 0 + _ ≤ _; exact Nat.le_of_eq rfl) (hb hby at_196) (fun _ _ => ⟨rfl, rfl, (by decide : 11 + 0 ≤ _), (by decide : 107 + 0 ≤ _)⟩)
      dsimp only [Pt.U, Pt.locs, Pt.cells, Pt.slots] at X26 l26 y26 z26 st26 hQ26
      subst l26 y26 z26
      obtain ⟨rfl, rfl, e26⟩ := hQ26
      have N26 := Fr.app N25 (Fr.nil n0)
      refine go (B := T26.setTop (mkF m 199 #[.val (.long q0), .second, .val (.long q1), .second, .val (.int p2), .val (.int p3), .val (.int p4), .val (.int p5), .val (.long (q0 &&& (9223372036854775807 : Int64))), .second, .val (.long (f0_z0 q0 q1 p5)), .second, .val (.int (f0_z1 p2 p4 p5)), .val (.int (f0_z2 q1 p3 p5)), .val (.int (f0_t3 p5)), .val (.int (f0_t4 p5)), .val (.int (f0_t5 p5)), .val (.int (f0_t6 p5)), .val (.int (((p5.toUInt32 >>> ((11 : Int32) &&& 31).toUInt32).toInt32) &&& (3 : Int32))), .val (.ref b7), .val (.ref b13), .unset] [(.int f6l)])) (fun _ k => st26.trans k) ?_
      by_cases hc27 : f6l = (0 : Int32)
      · refine go (B := T26.setTop (mkF m 202 #[.val (.long q0), .second, .val (.long q1), .second, .val (.int p2), .val (.int p3), .val (.int p4), .val (.int p5), .val (.long (q0 &&& (9223372036854775807 : Int64))), .second, .val (.long (f0_z0 q0 q1 p5)), .second, .val (.int (f0_z1 p2 p4 p5)), .val (.int (f0_z2 q1 p3 p5)), .val (.int (f0_t3 p5)), .val (.int (f0_t4 p5)), .val (.int (f0_t5 p5)), .val (.int (f0_t6 p5)), .val (.int (((p5.toUInt32 >>> ((11 : Int32) &&& 31).toUInt32).toInt32) &&& (3 : Int32))), .val (.ref b7), .val (.ref b13), .unset] [])) (fun _ k => XS.ifNo X26.here hx rfl (hb hby at_199) rfl ((if0 _ _).trans (teq hc27).2) k) ?_
        refine go (B := T26.setTop (mkF m 203 #[.val (.long q0), .second, .val (.long q1), .second, .val (.int p2), .val (.int p3), .val (.int p4), .val (.int p5), .val (.long (q0 &&& (9223372036854775807 : Int64))), .second, .val (.long (f0_z0 q0 q1 p5)), .second, .val (.int (f0_z1 p2 p4 p5)), .val (.int (f0_z2 q1 p3 p5)), .val (.int (f0_t3 p5)), .val (.int (f0_t4 p5)), .val (.int (f0_t5 p5)), .val (.int (f0_t6 p5)), .val (.int (((p5.toUInt32 >>> ((11 : Int32) &&& 31).toUInt32).toInt32) &&& (3 : Int32))), .val (.ref b7), .val (.ref b13), .unset] [(.int (1 : Int32))])) (fun _ k => XS.iconst X26.here hx rfl (hb hby at_202) k) ?_
        refine go (B := T26.setTop (mkF m 207 #[.val (.long q0), .second, .val (.long q1), .second, .val (.int p2), .val (.int p3), .val (.int p4), .val (.int p5), .val (.long (q0 &&& (9223372036854775807 : Int64))), .second, .val (.long (f0_z0 q0 q1 p5)), .second, .val (.int (f0_z1 p2 p4 p5)), .val (.int (f0_z2 q1 p3 p5)), .val (.int (f0_t3 p5)), .val (.int (f0_t4 p5)), .val (.int (f0_t5 p5)), .val (.int (f0_t6 p5)), .val (.int (((p5.toUInt32 >>> ((11 : Int32) &&& 31).toUInt32).toInt32) &&& (3 : Int32))), .val (.ref b7), .val (.ref b13), .unset] [(.int (1 : Int32))])) (fun _ k => XS.goto X26.here hx rfl (pc0 := 203) (pc' := 207) rfl (hb hby at_203) (by decide) (by decide) k) ?_
        have r28 : (f0 q0 q1 p2 p3 p4 p5 w_MOVE w_PRESS w_RELEASE w_LEFT w_RIGHT w_NONE) = (1 : Int32) := by unfold f0; rw [if_neg hc19, if_pos hc24, if_pos hc27]
        exact end_narW X26 S18 SK25 hx Bd.notSynchronized (t := .boolean) Bd.returns (by simp) (hb hby at_207) hF e26 (by decide) (by decide) ⟨(congrArg (fun z => some (Value.int z)) (r28.symm.trans (own_law q0 q1 p2 p3 p4 p5 w_MOVE w_PRESS w_RELEASE w_LEFT w_RIGHT w_NONE ne_w_MOVE_w_PRESS ne_w_MOVE_w_RELEASE ne_w_PRESS_w_RELEASE ne_w_LEFT_w_RIGHT ne_w_LEFT_w_NONE ne_w_RIGHT_w_NONE))), N26⟩
      · refine go (B := T26.setTop (mkF m 206 #[.val (.long q0), .second, .val (.long q1), .second, .val (.int p2), .val (.int p3), .val (.int p4), .val (.int p5), .val (.long (q0 &&& (9223372036854775807 : Int64))), .second, .val (.long (f0_z0 q0 q1 p5)), .second, .val (.int (f0_z1 p2 p4 p5)), .val (.int (f0_z2 q1 p3 p5)), .val (.int (f0_t3 p5)), .val (.int (f0_t4 p5)), .val (.int (f0_t5 p5)), .val (.int (f0_t6 p5)), .val (.int (((p5.toUInt32 >>> ((11 : Int32) &&& 31).toUInt32).toInt32) &&& (3 : Int32))), .val (.ref b7), .val (.ref b13), .unset] [])) (fun _ k => XS.ifYes X26.here hx rfl (pc0 := 199) (pc' := 206) rfl (hb hby at_199) rfl ((if0 _ _).trans (feq hc27).2) (by decide) (by decide) k) ?_
        refine go (B := T26.setTop (mkF m 207 #[.val (.long q0), .second, .val (.long q1), .second, .val (.int p2), .val (.int p3), .val (.int p4), .val (.int p5), .val (.long (q0 &&& (9223372036854775807 : Int64))), .second, .val (.long (f0_z0 q0 q1 p5)), .second, .val (.int (f0_z1 p2 p4 p5)), .val (.int (f0_z2 q1 p3 p5)), .val (.int (f0_t3 p5)), .val (.int (f0_t4 p5)), .val (.int (f0_t5 p5)), .val (.int (f0_t6 p5)), .val (.int (((p5.toUInt32 >>> ((11 : Int32) &&& 31).toUInt32).toInt32) &&& (3 : Int32))), .val (.ref b7), .val (.ref b13), .unset] [(.int (0 : Int32))])) (fun _ k => XS.iconst X26.here hx rfl (hb hby at_206) k) ?_
        have r29 : (f0 q0 q1 p2 p3 p4 p5 w_MOVE w_PRESS w_RELEASE w_LEFT w_RIGHT w_NONE) = (0 : Int32) := by unfold f0; rw [if_neg hc19, if_pos hc24, if_neg hc27]
        exact end_narW X26 S18 SK25 hx Bd.notSynchronized (t := .boolean) Bd.returns (by simp) (hb hby at_207) hF e26 (by decide) (by decide) ⟨(congrArg (fun z => some (Value.int z)) (r29.symm.trans (own_law q0 q1 p2 p3 p4 p5 w_MOVE w_PRESS w_RELEASE w_LEFT w_RIGHT w_NONE ne_w_MOVE_w_PRESS ne_w_MOVE_w_RELEASE ne_w_PRESS_w_RELEASE ne_w_LEFT_w_RIGHT ne_w_LEFT_w_NONE ne_w_RIGHT_w_NONE))), N26⟩
    · refine go (B := T18.setTop (mkF m 208 #[.val (.long q0), .second, .val (.long q1), .second, .val (.int p2), .val (.int p3), .val (.int p4), .val (.int p5), .val (.long (q0 &&& (9223372036854775807 : Int64))), .second, .val (.long (f0_z0 q0 q1 p5)), .second, .val (.int (f0_z1 p2 p4 p5)), .val (.int (f0_z2 q1 p3 p5)), .val (.int (f0_t3 p5)), .val (.int (f0_t4 p5)), .val (.int (f0_t5 p5)), .val (.int (f0_t6 p5)), .val (.int (((p5.toUInt32 >>> ((11 : Int32) &&& 31).toUInt32).toInt32) &&& (3 : Int32))), .val (.ref b7), .val (.ref b13), .unset] [])) (fun _ k => XS.icmpYes X18.here hx rfl (pc0 := 186) (pc' := 208) rfl (hb hby at_186) rfl (feq hc24).2 (by decide) (by decide) k) ?_
      refine go (B := T18.setTop (mkF m 210 #[.val (.long q0), .second, .val (.long q1), .second, .val (.int p2), .val (.int p3), .val (.int p4), .val (.int p5), .val (.long (q0 &&& (9223372036854775807 : Int64))), .second, .val (.long (f0_z0 q0 q1 p5)), .second, .val (.int (f0_z1 p2 p4 p5)), .val (.int (f0_z2 q1 p3 p5)), .val (.int (f0_t3 p5)), .val (.int (f0_t4 p5)), .val (.int (f0_t5 p5)), .val (.int (f0_t6 p5)), .val (.int (((p5.toUInt32 >>> ((11 : Int32) &&& 31).toUInt32).toInt32) &&& (3 : Int32))), .val (.ref b7), .val (.ref b13), .unset] [(.int (((p5.toUInt32 >>> ((11 : Int32) &&& 31).toUInt32).toInt32) &&& (3 : Int32)))])) (fun _ k => XS.iload X18.here hx rfl (hb hby at_208) rfl k) ?_
      refine go (B := T18.setTop (mkF m 211 #[.val (.long q0), .second, .val (.long q1), .second, .val (.int p2), .val (.int p3), .val (.int p4), .val (.int p5), .val (.long (q0 &&& (9223372036854775807 : Int64))), .second, .val (.long (f0_z0 q0 q1 p5)), .second, .val (.int (f0_z1 p2 p4 p5)), .val (.int (f0_z2 q1 p3 p5)), .val (.int (f0_t3 p5)), .val (.int (f0_t4 p5)), .val (.int (f0_t5 p5)), .val (.int (f0_t6 p5)), .val (.int (((p5.toUInt32 >>> ((11 : Int32) &&& 31).toUInt32).toInt32) &&& (3 : Int32))), .val (.ref b7), .val (.ref b13), .unset] [(.int (3 : Int32)), (.int (((p5.toUInt32 >>> ((11 : Int32) &&& 31).toUInt32).toInt32) &&& (3 : Int32)))])) (fun _ k => XS.iconst X18.here hx rfl (hb hby at_210) k) ?_
      by_cases hc30 : (((p5.toUInt32 >>> ((11 : Int32) &&& 31).toUInt32).toInt32) &&& (3 : Int32)) = (3 : Int32)
      · refine go (B := T18.setTop (mkF m 214 #[.val (.long q0), .second, .val (.long q1), .second, .val (.int p2), .val (.int p3), .val (.int p4), .val (.int p5), .val (.long (q0 &&& (9223372036854775807 : Int64))), .second, .val (.long (f0_z0 q0 q1 p5)), .second, .val (.int (f0_z1 p2 p4 p5)), .val (.int (f0_z2 q1 p3 p5)), .val (.int (f0_t3 p5)), .val (.int (f0_t4 p5)), .val (.int (f0_t5 p5)), .val (.int (f0_t6 p5)), .val (.int (((p5.toUInt32 >>> ((11 : Int32) &&& 31).toUInt32).toInt32) &&& (3 : Int32))), .val (.ref b7), .val (.ref b13), .unset] [])) (fun _ k => XS.icmpNo X18.here hx rfl (hb hby at_211) rfl (teq hc30).2 k) ?_
        refine go (B := T18.setTop (mkF m 216 #[.val (.long q0), .second, .val (.long q1), .second, .val (.int p2), .val (.int p3), .val (.int p4), .val (.int p5), .val (.long (q0 &&& (9223372036854775807 : Int64))), .second, .val (.long (f0_z0 q0 q1 p5)), .second, .val (.int (f0_z1 p2 p4 p5)), .val (.int (f0_z2 q1 p3 p5)), .val (.int (f0_t3 p5)), .val (.int (f0_t4 p5)), .val (.int (f0_t5 p5)), .val (.int (f0_t6 p5)), .val (.int (((p5.toUInt32 >>> ((11 : Int32) &&& 31).toUInt32).toInt32) &&& (3 : Int32))), .val (.ref b7), .val (.ref b13), .unset] [(.ref b7)])) (fun _ k => XS.aload X18.here hx rfl (hb hby at_214) rfl rfl k) ?_
        refine go (B := T18.setTop (mkF m 218 #[.val (.long q0), .second, .val (.long q1), .second, .val (.int p2), .val (.int p3), .val (.int p4), .val (.int p5), .val (.long (q0 &&& (9223372036854775807 : Int64))), .second, .val (.long (f0_z0 q0 q1 p5)), .second, .val (.int (f0_z1 p2 p4 p5)), .val (.int (f0_z2 q1 p3 p5)), .val (.int (f0_t3 p5)), .val (.int (f0_t4 p5)), .val (.int (f0_t5 p5)), .val (.int (f0_t6 p5)), .val (.int (((p5.toUInt32 >>> ((11 : Int32) &&& 31).toUInt32).toInt32) &&& (3 : Int32))), .val (.ref b7), .val (.ref b13), .unset] [(.ref b7), (.ref b7)])) (fun _ k => XS.aload X18.here hx rfl (hb hby at_216) rfl rfl k) ?_
        obtain ⟨cq31, kq31, q31a, q31b, q31c⟩ := isOf hZ rfl E_b7_18
        obtain ⟨_, _, ⟨T31, L31, k31, n31⟩, -, X31, ⟨Lc31, hQ31, l31, y31, z31⟩, st31⟩ := X18.virtualBack hx (y := (⟨"com/example/fenced_widget/fencedwidget/fence/TraceEvent", "equals", "(Ljava/lang/Object;)Z"⟩ : MethodName)) (z := (⟨"com/example/fenced_widget/fencedwidget/fence/TraceEvent", "equals", "(Ljava/lang/Object;)Z"⟩ : MethodName)) hown (mvT hZ (hw _ (List.mem_of_getElem? (i := 50) rfl))) (mvT hZ (hw _ (List.mem_of_getElem? (i := 51) rfl))) (notFace_of_selects (args := #[]) (mvT hZ (hw _ (List.mem_of_getElem? (i := 53) rfl)))) (mvT hZ (hw _ (List.mem_of_getElem? (i := 53) rfl))) (mvT hZ (hw _ (List.mem_of_getElem? (i := 52) rfl))) (by decide) (backOf (W := 0) (rm6t l Z aw hw [] b7 b7 (q0 &&& (9223372036854775807 : Int64)) (q0 &&& (9223372036854775807 : Int64)) (f1 (f0_t3 p5) w_MOVE w_PRESS w_RELEASE) (f1 (f0_t3 p5) w_MOVE w_PRESS w_RELEASE) p2 p2 p3 p3 (f2 (f0_t5 p5) w_LEFT w_RIGHT w_NONE) (f2 (f0_t5 p5) w_LEFT w_RIGHT w_NONE) T18.heap n0 Z18 O18 E_b7_18 F_timeMs_b7_18 F_timeMs_b7_18 F_type_b7_18 F_type_b7_18 F_x_b7_18 F_x_b7_18 F_y_b7_18 F_y_b7_18 F_button_b7_18 F_button_b7_18) hZ (hw _ (List.mem_of_getElem? (i := 54) rfl)) (hw _ (List.mem_of_getElem? (i := 3) rfl)) (by decide) (by decide)) q31a q31c (g := (mkF m 218 #[.val (.long q0), .second, .val (.long q1), .second, .val (.int p2), .val (.int p3), .val (.int p4), .val (.int p5), .val (.long (q0 &&& (9223372036854775807 : Int64))), .second, .val (.long (f0_z0 q0 q1 p5)), .second, .val (.int (f0_z1 p2 p4 p5)), .val (.int (f0_z2 q1 p3 p5)), .val (.int (f0_t3 p5)), .val (.int (f0_t4 p5)), .val (.int (f0_t5 p5)), .val (.int (f0_t6 p5)), .val (.int (((p5.toUInt32 >>> ((11 : Int32) &&& 31).toUInt32).toInt32) &&& (3 : Int32))), .val (.ref b7), .val (.ref b13), .unset] [(.ref b7), (.ref b7)])) rfl (by rw [hml]; rfl) (Steps.refl _) (argsL := [(.ref b7)]) (rest := []) (lenOf pd_6 rfl) rfl (by show 2 * 0 + _ ≤ _; exact Nat.le_of_eq rfl) (hb hby at_218) (fun _ _ => ⟨rfl, rfl, (by decide : 10 + 0 ≤ _), (by decide : 106 + 0 ≤ _)⟩)
        dsimp only [Pt.U, Pt.locs, Pt.cells, Pt.slots] at X31 l31 y31 z31 st31 hQ31
        subst l31 y31 z31
        obtain ⟨rfl, rfl, e31⟩ := hQ31
        have N31 := Fr.app N18 (Fr.nil n0)
        refine go (B := T31.setTop (mkF m 221 #[.val (.long q0), .second, .val (.long q1), .second, .val (.int p2), .val (.int p3), .val (.int p4), .val (.int p5), .val (.long (q0 &&& (9223372036854775807 : Int64))), .second, .val (.long (f0_z0 q0 q1 p5)), .second, .val (.int (f0_z1 p2 p4 p5)), .val (.int (f0_z2 q1 p3 p5)), .val (.int (f0_t3 p5)), .val (.int (f0_t4 p5)), .val (.int (f0_t5 p5)), .val (.int (f0_t6 p5)), .val (.int (((p5.toUInt32 >>> ((11 : Int32) &&& 31).toUInt32).toInt32) &&& (3 : Int32))), .val (.ref b7), .val (.ref b13), .unset] [(.int (f0_t7 q0 p2 p3 p5 w_MOVE w_PRESS w_RELEASE w_LEFT w_RIGHT w_NONE))])) (fun _ k => st31.trans k) ?_
        have r32 : (f0 q0 q1 p2 p3 p4 p5 w_MOVE w_PRESS w_RELEASE w_LEFT w_RIGHT w_NONE) = (nar .boolean (f0_t7 q0 p2 p3 p5 w_MOVE w_PRESS w_RELEASE w_LEFT w_RIGHT w_NONE)) := by unfold f0; rw [if_neg hc19, if_neg hc24, if_pos hc30]
        exact end_narW X31 S18 SKw18 hx Bd.notSynchronized (t := .boolean) Bd.returns (by simp) (hb hby at_221) hF e31 (by decide) (by decide) ⟨(congrArg (fun z => some (Value.int z)) (r32.symm.trans (own_law q0 q1 p2 p3 p4 p5 w_MOVE w_PRESS w_RELEASE w_LEFT w_RIGHT w_NONE ne_w_MOVE_w_PRESS ne_w_MOVE_w_RELEASE ne_w_PRESS_w_RELEASE ne_w_LEFT_w_RIGHT ne_w_LEFT_w_NONE ne_w_RIGHT_w_NONE))), N31⟩
      · refine go (B := T18.setTop (mkF m 222 #[.val (.long q0), .second, .val (.long q1), .second, .val (.int p2), .val (.int p3), .val (.int p4), .val (.int p5), .val (.long (q0 &&& (9223372036854775807 : Int64))), .second, .val (.long (f0_z0 q0 q1 p5)), .second, .val (.int (f0_z1 p2 p4 p5)), .val (.int (f0_z2 q1 p3 p5)), .val (.int (f0_t3 p5)), .val (.int (f0_t4 p5)), .val (.int (f0_t5 p5)), .val (.int (f0_t6 p5)), .val (.int (((p5.toUInt32 >>> ((11 : Int32) &&& 31).toUInt32).toInt32) &&& (3 : Int32))), .val (.ref b7), .val (.ref b13), .unset] [])) (fun _ k => XS.icmpYes X18.here hx rfl (pc0 := 211) (pc' := 222) rfl (hb hby at_211) rfl (feq hc30).2 (by decide) (by decide) k) ?_
        refine go (B := T18.setTop (mkF m 224 #[.val (.long q0), .second, .val (.long q1), .second, .val (.int p2), .val (.int p3), .val (.int p4), .val (.int p5), .val (.long (q0 &&& (9223372036854775807 : Int64))), .second, .val (.long (f0_z0 q0 q1 p5)), .second, .val (.int (f0_z1 p2 p4 p5)), .val (.int (f0_z2 q1 p3 p5)), .val (.int (f0_t3 p5)), .val (.int (f0_t4 p5)), .val (.int (f0_t5 p5)), .val (.int (f0_t6 p5)), .val (.int (((p5.toUInt32 >>> ((11 : Int32) &&& 31).toUInt32).toInt32) &&& (3 : Int32))), .val (.ref b7), .val (.ref b13), .unset] [(.long (q0 &&& (9223372036854775807 : Int64)))])) (fun _ k => XS.lload X18.here hx rfl (hb hby at_222) rfl k) ?_
        refine go (B := T18.setTop (mkF m 226 #[.val (.long q0), .second, .val (.long q1), .second, .val (.int p2), .val (.int p3), .val (.int p4), .val (.int p5), .val (.long (q0 &&& (9223372036854775807 : Int64))), .second, .val (.long (f0_z0 q0 q1 p5)), .second, .val (.int (f0_z1 p2 p4 p5)), .val (.int (f0_z2 q1 p3 p5)), .val (.int (f0_t3 p5)), .val (.int (f0_t4 p5)), .val (.int (f0_t5 p5)), .val (.int (f0_t6 p5)), .val (.int (((p5.toUInt32 >>> ((11 : Int32) &&& 31).toUInt32).toInt32) &&& (3 : Int32))), .val (.ref b7), .val (.ref b13), .unset] [(.long (f0_z0 q0 q1 p5)), (.long (q0 &&& (9223372036854775807 : Int64)))])) (fun _ k => XS.lload X18.here hx rfl (hb hby at_224) rfl k) ?_
        refine go (B := T18.setTop (mkF m 227 #[.val (.long q0), .second, .val (.long q1), .second, .val (.int p2), .val (.int p3), .val (.int p4), .val (.int p5), .val (.long (q0 &&& (9223372036854775807 : Int64))), .second, .val (.long (f0_z0 q0 q1 p5)), .second, .val (.int (f0_z1 p2 p4 p5)), .val (.int (f0_z2 q1 p3 p5)), .val (.int (f0_t3 p5)), .val (.int (f0_t4 p5)), .val (.int (f0_t5 p5)), .val (.int (f0_t6 p5)), .val (.int (((p5.toUInt32 >>> ((11 : Int32) &&& 31).toUInt32).toInt32) &&& (3 : Int32))), .val (.ref b7), .val (.ref b13), .unset] [(.int (lcmpW (q0 &&& (9223372036854775807 : Int64)) (f0_z0 q0 q1 p5)))])) (fun _ k => XS.lcmp X18.here hx rfl (hb hby at_226) rfl k) ?_
        suffices Kj33 : ∀ (T33 : State) (L33 : List Loc), Stand p l e room_1 (s.setVm T18.vm) m #[(.long q0), (.long q1), (.int p2), (.int p3), (.int p4), (.int p5)] below meth c T33 L33 10 106 → Fr n0 L33 → T33.heap = T18.heap → Go p.tables e below F (T33.setTop (mkF m 263 #[.val (.long q0), .second, .val (.long q1), .second, .val (.int p2), .val (.int p3), .val (.int p4), .val (.int p5), .val (.long (q0 &&& (9223372036854775807 : Int64))), .second, .val (.long (f0_z0 q0 q1 p5)), .second, .val (.int (f0_z1 p2 p4 p5)), .val (.int (f0_z2 q1 p3 p5)), .val (.int (f0_t3 p5)), .val (.int (f0_t4 p5)), .val (.int (f0_t5 p5)), .val (.int (f0_t6 p5)), .val (.int (((p5.toUInt32 >>> ((11 : Int32) &&& 31).toUInt32).toInt32) &&& (3 : Int32))), .val (.ref b7), .val (.ref b13), .unset] [(.int (f0_z8 q0 q1 p2 p3 p4 p5))])) by
          by_cases hc34 : (lcmpW (q0 &&& (9223372036854775807 : Int64)) (f0_z0 q0 q1 p5)) = (0 : Int32)
          · refine go (B := T18.setTop (mkF m 230 #[.val (.long q0), .second, .val (.long q1), .second, .val (.int p2), .val (.int p3), .val (.int p4), .val (.int p5), .val (.long (q0 &&& (9223372036854775807 : Int64))), .second, .val (.long (f0_z0 q0 q1 p5)), .second, .val (.int (f0_z1 p2 p4 p5)), .val (.int (f0_z2 q1 p3 p5)), .val (.int (f0_t3 p5)), .val (.int (f0_t4 p5)), .val (.int (f0_t5 p5)), .val (.int (f0_t6 p5)), .val (.int (((p5.toUInt32 >>> ((11 : Int32) &&& 31).toUInt32).toInt32) &&& (3 : Int32))), .val (.ref b7), .val (.ref b13), .unset] [])) (fun _ k => XS.ifNo X18.here hx rfl (hb hby at_227) rfl ((if0 _ _).trans (teq hc34).2) k) ?_
            refine go (B := T18.setTop (mkF m 232 #[.val (.long q0), .second, .val (.long q1), .second, .val (.int p2), .val (.int p3), .val (.int p4), .val (.int p5), .val (.long (q0 &&& (9223372036854775807 : Int64))), .second, .val (.long (f0_z0 q0 q1 p5)), .second, .val (.int (f0_z1 p2 p4 p5)), .val (.int (f0_z2 q1 p3 p5)), .val (.int (f0_t3 p5)), .val (.int (f0_t4 p5)), .val (.int (f0_t5 p5)), .val (.int (f0_t6 p5)), .val (.int (((p5.toUInt32 >>> ((11 : Int32) &&& 31).toUInt32).toInt32) &&& (3 : Int32))), .val (.ref b7), .val (.ref b13), .unset] [(.int (f0_t3 p5))])) (fun _ k => XS.iload X18.here hx rfl (hb hby at_230) rfl k) ?_
            refine go (B := T18.setTop (mkF m 234 #[.val (.long q0), .second, .val (.long q1), .second, .val (.int p2), .val (.int p3), .val (.int p4), .val (.int p5), .val (.long (q0 &&& (9223372036854775807 : Int64))), .second, .val (.long (f0_z0 q0 q1 p5)), .second, .val (.int (f0_z1 p2 p4 p5)), .val (.int (f0_z2 q1 p3 p5)), .val (.int (f0_t3 p5)), .val (.int (f0_t4 p5)), .val (.int (f0_t5 p5)), .val (.int (f0_t6 p5)), .val (.int (((p5.toUInt32 >>> ((11 : Int32) &&& 31).toUInt32).toInt32) &&& (3 : Int32))), .val (.ref b7), .val (.ref b13), .unset] [(.int (f0_t4 p5)), (.int (f0_t3 p5))])) (fun _ k => XS.iload X18.here hx rfl (hb hby at_232) rfl k) ?_
            by_cases hc35 : (f0_t3 p5) = (f0_t4 p5)
            · refine go (B := T18.setTop (mkF m 237 #[.val (.long q0), .second, .val (.long q1), .second, .val (.int p2), .val (.int p3), .val (.int p4), .val (.int p5), .val (.long (q0 &&& (9223372036854775807 : Int64))), .second, .val (.long (f0_z0 q0 q1 p5)), .second, .val (.int (f0_z1 p2 p4 p5)), .val (.int (f0_z2 q1 p3 p5)), .val (.int (f0_t3 p5)), .val (.int (f0_t4 p5)), .val (.int (f0_t5 p5)), .val (.int (f0_t6 p5)), .val (.int (((p5.toUInt32 >>> ((11 : Int32) &&& 31).toUInt32).toInt32) &&& (3 : Int32))), .val (.ref b7), .val (.ref b13), .unset] [])) (fun _ k => XS.icmpNo X18.here hx rfl (hb hby at_234) rfl (teq hc35).2 k) ?_
              refine go (B := T18.setTop (mkF m 239 #[.val (.long q0), .second, .val (.long q1), .second, .val (.int p2), .val (.int p3), .val (.int p4), .val (.int p5), .val (.long (q0 &&& (9223372036854775807 : Int64))), .second, .val (.long (f0_z0 q0 q1 p5)), .second, .val (.int (f0_z1 p2 p4 p5)), .val (.int (f0_z2 q1 p3 p5)), .val (.int (f0_t3 p5)), .val (.int (f0_t4 p5)), .val (.int (f0_t5 p5)), .val (.int (f0_t6 p5)), .val (.int (((p5.toUInt32 >>> ((11 : Int32) &&& 31).toUInt32).toInt32) &&& (3 : Int32))), .val (.ref b7), .val (.ref b13), .unset] [(.int p2)])) (fun _ k => XS.iload X18.here hx rfl (hb hby at_237) rfl k) ?_
              refine go (B := T18.setTop (mkF m 241 #[.val (.long q0), .second, .val (.long q1), .second, .val (.int p2), .val (.int p3), .val (.int p4), .val (.int p5), .val (.long (q0 &&& (9223372036854775807 : Int64))), .second, .val (.long (f0_z0 q0 q1 p5)), .second, .val (.int (f0_z1 p2 p4 p5)), .val (.int (f0_z2 q1 p3 p5)), .val (.int (f0_t3 p5)), .val (.int (f0_t4 p5)), .val (.int (f0_t5 p5)), .val (.int (f0_t6 p5)), .val (.int (((p5.toUInt32 >>> ((11 : Int32) &&& 31).toUInt32).toInt32) &&& (3 : Int32))), .val (.ref b7), .val (.ref b13), .unset] [(.int (f0_z1 p2 p4 p5)), (.int p2)])) (fun _ k => XS.iload X18.here hx rfl (hb hby at_239) rfl k) ?_
              by_cases hc36 : p2 = (f0_z1 p2 p4 p5)
              · refine go (B := T18.setTop (mkF m 244 #[.val (.long q0), .second, .val (.long q1), .second, .val (.int p2), .val (.int p3), .val (.int p4), .val (.int p5), .val (.long (q0 &&& (9223372036854775807 : Int64))), .second, .val (.long (f0_z0 q0 q1 p5)), .second, .val (.int (f0_z1 p2 p4 p5)), .val (.int (f0_z2 q1 p3 p5)), .val (.int (f0_t3 p5)), .val (.int (f0_t4 p5)), .val (.int (f0_t5 p5)), .val (.int (f0_t6 p5)), .val (.int (((p5.toUInt32 >>> ((11 : Int32) &&& 31).toUInt32).toInt32) &&& (3 : Int32))), .val (.ref b7), .val (.ref b13), .unset] [])) (fun _ k => XS.icmpNo X18.here hx rfl (hb hby at_241) rfl (teq hc36).2 k) ?_
                refine go (B := T18.setTop (mkF m 246 #[.val (.long q0), .second, .val (.long q1), .second, .val (.int p2), .val (.int p3), .val (.int p4), .val (.int p5), .val (.long (q0 &&& (9223372036854775807 : Int64))), .second, .val (.long (f0_z0 q0 q1 p5)), .second, .val (.int (f0_z1 p2 p4 p5)), .val (.int (f0_z2 q1 p3 p5)), .val (.int (f0_t3 p5)), .val (.int (f0_t4 p5)), .val (.int (f0_t5 p5)), .val (.int (f0_t6 p5)), .val (.int (((p5.toUInt32 >>> ((11 : Int32) &&& 31).toUInt32).toInt32) &&& (3 : Int32))), .val (.ref b7), .val (.ref b13), .unset] [(.int p3)])) (fun _ k => XS.iload X18.here hx rfl (hb hby at_244) rfl k) ?_
                refine go (B := T18.setTop (mkF m 248 #[.val (.long q0), .second, .val (.long q1), .second, .val (.int p2), .val (.int p3), .val (.int p4), .val (.int p5), .val (.long (q0 &&& (9223372036854775807 : Int64))), .second, .val (.long (f0_z0 q0 q1 p5)), .second, .val (.int (f0_z1 p2 p4 p5)), .val (.int (f0_z2 q1 p3 p5)), .val (.int (f0_t3 p5)), .val (.int (f0_t4 p5)), .val (.int (f0_t5 p5)), .val (.int (f0_t6 p5)), .val (.int (((p5.toUInt32 >>> ((11 : Int32) &&& 31).toUInt32).toInt32) &&& (3 : Int32))), .val (.ref b7), .val (.ref b13), .unset] [(.int (f0_z2 q1 p3 p5)), (.int p3)])) (fun _ k => XS.iload X18.here hx rfl (hb hby at_246) rfl k) ?_
                by_cases hc37 : p3 = (f0_z2 q1 p3 p5)
                · refine go (B := T18.setTop (mkF m 251 #[.val (.long q0), .second, .val (.long q1), .second, .val (.int p2), .val (.int p3), .val (.int p4), .val (.int p5), .val (.long (q0 &&& (9223372036854775807 : Int64))), .second, .val (.long (f0_z0 q0 q1 p5)), .second, .val (.int (f0_z1 p2 p4 p5)), .val (.int (f0_z2 q1 p3 p5)), .val (.int (f0_t3 p5)), .val (.int (f0_t4 p5)), .val (.int (f0_t5 p5)), .val (.int (f0_t6 p5)), .val (.int (((p5.toUInt32 >>> ((11 : Int32) &&& 31).toUInt32).toInt32) &&& (3 : Int32))), .val (.ref b7), .val (.ref b13), .unset] [])) (fun _ k => XS.icmpNo X18.here hx rfl (hb hby at_248) rfl (teq hc37).2 k) ?_
                  refine go (B := T18.setTop (mkF m 253 #[.val (.long q0), .second, .val (.long q1), .second, .val (.int p2), .val (.int p3), .val (.int p4), .val (.int p5), .val (.long (q0 &&& (9223372036854775807 : Int64))), .second, .val (.long (f0_z0 q0 q1 p5)), .second, .val (.int (f0_z1 p2 p4 p5)), .val (.int (f0_z2 q1 p3 p5)), .val (.int (f0_t3 p5)), .val (.int (f0_t4 p5)), .val (.int (f0_t5 p5)), .val (.int (f0_t6 p5)), .val (.int (((p5.toUInt32 >>> ((11 : Int32) &&& 31).toUInt32).toInt32) &&& (3 : Int32))), .val (.ref b7), .val (.ref b13), .unset] [(.int (f0_t5 p5))])) (fun _ k => XS.iload X18.here hx rfl (hb hby at_251) rfl k) ?_
                  refine go (B := T18.setTop (mkF m 255 #[.val (.long q0), .second, .val (.long q1), .second, .val (.int p2), .val (.int p3), .val (.int p4), .val (.int p5), .val (.long (q0 &&& (9223372036854775807 : Int64))), .second, .val (.long (f0_z0 q0 q1 p5)), .second, .val (.int (f0_z1 p2 p4 p5)), .val (.int (f0_z2 q1 p3 p5)), .val (.int (f0_t3 p5)), .val (.int (f0_t4 p5)), .val (.int (f0_t5 p5)), .val (.int (f0_t6 p5)), .val (.int (((p5.toUInt32 >>> ((11 : Int32) &&& 31).toUInt32).toInt32) &&& (3 : Int32))), .val (.ref b7), .val (.ref b13), .unset] [(.int (f0_t6 p5)), (.int (f0_t5 p5))])) (fun _ k => XS.iload X18.here hx rfl (hb hby at_253) rfl k) ?_
                  by_cases hc38 : (f0_t5 p5) = (f0_t6 p5)
                  · refine go (B := T18.setTop (mkF m 258 #[.val (.long q0), .second, .val (.long q1), .second, .val (.int p2), .val (.int p3), .val (.int p4), .val (.int p5), .val (.long (q0 &&& (9223372036854775807 : Int64))), .second, .val (.long (f0_z0 q0 q1 p5)), .second, .val (.int (f0_z1 p2 p4 p5)), .val (.int (f0_z2 q1 p3 p5)), .val (.int (f0_t3 p5)), .val (.int (f0_t4 p5)), .val (.int (f0_t5 p5)), .val (.int (f0_t6 p5)), .val (.int (((p5.toUInt32 >>> ((11 : Int32) &&& 31).toUInt32).toInt32) &&& (3 : Int32))), .val (.ref b7), .val (.ref b13), .unset] [])) (fun _ k => XS.icmpNo X18.here hx rfl (hb hby at_255) rfl (teq hc38).2 k) ?_
                    refine go (B := T18.setTop (mkF m 259 #[.val (.long q0), .second, .val (.long q1), .second, .val (.int p2), .val (.int p3), .val (.int p4), .val (.int p5), .val (.long (q0 &&& (9223372036854775807 : Int64))), .second, .val (.long (f0_z0 q0 q1 p5)), .second, .val (.int (f0_z1 p2 p4 p5)), .val (.int (f0_z2 q1 p3 p5)), .val (.int (f0_t3 p5)), .val (.int (f0_t4 p5)), .val (.int (f0_t5 p5)), .val (.int (f0_t6 p5)), .val (.int (((p5.toUInt32 >>> ((11 : Int32) &&& 31).toUInt32).toInt32) &&& (3 : Int32))), .val (.ref b7), .val (.ref b13), .unset] [(.int (1 : Int32))])) (fun _ k => XS.iconst X18.here hx rfl (hb hby at_258) k) ?_
                    refine go (B := T18.setTop (mkF m 263 #[.val (.long q0), .second, .val (.long q1), .second, .val (.int p2), .val (.int p3), .val (.int p4), .val (.int p5), .val (.long (q0 &&& (9223372036854775807 : Int64))), .second, .val (.long (f0_z0 q0 q1 p5)), .second, .val (.int (f0_z1 p2 p4 p5)), .val (.int (f0_z2 q1 p3 p5)), .val (.int (f0_t3 p5)), .val (.int (f0_t4 p5)), .val (.int (f0_t5 p5)), .val (.int (f0_t6 p5)), .val (.int (((p5.toUInt32 >>> ((11 : Int32) &&& 31).toUInt32).toInt32) &&& (3 : Int32))), .val (.ref b7), .val (.ref b13), .unset] [(.int (1 : Int32))])) (fun _ k => XS.goto X18.here hx rfl (pc0 := 259) (pc' := 263) rfl (hb hby at_259) (by decide) (by decide) k) ?_
                    rw [show (f0_z8 q0 q1 p2 p3 p4 p5) = (1 : Int32) from by unfold f0_z8; rw [if_pos hc34, if_pos hc35, if_pos hc36, if_pos hc37, if_pos hc38]] at Kj33
                    exact Kj33 _ _ X18 N18 rfl
                  · refine go (B := T18.setTop (mkF m 262 #[.val (.long q0), .second, .val (.long q1), .second, .val (.int p2), .val (.int p3), .val (.int p4), .val (.int p5), .val (.long (q0 &&& (9223372036854775807 : Int64))), .second, .val (.long (f0_z0 q0 q1 p5)), .second, .val (.int (f0_z1 p2 p4 p5)), .val (.int (f0_z2 q1 p3 p5)), .val (.int (f0_t3 p5)), .val (.int (f0_t4 p5)), .val (.int (f0_t5 p5)), .val (.int (f0_t6 p5)), .val (.int (((p5.toUInt32 >>> ((11 : Int32) &&& 31).toUInt32).toInt32) &&& (3 : Int32))), .val (.ref b7), .val (.ref b13), .unset] [])) (fun _ k => XS.icmpYes X18.here hx rfl (pc0 := 255) (pc' := 262) rfl (hb hby at_255) rfl (feq hc38).2 (by decide) (by decide) k) ?_
                    refine go (B := T18.setTop (mkF m 263 #[.val (.long q0), .second, .val (.long q1), .second, .val (.int p2), .val (.int p3), .val (.int p4), .val (.int p5), .val (.long (q0 &&& (9223372036854775807 : Int64))), .second, .val (.long (f0_z0 q0 q1 p5)), .second, .val (.int (f0_z1 p2 p4 p5)), .val (.int (f0_z2 q1 p3 p5)), .val (.int (f0_t3 p5)), .val (.int (f0_t4 p5)), .val (.int (f0_t5 p5)), .val (.int (f0_t6 p5)), .val (.int (((p5.toUInt32 >>> ((11 : Int32) &&& 31).toUInt32).toInt32) &&& (3 : Int32))), .val (.ref b7), .val (.ref b13), .unset] [(.int (0 : Int32))])) (fun _ k => XS.iconst X18.here hx rfl (hb hby at_262) k) ?_
                    rw [show (f0_z8 q0 q1 p2 p3 p4 p5) = (0 : Int32) from by unfold f0_z8; rw [if_pos hc34, if_pos hc35, if_pos hc36, if_pos hc37, if_neg hc38]] at Kj33
                    exact Kj33 _ _ X18 N18 rfl
                · refine go (B := T18.setTop (mkF m 262 #[.val (.long q0), .second, .val (.long q1), .second, .val (.int p2), .val (.int p3), .val (.int p4), .val (.int p5), .val (.long (q0 &&& (9223372036854775807 : Int64))), .second, .val (.long (f0_z0 q0 q1 p5)), .second, .val (.int (f0_z1 p2 p4 p5)), .val (.int (f0_z2 q1 p3 p5)), .val (.int (f0_t3 p5)), .val (.int (f0_t4 p5)), .val (.int (f0_t5 p5)), .val (.int (f0_t6 p5)), .val (.int (((p5.toUInt32 >>> ((11 : Int32) &&& 31).toUInt32).toInt32) &&& (3 : Int32))), .val (.ref b7), .val (.ref b13), .unset] [])) (fun _ k => XS.icmpYes X18.here hx rfl (pc0 := 248) (pc' := 262) rfl (hb hby at_248) rfl (feq hc37).2 (by decide) (by decide) k) ?_
                  refine go (B := T18.setTop (mkF m 263 #[.val (.long q0), .second, .val (.long q1), .second, .val (.int p2), .val (.int p3), .val (.int p4), .val (.int p5), .val (.long (q0 &&& (9223372036854775807 : Int64))), .second, .val (.long (f0_z0 q0 q1 p5)), .second, .val (.int (f0_z1 p2 p4 p5)), .val (.int (f0_z2 q1 p3 p5)), .val (.int (f0_t3 p5)), .val (.int (f0_t4 p5)), .val (.int (f0_t5 p5)), .val (.int (f0_t6 p5)), .val (.int (((p5.toUInt32 >>> ((11 : Int32) &&& 31).toUInt32).toInt32) &&& (3 : Int32))), .val (.ref b7), .val (.ref b13), .unset] [(.int (0 : Int32))])) (fun _ k => XS.iconst X18.here hx rfl (hb hby at_262) k) ?_
                  rw [show (f0_z8 q0 q1 p2 p3 p4 p5) = (0 : Int32) from by unfold f0_z8; rw [if_pos hc34, if_pos hc35, if_pos hc36, if_neg hc37]] at Kj33
                  exact Kj33 _ _ X18 N18 rfl
              · refine go (B := T18.setTop (mkF m 262 #[.val (.long q0), .second, .val (.long q1), .second, .val (.int p2), .val (.int p3), .val (.int p4), .val (.int p5), .val (.long (q0 &&& (9223372036854775807 : Int64))), .second, .val (.long (f0_z0 q0 q1 p5)), .second, .val (.int (f0_z1 p2 p4 p5)), .val (.int (f0_z2 q1 p3 p5)), .val (.int (f0_t3 p5)), .val (.int (f0_t4 p5)), .val (.int (f0_t5 p5)), .val (.int (f0_t6 p5)), .val (.int (((p5.toUInt32 >>> ((11 : Int32) &&& 31).toUInt32).toInt32) &&& (3 : Int32))), .val (.ref b7), .val (.ref b13), .unset] [])) (fun _ k => XS.icmpYes X18.here hx rfl (pc0 := 241) (pc' := 262) rfl (hb hby at_241) rfl (feq hc36).2 (by decide) (by decide) k) ?_
                refine go (B := T18.setTop (mkF m 263 #[.val (.long q0), .second, .val (.long q1), .second, .val (.int p2), .val (.int p3), .val (.int p4), .val (.int p5), .val (.long (q0 &&& (9223372036854775807 : Int64))), .second, .val (.long (f0_z0 q0 q1 p5)), .second, .val (.int (f0_z1 p2 p4 p5)), .val (.int (f0_z2 q1 p3 p5)), .val (.int (f0_t3 p5)), .val (.int (f0_t4 p5)), .val (.int (f0_t5 p5)), .val (.int (f0_t6 p5)), .val (.int (((p5.toUInt32 >>> ((11 : Int32) &&& 31).toUInt32).toInt32) &&& (3 : Int32))), .val (.ref b7), .val (.ref b13), .unset] [(.int (0 : Int32))])) (fun _ k => XS.iconst X18.here hx rfl (hb hby at_262) k) ?_
                rw [show (f0_z8 q0 q1 p2 p3 p4 p5) = (0 : Int32) from by unfold f0_z8; rw [if_pos hc34, if_pos hc35, if_neg hc36]] at Kj33
                exact Kj33 _ _ X18 N18 rfl
            · refine go (B := T18.setTop (mkF m 262 #[.val (.long q0), .second, .val (.long q1), .second, .val (.int p2), .val (.int p3), .val (.int p4), .val (.int p5), .val (.long (q0 &&& (9223372036854775807 : Int64))), .second, .val (.long (f0_z0 q0 q1 p5)), .second, .val (.int (f0_z1 p2 p4 p5)), .val (.int (f0_z2 q1 p3 p5)), .val (.int (f0_t3 p5)), .val (.int (f0_t4 p5)), .val (.int (f0_t5 p5)), .val (.int (f0_t6 p5)), .val (.int (((p5.toUInt32 >>> ((11 : Int32) &&& 31).toUInt32).toInt32) &&& (3 : Int32))), .val (.ref b7), .val (.ref b13), .unset] [])) (fun _ k => XS.icmpYes X18.here hx rfl (pc0 := 234) (pc' := 262) rfl (hb hby at_234) rfl (feq hc35).2 (by decide) (by decide) k) ?_
              refine go (B := T18.setTop (mkF m 263 #[.val (.long q0), .second, .val (.long q1), .second, .val (.int p2), .val (.int p3), .val (.int p4), .val (.int p5), .val (.long (q0 &&& (9223372036854775807 : Int64))), .second, .val (.long (f0_z0 q0 q1 p5)), .second, .val (.int (f0_z1 p2 p4 p5)), .val (.int (f0_z2 q1 p3 p5)), .val (.int (f0_t3 p5)), .val (.int (f0_t4 p5)), .val (.int (f0_t5 p5)), .val (.int (f0_t6 p5)), .val (.int (((p5.toUInt32 >>> ((11 : Int32) &&& 31).toUInt32).toInt32) &&& (3 : Int32))), .val (.ref b7), .val (.ref b13), .unset] [(.int (0 : Int32))])) (fun _ k => XS.iconst X18.here hx rfl (hb hby at_262) k) ?_
              rw [show (f0_z8 q0 q1 p2 p3 p4 p5) = (0 : Int32) from by unfold f0_z8; rw [if_pos hc34, if_neg hc35]] at Kj33
              exact Kj33 _ _ X18 N18 rfl
          · refine go (B := T18.setTop (mkF m 262 #[.val (.long q0), .second, .val (.long q1), .second, .val (.int p2), .val (.int p3), .val (.int p4), .val (.int p5), .val (.long (q0 &&& (9223372036854775807 : Int64))), .second, .val (.long (f0_z0 q0 q1 p5)), .second, .val (.int (f0_z1 p2 p4 p5)), .val (.int (f0_z2 q1 p3 p5)), .val (.int (f0_t3 p5)), .val (.int (f0_t4 p5)), .val (.int (f0_t5 p5)), .val (.int (f0_t6 p5)), .val (.int (((p5.toUInt32 >>> ((11 : Int32) &&& 31).toUInt32).toInt32) &&& (3 : Int32))), .val (.ref b7), .val (.ref b13), .unset] [])) (fun _ k => XS.ifYes X18.here hx rfl (pc0 := 227) (pc' := 262) rfl (hb hby at_227) rfl ((if0 _ _).trans (feq hc34).2) (by decide) (by decide) k) ?_
            refine go (B := T18.setTop (mkF m 263 #[.val (.long q0), .second, .val (.long q1), .second, .val (.int p2), .val (.int p3), .val (.int p4), .val (.int p5), .val (.long (q0 &&& (9223372036854775807 : Int64))), .second, .val (.long (f0_z0 q0 q1 p5)), .second, .val (.int (f0_z1 p2 p4 p5)), .val (.int (f0_z2 q1 p3 p5)), .val (.int (f0_t3 p5)), .val (.int (f0_t4 p5)), .val (.int (f0_t5 p5)), .val (.int (f0_t6 p5)), .val (.int (((p5.toUInt32 >>> ((11 : Int32) &&& 31).toUInt32).toInt32) &&& (3 : Int32))), .val (.ref b7), .val (.ref b13), .unset] [(.int (0 : Int32))])) (fun _ k => XS.iconst X18.here hx rfl (hb hby at_262) k) ?_
            rw [show (f0_z8 q0 q1 p2 p3 p4 p5) = (0 : Int32) from by unfold f0_z8; rw [if_neg hc34]] at Kj33
            exact Kj33 _ _ X18 N18 rfl
        intro T33 L33 X33 N33 e33
        refine go (B := T33.setTop (mkF m 265 #[.val (.long q0), .second, .val (.long q1), .second, .val (.int p2), .val (.int p3), .val (.int p4), .val (.int p5), .val (.long (q0 &&& (9223372036854775807 : Int64))), .second, .val (.long (f0_z0 q0 q1 p5)), .second, .val (.int (f0_z1 p2 p4 p5)), .val (.int (f0_z2 q1 p3 p5)), .val (.int (f0_t3 p5)), .val (.int (f0_t4 p5)), .val (.int (f0_t5 p5)), .val (.int (f0_t6 p5)), .val (.int (((p5.toUInt32 >>> ((11 : Int32) &&& 31).toUInt32).toInt32) &&& (3 : Int32))), .val (.ref b7), .val (.ref b13), .val (.int (f0_z8 q0 q1 p2 p3 p4 p5))] [])) (fun _ k => XS.istore X33.here hx rfl (hb hby at_263) rfl (l' := #[.val (.long q0), .second, .val (.long q1), .second, .val (.int p2), .val (.int p3), .val (.int p4), .val (.int p5), .val (.long (q0 &&& (9223372036854775807 : Int64))), .second, .val (.long (f0_z0 q0 q1 p5)), .second, .val (.int (f0_z1 p2 p4 p5)), .val (.int (f0_z2 q1 p3 p5)), .val (.int (f0_t3 p5)), .val (.int (f0_t4 p5)), .val (.int (f0_t5 p5)), .val (.int (f0_t6 p5)), .val (.int (((p5.toUInt32 >>> ((11 : Int32) &&& 31).toUInt32).toInt32) &&& (3 : Int32))), .val (.ref b7), .val (.ref b13), .val (.int (f0_z8 q0 q1 p2 p3 p4 p5))]) rfl k) ?_
        refine go (B := T33.setTop (mkF m 267 #[.val (.long q0), .second, .val (.long q1), .second, .val (.int p2), .val (.int p3), .val (.int p4), .val (.int p5), .val (.long (q0 &&& (9223372036854775807 : Int64))), .second, .val (.long (f0_z0 q0 q1 p5)), .second, .val (.int (f0_z1 p2 p4 p5)), .val (.int (f0_z2 q1 p3 p5)), .val (.int (f0_t3 p5)), .val (.int (f0_t4 p5)), .val (.int (f0_t5 p5)), .val (.int (f0_t6 p5)), .val (.int (((p5.toUInt32 >>> ((11 : Int32) &&& 31).toUInt32).toInt32) &&& (3 : Int32))), .val (.ref b7), .val (.ref b13), .val (.int (f0_z8 q0 q1 p2 p3 p4 p5))] [(.ref b7)])) (fun _ k => XS.aload X33.here hx rfl (hb hby at_265) rfl rfl k) ?_
        refine go (B := T33.setTop (mkF m 269 #[.val (.long q0), .second, .val (.long q1), .second, .val (.int p2), .val (.int p3), .val (.int p4), .val (.int p5), .val (.long (q0 &&& (9223372036854775807 : Int64))), .second, .val (.long (f0_z0 q0 q1 p5)), .second, .val (.int (f0_z1 p2 p4 p5)), .val (.int (f0_z2 q1 p3 p5)), .val (.int (f0_t3 p5)), .val (.int (f0_t4 p5)), .val (.int (f0_t5 p5)), .val (.int (f0_t6 p5)), .val (.int (((p5.toUInt32 >>> ((11 : Int32) &&& 31).toUInt32).toInt32) &&& (3 : Int32))), .val (.ref b7), .val (.ref b13), .val (.int (f0_z8 q0 q1 p2 p3 p4 p5))] [(.ref b13), (.ref b7)])) (fun _ k => XS.aload X33.here hx rfl (hb hby at_267) rfl rfl k) ?_
        obtain ⟨cq39, kq39, q39a, q39b, q39c⟩ := isOf hZ e33 E_b7_18
        obtain ⟨_, _, ⟨T39, L39, k39, n39⟩, -, X39, ⟨Lc39, hQ39, l39, y39, z39⟩, st39⟩ := X33.virtualBack hx (y := (⟨"com/example/fenced_widget/fencedwidget/fence/TraceEvent", "equals", "(Ljava/lang/Object;)Z"⟩ : MethodName)) (z := (⟨"com/example/fenced_widget/fencedwidget/fence/TraceEvent", "equals", "(Ljava/lang/Object;)Z"⟩ : MethodName)) hown (mvT hZ (hw _ (List.mem_of_getElem? (i := 50) rfl))) (mvT hZ (hw _ (List.mem_of_getElem? (i := 51) rfl))) (notFace_of_selects (args := #[]) (mvT hZ (hw _ (List.mem_of_getElem? (i := 53) rfl)))) (mvT hZ (hw _ (List.mem_of_getElem? (i := 53) rfl))) (mvT hZ (hw _ (List.mem_of_getElem? (i := 52) rfl))) (by decide) (backOf (W := 0) (rm6t l Z aw hw [] b7 b13 (q0 &&& (9223372036854775807 : Int64)) (f0_z0 q0 q1 p5) (f1 (f0_t3 p5) w_MOVE w_PRESS w_RELEASE) (f1 (f0_t4 p5) w_MOVE w_PRESS w_RELEASE) p2 (f0_z1 p2 p4 p5) p3 (f0_z2 q1 p3 p5) (f2 (f0_t5 p5) w_LEFT w_RIGHT w_NONE) (f2 (f0_t6 p5) w_LEFT w_RIGHT w_NONE) T18.heap n0 Z18 O18 o18_0 F_timeMs_b7_18 o18_1 F_type_b7_18 o18_2 F_x_b7_18 o18_3 F_y_b7_18 o18_4 F_button_b7_18 o18_5) hZ (hw _ (List.mem_of_getElem? (i := 54) rfl)) (hw _ (List.mem_of_getElem? (i := 3) rfl)) (by decide) (by decide)) q39a q39c (g := (mkF m 269 #[.val (.long q0), .second, .val (.long q1), .second, .val (.int p2), .val (.int p3), .val (.int p4), .val (.int p5), .val (.long (q0 &&& (9223372036854775807 : Int64))), .second, .val (.long (f0_z0 q0 q1 p5)), .second, .val (.int (f0_z1 p2 p4 p5)), .val (.int (f0_z2 q1 p3 p5)), .val (.int (f0_t3 p5)), .val (.int (f0_t4 p5)), .val (.int (f0_t5 p5)), .val (.int (f0_t6 p5)), .val (.int (((p5.toUInt32 >>> ((11 : Int32) &&& 31).toUInt32).toInt32) &&& (3 : Int32))), .val (.ref b7), .val (.ref b13), .val (.int (f0_z8 q0 q1 p2 p3 p4 p5))] [(.ref b13), (.ref b7)])) rfl (by rw [hml]; rfl) (Steps.refl _) (argsL := [(.ref b13)]) (rest := []) (lenOf pd_6 rfl) rfl (by show 2 * 0 + _ ≤ _; exact Nat.le_of_eq rfl) (hb hby at_269) (fun _ _ => ⟨rfl, e33, (by decide : 10 + 0 ≤ _), (by decide : 106 + 0 ≤ _)⟩)
        dsimp only [Pt.U, Pt.locs, Pt.cells, Pt.slots] at X39 l39 y39 z39 st39 hQ39
        subst l39 y39 z39
        obtain ⟨rfl, rfl, e39⟩ := hQ39
        have N39 := Fr.app N33 (Fr.nil n0)
        refine go (B := T39.setTop (mkF m 272 #[.val (.long q0), .second, .val (.long q1), .second, .val (.int p2), .val (.int p3), .val (.int p4), .val (.int p5), .val (.long (q0 &&& (9223372036854775807 : Int64))), .second, .val (.long (f0_z0 q0 q1 p5)), .second, .val (.int (f0_z1 p2 p4 p5)), .val (.int (f0_z2 q1 p3 p5)), .val (.int (f0_t3 p5)), .val (.int (f0_t4 p5)), .val (.int (f0_t5 p5)), .val (.int (f0_t6 p5)), .val (.int (((p5.toUInt32 >>> ((11 : Int32) &&& 31).toUInt32).toInt32) &&& (3 : Int32))), .val (.ref b7), .val (.ref b13), .val (.int (f0_z8 q0 q1 p2 p3 p4 p5))] [(.int (f0_t9 q0 q1 p2 p3 p4 p5 w_MOVE w_PRESS w_RELEASE w_LEFT w_RIGHT w_NONE))])) (fun _ k => st39.trans k) ?_
        refine go (B := T39.setTop (mkF m 274 #[.val (.long q0), .second, .val (.long q1), .second, .val (.int p2), .val (.int p3), .val (.int p4), .val (.int p5), .val (.long (q0 &&& (9223372036854775807 : Int64))), .second, .val (.long (f0_z0 q0 q1 p5)), .second, .val (.int (f0_z1 p2 p4 p5)), .val (.int (f0_z2 q1 p3 p5)), .val (.int (f0_t3 p5)), .val (.int (f0_t4 p5)), .val (.int (f0_t5 p5)), .val (.int (f0_t6 p5)), .val (.int (((p5.toUInt32 >>> ((11 : Int32) &&& 31).toUInt32).toInt32) &&& (3 : Int32))), .val (.ref b7), .val (.ref b13), .val (.int (f0_z8 q0 q1 p2 p3 p4 p5))] [(.int (f0_z8 q0 q1 p2 p3 p4 p5)), (.int (f0_t9 q0 q1 p2 p3 p4 p5 w_MOVE w_PRESS w_RELEASE w_LEFT w_RIGHT w_NONE))])) (fun _ k => XS.iload X39.here hx rfl (hb hby at_272) rfl k) ?_
        by_cases hc40 : (f0_t9 q0 q1 p2 p3 p4 p5 w_MOVE w_PRESS w_RELEASE w_LEFT w_RIGHT w_NONE) = (f0_z8 q0 q1 p2 p3 p4 p5)
        · refine go (B := T39.setTop (mkF m 277 #[.val (.long q0), .second, .val (.long q1), .second, .val (.int p2), .val (.int p3), .val (.int p4), .val (.int p5), .val (.long (q0 &&& (9223372036854775807 : Int64))), .second, .val (.long (f0_z0 q0 q1 p5)), .second, .val (.int (f0_z1 p2 p4 p5)), .val (.int (f0_z2 q1 p3 p5)), .val (.int (f0_t3 p5)), .val (.int (f0_t4 p5)), .val (.int (f0_t5 p5)), .val (.int (f0_t6 p5)), .val (.int (((p5.toUInt32 >>> ((11 : Int32) &&& 31).toUInt32).toInt32) &&& (3 : Int32))), .val (.ref b7), .val (.ref b13), .val (.int (f0_z8 q0 q1 p2 p3 p4 p5))] [])) (fun _ k => XS.icmpNo X39.here hx rfl (hb hby at_274) rfl (teq hc40).2 k) ?_
          refine go (B := T39.setTop (mkF m 279 #[.val (.long q0), .second, .val (.long q1), .second, .val (.int p2), .val (.int p3), .val (.int p4), .val (.int p5), .val (.long (q0 &&& (9223372036854775807 : Int64))), .second, .val (.long (f0_z0 q0 q1 p5)), .second, .val (.int (f0_z1 p2 p4 p5)), .val (.int (f0_z2 q1 p3 p5)), .val (.int (f0_t3 p5)), .val (.int (f0_t4 p5)), .val (.int (f0_t5 p5)), .val (.int (f0_t6 p5)), .val (.int (((p5.toUInt32 >>> ((11 : Int32) &&& 31).toUInt32).toInt32) &&& (3 : Int32))), .val (.ref b7), .val (.ref b13), .val (.int (f0_z8 q0 q1 p2 p3 p4 p5))] [(.ref b13)])) (fun _ k => XS.aload X39.here hx rfl (hb hby at_277) rfl rfl k) ?_
          refine go (B := T39.setTop (mkF m 281 #[.val (.long q0), .second, .val (.long q1), .second, .val (.int p2), .val (.int p3), .val (.int p4), .val (.int p5), .val (.long (q0 &&& (9223372036854775807 : Int64))), .second, .val (.long (f0_z0 q0 q1 p5)), .second, .val (.int (f0_z1 p2 p4 p5)), .val (.int (f0_z2 q1 p3 p5)), .val (.int (f0_t3 p5)), .val (.int (f0_t4 p5)), .val (.int (f0_t5 p5)), .val (.int (f0_t6 p5)), .val (.int (((p5.toUInt32 >>> ((11 : Int32) &&& 31).toUInt32).toInt32) &&& (3 : Int32))), .val (.ref b7), .val (.ref b13), .val (.int (f0_z8 q0 q1 p2 p3 p4 p5))] [(.ref b7), (.ref b13)])) (fun _ k => XS.aload X39.here hx rfl (hb hby at_279) rfl rfl k) ?_
          obtain ⟨cq41, kq41, q41a, q41b, q41c⟩ := isOf hZ e39 o18_0
          obtain ⟨_, _, ⟨T41, L41, k41, n41⟩, -, X41, ⟨Lc41, hQ41, l41, y41, z41⟩, st41⟩ := X39.virtualBack hx (y := (⟨"com/example/fenced_widget/fencedwidget/fence/TraceEvent", "equals", "(Ljava/lang/Object;)Z"⟩ : MethodName)) (z := (⟨"com/example/fenced_widget/fencedwidget/fence/TraceEvent", "equals", "(Ljava/lang/Object;)Z"⟩ : MethodName)) hown (mvT hZ (hw _ (List.mem_of_getElem? (i := 50) rfl))) (mvT hZ (hw _ (List.mem_of_getElem? (i := 51) rfl))) (notFace_of_selects (args := #[]) (mvT hZ (hw _ (List.mem_of_getElem? (i := 53) rfl)))) (mvT hZ (hw _ (List.mem_of_getElem? (i := 53) rfl))) (mvT hZ (hw _ (List.mem_of_getElem? (i := 52) rfl))) (by decide) (backOf (W := 0) (rm6t l Z aw hw [] b13 b7 (f0_z0 q0 q1 p5) (q0 &&& (9223372036854775807 : Int64)) (f1 (f0_t4 p5) w_MOVE w_PRESS w_RELEASE) (f1 (f0_t3 p5) w_MOVE w_PRESS w_RELEASE) (f0_z1 p2 p4 p5) p2 (f0_z2 q1 p3 p5) p3 (f2 (f0_t6 p5) w_LEFT w_RIGHT w_NONE) (f2 (f0_t5 p5) w_LEFT w_RIGHT w_NONE) T18.heap n0 Z18 O18 E_b7_18 o18_1 F_timeMs_b7_18 o18_2 F_type_b7_18 o18_3 F_x_b7_18 o18_4 F_y_b7_18 o18_5 F_button_b7_18) hZ (hw _ (List.mem_of_getElem? (i := 54) rfl)) (hw _ (List.mem_of_getElem? (i := 3) rfl)) (by decide) (by decide)) q41a q41c (g := (mkF m 281 #[.val (.long q0), .second, .val (.long q1), .second, .val (.int p2), .val (.int p3), .val (.int p4), .val (.int p5), .val (.long (q0 &&& (9223372036854775807 : Int64))), .second, .val (.long (f0_z0 q0 q1 p5)), .second, .val (.int (f0_z1 p2 p4 p5)), .val (.int (f0_z2 q1 p3 p5)), .val (.int (f0_t3 p5)), .val (.int (f0_t4 p5)), .val (.int (f0_t5 p5)), .val (.int (f0_t6 p5)), .val (.int (((p5.toUInt32 >>> ((11 : Int32) &&& 31).toUInt32).toInt32) &&& (3 : Int32))), .val (.ref b7), .val (.ref b13), .val (.int (f0_z8 q0 q1 p2 p3 p4 p5))] [(.ref b7), (.ref b13)])) rfl (by rw [hml]; rfl) (Steps.refl _) (argsL := [(.ref b7)]) (rest := []) (lenOf pd_6 rfl) rfl (by show 2 * 0 + _ ≤ _; exact Nat.le_of_eq rfl) (hb hby at_281) (fun _ _ => ⟨rfl, e39, (by decide : 10 + 0 ≤ _), (by decide : 106 + 0 ≤ _)⟩)
          dsimp only [Pt.U, Pt.locs, Pt.cells, Pt.slots] at X41 l41 y41 z41 st41 hQ41
          subst l41 y41 z41
          obtain ⟨rfl, rfl, e41⟩ := hQ41
          have N41 := Fr.app N39 (Fr.nil n0)
          refine go (B := T41.setTop (mkF m 284 #[.val (.long q0), .second, .val (.long q1), .second, .val (.int p2), .val (.int p3), .val (.int p4), .val (.int p5), .val (.long (q0 &&& (9223372036854775807 : Int64))), .second, .val (.long (f0_z0 q0 q1 p5)), .second, .val (.int (f0_z1 p2 p4 p5)), .val (.int (f0_z2 q1 p3 p5)), .val (.int (f0_t3 p5)), .val (.int (f0_t4 p5)), .val (.int (f0_t5 p5)), .val (.int (f0_t6 p5)), .val (.int (((p5.toUInt32 >>> ((11 : Int32) &&& 31).toUInt32).toInt32) &&& (3 : Int32))), .val (.ref b7), .val (.ref b13), .val (.int (f0_z8 q0 q1 p2 p3 p4 p5))] [(.int (f0_t10 q0 q1 p2 p3 p4 p5 w_MOVE w_PRESS w_RELEASE w_LEFT w_RIGHT w_NONE))])) (fun _ k => st41.trans k) ?_
          refine go (B := T41.setTop (mkF m 286 #[.val (.long q0), .second, .val (.long q1), .second, .val (.int p2), .val (.int p3), .val (.int p4), .val (.int p5), .val (.long (q0 &&& (9223372036854775807 : Int64))), .second, .val (.long (f0_z0 q0 q1 p5)), .second, .val (.int (f0_z1 p2 p4 p5)), .val (.int (f0_z2 q1 p3 p5)), .val (.int (f0_t3 p5)), .val (.int (f0_t4 p5)), .val (.int (f0_t5 p5)), .val (.int (f0_t6 p5)), .val (.int (((p5.toUInt32 >>> ((11 : Int32) &&& 31).toUInt32).toInt32) &&& (3 : Int32))), .val (.ref b7), .val (.ref b13), .val (.int (f0_z8 q0 q1 p2 p3 p4 p5))] [(.int (f0_z8 q0 q1 p2 p3 p4 p5)), (.int (f0_t10 q0 q1 p2 p3 p4 p5 w_MOVE w_PRESS w_RELEASE w_LEFT w_RIGHT w_NONE))])) (fun _ k => XS.iload X41.here hx rfl (hb hby at_284) rfl k) ?_
          by_cases hc42 : (f0_t10 q0 q1 p2 p3 p4 p5 w_MOVE w_PRESS w_RELEASE w_LEFT w_RIGHT w_NONE) = (f0_z8 q0 q1 p2 p3 p4 p5)
          · refine go (B := T41.setTop (mkF m 289 #[.val (.long q0), .second, .val (.long q1), .second, .val (.int p2), .val (.int p3), .val (.int p4), .val (.int p5), .val (.long (q0 &&& (9223372036854775807 : Int64))), .second, .val (.long (f0_z0 q0 q1 p5)), .second, .val (.int (f0_z1 p2 p4 p5)), .val (.int (f0_z2 q1 p3 p5)), .val (.int (f0_t3 p5)), .val (.int (f0_t4 p5)), .val (.int (f0_t5 p5)), .val (.int (f0_t6 p5)), .val (.int (((p5.toUInt32 >>> ((11 : Int32) &&& 31).toUInt32).toInt32) &&& (3 : Int32))), .val (.ref b7), .val (.ref b13), .val (.int (f0_z8 q0 q1 p2 p3 p4 p5))] [])) (fun _ k => XS.icmpNo X41.here hx rfl (hb hby at_286) rfl (teq hc42).2 k) ?_
            refine go (B := T41.setTop (mkF m 290 #[.val (.long q0), .second, .val (.long q1), .second, .val (.int p2), .val (.int p3), .val (.int p4), .val (.int p5), .val (.long (q0 &&& (9223372036854775807 : Int64))), .second, .val (.long (f0_z0 q0 q1 p5)), .second, .val (.int (f0_z1 p2 p4 p5)), .val (.int (f0_z2 q1 p3 p5)), .val (.int (f0_t3 p5)), .val (.int (f0_t4 p5)), .val (.int (f0_t5 p5)), .val (.int (f0_t6 p5)), .val (.int (((p5.toUInt32 >>> ((11 : Int32) &&& 31).toUInt32).toInt32) &&& (3 : Int32))), .val (.ref b7), .val (.ref b13), .val (.int (f0_z8 q0 q1 p2 p3 p4 p5))] [(.int (1 : Int32))])) (fun _ k => XS.iconst X41.here hx rfl (hb hby at_289) k) ?_
            refine go (B := T41.setTop (mkF m 294 #[.val (.long q0), .second, .val (.long q1), .second, .val (.int p2), .val (.int p3), .val (.int p4), .val (.int p5), .val (.long (q0 &&& (9223372036854775807 : Int64))), .second, .val (.long (f0_z0 q0 q1 p5)), .second, .val (.int (f0_z1 p2 p4 p5)), .val (.int (f0_z2 q1 p3 p5)), .val (.int (f0_t3 p5)), .val (.int (f0_t4 p5)), .val (.int (f0_t5 p5)), .val (.int (f0_t6 p5)), .val (.int (((p5.toUInt32 >>> ((11 : Int32) &&& 31).toUInt32).toInt32) &&& (3 : Int32))), .val (.ref b7), .val (.ref b13), .val (.int (f0_z8 q0 q1 p2 p3 p4 p5))] [(.int (1 : Int32))])) (fun _ k => XS.goto X41.here hx rfl (pc0 := 290) (pc' := 294) rfl (hb hby at_290) (by decide) (by decide) k) ?_
            have r43 : (f0 q0 q1 p2 p3 p4 p5 w_MOVE w_PRESS w_RELEASE w_LEFT w_RIGHT w_NONE) = (1 : Int32) := by unfold f0; rw [if_neg hc19, if_neg hc24, if_neg hc30, if_pos hc40, if_pos hc42]
            exact end_narW X41 S18 SKw18 hx Bd.notSynchronized (t := .boolean) Bd.returns (by simp) (hb hby at_294) hF e41 (by decide) (by decide) ⟨(congrArg (fun z => some (Value.int z)) (r43.symm.trans (own_law q0 q1 p2 p3 p4 p5 w_MOVE w_PRESS w_RELEASE w_LEFT w_RIGHT w_NONE ne_w_MOVE_w_PRESS ne_w_MOVE_w_RELEASE ne_w_PRESS_w_RELEASE ne_w_LEFT_w_RIGHT ne_w_LEFT_w_NONE ne_w_RIGHT_w_NONE))), N41⟩
          · refine go (B := T41.setTop (mkF m 293 #[.val (.long q0), .second, .val (.long q1), .second, .val (.int p2), .val (.int p3), .val (.int p4), .val (.int p5), .val (.long (q0 &&& (9223372036854775807 : Int64))), .second, .val (.long (f0_z0 q0 q1 p5)), .second, .val (.int (f0_z1 p2 p4 p5)), .val (.int (f0_z2 q1 p3 p5)), .val (.int (f0_t3 p5)), .val (.int (f0_t4 p5)), .val (.int (f0_t5 p5)), .val (.int (f0_t6 p5)), .val (.int (((p5.toUInt32 >>> ((11 : Int32) &&& 31).toUInt32).toInt32) &&& (3 : Int32))), .val (.ref b7), .val (.ref b13), .val (.int (f0_z8 q0 q1 p2 p3 p4 p5))] [])) (fun _ k => XS.icmpYes X41.here hx rfl (pc0 := 286) (pc' := 293) rfl (hb hby at_286) rfl (feq hc42).2 (by decide) (by decide) k) ?_
            refine go (B := T41.setTop (mkF m 294 #[.val (.long q0), .second, .val (.long q1), .second, .val (.int p2), .val (.int p3), .val (.int p4), .val (.int p5), .val (.long (q0 &&& (9223372036854775807 : Int64))), .second, .val (.long (f0_z0 q0 q1 p5)), .second, .val (.int (f0_z1 p2 p4 p5)), .val (.int (f0_z2 q1 p3 p5)), .val (.int (f0_t3 p5)), .val (.int (f0_t4 p5)), .val (.int (f0_t5 p5)), .val (.int (f0_t6 p5)), .val (.int (((p5.toUInt32 >>> ((11 : Int32) &&& 31).toUInt32).toInt32) &&& (3 : Int32))), .val (.ref b7), .val (.ref b13), .val (.int (f0_z8 q0 q1 p2 p3 p4 p5))] [(.int (0 : Int32))])) (fun _ k => XS.iconst X41.here hx rfl (hb hby at_293) k) ?_
            have r44 : (f0 q0 q1 p2 p3 p4 p5 w_MOVE w_PRESS w_RELEASE w_LEFT w_RIGHT w_NONE) = (0 : Int32) := by unfold f0; rw [if_neg hc19, if_neg hc24, if_neg hc30, if_pos hc40, if_neg hc42]
            exact end_narW X41 S18 SKw18 hx Bd.notSynchronized (t := .boolean) Bd.returns (by simp) (hb hby at_294) hF e41 (by decide) (by decide) ⟨(congrArg (fun z => some (Value.int z)) (r44.symm.trans (own_law q0 q1 p2 p3 p4 p5 w_MOVE w_PRESS w_RELEASE w_LEFT w_RIGHT w_NONE ne_w_MOVE_w_PRESS ne_w_MOVE_w_RELEASE ne_w_PRESS_w_RELEASE ne_w_LEFT_w_RIGHT ne_w_LEFT_w_NONE ne_w_RIGHT_w_NONE))), N41⟩
        · refine go (B := T39.setTop (mkF m 293 #[.val (.long q0), .second, .val (.long q1), .second, .val (.int p2), .val (.int p3), .val (.int p4), .val (.int p5), .val (.long (q0 &&& (9223372036854775807 : Int64))), .second, .val (.long (f0_z0 q0 q1 p5)), .second, .val (.int (f0_z1 p2 p4 p5)), .val (.int (f0_z2 q1 p3 p5)), .val (.int (f0_t3 p5)), .val (.int (f0_t4 p5)), .val (.int (f0_t5 p5)), .val (.int (f0_t6 p5)), .val (.int (((p5.toUInt32 >>> ((11 : Int32) &&& 31).toUInt32).toInt32) &&& (3 : Int32))), .val (.ref b7), .val (.ref b13), .val (.int (f0_z8 q0 q1 p2 p3 p4 p5))] [])) (fun _ k => XS.icmpYes X39.here hx rfl (pc0 := 274) (pc' := 293) rfl (hb hby at_274) rfl (feq hc40).2 (by decide) (by decide) k) ?_
          refine go (B := T39.setTop (mkF m 294 #[.val (.long q0), .second, .val (.long q1), .second, .val (.int p2), .val (.int p3), .val (.int p4), .val (.int p5), .val (.long (q0 &&& (9223372036854775807 : Int64))), .second, .val (.long (f0_z0 q0 q1 p5)), .second, .val (.int (f0_z1 p2 p4 p5)), .val (.int (f0_z2 q1 p3 p5)), .val (.int (f0_t3 p5)), .val (.int (f0_t4 p5)), .val (.int (f0_t5 p5)), .val (.int (f0_t6 p5)), .val (.int (((p5.toUInt32 >>> ((11 : Int32) &&& 31).toUInt32).toInt32) &&& (3 : Int32))), .val (.ref b7), .val (.ref b13), .val (.int (f0_z8 q0 q1 p2 p3 p4 p5))] [(.int (0 : Int32))])) (fun _ k => XS.iconst X39.here hx rfl (hb hby at_293) k) ?_
          have r45 : (f0 q0 q1 p2 p3 p4 p5 w_MOVE w_PRESS w_RELEASE w_LEFT w_RIGHT w_NONE) = (0 : Int32) := by unfold f0; rw [if_neg hc19, if_neg hc24, if_neg hc30, if_neg hc40]
          exact end_narW X39 S18 SKw18 hx Bd.notSynchronized (t := .boolean) Bd.returns (by simp) (hb hby at_294) hF e39 (by decide) (by decide) ⟨(congrArg (fun z => some (Value.int z)) (r45.symm.trans (own_law q0 q1 p2 p3 p4 p5 w_MOVE w_PRESS w_RELEASE w_LEFT w_RIGHT w_NONE ne_w_MOVE_w_PRESS ne_w_MOVE_w_RELEASE ne_w_PRESS_w_RELEASE ne_w_LEFT_w_RIGHT ne_w_LEFT_w_NONE ne_w_RIGHT_w_NONE))), N39⟩
set_option maxRecDepth 65536 in
set_option maxHeartbeats 40000000 in
theorem comes_1 {Post : Tables → Env → Array Value → State → Outcome → State → Prop} (hpost : ∀ tb e args s v u, (limb_1_1.after args s (.returned v) u = true ∧ limb_1_2.after args s (.returned v) u = true ∧ True) → FramedW s (.returned v) u (Jvm.fieldLocs frame_1_writes args s ++ Jvm.arrayLocs frame_1_arrays args s ++ Jvm.staticLocs frame_1_statics s) 24 2176 → Post tb e args s (.returned v) u) :
    ArmFor flags0 classFile x code maxLocals ret World_1 tables_1 room_1 Calls_1 rest_1 Pre_1 Post := by
  intro l hfl _ _ p e ha hc hk s m args below hf hA hF happ hP
  obtain ⟨hcalls, hrest, hpre⟩ := hP
  obtain ⟨-, -, -, hnamed, -, -, -, hat⟩ := (Spec.applies_iff hf).mp happ
  obtain ⟨hg, hn⟩ := and_e (Cond.before_iff.mp (show (Jvm.Cond.and given_1 narrow_1).before args s = true from hpre))
  obtain ⟨gg1, gg2⟩ := and_e hg
  obtain ⟨gg3, gg4⟩ := and_e gg2
  obtain ⟨gg5, gg6⟩ := and_e gg4
  obtain ⟨gg7, gg8⟩ := and_e gg6
  obtain ⟨gg9, gg10⟩ := and_e gg8
  obtain ⟨gg11, gg12⟩ := and_e gg10
  obtain ⟨w0, w1, w2, w3, w4, w5, rfl⟩ : ∃ w0 w1 w2 w3 w4 w5 : Value, args = #[w0, w1, w2, w3, w4, w5] := by
    have hs : args.size = 6 := by simpa [Cond.value, given_1] using gg1
    obtain ⟨L⟩ := args
    match L, hs with
    | [w0, w1, w2, w3, w4, w5], _ => exact ⟨w0, w1, w2, w3, w4, w5, rfl⟩
  have hw := fun d (hd : d ∈ tables_1) => atoms_spec (ws := Jvm.Cond.code x code maxLocals ret :: tables_1) hat d (List.mem_cons_of_mem _ hd)
  have hfit : Fit s := fun {y c} hc i hi => by
    obtain ⟨ha, rfl⟩ := Array.getElem?_eq_some_iff.mp hc
    have q := List.all_eq_true.mp ((Array.all_eq_true_iff_forall_mem.mp hF) _ (Array.getElem_mem ha)) i (List.mem_range.mpr hi)
    simpa [Array.getElem?_eq_getElem hi] using q
  obtain ⟨hsets, hown0⟩ := atoms_of _ (rest_1_c_eq ▸ (show rest_1_c.before _ s = true from hrest))
  have hr0 := Cond.before_iff.mp hown0
  obtain ⟨i0, ei0⟩ := isL_v gg3
  obtain rfl : w0 = (.long i0) := Option.some.inj ei0
  obtain ⟨i1, ei1⟩ := isL_v gg5
  obtain rfl : w1 = (.long i1) := Option.some.inj ei1
  obtain ⟨i2, ei2⟩ := is_v gg7
  obtain rfl : w2 = (.int i2) := Option.some.inj ei2
  obtain ⟨i3, ei3⟩ := is_v gg9
  obtain rfl : w3 = (.int i3) := Option.some.inj ei3
  obtain ⟨i4, ei4⟩ := is_v gg11
  obtain rfl : w4 = (.int i4) := Option.some.inj ei4
  obtain ⟨i5, ei5⟩ := is_v gg12
  obtain rfl : w5 = (.int i5) := Option.some.inj ei5
  obtain ⟨nn1, nn2⟩ := and_e hn
  obtain ⟨nn3, nn4⟩ := and_e nn2
  obtain ⟨nn5, nn6⟩ := and_e nn4
  obtain ⟨nn7, nn8⟩ := and_e nn6
  obtain ⟨nn9, nn10⟩ := and_e nn8
  obtain ⟨nn11, nn12⟩ := and_e nn10
  obtain ⟨nn13, nn14⟩ := and_e nn12
  obtain ⟨nn15, nn16⟩ := and_e nn14
  obtain ⟨nn17, nn18⟩ := and_e nn16
  obtain ⟨nn19, nn20⟩ := and_e nn18
  obtain ⟨nn21, nn22⟩ := and_e nn20
  obtain ⟨w_MOVE, evw_MOVE⟩ := exa_v nn1
  have E_w_MOVE := Exa.start evw_MOVE nn1
  have S_MOVE : Sta s s.heap "com/example/fenced_widget/fencedwidget/protocol/InputType" "MOVE" "Lcom/example/fenced_widget/fencedwidget/protocol/InputType;" (.ref w_MOVE) := Sta.start evw_MOVE (Or.inr ⟨(hw _ (List.mem_of_getElem? (i := 9) rfl)), (hw _ (List.mem_of_getElem? (i := 10) rfl))⟩)
  have O_w_MOVE := own_fld evw_MOVE nn9
  obtain ⟨w_PRESS, evw_PRESS⟩ := exa_v nn5
  have E_w_PRESS := Exa.start evw_PRESS nn5
  have S_PRESS : Sta s s.heap "com/example/fenced_widget/fencedwidget/protocol/InputType" "PRESS" "Lcom/example/fenced_widget/fencedwidget/protocol/InputType;" (.ref w_PRESS) := Sta.start evw_PRESS (Or.inr ⟨(hw _ (List.mem_of_getElem? (i := 9) rfl)), (hw _ (List.mem_of_getElem? (i := 58) rfl))⟩)
  have O_w_PRESS := own_fld evw_PRESS nn7
  obtain ⟨w_RELEASE, evw_RELEASE⟩ := exa_v nn13
  have E_w_RELEASE := Exa.start evw_RELEASE nn13
  have S_RELEASE : Sta s s.heap "com/example/fenced_widget/fencedwidget/protocol/InputType" "RELEASE" "Lcom/example/fenced_widget/fencedwidget/protocol/InputType;" (.ref w_RELEASE) := Sta.start evw_RELEASE (Or.inr ⟨(hw _ (List.mem_of_getElem? (i := 9) rfl)), (hw _ (List.mem_of_getElem? (i := 62) rfl))⟩)
  have O_w_RELEASE := own_fld evw_RELEASE nn15
  have ne_w_MOVE_w_PRESS : w_MOVE ≠ w_PRESS := Fld.ne O_w_MOVE O_w_PRESS (by decide)
  have ne_w_MOVE_w_RELEASE : w_MOVE ≠ w_RELEASE := Fld.ne O_w_MOVE O_w_RELEASE (by decide)
  have ne_w_PRESS_w_RELEASE : w_PRESS ≠ w_RELEASE := Fld.ne O_w_PRESS O_w_RELEASE (by decide)
  obtain ⟨w_LEFT, evw_LEFT⟩ := exa_v nn3
  have E_w_LEFT := Exa.start evw_LEFT nn3
  have S_LEFT : Sta s s.heap "com/example/fenced_widget/fencedwidget/protocol/Button" "LEFT" "Lcom/example/fenced_widget/fencedwidget/protocol/Button;" (.ref w_LEFT) := Sta.start evw_LEFT (Or.inr ⟨(hw _ (List.mem_of_getElem? (i := 15) rfl)), (hw _ (List.mem_of_getElem? (i := 16) rfl))⟩)
  have O_w_LEFT := own_fld evw_LEFT nn21
  obtain ⟨w_RIGHT, evw_RIGHT⟩ := exa_v nn11
  have E_w_RIGHT := Exa.start evw_RIGHT nn11
  have S_RIGHT : Sta s s.heap "com/example/fenced_widget/fencedwidget/protocol/Button" "RIGHT" "Lcom/example/fenced_widget/fencedwidget/protocol/Button;" (.ref w_RIGHT) := Sta.start evw_RIGHT (Or.inr ⟨(hw _ (List.mem_of_getElem? (i := 15) rfl)), (hw _ (List.mem_of_getElem? (i := 60) rfl))⟩)
  have O_w_RIGHT := own_fld evw_RIGHT nn19
  obtain ⟨w_NONE, evw_NONE⟩ := exa_v nn17
  have E_w_NONE := Exa.start evw_NONE nn17
  have S_NONE : Sta s s.heap "com/example/fenced_widget/fencedwidget/protocol/Button" "NONE" "Lcom/example/fenced_widget/fencedwidget/protocol/Button;" (.ref w_NONE) := Sta.start evw_NONE (Or.inr ⟨(hw _ (List.mem_of_getElem? (i := 15) rfl)), (hw _ (List.mem_of_getElem? (i := 64) rfl))⟩)
  have O_w_NONE := own_fld evw_NONE nn22
  have ne_w_LEFT_w_RIGHT : w_LEFT ≠ w_RIGHT := Fld.ne O_w_LEFT O_w_RIGHT (by decide)
  have ne_w_LEFT_w_NONE : w_LEFT ≠ w_NONE := Fld.ne O_w_LEFT O_w_NONE (by decide)
  have ne_w_RIGHT_w_NONE : w_RIGHT ≠ w_NONE := Fld.ne O_w_RIGHT O_w_NONE (by decide)
  have O0 := Old.start s
  obtain ⟨w_cache, ev_cache⟩ := exa_v (Cond.before_iff.mp (hsets _ (List.mem_of_getElem? (i := 3) rfl)))
  have S_cache : Sta s s.heap "java/lang/Long$LongCache" "cache" "[Ljava/lang/Long;" (.ref w_cache) := Sta.start ev_cache (Or.inr ⟨(hw _ (List.mem_of_getElem? (i := 90) rfl)), (hsets _ (List.mem_of_getElem? (i := 0) rfl))⟩)
  obtain ⟨cl_w_cache, A_cache⟩ := Arr.start ev_cache (Cond.before_iff.mp (hsets _ (List.mem_of_getElem? (i := 2) rfl)))
  have B_w_cache := own_bxs (fun _ => ev_cache) A_cache (Cond.before_iff.mp (hsets _ (List.mem_of_getElem? (i := 4) rfl))) (Cond.before_iff.mp (hsets _ (List.mem_of_getElem? (i := 5) rfl)))
  obtain ⟨n, o, h1, h2, h3, _, L, rfl, ⟨rfl, N⟩, hq⟩ := rm0 l s _ hw tables_1 i0 i1 i2 i3 i4 i5 w_cache cl_w_cache w_MOVE w_PRESS w_RELEASE w_LEFT w_RIGHT w_NONE s.heap s.heap.size (Nat.le_refl _) O0 S_cache B_w_cache S_MOVE E_w_MOVE S_PRESS E_w_PRESS S_RELEASE E_w_RELEASE ne_w_MOVE_w_PRESS ne_w_MOVE_w_RELEASE ne_w_PRESS_w_RELEASE S_LEFT E_w_LEFT S_RIGHT E_w_RIGHT S_NONE E_w_NONE ne_w_LEFT_w_RIGHT ne_w_LEFT_w_NONE ne_w_RIGHT_w_NONE p e ha hc hk s m _ below hf ((Spec.applies_iff_loose hf).mp happ).1 ⟨rfl, State.Warmed39.refl s, rfl⟩ trivial
  refine ⟨n, _, h1, h2, h3, hpost _ _ _ _ _ _ ⟨Cond.after_iff.mpr rfl, Cond.after_iff.mpr (eq_i res_at (Term.int_eval (1)) rfl), trivial⟩ ⟨hq.1, hq.2.1, hq.2.2.1, (hq.2.2.2.sift fun y hy => Or.inr (N y hy)).mono (by decide) (by decide)⟩⟩
theorem main_1_1 : Claimed_1_1 := comes_1 fun _ _ _ _ _ _ h hF => ⟨h.1, hF⟩
theorem main_1_2 : Claimed_1_2 := comes_1 fun _ _ _ _ _ _ h hF => ⟨h.2.1, hF⟩
end Jvm.Pilot.@@N@@
namespace Jvm.Pilot.@@N@@
open Jvm Jvm.ClassFile Sem Op Lib Jvm.Free Jvm.Stand Jvm.Pilot.@@N@@.Jvm.D
/-! MADE BY PROGRAM (witnessworld.py) out of the Statement's table words and the real class files: 22 classes; the members and pool entries that the words name. The judged class is class 1, her method 3. -/
namespace start1
open Jvm.ClassFile
def u (s : String) : CpInfo := .utf8 (stringToUtf16 s)
/-- a pool by its gaps: so many unusable entries, then the entry; so many at the end -/
def gap : Nat → List CpInfo → List CpInfo
  | 0, r => r
  | n + 1, r => .unusable :: gap n r
def poolList (es : List (Nat × CpInfo)) (last : Nat) : List CpInfo := es.foldr (fun e r => gap e.1 (e.2 :: r)) (gap last [])
def pool (es : List (Nat × CpInfo)) (last : Nat) : Array CpInfo := ⟨poolList es last⟩
def fileOf (pool : Array CpInfo) (this : Nat) (attrs : Array Attribute := #[]) (ms : Array MethodInfo := #[]) (fl : Nat := 33) (sup : Nat := 0) (ifs : Array Nat := #[]) (fds : Array FieldInfo := #[]) : ClassFile where
  minorVersion := 0
  majorVersion := 65
  constantPool := pool
  accessFlags := fl
  thisClass := this
  superClass := sup
  interfaces := ifs
  fields := fds
  methods := ms
  attributes := attrs
def plain (name : String) (sup : Option ClassId) : Class where
  name := name
  kind := .ordinary
  loader := none
  accessFlags := 33
  super := sup
  interfaces := #[]
  cf := none
  fields := #[]
  methods := #[]
  instanceTypes := #[]
  staticTypes := #[]
  resolved := #[]
  callSites := []
  init := .initialized
  statics := none
  mirror := none

def pool0 : Array CpInfo := pool [(5, u "<init>"), (0, u "()V"), (1, .class_ 10), (1, u "java/lang/Object")] 113

def k0c0 : Code := { maxStack := 0, maxLocals := 1, code := object_method_1_code, exceptionTable := #[], attributes := #[] }
def k0m0 : Method := { name := "<init>", desc := "()V", sig := { parameters := [], returnType := none }, accessFlags := 1, code := some k0c0 }
/-- java/lang/Object -/
def k0 : Class := { plain "java/lang/Object" none with
  accessFlags := 33
  interfaces := #[]
  cf := some (fileOf pool0 8 #[] #[{ accessFlags := 1, nameIndex := 5, descriptorIndex := 6, attributes := #[] }] 33 0 #[] #[])
  fields := #[]
  methods := #[k0m0]
  instanceTypes := #[]
  staticTypes := #[]
  resolved := Array.replicate 124 none
  statics := none }

def pool1 : Array CpInfo := pool [(2, .class_ 4), (1, u "java/lang/Object"), (0, u "<init>"), (0, u "()V"), (0, .fieldref 8 9), (0, .class_ 10), (0, .nameAndType 11 12), (0, u "com/example/fenced_widget/fencedwidget/protocol/InputType"), (0, u "MOVE"), (0, u "Lcom/example/fenced_widget/fencedwidget/protocol/InputType;"), (0, .fieldref 8 14), (0, .nameAndType 15 12), (0, u "PRESS"), (0, .fieldref 8 17), (0, .nameAndType 18 12), (0, u "RELEASE"), (0, .fieldref 20 21), (0, .class_ 22), (0, .nameAndType 23 24), (0, u "com/example/fenced_widget/fencedwidget/protocol/Button"), (0, u "LEFT"), (0, u "Lcom/example/fenced_widget/fencedwidget/protocol/Button;"), (0, .fieldref 20 26), (0, .nameAndType 27 24), (0, u "RIGHT"), (0, .fieldref 20 29), (0, .nameAndType 30 24), (0, u "NONE"), (0, .class_ 32), (0, u "java/lang/Long"), (0, .long 9223372036854775807), (1, .class_ 36), (0, u "com/example/fenced_widget/fencedwidget/fence/TraceEvent"), (0, .methodref 38 39), (0, .class_ 40), (0, .nameAndType 41 42), (0, u "com/example/fenced_widget/fencedwidget/fence/TraceEventEqualsPinLaw"), (0, u "type"), (0, u "(I)Lcom/example/fenced_widget/fencedwidget/protocol/InputType;"), (0, .methodref 38 44), (0, .nameAndType 45 46), (0, u "button"), (0, u "(I)Lcom/example/fenced_widget/fencedwidget/protocol/Button;"), (0, .methodref 35 48), (0, .nameAndType 5 49), (0, u "(JLcom/example/fenced_widget/fencedwidget/protocol/InputType;IILcom/example/fenced_widget/fencedwidget/protocol/Button;)V"), (0, .methodref 35 51), (0, .nameAndType 52 53), (0, u "equals"), (0, u "(Ljava/lang/Object;)Z"), (0, .methodref 31 55), (0, .nameAndType 56 57), (0, u "valueOf"), (0, u "(J)Ljava/lang/Long;"), (3, u "law"), (0, u "(JJIIII)Z")] 2

def k1m0 : Method := { name := "<init>", desc := "()V", sig := { parameters := [], returnType := none }, accessFlags := 1, code := none }
def k1c1 : Code := { maxStack := 2, maxLocals := 1, code := method_2_code, exceptionTable := #[], attributes := #[] }
def k1m1 : Method := { name := "type", desc := "(I)Lcom/example/fenced_widget/fencedwidget/protocol/InputType;", sig := { parameters := [.int], returnType := some (.object "com/example/fenced_widget/fencedwidget/protocol/InputType") }, accessFlags := 10, code := some k1c1 }
def k1c2 : Code := { maxStack := 2, maxLocals := 1, code := method_3_code, exceptionTable := #[], attributes := #[] }
def k1m2 : Method := { name := "button", desc := "(I)Lcom/example/fenced_widget/fencedwidget/protocol/Button;", sig := { parameters := [.int], returnType := some (.object "com/example/fenced_widget/fencedwidget/protocol/Button") }, accessFlags := 10, code := some k1c2 }
def k1c3 : Code := { maxStack := 8, maxLocals := 22, code := code, exceptionTable := #[], attributes := #[] }
def k1m3 : Method := { name := "law", desc := "(JJIIII)Z", sig := { parameters := [.long, .long, .int, .int, .int, .int], returnType := some .boolean }, accessFlags := 9, code := some k1c3 }
/-- com/example/fenced_widget/fencedwidget/fence/TraceEventEqualsPinLaw -/
def k1 : Class := { plain "com/example/fenced_widget/fencedwidget/fence/TraceEventEqualsPinLaw" (some 0) with
  accessFlags := 49
  interfaces := #[]
  cf := some (fileOf pool1 38 #[] #[{ accessFlags := 1, nameIndex := 5, descriptorIndex := 6, attributes := #[] }, { accessFlags := 10, nameIndex := 41, descriptorIndex := 42, attributes := #[] }, { accessFlags := 10, nameIndex := 45, descriptorIndex := 46, attributes := #[] }, { accessFlags := 9, nameIndex := 61, descriptorIndex := 62, attributes := #[] }] 49 2 #[] #[])
  fields := #[]
  methods := #[k1m0, k1m1, k1m2, k1m3]
  instanceTypes := #[]
  staticTypes := #[]
  resolved := Array.replicate 65 none
  statics := none }

def pool2 : Array CpInfo := pool [(1, .methodref 2 3), (0, .class_ 4), (0, .nameAndType 5 6), (0, u "java/lang/Object"), (0, u "<init>"), (0, u "()V"), (9, .fieldref 17 18), (0, .class_ 19), (0, .nameAndType 20 21), (0, u "com/example/fenced_widget/fencedwidget/fence/TraceEvent"), (0, u "timeMs"), (0, u "J"), (0, .string 23), (0, u "type"), (0, .methodref 25 26), (0, .class_ 27), (0, .nameAndType 28 29), (0, u "java/util/Objects"), (0, u "requireNonNull"), (0, u "(Ljava/lang/Object;Ljava/lang/String;)Ljava/lang/Object;"), (0, .class_ 31), (0, u "com/example/fenced_widget/fencedwidget/protocol/InputType"), (0, .fieldref 17 33), (0, .nameAndType 23 34), (0, u "Lcom/example/fenced_widget/fencedwidget/protocol/InputType;"), (0, .fieldref 17 36), (0, .nameAndType 37 38), (0, u "x"), (0, u "I"), (0, .fieldref 17 40), (0, .nameAndType 41 38), (0, u "y"), (0, .string 43), (0, u "button"), (0, .class_ 45), (0, u "com/example/fenced_widget/fencedwidget/protocol/Button"), (0, .fieldref 17 47), (0, .nameAndType 43 48), (0, u "Lcom/example/fenced_widget/fencedwidget/protocol/Button;"), (10, u "FIELD_COUNT"), (21, u "(JLcom/example/fenced_widget/fencedwidget/protocol/InputType;IILcom/example/fenced_widget/fencedwidget/protocol/Button;)V"), (44, u "FIELDS"), (0, u "Ljava/lang/String;"), (16, u "equals"), (0, u "(Ljava/lang/Object;)Z")] 29

def k2c0 : Code := { maxStack := 4, maxLocals := 7, code := prog_14_method_1_code, exceptionTable := #[], attributes := #[] }
def k2m0 : Method := { name := "<init>", desc := "(JLcom/example/fenced_widget/fencedwidget/protocol/InputType;IILcom/example/fenced_widget/fencedwidget/protocol/Button;)V", sig := { parameters := [.long, (.object "com/example/fenced_widget/fencedwidget/protocol/InputType"), .int, .int, (.object "com/example/fenced_widget/fencedwidget/protocol/Button")], returnType := none }, accessFlags := 1, code := some k2c0 }
def k2c1 : Code := { maxStack := 4, maxLocals := 3, code := prog_14_method_10_code, exceptionTable := #[], attributes := #[] }
def k2m1 : Method := { name := "equals", desc := "(Ljava/lang/Object;)Z", sig := { parameters := [(.object "java/lang/Object")], returnType := some .boolean }, accessFlags := 1, code := some k2c1 }
/-- com/example/fenced_widget/fencedwidget/fence/TraceEvent -/
def k2 : Class := { plain "com/example/fenced_widget/fencedwidget/fence/TraceEvent" (some 0) with
  accessFlags := 49
  interfaces := #[]
  cf := some (fileOf pool2 17 #[] #[{ accessFlags := 1, nameIndex := 5, descriptorIndex := 81, attributes := #[] }, { accessFlags := 1, nameIndex := 144, descriptorIndex := 145, attributes := #[] }] 49 2 #[] #[{ accessFlags := 24, nameIndex := 126, descriptorIndex := 127, attributes := #[] }, { accessFlags := 26, nameIndex := 59, descriptorIndex := 38, attributes := #[] }, { accessFlags := 18, nameIndex := 20, descriptorIndex := 21, attributes := #[] }, { accessFlags := 18, nameIndex := 23, descriptorIndex := 34, attributes := #[] }, { accessFlags := 18, nameIndex := 37, descriptorIndex := 38, attributes := #[] }, { accessFlags := 18, nameIndex := 41, descriptorIndex := 38, attributes := #[] }, { accessFlags := 18, nameIndex := 43, descriptorIndex := 48, attributes := #[] }])
  fields := #[{ name := "FIELDS", type := (.object "java/lang/String"), accessFlags := 24, slot := 0, constantValue := 0 }, { name := "FIELD_COUNT", type := .int, accessFlags := 26, slot := 1, constantValue := 0 }, { name := "timeMs", type := .long, accessFlags := 18, slot := 0, constantValue := 0 }, { name := "type", type := (.object "com/example/fenced_widget/fencedwidget/protocol/InputType"), accessFlags := 18, slot := 1, constantValue := 0 }, { name := "x", type := .int, accessFlags := 18, slot := 2, constantValue := 0 }, { name := "y", type := .int, accessFlags := 18, slot := 3, constantValue := 0 }, { name := "button", type := (.object "com/example/fenced_widget/fencedwidget/protocol/Button"), accessFlags := 18, slot := 4, constantValue := 0 }]
  methods := #[k2m0, k2m1]
  instanceTypes := #[.long, (.object "com/example/fenced_widget/fencedwidget/protocol/InputType"), .int, .int, (.object "com/example/fenced_widget/fencedwidget/protocol/Button")]
  staticTypes := #[(.object "java/lang/String"), .int]
  resolved := Array.replicate 175 none
  statics := none }

def pool3 : Array CpInfo := pool [(1, .class_ 2), (0, u "java/lang/constant/Constable"), (0, .class_ 4), (0, u "java/lang/Object")] 6

/-- java/lang/constant/Constable -/
def k3 : Class := { plain "java/lang/constant/Constable" (some 0) with
  accessFlags := 1537
  interfaces := #[]
  cf := some (fileOf pool3 1 #[] #[] 1537 3 #[] #[])
  fields := #[]
  methods := #[]
  instanceTypes := #[]
  staticTypes := #[]
  resolved := Array.replicate 11 none
  statics := none }

def pool4 : Array CpInfo := pool [(1, .class_ 2), (0, u "java/lang/Comparable"), (0, .class_ 4), (0, u "java/lang/Object")] 7

/-- java/lang/Comparable -/
def k4 : Class := { plain "java/lang/Comparable" (some 0) with
  accessFlags := 1537
  interfaces := #[]
  cf := some (fileOf pool4 1 #[] #[] 1537 3 #[] #[])
  fields := #[]
  methods := #[]
  instanceTypes := #[]
  staticTypes := #[]
  resolved := Array.replicate 12 none
  statics := none }

def pool5 : Array CpInfo := pool [(1, .class_ 2), (0, u "java/io/Serializable"), (0, .class_ 4), (0, u "java/lang/Object")] 2

/-- java/io/Serializable -/
def k5 : Class := { plain "java/io/Serializable" (some 0) with
  accessFlags := 1537
  interfaces := #[]
  cf := some (fileOf pool5 1 #[] #[] 1537 3 #[] #[])
  fields := #[]
  methods := #[]
  instanceTypes := #[]
  staticTypes := #[]
  resolved := Array.replicate 7 none
  statics := none }

def pool6 : Array CpInfo := pool [(2, .class_ 4), (1, u "java/lang/Enum"), (0, u "name"), (0, u "Ljava/lang/String;"), (2, u "ordinal"), (0, u "I"), (1, .class_ 14), (1, u "java/lang/Object"), (4, u "hash"), (86, .class_ 108), (1, u "java/lang/Enum$EnumDesc"), (2, .class_ 112), (0, u "java/lang/constant/Constable"), (0, .class_ 114), (0, u "java/lang/Comparable"), (0, .class_ 116), (0, u "java/io/Serializable")] 87

/-- java/lang/Enum -/
def k6 : Class := { plain "java/lang/Enum" (some 0) with
  accessFlags := 1057
  interfaces := #[3, 4, 5]
  cf := some (fileOf pool6 2 #[.nestMembers #[106]] #[] 1057 12 #[111, 113, 115] #[{ accessFlags := 18, nameIndex := 5, descriptorIndex := 6, attributes := #[] }, { accessFlags := 18, nameIndex := 9, descriptorIndex := 10, attributes := #[] }, { accessFlags := 2, nameIndex := 19, descriptorIndex := 10, attributes := #[] }])
  fields := #[{ name := "name", type := (.object "java/lang/String"), accessFlags := 18, slot := 0, constantValue := 0 }, { name := "ordinal", type := .int, accessFlags := 18, slot := 1, constantValue := 0 }, { name := "hash", type := .int, accessFlags := 2, slot := 2, constantValue := 0 }]
  methods := #[]
  instanceTypes := #[(.object "java/lang/String"), .int, .int]
  staticTypes := #[]
  resolved := Array.replicate 204 none
  statics := none }

def pool7 : Array CpInfo := pool [(1, .class_ 2), (0, u "com/example/fenced_widget/fencedwidget/protocol/InputType"), (2, u "MOVE"), (0, u "Lcom/example/fenced_widget/fencedwidget/protocol/InputType;"), (2, u "PRESS"), (2, u "RELEASE"), (2, u "$VALUES"), (0, u "[Lcom/example/fenced_widget/fencedwidget/protocol/InputType;"), (6, .class_ 25), (1, u "java/lang/Enum")] 42

/-- com/example/fenced_widget/fencedwidget/protocol/InputType -/
def k7 : Class := { plain "com/example/fenced_widget/fencedwidget/protocol/InputType" (some 6) with
  accessFlags := 16433
  interfaces := #[]
  cf := some (fileOf pool7 1 #[] #[] 16433 23 #[] #[{ accessFlags := 16409, nameIndex := 5, descriptorIndex := 6, attributes := #[] }, { accessFlags := 16409, nameIndex := 9, descriptorIndex := 6, attributes := #[] }, { accessFlags := 16409, nameIndex := 12, descriptorIndex := 6, attributes := #[] }, { accessFlags := 4122, nameIndex := 15, descriptorIndex := 16, attributes := #[] }])
  fields := #[{ name := "MOVE", type := (.object "com/example/fenced_widget/fencedwidget/protocol/InputType"), accessFlags := 16409, slot := 0, constantValue := 0 }, { name := "PRESS", type := (.object "com/example/fenced_widget/fencedwidget/protocol/InputType"), accessFlags := 16409, slot := 1, constantValue := 0 }, { name := "RELEASE", type := (.object "com/example/fenced_widget/fencedwidget/protocol/InputType"), accessFlags := 16409, slot := 2, constantValue := 0 }, { name := "$VALUES", type := (.array (.object "com/example/fenced_widget/fencedwidget/protocol/InputType")), accessFlags := 4122, slot := 3, constantValue := 0 }]
  methods := #[]
  instanceTypes := #[(.object "java/lang/String"), .int, .int]
  staticTypes := #[(.object "com/example/fenced_widget/fencedwidget/protocol/InputType"), (.object "com/example/fenced_widget/fencedwidget/protocol/InputType"), (.object "com/example/fenced_widget/fencedwidget/protocol/InputType"), (.array (.object "com/example/fenced_widget/fencedwidget/protocol/InputType"))]
  resolved := Array.replicate 68 none
  statics := some 0 }

def pool8 : Array CpInfo := pool [(1, .class_ 2), (0, u "com/example/fenced_widget/fencedwidget/protocol/Button"), (2, u "LEFT"), (0, u "Lcom/example/fenced_widget/fencedwidget/protocol/Button;"), (2, u "RIGHT"), (2, u "NONE"), (2, u "$VALUES"), (0, u "[Lcom/example/fenced_widget/fencedwidget/protocol/Button;"), (6, .class_ 25), (1, u "java/lang/Enum")] 42

/-- com/example/fenced_widget/fencedwidget/protocol/Button -/
def k8 : Class := { plain "com/example/fenced_widget/fencedwidget/protocol/Button" (some 6) with
  accessFlags := 16433
  interfaces := #[]
  cf := some (fileOf pool8 1 #[] #[] 16433 23 #[] #[{ accessFlags := 16409, nameIndex := 5, descriptorIndex := 6, attributes := #[] }, { accessFlags := 16409, nameIndex := 9, descriptorIndex := 6, attributes := #[] }, { accessFlags := 16409, nameIndex := 12, descriptorIndex := 6, attributes := #[] }, { accessFlags := 4122, nameIndex := 15, descriptorIndex := 16, attributes := #[] }])
  fields := #[{ name := "LEFT", type := (.object "com/example/fenced_widget/fencedwidget/protocol/Button"), accessFlags := 16409, slot := 0, constantValue := 0 }, { name := "RIGHT", type := (.object "com/example/fenced_widget/fencedwidget/protocol/Button"), accessFlags := 16409, slot := 1, constantValue := 0 }, { name := "NONE", type := (.object "com/example/fenced_widget/fencedwidget/protocol/Button"), accessFlags := 16409, slot := 2, constantValue := 0 }, { name := "$VALUES", type := (.array (.object "com/example/fenced_widget/fencedwidget/protocol/Button")), accessFlags := 4122, slot := 3, constantValue := 0 }]
  methods := #[]
  instanceTypes := #[(.object "java/lang/String"), .int, .int]
  staticTypes := #[(.object "com/example/fenced_widget/fencedwidget/protocol/Button"), (.object "com/example/fenced_widget/fencedwidget/protocol/Button"), (.object "com/example/fenced_widget/fencedwidget/protocol/Button"), (.array (.object "com/example/fenced_widget/fencedwidget/protocol/Button"))]
  resolved := Array.replicate 68 none
  statics := some 1 }

def pool9 : Array CpInfo := pool [(2, .class_ 4), (1, u "java/lang/CharSequence"), (42, .class_ 48), (0, u "java/lang/CharSequence$1CodePointIterator"), (10, .class_ 60), (0, u "java/lang/CharSequence$1CharIterator"), (5, .class_ 67), (0, u "java/lang/Object")] 63

/-- java/lang/CharSequence -/
def k9 : Class := { plain "java/lang/CharSequence" (some 0) with
  accessFlags := 1537
  interfaces := #[]
  cf := some (fileOf pool9 2 #[.nestMembers #[47, 59]] #[] 1537 66 #[] #[])
  fields := #[]
  methods := #[]
  instanceTypes := #[]
  staticTypes := #[]
  resolved := Array.replicate 131 none
  statics := none }

def pool10 : Array CpInfo := pool [(1, .class_ 2), (0, u "java/lang/constant/ConstantDesc"), (0, .class_ 4), (0, u "java/lang/Object")] 32

/-- java/lang/constant/ConstantDesc -/
def k10 : Class := { plain "java/lang/constant/ConstantDesc" (some 0) with
  accessFlags := 1537
  interfaces := #[]
  cf := some (fileOf pool10 1 #[] #[] 1537 3 #[] #[])
  fields := #[]
  methods := #[]
  instanceTypes := #[]
  staticTypes := #[]
  resolved := Array.replicate 37 none
  statics := none }

def pool11 : Array CpInfo := pool [(2, .class_ 4), (1, u "java/lang/Object"), (0, u "<init>"), (0, u "()V"), (3, .class_ 12), (1, u "java/lang/String"), (0, u "value"), (0, u "[B"), (2, u "coder"), (0, u "B"), (2, u "hash"), (0, u "I"), (2, u "hashIsZero"), (0, u "Z"), (13, u "COMPACT_STRINGS"), (534, .class_ 576), (0, u "java/lang/CharSequence"), (22, u "CASE_INSENSITIVE_ORDER"), (0, u "Ljava/util/Comparator;"), (500, u "serialPersistentFields"), (0, u "[Ljava/io/ObjectStreamField;"), (0, .class_ 1104), (0, u "java/lang/String$CaseInsensitiveComparator"), (1, .class_ 1107), (0, u "java/io/Serializable"), (0, .class_ 1109), (0, u "java/lang/Comparable"), (0, .class_ 1111), (0, u "java/lang/constant/Constable"), (0, .class_ 1113), (0, u "java/lang/constant/ConstantDesc"), (2, u "serialVersionUID"), (0, u "J"), (3, u "REPL"), (0, u "C"), (2, u "LATIN1"), (1, u "UTF16")] 323

def k11m0 : Method := { name := "<init>", desc := "()V", sig := { parameters := [], returnType := none }, accessFlags := 1, code := none }
/-- java/lang/String -/
def k11 : Class := { plain "java/lang/String" (some 0) with
  accessFlags := 49
  interfaces := #[5, 4, 9, 3, 10]
  cf := some (fileOf pool11 10 #[.nestMembers #[1103]] #[{ accessFlags := 1, nameIndex := 5, descriptorIndex := 6, attributes := #[] }] 49 2 #[1106, 1108, 575, 1110, 1112] #[{ accessFlags := 18, nameIndex := 13, descriptorIndex := 14, attributes := #[] }, { accessFlags := 18, nameIndex := 17, descriptorIndex := 18, attributes := #[] }, { accessFlags := 2, nameIndex := 21, descriptorIndex := 22, attributes := #[] }, { accessFlags := 2, nameIndex := 25, descriptorIndex := 26, attributes := #[] }, { accessFlags := 26, nameIndex := 1116, descriptorIndex := 1117, attributes := #[] }, { accessFlags := 24, nameIndex := 40, descriptorIndex := 26, attributes := #[] }, { accessFlags := 26, nameIndex := 1101, descriptorIndex := 1102, attributes := #[] }, { accessFlags := 26, nameIndex := 1121, descriptorIndex := 1122, attributes := #[] }, { accessFlags := 25, nameIndex := 599, descriptorIndex := 600, attributes := #[] }, { accessFlags := 24, nameIndex := 1125, descriptorIndex := 18, attributes := #[] }, { accessFlags := 24, nameIndex := 1127, descriptorIndex := 18, attributes := #[] }])
  fields := #[{ name := "value", type := (.array .byte), accessFlags := 18, slot := 0, constantValue := 0 }, { name := "coder", type := .byte, accessFlags := 18, slot := 1, constantValue := 0 }, { name := "hash", type := .int, accessFlags := 2, slot := 2, constantValue := 0 }, { name := "hashIsZero", type := .boolean, accessFlags := 2, slot := 3, constantValue := 0 }, { name := "serialVersionUID", type := .long, accessFlags := 26, slot := 0, constantValue := 0 }, { name := "COMPACT_STRINGS", type := .boolean, accessFlags := 24, slot := 1, constantValue := 0 }, { name := "serialPersistentFields", type := (.array (.object "java/io/ObjectStreamField")), accessFlags := 26, slot := 2, constantValue := 0 }, { name := "REPL", type := .char, accessFlags := 26, slot := 3, constantValue := 0 }, { name := "CASE_INSENSITIVE_ORDER", type := (.object "java/util/Comparator"), accessFlags := 25, slot := 4, constantValue := 0 }, { name := "LATIN1", type := .byte, accessFlags := 24, slot := 5, constantValue := 0 }, { name := "UTF16", type := .byte, accessFlags := 24, slot := 6, constantValue := 0 }]
  methods := #[k11m0]
  instanceTypes := #[(.array .byte), .byte, .int, .boolean]
  staticTypes := #[.long, .boolean, (.array (.object "java/io/ObjectStreamField")), .char, (.object "java/util/Comparator"), .byte, .byte]
  resolved := Array.replicate 1451 none
  statics := none }

def pool12 : Array CpInfo := pool [(2, .class_ 4), (1, u "java/lang/Object"), (0, u "<init>"), (0, u "()V"), (35, .class_ 44), (1, u "java/util/Objects"), (0, u "requireNonNull"), (48, u "(Ljava/lang/Object;Ljava/lang/String;)Ljava/lang/Object;")] 89

def k12m0 : Method := { name := "<init>", desc := "()V", sig := { parameters := [], returnType := none }, accessFlags := 2, code := none }
def k12c1 : Code := { maxStack := 3, maxLocals := 2, code := jdk_31_method_11_code, exceptionTable := #[], attributes := #[] }
def k12m1 : Method := { name := "requireNonNull", desc := "(Ljava/lang/Object;Ljava/lang/String;)Ljava/lang/Object;", sig := { parameters := [(.object "java/lang/Object"), (.object "java/lang/String")], returnType := some (.object "java/lang/Object") }, accessFlags := 9, code := some k12c1 }
/-- java/util/Objects -/
def k12 : Class := { plain "java/util/Objects" (some 0) with
  accessFlags := 49
  interfaces := #[]
  cf := some (fileOf pool12 42 #[] #[{ accessFlags := 2, nameIndex := 5, descriptorIndex := 6, attributes := #[] }, { accessFlags := 9, nameIndex := 45, descriptorIndex := 94, attributes := #[] }] 49 2 #[] #[])
  fields := #[]
  methods := #[k12m0, k12m1]
  instanceTypes := #[]
  staticTypes := #[]
  resolved := Array.replicate 184 none
  statics := none }

def pool13 : Array CpInfo := pool [(1, .methodref 2 3), (0, .class_ 4), (0, .nameAndType 5 6), (0, u "java/lang/Object"), (0, u "<init>"), (0, u "()V"), (1, .class_ 10), (1, u "java/lang/Number"), (2, .class_ 14), (0, u "java/io/Serializable"), (0, u "serialVersionUID"), (0, u "J")] 20

def k13c0 : Code := { maxStack := 1, maxLocals := 1, code := jdk_18_method_1_code, exceptionTable := #[], attributes := #[] }
def k13m0 : Method := { name := "<init>", desc := "()V", sig := { parameters := [], returnType := none }, accessFlags := 1, code := some k13c0 }
/-- java/lang/Number -/
def k13 : Class := { plain "java/lang/Number" (some 0) with
  accessFlags := 1057
  interfaces := #[5]
  cf := some (fileOf pool13 8 #[] #[{ accessFlags := 1, nameIndex := 5, descriptorIndex := 6, attributes := #[] }] 1057 2 #[13] #[{ accessFlags := 26, nameIndex := 15, descriptorIndex := 16, attributes := #[] }])
  fields := #[{ name := "serialVersionUID", type := .long, accessFlags := 26, slot := 0, constantValue := 0 }]
  methods := #[k13m0]
  instanceTypes := #[]
  staticTypes := #[.long]
  resolved := Array.replicate 37 none
  statics := none }

def pool14 : Array CpInfo := pool [(1, .class_ 2), (0, u "java/lang/Long"), (55, .nameAndType 59 60), (0, u "<init>"), (0, u "()V"), (24, u "valueOf"), (143, u "(J)Ljava/lang/Long;"), (0, .long 18446744073709551488), (1, .long 127), (1, .fieldref 235 236), (0, .class_ 237), (0, .nameAndType 238 239), (0, u "java/lang/Long$LongCache"), (0, u "cache"), (0, u "[Ljava/lang/Long;"), (0, .methodref 1 241), (0, .nameAndType 59 242), (0, u "(J)V"), (27, .methodref 271 58), (0, .class_ 272), (0, u "java/lang/Number"), (0, .fieldref 1 274), (0, .nameAndType 275 276), (0, u "value"), (0, u "J"), (84, u "TYPE"), (0, u "Ljava/lang/Class;"), (0, .class_ 364), (0, u "java/lang/Comparable"), (0, .class_ 366), (0, u "java/lang/constant/Constable"), (0, .class_ 368), (0, u "java/lang/constant/ConstantDesc"), (0, u "MIN_VALUE"), (1, u "MAX_VALUE"), (4, u "SIZE"), (0, u "I"), (1, u "BYTES"), (1, u "serialVersionUID")] 142

def k14c0 : Code := { maxStack := 4, maxLocals := 3, code := jdk_35_method_24_code, exceptionTable := #[], attributes := #[] }
def k14m0 : Method := { name := "valueOf", desc := "(J)Ljava/lang/Long;", sig := { parameters := [.long], returnType := some (.object "java/lang/Long") }, accessFlags := 9, code := some k14c0 }
def k14c1 : Code := { maxStack := 3, maxLocals := 3, code := jdk_35_method_26_code, exceptionTable := #[], attributes := #[] }
def k14m1 : Method := { name := "<init>", desc := "(J)V", sig := { parameters := [.long], returnType := none }, accessFlags := 1, code := some k14c1 }
/-- java/lang/Long -/
def k14 : Class := { plain "java/lang/Long" (some 13) with
  accessFlags := 49
  interfaces := #[4, 3, 10]
  cf := some (fileOf pool14 1 #[.nestMembers #[235]] #[{ accessFlags := 9, nameIndex := 85, descriptorIndex := 229, attributes := #[] }, { accessFlags := 1, nameIndex := 59, descriptorIndex := 242, attributes := #[] }] 49 271 #[363, 365, 367] #[{ accessFlags := 25, nameIndex := 369, descriptorIndex := 276, attributes := #[] }, { accessFlags := 25, nameIndex := 371, descriptorIndex := 276, attributes := #[] }, { accessFlags := 25, nameIndex := 361, descriptorIndex := 362, attributes := #[] }, { accessFlags := 18, nameIndex := 275, descriptorIndex := 276, attributes := #[] }, { accessFlags := 25, nameIndex := 376, descriptorIndex := 377, attributes := #[] }, { accessFlags := 25, nameIndex := 379, descriptorIndex := 377, attributes := #[] }, { accessFlags := 26, nameIndex := 381, descriptorIndex := 276, attributes := #[] }])
  fields := #[{ name := "MIN_VALUE", type := .long, accessFlags := 25, slot := 0, constantValue := 0 }, { name := "MAX_VALUE", type := .long, accessFlags := 25, slot := 1, constantValue := 0 }, { name := "TYPE", type := (.object "java/lang/Class"), accessFlags := 25, slot := 2, constantValue := 0 }, { name := "value", type := .long, accessFlags := 18, slot := 0, constantValue := 0 }, { name := "SIZE", type := .int, accessFlags := 25, slot := 3, constantValue := 0 }, { name := "BYTES", type := .int, accessFlags := 25, slot := 4, constantValue := 0 }, { name := "serialVersionUID", type := .long, accessFlags := 26, slot := 5, constantValue := 0 }]
  methods := #[k14m0, k14m1]
  instanceTypes := #[.long]
  staticTypes := #[.long, .long, (.object "java/lang/Class"), .int, .int, .long]
  resolved := Array.replicate 524 none
  statics := none }

def pool15 : Array CpInfo := pool [(2, .class_ 4), (1, u "java/lang/Object"), (0, u "<init>"), (0, u "()V"), (0, .class_ 8), (0, u "java/lang/Long"), (7, .class_ 18), (1, u "java/lang/Long$LongCache"), (0, u "$assertionsDisabled"), (0, u "Z"), (8, u "archivedCache"), (0, u "[Ljava/lang/Long;"), (7, u "cache")] 24

def k15m0 : Method := { name := "<init>", desc := "()V", sig := { parameters := [], returnType := none }, accessFlags := 2, code := none }
/-- java/lang/Long$LongCache -/
def k15 : Class := { plain "java/lang/Long$LongCache" (some 0) with
  accessFlags := 48
  interfaces := #[]
  cf := some (fileOf pool15 16 #[.nestHost 7] #[{ accessFlags := 2, nameIndex := 5, descriptorIndex := 6, attributes := #[] }] 48 2 #[] #[{ accessFlags := 24, nameIndex := 38, descriptorIndex := 30, attributes := #[] }, { accessFlags := 8, nameIndex := 29, descriptorIndex := 30, attributes := #[] }, { accessFlags := 4120, nameIndex := 19, descriptorIndex := 20, attributes := #[] }])
  fields := #[{ name := "cache", type := (.array (.object "java/lang/Long")), accessFlags := 24, slot := 0, constantValue := 0 }, { name := "archivedCache", type := (.array (.object "java/lang/Long")), accessFlags := 8, slot := 1, constantValue := 0 }, { name := "$assertionsDisabled", type := .boolean, accessFlags := 4120, slot := 2, constantValue := 0 }]
  methods := #[k15m0]
  instanceTypes := #[]
  staticTypes := #[(.array (.object "java/lang/Long")), (.array (.object "java/lang/Long")), .boolean]
  resolved := Array.replicate 63 none
  statics := some 2 }

def pool16 : Array CpInfo := pool [(1, u "java/lang/Cloneable"), (0, .class_ 1), (0, u "java/lang/Object"), (0, .class_ 3)] 3

/-- java/lang/Cloneable -/
def k16 : Class := { plain "java/lang/Cloneable" (some 0) with
  accessFlags := 1537
  interfaces := #[]
  cf := some (fileOf pool16 2 #[] #[] 1537 4 #[] #[])
  fields := #[]
  methods := #[]
  instanceTypes := #[]
  staticTypes := #[]
  resolved := Array.replicate 8 none
  statics := none }

/-- the primitive byte -/
def k17 : Class := { plain "byte" none with kind := .primitive 'B', accessFlags := 0x411 }
/-- [B -/
def k18 : Class := { plain "[B" (some 0) with kind := .array 17 .byte, interfaces := #[16, 5], accessFlags := 1041 }

/-- the primitive int -/
def k19 : Class := { plain "int" none with kind := .primitive 'I', accessFlags := 0x411 }
/-- [I -/
def k20 : Class := { plain "[I" (some 0) with kind := .array 19 .int, interfaces := #[16, 5], accessFlags := 1041 }

/-- [Ljava/lang/Long; -/
def k21 : Class := { plain "[Ljava/lang/Long;" (some 0) with kind := .array 14 (.object "java/lang/Long"), interfaces := #[16, 5], accessFlags := 1041 }

def heap : Heap := #[{ cls := 7, slots := #[.ref 260, .ref 261, .ref 262, .null], vm := .statics 7 },
  { cls := 8, slots := #[.ref 263, .ref 264, .ref 265, .null], vm := .statics 8 },
  { cls := 15, slots := #[.ref 3, .null, .int 0], vm := .statics 15 },
  { cls := 21, slots := #[.ref 4, .ref 5, .ref 6, .ref 7, .ref 8, .ref 9, .ref 10, .ref 11, .ref 12, .ref 13, .ref 14, .ref 15, .ref 16, .ref 17, .ref 18, .ref 19, .ref 20, .ref 21, .ref 22, .ref 23, .ref 24, .ref 25, .ref 26, .ref 27, .ref 28, .ref 29, .ref 30, .ref 31, .ref 32, .ref 33, .ref 34, .ref 35, .ref 36, .ref 37, .ref 38, .ref 39, .ref 40, .ref 41, .ref 42, .ref 43, .ref 44, .ref 45, .ref 46, .ref 47, .ref 48, .ref 49, .ref 50, .ref 51, .ref 52, .ref 53, .ref 54, .ref 55, .ref 56, .ref 57, .ref 58, .ref 59, .ref 60, .ref 61, .ref 62, .ref 63, .ref 64, .ref 65, .ref 66, .ref 67, .ref 68, .ref 69, .ref 70, .ref 71, .ref 72, .ref 73, .ref 74, .ref 75, .ref 76, .ref 77, .ref 78, .ref 79, .ref 80, .ref 81, .ref 82, .ref 83, .ref 84, .ref 85, .ref 86, .ref 87, .ref 88, .ref 89, .ref 90, .ref 91, .ref 92, .ref 93, .ref 94, .ref 95, .ref 96, .ref 97, .ref 98, .ref 99, .ref 100, .ref 101, .ref 102, .ref 103, .ref 104, .ref 105, .ref 106, .ref 107, .ref 108, .ref 109, .ref 110, .ref 111, .ref 112, .ref 113, .ref 114, .ref 115, .ref 116, .ref 117, .ref 118, .ref 119, .ref 120, .ref 121, .ref 122, .ref 123, .ref 124, .ref 125, .ref 126, .ref 127, .ref 128, .ref 129, .ref 130, .ref 131, .ref 132, .ref 133, .ref 134, .ref 135, .ref 136, .ref 137, .ref 138, .ref 139, .ref 140, .ref 141, .ref 142, .ref 143, .ref 144, .ref 145, .ref 146, .ref 147, .ref 148, .ref 149, .ref 150, .ref 151, .ref 152, .ref 153, .ref 154, .ref 155, .ref 156, .ref 157, .ref 158, .ref 159, .ref 160, .ref 161, .ref 162, .ref 163, .ref 164, .ref 165, .ref 166, .ref 167, .ref 168, .ref 169, .ref 170, .ref 171, .ref 172, .ref 173, .ref 174, .ref 175, .ref 176, .ref 177, .ref 178, .ref 179, .ref 180, .ref 181, .ref 182, .ref 183, .ref 184, .ref 185, .ref 186, .ref 187, .ref 188, .ref 189, .ref 190, .ref 191, .ref 192, .ref 193, .ref 194, .ref 195, .ref 196, .ref 197, .ref 198, .ref 199, .ref 200, .ref 201, .ref 202, .ref 203, .ref 204, .ref 205, .ref 206, .ref 207, .ref 208, .ref 209, .ref 210, .ref 211, .ref 212, .ref 213, .ref 214, .ref 215, .ref 216, .ref 217, .ref 218, .ref 219, .ref 220, .ref 221, .ref 222, .ref 223, .ref 224, .ref 225, .ref 226, .ref 227, .ref 228, .ref 229, .ref 230, .ref 231, .ref 232, .ref 233, .ref 234, .ref 235, .ref 236, .ref 237, .ref 238, .ref 239, .ref 240, .ref 241, .ref 242, .ref 243, .ref 244, .ref 245, .ref 246, .ref 247, .ref 248, .ref 249, .ref 250, .ref 251, .ref 252, .ref 253, .ref 254, .ref 255, .ref 256, .ref 257, .ref 258, .ref 259], vm := .none },
  { cls := 14, slots := #[.long (-128)], vm := .none },
  { cls := 14, slots := #[.long (-127)], vm := .none },
  { cls := 14, slots := #[.long (-126)], vm := .none },
  { cls := 14, slots := #[.long (-125)], vm := .none },
  { cls := 14, slots := #[.long (-124)], vm := .none },
  { cls := 14, slots := #[.long (-123)], vm := .none },
  { cls := 14, slots := #[.long (-122)], vm := .none },
  { cls := 14, slots := #[.long (-121)], vm := .none },
  { cls := 14, slots := #[.long (-120)], vm := .none },
  { cls := 14, slots := #[.long (-119)], vm := .none },
  { cls := 14, slots := #[.long (-118)], vm := .none },
  { cls := 14, slots := #[.long (-117)], vm := .none },
  { cls := 14, slots := #[.long (-116)], vm := .none },
  { cls := 14, slots := #[.long (-115)], vm := .none },
  { cls := 14, slots := #[.long (-114)], vm := .none },
  { cls := 14, slots := #[.long (-113)], vm := .none },
  { cls := 14, slots := #[.long (-112)], vm := .none },
  { cls := 14, slots := #[.long (-111)], vm := .none },
  { cls := 14, slots := #[.long (-110)], vm := .none },
  { cls := 14, slots := #[.long (-109)], vm := .none },
  { cls := 14, slots := #[.long (-108)], vm := .none },
  { cls := 14, slots := #[.long (-107)], vm := .none },
  { cls := 14, slots := #[.long (-106)], vm := .none },
  { cls := 14, slots := #[.long (-105)], vm := .none },
  { cls := 14, slots := #[.long (-104)], vm := .none },
  { cls := 14, slots := #[.long (-103)], vm := .none },
  { cls := 14, slots := #[.long (-102)], vm := .none },
  { cls := 14, slots := #[.long (-101)], vm := .none },
  { cls := 14, slots := #[.long (-100)], vm := .none },
  { cls := 14, slots := #[.long (-99)], vm := .none },
  { cls := 14, slots := #[.long (-98)], vm := .none },
  { cls := 14, slots := #[.long (-97)], vm := .none },
  { cls := 14, slots := #[.long (-96)], vm := .none },
  { cls := 14, slots := #[.long (-95)], vm := .none },
  { cls := 14, slots := #[.long (-94)], vm := .none },
  { cls := 14, slots := #[.long (-93)], vm := .none },
  { cls := 14, slots := #[.long (-92)], vm := .none },
  { cls := 14, slots := #[.long (-91)], vm := .none },
  { cls := 14, slots := #[.long (-90)], vm := .none },
  { cls := 14, slots := #[.long (-89)], vm := .none },
  { cls := 14, slots := #[.long (-88)], vm := .none },
  { cls := 14, slots := #[.long (-87)], vm := .none },
  { cls := 14, slots := #[.long (-86)], vm := .none },
  { cls := 14, slots := #[.long (-85)], vm := .none },
  { cls := 14, slots := #[.long (-84)], vm := .none },
  { cls := 14, slots := #[.long (-83)], vm := .none },
  { cls := 14, slots := #[.long (-82)], vm := .none },
  { cls := 14, slots := #[.long (-81)], vm := .none },
  { cls := 14, slots := #[.long (-80)], vm := .none },
  { cls := 14, slots := #[.long (-79)], vm := .none },
  { cls := 14, slots := #[.long (-78)], vm := .none },
  { cls := 14, slots := #[.long (-77)], vm := .none },
  { cls := 14, slots := #[.long (-76)], vm := .none },
  { cls := 14, slots := #[.long (-75)], vm := .none },
  { cls := 14, slots := #[.long (-74)], vm := .none },
  { cls := 14, slots := #[.long (-73)], vm := .none },
  { cls := 14, slots := #[.long (-72)], vm := .none },
  { cls := 14, slots := #[.long (-71)], vm := .none },
  { cls := 14, slots := #[.long (-70)], vm := .none },
  { cls := 14, slots := #[.long (-69)], vm := .none },
  { cls := 14, slots := #[.long (-68)], vm := .none },
  { cls := 14, slots := #[.long (-67)], vm := .none },
  { cls := 14, slots := #[.long (-66)], vm := .none },
  { cls := 14, slots := #[.long (-65)], vm := .none },
  { cls := 14, slots := #[.long (-64)], vm := .none },
  { cls := 14, slots := #[.long (-63)], vm := .none },
  { cls := 14, slots := #[.long (-62)], vm := .none },
  { cls := 14, slots := #[.long (-61)], vm := .none },
  { cls := 14, slots := #[.long (-60)], vm := .none },
  { cls := 14, slots := #[.long (-59)], vm := .none },
  { cls := 14, slots := #[.long (-58)], vm := .none },
  { cls := 14, slots := #[.long (-57)], vm := .none },
  { cls := 14, slots := #[.long (-56)], vm := .none },
  { cls := 14, slots := #[.long (-55)], vm := .none },
  { cls := 14, slots := #[.long (-54)], vm := .none },
  { cls := 14, slots := #[.long (-53)], vm := .none },
  { cls := 14, slots := #[.long (-52)], vm := .none },
  { cls := 14, slots := #[.long (-51)], vm := .none },
  { cls := 14, slots := #[.long (-50)], vm := .none },
  { cls := 14, slots := #[.long (-49)], vm := .none },
  { cls := 14, slots := #[.long (-48)], vm := .none },
  { cls := 14, slots := #[.long (-47)], vm := .none },
  { cls := 14, slots := #[.long (-46)], vm := .none },
  { cls := 14, slots := #[.long (-45)], vm := .none },
  { cls := 14, slots := #[.long (-44)], vm := .none },
  { cls := 14, slots := #[.long (-43)], vm := .none },
  { cls := 14, slots := #[.long (-42)], vm := .none },
  { cls := 14, slots := #[.long (-41)], vm := .none },
  { cls := 14, slots := #[.long (-40)], vm := .none },
  { cls := 14, slots := #[.long (-39)], vm := .none },
  { cls := 14, slots := #[.long (-38)], vm := .none },
  { cls := 14, slots := #[.long (-37)], vm := .none },
  { cls := 14, slots := #[.long (-36)], vm := .none },
  { cls := 14, slots := #[.long (-35)], vm := .none },
  { cls := 14, slots := #[.long (-34)], vm := .none },
  { cls := 14, slots := #[.long (-33)], vm := .none },
  { cls := 14, slots := #[.long (-32)], vm := .none },
  { cls := 14, slots := #[.long (-31)], vm := .none },
  { cls := 14, slots := #[.long (-30)], vm := .none },
  { cls := 14, slots := #[.long (-29)], vm := .none },
  { cls := 14, slots := #[.long (-28)], vm := .none },
  { cls := 14, slots := #[.long (-27)], vm := .none },
  { cls := 14, slots := #[.long (-26)], vm := .none },
  { cls := 14, slots := #[.long (-25)], vm := .none },
  { cls := 14, slots := #[.long (-24)], vm := .none },
  { cls := 14, slots := #[.long (-23)], vm := .none },
  { cls := 14, slots := #[.long (-22)], vm := .none },
  { cls := 14, slots := #[.long (-21)], vm := .none },
  { cls := 14, slots := #[.long (-20)], vm := .none },
  { cls := 14, slots := #[.long (-19)], vm := .none },
  { cls := 14, slots := #[.long (-18)], vm := .none },
  { cls := 14, slots := #[.long (-17)], vm := .none },
  { cls := 14, slots := #[.long (-16)], vm := .none },
  { cls := 14, slots := #[.long (-15)], vm := .none },
  { cls := 14, slots := #[.long (-14)], vm := .none },
  { cls := 14, slots := #[.long (-13)], vm := .none },
  { cls := 14, slots := #[.long (-12)], vm := .none },
  { cls := 14, slots := #[.long (-11)], vm := .none },
  { cls := 14, slots := #[.long (-10)], vm := .none },
  { cls := 14, slots := #[.long (-9)], vm := .none },
  { cls := 14, slots := #[.long (-8)], vm := .none },
  { cls := 14, slots := #[.long (-7)], vm := .none },
  { cls := 14, slots := #[.long (-6)], vm := .none },
  { cls := 14, slots := #[.long (-5)], vm := .none },
  { cls := 14, slots := #[.long (-4)], vm := .none },
  { cls := 14, slots := #[.long (-3)], vm := .none },
  { cls := 14, slots := #[.long (-2)], vm := .none },
  { cls := 14, slots := #[.long (-1)], vm := .none },
  { cls := 14, slots := #[.long 0], vm := .none },
  { cls := 14, slots := #[.long 1], vm := .none },
  { cls := 14, slots := #[.long 2], vm := .none },
  { cls := 14, slots := #[.long 3], vm := .none },
  { cls := 14, slots := #[.long 4], vm := .none },
  { cls := 14, slots := #[.long 5], vm := .none },
  { cls := 14, slots := #[.long 6], vm := .none },
  { cls := 14, slots := #[.long 7], vm := .none },
  { cls := 14, slots := #[.long 8], vm := .none },
  { cls := 14, slots := #[.long 9], vm := .none },
  { cls := 14, slots := #[.long 10], vm := .none },
  { cls := 14, slots := #[.long 11], vm := .none },
  { cls := 14, slots := #[.long 12], vm := .none },
  { cls := 14, slots := #[.long 13], vm := .none },
  { cls := 14, slots := #[.long 14], vm := .none },
  { cls := 14, slots := #[.long 15], vm := .none },
  { cls := 14, slots := #[.long 16], vm := .none },
  { cls := 14, slots := #[.long 17], vm := .none },
  { cls := 14, slots := #[.long 18], vm := .none },
  { cls := 14, slots := #[.long 19], vm := .none },
  { cls := 14, slots := #[.long 20], vm := .none },
  { cls := 14, slots := #[.long 21], vm := .none },
  { cls := 14, slots := #[.long 22], vm := .none },
  { cls := 14, slots := #[.long 23], vm := .none },
  { cls := 14, slots := #[.long 24], vm := .none },
  { cls := 14, slots := #[.long 25], vm := .none },
  { cls := 14, slots := #[.long 26], vm := .none },
  { cls := 14, slots := #[.long 27], vm := .none },
  { cls := 14, slots := #[.long 28], vm := .none },
  { cls := 14, slots := #[.long 29], vm := .none },
  { cls := 14, slots := #[.long 30], vm := .none },
  { cls := 14, slots := #[.long 31], vm := .none },
  { cls := 14, slots := #[.long 32], vm := .none },
  { cls := 14, slots := #[.long 33], vm := .none },
  { cls := 14, slots := #[.long 34], vm := .none },
  { cls := 14, slots := #[.long 35], vm := .none },
  { cls := 14, slots := #[.long 36], vm := .none },
  { cls := 14, slots := #[.long 37], vm := .none },
  { cls := 14, slots := #[.long 38], vm := .none },
  { cls := 14, slots := #[.long 39], vm := .none },
  { cls := 14, slots := #[.long 40], vm := .none },
  { cls := 14, slots := #[.long 41], vm := .none },
  { cls := 14, slots := #[.long 42], vm := .none },
  { cls := 14, slots := #[.long 43], vm := .none },
  { cls := 14, slots := #[.long 44], vm := .none },
  { cls := 14, slots := #[.long 45], vm := .none },
  { cls := 14, slots := #[.long 46], vm := .none },
  { cls := 14, slots := #[.long 47], vm := .none },
  { cls := 14, slots := #[.long 48], vm := .none },
  { cls := 14, slots := #[.long 49], vm := .none },
  { cls := 14, slots := #[.long 50], vm := .none },
  { cls := 14, slots := #[.long 51], vm := .none },
  { cls := 14, slots := #[.long 52], vm := .none },
  { cls := 14, slots := #[.long 53], vm := .none },
  { cls := 14, slots := #[.long 54], vm := .none },
  { cls := 14, slots := #[.long 55], vm := .none },
  { cls := 14, slots := #[.long 56], vm := .none },
  { cls := 14, slots := #[.long 57], vm := .none },
  { cls := 14, slots := #[.long 58], vm := .none },
  { cls := 14, slots := #[.long 59], vm := .none },
  { cls := 14, slots := #[.long 60], vm := .none },
  { cls := 14, slots := #[.long 61], vm := .none },
  { cls := 14, slots := #[.long 62], vm := .none },
  { cls := 14, slots := #[.long 63], vm := .none },
  { cls := 14, slots := #[.long 64], vm := .none },
  { cls := 14, slots := #[.long 65], vm := .none },
  { cls := 14, slots := #[.long 66], vm := .none },
  { cls := 14, slots := #[.long 67], vm := .none },
  { cls := 14, slots := #[.long 68], vm := .none },
  { cls := 14, slots := #[.long 69], vm := .none },
  { cls := 14, slots := #[.long 70], vm := .none },
  { cls := 14, slots := #[.long 71], vm := .none },
  { cls := 14, slots := #[.long 72], vm := .none },
  { cls := 14, slots := #[.long 73], vm := .none },
  { cls := 14, slots := #[.long 74], vm := .none },
  { cls := 14, slots := #[.long 75], vm := .none },
  { cls := 14, slots := #[.long 76], vm := .none },
  { cls := 14, slots := #[.long 77], vm := .none },
  { cls := 14, slots := #[.long 78], vm := .none },
  { cls := 14, slots := #[.long 79], vm := .none },
  { cls := 14, slots := #[.long 80], vm := .none },
  { cls := 14, slots := #[.long 81], vm := .none },
  { cls := 14, slots := #[.long 82], vm := .none },
  { cls := 14, slots := #[.long 83], vm := .none },
  { cls := 14, slots := #[.long 84], vm := .none },
  { cls := 14, slots := #[.long 85], vm := .none },
  { cls := 14, slots := #[.long 86], vm := .none },
  { cls := 14, slots := #[.long 87], vm := .none },
  { cls := 14, slots := #[.long 88], vm := .none },
  { cls := 14, slots := #[.long 89], vm := .none },
  { cls := 14, slots := #[.long 90], vm := .none },
  { cls := 14, slots := #[.long 91], vm := .none },
  { cls := 14, slots := #[.long 92], vm := .none },
  { cls := 14, slots := #[.long 93], vm := .none },
  { cls := 14, slots := #[.long 94], vm := .none },
  { cls := 14, slots := #[.long 95], vm := .none },
  { cls := 14, slots := #[.long 96], vm := .none },
  { cls := 14, slots := #[.long 97], vm := .none },
  { cls := 14, slots := #[.long 98], vm := .none },
  { cls := 14, slots := #[.long 99], vm := .none },
  { cls := 14, slots := #[.long 100], vm := .none },
  { cls := 14, slots := #[.long 101], vm := .none },
  { cls := 14, slots := #[.long 102], vm := .none },
  { cls := 14, slots := #[.long 103], vm := .none },
  { cls := 14, slots := #[.long 104], vm := .none },
  { cls := 14, slots := #[.long 105], vm := .none },
  { cls := 14, slots := #[.long 106], vm := .none },
  { cls := 14, slots := #[.long 107], vm := .none },
  { cls := 14, slots := #[.long 108], vm := .none },
  { cls := 14, slots := #[.long 109], vm := .none },
  { cls := 14, slots := #[.long 110], vm := .none },
  { cls := 14, slots := #[.long 111], vm := .none },
  { cls := 14, slots := #[.long 112], vm := .none },
  { cls := 14, slots := #[.long 113], vm := .none },
  { cls := 14, slots := #[.long 114], vm := .none },
  { cls := 14, slots := #[.long 115], vm := .none },
  { cls := 14, slots := #[.long 116], vm := .none },
  { cls := 14, slots := #[.long 117], vm := .none },
  { cls := 14, slots := #[.long 118], vm := .none },
  { cls := 14, slots := #[.long 119], vm := .none },
  { cls := 14, slots := #[.long 120], vm := .none },
  { cls := 14, slots := #[.long 121], vm := .none },
  { cls := 14, slots := #[.long 122], vm := .none },
  { cls := 14, slots := #[.long 123], vm := .none },
  { cls := 14, slots := #[.long 124], vm := .none },
  { cls := 14, slots := #[.long 125], vm := .none },
  { cls := 14, slots := #[.long 126], vm := .none },
  { cls := 14, slots := #[.long 127], vm := .none },
  { cls := 7, slots := #[.null, .int 0, .int 0], vm := .none },
  { cls := 7, slots := #[.null, .int 1, .int 0], vm := .none },
  { cls := 7, slots := #[.null, .int 2, .int 0], vm := .none },
  { cls := 8, slots := #[.null, .int 0, .int 0], vm := .none },
  { cls := 8, slots := #[.null, .int 1, .int 0], vm := .none },
  { cls := 8, slots := #[.null, .int 2, .int 0], vm := .none }]
def classes : Array Class := #[k0, k1, k2, k3, k4, k5, k6, k7, k8, k9, k10, k11, k12, k13, k14, k15, k16, k17, k18, k19, k20, k21]
def interned : List (Array UInt16 × Addr) := []
def slotsUsed : Nat := 541
def theMethod : MethodId := ⟨1, 3⟩
def args0 : Array Value := #[.long 5, .long 6, .int 7, .int 8, .int 9, .int 0]
def aboutOver (below : List Frame) : State where
  vm := { classes := classes, interned := interned.toArray }
  heap := heap
  slotsUsed := slotsUsed
  threads := #[{ frames := .invoking theMethod args0 :: below }]
def below0 : List Frame := [.native { method := ⟨0, 0⟩, args := #[] }]
def about1 : State := aboutOver below0
def p0 : Program := .bare "" "" ""
def e0 : Env := launch0.env 0 0 0
theorem w_frames : about1.frames = Frame.invoking theMethod args0 :: below0 := rfl
set_option maxRecDepth 65536 in
theorem w_args : argsFit about1.vm theMethod args0 = true := by decide +kernel
set_option maxRecDepth 65536 in
theorem w_heap : heapFits about1 = true := by decide +kernel
set_option maxRecDepth 65536 in
theorem w_runnable : about1.curStatus? = some .runnable := by decide +kernel
set_option maxRecDepth 65536 in
theorem w_alone : about1.alone = true := by decide +kernel
set_option maxRecDepth 65536 in
theorem w_named : about1.methodNamed? x = some theMethod := by decide +kernel
set_option maxRecDepth 65536 in
theorem w_hears : about1.hears theMethod below0 = true := by decide +kernel
set_option maxRecDepth 65536 in
theorem w_ripe : about1.ripe theMethod args0 below0 = true := by decide +kernel
theorem w_running : about1.status = .running := rfl
set_option maxRecDepth 65536 in
theorem w_room : about1.hasRoom e0.platform room_1 = true :=
  launch0.hasRoom_least _ room_1 (by decide +kernel) (by decide +kernel) (by decide +kernel) (by decide +kernel) (by decide +kernel) (by decide +kernel)
theorem allAtoms_all (ts : List Jvm.Cond) (a : Array Jvm.Value) (st : Jvm.State) : (allAtoms ts).before a st = ts.all (fun c => c.before a st) := by
  induction ts with
  | nil => rfl
  | cons c t ih =>
    show (Jvm.Cond.and c (allAtoms t)).before a st = _
    rw [Jvm.Cond.before_and, ih, List.all_cons]
def words1 : List Jvm.Cond := Jvm.Cond.code x code maxLocals ret :: tables_1
/-- a 'code' word, met by the world's own term for the bytes: nothing is compared byte by byte -/
theorem code_word {y : MethodName} {bytes : ByteArray} {mx : Nat} {rt : Option FieldType} {a : Array Value} {s : State} {m : MethodId} {meth : Method} {c : Code} (h1 : s.methodNamed? y = some m) (h2 : s.vm.method? m = some meth) (h3 : meth.code = some c) (h4 : c.code = bytes)
    (h5 : (c.maxLocals == mx && c.exceptionTable.isEmpty && decide (c.maxStack ≤ mostOperands) && decide (meth.sig.returnType = rt) && !meth.locks && decide (parseMethodDescriptor y.desc = some meth.sig)) = true) : (Jvm.Cond.code y bytes mx rt).before a s = true := by
  simp only [Bool.and_eq_true, beq_iff_eq, Bool.not_eq_true', decide_eq_true_eq] at h5
  obtain ⟨⟨⟨⟨⟨g1, g2⟩, g3⟩, g4⟩, g5⟩, g6⟩ := h5
  simp [Cond.before, Cond.holds, Cond.value, h1, h2, h3, h4, g1, g2, g3, g4, g5, g6]
def isCode : Jvm.Cond → Bool
  | .code _ _ _ _ => true
  | _ => false
theorem all_split {L : List Jvm.Cond} {P : Jvm.Cond → Bool} (h1 : L.all (fun c => isCode c || P c) = true) (h2 : ∀ c ∈ L.filter isCode, P c = true) : L.all P = true := by
  refine List.all_eq_true.mpr fun c hc => ?_
  have h := List.all_eq_true.mp h1 c hc
  rcases Bool.eq_false_or_eq_true (isCode c) with hi | hi
  · exact h2 c (List.mem_filter.mpr ⟨hc, hi⟩)
  · simpa [hi] using h
set_option maxRecDepth 65536 in
theorem w_c0 : (Jvm.Cond.code x code maxLocals ret).before args0 about1 = true := code_word (m := ⟨1, 3⟩) (meth := k1m3) (c := k1c3) (by decide +kernel) rfl rfl rfl (by decide +kernel)
set_option maxRecDepth 65536 in
theorem w_c1 : (Jvm.Cond.code ({ cls := "com/example/fenced_widget/fencedwidget/fence/TraceEventEqualsPinLaw", name := "type", desc := "(I)Lcom/example/fenced_widget/fencedwidget/protocol/InputType;" } : Jvm.MethodName) method_2_code (1 : Nat) (Option.some (Jvm.ClassFile.FieldType.object "com/example/fenced_widget/fencedwidget/protocol/InputType"))).before args0 about1 = true := code_word (m := ⟨1, 1⟩) (meth := k1m1) (c := k1c1) (by decide +kernel) rfl rfl rfl (by decide +kernel)
set_option maxRecDepth 65536 in
theorem w_c2 : (Jvm.Cond.code ({ cls := "com/example/fenced_widget/fencedwidget/fence/TraceEventEqualsPinLaw", name := "button", desc := "(I)Lcom/example/fenced_widget/fencedwidget/protocol/Button;" } : Jvm.MethodName) method_3_code (1 : Nat) (Option.some (Jvm.ClassFile.FieldType.object "com/example/fenced_widget/fencedwidget/protocol/Button"))).before args0 about1 = true := code_word (m := ⟨1, 2⟩) (meth := k1m2) (c := k1c2) (by decide +kernel) rfl rfl rfl (by decide +kernel)
set_option maxRecDepth 65536 in
theorem w_c3 : (Jvm.Cond.code ({ cls := "com/example/fenced_widget/fencedwidget/fence/TraceEvent", name := "<init>", desc := "(JLcom/example/fenced_widget/fencedwidget/protocol/InputType;IILcom/example/fenced_widget/fencedwidget/protocol/Button;)V" } : Jvm.MethodName) prog_14_method_1_code (7 : Nat) (Option.none : Option Jvm.ClassFile.FieldType)).before args0 about1 = true := code_word (m := ⟨2, 0⟩) (meth := k2m0) (c := k2c0) (by decide +kernel) rfl rfl rfl (by decide +kernel)
set_option maxRecDepth 65536 in
theorem w_c4 : (Jvm.Cond.code ({ cls := "java/lang/Object", name := "<init>", desc := "()V" } : Jvm.MethodName) object_method_1_code (1 : Nat) (Option.none : Option Jvm.ClassFile.FieldType)).before args0 about1 = true := code_word (m := ⟨0, 0⟩) (meth := k0m0) (c := k0c0) (by decide +kernel) rfl rfl rfl (by decide +kernel)
set_option maxRecDepth 65536 in
theorem w_c5 : (Jvm.Cond.code ({ cls := "java/util/Objects", name := "requireNonNull", desc := "(Ljava/lang/Object;Ljava/lang/String;)Ljava/lang/Object;" } : Jvm.MethodName) jdk_31_method_11_code (2 : Nat) (Option.some (Jvm.ClassFile.FieldType.object "java/lang/Object"))).before args0 about1 = true := code_word (m := ⟨12, 1⟩) (meth := k12m1) (c := k12c1) (by decide +kernel) rfl rfl rfl (by decide +kernel)
set_option maxRecDepth 65536 in
theorem w_c6 : (Jvm.Cond.code ({ cls := "com/example/fenced_widget/fencedwidget/fence/TraceEvent", name := "equals", desc := "(Ljava/lang/Object;)Z" } : Jvm.MethodName) prog_14_method_10_code (3 : Nat) (Option.some Jvm.ClassFile.FieldType.boolean)).before args0 about1 = true := code_word (m := ⟨2, 1⟩) (meth := k2m1) (c := k2c1) (by decide +kernel) rfl rfl rfl (by decide +kernel)
set_option maxRecDepth 65536 in
theorem w_c7 : (Jvm.Cond.code ({ cls := "java/lang/Long", name := "valueOf", desc := "(J)Ljava/lang/Long;" } : Jvm.MethodName) jdk_35_method_24_code (3 : Nat) (Option.some (Jvm.ClassFile.FieldType.object "java/lang/Long"))).before args0 about1 = true := code_word (m := ⟨14, 0⟩) (meth := k14m0) (c := k14c0) (by decide +kernel) rfl rfl rfl (by decide +kernel)
set_option maxRecDepth 65536 in
theorem w_c8 : (Jvm.Cond.code ({ cls := "java/lang/Long", name := "<init>", desc := "(J)V" } : Jvm.MethodName) jdk_35_method_26_code (3 : Nat) (Option.none : Option Jvm.ClassFile.FieldType)).before args0 about1 = true := code_word (m := ⟨14, 1⟩) (meth := k14m1) (c := k14c1) (by decide +kernel) rfl rfl rfl (by decide +kernel)
set_option maxRecDepth 65536 in
theorem w_c9 : (Jvm.Cond.code ({ cls := "java/lang/Number", name := "<init>", desc := "()V" } : Jvm.MethodName) jdk_18_method_1_code (1 : Nat) (Option.none : Option Jvm.ClassFile.FieldType)).before args0 about1 = true := code_word (m := ⟨13, 0⟩) (meth := k13m0) (c := k13c0) (by decide +kernel) rfl rfl rfl (by decide +kernel)
def codes1 : List Jvm.Cond := [Jvm.Cond.code x code maxLocals ret, Jvm.Cond.code ({ cls := "com/example/fenced_widget/fencedwidget/fence/TraceEventEqualsPinLaw", name := "type", desc := "(I)Lcom/example/fenced_widget/fencedwidget/protocol/InputType;" } : Jvm.MethodName) method_2_code (1 : Nat) (Option.some (Jvm.ClassFile.FieldType.object "com/example/fenced_widget/fencedwidget/protocol/InputType")), Jvm.Cond.code ({ cls := "com/example/fenced_widget/fencedwidget/fence/TraceEventEqualsPinLaw", name := "button", desc := "(I)Lcom/example/fenced_widget/fencedwidget/protocol/Button;" } : Jvm.MethodName) method_3_code (1 : Nat) (Option.some (Jvm.ClassFile.FieldType.object "com/example/fenced_widget/fencedwidget/protocol/Button")), Jvm.Cond.code ({ cls := "com/example/fenced_widget/fencedwidget/fence/TraceEvent", name := "<init>", desc := "(JLcom/example/fenced_widget/fencedwidget/protocol/InputType;IILcom/example/fenced_widget/fencedwidget/protocol/Button;)V" } : Jvm.MethodName) prog_14_method_1_code (7 : Nat) (Option.none : Option Jvm.ClassFile.FieldType), Jvm.Cond.code ({ cls := "java/lang/Object", name := "<init>", desc := "()V" } : Jvm.MethodName) object_method_1_code (1 : Nat) (Option.none : Option Jvm.ClassFile.FieldType), Jvm.Cond.code ({ cls := "java/util/Objects", name := "requireNonNull", desc := "(Ljava/lang/Object;Ljava/lang/String;)Ljava/lang/Object;" } : Jvm.MethodName) jdk_31_method_11_code (2 : Nat) (Option.some (Jvm.ClassFile.FieldType.object "java/lang/Object")), Jvm.Cond.code ({ cls := "com/example/fenced_widget/fencedwidget/fence/TraceEvent", name := "equals", desc := "(Ljava/lang/Object;)Z" } : Jvm.MethodName) prog_14_method_10_code (3 : Nat) (Option.some Jvm.ClassFile.FieldType.boolean), Jvm.Cond.code ({ cls := "java/lang/Long", name := "valueOf", desc := "(J)Ljava/lang/Long;" } : Jvm.MethodName) jdk_35_method_24_code (3 : Nat) (Option.some (Jvm.ClassFile.FieldType.object "java/lang/Long")), Jvm.Cond.code ({ cls := "java/lang/Long", name := "<init>", desc := "(J)V" } : Jvm.MethodName) jdk_35_method_26_code (3 : Nat) (Option.none : Option Jvm.ClassFile.FieldType), Jvm.Cond.code ({ cls := "java/lang/Number", name := "<init>", desc := "()V" } : Jvm.MethodName) jdk_18_method_1_code (1 : Nat) (Option.none : Option Jvm.ClassFile.FieldType)]
set_option maxRecDepth 65536 in
theorem codes_eq : words1.filter isCode = codes1 := rfl
theorem w_codes : ∀ c ∈ words1.filter isCode, c.before args0 about1 = true := by
  rw [codes_eq]
  intro c hc
  simp only [codes1, List.mem_cons, List.not_mem_nil, or_false] at hc
  rcases hc with rfl | rfl | rfl | rfl | rfl | rfl | rfl | rfl | rfl | rfl
  · exact w_c0
  · exact w_c1
  · exact w_c2
  · exact w_c3
  · exact w_c4
  · exact w_c5
  · exact w_c6
  · exact w_c7
  · exact w_c8
  · exact w_c9
set_option maxRecDepth 65536 in
theorem w_t1 : (words1.take 24).all (fun c => isCode c || c.before args0 about1) = true := by decide +kernel
set_option maxRecDepth 65536 in
theorem w_t2 : ((words1.drop 24).take 24).all (fun c => isCode c || c.before args0 about1) = true := by decide +kernel
set_option maxRecDepth 65536 in
theorem w_t3 : (((words1.drop 24).drop 24).take 24).all (fun c => isCode c || c.before args0 about1) = true := by decide +kernel
set_option maxRecDepth 65536 in
theorem w_t4 : (((words1.drop 24).drop 24).drop 24).all (fun c => isCode c || c.before args0 about1) = true := by decide +kernel
theorem w_tables : (allAtoms (Jvm.Cond.code x code maxLocals ret :: tables_1)).before args0 about1 = true := by
  rw [allAtoms_all]
  show words1.all (fun c => c.before args0 about1) = true
  refine all_split ?_ w_codes
  rw [← List.take_append_drop 24 words1, List.all_append, w_t1, ← List.take_append_drop 24 (words1.drop 24), List.all_append, w_t2, ← List.take_append_drop 24 ((words1.drop 24).drop 24), List.all_append, w_t3, w_t4]
  rfl
set_option maxRecDepth 65536 in
theorem w_rest : rest_1_c.before args0 about1 = true := by decide +kernel
set_option maxRecDepth 65536 in
theorem w_case : (Jvm.Cond.and given_1 narrow_1).before args0 about1 = true := by decide +kernel
theorem w_applies : (headSpec (Jvm.Cond.code x code maxLocals ret :: tables_1) room_1).applies x e0.platform about1 = true :=
  (Spec.applies_iff w_frames).mpr ⟨w_running, w_runnable, w_alone, w_named, w_hears, w_ripe, w_room, w_tables⟩
theorem atStart : AtStart classFile x code maxLocals ret World_1 tables_1 room_1 Calls_1 rest_1 Pre_1 launch0 p0 e0 about1 theMethod args0 below0 :=
  ⟨lists_1, trivial, launch0.admits_env _ _ _, launch0.least_env, fairChoices_fair.cas, fairChoices_fair.clock, w_frames, w_args, w_heap, w_applies, trivial, w_rest, w_case⟩
end start1
theorem witness_1 : WitnessClaimed_1 := ⟨start1.p0, start1.e0, start1.about1, start1.theMethod, start1.args0, start1.below0, start1.atStart⟩
end Jvm.Pilot.@@N@@
