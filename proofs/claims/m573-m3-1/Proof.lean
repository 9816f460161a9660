import JvmDerived
import JvmDerived.Pilot.@@N@@Statement
import JvmDerived.Pilot.@@N@@Code
set_option linter.unusedVariables false
set_option linter.unusedSimpArgs false
namespace Jvm.Pilot.@@N@@
open Jvm Jvm.ClassFile Sem Op Lib Jvm.Free Jvm.Stand Jvm.LawKit Jvm.RoadKit Bundle Jvm.Pilot.@@N@@.Jvm.D
/-! own: the walk's goal, read backwards -/
def Go (tb : Tables) (e : Env) (below : List Frame) (F : State → Outcome → Prop) (A : State) : Prop := ∃ t o, Steps tb e below A t ∧ F t o
def Fin (below : List Frame) (s : State) (Q : Option Value → Heap → List Loc → Prop) (k n : Nat) (t : State) (o : Outcome) : Prop := t.status = .running ∧ Ended t below o ∧ ∃ v L, o = .returned v ∧ Q v t.heap L ∧ FrameEnd s o t L k n
theorem go {tb : Tables} {e : Env} {below : List Frame} {F : State → Outcome → Prop} {A B : State} (st : ∀ t, Steps tb e below B t → Steps tb e below A t) (h : Go tb e below F B) : Go tb e below F A := by
  obtain ⟨t, o, h1, h2⟩ := h
  exact ⟨t, o, st t h1, h2⟩
theorem go_in {p : Program} {e : Env} {below : List Frame} {s s₁ : State} {Q : Option Value → Heap → List Loc → Prop} {k n : Nat} {A : State} (h : ∀ F : State → Outcome → Prop, (∀ t o, Fin below s Q k n t o → F t o) → Go p.tables e below F A) :
    ∃ t o, Steps p.tables e below A t ∧ t.status = .running ∧ Ended t below o ∧ ∃ v L, o = .returned v ∧ Q v t.heap L ∧ FrameEnd s o t L k n := by
  obtain ⟨t, o, h1, h2, h3, h4⟩ := h (Fin below s Q k n) (fun _ _ h => h)
  exact ⟨t, o, h1, h2, h3, h4⟩
theorem own_fld {s : State} {args : Array Value} {t : Term} {C n d : String} {a : Addr} {k : Int32} (ev : t.eval args s none [] s = some (.ref a)) (h : (Cond.eq (.field t C n d) (.int k)).value args s none s [] = some true) : Fld s s.heap a C n d (.int k) := Fld.start ((fld_at ev).symm.trans (eqv_i (Term.int_eval k) h))
def NSt (h : Heap) (x : Addr) : Prop := ∃ c : Cell, h[x]? = some c ∧ c.vm.isStatics = false
theorem own_sta_keep {Z : State} {h h' : Heap} {C n d : String} {v : Value} {ws : List Addr} (F : Sta Z h C n d v) (K : Keep h h' ws) (q : ∀ x ∈ ws, NSt h x) : Sta Z h' C n d v := by
  obtain ⟨cf, i, k, f, st, cell, h1, h2, h3, h4, h5, h6, h7⟩ := F
  refine ⟨cf, i, k, f, st, cell, h1, h2, h3, h4, K.2.1 _ _ h5 (fun z => ?_), h6, h7⟩
  obtain ⟨c, g1, g2⟩ := q _ z
  cases h5.symm.trans g1
  rw [h6] at g2; cases g2
end Jvm.Pilot.@@N@@
namespace Jvm.RoadKit
theorem Exa.ns {Z : State} {h : Heap} {a : Addr} {C : String} (F : Exa Z h a C) : Jvm.Pilot.@@N@@.NSt h a := by
  obtain ⟨c, _, h1, -, -, h4, -⟩ := F; exact ⟨c, h1, h4⟩
theorem Arv.ns {Z : State} {h : Heap} {a : Addr} {k : ClassId} {ty : ClassFile.FieldType} {z : Int32} {vs : List Value} {dv : Value} (F : Arv Z h a k ty z vs dv) : Jvm.Pilot.@@N@@.NSt h a := by
  obtain ⟨c, A, -⟩ := F; exact ⟨c, A.1, A.plain⟩
end Jvm.RoadKit
namespace Jvm.Pilot.@@N@@
open Jvm Jvm.ClassFile Sem Op Lib Jvm.Free Jvm.Stand Jvm.LawKit Jvm.RoadKit Bundle Jvm.Pilot.@@N@@.Jvm.D
theorem own_no {Z : State} {aw : Array Value} {X Y : String} {t : List String} {n : Nat} (hwc : ∀ w ∈ Cond.chainWords (X :: t), w.before aw Z = true) (wi : (Cond.instantiable Y n).before aw Z = true) (hn : Y ∉ X :: t) : ∃ c t, Z.vm.findClass X = some c ∧ Z.vm.findClass Y = some t ∧ Z.vm.assignable c t = false := by
  obtain ⟨cy, ky, hy1, hy2, hy3, hy4, -⟩ := Cond.instantiable_spec wi
  obtain ⟨cx, k, hx, -⟩ := Cond.chain_head hwc
  exact ⟨cx, cy, hx, hy1, Vm.notAssignable_of_chain hx hy1 hy2 hy3 (Bool.or_eq_false_iff.mp hy4).1 hwc hn⟩
theorem own_selp {Z s : State} {aw args : Array Value} {y : MethodName} {n : Nat} (hZ : Z.Warmed39 s.vm) (wi : (Cond.instantiable y.cls n).before aw Z = true) (wp : (Cond.privateMethod y).before aw Z = true) (wm : (Cond.instanceMethod y).before aw Z = true) (hy : y.cls ≠ "java/lang/invoke/MethodHandle" ∧ y.cls ≠ "java/lang/invoke/VarHandle") : (Cond.selects y.cls y y).before args s = true := by
  obtain ⟨c, k, h1, h2, -, h4, -⟩ := Cond.instantiable_spec (mvT (args := args) hZ wi)
  exact selects_self_of_private h1 h2 (Bool.or_eq_false_iff.mp h4).1 (Cond.privateMethod_at (mvP hZ wp (args := args))) (mvT hZ wm) hy
section Ends
variable {p : Program} {l : Launch} {e : Env} {R : Room} {s : State} {m : MethodId} {args : Array Value} {below : List Frame} {meth : Method} {c : Code} {T : State} {locs : List Loc} {cells slots : Nat} {F : State → Outcome → Prop} {Q : Option Value → Heap → List Loc → Prop} {k n : Nat} {pc : Nat} {Ls : Array Slot} {rest : List Value} {h : Heap}
/-- the end of a walk: what is returned, what the heap says -/
theorem go_end (X : Stand p l e R s m args below meth c T locs cells slots) (hlk : meth.locks = false) (hF : ∀ t o, Fin below s Q k n t o → F t o) (eT : T.heap = h) (hk : cells ≤ k) (hn : slots ≤ n) {v : Option Value} (hv : meth.sig.returnType = none → v = none) (hQ : Q v h locs) {A : State}
    (hs : ∀ fs, (∀ (f : JFrame) (acts : List Action), f.method = m → f.locked = none → f.entered = [] → (doReturn e (T.setTop f) acts v).1 = T.setFrames fs) → Steps p.tables e below A (T.setFrames fs)) : Go p.tables e below F A := by
  obtain ⟨fs, hr, hrun, hended, hW, hsame⟩ := X.leave (v := v) hv hlk
  subst eT
  exact ⟨_, _, hs fs hr, hF _ _ ⟨hrun, hended, _, _, rfl, hQ, ⟨_, rfl⟩, hW, hsame.mono hk hn⟩⟩
theorem end_void (X : Stand p l e R s m args below meth c T locs cells slots) (hx : p.tables.exec = Jvm.exec) (hlk : meth.locks = false) (hret : meth.sig.returnType = none) (hd : decode c.code pc = .ok (.return_, 1)) (hF : ∀ t o, Fin below s Q k n t o → F t o) (eT : T.heap = h) (hk : cells ≤ k) (hn : slots ≤ n) (hQ : Q none h locs) : Go p.tables e below F (T.setTop (mkF m pc Ls [])) :=
  go_end X hlk hF eT hk hn (fun _ => rfl) hQ fun fs hr => X.returnOut hx hret hd hr
theorem end_nar {z : Int32} {t : FieldType} (X : Stand p l e R s m args below meth c T locs cells slots) (hx : p.tables.exec = Jvm.exec) (hlk : meth.locks = false) (hret : meth.sig.returnType = some t) (ht : t = .boolean ∨ t = .byte ∨ t = .char ∨ t = .short) (hd : decode c.code pc = .ok (.ireturn, 1)) (hF : ∀ t o, Fin below s Q k n t o → F t o) (eT : T.heap = h) (hk : cells ≤ k) (hn : slots ≤ n) (hQ : Q (some (.int (nar t z))) h locs) : Go p.tables e below F (T.setTop (mkF m pc Ls (.int z :: rest))) :=
  go_end X hlk hF eT hk hn (fun h => by rw [hret] at h; cases h) hQ fun fs hr => retN X hx hret ht hd hr
theorem end_int {z : Int32} (X : Stand p l e R s m args below meth c T locs cells slots) (hx : p.tables.exec = Jvm.exec) (hlk : meth.locks = false) (hret : meth.sig.returnType = some .int) (hd : decode c.code pc = .ok (.ireturn, 1)) (hF : ∀ t o, Fin below s Q k n t o → F t o) (eT : T.heap = h) (hk : cells ≤ k) (hn : slots ≤ n) (hQ : Q (some (.int z)) h locs) : Go p.tables e below F (T.setTop (mkF m pc Ls (.int z :: rest))) :=
  go_end X hlk hF eT hk hn (fun h => by rw [hret] at h; cases h) hQ fun fs hr => retOut X hx hret rfl (Or.inl ⟨rfl, Or.inl rfl, _, rfl⟩) hd hr
theorem end_long {z : Int64} (X : Stand p l e R s m args below meth c T locs cells slots) (hx : p.tables.exec = Jvm.exec) (hlk : meth.locks = false) (hret : meth.sig.returnType = some .long) (hd : decode c.code pc = .ok (.lreturn, 1)) (hF : ∀ t o, Fin below s Q k n t o → F t o) (eT : T.heap = h) (hk : cells ≤ k) (hn : slots ≤ n) (hQ : Q (some (.long z)) h locs) : Go p.tables e below F (T.setTop (mkF m pc Ls (.long z :: rest))) :=
  go_end X hlk hF eT hk hn (fun h => by rw [hret] at h; cases h) hQ fun fs hr => retOut X hx hret rfl (Or.inr (Or.inl ⟨rfl, rfl, _, rfl⟩)) hd hr
theorem end_ref {w : Value} {t : FieldType} (X : Stand p l e R s m args below meth c T locs cells slots) (hx : p.tables.exec = Jvm.exec) (hlk : meth.locks = false) (hret : meth.sig.returnType = some t) (ht : t.isReference = true) (hw : w.isRef = true) (hnr : narrow t w = w) (hd : decode c.code pc = .ok (.areturn, 1)) (hF : ∀ t o, Fin below s Q k n t o → F t o) (eT : T.heap = h) (hk : cells ≤ k) (hn : slots ≤ n) (hQ : Q (some w) h locs) : Go p.tables e below F (T.setTop (mkF m pc Ls (w :: rest))) :=
  go_end X hlk hF eT hk hn (fun h => by rw [hret] at h; cases h) hQ fun fs hr => retOut X hx hret hnr (Or.inr (Or.inr (Or.inr (Or.inr ⟨rfl, ht, hw⟩)))) hd hr
end Ends
theorem d1_0 : decode prog_50_method_2_code 0 = .ok (.lload_n 0, 1) := by decide +kernel
theorem d1_1 : decode prog_50_method_2_code 1 = .ok (.bipush 56, 2) := by decide +kernel
theorem d1_3 : decode prog_50_method_2_code 3 = .ok (.lshl, 1) := by decide +kernel
theorem d1_4 : decode prog_50_method_2_code 4 = .ok (.lload_n 2, 1) := by decide +kernel
theorem d1_5 : decode prog_50_method_2_code 5 = .ok (.bipush 16, 2) := by decide +kernel
theorem d1_7 : decode prog_50_method_2_code 7 = .ok (.lshl, 1) := by decide +kernel
theorem d1_8 : decode prog_50_method_2_code 8 = .ok (.ldc2_w 59, 3) := by decide +kernel
theorem d1_11 : decode prog_50_method_2_code 11 = .ok (.land, 1) := by decide +kernel
theorem d1_12 : decode prog_50_method_2_code 12 = .ok (.lconst 1, 1) := by decide +kernel
theorem d1_13 : decode prog_50_method_2_code 13 = .ok (.ladd, 1) := by decide +kernel
theorem d1_14 : decode prog_50_method_2_code 14 = .ok (.lor, 1) := by decide +kernel
theorem d1_15 : decode prog_50_method_2_code 15 = .ok (.lreturn, 1) := by decide +kernel
theorem pn_1 : plainName "com/example/quorumtree/quorumtree/core/Sessions" = true := by first | (simp [plainName, overriddenIn]; done) | decide +kernel
theorem ef_1 (m : MethodId) (q0 : Int64) (q1 : Int64) : entryFrame m #[(.long q0), (.long q1)] 4 = mkF m 0 #[.val (.long q0), .second, .val (.long q1), .second] [] := by first | (simp [entryFrame, mkF, argsToLocals, Value.category]; done) | rfl
def f1_t0 (q0 : Int64) (q1 : Int64) : Int64 := ((q0 <<< ((56 : Int32) &&& 0x3f).toInt64) ||| (((q1 <<< ((16 : Int32) &&& 0x3f).toInt64) &&& (72057594037927935 : Int64)) + (1 : Int64)))
def f1 (q0 : Int64) (q1 : Int64) : Int64 := (f1_t0 q0 q1)
abbrev room1 : Room := { frames := 0, cells := 0, slots := 0, locals := 0 }
def Q1 (Z : State) (q0 : Int64) (q1 : Int64) (h0 : Heap) (n0 : Nat) (v : Option Value) (h : Heap) (L : List Loc) : Prop := v = some (.long (f1 q0 q1)) ∧ L = [] ∧ h = h0
set_option maxRecDepth 65536 in
set_option maxHeartbeats 40000000 in
theorem rm1 (l : Launch) (Z : State) (aw : Array Value) (hw : ∀ d ∈ tables_1, d.before aw Z = true) (ws : List Jvm.Cond) (q0 : Int64) (q1 : Int64) (h0 : Heap) (n0 : Nat) (Z0 : n0 ≤ h0.size) :
    MetFree l (⟨"com/example/quorumtree/quorumtree/core/Sessions", "firstId", "(JJ)J"⟩ : MethodName) (head1 (Jvm.Cond.code (⟨"com/example/quorumtree/quorumtree/core/Sessions", "firstId", "(JJ)J"⟩ : MethodName) prog_50_method_2_code 4 (some .long) :: ws) room1) (fun a U => a = #[(.long q0), (.long q1)] ∧ Z.Warmed39 U.vm ∧ U.heap = h0) (fun _ _ _ _ _ => True) (fun _ U o U' => ∃ v L, o = .returned v ∧ Q1 Z q0 q1 h0 n0 v U'.heap L ∧ FrameEnd U o U' L room1.cells room1.slots) := by
  refine MetFree.of_bodySF (plainFor_of_name pn_1) hisR ?_
  intro p e s m args below meth c s₁ Bd hml0 hP hK
  obtain ⟨rfl, hZ, hh⟩ := hP
  have hx := Bd.exec
  have hby := Bd.bytes
  have hml : c.maxLocals = 4 := hml0
  have hown : s.vm.findClass "com/example/quorumtree/quorumtree/core/Sessions" = some m.cls := findClass_of_methodNamed Bd.named
  have hnm := (name_of_methodNamed Bd.named Bd.method).1
  have X0 : Stand p l e room1 s m #[(.long q0), (.long q1)] below meth c s₁ [] 0 0 := Stand.of_body Bd
  have e0 : s₁.heap = h0 := by rw [← hh, Bd.state]; rfl
  have N0 := Fr.nil n0
  rw [ef_1 m q0 q1]
  refine go_in (s₁ := s₁) (Q := Q1 Z q0 q1 h0 n0) fun F hF => ?_
  refine go (B := s₁.setTop (mkF m 1 #[.val (.long q0), .second, .val (.long q1), .second] [(.long q0)])) (fun _ k => XS.lloadN X0.here hx rfl (hb hby d1_0) rfl k) ?_
  refine go (B := s₁.setTop (mkF m 3 #[.val (.long q0), .second, .val (.long q1), .second] [(.int (56 : Int32)), (.long q0)])) (fun _ k => XS.bipush X0.here hx rfl (hb hby d1_1) k) ?_
  refine go (B := s₁.setTop (mkF m 4 #[.val (.long q0), .second, .val (.long q1), .second] [(.long (q0 <<< ((56 : Int32) &&& 0x3f).toInt64))])) (fun _ k => XS.lshl X0.here hx rfl (hb hby d1_3) rfl k) ?_
  refine go (B := s₁.setTop (mkF m 5 #[.val (.long q0), .second, .val (.long q1), .second] [(.long q1), (.long (q0 <<< ((56 : Int32) &&& 0x3f).toInt64))])) (fun _ k => XS.lloadN X0.here hx rfl (hb hby d1_4) rfl k) ?_
  refine go (B := s₁.setTop (mkF m 7 #[.val (.long q0), .second, .val (.long q1), .second] [(.int (16 : Int32)), (.long q1), (.long (q0 <<< ((56 : Int32) &&& 0x3f).toInt64))])) (fun _ k => XS.bipush X0.here hx rfl (hb hby d1_5) k) ?_
  refine go (B := s₁.setTop (mkF m 8 #[.val (.long q0), .second, .val (.long q1), .second] [(.long (q1 <<< ((16 : Int32) &&& 0x3f).toInt64)), (.long (q0 <<< ((56 : Int32) &&& 0x3f).toInt64))])) (fun _ k => XS.lshl X0.here hx rfl (hb hby d1_7) rfl k) ?_
  refine go (B := s₁.setTop (mkF m 11 #[.val (.long q0), .second, .val (.long q1), .second] [(.long (72057594037927935 : Int64)), (.long (q1 <<< ((16 : Int32) &&& 0x3f).toInt64)), (.long (q0 <<< ((56 : Int32) &&& 0x3f).toInt64))])) (fun _ k => X0.ldc2Long hx hown (mvT hZ (hw _ (List.mem_of_getElem? (i := 4) rfl))) (g := (mkF m 8 #[.val (.long q0), .second, .val (.long q1), .second] [(.long (q1 <<< ((16 : Int32) &&& 0x3f).toInt64)), (.long (q0 <<< ((56 : Int32) &&& 0x3f).toInt64))])) rfl (hb hby d1_8) _ k) ?_
  refine go (B := s₁.setTop (mkF m 12 #[.val (.long q0), .second, .val (.long q1), .second] [(.long ((q1 <<< ((16 : Int32) &&& 0x3f).toInt64) &&& (72057594037927935 : Int64))), (.long (q0 <<< ((56 : Int32) &&& 0x3f).toInt64))])) (fun _ k => XS.land X0.here hx rfl (hb hby d1_11) rfl k) ?_
  refine go (B := s₁.setTop (mkF m 13 #[.val (.long q0), .second, .val (.long q1), .second] [(.long (1 : Int64)), (.long ((q1 <<< ((16 : Int32) &&& 0x3f).toInt64) &&& (72057594037927935 : Int64))), (.long (q0 <<< ((56 : Int32) &&& 0x3f).toInt64))])) (fun _ k => XS.lconst X0.here hx rfl (hb hby d1_12) k) ?_
  refine go (B := s₁.setTop (mkF m 14 #[.val (.long q0), .second, .val (.long q1), .second] [(.long (((q1 <<< ((16 : Int32) &&& 0x3f).toInt64) &&& (72057594037927935 : Int64)) + (1 : Int64))), (.long (q0 <<< ((56 : Int32) &&& 0x3f).toInt64))])) (fun _ k => XS.ladd X0.here hx rfl (hb hby d1_13) rfl k) ?_
  refine go (B := s₁.setTop (mkF m 15 #[.val (.long q0), .second, .val (.long q1), .second] [(.long (f1_t0 q0 q1))])) (fun _ k => XS.lor X0.here hx rfl (hb hby d1_14) rfl k) ?_
  have r1 : (f1 q0 q1) = (f1_t0 q0 q1) := by unfold f1; rfl
  exact end_long X0 hx Bd.notSynchronized Bd.returns (hb hby d1_15) hF e0 (by decide) (by decide) ⟨(congrArg (fun z => some (Value.long z)) r1.symm), rfl, rfl⟩
theorem pd_0 : parseMethodDescriptor "(JJ)J" = some ⟨[.long, .long], some .long⟩ := by decide +kernel
theorem pn_0 : plainName "com/example/quorumtree/quorumtree/core/SessionsFirstIdPinLaw" = true := by first | (simp [plainName, overriddenIn]; done) | decide +kernel
theorem ef_0 (m : MethodId) (q0 : Int64) (q1 : Int64) : entryFrame m #[(.long q0), (.long q1)] maxLocals = mkF m 0 #[.val (.long q0), .second, .val (.long q1), .second, .unset, .unset, .unset, .unset, .unset] [] := by first | (simp [entryFrame, mkF, argsToLocals, Value.category, maxLocals]; done) | rfl
def f0_z0 (q0 : Int64) (q1 : Int64) : Int32 := if (lcmpW (((f1 q0 q1).toUInt64 >>> ((56 : Int32) &&& 0x3f).toInt64.toUInt64).toInt64) (q0 &&& (255 : Int64))) = (0 : Int32) then (1 : Int32) else (0 : Int32)
def f0_z1 (q0 : Int64) (q1 : Int64) : Int32 := if (lcmpW ((f1 q0 q1) &&& (65535 : Int64)) (1 : Int64)) = (0 : Int32) then (1 : Int32) else (0 : Int32)
def f0_t2 (q0 : Int64) (q1 : Int64) : Int64 := ((((f1 q0 q1).toUInt64 >>> ((16 : Int32) &&& 0x3f).toInt64.toUInt64).toInt64) &&& (1099511627775 : Int64))
def f0_z3 (q0 : Int64) (q1 : Int64) : Int32 := if (lcmpW (f0_t2 q0 q1) (q1 &&& (1099511627775 : Int64))) = (0 : Int32) then (1 : Int32) else (0 : Int32)
def f0 (q0 : Int64) (q1 : Int64) : Int32 := if (f0_z0 q0 q1) = (0 : Int32) then (0 : Int32) else if (f0_z1 q0 q1) = (0 : Int32) then (0 : Int32) else if (f0_z3 q0 q1) = (0 : Int32) then (0 : Int32) else if (lcmpW (f1 q0 q1) (0 : Int64)) = (0 : Int32) then (0 : Int32) else (1 : Int32)
theorem own_ext {x y : Int64} (h : x.toBitVec.toNat = y.toBitVec.toNat) : x = y := Int64.toBitVec_inj.mp (BitVec.eq_of_toNat_eq h)
theorem own_and (x y : Int64) : (x &&& y).toBitVec.toNat = x.toBitVec.toNat &&& y.toBitVec.toNat := by
  rw [Int64.toBitVec_and, BitVec.toNat_and]
theorem own_or (x y : Int64) : (x ||| y).toBitVec.toNat = x.toBitVec.toNat ||| y.toBitVec.toNat := by
  rw [Int64.toBitVec_or, BitVec.toNat_or]
theorem own_add (x y : Int64) : (x + y).toBitVec.toNat = (x.toBitVec.toNat + y.toBitVec.toNat) % 2 ^ 64 := by
  rw [Int64.toBitVec_add, BitVec.toNat_add]
theorem own_shl56 (x : Int64) : (x <<< ((56 : Int32) &&& 0x3f).toInt64).toBitVec.toNat = (x.toBitVec.toNat * 2 ^ 56) % 2 ^ 64 := by
  rw [Int64.toBitVec_shiftLeft, show ((((56 : Int32) &&& 0x3f).toInt64).toBitVec.smod 64) = 56#64 from by decide, BitVec.shiftLeft_eq', BitVec.toNat_shiftLeft, Nat.shiftLeft_eq]; rfl
theorem own_shl16 (x : Int64) : (x <<< ((16 : Int32) &&& 0x3f).toInt64).toBitVec.toNat = (x.toBitVec.toNat * 2 ^ 16) % 2 ^ 64 := by
  rw [Int64.toBitVec_shiftLeft, show ((((16 : Int32) &&& 0x3f).toInt64).toBitVec.smod 64) = 16#64 from by decide, BitVec.shiftLeft_eq', BitVec.toNat_shiftLeft, Nat.shiftLeft_eq]; rfl
theorem own_shr56 (x : Int64) : ((x.toUInt64 >>> ((56 : Int32) &&& 0x3f).toInt64.toUInt64).toInt64).toBitVec.toNat = x.toBitVec.toNat / 2 ^ 56 := by
  show (x.toUInt64 >>> ((56 : Int32) &&& 0x3f).toInt64.toUInt64).toBitVec.toNat = _
  rw [UInt64.toBitVec_shiftRight, show ((((56 : Int32) &&& 0x3f).toInt64.toUInt64).toBitVec % 64) = 56#64 from by decide, BitVec.ushiftRight_eq', BitVec.toNat_ushiftRight, Nat.shiftRight_eq_div_pow]; rfl
theorem own_shr16 (x : Int64) : ((x.toUInt64 >>> ((16 : Int32) &&& 0x3f).toInt64.toUInt64).toInt64).toBitVec.toNat = x.toBitVec.toNat / 2 ^ 16 := by
  show (x.toUInt64 >>> ((16 : Int32) &&& 0x3f).toInt64.toUInt64).toBitVec.toNat = _
  rw [UInt64.toBitVec_shiftRight, show ((((16 : Int32) &&& 0x3f).toInt64.toUInt64).toBitVec % 64) = 16#64 from by decide, BitVec.ushiftRight_eq', BitVec.toNat_ushiftRight, Nat.shiftRight_eq_div_pow]; rfl
theorem own_r (q0 q1 : Int64) : (f1 q0 q1).toBitVec.toNat = q0.toBitVec.toNat % 2 ^ 8 * 2 ^ 56 + (q1.toBitVec.toNat % 2 ^ 40 * 2 ^ 16 + 1) := by
  unfold f1 f1_t0
  rw [own_or, own_shl56, own_add, own_and, own_shl16]
  rw [show ((72057594037927935 : Int64).toBitVec.toNat) = 2 ^ 56 - 1 from rfl, Nat.and_two_pow_sub_one_eq_mod, show ((1 : Int64).toBitVec.toNat) = 1 from rfl]
  generalize q0.toBitVec.toNat = a
  generalize q1.toBitVec.toNat = b
  have e1 : a * 2 ^ 56 % 2 ^ 64 = 2 ^ 56 * (a % 2 ^ 8) := by omega
  have e2 : (b * 2 ^ 16 % 2 ^ 64 % 2 ^ 56 + 1) % 2 ^ 64 = b % 2 ^ 40 * 2 ^ 16 + 1 := by omega
  rw [e1, e2, ← Nat.two_pow_add_eq_or_of_lt (by omega)]
  omega
theorem own_law (q0 q1 : Int64) : f0 q0 q1 = 1 := by
  have hr := own_r q0 q1
  have h0 : f0_z0 q0 q1 = 1 := by
    unfold f0_z0
    rw [if_pos ((lw_eq _ _).mpr (own_ext ?_))]
    rw [own_shr56, hr, own_and, show ((255 : Int64).toBitVec.toNat) = 2 ^ 8 - 1 from rfl, Nat.and_two_pow_sub_one_eq_mod]
    omega
  have h1 : f0_z1 q0 q1 = 1 := by
    unfold f0_z1
    rw [if_pos ((lw_eq _ _).mpr (own_ext ?_))]
    rw [own_and, hr, show ((65535 : Int64).toBitVec.toNat) = 2 ^ 16 - 1 from rfl, Nat.and_two_pow_sub_one_eq_mod, show ((1 : Int64).toBitVec.toNat) = 1 from rfl]
    omega
  have h2 : f0_z3 q0 q1 = 1 := by
    unfold f0_z3 f0_t2
    rw [if_pos ((lw_eq _ _).mpr (own_ext ?_))]
    rw [own_and, own_and, own_shr16, hr, show ((1099511627775 : Int64).toBitVec.toNat) = 2 ^ 40 - 1 from rfl, Nat.and_two_pow_sub_one_eq_mod, Nat.and_two_pow_sub_one_eq_mod]
    omega
  have h3 : ¬ lcmpW (f1 q0 q1) 0 = 0 := fun q => by
    have := (lw_eq _ _).mp q
    rw [this, show ((0 : Int64).toBitVec.toNat) = 0 from rfl] at hr
    omega
  unfold f0
  rw [h0, h1, h2, if_neg (by decide), if_neg (by decide), if_neg (by decide), if_neg h3]
def Q0 (Z : State) (q0 : Int64) (q1 : Int64) (h0 : Heap) (n0 : Nat) (v : Option Value) (h : Heap) (L : List Loc) : Prop := v = some (.int (1 : Int32)) ∧ Fr n0 L
set_option maxRecDepth 65536 in
set_option maxHeartbeats 40000000 in
theorem rm0 (l : Launch) (Z : State) (aw : Array Value) (hw : ∀ d ∈ tables_1, d.before aw Z = true) (ws : List Jvm.Cond) (q0 : Int64) (q1 : Int64) (h0 : Heap) (n0 : Nat) (Z0 : n0 ≤ h0.size) :
    MetFree l x (head1 (Jvm.Cond.code x code maxLocals ret :: ws) room_1) (fun a U => a = #[(.long q0), (.long q1)] ∧ Z.Warmed39 U.vm ∧ U.heap = h0) (fun _ _ _ _ _ => True) (fun _ U o U' => ∃ v L, o = .returned v ∧ Q0 Z q0 q1 h0 n0 v U'.heap L ∧ FrameEnd U o U' L room_1.cells room_1.slots) := by
  refine MetFree.of_bodySF (plainFor_of_name pn_0) hisR ?_
  intro p e s m args below meth c s₁ Bd hml0 hP hK
  obtain ⟨rfl, hZ, hh⟩ := hP
  have hx := Bd.exec
  have hby := Bd.bytes
  have hml : c.maxLocals = 9 := hml0
  have hown : s.vm.findClass "com/example/quorumtree/quorumtree/core/SessionsFirstIdPinLaw" = some m.cls := findClass_of_methodNamed Bd.named
  have hnm := (name_of_methodNamed Bd.named Bd.method).1
  have X0 : Stand p l e room_1 s m #[(.long q0), (.long q1)] below meth c s₁ [] 0 0 := Stand.of_body Bd
  have e0 : s₁.heap = h0 := by rw [← hh, Bd.state]; rfl
  have N0 := Fr.nil n0
  rw [ef_0 m q0 q1]
  refine go_in (s₁ := s₁) (Q := Q0 Z q0 q1 h0 n0) fun F hF => ?_
  refine go (B := s₁.setTop (mkF m 1 #[.val (.long q0), .second, .val (.long q1), .second, .unset, .unset, .unset, .unset, .unset] [(.long q0)])) (fun _ k => XS.lloadN X0.here hx rfl (hb hby at_0) rfl k) ?_
  refine go (B := s₁.setTop (mkF m 2 #[.val (.long q0), .second, .val (.long q1), .second, .unset, .unset, .unset, .unset, .unset] [(.long q1), (.long q0)])) (fun _ k => XS.lloadN X0.here hx rfl (hb hby at_1) rfl k) ?_
  obtain ⟨_, _, ⟨T1, L1, k1, n1⟩, -, X1, ⟨Lc1, hQ1, l1, y1, z1⟩, st1⟩ := Jvm.LawKit.callS X0 hx (y := (⟨"com/example/quorumtree/quorumtree/core/Sessions", "firstId", "(JJ)J"⟩ : MethodName)) hown (mvT hZ (hw _ (List.mem_of_getElem? (i := 0) rfl))) (mvT hZ (hw _ (List.mem_of_getElem? (i := 1) rfl))) (mvT hZ (hw _ (List.mem_of_getElem? (i := 2) rfl))) (mvT hZ (hw _ (List.mem_of_getElem? (i := 3) rfl))) (by decide) (backOf (W := 0) (rm1 l Z aw hw [] q0 q1 h0 n0 Z0 ) hZ (hw _ (List.mem_of_getElem? (i := 3) rfl)) (hw _ (List.mem_of_getElem? (i := 2) rfl)) (by decide) (by decide)) (g := (mkF m 2 #[.val (.long q0), .second, .val (.long q1), .second, .unset, .unset, .unset, .unset, .unset] [(.long q1), (.long q0)])) rfl (by rw [hml]; rfl) (argsL := [(.long q0), (.long q1)]) (rest := []) (lenOf pd_0 rfl) rfl (by show 2 * 0 + _ ≤ _; exact Nat.le_of_eq rfl) (hb hby at_2) (fun _ _ => ⟨rfl, e0, (by decide : 0 + 0 ≤ _), (by decide : 0 + 0 ≤ _)⟩)
  dsimp only [Pt.U, Pt.locs, Pt.cells, Pt.slots] at X1 l1 y1 z1 st1 hQ1
  subst l1 y1 z1
  obtain ⟨rfl, rfl, e1⟩ := hQ1
  have N1 := Fr.app N0 (Fr.nil n0)
  refine go (B := T1.setTop (mkF m 5 #[.val (.long q0), .second, .val (.long q1), .second, .unset, .unset, .unset, .unset, .unset] [(.long (f1 q0 q1))])) (fun _ k => st1 _ k) ?_
  refine go (B := T1.setTop (mkF m 7 #[.val (.long q0), .second, .val (.long q1), .second, .val (.long (f1 q0 q1)), .second, .unset, .unset, .unset] [])) (fun _ k => XS.lstore X1.here hx rfl (hb hby at_5) rfl (l' := #[.val (.long q0), .second, .val (.long q1), .second, .val (.long (f1 q0 q1)), .second, .unset, .unset, .unset]) rfl k) ?_
  refine go (B := T1.setTop (mkF m 9 #[.val (.long q0), .second, .val (.long q1), .second, .val (.long (f1 q0 q1)), .second, .unset, .unset, .unset] [(.long (f1 q0 q1))])) (fun _ k => XS.lload X1.here hx rfl (hb hby at_7) rfl k) ?_
  refine go (B := T1.setTop (mkF m 11 #[.val (.long q0), .second, .val (.long q1), .second, .val (.long (f1 q0 q1)), .second, .unset, .unset, .unset] [(.int (56 : Int32)), (.long (f1 q0 q1))])) (fun _ k => XS.bipush X1.here hx rfl (hb hby at_9) k) ?_
  refine go (B := T1.setTop (mkF m 12 #[.val (.long q0), .second, .val (.long q1), .second, .val (.long (f1 q0 q1)), .second, .unset, .unset, .unset] [(.long (((f1 q0 q1).toUInt64 >>> ((56 : Int32) &&& 0x3f).toInt64.toUInt64).toInt64))])) (fun _ k => XS.lushr X1.here hx rfl (hb hby at_11) rfl k) ?_
  refine go (B := T1.setTop (mkF m 13 #[.val (.long q0), .second, .val (.long q1), .second, .val (.long (f1 q0 q1)), .second, .unset, .unset, .unset] [(.long q0), (.long (((f1 q0 q1).toUInt64 >>> ((56 : Int32) &&& 0x3f).toInt64.toUInt64).toInt64))])) (fun _ k => XS.lloadN X1.here hx rfl (hb hby at_12) rfl k) ?_
  refine go (B := T1.setTop (mkF m 16 #[.val (.long q0), .second, .val (.long q1), .second, .val (.long (f1 q0 q1)), .second, .unset, .unset, .unset] [(.long (255 : Int64)), (.long q0), (.long (((f1 q0 q1).toUInt64 >>> ((56 : Int32) &&& 0x3f).toInt64.toUInt64).toInt64))])) (fun _ k => X1.ldc2Long hx hown (mvT hZ (hw _ (List.mem_of_getElem? (i := 5) rfl))) (g := (mkF m 13 #[.val (.long q0), .second, .val (.long q1), .second, .val (.long (f1 q0 q1)), .second, .unset, .unset, .unset] [(.long q0), (.long (((f1 q0 q1).toUInt64 >>> ((56 : Int32) &&& 0x3f).toInt64.toUInt64).toInt64))])) rfl (hb hby at_13) _ k) ?_
  refine go (B := T1.setTop (mkF m 17 #[.val (.long q0), .second, .val (.long q1), .second, .val (.long (f1 q0 q1)), .second, .unset, .unset, .unset] [(.long (q0 &&& (255 : Int64))), (.long (((f1 q0 q1).toUInt64 >>> ((56 : Int32) &&& 0x3f).toInt64.toUInt64).toInt64))])) (fun _ k => XS.land X1.here hx rfl (hb hby at_16) rfl k) ?_
  refine go (B := T1.setTop (mkF m 18 #[.val (.long q0), .second, .val (.long q1), .second, .val (.long (f1 q0 q1)), .second, .unset, .unset, .unset] [(.int (lcmpW (((f1 q0 q1).toUInt64 >>> ((56 : Int32) &&& 0x3f).toInt64.toUInt64).toInt64) (q0 &&& (255 : Int64))))])) (fun _ k => XS.lcmp X1.here hx rfl (hb hby at_17) rfl k) ?_
  suffices Kj2 : ∀ (T2 : State) (L2 : List Loc), Stand p l e room_1 s m #[(.long q0), (.long q1)] below meth c T2 L2 0 0 → Fr n0 L2 → T2.heap = h0 → Go p.tables e below F (T2.setTop (mkF m 26 #[.val (.long q0), .second, .val (.long q1), .second, .val (.long (f1 q0 q1)), .second, .unset, .unset, .unset] [(.int (f0_z0 q0 q1))])) by
    by_cases hc3 : (lcmpW (((f1 q0 q1).toUInt64 >>> ((56 : Int32) &&& 0x3f).toInt64.toUInt64).toInt64) (q0 &&& (255 : Int64))) = (0 : Int32)
    · refine go (B := T1.setTop (mkF m 21 #[.val (.long q0), .second, .val (.long q1), .second, .val (.long (f1 q0 q1)), .second, .unset, .unset, .unset] [])) (fun _ k => XS.ifNo X1.here hx rfl (hb hby at_18) rfl ((if0 _ _).trans (teq hc3).2) k) ?_
      refine go (B := T1.setTop (mkF m 22 #[.val (.long q0), .second, .val (.long q1), .second, .val (.long (f1 q0 q1)), .second, .unset, .unset, .unset] [(.int (1 : Int32))])) (fun _ k => XS.iconst X1.here hx rfl (hb hby at_21) k) ?_
      refine go (B := T1.setTop (mkF m 26 #[.val (.long q0), .second, .val (.long q1), .second, .val (.long (f1 q0 q1)), .second, .unset, .unset, .unset] [(.int (1 : Int32))])) (fun _ k => XS.goto X1.here hx rfl (pc0 := 22) (pc' := 26) rfl (hb hby at_22) (by decide) (by decide) k) ?_
      rw [show (f0_z0 q0 q1) = (1 : Int32) from by unfold f0_z0; rw [if_pos hc3]] at Kj2
      exact Kj2 _ _ X1 N1 e1
    · refine go (B := T1.setTop (mkF m 25 #[.val (.long q0), .second, .val (.long q1), .second, .val (.long (f1 q0 q1)), .second, .unset, .unset, .unset] [])) (fun _ k => XS.ifYes X1.here hx rfl (pc0 := 18) (pc' := 25) rfl (hb hby at_18) rfl ((if0 _ _).trans (feq hc3).2) (by decide) (by decide) k) ?_
      refine go (B := T1.setTop (mkF m 26 #[.val (.long q0), .second, .val (.long q1), .second, .val (.long (f1 q0 q1)), .second, .unset, .unset, .unset] [(.int (0 : Int32))])) (fun _ k => XS.iconst X1.here hx rfl (hb hby at_25) k) ?_
      rw [show (f0_z0 q0 q1) = (0 : Int32) from by unfold f0_z0; rw [if_neg hc3]] at Kj2
      exact Kj2 _ _ X1 N1 e1
  intro T2 L2 X2 N2 e2
  refine go (B := T2.setTop (mkF m 28 #[.val (.long q0), .second, .val (.long q1), .second, .val (.long (f1 q0 q1)), .second, .val (.int (f0_z0 q0 q1)), .unset, .unset] [])) (fun _ k => XS.istore X2.here hx rfl (hb hby at_26) rfl (l' := #[.val (.long q0), .second, .val (.long q1), .second, .val (.long (f1 q0 q1)), .second, .val (.int (f0_z0 q0 q1)), .unset, .unset]) rfl k) ?_
  refine go (B := T2.setTop (mkF m 30 #[.val (.long q0), .second, .val (.long q1), .second, .val (.long (f1 q0 q1)), .second, .val (.int (f0_z0 q0 q1)), .unset, .unset] [(.long (f1 q0 q1))])) (fun _ k => XS.lload X2.here hx rfl (hb hby at_28) rfl k) ?_
  refine go (B := T2.setTop (mkF m 33 #[.val (.long q0), .second, .val (.long q1), .second, .val (.long (f1 q0 q1)), .second, .val (.int (f0_z0 q0 q1)), .unset, .unset] [(.long (65535 : Int64)), (.long (f1 q0 q1))])) (fun _ k => X2.ldc2Long hx hown (mvT hZ (hw _ (List.mem_of_getElem? (i := 6) rfl))) (g := (mkF m 30 #[.val (.long q0), .second, .val (.long q1), .second, .val (.long (f1 q0 q1)), .second, .val (.int (f0_z0 q0 q1)), .unset, .unset] [(.long (f1 q0 q1))])) rfl (hb hby at_30) _ k) ?_
  refine go (B := T2.setTop (mkF m 34 #[.val (.long q0), .second, .val (.long q1), .second, .val (.long (f1 q0 q1)), .second, .val (.int (f0_z0 q0 q1)), .unset, .unset] [(.long ((f1 q0 q1) &&& (65535 : Int64)))])) (fun _ k => XS.land X2.here hx rfl (hb hby at_33) rfl k) ?_
  refine go (B := T2.setTop (mkF m 35 #[.val (.long q0), .second, .val (.long q1), .second, .val (.long (f1 q0 q1)), .second, .val (.int (f0_z0 q0 q1)), .unset, .unset] [(.long (1 : Int64)), (.long ((f1 q0 q1) &&& (65535 : Int64)))])) (fun _ k => XS.lconst X2.here hx rfl (hb hby at_34) k) ?_
  refine go (B := T2.setTop (mkF m 36 #[.val (.long q0), .second, .val (.long q1), .second, .val (.long (f1 q0 q1)), .second, .val (.int (f0_z0 q0 q1)), .unset, .unset] [(.int (lcmpW ((f1 q0 q1) &&& (65535 : Int64)) (1 : Int64)))])) (fun _ k => XS.lcmp X2.here hx rfl (hb hby at_35) rfl k) ?_
  suffices Kj4 : ∀ (T4 : State) (L4 : List Loc), Stand p l e room_1 s m #[(.long q0), (.long q1)] below meth c T4 L4 0 0 → Fr n0 L4 → T4.heap = h0 → Go p.tables e below F (T4.setTop (mkF m 44 #[.val (.long q0), .second, .val (.long q1), .second, .val (.long (f1 q0 q1)), .second, .val (.int (f0_z0 q0 q1)), .unset, .unset] [(.int (f0_z1 q0 q1))])) by
    by_cases hc5 : (lcmpW ((f1 q0 q1) &&& (65535 : Int64)) (1 : Int64)) = (0 : Int32)
    · refine go (B := T2.setTop (mkF m 39 #[.val (.long q0), .second, .val (.long q1), .second, .val (.long (f1 q0 q1)), .second, .val (.int (f0_z0 q0 q1)), .unset, .unset] [])) (fun _ k => XS.ifNo X2.here hx rfl (hb hby at_36) rfl ((if0 _ _).trans (teq hc5).2) k) ?_
      refine go (B := T2.setTop (mkF m 40 #[.val (.long q0), .second, .val (.long q1), .second, .val (.long (f1 q0 q1)), .second, .val (.int (f0_z0 q0 q1)), .unset, .unset] [(.int (1 : Int32))])) (fun _ k => XS.iconst X2.here hx rfl (hb hby at_39) k) ?_
      refine go (B := T2.setTop (mkF m 44 #[.val (.long q0), .second, .val (.long q1), .second, .val (.long (f1 q0 q1)), .second, .val (.int (f0_z0 q0 q1)), .unset, .unset] [(.int (1 : Int32))])) (fun _ k => XS.goto X2.here hx rfl (pc0 := 40) (pc' := 44) rfl (hb hby at_40) (by decide) (by decide) k) ?_
      rw [show (f0_z1 q0 q1) = (1 : Int32) from by unfold f0_z1; rw [if_pos hc5]] at Kj4
      exact Kj4 _ _ X2 N2 e2
    · refine go (B := T2.setTop (mkF m 43 #[.val (.long q0), .second, .val (.long q1), .second, .val (.long (f1 q0 q1)), .second, .val (.int (f0_z0 q0 q1)), .unset, .unset] [])) (fun _ k => XS.ifYes X2.here hx rfl (pc0 := 36) (pc' := 43) rfl (hb hby at_36) rfl ((if0 _ _).trans (feq hc5).2) (by decide) (by decide) k) ?_
      refine go (B := T2.setTop (mkF m 44 #[.val (.long q0), .second, .val (.long q1), .second, .val (.long (f1 q0 q1)), .second, .val (.int (f0_z0 q0 q1)), .unset, .unset] [(.int (0 : Int32))])) (fun _ k => XS.iconst X2.here hx rfl (hb hby at_43) k) ?_
      rw [show (f0_z1 q0 q1) = (0 : Int32) from by unfold f0_z1; rw [if_neg hc5]] at Kj4
      exact Kj4 _ _ X2 N2 e2
  intro T4 L4 X4 N4 e4
  refine go (B := T4.setTop (mkF m 46 #[.val (.long q0), .second, .val (.long q1), .second, .val (.long (f1 q0 q1)), .second, .val (.int (f0_z0 q0 q1)), .val (.int (f0_z1 q0 q1)), .unset] [])) (fun _ k => XS.istore X4.here hx rfl (hb hby at_44) rfl (l' := #[.val (.long q0), .second, .val (.long q1), .second, .val (.long (f1 q0 q1)), .second, .val (.int (f0_z0 q0 q1)), .val (.int (f0_z1 q0 q1)), .unset]) rfl k) ?_
  refine go (B := T4.setTop (mkF m 48 #[.val (.long q0), .second, .val (.long q1), .second, .val (.long (f1 q0 q1)), .second, .val (.int (f0_z0 q0 q1)), .val (.int (f0_z1 q0 q1)), .unset] [(.long (f1 q0 q1))])) (fun _ k => XS.lload X4.here hx rfl (hb hby at_46) rfl k) ?_
  refine go (B := T4.setTop (mkF m 50 #[.val (.long q0), .second, .val (.long q1), .second, .val (.long (f1 q0 q1)), .second, .val (.int (f0_z0 q0 q1)), .val (.int (f0_z1 q0 q1)), .unset] [(.int (16 : Int32)), (.long (f1 q0 q1))])) (fun _ k => XS.bipush X4.here hx rfl (hb hby at_48) k) ?_
  refine go (B := T4.setTop (mkF m 51 #[.val (.long q0), .second, .val (.long q1), .second, .val (.long (f1 q0 q1)), .second, .val (.int (f0_z0 q0 q1)), .val (.int (f0_z1 q0 q1)), .unset] [(.long (((f1 q0 q1).toUInt64 >>> ((16 : Int32) &&& 0x3f).toInt64.toUInt64).toInt64))])) (fun _ k => XS.lushr X4.here hx rfl (hb hby at_50) rfl k) ?_
  refine go (B := T4.setTop (mkF m 54 #[.val (.long q0), .second, .val (.long q1), .second, .val (.long (f1 q0 q1)), .second, .val (.int (f0_z0 q0 q1)), .val (.int (f0_z1 q0 q1)), .unset] [(.long (1099511627775 : Int64)), (.long (((f1 q0 q1).toUInt64 >>> ((16 : Int32) &&& 0x3f).toInt64.toUInt64).toInt64))])) (fun _ k => X4.ldc2Long hx hown (mvT hZ (hw _ (List.mem_of_getElem? (i := 7) rfl))) (g := (mkF m 51 #[.val (.long q0), .second, .val (.long q1), .second, .val (.long (f1 q0 q1)), .second, .val (.int (f0_z0 q0 q1)), .val (.int (f0_z1 q0 q1)), .unset] [(.long (((f1 q0 q1).toUInt64 >>> ((16 : Int32) &&& 0x3f).toInt64.toUInt64).toInt64))])) rfl (hb hby at_51) _ k) ?_
  refine go (B := T4.setTop (mkF m 55 #[.val (.long q0), .second, .val (.long q1), .second, .val (.long (f1 q0 q1)), .second, .val (.int (f0_z0 q0 q1)), .val (.int (f0_z1 q0 q1)), .unset] [(.long (f0_t2 q0 q1))])) (fun _ k => XS.land X4.here hx rfl (hb hby at_54) rfl k) ?_
  refine go (B := T4.setTop (mkF m 56 #[.val (.long q0), .second, .val (.long q1), .second, .val (.long (f1 q0 q1)), .second, .val (.int (f0_z0 q0 q1)), .val (.int (f0_z1 q0 q1)), .unset] [(.long q1), (.long (f0_t2 q0 q1))])) (fun _ k => XS.lloadN X4.here hx rfl (hb hby at_55) rfl k) ?_
  refine go (B := T4.setTop (mkF m 59 #[.val (.long q0), .second, .val (.long q1), .second, .val (.long (f1 q0 q1)), .second, .val (.int (f0_z0 q0 q1)), .val (.int (f0_z1 q0 q1)), .unset] [(.long (1099511627775 : Int64)), (.long q1), (.long (f0_t2 q0 q1))])) (fun _ k => X4.ldc2Long hx hown (mvT hZ (hw _ (List.mem_of_getElem? (i := 7) rfl))) (g := (mkF m 56 #[.val (.long q0), .second, .val (.long q1), .second, .val (.long (f1 q0 q1)), .second, .val (.int (f0_z0 q0 q1)), .val (.int (f0_z1 q0 q1)), .unset] [(.long q1), (.long (f0_t2 q0 q1))])) rfl (hb hby at_56) _ k) ?_
  refine go (B := T4.setTop (mkF m 60 #[.val (.long q0), .second, .val (.long q1), .second, .val (.long (f1 q0 q1)), .second, .val (.int (f0_z0 q0 q1)), .val (.int (f0_z1 q0 q1)), .unset] [(.long (q1 &&& (1099511627775 : Int64))), (.long (f0_t2 q0 q1))])) (fun _ k => XS.land X4.here hx rfl (hb hby at_59) rfl k) ?_
  refine go (B := T4.setTop (mkF m 61 #[.val (.long q0), .second, .val (.long q1), .second, .val (.long (f1 q0 q1)), .second, .val (.int (f0_z0 q0 q1)), .val (.int (f0_z1 q0 q1)), .unset] [(.int (lcmpW (f0_t2 q0 q1) (q1 &&& (1099511627775 : Int64))))])) (fun _ k => XS.lcmp X4.here hx rfl (hb hby at_60) rfl k) ?_
  suffices Kj6 : ∀ (T6 : State) (L6 : List Loc), Stand p l e room_1 s m #[(.long q0), (.long q1)] below meth c T6 L6 0 0 → Fr n0 L6 → T6.heap = h0 → Go p.tables e below F (T6.setTop (mkF m 69 #[.val (.long q0), .second, .val (.long q1), .second, .val (.long (f1 q0 q1)), .second, .val (.int (f0_z0 q0 q1)), .val (.int (f0_z1 q0 q1)), .unset] [(.int (f0_z3 q0 q1))])) by
    by_cases hc7 : (lcmpW (f0_t2 q0 q1) (q1 &&& (1099511627775 : Int64))) = (0 : Int32)
    · refine go (B := T4.setTop (mkF m 64 #[.val (.long q0), .second, .val (.long q1), .second, .val (.long (f1 q0 q1)), .second, .val (.int (f0_z0 q0 q1)), .val (.int (f0_z1 q0 q1)), .unset] [])) (fun _ k => XS.ifNo X4.here hx rfl (hb hby at_61) rfl ((if0 _ _).trans (teq hc7).2) k) ?_
      refine go (B := T4.setTop (mkF m 65 #[.val (.long q0), .second, .val (.long q1), .second, .val (.long (f1 q0 q1)), .second, .val (.int (f0_z0 q0 q1)), .val (.int (f0_z1 q0 q1)), .unset] [(.int (1 : Int32))])) (fun _ k => XS.iconst X4.here hx rfl (hb hby at_64) k) ?_
      refine go (B := T4.setTop (mkF m 69 #[.val (.long q0), .second, .val (.long q1), .second, .val (.long (f1 q0 q1)), .second, .val (.int (f0_z0 q0 q1)), .val (.int (f0_z1 q0 q1)), .unset] [(.int (1 : Int32))])) (fun _ k => XS.goto X4.here hx rfl (pc0 := 65) (pc' := 69) rfl (hb hby at_65) (by decide) (by decide) k) ?_
      rw [show (f0_z3 q0 q1) = (1 : Int32) from by unfold f0_z3; rw [if_pos hc7]] at Kj6
      exact Kj6 _ _ X4 N4 e4
    · refine go (B := T4.setTop (mkF m 68 #[.val (.long q0), .second, .val (.long q1), .second, .val (.long (f1 q0 q1)), .second, .val (.int (f0_z0 q0 q1)), .val (.int (f0_z1 q0 q1)), .unset] [])) (fun _ k => XS.ifYes X4.here hx rfl (pc0 := 61) (pc' := 68) rfl (hb hby at_61) rfl ((if0 _ _).trans (feq hc7).2) (by decide) (by decide) k) ?_
      refine go (B := T4.setTop (mkF m 69 #[.val (.long q0), .second, .val (.long q1), .second, .val (.long (f1 q0 q1)), .second, .val (.int (f0_z0 q0 q1)), .val (.int (f0_z1 q0 q1)), .unset] [(.int (0 : Int32))])) (fun _ k => XS.iconst X4.here hx rfl (hb hby at_68) k) ?_
      rw [show (f0_z3 q0 q1) = (0 : Int32) from by unfold f0_z3; rw [if_neg hc7]] at Kj6
      exact Kj6 _ _ X4 N4 e4
  intro T6 L6 X6 N6 e6
  refine go (B := T6.setTop (mkF m 71 #[.val (.long q0), .second, .val (.long q1), .second, .val (.long (f1 q0 q1)), .second, .val (.int (f0_z0 q0 q1)), .val (.int (f0_z1 q0 q1)), .val (.int (f0_z3 q0 q1))] [])) (fun _ k => XS.istore X6.here hx rfl (hb hby at_69) rfl (l' := #[.val (.long q0), .second, .val (.long q1), .second, .val (.long (f1 q0 q1)), .second, .val (.int (f0_z0 q0 q1)), .val (.int (f0_z1 q0 q1)), .val (.int (f0_z3 q0 q1))]) rfl k) ?_
  refine go (B := T6.setTop (mkF m 73 #[.val (.long q0), .second, .val (.long q1), .second, .val (.long (f1 q0 q1)), .second, .val (.int (f0_z0 q0 q1)), .val (.int (f0_z1 q0 q1)), .val (.int (f0_z3 q0 q1))] [(.int (f0_z0 q0 q1))])) (fun _ k => XS.iload X6.here hx rfl (hb hby at_71) rfl k) ?_
  by_cases hc8 : (f0_z0 q0 q1) = (0 : Int32)
  · refine go (B := T6.setTop (mkF m 97 #[.val (.long q0), .second, .val (.long q1), .second, .val (.long (f1 q0 q1)), .second, .val (.int (f0_z0 q0 q1)), .val (.int (f0_z1 q0 q1)), .val (.int (f0_z3 q0 q1))] [])) (fun _ k => XS.ifYes X6.here hx rfl (pc0 := 73) (pc' := 97) rfl (hb hby at_73) rfl ((if0 _ _).trans (teq hc8).1) (by decide) (by decide) k) ?_
    refine go (B := T6.setTop (mkF m 98 #[.val (.long q0), .second, .val (.long q1), .second, .val (.long (f1 q0 q1)), .second, .val (.int (f0_z0 q0 q1)), .val (.int (f0_z1 q0 q1)), .val (.int (f0_z3 q0 q1))] [(.int (0 : Int32))])) (fun _ k => XS.iconst X6.here hx rfl (hb hby at_97) k) ?_
    have r9 : (f0 q0 q1) = (0 : Int32) := by unfold f0; rw [if_pos hc8]
    exact end_nar X6 hx Bd.notSynchronized (t := .boolean) Bd.returns (by simp) (hb hby at_98) hF e6 (by decide) (by decide) ⟨(congrArg (fun z => some (Value.int z)) (r9.symm.trans (own_law q0 q1))), N6⟩
  · refine go (B := T6.setTop (mkF m 76 #[.val (.long q0), .second, .val (.long q1), .second, .val (.long (f1 q0 q1)), .second, .val (.int (f0_z0 q0 q1)), .val (.int (f0_z1 q0 q1)), .val (.int (f0_z3 q0 q1))] [])) (fun _ k => XS.ifNo X6.here hx rfl (hb hby at_73) rfl ((if0 _ _).trans (feq hc8).1) k) ?_
    refine go (B := T6.setTop (mkF m 78 #[.val (.long q0), .second, .val (.long q1), .second, .val (.long (f1 q0 q1)), .second, .val (.int (f0_z0 q0 q1)), .val (.int (f0_z1 q0 q1)), .val (.int (f0_z3 q0 q1))] [(.int (f0_z1 q0 q1))])) (fun _ k => XS.iload X6.here hx rfl (hb hby at_76) rfl k) ?_
    by_cases hc10 : (f0_z1 q0 q1) = (0 : Int32)
    · refine go (B := T6.setTop (mkF m 97 #[.val (.long q0), .second, .val (.long q1), .second, .val (.long (f1 q0 q1)), .second, .val (.int (f0_z0 q0 q1)), .val (.int (f0_z1 q0 q1)), .val (.int (f0_z3 q0 q1))] [])) (fun _ k => XS.ifYes X6.here hx rfl (pc0 := 78) (pc' := 97) rfl (hb hby at_78) rfl ((if0 _ _).trans (teq hc10).1) (by decide) (by decide) k) ?_
      refine go (B := T6.setTop (mkF m 98 #[.val (.long q0), .second, .val (.long q1), .second, .val (.long (f1 q0 q1)), .second, .val (.int (f0_z0 q0 q1)), .val (.int (f0_z1 q0 q1)), .val (.int (f0_z3 q0 q1))] [(.int (0 : Int32))])) (fun _ k => XS.iconst X6.here hx rfl (hb hby at_97) k) ?_
      have r11 : (f0 q0 q1) = (0 : Int32) := by unfold f0; rw [if_neg hc8, if_pos hc10]
      exact end_nar X6 hx Bd.notSynchronized (t := .boolean) Bd.returns (by simp) (hb hby at_98) hF e6 (by decide) (by decide) ⟨(congrArg (fun z => some (Value.int z)) (r11.symm.trans (own_law q0 q1))), N6⟩
    · refine go (B := T6.setTop (mkF m 81 #[.val (.long q0), .second, .val (.long q1), .second, .val (.long (f1 q0 q1)), .second, .val (.int (f0_z0 q0 q1)), .val (.int (f0_z1 q0 q1)), .val (.int (f0_z3 q0 q1))] [])) (fun _ k => XS.ifNo X6.here hx rfl (hb hby at_78) rfl ((if0 _ _).trans (feq hc10).1) k) ?_
      refine go (B := T6.setTop (mkF m 83 #[.val (.long q0), .second, .val (.long q1), .second, .val (.long (f1 q0 q1)), .second, .val (.int (f0_z0 q0 q1)), .val (.int (f0_z1 q0 q1)), .val (.int (f0_z3 q0 q1))] [(.int (f0_z3 q0 q1))])) (fun _ k => XS.iload X6.here hx rfl (hb hby at_81) rfl k) ?_
      by_cases hc12 : (f0_z3 q0 q1) = (0 : Int32)
      · refine go (B := T6.setTop (mkF m 97 #[.val (.long q0), .second, .val (.long q1), .second, .val (.long (f1 q0 q1)), .second, .val (.int (f0_z0 q0 q1)), .val (.int (f0_z1 q0 q1)), .val (.int (f0_z3 q0 q1))] [])) (fun _ k => XS.ifYes X6.here hx rfl (pc0 := 83) (pc' := 97) rfl (hb hby at_83) rfl ((if0 _ _).trans (teq hc12).1) (by decide) (by decide) k) ?_
        refine go (B := T6.setTop (mkF m 98 #[.val (.long q0), .second, .val (.long q1), .second, .val (.long (f1 q0 q1)), .second, .val (.int (f0_z0 q0 q1)), .val (.int (f0_z1 q0 q1)), .val (.int (f0_z3 q0 q1))] [(.int (0 : Int32))])) (fun _ k => XS.iconst X6.here hx rfl (hb hby at_97) k) ?_
        have r13 : (f0 q0 q1) = (0 : Int32) := by unfold f0; rw [if_neg hc8, if_neg hc10, if_pos hc12]
        exact end_nar X6 hx Bd.notSynchronized (t := .boolean) Bd.returns (by simp) (hb hby at_98) hF e6 (by decide) (by decide) ⟨(congrArg (fun z => some (Value.int z)) (r13.symm.trans (own_law q0 q1))), N6⟩
      · refine go (B := T6.setTop (mkF m 86 #[.val (.long q0), .second, .val (.long q1), .second, .val (.long (f1 q0 q1)), .second, .val (.int (f0_z0 q0 q1)), .val (.int (f0_z1 q0 q1)), .val (.int (f0_z3 q0 q1))] [])) (fun _ k => XS.ifNo X6.here hx rfl (hb hby at_83) rfl ((if0 _ _).trans (feq hc12).1) k) ?_
        refine go (B := T6.setTop (mkF m 88 #[.val (.long q0), .second, .val (.long q1), .second, .val (.long (f1 q0 q1)), .second, .val (.int (f0_z0 q0 q1)), .val (.int (f0_z1 q0 q1)), .val (.int (f0_z3 q0 q1))] [(.long (f1 q0 q1))])) (fun _ k => XS.lload X6.here hx rfl (hb hby at_86) rfl k) ?_
        refine go (B := T6.setTop (mkF m 89 #[.val (.long q0), .second, .val (.long q1), .second, .val (.long (f1 q0 q1)), .second, .val (.int (f0_z0 q0 q1)), .val (.int (f0_z1 q0 q1)), .val (.int (f0_z3 q0 q1))] [(.long (0 : Int64)), (.long (f1 q0 q1))])) (fun _ k => XS.lconst X6.here hx rfl (hb hby at_88) k) ?_
        refine go (B := T6.setTop (mkF m 90 #[.val (.long q0), .second, .val (.long q1), .second, .val (.long (f1 q0 q1)), .second, .val (.int (f0_z0 q0 q1)), .val (.int (f0_z1 q0 q1)), .val (.int (f0_z3 q0 q1))] [(.int (lcmpW (f1 q0 q1) (0 : Int64)))])) (fun _ k => XS.lcmp X6.here hx rfl (hb hby at_89) rfl k) ?_
        by_cases hc14 : (lcmpW (f1 q0 q1) (0 : Int64)) = (0 : Int32)
        · refine go (B := T6.setTop (mkF m 97 #[.val (.long q0), .second, .val (.long q1), .second, .val (.long (f1 q0 q1)), .second, .val (.int (f0_z0 q0 q1)), .val (.int (f0_z1 q0 q1)), .val (.int (f0_z3 q0 q1))] [])) (fun _ k => XS.ifYes X6.here hx rfl (pc0 := 90) (pc' := 97) rfl (hb hby at_90) rfl ((if0 _ _).trans (teq hc14).1) (by decide) (by decide) k) ?_
          refine go (B := T6.setTop (mkF m 98 #[.val (.long q0), .second, .val (.long q1), .second, .val (.long (f1 q0 q1)), .second, .val (.int (f0_z0 q0 q1)), .val (.int (f0_z1 q0 q1)), .val (.int (f0_z3 q0 q1))] [(.int (0 : Int32))])) (fun _ k => XS.iconst X6.here hx rfl (hb hby at_97) k) ?_
          have r15 : (f0 q0 q1) = (0 : Int32) := by unfold f0; rw [if_neg hc8, if_neg hc10, if_neg hc12, if_pos hc14]
          exact end_nar X6 hx Bd.notSynchronized (t := .boolean) Bd.returns (by simp) (hb hby at_98) hF e6 (by decide) (by decide) ⟨(congrArg (fun z => some (Value.int z)) (r15.symm.trans (own_law q0 q1))), N6⟩
        · refine go (B := T6.setTop (mkF m 93 #[.val (.long q0), .second, .val (.long q1), .second, .val (.long (f1 q0 q1)), .second, .val (.int (f0_z0 q0 q1)), .val (.int (f0_z1 q0 q1)), .val (.int (f0_z3 q0 q1))] [])) (fun _ k => XS.ifNo X6.here hx rfl (hb hby at_90) rfl ((if0 _ _).trans (feq hc14).1) k) ?_
          refine go (B := T6.setTop (mkF m 94 #[.val (.long q0), .second, .val (.long q1), .second, .val (.long (f1 q0 q1)), .second, .val (.int (f0_z0 q0 q1)), .val (.int (f0_z1 q0 q1)), .val (.int (f0_z3 q0 q1))] [(.int (1 : Int32))])) (fun _ k => XS.iconst X6.here hx rfl (hb hby at_93) k) ?_
          refine go (B := T6.setTop (mkF m 98 #[.val (.long q0), .second, .val (.long q1), .second, .val (.long (f1 q0 q1)), .second, .val (.int (f0_z0 q0 q1)), .val (.int (f0_z1 q0 q1)), .val (.int (f0_z3 q0 q1))] [(.int (1 : Int32))])) (fun _ k => XS.goto X6.here hx rfl (pc0 := 94) (pc' := 98) rfl (hb hby at_94) (by decide) (by decide) k) ?_
          have r16 : (f0 q0 q1) = (1 : Int32) := by unfold f0; rw [if_neg hc8, if_neg hc10, if_neg hc12, if_neg hc14]
          exact end_nar X6 hx Bd.notSynchronized (t := .boolean) Bd.returns (by simp) (hb hby at_98) hF e6 (by decide) (by decide) ⟨(congrArg (fun z => some (Value.int z)) (r16.symm.trans (own_law q0 q1))), N6⟩
set_option maxRecDepth 65536 in
set_option maxHeartbeats 40000000 in
theorem comes_1 {Post : Tables → Env → Array Value → State → Outcome → State → Prop} (hpost : ∀ tb e args s v u, (limb_1_1.after args s (.returned v) u = true ∧ limb_1_2.after args s (.returned v) u = true ∧ True) → FrameEnd s (.returned v) u (Jvm.fieldLocs frame_1_writes args s ++ Jvm.arrayLocs frame_1_arrays args s ++ Jvm.staticLocs frame_1_statics s) 0 0 → Post tb e args s (.returned v) u) :
    ArmFor flags0 classFile x code maxLocals ret World_1 tables_1 room_1 Calls_1 rest_1 Pre_1 Post := by
  intro l hfl _ _ p e ha hc hk s m args below hf hA hF happ hP
  obtain ⟨hcalls, hrest, hpre⟩ := hP
  obtain ⟨-, -, -, hnamed, -, -, -, hat⟩ := (Spec.applies_iff hf).mp happ
  obtain ⟨hg, hn⟩ := and_e (Cond.before_iff.mp (show (Jvm.Cond.and given_1 narrow_1).before args s = true from hpre))
  obtain ⟨gg1, gg2⟩ := and_e hg
  obtain ⟨gg3, gg4⟩ := and_e gg2
  obtain ⟨w0, w1, rfl⟩ : ∃ w0 w1 : Value, args = #[w0, w1] := by
    have hs : args.size = 2 := by simpa [Cond.value, given_1] using gg1
    obtain ⟨L⟩ := args
    match L, hs with
    | [w0, w1], _ => exact ⟨w0, w1, rfl⟩
  have hw := fun d (hd : d ∈ tables_1) => atoms_spec (ws := Jvm.Cond.code x code maxLocals ret :: tables_1) hat d (List.mem_cons_of_mem _ hd)
  have hfit : Fit s := fun {y c} hc i hi => by
    obtain ⟨ha, rfl⟩ := Array.getElem?_eq_some_iff.mp hc
    have q := List.all_eq_true.mp ((Array.all_eq_true_iff_forall_mem.mp hF) _ (Array.getElem_mem ha)) i (List.mem_range.mpr hi)
    simpa [Array.getElem?_eq_getElem hi] using q
  obtain ⟨i0, ei0⟩ := isL_v gg3
  obtain rfl : w0 = (.long i0) := Option.some.inj ei0
  obtain ⟨i1, ei1⟩ := isL_v gg4
  obtain rfl : w1 = (.long i1) := Option.some.inj ei1
  obtain ⟨n, o, h1, h2, h3, _, L, rfl, ⟨rfl, N⟩, hq⟩ := rm0 l s _ hw tables_1 i0 i1 s.heap s.heap.size (Nat.le_refl _)  p e ha hc hk s m _ below hf ((Spec.applies_iff_loose hf).mp happ).1 ⟨rfl, State.Warmed39.refl s, rfl⟩ trivial
  refine ⟨n, _, h1, h2, h3, hpost _ _ _ _ _ _ ⟨Cond.after_iff.mpr rfl, Cond.after_iff.mpr (eq_i res_at (Term.int_eval (1)) rfl), trivial⟩ ⟨hq.1, hq.2.1, (hq.2.2.sift fun y hy => Or.inr (N y hy)).mono (by decide) (by decide)⟩⟩
theorem main_1_1 : Claimed_1_1 := comes_1 fun _ _ _ _ _ _ h hF => ⟨h.1, hF⟩
theorem main_1_2 : Claimed_1_2 := comes_1 fun _ _ _ _ _ _ h hF => ⟨h.2.1, hF⟩
end Jvm.Pilot.@@N@@
namespace Jvm.Pilot.@@N@@
open Jvm Jvm.ClassFile Sem Op Lib Jvm.Free Jvm.Stand Jvm.Pilot.@@N@@.Jvm.D
/-! MADE BY PROGRAM (witnessworld.py) out of the Statement's table words and the real class files: 9 classes; the members and pool entries that the words name. The judged class is class 1, her method 1. -/
namespace start1
open Jvm.ClassFile
def u (s : String) : CpInfo := .utf8 (stringToUtf16 s)
/-- a pool by its gaps: so many unusable entries, then the entry; so many at the end -/
def gap : Nat → List CpInfo → List CpInfo
  | 0, r => r
  | n + 1, r => .unusable :: gap n r
def poolList (es : List (Nat × CpInfo)) (last : Nat) : List CpInfo := es.foldr (fun e r => gap e.1 (e.2 :: r)) (gap last [])
def pool (es : List (Nat × CpInfo)) (last : Nat) : Array CpInfo := ⟨poolList es last⟩
def fileOf (pool : Array CpInfo) (this : Nat) (attrs : Array Attribute := #[]) (ms : Array MethodInfo := #[]) (fl : Nat := 33) (sup : Nat := 0) (ifs : Array Nat := #[]) (fds : Array FieldInfo := #[]) : ClassFile where
  minorVersion := 0
  majorVersion := 65
  constantPool := pool
  accessFlags := fl
  thisClass := this
  superClass := sup
  interfaces := ifs
  fields := fds
  methods := ms
  attributes := attrs
def plain (name : String) (sup : Option ClassId) : Class where
  name := name
  kind := .ordinary
  loader := none
  accessFlags := 33
  super := sup
  interfaces := #[]
  cf := none
  fields := #[]
  methods := #[]
  instanceTypes := #[]
  staticTypes := #[]
  resolved := #[]
  callSites := []
  init := .initialized
  statics := none
  mirror := none

def pool0 : Array CpInfo := pool [(5, u "<init>"), (0, u "()V"), (1, .class_ 10), (1, u "java/lang/Object")] 113

def k0m0 : Method := { name := "<init>", desc := "()V", sig := { parameters := [], returnType := none }, accessFlags := 1, code := none }
/-- java/lang/Object -/
def k0 : Class := { plain "java/lang/Object" none with
  accessFlags := 33
  interfaces := #[]
  cf := some (fileOf pool0 8 #[] #[{ accessFlags := 1, nameIndex := 5, descriptorIndex := 6, attributes := #[] }] 33 0 #[] #[])
  fields := #[]
  methods := #[k0m0]
  instanceTypes := #[]
  staticTypes := #[]
  resolved := Array.replicate 124 none
  statics := none }

def pool1 : Array CpInfo := pool [(2, .class_ 4), (1, u "java/lang/Object"), (0, u "<init>"), (0, u "()V"), (0, .methodref 8 9), (0, .class_ 10), (0, .nameAndType 11 12), (0, u "com/example/quorumtree/quorumtree/core/Sessions"), (0, u "firstId"), (0, u "(JJ)J"), (0, .long 255), (1, .long 65535), (1, .long 1099511627775), (1, .class_ 20), (0, u "com/example/quorumtree/quorumtree/core/SessionsFirstIdPinLaw"), (2, u "law"), (0, u "(JJ)Z")] 3

def k1m0 : Method := { name := "<init>", desc := "()V", sig := { parameters := [], returnType := none }, accessFlags := 1, code := none }
def k1c1 : Code := { maxStack := 6, maxLocals := 9, code := code, exceptionTable := #[], attributes := #[] }
def k1m1 : Method := { name := "law", desc := "(JJ)Z", sig := { parameters := [.long, .long], returnType := some .boolean }, accessFlags := 9, code := some k1c1 }
/-- com/example/quorumtree/quorumtree/core/SessionsFirstIdPinLaw -/
def k1 : Class := { plain "com/example/quorumtree/quorumtree/core/SessionsFirstIdPinLaw" (some 0) with
  accessFlags := 49
  interfaces := #[]
  cf := some (fileOf pool1 19 #[] #[{ accessFlags := 1, nameIndex := 5, descriptorIndex := 6, attributes := #[] }, { accessFlags := 9, nameIndex := 23, descriptorIndex := 24, attributes := #[] }] 49 2 #[] #[])
  fields := #[]
  methods := #[k1m0, k1m1]
  instanceTypes := #[]
  staticTypes := #[]
  resolved := Array.replicate 28 none
  statics := none }

def pool2 : Array CpInfo := pool [(2, .class_ 4), (1, u "java/lang/Object"), (6, .class_ 13), (1, u "com/example/quorumtree/quorumtree/core/Sessions"), (0, u "random"), (0, u "Ljava/security/SecureRandom;"), (2, u "expiring"), (0, u "Ljava/lang/Object;"), (5, u "ending"), (0, u "Ljava/util/Set;"), (5, u "touched"), (0, u "Ljava/util/Map;"), (2, u "heard"), (11, u "minTimeoutMs"), (0, u "I"), (2, u "maxTimeoutMs"), (4, u "member"), (0, u "J"), (0, .long 72057594037927935), (3, u "nextId"), (2, u "nanoClock"), (0, u "Ljava/util/function/LongSupplier;"), (118, u "(JJ)J"), (14, u "PASSWORD_BYTES"), (2, u "ID_BITS"), (0, u "ID_COUNTER_BITS"), (7, u "firstId")] 38

def k2c0 : Code := { maxStack := 6, maxLocals := 4, code := prog_50_method_2_code, exceptionTable := #[], attributes := #[] }
def k2m0 : Method := { name := "firstId", desc := "(JJ)J", sig := { parameters := [.long, .long], returnType := some .long }, accessFlags := 9, code := some k2c0 }
/-- com/example/quorumtree/quorumtree/core/Sessions -/
def k2 : Class := { plain "com/example/quorumtree/quorumtree/core/Sessions" (some 0) with
  accessFlags := 49
  interfaces := #[]
  cf := some (fileOf pool2 11 #[] #[{ accessFlags := 9, nameIndex := 213, descriptorIndex := 186, attributes := #[] }] 49 2 #[] #[{ accessFlags := 25, nameIndex := 201, descriptorIndex := 49, attributes := #[] }, { accessFlags := 26, nameIndex := 204, descriptorIndex := 58, attributes := #[] }, { accessFlags := 26, nameIndex := 205, descriptorIndex := 49, attributes := #[] }, { accessFlags := 18, nameIndex := 48, descriptorIndex := 49, attributes := #[] }, { accessFlags := 18, nameIndex := 52, descriptorIndex := 49, attributes := #[] }, { accessFlags := 18, nameIndex := 66, descriptorIndex := 67, attributes := #[] }, { accessFlags := 18, nameIndex := 14, descriptorIndex := 15, attributes := #[] }, { accessFlags := 18, nameIndex := 18, descriptorIndex := 19, attributes := #[] }, { accessFlags := 18, nameIndex := 25, descriptorIndex := 26, attributes := #[] }, { accessFlags := 18, nameIndex := 32, descriptorIndex := 33, attributes := #[] }, { accessFlags := 18, nameIndex := 36, descriptorIndex := 33, attributes := #[] }, { accessFlags := 2, nameIndex := 63, descriptorIndex := 58, attributes := #[] }, { accessFlags := 18, nameIndex := 57, descriptorIndex := 58, attributes := #[] }])
  fields := #[{ name := "PASSWORD_BYTES", type := .int, accessFlags := 25, slot := 0, constantValue := 0 }, { name := "ID_BITS", type := .long, accessFlags := 26, slot := 1, constantValue := 0 }, { name := "ID_COUNTER_BITS", type := .int, accessFlags := 26, slot := 2, constantValue := 0 }, { name := "minTimeoutMs", type := .int, accessFlags := 18, slot := 0, constantValue := 0 }, { name := "maxTimeoutMs", type := .int, accessFlags := 18, slot := 1, constantValue := 0 }, { name := "nanoClock", type := (.object "java/util/function/LongSupplier"), accessFlags := 18, slot := 2, constantValue := 0 }, { name := "random", type := (.object "java/security/SecureRandom"), accessFlags := 18, slot := 3, constantValue := 0 }, { name := "expiring", type := (.object "java/lang/Object"), accessFlags := 18, slot := 4, constantValue := 0 }, { name := "ending", type := (.object "java/util/Set"), accessFlags := 18, slot := 5, constantValue := 0 }, { name := "touched", type := (.object "java/util/Map"), accessFlags := 18, slot := 6, constantValue := 0 }, { name := "heard", type := (.object "java/util/Map"), accessFlags := 18, slot := 7, constantValue := 0 }, { name := "nextId", type := .long, accessFlags := 2, slot := 8, constantValue := 0 }, { name := "member", type := .long, accessFlags := 18, slot := 9, constantValue := 0 }]
  methods := #[k2m0]
  instanceTypes := #[.int, .int, (.object "java/util/function/LongSupplier"), (.object "java/security/SecureRandom"), (.object "java/lang/Object"), (.object "java/util/Set"), (.object "java/util/Map"), (.object "java/util/Map"), .long, .long]
  staticTypes := #[.int, .long, .int]
  resolved := Array.replicate 252 none
  statics := none }

def pool3 : Array CpInfo := pool [(1, u "java/lang/Cloneable"), (0, .class_ 1), (0, u "java/lang/Object"), (0, .class_ 3)] 3

/-- java/lang/Cloneable -/
def k3 : Class := { plain "java/lang/Cloneable" (some 0) with
  accessFlags := 1537
  interfaces := #[]
  cf := some (fileOf pool3 2 #[] #[] 1537 4 #[] #[])
  fields := #[]
  methods := #[]
  instanceTypes := #[]
  staticTypes := #[]
  resolved := Array.replicate 8 none
  statics := none }

def pool4 : Array CpInfo := pool [(1, u "java/io/Serializable"), (0, .class_ 1), (0, u "java/lang/Object"), (0, .class_ 3)] 3

/-- java/io/Serializable -/
def k4 : Class := { plain "java/io/Serializable" (some 0) with
  accessFlags := 1537
  interfaces := #[]
  cf := some (fileOf pool4 2 #[] #[] 1537 4 #[] #[])
  fields := #[]
  methods := #[]
  instanceTypes := #[]
  staticTypes := #[]
  resolved := Array.replicate 8 none
  statics := none }

/-- the primitive byte -/
def k5 : Class := { plain "byte" none with kind := .primitive 'B', accessFlags := 0x411 }
/-- [B -/
def k6 : Class := { plain "[B" (some 0) with kind := .array 5 .byte, interfaces := #[3, 4], accessFlags := 1041 }

/-- the primitive int -/
def k7 : Class := { plain "int" none with kind := .primitive 'I', accessFlags := 0x411 }
/-- [I -/
def k8 : Class := { plain "[I" (some 0) with kind := .array 7 .int, interfaces := #[3, 4], accessFlags := 1041 }

def heap : Heap := #[]
def classes : Array Class := #[k0, k1, k2, k3, k4, k5, k6, k7, k8]
def interned : List (Array UInt16 × Addr) := []
def slotsUsed : Nat := 0
def theMethod : MethodId := ⟨1, 1⟩
def args0 : Array Value := #[.long 5, .long 300]
def aboutOver (below : List Frame) : State where
  vm := { classes := classes, interned := interned.toArray }
  heap := heap
  slotsUsed := slotsUsed
  threads := #[{ frames := .invoking theMethod args0 :: below }]
def below0 : List Frame := [.native { method := ⟨0, 0⟩, args := #[] }]
def about1 : State := aboutOver below0
def p0 : Program := .bare "" "" ""
def e0 : Env := launch0.env 0 0 0
theorem w_frames : about1.frames = Frame.invoking theMethod args0 :: below0 := rfl
set_option maxRecDepth 65536 in
theorem w_args : argsFit about1.vm theMethod args0 = true := by decide +kernel
set_option maxRecDepth 65536 in
theorem w_heap : heapFits about1 = true := by decide +kernel
set_option maxRecDepth 65536 in
theorem w_runnable : about1.curStatus? = some .runnable := by decide +kernel
set_option maxRecDepth 65536 in
theorem w_alone : about1.alone = true := by decide +kernel
set_option maxRecDepth 65536 in
theorem w_named : about1.methodNamed? x = some theMethod := by decide +kernel
set_option maxRecDepth 65536 in
theorem w_hears : about1.hears theMethod below0 = true := by decide +kernel
set_option maxRecDepth 65536 in
theorem w_ripe : about1.ripe theMethod args0 below0 = true := by decide +kernel
theorem w_running : about1.status = .running := rfl
set_option maxRecDepth 65536 in
theorem w_room : about1.hasRoom e0.platform room_1 = true :=
  launch0.hasRoom_least _ room_1 (by decide +kernel) (by decide +kernel) (by decide +kernel) (by decide +kernel) (by decide +kernel) (by decide +kernel)
theorem allAtoms_all (ts : List Jvm.Cond) (a : Array Jvm.Value) (st : Jvm.State) : (allAtoms ts).before a st = ts.all (fun c => c.before a st) := by
  induction ts with
  | nil => rfl
  | cons c t ih =>
    show (Jvm.Cond.and c (allAtoms t)).before a st = _
    rw [Jvm.Cond.before_and, ih, List.all_cons]
def words1 : List Jvm.Cond := Jvm.Cond.code x code maxLocals ret :: tables_1
/-- a 'code' word, met by the world's own term for the bytes: nothing is compared byte by byte -/
theorem code_word {y : MethodName} {bytes : ByteArray} {mx : Nat} {rt : Option FieldType} {a : Array Value} {s : State} {m : MethodId} {meth : Method} {c : Code} (h1 : s.methodNamed? y = some m) (h2 : s.vm.method? m = some meth) (h3 : meth.code = some c) (h4 : c.code = bytes)
    (h5 : (c.maxLocals == mx && c.exceptionTable.isEmpty && decide (c.maxStack ≤ mostOperands) && decide (meth.sig.returnType = rt) && !meth.locks && decide (parseMethodDescriptor y.desc = some meth.sig)) = true) : (Jvm.Cond.code y bytes mx rt).before a s = true := by
  simp only [Bool.and_eq_true, beq_iff_eq, Bool.not_eq_true', decide_eq_true_eq] at h5
  obtain ⟨⟨⟨⟨⟨g1, g2⟩, g3⟩, g4⟩, g5⟩, g6⟩ := h5
  simp [Cond.before, Cond.holds, Cond.value, h1, h2, h3, h4, g1, g2, g3, g4, g5, g6]
def isCode : Jvm.Cond → Bool
  | .code _ _ _ _ => true
  | _ => false
theorem all_split {L : List Jvm.Cond} {P : Jvm.Cond → Bool} (h1 : L.all (fun c => isCode c || P c) = true) (h2 : ∀ c ∈ L.filter isCode, P c = true) : L.all P = true := by
  refine List.all_eq_true.mpr fun c hc => ?_
  have h := List.all_eq_true.mp h1 c hc
  rcases Bool.eq_false_or_eq_true (isCode c) with hi | hi
  · exact h2 c (List.mem_filter.mpr ⟨hc, hi⟩)
  · simpa [hi] using h
set_option maxRecDepth 65536 in
theorem w_c0 : (Jvm.Cond.code x code maxLocals ret).before args0 about1 = true := code_word (m := ⟨1, 1⟩) (meth := k1m1) (c := k1c1) (by decide +kernel) rfl rfl rfl (by decide +kernel)
set_option maxRecDepth 65536 in
theorem w_c1 : (Jvm.Cond.code ({ cls := "com/example/quorumtree/quorumtree/core/Sessions", name := "firstId", desc := "(JJ)J" } : Jvm.MethodName) prog_50_method_2_code (4 : Nat) (Option.some Jvm.ClassFile.FieldType.long)).before args0 about1 = true := code_word (m := ⟨2, 0⟩) (meth := k2m0) (c := k2c0) (by decide +kernel) rfl rfl rfl (by decide +kernel)
def codes1 : List Jvm.Cond := [Jvm.Cond.code x code maxLocals ret, Jvm.Cond.code ({ cls := "com/example/quorumtree/quorumtree/core/Sessions", name := "firstId", desc := "(JJ)J" } : Jvm.MethodName) prog_50_method_2_code (4 : Nat) (Option.some Jvm.ClassFile.FieldType.long)]
set_option maxRecDepth 65536 in
theorem codes_eq : words1.filter isCode = codes1 := rfl
theorem w_codes : ∀ c ∈ words1.filter isCode, c.before args0 about1 = true := by
  rw [codes_eq]
  intro c hc
  simp only [codes1, List.mem_cons, List.not_mem_nil, or_false] at hc
  rcases hc with rfl | rfl
  · exact w_c0
  · exact w_c1
set_option maxRecDepth 65536 in
theorem w_t1 : words1.all (fun c => isCode c || c.before args0 about1) = true := by decide +kernel
theorem w_tables : (allAtoms (Jvm.Cond.code x code maxLocals ret :: tables_1)).before args0 about1 = true := by
  rw [allAtoms_all]
  show words1.all (fun c => c.before args0 about1) = true
  refine all_split ?_ w_codes
  rw [w_t1]
set_option maxRecDepth 65536 in
theorem w_case : (Jvm.Cond.and given_1 narrow_1).before args0 about1 = true := by decide +kernel
theorem w_applies : (headSpec (Jvm.Cond.code x code maxLocals ret :: tables_1) room_1).applies x e0.platform about1 = true :=
  (Spec.applies_iff w_frames).mpr ⟨w_running, w_runnable, w_alone, w_named, w_hears, w_ripe, w_room, w_tables⟩
theorem atStart : AtStart classFile x code maxLocals ret World_1 tables_1 room_1 Calls_1 rest_1 Pre_1 launch0 p0 e0 about1 theMethod args0 below0 :=
  ⟨lists_1, trivial, launch0.admits_env _ _ _, launch0.least_env, fairChoices_fair.cas, fairChoices_fair.clock, w_frames, w_args, w_heap, w_applies, trivial, trivial, w_case⟩
end start1
theorem witness_1 : WitnessClaimed_1 := ⟨start1.p0, start1.e0, start1.about1, start1.theMethod, start1.args0, start1.below0, start1.atStart⟩
end Jvm.Pilot.@@N@@
