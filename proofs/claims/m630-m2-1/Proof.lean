import JvmDerived
import JvmDerived.Pilot.@@N@@Statement
import JvmDerived.Pilot.@@N@@Code
set_option linter.unusedVariables false
set_option linter.unusedSimpArgs false
namespace Jvm.Pilot.@@N@@
open Jvm Jvm.ClassFile Sem Op Lib Jvm.Free Jvm.Stand Jvm.LawKit Jvm.RoadKit Bundle Jvm.Pilot.@@N@@.Jvm.D
/-! own: the walk's goal, read backwards -/
def Go (tb : Tables) (e : Env) (below : List Frame) (F : State → Outcome → Prop) (A : State) : Prop := ∃ t o, Steps tb e below A t ∧ F t o
def Fin (below : List Frame) (s : State) (Q : Option Value → Heap → List Loc → Prop) (k n : Nat) (t : State) (o : Outcome) : Prop := t.status = .running ∧ Ended t below o ∧ ∃ v L, o = .returned v ∧ Q v t.heap L ∧ FrameEnd s o t L k n
theorem go {tb : Tables} {e : Env} {below : List Frame} {F : State → Outcome → Prop} {A B : State} (st : ∀ t, Steps tb e below B t → Steps tb e below A t) (h : Go tb e below F B) : Go tb e below F A := by
  obtain ⟨t, o, h1, h2⟩ := h
  exact ⟨t, o, st t h1, h2⟩
theorem go_in {p : Program} {e : Env} {below : List Frame} {s s₁ : State} {Q : Option Value → Heap → List Loc → Prop} {k n : Nat} {A : State} (h : ∀ F : State → Outcome → Prop, (∀ t o, Fin below s Q k n t o → F t o) → Go p.tables e below F A) :
    ∃ t o, Steps p.tables e below A t ∧ t.status = .running ∧ Ended t below o ∧ ∃ v L, o = .returned v ∧ Q v t.heap L ∧ FrameEnd s o t L k n := by
  obtain ⟨t, o, h1, h2, h3, h4⟩ := h (Fin below s Q k n) (fun _ _ h => h)
  exact ⟨t, o, h1, h2, h3, h4⟩
theorem own_fld {s : State} {args : Array Value} {t : Term} {C n d : String} {a : Addr} {k : Int32} (ev : t.eval args s none [] s = some (.ref a)) (h : (Cond.eq (.field t C n d) (.int k)).value args s none s [] = some true) : Fld s s.heap a C n d (.int k) := Fld.start ((fld_at ev).symm.trans (eqv_i (Term.int_eval k) h))
def NSt (h : Heap) (x : Addr) : Prop := ∃ c : Cell, h[x]? = some c ∧ c.vm.isStatics = false
theorem own_sta_keep {Z : State} {h h' : Heap} {C n d : String} {v : Value} {ws : List Addr} (F : Sta Z h C n d v) (K : Keep h h' ws) (q : ∀ x ∈ ws, NSt h x) : Sta Z h' C n d v := by
  obtain ⟨cf, i, k, f, st, cell, h1, h2, h3, h4, h5, h6, h7⟩ := F
  refine ⟨cf, i, k, f, st, cell, h1, h2, h3, h4, K.2.1 _ _ h5 (fun z => ?_), h6, h7⟩
  obtain ⟨c, g1, g2⟩ := q _ z
  cases h5.symm.trans g1
  rw [h6] at g2; cases g2
end Jvm.Pilot.@@N@@
namespace Jvm.RoadKit
theorem Exa.ns {Z : State} {h : Heap} {a : Addr} {C : String} (F : Exa Z h a C) : Jvm.Pilot.@@N@@.NSt h a := by
  obtain ⟨c, _, h1, -, -, h4, -⟩ := F; exact ⟨c, h1, h4⟩
theorem Arv.ns {Z : State} {h : Heap} {a : Addr} {k : ClassId} {ty : ClassFile.FieldType} {z : Int32} {vs : List Value} {dv : Value} (F : Arv Z h a k ty z vs dv) : Jvm.Pilot.@@N@@.NSt h a := by
  obtain ⟨c, A, -⟩ := F; exact ⟨c, A.1, A.plain⟩
end Jvm.RoadKit
namespace Jvm.Pilot.@@N@@
open Jvm Jvm.ClassFile Sem Op Lib Jvm.Free Jvm.Stand Jvm.LawKit Jvm.RoadKit Bundle Jvm.Pilot.@@N@@.Jvm.D
theorem own_no {Z : State} {aw : Array Value} {X Y : String} {t : List String} {n : Nat} (hwc : ∀ w ∈ Cond.chainWords (X :: t), w.before aw Z = true) (wi : (Cond.instantiable Y n).before aw Z = true) (hn : Y ∉ X :: t) : ∃ c t, Z.vm.findClass X = some c ∧ Z.vm.findClass Y = some t ∧ Z.vm.assignable c t = false := by
  obtain ⟨cy, ky, hy1, hy2, hy3, hy4, -⟩ := Cond.instantiable_spec wi
  obtain ⟨cx, k, hx, -⟩ := Cond.chain_head hwc
  exact ⟨cx, cy, hx, hy1, Vm.notAssignable_of_chain hx hy1 hy2 hy3 (Bool.or_eq_false_iff.mp hy4).1 hwc hn⟩
theorem own_selp {Z s : State} {aw args : Array Value} {y : MethodName} {n : Nat} (hZ : Z.Warmed39 s.vm) (wi : (Cond.instantiable y.cls n).before aw Z = true) (wp : (Cond.privateMethod y).before aw Z = true) (wm : (Cond.instanceMethod y).before aw Z = true) (hy : y.cls ≠ "java/lang/invoke/MethodHandle" ∧ y.cls ≠ "java/lang/invoke/VarHandle") : (Cond.selects y.cls y y).before args s = true := by
  obtain ⟨c, k, h1, h2, -, h4, -⟩ := Cond.instantiable_spec (mvT (args := args) hZ wi)
  exact selects_self_of_private h1 h2 (Bool.or_eq_false_iff.mp h4).1 (Cond.privateMethod_at (mvP hZ wp (args := args))) (mvT hZ wm) hy
theorem own_hp {T : State} {h : Heap} {a : Nat} {c : Cell} (e : T.heap = h) (q : h[a]? = some c) : T.heap[a]? = some c := by rw [e]; exact q
section Ends
variable {p : Program} {l : Launch} {e : Env} {R : Room} {s : State} {m : MethodId} {args : Array Value} {below : List Frame} {meth : Method} {c : Code} {T : State} {locs : List Loc} {cells slots : Nat} {F : State → Outcome → Prop} {Q : Option Value → Heap → List Loc → Prop} {k n : Nat} {pc : Nat} {Ls : Array Slot} {rest : List Value} {h : Heap}
/-- the end of a walk: what is returned, what the heap says -/
theorem go_end (X : Stand p l e R s m args below meth c T locs cells slots) (hlk : meth.locks = false) (hF : ∀ t o, Fin below s Q k n t o → F t o) (eT : T.heap = h) (hk : cells ≤ k) (hn : slots ≤ n) {v : Option Value} (hv : meth.sig.returnType = none → v = none) (hQ : Q v h locs) {A : State}
    (hs : ∀ fs, (∀ (f : JFrame) (acts : List Action), f.method = m → f.locked = none → f.entered = [] → (doReturn e (T.setTop f) acts v).1 = T.setFrames fs) → Steps p.tables e below A (T.setFrames fs)) : Go p.tables e below F A := by
  obtain ⟨fs, hr, hrun, hended, hW, hsame⟩ := X.leave (v := v) hv hlk
  subst eT
  exact ⟨_, _, hs fs hr, hF _ _ ⟨hrun, hended, _, _, rfl, hQ, ⟨_, rfl⟩, hW, hsame.mono hk hn⟩⟩
theorem end_void (X : Stand p l e R s m args below meth c T locs cells slots) (hx : p.tables.exec = Jvm.exec) (hlk : meth.locks = false) (hret : meth.sig.returnType = none) (hd : decode c.code pc = .ok (.return_, 1)) (hF : ∀ t o, Fin below s Q k n t o → F t o) (eT : T.heap = h) (hk : cells ≤ k) (hn : slots ≤ n) (hQ : Q none h locs) : Go p.tables e below F (T.setTop (mkF m pc Ls [])) :=
  go_end X hlk hF eT hk hn (fun _ => rfl) hQ fun fs hr => X.returnOut hx hret hd hr
theorem end_nar {z : Int32} {t : FieldType} (X : Stand p l e R s m args below meth c T locs cells slots) (hx : p.tables.exec = Jvm.exec) (hlk : meth.locks = false) (hret : meth.sig.returnType = some t) (ht : t = .boolean ∨ t = .byte ∨ t = .char ∨ t = .short) (hd : decode c.code pc = .ok (.ireturn, 1)) (hF : ∀ t o, Fin below s Q k n t o → F t o) (eT : T.heap = h) (hk : cells ≤ k) (hn : slots ≤ n) (hQ : Q (some (.int (nar t z))) h locs) : Go p.tables e below F (T.setTop (mkF m pc Ls (.int z :: rest))) :=
  go_end X hlk hF eT hk hn (fun h => by rw [hret] at h; cases h) hQ fun fs hr => retN X hx hret ht hd hr
theorem end_int {z : Int32} (X : Stand p l e R s m args below meth c T locs cells slots) (hx : p.tables.exec = Jvm.exec) (hlk : meth.locks = false) (hret : meth.sig.returnType = some .int) (hd : decode c.code pc = .ok (.ireturn, 1)) (hF : ∀ t o, Fin below s Q k n t o → F t o) (eT : T.heap = h) (hk : cells ≤ k) (hn : slots ≤ n) (hQ : Q (some (.int z)) h locs) : Go p.tables e below F (T.setTop (mkF m pc Ls (.int z :: rest))) :=
  go_end X hlk hF eT hk hn (fun h => by rw [hret] at h; cases h) hQ fun fs hr => retOut X hx hret rfl (Or.inl ⟨rfl, Or.inl rfl, _, rfl⟩) hd hr
theorem end_long {z : Int64} (X : Stand p l e R s m args below meth c T locs cells slots) (hx : p.tables.exec = Jvm.exec) (hlk : meth.locks = false) (hret : meth.sig.returnType = some .long) (hd : decode c.code pc = .ok (.lreturn, 1)) (hF : ∀ t o, Fin below s Q k n t o → F t o) (eT : T.heap = h) (hk : cells ≤ k) (hn : slots ≤ n) (hQ : Q (some (.long z)) h locs) : Go p.tables e below F (T.setTop (mkF m pc Ls (.long z :: rest))) :=
  go_end X hlk hF eT hk hn (fun h => by rw [hret] at h; cases h) hQ fun fs hr => retOut X hx hret rfl (Or.inr (Or.inl ⟨rfl, rfl, _, rfl⟩)) hd hr
theorem end_double {z : UInt64} (X : Stand p l e R s m args below meth c T locs cells slots) (hx : p.tables.exec = Jvm.exec) (hlk : meth.locks = false) (hret : meth.sig.returnType = some .double) (hd : decode c.code pc = .ok (.dreturn, 1)) (hF : ∀ t o, Fin below s Q k n t o → F t o) (eT : T.heap = h) (hk : cells ≤ k) (hn : slots ≤ n) (hQ : Q (some (.double z)) h locs) : Go p.tables e below F (T.setTop (mkF m pc Ls (.double z :: rest))) :=
  go_end X hlk hF eT hk hn (fun h => by rw [hret] at h; cases h) hQ fun fs hr => retOut X hx hret rfl (Or.inr (Or.inr (Or.inl ⟨rfl, rfl, _, rfl⟩))) hd hr
theorem end_ref {w : Value} {t : FieldType} (X : Stand p l e R s m args below meth c T locs cells slots) (hx : p.tables.exec = Jvm.exec) (hlk : meth.locks = false) (hret : meth.sig.returnType = some t) (ht : t.isReference = true) (hw : w.isRef = true) (hnr : narrow t w = w) (hd : decode c.code pc = .ok (.areturn, 1)) (hF : ∀ t o, Fin below s Q k n t o → F t o) (eT : T.heap = h) (hk : cells ≤ k) (hn : slots ≤ n) (hQ : Q (some w) h locs) : Go p.tables e below F (T.setTop (mkF m pc Ls (w :: rest))) :=
  go_end X hlk hF eT hk hn (fun h => by rw [hret] at h; cases h) hQ fun fs hr => retOut X hx hret hnr (Or.inr (Or.inr (Or.inr (Or.inr ⟨rfl, ht, hw⟩)))) hd hr
end Ends
open Jvm.FP Jvm.Free.Fl
/-! own: halves: a datum whose double is a whole number -/
section Half
open Jvm.FP.Core
def own_dbl : Datum → Datum
  | .fin s c q => .fin s c (q + 1)
  | d => d
def own_H (i : Int) (d : Datum) : Prop := Whole i (own_dbl d)
theorem own_order (x y : Datum) : order (own_dbl x) (own_dbl y) = order x y := by
  cases x <;> cases y <;> try rfl
  rename_i s c q t d r
  simp only [own_dbl, order]
  have e : min (q + 1) (r + 1) = min q r + 1 := by omega
  rw [e]
  unfold inUnits
  rw [show (q + 1 - (min q r + 1)).toNat = (q - min q r).toNat by omega, show (r + 1 - (min q r + 1)).toNat = (r - min q r).toNat by omega]
theorem own_sum {s t : Bool} {c d : Nat} {q r : Int} : exactSum (own_dbl (.fin s c q)) (own_dbl (.fin t d r)) = own_dbl (exactSum (.fin s c q) (.fin t d r)) := by
  simp only [own_dbl, exactSum]
  have e : min (q + 1) (r + 1) = min q r + 1 := by omega
  rw [e]
  have e2 : sumUnits s c (q + 1) t d (r + 1) (min q r + 1) = sumUnits s c q t d r (min q r) := by
    unfold sumUnits inUnits
    rw [show (q + 1 - (min q r + 1)).toNat = (q - min q r).toNat by omega, show (r + 1 - (min q r + 1)).toNat = (r - min q r).toNat by omega]
  rw [e2]
theorem own_H2 {i : Int} {d : Datum} (h : Whole i d) : own_H (2 * i) d := by
  cases d with
  | nan => exact h.elim
  | inf => exact h.elim
  | fin s c q =>
    show signed s (c * 2 ^ (q + 1).toNat) = 2 * i * ((2 ^ (-(q + 1)).toNat : Nat) : Int)
    have h' : signed s (c * 2 ^ q.toNat) = i * ((2 ^ (-q).toNat : Nat) : Int) := h
    by_cases hq : 0 ≤ q
    · have e1 : (q + 1).toNat = q.toNat + 1 := by omega
      have e2 : (-(q + 1)).toNat = (-q).toNat := by omega
      rw [e1, e2, Nat.pow_succ, ← Nat.mul_assoc, signed_mul, h']
      have : (-q).toNat = 0 := by omega
      rw [this]; simp [Int.mul_comm]
    · have e1 : (q + 1).toNat = q.toNat := by omega
      have e2 : (-q).toNat = (-(q + 1)).toNat + 1 := by omega
      rw [e1, h', e2, Nat.pow_succ, Int.natCast_mul, Int.mul_comm 2 i, Int.mul_assoc, Int.mul_comm (2 : Int)]
      rfl
theorem own_signed {s : Bool} {i : Int} (h : i = 0 ∨ s = decide (i < 0)) : signed s i.natAbs = i := by
  rcases h with h | h
  · subst h; exact signed_zero s
  · subst h; unfold signed
    by_cases q : i < 0 <;> simp [q] <;> omega
theorem own_Hround {i : Int} {d : Datum} (h : own_H i d) (hi : i.natAbs < 2 ^ 53) : own_H i (round b64 d) := by
  cases d with
  | nan => exact h.elim
  | inf => exact h.elim
  | fin s c q =>
    have hn := whole_natAbs (show Whole i (.fin s c (q + 1)) from h)
    have hs : i = 0 ∨ s = decide (i < 0) := by
      by_cases z : i = 0
      · exact Or.inl z
      · exact Or.inr (whole_sign (show Whole i (.fin s c (q + 1)) from h) z)
    have e : round b64 (.fin s c q) = round b64 (.fin s i.natAbs (-1)) := by
      refine roundRatio_congr (by decide) (by decide) ?_
      rw [show (q - -1).toNat = (q + 1).toNat by omega, show (-1 - q).toNat = (-(q + 1)).toNat by omega, Nat.mul_one, Nat.mul_one]
      exact hn
    have hq : b64.qmin = -1074 := qmin_b64
    obtain ⟨c', q', e1, e2⟩ := round_exact good_b64 s (c := i.natAbs) (q := -1) hi (by rw [hq]; decide) (by decide)
    have hf := round_fits good_b64 (.fin s i.natAbs (-1))
    rw [e1] at hf
    have hq' : b64.qmin ≤ q' := hf.2.1
    rw [e, e1]
    show signed s (c' * 2 ^ (q' + 1).toNat) = i * ((2 ^ (-(q' + 1)).toNat : Nat) : Int)
    have e3 : c' * 2 ^ (q' + 1).toNat = i.natAbs * 2 ^ (-(q' + 1)).toNat := by
      unfold inUnits at e2
      rw [hq] at e2 hq'
      by_cases z : 0 ≤ q' + 1
      · rw [show (q' - -1074).toNat = (q' + 1).toNat + 1073 by omega, show (-1 - (-1074 : Int)).toNat = 1073 by decide, Nat.pow_add, ← Nat.mul_assoc] at e2
        rw [show (-(q' + 1)).toNat = 0 by omega, Nat.pow_zero, Nat.mul_one]
        exact Nat.eq_of_mul_eq_mul_right (Nat.two_pow_pos 1073) e2
      · rw [show (-1 - (-1074 : Int)).toNat = (-(q' + 1)).toNat + (q' - -1074).toNat by omega, Nat.pow_add, ← Nat.mul_assoc] at e2
        rw [show (q' + 1).toNat = 0 by omega, Nat.pow_zero, Nat.mul_one]
        exact Nat.eq_of_mul_eq_mul_right (Nat.two_pow_pos _) e2
    rw [e3, signed_mul, own_signed hs]
theorem own_half : own_H 1 (val64 4602678819172646912) := by
  have e : val64 4602678819172646912 = .fin false (2 ^ 52) (-53) := by decide +kernel
  rw [e]; show signed false _ = _
  decide +kernel
theorem own_Hadd {v : Int64} (h : v.toInt.natAbs < 2 ^ 51) : own_H (2 * v.toInt + 1) (val64 (FP.dadd (FP.l2d v) 4602678819172646912)) := by
  have h1 : Whole v.toInt (val64 (FP.l2d v)) := l2d_whole ⟨by omega, by omega⟩
  show own_H _ (val64 (Core.dadd (Core.l2d v) _))
  rw [val64_dadd]
  refine own_Hround ?_ (by omega)
  have a := own_H2 h1
  have b := own_half
  revert a b h1
  show Whole v.toInt (val64 (Core.l2d v)) → own_H (2 * v.toInt) (val64 (Core.l2d v)) → _
  cases e1 : val64 (Core.l2d v) with
  | nan => intro h; exact h.elim
  | inf => intro h; exact h.elim
  | fin s c q =>
    cases e2 : val64 4602678819172646912 with
    | nan => intro _ _ h; exact h.elim
    | inf => intro _ _ h; exact h.elim
    | fin t d r =>
      intro _ a b
      unfold own_H
      rw [← own_sum]
      exact whole_sum a b
theorem own_cmpL {a v : Int64} (ha : a.toInt.natAbs < 2 ^ 51) (hv : v.toInt.natAbs < 2 ^ 51) : FP.dcmp (FP.l2d a) (FP.dadd (FP.l2d v) 4602678819172646912) = some (compare (2 * a.toInt) (2 * v.toInt + 1)) := by
  show order (val64 _) (val64 _) = _
  rw [← own_order]
  exact order_whole (own_H2 (l2d_whole ⟨by omega, by omega⟩)) (own_Hadd hv)
theorem own_cmpR {a v : Int64} (ha : a.toInt.natAbs < 2 ^ 51) (hv : v.toInt.natAbs < 2 ^ 51) : FP.dcmp (FP.dadd (FP.l2d v) 4602678819172646912) (FP.l2d a) = some (compare (2 * v.toInt + 1) (2 * a.toInt)) := by
  show order (val64 _) (val64 _) = _
  rw [← own_order]
  exact order_whole (own_Hadd hv) (own_H2 (l2d_whole ⟨by omega, by omega⟩))
end Half
theorem own_cv {i j : Int} : (0 : Int32) < cmpValue (some (compare i j)) .g ↔ j < i := by
  rw [Core.compare_ite]
  by_cases h : i < j
  · rw [if_pos h]; constructor
    · intro q; exact absurd q (by decide)
    · intro q; omega
  · rw [if_neg h]
    by_cases g : i = j
    · rw [if_pos g]; constructor
      · intro q; exact absurd q (by decide)
      · intro q; omega
    · rw [if_neg g]; constructor
      · intro _; omega
      · intro _; decide
theorem own_gtL {a v : Int64} (ha : a.toInt.natAbs < 2 ^ 51) (hv : v.toInt.natAbs < 2 ^ 51) : (0 : Int32) < cmpValue (FP.dcmp (FP.l2d a) (FP.dadd (FP.l2d v) 4602678819172646912)) .g ↔ v.toInt < a.toInt := by
  rw [own_cmpL ha hv, own_cv]; omega
theorem own_gtR {a v : Int64} (ha : a.toInt.natAbs < 2 ^ 51) (hv : v.toInt.natAbs < 2 ^ 51) : (0 : Int32) < cmpValue (FP.dcmp (FP.dadd (FP.l2d v) 4602678819172646912) (FP.l2d a)) .g ↔ a.toInt ≤ v.toInt := by
  rw [own_cmpR ha hv, own_cv]; omega
theorem own_hfin : Fin64 4602678819172646912 := by rw [fin64_iff]; decide
theorem own_fin8 {r : UInt64} (h : Fin64 r) : ¬ (0 : Int32) < cmpValue (FP.dcmp (r &&& 0x7fffffffffffffff) (9218868437227405311 : UInt64)) .g := by
  have q := (Core.le_max (noNaN64_no.mp h.noNaN)).mpr (fin64_core.mp h)
  have q' : FP.dcmp (r &&& 0x7fffffffffffffff) (9218868437227405311 : UInt64) = some .lt ∨ FP.dcmp (r &&& 0x7fffffffffffffff) (9218868437227405311 : UInt64) = some .eq := q
  rcases q' with q | q <;> rw [q] <;> decide
theorem own_a31 (x : Int32) : 0 ≤ (x &&& (2147483647 : Int32)).toInt ∧ (x &&& (2147483647 : Int32)).toInt < 2147483648 := by
  have h : (x &&& 2147483647).toBitVec.toNat < 2147483648 := by
    rw [Int32.toBitVec_and, BitVec.toNat_and]
    exact Nat.lt_of_le_of_lt Nat.and_le_right (by decide)
  show 0 ≤ (x &&& 2147483647).toBitVec.toInt ∧ (x &&& 2147483647).toBitVec.toInt < 2147483648
  rw [BitVec.toInt_eq_toNat_cond, if_pos (by omega)]
  omega
theorem own_i32 (x : Int32) : -2147483648 ≤ x.toInt ∧ x.toInt < 2147483648 := ⟨Int32.le_toInt x, Int32.toInt_lt x⟩
theorem own_hi (a b : Int32) : (a.toInt64 + (b &&& (2147483647 : Int32)).toInt64).toInt = a.toInt + (b &&& (2147483647 : Int32)).toInt := by
  rw [Int64.toInt_add, Int32.toInt_toInt64, Int32.toInt_toInt64]
  have := own_i32 a; have := own_a31 b
  apply Int.bmod_eq_of_le <;> omega
theorem own_lw {x y : Int64} : ((0 : Int32) < lcmpW x y ↔ y.toInt < x.toInt) ∧ (lcmpW x y < (0 : Int32) ↔ x.toInt < y.toInt) := by
  unfold lcmpW
  by_cases h : x > y
  · rw [if_pos h]
    have h' := Int64.lt_iff_toInt_lt.mp h
    exact ⟨⟨fun _ => h', fun _ => by decide⟩, ⟨fun q => absurd q (by decide), fun q => by omega⟩⟩
  · rw [if_neg h]
    have h' : ¬ (y.toInt < x.toInt) := fun q => h (Int64.lt_iff_toInt_lt.mpr q)
    by_cases g : x = y
    · subst g; rw [if_pos rfl]
      exact ⟨⟨fun q => absurd q (by decide), fun q => by omega⟩, ⟨fun q => absurd q (by decide), fun q => by omega⟩⟩
    · rw [if_neg g]
      have g' : x.toInt ≠ y.toInt := fun q => g (Int64.toInt_inj.mp q)
      exact ⟨⟨fun q => absurd q (by decide), fun q => absurd q h'⟩, ⟨fun _ => by omega, fun _ => by decide⟩⟩
theorem own_gtW {a b : Int64} (ha : a.toInt.natAbs < 2 ^ 51) (hb : b.toInt.natAbs < 2 ^ 51) : (0 : Int32) < cmpValue (FP.dcmp (FP.l2d a) (FP.l2d b)) .g ↔ b.toInt < a.toInt := by
  have h := dcmp_ws (a := a) (b := b) ⟨by omega, by omega⟩ ⟨by omega, by omega⟩
  rw [h, ← Core.compare_ite, own_cv]
theorem own_lohi (p0 p1 : Int32) : ¬ (0 : Int32) < cmpValue (FP.dcmp (FP.l2d (p0.toInt64)) (FP.l2d ((p0.toInt64) + ((p1 &&& (2147483647 : Int32)).toInt64)))) .g := by
  have a := own_i32 p0; have b := own_a31 p1; have h := own_hi p0 p1; have e := Int32.toInt_toInt64 p0
  rw [own_gtW (by omega) (by omega), h, e]; omega

theorem d2_0 : decode jdk_30_method_1_code 0 = .ok (.aload_n 0, 1) := by decide +kernel
theorem d2_1 : decode jdk_30_method_1_code 1 = .ok (.invokespecial 1, 3) := by decide +kernel
theorem d2_4 : decode jdk_30_method_1_code 4 = .ok (.return_, 1) := by decide +kernel
theorem pn_2 : plainName "java/lang/Record" = true := by first | (simp [plainName, overriddenIn]; done) | decide +kernel
theorem ef_2 (m : MethodId) (a0 : Addr) : entryFrame m #[(.ref a0)] 1 = mkF m 0 #[.val (.ref a0)] [] := by first | (simp [entryFrame, mkF, argsToLocals, Value.category]; done) | rfl
abbrev room2 : Room := { frames := 1, cells := 0, slots := 0, locals := 12 }
def Q2 (Z : State) (a0 : Addr) (h0 : Heap) (n0 : Nat) (v : Option Value) (h : Heap) (L : List Loc) : Prop := v = none ∧ L = [] ∧ h = h0
set_option maxRecDepth 65536 in
set_option maxHeartbeats 40000000 in
theorem rm2 (l : Launch) (Z : State) (aw : Array Value) (hw : ∀ d ∈ tables_1, d.before aw Z = true) (ws : List Jvm.Cond) (a0 : Addr) (h0 : Heap) (n0 : Nat) (Z0 : n0 ≤ h0.size) :
    MetFree l (⟨"java/lang/Record", "<init>", "()V"⟩ : MethodName) (head1 (Jvm.Cond.code (⟨"java/lang/Record", "<init>", "()V"⟩ : MethodName) jdk_30_method_1_code 1 none :: ws) room2) (fun a U => a = #[(.ref a0)] ∧ Z.Warmed39 U.vm ∧ U.heap = h0) (fun _ _ _ _ _ => True) (fun _ U o U' => ∃ v L, o = .returned v ∧ Q2 Z a0 h0 n0 v U'.heap L ∧ FrameEnd U o U' L room2.cells room2.slots) := by
  refine MetFree.of_bodySF (plainFor_of_name pn_2) hisR ?_
  intro p e s m args below meth c s₁ Bd hml0 hP hK
  obtain ⟨rfl, hZ, hh⟩ := hP
  have hx := Bd.exec
  have hby := Bd.bytes
  have hml : c.maxLocals = 1 := hml0
  have hown : s.vm.findClass "java/lang/Record" = some m.cls := findClass_of_methodNamed Bd.named
  have hnm := (name_of_methodNamed Bd.named Bd.method).1
  have X0 : Stand p l e room2 s m #[(.ref a0)] below meth c s₁ [] 0 0 := Stand.of_body Bd
  have e0 : s₁.heap = h0 := by rw [← hh, Bd.state]; rfl
  have N0 := Fr.nil n0
  rw [ef_2 m a0]
  refine go_in (s₁ := s₁) (Q := Q2 Z a0 h0 n0) fun F hF => ?_
  refine go (B := s₁.setTop (mkF m 1 #[.val (.ref a0)] [(.ref a0)])) (fun _ k => XS.aloadN X0.here hx rfl (hb hby d2_0) rfl rfl k) ?_
  obtain ⟨T1, X1, e1, st1⟩ := initO X0 hx hZ hown (hw _ (List.mem_of_getElem? (i := 12) rfl)) (hw _ (List.mem_of_getElem? (i := 13) rfl)) (hw _ (List.mem_of_getElem? (i := 14) rfl)) e0 (g := (mkF m 1 #[.val (.ref a0)] [(.ref a0)])) rfl (by rw [hml]; rfl) rfl (hb hby d2_1) (by decide) (W := 0) (by show 2 * 0 + _ ≤ _; exact Nat.le_of_eq rfl) (by decide)
  refine go (B := T1.setTop (mkF m 4 #[.val (.ref a0)] [])) st1 ?_
  exact end_void X1 hx Bd.notSynchronized Bd.returns (hb hby d2_4) hF e1 (by decide) (by decide) ⟨rfl, rfl, rfl⟩
theorem pd_0 : parseMethodDescriptor "(D)D" = some ⟨[.double], some .double⟩ := by decide +kernel
theorem d4_0 : decode jdk_117_method_8_code 0 = .ok (.dload_n 0, 1) := by decide +kernel
theorem d4_1 : decode jdk_117_method_8_code 1 = .ok (.invokestatic 38, 3) := by decide +kernel
theorem d4_4 : decode jdk_117_method_8_code 4 = .ok (.ldc2_w 111, 3) := by decide +kernel
theorem d4_7 : decode jdk_117_method_8_code 7 = .ok (.dcmp .g, 1) := by decide +kernel
theorem d4_8 : decode jdk_117_method_8_code 8 = .ok (.ifCond .gt 7, 3) := by decide +kernel
theorem d4_11 : decode jdk_117_method_8_code 11 = .ok (.iconst 1, 1) := by decide +kernel
theorem d4_12 : decode jdk_117_method_8_code 12 = .ok (.goto 4, 3) := by decide +kernel
theorem d4_16 : decode jdk_117_method_8_code 16 = .ok (.ireturn, 1) := by decide +kernel
theorem pn_4 : plainName "java/lang/Double" = true := by first | (simp [plainName, overriddenIn]; done) | decide +kernel
theorem ef_4 (m : MethodId) (r0 : UInt64) : entryFrame m #[(.double r0)] 2 = mkF m 0 #[.val (.double r0), .second] [] := by first | (simp [entryFrame, mkF, argsToLocals, Value.category]; done) | rfl
def f4 : Int32 := (1 : Int32)
abbrev room4 : Room := { frames := 1, cells := 0, slots := 0, locals := 13 }
def Q4 (Z : State) (r0 : UInt64) (h0 : Heap) (n0 : Nat) (v : Option Value) (h : Heap) (L : List Loc) : Prop := v = some (.int f4) ∧ L = [] ∧ h = h0
set_option maxRecDepth 65536 in
set_option maxHeartbeats 40000000 in
theorem rm4 (l : Launch) (Z : State) (aw : Array Value) (hw : ∀ d ∈ tables_1, d.before aw Z = true) (ws : List Jvm.Cond) (r0 : UInt64) (h0 : Heap) (n0 : Nat) (Z0 : n0 ≤ h0.size) (hf : Fin64 r0) :
    MetFree l (⟨"java/lang/Double", "isFinite", "(D)Z"⟩ : MethodName) (head1 (Jvm.Cond.code (⟨"java/lang/Double", "isFinite", "(D)Z"⟩ : MethodName) jdk_117_method_8_code 2 (some .boolean) :: ws) room4) (fun a U => a = #[(.double r0)] ∧ Z.Warmed39 U.vm ∧ U.heap = h0) (fun _ _ _ _ _ => True) (fun _ U o U' => ∃ v L, o = .returned v ∧ Q4 Z r0 h0 n0 v U'.heap L ∧ FrameEnd U o U' L room4.cells room4.slots) := by
  refine MetFree.of_bodySF (plainFor_of_name pn_4) hisR ?_
  intro p e s m args below meth c s₁ Bd hml0 hP hK
  obtain ⟨rfl, hZ, hh⟩ := hP
  have hx := Bd.exec
  have hby := Bd.bytes
  have hml : c.maxLocals = 2 := hml0
  have hown : s.vm.findClass "java/lang/Double" = some m.cls := findClass_of_methodNamed Bd.named
  have hnm := (name_of_methodNamed Bd.named Bd.method).1
  have X0 : Stand p l e room4 s m #[(.double r0)] below meth c s₁ [] 0 0 := Stand.of_body Bd
  have e0 : s₁.heap = h0 := by rw [← hh, Bd.state]; rfl
  have N0 := Fr.nil n0
  rw [ef_4 m r0]
  refine go_in (s₁ := s₁) (Q := Q4 Z r0 h0 n0) fun F hF => ?_
  refine go (B := s₁.setTop (mkF m 1 #[.val (.double r0), .second] [(.double r0)])) (fun _ k => XS.dloadN X0.here hx rfl (hb hby d4_0) rfl k) ?_
  obtain ⟨T1, X1, e1, st1⟩ := natS X0 hx hZ hown (y := Jvm.Free.Fl.Abs.absDN) (hw _ (List.mem_of_getElem? (i := 19) rfl)) (hw _ (List.mem_of_getElem? (i := 20) rfl)) (hw _ (List.mem_of_getElem? (i := 21) rfl)) (hw _ (List.mem_of_getElem? (i := 22) rfl)) (by decide) e0 (W := 0) (fun q => Jvm.Free.Fl.Abs.absD_pays r0 q (by decide) (by decide)) (g := (mkF m 1 #[.val (.double r0), .second] [(.double r0)])) rfl (by rw [hml]; rfl) (argsL := [(.double r0)]) (rest := []) (lenOf pd_0 rfl) rfl (by show 2 * 0 + _ ≤ _; exact Nat.le_of_eq rfl) (hb hby d4_1) (by decide) (by decide) ⟨rfl, hf.noNaN⟩ rfl
  refine go (B := T1.setTop (mkF m 4 #[.val (.double r0), .second] [(.double (r0 &&& 0x7fffffffffffffff))])) st1 ?_
  refine go (B := T1.setTop (mkF m 7 #[.val (.double r0), .second] [(.double (9218868437227405311 : UInt64)), (.double (r0 &&& 0x7fffffffffffffff))])) (fun _ k => X1.ldc2DoubleC hx hown (mvT hZ (hw _ (List.mem_of_getElem? (i := 23) rfl))) (g := (mkF m 4 #[.val (.double r0), .second] [(.double (r0 &&& 0x7fffffffffffffff))])) rfl (hb hby d4_4) _ k) ?_
  refine go (B := T1.setTop (mkF m 8 #[.val (.double r0), .second] [(.int (cmpValue (FP.dcmp (r0 &&& 0x7fffffffffffffff) (9218868437227405311 : UInt64)) .g))])) (fun _ k => XS.dcmpS X1.here hx rfl (hb hby d4_7) rfl rfl k) ?_
  refine go (B := T1.setTop (mkF m 11 #[.val (.double r0), .second] [])) (fun _ k => XS.ifNo X1.here hx rfl (hb hby d4_8) rfl ((if0 _ _).trans (flt (show ¬ ((0 : Int32) < (cmpValue (FP.dcmp (r0 &&& 0x7fffffffffffffff) (9218868437227405311 : UInt64)) .g)) from (own_fin8 hf))).2.2.1) k) ?_
  refine go (B := T1.setTop (mkF m 12 #[.val (.double r0), .second] [(.int (1 : Int32))])) (fun _ k => XS.iconst X1.here hx rfl (hb hby d4_11) k) ?_
  refine go (B := T1.setTop (mkF m 16 #[.val (.double r0), .second] [(.int (1 : Int32))])) (fun _ k => XS.goto X1.here hx rfl (pc0 := 12) (pc' := 16) rfl (hb hby d4_12) (by decide) (by decide) k) ?_
  have r2 : f4 = (1 : Int32) := by unfold f4; rfl
  exact end_nar X1 hx Bd.notSynchronized (t := .boolean) Bd.returns (by simp) (hb hby d4_16) hF e1 (by decide) (by decide) ⟨(congrArg (fun z => some (Value.int z)) r2.symm), rfl, rfl⟩
theorem pd_1 : parseMethodDescriptor "()V" = some ⟨[], none⟩ := by decide +kernel
theorem pd_2 : parseMethodDescriptor "(D)Z" = some ⟨[.double], some .boolean⟩ := by decide +kernel
theorem d1_0 : decode prog_16_method_1_code 0 = .ok (.aload_n 0, 1) := by decide +kernel
theorem d1_1 : decode prog_16_method_1_code 1 = .ok (.invokespecial 1, 3) := by decide +kernel
theorem d1_4 : decode prog_16_method_1_code 4 = .ok (.dload_n 1, 1) := by decide +kernel
theorem d1_5 : decode prog_16_method_1_code 5 = .ok (.invokestatic 7, 3) := by decide +kernel
theorem d1_8 : decode prog_16_method_1_code 8 = .ok (.ifCond .eq 16, 3) := by decide +kernel
theorem d1_11 : decode prog_16_method_1_code 11 = .ok (.dload_n 3, 1) := by decide +kernel
theorem d1_12 : decode prog_16_method_1_code 12 = .ok (.invokestatic 7, 3) := by decide +kernel
theorem d1_15 : decode prog_16_method_1_code 15 = .ok (.ifCond .eq 9, 3) := by decide +kernel
theorem d1_18 : decode prog_16_method_1_code 18 = .ok (.dload_n 1, 1) := by decide +kernel
theorem d1_19 : decode prog_16_method_1_code 19 = .ok (.dload_n 3, 1) := by decide +kernel
theorem d1_20 : decode prog_16_method_1_code 20 = .ok (.dcmp .g, 1) := by decide +kernel
theorem d1_21 : decode prog_16_method_1_code 21 = .ok (.ifCond .le 18, 3) := by decide +kernel
theorem d1_39 : decode prog_16_method_1_code 39 = .ok (.aload_n 0, 1) := by decide +kernel
theorem d1_40 : decode prog_16_method_1_code 40 = .ok (.dload_n 1, 1) := by decide +kernel
theorem d1_41 : decode prog_16_method_1_code 41 = .ok (.putfield 22, 3) := by decide +kernel
theorem d1_44 : decode prog_16_method_1_code 44 = .ok (.aload_n 0, 1) := by decide +kernel
theorem d1_45 : decode prog_16_method_1_code 45 = .ok (.dload_n 3, 1) := by decide +kernel
theorem d1_46 : decode prog_16_method_1_code 46 = .ok (.putfield 28, 3) := by decide +kernel
theorem d1_49 : decode prog_16_method_1_code 49 = .ok (.return_, 1) := by decide +kernel
theorem pn_1 : plainName "com/example/antipode/antipode/problem/Interval" = true := by first | (simp [plainName, overriddenIn]; done) | decide +kernel
theorem ef_1 (m : MethodId) (a0 : Addr) (r1 : UInt64) (r2 : UInt64) : entryFrame m #[(.ref a0), (.double r1), (.double r2)] 5 = mkF m 0 #[.val (.ref a0), .val (.double r1), .second, .val (.double r2), .second] [] := by first | (simp [entryFrame, mkF, argsToLocals, Value.category]; done) | rfl
abbrev room1 : Room := { frames := 2, cells := 0, slots := 0, locals := 26 }
def Q1 (Z : State) (a0 : Addr) (r1 : UInt64) (r2 : UInt64) (h0 : Heap) (n0 : Nat) (v : Option Value) (h : Heap) (L : List Loc) : Prop := v = none ∧ Fr n0 L ∧ Keep h0 h [a0] ∧ Exa Z h a0 "com/example/antipode/antipode/problem/Interval" ∧ Fld Z h a0 "com/example/antipode/antipode/problem/Interval" "lower" "D" (.double r1) ∧ Fld Z h a0 "com/example/antipode/antipode/problem/Interval" "upper" "D" (.double r2)
set_option maxRecDepth 65536 in
set_option maxHeartbeats 40000000 in
theorem rm1 (l : Launch) (Z : State) (aw : Array Value) (hw : ∀ d ∈ tables_1, d.before aw Z = true) (ws : List Jvm.Cond) (a0 : Addr) (r1 : UInt64) (r2 : UInt64) (h0 : Heap) (n0 : Nat) (Z0 : n0 ≤ h0.size) (F_lower_a0 : Fld Z h0 a0 "com/example/antipode/antipode/problem/Interval" "lower" "D" (.double (0 : UInt64))) (F_upper_a0 : Fld Z h0 a0 "com/example/antipode/antipode/problem/Interval" "upper" "D" (.double (0 : UInt64))) (E_a0 : Exa Z h0 a0 "com/example/antipode/antipode/problem/Interval") (hf1 : Fin64 r1) (hf2 : Fin64 r2) (ha0 : ¬ ((0 : Int32) < (cmpValue (FP.dcmp r1 r2) .g))) (g_a0 : n0 ≤ a0) :
    MetFree l (⟨"com/example/antipode/antipode/problem/Interval", "<init>", "(DD)V"⟩ : MethodName) (head1 (Jvm.Cond.code (⟨"com/example/antipode/antipode/problem/Interval", "<init>", "(DD)V"⟩ : MethodName) prog_16_method_1_code 5 none :: ws) room1) (fun a U => a = #[(.ref a0), (.double r1), (.double r2)] ∧ Z.Warmed39 U.vm ∧ U.heap = h0) (fun _ _ _ _ _ => True) (fun _ U o U' => ∃ v L, o = .returned v ∧ Q1 Z a0 r1 r2 h0 n0 v U'.heap L ∧ FrameEnd U o U' L room1.cells room1.slots) := by
  refine MetFree.of_bodySF (plainFor_of_name pn_1) hisR ?_
  intro p e s m args below meth c s₁ Bd hml0 hP hK
  obtain ⟨rfl, hZ, hh⟩ := hP
  have hx := Bd.exec
  have hby := Bd.bytes
  have hml : c.maxLocals = 5 := hml0
  have hown : s.vm.findClass "com/example/antipode/antipode/problem/Interval" = some m.cls := findClass_of_methodNamed Bd.named
  have hnm := (name_of_methodNamed Bd.named Bd.method).1
  have X0 : Stand p l e room1 s m #[(.ref a0), (.double r1), (.double r2)] below meth c s₁ [] 0 0 := Stand.of_body Bd
  have e0 : s₁.heap = h0 := by rw [← hh, Bd.state]; rfl
  have N0 := Fr.nil n0
  have K0 := Keep.refl h0 [a0]
  rw [ef_1 m a0 r1 r2]
  refine go_in (s₁ := s₁) (Q := Q1 Z a0 r1 r2 h0 n0) fun F hF => ?_
  refine go (B := s₁.setTop (mkF m 1 #[.val (.ref a0), .val (.double r1), .second, .val (.double r2), .second] [(.ref a0)])) (fun _ k => XS.aloadN X0.here hx rfl (hb hby d1_0) rfl rfl k) ?_
  obtain ⟨_, _, ⟨T1, L1, k1, n1⟩, -, X1, ⟨Lc1, hQ1, l1, y1, z1⟩, st1⟩ := X0.specialBack hx (y := (⟨"java/lang/Record", "<init>", "()V"⟩ : MethodName)) rfl hown (mvT hZ (hw _ (List.mem_of_getElem? (i := 7) rfl))) (mvT hZ (hw _ (List.mem_of_getElem? (i := 8) rfl))) (mvT hZ (hw _ (List.mem_of_getElem? (i := 11) rfl))) (by decide) (backOf (W := 0) (rm2 l Z aw hw [] a0 h0 n0 Z0 ) hZ (hw _ (List.mem_of_getElem? (i := 11) rfl)) (hw _ (List.mem_of_getElem? (i := 10) rfl)) (by decide) (by decide)) (g := (mkF m 1 #[.val (.ref a0), .val (.double r1), .second, .val (.double r2), .second] [(.ref a0)])) rfl (by rw [hml]; rfl) (Steps.refl _) (a := a0) (argsL := []) (rest := []) (lenOf pd_1 rfl) rfl (by show 2 * 0 + _ ≤ _; exact Nat.le_of_eq rfl) (hb hby d1_1) (fun _ _ => ⟨rfl, e0, (by decide : 0 + 0 ≤ _), (by decide : 0 + 0 ≤ _)⟩)
  dsimp only [Pt.U, Pt.locs, Pt.cells, Pt.slots] at X1 l1 y1 z1 st1 hQ1
  subst l1 y1 z1
  obtain ⟨rfl, rfl, e1⟩ := hQ1
  have N1 := Fr.app N0 (Fr.nil n0)
  refine go (B := T1.setTop (mkF m 4 #[.val (.ref a0), .val (.double r1), .second, .val (.double r2), .second] [])) (fun _ k => st1.trans k) ?_
  refine go (B := T1.setTop (mkF m 5 #[.val (.ref a0), .val (.double r1), .second, .val (.double r2), .second] [(.double r1)])) (fun _ k => XS.dloadN X1.here hx rfl (hb hby d1_4) rfl k) ?_
  obtain ⟨_, _, ⟨T2, L2, k2, n2⟩, -, X2, ⟨Lc2, hQ2, l2, y2, z2⟩, st2⟩ := Jvm.LawKit.callS X1 hx (y := (⟨"java/lang/Double", "isFinite", "(D)Z"⟩ : MethodName)) hown (mvT hZ (hw _ (List.mem_of_getElem? (i := 15) rfl))) (mvT hZ (hw _ (List.mem_of_getElem? (i := 16) rfl))) (mvT hZ (hw _ (List.mem_of_getElem? (i := 17) rfl))) (mvT hZ (hw _ (List.mem_of_getElem? (i := 18) rfl))) (by decide) (backOf (W := 0) (rm4 l Z aw hw [] r1 h0 n0 Z0 hf1) hZ (hw _ (List.mem_of_getElem? (i := 18) rfl)) (hw _ (List.mem_of_getElem? (i := 17) rfl)) (by decide) (by decide)) (g := (mkF m 5 #[.val (.ref a0), .val (.double r1), .second, .val (.double r2), .second] [(.double r1)])) rfl (by rw [hml]; rfl) (argsL := [(.double r1)]) (rest := []) (lenOf pd_2 rfl) rfl (by show 2 * 0 + _ ≤ _; exact Nat.le_of_eq rfl) (hb hby d1_5) (fun _ _ => ⟨rfl, e1, (by decide : 0 + 0 ≤ _), (by decide : 0 + 0 ≤ _)⟩)
  dsimp only [Pt.U, Pt.locs, Pt.cells, Pt.slots] at X2 l2 y2 z2 st2 hQ2
  subst l2 y2 z2
  obtain ⟨rfl, rfl, e2⟩ := hQ2
  have N2 := Fr.app N1 (Fr.nil n0)
  refine go (B := T2.setTop (mkF m 8 #[.val (.ref a0), .val (.double r1), .second, .val (.double r2), .second] [(.int (1 : Int32))])) (fun _ k => st2 _ k) ?_
  refine go (B := T2.setTop (mkF m 11 #[.val (.ref a0), .val (.double r1), .second, .val (.double r2), .second] [])) (fun _ k => XS.ifNo X2.here hx rfl (hb hby d1_8) rfl ((if0 _ _).trans (feq (by decide : ¬ ((1 : Int32) = (0 : Int32)))).1) k) ?_
  refine go (B := T2.setTop (mkF m 12 #[.val (.ref a0), .val (.double r1), .second, .val (.double r2), .second] [(.double r2)])) (fun _ k => XS.dloadN X2.here hx rfl (hb hby d1_11) rfl k) ?_
  obtain ⟨_, _, ⟨T3, L3, k3, n3⟩, -, X3, ⟨Lc3, hQ3, l3, y3, z3⟩, st3⟩ := Jvm.LawKit.callS X2 hx (y := (⟨"java/lang/Double", "isFinite", "(D)Z"⟩ : MethodName)) hown (mvT hZ (hw _ (List.mem_of_getElem? (i := 15) rfl))) (mvT hZ (hw _ (List.mem_of_getElem? (i := 16) rfl))) (mvT hZ (hw _ (List.mem_of_getElem? (i := 17) rfl))) (mvT hZ (hw _ (List.mem_of_getElem? (i := 18) rfl))) (by decide) (backOf (W := 0) (rm4 l Z aw hw [] r2 h0 n0 Z0 hf2) hZ (hw _ (List.mem_of_getElem? (i := 18) rfl)) (hw _ (List.mem_of_getElem? (i := 17) rfl)) (by decide) (by decide)) (g := (mkF m 12 #[.val (.ref a0), .val (.double r1), .second, .val (.double r2), .second] [(.double r2)])) rfl (by rw [hml]; rfl) (argsL := [(.double r2)]) (rest := []) (lenOf pd_2 rfl) rfl (by show 2 * 0 + _ ≤ _; exact Nat.le_of_eq rfl) (hb hby d1_12) (fun _ _ => ⟨rfl, e2, (by decide : 0 + 0 ≤ _), (by decide : 0 + 0 ≤ _)⟩)
  dsimp only [Pt.U, Pt.locs, Pt.cells, Pt.slots] at X3 l3 y3 z3 st3 hQ3
  subst l3 y3 z3
  obtain ⟨rfl, rfl, e3⟩ := hQ3
  have N3 := Fr.app N2 (Fr.nil n0)
  refine go (B := T3.setTop (mkF m 15 #[.val (.ref a0), .val (.double r1), .second, .val (.double r2), .second] [(.int (1 : Int32))])) (fun _ k => st3 _ k) ?_
  refine go (B := T3.setTop (mkF m 18 #[.val (.ref a0), .val (.double r1), .second, .val (.double r2), .second] [])) (fun _ k => XS.ifNo X3.here hx rfl (hb hby d1_15) rfl ((if0 _ _).trans (feq (by decide : ¬ ((1 : Int32) = (0 : Int32)))).1) k) ?_
  refine go (B := T3.setTop (mkF m 19 #[.val (.ref a0), .val (.double r1), .second, .val (.double r2), .second] [(.double r1)])) (fun _ k => XS.dloadN X3.here hx rfl (hb hby d1_18) rfl k) ?_
  refine go (B := T3.setTop (mkF m 20 #[.val (.ref a0), .val (.double r1), .second, .val (.double r2), .second] [(.double r2), (.double r1)])) (fun _ k => XS.dloadN X3.here hx rfl (hb hby d1_19) rfl k) ?_
  refine go (B := T3.setTop (mkF m 21 #[.val (.ref a0), .val (.double r1), .second, .val (.double r2), .second] [(.int (cmpValue (FP.dcmp r1 r2) .g))])) (fun _ k => XS.dcmpS X3.here hx rfl (hb hby d1_20) rfl rfl k) ?_
  refine go (B := T3.setTop (mkF m 39 #[.val (.ref a0), .val (.double r1), .second, .val (.double r2), .second] [])) (fun _ k => XS.ifYes X3.here hx rfl (pc0 := 21) (pc' := 39) rfl (hb hby d1_21) rfl ((if0 _ _).trans (flt ha0).2.2.2) (by decide) (by decide) k) ?_
  refine go (B := T3.setTop (mkF m 40 #[.val (.ref a0), .val (.double r1), .second, .val (.double r2), .second] [(.ref a0)])) (fun _ k => XS.aloadN X3.here hx rfl (hb hby d1_39) rfl rfl k) ?_
  refine go (B := T3.setTop (mkF m 41 #[.val (.ref a0), .val (.double r1), .second, .val (.double r2), .second] [(.double r1), (.ref a0)])) (fun _ k => XS.dloadN X3.here hx rfl (hb hby d1_40) rfl k) ?_
  obtain ⟨T4, h4, X4, e4, W4, st4⟩ := putF X3 hx hZ hown (host := "") (Or.inl (hw _ (List.mem_of_getElem? (i := 24) rfl))) Via.refl e3 F_lower_a0 E_a0 (Or.inr ⟨(hw _ (List.mem_of_getElem? (i := 25) rfl)), rfl, hnm⟩) (hw _ (List.mem_of_getElem? (i := 2) rfl)) (ty := .double) (by decide) rfl rfl (g := (mkF m 41 #[.val (.ref a0), .val (.double r1), .second, .val (.double r2), .second] [(.double r1), (.ref a0)])) rfl rfl (hb hby d1_41)
  have F_upper_a0_4 := Fld.other W4 F_upper_a0 (Or.inr (slot_ne (Or.inr (hw _ (List.mem_of_getElem? (i := 27) rfl))) (Or.inr (hw _ (List.mem_of_getElem? (i := 25) rfl))) (by decide) (t := .double) (t' := .double) (by decide) (by decide)))
  have E_a0_4 := E_a0.wr W4
  have F_lower_a0_4 := Fld.same W4 F_lower_a0
  have Z4 := Nat.le_trans Z0 (Keep.of_wr W4).1
  have K4 := K0.wr W4 (Or.inl (List.mem_of_getElem? (i := 0) rfl))
  have N4 := Fr.snoc X4 N3 g_a0
  refine go (B := T4.setTop (mkF m 44 #[.val (.ref a0), .val (.double r1), .second, .val (.double r2), .second] [])) st4 ?_
  refine go (B := T4.setTop (mkF m 45 #[.val (.ref a0), .val (.double r1), .second, .val (.double r2), .second] [(.ref a0)])) (fun _ k => XS.aloadN X4.here hx rfl (hb hby d1_44) rfl rfl k) ?_
  refine go (B := T4.setTop (mkF m 46 #[.val (.ref a0), .val (.double r1), .second, .val (.double r2), .second] [(.double r2), (.ref a0)])) (fun _ k => XS.dloadN X4.here hx rfl (hb hby d1_45) rfl k) ?_
  obtain ⟨T5, h5, X5, e5, W5, st5⟩ := putF X4 hx hZ hown (host := "") (Or.inl (hw _ (List.mem_of_getElem? (i := 26) rfl))) Via.refl e4 F_upper_a0_4 E_a0_4 (Or.inr ⟨(hw _ (List.mem_of_getElem? (i := 27) rfl)), rfl, hnm⟩) (hw _ (List.mem_of_getElem? (i := 2) rfl)) (ty := .double) (by decide) rfl rfl (g := (mkF m 46 #[.val (.ref a0), .val (.double r1), .second, .val (.double r2), .second] [(.double r2), (.ref a0)])) rfl rfl (hb hby d1_46)
  have E_a0_5 := E_a0_4.wr W5
  have F_lower_a0_5 := Fld.other W5 F_lower_a0_4 (Or.inr (slot_ne (Or.inr (hw _ (List.mem_of_getElem? (i := 25) rfl))) (Or.inr (hw _ (List.mem_of_getElem? (i := 27) rfl))) (by decide) (t := .double) (t' := .double) (by decide) (by decide)))
  have F_upper_a0_5 := Fld.same W5 F_upper_a0_4
  have Z5 := Nat.le_trans Z4 (Keep.of_wr W5).1
  have K5 := K4.wr W5 (Or.inl (List.mem_of_getElem? (i := 0) rfl))
  have N5 := Fr.snoc X5 N4 g_a0
  refine go (B := T5.setTop (mkF m 49 #[.val (.ref a0), .val (.double r1), .second, .val (.double r2), .second] [])) st5 ?_
  exact end_void X5 hx Bd.notSynchronized Bd.returns (hb hby d1_49) hF e5 (by decide) (by decide) ⟨rfl, N5, K5, E_a0_5, F_lower_a0_5, F_upper_a0_5⟩
theorem d6_0 : decode prog_16_method_2_code 0 = .ok (.aload_n 0, 1) := by decide +kernel
theorem d6_1 : decode prog_16_method_2_code 1 = .ok (.getfield 22, 3) := by decide +kernel
theorem d6_4 : decode prog_16_method_2_code 4 = .ok (.dload_n 1, 1) := by decide +kernel
theorem d6_5 : decode prog_16_method_2_code 5 = .ok (.dcmp .g, 1) := by decide +kernel
theorem d6_6 : decode prog_16_method_2_code 6 = .ok (.ifCond .gt 16, 3) := by decide +kernel
theorem d6_9 : decode prog_16_method_2_code 9 = .ok (.dload_n 1, 1) := by decide +kernel
theorem d6_10 : decode prog_16_method_2_code 10 = .ok (.aload_n 0, 1) := by decide +kernel
theorem d6_11 : decode prog_16_method_2_code 11 = .ok (.getfield 28, 3) := by decide +kernel
theorem d6_14 : decode prog_16_method_2_code 14 = .ok (.dcmp .g, 1) := by decide +kernel
theorem d6_15 : decode prog_16_method_2_code 15 = .ok (.ifCond .gt 7, 3) := by decide +kernel
theorem d6_18 : decode prog_16_method_2_code 18 = .ok (.iconst 1, 1) := by decide +kernel
theorem d6_19 : decode prog_16_method_2_code 19 = .ok (.goto 4, 3) := by decide +kernel
theorem d6_22 : decode prog_16_method_2_code 22 = .ok (.iconst 0, 1) := by decide +kernel
theorem d6_23 : decode prog_16_method_2_code 23 = .ok (.ireturn, 1) := by decide +kernel
theorem ef_6 (m : MethodId) (a0 : Addr) (r1 : UInt64) : entryFrame m #[(.ref a0), (.double r1)] 3 = mkF m 0 #[.val (.ref a0), .val (.double r1), .second] [] := by first | (simp [entryFrame, mkF, argsToLocals, Value.category]; done) | rfl
def f6 (r1 : UInt64) (w_lower_a0 : UInt64) (w_upper_a0 : UInt64) : Int32 := if (0 : Int32) < (cmpValue (FP.dcmp w_lower_a0 r1) .g) then (0 : Int32) else if (0 : Int32) < (cmpValue (FP.dcmp r1 w_upper_a0) .g) then (0 : Int32) else (1 : Int32)
abbrev room6 : Room := { frames := 0, cells := 0, slots := 0, locals := 0 }
def Q6 (Z : State) (a0 : Addr) (r1 : UInt64) (w_lower_a0 : UInt64) (w_upper_a0 : UInt64) (h0 : Heap) (n0 : Nat) (v : Option Value) (h : Heap) (L : List Loc) : Prop := v = some (.int (f6 r1 w_lower_a0 w_upper_a0)) ∧ L = [] ∧ h = h0
set_option maxRecDepth 65536 in
set_option maxHeartbeats 40000000 in
theorem rm6 (l : Launch) (Z : State) (aw : Array Value) (hw : ∀ d ∈ tables_1, d.before aw Z = true) (ws : List Jvm.Cond) (a0 : Addr) (r1 : UInt64) (w_lower_a0 : UInt64) (w_upper_a0 : UInt64) (h0 : Heap) (n0 : Nat) (Z0 : n0 ≤ h0.size) (F_lower_a0 : Fld Z h0 a0 "com/example/antipode/antipode/problem/Interval" "lower" "D" (.double w_lower_a0)) (F_upper_a0 : Fld Z h0 a0 "com/example/antipode/antipode/problem/Interval" "upper" "D" (.double w_upper_a0)) :
    MetFree l (⟨"com/example/antipode/antipode/problem/Interval", "contains", "(D)Z"⟩ : MethodName) (head1 (Jvm.Cond.code (⟨"com/example/antipode/antipode/problem/Interval", "contains", "(D)Z"⟩ : MethodName) prog_16_method_2_code 3 (some .boolean) :: ws) room6) (fun a U => a = #[(.ref a0), (.double r1)] ∧ Z.Warmed39 U.vm ∧ U.heap = h0) (fun _ _ _ _ _ => True) (fun _ U o U' => ∃ v L, o = .returned v ∧ Q6 Z a0 r1 w_lower_a0 w_upper_a0 h0 n0 v U'.heap L ∧ FrameEnd U o U' L room6.cells room6.slots) := by
  refine MetFree.of_bodySF (plainFor_of_name pn_1) hisR ?_
  intro p e s m args below meth c s₁ Bd hml0 hP hK
  obtain ⟨rfl, hZ, hh⟩ := hP
  have hx := Bd.exec
  have hby := Bd.bytes
  have hml : c.maxLocals = 3 := hml0
  have hown : s.vm.findClass "com/example/antipode/antipode/problem/Interval" = some m.cls := findClass_of_methodNamed Bd.named
  have hnm := (name_of_methodNamed Bd.named Bd.method).1
  have X0 : Stand p l e room6 s m #[(.ref a0), (.double r1)] below meth c s₁ [] 0 0 := Stand.of_body Bd
  have e0 : s₁.heap = h0 := by rw [← hh, Bd.state]; rfl
  have N0 := Fr.nil n0
  rw [ef_6 m a0 r1]
  refine go_in (s₁ := s₁) (Q := Q6 Z a0 r1 w_lower_a0 w_upper_a0 h0 n0) fun F hF => ?_
  refine go (B := s₁.setTop (mkF m 1 #[.val (.ref a0), .val (.double r1), .second] [(.ref a0)])) (fun _ k => XS.aloadN X0.here hx rfl (hb hby d6_0) rfl rfl k) ?_
  obtain ⟨T1, X1, e1, st1⟩ := getF X0 hx hZ hown (host := "") (Or.inl (hw _ (List.mem_of_getElem? (i := 24) rfl))) Via.refl e0 F_lower_a0 (g := (mkF m 1 #[.val (.ref a0), .val (.double r1), .second] [(.ref a0)])) rfl rfl (hb hby d6_1)
  refine go (B := T1.setTop (mkF m 4 #[.val (.ref a0), .val (.double r1), .second] [(.double w_lower_a0)])) st1 ?_
  refine go (B := T1.setTop (mkF m 5 #[.val (.ref a0), .val (.double r1), .second] [(.double r1), (.double w_lower_a0)])) (fun _ k => XS.dloadN X1.here hx rfl (hb hby d6_4) rfl k) ?_
  refine go (B := T1.setTop (mkF m 6 #[.val (.ref a0), .val (.double r1), .second] [(.int (cmpValue (FP.dcmp w_lower_a0 r1) .g))])) (fun _ k => XS.dcmpS X1.here hx rfl (hb hby d6_5) rfl rfl k) ?_
  by_cases hc2 : (0 : Int32) < (cmpValue (FP.dcmp w_lower_a0 r1) .g)
  · refine go (B := T1.setTop (mkF m 22 #[.val (.ref a0), .val (.double r1), .second] [])) (fun _ k => XS.ifYes X1.here hx rfl (pc0 := 6) (pc' := 22) rfl (hb hby d6_6) rfl ((if0 _ _).trans (tlt hc2).2.2.1) (by decide) (by decide) k) ?_
    refine go (B := T1.setTop (mkF m 23 #[.val (.ref a0), .val (.double r1), .second] [(.int (0 : Int32))])) (fun _ k => XS.iconst X1.here hx rfl (hb hby d6_22) k) ?_
    have r3 : (f6 r1 w_lower_a0 w_upper_a0) = (0 : Int32) := by unfold f6; rw [if_pos hc2]
    exact end_nar X1 hx Bd.notSynchronized (t := .boolean) Bd.returns (by simp) (hb hby d6_23) hF e1 (by decide) (by decide) ⟨(congrArg (fun z => some (Value.int z)) r3.symm), rfl, rfl⟩
  · refine go (B := T1.setTop (mkF m 9 #[.val (.ref a0), .val (.double r1), .second] [])) (fun _ k => XS.ifNo X1.here hx rfl (hb hby d6_6) rfl ((if0 _ _).trans (flt hc2).2.2.1) k) ?_
    refine go (B := T1.setTop (mkF m 10 #[.val (.ref a0), .val (.double r1), .second] [(.double r1)])) (fun _ k => XS.dloadN X1.here hx rfl (hb hby d6_9) rfl k) ?_
    refine go (B := T1.setTop (mkF m 11 #[.val (.ref a0), .val (.double r1), .second] [(.ref a0), (.double r1)])) (fun _ k => XS.aloadN X1.here hx rfl (hb hby d6_10) rfl rfl k) ?_
    obtain ⟨T4, X4, e4, st4⟩ := getF X1 hx hZ hown (host := "") (Or.inl (hw _ (List.mem_of_getElem? (i := 26) rfl))) Via.refl e1 F_upper_a0 (g := (mkF m 11 #[.val (.ref a0), .val (.double r1), .second] [(.ref a0), (.double r1)])) rfl rfl (hb hby d6_11)
    refine go (B := T4.setTop (mkF m 14 #[.val (.ref a0), .val (.double r1), .second] [(.double w_upper_a0), (.double r1)])) st4 ?_
    refine go (B := T4.setTop (mkF m 15 #[.val (.ref a0), .val (.double r1), .second] [(.int (cmpValue (FP.dcmp r1 w_upper_a0) .g))])) (fun _ k => XS.dcmpS X4.here hx rfl (hb hby d6_14) rfl rfl k) ?_
    by_cases hc5 : (0 : Int32) < (cmpValue (FP.dcmp r1 w_upper_a0) .g)
    · refine go (B := T4.setTop (mkF m 22 #[.val (.ref a0), .val (.double r1), .second] [])) (fun _ k => XS.ifYes X4.here hx rfl (pc0 := 15) (pc' := 22) rfl (hb hby d6_15) rfl ((if0 _ _).trans (tlt hc5).2.2.1) (by decide) (by decide) k) ?_
      refine go (B := T4.setTop (mkF m 23 #[.val (.ref a0), .val (.double r1), .second] [(.int (0 : Int32))])) (fun _ k => XS.iconst X4.here hx rfl (hb hby d6_22) k) ?_
      have r6 : (f6 r1 w_lower_a0 w_upper_a0) = (0 : Int32) := by unfold f6; rw [if_neg hc2, if_pos hc5]
      exact end_nar X4 hx Bd.notSynchronized (t := .boolean) Bd.returns (by simp) (hb hby d6_23) hF e4 (by decide) (by decide) ⟨(congrArg (fun z => some (Value.int z)) r6.symm), rfl, rfl⟩
    · refine go (B := T4.setTop (mkF m 18 #[.val (.ref a0), .val (.double r1), .second] [])) (fun _ k => XS.ifNo X4.here hx rfl (hb hby d6_15) rfl ((if0 _ _).trans (flt hc5).2.2.1) k) ?_
      refine go (B := T4.setTop (mkF m 19 #[.val (.ref a0), .val (.double r1), .second] [(.int (1 : Int32))])) (fun _ k => XS.iconst X4.here hx rfl (hb hby d6_18) k) ?_
      refine go (B := T4.setTop (mkF m 23 #[.val (.ref a0), .val (.double r1), .second] [(.int (1 : Int32))])) (fun _ k => XS.goto X4.here hx rfl (pc0 := 19) (pc' := 23) rfl (hb hby d6_19) (by decide) (by decide) k) ?_
      have r7 : (f6 r1 w_lower_a0 w_upper_a0) = (1 : Int32) := by unfold f6; rw [if_neg hc2, if_neg hc5]
      exact end_nar X4 hx Bd.notSynchronized (t := .boolean) Bd.returns (by simp) (hb hby d6_23) hF e4 (by decide) (by decide) ⟨(congrArg (fun z => some (Value.int z)) r7.symm), rfl, rfl⟩
theorem pd_3 : parseMethodDescriptor "(DD)V" = some ⟨[.double, .double], none⟩ := by decide +kernel
theorem pn_0 : plainName "com/example/antipode/antipode/problem/IntervalContainsPinLaw" = true := by first | (simp [plainName, overriddenIn]; done) | decide +kernel
theorem ef_0 (m : MethodId) (p0 : Int32) (p1 : Int32) (p2 : Int32) (p3 : Int32) : entryFrame m #[(.int p0), (.int p1), (.int p2), (.int p3)] maxLocals = mkF m 0 #[.val (.int p0), .val (.int p1), .val (.int p2), .val (.int p3), .unset, .unset, .unset, .unset, .unset, .unset, .unset, .unset, .unset, .unset, .unset, .unset, .unset, .unset] [] := by first | (simp [entryFrame, mkF, argsToLocals, Value.category, maxLocals]; done) | rfl
def f0_z0 (p0 : Int32) (p1 : Int32) (p3 : Int32) : Int64 := if (p3 &&& (3 : Int32)) = (1 : Int32) then (p0.toInt64) else if (p3 &&& (3 : Int32)) = (2 : Int32) then ((p0.toInt64) + ((p1 &&& (2147483647 : Int32)).toInt64)) else (0 : Int64)
def f0_z1 (p3 : Int32) : Int32 := if (p3 &&& (4 : Int32)) = (0 : Int32) then (0 : Int32) else (1 : Int32)
def f0_z2 (p0 : Int32) (p1 : Int32) (p2 : Int32) (p3 : Int32) : Int32 := if (0 : Int32) < (lcmpW (p0.toInt64) ((f0_z0 p0 p1 p3) + (p2.toInt64))) then (0 : Int32) else if (0 : Int32) < (lcmpW ((f0_z0 p0 p1 p3) + (p2.toInt64)) ((p0.toInt64) + ((p1 &&& (2147483647 : Int32)).toInt64))) then (0 : Int32) else (1 : Int32)
def f0_t3 (p0 : Int32) (p1 : Int32) (p2 : Int32) (p3 : Int32) : Int32 := (f6 (FP.l2d ((f0_z0 p0 p1 p3) + (p2.toInt64))) (FP.l2d (p0.toInt64)) (FP.l2d ((p0.toInt64) + ((p1 &&& (2147483647 : Int32)).toInt64))))
def f0_z4 (p0 : Int32) (p1 : Int32) (p2 : Int32) (p3 : Int32) : Int32 := if (0 : Int32) < (lcmpW (p0.toInt64) ((f0_z0 p0 p1 p3) + (p2.toInt64))) then (0 : Int32) else if (lcmpW ((f0_z0 p0 p1 p3) + (p2.toInt64)) ((p0.toInt64) + ((p1 &&& (2147483647 : Int32)).toInt64))) < (0 : Int32) then (1 : Int32) else (0 : Int32)
def f0_t5 (p0 : Int32) (p1 : Int32) (p2 : Int32) (p3 : Int32) : Int32 := (f6 (FP.dadd (FP.l2d ((f0_z0 p0 p1 p3) + (p2.toInt64))) (4602678819172646912 : UInt64)) (FP.l2d (p0.toInt64)) (FP.l2d ((p0.toInt64) + ((p1 &&& (2147483647 : Int32)).toInt64))))
def f0 (p0 : Int32) (p1 : Int32) (p2 : Int32) (p3 : Int32) : Int32 := if (f0_z1 p3) = (0 : Int32) then if (f0_t3 p0 p1 p2 p3) = (f0_z2 p0 p1 p2 p3) then (1 : Int32) else (0 : Int32) else if (f0_t5 p0 p1 p2 p3) = (f0_z4 p0 p1 p2 p3) then (1 : Int32) else (0 : Int32)
theorem own_law (p0 p1 p2 p3 : Int32) : f0 p0 p1 p2 p3 = 1 := by
  have a := own_i32 p0; have b := own_a31 p1; have d := own_i32 p2; have h := own_hi p0 p1; have e := Int32.toInt_toInt64 p0
  have hb : -2147483648 ≤ (f0_z0 p0 p1 p3).toInt ∧ (f0_z0 p0 p1 p3).toInt < 4294967296 := by
    unfold f0_z0
    by_cases q : (p3 &&& (3 : Int32)) = (1 : Int32)
    · rw [if_pos q]; omega
    · rw [if_neg q]
      by_cases r : (p3 &&& (3 : Int32)) = (2 : Int32)
      · rw [if_pos r]; omega
      · rw [if_neg r]; decide
  have hv : (f0_z0 p0 p1 p3 + p2.toInt64).toInt = (f0_z0 p0 p1 p3).toInt + p2.toInt := by
    rw [Int64.toInt_add, Int32.toInt_toInt64]
    apply Int.bmod_eq_of_le <;> omega
  have bv : (f0_z0 p0 p1 p3 + p2.toInt64).toInt.natAbs < 2 ^ 51 := by omega
  have bl : (p0.toInt64).toInt.natAbs < 2 ^ 51 := by omega
  have bh : (p0.toInt64 + (p1 &&& (2147483647 : Int32)).toInt64).toInt.natAbs < 2 ^ 51 := by omega
  unfold f0
  by_cases q : f0_z1 p3 = (0 : Int32)
  · rw [if_pos q, if_pos]
    unfold f0_t3 f0_z2 f6
    have e1 := (own_gtW bl bv).trans own_lw.1.symm
    have e2 := (own_gtW bv bh).trans own_lw.1.symm
    simp only [e1, e2]
  · rw [if_neg q, if_pos]
    unfold f0_t5 f0_z4 f6
    have e1 := (own_gtL bl bv).trans own_lw.1.symm
    have e2 : (0 : Int32) < cmpValue (FP.dcmp (FP.dadd (FP.l2d (f0_z0 p0 p1 p3 + p2.toInt64)) 4602678819172646912) (FP.l2d (p0.toInt64 + (p1 &&& (2147483647 : Int32)).toInt64))) .g ↔ ¬ (lcmpW (f0_z0 p0 p1 p3 + p2.toInt64) (p0.toInt64 + (p1 &&& (2147483647 : Int32)).toInt64) < (0 : Int32)) := by
      rw [own_gtR bh bv, own_lw.2]; omega
    simp only [e1, e2, ite_not]

def Q0 (Z : State) (p0 : Int32) (p1 : Int32) (p2 : Int32) (p3 : Int32) (h0 : Heap) (n0 : Nat) (v : Option Value) (h : Heap) (L : List Loc) : Prop := v = some (.int (1 : Int32)) ∧ Fr n0 L
set_option maxRecDepth 65536 in
set_option maxHeartbeats 40000000 in
theorem rm0 (l : Launch) (Z : State) (aw : Array Value) (hw : ∀ d ∈ tables_1, d.before aw Z = true) (ws : List Jvm.Cond) (p0 : Int32) (p1 : Int32) (p2 : Int32) (p3 : Int32) (h0 : Heap) (n0 : Nat) (Z0 : n0 ≤ h0.size) :
    MetFree l x (head1 (Jvm.Cond.code x code maxLocals ret :: ws) room_1) (fun a U => a = #[(.int p0), (.int p1), (.int p2), (.int p3)] ∧ Z.Warmed39 U.vm ∧ U.heap = h0) (fun _ _ _ _ _ => True) (fun _ U o U' => ∃ v L, o = .returned v ∧ Q0 Z p0 p1 p2 p3 h0 n0 v U'.heap L ∧ FrameEnd U o U' L room_1.cells room_1.slots) := by
  refine MetFree.of_bodySF (plainFor_of_name pn_0) hisR ?_
  intro p e s m args below meth c s₁ Bd hml0 hP hK
  obtain ⟨rfl, hZ, hh⟩ := hP
  have hx := Bd.exec
  have hby := Bd.bytes
  have hml : c.maxLocals = 18 := hml0
  have hown : s.vm.findClass "com/example/antipode/antipode/problem/IntervalContainsPinLaw" = some m.cls := findClass_of_methodNamed Bd.named
  have hnm := (name_of_methodNamed Bd.named Bd.method).1
  have X0 : Stand p l e room_1 s m #[(.int p0), (.int p1), (.int p2), (.int p3)] below meth c s₁ [] 0 0 := Stand.of_body Bd
  have e0 : s₁.heap = h0 := by rw [← hh, Bd.state]; rfl
  have N0 := Fr.nil n0
  rw [ef_0 m p0 p1 p2 p3]
  refine go_in (s₁ := s₁) (Q := Q0 Z p0 p1 p2 p3 h0 n0) fun F hF => ?_
  refine go (B := s₁.setTop (mkF m 1 #[.val (.int p0), .val (.int p1), .val (.int p2), .val (.int p3), .unset, .unset, .unset, .unset, .unset, .unset, .unset, .unset, .unset, .unset, .unset, .unset, .unset, .unset] [(.int p0)])) (fun _ k => XS.iloadN X0.here hx rfl (hb hby at_0) rfl k) ?_
  refine go (B := s₁.setTop (mkF m 2 #[.val (.int p0), .val (.int p1), .val (.int p2), .val (.int p3), .unset, .unset, .unset, .unset, .unset, .unset, .unset, .unset, .unset, .unset, .unset, .unset, .unset, .unset] [(.long (p0.toInt64))])) (fun _ k => XS.i2l X0.here hx rfl (hb hby at_1) rfl k) ?_
  refine go (B := s₁.setTop (mkF m 4 #[.val (.int p0), .val (.int p1), .val (.int p2), .val (.int p3), .val (.long (p0.toInt64)), .second, .unset, .unset, .unset, .unset, .unset, .unset, .unset, .unset, .unset, .unset, .unset, .unset] [])) (fun _ k => XS.lstore X0.here hx rfl (hb hby at_2) rfl (l' := #[.val (.int p0), .val (.int p1), .val (.int p2), .val (.int p3), .val (.long (p0.toInt64)), .second, .unset, .unset, .unset, .unset, .unset, .unset, .unset, .unset, .unset, .unset, .unset, .unset]) rfl k) ?_
  refine go (B := s₁.setTop (mkF m 6 #[.val (.int p0), .val (.int p1), .val (.int p2), .val (.int p3), .val (.long (p0.toInt64)), .second, .unset, .unset, .unset, .unset, .unset, .unset, .unset, .unset, .unset, .unset, .unset, .unset] [(.long (p0.toInt64))])) (fun _ k => XS.lload X0.here hx rfl (hb hby at_4) rfl k) ?_
  refine go (B := s₁.setTop (mkF m 7 #[.val (.int p0), .val (.int p1), .val (.int p2), .val (.int p3), .val (.long (p0.toInt64)), .second, .unset, .unset, .unset, .unset, .unset, .unset, .unset, .unset, .unset, .unset, .unset, .unset] [(.int p1), (.long (p0.toInt64))])) (fun _ k => XS.iloadN X0.here hx rfl (hb hby at_6) rfl k) ?_
  refine go (B := s₁.setTop (mkF m 9 #[.val (.int p0), .val (.int p1), .val (.int p2), .val (.int p3), .val (.long (p0.toInt64)), .second, .unset, .unset, .unset, .unset, .unset, .unset, .unset, .unset, .unset, .unset, .unset, .unset] [(.int (2147483647 : Int32)), (.int p1), (.long (p0.toInt64))])) (fun _ k => X0.ldcInt hx hown (mvT hZ (hw _ (List.mem_of_getElem? (i := 0) rfl))) (g := (mkF m 7 #[.val (.int p0), .val (.int p1), .val (.int p2), .val (.int p3), .val (.long (p0.toInt64)), .second, .unset, .unset, .unset, .unset, .unset, .unset, .unset, .unset, .unset, .unset, .unset, .unset] [(.int p1), (.long (p0.toInt64))])) rfl (hb hby at_7) _ k) ?_
  refine go (B := s₁.setTop (mkF m 10 #[.val (.int p0), .val (.int p1), .val (.int p2), .val (.int p3), .val (.long (p0.toInt64)), .second, .unset, .unset, .unset, .unset, .unset, .unset, .unset, .unset, .unset, .unset, .unset, .unset] [(.int (p1 &&& (2147483647 : Int32))), (.long (p0.toInt64))])) (fun _ k => XS.iand X0.here hx rfl (hb hby at_9) rfl k) ?_
  refine go (B := s₁.setTop (mkF m 11 #[.val (.int p0), .val (.int p1), .val (.int p2), .val (.int p3), .val (.long (p0.toInt64)), .second, .unset, .unset, .unset, .unset, .unset, .unset, .unset, .unset, .unset, .unset, .unset, .unset] [(.long ((p1 &&& (2147483647 : Int32)).toInt64)), (.long (p0.toInt64))])) (fun _ k => XS.i2l X0.here hx rfl (hb hby at_10) rfl k) ?_
  refine go (B := s₁.setTop (mkF m 12 #[.val (.int p0), .val (.int p1), .val (.int p2), .val (.int p3), .val (.long (p0.toInt64)), .second, .unset, .unset, .unset, .unset, .unset, .unset, .unset, .unset, .unset, .unset, .unset, .unset] [(.long ((p0.toInt64) + ((p1 &&& (2147483647 : Int32)).toInt64)))])) (fun _ k => XS.ladd X0.here hx rfl (hb hby at_11) rfl k) ?_
  refine go (B := s₁.setTop (mkF m 14 #[.val (.int p0), .val (.int p1), .val (.int p2), .val (.int p3), .val (.long (p0.toInt64)), .second, .val (.long ((p0.toInt64) + ((p1 &&& (2147483647 : Int32)).toInt64))), .second, .unset, .unset, .unset, .unset, .unset, .unset, .unset, .unset, .unset, .unset] [])) (fun _ k => XS.lstore X0.here hx rfl (hb hby at_12) rfl (l' := #[.val (.int p0), .val (.int p1), .val (.int p2), .val (.int p3), .val (.long (p0.toInt64)), .second, .val (.long ((p0.toInt64) + ((p1 &&& (2147483647 : Int32)).toInt64))), .second, .unset, .unset, .unset, .unset, .unset, .unset, .unset, .unset, .unset, .unset]) rfl k) ?_
  refine go (B := s₁.setTop (mkF m 15 #[.val (.int p0), .val (.int p1), .val (.int p2), .val (.int p3), .val (.long (p0.toInt64)), .second, .val (.long ((p0.toInt64) + ((p1 &&& (2147483647 : Int32)).toInt64))), .second, .unset, .unset, .unset, .unset, .unset, .unset, .unset, .unset, .unset, .unset] [(.int p3)])) (fun _ k => XS.iloadN X0.here hx rfl (hb hby at_14) rfl k) ?_
  refine go (B := s₁.setTop (mkF m 16 #[.val (.int p0), .val (.int p1), .val (.int p2), .val (.int p3), .val (.long (p0.toInt64)), .second, .val (.long ((p0.toInt64) + ((p1 &&& (2147483647 : Int32)).toInt64))), .second, .unset, .unset, .unset, .unset, .unset, .unset, .unset, .unset, .unset, .unset] [(.int (3 : Int32)), (.int p3)])) (fun _ k => XS.iconst X0.here hx rfl (hb hby at_15) k) ?_
  refine go (B := s₁.setTop (mkF m 17 #[.val (.int p0), .val (.int p1), .val (.int p2), .val (.int p3), .val (.long (p0.toInt64)), .second, .val (.long ((p0.toInt64) + ((p1 &&& (2147483647 : Int32)).toInt64))), .second, .unset, .unset, .unset, .unset, .unset, .unset, .unset, .unset, .unset, .unset] [(.int (p3 &&& (3 : Int32)))])) (fun _ k => XS.iand X0.here hx rfl (hb hby at_16) rfl k) ?_
  refine go (B := s₁.setTop (mkF m 19 #[.val (.int p0), .val (.int p1), .val (.int p2), .val (.int p3), .val (.long (p0.toInt64)), .second, .val (.long ((p0.toInt64) + ((p1 &&& (2147483647 : Int32)).toInt64))), .second, .val (.int (p3 &&& (3 : Int32))), .unset, .unset, .unset, .unset, .unset, .unset, .unset, .unset, .unset] [])) (fun _ k => XS.istore X0.here hx rfl (hb hby at_17) rfl (l' := #[.val (.int p0), .val (.int p1), .val (.int p2), .val (.int p3), .val (.long (p0.toInt64)), .second, .val (.long ((p0.toInt64) + ((p1 &&& (2147483647 : Int32)).toInt64))), .second, .val (.int (p3 &&& (3 : Int32))), .unset, .unset, .unset, .unset, .unset, .unset, .unset, .unset, .unset]) rfl k) ?_
  refine go (B := s₁.setTop (mkF m 21 #[.val (.int p0), .val (.int p1), .val (.int p2), .val (.int p3), .val (.long (p0.toInt64)), .second, .val (.long ((p0.toInt64) + ((p1 &&& (2147483647 : Int32)).toInt64))), .second, .val (.int (p3 &&& (3 : Int32))), .unset, .unset, .unset, .unset, .unset, .unset, .unset, .unset, .unset] [(.int (p3 &&& (3 : Int32)))])) (fun _ k => XS.iload X0.here hx rfl (hb hby at_19) rfl k) ?_
  refine go (B := s₁.setTop (mkF m 22 #[.val (.int p0), .val (.int p1), .val (.int p2), .val (.int p3), .val (.long (p0.toInt64)), .second, .val (.long ((p0.toInt64) + ((p1 &&& (2147483647 : Int32)).toInt64))), .second, .val (.int (p3 &&& (3 : Int32))), .unset, .unset, .unset, .unset, .unset, .unset, .unset, .unset, .unset] [(.int (1 : Int32)), (.int (p3 &&& (3 : Int32)))])) (fun _ k => XS.iconst X0.here hx rfl (hb hby at_21) k) ?_
  suffices Kj1 : ∀ (T1 : State) (L1 : List Loc), Stand p l e room_1 s m #[(.int p0), (.int p1), (.int p2), (.int p3)] below meth c T1 L1 0 0 → Fr n0 L1 → T1.heap = h0 → Go p.tables e below F (T1.setTop (mkF m 48 #[.val (.int p0), .val (.int p1), .val (.int p2), .val (.int p3), .val (.long (p0.toInt64)), .second, .val (.long ((p0.toInt64) + ((p1 &&& (2147483647 : Int32)).toInt64))), .second, .val (.int (p3 &&& (3 : Int32))), .val (.long (f0_z0 p0 p1 p3)), .second, .unset, .unset, .unset, .unset, .unset, .unset, .unset] [])) by
    by_cases hc2 : (p3 &&& (3 : Int32)) = (1 : Int32)
    · refine go (B := s₁.setTop (mkF m 25 #[.val (.int p0), .val (.int p1), .val (.int p2), .val (.int p3), .val (.long (p0.toInt64)), .second, .val (.long ((p0.toInt64) + ((p1 &&& (2147483647 : Int32)).toInt64))), .second, .val (.int (p3 &&& (3 : Int32))), .unset, .unset, .unset, .unset, .unset, .unset, .unset, .unset, .unset] [])) (fun _ k => XS.icmpNo X0.here hx rfl (hb hby at_22) rfl (teq hc2).2 k) ?_
      refine go (B := s₁.setTop (mkF m 27 #[.val (.int p0), .val (.int p1), .val (.int p2), .val (.int p3), .val (.long (p0.toInt64)), .second, .val (.long ((p0.toInt64) + ((p1 &&& (2147483647 : Int32)).toInt64))), .second, .val (.int (p3 &&& (3 : Int32))), .unset, .unset, .unset, .unset, .unset, .unset, .unset, .unset, .unset] [(.long (p0.toInt64))])) (fun _ k => XS.lload X0.here hx rfl (hb hby at_25) rfl k) ?_
      refine go (B := s₁.setTop (mkF m 29 #[.val (.int p0), .val (.int p1), .val (.int p2), .val (.int p3), .val (.long (p0.toInt64)), .second, .val (.long ((p0.toInt64) + ((p1 &&& (2147483647 : Int32)).toInt64))), .second, .val (.int (p3 &&& (3 : Int32))), .val (.long (p0.toInt64)), .second, .unset, .unset, .unset, .unset, .unset, .unset, .unset] [])) (fun _ k => XS.lstore X0.here hx rfl (hb hby at_27) rfl (l' := #[.val (.int p0), .val (.int p1), .val (.int p2), .val (.int p3), .val (.long (p0.toInt64)), .second, .val (.long ((p0.toInt64) + ((p1 &&& (2147483647 : Int32)).toInt64))), .second, .val (.int (p3 &&& (3 : Int32))), .val (.long (p0.toInt64)), .second, .unset, .unset, .unset, .unset, .unset, .unset, .unset]) rfl k) ?_
      refine go (B := s₁.setTop (mkF m 48 #[.val (.int p0), .val (.int p1), .val (.int p2), .val (.int p3), .val (.long (p0.toInt64)), .second, .val (.long ((p0.toInt64) + ((p1 &&& (2147483647 : Int32)).toInt64))), .second, .val (.int (p3 &&& (3 : Int32))), .val (.long (p0.toInt64)), .second, .unset, .unset, .unset, .unset, .unset, .unset, .unset] [])) (fun _ k => XS.goto X0.here hx rfl (pc0 := 29) (pc' := 48) rfl (hb hby at_29) (by decide) (by decide) k) ?_
      rw [show (f0_z0 p0 p1 p3) = (p0.toInt64) from by unfold f0_z0; rw [if_pos hc2]] at Kj1
      exact Kj1 _ _ X0 N0 e0
    · refine go (B := s₁.setTop (mkF m 32 #[.val (.int p0), .val (.int p1), .val (.int p2), .val (.int p3), .val (.long (p0.toInt64)), .second, .val (.long ((p0.toInt64) + ((p1 &&& (2147483647 : Int32)).toInt64))), .second, .val (.int (p3 &&& (3 : Int32))), .unset, .unset, .unset, .unset, .unset, .unset, .unset, .unset, .unset] [])) (fun _ k => XS.icmpYes X0.here hx rfl (pc0 := 22) (pc' := 32) rfl (hb hby at_22) rfl (feq hc2).2 (by decide) (by decide) k) ?_
      refine go (B := s₁.setTop (mkF m 34 #[.val (.int p0), .val (.int p1), .val (.int p2), .val (.int p3), .val (.long (p0.toInt64)), .second, .val (.long ((p0.toInt64) + ((p1 &&& (2147483647 : Int32)).toInt64))), .second, .val (.int (p3 &&& (3 : Int32))), .unset, .unset, .unset, .unset, .unset, .unset, .unset, .unset, .unset] [(.int (p3 &&& (3 : Int32)))])) (fun _ k => XS.iload X0.here hx rfl (hb hby at_32) rfl k) ?_
      refine go (B := s₁.setTop (mkF m 35 #[.val (.int p0), .val (.int p1), .val (.int p2), .val (.int p3), .val (.long (p0.toInt64)), .second, .val (.long ((p0.toInt64) + ((p1 &&& (2147483647 : Int32)).toInt64))), .second, .val (.int (p3 &&& (3 : Int32))), .unset, .unset, .unset, .unset, .unset, .unset, .unset, .unset, .unset] [(.int (2 : Int32)), (.int (p3 &&& (3 : Int32)))])) (fun _ k => XS.iconst X0.here hx rfl (hb hby at_34) k) ?_
      by_cases hc3 : (p3 &&& (3 : Int32)) = (2 : Int32)
      · refine go (B := s₁.setTop (mkF m 38 #[.val (.int p0), .val (.int p1), .val (.int p2), .val (.int p3), .val (.long (p0.toInt64)), .second, .val (.long ((p0.toInt64) + ((p1 &&& (2147483647 : Int32)).toInt64))), .second, .val (.int (p3 &&& (3 : Int32))), .unset, .unset, .unset, .unset, .unset, .unset, .unset, .unset, .unset] [])) (fun _ k => XS.icmpNo X0.here hx rfl (hb hby at_35) rfl (teq hc3).2 k) ?_
        refine go (B := s₁.setTop (mkF m 40 #[.val (.int p0), .val (.int p1), .val (.int p2), .val (.int p3), .val (.long (p0.toInt64)), .second, .val (.long ((p0.toInt64) + ((p1 &&& (2147483647 : Int32)).toInt64))), .second, .val (.int (p3 &&& (3 : Int32))), .unset, .unset, .unset, .unset, .unset, .unset, .unset, .unset, .unset] [(.long ((p0.toInt64) + ((p1 &&& (2147483647 : Int32)).toInt64)))])) (fun _ k => XS.lload X0.here hx rfl (hb hby at_38) rfl k) ?_
        refine go (B := s₁.setTop (mkF m 42 #[.val (.int p0), .val (.int p1), .val (.int p2), .val (.int p3), .val (.long (p0.toInt64)), .second, .val (.long ((p0.toInt64) + ((p1 &&& (2147483647 : Int32)).toInt64))), .second, .val (.int (p3 &&& (3 : Int32))), .val (.long ((p0.toInt64) + ((p1 &&& (2147483647 : Int32)).toInt64))), .second, .unset, .unset, .unset, .unset, .unset, .unset, .unset] [])) (fun _ k => XS.lstore X0.here hx rfl (hb hby at_40) rfl (l' := #[.val (.int p0), .val (.int p1), .val (.int p2), .val (.int p3), .val (.long (p0.toInt64)), .second, .val (.long ((p0.toInt64) + ((p1 &&& (2147483647 : Int32)).toInt64))), .second, .val (.int (p3 &&& (3 : Int32))), .val (.long ((p0.toInt64) + ((p1 &&& (2147483647 : Int32)).toInt64))), .second, .unset, .unset, .unset, .unset, .unset, .unset, .unset]) rfl k) ?_
        refine go (B := s₁.setTop (mkF m 48 #[.val (.int p0), .val (.int p1), .val (.int p2), .val (.int p3), .val (.long (p0.toInt64)), .second, .val (.long ((p0.toInt64) + ((p1 &&& (2147483647 : Int32)).toInt64))), .second, .val (.int (p3 &&& (3 : Int32))), .val (.long ((p0.toInt64) + ((p1 &&& (2147483647 : Int32)).toInt64))), .second, .unset, .unset, .unset, .unset, .unset, .unset, .unset] [])) (fun _ k => XS.goto X0.here hx rfl (pc0 := 42) (pc' := 48) rfl (hb hby at_42) (by decide) (by decide) k) ?_
        rw [show (f0_z0 p0 p1 p3) = ((p0.toInt64) + ((p1 &&& (2147483647 : Int32)).toInt64)) from by unfold f0_z0; rw [if_neg hc2, if_pos hc3]] at Kj1
        exact Kj1 _ _ X0 N0 e0
      · refine go (B := s₁.setTop (mkF m 45 #[.val (.int p0), .val (.int p1), .val (.int p2), .val (.int p3), .val (.long (p0.toInt64)), .second, .val (.long ((p0.toInt64) + ((p1 &&& (2147483647 : Int32)).toInt64))), .second, .val (.int (p3 &&& (3 : Int32))), .unset, .unset, .unset, .unset, .unset, .unset, .unset, .unset, .unset] [])) (fun _ k => XS.icmpYes X0.here hx rfl (pc0 := 35) (pc' := 45) rfl (hb hby at_35) rfl (feq hc3).2 (by decide) (by decide) k) ?_
        refine go (B := s₁.setTop (mkF m 46 #[.val (.int p0), .val (.int p1), .val (.int p2), .val (.int p3), .val (.long (p0.toInt64)), .second, .val (.long ((p0.toInt64) + ((p1 &&& (2147483647 : Int32)).toInt64))), .second, .val (.int (p3 &&& (3 : Int32))), .unset, .unset, .unset, .unset, .unset, .unset, .unset, .unset, .unset] [(.long (0 : Int64))])) (fun _ k => XS.lconst X0.here hx rfl (hb hby at_45) k) ?_
        refine go (B := s₁.setTop (mkF m 48 #[.val (.int p0), .val (.int p1), .val (.int p2), .val (.int p3), .val (.long (p0.toInt64)), .second, .val (.long ((p0.toInt64) + ((p1 &&& (2147483647 : Int32)).toInt64))), .second, .val (.int (p3 &&& (3 : Int32))), .val (.long (0 : Int64)), .second, .unset, .unset, .unset, .unset, .unset, .unset, .unset] [])) (fun _ k => XS.lstore X0.here hx rfl (hb hby at_46) rfl (l' := #[.val (.int p0), .val (.int p1), .val (.int p2), .val (.int p3), .val (.long (p0.toInt64)), .second, .val (.long ((p0.toInt64) + ((p1 &&& (2147483647 : Int32)).toInt64))), .second, .val (.int (p3 &&& (3 : Int32))), .val (.long (0 : Int64)), .second, .unset, .unset, .unset, .unset, .unset, .unset, .unset]) rfl k) ?_
        rw [show (f0_z0 p0 p1 p3) = (0 : Int64) from by unfold f0_z0; rw [if_neg hc2, if_neg hc3]] at Kj1
        exact Kj1 _ _ X0 N0 e0
  intro T1 L1 X1 N1 e1
  refine go (B := T1.setTop (mkF m 50 #[.val (.int p0), .val (.int p1), .val (.int p2), .val (.int p3), .val (.long (p0.toInt64)), .second, .val (.long ((p0.toInt64) + ((p1 &&& (2147483647 : Int32)).toInt64))), .second, .val (.int (p3 &&& (3 : Int32))), .val (.long (f0_z0 p0 p1 p3)), .second, .unset, .unset, .unset, .unset, .unset, .unset, .unset] [(.long (f0_z0 p0 p1 p3))])) (fun _ k => XS.lload X1.here hx rfl (hb hby at_48) rfl k) ?_
  refine go (B := T1.setTop (mkF m 51 #[.val (.int p0), .val (.int p1), .val (.int p2), .val (.int p3), .val (.long (p0.toInt64)), .second, .val (.long ((p0.toInt64) + ((p1 &&& (2147483647 : Int32)).toInt64))), .second, .val (.int (p3 &&& (3 : Int32))), .val (.long (f0_z0 p0 p1 p3)), .second, .unset, .unset, .unset, .unset, .unset, .unset, .unset] [(.int p2), (.long (f0_z0 p0 p1 p3))])) (fun _ k => XS.iloadN X1.here hx rfl (hb hby at_50) rfl k) ?_
  refine go (B := T1.setTop (mkF m 52 #[.val (.int p0), .val (.int p1), .val (.int p2), .val (.int p3), .val (.long (p0.toInt64)), .second, .val (.long ((p0.toInt64) + ((p1 &&& (2147483647 : Int32)).toInt64))), .second, .val (.int (p3 &&& (3 : Int32))), .val (.long (f0_z0 p0 p1 p3)), .second, .unset, .unset, .unset, .unset, .unset, .unset, .unset] [(.long (p2.toInt64)), (.long (f0_z0 p0 p1 p3))])) (fun _ k => XS.i2l X1.here hx rfl (hb hby at_51) rfl k) ?_
  refine go (B := T1.setTop (mkF m 53 #[.val (.int p0), .val (.int p1), .val (.int p2), .val (.int p3), .val (.long (p0.toInt64)), .second, .val (.long ((p0.toInt64) + ((p1 &&& (2147483647 : Int32)).toInt64))), .second, .val (.int (p3 &&& (3 : Int32))), .val (.long (f0_z0 p0 p1 p3)), .second, .unset, .unset, .unset, .unset, .unset, .unset, .unset] [(.long ((f0_z0 p0 p1 p3) + (p2.toInt64)))])) (fun _ k => XS.ladd X1.here hx rfl (hb hby at_52) rfl k) ?_
  refine go (B := T1.setTop (mkF m 55 #[.val (.int p0), .val (.int p1), .val (.int p2), .val (.int p3), .val (.long (p0.toInt64)), .second, .val (.long ((p0.toInt64) + ((p1 &&& (2147483647 : Int32)).toInt64))), .second, .val (.int (p3 &&& (3 : Int32))), .val (.long (f0_z0 p0 p1 p3)), .second, .val (.long ((f0_z0 p0 p1 p3) + (p2.toInt64))), .second, .unset, .unset, .unset, .unset, .unset] [])) (fun _ k => XS.lstore X1.here hx rfl (hb hby at_53) rfl (l' := #[.val (.int p0), .val (.int p1), .val (.int p2), .val (.int p3), .val (.long (p0.toInt64)), .second, .val (.long ((p0.toInt64) + ((p1 &&& (2147483647 : Int32)).toInt64))), .second, .val (.int (p3 &&& (3 : Int32))), .val (.long (f0_z0 p0 p1 p3)), .second, .val (.long ((f0_z0 p0 p1 p3) + (p2.toInt64))), .second, .unset, .unset, .unset, .unset, .unset]) rfl k) ?_
  refine go (B := T1.setTop (mkF m 56 #[.val (.int p0), .val (.int p1), .val (.int p2), .val (.int p3), .val (.long (p0.toInt64)), .second, .val (.long ((p0.toInt64) + ((p1 &&& (2147483647 : Int32)).toInt64))), .second, .val (.int (p3 &&& (3 : Int32))), .val (.long (f0_z0 p0 p1 p3)), .second, .val (.long ((f0_z0 p0 p1 p3) + (p2.toInt64))), .second, .unset, .unset, .unset, .unset, .unset] [(.int p3)])) (fun _ k => XS.iloadN X1.here hx rfl (hb hby at_55) rfl k) ?_
  refine go (B := T1.setTop (mkF m 57 #[.val (.int p0), .val (.int p1), .val (.int p2), .val (.int p3), .val (.long (p0.toInt64)), .second, .val (.long ((p0.toInt64) + ((p1 &&& (2147483647 : Int32)).toInt64))), .second, .val (.int (p3 &&& (3 : Int32))), .val (.long (f0_z0 p0 p1 p3)), .second, .val (.long ((f0_z0 p0 p1 p3) + (p2.toInt64))), .second, .unset, .unset, .unset, .unset, .unset] [(.int (4 : Int32)), (.int p3)])) (fun _ k => XS.iconst X1.here hx rfl (hb hby at_56) k) ?_
  refine go (B := T1.setTop (mkF m 58 #[.val (.int p0), .val (.int p1), .val (.int p2), .val (.int p3), .val (.long (p0.toInt64)), .second, .val (.long ((p0.toInt64) + ((p1 &&& (2147483647 : Int32)).toInt64))), .second, .val (.int (p3 &&& (3 : Int32))), .val (.long (f0_z0 p0 p1 p3)), .second, .val (.long ((f0_z0 p0 p1 p3) + (p2.toInt64))), .second, .unset, .unset, .unset, .unset, .unset] [(.int (p3 &&& (4 : Int32)))])) (fun _ k => XS.iand X1.here hx rfl (hb hby at_57) rfl k) ?_
  suffices Kj4 : ∀ (T4 : State) (L4 : List Loc), Stand p l e room_1 s m #[(.int p0), (.int p1), (.int p2), (.int p3)] below meth c T4 L4 0 0 → Fr n0 L4 → T4.heap = h0 → Go p.tables e below F (T4.setTop (mkF m 66 #[.val (.int p0), .val (.int p1), .val (.int p2), .val (.int p3), .val (.long (p0.toInt64)), .second, .val (.long ((p0.toInt64) + ((p1 &&& (2147483647 : Int32)).toInt64))), .second, .val (.int (p3 &&& (3 : Int32))), .val (.long (f0_z0 p0 p1 p3)), .second, .val (.long ((f0_z0 p0 p1 p3) + (p2.toInt64))), .second, .unset, .unset, .unset, .unset, .unset] [(.int (f0_z1 p3))])) by
    by_cases hc5 : (p3 &&& (4 : Int32)) = (0 : Int32)
    · refine go (B := T1.setTop (mkF m 65 #[.val (.int p0), .val (.int p1), .val (.int p2), .val (.int p3), .val (.long (p0.toInt64)), .second, .val (.long ((p0.toInt64) + ((p1 &&& (2147483647 : Int32)).toInt64))), .second, .val (.int (p3 &&& (3 : Int32))), .val (.long (f0_z0 p0 p1 p3)), .second, .val (.long ((f0_z0 p0 p1 p3) + (p2.toInt64))), .second, .unset, .unset, .unset, .unset, .unset] [])) (fun _ k => XS.ifYes X1.here hx rfl (pc0 := 58) (pc' := 65) rfl (hb hby at_58) rfl ((if0 _ _).trans (teq hc5).1) (by decide) (by decide) k) ?_
      refine go (B := T1.setTop (mkF m 66 #[.val (.int p0), .val (.int p1), .val (.int p2), .val (.int p3), .val (.long (p0.toInt64)), .second, .val (.long ((p0.toInt64) + ((p1 &&& (2147483647 : Int32)).toInt64))), .second, .val (.int (p3 &&& (3 : Int32))), .val (.long (f0_z0 p0 p1 p3)), .second, .val (.long ((f0_z0 p0 p1 p3) + (p2.toInt64))), .second, .unset, .unset, .unset, .unset, .unset] [(.int (0 : Int32))])) (fun _ k => XS.iconst X1.here hx rfl (hb hby at_65) k) ?_
      rw [show (f0_z1 p3) = (0 : Int32) from by unfold f0_z1; rw [if_pos hc5]] at Kj4
      exact Kj4 _ _ X1 N1 e1
    · refine go (B := T1.setTop (mkF m 61 #[.val (.int p0), .val (.int p1), .val (.int p2), .val (.int p3), .val (.long (p0.toInt64)), .second, .val (.long ((p0.toInt64) + ((p1 &&& (2147483647 : Int32)).toInt64))), .second, .val (.int (p3 &&& (3 : Int32))), .val (.long (f0_z0 p0 p1 p3)), .second, .val (.long ((f0_z0 p0 p1 p3) + (p2.toInt64))), .second, .unset, .unset, .unset, .unset, .unset] [])) (fun _ k => XS.ifNo X1.here hx rfl (hb hby at_58) rfl ((if0 _ _).trans (feq hc5).1) k) ?_
      refine go (B := T1.setTop (mkF m 62 #[.val (.int p0), .val (.int p1), .val (.int p2), .val (.int p3), .val (.long (p0.toInt64)), .second, .val (.long ((p0.toInt64) + ((p1 &&& (2147483647 : Int32)).toInt64))), .second, .val (.int (p3 &&& (3 : Int32))), .val (.long (f0_z0 p0 p1 p3)), .second, .val (.long ((f0_z0 p0 p1 p3) + (p2.toInt64))), .second, .unset, .unset, .unset, .unset, .unset] [(.int (1 : Int32))])) (fun _ k => XS.iconst X1.here hx rfl (hb hby at_61) k) ?_
      refine go (B := T1.setTop (mkF m 66 #[.val (.int p0), .val (.int p1), .val (.int p2), .val (.int p3), .val (.long (p0.toInt64)), .second, .val (.long ((p0.toInt64) + ((p1 &&& (2147483647 : Int32)).toInt64))), .second, .val (.int (p3 &&& (3 : Int32))), .val (.long (f0_z0 p0 p1 p3)), .second, .val (.long ((f0_z0 p0 p1 p3) + (p2.toInt64))), .second, .unset, .unset, .unset, .unset, .unset] [(.int (1 : Int32))])) (fun _ k => XS.goto X1.here hx rfl (pc0 := 62) (pc' := 66) rfl (hb hby at_62) (by decide) (by decide) k) ?_
      rw [show (f0_z1 p3) = (1 : Int32) from by unfold f0_z1; rw [if_neg hc5]] at Kj4
      exact Kj4 _ _ X1 N1 e1
  intro T4 L4 X4 N4 e4
  refine go (B := T4.setTop (mkF m 68 #[.val (.int p0), .val (.int p1), .val (.int p2), .val (.int p3), .val (.long (p0.toInt64)), .second, .val (.long ((p0.toInt64) + ((p1 &&& (2147483647 : Int32)).toInt64))), .second, .val (.int (p3 &&& (3 : Int32))), .val (.long (f0_z0 p0 p1 p3)), .second, .val (.long ((f0_z0 p0 p1 p3) + (p2.toInt64))), .second, .val (.int (f0_z1 p3)), .unset, .unset, .unset, .unset] [])) (fun _ k => XS.istore X4.here hx rfl (hb hby at_66) rfl (l' := #[.val (.int p0), .val (.int p1), .val (.int p2), .val (.int p3), .val (.long (p0.toInt64)), .second, .val (.long ((p0.toInt64) + ((p1 &&& (2147483647 : Int32)).toInt64))), .second, .val (.int (p3 &&& (3 : Int32))), .val (.long (f0_z0 p0 p1 p3)), .second, .val (.long ((f0_z0 p0 p1 p3) + (p2.toInt64))), .second, .val (.int (f0_z1 p3)), .unset, .unset, .unset, .unset]) rfl k) ?_
  obtain ⟨T6, h6, X6, e6, E6, A6, D6, -, st6⟩ := newO X4 hx hZ hown (hw _ (List.mem_of_getElem? (i := 1) rfl)) (hw _ (List.mem_of_getElem? (i := 2) rfl)) (hw _ (List.mem_of_getElem? (i := 3) rfl)) e4 (g := (mkF m 68 #[.val (.int p0), .val (.int p1), .val (.int p2), .val (.int p3), .val (.long (p0.toInt64)), .second, .val (.long ((p0.toInt64) + ((p1 &&& (2147483647 : Int32)).toInt64))), .second, .val (.int (p3 &&& (3 : Int32))), .val (.long (f0_z0 p0 p1 p3)), .second, .val (.long ((f0_z0 p0 p1 p3) + (p2.toInt64))), .second, .val (.int (f0_z1 p3)), .unset, .unset, .unset, .unset] [])) rfl (hb hby at_68) (by decide) (by decide)
  obtain ⟨b6, g6⟩ : ∃ z, z = h0.size := ⟨_, rfl⟩
  rw [← g6] at A6 D6 st6
  have g_b6 : n0 ≤ b6 := Nat.le_trans Z0 (Nat.le_of_eq g6.symm)
  have Z6 := Nat.le_trans Z0 E6.1
  have F_lower_b6 : Fld Z h6 b6 "com/example/antipode/antipode/problem/Interval" "lower" "D" (.double (0 : UInt64)) := D6 (Or.inr (hw _ (List.mem_of_getElem? (i := 25) rfl))) (ty := .double) (by decide)
  have F_upper_b6 : Fld Z h6 b6 "com/example/antipode/antipode/problem/Interval" "upper" "D" (.double (0 : UInt64)) := D6 (Or.inr (hw _ (List.mem_of_getElem? (i := 27) rfl))) (ty := .double) (by decide)
  have E_b6 := A6
  refine go (B := T6.setTop (mkF m 71 #[.val (.int p0), .val (.int p1), .val (.int p2), .val (.int p3), .val (.long (p0.toInt64)), .second, .val (.long ((p0.toInt64) + ((p1 &&& (2147483647 : Int32)).toInt64))), .second, .val (.int (p3 &&& (3 : Int32))), .val (.long (f0_z0 p0 p1 p3)), .second, .val (.long ((f0_z0 p0 p1 p3) + (p2.toInt64))), .second, .val (.int (f0_z1 p3)), .unset, .unset, .unset, .unset] [(.ref b6)])) st6 ?_
  refine go (B := T6.setTop (mkF m 72 #[.val (.int p0), .val (.int p1), .val (.int p2), .val (.int p3), .val (.long (p0.toInt64)), .second, .val (.long ((p0.toInt64) + ((p1 &&& (2147483647 : Int32)).toInt64))), .second, .val (.int (p3 &&& (3 : Int32))), .val (.long (f0_z0 p0 p1 p3)), .second, .val (.long ((f0_z0 p0 p1 p3) + (p2.toInt64))), .second, .val (.int (f0_z1 p3)), .unset, .unset, .unset, .unset] [(.ref b6), (.ref b6)])) (fun _ k => XS.dup X6.here hx rfl (hb hby at_71) rfl rfl k) ?_
  refine go (B := T6.setTop (mkF m 74 #[.val (.int p0), .val (.int p1), .val (.int p2), .val (.int p3), .val (.long (p0.toInt64)), .second, .val (.long ((p0.toInt64) + ((p1 &&& (2147483647 : Int32)).toInt64))), .second, .val (.int (p3 &&& (3 : Int32))), .val (.long (f0_z0 p0 p1 p3)), .second, .val (.long ((f0_z0 p0 p1 p3) + (p2.toInt64))), .second, .val (.int (f0_z1 p3)), .unset, .unset, .unset, .unset] [(.long (p0.toInt64)), (.ref b6), (.ref b6)])) (fun _ k => XS.lload X6.here hx rfl (hb hby at_72) rfl k) ?_
  refine go (B := T6.setTop (mkF m 75 #[.val (.int p0), .val (.int p1), .val (.int p2), .val (.int p3), .val (.long (p0.toInt64)), .second, .val (.long ((p0.toInt64) + ((p1 &&& (2147483647 : Int32)).toInt64))), .second, .val (.int (p3 &&& (3 : Int32))), .val (.long (f0_z0 p0 p1 p3)), .second, .val (.long ((f0_z0 p0 p1 p3) + (p2.toInt64))), .second, .val (.int (f0_z1 p3)), .unset, .unset, .unset, .unset] [(.double (FP.l2d (p0.toInt64))), (.ref b6), (.ref b6)])) (fun _ k => XS.l2dS X6.here hx rfl (hb hby at_74) rfl rfl k) ?_
  refine go (B := T6.setTop (mkF m 77 #[.val (.int p0), .val (.int p1), .val (.int p2), .val (.int p3), .val (.long (p0.toInt64)), .second, .val (.long ((p0.toInt64) + ((p1 &&& (2147483647 : Int32)).toInt64))), .second, .val (.int (p3 &&& (3 : Int32))), .val (.long (f0_z0 p0 p1 p3)), .second, .val (.long ((f0_z0 p0 p1 p3) + (p2.toInt64))), .second, .val (.int (f0_z1 p3)), .unset, .unset, .unset, .unset] [(.long ((p0.toInt64) + ((p1 &&& (2147483647 : Int32)).toInt64))), (.double (FP.l2d (p0.toInt64))), (.ref b6), (.ref b6)])) (fun _ k => XS.lload X6.here hx rfl (hb hby at_75) rfl k) ?_
  refine go (B := T6.setTop (mkF m 78 #[.val (.int p0), .val (.int p1), .val (.int p2), .val (.int p3), .val (.long (p0.toInt64)), .second, .val (.long ((p0.toInt64) + ((p1 &&& (2147483647 : Int32)).toInt64))), .second, .val (.int (p3 &&& (3 : Int32))), .val (.long (f0_z0 p0 p1 p3)), .second, .val (.long ((f0_z0 p0 p1 p3) + (p2.toInt64))), .second, .val (.int (f0_z1 p3)), .unset, .unset, .unset, .unset] [(.double (FP.l2d ((p0.toInt64) + ((p1 &&& (2147483647 : Int32)).toInt64)))), (.double (FP.l2d (p0.toInt64))), (.ref b6), (.ref b6)])) (fun _ k => XS.l2dS X6.here hx rfl (hb hby at_77) rfl rfl k) ?_
  obtain ⟨_, _, ⟨T7, L7, k7, n7⟩, -, X7, ⟨Lc7, hQ7, l7, y7, z7⟩, st7⟩ := X6.specialBack hx (y := (⟨"com/example/antipode/antipode/problem/Interval", "<init>", "(DD)V"⟩ : MethodName)) rfl hown (mvT hZ (hw _ (List.mem_of_getElem? (i := 4) rfl))) (mvT hZ (hw _ (List.mem_of_getElem? (i := 5) rfl))) (mvT hZ (hw _ (List.mem_of_getElem? (i := 6) rfl))) (by decide) (backOf (W := 1) (rm1 l Z aw hw [] b6 (FP.l2d (p0.toInt64)) (FP.l2d ((p0.toInt64) + ((p1 &&& (2147483647 : Int32)).toInt64))) h6 n0 Z6 F_lower_b6 F_upper_b6 E_b6 (l2d_fin _) (l2d_fin _) (show ¬ ((0 : Int32) < (cmpValue (FP.dcmp (FP.l2d (p0.toInt64)) (FP.l2d ((p0.toInt64) + ((p1 &&& (2147483647 : Int32)).toInt64)))) .g)) from (own_lohi p0 p1)) g_b6) hZ (hw _ (List.mem_of_getElem? (i := 6) rfl)) (hw _ (List.mem_of_getElem? (i := 3) rfl)) (by decide) (by decide)) (g := (mkF m 78 #[.val (.int p0), .val (.int p1), .val (.int p2), .val (.int p3), .val (.long (p0.toInt64)), .second, .val (.long ((p0.toInt64) + ((p1 &&& (2147483647 : Int32)).toInt64))), .second, .val (.int (p3 &&& (3 : Int32))), .val (.long (f0_z0 p0 p1 p3)), .second, .val (.long ((f0_z0 p0 p1 p3) + (p2.toInt64))), .second, .val (.int (f0_z1 p3)), .unset, .unset, .unset, .unset] [(.double (FP.l2d ((p0.toInt64) + ((p1 &&& (2147483647 : Int32)).toInt64)))), (.double (FP.l2d (p0.toInt64))), (.ref b6), (.ref b6)])) rfl (by rw [hml]; rfl) (Steps.refl _) (a := b6) (argsL := [(.double (FP.l2d (p0.toInt64))), (.double (FP.l2d ((p0.toInt64) + ((p1 &&& (2147483647 : Int32)).toInt64))))]) (rest := [(.ref b6)]) (lenOf pd_3 rfl) rfl (by show 2 * 0 + _ ≤ _; exact Nat.le_of_eq rfl) (hb hby at_78) (fun _ _ => ⟨rfl, e6, (by decide : 1 + 0 ≤ _), (by decide : 2 + 0 ≤ _)⟩)
  dsimp only [Pt.U, Pt.locs, Pt.cells, Pt.slots] at X7 l7 y7 z7 st7 hQ7
  subst l7 y7 z7
  obtain ⟨rfl, N7q, Kc7, o7_0, o7_1, o7_2⟩ := hQ7
  have E_b6_7 := E_b6.keep Kc7
  have N7 := Fr.app N4 N7q
  have Z7 := Nat.le_trans Z6 Kc7.1
  refine go (B := T7.setTop (mkF m 81 #[.val (.int p0), .val (.int p1), .val (.int p2), .val (.int p3), .val (.long (p0.toInt64)), .second, .val (.long ((p0.toInt64) + ((p1 &&& (2147483647 : Int32)).toInt64))), .second, .val (.int (p3 &&& (3 : Int32))), .val (.long (f0_z0 p0 p1 p3)), .second, .val (.long ((f0_z0 p0 p1 p3) + (p2.toInt64))), .second, .val (.int (f0_z1 p3)), .unset, .unset, .unset, .unset] [(.ref b6)])) (fun _ k => st7.trans k) ?_
  refine go (B := T7.setTop (mkF m 83 #[.val (.int p0), .val (.int p1), .val (.int p2), .val (.int p3), .val (.long (p0.toInt64)), .second, .val (.long ((p0.toInt64) + ((p1 &&& (2147483647 : Int32)).toInt64))), .second, .val (.int (p3 &&& (3 : Int32))), .val (.long (f0_z0 p0 p1 p3)), .second, .val (.long ((f0_z0 p0 p1 p3) + (p2.toInt64))), .second, .val (.int (f0_z1 p3)), .val (.ref b6), .unset, .unset, .unset] [])) (fun _ k => XS.astore X7.here hx rfl (hb hby at_81) rfl rfl (l' := #[.val (.int p0), .val (.int p1), .val (.int p2), .val (.int p3), .val (.long (p0.toInt64)), .second, .val (.long ((p0.toInt64) + ((p1 &&& (2147483647 : Int32)).toInt64))), .second, .val (.int (p3 &&& (3 : Int32))), .val (.long (f0_z0 p0 p1 p3)), .second, .val (.long ((f0_z0 p0 p1 p3) + (p2.toInt64))), .second, .val (.int (f0_z1 p3)), .val (.ref b6), .unset, .unset, .unset]) rfl k) ?_
  refine go (B := T7.setTop (mkF m 85 #[.val (.int p0), .val (.int p1), .val (.int p2), .val (.int p3), .val (.long (p0.toInt64)), .second, .val (.long ((p0.toInt64) + ((p1 &&& (2147483647 : Int32)).toInt64))), .second, .val (.int (p3 &&& (3 : Int32))), .val (.long (f0_z0 p0 p1 p3)), .second, .val (.long ((f0_z0 p0 p1 p3) + (p2.toInt64))), .second, .val (.int (f0_z1 p3)), .val (.ref b6), .unset, .unset, .unset] [(.int (f0_z1 p3))])) (fun _ k => XS.iload X7.here hx rfl (hb hby at_83) rfl k) ?_
  by_cases hc8 : (f0_z1 p3) = (0 : Int32)
  · refine go (B := T7.setTop (mkF m 123 #[.val (.int p0), .val (.int p1), .val (.int p2), .val (.int p3), .val (.long (p0.toInt64)), .second, .val (.long ((p0.toInt64) + ((p1 &&& (2147483647 : Int32)).toInt64))), .second, .val (.int (p3 &&& (3 : Int32))), .val (.long (f0_z0 p0 p1 p3)), .second, .val (.long ((f0_z0 p0 p1 p3) + (p2.toInt64))), .second, .val (.int (f0_z1 p3)), .val (.ref b6), .unset, .unset, .unset] [])) (fun _ k => XS.ifYes X7.here hx rfl (pc0 := 85) (pc' := 123) rfl (hb hby at_85) rfl ((if0 _ _).trans (teq hc8).1) (by decide) (by decide) k) ?_
    refine go (B := T7.setTop (mkF m 125 #[.val (.int p0), .val (.int p1), .val (.int p2), .val (.int p3), .val (.long (p0.toInt64)), .second, .val (.long ((p0.toInt64) + ((p1 &&& (2147483647 : Int32)).toInt64))), .second, .val (.int (p3 &&& (3 : Int32))), .val (.long (f0_z0 p0 p1 p3)), .second, .val (.long ((f0_z0 p0 p1 p3) + (p2.toInt64))), .second, .val (.int (f0_z1 p3)), .val (.ref b6), .unset, .unset, .unset] [(.long ((f0_z0 p0 p1 p3) + (p2.toInt64)))])) (fun _ k => XS.lload X7.here hx rfl (hb hby at_123) rfl k) ?_
    refine go (B := T7.setTop (mkF m 126 #[.val (.int p0), .val (.int p1), .val (.int p2), .val (.int p3), .val (.long (p0.toInt64)), .second, .val (.long ((p0.toInt64) + ((p1 &&& (2147483647 : Int32)).toInt64))), .second, .val (.int (p3 &&& (3 : Int32))), .val (.long (f0_z0 p0 p1 p3)), .second, .val (.long ((f0_z0 p0 p1 p3) + (p2.toInt64))), .second, .val (.int (f0_z1 p3)), .val (.ref b6), .unset, .unset, .unset] [(.double (FP.l2d ((f0_z0 p0 p1 p3) + (p2.toInt64))))])) (fun _ k => XS.l2dS X7.here hx rfl (hb hby at_125) rfl rfl k) ?_
    refine go (B := T7.setTop (mkF m 128 #[.val (.int p0), .val (.int p1), .val (.int p2), .val (.int p3), .val (.long (p0.toInt64)), .second, .val (.long ((p0.toInt64) + ((p1 &&& (2147483647 : Int32)).toInt64))), .second, .val (.int (p3 &&& (3 : Int32))), .val (.long (f0_z0 p0 p1 p3)), .second, .val (.long ((f0_z0 p0 p1 p3) + (p2.toInt64))), .second, .val (.int (f0_z1 p3)), .val (.ref b6), .val (.double (FP.l2d ((f0_z0 p0 p1 p3) + (p2.toInt64)))), .second, .unset] [])) (fun _ k => XS.dstore X7.here hx rfl (hb hby at_126) rfl (l' := #[.val (.int p0), .val (.int p1), .val (.int p2), .val (.int p3), .val (.long (p0.toInt64)), .second, .val (.long ((p0.toInt64) + ((p1 &&& (2147483647 : Int32)).toInt64))), .second, .val (.int (p3 &&& (3 : Int32))), .val (.long (f0_z0 p0 p1 p3)), .second, .val (.long ((f0_z0 p0 p1 p3) + (p2.toInt64))), .second, .val (.int (f0_z1 p3)), .val (.ref b6), .val (.double (FP.l2d ((f0_z0 p0 p1 p3) + (p2.toInt64)))), .second, .unset]) rfl k) ?_
    refine go (B := T7.setTop (mkF m 130 #[.val (.int p0), .val (.int p1), .val (.int p2), .val (.int p3), .val (.long (p0.toInt64)), .second, .val (.long ((p0.toInt64) + ((p1 &&& (2147483647 : Int32)).toInt64))), .second, .val (.int (p3 &&& (3 : Int32))), .val (.long (f0_z0 p0 p1 p3)), .second, .val (.long ((f0_z0 p0 p1 p3) + (p2.toInt64))), .second, .val (.int (f0_z1 p3)), .val (.ref b6), .val (.double (FP.l2d ((f0_z0 p0 p1 p3) + (p2.toInt64)))), .second, .unset] [(.long (p0.toInt64))])) (fun _ k => XS.lload X7.here hx rfl (hb hby at_128) rfl k) ?_
    refine go (B := T7.setTop (mkF m 132 #[.val (.int p0), .val (.int p1), .val (.int p2), .val (.int p3), .val (.long (p0.toInt64)), .second, .val (.long ((p0.toInt64) + ((p1 &&& (2147483647 : Int32)).toInt64))), .second, .val (.int (p3 &&& (3 : Int32))), .val (.long (f0_z0 p0 p1 p3)), .second, .val (.long ((f0_z0 p0 p1 p3) + (p2.toInt64))), .second, .val (.int (f0_z1 p3)), .val (.ref b6), .val (.double (FP.l2d ((f0_z0 p0 p1 p3) + (p2.toInt64)))), .second, .unset] [(.long ((f0_z0 p0 p1 p3) + (p2.toInt64))), (.long (p0.toInt64))])) (fun _ k => XS.lload X7.here hx rfl (hb hby at_130) rfl k) ?_
    refine go (B := T7.setTop (mkF m 133 #[.val (.int p0), .val (.int p1), .val (.int p2), .val (.int p3), .val (.long (p0.toInt64)), .second, .val (.long ((p0.toInt64) + ((p1 &&& (2147483647 : Int32)).toInt64))), .second, .val (.int (p3 &&& (3 : Int32))), .val (.long (f0_z0 p0 p1 p3)), .second, .val (.long ((f0_z0 p0 p1 p3) + (p2.toInt64))), .second, .val (.int (f0_z1 p3)), .val (.ref b6), .val (.double (FP.l2d ((f0_z0 p0 p1 p3) + (p2.toInt64)))), .second, .unset] [(.int (lcmpW (p0.toInt64) ((f0_z0 p0 p1 p3) + (p2.toInt64))))])) (fun _ k => XS.lcmp X7.here hx rfl (hb hby at_132) rfl k) ?_
    suffices Kj9 : ∀ (T9 : State) (L9 : List Loc), Stand p l e room_1 s m #[(.int p0), (.int p1), (.int p2), (.int p3)] below meth c T9 L9 1 2 → Fr n0 L9 → T9.heap = T7.heap → Go p.tables e below F (T9.setTop (mkF m 149 #[.val (.int p0), .val (.int p1), .val (.int p2), .val (.int p3), .val (.long (p0.toInt64)), .second, .val (.long ((p0.toInt64) + ((p1 &&& (2147483647 : Int32)).toInt64))), .second, .val (.int (p3 &&& (3 : Int32))), .val (.long (f0_z0 p0 p1 p3)), .second, .val (.long ((f0_z0 p0 p1 p3) + (p2.toInt64))), .second, .val (.int (f0_z1 p3)), .val (.ref b6), .val (.double (FP.l2d ((f0_z0 p0 p1 p3) + (p2.toInt64)))), .second, .unset] [(.int (f0_z2 p0 p1 p2 p3))])) by
      by_cases hc10 : (0 : Int32) < (lcmpW (p0.toInt64) ((f0_z0 p0 p1 p3) + (p2.toInt64)))
      · refine go (B := T7.setTop (mkF m 148 #[.val (.int p0), .val (.int p1), .val (.int p2), .val (.int p3), .val (.long (p0.toInt64)), .second, .val (.long ((p0.toInt64) + ((p1 &&& (2147483647 : Int32)).toInt64))), .second, .val (.int (p3 &&& (3 : Int32))), .val (.long (f0_z0 p0 p1 p3)), .second, .val (.long ((f0_z0 p0 p1 p3) + (p2.toInt64))), .second, .val (.int (f0_z1 p3)), .val (.ref b6), .val (.double (FP.l2d ((f0_z0 p0 p1 p3) + (p2.toInt64)))), .second, .unset] [])) (fun _ k => XS.ifYes X7.here hx rfl (pc0 := 133) (pc' := 148) rfl (hb hby at_133) rfl ((if0 _ _).trans (tlt hc10).2.2.1) (by decide) (by decide) k) ?_
        refine go (B := T7.setTop (mkF m 149 #[.val (.int p0), .val (.int p1), .val (.int p2), .val (.int p3), .val (.long (p0.toInt64)), .second, .val (.long ((p0.toInt64) + ((p1 &&& (2147483647 : Int32)).toInt64))), .second, .val (.int (p3 &&& (3 : Int32))), .val (.long (f0_z0 p0 p1 p3)), .second, .val (.long ((f0_z0 p0 p1 p3) + (p2.toInt64))), .second, .val (.int (f0_z1 p3)), .val (.ref b6), .val (.double (FP.l2d ((f0_z0 p0 p1 p3) + (p2.toInt64)))), .second, .unset] [(.int (0 : Int32))])) (fun _ k => XS.iconst X7.here hx rfl (hb hby at_148) k) ?_
        rw [show (f0_z2 p0 p1 p2 p3) = (0 : Int32) from by unfold f0_z2; rw [if_pos hc10]] at Kj9
        exact Kj9 _ _ X7 N7 rfl
      · refine go (B := T7.setTop (mkF m 136 #[.val (.int p0), .val (.int p1), .val (.int p2), .val (.int p3), .val (.long (p0.toInt64)), .second, .val (.long ((p0.toInt64) + ((p1 &&& (2147483647 : Int32)).toInt64))), .second, .val (.int (p3 &&& (3 : Int32))), .val (.long (f0_z0 p0 p1 p3)), .second, .val (.long ((f0_z0 p0 p1 p3) + (p2.toInt64))), .second, .val (.int (f0_z1 p3)), .val (.ref b6), .val (.double (FP.l2d ((f0_z0 p0 p1 p3) + (p2.toInt64)))), .second, .unset] [])) (fun _ k => XS.ifNo X7.here hx rfl (hb hby at_133) rfl ((if0 _ _).trans (flt hc10).2.2.1) k) ?_
        refine go (B := T7.setTop (mkF m 138 #[.val (.int p0), .val (.int p1), .val (.int p2), .val (.int p3), .val (.long (p0.toInt64)), .second, .val (.long ((p0.toInt64) + ((p1 &&& (2147483647 : Int32)).toInt64))), .second, .val (.int (p3 &&& (3 : Int32))), .val (.long (f0_z0 p0 p1 p3)), .second, .val (.long ((f0_z0 p0 p1 p3) + (p2.toInt64))), .second, .val (.int (f0_z1 p3)), .val (.ref b6), .val (.double (FP.l2d ((f0_z0 p0 p1 p3) + (p2.toInt64)))), .second, .unset] [(.long ((f0_z0 p0 p1 p3) + (p2.toInt64)))])) (fun _ k => XS.lload X7.here hx rfl (hb hby at_136) rfl k) ?_
        refine go (B := T7.setTop (mkF m 140 #[.val (.int p0), .val (.int p1), .val (.int p2), .val (.int p3), .val (.long (p0.toInt64)), .second, .val (.long ((p0.toInt64) + ((p1 &&& (2147483647 : Int32)).toInt64))), .second, .val (.int (p3 &&& (3 : Int32))), .val (.long (f0_z0 p0 p1 p3)), .second, .val (.long ((f0_z0 p0 p1 p3) + (p2.toInt64))), .second, .val (.int (f0_z1 p3)), .val (.ref b6), .val (.double (FP.l2d ((f0_z0 p0 p1 p3) + (p2.toInt64)))), .second, .unset] [(.long ((p0.toInt64) + ((p1 &&& (2147483647 : Int32)).toInt64))), (.long ((f0_z0 p0 p1 p3) + (p2.toInt64)))])) (fun _ k => XS.lload X7.here hx rfl (hb hby at_138) rfl k) ?_
        refine go (B := T7.setTop (mkF m 141 #[.val (.int p0), .val (.int p1), .val (.int p2), .val (.int p3), .val (.long (p0.toInt64)), .second, .val (.long ((p0.toInt64) + ((p1 &&& (2147483647 : Int32)).toInt64))), .second, .val (.int (p3 &&& (3 : Int32))), .val (.long (f0_z0 p0 p1 p3)), .second, .val (.long ((f0_z0 p0 p1 p3) + (p2.toInt64))), .second, .val (.int (f0_z1 p3)), .val (.ref b6), .val (.double (FP.l2d ((f0_z0 p0 p1 p3) + (p2.toInt64)))), .second, .unset] [(.int (lcmpW ((f0_z0 p0 p1 p3) + (p2.toInt64)) ((p0.toInt64) + ((p1 &&& (2147483647 : Int32)).toInt64))))])) (fun _ k => XS.lcmp X7.here hx rfl (hb hby at_140) rfl k) ?_
        by_cases hc11 : (0 : Int32) < (lcmpW ((f0_z0 p0 p1 p3) + (p2.toInt64)) ((p0.toInt64) + ((p1 &&& (2147483647 : Int32)).toInt64)))
        · refine go (B := T7.setTop (mkF m 148 #[.val (.int p0), .val (.int p1), .val (.int p2), .val (.int p3), .val (.long (p0.toInt64)), .second, .val (.long ((p0.toInt64) + ((p1 &&& (2147483647 : Int32)).toInt64))), .second, .val (.int (p3 &&& (3 : Int32))), .val (.long (f0_z0 p0 p1 p3)), .second, .val (.long ((f0_z0 p0 p1 p3) + (p2.toInt64))), .second, .val (.int (f0_z1 p3)), .val (.ref b6), .val (.double (FP.l2d ((f0_z0 p0 p1 p3) + (p2.toInt64)))), .second, .unset] [])) (fun _ k => XS.ifYes X7.here hx rfl (pc0 := 141) (pc' := 148) rfl (hb hby at_141) rfl ((if0 _ _).trans (tlt hc11).2.2.1) (by decide) (by decide) k) ?_
          refine go (B := T7.setTop (mkF m 149 #[.val (.int p0), .val (.int p1), .val (.int p2), .val (.int p3), .val (.long (p0.toInt64)), .second, .val (.long ((p0.toInt64) + ((p1 &&& (2147483647 : Int32)).toInt64))), .second, .val (.int (p3 &&& (3 : Int32))), .val (.long (f0_z0 p0 p1 p3)), .second, .val (.long ((f0_z0 p0 p1 p3) + (p2.toInt64))), .second, .val (.int (f0_z1 p3)), .val (.ref b6), .val (.double (FP.l2d ((f0_z0 p0 p1 p3) + (p2.toInt64)))), .second, .unset] [(.int (0 : Int32))])) (fun _ k => XS.iconst X7.here hx rfl (hb hby at_148) k) ?_
          rw [show (f0_z2 p0 p1 p2 p3) = (0 : Int32) from by unfold f0_z2; rw [if_neg hc10, if_pos hc11]] at Kj9
          exact Kj9 _ _ X7 N7 rfl
        · refine go (B := T7.setTop (mkF m 144 #[.val (.int p0), .val (.int p1), .val (.int p2), .val (.int p3), .val (.long (p0.toInt64)), .second, .val (.long ((p0.toInt64) + ((p1 &&& (2147483647 : Int32)).toInt64))), .second, .val (.int (p3 &&& (3 : Int32))), .val (.long (f0_z0 p0 p1 p3)), .second, .val (.long ((f0_z0 p0 p1 p3) + (p2.toInt64))), .second, .val (.int (f0_z1 p3)), .val (.ref b6), .val (.double (FP.l2d ((f0_z0 p0 p1 p3) + (p2.toInt64)))), .second, .unset] [])) (fun _ k => XS.ifNo X7.here hx rfl (hb hby at_141) rfl ((if0 _ _).trans (flt hc11).2.2.1) k) ?_
          refine go (B := T7.setTop (mkF m 145 #[.val (.int p0), .val (.int p1), .val (.int p2), .val (.int p3), .val (.long (p0.toInt64)), .second, .val (.long ((p0.toInt64) + ((p1 &&& (2147483647 : Int32)).toInt64))), .second, .val (.int (p3 &&& (3 : Int32))), .val (.long (f0_z0 p0 p1 p3)), .second, .val (.long ((f0_z0 p0 p1 p3) + (p2.toInt64))), .second, .val (.int (f0_z1 p3)), .val (.ref b6), .val (.double (FP.l2d ((f0_z0 p0 p1 p3) + (p2.toInt64)))), .second, .unset] [(.int (1 : Int32))])) (fun _ k => XS.iconst X7.here hx rfl (hb hby at_144) k) ?_
          refine go (B := T7.setTop (mkF m 149 #[.val (.int p0), .val (.int p1), .val (.int p2), .val (.int p3), .val (.long (p0.toInt64)), .second, .val (.long ((p0.toInt64) + ((p1 &&& (2147483647 : Int32)).toInt64))), .second, .val (.int (p3 &&& (3 : Int32))), .val (.long (f0_z0 p0 p1 p3)), .second, .val (.long ((f0_z0 p0 p1 p3) + (p2.toInt64))), .second, .val (.int (f0_z1 p3)), .val (.ref b6), .val (.double (FP.l2d ((f0_z0 p0 p1 p3) + (p2.toInt64)))), .second, .unset] [(.int (1 : Int32))])) (fun _ k => XS.goto X7.here hx rfl (pc0 := 145) (pc' := 149) rfl (hb hby at_145) (by decide) (by decide) k) ?_
          rw [show (f0_z2 p0 p1 p2 p3) = (1 : Int32) from by unfold f0_z2; rw [if_neg hc10, if_neg hc11]] at Kj9
          exact Kj9 _ _ X7 N7 rfl
    intro T9 L9 X9 N9 e9
    refine go (B := T9.setTop (mkF m 151 #[.val (.int p0), .val (.int p1), .val (.int p2), .val (.int p3), .val (.long (p0.toInt64)), .second, .val (.long ((p0.toInt64) + ((p1 &&& (2147483647 : Int32)).toInt64))), .second, .val (.int (p3 &&& (3 : Int32))), .val (.long (f0_z0 p0 p1 p3)), .second, .val (.long ((f0_z0 p0 p1 p3) + (p2.toInt64))), .second, .val (.int (f0_z1 p3)), .val (.ref b6), .val (.double (FP.l2d ((f0_z0 p0 p1 p3) + (p2.toInt64)))), .second, .val (.int (f0_z2 p0 p1 p2 p3))] [])) (fun _ k => XS.istore X9.here hx rfl (hb hby at_149) rfl (l' := #[.val (.int p0), .val (.int p1), .val (.int p2), .val (.int p3), .val (.long (p0.toInt64)), .second, .val (.long ((p0.toInt64) + ((p1 &&& (2147483647 : Int32)).toInt64))), .second, .val (.int (p3 &&& (3 : Int32))), .val (.long (f0_z0 p0 p1 p3)), .second, .val (.long ((f0_z0 p0 p1 p3) + (p2.toInt64))), .second, .val (.int (f0_z1 p3)), .val (.ref b6), .val (.double (FP.l2d ((f0_z0 p0 p1 p3) + (p2.toInt64)))), .second, .val (.int (f0_z2 p0 p1 p2 p3))]) rfl k) ?_
    refine go (B := T9.setTop (mkF m 153 #[.val (.int p0), .val (.int p1), .val (.int p2), .val (.int p3), .val (.long (p0.toInt64)), .second, .val (.long ((p0.toInt64) + ((p1 &&& (2147483647 : Int32)).toInt64))), .second, .val (.int (p3 &&& (3 : Int32))), .val (.long (f0_z0 p0 p1 p3)), .second, .val (.long ((f0_z0 p0 p1 p3) + (p2.toInt64))), .second, .val (.int (f0_z1 p3)), .val (.ref b6), .val (.double (FP.l2d ((f0_z0 p0 p1 p3) + (p2.toInt64)))), .second, .val (.int (f0_z2 p0 p1 p2 p3))] [(.ref b6)])) (fun _ k => XS.aload X9.here hx rfl (hb hby at_151) rfl rfl k) ?_
    refine go (B := T9.setTop (mkF m 155 #[.val (.int p0), .val (.int p1), .val (.int p2), .val (.int p3), .val (.long (p0.toInt64)), .second, .val (.long ((p0.toInt64) + ((p1 &&& (2147483647 : Int32)).toInt64))), .second, .val (.int (p3 &&& (3 : Int32))), .val (.long (f0_z0 p0 p1 p3)), .second, .val (.long ((f0_z0 p0 p1 p3) + (p2.toInt64))), .second, .val (.int (f0_z1 p3)), .val (.ref b6), .val (.double (FP.l2d ((f0_z0 p0 p1 p3) + (p2.toInt64)))), .second, .val (.int (f0_z2 p0 p1 p2 p3))] [(.double (FP.l2d ((f0_z0 p0 p1 p3) + (p2.toInt64)))), (.ref b6)])) (fun _ k => XS.dload X9.here hx rfl (hb hby at_153) rfl k) ?_
    obtain ⟨cq12, kq12, q12a, q12b, q12c⟩ := isOf hZ e9 o7_0
    obtain ⟨_, _, ⟨T12, L12, k12, n12⟩, -, X12, ⟨Lc12, hQ12, l12, y12, z12⟩, st12⟩ := X9.virtualBack hx (y := (⟨"com/example/antipode/antipode/problem/Interval", "contains", "(D)Z"⟩ : MethodName)) (z := (⟨"com/example/antipode/antipode/problem/Interval", "contains", "(D)Z"⟩ : MethodName)) hown (mvT hZ (hw _ (List.mem_of_getElem? (i := 28) rfl))) (mvT hZ (hw _ (List.mem_of_getElem? (i := 29) rfl))) (notFace_of_selects (args := #[]) (mvT hZ (hw _ (List.mem_of_getElem? (i := 31) rfl)))) (mvT hZ (hw _ (List.mem_of_getElem? (i := 31) rfl))) (mvT hZ (hw _ (List.mem_of_getElem? (i := 30) rfl))) (by decide) (backOf (W := 0) (rm6 l Z aw hw [] b6 (FP.l2d ((f0_z0 p0 p1 p3) + (p2.toInt64))) (FP.l2d (p0.toInt64)) (FP.l2d ((p0.toInt64) + ((p1 &&& (2147483647 : Int32)).toInt64))) T7.heap n0 Z7 o7_1 o7_2) hZ (hw _ (List.mem_of_getElem? (i := 32) rfl)) (hw _ (List.mem_of_getElem? (i := 3) rfl)) (by decide) (by decide)) q12a q12c (g := (mkF m 155 #[.val (.int p0), .val (.int p1), .val (.int p2), .val (.int p3), .val (.long (p0.toInt64)), .second, .val (.long ((p0.toInt64) + ((p1 &&& (2147483647 : Int32)).toInt64))), .second, .val (.int (p3 &&& (3 : Int32))), .val (.long (f0_z0 p0 p1 p3)), .second, .val (.long ((f0_z0 p0 p1 p3) + (p2.toInt64))), .second, .val (.int (f0_z1 p3)), .val (.ref b6), .val (.double (FP.l2d ((f0_z0 p0 p1 p3) + (p2.toInt64)))), .second, .val (.int (f0_z2 p0 p1 p2 p3))] [(.double (FP.l2d ((f0_z0 p0 p1 p3) + (p2.toInt64)))), (.ref b6)])) rfl (by rw [hml]; rfl) (Steps.refl _) (argsL := [(.double (FP.l2d ((f0_z0 p0 p1 p3) + (p2.toInt64))))]) (rest := []) (lenOf pd_2 rfl) rfl (by show 2 * 0 + _ ≤ _; exact Nat.le_of_eq rfl) (hb hby at_155) (fun _ _ => ⟨rfl, e9, (by decide : 1 + 0 ≤ _), (by decide : 2 + 0 ≤ _)⟩)
    dsimp only [Pt.U, Pt.locs, Pt.cells, Pt.slots] at X12 l12 y12 z12 st12 hQ12
    subst l12 y12 z12
    obtain ⟨rfl, rfl, e12⟩ := hQ12
    have N12 := Fr.app N9 (Fr.nil n0)
    refine go (B := T12.setTop (mkF m 158 #[.val (.int p0), .val (.int p1), .val (.int p2), .val (.int p3), .val (.long (p0.toInt64)), .second, .val (.long ((p0.toInt64) + ((p1 &&& (2147483647 : Int32)).toInt64))), .second, .val (.int (p3 &&& (3 : Int32))), .val (.long (f0_z0 p0 p1 p3)), .second, .val (.long ((f0_z0 p0 p1 p3) + (p2.toInt64))), .second, .val (.int (f0_z1 p3)), .val (.ref b6), .val (.double (FP.l2d ((f0_z0 p0 p1 p3) + (p2.toInt64)))), .second, .val (.int (f0_z2 p0 p1 p2 p3))] [(.int (f0_t3 p0 p1 p2 p3))])) (fun _ k => st12.trans k) ?_
    refine go (B := T12.setTop (mkF m 160 #[.val (.int p0), .val (.int p1), .val (.int p2), .val (.int p3), .val (.long (p0.toInt64)), .second, .val (.long ((p0.toInt64) + ((p1 &&& (2147483647 : Int32)).toInt64))), .second, .val (.int (p3 &&& (3 : Int32))), .val (.long (f0_z0 p0 p1 p3)), .second, .val (.long ((f0_z0 p0 p1 p3) + (p2.toInt64))), .second, .val (.int (f0_z1 p3)), .val (.ref b6), .val (.double (FP.l2d ((f0_z0 p0 p1 p3) + (p2.toInt64)))), .second, .val (.int (f0_z2 p0 p1 p2 p3))] [(.int (f0_z2 p0 p1 p2 p3)), (.int (f0_t3 p0 p1 p2 p3))])) (fun _ k => XS.iload X12.here hx rfl (hb hby at_158) rfl k) ?_
    by_cases hc13 : (f0_t3 p0 p1 p2 p3) = (f0_z2 p0 p1 p2 p3)
    · refine go (B := T12.setTop (mkF m 163 #[.val (.int p0), .val (.int p1), .val (.int p2), .val (.int p3), .val (.long (p0.toInt64)), .second, .val (.long ((p0.toInt64) + ((p1 &&& (2147483647 : Int32)).toInt64))), .second, .val (.int (p3 &&& (3 : Int32))), .val (.long (f0_z0 p0 p1 p3)), .second, .val (.long ((f0_z0 p0 p1 p3) + (p2.toInt64))), .second, .val (.int (f0_z1 p3)), .val (.ref b6), .val (.double (FP.l2d ((f0_z0 p0 p1 p3) + (p2.toInt64)))), .second, .val (.int (f0_z2 p0 p1 p2 p3))] [])) (fun _ k => XS.icmpNo X12.here hx rfl (hb hby at_160) rfl (teq hc13).2 k) ?_
      refine go (B := T12.setTop (mkF m 164 #[.val (.int p0), .val (.int p1), .val (.int p2), .val (.int p3), .val (.long (p0.toInt64)), .second, .val (.long ((p0.toInt64) + ((p1 &&& (2147483647 : Int32)).toInt64))), .second, .val (.int (p3 &&& (3 : Int32))), .val (.long (f0_z0 p0 p1 p3)), .second, .val (.long ((f0_z0 p0 p1 p3) + (p2.toInt64))), .second, .val (.int (f0_z1 p3)), .val (.ref b6), .val (.double (FP.l2d ((f0_z0 p0 p1 p3) + (p2.toInt64)))), .second, .val (.int (f0_z2 p0 p1 p2 p3))] [(.int (1 : Int32))])) (fun _ k => XS.iconst X12.here hx rfl (hb hby at_163) k) ?_
      refine go (B := T12.setTop (mkF m 168 #[.val (.int p0), .val (.int p1), .val (.int p2), .val (.int p3), .val (.long (p0.toInt64)), .second, .val (.long ((p0.toInt64) + ((p1 &&& (2147483647 : Int32)).toInt64))), .second, .val (.int (p3 &&& (3 : Int32))), .val (.long (f0_z0 p0 p1 p3)), .second, .val (.long ((f0_z0 p0 p1 p3) + (p2.toInt64))), .second, .val (.int (f0_z1 p3)), .val (.ref b6), .val (.double (FP.l2d ((f0_z0 p0 p1 p3) + (p2.toInt64)))), .second, .val (.int (f0_z2 p0 p1 p2 p3))] [(.int (1 : Int32))])) (fun _ k => XS.goto X12.here hx rfl (pc0 := 164) (pc' := 168) rfl (hb hby at_164) (by decide) (by decide) k) ?_
      have r14 : (f0 p0 p1 p2 p3) = (1 : Int32) := by unfold f0; rw [if_pos hc8, if_pos hc13]
      exact end_nar X12 hx Bd.notSynchronized (t := .boolean) Bd.returns (by simp) (hb hby at_168) hF e12 (by decide) (by decide) ⟨(congrArg (fun z => some (Value.int z)) (r14.symm.trans (own_law p0 p1 p2 p3))), N12⟩
    · refine go (B := T12.setTop (mkF m 167 #[.val (.int p0), .val (.int p1), .val (.int p2), .val (.int p3), .val (.long (p0.toInt64)), .second, .val (.long ((p0.toInt64) + ((p1 &&& (2147483647 : Int32)).toInt64))), .second, .val (.int (p3 &&& (3 : Int32))), .val (.long (f0_z0 p0 p1 p3)), .second, .val (.long ((f0_z0 p0 p1 p3) + (p2.toInt64))), .second, .val (.int (f0_z1 p3)), .val (.ref b6), .val (.double (FP.l2d ((f0_z0 p0 p1 p3) + (p2.toInt64)))), .second, .val (.int (f0_z2 p0 p1 p2 p3))] [])) (fun _ k => XS.icmpYes X12.here hx rfl (pc0 := 160) (pc' := 167) rfl (hb hby at_160) rfl (feq hc13).2 (by decide) (by decide) k) ?_
      refine go (B := T12.setTop (mkF m 168 #[.val (.int p0), .val (.int p1), .val (.int p2), .val (.int p3), .val (.long (p0.toInt64)), .second, .val (.long ((p0.toInt64) + ((p1 &&& (2147483647 : Int32)).toInt64))), .second, .val (.int (p3 &&& (3 : Int32))), .val (.long (f0_z0 p0 p1 p3)), .second, .val (.long ((f0_z0 p0 p1 p3) + (p2.toInt64))), .second, .val (.int (f0_z1 p3)), .val (.ref b6), .val (.double (FP.l2d ((f0_z0 p0 p1 p3) + (p2.toInt64)))), .second, .val (.int (f0_z2 p0 p1 p2 p3))] [(.int (0 : Int32))])) (fun _ k => XS.iconst X12.here hx rfl (hb hby at_167) k) ?_
      have r15 : (f0 p0 p1 p2 p3) = (0 : Int32) := by unfold f0; rw [if_pos hc8, if_neg hc13]
      exact end_nar X12 hx Bd.notSynchronized (t := .boolean) Bd.returns (by simp) (hb hby at_168) hF e12 (by decide) (by decide) ⟨(congrArg (fun z => some (Value.int z)) (r15.symm.trans (own_law p0 p1 p2 p3))), N12⟩
  · refine go (B := T7.setTop (mkF m 88 #[.val (.int p0), .val (.int p1), .val (.int p2), .val (.int p3), .val (.long (p0.toInt64)), .second, .val (.long ((p0.toInt64) + ((p1 &&& (2147483647 : Int32)).toInt64))), .second, .val (.int (p3 &&& (3 : Int32))), .val (.long (f0_z0 p0 p1 p3)), .second, .val (.long ((f0_z0 p0 p1 p3) + (p2.toInt64))), .second, .val (.int (f0_z1 p3)), .val (.ref b6), .unset, .unset, .unset] [])) (fun _ k => XS.ifNo X7.here hx rfl (hb hby at_85) rfl ((if0 _ _).trans (feq hc8).1) k) ?_
    refine go (B := T7.setTop (mkF m 90 #[.val (.int p0), .val (.int p1), .val (.int p2), .val (.int p3), .val (.long (p0.toInt64)), .second, .val (.long ((p0.toInt64) + ((p1 &&& (2147483647 : Int32)).toInt64))), .second, .val (.int (p3 &&& (3 : Int32))), .val (.long (f0_z0 p0 p1 p3)), .second, .val (.long ((f0_z0 p0 p1 p3) + (p2.toInt64))), .second, .val (.int (f0_z1 p3)), .val (.ref b6), .unset, .unset, .unset] [(.long ((f0_z0 p0 p1 p3) + (p2.toInt64)))])) (fun _ k => XS.lload X7.here hx rfl (hb hby at_88) rfl k) ?_
    refine go (B := T7.setTop (mkF m 91 #[.val (.int p0), .val (.int p1), .val (.int p2), .val (.int p3), .val (.long (p0.toInt64)), .second, .val (.long ((p0.toInt64) + ((p1 &&& (2147483647 : Int32)).toInt64))), .second, .val (.int (p3 &&& (3 : Int32))), .val (.long (f0_z0 p0 p1 p3)), .second, .val (.long ((f0_z0 p0 p1 p3) + (p2.toInt64))), .second, .val (.int (f0_z1 p3)), .val (.ref b6), .unset, .unset, .unset] [(.double (FP.l2d ((f0_z0 p0 p1 p3) + (p2.toInt64))))])) (fun _ k => XS.l2dS X7.here hx rfl (hb hby at_90) rfl rfl k) ?_
    refine go (B := T7.setTop (mkF m 94 #[.val (.int p0), .val (.int p1), .val (.int p2), .val (.int p3), .val (.long (p0.toInt64)), .second, .val (.long ((p0.toInt64) + ((p1 &&& (2147483647 : Int32)).toInt64))), .second, .val (.int (p3 &&& (3 : Int32))), .val (.long (f0_z0 p0 p1 p3)), .second, .val (.long ((f0_z0 p0 p1 p3) + (p2.toInt64))), .second, .val (.int (f0_z1 p3)), .val (.ref b6), .unset, .unset, .unset] [(.double (4602678819172646912 : UInt64)), (.double (FP.l2d ((f0_z0 p0 p1 p3) + (p2.toInt64))))])) (fun _ k => X7.ldc2DoubleC hx hown (mvT hZ (hw _ (List.mem_of_getElem? (i := 33) rfl))) (g := (mkF m 91 #[.val (.int p0), .val (.int p1), .val (.int p2), .val (.int p3), .val (.long (p0.toInt64)), .second, .val (.long ((p0.toInt64) + ((p1 &&& (2147483647 : Int32)).toInt64))), .second, .val (.int (p3 &&& (3 : Int32))), .val (.long (f0_z0 p0 p1 p3)), .second, .val (.long ((f0_z0 p0 p1 p3) + (p2.toInt64))), .second, .val (.int (f0_z1 p3)), .val (.ref b6), .unset, .unset, .unset] [(.double (FP.l2d ((f0_z0 p0 p1 p3) + (p2.toInt64))))])) rfl (hb hby at_91) _ k) ?_
    refine go (B := T7.setTop (mkF m 95 #[.val (.int p0), .val (.int p1), .val (.int p2), .val (.int p3), .val (.long (p0.toInt64)), .second, .val (.long ((p0.toInt64) + ((p1 &&& (2147483647 : Int32)).toInt64))), .second, .val (.int (p3 &&& (3 : Int32))), .val (.long (f0_z0 p0 p1 p3)), .second, .val (.long ((f0_z0 p0 p1 p3) + (p2.toInt64))), .second, .val (.int (f0_z1 p3)), .val (.ref b6), .unset, .unset, .unset] [(.double (FP.dadd (FP.l2d ((f0_z0 p0 p1 p3) + (p2.toInt64))) (4602678819172646912 : UInt64)))])) (fun _ k => XS.daddS X7.here hx rfl (hb hby at_94) rfl (dadd_out (l2d_fin _).noNaN own_hfin) rfl k) ?_
    refine go (B := T7.setTop (mkF m 97 #[.val (.int p0), .val (.int p1), .val (.int p2), .val (.int p3), .val (.long (p0.toInt64)), .second, .val (.long ((p0.toInt64) + ((p1 &&& (2147483647 : Int32)).toInt64))), .second, .val (.int (p3 &&& (3 : Int32))), .val (.long (f0_z0 p0 p1 p3)), .second, .val (.long ((f0_z0 p0 p1 p3) + (p2.toInt64))), .second, .val (.int (f0_z1 p3)), .val (.ref b6), .val (.double (FP.dadd (FP.l2d ((f0_z0 p0 p1 p3) + (p2.toInt64))) (4602678819172646912 : UInt64))), .second, .unset] [])) (fun _ k => XS.dstore X7.here hx rfl (hb hby at_95) rfl (l' := #[.val (.int p0), .val (.int p1), .val (.int p2), .val (.int p3), .val (.long (p0.toInt64)), .second, .val (.long ((p0.toInt64) + ((p1 &&& (2147483647 : Int32)).toInt64))), .second, .val (.int (p3 &&& (3 : Int32))), .val (.long (f0_z0 p0 p1 p3)), .second, .val (.long ((f0_z0 p0 p1 p3) + (p2.toInt64))), .second, .val (.int (f0_z1 p3)), .val (.ref b6), .val (.double (FP.dadd (FP.l2d ((f0_z0 p0 p1 p3) + (p2.toInt64))) (4602678819172646912 : UInt64))), .second, .unset]) rfl k) ?_
    refine go (B := T7.setTop (mkF m 99 #[.val (.int p0), .val (.int p1), .val (.int p2), .val (.int p3), .val (.long (p0.toInt64)), .second, .val (.long ((p0.toInt64) + ((p1 &&& (2147483647 : Int32)).toInt64))), .second, .val (.int (p3 &&& (3 : Int32))), .val (.long (f0_z0 p0 p1 p3)), .second, .val (.long ((f0_z0 p0 p1 p3) + (p2.toInt64))), .second, .val (.int (f0_z1 p3)), .val (.ref b6), .val (.double (FP.dadd (FP.l2d ((f0_z0 p0 p1 p3) + (p2.toInt64))) (4602678819172646912 : UInt64))), .second, .unset] [(.long (p0.toInt64))])) (fun _ k => XS.lload X7.here hx rfl (hb hby at_97) rfl k) ?_
    refine go (B := T7.setTop (mkF m 101 #[.val (.int p0), .val (.int p1), .val (.int p2), .val (.int p3), .val (.long (p0.toInt64)), .second, .val (.long ((p0.toInt64) + ((p1 &&& (2147483647 : Int32)).toInt64))), .second, .val (.int (p3 &&& (3 : Int32))), .val (.long (f0_z0 p0 p1 p3)), .second, .val (.long ((f0_z0 p0 p1 p3) + (p2.toInt64))), .second, .val (.int (f0_z1 p3)), .val (.ref b6), .val (.double (FP.dadd (FP.l2d ((f0_z0 p0 p1 p3) + (p2.toInt64))) (4602678819172646912 : UInt64))), .second, .unset] [(.long ((f0_z0 p0 p1 p3) + (p2.toInt64))), (.long (p0.toInt64))])) (fun _ k => XS.lload X7.here hx rfl (hb hby at_99) rfl k) ?_
    refine go (B := T7.setTop (mkF m 102 #[.val (.int p0), .val (.int p1), .val (.int p2), .val (.int p3), .val (.long (p0.toInt64)), .second, .val (.long ((p0.toInt64) + ((p1 &&& (2147483647 : Int32)).toInt64))), .second, .val (.int (p3 &&& (3 : Int32))), .val (.long (f0_z0 p0 p1 p3)), .second, .val (.long ((f0_z0 p0 p1 p3) + (p2.toInt64))), .second, .val (.int (f0_z1 p3)), .val (.ref b6), .val (.double (FP.dadd (FP.l2d ((f0_z0 p0 p1 p3) + (p2.toInt64))) (4602678819172646912 : UInt64))), .second, .unset] [(.int (lcmpW (p0.toInt64) ((f0_z0 p0 p1 p3) + (p2.toInt64))))])) (fun _ k => XS.lcmp X7.here hx rfl (hb hby at_101) rfl k) ?_
    suffices Kj16 : ∀ (T16 : State) (L16 : List Loc), Stand p l e room_1 s m #[(.int p0), (.int p1), (.int p2), (.int p3)] below meth c T16 L16 1 2 → Fr n0 L16 → T16.heap = T7.heap → Go p.tables e below F (T16.setTop (mkF m 118 #[.val (.int p0), .val (.int p1), .val (.int p2), .val (.int p3), .val (.long (p0.toInt64)), .second, .val (.long ((p0.toInt64) + ((p1 &&& (2147483647 : Int32)).toInt64))), .second, .val (.int (p3 &&& (3 : Int32))), .val (.long (f0_z0 p0 p1 p3)), .second, .val (.long ((f0_z0 p0 p1 p3) + (p2.toInt64))), .second, .val (.int (f0_z1 p3)), .val (.ref b6), .val (.double (FP.dadd (FP.l2d ((f0_z0 p0 p1 p3) + (p2.toInt64))) (4602678819172646912 : UInt64))), .second, .unset] [(.int (f0_z4 p0 p1 p2 p3))])) by
      by_cases hc17 : (0 : Int32) < (lcmpW (p0.toInt64) ((f0_z0 p0 p1 p3) + (p2.toInt64)))
      · refine go (B := T7.setTop (mkF m 117 #[.val (.int p0), .val (.int p1), .val (.int p2), .val (.int p3), .val (.long (p0.toInt64)), .second, .val (.long ((p0.toInt64) + ((p1 &&& (2147483647 : Int32)).toInt64))), .second, .val (.int (p3 &&& (3 : Int32))), .val (.long (f0_z0 p0 p1 p3)), .second, .val (.long ((f0_z0 p0 p1 p3) + (p2.toInt64))), .second, .val (.int (f0_z1 p3)), .val (.ref b6), .val (.double (FP.dadd (FP.l2d ((f0_z0 p0 p1 p3) + (p2.toInt64))) (4602678819172646912 : UInt64))), .second, .unset] [])) (fun _ k => XS.ifYes X7.here hx rfl (pc0 := 102) (pc' := 117) rfl (hb hby at_102) rfl ((if0 _ _).trans (tlt hc17).2.2.1) (by decide) (by decide) k) ?_
        refine go (B := T7.setTop (mkF m 118 #[.val (.int p0), .val (.int p1), .val (.int p2), .val (.int p3), .val (.long (p0.toInt64)), .second, .val (.long ((p0.toInt64) + ((p1 &&& (2147483647 : Int32)).toInt64))), .second, .val (.int (p3 &&& (3 : Int32))), .val (.long (f0_z0 p0 p1 p3)), .second, .val (.long ((f0_z0 p0 p1 p3) + (p2.toInt64))), .second, .val (.int (f0_z1 p3)), .val (.ref b6), .val (.double (FP.dadd (FP.l2d ((f0_z0 p0 p1 p3) + (p2.toInt64))) (4602678819172646912 : UInt64))), .second, .unset] [(.int (0 : Int32))])) (fun _ k => XS.iconst X7.here hx rfl (hb hby at_117) k) ?_
        rw [show (f0_z4 p0 p1 p2 p3) = (0 : Int32) from by unfold f0_z4; rw [if_pos hc17]] at Kj16
        exact Kj16 _ _ X7 N7 rfl
      · refine go (B := T7.setTop (mkF m 105 #[.val (.int p0), .val (.int p1), .val (.int p2), .val (.int p3), .val (.long (p0.toInt64)), .second, .val (.long ((p0.toInt64) + ((p1 &&& (2147483647 : Int32)).toInt64))), .second, .val (.int (p3 &&& (3 : Int32))), .val (.long (f0_z0 p0 p1 p3)), .second, .val (.long ((f0_z0 p0 p1 p3) + (p2.toInt64))), .second, .val (.int (f0_z1 p3)), .val (.ref b6), .val (.double (FP.dadd (FP.l2d ((f0_z0 p0 p1 p3) + (p2.toInt64))) (4602678819172646912 : UInt64))), .second, .unset] [])) (fun _ k => XS.ifNo X7.here hx rfl (hb hby at_102) rfl ((if0 _ _).trans (flt hc17).2.2.1) k) ?_
        refine go (B := T7.setTop (mkF m 107 #[.val (.int p0), .val (.int p1), .val (.int p2), .val (.int p3), .val (.long (p0.toInt64)), .second, .val (.long ((p0.toInt64) + ((p1 &&& (2147483647 : Int32)).toInt64))), .second, .val (.int (p3 &&& (3 : Int32))), .val (.long (f0_z0 p0 p1 p3)), .second, .val (.long ((f0_z0 p0 p1 p3) + (p2.toInt64))), .second, .val (.int (f0_z1 p3)), .val (.ref b6), .val (.double (FP.dadd (FP.l2d ((f0_z0 p0 p1 p3) + (p2.toInt64))) (4602678819172646912 : UInt64))), .second, .unset] [(.long ((f0_z0 p0 p1 p3) + (p2.toInt64)))])) (fun _ k => XS.lload X7.here hx rfl (hb hby at_105) rfl k) ?_
        refine go (B := T7.setTop (mkF m 109 #[.val (.int p0), .val (.int p1), .val (.int p2), .val (.int p3), .val (.long (p0.toInt64)), .second, .val (.long ((p0.toInt64) + ((p1 &&& (2147483647 : Int32)).toInt64))), .second, .val (.int (p3 &&& (3 : Int32))), .val (.long (f0_z0 p0 p1 p3)), .second, .val (.long ((f0_z0 p0 p1 p3) + (p2.toInt64))), .second, .val (.int (f0_z1 p3)), .val (.ref b6), .val (.double (FP.dadd (FP.l2d ((f0_z0 p0 p1 p3) + (p2.toInt64))) (4602678819172646912 : UInt64))), .second, .unset] [(.long ((p0.toInt64) + ((p1 &&& (2147483647 : Int32)).toInt64))), (.long ((f0_z0 p0 p1 p3) + (p2.toInt64)))])) (fun _ k => XS.lload X7.here hx rfl (hb hby at_107) rfl k) ?_
        refine go (B := T7.setTop (mkF m 110 #[.val (.int p0), .val (.int p1), .val (.int p2), .val (.int p3), .val (.long (p0.toInt64)), .second, .val (.long ((p0.toInt64) + ((p1 &&& (2147483647 : Int32)).toInt64))), .second, .val (.int (p3 &&& (3 : Int32))), .val (.long (f0_z0 p0 p1 p3)), .second, .val (.long ((f0_z0 p0 p1 p3) + (p2.toInt64))), .second, .val (.int (f0_z1 p3)), .val (.ref b6), .val (.double (FP.dadd (FP.l2d ((f0_z0 p0 p1 p3) + (p2.toInt64))) (4602678819172646912 : UInt64))), .second, .unset] [(.int (lcmpW ((f0_z0 p0 p1 p3) + (p2.toInt64)) ((p0.toInt64) + ((p1 &&& (2147483647 : Int32)).toInt64))))])) (fun _ k => XS.lcmp X7.here hx rfl (hb hby at_109) rfl k) ?_
        by_cases hc18 : (lcmpW ((f0_z0 p0 p1 p3) + (p2.toInt64)) ((p0.toInt64) + ((p1 &&& (2147483647 : Int32)).toInt64))) < (0 : Int32)
        · refine go (B := T7.setTop (mkF m 113 #[.val (.int p0), .val (.int p1), .val (.int p2), .val (.int p3), .val (.long (p0.toInt64)), .second, .val (.long ((p0.toInt64) + ((p1 &&& (2147483647 : Int32)).toInt64))), .second, .val (.int (p3 &&& (3 : Int32))), .val (.long (f0_z0 p0 p1 p3)), .second, .val (.long ((f0_z0 p0 p1 p3) + (p2.toInt64))), .second, .val (.int (f0_z1 p3)), .val (.ref b6), .val (.double (FP.dadd (FP.l2d ((f0_z0 p0 p1 p3) + (p2.toInt64))) (4602678819172646912 : UInt64))), .second, .unset] [])) (fun _ k => XS.ifNo X7.here hx rfl (hb hby at_110) rfl ((if0 _ _).trans (tlt hc18).2.1) k) ?_
          refine go (B := T7.setTop (mkF m 114 #[.val (.int p0), .val (.int p1), .val (.int p2), .val (.int p3), .val (.long (p0.toInt64)), .second, .val (.long ((p0.toInt64) + ((p1 &&& (2147483647 : Int32)).toInt64))), .second, .val (.int (p3 &&& (3 : Int32))), .val (.long (f0_z0 p0 p1 p3)), .second, .val (.long ((f0_z0 p0 p1 p3) + (p2.toInt64))), .second, .val (.int (f0_z1 p3)), .val (.ref b6), .val (.double (FP.dadd (FP.l2d ((f0_z0 p0 p1 p3) + (p2.toInt64))) (4602678819172646912 : UInt64))), .second, .unset] [(.int (1 : Int32))])) (fun _ k => XS.iconst X7.here hx rfl (hb hby at_113) k) ?_
          refine go (B := T7.setTop (mkF m 118 #[.val (.int p0), .val (.int p1), .val (.int p2), .val (.int p3), .val (.long (p0.toInt64)), .second, .val (.long ((p0.toInt64) + ((p1 &&& (2147483647 : Int32)).toInt64))), .second, .val (.int (p3 &&& (3 : Int32))), .val (.long (f0_z0 p0 p1 p3)), .second, .val (.long ((f0_z0 p0 p1 p3) + (p2.toInt64))), .second, .val (.int (f0_z1 p3)), .val (.ref b6), .val (.double (FP.dadd (FP.l2d ((f0_z0 p0 p1 p3) + (p2.toInt64))) (4602678819172646912 : UInt64))), .second, .unset] [(.int (1 : Int32))])) (fun _ k => XS.goto X7.here hx rfl (pc0 := 114) (pc' := 118) rfl (hb hby at_114) (by decide) (by decide) k) ?_
          rw [show (f0_z4 p0 p1 p2 p3) = (1 : Int32) from by unfold f0_z4; rw [if_neg hc17, if_pos hc18]] at Kj16
          exact Kj16 _ _ X7 N7 rfl
        · refine go (B := T7.setTop (mkF m 117 #[.val (.int p0), .val (.int p1), .val (.int p2), .val (.int p3), .val (.long (p0.toInt64)), .second, .val (.long ((p0.toInt64) + ((p1 &&& (2147483647 : Int32)).toInt64))), .second, .val (.int (p3 &&& (3 : Int32))), .val (.long (f0_z0 p0 p1 p3)), .second, .val (.long ((f0_z0 p0 p1 p3) + (p2.toInt64))), .second, .val (.int (f0_z1 p3)), .val (.ref b6), .val (.double (FP.dadd (FP.l2d ((f0_z0 p0 p1 p3) + (p2.toInt64))) (4602678819172646912 : UInt64))), .second, .unset] [])) (fun _ k => XS.ifYes X7.here hx rfl (pc0 := 110) (pc' := 117) rfl (hb hby at_110) rfl ((if0 _ _).trans (flt hc18).2.1) (by decide) (by decide) k) ?_
          refine go (B := T7.setTop (mkF m 118 #[.val (.int p0), .val (.int p1), .val (.int p2), .val (.int p3), .val (.long (p0.toInt64)), .second, .val (.long ((p0.toInt64) + ((p1 &&& (2147483647 : Int32)).toInt64))), .second, .val (.int (p3 &&& (3 : Int32))), .val (.long (f0_z0 p0 p1 p3)), .second, .val (.long ((f0_z0 p0 p1 p3) + (p2.toInt64))), .second, .val (.int (f0_z1 p3)), .val (.ref b6), .val (.double (FP.dadd (FP.l2d ((f0_z0 p0 p1 p3) + (p2.toInt64))) (4602678819172646912 : UInt64))), .second, .unset] [(.int (0 : Int32))])) (fun _ k => XS.iconst X7.here hx rfl (hb hby at_117) k) ?_
          rw [show (f0_z4 p0 p1 p2 p3) = (0 : Int32) from by unfold f0_z4; rw [if_neg hc17, if_neg hc18]] at Kj16
          exact Kj16 _ _ X7 N7 rfl
    intro T16 L16 X16 N16 e16
    refine go (B := T16.setTop (mkF m 120 #[.val (.int p0), .val (.int p1), .val (.int p2), .val (.int p3), .val (.long (p0.toInt64)), .second, .val (.long ((p0.toInt64) + ((p1 &&& (2147483647 : Int32)).toInt64))), .second, .val (.int (p3 &&& (3 : Int32))), .val (.long (f0_z0 p0 p1 p3)), .second, .val (.long ((f0_z0 p0 p1 p3) + (p2.toInt64))), .second, .val (.int (f0_z1 p3)), .val (.ref b6), .val (.double (FP.dadd (FP.l2d ((f0_z0 p0 p1 p3) + (p2.toInt64))) (4602678819172646912 : UInt64))), .second, .val (.int (f0_z4 p0 p1 p2 p3))] [])) (fun _ k => XS.istore X16.here hx rfl (hb hby at_118) rfl (l' := #[.val (.int p0), .val (.int p1), .val (.int p2), .val (.int p3), .val (.long (p0.toInt64)), .second, .val (.long ((p0.toInt64) + ((p1 &&& (2147483647 : Int32)).toInt64))), .second, .val (.int (p3 &&& (3 : Int32))), .val (.long (f0_z0 p0 p1 p3)), .second, .val (.long ((f0_z0 p0 p1 p3) + (p2.toInt64))), .second, .val (.int (f0_z1 p3)), .val (.ref b6), .val (.double (FP.dadd (FP.l2d ((f0_z0 p0 p1 p3) + (p2.toInt64))) (4602678819172646912 : UInt64))), .second, .val (.int (f0_z4 p0 p1 p2 p3))]) rfl k) ?_
    refine go (B := T16.setTop (mkF m 151 #[.val (.int p0), .val (.int p1), .val (.int p2), .val (.int p3), .val (.long (p0.toInt64)), .second, .val (.long ((p0.toInt64) + ((p1 &&& (2147483647 : Int32)).toInt64))), .second, .val (.int (p3 &&& (3 : Int32))), .val (.long (f0_z0 p0 p1 p3)), .second, .val (.long ((f0_z0 p0 p1 p3) + (p2.toInt64))), .second, .val (.int (f0_z1 p3)), .val (.ref b6), .val (.double (FP.dadd (FP.l2d ((f0_z0 p0 p1 p3) + (p2.toInt64))) (4602678819172646912 : UInt64))), .second, .val (.int (f0_z4 p0 p1 p2 p3))] [])) (fun _ k => XS.goto X16.here hx rfl (pc0 := 120) (pc' := 151) rfl (hb hby at_120) (by decide) (by decide) k) ?_
    refine go (B := T16.setTop (mkF m 153 #[.val (.int p0), .val (.int p1), .val (.int p2), .val (.int p3), .val (.long (p0.toInt64)), .second, .val (.long ((p0.toInt64) + ((p1 &&& (2147483647 : Int32)).toInt64))), .second, .val (.int (p3 &&& (3 : Int32))), .val (.long (f0_z0 p0 p1 p3)), .second, .val (.long ((f0_z0 p0 p1 p3) + (p2.toInt64))), .second, .val (.int (f0_z1 p3)), .val (.ref b6), .val (.double (FP.dadd (FP.l2d ((f0_z0 p0 p1 p3) + (p2.toInt64))) (4602678819172646912 : UInt64))), .second, .val (.int (f0_z4 p0 p1 p2 p3))] [(.ref b6)])) (fun _ k => XS.aload X16.here hx rfl (hb hby at_151) rfl rfl k) ?_
    refine go (B := T16.setTop (mkF m 155 #[.val (.int p0), .val (.int p1), .val (.int p2), .val (.int p3), .val (.long (p0.toInt64)), .second, .val (.long ((p0.toInt64) + ((p1 &&& (2147483647 : Int32)).toInt64))), .second, .val (.int (p3 &&& (3 : Int32))), .val (.long (f0_z0 p0 p1 p3)), .second, .val (.long ((f0_z0 p0 p1 p3) + (p2.toInt64))), .second, .val (.int (f0_z1 p3)), .val (.ref b6), .val (.double (FP.dadd (FP.l2d ((f0_z0 p0 p1 p3) + (p2.toInt64))) (4602678819172646912 : UInt64))), .second, .val (.int (f0_z4 p0 p1 p2 p3))] [(.double (FP.dadd (FP.l2d ((f0_z0 p0 p1 p3) + (p2.toInt64))) (4602678819172646912 : UInt64))), (.ref b6)])) (fun _ k => XS.dload X16.here hx rfl (hb hby at_153) rfl k) ?_
    obtain ⟨cq19, kq19, q19a, q19b, q19c⟩ := isOf hZ e16 o7_0
    obtain ⟨_, _, ⟨T19, L19, k19, n19⟩, -, X19, ⟨Lc19, hQ19, l19, y19, z19⟩, st19⟩ := X16.virtualBack hx (y := (⟨"com/example/antipode/antipode/problem/Interval", "contains", "(D)Z"⟩ : MethodName)) (z := (⟨"com/example/antipode/antipode/problem/Interval", "contains", "(D)Z"⟩ : MethodName)) hown (mvT hZ (hw _ (List.mem_of_getElem? (i := 28) rfl))) (mvT hZ (hw _ (List.mem_of_getElem? (i := 29) rfl))) (notFace_of_selects (args := #[]) (mvT hZ (hw _ (List.mem_of_getElem? (i := 31) rfl)))) (mvT hZ (hw _ (List.mem_of_getElem? (i := 31) rfl))) (mvT hZ (hw _ (List.mem_of_getElem? (i := 30) rfl))) (by decide) (backOf (W := 0) (rm6 l Z aw hw [] b6 (FP.dadd (FP.l2d ((f0_z0 p0 p1 p3) + (p2.toInt64))) (4602678819172646912 : UInt64)) (FP.l2d (p0.toInt64)) (FP.l2d ((p0.toInt64) + ((p1 &&& (2147483647 : Int32)).toInt64))) T7.heap n0 Z7 o7_1 o7_2) hZ (hw _ (List.mem_of_getElem? (i := 32) rfl)) (hw _ (List.mem_of_getElem? (i := 3) rfl)) (by decide) (by decide)) q19a q19c (g := (mkF m 155 #[.val (.int p0), .val (.int p1), .val (.int p2), .val (.int p3), .val (.long (p0.toInt64)), .second, .val (.long ((p0.toInt64) + ((p1 &&& (2147483647 : Int32)).toInt64))), .second, .val (.int (p3 &&& (3 : Int32))), .val (.long (f0_z0 p0 p1 p3)), .second, .val (.long ((f0_z0 p0 p1 p3) + (p2.toInt64))), .second, .val (.int (f0_z1 p3)), .val (.ref b6), .val (.double (FP.dadd (FP.l2d ((f0_z0 p0 p1 p3) + (p2.toInt64))) (4602678819172646912 : UInt64))), .second, .val (.int (f0_z4 p0 p1 p2 p3))] [(.double (FP.dadd (FP.l2d ((f0_z0 p0 p1 p3) + (p2.toInt64))) (4602678819172646912 : UInt64))), (.ref b6)])) rfl (by rw [hml]; rfl) (Steps.refl _) (argsL := [(.double (FP.dadd (FP.l2d ((f0_z0 p0 p1 p3) + (p2.toInt64))) (4602678819172646912 : UInt64)))]) (rest := []) (lenOf pd_2 rfl) rfl (by show 2 * 0 + _ ≤ _; exact Nat.le_of_eq rfl) (hb hby at_155) (fun _ _ => ⟨rfl, e16, (by decide : 1 + 0 ≤ _), (by decide : 2 + 0 ≤ _)⟩)
    dsimp only [Pt.U, Pt.locs, Pt.cells, Pt.slots] at X19 l19 y19 z19 st19 hQ19
    subst l19 y19 z19
    obtain ⟨rfl, rfl, e19⟩ := hQ19
    have N19 := Fr.app N16 (Fr.nil n0)
    refine go (B := T19.setTop (mkF m 158 #[.val (.int p0), .val (.int p1), .val (.int p2), .val (.int p3), .val (.long (p0.toInt64)), .second, .val (.long ((p0.toInt64) + ((p1 &&& (2147483647 : Int32)).toInt64))), .second, .val (.int (p3 &&& (3 : Int32))), .val (.long (f0_z0 p0 p1 p3)), .second, .val (.long ((f0_z0 p0 p1 p3) + (p2.toInt64))), .second, .val (.int (f0_z1 p3)), .val (.ref b6), .val (.double (FP.dadd (FP.l2d ((f0_z0 p0 p1 p3) + (p2.toInt64))) (4602678819172646912 : UInt64))), .second, .val (.int (f0_z4 p0 p1 p2 p3))] [(.int (f0_t5 p0 p1 p2 p3))])) (fun _ k => st19.trans k) ?_
    refine go (B := T19.setTop (mkF m 160 #[.val (.int p0), .val (.int p1), .val (.int p2), .val (.int p3), .val (.long (p0.toInt64)), .second, .val (.long ((p0.toInt64) + ((p1 &&& (2147483647 : Int32)).toInt64))), .second, .val (.int (p3 &&& (3 : Int32))), .val (.long (f0_z0 p0 p1 p3)), .second, .val (.long ((f0_z0 p0 p1 p3) + (p2.toInt64))), .second, .val (.int (f0_z1 p3)), .val (.ref b6), .val (.double (FP.dadd (FP.l2d ((f0_z0 p0 p1 p3) + (p2.toInt64))) (4602678819172646912 : UInt64))), .second, .val (.int (f0_z4 p0 p1 p2 p3))] [(.int (f0_z4 p0 p1 p2 p3)), (.int (f0_t5 p0 p1 p2 p3))])) (fun _ k => XS.iload X19.here hx rfl (hb hby at_158) rfl k) ?_
    by_cases hc20 : (f0_t5 p0 p1 p2 p3) = (f0_z4 p0 p1 p2 p3)
    · refine go (B := T19.setTop (mkF m 163 #[.val (.int p0), .val (.int p1), .val (.int p2), .val (.int p3), .val (.long (p0.toInt64)), .second, .val (.long ((p0.toInt64) + ((p1 &&& (2147483647 : Int32)).toInt64))), .second, .val (.int (p3 &&& (3 : Int32))), .val (.long (f0_z0 p0 p1 p3)), .second, .val (.long ((f0_z0 p0 p1 p3) + (p2.toInt64))), .second, .val (.int (f0_z1 p3)), .val (.ref b6), .val (.double (FP.dadd (FP.l2d ((f0_z0 p0 p1 p3) + (p2.toInt64))) (4602678819172646912 : UInt64))), .second, .val (.int (f0_z4 p0 p1 p2 p3))] [])) (fun _ k => XS.icmpNo X19.here hx rfl (hb hby at_160) rfl (teq hc20).2 k) ?_
      refine go (B := T19.setTop (mkF m 164 #[.val (.int p0), .val (.int p1), .val (.int p2), .val (.int p3), .val (.long (p0.toInt64)), .second, .val (.long ((p0.toInt64) + ((p1 &&& (2147483647 : Int32)).toInt64))), .second, .val (.int (p3 &&& (3 : Int32))), .val (.long (f0_z0 p0 p1 p3)), .second, .val (.long ((f0_z0 p0 p1 p3) + (p2.toInt64))), .second, .val (.int (f0_z1 p3)), .val (.ref b6), .val (.double (FP.dadd (FP.l2d ((f0_z0 p0 p1 p3) + (p2.toInt64))) (4602678819172646912 : UInt64))), .second, .val (.int (f0_z4 p0 p1 p2 p3))] [(.int (1 : Int32))])) (fun _ k => XS.iconst X19.here hx rfl (hb hby at_163) k) ?_
      refine go (B := T19.setTop (mkF m 168 #[.val (.int p0), .val (.int p1), .val (.int p2), .val (.int p3), .val (.long (p0.toInt64)), .second, .val (.long ((p0.toInt64) + ((p1 &&& (2147483647 : Int32)).toInt64))), .second, .val (.int (p3 &&& (3 : Int32))), .val (.long (f0_z0 p0 p1 p3)), .second, .val (.long ((f0_z0 p0 p1 p3) + (p2.toInt64))), .second, .val (.int (f0_z1 p3)), .val (.ref b6), .val (.double (FP.dadd (FP.l2d ((f0_z0 p0 p1 p3) + (p2.toInt64))) (4602678819172646912 : UInt64))), .second, .val (.int (f0_z4 p0 p1 p2 p3))] [(.int (1 : Int32))])) (fun _ k => XS.goto X19.here hx rfl (pc0 := 164) (pc' := 168) rfl (hb hby at_164) (by decide) (by decide) k) ?_
      have r21 : (f0 p0 p1 p2 p3) = (1 : Int32) := by unfold f0; rw [if_neg hc8, if_pos hc20]
      exact end_nar X19 hx Bd.notSynchronized (t := .boolean) Bd.returns (by simp) (hb hby at_168) hF e19 (by decide) (by decide) ⟨(congrArg (fun z => some (Value.int z)) (r21.symm.trans (own_law p0 p1 p2 p3))), N19⟩
    · refine go (B := T19.setTop (mkF m 167 #[.val (.int p0), .val (.int p1), .val (.int p2), .val (.int p3), .val (.long (p0.toInt64)), .second, .val (.long ((p0.toInt64) + ((p1 &&& (2147483647 : Int32)).toInt64))), .second, .val (.int (p3 &&& (3 : Int32))), .val (.long (f0_z0 p0 p1 p3)), .second, .val (.long ((f0_z0 p0 p1 p3) + (p2.toInt64))), .second, .val (.int (f0_z1 p3)), .val (.ref b6), .val (.double (FP.dadd (FP.l2d ((f0_z0 p0 p1 p3) + (p2.toInt64))) (4602678819172646912 : UInt64))), .second, .val (.int (f0_z4 p0 p1 p2 p3))] [])) (fun _ k => XS.icmpYes X19.here hx rfl (pc0 := 160) (pc' := 167) rfl (hb hby at_160) rfl (feq hc20).2 (by decide) (by decide) k) ?_
      refine go (B := T19.setTop (mkF m 168 #[.val (.int p0), .val (.int p1), .val (.int p2), .val (.int p3), .val (.long (p0.toInt64)), .second, .val (.long ((p0.toInt64) + ((p1 &&& (2147483647 : Int32)).toInt64))), .second, .val (.int (p3 &&& (3 : Int32))), .val (.long (f0_z0 p0 p1 p3)), .second, .val (.long ((f0_z0 p0 p1 p3) + (p2.toInt64))), .second, .val (.int (f0_z1 p3)), .val (.ref b6), .val (.double (FP.dadd (FP.l2d ((f0_z0 p0 p1 p3) + (p2.toInt64))) (4602678819172646912 : UInt64))), .second, .val (.int (f0_z4 p0 p1 p2 p3))] [(.int (0 : Int32))])) (fun _ k => XS.iconst X19.here hx rfl (hb hby at_167) k) ?_
      have r22 : (f0 p0 p1 p2 p3) = (0 : Int32) := by unfold f0; rw [if_neg hc8, if_neg hc20]
      exact end_nar X19 hx Bd.notSynchronized (t := .boolean) Bd.returns (by simp) (hb hby at_168) hF e19 (by decide) (by decide) ⟨(congrArg (fun z => some (Value.int z)) (r22.symm.trans (own_law p0 p1 p2 p3))), N19⟩
set_option maxRecDepth 65536 in
set_option maxHeartbeats 40000000 in
theorem comes_1 {Post : Tables → Env → Array Value → State → Outcome → State → Prop} (hpost : ∀ tb e args s v u, (limb_1_1.after args s (.returned v) u = true ∧ limb_1_2.after args s (.returned v) u = true ∧ True) → FrameEnd s (.returned v) u (Jvm.fieldLocs frame_1_writes args s ++ Jvm.arrayLocs frame_1_arrays args s ++ Jvm.staticLocs frame_1_statics s) 16 128 → Post tb e args s (.returned v) u) :
    ArmFor flags0 classFile x code maxLocals ret World_1 tables_1 room_1 Calls_1 rest_1 Pre_1 Post := by
  intro l hfl _ _ p e ha hc hk s m args below hf hA hF happ hP
  obtain ⟨hcalls, hrest, hpre⟩ := hP
  obtain ⟨-, -, -, hnamed, -, -, -, hat⟩ := (Spec.applies_iff hf).mp happ
  obtain ⟨hg, hn⟩ := and_e (Cond.before_iff.mp (show (Jvm.Cond.and given_1 narrow_1).before args s = true from hpre))
  obtain ⟨gg1, gg2⟩ := and_e hg
  obtain ⟨gg3, gg4⟩ := and_e gg2
  obtain ⟨gg5, gg6⟩ := and_e gg4
  obtain ⟨gg7, gg8⟩ := and_e gg6
  obtain ⟨w0, w1, w2, w3, rfl⟩ : ∃ w0 w1 w2 w3 : Value, args = #[w0, w1, w2, w3] := by
    have hs : args.size = 4 := by simpa [Cond.value, given_1] using gg1
    obtain ⟨L⟩ := args
    match L, hs with
    | [w0, w1, w2, w3], _ => exact ⟨w0, w1, w2, w3, rfl⟩
  have hw := fun d (hd : d ∈ tables_1) => atoms_spec (ws := Jvm.Cond.code x code maxLocals ret :: tables_1) hat d (List.mem_cons_of_mem _ hd)
  have hfit : Fit s := fun {y c} hc i hi => by
    obtain ⟨ha, rfl⟩ := Array.getElem?_eq_some_iff.mp hc
    have q := List.all_eq_true.mp ((Array.all_eq_true_iff_forall_mem.mp hF) _ (Array.getElem_mem ha)) i (List.mem_range.mpr hi)
    simpa [Array.getElem?_eq_getElem hi] using q
  obtain ⟨i0, ei0⟩ := is_v gg3
  obtain rfl : w0 = (.int i0) := Option.some.inj ei0
  obtain ⟨i1, ei1⟩ := is_v gg5
  obtain rfl : w1 = (.int i1) := Option.some.inj ei1
  obtain ⟨i2, ei2⟩ := is_v gg7
  obtain rfl : w2 = (.int i2) := Option.some.inj ei2
  obtain ⟨i3, ei3⟩ := is_v gg8
  obtain rfl : w3 = (.int i3) := Option.some.inj ei3
  obtain ⟨n, o, h1, h2, h3, _, L, rfl, ⟨rfl, N⟩, hq⟩ := rm0 l s _ hw tables_1 i0 i1 i2 i3 s.heap s.heap.size (Nat.le_refl _)  p e ha hc hk s m _ below hf ((Spec.applies_iff_loose hf).mp happ).1 ⟨rfl, State.Warmed39.refl s, rfl⟩ trivial
  refine ⟨n, _, h1, h2, h3, hpost _ _ _ _ _ _ ⟨Cond.after_iff.mpr rfl, Cond.after_iff.mpr (eq_i res_at (Term.int_eval (1)) rfl), trivial⟩ ⟨hq.1, hq.2.1, (hq.2.2.sift fun y hy => Or.inr (N y hy)).mono (by decide) (by decide)⟩⟩
theorem main_1_1 : Claimed_1_1 := comes_1 fun _ _ _ _ _ _ h hF => ⟨h.1, hF⟩
theorem main_1_2 : Claimed_1_2 := comes_1 fun _ _ _ _ _ _ h hF => ⟨h.2.1, hF⟩
end Jvm.Pilot.@@N@@
namespace Jvm.Pilot.@@N@@
open Jvm Jvm.ClassFile Sem Op Lib Jvm.Free Jvm.Stand Jvm.Pilot.@@N@@.Jvm.D
/-! MADE BY PROGRAM (witnessworld.py) out of the Statement's table words and the real class files: 16 classes; the members and pool entries that the words name. The judged class is class 1, her method 1. -/
namespace start1
open Jvm.ClassFile
def u (s : String) : CpInfo := .utf8 (stringToUtf16 s)
/-- a pool by its gaps: so many unusable entries, then the entry; so many at the end -/
def gap : Nat → List CpInfo → List CpInfo
  | 0, r => r
  | n + 1, r => .unusable :: gap n r
def poolList (es : List (Nat × CpInfo)) (last : Nat) : List CpInfo := es.foldr (fun e r => gap e.1 (e.2 :: r)) (gap last [])
def pool (es : List (Nat × CpInfo)) (last : Nat) : Array CpInfo := ⟨poolList es last⟩
def fileOf (pool : Array CpInfo) (this : Nat) (attrs : Array Attribute := #[]) (ms : Array MethodInfo := #[]) (fl : Nat := 33) (sup : Nat := 0) (ifs : Array Nat := #[]) (fds : Array FieldInfo := #[]) : ClassFile where
  minorVersion := 0
  majorVersion := 65
  constantPool := pool
  accessFlags := fl
  thisClass := this
  superClass := sup
  interfaces := ifs
  fields := fds
  methods := ms
  attributes := attrs
def plain (name : String) (sup : Option ClassId) : Class where
  name := name
  kind := .ordinary
  loader := none
  accessFlags := 33
  super := sup
  interfaces := #[]
  cf := none
  fields := #[]
  methods := #[]
  instanceTypes := #[]
  staticTypes := #[]
  resolved := #[]
  callSites := []
  init := .initialized
  statics := none
  mirror := none

def pool0 : Array CpInfo := pool [(5, u "<init>"), (0, u "()V"), (1, .class_ 10), (1, u "java/lang/Object")] 113

def k0c0 : Code := { maxStack := 0, maxLocals := 1, code := object_method_1_code, exceptionTable := #[], attributes := #[] }
def k0m0 : Method := { name := "<init>", desc := "()V", sig := { parameters := [], returnType := none }, accessFlags := 1, code := some k0c0 }
/-- java/lang/Object -/
def k0 : Class := { plain "java/lang/Object" none with
  accessFlags := 33
  interfaces := #[]
  cf := some (fileOf pool0 8 #[] #[{ accessFlags := 1, nameIndex := 5, descriptorIndex := 6, attributes := #[] }] 33 0 #[] #[])
  fields := #[]
  methods := #[k0m0]
  instanceTypes := #[]
  staticTypes := #[]
  resolved := Array.replicate 124 none
  statics := none }

def pool1 : Array CpInfo := pool [(2, .class_ 4), (1, u "java/lang/Object"), (0, u "<init>"), (0, u "()V"), (0, .integer 2147483647), (0, .class_ 9), (0, u "com/example/antipode/antipode/problem/Interval"), (0, .methodref 8 11), (0, .nameAndType 5 12), (0, u "(DD)V"), (0, .double 4602678819172646912), (1, .methodref 8 16), (0, .nameAndType 17 18), (0, u "contains"), (0, u "(D)Z"), (0, .class_ 20), (0, u "com/example/antipode/antipode/problem/IntervalContainsPinLaw"), (2, u "law"), (0, u "(IIII)Z")] 3

def k1m0 : Method := { name := "<init>", desc := "()V", sig := { parameters := [], returnType := none }, accessFlags := 1, code := none }
def k1c1 : Code := { maxStack := 6, maxLocals := 18, code := code, exceptionTable := #[], attributes := #[] }
def k1m1 : Method := { name := "law", desc := "(IIII)Z", sig := { parameters := [.int, .int, .int, .int], returnType := some .boolean }, accessFlags := 9, code := some k1c1 }
/-- com/example/antipode/antipode/problem/IntervalContainsPinLaw -/
def k1 : Class := { plain "com/example/antipode/antipode/problem/IntervalContainsPinLaw" (some 0) with
  accessFlags := 49
  interfaces := #[]
  cf := some (fileOf pool1 19 #[] #[{ accessFlags := 1, nameIndex := 5, descriptorIndex := 6, attributes := #[] }, { accessFlags := 9, nameIndex := 23, descriptorIndex := 24, attributes := #[] }] 49 2 #[] #[])
  fields := #[]
  methods := #[k1m0, k1m1]
  instanceTypes := #[]
  staticTypes := #[]
  resolved := Array.replicate 28 none
  statics := none }

def pool2 : Array CpInfo := pool [(1, .methodref 2 3), (0, .class_ 4), (0, .nameAndType 5 6), (0, u "java/lang/Object"), (0, u "<init>"), (0, u "()V"), (0, .class_ 8), (0, u "java/lang/Record")] 13

def k2c0 : Code := { maxStack := 1, maxLocals := 1, code := jdk_30_method_1_code, exceptionTable := #[], attributes := #[] }
def k2m0 : Method := { name := "<init>", desc := "()V", sig := { parameters := [], returnType := none }, accessFlags := 4, code := some k2c0 }
/-- java/lang/Record -/
def k2 : Class := { plain "java/lang/Record" (some 0) with
  accessFlags := 1057
  interfaces := #[]
  cf := some (fileOf pool2 7 #[] #[{ accessFlags := 4, nameIndex := 5, descriptorIndex := 6, attributes := #[] }] 1057 2 #[] #[])
  fields := #[]
  methods := #[k2m0]
  instanceTypes := #[]
  staticTypes := #[]
  resolved := Array.replicate 22 none
  statics := none }

def pool3 : Array CpInfo := pool [(1, .methodref 2 3), (0, .class_ 4), (0, .nameAndType 5 6), (0, u "java/lang/Record"), (0, u "<init>"), (0, u "()V"), (0, .methodref 8 9), (0, .class_ 10), (0, .nameAndType 11 12), (0, u "java/lang/Double"), (0, u "isFinite"), (0, u "(D)Z"), (9, .fieldref 23 24), (0, .class_ 25), (0, .nameAndType 26 27), (0, u "com/example/antipode/antipode/problem/Interval"), (0, u "lower"), (0, u "D"), (0, .fieldref 23 29), (0, .nameAndType 30 27), (0, u "upper"), (34, u "(DD)V"), (4, u "contains")] 37

def k3c0 : Code := { maxStack := 6, maxLocals := 5, code := prog_16_method_1_code, exceptionTable := #[], attributes := #[] }
def k3m0 : Method := { name := "<init>", desc := "(DD)V", sig := { parameters := [.double, .double], returnType := none }, accessFlags := 1, code := some k3c0 }
def k3c1 : Code := { maxStack := 4, maxLocals := 3, code := prog_16_method_2_code, exceptionTable := #[], attributes := #[] }
def k3m1 : Method := { name := "contains", desc := "(D)Z", sig := { parameters := [.double], returnType := some .boolean }, accessFlags := 1, code := some k3c1 }
/-- com/example/antipode/antipode/problem/Interval -/
def k3 : Class := { plain "com/example/antipode/antipode/problem/Interval" (some 2) with
  accessFlags := 49
  interfaces := #[]
  cf := some (fileOf pool3 23 #[] #[{ accessFlags := 1, nameIndex := 5, descriptorIndex := 65, attributes := #[] }, { accessFlags := 1, nameIndex := 70, descriptorIndex := 12, attributes := #[] }] 49 2 #[] #[{ accessFlags := 18, nameIndex := 26, descriptorIndex := 27, attributes := #[] }, { accessFlags := 18, nameIndex := 30, descriptorIndex := 27, attributes := #[] }])
  fields := #[{ name := "lower", type := .double, accessFlags := 18, slot := 0, constantValue := 0 }, { name := "upper", type := .double, accessFlags := 18, slot := 1, constantValue := 0 }]
  methods := #[k3m0, k3m1]
  instanceTypes := #[.double, .double]
  staticTypes := #[]
  resolved := Array.replicate 108 none
  statics := none }

def pool4 : Array CpInfo := pool [(1, .class_ 2), (0, u "java/io/Serializable"), (0, .class_ 4), (0, u "java/lang/Object")] 2

/-- java/io/Serializable -/
def k4 : Class := { plain "java/io/Serializable" (some 0) with
  accessFlags := 1537
  interfaces := #[]
  cf := some (fileOf pool4 1 #[] #[] 1537 3 #[] #[])
  fields := #[]
  methods := #[]
  instanceTypes := #[]
  staticTypes := #[]
  resolved := Array.replicate 7 none
  statics := none }

def pool5 : Array CpInfo := pool [(2, .class_ 4), (1, u "java/lang/Object"), (0, u "<init>"), (0, u "()V"), (1, .class_ 10), (1, u "java/lang/Number"), (2, .class_ 14), (0, u "java/io/Serializable"), (0, u "serialVersionUID"), (0, u "J")] 20

def k5m0 : Method := { name := "<init>", desc := "()V", sig := { parameters := [], returnType := none }, accessFlags := 1, code := none }
/-- java/lang/Number -/
def k5 : Class := { plain "java/lang/Number" (some 0) with
  accessFlags := 1057
  interfaces := #[4]
  cf := some (fileOf pool5 8 #[] #[{ accessFlags := 1, nameIndex := 5, descriptorIndex := 6, attributes := #[] }] 1057 2 #[13] #[{ accessFlags := 26, nameIndex := 15, descriptorIndex := 16, attributes := #[] }])
  fields := #[{ name := "serialVersionUID", type := .long, accessFlags := 26, slot := 0, constantValue := 0 }]
  methods := #[k5m0]
  instanceTypes := #[]
  staticTypes := #[.long]
  resolved := Array.replicate 37 none
  statics := none }

def pool6 : Array CpInfo := pool [(1, .class_ 2), (0, u "java/lang/Comparable"), (0, .class_ 4), (0, u "java/lang/Object")] 7

/-- java/lang/Comparable -/
def k6 : Class := { plain "java/lang/Comparable" (some 0) with
  accessFlags := 1537
  interfaces := #[]
  cf := some (fileOf pool6 1 #[] #[] 1537 3 #[] #[])
  fields := #[]
  methods := #[]
  instanceTypes := #[]
  staticTypes := #[]
  resolved := Array.replicate 12 none
  statics := none }

def pool7 : Array CpInfo := pool [(1, .class_ 2), (0, u "java/lang/constant/Constable"), (0, .class_ 4), (0, u "java/lang/Object")] 6

/-- java/lang/constant/Constable -/
def k7 : Class := { plain "java/lang/constant/Constable" (some 0) with
  accessFlags := 1537
  interfaces := #[]
  cf := some (fileOf pool7 1 #[] #[] 1537 3 #[] #[])
  fields := #[]
  methods := #[]
  instanceTypes := #[]
  staticTypes := #[]
  resolved := Array.replicate 11 none
  statics := none }

def pool8 : Array CpInfo := pool [(1, .class_ 2), (0, u "java/lang/constant/ConstantDesc"), (0, .class_ 4), (0, u "java/lang/Object")] 32

/-- java/lang/constant/ConstantDesc -/
def k8 : Class := { plain "java/lang/constant/ConstantDesc" (some 0) with
  accessFlags := 1537
  interfaces := #[]
  cf := some (fileOf pool8 1 #[] #[] 1537 3 #[] #[])
  fields := #[]
  methods := #[]
  instanceTypes := #[]
  staticTypes := #[]
  resolved := Array.replicate 37 none
  statics := none }

def pool9 : Array CpInfo := pool [(1, .class_ 2), (0, u "java/lang/Double"), (10, u "isFinite"), (0, u "(D)Z"), (8, .class_ 25), (1, u "java/lang/Math"), (12, .methodref 23 39), (0, .nameAndType 40 41), (0, u "abs"), (0, u "(D)D"), (69, .double 9218868437227405311), (2, .class_ 116), (1, u "java/lang/Number"), (3, u "value"), (0, u "D"), (51, u "TYPE"), (0, u "Ljava/lang/Class;"), (0, .class_ 176), (0, u "java/lang/Comparable"), (0, .class_ 178), (0, u "java/lang/constant/Constable"), (0, .class_ 180), (0, u "java/lang/constant/ConstantDesc"), (0, u "POSITIVE_INFINITY"), (3, u "NEGATIVE_INFINITY"), (2, u "NaN"), (2, u "MAX_VALUE"), (0, u "MIN_NORMAL"), (0, u "MIN_VALUE"), (2, u "SIZE"), (0, u "I"), (1, u "PRECISION"), (1, u "MAX_EXPONENT"), (1, u "MIN_EXPONENT"), (1, u "BYTES"), (3, u "serialVersionUID"), (0, u "J")] 79

def k9c0 : Code := { maxStack := 4, maxLocals := 2, code := jdk_117_method_8_code, exceptionTable := #[], attributes := #[] }
def k9m0 : Method := { name := "isFinite", desc := "(D)Z", sig := { parameters := [.double], returnType := some .boolean }, accessFlags := 9, code := some k9c0 }
/-- java/lang/Double -/
def k9 : Class := { plain "java/lang/Double" (some 5) with
  accessFlags := 49
  interfaces := #[6, 7, 8]
  cf := some (fileOf pool9 1 #[] #[{ accessFlags := 9, nameIndex := 13, descriptorIndex := 14, attributes := #[] }] 49 114 #[175, 177, 179] #[{ accessFlags := 25, nameIndex := 181, descriptorIndex := 121, attributes := #[] }, { accessFlags := 25, nameIndex := 185, descriptorIndex := 121, attributes := #[] }, { accessFlags := 25, nameIndex := 188, descriptorIndex := 121, attributes := #[] }, { accessFlags := 25, nameIndex := 191, descriptorIndex := 121, attributes := #[] }, { accessFlags := 25, nameIndex := 192, descriptorIndex := 121, attributes := #[] }, { accessFlags := 25, nameIndex := 193, descriptorIndex := 121, attributes := #[] }, { accessFlags := 25, nameIndex := 196, descriptorIndex := 197, attributes := #[] }, { accessFlags := 25, nameIndex := 199, descriptorIndex := 197, attributes := #[] }, { accessFlags := 25, nameIndex := 201, descriptorIndex := 197, attributes := #[] }, { accessFlags := 25, nameIndex := 203, descriptorIndex := 197, attributes := #[] }, { accessFlags := 25, nameIndex := 205, descriptorIndex := 197, attributes := #[] }, { accessFlags := 25, nameIndex := 173, descriptorIndex := 174, attributes := #[] }, { accessFlags := 18, nameIndex := 120, descriptorIndex := 121, attributes := #[] }, { accessFlags := 26, nameIndex := 209, descriptorIndex := 210, attributes := #[] }])
  fields := #[{ name := "POSITIVE_INFINITY", type := .double, accessFlags := 25, slot := 0, constantValue := 0 }, { name := "NEGATIVE_INFINITY", type := .double, accessFlags := 25, slot := 1, constantValue := 0 }, { name := "NaN", type := .double, accessFlags := 25, slot := 2, constantValue := 0 }, { name := "MAX_VALUE", type := .double, accessFlags := 25, slot := 3, constantValue := 0 }, { name := "MIN_NORMAL", type := .double, accessFlags := 25, slot := 4, constantValue := 0 }, { name := "MIN_VALUE", type := .double, accessFlags := 25, slot := 5, constantValue := 0 }, { name := "SIZE", type := .int, accessFlags := 25, slot := 6, constantValue := 0 }, { name := "PRECISION", type := .int, accessFlags := 25, slot := 7, constantValue := 0 }, { name := "MAX_EXPONENT", type := .int, accessFlags := 25, slot := 8, constantValue := 0 }, { name := "MIN_EXPONENT", type := .int, accessFlags := 25, slot := 9, constantValue := 0 }, { name := "BYTES", type := .int, accessFlags := 25, slot := 10, constantValue := 0 }, { name := "TYPE", type := (.object "java/lang/Class"), accessFlags := 25, slot := 11, constantValue := 0 }, { name := "value", type := .double, accessFlags := 18, slot := 0, constantValue := 0 }, { name := "serialVersionUID", type := .long, accessFlags := 26, slot := 12, constantValue := 0 }]
  methods := #[k9m0]
  instanceTypes := #[.double]
  staticTypes := #[.double, .double, .double, .double, .double, .double, .int, .int, .int, .int, .int, (.object "java/lang/Class"), .long]
  resolved := Array.replicate 290 none
  statics := none }

def pool10 : Array CpInfo := pool [(1, .class_ 2), (0, u "java/lang/Math"), (1, .class_ 6), (1, u "java/lang/Object"), (0, u "<init>"), (0, u "()V"), (5, u "(D)D"), (83, .class_ 100), (1, u "java/lang/Math$RandomNumberGeneratorHolder"), (23, u "abs"), (47, u "negativeZeroFloatBits"), (0, u "J"), (2, u "negativeZeroDoubleBits"), (68, u "$assertionsDisabled"), (0, u "Z"), (91, u "twoToTheDoubleScaleDown"), (0, u "D"), (4, u "twoToTheDoubleScaleUp"), (9, u "E"), (3, u "PI"), (2, u "TAU"), (2, u "DEGREES_TO_RADIANS"), (0, u "RADIANS_TO_DEGREES")] 94

def k10m0 : Method := { name := "<init>", desc := "()V", sig := { parameters := [], returnType := none }, accessFlags := 2, code := none }
def k10c1 : Code := { maxStack := 4, maxLocals := 2, code := jdk_29_method_64_code, exceptionTable := #[], attributes := #[] }
def k10m1 : Method := { name := "abs", desc := "(D)D", sig := { parameters := [.double], returnType := some .double }, accessFlags := 9, code := some k10c1 }
/-- java/lang/Math -/
def k10 : Class := { plain "java/lang/Math" (some 0) with
  accessFlags := 49
  interfaces := #[]
  cf := some (fileOf pool10 1 #[.nestMembers #[98]] #[{ accessFlags := 2, nameIndex := 7, descriptorIndex := 8, attributes := #[] }, { accessFlags := 9, nameIndex := 124, descriptorIndex := 14, attributes := #[] }] 49 4 #[] #[{ accessFlags := 25, nameIndex := 354, descriptorIndex := 339, attributes := #[] }, { accessFlags := 25, nameIndex := 358, descriptorIndex := 339, attributes := #[] }, { accessFlags := 25, nameIndex := 361, descriptorIndex := 339, attributes := #[] }, { accessFlags := 26, nameIndex := 364, descriptorIndex := 339, attributes := #[] }, { accessFlags := 26, nameIndex := 365, descriptorIndex := 339, attributes := #[] }, { accessFlags := 26, nameIndex := 172, descriptorIndex := 173, attributes := #[] }, { accessFlags := 26, nameIndex := 176, descriptorIndex := 173, attributes := #[] }, { accessFlags := 8, nameIndex := 344, descriptorIndex := 339, attributes := #[] }, { accessFlags := 8, nameIndex := 338, descriptorIndex := 339, attributes := #[] }, { accessFlags := 4120, nameIndex := 245, descriptorIndex := 246, attributes := #[] }])
  fields := #[{ name := "E", type := .double, accessFlags := 25, slot := 0, constantValue := 0 }, { name := "PI", type := .double, accessFlags := 25, slot := 1, constantValue := 0 }, { name := "TAU", type := .double, accessFlags := 25, slot := 2, constantValue := 0 }, { name := "DEGREES_TO_RADIANS", type := .double, accessFlags := 26, slot := 3, constantValue := 0 }, { name := "RADIANS_TO_DEGREES", type := .double, accessFlags := 26, slot := 4, constantValue := 0 }, { name := "negativeZeroFloatBits", type := .long, accessFlags := 26, slot := 5, constantValue := 0 }, { name := "negativeZeroDoubleBits", type := .long, accessFlags := 26, slot := 6, constantValue := 0 }, { name := "twoToTheDoubleScaleUp", type := .double, accessFlags := 8, slot := 7, constantValue := 0 }, { name := "twoToTheDoubleScaleDown", type := .double, accessFlags := 8, slot := 8, constantValue := 0 }, { name := "$assertionsDisabled", type := .boolean, accessFlags := 4120, slot := 9, constantValue := 0 }]
  methods := #[k10m0, k10m1]
  instanceTypes := #[]
  staticTypes := #[.double, .double, .double, .double, .double, .long, .long, .double, .double, .boolean]
  resolved := Array.replicate 460 none
  statics := none }

def pool11 : Array CpInfo := pool [(1, u "java/lang/Cloneable"), (0, .class_ 1), (0, u "java/lang/Object"), (0, .class_ 3)] 3

/-- java/lang/Cloneable -/
def k11 : Class := { plain "java/lang/Cloneable" (some 0) with
  accessFlags := 1537
  interfaces := #[]
  cf := some (fileOf pool11 2 #[] #[] 1537 4 #[] #[])
  fields := #[]
  methods := #[]
  instanceTypes := #[]
  staticTypes := #[]
  resolved := Array.replicate 8 none
  statics := none }

/-- the primitive byte -/
def k12 : Class := { plain "byte" none with kind := .primitive 'B', accessFlags := 0x411 }
/-- [B -/
def k13 : Class := { plain "[B" (some 0) with kind := .array 12 .byte, interfaces := #[11, 4], accessFlags := 1041 }

/-- the primitive int -/
def k14 : Class := { plain "int" none with kind := .primitive 'I', accessFlags := 0x411 }
/-- [I -/
def k15 : Class := { plain "[I" (some 0) with kind := .array 14 .int, interfaces := #[11, 4], accessFlags := 1041 }

def heap : Heap := #[]
def classes : Array Class := #[k0, k1, k2, k3, k4, k5, k6, k7, k8, k9, k10, k11, k12, k13, k14, k15]
def interned : List (Array UInt16 × Addr) := []
def slotsUsed : Nat := 0
def theMethod : MethodId := ⟨1, 1⟩
def args0 : Array Value := #[.int 7, .int 77, .int 123, .int 5]
def aboutOver (below : List Frame) : State where
  vm := { classes := classes, interned := interned.toArray }
  heap := heap
  slotsUsed := slotsUsed
  threads := #[{ frames := .invoking theMethod args0 :: below }]
def below0 : List Frame := [.native { method := ⟨0, 0⟩, args := #[] }]
def about1 : State := aboutOver below0
def p0 : Program := .bare "" "" ""
def e0 : Env := launch0.env 0 0 0
theorem w_frames : about1.frames = Frame.invoking theMethod args0 :: below0 := rfl
set_option maxRecDepth 65536 in
theorem w_args : argsFit about1.vm theMethod args0 = true := by decide +kernel
set_option maxRecDepth 65536 in
theorem w_heap : heapFits about1 = true := by decide +kernel
set_option maxRecDepth 65536 in
theorem w_runnable : about1.curStatus? = some .runnable := by decide +kernel
set_option maxRecDepth 65536 in
theorem w_alone : about1.alone = true := by decide +kernel
set_option maxRecDepth 65536 in
theorem w_named : about1.methodNamed? x = some theMethod := by decide +kernel
set_option maxRecDepth 65536 in
theorem w_hears : about1.hears theMethod below0 = true := by decide +kernel
set_option maxRecDepth 65536 in
theorem w_ripe : about1.ripe theMethod args0 below0 = true := by decide +kernel
theorem w_running : about1.status = .running := rfl
set_option maxRecDepth 65536 in
theorem w_room : about1.hasRoom e0.platform room_1 = true :=
  launch0.hasRoom_least _ room_1 (by decide +kernel) (by decide +kernel) (by decide +kernel) (by decide +kernel) (by decide +kernel) (by decide +kernel)
theorem allAtoms_all (ts : List Jvm.Cond) (a : Array Jvm.Value) (st : Jvm.State) : (allAtoms ts).before a st = ts.all (fun c => c.before a st) := by
  induction ts with
  | nil => rfl
  | cons c t ih =>
    show (Jvm.Cond.and c (allAtoms t)).before a st = _
    rw [Jvm.Cond.before_and, ih, List.all_cons]
def words1 : List Jvm.Cond := Jvm.Cond.code x code maxLocals ret :: tables_1
/-- a 'code' word, met by the world's own term for the bytes: nothing is compared byte by byte -/
theorem code_word {y : MethodName} {bytes : ByteArray} {mx : Nat} {rt : Option FieldType} {a : Array Value} {s : State} {m : MethodId} {meth : Method} {c : Code} (h1 : s.methodNamed? y = some m) (h2 : s.vm.method? m = some meth) (h3 : meth.code = some c) (h4 : c.code = bytes)
    (h5 : (c.maxLocals == mx && c.exceptionTable.isEmpty && decide (c.maxStack ≤ mostOperands) && decide (meth.sig.returnType = rt) && !meth.locks && decide (parseMethodDescriptor y.desc = some meth.sig)) = true) : (Jvm.Cond.code y bytes mx rt).before a s = true := by
  simp only [Bool.and_eq_true, beq_iff_eq, Bool.not_eq_true', decide_eq_true_eq] at h5
  obtain ⟨⟨⟨⟨⟨g1, g2⟩, g3⟩, g4⟩, g5⟩, g6⟩ := h5
  simp [Cond.before, Cond.holds, Cond.value, h1, h2, h3, h4, g1, g2, g3, g4, g5, g6]
def isCode : Jvm.Cond → Bool
  | .code _ _ _ _ => true
  | _ => false
theorem all_split {L : List Jvm.Cond} {P : Jvm.Cond → Bool} (h1 : L.all (fun c => isCode c || P c) = true) (h2 : ∀ c ∈ L.filter isCode, P c = true) : L.all P = true := by
  refine List.all_eq_true.mpr fun c hc => ?_
  have h := List.all_eq_true.mp h1 c hc
  rcases Bool.eq_false_or_eq_true (isCode c) with hi | hi
  · exact h2 c (List.mem_filter.mpr ⟨hc, hi⟩)
  · simpa [hi] using h
set_option maxRecDepth 65536 in
theorem w_c0 : (Jvm.Cond.code x code maxLocals ret).before args0 about1 = true := code_word (m := ⟨1, 1⟩) (meth := k1m1) (c := k1c1) (by decide +kernel) rfl rfl rfl (by decide +kernel)
set_option maxRecDepth 65536 in
theorem w_c1 : (Jvm.Cond.code ({ cls := "com/example/antipode/antipode/problem/Interval", name := "<init>", desc := "(DD)V" } : Jvm.MethodName) prog_16_method_1_code (5 : Nat) (Option.none : Option Jvm.ClassFile.FieldType)).before args0 about1 = true := code_word (m := ⟨3, 0⟩) (meth := k3m0) (c := k3c0) (by decide +kernel) rfl rfl rfl (by decide +kernel)
set_option maxRecDepth 65536 in
theorem w_c2 : (Jvm.Cond.code ({ cls := "java/lang/Record", name := "<init>", desc := "()V" } : Jvm.MethodName) jdk_30_method_1_code (1 : Nat) (Option.none : Option Jvm.ClassFile.FieldType)).before args0 about1 = true := code_word (m := ⟨2, 0⟩) (meth := k2m0) (c := k2c0) (by decide +kernel) rfl rfl rfl (by decide +kernel)
set_option maxRecDepth 65536 in
theorem w_c3 : (Jvm.Cond.code ({ cls := "java/lang/Object", name := "<init>", desc := "()V" } : Jvm.MethodName) object_method_1_code (1 : Nat) (Option.none : Option Jvm.ClassFile.FieldType)).before args0 about1 = true := code_word (m := ⟨0, 0⟩) (meth := k0m0) (c := k0c0) (by decide +kernel) rfl rfl rfl (by decide +kernel)
set_option maxRecDepth 65536 in
theorem w_c4 : (Jvm.Cond.code ({ cls := "java/lang/Double", name := "isFinite", desc := "(D)Z" } : Jvm.MethodName) jdk_117_method_8_code (2 : Nat) (Option.some Jvm.ClassFile.FieldType.boolean)).before args0 about1 = true := code_word (m := ⟨9, 0⟩) (meth := k9m0) (c := k9c0) (by decide +kernel) rfl rfl rfl (by decide +kernel)
set_option maxRecDepth 65536 in
theorem w_c5 : (Jvm.Cond.code ({ cls := "java/lang/Math", name := "abs", desc := "(D)D" } : Jvm.MethodName) jdk_29_method_64_code (2 : Nat) (Option.some Jvm.ClassFile.FieldType.double)).before args0 about1 = true := code_word (m := ⟨10, 1⟩) (meth := k10m1) (c := k10c1) (by decide +kernel) rfl rfl rfl (by decide +kernel)
set_option maxRecDepth 65536 in
theorem w_c6 : (Jvm.Cond.code ({ cls := "com/example/antipode/antipode/problem/Interval", name := "contains", desc := "(D)Z" } : Jvm.MethodName) prog_16_method_2_code (3 : Nat) (Option.some Jvm.ClassFile.FieldType.boolean)).before args0 about1 = true := code_word (m := ⟨3, 1⟩) (meth := k3m1) (c := k3c1) (by decide +kernel) rfl rfl rfl (by decide +kernel)
def codes1 : List Jvm.Cond := [Jvm.Cond.code x code maxLocals ret, Jvm.Cond.code ({ cls := "com/example/antipode/antipode/problem/Interval", name := "<init>", desc := "(DD)V" } : Jvm.MethodName) prog_16_method_1_code (5 : Nat) (Option.none : Option Jvm.ClassFile.FieldType), Jvm.Cond.code ({ cls := "java/lang/Record", name := "<init>", desc := "()V" } : Jvm.MethodName) jdk_30_method_1_code (1 : Nat) (Option.none : Option Jvm.ClassFile.FieldType), Jvm.Cond.code ({ cls := "java/lang/Object", name := "<init>", desc := "()V" } : Jvm.MethodName) object_method_1_code (1 : Nat) (Option.none : Option Jvm.ClassFile.FieldType), Jvm.Cond.code ({ cls := "java/lang/Double", name := "isFinite", desc := "(D)Z" } : Jvm.MethodName) jdk_117_method_8_code (2 : Nat) (Option.some Jvm.ClassFile.FieldType.boolean), Jvm.Cond.code ({ cls := "java/lang/Math", name := "abs", desc := "(D)D" } : Jvm.MethodName) jdk_29_method_64_code (2 : Nat) (Option.some Jvm.ClassFile.FieldType.double), Jvm.Cond.code ({ cls := "com/example/antipode/antipode/problem/Interval", name := "contains", desc := "(D)Z" } : Jvm.MethodName) prog_16_method_2_code (3 : Nat) (Option.some Jvm.ClassFile.FieldType.boolean)]
set_option maxRecDepth 65536 in
theorem codes_eq : words1.filter isCode = codes1 := rfl
theorem w_codes : ∀ c ∈ words1.filter isCode, c.before args0 about1 = true := by
  rw [codes_eq]
  intro c hc
  simp only [codes1, List.mem_cons, List.not_mem_nil, or_false] at hc
  rcases hc with rfl | rfl | rfl | rfl | rfl | rfl | rfl
  · exact w_c0
  · exact w_c1
  · exact w_c2
  · exact w_c3
  · exact w_c4
  · exact w_c5
  · exact w_c6
set_option maxRecDepth 65536 in
theorem w_t1 : (words1.take 24).all (fun c => isCode c || c.before args0 about1) = true := by decide +kernel
set_option maxRecDepth 65536 in
theorem w_t2 : (words1.drop 24).all (fun c => isCode c || c.before args0 about1) = true := by decide +kernel
theorem w_tables : (allAtoms (Jvm.Cond.code x code maxLocals ret :: tables_1)).before args0 about1 = true := by
  rw [allAtoms_all]
  show words1.all (fun c => c.before args0 about1) = true
  refine all_split ?_ w_codes
  rw [← List.take_append_drop 24 words1, List.all_append, w_t1, w_t2]
  rfl
set_option maxRecDepth 65536 in
theorem w_case : (Jvm.Cond.and given_1 narrow_1).before args0 about1 = true := by decide +kernel
theorem w_applies : (headSpec (Jvm.Cond.code x code maxLocals ret :: tables_1) room_1).applies x e0.platform about1 = true :=
  (Spec.applies_iff w_frames).mpr ⟨w_running, w_runnable, w_alone, w_named, w_hears, w_ripe, w_room, w_tables⟩
theorem atStart : AtStart classFile x code maxLocals ret World_1 tables_1 room_1 Calls_1 rest_1 Pre_1 launch0 p0 e0 about1 theMethod args0 below0 :=
  ⟨lists_1, trivial, launch0.admits_env _ _ _, launch0.least_env, fairChoices_fair.cas, fairChoices_fair.clock, w_frames, w_args, w_heap, w_applies, trivial, trivial, w_case⟩
end start1
theorem witness_1 : WitnessClaimed_1 := ⟨start1.p0, start1.e0, start1.about1, start1.theMethod, start1.args0, start1.below0, start1.atStart⟩
end Jvm.Pilot.@@N@@
