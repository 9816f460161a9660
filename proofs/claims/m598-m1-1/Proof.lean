import JvmDerived
import JvmDerived.Pilot.@@N@@Statement
import JvmDerived.Pilot.@@N@@Code
set_option linter.unusedVariables false
set_option linter.unusedSimpArgs false
namespace Jvm.Pilot.@@N@@
open Jvm Jvm.ClassFile Sem Op Lib Jvm.Free Jvm.Stand Jvm.LawKit Jvm.RoadKit Bundle Jvm.Pilot.@@N@@.Jvm.D
/-! own: the walk's goal, read backwards -/
def Go (tb : Tables) (e : Env) (below : List Frame) (F : State → Outcome → Prop) (A : State) : Prop := ∃ t o, Steps tb e below A t ∧ F t o
def Fin (below : List Frame) (s : State) (Q : Option Value → Heap → List Loc → Prop) (k n : Nat) (t : State) (o : Outcome) : Prop := t.status = .running ∧ Ended t below o ∧ ∃ v L, o = .returned v ∧ Q v t.heap L ∧ FrameEnd s o t L k n
theorem go {tb : Tables} {e : Env} {below : List Frame} {F : State → Outcome → Prop} {A B : State} (st : ∀ t, Steps tb e below B t → Steps tb e below A t) (h : Go tb e below F B) : Go tb e below F A := by
  obtain ⟨t, o, h1, h2⟩ := h
  exact ⟨t, o, st t h1, h2⟩
theorem go_in {p : Program} {e : Env} {below : List Frame} {s s₁ : State} {Q : Option Value → Heap → List Loc → Prop} {k n : Nat} {A : State} (h : ∀ F : State → Outcome → Prop, (∀ t o, Fin below s Q k n t o → F t o) → Go p.tables e below F A) :
    ∃ t o, Steps p.tables e below A t ∧ t.status = .running ∧ Ended t below o ∧ ∃ v L, o = .returned v ∧ Q v t.heap L ∧ FrameEnd s o t L k n := by
  obtain ⟨t, o, h1, h2, h3, h4⟩ := h (Fin below s Q k n) (fun _ _ h => h)
  exact ⟨t, o, h1, h2, h3, h4⟩
theorem own_fld {s : State} {args : Array Value} {t : Term} {C n d : String} {a : Addr} {k : Int32} (ev : t.eval args s none [] s = some (.ref a)) (h : (Cond.eq (.field t C n d) (.int k)).value args s none s [] = some true) : Fld s s.heap a C n d (.int k) := Fld.start ((fld_at ev).symm.trans (eqv_i (Term.int_eval k) h))
def NSt (h : Heap) (x : Addr) : Prop := ∃ c : Cell, h[x]? = some c ∧ c.vm.isStatics = false
theorem own_sta_keep {Z : State} {h h' : Heap} {C n d : String} {v : Value} {ws : List Addr} (F : Sta Z h C n d v) (K : Keep h h' ws) (q : ∀ x ∈ ws, NSt h x) : Sta Z h' C n d v := by
  obtain ⟨cf, i, k, f, st, cell, h1, h2, h3, h4, h5, h6, h7⟩ := F
  refine ⟨cf, i, k, f, st, cell, h1, h2, h3, h4, K.2.1 _ _ h5 (fun z => ?_), h6, h7⟩
  obtain ⟨c, g1, g2⟩ := q _ z
  cases h5.symm.trans g1
  rw [h6] at g2; cases g2
end Jvm.Pilot.@@N@@
namespace Jvm.RoadKit
theorem Exa.ns {Z : State} {h : Heap} {a : Addr} {C : String} (F : Exa Z h a C) : Jvm.Pilot.@@N@@.NSt h a := by
  obtain ⟨c, _, h1, -, -, h4, -⟩ := F; exact ⟨c, h1, h4⟩
theorem Arv.ns {Z : State} {h : Heap} {a : Addr} {k : ClassId} {ty : ClassFile.FieldType} {z : Int32} {vs : List Value} {dv : Value} (F : Arv Z h a k ty z vs dv) : Jvm.Pilot.@@N@@.NSt h a := by
  obtain ⟨c, A, -⟩ := F; exact ⟨c, A.1, A.plain⟩
end Jvm.RoadKit
namespace Jvm.Pilot.@@N@@
open Jvm Jvm.ClassFile Sem Op Lib Jvm.Free Jvm.Stand Jvm.LawKit Jvm.RoadKit Bundle Jvm.Pilot.@@N@@.Jvm.D
theorem own_no {Z : State} {aw : Array Value} {X Y : String} {t : List String} {n : Nat} (hwc : ∀ w ∈ Cond.chainWords (X :: t), w.before aw Z = true) (wi : (Cond.instantiable Y n).before aw Z = true) (hn : Y ∉ X :: t) : ∃ c t, Z.vm.findClass X = some c ∧ Z.vm.findClass Y = some t ∧ Z.vm.assignable c t = false := by
  obtain ⟨cy, ky, hy1, hy2, hy3, hy4, -⟩ := Cond.instantiable_spec wi
  obtain ⟨cx, k, hx, -⟩ := Cond.chain_head hwc
  exact ⟨cx, cy, hx, hy1, Vm.notAssignable_of_chain hx hy1 hy2 hy3 (Bool.or_eq_false_iff.mp hy4).1 hwc hn⟩
theorem own_selp {Z s : State} {aw args : Array Value} {y : MethodName} {n : Nat} (hZ : Z.Warmed39 s.vm) (wi : (Cond.instantiable y.cls n).before aw Z = true) (wp : (Cond.privateMethod y).before aw Z = true) (wm : (Cond.instanceMethod y).before aw Z = true) (hy : y.cls ≠ "java/lang/invoke/MethodHandle" ∧ y.cls ≠ "java/lang/invoke/VarHandle") : (Cond.selects y.cls y y).before args s = true := by
  obtain ⟨c, k, h1, h2, -, h4, -⟩ := Cond.instantiable_spec (mvT (args := args) hZ wi)
  exact selects_self_of_private h1 h2 (Bool.or_eq_false_iff.mp h4).1 (Cond.privateMethod_at (mvP hZ wp (args := args))) (mvT hZ wm) hy
section Ends
variable {p : Program} {l : Launch} {e : Env} {R : Room} {s : State} {m : MethodId} {args : Array Value} {below : List Frame} {meth : Method} {c : Code} {T : State} {locs : List Loc} {cells slots : Nat} {F : State → Outcome → Prop} {Q : Option Value → Heap → List Loc → Prop} {k n : Nat} {pc : Nat} {Ls : Array Slot} {rest : List Value} {h : Heap}
/-- the end of a walk: what is returned, what the heap says -/
theorem go_end (X : Stand p l e R s m args below meth c T locs cells slots) (hlk : meth.locks = false) (hF : ∀ t o, Fin below s Q k n t o → F t o) (eT : T.heap = h) (hk : cells ≤ k) (hn : slots ≤ n) {v : Option Value} (hv : meth.sig.returnType = none → v = none) (hQ : Q v h locs) {A : State}
    (hs : ∀ fs, (∀ (f : JFrame) (acts : List Action), f.method = m → f.locked = none → f.entered = [] → (doReturn e (T.setTop f) acts v).1 = T.setFrames fs) → Steps p.tables e below A (T.setFrames fs)) : Go p.tables e below F A := by
  obtain ⟨fs, hr, hrun, hended, hW, hsame⟩ := X.leave (v := v) hv hlk
  subst eT
  exact ⟨_, _, hs fs hr, hF _ _ ⟨hrun, hended, _, _, rfl, hQ, ⟨_, rfl⟩, hW, hsame.mono hk hn⟩⟩
theorem end_void (X : Stand p l e R s m args below meth c T locs cells slots) (hx : p.tables.exec = Jvm.exec) (hlk : meth.locks = false) (hret : meth.sig.returnType = none) (hd : decode c.code pc = .ok (.return_, 1)) (hF : ∀ t o, Fin below s Q k n t o → F t o) (eT : T.heap = h) (hk : cells ≤ k) (hn : slots ≤ n) (hQ : Q none h locs) : Go p.tables e below F (T.setTop (mkF m pc Ls [])) :=
  go_end X hlk hF eT hk hn (fun _ => rfl) hQ fun fs hr => X.returnOut hx hret hd hr
theorem end_nar {z : Int32} {t : FieldType} (X : Stand p l e R s m args below meth c T locs cells slots) (hx : p.tables.exec = Jvm.exec) (hlk : meth.locks = false) (hret : meth.sig.returnType = some t) (ht : t = .boolean ∨ t = .byte ∨ t = .char ∨ t = .short) (hd : decode c.code pc = .ok (.ireturn, 1)) (hF : ∀ t o, Fin below s Q k n t o → F t o) (eT : T.heap = h) (hk : cells ≤ k) (hn : slots ≤ n) (hQ : Q (some (.int (nar t z))) h locs) : Go p.tables e below F (T.setTop (mkF m pc Ls (.int z :: rest))) :=
  go_end X hlk hF eT hk hn (fun h => by rw [hret] at h; cases h) hQ fun fs hr => retN X hx hret ht hd hr
theorem end_int {z : Int32} (X : Stand p l e R s m args below meth c T locs cells slots) (hx : p.tables.exec = Jvm.exec) (hlk : meth.locks = false) (hret : meth.sig.returnType = some .int) (hd : decode c.code pc = .ok (.ireturn, 1)) (hF : ∀ t o, Fin below s Q k n t o → F t o) (eT : T.heap = h) (hk : cells ≤ k) (hn : slots ≤ n) (hQ : Q (some (.int z)) h locs) : Go p.tables e below F (T.setTop (mkF m pc Ls (.int z :: rest))) :=
  go_end X hlk hF eT hk hn (fun h => by rw [hret] at h; cases h) hQ fun fs hr => retOut X hx hret rfl (Or.inl ⟨rfl, Or.inl rfl, _, rfl⟩) hd hr
theorem end_long {z : Int64} (X : Stand p l e R s m args below meth c T locs cells slots) (hx : p.tables.exec = Jvm.exec) (hlk : meth.locks = false) (hret : meth.sig.returnType = some .long) (hd : decode c.code pc = .ok (.lreturn, 1)) (hF : ∀ t o, Fin below s Q k n t o → F t o) (eT : T.heap = h) (hk : cells ≤ k) (hn : slots ≤ n) (hQ : Q (some (.long z)) h locs) : Go p.tables e below F (T.setTop (mkF m pc Ls (.long z :: rest))) :=
  go_end X hlk hF eT hk hn (fun h => by rw [hret] at h; cases h) hQ fun fs hr => retOut X hx hret rfl (Or.inr (Or.inl ⟨rfl, rfl, _, rfl⟩)) hd hr
theorem end_ref {w : Value} {t : FieldType} (X : Stand p l e R s m args below meth c T locs cells slots) (hx : p.tables.exec = Jvm.exec) (hlk : meth.locks = false) (hret : meth.sig.returnType = some t) (ht : t.isReference = true) (hw : w.isRef = true) (hnr : narrow t w = w) (hd : decode c.code pc = .ok (.areturn, 1)) (hF : ∀ t o, Fin below s Q k n t o → F t o) (eT : T.heap = h) (hk : cells ≤ k) (hn : slots ≤ n) (hQ : Q (some w) h locs) : Go p.tables e below F (T.setTop (mkF m pc Ls (w :: rest))) :=
  go_end X hlk hF eT hk hn (fun h => by rw [hret] at h; cases h) hQ fun fs hr => retOut X hx hret hnr (Or.inr (Or.inr (Or.inr (Or.inr ⟨rfl, ht, hw⟩)))) hd hr
end Ends
/-! own: an array of ints (or of booleans ..) by the list of its elements -/
def Arl (Z : State) (h : Heap) (a : Addr) (ty : FieldType) (L : List Int32) : Prop := ∃ c : Cell, Arr Z h a c ty ∧ c.slots.size = L.length ∧ L.length < 2 ^ 31 ∧ ∀ i, i < L.length → c.slots[i]? = some (.int (L.getD i 0))
section Arl
variable {Z : State} {h h' : Heap} {a b : Addr} {ty : FieldType} {L : List Int32} {sl : Nat} {v : Value} {ws : List Addr}
theorem Arl.lt (F : Arl Z h a ty L) : a < h.size := by obtain ⟨c, A, -⟩ := F; exact A.lt
theorem Arl.ext (F : Arl Z h a ty L) (E : Ext h h') : Arl Z h' a ty L := by obtain ⟨c, A, r⟩ := F; exact ⟨c, A.ext E, r⟩
theorem Arl.other (F : Arl Z h b ty L) (W : Wr h h' a sl v) (q : b ≠ a) : Arl Z h' b ty L := by obtain ⟨c, A, r⟩ := F; exact ⟨c, A.other W q, r⟩
theorem Arl.keep (F : Arl Z h a ty L) (K : Keep h h' ws) (q : a ∉ ws) : Arl Z h' a ty L := by obtain ⟨c, A, r⟩ := F; exact ⟨c, ⟨K.2.1 a c A.1 q, A.2⟩, r⟩
theorem Arl.ns (F : Arl Z h a ty L) : NSt h a := by obtain ⟨c, A, -⟩ := F; exact ⟨c, A.1, A.plain⟩
theorem Arl.in {j : Int32} (F : Arl Z h a ty L) (h0 : ¬ j < 0) (h1 : j.toNatClampNeg < L.length) : ∃ c : Cell, Arr Z h a c ty ∧ ¬ (j < 0 ∨ c.slots.size ≤ j.toNatClampNeg) ∧ c.slots[j.toNatClampNeg]? = some (.int (L.getD j.toNatClampNeg 0)) ∧
    ∀ {h' : Heap} {x : Int32}, Wr h h' a j.toNatClampNeg (.int x) → Arl Z h' a ty (L.set j.toNatClampNeg x) := by
  obtain ⟨c, A, S, N, H⟩ := F
  refine ⟨c, A, fun q => q.elim h0 (fun q => by omega), H _ h1, fun {h' x} W => ⟨_, A.same W, by rw [sz_set, List.length_set]; exact S, by rw [List.length_set]; exact N, fun i hi => ?_⟩⟩
  rw [List.length_set] at hi
  simp only [Cell.setSlot, List.getD_eq_getElem?_getD]
  by_cases u : j.toNatClampNeg = i
  · subst u
    rw [Array.getElem?_setIfInBounds_self_of_lt (by omega), List.getElem?_set_self h1, Option.getD_some]
  · rw [Array.getElem?_setIfInBounds_ne u, List.getElem?_set_ne u]
    have := H i hi
    simp only [List.getD_eq_getElem?_getD] at this
    exact this
theorem Arl.len (F : Arl Z h a ty L) : ∃ c : Cell, Arr Z h a c ty ∧ c.slots.size.toInt32 = Int32.ofNat L.length := by
  obtain ⟨c, A, S, -⟩ := F
  exact ⟨c, A, by rw [S]⟩
theorem Arl.of_new {k : ClassId} {n : Int32} {m : Nat} (A : Arr Z h a (newA k ty n) ty) (q : ¬ n < 0) (e : n.toNatClampNeg = m) (d : defaultValue ty = .int 0) (hm : m < 2 ^ 31) : Arl Z h a ty (List.replicate m 0) := by
  obtain ⟨c, A', -, S, -, H, -⟩ := Arv.new A q
  refine ⟨c, A', by rw [S, e, List.length_replicate], by rw [List.length_replicate]; exact hm, fun i hi => ?_⟩
  rw [List.length_replicate] at hi
  have := H i (by rw [S, e]; exact hi)
  rw [this, d]
  simp [List.getD_eq_getElem?_getD, hi]
theorem own_lit {j : Int32} {n : Nat} (h1 : j.toNatClampNeg < n) (e : L.length = n) : j.toNatClampNeg < L.length := by rw [e]; exact h1
end Arl

def own_nd (p : Int32) : Prop := ¬ p < 0 ∧ p.toNatClampNeg < 4
def own_at (G : List Int32) (i : Nat) : Int := (G.getD i 0).toInt
def own_G (G : List Int32) (nb : Int32) : Prop := G.length = 4 ∧ 0 ≤ nb.toInt ∧ nb.toInt ≤ 15 ∧ ∀ i, i < 4 → -1 ≤ own_at G i ∧ own_at G i < nb.toInt
def own_I (I : List Int32) (k : Int32) : Prop := I.length = 17 ∧ 0 ≤ k.toInt ∧ k.toInt ≤ 100 ∧ ∀ b, b < 17 → own_at I b ≤ k.toInt
def own_J (I C : List Int32) (k nb : Int32) : Prop := I.length = 17 ∧ C.length = 17 ∧ ∀ b, b < 17 → own_at I b ≤ k.toInt ∧ (I.getD b 0 = k → 0 ≤ own_at C b ∧ own_at C b < nb.toInt)
theorem own_getset (G : List Int32) (i j : Nat) (v : Int32) : (G.set i v).getD j 0 = if i = j ∧ j < G.length then v else G.getD j 0 := by
  simp only [List.getD_eq_getElem?_getD, List.getElem?_set]
  by_cases h : i = j
  · subst h
    by_cases h2 : i < G.length
    · simp [h2]
    · simp [h2, List.getElem?_eq_none (Nat.le_of_not_lt h2)]
  · simp [h]
theorem own_nn {j : Int32} (h : 0 ≤ j.toInt) : ¬ j < 0 := by rw [Int32.lt_iff_toInt_lt]; show ¬ j.toInt < 0; omega
theorem own_cl {j : Int32} {n : Nat} (h : j.toInt < n) (h0 : 0 ≤ j.toInt) : j.toNatClampNeg < n := by simp only [Int32.toNatClampNeg]; omega
theorem own_nlt {j : Int32} (h : ¬ j < 0) : 0 ≤ j.toInt := by rw [Int32.lt_iff_toInt_lt] at h; have : (0 : Int32).toInt = 0 := rfl; omega
theorem own_inc {x : Int32} (h : x.toInt < 1000) (h0 : -1000 ≤ x.toInt) : (x + 1).toInt = x.toInt + 1 := by
  rw [Int32.toInt_add]; exact Int.bmod_eq_of_le (by show _ ≤ x.toInt + 1; omega) (by show x.toInt + 1 < _; omega)
/-- leave: the group of a node that waits is a place of sizes -/
theorem own_gb {G : List Int32} {nb p : Int32} (hG : own_G G nb) (hn : own_nd p) (h : ¬ G.getD p.toNatClampNeg 0 < 0) : (G.getD p.toNatClampNeg 0).toNatClampNeg < 16 := by
  obtain ⟨h1, h2, h3, h4⟩ := hG
  have := h4 _ hn.2
  exact own_cl (by have := this.2; unfold own_at at this; omega) (own_nlt h)
theorem own_neg {G : List Int32} {nb p : Int32} (hG : own_G G nb) (hn : own_nd p) (h : G.getD p.toNatClampNeg 0 < 0) : G.set p.toNatClampNeg (-1) = G := by
  obtain ⟨h1, h2, h3, h4⟩ := hG
  have h5 := (h4 _ hn.2).1
  have e : G.getD p.toNatClampNeg 0 = -1 := by
    rw [← Int32.toInt_inj]
    rw [Int32.lt_iff_toInt_lt] at h
    unfold own_at at h5
    have : (0 : Int32).toInt = 0 := rfl
    have : (-1 : Int32).toInt = -1 := rfl
    omega
  apply List.ext_getElem? 
  intro i
  rw [List.getElem?_set]
  split
  · rename_i q
    subst q
    rw [List.getD_eq_getElem?_getD] at e
    have hl : p.toNatClampNeg < G.length := by rw [h1]; exact hn.2
    rw [List.getElem?_eq_getElem hl] at e ⊢
    simp only [Option.getD_some] at e
    simp [hl, e]
  · rfl
theorem own_Gset {G : List Int32} {nb p v : Int32} (hG : own_G G nb) (h0 : -1 ≤ v.toInt) (h1 : v.toInt < nb.toInt) : own_G (G.set p.toNatClampNeg v) nb := by
  obtain ⟨g1, g2, g3, g4⟩ := hG
  refine ⟨by rw [List.length_set]; exact g1, g2, g3, fun i hi => ?_⟩
  unfold own_at
  rw [own_getset]
  split
  · exact ⟨h0, h1⟩
  · exact g4 i hi
theorem own_Gneg {G : List Int32} {nb p : Int32} (hG : own_G G nb) : own_G (G.set p.toNatClampNeg (-1)) nb := own_Gset hG (by decide) (by obtain ⟨_, h, _⟩ := hG; show (-1 : Int) < _; omega)
theorem own_Gup {G : List Int32} {nb nb' : Int32} (hG : own_G G nb) (h : nb.toInt ≤ nb'.toInt) (h' : nb'.toInt ≤ 15) : own_G G nb' := by
  obtain ⟨g1, g2, g3, g4⟩ := hG
  exact ⟨g1, by omega, h', fun i hi => ⟨(g4 i hi).1, by have := (g4 i hi).2; omega⟩⟩
/-- 'before' is a place of seenIn -/
theorem own_bf {G : List Int32} {nb p : Int32} (hG : own_G G nb) (hn : own_nd p) : ¬ (G.getD p.toNatClampNeg 0 + 1) < 0 ∧ (G.getD p.toNatClampNeg 0 + 1).toNatClampNeg < 17 := by
  obtain ⟨h1, h2, h3, h4⟩ := hG
  have h5 := h4 _ hn.2
  unfold own_at at h5
  have e := own_inc (x := G.getD p.toNatClampNeg 0) (by omega) (by omega)
  exact ⟨own_nn (by omega), own_cl (by omega) (by omega)⟩
theorem own_Jstart {I C : List Int32} {k nb : Int32} (h : own_I I k) (hk : k.toInt < 100) (hC : C.length = 17) : own_J I C (k + 1) nb := by
  obtain ⟨h1, h2, h3, h4⟩ := h
  have e := own_inc (x := k) (by omega) (by omega)
  refine ⟨h1, hC, fun b hb => ⟨by have := h4 b hb; omega, fun q => ?_⟩⟩
  have := h4 b hb
  unfold own_at at this
  rw [q] at this
  omega
theorem own_Jend {I C : List Int32} {k nb : Int32} (h : own_J I C k nb) (h0 : 0 ≤ k.toInt) (hk : k.toInt ≤ 100) : own_I I k := ⟨h.1, h0, hk, fun b hb => (h.2.2 b hb).1⟩
/-- the new group's number is laid down -/
theorem own_Jnew {I C : List Int32} {k nb : Int32} {b : Nat} (h : own_J I C k nb) (hb : b < 17) (h0 : 0 ≤ nb.toInt) (h1 : nb.toInt ≤ 100) : own_J (I.set b k) (C.set b nb) k (nb + 1) := by
  obtain ⟨j1, j2, j3⟩ := h
  have e := own_inc (x := nb) (by omega) (by omega)
  refine ⟨by rw [List.length_set]; exact j1, by rw [List.length_set]; exact j2, fun i hi => ?_⟩
  unfold own_at
  rw [own_getset, own_getset]
  by_cases q : b = i
  · subst q
    rw [if_pos ⟨rfl, by omega⟩, if_pos ⟨rfl, by omega⟩]
    exact ⟨Int.le_refl _, fun _ => ⟨h0, by omega⟩⟩
  · rw [if_neg (fun z => q z.1), if_neg (fun z => q z.1)]
    refine ⟨(j3 i hi).1, fun z => ?_⟩
    have := (j3 i hi).2 z
    unfold own_at at this
    omega
theorem own_Jget {I C : List Int32} {k nb : Int32} {b : Nat} (h : own_J I C k nb) (hb : b < 17) (q : I.getD b 0 = k) : 0 ≤ (C.getD b 0).toInt ∧ (C.getD b 0).toInt < nb.toInt := (h.2.2 b hb).2 q
/-- what take does to the signs -/
def own_in (Ch : List Int32) (i : Nat) : Prop := ∃ c ∈ Ch, c.toNatClampNeg = i
def own_rel (G : List Int32) (p : Int32) (Ch G' : List Int32) : Prop := ∀ i, i < 4 → (0 ≤ own_at G' i ↔ own_in Ch i ∨ (p.toNatClampNeg ≠ i ∧ 0 ≤ own_at G i))
theorem own_rel0 {G : List Int32} {p : Int32} (hl : G.length = 4) (hp : own_nd p) : own_rel G p [] (G.set p.toNatClampNeg (-1)) := by
  intro i hi
  unfold own_at own_in
  rw [own_getset]
  by_cases q : p.toNatClampNeg = i
  · rw [if_pos ⟨q, by omega⟩]
    constructor
    · intro h; exact absurd h (by decide)
    · rintro (⟨c, hc, _⟩ | ⟨h, _⟩)
      · cases hc
      · exact absurd q h
  · rw [if_neg (fun z => q z.1)]
    constructor
    · intro h; exact Or.inr ⟨q, h⟩
    · rintro (⟨c, hc, _⟩ | ⟨_, h⟩)
      · cases hc
      · exact h
theorem own_relS {G : List Int32} {p : Int32} {Ch G1 : List Int32} {c g : Int32} (h : own_rel G p Ch G1) (hl : G1.length = 4) (hc : own_nd c) (hg : 0 ≤ g.toInt) : own_rel G p (Ch ++ [c]) ((G1.set c.toNatClampNeg (-1)).set c.toNatClampNeg g) := by
  intro i hi
  have h' := h i hi
  unfold own_at at h' ⊢
  rw [own_getset, own_getset, List.length_set]
  by_cases q : c.toNatClampNeg = i
  · rw [if_pos ⟨q, by omega⟩]
    exact ⟨fun _ => Or.inl ⟨c, by simp, q⟩, fun _ => hg⟩
  · rw [if_neg (fun z => q z.1), if_neg (fun z => q z.1), h']
    constructor
    · rintro (⟨d, hd, e⟩ | r)
      · exact Or.inl ⟨d, by simp [hd], e⟩
      · exact Or.inr r
    · rintro (⟨d, hd, e⟩ | r)
      · rcases List.mem_append.mp hd with hd | hd
        · exact Or.inl ⟨d, hd, e⟩
        · cases List.mem_singleton.mp hd; exact absurd e q
      · exact Or.inr r
theorem own_list0 {L : List Int32} (h : L.length = 0) : L = [] := List.eq_nil_of_length_eq_zero h
theorem own_list1 {L : List Int32} (h : L.length = 1) : L = [] ++ [L.getD 0 0] := by
  match L, h with
  | [a], _ => rfl
theorem own_list2 {L : List Int32} (h : L.length = 2) : L = ([] ++ [L.getD 0 0]) ++ [L.getD 1 0] := by
  match L, h with
  | [a, b], _ => rfl
def own_R (R G : List Int32) : Prop := R.length = 4 ∧ ∀ i, i < 4 → R.getD i 0 = if 0 ≤ own_at G i then 1 else 0
theorem own_ge1 {n : Int32} (h : ¬ n < 1) : 0 < n.toNatClampNeg := by
  rw [Int32.lt_iff_toInt_lt] at h; have : (1 : Int32).toInt = 1 := rfl; simp only [Int32.toNatClampNeg]; omega
theorem own_ge2 {n : Int32} (h : ¬ n < 2) : 1 < n.toNatClampNeg := by
  rw [Int32.lt_iff_toInt_lt] at h; have : (2 : Int32).toInt = 2 := rfl; simp only [Int32.toNatClampNeg]; omega
theorem own_a3 (x : Int32) : 0 ≤ (x &&& 3).toInt ∧ (x &&& 3).toInt < 4 := by
  have h : (x &&& 3).toBitVec.toNat < 4 := by
    rw [Int32.toBitVec_and, BitVec.toNat_and]
    exact Nat.lt_of_le_of_lt Nat.and_le_right (by decide)
  show 0 ≤ (x &&& 3).toBitVec.toInt ∧ (x &&& 3).toBitVec.toInt < 4
  rw [BitVec.toInt_eq_toNat_cond, if_pos (by omega)]
  omega
theorem own_nd3 (x : Int32) : own_nd (x &&& 3) := ⟨own_nn (own_a3 x).1, own_cl (own_a3 x).2 (own_a3 x).1⟩
theorem own_n16 {G : List Int32} {nb : Int32} (hG : own_G G nb) : ¬ (nb = (16 : Int32)) := by
  intro h; subst h; exact absurd hG.2.2.1 (by decide)
theorem own_up {nb : Int32} {m : Int} (h0 : 0 ≤ nb.toInt) (h : nb.toInt ≤ 15) : (nb + 1).toInt = nb.toInt + 1 := own_inc (by omega) (by omega)
theorem own_fresh {I C : List Int32} {k nb : Int32} {b : Nat} (h : own_J I C k nb) (hb : b < 17) (h0 : 0 ≤ nb.toInt) (h1 : nb.toInt ≤ 100) : own_J (I.set b k) (C.set b nb) k (nb + 1) ∧ List.getD (I.set b k) b 0 = k ∧ nb.toInt ≤ (nb + 1).toInt ∧ (nb + 1).toInt ≤ nb.toInt + 1 := by
  have e := own_inc (x := nb) (by omega) (by omega)
  refine ⟨own_Jnew h hb h0 h1, ?_, by omega, by omega⟩
  rw [own_getset, if_pos ⟨rfl, by rw [h.1]; exact hb⟩]
theorem own_mem {L : List Int32} {n : Nat} (h : ∀ z ∈ L, own_nd z) (hl : L.length = n) (i : Nat) (hi : i < n := by decide) : own_nd (L.getD i 0) := by
  rw [List.getD_eq_getElem?_getD, List.getElem?_eq_getElem (by omega)]
  exact h _ (List.getElem_mem _)

theorem d6_0 : decode jdk_65_method_103_code 0 = .ok (.iconst 0, 1) := by decide +kernel
theorem d6_1 : decode jdk_65_method_103_code 1 = .ok (.istore_n 2, 1) := by decide +kernel
theorem d6_2 : decode jdk_65_method_103_code 2 = .ok (.aload_n 0, 1) := by decide +kernel
theorem d6_3 : decode jdk_65_method_103_code 3 = .ok (.arraylength, 1) := by decide +kernel
theorem d6_4 : decode jdk_65_method_103_code 4 = .ok (.istore_n 3, 1) := by decide +kernel
theorem d6_5 : decode jdk_65_method_103_code 5 = .ok (.iload_n 2, 1) := by decide +kernel
theorem d6_6 : decode jdk_65_method_103_code 6 = .ok (.iload_n 3, 1) := by decide +kernel
theorem d6_7 : decode jdk_65_method_103_code 7 = .ok (.if_icmp .ge 13, 3) := by decide +kernel
theorem d6_10 : decode jdk_65_method_103_code 10 = .ok (.aload_n 0, 1) := by decide +kernel
theorem d6_11 : decode jdk_65_method_103_code 11 = .ok (.iload_n 2, 1) := by decide +kernel
theorem d6_12 : decode jdk_65_method_103_code 12 = .ok (.iload_n 1, 1) := by decide +kernel
theorem d6_13 : decode jdk_65_method_103_code 13 = .ok (.iastore, 1) := by decide +kernel
theorem d6_14 : decode jdk_65_method_103_code 14 = .ok (.iinc 2 1, 3) := by decide +kernel
theorem d6_17 : decode jdk_65_method_103_code 17 = .ok (.goto (-12), 3) := by decide +kernel
theorem d6_20 : decode jdk_65_method_103_code 20 = .ok (.return_, 1) := by decide +kernel
theorem pn_6 : plainName "java/util/Arrays" = true := by first | (simp [plainName, overriddenIn]; done) | decide +kernel
theorem ef_6 (m : MethodId) (a0 : Addr) (p1 : Int32) : entryFrame m #[(.ref a0), (.int p1)] 4 = mkF m 0 #[.val (.ref a0), .val (.int p1), .unset, .unset] [] := by first | (simp [entryFrame, mkF, argsToLocals, Value.category]; done) | rfl
abbrev room6 : Room := { frames := 0, cells := 0, slots := 0, locals := 0 }
def Q6 (Z : State) (a0 : Addr) (p1 : Int32) (L_a0 : List Int32) (h0 : Heap) (n0 : Nat) (v : Option Value) (h : Heap) (L : List Loc) : Prop := v = none ∧ Fr n0 L ∧ Keep h0 h [a0] ∧ Arl Z h a0 .int (List.set (List.set (List.set (List.set L_a0 0 p1) 1 p1) 2 p1) 3 p1) ∧ (List.set (List.set (List.set (List.set L_a0 0 p1) 1 p1) 2 p1) 3 p1).length = 4
set_option maxRecDepth 65536 in
set_option maxHeartbeats 40000000 in
theorem rm6 (l : Launch) (Z : State) (aw : Array Value) (hw : ∀ d ∈ tables_1, d.before aw Z = true) (ws : List Jvm.Cond) (a0 : Addr) (p1 : Int32) (L_a0 : List Int32) (h0 : Heap) (n0 : Nat) (Z0 : n0 ≤ h0.size) (W_a0 : Arl Z h0 a0 .int L_a0) (hl_L_a0 : L_a0.length = 4) (g_a0 : n0 ≤ a0) :
    MetFree l (⟨"java/util/Arrays", "fill", "([II)V"⟩ : MethodName) (head1 (Jvm.Cond.code (⟨"java/util/Arrays", "fill", "([II)V"⟩ : MethodName) jdk_65_method_103_code 4 none :: ws) room6) (fun a U => a = #[(.ref a0), (.int p1)] ∧ Z.Warmed39 U.vm ∧ U.heap = h0) (fun _ _ _ _ _ => True) (fun _ U o U' => ∃ v L, o = .returned v ∧ Q6 Z a0 p1 L_a0 h0 n0 v U'.heap L ∧ FrameEnd U o U' L room6.cells room6.slots) := by
  refine MetFree.of_bodySF (plainFor_of_name pn_6) hisR ?_
  intro p e s m args below meth c s₁ Bd hml0 hP hK
  obtain ⟨rfl, hZ, hh⟩ := hP
  have hx := Bd.exec
  have hby := Bd.bytes
  have hml : c.maxLocals = 4 := hml0
  have hown : s.vm.findClass "java/util/Arrays" = some m.cls := findClass_of_methodNamed Bd.named
  have hnm := (name_of_methodNamed Bd.named Bd.method).1
  have X0 : Stand p l e room6 s m #[(.ref a0), (.int p1)] below meth c s₁ [] 0 0 := Stand.of_body Bd
  have e0 : s₁.heap = h0 := by rw [← hh, Bd.state]; rfl
  have N0 := Fr.nil n0
  have K0 := Keep.refl h0 [a0]
  rw [ef_6 m a0 p1]
  refine go_in (s₁ := s₁) (Q := Q6 Z a0 p1 L_a0 h0 n0) fun F hF => ?_
  refine go (B := s₁.setTop (mkF m 1 #[.val (.ref a0), .val (.int p1), .unset, .unset] [(.int (0 : Int32))])) (fun _ k => XS.iconst X0.here hx rfl (hb hby d6_0) k) ?_
  refine go (B := s₁.setTop (mkF m 2 #[.val (.ref a0), .val (.int p1), .val (.int (0 : Int32)), .unset] [])) (fun _ k => XS.istoreN X0.here hx rfl (hb hby d6_1) rfl (l' := #[.val (.ref a0), .val (.int p1), .val (.int (0 : Int32)), .unset]) rfl k) ?_
  refine go (B := s₁.setTop (mkF m 3 #[.val (.ref a0), .val (.int p1), .val (.int (0 : Int32)), .unset] [(.ref a0)])) (fun _ k => XS.aloadN X0.here hx rfl (hb hby d6_2) rfl rfl k) ?_
  obtain ⟨cl1, Ar1, ln1⟩ := Arl.len W_a0
  rw [hl_L_a0] at ln1
  refine go (B := s₁.setTop (mkF m 4 #[.val (.ref a0), .val (.int p1), .val (.int (0 : Int32)), .unset] [(.int (4 : Int32))])) (fun _ k => X0.arraylength hx (by rw [e0]; exact Ar1.1) (State.isArrayOf_alike hZ.alike Ar1.2.1) (g := (mkF m 3 #[.val (.ref a0), .val (.int p1), .val (.int (0 : Int32)), .unset] [(.ref a0)])) rfl rfl (hb hby d6_3) _ (by rw [ln1]; exact k)) ?_
  refine go (B := s₁.setTop (mkF m 5 #[.val (.ref a0), .val (.int p1), .val (.int (0 : Int32)), .val (.int (4 : Int32))] [])) (fun _ k => XS.istoreN X0.here hx rfl (hb hby d6_4) rfl (l' := #[.val (.ref a0), .val (.int p1), .val (.int (0 : Int32)), .val (.int (4 : Int32))]) rfl k) ?_
  refine go (B := s₁.setTop (mkF m 6 #[.val (.ref a0), .val (.int p1), .val (.int (0 : Int32)), .val (.int (4 : Int32))] [(.int (0 : Int32))])) (fun _ k => XS.iloadN X0.here hx rfl (hb hby d6_5) rfl k) ?_
  refine go (B := s₁.setTop (mkF m 7 #[.val (.ref a0), .val (.int p1), .val (.int (0 : Int32)), .val (.int (4 : Int32))] [(.int (4 : Int32)), (.int (0 : Int32))])) (fun _ k => XS.iloadN X0.here hx rfl (hb hby d6_6) rfl k) ?_
  refine go (B := s₁.setTop (mkF m 10 #[.val (.ref a0), .val (.int p1), .val (.int (0 : Int32)), .val (.int (4 : Int32))] [])) (fun _ k => XS.icmpNo X0.here hx rfl (hb hby d6_7) rfl (tlt (by decide : (0 : Int32) < (4 : Int32))).2.1 k) ?_
  refine go (B := s₁.setTop (mkF m 11 #[.val (.ref a0), .val (.int p1), .val (.int (0 : Int32)), .val (.int (4 : Int32))] [(.ref a0)])) (fun _ k => XS.aloadN X0.here hx rfl (hb hby d6_10) rfl rfl k) ?_
  refine go (B := s₁.setTop (mkF m 12 #[.val (.ref a0), .val (.int p1), .val (.int (0 : Int32)), .val (.int (4 : Int32))] [(.int (0 : Int32)), (.ref a0)])) (fun _ k => XS.iloadN X0.here hx rfl (hb hby d6_11) rfl k) ?_
  refine go (B := s₁.setTop (mkF m 13 #[.val (.ref a0), .val (.int p1), .val (.int (0 : Int32)), .val (.int (4 : Int32))] [(.int p1), (.int (0 : Int32)), (.ref a0)])) (fun _ k => XS.iloadN X0.here hx rfl (hb hby d6_12) rfl k) ?_
  obtain ⟨cl2, Ar2, hin2, hat2, up2⟩ := Arl.in W_a0 (j := (0 : Int32)) (by decide) (own_lit (n := 4) (by decide) hl_L_a0)
  obtain ⟨T2, h2, X2, e2, W2, st2⟩ := stI X0 hx hZ e0 Ar2 (j := (0 : Int32)) hin2 (g := (mkF m 13 #[.val (.ref a0), .val (.int p1), .val (.int (0 : Int32)), .val (.int (4 : Int32))] [(.int p1), (.int (0 : Int32)), (.ref a0)])) rfl rfl (hb hby d6_13)
  have Z2 := Nat.le_trans Z0 (Keep.of_wr W2).1
  have K2 := K0.wr W2 (Or.inl (List.mem_of_getElem? (i := 0) rfl))
  have N2 := Fr.snoc X2 N0 g_a0
  have W_a0_2 : Arl Z h2 a0 .int (List.set L_a0 0 p1) := up2 W2
  refine go (B := T2.setTop (mkF m 14 #[.val (.ref a0), .val (.int p1), .val (.int (0 : Int32)), .val (.int (4 : Int32))] [])) st2 ?_
  refine go (B := T2.setTop (mkF m 17 #[.val (.ref a0), .val (.int p1), .val (.int (1 : Int32)), .val (.int (4 : Int32))] [])) (fun _ k => XS.iinc X2.here hx rfl (hb hby d6_14) rfl (l' := #[.val (.ref a0), .val (.int p1), .val (.int (1 : Int32)), .val (.int (4 : Int32))]) rfl k) ?_
  refine go (B := T2.setTop (mkF m 5 #[.val (.ref a0), .val (.int p1), .val (.int (1 : Int32)), .val (.int (4 : Int32))] [])) (fun _ k => XS.goto X2.here hx rfl (pc0 := 17) (pc' := 5) rfl (hb hby d6_17) (by decide) (by decide) k) ?_
  refine go (B := T2.setTop (mkF m 6 #[.val (.ref a0), .val (.int p1), .val (.int (1 : Int32)), .val (.int (4 : Int32))] [(.int (1 : Int32))])) (fun _ k => XS.iloadN X2.here hx rfl (hb hby d6_5) rfl k) ?_
  refine go (B := T2.setTop (mkF m 7 #[.val (.ref a0), .val (.int p1), .val (.int (1 : Int32)), .val (.int (4 : Int32))] [(.int (4 : Int32)), (.int (1 : Int32))])) (fun _ k => XS.iloadN X2.here hx rfl (hb hby d6_6) rfl k) ?_
  refine go (B := T2.setTop (mkF m 10 #[.val (.ref a0), .val (.int p1), .val (.int (1 : Int32)), .val (.int (4 : Int32))] [])) (fun _ k => XS.icmpNo X2.here hx rfl (hb hby d6_7) rfl (tlt (by decide : (1 : Int32) < (4 : Int32))).2.1 k) ?_
  refine go (B := T2.setTop (mkF m 11 #[.val (.ref a0), .val (.int p1), .val (.int (1 : Int32)), .val (.int (4 : Int32))] [(.ref a0)])) (fun _ k => XS.aloadN X2.here hx rfl (hb hby d6_10) rfl rfl k) ?_
  refine go (B := T2.setTop (mkF m 12 #[.val (.ref a0), .val (.int p1), .val (.int (1 : Int32)), .val (.int (4 : Int32))] [(.int (1 : Int32)), (.ref a0)])) (fun _ k => XS.iloadN X2.here hx rfl (hb hby d6_11) rfl k) ?_
  refine go (B := T2.setTop (mkF m 13 #[.val (.ref a0), .val (.int p1), .val (.int (1 : Int32)), .val (.int (4 : Int32))] [(.int p1), (.int (1 : Int32)), (.ref a0)])) (fun _ k => XS.iloadN X2.here hx rfl (hb hby d6_12) rfl k) ?_
  obtain ⟨cl3, Ar3, hin3, hat3, up3⟩ := Arl.in W_a0_2 (j := (1 : Int32)) (by decide) (own_lit (n := 4) (by decide) ((List.length_set).trans hl_L_a0))
  obtain ⟨T3, h3, X3, e3, W3, st3⟩ := stI X2 hx hZ e2 Ar3 (j := (1 : Int32)) hin3 (g := (mkF m 13 #[.val (.ref a0), .val (.int p1), .val (.int (1 : Int32)), .val (.int (4 : Int32))] [(.int p1), (.int (1 : Int32)), (.ref a0)])) rfl rfl (hb hby d6_13)
  have Z3 := Nat.le_trans Z2 (Keep.of_wr W3).1
  have K3 := K2.wr W3 (Or.inl (List.mem_of_getElem? (i := 0) rfl))
  have N3 := Fr.snoc X3 N2 g_a0
  have W_a0_3 : Arl Z h3 a0 .int (List.set (List.set L_a0 0 p1) 1 p1) := up3 W3
  refine go (B := T3.setTop (mkF m 14 #[.val (.ref a0), .val (.int p1), .val (.int (1 : Int32)), .val (.int (4 : Int32))] [])) st3 ?_
  refine go (B := T3.setTop (mkF m 17 #[.val (.ref a0), .val (.int p1), .val (.int (2 : Int32)), .val (.int (4 : Int32))] [])) (fun _ k => XS.iinc X3.here hx rfl (hb hby d6_14) rfl (l' := #[.val (.ref a0), .val (.int p1), .val (.int (2 : Int32)), .val (.int (4 : Int32))]) rfl k) ?_
  refine go (B := T3.setTop (mkF m 5 #[.val (.ref a0), .val (.int p1), .val (.int (2 : Int32)), .val (.int (4 : Int32))] [])) (fun _ k => XS.goto X3.here hx rfl (pc0 := 17) (pc' := 5) rfl (hb hby d6_17) (by decide) (by decide) k) ?_
  refine go (B := T3.setTop (mkF m 6 #[.val (.ref a0), .val (.int p1), .val (.int (2 : Int32)), .val (.int (4 : Int32))] [(.int (2 : Int32))])) (fun _ k => XS.iloadN X3.here hx rfl (hb hby d6_5) rfl k) ?_
  refine go (B := T3.setTop (mkF m 7 #[.val (.ref a0), .val (.int p1), .val (.int (2 : Int32)), .val (.int (4 : Int32))] [(.int (4 : Int32)), (.int (2 : Int32))])) (fun _ k => XS.iloadN X3.here hx rfl (hb hby d6_6) rfl k) ?_
  refine go (B := T3.setTop (mkF m 10 #[.val (.ref a0), .val (.int p1), .val (.int (2 : Int32)), .val (.int (4 : Int32))] [])) (fun _ k => XS.icmpNo X3.here hx rfl (hb hby d6_7) rfl (tlt (by decide : (2 : Int32) < (4 : Int32))).2.1 k) ?_
  refine go (B := T3.setTop (mkF m 11 #[.val (.ref a0), .val (.int p1), .val (.int (2 : Int32)), .val (.int (4 : Int32))] [(.ref a0)])) (fun _ k => XS.aloadN X3.here hx rfl (hb hby d6_10) rfl rfl k) ?_
  refine go (B := T3.setTop (mkF m 12 #[.val (.ref a0), .val (.int p1), .val (.int (2 : Int32)), .val (.int (4 : Int32))] [(.int (2 : Int32)), (.ref a0)])) (fun _ k => XS.iloadN X3.here hx rfl (hb hby d6_11) rfl k) ?_
  refine go (B := T3.setTop (mkF m 13 #[.val (.ref a0), .val (.int p1), .val (.int (2 : Int32)), .val (.int (4 : Int32))] [(.int p1), (.int (2 : Int32)), (.ref a0)])) (fun _ k => XS.iloadN X3.here hx rfl (hb hby d6_12) rfl k) ?_
  obtain ⟨cl4, Ar4, hin4, hat4, up4⟩ := Arl.in W_a0_3 (j := (2 : Int32)) (by decide) (own_lit (n := 4) (by decide) ((List.length_set).trans ((List.length_set).trans hl_L_a0)))
  obtain ⟨T4, h4, X4, e4, W4, st4⟩ := stI X3 hx hZ e3 Ar4 (j := (2 : Int32)) hin4 (g := (mkF m 13 #[.val (.ref a0), .val (.int p1), .val (.int (2 : Int32)), .val (.int (4 : Int32))] [(.int p1), (.int (2 : Int32)), (.ref a0)])) rfl rfl (hb hby d6_13)
  have Z4 := Nat.le_trans Z3 (Keep.of_wr W4).1
  have K4 := K3.wr W4 (Or.inl (List.mem_of_getElem? (i := 0) rfl))
  have N4 := Fr.snoc X4 N3 g_a0
  have W_a0_4 : Arl Z h4 a0 .int (List.set (List.set (List.set L_a0 0 p1) 1 p1) 2 p1) := up4 W4
  have hl_a0_4 : (List.set (List.set (List.set L_a0 0 p1) 1 p1) 2 p1).length = 4 := ((List.length_set).trans ((List.length_set).trans ((List.length_set).trans hl_L_a0)))
  refine go (B := T4.setTop (mkF m 14 #[.val (.ref a0), .val (.int p1), .val (.int (2 : Int32)), .val (.int (4 : Int32))] [])) st4 ?_
  refine go (B := T4.setTop (mkF m 17 #[.val (.ref a0), .val (.int p1), .val (.int (3 : Int32)), .val (.int (4 : Int32))] [])) (fun _ k => XS.iinc X4.here hx rfl (hb hby d6_14) rfl (l' := #[.val (.ref a0), .val (.int p1), .val (.int (3 : Int32)), .val (.int (4 : Int32))]) rfl k) ?_
  refine go (B := T4.setTop (mkF m 5 #[.val (.ref a0), .val (.int p1), .val (.int (3 : Int32)), .val (.int (4 : Int32))] [])) (fun _ k => XS.goto X4.here hx rfl (pc0 := 17) (pc' := 5) rfl (hb hby d6_17) (by decide) (by decide) k) ?_
  refine go (B := T4.setTop (mkF m 6 #[.val (.ref a0), .val (.int p1), .val (.int (3 : Int32)), .val (.int (4 : Int32))] [(.int (3 : Int32))])) (fun _ k => XS.iloadN X4.here hx rfl (hb hby d6_5) rfl k) ?_
  refine go (B := T4.setTop (mkF m 7 #[.val (.ref a0), .val (.int p1), .val (.int (3 : Int32)), .val (.int (4 : Int32))] [(.int (4 : Int32)), (.int (3 : Int32))])) (fun _ k => XS.iloadN X4.here hx rfl (hb hby d6_6) rfl k) ?_
  refine go (B := T4.setTop (mkF m 10 #[.val (.ref a0), .val (.int p1), .val (.int (3 : Int32)), .val (.int (4 : Int32))] [])) (fun _ k => XS.icmpNo X4.here hx rfl (hb hby d6_7) rfl (tlt (by decide : (3 : Int32) < (4 : Int32))).2.1 k) ?_
  refine go (B := T4.setTop (mkF m 11 #[.val (.ref a0), .val (.int p1), .val (.int (3 : Int32)), .val (.int (4 : Int32))] [(.ref a0)])) (fun _ k => XS.aloadN X4.here hx rfl (hb hby d6_10) rfl rfl k) ?_
  refine go (B := T4.setTop (mkF m 12 #[.val (.ref a0), .val (.int p1), .val (.int (3 : Int32)), .val (.int (4 : Int32))] [(.int (3 : Int32)), (.ref a0)])) (fun _ k => XS.iloadN X4.here hx rfl (hb hby d6_11) rfl k) ?_
  refine go (B := T4.setTop (mkF m 13 #[.val (.ref a0), .val (.int p1), .val (.int (3 : Int32)), .val (.int (4 : Int32))] [(.int p1), (.int (3 : Int32)), (.ref a0)])) (fun _ k => XS.iloadN X4.here hx rfl (hb hby d6_12) rfl k) ?_
  obtain ⟨cl5, Ar5, hin5, hat5, up5⟩ := Arl.in W_a0_4 (j := (3 : Int32)) (by decide) (own_lit (n := 4) (by decide) hl_a0_4)
  obtain ⟨T5, h5, X5, e5, W5, st5⟩ := stI X4 hx hZ e4 Ar5 (j := (3 : Int32)) hin5 (g := (mkF m 13 #[.val (.ref a0), .val (.int p1), .val (.int (3 : Int32)), .val (.int (4 : Int32))] [(.int p1), (.int (3 : Int32)), (.ref a0)])) rfl rfl (hb hby d6_13)
  have Z5 := Nat.le_trans Z4 (Keep.of_wr W5).1
  have K5 := K4.wr W5 (Or.inl (List.mem_of_getElem? (i := 0) rfl))
  have N5 := Fr.snoc X5 N4 g_a0
  have W_a0_5 : Arl Z h5 a0 .int (List.set (List.set (List.set (List.set L_a0 0 p1) 1 p1) 2 p1) 3 p1) := up5 W5
  refine go (B := T5.setTop (mkF m 14 #[.val (.ref a0), .val (.int p1), .val (.int (3 : Int32)), .val (.int (4 : Int32))] [])) st5 ?_
  refine go (B := T5.setTop (mkF m 17 #[.val (.ref a0), .val (.int p1), .val (.int (4 : Int32)), .val (.int (4 : Int32))] [])) (fun _ k => XS.iinc X5.here hx rfl (hb hby d6_14) rfl (l' := #[.val (.ref a0), .val (.int p1), .val (.int (4 : Int32)), .val (.int (4 : Int32))]) rfl k) ?_
  refine go (B := T5.setTop (mkF m 5 #[.val (.ref a0), .val (.int p1), .val (.int (4 : Int32)), .val (.int (4 : Int32))] [])) (fun _ k => XS.goto X5.here hx rfl (pc0 := 17) (pc' := 5) rfl (hb hby d6_17) (by decide) (by decide) k) ?_
  refine go (B := T5.setTop (mkF m 6 #[.val (.ref a0), .val (.int p1), .val (.int (4 : Int32)), .val (.int (4 : Int32))] [(.int (4 : Int32))])) (fun _ k => XS.iloadN X5.here hx rfl (hb hby d6_5) rfl k) ?_
  refine go (B := T5.setTop (mkF m 7 #[.val (.ref a0), .val (.int p1), .val (.int (4 : Int32)), .val (.int (4 : Int32))] [(.int (4 : Int32)), (.int (4 : Int32))])) (fun _ k => XS.iloadN X5.here hx rfl (hb hby d6_6) rfl k) ?_
  refine go (B := T5.setTop (mkF m 20 #[.val (.ref a0), .val (.int p1), .val (.int (4 : Int32)), .val (.int (4 : Int32))] [])) (fun _ k => XS.icmpYes X5.here hx rfl (pc0 := 7) (pc' := 20) rfl (hb hby d6_7) rfl (flt (by decide : ¬ ((4 : Int32) < (4 : Int32)))).2.1 (by decide) (by decide) k) ?_
  exact end_void X5 hx Bd.notSynchronized Bd.returns (hb hby d6_20) hF e5 (by decide) (by decide) ⟨rfl, N5, K5, W_a0_5, ((List.length_set).trans hl_a0_4)⟩
theorem pd_0 : parseMethodDescriptor "([II)V" = some ⟨[(.array .int), .int], none⟩ := by decide +kernel
theorem d4_0 : decode prog_97_method_1_code 0 = .ok (.aload_n 0, 1) := by decide +kernel
theorem d4_1 : decode prog_97_method_1_code 1 = .ok (.invokespecial 1, 3) := by decide +kernel
theorem d4_4 : decode prog_97_method_1_code 4 = .ok (.aload_n 0, 1) := by decide +kernel
theorem d4_5 : decode prog_97_method_1_code 5 = .ok (.bipush 16, 2) := by decide +kernel
theorem d4_7 : decode prog_97_method_1_code 7 = .ok (.newarray .int, 2) := by decide +kernel
theorem d4_9 : decode prog_97_method_1_code 9 = .ok (.putfield 7, 3) := by decide +kernel
theorem d4_12 : decode prog_97_method_1_code 12 = .ok (.aload_n 0, 1) := by decide +kernel
theorem d4_13 : decode prog_97_method_1_code 13 = .ok (.bipush 17, 2) := by decide +kernel
theorem d4_15 : decode prog_97_method_1_code 15 = .ok (.newarray .int, 2) := by decide +kernel
theorem d4_17 : decode prog_97_method_1_code 17 = .ok (.putfield 13, 3) := by decide +kernel
theorem d4_20 : decode prog_97_method_1_code 20 = .ok (.aload_n 0, 1) := by decide +kernel
theorem d4_21 : decode prog_97_method_1_code 21 = .ok (.bipush 17, 2) := by decide +kernel
theorem d4_23 : decode prog_97_method_1_code 23 = .ok (.newarray .int, 2) := by decide +kernel
theorem d4_25 : decode prog_97_method_1_code 25 = .ok (.putfield 16, 3) := by decide +kernel
theorem d4_28 : decode prog_97_method_1_code 28 = .ok (.aload_n 0, 1) := by decide +kernel
theorem d4_29 : decode prog_97_method_1_code 29 = .ok (.iload_n 1, 1) := by decide +kernel
theorem d4_30 : decode prog_97_method_1_code 30 = .ok (.newarray .int, 2) := by decide +kernel
theorem d4_32 : decode prog_97_method_1_code 32 = .ok (.putfield 19, 3) := by decide +kernel
theorem d4_35 : decode prog_97_method_1_code 35 = .ok (.aload_n 0, 1) := by decide +kernel
theorem d4_36 : decode prog_97_method_1_code 36 = .ok (.getfield 19, 3) := by decide +kernel
theorem d4_39 : decode prog_97_method_1_code 39 = .ok (.iconst (-1), 1) := by decide +kernel
theorem d4_40 : decode prog_97_method_1_code 40 = .ok (.invokestatic 22, 3) := by decide +kernel
theorem d4_43 : decode prog_97_method_1_code 43 = .ok (.return_, 1) := by decide +kernel
theorem pn_4 : plainName "com/example/constrained_flow/constrainedflow/planner/search/Sweep$Groups" = true := by first | (simp [plainName, overriddenIn]; done) | decide +kernel
theorem ef_4 (m : MethodId) (a0 : Addr) : entryFrame m #[(.ref a0), (.int (4 : Int32))] 2 = mkF m 0 #[.val (.ref a0), .val (.int (4 : Int32))] [] := by first | (simp [entryFrame, mkF, argsToLocals, Value.category]; done) | rfl
abbrev room4 : Room := { frames := 1, cells := 4, slots := 54, locals := 15 }
def Q4 (Z : State) (a0 : Addr) (h0 : Heap) (n0 : Nat) (v : Option Value) (h : Heap) (L : List Loc) : Prop := ∃ b2 : Addr, ∃ b4 : Addr, ∃ b6 : Addr, ∃ b8 : Addr, v = none ∧ Fr n0 L ∧ Keep h0 h [a0] ∧ h0.size ≤ b2 ∧ h0.size ≤ b4 ∧ h0.size ≤ b6 ∧ h0.size ≤ b8 ∧ b2 ≠ b4 ∧ b2 ≠ b6 ∧ b2 ≠ b8 ∧ b4 ≠ b6 ∧ b4 ≠ b8 ∧ b6 ≠ b8 ∧ Fld Z h a0 "com/example/constrained_flow/constrainedflow/planner/search/Sweep$Groups" "counts" "I" (.int (0 : Int32)) ∧ Fld Z h a0 "com/example/constrained_flow/constrainedflow/planner/search/Sweep$Groups" "numbered" "I" (.int (0 : Int32)) ∧ Fld Z h a0 "com/example/constrained_flow/constrainedflow/planner/search/Sweep$Groups" "live" "I" (.int (0 : Int32)) ∧ Exa Z h a0 "com/example/constrained_flow/constrainedflow/planner/search/Sweep$Groups" ∧ Fld Z h a0 "com/example/constrained_flow/constrainedflow/planner/search/Sweep$Groups" "sizes" "[I" (.ref b2) ∧ Fld Z h a0 "com/example/constrained_flow/constrainedflow/planner/search/Sweep$Groups" "seenIn" "[I" (.ref b4) ∧ Fld Z h a0 "com/example/constrained_flow/constrainedflow/planner/search/Sweep$Groups" "counted" "[I" (.ref b6) ∧ Fld Z h a0 "com/example/constrained_flow/constrainedflow/planner/search/Sweep$Groups" "groupOf" "[I" (.ref b8) ∧ Arl Z h b2 .int (List.replicate 16 (0 : Int32)) ∧ (List.replicate 16 (0 : Int32)).length = 16 ∧ Arl Z h b4 .int (List.replicate 17 (0 : Int32)) ∧ (List.replicate 17 (0 : Int32)).length = 17 ∧ Arl Z h b6 .int (List.replicate 17 (0 : Int32)) ∧ (List.replicate 17 (0 : Int32)).length = 17 ∧ Arl Z h b8 .int (List.set (List.set (List.set (List.set (List.replicate 4 (0 : Int32)) 0 (-1 : Int32)) 1 (-1 : Int32)) 2 (-1 : Int32)) 3 (-1 : Int32)) ∧ (List.set (List.set (List.set (List.set (List.replicate 4 (0 : Int32)) 0 (-1 : Int32)) 1 (-1 : Int32)) 2 (-1 : Int32)) 3 (-1 : Int32)).length = 4
set_option maxRecDepth 65536 in
set_option maxHeartbeats 40000000 in
theorem rm4 (l : Launch) (Z : State) (aw : Array Value) (hw : ∀ d ∈ tables_1, d.before aw Z = true) (ws : List Jvm.Cond) (a0 : Addr) (h0 : Heap) (n0 : Nat) (Z0 : n0 ≤ h0.size) (F_sizes_a0 : Fld Z h0 a0 "com/example/constrained_flow/constrainedflow/planner/search/Sweep$Groups" "sizes" "[I" .null) (F_seenIn_a0 : Fld Z h0 a0 "com/example/constrained_flow/constrainedflow/planner/search/Sweep$Groups" "seenIn" "[I" .null) (F_counted_a0 : Fld Z h0 a0 "com/example/constrained_flow/constrainedflow/planner/search/Sweep$Groups" "counted" "[I" .null) (F_groupOf_a0 : Fld Z h0 a0 "com/example/constrained_flow/constrainedflow/planner/search/Sweep$Groups" "groupOf" "[I" .null) (F_counts_a0 : Fld Z h0 a0 "com/example/constrained_flow/constrainedflow/planner/search/Sweep$Groups" "counts" "I" (.int (0 : Int32))) (F_numbered_a0 : Fld Z h0 a0 "com/example/constrained_flow/constrainedflow/planner/search/Sweep$Groups" "numbered" "I" (.int (0 : Int32))) (F_live_a0 : Fld Z h0 a0 "com/example/constrained_flow/constrainedflow/planner/search/Sweep$Groups" "live" "I" (.int (0 : Int32))) (E_a0 : Exa Z h0 a0 "com/example/constrained_flow/constrainedflow/planner/search/Sweep$Groups") (g_a0 : n0 ≤ a0) :
    MetFree l (⟨"com/example/constrained_flow/constrainedflow/planner/search/Sweep$Groups", "<init>", "(I)V"⟩ : MethodName) (head1 (Jvm.Cond.code (⟨"com/example/constrained_flow/constrainedflow/planner/search/Sweep$Groups", "<init>", "(I)V"⟩ : MethodName) prog_97_method_1_code 2 none :: ws) room4) (fun a U => a = #[(.ref a0), (.int (4 : Int32))] ∧ Z.Warmed39 U.vm ∧ U.heap = h0) (fun _ _ _ _ _ => True) (fun _ U o U' => ∃ v L, o = .returned v ∧ Q4 Z a0 h0 n0 v U'.heap L ∧ FrameEnd U o U' L room4.cells room4.slots) := by
  refine MetFree.of_bodySF (plainFor_of_name pn_4) hisR ?_
  intro p e s m args below meth c s₁ Bd hml0 hP hK
  obtain ⟨rfl, hZ, hh⟩ := hP
  have hx := Bd.exec
  have hby := Bd.bytes
  have hml : c.maxLocals = 2 := hml0
  have hown : s.vm.findClass "com/example/constrained_flow/constrainedflow/planner/search/Sweep$Groups" = some m.cls := findClass_of_methodNamed Bd.named
  have hnm := (name_of_methodNamed Bd.named Bd.method).1
  have X0 : Stand p l e room4 s m #[(.ref a0), (.int (4 : Int32))] below meth c s₁ [] 0 0 := Stand.of_body Bd
  have e0 : s₁.heap = h0 := by rw [← hh, Bd.state]; rfl
  have N0 := Fr.nil n0
  have K0 := Keep.refl h0 [a0]
  rw [ef_4 m a0]
  refine go_in (s₁ := s₁) (Q := Q4 Z a0 h0 n0) fun F hF => ?_
  refine go (B := s₁.setTop (mkF m 1 #[.val (.ref a0), .val (.int (4 : Int32))] [(.ref a0)])) (fun _ k => XS.aloadN X0.here hx rfl (hb hby d4_0) rfl rfl k) ?_
  obtain ⟨T1, X1, e1, st1⟩ := initO X0 hx hZ hown (hw _ (List.mem_of_getElem? (i := 19) rfl)) (hw _ (List.mem_of_getElem? (i := 20) rfl)) (hw _ (List.mem_of_getElem? (i := 21) rfl)) e0 (g := (mkF m 1 #[.val (.ref a0), .val (.int (4 : Int32))] [(.ref a0)])) rfl (by rw [hml]; rfl) rfl (hb hby d4_1) (by decide) (W := 0) (by show 2 * 0 + _ ≤ _; exact Nat.le_of_eq rfl) (by decide)
  refine go (B := T1.setTop (mkF m 4 #[.val (.ref a0), .val (.int (4 : Int32))] [])) st1 ?_
  refine go (B := T1.setTop (mkF m 5 #[.val (.ref a0), .val (.int (4 : Int32))] [(.ref a0)])) (fun _ k => XS.aloadN X1.here hx rfl (hb hby d4_4) rfl rfl k) ?_
  refine go (B := T1.setTop (mkF m 7 #[.val (.ref a0), .val (.int (4 : Int32))] [(.int (16 : Int32)), (.ref a0)])) (fun _ k => XS.bipush X1.here hx rfl (hb hby d4_5) k) ?_
  obtain ⟨T2, h2, k2, X2, e2, E2, A2, st2⟩ := newP X1 hx hZ (hw _ (List.mem_of_getElem? (i := 12) rfl)) e1 (g := (mkF m 7 #[.val (.ref a0), .val (.int (4 : Int32))] [(.int (16 : Int32)), (.ref a0)])) rfl (hb hby d4_7) rfl (by decide) (cap := 16) (by decide) (by decide) (by decide) (by decide)
  obtain ⟨b2, g2⟩ : ∃ z, z = h0.size := ⟨_, rfl⟩
  rw [← g2] at A2 st2
  have g_b2 : n0 ≤ b2 := Nat.le_trans Z0 (Nat.le_of_eq g2.symm)
  have sz_b2 : h0.size ≤ b2 := Nat.le_trans K0.1 (Nat.le_of_eq g2.symm)
  have ne_a0_b2 : a0 ≠ b2 := Nat.ne_of_lt (Nat.lt_of_lt_of_le F_sizes_a0.lt (Nat.le_of_eq g2.symm))
  have F_sizes_a0_2 := F_sizes_a0.ext E2
  have F_seenIn_a0_2 := F_seenIn_a0.ext E2
  have F_counted_a0_2 := F_counted_a0.ext E2
  have F_groupOf_a0_2 := F_groupOf_a0.ext E2
  have F_counts_a0_2 := F_counts_a0.ext E2
  have F_numbered_a0_2 := F_numbered_a0.ext E2
  have F_live_a0_2 := F_live_a0.ext E2
  have E_a0_2 := E_a0.ext E2
  have Z2 := Nat.le_trans Z0 E2.1
  have K2 := K0.ext E2
  have W_b2 : Arl Z h2 b2 .int (List.replicate 16 (0 : Int32)) := Arl.of_new A2 (by decide) (by decide) rfl (by decide)
  refine go (B := T2.setTop (mkF m 9 #[.val (.ref a0), .val (.int (4 : Int32))] [(.ref b2), (.ref a0)])) st2 ?_
  obtain ⟨T3, h3, X3, e3, W3, st3⟩ := putF X2 hx hZ hown (host := "") (Or.inl (hw _ (List.mem_of_getElem? (i := 22) rfl))) Via.refl e2 F_sizes_a0_2 E_a0_2 (Or.inl (hw _ (List.mem_of_getElem? (i := 23) rfl))) (hw _ (List.mem_of_getElem? (i := 14) rfl)) (ty := (.array .int)) (by decide) rfl rfl (g := (mkF m 9 #[.val (.ref a0), .val (.int (4 : Int32))] [(.ref b2), (.ref a0)])) rfl rfl (hb hby d4_9)
  have F_seenIn_a0_3 := Fld.other W3 F_seenIn_a0_2 (Or.inr (slot_ne (Or.inl (hw _ (List.mem_of_getElem? (i := 25) rfl))) (Or.inl (hw _ (List.mem_of_getElem? (i := 23) rfl))) (by decide) (t := (.array .int)) (t' := (.array .int)) (by decide) (by decide)))
  have F_counted_a0_3 := Fld.other W3 F_counted_a0_2 (Or.inr (slot_ne (Or.inl (hw _ (List.mem_of_getElem? (i := 27) rfl))) (Or.inl (hw _ (List.mem_of_getElem? (i := 23) rfl))) (by decide) (t := (.array .int)) (t' := (.array .int)) (by decide) (by decide)))
  have F_groupOf_a0_3 := Fld.other W3 F_groupOf_a0_2 (Or.inr (slot_ne (Or.inr (hw _ (List.mem_of_getElem? (i := 29) rfl))) (Or.inl (hw _ (List.mem_of_getElem? (i := 23) rfl))) (by decide) (t := (.array .int)) (t' := (.array .int)) (by decide) (by decide)))
  have F_counts_a0_3 := Fld.other W3 F_counts_a0_2 (Or.inr (slot_ne (Or.inl (hw _ (List.mem_of_getElem? (i := 44) rfl))) (Or.inl (hw _ (List.mem_of_getElem? (i := 23) rfl))) (by decide) (t := .int) (t' := (.array .int)) (by decide) (by decide)))
  have F_numbered_a0_3 := Fld.other W3 F_numbered_a0_2 (Or.inr (slot_ne (Or.inl (hw _ (List.mem_of_getElem? (i := 58) rfl))) (Or.inl (hw _ (List.mem_of_getElem? (i := 23) rfl))) (by decide) (t := .int) (t' := (.array .int)) (by decide) (by decide)))
  have F_live_a0_3 := Fld.other W3 F_live_a0_2 (Or.inr (slot_ne (Or.inl (hw _ (List.mem_of_getElem? (i := 60) rfl))) (Or.inl (hw _ (List.mem_of_getElem? (i := 23) rfl))) (by decide) (t := .int) (t' := (.array .int)) (by decide) (by decide)))
  have E_a0_3 := E_a0_2.wr W3
  have W_b2_3 := W_b2.other W3 (Ne.symm ne_a0_b2)
  have F_sizes_a0_3 := Fld.same W3 F_sizes_a0_2
  have Z3 := Nat.le_trans Z2 (Keep.of_wr W3).1
  have K3 := K2.wr W3 (Or.inl (List.mem_of_getElem? (i := 0) rfl))
  have N3 := Fr.snoc X3 N0 g_a0
  refine go (B := T3.setTop (mkF m 12 #[.val (.ref a0), .val (.int (4 : Int32))] [])) st3 ?_
  refine go (B := T3.setTop (mkF m 13 #[.val (.ref a0), .val (.int (4 : Int32))] [(.ref a0)])) (fun _ k => XS.aloadN X3.here hx rfl (hb hby d4_12) rfl rfl k) ?_
  refine go (B := T3.setTop (mkF m 15 #[.val (.ref a0), .val (.int (4 : Int32))] [(.int (17 : Int32)), (.ref a0)])) (fun _ k => XS.bipush X3.here hx rfl (hb hby d4_13) k) ?_
  obtain ⟨T4, h4, k4, X4, e4, E4, A4, st4⟩ := newP X3 hx hZ (hw _ (List.mem_of_getElem? (i := 12) rfl)) e3 (g := (mkF m 15 #[.val (.ref a0), .val (.int (4 : Int32))] [(.int (17 : Int32)), (.ref a0)])) rfl (hb hby d4_15) rfl (by decide) (cap := 17) (by decide) (by decide) (by decide) (by decide)
  obtain ⟨b4, g4⟩ : ∃ z, z = h3.size := ⟨_, rfl⟩
  rw [← g4] at A4 st4
  have g_b4 : n0 ≤ b4 := Nat.le_trans Z3 (Nat.le_of_eq g4.symm)
  have sz_b4 : h0.size ≤ b4 := Nat.le_trans K3.1 (Nat.le_of_eq g4.symm)
  have ne_a0_b4 : a0 ≠ b4 := Nat.ne_of_lt (Nat.lt_of_lt_of_le F_seenIn_a0_3.lt (Nat.le_of_eq g4.symm))
  have ne_b2_b4 : b2 ≠ b4 := Nat.ne_of_lt (Nat.lt_of_lt_of_le W_b2_3.lt (Nat.le_of_eq g4.symm))
  have F_seenIn_a0_4 := F_seenIn_a0_3.ext E4
  have F_counted_a0_4 := F_counted_a0_3.ext E4
  have F_groupOf_a0_4 := F_groupOf_a0_3.ext E4
  have F_counts_a0_4 := F_counts_a0_3.ext E4
  have F_numbered_a0_4 := F_numbered_a0_3.ext E4
  have F_live_a0_4 := F_live_a0_3.ext E4
  have E_a0_4 := E_a0_3.ext E4
  have W_b2_4 := W_b2_3.ext E4
  have F_sizes_a0_4 := F_sizes_a0_3.ext E4
  have Z4 := Nat.le_trans Z3 E4.1
  have K4 := K3.ext E4
  have W_b4 : Arl Z h4 b4 .int (List.replicate 17 (0 : Int32)) := Arl.of_new A4 (by decide) (by decide) rfl (by decide)
  refine go (B := T4.setTop (mkF m 17 #[.val (.ref a0), .val (.int (4 : Int32))] [(.ref b4), (.ref a0)])) st4 ?_
  obtain ⟨T5, h5, X5, e5, W5, st5⟩ := putF X4 hx hZ hown (host := "") (Or.inl (hw _ (List.mem_of_getElem? (i := 24) rfl))) Via.refl e4 F_seenIn_a0_4 E_a0_4 (Or.inl (hw _ (List.mem_of_getElem? (i := 25) rfl))) (hw _ (List.mem_of_getElem? (i := 14) rfl)) (ty := (.array .int)) (by decide) rfl rfl (g := (mkF m 17 #[.val (.ref a0), .val (.int (4 : Int32))] [(.ref b4), (.ref a0)])) rfl rfl (hb hby d4_17)
  have F_counted_a0_5 := Fld.other W5 F_counted_a0_4 (Or.inr (slot_ne (Or.inl (hw _ (List.mem_of_getElem? (i := 27) rfl))) (Or.inl (hw _ (List.mem_of_getElem? (i := 25) rfl))) (by decide) (t := (.array .int)) (t' := (.array .int)) (by decide) (by decide)))
  have F_groupOf_a0_5 := Fld.other W5 F_groupOf_a0_4 (Or.inr (slot_ne (Or.inr (hw _ (List.mem_of_getElem? (i := 29) rfl))) (Or.inl (hw _ (List.mem_of_getElem? (i := 25) rfl))) (by decide) (t := (.array .int)) (t' := (.array .int)) (by decide) (by decide)))
  have F_counts_a0_5 := Fld.other W5 F_counts_a0_4 (Or.inr (slot_ne (Or.inl (hw _ (List.mem_of_getElem? (i := 44) rfl))) (Or.inl (hw _ (List.mem_of_getElem? (i := 25) rfl))) (by decide) (t := .int) (t' := (.array .int)) (by decide) (by decide)))
  have F_numbered_a0_5 := Fld.other W5 F_numbered_a0_4 (Or.inr (slot_ne (Or.inl (hw _ (List.mem_of_getElem? (i := 58) rfl))) (Or.inl (hw _ (List.mem_of_getElem? (i := 25) rfl))) (by decide) (t := .int) (t' := (.array .int)) (by decide) (by decide)))
  have F_live_a0_5 := Fld.other W5 F_live_a0_4 (Or.inr (slot_ne (Or.inl (hw _ (List.mem_of_getElem? (i := 60) rfl))) (Or.inl (hw _ (List.mem_of_getElem? (i := 25) rfl))) (by decide) (t := .int) (t' := (.array .int)) (by decide) (by decide)))
  have E_a0_5 := E_a0_4.wr W5
  have W_b2_5 := W_b2_4.other W5 (Ne.symm ne_a0_b2)
  have F_sizes_a0_5 := Fld.other W5 F_sizes_a0_4 (Or.inr (slot_ne (Or.inl (hw _ (List.mem_of_getElem? (i := 23) rfl))) (Or.inl (hw _ (List.mem_of_getElem? (i := 25) rfl))) (by decide) (t := (.array .int)) (t' := (.array .int)) (by decide) (by decide)))
  have W_b4_5 := W_b4.other W5 (Ne.symm ne_a0_b4)
  have F_seenIn_a0_5 := Fld.same W5 F_seenIn_a0_4
  have Z5 := Nat.le_trans Z4 (Keep.of_wr W5).1
  have K5 := K4.wr W5 (Or.inl (List.mem_of_getElem? (i := 0) rfl))
  have N5 := Fr.snoc X5 N3 g_a0
  refine go (B := T5.setTop (mkF m 20 #[.val (.ref a0), .val (.int (4 : Int32))] [])) st5 ?_
  refine go (B := T5.setTop (mkF m 21 #[.val (.ref a0), .val (.int (4 : Int32))] [(.ref a0)])) (fun _ k => XS.aloadN X5.here hx rfl (hb hby d4_20) rfl rfl k) ?_
  refine go (B := T5.setTop (mkF m 23 #[.val (.ref a0), .val (.int (4 : Int32))] [(.int (17 : Int32)), (.ref a0)])) (fun _ k => XS.bipush X5.here hx rfl (hb hby d4_21) k) ?_
  obtain ⟨T6, h6, k6, X6, e6, E6, A6, st6⟩ := newP X5 hx hZ (hw _ (List.mem_of_getElem? (i := 12) rfl)) e5 (g := (mkF m 23 #[.val (.ref a0), .val (.int (4 : Int32))] [(.int (17 : Int32)), (.ref a0)])) rfl (hb hby d4_23) rfl (by decide) (cap := 17) (by decide) (by decide) (by decide) (by decide)
  obtain ⟨b6, g6⟩ : ∃ z, z = h5.size := ⟨_, rfl⟩
  rw [← g6] at A6 st6
  have g_b6 : n0 ≤ b6 := Nat.le_trans Z5 (Nat.le_of_eq g6.symm)
  have sz_b6 : h0.size ≤ b6 := Nat.le_trans K5.1 (Nat.le_of_eq g6.symm)
  have ne_a0_b6 : a0 ≠ b6 := Nat.ne_of_lt (Nat.lt_of_lt_of_le F_counted_a0_5.lt (Nat.le_of_eq g6.symm))
  have ne_b2_b6 : b2 ≠ b6 := Nat.ne_of_lt (Nat.lt_of_lt_of_le W_b2_5.lt (Nat.le_of_eq g6.symm))
  have ne_b4_b6 : b4 ≠ b6 := Nat.ne_of_lt (Nat.lt_of_lt_of_le W_b4_5.lt (Nat.le_of_eq g6.symm))
  have F_counted_a0_6 := F_counted_a0_5.ext E6
  have F_groupOf_a0_6 := F_groupOf_a0_5.ext E6
  have F_counts_a0_6 := F_counts_a0_5.ext E6
  have F_numbered_a0_6 := F_numbered_a0_5.ext E6
  have F_live_a0_6 := F_live_a0_5.ext E6
  have E_a0_6 := E_a0_5.ext E6
  have W_b2_6 := W_b2_5.ext E6
  have F_sizes_a0_6 := F_sizes_a0_5.ext E6
  have W_b4_6 := W_b4_5.ext E6
  have F_seenIn_a0_6 := F_seenIn_a0_5.ext E6
  have Z6 := Nat.le_trans Z5 E6.1
  have K6 := K5.ext E6
  have W_b6 : Arl Z h6 b6 .int (List.replicate 17 (0 : Int32)) := Arl.of_new A6 (by decide) (by decide) rfl (by decide)
  refine go (B := T6.setTop (mkF m 25 #[.val (.ref a0), .val (.int (4 : Int32))] [(.ref b6), (.ref a0)])) st6 ?_
  obtain ⟨T7, h7, X7, e7, W7, st7⟩ := putF X6 hx hZ hown (host := "") (Or.inl (hw _ (List.mem_of_getElem? (i := 26) rfl))) Via.refl e6 F_counted_a0_6 E_a0_6 (Or.inl (hw _ (List.mem_of_getElem? (i := 27) rfl))) (hw _ (List.mem_of_getElem? (i := 14) rfl)) (ty := (.array .int)) (by decide) rfl rfl (g := (mkF m 25 #[.val (.ref a0), .val (.int (4 : Int32))] [(.ref b6), (.ref a0)])) rfl rfl (hb hby d4_25)
  have F_groupOf_a0_7 := Fld.other W7 F_groupOf_a0_6 (Or.inr (slot_ne (Or.inr (hw _ (List.mem_of_getElem? (i := 29) rfl))) (Or.inl (hw _ (List.mem_of_getElem? (i := 27) rfl))) (by decide) (t := (.array .int)) (t' := (.array .int)) (by decide) (by decide)))
  have F_counts_a0_7 := Fld.other W7 F_counts_a0_6 (Or.inr (slot_ne (Or.inl (hw _ (List.mem_of_getElem? (i := 44) rfl))) (Or.inl (hw _ (List.mem_of_getElem? (i := 27) rfl))) (by decide) (t := .int) (t' := (.array .int)) (by decide) (by decide)))
  have F_numbered_a0_7 := Fld.other W7 F_numbered_a0_6 (Or.inr (slot_ne (Or.inl (hw _ (List.mem_of_getElem? (i := 58) rfl))) (Or.inl (hw _ (List.mem_of_getElem? (i := 27) rfl))) (by decide) (t := .int) (t' := (.array .int)) (by decide) (by decide)))
  have F_live_a0_7 := Fld.other W7 F_live_a0_6 (Or.inr (slot_ne (Or.inl (hw _ (List.mem_of_getElem? (i := 60) rfl))) (Or.inl (hw _ (List.mem_of_getElem? (i := 27) rfl))) (by decide) (t := .int) (t' := (.array .int)) (by decide) (by decide)))
  have E_a0_7 := E_a0_6.wr W7
  have W_b2_7 := W_b2_6.other W7 (Ne.symm ne_a0_b2)
  have F_sizes_a0_7 := Fld.other W7 F_sizes_a0_6 (Or.inr (slot_ne (Or.inl (hw _ (List.mem_of_getElem? (i := 23) rfl))) (Or.inl (hw _ (List.mem_of_getElem? (i := 27) rfl))) (by decide) (t := (.array .int)) (t' := (.array .int)) (by decide) (by decide)))
  have W_b4_7 := W_b4_6.other W7 (Ne.symm ne_a0_b4)
  have F_seenIn_a0_7 := Fld.other W7 F_seenIn_a0_6 (Or.inr (slot_ne (Or.inl (hw _ (List.mem_of_getElem? (i := 25) rfl))) (Or.inl (hw _ (List.mem_of_getElem? (i := 27) rfl))) (by decide) (t := (.array .int)) (t' := (.array .int)) (by decide) (by decide)))
  have W_b6_7 := W_b6.other W7 (Ne.symm ne_a0_b6)
  have F_counted_a0_7 := Fld.same W7 F_counted_a0_6
  have Z7 := Nat.le_trans Z6 (Keep.of_wr W7).1
  have K7 := K6.wr W7 (Or.inl (List.mem_of_getElem? (i := 0) rfl))
  have N7 := Fr.snoc X7 N5 g_a0
  refine go (B := T7.setTop (mkF m 28 #[.val (.ref a0), .val (.int (4 : Int32))] [])) st7 ?_
  refine go (B := T7.setTop (mkF m 29 #[.val (.ref a0), .val (.int (4 : Int32))] [(.ref a0)])) (fun _ k => XS.aloadN X7.here hx rfl (hb hby d4_28) rfl rfl k) ?_
  refine go (B := T7.setTop (mkF m 30 #[.val (.ref a0), .val (.int (4 : Int32))] [(.int (4 : Int32)), (.ref a0)])) (fun _ k => XS.iloadN X7.here hx rfl (hb hby d4_29) rfl k) ?_
  obtain ⟨T8, h8, k8, X8, e8, E8, A8, st8⟩ := newP X7 hx hZ (hw _ (List.mem_of_getElem? (i := 12) rfl)) e7 (g := (mkF m 30 #[.val (.ref a0), .val (.int (4 : Int32))] [(.int (4 : Int32)), (.ref a0)])) rfl (hb hby d4_30) rfl (by decide) (cap := 4) (by decide) (by decide) (by decide) (by decide)
  obtain ⟨b8, g8⟩ : ∃ z, z = h7.size := ⟨_, rfl⟩
  rw [← g8] at A8 st8
  have g_b8 : n0 ≤ b8 := Nat.le_trans Z7 (Nat.le_of_eq g8.symm)
  have sz_b8 : h0.size ≤ b8 := Nat.le_trans K7.1 (Nat.le_of_eq g8.symm)
  have ne_a0_b8 : a0 ≠ b8 := Nat.ne_of_lt (Nat.lt_of_lt_of_le F_groupOf_a0_7.lt (Nat.le_of_eq g8.symm))
  have ne_b2_b8 : b2 ≠ b8 := Nat.ne_of_lt (Nat.lt_of_lt_of_le W_b2_7.lt (Nat.le_of_eq g8.symm))
  have ne_b4_b8 : b4 ≠ b8 := Nat.ne_of_lt (Nat.lt_of_lt_of_le W_b4_7.lt (Nat.le_of_eq g8.symm))
  have ne_b6_b8 : b6 ≠ b8 := Nat.ne_of_lt (Nat.lt_of_lt_of_le W_b6_7.lt (Nat.le_of_eq g8.symm))
  have F_groupOf_a0_8 := F_groupOf_a0_7.ext E8
  have F_counts_a0_8 := F_counts_a0_7.ext E8
  have F_numbered_a0_8 := F_numbered_a0_7.ext E8
  have F_live_a0_8 := F_live_a0_7.ext E8
  have E_a0_8 := E_a0_7.ext E8
  have W_b2_8 := W_b2_7.ext E8
  have F_sizes_a0_8 := F_sizes_a0_7.ext E8
  have W_b4_8 := W_b4_7.ext E8
  have F_seenIn_a0_8 := F_seenIn_a0_7.ext E8
  have W_b6_8 := W_b6_7.ext E8
  have F_counted_a0_8 := F_counted_a0_7.ext E8
  have Z8 := Nat.le_trans Z7 E8.1
  have K8 := K7.ext E8
  have W_b8 : Arl Z h8 b8 .int (List.replicate 4 (0 : Int32)) := Arl.of_new A8 (by decide) (by decide) rfl (by decide)
  refine go (B := T8.setTop (mkF m 32 #[.val (.ref a0), .val (.int (4 : Int32))] [(.ref b8), (.ref a0)])) st8 ?_
  obtain ⟨T9, h9, X9, e9, W9, st9⟩ := putF X8 hx hZ hown (host := "") (Or.inl (hw _ (List.mem_of_getElem? (i := 28) rfl))) Via.refl e8 F_groupOf_a0_8 E_a0_8 (Or.inr ⟨(hw _ (List.mem_of_getElem? (i := 29) rfl)), rfl, hnm⟩) (hw _ (List.mem_of_getElem? (i := 14) rfl)) (ty := (.array .int)) (by decide) rfl rfl (g := (mkF m 32 #[.val (.ref a0), .val (.int (4 : Int32))] [(.ref b8), (.ref a0)])) rfl rfl (hb hby d4_32)
  have F_counts_a0_9 := Fld.other W9 F_counts_a0_8 (Or.inr (slot_ne (Or.inl (hw _ (List.mem_of_getElem? (i := 44) rfl))) (Or.inr (hw _ (List.mem_of_getElem? (i := 29) rfl))) (by decide) (t := .int) (t' := (.array .int)) (by decide) (by decide)))
  have F_numbered_a0_9 := Fld.other W9 F_numbered_a0_8 (Or.inr (slot_ne (Or.inl (hw _ (List.mem_of_getElem? (i := 58) rfl))) (Or.inr (hw _ (List.mem_of_getElem? (i := 29) rfl))) (by decide) (t := .int) (t' := (.array .int)) (by decide) (by decide)))
  have F_live_a0_9 := Fld.other W9 F_live_a0_8 (Or.inr (slot_ne (Or.inl (hw _ (List.mem_of_getElem? (i := 60) rfl))) (Or.inr (hw _ (List.mem_of_getElem? (i := 29) rfl))) (by decide) (t := .int) (t' := (.array .int)) (by decide) (by decide)))
  have E_a0_9 := E_a0_8.wr W9
  have W_b2_9 := W_b2_8.other W9 (Ne.symm ne_a0_b2)
  have F_sizes_a0_9 := Fld.other W9 F_sizes_a0_8 (Or.inr (slot_ne (Or.inl (hw _ (List.mem_of_getElem? (i := 23) rfl))) (Or.inr (hw _ (List.mem_of_getElem? (i := 29) rfl))) (by decide) (t := (.array .int)) (t' := (.array .int)) (by decide) (by decide)))
  have W_b4_9 := W_b4_8.other W9 (Ne.symm ne_a0_b4)
  have F_seenIn_a0_9 := Fld.other W9 F_seenIn_a0_8 (Or.inr (slot_ne (Or.inl (hw _ (List.mem_of_getElem? (i := 25) rfl))) (Or.inr (hw _ (List.mem_of_getElem? (i := 29) rfl))) (by decide) (t := (.array .int)) (t' := (.array .int)) (by decide) (by decide)))
  have W_b6_9 := W_b6_8.other W9 (Ne.symm ne_a0_b6)
  have F_counted_a0_9 := Fld.other W9 F_counted_a0_8 (Or.inr (slot_ne (Or.inl (hw _ (List.mem_of_getElem? (i := 27) rfl))) (Or.inr (hw _ (List.mem_of_getElem? (i := 29) rfl))) (by decide) (t := (.array .int)) (t' := (.array .int)) (by decide) (by decide)))
  have W_b8_9 := W_b8.other W9 (Ne.symm ne_a0_b8)
  have F_groupOf_a0_9 := Fld.same W9 F_groupOf_a0_8
  have Z9 := Nat.le_trans Z8 (Keep.of_wr W9).1
  have K9 := K8.wr W9 (Or.inl (List.mem_of_getElem? (i := 0) rfl))
  have N9 := Fr.snoc X9 N7 g_a0
  refine go (B := T9.setTop (mkF m 35 #[.val (.ref a0), .val (.int (4 : Int32))] [])) st9 ?_
  refine go (B := T9.setTop (mkF m 36 #[.val (.ref a0), .val (.int (4 : Int32))] [(.ref a0)])) (fun _ k => XS.aloadN X9.here hx rfl (hb hby d4_35) rfl rfl k) ?_
  obtain ⟨T10, X10, e10, st10⟩ := getF X9 hx hZ hown (host := "") (Or.inl (hw _ (List.mem_of_getElem? (i := 28) rfl))) Via.refl e9 F_groupOf_a0_9 (g := (mkF m 36 #[.val (.ref a0), .val (.int (4 : Int32))] [(.ref a0)])) rfl rfl (hb hby d4_36)
  refine go (B := T10.setTop (mkF m 39 #[.val (.ref a0), .val (.int (4 : Int32))] [(.ref b8)])) st10 ?_
  refine go (B := T10.setTop (mkF m 40 #[.val (.ref a0), .val (.int (4 : Int32))] [(.int (-1 : Int32)), (.ref b8)])) (fun _ k => XS.iconst X10.here hx rfl (hb hby d4_39) k) ?_
  obtain ⟨_, _, ⟨T11, L11, k11, n11⟩, -, X11, ⟨Lc11, hQ11, l11, y11, z11⟩, st11⟩ := Jvm.LawKit.callS X10 hx (y := (⟨"java/util/Arrays", "fill", "([II)V"⟩ : MethodName)) hown (mvT hZ (hw _ (List.mem_of_getElem? (i := 30) rfl))) (mvT hZ (hw _ (List.mem_of_getElem? (i := 31) rfl))) (mvT hZ (hw _ (List.mem_of_getElem? (i := 32) rfl))) (mvT hZ (hw _ (List.mem_of_getElem? (i := 33) rfl))) (by decide) (backOf (W := 0) (rm6 l Z aw hw [] b8 (-1 : Int32) (List.replicate 4 (0 : Int32)) h9 n0 Z9 W_b8_9 List.length_replicate g_b8) hZ (hw _ (List.mem_of_getElem? (i := 33) rfl)) (hw _ (List.mem_of_getElem? (i := 32) rfl)) (by decide) (by decide)) (g := (mkF m 40 #[.val (.ref a0), .val (.int (4 : Int32))] [(.int (-1 : Int32)), (.ref b8)])) rfl (by rw [hml]; rfl) (argsL := [(.ref b8), (.int (-1 : Int32))]) (rest := []) (lenOf pd_0 rfl) rfl (by show 2 * 0 + _ ≤ _; exact Nat.le_of_eq rfl) (hb hby d4_40) (fun _ _ => ⟨rfl, e10, (by decide : 4 + 0 ≤ _), (by decide : 54 + 0 ≤ _)⟩)
  dsimp only [Pt.U, Pt.locs, Pt.cells, Pt.slots] at X11 l11 y11 z11 st11 hQ11
  subst l11 y11 z11
  obtain ⟨rfl, N11q, Kc11, o11_0, o11_1⟩ := hQ11
  have F_counts_a0_11 := F_counts_a0_9.keep Kc11 (ninS ne_a0_b8 nin0)
  have F_numbered_a0_11 := F_numbered_a0_9.keep Kc11 (ninS ne_a0_b8 nin0)
  have F_live_a0_11 := F_live_a0_9.keep Kc11 (ninS ne_a0_b8 nin0)
  have E_a0_11 := E_a0_9.keep Kc11
  have W_b2_11 := W_b2_9.keep Kc11 (ninS ne_b2_b8 nin0)
  have F_sizes_a0_11 := F_sizes_a0_9.keep Kc11 (ninS ne_a0_b8 nin0)
  have W_b4_11 := W_b4_9.keep Kc11 (ninS ne_b4_b8 nin0)
  have F_seenIn_a0_11 := F_seenIn_a0_9.keep Kc11 (ninS ne_a0_b8 nin0)
  have W_b6_11 := W_b6_9.keep Kc11 (ninS ne_b6_b8 nin0)
  have F_counted_a0_11 := F_counted_a0_9.keep Kc11 (ninS ne_a0_b8 nin0)
  have F_groupOf_a0_11 := F_groupOf_a0_9.keep Kc11 (ninS ne_a0_b8 nin0)
  have N11 := Fr.app N9 N11q
  have Z11 := Nat.le_trans Z9 Kc11.1
  have K11 := K9.trans Kc11 (allS (Or.inr sz_b8) all0)
  refine go (B := T11.setTop (mkF m 43 #[.val (.ref a0), .val (.int (4 : Int32))] [])) (fun _ k => st11 _ k) ?_
  exact end_void X11 hx Bd.notSynchronized Bd.returns (hb hby d4_43) hF rfl (by decide) (by decide) ⟨b2, b4, b6, b8, rfl, N11, K11, sz_b2, sz_b4, sz_b6, sz_b8, ne_b2_b4, ne_b2_b6, ne_b2_b8, ne_b4_b6, ne_b4_b8, ne_b6_b8, F_counts_a0_11, F_numbered_a0_11, F_live_a0_11, E_a0_11, F_sizes_a0_11, F_seenIn_a0_11, F_counted_a0_11, F_groupOf_a0_11, W_b2_11, List.length_replicate, W_b4_11, List.length_replicate, W_b6_11, List.length_replicate, o11_0, o11_1⟩
theorem d3_0 : decode jdk_29_method_69_code 0 = .ok (.iload_n 0, 1) := by decide +kernel
theorem d3_1 : decode jdk_29_method_69_code 1 = .ok (.iload_n 1, 1) := by decide +kernel
theorem d3_2 : decode jdk_29_method_69_code 2 = .ok (.if_icmp .gt 7, 3) := by decide +kernel
theorem d3_5 : decode jdk_29_method_69_code 5 = .ok (.iload_n 0, 1) := by decide +kernel
theorem d3_6 : decode jdk_29_method_69_code 6 = .ok (.goto 4, 3) := by decide +kernel
theorem d3_9 : decode jdk_29_method_69_code 9 = .ok (.iload_n 1, 1) := by decide +kernel
theorem d3_10 : decode jdk_29_method_69_code 10 = .ok (.ireturn, 1) := by decide +kernel
theorem ef_3 (m : MethodId) (p0 : Int32) (p1 : Int32) : entryFrame m #[(.int p0), (.int p1)] 2 = mkF m 0 #[.val (.int p0), .val (.int p1)] [] := by first | (simp [entryFrame, mkF, argsToLocals, Value.category]; done) | rfl
def f3 (p0 : Int32) (p1 : Int32) : Int32 := if p1 < p0 then p1 else p0
abbrev room3 : Room := { frames := 0, cells := 0, slots := 0, locals := 0 }
def Q3 (Z : State) (p0 : Int32) (p1 : Int32) (h0 : Heap) (n0 : Nat) (v : Option Value) (h : Heap) (L : List Loc) : Prop := v = some (.int (f3 p0 p1)) ∧ L = [] ∧ h = h0
set_option maxRecDepth 65536 in
set_option maxHeartbeats 40000000 in
theorem rm3 (l : Launch) (Z : State) (aw : Array Value) (hw : ∀ d ∈ tables_1, d.before aw Z = true) (ws : List Jvm.Cond) (p0 : Int32) (p1 : Int32) (h0 : Heap) (n0 : Nat) (Z0 : n0 ≤ h0.size) :
    MetFree l (⟨"java/lang/Math", "min", "(II)I"⟩ : MethodName) (head1 (Jvm.Cond.code (⟨"java/lang/Math", "min", "(II)I"⟩ : MethodName) jdk_29_method_69_code 2 (some .int) :: ws) room3) (fun a U => a = #[(.int p0), (.int p1)] ∧ Z.Warmed39 U.vm ∧ U.heap = h0) (fun _ _ _ _ _ => True) (fun _ U o U' => ∃ v L, o = .returned v ∧ Q3 Z p0 p1 h0 n0 v U'.heap L ∧ FrameEnd U o U' L room3.cells room3.slots) := by
  refine MetFree.of_bodySF (Jvm.Free.JP.mathPlain rfl (by decide +kernel)) hisR ?_
  intro p e s m args below meth c s₁ Bd hml0 hP hK
  obtain ⟨rfl, hZ, hh⟩ := hP
  have hx := Bd.exec
  have hby := Bd.bytes
  have hml : c.maxLocals = 2 := hml0
  have hown : s.vm.findClass "java/lang/Math" = some m.cls := findClass_of_methodNamed Bd.named
  have hnm := (name_of_methodNamed Bd.named Bd.method).1
  have X0 : Stand p l e room3 s m #[(.int p0), (.int p1)] below meth c s₁ [] 0 0 := Stand.of_body Bd
  have e0 : s₁.heap = h0 := by rw [← hh, Bd.state]; rfl
  have N0 := Fr.nil n0
  rw [ef_3 m p0 p1]
  refine go_in (s₁ := s₁) (Q := Q3 Z p0 p1 h0 n0) fun F hF => ?_
  refine go (B := s₁.setTop (mkF m 1 #[.val (.int p0), .val (.int p1)] [(.int p0)])) (fun _ k => XS.iloadN X0.here hx rfl (hb hby d3_0) rfl k) ?_
  refine go (B := s₁.setTop (mkF m 2 #[.val (.int p0), .val (.int p1)] [(.int p1), (.int p0)])) (fun _ k => XS.iloadN X0.here hx rfl (hb hby d3_1) rfl k) ?_
  by_cases hc1 : p1 < p0
  · refine go (B := s₁.setTop (mkF m 9 #[.val (.int p0), .val (.int p1)] [])) (fun _ k => XS.icmpYes X0.here hx rfl (pc0 := 2) (pc' := 9) rfl (hb hby d3_2) rfl (tlt hc1).2.2.1 (by decide) (by decide) k) ?_
    refine go (B := s₁.setTop (mkF m 10 #[.val (.int p0), .val (.int p1)] [(.int p1)])) (fun _ k => XS.iloadN X0.here hx rfl (hb hby d3_9) rfl k) ?_
    have r2 : (f3 p0 p1) = p1 := by unfold f3; rw [if_pos hc1]
    exact end_int X0 hx Bd.notSynchronized Bd.returns (hb hby d3_10) hF e0 (by decide) (by decide) ⟨(congrArg (fun z => some (Value.int z)) r2.symm), rfl, rfl⟩
  · refine go (B := s₁.setTop (mkF m 5 #[.val (.int p0), .val (.int p1)] [])) (fun _ k => XS.icmpNo X0.here hx rfl (hb hby d3_2) rfl (flt hc1).2.2.1 k) ?_
    refine go (B := s₁.setTop (mkF m 6 #[.val (.int p0), .val (.int p1)] [(.int p0)])) (fun _ k => XS.iloadN X0.here hx rfl (hb hby d3_5) rfl k) ?_
    refine go (B := s₁.setTop (mkF m 10 #[.val (.int p0), .val (.int p1)] [(.int p0)])) (fun _ k => XS.goto X0.here hx rfl (pc0 := 6) (pc' := 10) rfl (hb hby d3_6) (by decide) (by decide) k) ?_
    have r3 : (f3 p0 p1) = p0 := by unfold f3; rw [if_neg hc1]
    exact end_int X0 hx Bd.notSynchronized Bd.returns (hb hby d3_10) hF e0 (by decide) (by decide) ⟨(congrArg (fun z => some (Value.int z)) r3.symm), rfl, rfl⟩
theorem pd_1 : parseMethodDescriptor "(II)I" = some ⟨[.int, .int], some .int⟩ := by decide +kernel
theorem d2_0 : decode method_2_code 0 = .ok (.iload_n 0, 1) := by decide +kernel
theorem d2_1 : decode method_2_code 1 = .ok (.iconst 2, 1) := by decide +kernel
theorem d2_2 : decode method_2_code 2 = .ok (.iushr, 1) := by decide +kernel
theorem d2_3 : decode method_2_code 3 = .ok (.iconst 3, 1) := by decide +kernel
theorem d2_4 : decode method_2_code 4 = .ok (.iand, 1) := by decide +kernel
theorem d2_5 : decode method_2_code 5 = .ok (.iconst 2, 1) := by decide +kernel
theorem d2_6 : decode method_2_code 6 = .ok (.invokestatic 7, 3) := by decide +kernel
theorem d2_9 : decode method_2_code 9 = .ok (.ireturn, 1) := by decide +kernel
theorem pn_2 : plainName "com/example/constrained_flow/constrainedflow/planner/search/GroupsWaitsPinLaw" = true := by first | (simp [plainName, overriddenIn]; done) | decide +kernel
theorem ef_2 (m : MethodId) (p0 : Int32) : entryFrame m #[(.int p0)] 1 = mkF m 0 #[.val (.int p0)] [] := by first | (simp [entryFrame, mkF, argsToLocals, Value.category]; done) | rfl
def f2_t0 (p0 : Int32) : Int32 := (f3 (((p0.toUInt32 >>> ((2 : Int32) &&& 31).toUInt32).toInt32) &&& (3 : Int32)) (2 : Int32))
def f2 (p0 : Int32) : Int32 := (f2_t0 p0)
abbrev room2 : Room := { frames := 1, cells := 0, slots := 0, locals := 13 }
def Q2 (Z : State) (p0 : Int32) (h0 : Heap) (n0 : Nat) (v : Option Value) (h : Heap) (L : List Loc) : Prop := v = some (.int (f2 p0)) ∧ L = [] ∧ h = h0
set_option maxRecDepth 65536 in
set_option maxHeartbeats 40000000 in
theorem rm2 (l : Launch) (Z : State) (aw : Array Value) (hw : ∀ d ∈ tables_1, d.before aw Z = true) (ws : List Jvm.Cond) (p0 : Int32) (h0 : Heap) (n0 : Nat) (Z0 : n0 ≤ h0.size) :
    MetFree l (⟨"com/example/constrained_flow/constrainedflow/planner/search/GroupsWaitsPinLaw", "count", "(I)I"⟩ : MethodName) (head1 (Jvm.Cond.code (⟨"com/example/constrained_flow/constrainedflow/planner/search/GroupsWaitsPinLaw", "count", "(I)I"⟩ : MethodName) method_2_code 1 (some .int) :: ws) room2) (fun a U => a = #[(.int p0)] ∧ Z.Warmed39 U.vm ∧ U.heap = h0) (fun _ _ _ _ _ => True) (fun _ U o U' => ∃ v L, o = .returned v ∧ Q2 Z p0 h0 n0 v U'.heap L ∧ FrameEnd U o U' L room2.cells room2.slots) := by
  refine MetFree.of_bodySF (plainFor_of_name pn_2) hisR ?_
  intro p e s m args below meth c s₁ Bd hml0 hP hK
  obtain ⟨rfl, hZ, hh⟩ := hP
  have hx := Bd.exec
  have hby := Bd.bytes
  have hml : c.maxLocals = 1 := hml0
  have hown : s.vm.findClass "com/example/constrained_flow/constrainedflow/planner/search/GroupsWaitsPinLaw" = some m.cls := findClass_of_methodNamed Bd.named
  have hnm := (name_of_methodNamed Bd.named Bd.method).1
  have X0 : Stand p l e room2 s m #[(.int p0)] below meth c s₁ [] 0 0 := Stand.of_body Bd
  have e0 : s₁.heap = h0 := by rw [← hh, Bd.state]; rfl
  have N0 := Fr.nil n0
  rw [ef_2 m p0]
  refine go_in (s₁ := s₁) (Q := Q2 Z p0 h0 n0) fun F hF => ?_
  refine go (B := s₁.setTop (mkF m 1 #[.val (.int p0)] [(.int p0)])) (fun _ k => XS.iloadN X0.here hx rfl (hb hby d2_0) rfl k) ?_
  refine go (B := s₁.setTop (mkF m 2 #[.val (.int p0)] [(.int (2 : Int32)), (.int p0)])) (fun _ k => XS.iconst X0.here hx rfl (hb hby d2_1) k) ?_
  refine go (B := s₁.setTop (mkF m 3 #[.val (.int p0)] [(.int ((p0.toUInt32 >>> ((2 : Int32) &&& 31).toUInt32).toInt32))])) (fun _ k => XS.iushr X0.here hx rfl (hb hby d2_2) rfl k) ?_
  refine go (B := s₁.setTop (mkF m 4 #[.val (.int p0)] [(.int (3 : Int32)), (.int ((p0.toUInt32 >>> ((2 : Int32) &&& 31).toUInt32).toInt32))])) (fun _ k => XS.iconst X0.here hx rfl (hb hby d2_3) k) ?_
  refine go (B := s₁.setTop (mkF m 5 #[.val (.int p0)] [(.int (((p0.toUInt32 >>> ((2 : Int32) &&& 31).toUInt32).toInt32) &&& (3 : Int32)))])) (fun _ k => XS.iand X0.here hx rfl (hb hby d2_4) rfl k) ?_
  refine go (B := s₁.setTop (mkF m 6 #[.val (.int p0)] [(.int (2 : Int32)), (.int (((p0.toUInt32 >>> ((2 : Int32) &&& 31).toUInt32).toInt32) &&& (3 : Int32)))])) (fun _ k => XS.iconst X0.here hx rfl (hb hby d2_5) k) ?_
  obtain ⟨_, _, ⟨T1, L1, k1, n1⟩, -, X1, ⟨Lc1, hQ1, l1, y1, z1⟩, st1⟩ := Jvm.LawKit.callS X0 hx (y := (⟨"java/lang/Math", "min", "(II)I"⟩ : MethodName)) hown (mvT hZ (hw _ (List.mem_of_getElem? (i := 8) rfl))) (mvT hZ (hw _ (List.mem_of_getElem? (i := 9) rfl))) (mvT hZ (hw _ (List.mem_of_getElem? (i := 10) rfl))) (mvT hZ (hw _ (List.mem_of_getElem? (i := 11) rfl))) (by decide) (backOf (W := 0) (rm3 l Z aw hw [] (((p0.toUInt32 >>> ((2 : Int32) &&& 31).toUInt32).toInt32) &&& (3 : Int32)) (2 : Int32) h0 n0 Z0 ) hZ (hw _ (List.mem_of_getElem? (i := 11) rfl)) (hw _ (List.mem_of_getElem? (i := 10) rfl)) (by decide) (by decide)) (g := (mkF m 6 #[.val (.int p0)] [(.int (2 : Int32)), (.int (((p0.toUInt32 >>> ((2 : Int32) &&& 31).toUInt32).toInt32) &&& (3 : Int32)))])) rfl (by rw [hml]; rfl) (argsL := [(.int (((p0.toUInt32 >>> ((2 : Int32) &&& 31).toUInt32).toInt32) &&& (3 : Int32))), (.int (2 : Int32))]) (rest := []) (lenOf pd_1 rfl) rfl (by show 2 * 0 + _ ≤ _; exact Nat.le_of_eq rfl) (hb hby d2_6) (fun _ _ => ⟨rfl, e0, (by decide : 0 + 0 ≤ _), (by decide : 0 + 0 ≤ _)⟩)
  dsimp only [Pt.U, Pt.locs, Pt.cells, Pt.slots] at X1 l1 y1 z1 st1 hQ1
  subst l1 y1 z1
  obtain ⟨rfl, rfl, e1⟩ := hQ1
  refine go (B := T1.setTop (mkF m 9 #[.val (.int p0)] [(.int (f2_t0 p0))])) (fun _ k => st1 _ k) ?_
  have r2 : (f2 p0) = (f2_t0 p0) := by unfold f2; rfl
  exact end_int X1 hx Bd.notSynchronized Bd.returns (hb hby d2_9) hF e1 (by decide) (by decide) ⟨(congrArg (fun z => some (Value.int z)) r2.symm), rfl, rfl⟩
theorem own_cnt (x : Int32) : 0 ≤ (f2 x).toInt ∧ (f2 x).toInt ≤ 2 := by
  unfold f2 f2_t0 f3
  have h := own_a3 ((x.toUInt32 >>> ((2 : Int32) &&& 31).toUInt32).toInt32)
  generalize ((x.toUInt32 >>> ((2 : Int32) &&& 31).toUInt32).toInt32) &&& (3 : Int32) = y at *
  split
  · decide
  · rename_i q
    rw [Int32.lt_iff_toInt_lt] at q
    have : (2 : Int32).toInt = 2 := rfl
    omega
theorem pd_2 : parseMethodDescriptor "(I)I" = some ⟨[.int], some .int⟩ := by decide +kernel
theorem d1_0 : decode method_3_code 0 = .ok (.iload_n 0, 1) := by decide +kernel
theorem d1_1 : decode method_3_code 1 = .ok (.invokestatic 13, 3) := by decide +kernel
theorem d1_4 : decode method_3_code 4 = .ok (.istore_n 1, 1) := by decide +kernel
theorem d1_5 : decode method_3_code 5 = .ok (.iload_n 1, 1) := by decide +kernel
theorem d1_6 : decode method_3_code 6 = .ok (.newarray .int, 2) := by decide +kernel
theorem d1_8 : decode method_3_code 8 = .ok (.astore_n 2, 1) := by decide +kernel
theorem d1_9 : decode method_3_code 9 = .ok (.iload_n 1, 1) := by decide +kernel
theorem d1_10 : decode method_3_code 10 = .ok (.iconst 1, 1) := by decide +kernel
theorem d1_11 : decode method_3_code 11 = .ok (.if_icmp .lt 11, 3) := by decide +kernel
theorem d1_14 : decode method_3_code 14 = .ok (.aload_n 2, 1) := by decide +kernel
theorem d1_15 : decode method_3_code 15 = .ok (.iconst 0, 1) := by decide +kernel
theorem d1_16 : decode method_3_code 16 = .ok (.iload_n 0, 1) := by decide +kernel
theorem d1_17 : decode method_3_code 17 = .ok (.iconst 4, 1) := by decide +kernel
theorem d1_18 : decode method_3_code 18 = .ok (.iushr, 1) := by decide +kernel
theorem d1_19 : decode method_3_code 19 = .ok (.iconst 3, 1) := by decide +kernel
theorem d1_20 : decode method_3_code 20 = .ok (.iand, 1) := by decide +kernel
theorem d1_21 : decode method_3_code 21 = .ok (.iastore, 1) := by decide +kernel
theorem d1_22 : decode method_3_code 22 = .ok (.iload_n 1, 1) := by decide +kernel
theorem d1_23 : decode method_3_code 23 = .ok (.iconst 2, 1) := by decide +kernel
theorem d1_24 : decode method_3_code 24 = .ok (.if_icmp .lt 12, 3) := by decide +kernel
theorem d1_27 : decode method_3_code 27 = .ok (.aload_n 2, 1) := by decide +kernel
theorem d1_28 : decode method_3_code 28 = .ok (.iconst 1, 1) := by decide +kernel
theorem d1_29 : decode method_3_code 29 = .ok (.iload_n 0, 1) := by decide +kernel
theorem d1_30 : decode method_3_code 30 = .ok (.bipush 6, 2) := by decide +kernel
theorem d1_32 : decode method_3_code 32 = .ok (.iushr, 1) := by decide +kernel
theorem d1_33 : decode method_3_code 33 = .ok (.iconst 3, 1) := by decide +kernel
theorem d1_34 : decode method_3_code 34 = .ok (.iand, 1) := by decide +kernel
theorem d1_35 : decode method_3_code 35 = .ok (.iastore, 1) := by decide +kernel
theorem d1_36 : decode method_3_code 36 = .ok (.aload_n 2, 1) := by decide +kernel
theorem d1_37 : decode method_3_code 37 = .ok (.areturn, 1) := by decide +kernel
theorem ef_1 (m : MethodId) (p0 : Int32) : entryFrame m #[(.int p0)] 3 = mkF m 0 #[.val (.int p0), .unset, .unset] [] := by first | (simp [entryFrame, mkF, argsToLocals, Value.category]; done) | rfl
def f1_l0 (p0 : Int32) : List Int32 := (List.set (List.replicate ((f2 p0)).toNatClampNeg (0 : Int32)) 0 (((p0.toUInt32 >>> ((4 : Int32) &&& 31).toUInt32).toInt32) &&& (3 : Int32)))
def f1_l1 (p0 : Int32) : List Int32 := if (f2 p0) < (1 : Int32) then (List.replicate ((f2 p0)).toNatClampNeg (0 : Int32)) else (f1_l0 p0)
def f1_l2 (p0 : Int32) : List Int32 := (List.set (f1_l1 p0) 1 (((p0.toUInt32 >>> ((6 : Int32) &&& 31).toUInt32).toInt32) &&& (3 : Int32)))
def f1_l3 (p0 : Int32) : List Int32 := if (f2 p0) < (2 : Int32) then (f1_l1 p0) else (f1_l2 p0)
abbrev room1 : Room := { frames := 2, cells := 1, slots := 2, locals := 25 }
def Q1 (Z : State) (p0 : Int32) (h0 : Heap) (n0 : Nat) (v : Option Value) (h : Heap) (L : List Loc) : Prop := ∃ b2 : Addr, v = some (.ref b2) ∧ Fr n0 L ∧ Keep h0 h [] ∧ h0.size ≤ b2 ∧ Arl Z h b2 .int (f1_l3 p0)
set_option maxRecDepth 65536 in
set_option maxHeartbeats 40000000 in
theorem rm1 (l : Launch) (Z : State) (aw : Array Value) (hw : ∀ d ∈ tables_1, d.before aw Z = true) (ws : List Jvm.Cond) (p0 : Int32) (h0 : Heap) (n0 : Nat) (Z0 : n0 ≤ h0.size) :
    MetFree l (⟨"com/example/constrained_flow/constrainedflow/planner/search/GroupsWaitsPinLaw", "below", "(I)[I"⟩ : MethodName) (head1 (Jvm.Cond.code (⟨"com/example/constrained_flow/constrainedflow/planner/search/GroupsWaitsPinLaw", "below", "(I)[I"⟩ : MethodName) method_3_code 3 (some (.array .int)) :: ws) room1) (fun a U => a = #[(.int p0)] ∧ Z.Warmed39 U.vm ∧ U.heap = h0) (fun _ _ _ _ _ => True) (fun _ U o U' => ∃ v L, o = .returned v ∧ Q1 Z p0 h0 n0 v U'.heap L ∧ FrameEnd U o U' L room1.cells room1.slots) := by
  refine MetFree.of_bodySF (plainFor_of_name pn_2) hisR ?_
  intro p e s m args below meth c s₁ Bd hml0 hP hK
  obtain ⟨rfl, hZ, hh⟩ := hP
  have hx := Bd.exec
  have hby := Bd.bytes
  have hml : c.maxLocals = 3 := hml0
  have hown : s.vm.findClass "com/example/constrained_flow/constrainedflow/planner/search/GroupsWaitsPinLaw" = some m.cls := findClass_of_methodNamed Bd.named
  have hnm := (name_of_methodNamed Bd.named Bd.method).1
  have X0 : Stand p l e room1 s m #[(.int p0)] below meth c s₁ [] 0 0 := Stand.of_body Bd
  have e0 : s₁.heap = h0 := by rw [← hh, Bd.state]; rfl
  have N0 := Fr.nil n0
  have K0 := Keep.refl h0 []
  rw [ef_1 m p0]
  refine go_in (s₁ := s₁) (Q := Q1 Z p0 h0 n0) fun F hF => ?_
  refine go (B := s₁.setTop (mkF m 1 #[.val (.int p0), .unset, .unset] [(.int p0)])) (fun _ k => XS.iloadN X0.here hx rfl (hb hby d1_0) rfl k) ?_
  obtain ⟨_, _, ⟨T1, L1, k1, n1⟩, -, X1, ⟨Lc1, hQ1, l1, y1, z1⟩, st1⟩ := Jvm.LawKit.callS X0 hx (y := (⟨"com/example/constrained_flow/constrainedflow/planner/search/GroupsWaitsPinLaw", "count", "(I)I"⟩ : MethodName)) hown (mvT hZ (hw _ (List.mem_of_getElem? (i := 5) rfl))) (mvT hZ (hw _ (List.mem_of_getElem? (i := 6) rfl))) (mvT hZ (hw _ (List.mem_of_getElem? (i := 3) rfl))) (mvT hZ (hw _ (List.mem_of_getElem? (i := 7) rfl))) (by decide) (backOf (W := 0) (rm2 l Z aw hw [] p0 h0 n0 Z0 ) hZ (hw _ (List.mem_of_getElem? (i := 7) rfl)) (hw _ (List.mem_of_getElem? (i := 3) rfl)) (by decide) (by decide)) (g := (mkF m 1 #[.val (.int p0), .unset, .unset] [(.int p0)])) rfl (by rw [hml]; rfl) (argsL := [(.int p0)]) (rest := []) (lenOf pd_2 rfl) rfl (by show 2 * 0 + _ ≤ _; exact Nat.le_of_eq rfl) (hb hby d1_1) (fun _ _ => ⟨rfl, e0, (by decide : 0 + 0 ≤ _), (by decide : 0 + 0 ≤ _)⟩)
  dsimp only [Pt.U, Pt.locs, Pt.cells, Pt.slots] at X1 l1 y1 z1 st1 hQ1
  subst l1 y1 z1
  obtain ⟨rfl, rfl, e1⟩ := hQ1
  have N1 := Fr.app N0 (Fr.nil n0)
  refine go (B := T1.setTop (mkF m 4 #[.val (.int p0), .unset, .unset] [(.int (f2 p0))])) (fun _ k => st1 _ k) ?_
  refine go (B := T1.setTop (mkF m 5 #[.val (.int p0), .val (.int (f2 p0)), .unset] [])) (fun _ k => XS.istoreN X1.here hx rfl (hb hby d1_4) rfl (l' := #[.val (.int p0), .val (.int (f2 p0)), .unset]) rfl k) ?_
  refine go (B := T1.setTop (mkF m 6 #[.val (.int p0), .val (.int (f2 p0)), .unset] [(.int (f2 p0))])) (fun _ k => XS.iloadN X1.here hx rfl (hb hby d1_5) rfl k) ?_
  obtain ⟨T2, h2, k2, X2, e2, E2, A2, st2⟩ := newP X1 hx hZ (hw _ (List.mem_of_getElem? (i := 12) rfl)) e1 (g := (mkF m 6 #[.val (.int p0), .val (.int (f2 p0)), .unset] [(.int (f2 p0))])) rfl (hb hby d1_6) rfl (own_nn (own_cnt p0).1) (cap := 2) (by simp only [Int32.toNatClampNeg]; have := (own_cnt p0).2; omega) (by decide) (by decide) (by decide)
  obtain ⟨b2, g2⟩ : ∃ z, z = h0.size := ⟨_, rfl⟩
  rw [← g2] at A2 st2
  have g_b2 : n0 ≤ b2 := Nat.le_trans Z0 (Nat.le_of_eq g2.symm)
  have sz_b2 : h0.size ≤ b2 := Nat.le_trans K0.1 (Nat.le_of_eq g2.symm)
  have Z2 := Nat.le_trans Z0 E2.1
  have K2 := K0.ext E2
  have W_b2 : Arl Z h2 b2 .int (List.replicate ((f2 p0)).toNatClampNeg (0 : Int32)) := Arl.of_new A2 (own_nn (own_cnt p0).1) rfl rfl (Nat.lt_of_le_of_lt (show ((f2 p0)).toNatClampNeg ≤ 2 from (by simp only [Int32.toNatClampNeg]; have := (own_cnt p0).2; omega)) (by decide))
  refine go (B := T2.setTop (mkF m 8 #[.val (.int p0), .val (.int (f2 p0)), .unset] [(.ref b2)])) st2 ?_
  refine go (B := T2.setTop (mkF m 9 #[.val (.int p0), .val (.int (f2 p0)), .val (.ref b2)] [])) (fun _ k => XS.astoreN X2.here hx rfl (hb hby d1_8) rfl rfl (l' := #[.val (.int p0), .val (.int (f2 p0)), .val (.ref b2)]) rfl k) ?_
  refine go (B := T2.setTop (mkF m 10 #[.val (.int p0), .val (.int (f2 p0)), .val (.ref b2)] [(.int (f2 p0))])) (fun _ k => XS.iloadN X2.here hx rfl (hb hby d1_9) rfl k) ?_
  refine go (B := T2.setTop (mkF m 11 #[.val (.int p0), .val (.int (f2 p0)), .val (.ref b2)] [(.int (1 : Int32)), (.int (f2 p0))])) (fun _ k => XS.iconst X2.here hx rfl (hb hby d1_10) k) ?_
  suffices Kj3 : ∀ (T3 : State) (h3 : Heap) (L3 : List Loc), Stand p l e room1 s m #[(.int p0)] below meth c T3 L3 1 2 → Fr n0 L3 → T3.heap = h3 → n0 ≤ h3.size → Keep h0 h3 [] → Arl Z h3 b2 .int (f1_l1 p0) → Go p.tables e below F (T3.setTop (mkF m 22 #[.val (.int p0), .val (.int (f2 p0)), .val (.ref b2)] [])) by
    by_cases hc4 : (f2 p0) < (1 : Int32)
    · refine go (B := T2.setTop (mkF m 22 #[.val (.int p0), .val (.int (f2 p0)), .val (.ref b2)] [])) (fun _ k => XS.icmpYes X2.here hx rfl (pc0 := 11) (pc' := 22) rfl (hb hby d1_11) rfl (tlt hc4).1 (by decide) (by decide) k) ?_
      rw [show (f1_l1 p0) = (List.replicate ((f2 p0)).toNatClampNeg (0 : Int32)) from by unfold f1_l1; rw [if_pos hc4]] at Kj3
      exact Kj3 _ _ _ X2 N1 e2 Z2 K2 W_b2
    · refine go (B := T2.setTop (mkF m 14 #[.val (.int p0), .val (.int (f2 p0)), .val (.ref b2)] [])) (fun _ k => XS.icmpNo X2.here hx rfl (hb hby d1_11) rfl (flt hc4).1 k) ?_
      refine go (B := T2.setTop (mkF m 15 #[.val (.int p0), .val (.int (f2 p0)), .val (.ref b2)] [(.ref b2)])) (fun _ k => XS.aloadN X2.here hx rfl (hb hby d1_14) rfl rfl k) ?_
      refine go (B := T2.setTop (mkF m 16 #[.val (.int p0), .val (.int (f2 p0)), .val (.ref b2)] [(.int (0 : Int32)), (.ref b2)])) (fun _ k => XS.iconst X2.here hx rfl (hb hby d1_15) k) ?_
      refine go (B := T2.setTop (mkF m 17 #[.val (.int p0), .val (.int (f2 p0)), .val (.ref b2)] [(.int p0), (.int (0 : Int32)), (.ref b2)])) (fun _ k => XS.iloadN X2.here hx rfl (hb hby d1_16) rfl k) ?_
      refine go (B := T2.setTop (mkF m 18 #[.val (.int p0), .val (.int (f2 p0)), .val (.ref b2)] [(.int (4 : Int32)), (.int p0), (.int (0 : Int32)), (.ref b2)])) (fun _ k => XS.iconst X2.here hx rfl (hb hby d1_17) k) ?_
      refine go (B := T2.setTop (mkF m 19 #[.val (.int p0), .val (.int (f2 p0)), .val (.ref b2)] [(.int ((p0.toUInt32 >>> ((4 : Int32) &&& 31).toUInt32).toInt32)), (.int (0 : Int32)), (.ref b2)])) (fun _ k => XS.iushr X2.here hx rfl (hb hby d1_18) rfl k) ?_
      refine go (B := T2.setTop (mkF m 20 #[.val (.int p0), .val (.int (f2 p0)), .val (.ref b2)] [(.int (3 : Int32)), (.int ((p0.toUInt32 >>> ((4 : Int32) &&& 31).toUInt32).toInt32)), (.int (0 : Int32)), (.ref b2)])) (fun _ k => XS.iconst X2.here hx rfl (hb hby d1_19) k) ?_
      refine go (B := T2.setTop (mkF m 21 #[.val (.int p0), .val (.int (f2 p0)), .val (.ref b2)] [(.int (((p0.toUInt32 >>> ((4 : Int32) &&& 31).toUInt32).toInt32) &&& (3 : Int32))), (.int (0 : Int32)), (.ref b2)])) (fun _ k => XS.iand X2.here hx rfl (hb hby d1_20) rfl k) ?_
      obtain ⟨cl5, Ar5, hin5, hat5, up5⟩ := Arl.in W_b2 (j := (0 : Int32)) (by decide) (by show 0 < _; simp only [List.length_set, List.length_replicate] <;> exact own_ge1 hc4)
      obtain ⟨T5, h5, X5, e5, W5, st5⟩ := stI X2 hx hZ e2 Ar5 (j := (0 : Int32)) hin5 (g := (mkF m 21 #[.val (.int p0), .val (.int (f2 p0)), .val (.ref b2)] [(.int (((p0.toUInt32 >>> ((4 : Int32) &&& 31).toUInt32).toInt32) &&& (3 : Int32))), (.int (0 : Int32)), (.ref b2)])) rfl rfl (hb hby d1_21)
      have Z5 := Nat.le_trans Z2 (Keep.of_wr W5).1
      have K5 := K2.wr W5 (Or.inr sz_b2)
      have N5 := Fr.snoc X5 N1 g_b2
      have W_b2_5 : Arl Z h5 b2 .int (f1_l0 p0) := up5 W5
      refine go (B := T5.setTop (mkF m 22 #[.val (.int p0), .val (.int (f2 p0)), .val (.ref b2)] [])) st5 ?_
      rw [show (f1_l1 p0) = (f1_l0 p0) from by unfold f1_l1; rw [if_neg hc4]] at Kj3
      exact Kj3 _ _ _ X5 N5 e5 Z5 K5 W_b2_5
  intro T3 h3 L3 X3 N3 e3 Z3 K3 W_b2_3
  refine go (B := T3.setTop (mkF m 23 #[.val (.int p0), .val (.int (f2 p0)), .val (.ref b2)] [(.int (f2 p0))])) (fun _ k => XS.iloadN X3.here hx rfl (hb hby d1_22) rfl k) ?_
  refine go (B := T3.setTop (mkF m 24 #[.val (.int p0), .val (.int (f2 p0)), .val (.ref b2)] [(.int (2 : Int32)), (.int (f2 p0))])) (fun _ k => XS.iconst X3.here hx rfl (hb hby d1_23) k) ?_
  suffices Kj6 : ∀ (T6 : State) (h6 : Heap) (L6 : List Loc), Stand p l e room1 s m #[(.int p0)] below meth c T6 L6 1 2 → Fr n0 L6 → T6.heap = h6 → n0 ≤ h6.size → Keep h0 h6 [] → Arl Z h6 b2 .int (f1_l3 p0) → Go p.tables e below F (T6.setTop (mkF m 36 #[.val (.int p0), .val (.int (f2 p0)), .val (.ref b2)] [])) by
    by_cases hc7 : (f2 p0) < (2 : Int32)
    · refine go (B := T3.setTop (mkF m 36 #[.val (.int p0), .val (.int (f2 p0)), .val (.ref b2)] [])) (fun _ k => XS.icmpYes X3.here hx rfl (pc0 := 24) (pc' := 36) rfl (hb hby d1_24) rfl (tlt hc7).1 (by decide) (by decide) k) ?_
      rw [show (f1_l3 p0) = (f1_l1 p0) from by unfold f1_l3; rw [if_pos hc7]] at Kj6
      exact Kj6 _ _ _ X3 N3 e3 Z3 K3 W_b2_3
    · refine go (B := T3.setTop (mkF m 27 #[.val (.int p0), .val (.int (f2 p0)), .val (.ref b2)] [])) (fun _ k => XS.icmpNo X3.here hx rfl (hb hby d1_24) rfl (flt hc7).1 k) ?_
      refine go (B := T3.setTop (mkF m 28 #[.val (.int p0), .val (.int (f2 p0)), .val (.ref b2)] [(.ref b2)])) (fun _ k => XS.aloadN X3.here hx rfl (hb hby d1_27) rfl rfl k) ?_
      refine go (B := T3.setTop (mkF m 29 #[.val (.int p0), .val (.int (f2 p0)), .val (.ref b2)] [(.int (1 : Int32)), (.ref b2)])) (fun _ k => XS.iconst X3.here hx rfl (hb hby d1_28) k) ?_
      refine go (B := T3.setTop (mkF m 30 #[.val (.int p0), .val (.int (f2 p0)), .val (.ref b2)] [(.int p0), (.int (1 : Int32)), (.ref b2)])) (fun _ k => XS.iloadN X3.here hx rfl (hb hby d1_29) rfl k) ?_
      refine go (B := T3.setTop (mkF m 32 #[.val (.int p0), .val (.int (f2 p0)), .val (.ref b2)] [(.int (6 : Int32)), (.int p0), (.int (1 : Int32)), (.ref b2)])) (fun _ k => XS.bipush X3.here hx rfl (hb hby d1_30) k) ?_
      refine go (B := T3.setTop (mkF m 33 #[.val (.int p0), .val (.int (f2 p0)), .val (.ref b2)] [(.int ((p0.toUInt32 >>> ((6 : Int32) &&& 31).toUInt32).toInt32)), (.int (1 : Int32)), (.ref b2)])) (fun _ k => XS.iushr X3.here hx rfl (hb hby d1_32) rfl k) ?_
      refine go (B := T3.setTop (mkF m 34 #[.val (.int p0), .val (.int (f2 p0)), .val (.ref b2)] [(.int (3 : Int32)), (.int ((p0.toUInt32 >>> ((6 : Int32) &&& 31).toUInt32).toInt32)), (.int (1 : Int32)), (.ref b2)])) (fun _ k => XS.iconst X3.here hx rfl (hb hby d1_33) k) ?_
      refine go (B := T3.setTop (mkF m 35 #[.val (.int p0), .val (.int (f2 p0)), .val (.ref b2)] [(.int (((p0.toUInt32 >>> ((6 : Int32) &&& 31).toUInt32).toInt32) &&& (3 : Int32))), (.int (1 : Int32)), (.ref b2)])) (fun _ k => XS.iand X3.here hx rfl (hb hby d1_34) rfl k) ?_
      obtain ⟨cl8, Ar8, hin8, hat8, up8⟩ := Arl.in W_b2_3 (j := (1 : Int32)) (by decide) (by show 1 < _; unfold f1_l1; split <;> simp only [f1_l0, List.length_set, List.length_replicate] <;> exact own_ge2 hc7)
      obtain ⟨T8, h8, X8, e8, W8, st8⟩ := stI X3 hx hZ e3 Ar8 (j := (1 : Int32)) hin8 (g := (mkF m 35 #[.val (.int p0), .val (.int (f2 p0)), .val (.ref b2)] [(.int (((p0.toUInt32 >>> ((6 : Int32) &&& 31).toUInt32).toInt32) &&& (3 : Int32))), (.int (1 : Int32)), (.ref b2)])) rfl rfl (hb hby d1_35)
      have Z8 := Nat.le_trans Z3 (Keep.of_wr W8).1
      have K8 := K3.wr W8 (Or.inr sz_b2)
      have N8 := Fr.snoc X8 N3 g_b2
      have W_b2_8 : Arl Z h8 b2 .int (f1_l2 p0) := up8 W8
      refine go (B := T8.setTop (mkF m 36 #[.val (.int p0), .val (.int (f2 p0)), .val (.ref b2)] [])) st8 ?_
      rw [show (f1_l3 p0) = (f1_l2 p0) from by unfold f1_l3; rw [if_neg hc7]] at Kj6
      exact Kj6 _ _ _ X8 N8 e8 Z8 K8 W_b2_8
  intro T6 h6 L6 X6 N6 e6 Z6 K6 W_b2_6
  refine go (B := T6.setTop (mkF m 37 #[.val (.int p0), .val (.int (f2 p0)), .val (.ref b2)] [(.ref b2)])) (fun _ k => XS.aloadN X6.here hx rfl (hb hby d1_36) rfl rfl k) ?_
  exact end_ref X6 hx Bd.notSynchronized Bd.returns rfl rfl rfl (hb hby d1_37) hF e6 (by decide) (by decide) ⟨b2, rfl, N6, K6, sz_b2, W_b2_6⟩
theorem d9_0 : decode method_4_code 0 = .ok (.iload_n 1, 1) := by decide +kernel
theorem d9_1 : decode method_4_code 1 = .ok (.invokestatic 13, 3) := by decide +kernel
theorem d9_4 : decode method_4_code 4 = .ok (.istore_n 2, 1) := by decide +kernel
theorem d9_5 : decode method_4_code 5 = .ok (.aload_n 0, 1) := by decide +kernel
theorem d9_6 : decode method_4_code 6 = .ok (.iload_n 1, 1) := by decide +kernel
theorem d9_7 : decode method_4_code 7 = .ok (.iconst 3, 1) := by decide +kernel
theorem d9_8 : decode method_4_code 8 = .ok (.iand, 1) := by decide +kernel
theorem d9_9 : decode method_4_code 9 = .ok (.iconst 0, 1) := by decide +kernel
theorem d9_10 : decode method_4_code 10 = .ok (.bastore, 1) := by decide +kernel
theorem d9_11 : decode method_4_code 11 = .ok (.iload_n 2, 1) := by decide +kernel
theorem d9_12 : decode method_4_code 12 = .ok (.iconst 1, 1) := by decide +kernel
theorem d9_13 : decode method_4_code 13 = .ok (.if_icmp .lt 11, 3) := by decide +kernel
theorem d9_16 : decode method_4_code 16 = .ok (.aload_n 0, 1) := by decide +kernel
theorem d9_17 : decode method_4_code 17 = .ok (.iload_n 1, 1) := by decide +kernel
theorem d9_18 : decode method_4_code 18 = .ok (.iconst 4, 1) := by decide +kernel
theorem d9_19 : decode method_4_code 19 = .ok (.iushr, 1) := by decide +kernel
theorem d9_20 : decode method_4_code 20 = .ok (.iconst 3, 1) := by decide +kernel
theorem d9_21 : decode method_4_code 21 = .ok (.iand, 1) := by decide +kernel
theorem d9_22 : decode method_4_code 22 = .ok (.iconst 1, 1) := by decide +kernel
theorem d9_23 : decode method_4_code 23 = .ok (.bastore, 1) := by decide +kernel
theorem d9_24 : decode method_4_code 24 = .ok (.iload_n 2, 1) := by decide +kernel
theorem d9_25 : decode method_4_code 25 = .ok (.iconst 2, 1) := by decide +kernel
theorem d9_26 : decode method_4_code 26 = .ok (.if_icmp .lt 12, 3) := by decide +kernel
theorem d9_29 : decode method_4_code 29 = .ok (.aload_n 0, 1) := by decide +kernel
theorem d9_30 : decode method_4_code 30 = .ok (.iload_n 1, 1) := by decide +kernel
theorem d9_31 : decode method_4_code 31 = .ok (.bipush 6, 2) := by decide +kernel
theorem d9_33 : decode method_4_code 33 = .ok (.iushr, 1) := by decide +kernel
theorem d9_34 : decode method_4_code 34 = .ok (.iconst 3, 1) := by decide +kernel
theorem d9_35 : decode method_4_code 35 = .ok (.iand, 1) := by decide +kernel
theorem d9_36 : decode method_4_code 36 = .ok (.iconst 1, 1) := by decide +kernel
theorem d9_37 : decode method_4_code 37 = .ok (.bastore, 1) := by decide +kernel
theorem d9_38 : decode method_4_code 38 = .ok (.return_, 1) := by decide +kernel
theorem ef_9 (m : MethodId) (a0 : Addr) (p1 : Int32) : entryFrame m #[(.ref a0), (.int p1)] 3 = mkF m 0 #[.val (.ref a0), .val (.int p1), .unset] [] := by first | (simp [entryFrame, mkF, argsToLocals, Value.category]; done) | rfl
def f9_l0 (p1 : Int32) (L_a0 : List Int32) : List Int32 := (List.set (List.set L_a0 ((p1 &&& (3 : Int32))).toNatClampNeg (0 : Int32)) ((((p1.toUInt32 >>> ((4 : Int32) &&& 31).toUInt32).toInt32) &&& (3 : Int32))).toNatClampNeg (1 : Int32))
def f9_l1 (p1 : Int32) (L_a0 : List Int32) : List Int32 := if (f2 p1) < (1 : Int32) then (List.set L_a0 ((p1 &&& (3 : Int32))).toNatClampNeg (0 : Int32)) else (f9_l0 p1 L_a0)
def f9_l2 (p1 : Int32) (L_a0 : List Int32) : List Int32 := (List.set (f9_l1 p1 L_a0) ((((p1.toUInt32 >>> ((6 : Int32) &&& 31).toUInt32).toInt32) &&& (3 : Int32))).toNatClampNeg (1 : Int32))
def f9_l3 (p1 : Int32) (L_a0 : List Int32) : List Int32 := if (f2 p1) < (2 : Int32) then (f9_l1 p1 L_a0) else (f9_l2 p1 L_a0)
abbrev room9 : Room := { frames := 2, cells := 0, slots := 0, locals := 25 }
def Q9 (Z : State) (a0 : Addr) (p1 : Int32) (L_a0 : List Int32) (h0 : Heap) (n0 : Nat) (v : Option Value) (h : Heap) (L : List Loc) : Prop := v = none ∧ Fr n0 L ∧ Keep h0 h [a0] ∧ Arl Z h a0 .boolean (f9_l3 p1 L_a0) ∧ (f9_l3 p1 L_a0).length = 4
set_option maxRecDepth 65536 in
set_option maxHeartbeats 40000000 in
theorem rm9 (l : Launch) (Z : State) (aw : Array Value) (hw : ∀ d ∈ tables_1, d.before aw Z = true) (ws : List Jvm.Cond) (a0 : Addr) (p1 : Int32) (L_a0 : List Int32) (h0 : Heap) (n0 : Nat) (Z0 : n0 ≤ h0.size) (W_a0 : Arl Z h0 a0 .boolean L_a0) (hl_L_a0 : L_a0.length = 4) (g_a0 : n0 ≤ a0) :
    MetFree l (⟨"com/example/constrained_flow/constrainedflow/planner/search/GroupsWaitsPinLaw", "apply", "([ZI)V"⟩ : MethodName) (head1 (Jvm.Cond.code (⟨"com/example/constrained_flow/constrainedflow/planner/search/GroupsWaitsPinLaw", "apply", "([ZI)V"⟩ : MethodName) method_4_code 3 none :: ws) room9) (fun a U => a = #[(.ref a0), (.int p1)] ∧ Z.Warmed39 U.vm ∧ U.heap = h0) (fun _ _ _ _ _ => True) (fun _ U o U' => ∃ v L, o = .returned v ∧ Q9 Z a0 p1 L_a0 h0 n0 v U'.heap L ∧ FrameEnd U o U' L room9.cells room9.slots) := by
  refine MetFree.of_bodySF (plainFor_of_name pn_2) hisR ?_
  intro p e s m args below meth c s₁ Bd hml0 hP hK
  obtain ⟨rfl, hZ, hh⟩ := hP
  have hx := Bd.exec
  have hby := Bd.bytes
  have hml : c.maxLocals = 3 := hml0
  have hown : s.vm.findClass "com/example/constrained_flow/constrainedflow/planner/search/GroupsWaitsPinLaw" = some m.cls := findClass_of_methodNamed Bd.named
  have hnm := (name_of_methodNamed Bd.named Bd.method).1
  have X0 : Stand p l e room9 s m #[(.ref a0), (.int p1)] below meth c s₁ [] 0 0 := Stand.of_body Bd
  have e0 : s₁.heap = h0 := by rw [← hh, Bd.state]; rfl
  have N0 := Fr.nil n0
  have K0 := Keep.refl h0 [a0]
  rw [ef_9 m a0 p1]
  refine go_in (s₁ := s₁) (Q := Q9 Z a0 p1 L_a0 h0 n0) fun F hF => ?_
  refine go (B := s₁.setTop (mkF m 1 #[.val (.ref a0), .val (.int p1), .unset] [(.int p1)])) (fun _ k => XS.iloadN X0.here hx rfl (hb hby d9_0) rfl k) ?_
  obtain ⟨_, _, ⟨T1, L1, k1, n1⟩, -, X1, ⟨Lc1, hQ1, l1, y1, z1⟩, st1⟩ := Jvm.LawKit.callS X0 hx (y := (⟨"com/example/constrained_flow/constrainedflow/planner/search/GroupsWaitsPinLaw", "count", "(I)I"⟩ : MethodName)) hown (mvT hZ (hw _ (List.mem_of_getElem? (i := 5) rfl))) (mvT hZ (hw _ (List.mem_of_getElem? (i := 6) rfl))) (mvT hZ (hw _ (List.mem_of_getElem? (i := 3) rfl))) (mvT hZ (hw _ (List.mem_of_getElem? (i := 7) rfl))) (by decide) (backOf (W := 0) (rm2 l Z aw hw [] p1 h0 n0 Z0 ) hZ (hw _ (List.mem_of_getElem? (i := 7) rfl)) (hw _ (List.mem_of_getElem? (i := 3) rfl)) (by decide) (by decide)) (g := (mkF m 1 #[.val (.ref a0), .val (.int p1), .unset] [(.int p1)])) rfl (by rw [hml]; rfl) (argsL := [(.int p1)]) (rest := []) (lenOf pd_2 rfl) rfl (by show 2 * 0 + _ ≤ _; exact Nat.le_of_eq rfl) (hb hby d9_1) (fun _ _ => ⟨rfl, e0, (by decide : 0 + 0 ≤ _), (by decide : 0 + 0 ≤ _)⟩)
  dsimp only [Pt.U, Pt.locs, Pt.cells, Pt.slots] at X1 l1 y1 z1 st1 hQ1
  subst l1 y1 z1
  obtain ⟨rfl, rfl, e1⟩ := hQ1
  have N1 := Fr.app N0 (Fr.nil n0)
  refine go (B := T1.setTop (mkF m 4 #[.val (.ref a0), .val (.int p1), .unset] [(.int (f2 p1))])) (fun _ k => st1 _ k) ?_
  refine go (B := T1.setTop (mkF m 5 #[.val (.ref a0), .val (.int p1), .val (.int (f2 p1))] [])) (fun _ k => XS.istoreN X1.here hx rfl (hb hby d9_4) rfl (l' := #[.val (.ref a0), .val (.int p1), .val (.int (f2 p1))]) rfl k) ?_
  refine go (B := T1.setTop (mkF m 6 #[.val (.ref a0), .val (.int p1), .val (.int (f2 p1))] [(.ref a0)])) (fun _ k => XS.aloadN X1.here hx rfl (hb hby d9_5) rfl rfl k) ?_
  refine go (B := T1.setTop (mkF m 7 #[.val (.ref a0), .val (.int p1), .val (.int (f2 p1))] [(.int p1), (.ref a0)])) (fun _ k => XS.iloadN X1.here hx rfl (hb hby d9_6) rfl k) ?_
  refine go (B := T1.setTop (mkF m 8 #[.val (.ref a0), .val (.int p1), .val (.int (f2 p1))] [(.int (3 : Int32)), (.int p1), (.ref a0)])) (fun _ k => XS.iconst X1.here hx rfl (hb hby d9_7) k) ?_
  refine go (B := T1.setTop (mkF m 9 #[.val (.ref a0), .val (.int p1), .val (.int (f2 p1))] [(.int (p1 &&& (3 : Int32))), (.ref a0)])) (fun _ k => XS.iand X1.here hx rfl (hb hby d9_8) rfl k) ?_
  refine go (B := T1.setTop (mkF m 10 #[.val (.ref a0), .val (.int p1), .val (.int (f2 p1))] [(.int (0 : Int32)), (.int (p1 &&& (3 : Int32))), (.ref a0)])) (fun _ k => XS.iconst X1.here hx rfl (hb hby d9_9) k) ?_
  obtain ⟨cl2, Ar2, hin2, hat2, up2⟩ := Arl.in W_a0 (j := (p1 &&& (3 : Int32))) (own_nd3 _).1 (own_lit (own_nd3 _).2 hl_L_a0)
  obtain ⟨T2, h2, X2, e2, W2, st2⟩ := stZ X1 hx hZ e1 Ar2 (j := (p1 &&& (3 : Int32))) hin2 (g := (mkF m 10 #[.val (.ref a0), .val (.int p1), .val (.int (f2 p1))] [(.int (0 : Int32)), (.int (p1 &&& (3 : Int32))), (.ref a0)])) rfl rfl (hb hby d9_10)
  have Z2 := Nat.le_trans Z0 (Keep.of_wr W2).1
  have K2 := K0.wr W2 (Or.inl (List.mem_of_getElem? (i := 0) rfl))
  have N2 := Fr.snoc X2 N1 g_a0
  have W_a0_2 : Arl Z h2 a0 .boolean (List.set L_a0 ((p1 &&& (3 : Int32))).toNatClampNeg (0 : Int32)) := up2 W2
  refine go (B := T2.setTop (mkF m 11 #[.val (.ref a0), .val (.int p1), .val (.int (f2 p1))] [])) st2 ?_
  refine go (B := T2.setTop (mkF m 12 #[.val (.ref a0), .val (.int p1), .val (.int (f2 p1))] [(.int (f2 p1))])) (fun _ k => XS.iloadN X2.here hx rfl (hb hby d9_11) rfl k) ?_
  refine go (B := T2.setTop (mkF m 13 #[.val (.ref a0), .val (.int p1), .val (.int (f2 p1))] [(.int (1 : Int32)), (.int (f2 p1))])) (fun _ k => XS.iconst X2.here hx rfl (hb hby d9_12) k) ?_
  suffices Kj3 : ∀ (T3 : State) (h3 : Heap) (L3 : List Loc), Stand p l e room9 s m #[(.ref a0), (.int p1)] below meth c T3 L3 0 0 → Fr n0 L3 → T3.heap = h3 → n0 ≤ h3.size → Keep h0 h3 [a0] → Arl Z h3 a0 .boolean (f9_l1 p1 L_a0) → (f9_l1 p1 L_a0).length = 4 → Go p.tables e below F (T3.setTop (mkF m 24 #[.val (.ref a0), .val (.int p1), .val (.int (f2 p1))] [])) by
    by_cases hc4 : (f2 p1) < (1 : Int32)
    · refine go (B := T2.setTop (mkF m 24 #[.val (.ref a0), .val (.int p1), .val (.int (f2 p1))] [])) (fun _ k => XS.icmpYes X2.here hx rfl (pc0 := 13) (pc' := 24) rfl (hb hby d9_13) rfl (tlt hc4).1 (by decide) (by decide) k) ?_
      rw [show (f9_l1 p1 L_a0) = (List.set L_a0 ((p1 &&& (3 : Int32))).toNatClampNeg (0 : Int32)) from by unfold f9_l1; rw [if_pos hc4]] at Kj3
      exact Kj3 _ _ _ X2 N2 e2 Z2 K2 W_a0_2 ((List.length_set).trans hl_L_a0)
    · refine go (B := T2.setTop (mkF m 16 #[.val (.ref a0), .val (.int p1), .val (.int (f2 p1))] [])) (fun _ k => XS.icmpNo X2.here hx rfl (hb hby d9_13) rfl (flt hc4).1 k) ?_
      refine go (B := T2.setTop (mkF m 17 #[.val (.ref a0), .val (.int p1), .val (.int (f2 p1))] [(.ref a0)])) (fun _ k => XS.aloadN X2.here hx rfl (hb hby d9_16) rfl rfl k) ?_
      refine go (B := T2.setTop (mkF m 18 #[.val (.ref a0), .val (.int p1), .val (.int (f2 p1))] [(.int p1), (.ref a0)])) (fun _ k => XS.iloadN X2.here hx rfl (hb hby d9_17) rfl k) ?_
      refine go (B := T2.setTop (mkF m 19 #[.val (.ref a0), .val (.int p1), .val (.int (f2 p1))] [(.int (4 : Int32)), (.int p1), (.ref a0)])) (fun _ k => XS.iconst X2.here hx rfl (hb hby d9_18) k) ?_
      refine go (B := T2.setTop (mkF m 20 #[.val (.ref a0), .val (.int p1), .val (.int (f2 p1))] [(.int ((p1.toUInt32 >>> ((4 : Int32) &&& 31).toUInt32).toInt32)), (.ref a0)])) (fun _ k => XS.iushr X2.here hx rfl (hb hby d9_19) rfl k) ?_
      refine go (B := T2.setTop (mkF m 21 #[.val (.ref a0), .val (.int p1), .val (.int (f2 p1))] [(.int (3 : Int32)), (.int ((p1.toUInt32 >>> ((4 : Int32) &&& 31).toUInt32).toInt32)), (.ref a0)])) (fun _ k => XS.iconst X2.here hx rfl (hb hby d9_20) k) ?_
      refine go (B := T2.setTop (mkF m 22 #[.val (.ref a0), .val (.int p1), .val (.int (f2 p1))] [(.int (((p1.toUInt32 >>> ((4 : Int32) &&& 31).toUInt32).toInt32) &&& (3 : Int32))), (.ref a0)])) (fun _ k => XS.iand X2.here hx rfl (hb hby d9_21) rfl k) ?_
      refine go (B := T2.setTop (mkF m 23 #[.val (.ref a0), .val (.int p1), .val (.int (f2 p1))] [(.int (1 : Int32)), (.int (((p1.toUInt32 >>> ((4 : Int32) &&& 31).toUInt32).toInt32) &&& (3 : Int32))), (.ref a0)])) (fun _ k => XS.iconst X2.here hx rfl (hb hby d9_22) k) ?_
      obtain ⟨cl5, Ar5, hin5, hat5, up5⟩ := Arl.in W_a0_2 (j := (((p1.toUInt32 >>> ((4 : Int32) &&& 31).toUInt32).toInt32) &&& (3 : Int32))) (own_nd3 _).1 (own_lit (own_nd3 _).2 ((List.length_set).trans hl_L_a0))
      obtain ⟨T5, h5, X5, e5, W5, st5⟩ := stZ X2 hx hZ e2 Ar5 (j := (((p1.toUInt32 >>> ((4 : Int32) &&& 31).toUInt32).toInt32) &&& (3 : Int32))) hin5 (g := (mkF m 23 #[.val (.ref a0), .val (.int p1), .val (.int (f2 p1))] [(.int (1 : Int32)), (.int (((p1.toUInt32 >>> ((4 : Int32) &&& 31).toUInt32).toInt32) &&& (3 : Int32))), (.ref a0)])) rfl rfl (hb hby d9_23)
      have Z5 := Nat.le_trans Z2 (Keep.of_wr W5).1
      have K5 := K2.wr W5 (Or.inl (List.mem_of_getElem? (i := 0) rfl))
      have N5 := Fr.snoc X5 N2 g_a0
      have W_a0_5 : Arl Z h5 a0 .boolean (f9_l0 p1 L_a0) := up5 W5
      refine go (B := T5.setTop (mkF m 24 #[.val (.ref a0), .val (.int p1), .val (.int (f2 p1))] [])) st5 ?_
      rw [show (f9_l1 p1 L_a0) = (f9_l0 p1 L_a0) from by unfold f9_l1; rw [if_neg hc4]] at Kj3
      exact Kj3 _ _ _ X5 N5 e5 Z5 K5 W_a0_5 ((List.length_set).trans ((List.length_set).trans hl_L_a0))
  intro T3 h3 L3 X3 N3 e3 Z3 K3 W_a0_3 hl_a0_3
  refine go (B := T3.setTop (mkF m 25 #[.val (.ref a0), .val (.int p1), .val (.int (f2 p1))] [(.int (f2 p1))])) (fun _ k => XS.iloadN X3.here hx rfl (hb hby d9_24) rfl k) ?_
  refine go (B := T3.setTop (mkF m 26 #[.val (.ref a0), .val (.int p1), .val (.int (f2 p1))] [(.int (2 : Int32)), (.int (f2 p1))])) (fun _ k => XS.iconst X3.here hx rfl (hb hby d9_25) k) ?_
  suffices Kj6 : ∀ (T6 : State) (h6 : Heap) (L6 : List Loc), Stand p l e room9 s m #[(.ref a0), (.int p1)] below meth c T6 L6 0 0 → Fr n0 L6 → T6.heap = h6 → n0 ≤ h6.size → Keep h0 h6 [a0] → Arl Z h6 a0 .boolean (f9_l3 p1 L_a0) → (f9_l3 p1 L_a0).length = 4 → Go p.tables e below F (T6.setTop (mkF m 38 #[.val (.ref a0), .val (.int p1), .val (.int (f2 p1))] [])) by
    by_cases hc7 : (f2 p1) < (2 : Int32)
    · refine go (B := T3.setTop (mkF m 38 #[.val (.ref a0), .val (.int p1), .val (.int (f2 p1))] [])) (fun _ k => XS.icmpYes X3.here hx rfl (pc0 := 26) (pc' := 38) rfl (hb hby d9_26) rfl (tlt hc7).1 (by decide) (by decide) k) ?_
      rw [show (f9_l3 p1 L_a0) = (f9_l1 p1 L_a0) from by unfold f9_l3; rw [if_pos hc7]] at Kj6
      exact Kj6 _ _ _ X3 N3 e3 Z3 K3 W_a0_3 hl_a0_3
    · refine go (B := T3.setTop (mkF m 29 #[.val (.ref a0), .val (.int p1), .val (.int (f2 p1))] [])) (fun _ k => XS.icmpNo X3.here hx rfl (hb hby d9_26) rfl (flt hc7).1 k) ?_
      refine go (B := T3.setTop (mkF m 30 #[.val (.ref a0), .val (.int p1), .val (.int (f2 p1))] [(.ref a0)])) (fun _ k => XS.aloadN X3.here hx rfl (hb hby d9_29) rfl rfl k) ?_
      refine go (B := T3.setTop (mkF m 31 #[.val (.ref a0), .val (.int p1), .val (.int (f2 p1))] [(.int p1), (.ref a0)])) (fun _ k => XS.iloadN X3.here hx rfl (hb hby d9_30) rfl k) ?_
      refine go (B := T3.setTop (mkF m 33 #[.val (.ref a0), .val (.int p1), .val (.int (f2 p1))] [(.int (6 : Int32)), (.int p1), (.ref a0)])) (fun _ k => XS.bipush X3.here hx rfl (hb hby d9_31) k) ?_
      refine go (B := T3.setTop (mkF m 34 #[.val (.ref a0), .val (.int p1), .val (.int (f2 p1))] [(.int ((p1.toUInt32 >>> ((6 : Int32) &&& 31).toUInt32).toInt32)), (.ref a0)])) (fun _ k => XS.iushr X3.here hx rfl (hb hby d9_33) rfl k) ?_
      refine go (B := T3.setTop (mkF m 35 #[.val (.ref a0), .val (.int p1), .val (.int (f2 p1))] [(.int (3 : Int32)), (.int ((p1.toUInt32 >>> ((6 : Int32) &&& 31).toUInt32).toInt32)), (.ref a0)])) (fun _ k => XS.iconst X3.here hx rfl (hb hby d9_34) k) ?_
      refine go (B := T3.setTop (mkF m 36 #[.val (.ref a0), .val (.int p1), .val (.int (f2 p1))] [(.int (((p1.toUInt32 >>> ((6 : Int32) &&& 31).toUInt32).toInt32) &&& (3 : Int32))), (.ref a0)])) (fun _ k => XS.iand X3.here hx rfl (hb hby d9_35) rfl k) ?_
      refine go (B := T3.setTop (mkF m 37 #[.val (.ref a0), .val (.int p1), .val (.int (f2 p1))] [(.int (1 : Int32)), (.int (((p1.toUInt32 >>> ((6 : Int32) &&& 31).toUInt32).toInt32) &&& (3 : Int32))), (.ref a0)])) (fun _ k => XS.iconst X3.here hx rfl (hb hby d9_36) k) ?_
      obtain ⟨cl8, Ar8, hin8, hat8, up8⟩ := Arl.in W_a0_3 (j := (((p1.toUInt32 >>> ((6 : Int32) &&& 31).toUInt32).toInt32) &&& (3 : Int32))) (own_nd3 _).1 (own_lit (own_nd3 _).2 hl_a0_3)
      obtain ⟨T8, h8, X8, e8, W8, st8⟩ := stZ X3 hx hZ e3 Ar8 (j := (((p1.toUInt32 >>> ((6 : Int32) &&& 31).toUInt32).toInt32) &&& (3 : Int32))) hin8 (g := (mkF m 37 #[.val (.ref a0), .val (.int p1), .val (.int (f2 p1))] [(.int (1 : Int32)), (.int (((p1.toUInt32 >>> ((6 : Int32) &&& 31).toUInt32).toInt32) &&& (3 : Int32))), (.ref a0)])) rfl rfl (hb hby d9_37)
      have Z8 := Nat.le_trans Z3 (Keep.of_wr W8).1
      have K8 := K3.wr W8 (Or.inl (List.mem_of_getElem? (i := 0) rfl))
      have N8 := Fr.snoc X8 N3 g_a0
      have W_a0_8 : Arl Z h8 a0 .boolean (f9_l2 p1 L_a0) := up8 W8
      refine go (B := T8.setTop (mkF m 38 #[.val (.ref a0), .val (.int p1), .val (.int (f2 p1))] [])) st8 ?_
      rw [show (f9_l3 p1 L_a0) = (f9_l2 p1 L_a0) from by unfold f9_l3; rw [if_neg hc7]] at Kj6
      exact Kj6 _ _ _ X8 N8 e8 Z8 K8 W_a0_8 ((List.length_set).trans hl_a0_3)
  intro T6 h6 L6 X6 N6 e6 Z6 K6 W_a0_6 hl_a0_6
  exact end_void X6 hx Bd.notSynchronized Bd.returns (hb hby d9_38) hF e6 (by decide) (by decide) ⟨rfl, N6, K6, W_a0_6, hl_a0_6⟩
theorem d8_0 : decode prog_97_method_8_code 0 = .ok (.aload_n 0, 1) := by decide +kernel
theorem d8_1 : decode prog_97_method_8_code 1 = .ok (.getfield 19, 3) := by decide +kernel
theorem d8_4 : decode prog_97_method_8_code 4 = .ok (.iload_n 1, 1) := by decide +kernel
theorem d8_5 : decode prog_97_method_8_code 5 = .ok (.iaload, 1) := by decide +kernel
theorem d8_6 : decode prog_97_method_8_code 6 = .ok (.istore_n 2, 1) := by decide +kernel
theorem d8_7 : decode prog_97_method_8_code 7 = .ok (.iload_n 2, 1) := by decide +kernel
theorem d8_8 : decode prog_97_method_8_code 8 = .ok (.ifCond .ge 4, 3) := by decide +kernel
theorem d8_11 : decode prog_97_method_8_code 11 = .ok (.return_, 1) := by decide +kernel
theorem d8_12 : decode prog_97_method_8_code 12 = .ok (.aload_n 0, 1) := by decide +kernel
theorem d8_13 : decode prog_97_method_8_code 13 = .ok (.getfield 19, 3) := by decide +kernel
theorem d8_16 : decode prog_97_method_8_code 16 = .ok (.iload_n 1, 1) := by decide +kernel
theorem d8_17 : decode prog_97_method_8_code 17 = .ok (.iconst (-1), 1) := by decide +kernel
theorem d8_18 : decode prog_97_method_8_code 18 = .ok (.iastore, 1) := by decide +kernel
theorem d8_19 : decode prog_97_method_8_code 19 = .ok (.aload_n 0, 1) := by decide +kernel
theorem d8_20 : decode prog_97_method_8_code 20 = .ok (.getfield 7, 3) := by decide +kernel
theorem d8_23 : decode prog_97_method_8_code 23 = .ok (.iload_n 2, 1) := by decide +kernel
theorem d8_24 : decode prog_97_method_8_code 24 = .ok (.dup2, 1) := by decide +kernel
theorem d8_25 : decode prog_97_method_8_code 25 = .ok (.iaload, 1) := by decide +kernel
theorem d8_26 : decode prog_97_method_8_code 26 = .ok (.iconst 1, 1) := by decide +kernel
theorem d8_27 : decode prog_97_method_8_code 27 = .ok (.isub, 1) := by decide +kernel
theorem d8_28 : decode prog_97_method_8_code 28 = .ok (.dup_x2, 1) := by decide +kernel
theorem d8_29 : decode prog_97_method_8_code 29 = .ok (.iastore, 1) := by decide +kernel
theorem d8_30 : decode prog_97_method_8_code 30 = .ok (.ifCond .ne 13, 3) := by decide +kernel
theorem d8_33 : decode prog_97_method_8_code 33 = .ok (.aload_n 0, 1) := by decide +kernel
theorem d8_34 : decode prog_97_method_8_code 34 = .ok (.dup, 1) := by decide +kernel
theorem d8_35 : decode prog_97_method_8_code 35 = .ok (.getfield 28, 3) := by decide +kernel
theorem d8_38 : decode prog_97_method_8_code 38 = .ok (.iconst 1, 1) := by decide +kernel
theorem d8_39 : decode prog_97_method_8_code 39 = .ok (.isub, 1) := by decide +kernel
theorem d8_40 : decode prog_97_method_8_code 40 = .ok (.putfield 28, 3) := by decide +kernel
theorem d8_43 : decode prog_97_method_8_code 43 = .ok (.return_, 1) := by decide +kernel
theorem ef_8 (m : MethodId) (a0 : Addr) (p1 : Int32) : entryFrame m #[(.ref a0), (.int p1)] 3 = mkF m 0 #[.val (.ref a0), .val (.int p1), .unset] [] := by first | (simp [entryFrame, mkF, argsToLocals, Value.category]; done) | rfl
def f8_l0 (p1 : Int32) (LG : List Int32) (LS : List Int32) : List Int32 := (List.set LS ((List.getD LG (p1).toNatClampNeg 0)).toNatClampNeg ((List.getD LS ((List.getD LG (p1).toNatClampNeg 0)).toNatClampNeg 0) - (1 : Int32)))
def f8_z1 (p1 : Int32) (w_live_a0 : Int32) (LG : List Int32) (LS : List Int32) : Int32 := if ((List.getD LS ((List.getD LG (p1).toNatClampNeg 0)).toNatClampNeg 0) - (1 : Int32)) = (0 : Int32) then (w_live_a0 - (1 : Int32)) else w_live_a0
abbrev room8 : Room := { frames := 0, cells := 0, slots := 0, locals := 0 }
def Q8 (Z : State) (a0 : Addr) (p1 : Int32) (w_sizes_a0 : Addr) (w_seenIn_a0 : Addr) (w_counted_a0 : Addr) (w_groupOf_a0 : Addr) (w_counts_a0 : Int32) (w_numbered_a0 : Int32) (w_live_a0 : Int32) (LG : List Int32) (LS : List Int32) (h0 : Heap) (n0 : Nat) (v : Option Value) (h : Heap) (L : List Loc) : Prop := ∃ S' : List Int32, ∃ V' : Int32, v = none ∧ Fr n0 L ∧ Keep h0 h [a0, w_groupOf_a0, w_sizes_a0] ∧ Exa Z h a0 "com/example/constrained_flow/constrainedflow/planner/search/Sweep$Groups" ∧ Fld Z h a0 "com/example/constrained_flow/constrainedflow/planner/search/Sweep$Groups" "sizes" "[I" (.ref w_sizes_a0) ∧ Fld Z h a0 "com/example/constrained_flow/constrainedflow/planner/search/Sweep$Groups" "seenIn" "[I" (.ref w_seenIn_a0) ∧ Fld Z h a0 "com/example/constrained_flow/constrainedflow/planner/search/Sweep$Groups" "counted" "[I" (.ref w_counted_a0) ∧ Fld Z h a0 "com/example/constrained_flow/constrainedflow/planner/search/Sweep$Groups" "groupOf" "[I" (.ref w_groupOf_a0) ∧ Fld Z h a0 "com/example/constrained_flow/constrainedflow/planner/search/Sweep$Groups" "counts" "I" (.int w_counts_a0) ∧ Fld Z h a0 "com/example/constrained_flow/constrainedflow/planner/search/Sweep$Groups" "numbered" "I" (.int w_numbered_a0) ∧ Fld Z h a0 "com/example/constrained_flow/constrainedflow/planner/search/Sweep$Groups" "live" "I" (.int V') ∧ Arl Z h w_groupOf_a0 .int (List.set LG (p1).toNatClampNeg (-1 : Int32)) ∧ (List.set LG (p1).toNatClampNeg (-1 : Int32)).length = 4 ∧ Arl Z h w_sizes_a0 .int S' ∧ S'.length = 16
set_option maxRecDepth 65536 in
set_option maxHeartbeats 40000000 in
theorem rm8 (l : Launch) (Z : State) (aw : Array Value) (hw : ∀ d ∈ tables_1, d.before aw Z = true) (ws : List Jvm.Cond) (a0 : Addr) (p1 : Int32) (w_sizes_a0 : Addr) (w_seenIn_a0 : Addr) (w_counted_a0 : Addr) (w_groupOf_a0 : Addr) (w_counts_a0 : Int32) (w_numbered_a0 : Int32) (w_live_a0 : Int32) (LG : List Int32) (LS : List Int32) (h0 : Heap) (n0 : Nat) (Z0 : n0 ≤ h0.size) (F_sizes_a0 : Fld Z h0 a0 "com/example/constrained_flow/constrainedflow/planner/search/Sweep$Groups" "sizes" "[I" (.ref w_sizes_a0)) (F_seenIn_a0 : Fld Z h0 a0 "com/example/constrained_flow/constrainedflow/planner/search/Sweep$Groups" "seenIn" "[I" (.ref w_seenIn_a0)) (F_counted_a0 : Fld Z h0 a0 "com/example/constrained_flow/constrainedflow/planner/search/Sweep$Groups" "counted" "[I" (.ref w_counted_a0)) (F_groupOf_a0 : Fld Z h0 a0 "com/example/constrained_flow/constrainedflow/planner/search/Sweep$Groups" "groupOf" "[I" (.ref w_groupOf_a0)) (F_counts_a0 : Fld Z h0 a0 "com/example/constrained_flow/constrainedflow/planner/search/Sweep$Groups" "counts" "I" (.int w_counts_a0)) (F_numbered_a0 : Fld Z h0 a0 "com/example/constrained_flow/constrainedflow/planner/search/Sweep$Groups" "numbered" "I" (.int w_numbered_a0)) (F_live_a0 : Fld Z h0 a0 "com/example/constrained_flow/constrainedflow/planner/search/Sweep$Groups" "live" "I" (.int w_live_a0)) (E_a0 : Exa Z h0 a0 "com/example/constrained_flow/constrainedflow/planner/search/Sweep$Groups") (W_w_groupOf_a0 : Arl Z h0 w_groupOf_a0 .int LG) (hl_LG : LG.length = 4) (W_w_sizes_a0 : Arl Z h0 w_sizes_a0 .int LS) (hl_LS : LS.length = 16) (ne_a0_w_groupOf_a0 : a0 ≠ w_groupOf_a0) (ne_a0_w_sizes_a0 : a0 ≠ w_sizes_a0) (ne_w_groupOf_a0_w_sizes_a0 : w_groupOf_a0 ≠ w_sizes_a0) (hG : own_G LG w_numbered_a0) (hn : own_nd p1) (g_w_groupOf_a0 : n0 ≤ w_groupOf_a0) (g_w_sizes_a0 : n0 ≤ w_sizes_a0) (g_a0 : n0 ≤ a0) :
    MetFree l (⟨"com/example/constrained_flow/constrainedflow/planner/search/Sweep$Groups", "leave", "(I)V"⟩ : MethodName) (head1 (Jvm.Cond.code (⟨"com/example/constrained_flow/constrainedflow/planner/search/Sweep$Groups", "leave", "(I)V"⟩ : MethodName) prog_97_method_8_code 3 none :: ws) room8) (fun a U => a = #[(.ref a0), (.int p1)] ∧ Z.Warmed39 U.vm ∧ U.heap = h0) (fun _ _ _ _ _ => True) (fun _ U o U' => ∃ v L, o = .returned v ∧ Q8 Z a0 p1 w_sizes_a0 w_seenIn_a0 w_counted_a0 w_groupOf_a0 w_counts_a0 w_numbered_a0 w_live_a0 LG LS h0 n0 v U'.heap L ∧ FrameEnd U o U' L room8.cells room8.slots) := by
  refine MetFree.of_bodySF (plainFor_of_name pn_4) hisR ?_
  intro p e s m args below meth c s₁ Bd hml0 hP hK
  obtain ⟨rfl, hZ, hh⟩ := hP
  have hx := Bd.exec
  have hby := Bd.bytes
  have hml : c.maxLocals = 3 := hml0
  have hown : s.vm.findClass "com/example/constrained_flow/constrainedflow/planner/search/Sweep$Groups" = some m.cls := findClass_of_methodNamed Bd.named
  have hnm := (name_of_methodNamed Bd.named Bd.method).1
  have X0 : Stand p l e room8 s m #[(.ref a0), (.int p1)] below meth c s₁ [] 0 0 := Stand.of_body Bd
  have e0 : s₁.heap = h0 := by rw [← hh, Bd.state]; rfl
  have N0 := Fr.nil n0
  have K0 := Keep.refl h0 [a0, w_groupOf_a0, w_sizes_a0]
  rw [ef_8 m a0 p1]
  refine go_in (s₁ := s₁) (Q := Q8 Z a0 p1 w_sizes_a0 w_seenIn_a0 w_counted_a0 w_groupOf_a0 w_counts_a0 w_numbered_a0 w_live_a0 LG LS h0 n0) fun F hF => ?_
  refine go (B := s₁.setTop (mkF m 1 #[.val (.ref a0), .val (.int p1), .unset] [(.ref a0)])) (fun _ k => XS.aloadN X0.here hx rfl (hb hby d8_0) rfl rfl k) ?_
  obtain ⟨T1, X1, e1, st1⟩ := getF X0 hx hZ hown (host := "") (Or.inl (hw _ (List.mem_of_getElem? (i := 28) rfl))) Via.refl e0 F_groupOf_a0 (g := (mkF m 1 #[.val (.ref a0), .val (.int p1), .unset] [(.ref a0)])) rfl rfl (hb hby d8_1)
  refine go (B := T1.setTop (mkF m 4 #[.val (.ref a0), .val (.int p1), .unset] [(.ref w_groupOf_a0)])) st1 ?_
  refine go (B := T1.setTop (mkF m 5 #[.val (.ref a0), .val (.int p1), .unset] [(.int p1), (.ref w_groupOf_a0)])) (fun _ k => XS.iloadN X1.here hx rfl (hb hby d8_4) rfl k) ?_
  obtain ⟨cl2, Ar2, hin2, hat2, up2⟩ := Arl.in W_w_groupOf_a0 (j := p1) hn.1 (own_lit hn.2 hl_LG)
  refine go (B := T1.setTop (mkF m 6 #[.val (.ref a0), .val (.int p1), .unset] [(.int (List.getD LG (p1).toNatClampNeg 0))])) (fun _ k => X1.iaload hx (j := p1) (v := (.int (List.getD LG (p1).toNatClampNeg 0))) (by rw [e1]; exact Ar2.1) (State.isArrayOf_alike hZ.alike Ar2.2.1) Ar2.2.2 hin2 hat2 (g := (mkF m 5 #[.val (.ref a0), .val (.int p1), .unset] [(.int p1), (.ref w_groupOf_a0)])) rfl rfl (hb hby d8_5) _ k) ?_
  refine go (B := T1.setTop (mkF m 7 #[.val (.ref a0), .val (.int p1), .val (.int (List.getD LG (p1).toNatClampNeg 0))] [])) (fun _ k => XS.istoreN X1.here hx rfl (hb hby d8_6) rfl (l' := #[.val (.ref a0), .val (.int p1), .val (.int (List.getD LG (p1).toNatClampNeg 0))]) rfl k) ?_
  refine go (B := T1.setTop (mkF m 8 #[.val (.ref a0), .val (.int p1), .val (.int (List.getD LG (p1).toNatClampNeg 0))] [(.int (List.getD LG (p1).toNatClampNeg 0))])) (fun _ k => XS.iloadN X1.here hx rfl (hb hby d8_7) rfl k) ?_
  by_cases hc3 : (List.getD LG (p1).toNatClampNeg 0) < (0 : Int32)
  · refine go (B := T1.setTop (mkF m 11 #[.val (.ref a0), .val (.int p1), .val (.int (List.getD LG (p1).toNatClampNeg 0))] [])) (fun _ k => XS.ifNo X1.here hx rfl (hb hby d8_8) rfl ((if0 _ _).trans (tlt hc3).2.1) k) ?_
    exact end_void X1 hx Bd.notSynchronized Bd.returns (hb hby d8_11) hF e1 (by decide) (by decide) ⟨LS, w_live_a0, rfl, N0, K0, E_a0, F_sizes_a0, F_seenIn_a0, F_counted_a0, F_groupOf_a0, F_counts_a0, F_numbered_a0, F_live_a0, (by rw [own_neg hG hn hc3]; exact W_w_groupOf_a0), ((List.length_set).trans hl_LG), W_w_sizes_a0, hl_LS⟩
  · refine go (B := T1.setTop (mkF m 12 #[.val (.ref a0), .val (.int p1), .val (.int (List.getD LG (p1).toNatClampNeg 0))] [])) (fun _ k => XS.ifYes X1.here hx rfl (pc0 := 8) (pc' := 12) rfl (hb hby d8_8) rfl ((if0 _ _).trans (flt hc3).2.1) (by decide) (by decide) k) ?_
    refine go (B := T1.setTop (mkF m 13 #[.val (.ref a0), .val (.int p1), .val (.int (List.getD LG (p1).toNatClampNeg 0))] [(.ref a0)])) (fun _ k => XS.aloadN X1.here hx rfl (hb hby d8_12) rfl rfl k) ?_
    obtain ⟨T4, X4, e4, st4⟩ := getF X1 hx hZ hown (host := "") (Or.inl (hw _ (List.mem_of_getElem? (i := 28) rfl))) Via.refl e1 F_groupOf_a0 (g := (mkF m 13 #[.val (.ref a0), .val (.int p1), .val (.int (List.getD LG (p1).toNatClampNeg 0))] [(.ref a0)])) rfl rfl (hb hby d8_13)
    refine go (B := T4.setTop (mkF m 16 #[.val (.ref a0), .val (.int p1), .val (.int (List.getD LG (p1).toNatClampNeg 0))] [(.ref w_groupOf_a0)])) st4 ?_
    refine go (B := T4.setTop (mkF m 17 #[.val (.ref a0), .val (.int p1), .val (.int (List.getD LG (p1).toNatClampNeg 0))] [(.int p1), (.ref w_groupOf_a0)])) (fun _ k => XS.iloadN X4.here hx rfl (hb hby d8_16) rfl k) ?_
    refine go (B := T4.setTop (mkF m 18 #[.val (.ref a0), .val (.int p1), .val (.int (List.getD LG (p1).toNatClampNeg 0))] [(.int (-1 : Int32)), (.int p1), (.ref w_groupOf_a0)])) (fun _ k => XS.iconst X4.here hx rfl (hb hby d8_17) k) ?_
    obtain ⟨cl5, Ar5, hin5, hat5, up5⟩ := Arl.in W_w_groupOf_a0 (j := p1) hn.1 (own_lit hn.2 hl_LG)
    obtain ⟨T5, h5, X5, e5, W5, st5⟩ := stI X4 hx hZ e4 Ar5 (j := p1) hin5 (g := (mkF m 18 #[.val (.ref a0), .val (.int p1), .val (.int (List.getD LG (p1).toNatClampNeg 0))] [(.int (-1 : Int32)), (.int p1), (.ref w_groupOf_a0)])) rfl rfl (hb hby d8_18)
    have F_sizes_a0_5 := Fld.other W5 F_sizes_a0 (Or.inl ne_a0_w_groupOf_a0)
    have F_seenIn_a0_5 := Fld.other W5 F_seenIn_a0 (Or.inl ne_a0_w_groupOf_a0)
    have F_counted_a0_5 := Fld.other W5 F_counted_a0 (Or.inl ne_a0_w_groupOf_a0)
    have F_groupOf_a0_5 := Fld.other W5 F_groupOf_a0 (Or.inl ne_a0_w_groupOf_a0)
    have F_counts_a0_5 := Fld.other W5 F_counts_a0 (Or.inl ne_a0_w_groupOf_a0)
    have F_numbered_a0_5 := Fld.other W5 F_numbered_a0 (Or.inl ne_a0_w_groupOf_a0)
    have F_live_a0_5 := Fld.other W5 F_live_a0 (Or.inl ne_a0_w_groupOf_a0)
    have E_a0_5 := E_a0.wr W5
    have W_w_sizes_a0_5 := W_w_sizes_a0.other W5 (Ne.symm ne_w_groupOf_a0_w_sizes_a0)
    have Z5 := Nat.le_trans Z0 (Keep.of_wr W5).1
    have K5 := K0.wr W5 (Or.inl (List.mem_of_getElem? (i := 1) rfl))
    have N5 := Fr.snoc X5 N0 g_w_groupOf_a0
    have W_w_groupOf_a0_5 : Arl Z h5 w_groupOf_a0 .int (List.set LG (p1).toNatClampNeg (-1 : Int32)) := up5 W5
    refine go (B := T5.setTop (mkF m 19 #[.val (.ref a0), .val (.int p1), .val (.int (List.getD LG (p1).toNatClampNeg 0))] [])) st5 ?_
    refine go (B := T5.setTop (mkF m 20 #[.val (.ref a0), .val (.int p1), .val (.int (List.getD LG (p1).toNatClampNeg 0))] [(.ref a0)])) (fun _ k => XS.aloadN X5.here hx rfl (hb hby d8_19) rfl rfl k) ?_
    obtain ⟨T6, X6, e6, st6⟩ := getF X5 hx hZ hown (host := "") (Or.inl (hw _ (List.mem_of_getElem? (i := 22) rfl))) Via.refl e5 F_sizes_a0_5 (g := (mkF m 20 #[.val (.ref a0), .val (.int p1), .val (.int (List.getD LG (p1).toNatClampNeg 0))] [(.ref a0)])) rfl rfl (hb hby d8_20)
    refine go (B := T6.setTop (mkF m 23 #[.val (.ref a0), .val (.int p1), .val (.int (List.getD LG (p1).toNatClampNeg 0))] [(.ref w_sizes_a0)])) st6 ?_
    refine go (B := T6.setTop (mkF m 24 #[.val (.ref a0), .val (.int p1), .val (.int (List.getD LG (p1).toNatClampNeg 0))] [(.int (List.getD LG (p1).toNatClampNeg 0)), (.ref w_sizes_a0)])) (fun _ k => XS.iloadN X6.here hx rfl (hb hby d8_23) rfl k) ?_
    refine go (B := T6.setTop (mkF m 25 #[.val (.ref a0), .val (.int p1), .val (.int (List.getD LG (p1).toNatClampNeg 0))] [(.int (List.getD LG (p1).toNatClampNeg 0)), (.ref w_sizes_a0), (.int (List.getD LG (p1).toNatClampNeg 0)), (.ref w_sizes_a0)])) (fun _ k => Jvm.Free.XT.dup2 X6.here hx rfl (hb hby d8_24) rfl rfl rfl k) ?_
    obtain ⟨cl7, Ar7, hin7, hat7, up7⟩ := Arl.in W_w_sizes_a0_5 (j := (List.getD LG (p1).toNatClampNeg 0)) hc3 (own_lit (own_gb hG hn hc3) hl_LS)
    refine go (B := T6.setTop (mkF m 26 #[.val (.ref a0), .val (.int p1), .val (.int (List.getD LG (p1).toNatClampNeg 0))] [(.int (List.getD LS ((List.getD LG (p1).toNatClampNeg 0)).toNatClampNeg 0)), (.int (List.getD LG (p1).toNatClampNeg 0)), (.ref w_sizes_a0)])) (fun _ k => X6.iaload hx (j := (List.getD LG (p1).toNatClampNeg 0)) (v := (.int (List.getD LS ((List.getD LG (p1).toNatClampNeg 0)).toNatClampNeg 0))) (by rw [e6]; exact Ar7.1) (State.isArrayOf_alike hZ.alike Ar7.2.1) Ar7.2.2 hin7 hat7 (g := (mkF m 25 #[.val (.ref a0), .val (.int p1), .val (.int (List.getD LG (p1).toNatClampNeg 0))] [(.int (List.getD LG (p1).toNatClampNeg 0)), (.ref w_sizes_a0), (.int (List.getD LG (p1).toNatClampNeg 0)), (.ref w_sizes_a0)])) rfl rfl (hb hby d8_25) _ k) ?_
    refine go (B := T6.setTop (mkF m 27 #[.val (.ref a0), .val (.int p1), .val (.int (List.getD LG (p1).toNatClampNeg 0))] [(.int (1 : Int32)), (.int (List.getD LS ((List.getD LG (p1).toNatClampNeg 0)).toNatClampNeg 0)), (.int (List.getD LG (p1).toNatClampNeg 0)), (.ref w_sizes_a0)])) (fun _ k => XS.iconst X6.here hx rfl (hb hby d8_26) k) ?_
    refine go (B := T6.setTop (mkF m 28 #[.val (.ref a0), .val (.int p1), .val (.int (List.getD LG (p1).toNatClampNeg 0))] [(.int ((List.getD LS ((List.getD LG (p1).toNatClampNeg 0)).toNatClampNeg 0) - (1 : Int32))), (.int (List.getD LG (p1).toNatClampNeg 0)), (.ref w_sizes_a0)])) (fun _ k => XS.isub X6.here hx rfl (hb hby d8_27) rfl k) ?_
    refine go (B := T6.setTop (mkF m 29 #[.val (.ref a0), .val (.int p1), .val (.int (List.getD LG (p1).toNatClampNeg 0))] [(.int ((List.getD LS ((List.getD LG (p1).toNatClampNeg 0)).toNatClampNeg 0) - (1 : Int32))), (.int (List.getD LG (p1).toNatClampNeg 0)), (.ref w_sizes_a0), (.int ((List.getD LS ((List.getD LG (p1).toNatClampNeg 0)).toNatClampNeg 0) - (1 : Int32)))])) (fun _ k => by jvm_step X6.here [X6.here.top, hx, (hb hby d8_28), Value.category]; exact k) ?_
    obtain ⟨cl8, Ar8, hin8, hat8, up8⟩ := Arl.in W_w_sizes_a0_5 (j := (List.getD LG (p1).toNatClampNeg 0)) hc3 (own_lit (own_gb hG hn hc3) hl_LS)
    obtain ⟨T8, h8, X8, e8, W8, st8⟩ := stI X6 hx hZ e6 Ar8 (j := (List.getD LG (p1).toNatClampNeg 0)) hin8 (g := (mkF m 29 #[.val (.ref a0), .val (.int p1), .val (.int (List.getD LG (p1).toNatClampNeg 0))] [(.int ((List.getD LS ((List.getD LG (p1).toNatClampNeg 0)).toNatClampNeg 0) - (1 : Int32))), (.int (List.getD LG (p1).toNatClampNeg 0)), (.ref w_sizes_a0), (.int ((List.getD LS ((List.getD LG (p1).toNatClampNeg 0)).toNatClampNeg 0) - (1 : Int32)))])) rfl rfl (hb hby d8_29)
    have F_sizes_a0_8 := Fld.other W8 F_sizes_a0_5 (Or.inl ne_a0_w_sizes_a0)
    have F_seenIn_a0_8 := Fld.other W8 F_seenIn_a0_5 (Or.inl ne_a0_w_sizes_a0)
    have F_counted_a0_8 := Fld.other W8 F_counted_a0_5 (Or.inl ne_a0_w_sizes_a0)
    have F_groupOf_a0_8 := Fld.other W8 F_groupOf_a0_5 (Or.inl ne_a0_w_sizes_a0)
    have F_counts_a0_8 := Fld.other W8 F_counts_a0_5 (Or.inl ne_a0_w_sizes_a0)
    have F_numbered_a0_8 := Fld.other W8 F_numbered_a0_5 (Or.inl ne_a0_w_sizes_a0)
    have F_live_a0_8 := Fld.other W8 F_live_a0_5 (Or.inl ne_a0_w_sizes_a0)
    have E_a0_8 := E_a0_5.wr W8
    have W_w_groupOf_a0_8 := W_w_groupOf_a0_5.other W8 ne_w_groupOf_a0_w_sizes_a0
    have Z8 := Nat.le_trans Z5 (Keep.of_wr W8).1
    have K8 := K5.wr W8 (Or.inl (List.mem_of_getElem? (i := 2) rfl))
    have N8 := Fr.snoc X8 N5 g_w_sizes_a0
    have W_w_sizes_a0_8 : Arl Z h8 w_sizes_a0 .int (f8_l0 p1 LG LS) := up8 W8
    refine go (B := T8.setTop (mkF m 30 #[.val (.ref a0), .val (.int p1), .val (.int (List.getD LG (p1).toNatClampNeg 0))] [(.int ((List.getD LS ((List.getD LG (p1).toNatClampNeg 0)).toNatClampNeg 0) - (1 : Int32)))])) st8 ?_
    suffices Kj9 : ∀ (T9 : State) (h9 : Heap) (L9 : List Loc), Stand p l e room8 s m #[(.ref a0), (.int p1)] below meth c T9 L9 0 0 → Fr n0 L9 → T9.heap = h9 → n0 ≤ h9.size → Keep h0 h9 [a0, w_groupOf_a0, w_sizes_a0] → Fld Z h9 a0 "com/example/constrained_flow/constrainedflow/planner/search/Sweep$Groups" "sizes" "[I" (.ref w_sizes_a0) → Fld Z h9 a0 "com/example/constrained_flow/constrainedflow/planner/search/Sweep$Groups" "seenIn" "[I" (.ref w_seenIn_a0) → Fld Z h9 a0 "com/example/constrained_flow/constrainedflow/planner/search/Sweep$Groups" "counted" "[I" (.ref w_counted_a0) → Fld Z h9 a0 "com/example/constrained_flow/constrainedflow/planner/search/Sweep$Groups" "groupOf" "[I" (.ref w_groupOf_a0) → Fld Z h9 a0 "com/example/constrained_flow/constrainedflow/planner/search/Sweep$Groups" "counts" "I" (.int w_counts_a0) → Fld Z h9 a0 "com/example/constrained_flow/constrainedflow/planner/search/Sweep$Groups" "numbered" "I" (.int w_numbered_a0) → Exa Z h9 a0 "com/example/constrained_flow/constrainedflow/planner/search/Sweep$Groups" → Arl Z h9 w_groupOf_a0 .int (List.set LG (p1).toNatClampNeg (-1 : Int32)) → Arl Z h9 w_sizes_a0 .int (f8_l0 p1 LG LS) → Fld Z h9 a0 "com/example/constrained_flow/constrainedflow/planner/search/Sweep$Groups" "live" "I" (.int (f8_z1 p1 w_live_a0 LG LS)) → Go p.tables e below F (T9.setTop (mkF m 43 #[.val (.ref a0), .val (.int p1), .val (.int (List.getD LG (p1).toNatClampNeg 0))] [])) by
      by_cases hc10 : ((List.getD LS ((List.getD LG (p1).toNatClampNeg 0)).toNatClampNeg 0) - (1 : Int32)) = (0 : Int32)
      · refine go (B := T8.setTop (mkF m 33 #[.val (.ref a0), .val (.int p1), .val (.int (List.getD LG (p1).toNatClampNeg 0))] [])) (fun _ k => XS.ifNo X8.here hx rfl (hb hby d8_30) rfl ((if0 _ _).trans (teq hc10).2) k) ?_
        refine go (B := T8.setTop (mkF m 34 #[.val (.ref a0), .val (.int p1), .val (.int (List.getD LG (p1).toNatClampNeg 0))] [(.ref a0)])) (fun _ k => XS.aloadN X8.here hx rfl (hb hby d8_33) rfl rfl k) ?_
        refine go (B := T8.setTop (mkF m 35 #[.val (.ref a0), .val (.int p1), .val (.int (List.getD LG (p1).toNatClampNeg 0))] [(.ref a0), (.ref a0)])) (fun _ k => XS.dup X8.here hx rfl (hb hby d8_34) rfl rfl k) ?_
        obtain ⟨T11, X11, e11, st11⟩ := getF X8 hx hZ hown (host := "") (Or.inl (hw _ (List.mem_of_getElem? (i := 59) rfl))) Via.refl e8 F_live_a0_8 (g := (mkF m 35 #[.val (.ref a0), .val (.int p1), .val (.int (List.getD LG (p1).toNatClampNeg 0))] [(.ref a0), (.ref a0)])) rfl rfl (hb hby d8_35)
        refine go (B := T11.setTop (mkF m 38 #[.val (.ref a0), .val (.int p1), .val (.int (List.getD LG (p1).toNatClampNeg 0))] [(.int w_live_a0), (.ref a0)])) st11 ?_
        refine go (B := T11.setTop (mkF m 39 #[.val (.ref a0), .val (.int p1), .val (.int (List.getD LG (p1).toNatClampNeg 0))] [(.int (1 : Int32)), (.int w_live_a0), (.ref a0)])) (fun _ k => XS.iconst X11.here hx rfl (hb hby d8_38) k) ?_
        refine go (B := T11.setTop (mkF m 40 #[.val (.ref a0), .val (.int p1), .val (.int (List.getD LG (p1).toNatClampNeg 0))] [(.int (w_live_a0 - (1 : Int32))), (.ref a0)])) (fun _ k => XS.isub X11.here hx rfl (hb hby d8_39) rfl k) ?_
        obtain ⟨T12, h12, X12, e12, W12, st12⟩ := putF X11 hx hZ hown (host := "") (Or.inl (hw _ (List.mem_of_getElem? (i := 59) rfl))) Via.refl e11 F_live_a0_8 E_a0_8 (Or.inl (hw _ (List.mem_of_getElem? (i := 60) rfl))) (hw _ (List.mem_of_getElem? (i := 14) rfl)) (ty := .int) (by decide) rfl rfl (g := (mkF m 40 #[.val (.ref a0), .val (.int p1), .val (.int (List.getD LG (p1).toNatClampNeg 0))] [(.int (w_live_a0 - (1 : Int32))), (.ref a0)])) rfl rfl (hb hby d8_40)
        have F_sizes_a0_12 := Fld.other W12 F_sizes_a0_8 (Or.inr (slot_ne (Or.inl (hw _ (List.mem_of_getElem? (i := 23) rfl))) (Or.inl (hw _ (List.mem_of_getElem? (i := 60) rfl))) (by decide) (t := (.array .int)) (t' := .int) (by decide) (by decide)))
        have F_seenIn_a0_12 := Fld.other W12 F_seenIn_a0_8 (Or.inr (slot_ne (Or.inl (hw _ (List.mem_of_getElem? (i := 25) rfl))) (Or.inl (hw _ (List.mem_of_getElem? (i := 60) rfl))) (by decide) (t := (.array .int)) (t' := .int) (by decide) (by decide)))
        have F_counted_a0_12 := Fld.other W12 F_counted_a0_8 (Or.inr (slot_ne (Or.inl (hw _ (List.mem_of_getElem? (i := 27) rfl))) (Or.inl (hw _ (List.mem_of_getElem? (i := 60) rfl))) (by decide) (t := (.array .int)) (t' := .int) (by decide) (by decide)))
        have F_groupOf_a0_12 := Fld.other W12 F_groupOf_a0_8 (Or.inr (slot_ne (Or.inr (hw _ (List.mem_of_getElem? (i := 29) rfl))) (Or.inl (hw _ (List.mem_of_getElem? (i := 60) rfl))) (by decide) (t := (.array .int)) (t' := .int) (by decide) (by decide)))
        have F_counts_a0_12 := Fld.other W12 F_counts_a0_8 (Or.inr (slot_ne (Or.inl (hw _ (List.mem_of_getElem? (i := 44) rfl))) (Or.inl (hw _ (List.mem_of_getElem? (i := 60) rfl))) (by decide) (t := .int) (t' := .int) (by decide) (by decide)))
        have F_numbered_a0_12 := Fld.other W12 F_numbered_a0_8 (Or.inr (slot_ne (Or.inl (hw _ (List.mem_of_getElem? (i := 58) rfl))) (Or.inl (hw _ (List.mem_of_getElem? (i := 60) rfl))) (by decide) (t := .int) (t' := .int) (by decide) (by decide)))
        have E_a0_12 := E_a0_8.wr W12
        have W_w_groupOf_a0_12 := W_w_groupOf_a0_8.other W12 (Ne.symm ne_a0_w_groupOf_a0)
        have W_w_sizes_a0_12 := W_w_sizes_a0_8.other W12 (Ne.symm ne_a0_w_sizes_a0)
        have F_live_a0_12 := Fld.same W12 F_live_a0_8
        have Z12 := Nat.le_trans Z8 (Keep.of_wr W12).1
        have K12 := K8.wr W12 (Or.inl (List.mem_of_getElem? (i := 0) rfl))
        have N12 := Fr.snoc X12 N8 g_a0
        refine go (B := T12.setTop (mkF m 43 #[.val (.ref a0), .val (.int p1), .val (.int (List.getD LG (p1).toNatClampNeg 0))] [])) st12 ?_
        rw [show (f8_z1 p1 w_live_a0 LG LS) = (w_live_a0 - (1 : Int32)) from by unfold f8_z1; rw [if_pos hc10]] at Kj9
        exact Kj9 _ _ _ X12 N12 e12 Z12 K12 F_sizes_a0_12 F_seenIn_a0_12 F_counted_a0_12 F_groupOf_a0_12 F_counts_a0_12 F_numbered_a0_12 E_a0_12 W_w_groupOf_a0_12 W_w_sizes_a0_12 F_live_a0_12
      · refine go (B := T8.setTop (mkF m 43 #[.val (.ref a0), .val (.int p1), .val (.int (List.getD LG (p1).toNatClampNeg 0))] [])) (fun _ k => XS.ifYes X8.here hx rfl (pc0 := 30) (pc' := 43) rfl (hb hby d8_30) rfl ((if0 _ _).trans (feq hc10).2) (by decide) (by decide) k) ?_
        rw [show (f8_z1 p1 w_live_a0 LG LS) = w_live_a0 from by unfold f8_z1; rw [if_neg hc10]] at Kj9
        exact Kj9 _ _ _ X8 N8 e8 Z8 K8 F_sizes_a0_8 F_seenIn_a0_8 F_counted_a0_8 F_groupOf_a0_8 F_counts_a0_8 F_numbered_a0_8 E_a0_8 W_w_groupOf_a0_8 W_w_sizes_a0_8 F_live_a0_8
    intro T9 h9 L9 X9 N9 e9 Z9 K9 F_sizes_a0_9 F_seenIn_a0_9 F_counted_a0_9 F_groupOf_a0_9 F_counts_a0_9 F_numbered_a0_9 E_a0_9 W_w_groupOf_a0_9 W_w_sizes_a0_9 F_live_a0_9
    exact end_void X9 hx Bd.notSynchronized Bd.returns (hb hby d8_43) hF e9 (by decide) (by decide) ⟨(f8_l0 p1 LG LS), (f8_z1 p1 w_live_a0 LG LS), rfl, N9, K9, E_a0_9, F_sizes_a0_9, F_seenIn_a0_9, F_counted_a0_9, F_groupOf_a0_9, F_counts_a0_9, F_numbered_a0_9, F_live_a0_9, W_w_groupOf_a0_9, ((List.length_set).trans hl_LG), W_w_sizes_a0_9, ((List.length_set).trans hl_LS)⟩
theorem d11_0 : decode prog_97_method_9_code 0 = .ok (.aload_n 0, 1) := by decide +kernel
theorem d11_1 : decode prog_97_method_9_code 1 = .ok (.getfield 78, 3) := by decide +kernel
theorem d11_4 : decode prog_97_method_9_code 4 = .ok (.aload_n 0, 1) := by decide +kernel
theorem d11_5 : decode prog_97_method_9_code 5 = .ok (.getfield 7, 3) := by decide +kernel
theorem d11_8 : decode prog_97_method_9_code 8 = .ok (.arraylength, 1) := by decide +kernel
theorem d11_9 : decode prog_97_method_9_code 9 = .ok (.if_icmp .ne 58, 3) := by decide +kernel
theorem d11_67 : decode prog_97_method_9_code 67 = .ok (.aload_n 0, 1) := by decide +kernel
theorem d11_68 : decode prog_97_method_9_code 68 = .ok (.dup, 1) := by decide +kernel
theorem d11_69 : decode prog_97_method_9_code 69 = .ok (.getfield 78, 3) := by decide +kernel
theorem d11_72 : decode prog_97_method_9_code 72 = .ok (.dup_x1, 1) := by decide +kernel
theorem d11_73 : decode prog_97_method_9_code 73 = .ok (.iconst 1, 1) := by decide +kernel
theorem d11_74 : decode prog_97_method_9_code 74 = .ok (.iadd, 1) := by decide +kernel
theorem d11_75 : decode prog_97_method_9_code 75 = .ok (.putfield 78, 3) := by decide +kernel
theorem d11_78 : decode prog_97_method_9_code 78 = .ok (.ireturn, 1) := by decide +kernel
theorem ef_11 (m : MethodId) (a0 : Addr) : entryFrame m #[(.ref a0)] 1 = mkF m 0 #[.val (.ref a0)] [] := by first | (simp [entryFrame, mkF, argsToLocals, Value.category]; done) | rfl
def f11 (w_numbered_a0 : Int32) : Int32 := w_numbered_a0
abbrev room11 : Room := { frames := 0, cells := 0, slots := 0, locals := 0 }
def Q11 (Z : State) (a0 : Addr) (w_sizes_a0 : Addr) (w_seenIn_a0 : Addr) (w_counted_a0 : Addr) (w_groupOf_a0 : Addr) (w_counts_a0 : Int32) (w_numbered_a0 : Int32) (w_live_a0 : Int32) (LS : List Int32) (h0 : Heap) (n0 : Nat) (v : Option Value) (h : Heap) (L : List Loc) : Prop := v = some (.int (f11 w_numbered_a0)) ∧ Fr n0 L ∧ Keep h0 h [a0] ∧ Fld Z h a0 "com/example/constrained_flow/constrainedflow/planner/search/Sweep$Groups" "sizes" "[I" (.ref w_sizes_a0) ∧ Fld Z h a0 "com/example/constrained_flow/constrainedflow/planner/search/Sweep$Groups" "seenIn" "[I" (.ref w_seenIn_a0) ∧ Fld Z h a0 "com/example/constrained_flow/constrainedflow/planner/search/Sweep$Groups" "counted" "[I" (.ref w_counted_a0) ∧ Fld Z h a0 "com/example/constrained_flow/constrainedflow/planner/search/Sweep$Groups" "groupOf" "[I" (.ref w_groupOf_a0) ∧ Fld Z h a0 "com/example/constrained_flow/constrainedflow/planner/search/Sweep$Groups" "counts" "I" (.int w_counts_a0) ∧ Fld Z h a0 "com/example/constrained_flow/constrainedflow/planner/search/Sweep$Groups" "live" "I" (.int w_live_a0) ∧ Exa Z h a0 "com/example/constrained_flow/constrainedflow/planner/search/Sweep$Groups" ∧ Fld Z h a0 "com/example/constrained_flow/constrainedflow/planner/search/Sweep$Groups" "numbered" "I" (.int (w_numbered_a0 + (1 : Int32)))
set_option maxRecDepth 65536 in
set_option maxHeartbeats 40000000 in
theorem rm11 (l : Launch) (Z : State) (aw : Array Value) (hw : ∀ d ∈ tables_1, d.before aw Z = true) (ws : List Jvm.Cond) (a0 : Addr) (w_sizes_a0 : Addr) (w_seenIn_a0 : Addr) (w_counted_a0 : Addr) (w_groupOf_a0 : Addr) (w_counts_a0 : Int32) (w_numbered_a0 : Int32) (w_live_a0 : Int32) (LS : List Int32) (h0 : Heap) (n0 : Nat) (Z0 : n0 ≤ h0.size) (F_sizes_a0 : Fld Z h0 a0 "com/example/constrained_flow/constrainedflow/planner/search/Sweep$Groups" "sizes" "[I" (.ref w_sizes_a0)) (F_seenIn_a0 : Fld Z h0 a0 "com/example/constrained_flow/constrainedflow/planner/search/Sweep$Groups" "seenIn" "[I" (.ref w_seenIn_a0)) (F_counted_a0 : Fld Z h0 a0 "com/example/constrained_flow/constrainedflow/planner/search/Sweep$Groups" "counted" "[I" (.ref w_counted_a0)) (F_groupOf_a0 : Fld Z h0 a0 "com/example/constrained_flow/constrainedflow/planner/search/Sweep$Groups" "groupOf" "[I" (.ref w_groupOf_a0)) (F_counts_a0 : Fld Z h0 a0 "com/example/constrained_flow/constrainedflow/planner/search/Sweep$Groups" "counts" "I" (.int w_counts_a0)) (F_numbered_a0 : Fld Z h0 a0 "com/example/constrained_flow/constrainedflow/planner/search/Sweep$Groups" "numbered" "I" (.int w_numbered_a0)) (F_live_a0 : Fld Z h0 a0 "com/example/constrained_flow/constrainedflow/planner/search/Sweep$Groups" "live" "I" (.int w_live_a0)) (E_a0 : Exa Z h0 a0 "com/example/constrained_flow/constrainedflow/planner/search/Sweep$Groups") (W_w_sizes_a0 : Arl Z h0 w_sizes_a0 .int LS) (hl_LS : LS.length = 16) (ne_a0_w_sizes_a0 : a0 ≠ w_sizes_a0) (ha0 : ¬ (w_numbered_a0 = (16 : Int32))) (g_a0 : n0 ≤ a0) :
    MetFree l (⟨"com/example/constrained_flow/constrainedflow/planner/search/Sweep$Groups", "number", "()I"⟩ : MethodName) (head1 (Jvm.Cond.code (⟨"com/example/constrained_flow/constrainedflow/planner/search/Sweep$Groups", "number", "()I"⟩ : MethodName) prog_97_method_9_code 1 (some .int) :: ws) room11) (fun a U => a = #[(.ref a0)] ∧ Z.Warmed39 U.vm ∧ U.heap = h0) (fun _ _ _ _ _ => True) (fun _ U o U' => ∃ v L, o = .returned v ∧ Q11 Z a0 w_sizes_a0 w_seenIn_a0 w_counted_a0 w_groupOf_a0 w_counts_a0 w_numbered_a0 w_live_a0 LS h0 n0 v U'.heap L ∧ FrameEnd U o U' L room11.cells room11.slots) := by
  refine MetFree.of_bodySF (plainFor_of_name pn_4) hisR ?_
  intro p e s m args below meth c s₁ Bd hml0 hP hK
  obtain ⟨rfl, hZ, hh⟩ := hP
  have hx := Bd.exec
  have hby := Bd.bytes
  have hml : c.maxLocals = 1 := hml0
  have hown : s.vm.findClass "com/example/constrained_flow/constrainedflow/planner/search/Sweep$Groups" = some m.cls := findClass_of_methodNamed Bd.named
  have hnm := (name_of_methodNamed Bd.named Bd.method).1
  have X0 : Stand p l e room11 s m #[(.ref a0)] below meth c s₁ [] 0 0 := Stand.of_body Bd
  have e0 : s₁.heap = h0 := by rw [← hh, Bd.state]; rfl
  have N0 := Fr.nil n0
  have K0 := Keep.refl h0 [a0]
  rw [ef_11 m a0]
  refine go_in (s₁ := s₁) (Q := Q11 Z a0 w_sizes_a0 w_seenIn_a0 w_counted_a0 w_groupOf_a0 w_counts_a0 w_numbered_a0 w_live_a0 LS h0 n0) fun F hF => ?_
  refine go (B := s₁.setTop (mkF m 1 #[.val (.ref a0)] [(.ref a0)])) (fun _ k => XS.aloadN X0.here hx rfl (hb hby d11_0) rfl rfl k) ?_
  obtain ⟨T1, X1, e1, st1⟩ := getF X0 hx hZ hown (host := "") (Or.inl (hw _ (List.mem_of_getElem? (i := 57) rfl))) Via.refl e0 F_numbered_a0 (g := (mkF m 1 #[.val (.ref a0)] [(.ref a0)])) rfl rfl (hb hby d11_1)
  refine go (B := T1.setTop (mkF m 4 #[.val (.ref a0)] [(.int w_numbered_a0)])) st1 ?_
  refine go (B := T1.setTop (mkF m 5 #[.val (.ref a0)] [(.ref a0), (.int w_numbered_a0)])) (fun _ k => XS.aloadN X1.here hx rfl (hb hby d11_4) rfl rfl k) ?_
  obtain ⟨T2, X2, e2, st2⟩ := getF X1 hx hZ hown (host := "") (Or.inl (hw _ (List.mem_of_getElem? (i := 22) rfl))) Via.refl e1 F_sizes_a0 (g := (mkF m 5 #[.val (.ref a0)] [(.ref a0), (.int w_numbered_a0)])) rfl rfl (hb hby d11_5)
  refine go (B := T2.setTop (mkF m 8 #[.val (.ref a0)] [(.ref w_sizes_a0), (.int w_numbered_a0)])) st2 ?_
  obtain ⟨cl3, Ar3, ln3⟩ := Arl.len W_w_sizes_a0
  rw [hl_LS] at ln3
  refine go (B := T2.setTop (mkF m 9 #[.val (.ref a0)] [(.int (16 : Int32)), (.int w_numbered_a0)])) (fun _ k => X2.arraylength hx (by rw [e2]; exact Ar3.1) (State.isArrayOf_alike hZ.alike Ar3.2.1) (g := (mkF m 8 #[.val (.ref a0)] [(.ref w_sizes_a0), (.int w_numbered_a0)])) rfl rfl (hb hby d11_8) _ (by rw [ln3]; exact k)) ?_
  refine go (B := T2.setTop (mkF m 67 #[.val (.ref a0)] [])) (fun _ k => XS.icmpYes X2.here hx rfl (pc0 := 9) (pc' := 67) rfl (hb hby d11_9) rfl (feq ha0).2 (by decide) (by decide) k) ?_
  refine go (B := T2.setTop (mkF m 68 #[.val (.ref a0)] [(.ref a0)])) (fun _ k => XS.aloadN X2.here hx rfl (hb hby d11_67) rfl rfl k) ?_
  refine go (B := T2.setTop (mkF m 69 #[.val (.ref a0)] [(.ref a0), (.ref a0)])) (fun _ k => XS.dup X2.here hx rfl (hb hby d11_68) rfl rfl k) ?_
  obtain ⟨T4, X4, e4, st4⟩ := getF X2 hx hZ hown (host := "") (Or.inl (hw _ (List.mem_of_getElem? (i := 57) rfl))) Via.refl e2 F_numbered_a0 (g := (mkF m 69 #[.val (.ref a0)] [(.ref a0), (.ref a0)])) rfl rfl (hb hby d11_69)
  refine go (B := T4.setTop (mkF m 72 #[.val (.ref a0)] [(.int w_numbered_a0), (.ref a0)])) st4 ?_
  refine go (B := T4.setTop (mkF m 73 #[.val (.ref a0)] [(.int w_numbered_a0), (.ref a0), (.int w_numbered_a0)])) (fun _ k => XS.dupX1 X4.here hx rfl (hb hby d11_72) rfl rfl rfl k) ?_
  refine go (B := T4.setTop (mkF m 74 #[.val (.ref a0)] [(.int (1 : Int32)), (.int w_numbered_a0), (.ref a0), (.int w_numbered_a0)])) (fun _ k => XS.iconst X4.here hx rfl (hb hby d11_73) k) ?_
  refine go (B := T4.setTop (mkF m 75 #[.val (.ref a0)] [(.int (w_numbered_a0 + (1 : Int32))), (.ref a0), (.int w_numbered_a0)])) (fun _ k => XS.iadd X4.here hx rfl (hb hby d11_74) rfl k) ?_
  obtain ⟨T5, h5, X5, e5, W5, st5⟩ := putF X4 hx hZ hown (host := "") (Or.inl (hw _ (List.mem_of_getElem? (i := 57) rfl))) Via.refl e4 F_numbered_a0 E_a0 (Or.inl (hw _ (List.mem_of_getElem? (i := 58) rfl))) (hw _ (List.mem_of_getElem? (i := 14) rfl)) (ty := .int) (by decide) rfl rfl (g := (mkF m 75 #[.val (.ref a0)] [(.int (w_numbered_a0 + (1 : Int32))), (.ref a0), (.int w_numbered_a0)])) rfl rfl (hb hby d11_75)
  have F_sizes_a0_5 := Fld.other W5 F_sizes_a0 (Or.inr (slot_ne (Or.inl (hw _ (List.mem_of_getElem? (i := 23) rfl))) (Or.inl (hw _ (List.mem_of_getElem? (i := 58) rfl))) (by decide) (t := (.array .int)) (t' := .int) (by decide) (by decide)))
  have F_seenIn_a0_5 := Fld.other W5 F_seenIn_a0 (Or.inr (slot_ne (Or.inl (hw _ (List.mem_of_getElem? (i := 25) rfl))) (Or.inl (hw _ (List.mem_of_getElem? (i := 58) rfl))) (by decide) (t := (.array .int)) (t' := .int) (by decide) (by decide)))
  have F_counted_a0_5 := Fld.other W5 F_counted_a0 (Or.inr (slot_ne (Or.inl (hw _ (List.mem_of_getElem? (i := 27) rfl))) (Or.inl (hw _ (List.mem_of_getElem? (i := 58) rfl))) (by decide) (t := (.array .int)) (t' := .int) (by decide) (by decide)))
  have F_groupOf_a0_5 := Fld.other W5 F_groupOf_a0 (Or.inr (slot_ne (Or.inr (hw _ (List.mem_of_getElem? (i := 29) rfl))) (Or.inl (hw _ (List.mem_of_getElem? (i := 58) rfl))) (by decide) (t := (.array .int)) (t' := .int) (by decide) (by decide)))
  have F_counts_a0_5 := Fld.other W5 F_counts_a0 (Or.inr (slot_ne (Or.inl (hw _ (List.mem_of_getElem? (i := 44) rfl))) (Or.inl (hw _ (List.mem_of_getElem? (i := 58) rfl))) (by decide) (t := .int) (t' := .int) (by decide) (by decide)))
  have F_live_a0_5 := Fld.other W5 F_live_a0 (Or.inr (slot_ne (Or.inl (hw _ (List.mem_of_getElem? (i := 60) rfl))) (Or.inl (hw _ (List.mem_of_getElem? (i := 58) rfl))) (by decide) (t := .int) (t' := .int) (by decide) (by decide)))
  have E_a0_5 := E_a0.wr W5
  have W_w_sizes_a0_5 := W_w_sizes_a0.other W5 (Ne.symm ne_a0_w_sizes_a0)
  have F_numbered_a0_5 := Fld.same W5 F_numbered_a0
  have Z5 := Nat.le_trans Z0 (Keep.of_wr W5).1
  have K5 := K0.wr W5 (Or.inl (List.mem_of_getElem? (i := 0) rfl))
  have N5 := Fr.snoc X5 N0 g_a0
  refine go (B := T5.setTop (mkF m 78 #[.val (.ref a0)] [(.int w_numbered_a0)])) st5 ?_
  have r6 : (f11 w_numbered_a0) = w_numbered_a0 := by unfold f11; rfl
  exact end_int X5 hx Bd.notSynchronized Bd.returns (hb hby d11_78) hF e5 (by decide) (by decide) ⟨(congrArg (fun z => some (Value.int z)) r6.symm), N5, K5, F_sizes_a0_5, F_seenIn_a0_5, F_counted_a0_5, F_groupOf_a0_5, F_counts_a0_5, F_live_a0_5, E_a0_5, F_numbered_a0_5⟩
theorem pd_3 : parseMethodDescriptor "(I)V" = some ⟨[.int], none⟩ := by decide +kernel
theorem pd_4 : parseMethodDescriptor "()I" = some ⟨[], some .int⟩ := by decide +kernel
theorem d7_0 : decode prog_97_method_4_code 0 = .ok (.aload_n 0, 1) := by decide +kernel
theorem d7_1 : decode prog_97_method_4_code 1 = .ok (.iload_n 1, 1) := by decide +kernel
theorem d7_2 : decode prog_97_method_4_code 2 = .ok (.invokevirtual 32, 3) := by decide +kernel
theorem d7_5 : decode prog_97_method_4_code 5 = .ok (.aload_n 0, 1) := by decide +kernel
theorem d7_6 : decode prog_97_method_4_code 6 = .ok (.dup, 1) := by decide +kernel
theorem d7_7 : decode prog_97_method_4_code 7 = .ok (.getfield 36, 3) := by decide +kernel
theorem d7_10 : decode prog_97_method_4_code 10 = .ok (.iconst 1, 1) := by decide +kernel
theorem d7_11 : decode prog_97_method_4_code 11 = .ok (.iadd, 1) := by decide +kernel
theorem d7_12 : decode prog_97_method_4_code 12 = .ok (.putfield 36, 3) := by decide +kernel
theorem d7_15 : decode prog_97_method_4_code 15 = .ok (.aload_n 2, 1) := by decide +kernel
theorem d7_16 : decode prog_97_method_4_code 16 = .ok (.astore_n 3, 1) := by decide +kernel
theorem d7_17 : decode prog_97_method_4_code 17 = .ok (.aload_n 3, 1) := by decide +kernel
theorem d7_18 : decode prog_97_method_4_code 18 = .ok (.arraylength, 1) := by decide +kernel
theorem d7_19 : decode prog_97_method_4_code 19 = .ok (.istore 4, 2) := by decide +kernel
theorem d7_21 : decode prog_97_method_4_code 21 = .ok (.iconst 0, 1) := by decide +kernel
theorem d7_22 : decode prog_97_method_4_code 22 = .ok (.istore 5, 2) := by decide +kernel
theorem d7_24 : decode prog_97_method_4_code 24 = .ok (.iload 5, 2) := by decide +kernel
theorem d7_26 : decode prog_97_method_4_code 26 = .ok (.iload 4, 2) := by decide +kernel
theorem d7_28 : decode prog_97_method_4_code 28 = .ok (.if_icmp .ge 115, 3) := by decide +kernel
theorem d7_31 : decode prog_97_method_4_code 31 = .ok (.aload_n 3, 1) := by decide +kernel
theorem d7_32 : decode prog_97_method_4_code 32 = .ok (.iload 5, 2) := by decide +kernel
theorem d7_34 : decode prog_97_method_4_code 34 = .ok (.iaload, 1) := by decide +kernel
theorem d7_35 : decode prog_97_method_4_code 35 = .ok (.istore 6, 2) := by decide +kernel
theorem d7_37 : decode prog_97_method_4_code 37 = .ok (.aload_n 0, 1) := by decide +kernel
theorem d7_38 : decode prog_97_method_4_code 38 = .ok (.getfield 19, 3) := by decide +kernel
theorem d7_41 : decode prog_97_method_4_code 41 = .ok (.iload 6, 2) := by decide +kernel
theorem d7_43 : decode prog_97_method_4_code 43 = .ok (.iaload, 1) := by decide +kernel
theorem d7_44 : decode prog_97_method_4_code 44 = .ok (.iconst 1, 1) := by decide +kernel
theorem d7_45 : decode prog_97_method_4_code 45 = .ok (.iadd, 1) := by decide +kernel
theorem d7_46 : decode prog_97_method_4_code 46 = .ok (.istore 7, 2) := by decide +kernel
theorem d7_48 : decode prog_97_method_4_code 48 = .ok (.aload_n 0, 1) := by decide +kernel
theorem d7_49 : decode prog_97_method_4_code 49 = .ok (.iload 6, 2) := by decide +kernel
theorem d7_51 : decode prog_97_method_4_code 51 = .ok (.invokevirtual 32, 3) := by decide +kernel
theorem d7_54 : decode prog_97_method_4_code 54 = .ok (.aload_n 0, 1) := by decide +kernel
theorem d7_55 : decode prog_97_method_4_code 55 = .ok (.getfield 13, 3) := by decide +kernel
theorem d7_58 : decode prog_97_method_4_code 58 = .ok (.iload 7, 2) := by decide +kernel
theorem d7_60 : decode prog_97_method_4_code 60 = .ok (.iaload, 1) := by decide +kernel
theorem d7_61 : decode prog_97_method_4_code 61 = .ok (.aload_n 0, 1) := by decide +kernel
theorem d7_62 : decode prog_97_method_4_code 62 = .ok (.getfield 36, 3) := by decide +kernel
theorem d7_65 : decode prog_97_method_4_code 65 = .ok (.if_icmp .eq 29, 3) := by decide +kernel
theorem d7_68 : decode prog_97_method_4_code 68 = .ok (.aload_n 0, 1) := by decide +kernel
theorem d7_69 : decode prog_97_method_4_code 69 = .ok (.invokevirtual 39, 3) := by decide +kernel
theorem d7_72 : decode prog_97_method_4_code 72 = .ok (.istore 8, 2) := by decide +kernel
theorem d7_74 : decode prog_97_method_4_code 74 = .ok (.aload_n 0, 1) := by decide +kernel
theorem d7_75 : decode prog_97_method_4_code 75 = .ok (.getfield 13, 3) := by decide +kernel
theorem d7_78 : decode prog_97_method_4_code 78 = .ok (.iload 7, 2) := by decide +kernel
theorem d7_80 : decode prog_97_method_4_code 80 = .ok (.aload_n 0, 1) := by decide +kernel
theorem d7_81 : decode prog_97_method_4_code 81 = .ok (.getfield 36, 3) := by decide +kernel
theorem d7_84 : decode prog_97_method_4_code 84 = .ok (.iastore, 1) := by decide +kernel
theorem d7_85 : decode prog_97_method_4_code 85 = .ok (.aload_n 0, 1) := by decide +kernel
theorem d7_86 : decode prog_97_method_4_code 86 = .ok (.getfield 16, 3) := by decide +kernel
theorem d7_89 : decode prog_97_method_4_code 89 = .ok (.iload 7, 2) := by decide +kernel
theorem d7_91 : decode prog_97_method_4_code 91 = .ok (.iload 8, 2) := by decide +kernel
theorem d7_93 : decode prog_97_method_4_code 93 = .ok (.iastore, 1) := by decide +kernel
theorem d7_94 : decode prog_97_method_4_code 94 = .ok (.aload_n 0, 1) := by decide +kernel
theorem d7_95 : decode prog_97_method_4_code 95 = .ok (.getfield 16, 3) := by decide +kernel
theorem d7_98 : decode prog_97_method_4_code 98 = .ok (.iload 7, 2) := by decide +kernel
theorem d7_100 : decode prog_97_method_4_code 100 = .ok (.iaload, 1) := by decide +kernel
theorem d7_101 : decode prog_97_method_4_code 101 = .ok (.istore 8, 2) := by decide +kernel
theorem d7_103 : decode prog_97_method_4_code 103 = .ok (.aload_n 0, 1) := by decide +kernel
theorem d7_104 : decode prog_97_method_4_code 104 = .ok (.getfield 19, 3) := by decide +kernel
theorem d7_107 : decode prog_97_method_4_code 107 = .ok (.iload 6, 2) := by decide +kernel
theorem d7_109 : decode prog_97_method_4_code 109 = .ok (.iload 8, 2) := by decide +kernel
theorem d7_111 : decode prog_97_method_4_code 111 = .ok (.iastore, 1) := by decide +kernel
theorem d7_112 : decode prog_97_method_4_code 112 = .ok (.aload_n 0, 1) := by decide +kernel
theorem d7_113 : decode prog_97_method_4_code 113 = .ok (.getfield 7, 3) := by decide +kernel
theorem d7_116 : decode prog_97_method_4_code 116 = .ok (.iload 8, 2) := by decide +kernel
theorem d7_118 : decode prog_97_method_4_code 118 = .ok (.dup2, 1) := by decide +kernel
theorem d7_119 : decode prog_97_method_4_code 119 = .ok (.iaload, 1) := by decide +kernel
theorem d7_120 : decode prog_97_method_4_code 120 = .ok (.dup_x2, 1) := by decide +kernel
theorem d7_121 : decode prog_97_method_4_code 121 = .ok (.iconst 1, 1) := by decide +kernel
theorem d7_122 : decode prog_97_method_4_code 122 = .ok (.iadd, 1) := by decide +kernel
theorem d7_123 : decode prog_97_method_4_code 123 = .ok (.iastore, 1) := by decide +kernel
theorem d7_124 : decode prog_97_method_4_code 124 = .ok (.ifCond .ne 13, 3) := by decide +kernel
theorem d7_127 : decode prog_97_method_4_code 127 = .ok (.aload_n 0, 1) := by decide +kernel
theorem d7_128 : decode prog_97_method_4_code 128 = .ok (.dup, 1) := by decide +kernel
theorem d7_129 : decode prog_97_method_4_code 129 = .ok (.getfield 28, 3) := by decide +kernel
theorem d7_132 : decode prog_97_method_4_code 132 = .ok (.iconst 1, 1) := by decide +kernel
theorem d7_133 : decode prog_97_method_4_code 133 = .ok (.iadd, 1) := by decide +kernel
theorem d7_134 : decode prog_97_method_4_code 134 = .ok (.putfield 28, 3) := by decide +kernel
theorem d7_137 : decode prog_97_method_4_code 137 = .ok (.iinc 5 1, 3) := by decide +kernel
theorem d7_140 : decode prog_97_method_4_code 140 = .ok (.goto (-116), 3) := by decide +kernel
theorem d7_143 : decode prog_97_method_4_code 143 = .ok (.return_, 1) := by decide +kernel
theorem ef_7n2 (m : MethodId) (a0 : Addr) (p1 : Int32) (a2 : Addr) : entryFrame m #[(.ref a0), (.int p1), (.ref a2)] 9 = mkF m 0 #[.val (.ref a0), .val (.int p1), .val (.ref a2), .unset, .unset, .unset, .unset, .unset, .unset] [] := by first | (simp [entryFrame, mkF, argsToLocals, Value.category]; done) | rfl
def f7n2_t0 (p1 : Int32) (LG : List Int32) (L_a2 : List Int32) : Int32 := (List.getD (List.set LG (p1).toNatClampNeg (-1 : Int32)) ((List.getD L_a2 0 0)).toNatClampNeg 0)
def f7n2_l1 (p1 : Int32) (w_counts_a0 : Int32) (LG : List Int32) (LI : List Int32) (L_a2 : List Int32) : List Int32 := (List.set LI (((f7n2_t0 p1 LG L_a2) + (1 : Int32))).toNatClampNeg (w_counts_a0 + (1 : Int32)))
def f7n2_l2 (p1 : Int32) (w_counts_a0 : Int32) (LG : List Int32) (LI : List Int32) (L_a2 : List Int32) : List Int32 := if (List.getD LI (((f7n2_t0 p1 LG L_a2) + (1 : Int32))).toNatClampNeg 0) = (w_counts_a0 + (1 : Int32)) then LI else (f7n2_l1 p1 w_counts_a0 LG LI L_a2)
def f7n2_l3 (p1 : Int32) (w_counts_a0 : Int32) (w_numbered_a0 : Int32) (LG : List Int32) (LI : List Int32) (LC : List Int32) (L_a2 : List Int32) : List Int32 := if (List.getD LI (((f7n2_t0 p1 LG L_a2) + (1 : Int32))).toNatClampNeg 0) = (w_counts_a0 + (1 : Int32)) then LC else (List.set LC (((f7n2_t0 p1 LG L_a2) + (1 : Int32))).toNatClampNeg (f11 w_numbered_a0))
def f7n2_z4 (p1 : Int32) (w_counts_a0 : Int32) (w_numbered_a0 : Int32) (LG : List Int32) (LI : List Int32) (L_a2 : List Int32) : Int32 := if (List.getD LI (((f7n2_t0 p1 LG L_a2) + (1 : Int32))).toNatClampNeg 0) = (w_counts_a0 + (1 : Int32)) then w_numbered_a0 else (w_numbered_a0 + (1 : Int32))
def f7n2_t5 (p1 : Int32) (w_counts_a0 : Int32) (w_numbered_a0 : Int32) (LG : List Int32) (LI : List Int32) (LC : List Int32) (L_a2 : List Int32) : Int32 := (List.getD (f7n2_l3 p1 w_counts_a0 w_numbered_a0 LG LI LC L_a2) (((f7n2_t0 p1 LG L_a2) + (1 : Int32))).toNatClampNeg 0)
def f7n2_l6 (p1 : Int32) (w_counts_a0 : Int32) (w_numbered_a0 : Int32) (LG : List Int32) (LI : List Int32) (LC : List Int32) (L_a2 : List Int32) : List Int32 := (List.set (List.set (List.set LG (p1).toNatClampNeg (-1 : Int32)) ((List.getD L_a2 0 0)).toNatClampNeg (-1 : Int32)) ((List.getD L_a2 0 0)).toNatClampNeg (f7n2_t5 p1 w_counts_a0 w_numbered_a0 LG LI LC L_a2))
def f7n2_t7 (p1 : Int32) (w_counts_a0 : Int32) (w_numbered_a0 : Int32) (LG : List Int32) (LI : List Int32) (LC : List Int32) (L_a2 : List Int32) (S'_11 : List Int32) : Int32 := ((List.getD S'_11 ((f7n2_t5 p1 w_counts_a0 w_numbered_a0 LG LI LC L_a2)).toNatClampNeg 0) + (1 : Int32))
def f7n2_l8 (p1 : Int32) (w_counts_a0 : Int32) (w_numbered_a0 : Int32) (LG : List Int32) (LI : List Int32) (LC : List Int32) (L_a2 : List Int32) (S'_11 : List Int32) : List Int32 := (List.set S'_11 ((f7n2_t5 p1 w_counts_a0 w_numbered_a0 LG LI LC L_a2)).toNatClampNeg (f7n2_t7 p1 w_counts_a0 w_numbered_a0 LG LI LC L_a2 S'_11))
def f7n2_z9 (p1 : Int32) (w_counts_a0 : Int32) (w_numbered_a0 : Int32) (LG : List Int32) (LI : List Int32) (LC : List Int32) (L_a2 : List Int32) (S'_11 : List Int32) (V'_11 : Int32) : Int32 := if (List.getD S'_11 ((f7n2_t5 p1 w_counts_a0 w_numbered_a0 LG LI LC L_a2)).toNatClampNeg 0) = (0 : Int32) then (V'_11 + (1 : Int32)) else V'_11
def f7n2_t10 (p1 : Int32) (w_counts_a0 : Int32) (w_numbered_a0 : Int32) (LG : List Int32) (LI : List Int32) (LC : List Int32) (L_a2 : List Int32) : Int32 := (List.getD (f7n2_l6 p1 w_counts_a0 w_numbered_a0 LG LI LC L_a2) ((List.getD L_a2 1 0)).toNatClampNeg 0)
def f7n2_t11 (p1 : Int32) (w_counts_a0 : Int32) (w_numbered_a0 : Int32) (LG : List Int32) (LI : List Int32) (LC : List Int32) (L_a2 : List Int32) : Int32 := (List.getD (f7n2_l2 p1 w_counts_a0 LG LI L_a2) (((f7n2_t10 p1 w_counts_a0 w_numbered_a0 LG LI LC L_a2) + (1 : Int32))).toNatClampNeg 0)
def f7n2_l12 (p1 : Int32) (w_counts_a0 : Int32) (w_numbered_a0 : Int32) (LG : List Int32) (LI : List Int32) (LC : List Int32) (L_a2 : List Int32) : List Int32 := (List.set (f7n2_l2 p1 w_counts_a0 LG LI L_a2) (((f7n2_t10 p1 w_counts_a0 w_numbered_a0 LG LI LC L_a2) + (1 : Int32))).toNatClampNeg (w_counts_a0 + (1 : Int32)))
def f7n2_l13 (p1 : Int32) (w_counts_a0 : Int32) (w_numbered_a0 : Int32) (LG : List Int32) (LI : List Int32) (LC : List Int32) (L_a2 : List Int32) : List Int32 := (List.set (f7n2_l3 p1 w_counts_a0 w_numbered_a0 LG LI LC L_a2) (((f7n2_t10 p1 w_counts_a0 w_numbered_a0 LG LI LC L_a2) + (1 : Int32))).toNatClampNeg (f11 (f7n2_z4 p1 w_counts_a0 w_numbered_a0 LG LI L_a2)))
def f7n2_z14 (p1 : Int32) (w_counts_a0 : Int32) (w_numbered_a0 : Int32) (LG : List Int32) (LI : List Int32) (LC : List Int32) (L_a2 : List Int32) : Int32 := if (f7n2_t11 p1 w_counts_a0 w_numbered_a0 LG LI LC L_a2) = (w_counts_a0 + (1 : Int32)) then (f7n2_t5 p1 w_counts_a0 w_numbered_a0 LG LI LC L_a2) else (f11 (f7n2_z4 p1 w_counts_a0 w_numbered_a0 LG LI L_a2))
def f7n2_l15 (p1 : Int32) (w_counts_a0 : Int32) (w_numbered_a0 : Int32) (LG : List Int32) (LI : List Int32) (LC : List Int32) (L_a2 : List Int32) : List Int32 := if (f7n2_t11 p1 w_counts_a0 w_numbered_a0 LG LI LC L_a2) = (w_counts_a0 + (1 : Int32)) then (f7n2_l2 p1 w_counts_a0 LG LI L_a2) else (f7n2_l12 p1 w_counts_a0 w_numbered_a0 LG LI LC L_a2)
def f7n2_l16 (p1 : Int32) (w_counts_a0 : Int32) (w_numbered_a0 : Int32) (LG : List Int32) (LI : List Int32) (LC : List Int32) (L_a2 : List Int32) : List Int32 := if (f7n2_t11 p1 w_counts_a0 w_numbered_a0 LG LI LC L_a2) = (w_counts_a0 + (1 : Int32)) then (f7n2_l3 p1 w_counts_a0 w_numbered_a0 LG LI LC L_a2) else (f7n2_l13 p1 w_counts_a0 w_numbered_a0 LG LI LC L_a2)
def f7n2_z17 (p1 : Int32) (w_counts_a0 : Int32) (w_numbered_a0 : Int32) (LG : List Int32) (LI : List Int32) (LC : List Int32) (L_a2 : List Int32) : Int32 := if (f7n2_t11 p1 w_counts_a0 w_numbered_a0 LG LI LC L_a2) = (w_counts_a0 + (1 : Int32)) then (f7n2_z4 p1 w_counts_a0 w_numbered_a0 LG LI L_a2) else ((f7n2_z4 p1 w_counts_a0 w_numbered_a0 LG LI L_a2) + (1 : Int32))
def f7n2_t18 (p1 : Int32) (w_counts_a0 : Int32) (w_numbered_a0 : Int32) (LG : List Int32) (LI : List Int32) (LC : List Int32) (L_a2 : List Int32) : Int32 := (List.getD (f7n2_l16 p1 w_counts_a0 w_numbered_a0 LG LI LC L_a2) (((f7n2_t10 p1 w_counts_a0 w_numbered_a0 LG LI LC L_a2) + (1 : Int32))).toNatClampNeg 0)
def f7n2_l19 (p1 : Int32) (w_counts_a0 : Int32) (w_numbered_a0 : Int32) (LG : List Int32) (LI : List Int32) (LC : List Int32) (L_a2 : List Int32) : List Int32 := (List.set (List.set (f7n2_l6 p1 w_counts_a0 w_numbered_a0 LG LI LC L_a2) ((List.getD L_a2 1 0)).toNatClampNeg (-1 : Int32)) ((List.getD L_a2 1 0)).toNatClampNeg (f7n2_t18 p1 w_counts_a0 w_numbered_a0 LG LI LC L_a2))
def f7n2_t20 (p1 : Int32) (w_counts_a0 : Int32) (w_numbered_a0 : Int32) (LG : List Int32) (LI : List Int32) (LC : List Int32) (L_a2 : List Int32) (S'_42 : List Int32) : Int32 := ((List.getD S'_42 ((f7n2_t18 p1 w_counts_a0 w_numbered_a0 LG LI LC L_a2)).toNatClampNeg 0) + (1 : Int32))
def f7n2_l21 (p1 : Int32) (w_counts_a0 : Int32) (w_numbered_a0 : Int32) (LG : List Int32) (LI : List Int32) (LC : List Int32) (L_a2 : List Int32) (S'_42 : List Int32) : List Int32 := (List.set S'_42 ((f7n2_t18 p1 w_counts_a0 w_numbered_a0 LG LI LC L_a2)).toNatClampNeg (f7n2_t20 p1 w_counts_a0 w_numbered_a0 LG LI LC L_a2 S'_42))
def f7n2_z22 (p1 : Int32) (w_counts_a0 : Int32) (w_numbered_a0 : Int32) (LG : List Int32) (LI : List Int32) (LC : List Int32) (L_a2 : List Int32) (S'_42 : List Int32) (V'_42 : Int32) : Int32 := if (List.getD S'_42 ((f7n2_t18 p1 w_counts_a0 w_numbered_a0 LG LI LC L_a2)).toNatClampNeg 0) = (0 : Int32) then (V'_42 + (1 : Int32)) else V'_42
abbrev room7n2 : Room := { frames := 1, cells := 0, slots := 0, locals := 14 }
def Q7n2 (Z : State) (a0 : Addr) (p1 : Int32) (a2 : Addr) (w_sizes_a0 : Addr) (w_seenIn_a0 : Addr) (w_counted_a0 : Addr) (w_groupOf_a0 : Addr) (w_counts_a0 : Int32) (w_numbered_a0 : Int32) (w_live_a0 : Int32) (LG : List Int32) (LS : List Int32) (LI : List Int32) (LC : List Int32) (L_a2 : List Int32) (h0 : Heap) (n0 : Nat) (v : Option Value) (h : Heap) (L : List Loc) : Prop := ∃ G' : List Int32, ∃ S' : List Int32, ∃ I' : List Int32, ∃ C' : List Int32, ∃ V' : Int32, ∃ N' : Int32, v = none ∧ Fr n0 L ∧ Keep h0 h [a0, w_groupOf_a0, w_sizes_a0, w_seenIn_a0, w_counted_a0] ∧ Exa Z h a0 "com/example/constrained_flow/constrainedflow/planner/search/Sweep$Groups" ∧ Fld Z h a0 "com/example/constrained_flow/constrainedflow/planner/search/Sweep$Groups" "sizes" "[I" (.ref w_sizes_a0) ∧ Fld Z h a0 "com/example/constrained_flow/constrainedflow/planner/search/Sweep$Groups" "seenIn" "[I" (.ref w_seenIn_a0) ∧ Fld Z h a0 "com/example/constrained_flow/constrainedflow/planner/search/Sweep$Groups" "counted" "[I" (.ref w_counted_a0) ∧ Fld Z h a0 "com/example/constrained_flow/constrainedflow/planner/search/Sweep$Groups" "groupOf" "[I" (.ref w_groupOf_a0) ∧ Fld Z h a0 "com/example/constrained_flow/constrainedflow/planner/search/Sweep$Groups" "counts" "I" (.int (w_counts_a0 + (1 : Int32))) ∧ Fld Z h a0 "com/example/constrained_flow/constrainedflow/planner/search/Sweep$Groups" "numbered" "I" (.int N') ∧ Fld Z h a0 "com/example/constrained_flow/constrainedflow/planner/search/Sweep$Groups" "live" "I" (.int V') ∧ Arl Z h w_groupOf_a0 .int G' ∧ G'.length = 4 ∧ Arl Z h w_sizes_a0 .int S' ∧ S'.length = 16 ∧ Arl Z h w_seenIn_a0 .int I' ∧ I'.length = 17 ∧ Arl Z h w_counted_a0 .int C' ∧ C'.length = 17 ∧ own_G G' N' ∧ own_I I' (w_counts_a0 + (1 : Int32)) ∧ N'.toInt ≤ w_numbered_a0.toInt + 2 ∧ own_rel LG p1 L_a2 G'
set_option maxRecDepth 65536 in
set_option maxHeartbeats 40000000 in
theorem rm7n2 (l : Launch) (Z : State) (aw : Array Value) (hw : ∀ d ∈ tables_1, d.before aw Z = true) (ws : List Jvm.Cond) (a0 : Addr) (p1 : Int32) (a2 : Addr) (w_sizes_a0 : Addr) (w_seenIn_a0 : Addr) (w_counted_a0 : Addr) (w_groupOf_a0 : Addr) (w_counts_a0 : Int32) (w_numbered_a0 : Int32) (w_live_a0 : Int32) (LG : List Int32) (LS : List Int32) (LI : List Int32) (LC : List Int32) (L_a2 : List Int32) (h0 : Heap) (n0 : Nat) (Z0 : n0 ≤ h0.size) (F_sizes_a0 : Fld Z h0 a0 "com/example/constrained_flow/constrainedflow/planner/search/Sweep$Groups" "sizes" "[I" (.ref w_sizes_a0)) (F_seenIn_a0 : Fld Z h0 a0 "com/example/constrained_flow/constrainedflow/planner/search/Sweep$Groups" "seenIn" "[I" (.ref w_seenIn_a0)) (F_counted_a0 : Fld Z h0 a0 "com/example/constrained_flow/constrainedflow/planner/search/Sweep$Groups" "counted" "[I" (.ref w_counted_a0)) (F_groupOf_a0 : Fld Z h0 a0 "com/example/constrained_flow/constrainedflow/planner/search/Sweep$Groups" "groupOf" "[I" (.ref w_groupOf_a0)) (F_counts_a0 : Fld Z h0 a0 "com/example/constrained_flow/constrainedflow/planner/search/Sweep$Groups" "counts" "I" (.int w_counts_a0)) (F_numbered_a0 : Fld Z h0 a0 "com/example/constrained_flow/constrainedflow/planner/search/Sweep$Groups" "numbered" "I" (.int w_numbered_a0)) (F_live_a0 : Fld Z h0 a0 "com/example/constrained_flow/constrainedflow/planner/search/Sweep$Groups" "live" "I" (.int w_live_a0)) (E_a0 : Exa Z h0 a0 "com/example/constrained_flow/constrainedflow/planner/search/Sweep$Groups") (W_w_groupOf_a0 : Arl Z h0 w_groupOf_a0 .int LG) (hl_LG : LG.length = 4) (W_w_sizes_a0 : Arl Z h0 w_sizes_a0 .int LS) (hl_LS : LS.length = 16) (W_w_seenIn_a0 : Arl Z h0 w_seenIn_a0 .int LI) (hl_LI : LI.length = 17) (W_w_counted_a0 : Arl Z h0 w_counted_a0 .int LC) (hl_LC : LC.length = 17) (W_a2 : Arl Z h0 a2 .int L_a2) (hl_L_a2 : L_a2.length = 2) (ne_a0_w_groupOf_a0 : a0 ≠ w_groupOf_a0) (ne_a0_w_sizes_a0 : a0 ≠ w_sizes_a0) (ne_a0_w_seenIn_a0 : a0 ≠ w_seenIn_a0) (ne_a0_w_counted_a0 : a0 ≠ w_counted_a0) (ne_a0_a2 : a0 ≠ a2) (ne_w_groupOf_a0_w_sizes_a0 : w_groupOf_a0 ≠ w_sizes_a0) (ne_w_groupOf_a0_w_seenIn_a0 : w_groupOf_a0 ≠ w_seenIn_a0) (ne_w_groupOf_a0_w_counted_a0 : w_groupOf_a0 ≠ w_counted_a0) (ne_w_groupOf_a0_a2 : w_groupOf_a0 ≠ a2) (ne_w_sizes_a0_w_seenIn_a0 : w_sizes_a0 ≠ w_seenIn_a0) (ne_w_sizes_a0_w_counted_a0 : w_sizes_a0 ≠ w_counted_a0) (ne_w_sizes_a0_a2 : w_sizes_a0 ≠ a2) (ne_w_seenIn_a0_w_counted_a0 : w_seenIn_a0 ≠ w_counted_a0) (ne_w_seenIn_a0_a2 : w_seenIn_a0 ≠ a2) (ne_w_counted_a0_a2 : w_counted_a0 ≠ a2) (hG : own_G LG w_numbered_a0) (hI : own_I LI w_counts_a0) (hbk : own_nd p1) (g_a0 : n0 ≤ a0) (g_w_groupOf_a0 : n0 ≤ w_groupOf_a0) (g_w_sizes_a0 : n0 ≤ w_sizes_a0) (g_w_seenIn_a0 : n0 ≤ w_seenIn_a0) (g_w_counted_a0 : n0 ≤ w_counted_a0) (hch : ∀ z ∈ L_a2, own_nd z) (hN : w_numbered_a0.toInt + 2 ≤ 15) (hKc : w_counts_a0.toInt < 100) :
    MetFree l (⟨"com/example/constrained_flow/constrainedflow/planner/search/Sweep$Groups", "take", "(I[I)V"⟩ : MethodName) (head1 (Jvm.Cond.code (⟨"com/example/constrained_flow/constrainedflow/planner/search/Sweep$Groups", "take", "(I[I)V"⟩ : MethodName) prog_97_method_4_code 9 none :: ws) room7n2) (fun a U => a = #[(.ref a0), (.int p1), (.ref a2)] ∧ Z.Warmed39 U.vm ∧ U.heap = h0) (fun _ _ _ _ _ => True) (fun _ U o U' => ∃ v L, o = .returned v ∧ Q7n2 Z a0 p1 a2 w_sizes_a0 w_seenIn_a0 w_counted_a0 w_groupOf_a0 w_counts_a0 w_numbered_a0 w_live_a0 LG LS LI LC L_a2 h0 n0 v U'.heap L ∧ FrameEnd U o U' L room7n2.cells room7n2.slots) := by
  refine MetFree.of_bodySF (plainFor_of_name pn_4) hisR ?_
  intro p e s m args below meth c s₁ Bd hml0 hP hK
  obtain ⟨rfl, hZ, hh⟩ := hP
  have hx := Bd.exec
  have hby := Bd.bytes
  have hml : c.maxLocals = 9 := hml0
  have hown : s.vm.findClass "com/example/constrained_flow/constrainedflow/planner/search/Sweep$Groups" = some m.cls := findClass_of_methodNamed Bd.named
  have hnm := (name_of_methodNamed Bd.named Bd.method).1
  have X0 : Stand p l e room7n2 s m #[(.ref a0), (.int p1), (.ref a2)] below meth c s₁ [] 0 0 := Stand.of_body Bd
  have e0 : s₁.heap = h0 := by rw [← hh, Bd.state]; rfl
  have N0 := Fr.nil n0
  have K0 := Keep.refl h0 [a0, w_groupOf_a0, w_sizes_a0, w_seenIn_a0, w_counted_a0]
  rw [ef_7n2 m a0 p1 a2]
  refine go_in (s₁ := s₁) (Q := Q7n2 Z a0 p1 a2 w_sizes_a0 w_seenIn_a0 w_counted_a0 w_groupOf_a0 w_counts_a0 w_numbered_a0 w_live_a0 LG LS LI LC L_a2 h0 n0) fun F hF => ?_
  refine go (B := s₁.setTop (mkF m 1 #[.val (.ref a0), .val (.int p1), .val (.ref a2), .unset, .unset, .unset, .unset, .unset, .unset] [(.ref a0)])) (fun _ k => XS.aloadN X0.here hx rfl (hb hby d7_0) rfl rfl k) ?_
  refine go (B := s₁.setTop (mkF m 2 #[.val (.ref a0), .val (.int p1), .val (.ref a2), .unset, .unset, .unset, .unset, .unset, .unset] [(.int p1), (.ref a0)])) (fun _ k => XS.iloadN X0.here hx rfl (hb hby d7_1) rfl k) ?_
  obtain ⟨cq1, q1, q1'⟩ := E_a0.cell
  obtain ⟨_, _, ⟨T1, L1, k1, n1⟩, -, X1, ⟨Lc1, hQ1, l1, y1, z1⟩, st1⟩ := X0.privateBack hx (y := (⟨"com/example/constrained_flow/constrainedflow/planner/search/Sweep$Groups", "leave", "(I)V"⟩ : MethodName)) hown (mvT hZ (hw _ (List.mem_of_getElem? (i := 39) rfl))) (mvT hZ (hw _ (List.mem_of_getElem? (i := 40) rfl))) (own_selp hZ (hw _ (List.mem_of_getElem? (i := 14) rfl)) (hw _ (List.mem_of_getElem? (i := 41) rfl)) (hw _ (List.mem_of_getElem? (i := 40) rfl)) (by decide)) (Cond.privateMethod_at (mvP hZ (hw _ (List.mem_of_getElem? (i := 41) rfl)) (args := #[]))) (mvT hZ (hw _ (List.mem_of_getElem? (i := 42) rfl))) (by decide) (backOf (W := 0) (rm8 l Z aw hw [] a0 p1 w_sizes_a0 w_seenIn_a0 w_counted_a0 w_groupOf_a0 w_counts_a0 w_numbered_a0 w_live_a0 LG LS h0 n0 Z0 F_sizes_a0 F_seenIn_a0 F_counted_a0 F_groupOf_a0 F_counts_a0 F_numbered_a0 F_live_a0 E_a0 W_w_groupOf_a0 hl_LG W_w_sizes_a0 hl_LS ne_a0_w_groupOf_a0 ne_a0_w_sizes_a0 ne_w_groupOf_a0_w_sizes_a0 hG hbk g_w_groupOf_a0 g_w_sizes_a0 g_a0) hZ (hw _ (List.mem_of_getElem? (i := 42) rfl)) (hw _ (List.mem_of_getElem? (i := 15) rfl)) (by decide) (by decide)) (g := (mkF m 2 #[.val (.ref a0), .val (.int p1), .val (.ref a2), .unset, .unset, .unset, .unset, .unset, .unset] [(.int p1), (.ref a0)])) rfl (by rw [hml]; rfl) (Steps.refl _) (a := a0) (by rw [e0]; exact q1) q1' (argsL := [(.int p1)]) (rest := []) (lenOf pd_3 rfl) rfl (by show 2 * 0 + _ ≤ _; exact Nat.le_of_eq rfl) (hb hby d7_2) (fun _ _ => ⟨rfl, e0, (by decide : 0 + 0 ≤ _), (by decide : 0 + 0 ≤ _)⟩)
  dsimp only [Pt.U, Pt.locs, Pt.cells, Pt.slots] at X1 l1 y1 z1 st1 hQ1
  subst l1 y1 z1
  obtain ⟨S'_1, V'_1, rfl, N1q, Kc1, o1_0, o1_1, o1_2, o1_3, o1_4, o1_5, o1_6, o1_7, o1_8, o1_9, o1_10, o1_11⟩ := hQ1
  have E_a0_1 := E_a0.keep Kc1
  have W_w_seenIn_a0_1 := W_w_seenIn_a0.keep Kc1 (ninS (Ne.symm ne_a0_w_seenIn_a0) (ninS (Ne.symm ne_w_groupOf_a0_w_seenIn_a0) (ninS (Ne.symm ne_w_sizes_a0_w_seenIn_a0) nin0)))
  have W_w_counted_a0_1 := W_w_counted_a0.keep Kc1 (ninS (Ne.symm ne_a0_w_counted_a0) (ninS (Ne.symm ne_w_groupOf_a0_w_counted_a0) (ninS (Ne.symm ne_w_sizes_a0_w_counted_a0) nin0)))
  have W_a2_1 := W_a2.keep Kc1 (ninS (Ne.symm ne_a0_a2) (ninS (Ne.symm ne_w_groupOf_a0_a2) (ninS (Ne.symm ne_w_sizes_a0_a2) nin0)))
  have N1 := Fr.app N0 N1q
  have Z1 := Nat.le_trans Z0 Kc1.1
  have K1 := K0.trans Kc1 (allS (Or.inl (List.mem_of_getElem? (i := 0) rfl)) (allS (Or.inl (List.mem_of_getElem? (i := 1) rfl)) (allS (Or.inl (List.mem_of_getElem? (i := 2) rfl)) all0)))
  refine go (B := T1.setTop (mkF m 5 #[.val (.ref a0), .val (.int p1), .val (.ref a2), .unset, .unset, .unset, .unset, .unset, .unset] [])) (fun _ k => st1.trans k) ?_
  have hG2 : own_G (List.set LG (p1).toNatClampNeg (-1 : Int32)) w_numbered_a0 := own_Gneg hG
  have hR2 : own_rel LG p1 [] (List.set LG (p1).toNatClampNeg (-1 : Int32)) := own_rel0 hl_LG hbk
  refine go (B := T1.setTop (mkF m 6 #[.val (.ref a0), .val (.int p1), .val (.ref a2), .unset, .unset, .unset, .unset, .unset, .unset] [(.ref a0)])) (fun _ k => XS.aloadN X1.here hx rfl (hb hby d7_5) rfl rfl k) ?_
  refine go (B := T1.setTop (mkF m 7 #[.val (.ref a0), .val (.int p1), .val (.ref a2), .unset, .unset, .unset, .unset, .unset, .unset] [(.ref a0), (.ref a0)])) (fun _ k => XS.dup X1.here hx rfl (hb hby d7_6) rfl rfl k) ?_
  obtain ⟨T3, X3, e3, st3⟩ := getF X1 hx hZ hown (host := "") (Or.inl (hw _ (List.mem_of_getElem? (i := 43) rfl))) Via.refl rfl o1_5 (g := (mkF m 7 #[.val (.ref a0), .val (.int p1), .val (.ref a2), .unset, .unset, .unset, .unset, .unset, .unset] [(.ref a0), (.ref a0)])) rfl rfl (hb hby d7_7)
  refine go (B := T3.setTop (mkF m 10 #[.val (.ref a0), .val (.int p1), .val (.ref a2), .unset, .unset, .unset, .unset, .unset, .unset] [(.int w_counts_a0), (.ref a0)])) st3 ?_
  refine go (B := T3.setTop (mkF m 11 #[.val (.ref a0), .val (.int p1), .val (.ref a2), .unset, .unset, .unset, .unset, .unset, .unset] [(.int (1 : Int32)), (.int w_counts_a0), (.ref a0)])) (fun _ k => XS.iconst X3.here hx rfl (hb hby d7_10) k) ?_
  refine go (B := T3.setTop (mkF m 12 #[.val (.ref a0), .val (.int p1), .val (.ref a2), .unset, .unset, .unset, .unset, .unset, .unset] [(.int (w_counts_a0 + (1 : Int32))), (.ref a0)])) (fun _ k => XS.iadd X3.here hx rfl (hb hby d7_11) rfl k) ?_
  obtain ⟨T4, h4, X4, e4, W4, st4⟩ := putF X3 hx hZ hown (host := "") (Or.inl (hw _ (List.mem_of_getElem? (i := 43) rfl))) Via.refl e3 o1_5 o1_0 (Or.inl (hw _ (List.mem_of_getElem? (i := 44) rfl))) (hw _ (List.mem_of_getElem? (i := 14) rfl)) (ty := .int) (by decide) rfl rfl (g := (mkF m 12 #[.val (.ref a0), .val (.int p1), .val (.ref a2), .unset, .unset, .unset, .unset, .unset, .unset] [(.int (w_counts_a0 + (1 : Int32))), (.ref a0)])) rfl rfl (hb hby d7_12)
  have E_a0_4 := o1_0.wr W4
  have W_w_seenIn_a0_4 := W_w_seenIn_a0_1.other W4 (Ne.symm ne_a0_w_seenIn_a0)
  have W_w_counted_a0_4 := W_w_counted_a0_1.other W4 (Ne.symm ne_a0_w_counted_a0)
  have W_a2_4 := W_a2_1.other W4 (Ne.symm ne_a0_a2)
  have F_sizes_a0_4 := Fld.other W4 o1_1 (Or.inr (slot_ne (Or.inl (hw _ (List.mem_of_getElem? (i := 23) rfl))) (Or.inl (hw _ (List.mem_of_getElem? (i := 44) rfl))) (by decide) (t := (.array .int)) (t' := .int) (by decide) (by decide)))
  have F_seenIn_a0_4 := Fld.other W4 o1_2 (Or.inr (slot_ne (Or.inl (hw _ (List.mem_of_getElem? (i := 25) rfl))) (Or.inl (hw _ (List.mem_of_getElem? (i := 44) rfl))) (by decide) (t := (.array .int)) (t' := .int) (by decide) (by decide)))
  have F_counted_a0_4 := Fld.other W4 o1_3 (Or.inr (slot_ne (Or.inl (hw _ (List.mem_of_getElem? (i := 27) rfl))) (Or.inl (hw _ (List.mem_of_getElem? (i := 44) rfl))) (by decide) (t := (.array .int)) (t' := .int) (by decide) (by decide)))
  have F_groupOf_a0_4 := Fld.other W4 o1_4 (Or.inr (slot_ne (Or.inr (hw _ (List.mem_of_getElem? (i := 29) rfl))) (Or.inl (hw _ (List.mem_of_getElem? (i := 44) rfl))) (by decide) (t := (.array .int)) (t' := .int) (by decide) (by decide)))
  have F_numbered_a0_4 := Fld.other W4 o1_6 (Or.inr (slot_ne (Or.inl (hw _ (List.mem_of_getElem? (i := 58) rfl))) (Or.inl (hw _ (List.mem_of_getElem? (i := 44) rfl))) (by decide) (t := .int) (t' := .int) (by decide) (by decide)))
  have F_live_a0_4 := Fld.other W4 o1_7 (Or.inr (slot_ne (Or.inl (hw _ (List.mem_of_getElem? (i := 60) rfl))) (Or.inl (hw _ (List.mem_of_getElem? (i := 44) rfl))) (by decide) (t := .int) (t' := .int) (by decide) (by decide)))
  have W_w_groupOf_a0_4 := o1_8.other W4 (Ne.symm ne_a0_w_groupOf_a0)
  have W_w_sizes_a0_4 := o1_10.other W4 (Ne.symm ne_a0_w_sizes_a0)
  have F_counts_a0_4 := Fld.same W4 o1_5
  have Z4 := Nat.le_trans Z1 (Keep.of_wr W4).1
  have K4 := K1.wr W4 (Or.inl (List.mem_of_getElem? (i := 0) rfl))
  have N4 := Fr.snoc X4 N1 g_a0
  refine go (B := T4.setTop (mkF m 15 #[.val (.ref a0), .val (.int p1), .val (.ref a2), .unset, .unset, .unset, .unset, .unset, .unset] [])) st4 ?_
  have hJ5 : own_J LI LC (w_counts_a0 + (1 : Int32)) w_numbered_a0 := own_Jstart hI hKc hl_LC
  have hB5 : 0 ≤ (w_numbered_a0).toInt ∧ (w_numbered_a0).toInt ≤ w_numbered_a0.toInt + 0 := ⟨hG.2.1, by omega⟩
  refine go (B := T4.setTop (mkF m 16 #[.val (.ref a0), .val (.int p1), .val (.ref a2), .unset, .unset, .unset, .unset, .unset, .unset] [(.ref a2)])) (fun _ k => XS.aloadN X4.here hx rfl (hb hby d7_15) rfl rfl k) ?_
  refine go (B := T4.setTop (mkF m 17 #[.val (.ref a0), .val (.int p1), .val (.ref a2), .val (.ref a2), .unset, .unset, .unset, .unset, .unset] [])) (fun _ k => XS.astoreN X4.here hx rfl (hb hby d7_16) rfl rfl (l' := #[.val (.ref a0), .val (.int p1), .val (.ref a2), .val (.ref a2), .unset, .unset, .unset, .unset, .unset]) rfl k) ?_
  refine go (B := T4.setTop (mkF m 18 #[.val (.ref a0), .val (.int p1), .val (.ref a2), .val (.ref a2), .unset, .unset, .unset, .unset, .unset] [(.ref a2)])) (fun _ k => XS.aloadN X4.here hx rfl (hb hby d7_17) rfl rfl k) ?_
  obtain ⟨cl6, Ar6, ln6⟩ := Arl.len W_a2_4
  rw [hl_L_a2] at ln6
  refine go (B := T4.setTop (mkF m 19 #[.val (.ref a0), .val (.int p1), .val (.ref a2), .val (.ref a2), .unset, .unset, .unset, .unset, .unset] [(.int (2 : Int32))])) (fun _ k => X4.arraylength hx (by rw [e4]; exact Ar6.1) (State.isArrayOf_alike hZ.alike Ar6.2.1) (g := (mkF m 18 #[.val (.ref a0), .val (.int p1), .val (.ref a2), .val (.ref a2), .unset, .unset, .unset, .unset, .unset] [(.ref a2)])) rfl rfl (hb hby d7_18) _ (by rw [ln6]; exact k)) ?_
  refine go (B := T4.setTop (mkF m 21 #[.val (.ref a0), .val (.int p1), .val (.ref a2), .val (.ref a2), .val (.int (2 : Int32)), .unset, .unset, .unset, .unset] [])) (fun _ k => XS.istore X4.here hx rfl (hb hby d7_19) rfl (l' := #[.val (.ref a0), .val (.int p1), .val (.ref a2), .val (.ref a2), .val (.int (2 : Int32)), .unset, .unset, .unset, .unset]) rfl k) ?_
  refine go (B := T4.setTop (mkF m 22 #[.val (.ref a0), .val (.int p1), .val (.ref a2), .val (.ref a2), .val (.int (2 : Int32)), .unset, .unset, .unset, .unset] [(.int (0 : Int32))])) (fun _ k => XS.iconst X4.here hx rfl (hb hby d7_21) k) ?_
  refine go (B := T4.setTop (mkF m 24 #[.val (.ref a0), .val (.int p1), .val (.ref a2), .val (.ref a2), .val (.int (2 : Int32)), .val (.int (0 : Int32)), .unset, .unset, .unset] [])) (fun _ k => XS.istore X4.here hx rfl (hb hby d7_22) rfl (l' := #[.val (.ref a0), .val (.int p1), .val (.ref a2), .val (.ref a2), .val (.int (2 : Int32)), .val (.int (0 : Int32)), .unset, .unset, .unset]) rfl k) ?_
  refine go (B := T4.setTop (mkF m 26 #[.val (.ref a0), .val (.int p1), .val (.ref a2), .val (.ref a2), .val (.int (2 : Int32)), .val (.int (0 : Int32)), .unset, .unset, .unset] [(.int (0 : Int32))])) (fun _ k => XS.iload X4.here hx rfl (hb hby d7_24) rfl k) ?_
  refine go (B := T4.setTop (mkF m 28 #[.val (.ref a0), .val (.int p1), .val (.ref a2), .val (.ref a2), .val (.int (2 : Int32)), .val (.int (0 : Int32)), .unset, .unset, .unset] [(.int (2 : Int32)), (.int (0 : Int32))])) (fun _ k => XS.iload X4.here hx rfl (hb hby d7_26) rfl k) ?_
  refine go (B := T4.setTop (mkF m 31 #[.val (.ref a0), .val (.int p1), .val (.ref a2), .val (.ref a2), .val (.int (2 : Int32)), .val (.int (0 : Int32)), .unset, .unset, .unset] [])) (fun _ k => XS.icmpNo X4.here hx rfl (hb hby d7_28) rfl (tlt (by decide : (0 : Int32) < (2 : Int32))).2.1 k) ?_
  refine go (B := T4.setTop (mkF m 32 #[.val (.ref a0), .val (.int p1), .val (.ref a2), .val (.ref a2), .val (.int (2 : Int32)), .val (.int (0 : Int32)), .unset, .unset, .unset] [(.ref a2)])) (fun _ k => XS.aloadN X4.here hx rfl (hb hby d7_31) rfl rfl k) ?_
  refine go (B := T4.setTop (mkF m 34 #[.val (.ref a0), .val (.int p1), .val (.ref a2), .val (.ref a2), .val (.int (2 : Int32)), .val (.int (0 : Int32)), .unset, .unset, .unset] [(.int (0 : Int32)), (.ref a2)])) (fun _ k => XS.iload X4.here hx rfl (hb hby d7_32) rfl k) ?_
  obtain ⟨cl7, Ar7, hin7, hat7, up7⟩ := Arl.in W_a2_4 (j := (0 : Int32)) (by decide) (own_lit (n := 2) (by decide) hl_L_a2)
  refine go (B := T4.setTop (mkF m 35 #[.val (.ref a0), .val (.int p1), .val (.ref a2), .val (.ref a2), .val (.int (2 : Int32)), .val (.int (0 : Int32)), .unset, .unset, .unset] [(.int (List.getD L_a2 0 0))])) (fun _ k => X4.iaload hx (j := (0 : Int32)) (v := (.int (List.getD L_a2 0 0))) (by rw [e4]; exact Ar7.1) (State.isArrayOf_alike hZ.alike Ar7.2.1) Ar7.2.2 hin7 hat7 (g := (mkF m 34 #[.val (.ref a0), .val (.int p1), .val (.ref a2), .val (.ref a2), .val (.int (2 : Int32)), .val (.int (0 : Int32)), .unset, .unset, .unset] [(.int (0 : Int32)), (.ref a2)])) rfl rfl (hb hby d7_34) _ k) ?_
  refine go (B := T4.setTop (mkF m 37 #[.val (.ref a0), .val (.int p1), .val (.ref a2), .val (.ref a2), .val (.int (2 : Int32)), .val (.int (0 : Int32)), .val (.int (List.getD L_a2 0 0)), .unset, .unset] [])) (fun _ k => XS.istore X4.here hx rfl (hb hby d7_35) rfl (l' := #[.val (.ref a0), .val (.int p1), .val (.ref a2), .val (.ref a2), .val (.int (2 : Int32)), .val (.int (0 : Int32)), .val (.int (List.getD L_a2 0 0)), .unset, .unset]) rfl k) ?_
  refine go (B := T4.setTop (mkF m 38 #[.val (.ref a0), .val (.int p1), .val (.ref a2), .val (.ref a2), .val (.int (2 : Int32)), .val (.int (0 : Int32)), .val (.int (List.getD L_a2 0 0)), .unset, .unset] [(.ref a0)])) (fun _ k => XS.aloadN X4.here hx rfl (hb hby d7_37) rfl rfl k) ?_
  obtain ⟨T8, X8, e8, st8⟩ := getF X4 hx hZ hown (host := "") (Or.inl (hw _ (List.mem_of_getElem? (i := 28) rfl))) Via.refl e4 F_groupOf_a0_4 (g := (mkF m 38 #[.val (.ref a0), .val (.int p1), .val (.ref a2), .val (.ref a2), .val (.int (2 : Int32)), .val (.int (0 : Int32)), .val (.int (List.getD L_a2 0 0)), .unset, .unset] [(.ref a0)])) rfl rfl (hb hby d7_38)
  refine go (B := T8.setTop (mkF m 41 #[.val (.ref a0), .val (.int p1), .val (.ref a2), .val (.ref a2), .val (.int (2 : Int32)), .val (.int (0 : Int32)), .val (.int (List.getD L_a2 0 0)), .unset, .unset] [(.ref w_groupOf_a0)])) st8 ?_
  refine go (B := T8.setTop (mkF m 43 #[.val (.ref a0), .val (.int p1), .val (.ref a2), .val (.ref a2), .val (.int (2 : Int32)), .val (.int (0 : Int32)), .val (.int (List.getD L_a2 0 0)), .unset, .unset] [(.int (List.getD L_a2 0 0)), (.ref w_groupOf_a0)])) (fun _ k => XS.iload X8.here hx rfl (hb hby d7_41) rfl k) ?_
  obtain ⟨cl9, Ar9, hin9, hat9, up9⟩ := Arl.in W_w_groupOf_a0_4 (j := (List.getD L_a2 0 0)) (own_mem hch hl_L_a2 0).1 (own_lit (own_mem hch hl_L_a2 0).2 o1_9)
  refine go (B := T8.setTop (mkF m 44 #[.val (.ref a0), .val (.int p1), .val (.ref a2), .val (.ref a2), .val (.int (2 : Int32)), .val (.int (0 : Int32)), .val (.int (List.getD L_a2 0 0)), .unset, .unset] [(.int (f7n2_t0 p1 LG L_a2))])) (fun _ k => X8.iaload hx (j := (List.getD L_a2 0 0)) (v := (.int (f7n2_t0 p1 LG L_a2))) (by rw [e8]; exact Ar9.1) (State.isArrayOf_alike hZ.alike Ar9.2.1) Ar9.2.2 hin9 hat9 (g := (mkF m 43 #[.val (.ref a0), .val (.int p1), .val (.ref a2), .val (.ref a2), .val (.int (2 : Int32)), .val (.int (0 : Int32)), .val (.int (List.getD L_a2 0 0)), .unset, .unset] [(.int (List.getD L_a2 0 0)), (.ref w_groupOf_a0)])) rfl rfl (hb hby d7_43) _ k) ?_
  refine go (B := T8.setTop (mkF m 45 #[.val (.ref a0), .val (.int p1), .val (.ref a2), .val (.ref a2), .val (.int (2 : Int32)), .val (.int (0 : Int32)), .val (.int (List.getD L_a2 0 0)), .unset, .unset] [(.int (1 : Int32)), (.int (f7n2_t0 p1 LG L_a2))])) (fun _ k => XS.iconst X8.here hx rfl (hb hby d7_44) k) ?_
  refine go (B := T8.setTop (mkF m 46 #[.val (.ref a0), .val (.int p1), .val (.ref a2), .val (.ref a2), .val (.int (2 : Int32)), .val (.int (0 : Int32)), .val (.int (List.getD L_a2 0 0)), .unset, .unset] [(.int ((f7n2_t0 p1 LG L_a2) + (1 : Int32)))])) (fun _ k => XS.iadd X8.here hx rfl (hb hby d7_45) rfl k) ?_
  refine go (B := T8.setTop (mkF m 48 #[.val (.ref a0), .val (.int p1), .val (.ref a2), .val (.ref a2), .val (.int (2 : Int32)), .val (.int (0 : Int32)), .val (.int (List.getD L_a2 0 0)), .val (.int ((f7n2_t0 p1 LG L_a2) + (1 : Int32))), .unset] [])) (fun _ k => XS.istore X8.here hx rfl (hb hby d7_46) rfl (l' := #[.val (.ref a0), .val (.int p1), .val (.ref a2), .val (.ref a2), .val (.int (2 : Int32)), .val (.int (0 : Int32)), .val (.int (List.getD L_a2 0 0)), .val (.int ((f7n2_t0 p1 LG L_a2) + (1 : Int32))), .unset]) rfl k) ?_
  have hf10 : ¬ (((f7n2_t0 p1 LG L_a2) + (1 : Int32))) < 0 ∧ (((f7n2_t0 p1 LG L_a2) + (1 : Int32))).toNatClampNeg < 17 := own_bf hG2 (own_mem hch hl_L_a2 0)
  refine go (B := T8.setTop (mkF m 49 #[.val (.ref a0), .val (.int p1), .val (.ref a2), .val (.ref a2), .val (.int (2 : Int32)), .val (.int (0 : Int32)), .val (.int (List.getD L_a2 0 0)), .val (.int ((f7n2_t0 p1 LG L_a2) + (1 : Int32))), .unset] [(.ref a0)])) (fun _ k => XS.aloadN X8.here hx rfl (hb hby d7_48) rfl rfl k) ?_
  refine go (B := T8.setTop (mkF m 51 #[.val (.ref a0), .val (.int p1), .val (.ref a2), .val (.ref a2), .val (.int (2 : Int32)), .val (.int (0 : Int32)), .val (.int (List.getD L_a2 0 0)), .val (.int ((f7n2_t0 p1 LG L_a2) + (1 : Int32))), .unset] [(.int (List.getD L_a2 0 0)), (.ref a0)])) (fun _ k => XS.iload X8.here hx rfl (hb hby d7_49) rfl k) ?_
  obtain ⟨cq11, q11, q11'⟩ := E_a0_4.cell
  obtain ⟨_, _, ⟨T11, L11, k11, n11⟩, -, X11, ⟨Lc11, hQ11, l11, y11, z11⟩, st11⟩ := X8.privateBack hx (y := (⟨"com/example/constrained_flow/constrainedflow/planner/search/Sweep$Groups", "leave", "(I)V"⟩ : MethodName)) hown (mvT hZ (hw _ (List.mem_of_getElem? (i := 39) rfl))) (mvT hZ (hw _ (List.mem_of_getElem? (i := 40) rfl))) (own_selp hZ (hw _ (List.mem_of_getElem? (i := 14) rfl)) (hw _ (List.mem_of_getElem? (i := 41) rfl)) (hw _ (List.mem_of_getElem? (i := 40) rfl)) (by decide)) (Cond.privateMethod_at (mvP hZ (hw _ (List.mem_of_getElem? (i := 41) rfl)) (args := #[]))) (mvT hZ (hw _ (List.mem_of_getElem? (i := 42) rfl))) (by decide) (backOf (W := 0) (rm8 l Z aw hw [] a0 (List.getD L_a2 0 0) w_sizes_a0 w_seenIn_a0 w_counted_a0 w_groupOf_a0 (w_counts_a0 + (1 : Int32)) w_numbered_a0 V'_1 (List.set LG (p1).toNatClampNeg (-1 : Int32)) S'_1 h4 n0 Z4 F_sizes_a0_4 F_seenIn_a0_4 F_counted_a0_4 F_groupOf_a0_4 F_counts_a0_4 F_numbered_a0_4 F_live_a0_4 E_a0_4 W_w_groupOf_a0_4 o1_9 W_w_sizes_a0_4 o1_11 ne_a0_w_groupOf_a0 ne_a0_w_sizes_a0 ne_w_groupOf_a0_w_sizes_a0 hG2 (own_mem hch hl_L_a2 0) g_w_groupOf_a0 g_w_sizes_a0 g_a0) hZ (hw _ (List.mem_of_getElem? (i := 42) rfl)) (hw _ (List.mem_of_getElem? (i := 15) rfl)) (by decide) (by decide)) (g := (mkF m 51 #[.val (.ref a0), .val (.int p1), .val (.ref a2), .val (.ref a2), .val (.int (2 : Int32)), .val (.int (0 : Int32)), .val (.int (List.getD L_a2 0 0)), .val (.int ((f7n2_t0 p1 LG L_a2) + (1 : Int32))), .unset] [(.int (List.getD L_a2 0 0)), (.ref a0)])) rfl (by rw [hml]; rfl) (Steps.refl _) (a := a0) (by rw [e8]; exact q11) q11' (argsL := [(.int (List.getD L_a2 0 0))]) (rest := []) (lenOf pd_3 rfl) rfl (by show 2 * 0 + _ ≤ _; exact Nat.le_of_eq rfl) (hb hby d7_51) (fun _ _ => ⟨rfl, e8, (by decide : 0 + 0 ≤ _), (by decide : 0 + 0 ≤ _)⟩)
  dsimp only [Pt.U, Pt.locs, Pt.cells, Pt.slots] at X11 l11 y11 z11 st11 hQ11
  subst l11 y11 z11
  obtain ⟨S'_11, V'_11, rfl, N11q, Kc11, o11_0, o11_1, o11_2, o11_3, o11_4, o11_5, o11_6, o11_7, o11_8, o11_9, o11_10, o11_11⟩ := hQ11
  have E_a0_11 := E_a0_4.keep Kc11
  have W_w_seenIn_a0_11 := W_w_seenIn_a0_4.keep Kc11 (ninS (Ne.symm ne_a0_w_seenIn_a0) (ninS (Ne.symm ne_w_groupOf_a0_w_seenIn_a0) (ninS (Ne.symm ne_w_sizes_a0_w_seenIn_a0) nin0)))
  have W_w_counted_a0_11 := W_w_counted_a0_4.keep Kc11 (ninS (Ne.symm ne_a0_w_counted_a0) (ninS (Ne.symm ne_w_groupOf_a0_w_counted_a0) (ninS (Ne.symm ne_w_sizes_a0_w_counted_a0) nin0)))
  have W_a2_11 := W_a2_4.keep Kc11 (ninS (Ne.symm ne_a0_a2) (ninS (Ne.symm ne_w_groupOf_a0_a2) (ninS (Ne.symm ne_w_sizes_a0_a2) nin0)))
  have N11 := Fr.app N4 N11q
  have Z11 := Nat.le_trans Z4 Kc11.1
  have K11 := K4.trans Kc11 (allS (Or.inl (List.mem_of_getElem? (i := 0) rfl)) (allS (Or.inl (List.mem_of_getElem? (i := 1) rfl)) (allS (Or.inl (List.mem_of_getElem? (i := 2) rfl)) all0)))
  refine go (B := T11.setTop (mkF m 54 #[.val (.ref a0), .val (.int p1), .val (.ref a2), .val (.ref a2), .val (.int (2 : Int32)), .val (.int (0 : Int32)), .val (.int (List.getD L_a2 0 0)), .val (.int ((f7n2_t0 p1 LG L_a2) + (1 : Int32))), .unset] [])) (fun _ k => st11.trans k) ?_
  have hG12 : own_G (List.set (List.set LG (p1).toNatClampNeg (-1 : Int32)) ((List.getD L_a2 0 0)).toNatClampNeg (-1 : Int32)) w_numbered_a0 := own_Gneg hG2
  refine go (B := T11.setTop (mkF m 55 #[.val (.ref a0), .val (.int p1), .val (.ref a2), .val (.ref a2), .val (.int (2 : Int32)), .val (.int (0 : Int32)), .val (.int (List.getD L_a2 0 0)), .val (.int ((f7n2_t0 p1 LG L_a2) + (1 : Int32))), .unset] [(.ref a0)])) (fun _ k => XS.aloadN X11.here hx rfl (hb hby d7_54) rfl rfl k) ?_
  obtain ⟨T13, X13, e13, st13⟩ := getF X11 hx hZ hown (host := "") (Or.inl (hw _ (List.mem_of_getElem? (i := 24) rfl))) Via.refl rfl o11_2 (g := (mkF m 55 #[.val (.ref a0), .val (.int p1), .val (.ref a2), .val (.ref a2), .val (.int (2 : Int32)), .val (.int (0 : Int32)), .val (.int (List.getD L_a2 0 0)), .val (.int ((f7n2_t0 p1 LG L_a2) + (1 : Int32))), .unset] [(.ref a0)])) rfl rfl (hb hby d7_55)
  refine go (B := T13.setTop (mkF m 58 #[.val (.ref a0), .val (.int p1), .val (.ref a2), .val (.ref a2), .val (.int (2 : Int32)), .val (.int (0 : Int32)), .val (.int (List.getD L_a2 0 0)), .val (.int ((f7n2_t0 p1 LG L_a2) + (1 : Int32))), .unset] [(.ref w_seenIn_a0)])) st13 ?_
  refine go (B := T13.setTop (mkF m 60 #[.val (.ref a0), .val (.int p1), .val (.ref a2), .val (.ref a2), .val (.int (2 : Int32)), .val (.int (0 : Int32)), .val (.int (List.getD L_a2 0 0)), .val (.int ((f7n2_t0 p1 LG L_a2) + (1 : Int32))), .unset] [(.int ((f7n2_t0 p1 LG L_a2) + (1 : Int32))), (.ref w_seenIn_a0)])) (fun _ k => XS.iload X13.here hx rfl (hb hby d7_58) rfl k) ?_
  obtain ⟨cl14, Ar14, hin14, hat14, up14⟩ := Arl.in W_w_seenIn_a0_11 (j := ((f7n2_t0 p1 LG L_a2) + (1 : Int32))) hf10.1 (own_lit hf10.2 hl_LI)
  refine go (B := T13.setTop (mkF m 61 #[.val (.ref a0), .val (.int p1), .val (.ref a2), .val (.ref a2), .val (.int (2 : Int32)), .val (.int (0 : Int32)), .val (.int (List.getD L_a2 0 0)), .val (.int ((f7n2_t0 p1 LG L_a2) + (1 : Int32))), .unset] [(.int (List.getD LI (((f7n2_t0 p1 LG L_a2) + (1 : Int32))).toNatClampNeg 0))])) (fun _ k => X13.iaload hx (j := ((f7n2_t0 p1 LG L_a2) + (1 : Int32))) (v := (.int (List.getD LI (((f7n2_t0 p1 LG L_a2) + (1 : Int32))).toNatClampNeg 0))) (by rw [e13]; exact Ar14.1) (State.isArrayOf_alike hZ.alike Ar14.2.1) Ar14.2.2 hin14 hat14 (g := (mkF m 60 #[.val (.ref a0), .val (.int p1), .val (.ref a2), .val (.ref a2), .val (.int (2 : Int32)), .val (.int (0 : Int32)), .val (.int (List.getD L_a2 0 0)), .val (.int ((f7n2_t0 p1 LG L_a2) + (1 : Int32))), .unset] [(.int ((f7n2_t0 p1 LG L_a2) + (1 : Int32))), (.ref w_seenIn_a0)])) rfl rfl (hb hby d7_60) _ k) ?_
  refine go (B := T13.setTop (mkF m 62 #[.val (.ref a0), .val (.int p1), .val (.ref a2), .val (.ref a2), .val (.int (2 : Int32)), .val (.int (0 : Int32)), .val (.int (List.getD L_a2 0 0)), .val (.int ((f7n2_t0 p1 LG L_a2) + (1 : Int32))), .unset] [(.ref a0), (.int (List.getD LI (((f7n2_t0 p1 LG L_a2) + (1 : Int32))).toNatClampNeg 0))])) (fun _ k => XS.aloadN X13.here hx rfl (hb hby d7_61) rfl rfl k) ?_
  obtain ⟨T15, X15, e15, st15⟩ := getF X13 hx hZ hown (host := "") (Or.inl (hw _ (List.mem_of_getElem? (i := 43) rfl))) Via.refl e13 o11_5 (g := (mkF m 62 #[.val (.ref a0), .val (.int p1), .val (.ref a2), .val (.ref a2), .val (.int (2 : Int32)), .val (.int (0 : Int32)), .val (.int (List.getD L_a2 0 0)), .val (.int ((f7n2_t0 p1 LG L_a2) + (1 : Int32))), .unset] [(.ref a0), (.int (List.getD LI (((f7n2_t0 p1 LG L_a2) + (1 : Int32))).toNatClampNeg 0))])) rfl rfl (hb hby d7_62)
  refine go (B := T15.setTop (mkF m 65 #[.val (.ref a0), .val (.int p1), .val (.ref a2), .val (.ref a2), .val (.int (2 : Int32)), .val (.int (0 : Int32)), .val (.int (List.getD L_a2 0 0)), .val (.int ((f7n2_t0 p1 LG L_a2) + (1 : Int32))), .unset] [(.int (w_counts_a0 + (1 : Int32))), (.int (List.getD LI (((f7n2_t0 p1 LG L_a2) + (1 : Int32))).toNatClampNeg 0))])) st15 ?_
  suffices Kj16 : ∀ (sl16_8 : Slot) (T16 : State) (h16 : Heap) (L16 : List Loc), One sl16_8 → Stand p l e room7n2 s m #[(.ref a0), (.int p1), (.ref a2)] below meth c T16 L16 0 0 → Fr n0 L16 → T16.heap = h16 → n0 ≤ h16.size → Keep h0 h16 [a0, w_groupOf_a0, w_sizes_a0, w_seenIn_a0, w_counted_a0] → Exa Z h16 a0 "com/example/constrained_flow/constrainedflow/planner/search/Sweep$Groups" → Arl Z h16 w_seenIn_a0 .int (f7n2_l2 p1 w_counts_a0 LG LI L_a2) → Arl Z h16 w_counted_a0 .int (f7n2_l3 p1 w_counts_a0 w_numbered_a0 LG LI LC L_a2) → Arl Z h16 a2 .int L_a2 → Fld Z h16 a0 "com/example/constrained_flow/constrainedflow/planner/search/Sweep$Groups" "sizes" "[I" (.ref w_sizes_a0) → Fld Z h16 a0 "com/example/constrained_flow/constrainedflow/planner/search/Sweep$Groups" "seenIn" "[I" (.ref w_seenIn_a0) → Fld Z h16 a0 "com/example/constrained_flow/constrainedflow/planner/search/Sweep$Groups" "counted" "[I" (.ref w_counted_a0) → Fld Z h16 a0 "com/example/constrained_flow/constrainedflow/planner/search/Sweep$Groups" "groupOf" "[I" (.ref w_groupOf_a0) → Fld Z h16 a0 "com/example/constrained_flow/constrainedflow/planner/search/Sweep$Groups" "counts" "I" (.int (w_counts_a0 + (1 : Int32))) → Fld Z h16 a0 "com/example/constrained_flow/constrainedflow/planner/search/Sweep$Groups" "numbered" "I" (.int (f7n2_z4 p1 w_counts_a0 w_numbered_a0 LG LI L_a2)) → Fld Z h16 a0 "com/example/constrained_flow/constrainedflow/planner/search/Sweep$Groups" "live" "I" (.int V'_11) → Arl Z h16 w_groupOf_a0 .int (List.set (List.set LG (p1).toNatClampNeg (-1 : Int32)) ((List.getD L_a2 0 0)).toNatClampNeg (-1 : Int32)) → Arl Z h16 w_sizes_a0 .int S'_11 → (f7n2_l2 p1 w_counts_a0 LG LI L_a2).length = 17 → (f7n2_l3 p1 w_counts_a0 w_numbered_a0 LG LI LC L_a2).length = 17 → Go p.tables e below F (T16.setTop (mkF m 94 #[.val (.ref a0), .val (.int p1), .val (.ref a2), .val (.ref a2), .val (.int (2 : Int32)), .val (.int (0 : Int32)), .val (.int (List.getD L_a2 0 0)), .val (.int ((f7n2_t0 p1 LG L_a2) + (1 : Int32))), sl16_8] [])) by
    by_cases hc17 : (List.getD LI (((f7n2_t0 p1 LG L_a2) + (1 : Int32))).toNatClampNeg 0) = (w_counts_a0 + (1 : Int32))
    · refine go (B := T15.setTop (mkF m 94 #[.val (.ref a0), .val (.int p1), .val (.ref a2), .val (.ref a2), .val (.int (2 : Int32)), .val (.int (0 : Int32)), .val (.int (List.getD L_a2 0 0)), .val (.int ((f7n2_t0 p1 LG L_a2) + (1 : Int32))), .unset] [])) (fun _ k => XS.icmpYes X15.here hx rfl (pc0 := 65) (pc' := 94) rfl (hb hby d7_65) rfl (teq hc17).1 (by decide) (by decide) k) ?_
      rw [show (f7n2_l2 p1 w_counts_a0 LG LI L_a2) = LI from by unfold f7n2_l2; rw [if_pos hc17]] at Kj16
      rw [show (f7n2_l3 p1 w_counts_a0 w_numbered_a0 LG LI LC L_a2) = LC from by unfold f7n2_l3; rw [if_pos hc17]] at Kj16
      rw [show (f7n2_z4 p1 w_counts_a0 w_numbered_a0 LG LI L_a2) = w_numbered_a0 from by unfold f7n2_z4; rw [if_pos hc17]] at Kj16
      exact Kj16 _ _ _ _ One.u X15 N11 e15 Z11 K11 o11_0 W_w_seenIn_a0_11 W_w_counted_a0_11 W_a2_11 o11_1 o11_2 o11_3 o11_4 o11_5 o11_6 o11_7 o11_8 o11_10 hl_LI hl_LC
    · refine go (B := T15.setTop (mkF m 68 #[.val (.ref a0), .val (.int p1), .val (.ref a2), .val (.ref a2), .val (.int (2 : Int32)), .val (.int (0 : Int32)), .val (.int (List.getD L_a2 0 0)), .val (.int ((f7n2_t0 p1 LG L_a2) + (1 : Int32))), .unset] [])) (fun _ k => XS.icmpNo X15.here hx rfl (hb hby d7_65) rfl (feq hc17).1 k) ?_
      refine go (B := T15.setTop (mkF m 69 #[.val (.ref a0), .val (.int p1), .val (.ref a2), .val (.ref a2), .val (.int (2 : Int32)), .val (.int (0 : Int32)), .val (.int (List.getD L_a2 0 0)), .val (.int ((f7n2_t0 p1 LG L_a2) + (1 : Int32))), .unset] [(.ref a0)])) (fun _ k => XS.aloadN X15.here hx rfl (hb hby d7_68) rfl rfl k) ?_
      obtain ⟨cq18, q18, q18'⟩ := o11_0.cell
      obtain ⟨_, _, ⟨T18, L18, k18, n18⟩, -, X18, ⟨Lc18, hQ18, l18, y18, z18⟩, st18⟩ := X15.privateBack hx (y := (⟨"com/example/constrained_flow/constrainedflow/planner/search/Sweep$Groups", "number", "()I"⟩ : MethodName)) hown (mvT hZ (hw _ (List.mem_of_getElem? (i := 53) rfl))) (mvT hZ (hw _ (List.mem_of_getElem? (i := 54) rfl))) (own_selp hZ (hw _ (List.mem_of_getElem? (i := 14) rfl)) (hw _ (List.mem_of_getElem? (i := 55) rfl)) (hw _ (List.mem_of_getElem? (i := 54) rfl)) (by decide)) (Cond.privateMethod_at (mvP hZ (hw _ (List.mem_of_getElem? (i := 55) rfl)) (args := #[]))) (mvT hZ (hw _ (List.mem_of_getElem? (i := 56) rfl))) (by decide) (backOf (W := 0) (rm11 l Z aw hw [] a0 w_sizes_a0 w_seenIn_a0 w_counted_a0 w_groupOf_a0 (w_counts_a0 + (1 : Int32)) w_numbered_a0 V'_11 S'_11 T11.heap n0 Z11 o11_1 o11_2 o11_3 o11_4 o11_5 o11_6 o11_7 o11_0 o11_10 o11_11 ne_a0_w_sizes_a0 (show ¬ (w_numbered_a0 = (16 : Int32)) from own_n16 hG12) g_a0) hZ (hw _ (List.mem_of_getElem? (i := 56) rfl)) (hw _ (List.mem_of_getElem? (i := 15) rfl)) (by decide) (by decide)) (g := (mkF m 69 #[.val (.ref a0), .val (.int p1), .val (.ref a2), .val (.ref a2), .val (.int (2 : Int32)), .val (.int (0 : Int32)), .val (.int (List.getD L_a2 0 0)), .val (.int ((f7n2_t0 p1 LG L_a2) + (1 : Int32))), .unset] [(.ref a0)])) rfl (by rw [hml]; rfl) (Steps.refl _) (a := a0) (by rw [e15]; exact q18) q18' (argsL := []) (rest := []) (lenOf pd_4 rfl) rfl (by show 2 * 0 + _ ≤ _; exact Nat.le_of_eq rfl) (hb hby d7_69) (fun _ _ => ⟨rfl, e15, (by decide : 0 + 0 ≤ _), (by decide : 0 + 0 ≤ _)⟩)
      dsimp only [Pt.U, Pt.locs, Pt.cells, Pt.slots] at X18 l18 y18 z18 st18 hQ18
      subst l18 y18 z18
      obtain ⟨rfl, N18q, Kc18, o18_0, o18_1, o18_2, o18_3, o18_4, o18_5, o18_6, o18_7⟩ := hQ18
      have E_a0_18 := o11_0.keep Kc18
      have W_w_seenIn_a0_18 := W_w_seenIn_a0_11.keep Kc18 (ninS (Ne.symm ne_a0_w_seenIn_a0) nin0)
      have W_w_counted_a0_18 := W_w_counted_a0_11.keep Kc18 (ninS (Ne.symm ne_a0_w_counted_a0) nin0)
      have W_a2_18 := W_a2_11.keep Kc18 (ninS (Ne.symm ne_a0_a2) nin0)
      have W_w_groupOf_a0_18 := o11_8.keep Kc18 (ninS (Ne.symm ne_a0_w_groupOf_a0) nin0)
      have W_w_sizes_a0_18 := o11_10.keep Kc18 (ninS (Ne.symm ne_a0_w_sizes_a0) nin0)
      have N18 := Fr.app N11 N18q
      have Z18 := Nat.le_trans Z11 Kc18.1
      have K18 := K11.trans Kc18 (allS (Or.inl (List.mem_of_getElem? (i := 0) rfl)) all0)
      refine go (B := T18.setTop (mkF m 72 #[.val (.ref a0), .val (.int p1), .val (.ref a2), .val (.ref a2), .val (.int (2 : Int32)), .val (.int (0 : Int32)), .val (.int (List.getD L_a2 0 0)), .val (.int ((f7n2_t0 p1 LG L_a2) + (1 : Int32))), .unset] [(.int (f11 w_numbered_a0))])) (fun _ k => st18.trans k) ?_
      refine go (B := T18.setTop (mkF m 74 #[.val (.ref a0), .val (.int p1), .val (.ref a2), .val (.ref a2), .val (.int (2 : Int32)), .val (.int (0 : Int32)), .val (.int (List.getD L_a2 0 0)), .val (.int ((f7n2_t0 p1 LG L_a2) + (1 : Int32))), .val (.int (f11 w_numbered_a0))] [])) (fun _ k => XS.istore X18.here hx rfl (hb hby d7_72) rfl (l' := #[.val (.ref a0), .val (.int p1), .val (.ref a2), .val (.ref a2), .val (.int (2 : Int32)), .val (.int (0 : Int32)), .val (.int (List.getD L_a2 0 0)), .val (.int ((f7n2_t0 p1 LG L_a2) + (1 : Int32))), .val (.int (f11 w_numbered_a0))]) rfl k) ?_
      refine go (B := T18.setTop (mkF m 75 #[.val (.ref a0), .val (.int p1), .val (.ref a2), .val (.ref a2), .val (.int (2 : Int32)), .val (.int (0 : Int32)), .val (.int (List.getD L_a2 0 0)), .val (.int ((f7n2_t0 p1 LG L_a2) + (1 : Int32))), .val (.int (f11 w_numbered_a0))] [(.ref a0)])) (fun _ k => XS.aloadN X18.here hx rfl (hb hby d7_74) rfl rfl k) ?_
      obtain ⟨T19, X19, e19, st19⟩ := getF X18 hx hZ hown (host := "") (Or.inl (hw _ (List.mem_of_getElem? (i := 24) rfl))) Via.refl rfl o18_1 (g := (mkF m 75 #[.val (.ref a0), .val (.int p1), .val (.ref a2), .val (.ref a2), .val (.int (2 : Int32)), .val (.int (0 : Int32)), .val (.int (List.getD L_a2 0 0)), .val (.int ((f7n2_t0 p1 LG L_a2) + (1 : Int32))), .val (.int (f11 w_numbered_a0))] [(.ref a0)])) rfl rfl (hb hby d7_75)
      refine go (B := T19.setTop (mkF m 78 #[.val (.ref a0), .val (.int p1), .val (.ref a2), .val (.ref a2), .val (.int (2 : Int32)), .val (.int (0 : Int32)), .val (.int (List.getD L_a2 0 0)), .val (.int ((f7n2_t0 p1 LG L_a2) + (1 : Int32))), .val (.int (f11 w_numbered_a0))] [(.ref w_seenIn_a0)])) st19 ?_
      refine go (B := T19.setTop (mkF m 80 #[.val (.ref a0), .val (.int p1), .val (.ref a2), .val (.ref a2), .val (.int (2 : Int32)), .val (.int (0 : Int32)), .val (.int (List.getD L_a2 0 0)), .val (.int ((f7n2_t0 p1 LG L_a2) + (1 : Int32))), .val (.int (f11 w_numbered_a0))] [(.int ((f7n2_t0 p1 LG L_a2) + (1 : Int32))), (.ref w_seenIn_a0)])) (fun _ k => XS.iload X19.here hx rfl (hb hby d7_78) rfl k) ?_
      refine go (B := T19.setTop (mkF m 81 #[.val (.ref a0), .val (.int p1), .val (.ref a2), .val (.ref a2), .val (.int (2 : Int32)), .val (.int (0 : Int32)), .val (.int (List.getD L_a2 0 0)), .val (.int ((f7n2_t0 p1 LG L_a2) + (1 : Int32))), .val (.int (f11 w_numbered_a0))] [(.ref a0), (.int ((f7n2_t0 p1 LG L_a2) + (1 : Int32))), (.ref w_seenIn_a0)])) (fun _ k => XS.aloadN X19.here hx rfl (hb hby d7_80) rfl rfl k) ?_
      obtain ⟨T20, X20, e20, st20⟩ := getF X19 hx hZ hown (host := "") (Or.inl (hw _ (List.mem_of_getElem? (i := 43) rfl))) Via.refl e19 o18_4 (g := (mkF m 81 #[.val (.ref a0), .val (.int p1), .val (.ref a2), .val (.ref a2), .val (.int (2 : Int32)), .val (.int (0 : Int32)), .val (.int (List.getD L_a2 0 0)), .val (.int ((f7n2_t0 p1 LG L_a2) + (1 : Int32))), .val (.int (f11 w_numbered_a0))] [(.ref a0), (.int ((f7n2_t0 p1 LG L_a2) + (1 : Int32))), (.ref w_seenIn_a0)])) rfl rfl (hb hby d7_81)
      refine go (B := T20.setTop (mkF m 84 #[.val (.ref a0), .val (.int p1), .val (.ref a2), .val (.ref a2), .val (.int (2 : Int32)), .val (.int (0 : Int32)), .val (.int (List.getD L_a2 0 0)), .val (.int ((f7n2_t0 p1 LG L_a2) + (1 : Int32))), .val (.int (f11 w_numbered_a0))] [(.int (w_counts_a0 + (1 : Int32))), (.int ((f7n2_t0 p1 LG L_a2) + (1 : Int32))), (.ref w_seenIn_a0)])) st20 ?_
      obtain ⟨cl21, Ar21, hin21, hat21, up21⟩ := Arl.in W_w_seenIn_a0_18 (j := ((f7n2_t0 p1 LG L_a2) + (1 : Int32))) hf10.1 (own_lit hf10.2 hl_LI)
      obtain ⟨T21, h21, X21, e21, W21, st21⟩ := stI X20 hx hZ e20 Ar21 (j := ((f7n2_t0 p1 LG L_a2) + (1 : Int32))) hin21 (g := (mkF m 84 #[.val (.ref a0), .val (.int p1), .val (.ref a2), .val (.ref a2), .val (.int (2 : Int32)), .val (.int (0 : Int32)), .val (.int (List.getD L_a2 0 0)), .val (.int ((f7n2_t0 p1 LG L_a2) + (1 : Int32))), .val (.int (f11 w_numbered_a0))] [(.int (w_counts_a0 + (1 : Int32))), (.int ((f7n2_t0 p1 LG L_a2) + (1 : Int32))), (.ref w_seenIn_a0)])) rfl rfl (hb hby d7_84)
      have E_a0_21 := o18_6.wr W21
      have W_w_counted_a0_21 := W_w_counted_a0_18.other W21 (Ne.symm ne_w_seenIn_a0_w_counted_a0)
      have W_a2_21 := W_a2_18.other W21 (Ne.symm ne_w_seenIn_a0_a2)
      have W_w_groupOf_a0_21 := W_w_groupOf_a0_18.other W21 ne_w_groupOf_a0_w_seenIn_a0
      have W_w_sizes_a0_21 := W_w_sizes_a0_18.other W21 ne_w_sizes_a0_w_seenIn_a0
      have F_sizes_a0_21 := Fld.other W21 o18_0 (Or.inl ne_a0_w_seenIn_a0)
      have F_seenIn_a0_21 := Fld.other W21 o18_1 (Or.inl ne_a0_w_seenIn_a0)
      have F_counted_a0_21 := Fld.other W21 o18_2 (Or.inl ne_a0_w_seenIn_a0)
      have F_groupOf_a0_21 := Fld.other W21 o18_3 (Or.inl ne_a0_w_seenIn_a0)
      have F_counts_a0_21 := Fld.other W21 o18_4 (Or.inl ne_a0_w_seenIn_a0)
      have F_live_a0_21 := Fld.other W21 o18_5 (Or.inl ne_a0_w_seenIn_a0)
      have F_numbered_a0_21 := Fld.other W21 o18_7 (Or.inl ne_a0_w_seenIn_a0)
      have Z21 := Nat.le_trans Z18 (Keep.of_wr W21).1
      have K21 := K18.wr W21 (Or.inl (List.mem_of_getElem? (i := 3) rfl))
      have N21 := Fr.snoc X21 N18 g_w_seenIn_a0
      have W_w_seenIn_a0_21 : Arl Z h21 w_seenIn_a0 .int (f7n2_l1 p1 w_counts_a0 LG LI L_a2) := up21 W21
      refine go (B := T21.setTop (mkF m 85 #[.val (.ref a0), .val (.int p1), .val (.ref a2), .val (.ref a2), .val (.int (2 : Int32)), .val (.int (0 : Int32)), .val (.int (List.getD L_a2 0 0)), .val (.int ((f7n2_t0 p1 LG L_a2) + (1 : Int32))), .val (.int (f11 w_numbered_a0))] [])) st21 ?_
      refine go (B := T21.setTop (mkF m 86 #[.val (.ref a0), .val (.int p1), .val (.ref a2), .val (.ref a2), .val (.int (2 : Int32)), .val (.int (0 : Int32)), .val (.int (List.getD L_a2 0 0)), .val (.int ((f7n2_t0 p1 LG L_a2) + (1 : Int32))), .val (.int (f11 w_numbered_a0))] [(.ref a0)])) (fun _ k => XS.aloadN X21.here hx rfl (hb hby d7_85) rfl rfl k) ?_
      obtain ⟨T22, X22, e22, st22⟩ := getF X21 hx hZ hown (host := "") (Or.inl (hw _ (List.mem_of_getElem? (i := 26) rfl))) Via.refl e21 F_counted_a0_21 (g := (mkF m 86 #[.val (.ref a0), .val (.int p1), .val (.ref a2), .val (.ref a2), .val (.int (2 : Int32)), .val (.int (0 : Int32)), .val (.int (List.getD L_a2 0 0)), .val (.int ((f7n2_t0 p1 LG L_a2) + (1 : Int32))), .val (.int (f11 w_numbered_a0))] [(.ref a0)])) rfl rfl (hb hby d7_86)
      refine go (B := T22.setTop (mkF m 89 #[.val (.ref a0), .val (.int p1), .val (.ref a2), .val (.ref a2), .val (.int (2 : Int32)), .val (.int (0 : Int32)), .val (.int (List.getD L_a2 0 0)), .val (.int ((f7n2_t0 p1 LG L_a2) + (1 : Int32))), .val (.int (f11 w_numbered_a0))] [(.ref w_counted_a0)])) st22 ?_
      refine go (B := T22.setTop (mkF m 91 #[.val (.ref a0), .val (.int p1), .val (.ref a2), .val (.ref a2), .val (.int (2 : Int32)), .val (.int (0 : Int32)), .val (.int (List.getD L_a2 0 0)), .val (.int ((f7n2_t0 p1 LG L_a2) + (1 : Int32))), .val (.int (f11 w_numbered_a0))] [(.int ((f7n2_t0 p1 LG L_a2) + (1 : Int32))), (.ref w_counted_a0)])) (fun _ k => XS.iload X22.here hx rfl (hb hby d7_89) rfl k) ?_
      refine go (B := T22.setTop (mkF m 93 #[.val (.ref a0), .val (.int p1), .val (.ref a2), .val (.ref a2), .val (.int (2 : Int32)), .val (.int (0 : Int32)), .val (.int (List.getD L_a2 0 0)), .val (.int ((f7n2_t0 p1 LG L_a2) + (1 : Int32))), .val (.int (f11 w_numbered_a0))] [(.int (f11 w_numbered_a0)), (.int ((f7n2_t0 p1 LG L_a2) + (1 : Int32))), (.ref w_counted_a0)])) (fun _ k => XS.iload X22.here hx rfl (hb hby d7_91) rfl k) ?_
      obtain ⟨cl23, Ar23, hin23, hat23, up23⟩ := Arl.in W_w_counted_a0_21 (j := ((f7n2_t0 p1 LG L_a2) + (1 : Int32))) hf10.1 (own_lit hf10.2 hl_LC)
      obtain ⟨T23, h23, X23, e23, W23, st23⟩ := stI X22 hx hZ e22 Ar23 (j := ((f7n2_t0 p1 LG L_a2) + (1 : Int32))) hin23 (g := (mkF m 93 #[.val (.ref a0), .val (.int p1), .val (.ref a2), .val (.ref a2), .val (.int (2 : Int32)), .val (.int (0 : Int32)), .val (.int (List.getD L_a2 0 0)), .val (.int ((f7n2_t0 p1 LG L_a2) + (1 : Int32))), .val (.int (f11 w_numbered_a0))] [(.int (f11 w_numbered_a0)), (.int ((f7n2_t0 p1 LG L_a2) + (1 : Int32))), (.ref w_counted_a0)])) rfl rfl (hb hby d7_93)
      have E_a0_23 := E_a0_21.wr W23
      have W_a2_23 := W_a2_21.other W23 (Ne.symm ne_w_counted_a0_a2)
      have W_w_groupOf_a0_23 := W_w_groupOf_a0_21.other W23 ne_w_groupOf_a0_w_counted_a0
      have W_w_sizes_a0_23 := W_w_sizes_a0_21.other W23 ne_w_sizes_a0_w_counted_a0
      have F_sizes_a0_23 := Fld.other W23 F_sizes_a0_21 (Or.inl ne_a0_w_counted_a0)
      have F_seenIn_a0_23 := Fld.other W23 F_seenIn_a0_21 (Or.inl ne_a0_w_counted_a0)
      have F_counted_a0_23 := Fld.other W23 F_counted_a0_21 (Or.inl ne_a0_w_counted_a0)
      have F_groupOf_a0_23 := Fld.other W23 F_groupOf_a0_21 (Or.inl ne_a0_w_counted_a0)
      have F_counts_a0_23 := Fld.other W23 F_counts_a0_21 (Or.inl ne_a0_w_counted_a0)
      have F_live_a0_23 := Fld.other W23 F_live_a0_21 (Or.inl ne_a0_w_counted_a0)
      have F_numbered_a0_23 := Fld.other W23 F_numbered_a0_21 (Or.inl ne_a0_w_counted_a0)
      have W_w_seenIn_a0_23 := W_w_seenIn_a0_21.other W23 ne_w_seenIn_a0_w_counted_a0
      have Z23 := Nat.le_trans Z21 (Keep.of_wr W23).1
      have K23 := K21.wr W23 (Or.inl (List.mem_of_getElem? (i := 4) rfl))
      have N23 := Fr.snoc X23 N21 g_w_counted_a0
      have W_w_counted_a0_23 : Arl Z h23 w_counted_a0 .int (List.set LC (((f7n2_t0 p1 LG L_a2) + (1 : Int32))).toNatClampNeg (f11 w_numbered_a0)) := up23 W23
      refine go (B := T23.setTop (mkF m 94 #[.val (.ref a0), .val (.int p1), .val (.ref a2), .val (.ref a2), .val (.int (2 : Int32)), .val (.int (0 : Int32)), .val (.int (List.getD L_a2 0 0)), .val (.int ((f7n2_t0 p1 LG L_a2) + (1 : Int32))), .val (.int (f11 w_numbered_a0))] [])) st23 ?_
      rw [show (f7n2_l2 p1 w_counts_a0 LG LI L_a2) = (f7n2_l1 p1 w_counts_a0 LG LI L_a2) from by unfold f7n2_l2; rw [if_neg hc17]] at Kj16
      rw [show (f7n2_l3 p1 w_counts_a0 w_numbered_a0 LG LI LC L_a2) = (List.set LC (((f7n2_t0 p1 LG L_a2) + (1 : Int32))).toNatClampNeg (f11 w_numbered_a0)) from by unfold f7n2_l3; rw [if_neg hc17]] at Kj16
      rw [show (f7n2_z4 p1 w_counts_a0 w_numbered_a0 LG LI L_a2) = (w_numbered_a0 + (1 : Int32)) from by unfold f7n2_z4; rw [if_neg hc17]] at Kj16
      exact Kj16 _ _ _ _ (One.val rfl) X23 N23 e23 Z23 K23 E_a0_23 W_w_seenIn_a0_23 W_w_counted_a0_23 W_a2_23 F_sizes_a0_23 F_seenIn_a0_23 F_counted_a0_23 F_groupOf_a0_23 F_counts_a0_23 F_numbered_a0_23 F_live_a0_23 W_w_groupOf_a0_23 W_w_sizes_a0_23 ((List.length_set).trans hl_LI) ((List.length_set).trans hl_LC)
  intro sl16_8 T16 h16 L16 hsl16_8 X16 N16 e16 Z16 K16 E_a0_16 W_w_seenIn_a0_16 W_w_counted_a0_16 W_a2_16 F_sizes_a0_16 F_seenIn_a0_16 F_counted_a0_16 F_groupOf_a0_16 F_counts_a0_16 F_numbered_a0_16 F_live_a0_16 W_w_groupOf_a0_16 W_w_sizes_a0_16 hl_w_seenIn_a0_16 hl_w_counted_a0_16
  have hq24 : own_J (f7n2_l2 p1 w_counts_a0 LG LI L_a2) (f7n2_l3 p1 w_counts_a0 w_numbered_a0 LG LI LC L_a2) (w_counts_a0 + (1 : Int32)) (f7n2_z4 p1 w_counts_a0 w_numbered_a0 LG LI L_a2) ∧ List.getD (f7n2_l2 p1 w_counts_a0 LG LI L_a2) (((f7n2_t0 p1 LG L_a2) + (1 : Int32))).toNatClampNeg 0 = (w_counts_a0 + (1 : Int32)) ∧ (w_numbered_a0).toInt ≤ ((f7n2_z4 p1 w_counts_a0 w_numbered_a0 LG LI L_a2)).toInt ∧ ((f7n2_z4 p1 w_counts_a0 w_numbered_a0 LG LI L_a2)).toInt ≤ (w_numbered_a0).toInt + 1 := by
    unfold f7n2_l2 f7n2_l3 f7n2_z4
    by_cases hz : (List.getD LI (((f7n2_t0 p1 LG L_a2) + (1 : Int32))).toNatClampNeg 0) = (w_counts_a0 + (1 : Int32))
    · rw [if_pos hz, if_pos hz, if_pos hz]; exact ⟨hJ5, hz, Int.le_refl _, by omega⟩
    · rw [if_neg hz, if_neg hz, if_neg hz]; exact own_fresh (nb := w_numbered_a0) hJ5 hf10.2 hB5.1 (by have := hB5.2; omega)
  have hG24 := own_Gup (nb' := (f7n2_z4 p1 w_counts_a0 w_numbered_a0 LG LI L_a2)) hG12 hq24.2.2.1 (by have := hq24.2.2.2; have := hB5.2; omega)
  have hg24 : 0 ≤ ((f7n2_t5 p1 w_counts_a0 w_numbered_a0 LG LI LC L_a2)).toInt ∧ ((f7n2_t5 p1 w_counts_a0 w_numbered_a0 LG LI LC L_a2)).toInt < ((f7n2_z4 p1 w_counts_a0 w_numbered_a0 LG LI L_a2)).toInt := own_Jget hq24.1 hf10.2 hq24.2.1
  refine go (B := T16.setTop (mkF m 95 #[.val (.ref a0), .val (.int p1), .val (.ref a2), .val (.ref a2), .val (.int (2 : Int32)), .val (.int (0 : Int32)), .val (.int (List.getD L_a2 0 0)), .val (.int ((f7n2_t0 p1 LG L_a2) + (1 : Int32))), sl16_8] [(.ref a0)])) (fun _ k => XS.aloadN X16.here hx rfl (hb hby d7_94) rfl rfl k) ?_
  obtain ⟨T25, X25, e25, st25⟩ := getF X16 hx hZ hown (host := "") (Or.inl (hw _ (List.mem_of_getElem? (i := 26) rfl))) Via.refl e16 F_counted_a0_16 (g := (mkF m 95 #[.val (.ref a0), .val (.int p1), .val (.ref a2), .val (.ref a2), .val (.int (2 : Int32)), .val (.int (0 : Int32)), .val (.int (List.getD L_a2 0 0)), .val (.int ((f7n2_t0 p1 LG L_a2) + (1 : Int32))), sl16_8] [(.ref a0)])) rfl rfl (hb hby d7_95)
  refine go (B := T25.setTop (mkF m 98 #[.val (.ref a0), .val (.int p1), .val (.ref a2), .val (.ref a2), .val (.int (2 : Int32)), .val (.int (0 : Int32)), .val (.int (List.getD L_a2 0 0)), .val (.int ((f7n2_t0 p1 LG L_a2) + (1 : Int32))), sl16_8] [(.ref w_counted_a0)])) st25 ?_
  refine go (B := T25.setTop (mkF m 100 #[.val (.ref a0), .val (.int p1), .val (.ref a2), .val (.ref a2), .val (.int (2 : Int32)), .val (.int (0 : Int32)), .val (.int (List.getD L_a2 0 0)), .val (.int ((f7n2_t0 p1 LG L_a2) + (1 : Int32))), sl16_8] [(.int ((f7n2_t0 p1 LG L_a2) + (1 : Int32))), (.ref w_counted_a0)])) (fun _ k => XS.iload X25.here hx rfl (hb hby d7_98) rfl k) ?_
  obtain ⟨cl26, Ar26, hin26, hat26, up26⟩ := Arl.in W_w_counted_a0_16 (j := ((f7n2_t0 p1 LG L_a2) + (1 : Int32))) hf10.1 (own_lit hf10.2 hl_w_counted_a0_16)
  refine go (B := T25.setTop (mkF m 101 #[.val (.ref a0), .val (.int p1), .val (.ref a2), .val (.ref a2), .val (.int (2 : Int32)), .val (.int (0 : Int32)), .val (.int (List.getD L_a2 0 0)), .val (.int ((f7n2_t0 p1 LG L_a2) + (1 : Int32))), sl16_8] [(.int (f7n2_t5 p1 w_counts_a0 w_numbered_a0 LG LI LC L_a2))])) (fun _ k => X25.iaload hx (j := ((f7n2_t0 p1 LG L_a2) + (1 : Int32))) (v := (.int (f7n2_t5 p1 w_counts_a0 w_numbered_a0 LG LI LC L_a2))) (by rw [e25]; exact Ar26.1) (State.isArrayOf_alike hZ.alike Ar26.2.1) Ar26.2.2 hin26 hat26 (g := (mkF m 100 #[.val (.ref a0), .val (.int p1), .val (.ref a2), .val (.ref a2), .val (.int (2 : Int32)), .val (.int (0 : Int32)), .val (.int (List.getD L_a2 0 0)), .val (.int ((f7n2_t0 p1 LG L_a2) + (1 : Int32))), sl16_8] [(.int ((f7n2_t0 p1 LG L_a2) + (1 : Int32))), (.ref w_counted_a0)])) rfl rfl (hb hby d7_100) _ k) ?_
  have os27 : storeLocals #[.val (.ref a0), .val (.int p1), .val (.ref a2), .val (.ref a2), .val (.int (2 : Int32)), .val (.int (0 : Int32)), .val (.int (List.getD L_a2 0 0)), .val (.int ((f7n2_t0 p1 LG L_a2) + (1 : Int32))), sl16_8] 8 (.int (f7n2_t5 p1 w_counts_a0 w_numbered_a0 LG LI LC L_a2)) = some #[.val (.ref a0), .val (.int p1), .val (.ref a2), .val (.ref a2), .val (.int (2 : Int32)), .val (.int (0 : Int32)), .val (.int (List.getD L_a2 0 0)), .val (.int ((f7n2_t0 p1 LG L_a2) + (1 : Int32))), .val (.int (f7n2_t5 p1 w_counts_a0 w_numbered_a0 LG LI LC L_a2))] := by
    rcases hsl16_8 with q | ⟨w, q, hw⟩
    · subst q; rfl
    · subst q; cases w <;> first | rfl | (simp [Value.category] at hw)
  refine go (B := T25.setTop (mkF m 103 #[.val (.ref a0), .val (.int p1), .val (.ref a2), .val (.ref a2), .val (.int (2 : Int32)), .val (.int (0 : Int32)), .val (.int (List.getD L_a2 0 0)), .val (.int ((f7n2_t0 p1 LG L_a2) + (1 : Int32))), .val (.int (f7n2_t5 p1 w_counts_a0 w_numbered_a0 LG LI LC L_a2))] [])) (fun _ k => XS.istore X25.here hx rfl (hb hby d7_101) rfl (l' := #[.val (.ref a0), .val (.int p1), .val (.ref a2), .val (.ref a2), .val (.int (2 : Int32)), .val (.int (0 : Int32)), .val (.int (List.getD L_a2 0 0)), .val (.int ((f7n2_t0 p1 LG L_a2) + (1 : Int32))), .val (.int (f7n2_t5 p1 w_counts_a0 w_numbered_a0 LG LI LC L_a2))]) os27 k) ?_
  refine go (B := T25.setTop (mkF m 104 #[.val (.ref a0), .val (.int p1), .val (.ref a2), .val (.ref a2), .val (.int (2 : Int32)), .val (.int (0 : Int32)), .val (.int (List.getD L_a2 0 0)), .val (.int ((f7n2_t0 p1 LG L_a2) + (1 : Int32))), .val (.int (f7n2_t5 p1 w_counts_a0 w_numbered_a0 LG LI LC L_a2))] [(.ref a0)])) (fun _ k => XS.aloadN X25.here hx rfl (hb hby d7_103) rfl rfl k) ?_
  obtain ⟨T28, X28, e28, st28⟩ := getF X25 hx hZ hown (host := "") (Or.inl (hw _ (List.mem_of_getElem? (i := 28) rfl))) Via.refl e25 F_groupOf_a0_16 (g := (mkF m 104 #[.val (.ref a0), .val (.int p1), .val (.ref a2), .val (.ref a2), .val (.int (2 : Int32)), .val (.int (0 : Int32)), .val (.int (List.getD L_a2 0 0)), .val (.int ((f7n2_t0 p1 LG L_a2) + (1 : Int32))), .val (.int (f7n2_t5 p1 w_counts_a0 w_numbered_a0 LG LI LC L_a2))] [(.ref a0)])) rfl rfl (hb hby d7_104)
  refine go (B := T28.setTop (mkF m 107 #[.val (.ref a0), .val (.int p1), .val (.ref a2), .val (.ref a2), .val (.int (2 : Int32)), .val (.int (0 : Int32)), .val (.int (List.getD L_a2 0 0)), .val (.int ((f7n2_t0 p1 LG L_a2) + (1 : Int32))), .val (.int (f7n2_t5 p1 w_counts_a0 w_numbered_a0 LG LI LC L_a2))] [(.ref w_groupOf_a0)])) st28 ?_
  refine go (B := T28.setTop (mkF m 109 #[.val (.ref a0), .val (.int p1), .val (.ref a2), .val (.ref a2), .val (.int (2 : Int32)), .val (.int (0 : Int32)), .val (.int (List.getD L_a2 0 0)), .val (.int ((f7n2_t0 p1 LG L_a2) + (1 : Int32))), .val (.int (f7n2_t5 p1 w_counts_a0 w_numbered_a0 LG LI LC L_a2))] [(.int (List.getD L_a2 0 0)), (.ref w_groupOf_a0)])) (fun _ k => XS.iload X28.here hx rfl (hb hby d7_107) rfl k) ?_
  refine go (B := T28.setTop (mkF m 111 #[.val (.ref a0), .val (.int p1), .val (.ref a2), .val (.ref a2), .val (.int (2 : Int32)), .val (.int (0 : Int32)), .val (.int (List.getD L_a2 0 0)), .val (.int ((f7n2_t0 p1 LG L_a2) + (1 : Int32))), .val (.int (f7n2_t5 p1 w_counts_a0 w_numbered_a0 LG LI LC L_a2))] [(.int (f7n2_t5 p1 w_counts_a0 w_numbered_a0 LG LI LC L_a2)), (.int (List.getD L_a2 0 0)), (.ref w_groupOf_a0)])) (fun _ k => XS.iload X28.here hx rfl (hb hby d7_109) rfl k) ?_
  obtain ⟨cl29, Ar29, hin29, hat29, up29⟩ := Arl.in W_w_groupOf_a0_16 (j := (List.getD L_a2 0 0)) (own_mem hch hl_L_a2 0).1 (own_lit (own_mem hch hl_L_a2 0).2 o11_9)
  obtain ⟨T29, h29, X29, e29, W29, st29⟩ := stI X28 hx hZ e28 Ar29 (j := (List.getD L_a2 0 0)) hin29 (g := (mkF m 111 #[.val (.ref a0), .val (.int p1), .val (.ref a2), .val (.ref a2), .val (.int (2 : Int32)), .val (.int (0 : Int32)), .val (.int (List.getD L_a2 0 0)), .val (.int ((f7n2_t0 p1 LG L_a2) + (1 : Int32))), .val (.int (f7n2_t5 p1 w_counts_a0 w_numbered_a0 LG LI LC L_a2))] [(.int (f7n2_t5 p1 w_counts_a0 w_numbered_a0 LG LI LC L_a2)), (.int (List.getD L_a2 0 0)), (.ref w_groupOf_a0)])) rfl rfl (hb hby d7_111)
  have E_a0_29 := E_a0_16.wr W29
  have W_w_seenIn_a0_29 := W_w_seenIn_a0_16.other W29 (Ne.symm ne_w_groupOf_a0_w_seenIn_a0)
  have W_w_counted_a0_29 := W_w_counted_a0_16.other W29 (Ne.symm ne_w_groupOf_a0_w_counted_a0)
  have W_a2_29 := W_a2_16.other W29 (Ne.symm ne_w_groupOf_a0_a2)
  have F_sizes_a0_29 := Fld.other W29 F_sizes_a0_16 (Or.inl ne_a0_w_groupOf_a0)
  have F_seenIn_a0_29 := Fld.other W29 F_seenIn_a0_16 (Or.inl ne_a0_w_groupOf_a0)
  have F_counted_a0_29 := Fld.other W29 F_counted_a0_16 (Or.inl ne_a0_w_groupOf_a0)
  have F_groupOf_a0_29 := Fld.other W29 F_groupOf_a0_16 (Or.inl ne_a0_w_groupOf_a0)
  have F_counts_a0_29 := Fld.other W29 F_counts_a0_16 (Or.inl ne_a0_w_groupOf_a0)
  have F_numbered_a0_29 := Fld.other W29 F_numbered_a0_16 (Or.inl ne_a0_w_groupOf_a0)
  have F_live_a0_29 := Fld.other W29 F_live_a0_16 (Or.inl ne_a0_w_groupOf_a0)
  have W_w_sizes_a0_29 := W_w_sizes_a0_16.other W29 (Ne.symm ne_w_groupOf_a0_w_sizes_a0)
  have Z29 := Nat.le_trans Z16 (Keep.of_wr W29).1
  have K29 := K16.wr W29 (Or.inl (List.mem_of_getElem? (i := 1) rfl))
  have N29 := Fr.snoc X29 N16 g_w_groupOf_a0
  have W_w_groupOf_a0_29 : Arl Z h29 w_groupOf_a0 .int (f7n2_l6 p1 w_counts_a0 w_numbered_a0 LG LI LC L_a2) := up29 W29
  refine go (B := T29.setTop (mkF m 112 #[.val (.ref a0), .val (.int p1), .val (.ref a2), .val (.ref a2), .val (.int (2 : Int32)), .val (.int (0 : Int32)), .val (.int (List.getD L_a2 0 0)), .val (.int ((f7n2_t0 p1 LG L_a2) + (1 : Int32))), .val (.int (f7n2_t5 p1 w_counts_a0 w_numbered_a0 LG LI LC L_a2))] [])) st29 ?_
  have hG30 : own_G (f7n2_l6 p1 w_counts_a0 w_numbered_a0 LG LI LC L_a2) (f7n2_z4 p1 w_counts_a0 w_numbered_a0 LG LI L_a2) := own_Gset hG24 (by have := hg24.1; omega) hg24.2
  have hR30 : own_rel LG p1 ([] ++ [(List.getD L_a2 0 0)]) (f7n2_l6 p1 w_counts_a0 w_numbered_a0 LG LI LC L_a2) := own_relS hR2 hG2.1 (own_mem hch hl_L_a2 0) hg24.1
  have hB30 : 0 ≤ ((f7n2_z4 p1 w_counts_a0 w_numbered_a0 LG LI L_a2)).toInt ∧ ((f7n2_z4 p1 w_counts_a0 w_numbered_a0 LG LI L_a2)).toInt ≤ w_numbered_a0.toInt + 1 := ⟨by have := hB5.1; have := hq24.2.2.1; omega, by have := hB5.2; have := hq24.2.2.2; omega⟩
  refine go (B := T29.setTop (mkF m 113 #[.val (.ref a0), .val (.int p1), .val (.ref a2), .val (.ref a2), .val (.int (2 : Int32)), .val (.int (0 : Int32)), .val (.int (List.getD L_a2 0 0)), .val (.int ((f7n2_t0 p1 LG L_a2) + (1 : Int32))), .val (.int (f7n2_t5 p1 w_counts_a0 w_numbered_a0 LG LI LC L_a2))] [(.ref a0)])) (fun _ k => XS.aloadN X29.here hx rfl (hb hby d7_112) rfl rfl k) ?_
  obtain ⟨T31, X31, e31, st31⟩ := getF X29 hx hZ hown (host := "") (Or.inl (hw _ (List.mem_of_getElem? (i := 22) rfl))) Via.refl e29 F_sizes_a0_29 (g := (mkF m 113 #[.val (.ref a0), .val (.int p1), .val (.ref a2), .val (.ref a2), .val (.int (2 : Int32)), .val (.int (0 : Int32)), .val (.int (List.getD L_a2 0 0)), .val (.int ((f7n2_t0 p1 LG L_a2) + (1 : Int32))), .val (.int (f7n2_t5 p1 w_counts_a0 w_numbered_a0 LG LI LC L_a2))] [(.ref a0)])) rfl rfl (hb hby d7_113)
  refine go (B := T31.setTop (mkF m 116 #[.val (.ref a0), .val (.int p1), .val (.ref a2), .val (.ref a2), .val (.int (2 : Int32)), .val (.int (0 : Int32)), .val (.int (List.getD L_a2 0 0)), .val (.int ((f7n2_t0 p1 LG L_a2) + (1 : Int32))), .val (.int (f7n2_t5 p1 w_counts_a0 w_numbered_a0 LG LI LC L_a2))] [(.ref w_sizes_a0)])) st31 ?_
  refine go (B := T31.setTop (mkF m 118 #[.val (.ref a0), .val (.int p1), .val (.ref a2), .val (.ref a2), .val (.int (2 : Int32)), .val (.int (0 : Int32)), .val (.int (List.getD L_a2 0 0)), .val (.int ((f7n2_t0 p1 LG L_a2) + (1 : Int32))), .val (.int (f7n2_t5 p1 w_counts_a0 w_numbered_a0 LG LI LC L_a2))] [(.int (f7n2_t5 p1 w_counts_a0 w_numbered_a0 LG LI LC L_a2)), (.ref w_sizes_a0)])) (fun _ k => XS.iload X31.here hx rfl (hb hby d7_116) rfl k) ?_
  refine go (B := T31.setTop (mkF m 119 #[.val (.ref a0), .val (.int p1), .val (.ref a2), .val (.ref a2), .val (.int (2 : Int32)), .val (.int (0 : Int32)), .val (.int (List.getD L_a2 0 0)), .val (.int ((f7n2_t0 p1 LG L_a2) + (1 : Int32))), .val (.int (f7n2_t5 p1 w_counts_a0 w_numbered_a0 LG LI LC L_a2))] [(.int (f7n2_t5 p1 w_counts_a0 w_numbered_a0 LG LI LC L_a2)), (.ref w_sizes_a0), (.int (f7n2_t5 p1 w_counts_a0 w_numbered_a0 LG LI LC L_a2)), (.ref w_sizes_a0)])) (fun _ k => Jvm.Free.XT.dup2 X31.here hx rfl (hb hby d7_118) rfl rfl rfl k) ?_
  obtain ⟨cl32, Ar32, hin32, hat32, up32⟩ := Arl.in W_w_sizes_a0_29 (j := (f7n2_t5 p1 w_counts_a0 w_numbered_a0 LG LI LC L_a2)) (own_nn hg24.1) (own_lit (own_cl (by have := hg24.2; have := hG30.2.2.1; show _ < (16 : Int); omega) hg24.1) o11_11)
  refine go (B := T31.setTop (mkF m 120 #[.val (.ref a0), .val (.int p1), .val (.ref a2), .val (.ref a2), .val (.int (2 : Int32)), .val (.int (0 : Int32)), .val (.int (List.getD L_a2 0 0)), .val (.int ((f7n2_t0 p1 LG L_a2) + (1 : Int32))), .val (.int (f7n2_t5 p1 w_counts_a0 w_numbered_a0 LG LI LC L_a2))] [(.int (List.getD S'_11 ((f7n2_t5 p1 w_counts_a0 w_numbered_a0 LG LI LC L_a2)).toNatClampNeg 0)), (.int (f7n2_t5 p1 w_counts_a0 w_numbered_a0 LG LI LC L_a2)), (.ref w_sizes_a0)])) (fun _ k => X31.iaload hx (j := (f7n2_t5 p1 w_counts_a0 w_numbered_a0 LG LI LC L_a2)) (v := (.int (List.getD S'_11 ((f7n2_t5 p1 w_counts_a0 w_numbered_a0 LG LI LC L_a2)).toNatClampNeg 0))) (by rw [e31]; exact Ar32.1) (State.isArrayOf_alike hZ.alike Ar32.2.1) Ar32.2.2 hin32 hat32 (g := (mkF m 119 #[.val (.ref a0), .val (.int p1), .val (.ref a2), .val (.ref a2), .val (.int (2 : Int32)), .val (.int (0 : Int32)), .val (.int (List.getD L_a2 0 0)), .val (.int ((f7n2_t0 p1 LG L_a2) + (1 : Int32))), .val (.int (f7n2_t5 p1 w_counts_a0 w_numbered_a0 LG LI LC L_a2))] [(.int (f7n2_t5 p1 w_counts_a0 w_numbered_a0 LG LI LC L_a2)), (.ref w_sizes_a0), (.int (f7n2_t5 p1 w_counts_a0 w_numbered_a0 LG LI LC L_a2)), (.ref w_sizes_a0)])) rfl rfl (hb hby d7_119) _ k) ?_
  refine go (B := T31.setTop (mkF m 121 #[.val (.ref a0), .val (.int p1), .val (.ref a2), .val (.ref a2), .val (.int (2 : Int32)), .val (.int (0 : Int32)), .val (.int (List.getD L_a2 0 0)), .val (.int ((f7n2_t0 p1 LG L_a2) + (1 : Int32))), .val (.int (f7n2_t5 p1 w_counts_a0 w_numbered_a0 LG LI LC L_a2))] [(.int (List.getD S'_11 ((f7n2_t5 p1 w_counts_a0 w_numbered_a0 LG LI LC L_a2)).toNatClampNeg 0)), (.int (f7n2_t5 p1 w_counts_a0 w_numbered_a0 LG LI LC L_a2)), (.ref w_sizes_a0), (.int (List.getD S'_11 ((f7n2_t5 p1 w_counts_a0 w_numbered_a0 LG LI LC L_a2)).toNatClampNeg 0))])) (fun _ k => by jvm_step X31.here [X31.here.top, hx, (hb hby d7_120), Value.category]; exact k) ?_
  refine go (B := T31.setTop (mkF m 122 #[.val (.ref a0), .val (.int p1), .val (.ref a2), .val (.ref a2), .val (.int (2 : Int32)), .val (.int (0 : Int32)), .val (.int (List.getD L_a2 0 0)), .val (.int ((f7n2_t0 p1 LG L_a2) + (1 : Int32))), .val (.int (f7n2_t5 p1 w_counts_a0 w_numbered_a0 LG LI LC L_a2))] [(.int (1 : Int32)), (.int (List.getD S'_11 ((f7n2_t5 p1 w_counts_a0 w_numbered_a0 LG LI LC L_a2)).toNatClampNeg 0)), (.int (f7n2_t5 p1 w_counts_a0 w_numbered_a0 LG LI LC L_a2)), (.ref w_sizes_a0), (.int (List.getD S'_11 ((f7n2_t5 p1 w_counts_a0 w_numbered_a0 LG LI LC L_a2)).toNatClampNeg 0))])) (fun _ k => XS.iconst X31.here hx rfl (hb hby d7_121) k) ?_
  refine go (B := T31.setTop (mkF m 123 #[.val (.ref a0), .val (.int p1), .val (.ref a2), .val (.ref a2), .val (.int (2 : Int32)), .val (.int (0 : Int32)), .val (.int (List.getD L_a2 0 0)), .val (.int ((f7n2_t0 p1 LG L_a2) + (1 : Int32))), .val (.int (f7n2_t5 p1 w_counts_a0 w_numbered_a0 LG LI LC L_a2))] [(.int (f7n2_t7 p1 w_counts_a0 w_numbered_a0 LG LI LC L_a2 S'_11)), (.int (f7n2_t5 p1 w_counts_a0 w_numbered_a0 LG LI LC L_a2)), (.ref w_sizes_a0), (.int (List.getD S'_11 ((f7n2_t5 p1 w_counts_a0 w_numbered_a0 LG LI LC L_a2)).toNatClampNeg 0))])) (fun _ k => XS.iadd X31.here hx rfl (hb hby d7_122) rfl k) ?_
  obtain ⟨cl33, Ar33, hin33, hat33, up33⟩ := Arl.in W_w_sizes_a0_29 (j := (f7n2_t5 p1 w_counts_a0 w_numbered_a0 LG LI LC L_a2)) (own_nn hg24.1) (own_lit (own_cl (by have := hg24.2; have := hG30.2.2.1; show _ < (16 : Int); omega) hg24.1) o11_11)
  obtain ⟨T33, h33, X33, e33, W33, st33⟩ := stI X31 hx hZ e31 Ar33 (j := (f7n2_t5 p1 w_counts_a0 w_numbered_a0 LG LI LC L_a2)) hin33 (g := (mkF m 123 #[.val (.ref a0), .val (.int p1), .val (.ref a2), .val (.ref a2), .val (.int (2 : Int32)), .val (.int (0 : Int32)), .val (.int (List.getD L_a2 0 0)), .val (.int ((f7n2_t0 p1 LG L_a2) + (1 : Int32))), .val (.int (f7n2_t5 p1 w_counts_a0 w_numbered_a0 LG LI LC L_a2))] [(.int (f7n2_t7 p1 w_counts_a0 w_numbered_a0 LG LI LC L_a2 S'_11)), (.int (f7n2_t5 p1 w_counts_a0 w_numbered_a0 LG LI LC L_a2)), (.ref w_sizes_a0), (.int (List.getD S'_11 ((f7n2_t5 p1 w_counts_a0 w_numbered_a0 LG LI LC L_a2)).toNatClampNeg 0))])) rfl rfl (hb hby d7_123)
  have E_a0_33 := E_a0_29.wr W33
  have W_w_seenIn_a0_33 := W_w_seenIn_a0_29.other W33 (Ne.symm ne_w_sizes_a0_w_seenIn_a0)
  have W_w_counted_a0_33 := W_w_counted_a0_29.other W33 (Ne.symm ne_w_sizes_a0_w_counted_a0)
  have W_a2_33 := W_a2_29.other W33 (Ne.symm ne_w_sizes_a0_a2)
  have F_sizes_a0_33 := Fld.other W33 F_sizes_a0_29 (Or.inl ne_a0_w_sizes_a0)
  have F_seenIn_a0_33 := Fld.other W33 F_seenIn_a0_29 (Or.inl ne_a0_w_sizes_a0)
  have F_counted_a0_33 := Fld.other W33 F_counted_a0_29 (Or.inl ne_a0_w_sizes_a0)
  have F_groupOf_a0_33 := Fld.other W33 F_groupOf_a0_29 (Or.inl ne_a0_w_sizes_a0)
  have F_counts_a0_33 := Fld.other W33 F_counts_a0_29 (Or.inl ne_a0_w_sizes_a0)
  have F_numbered_a0_33 := Fld.other W33 F_numbered_a0_29 (Or.inl ne_a0_w_sizes_a0)
  have F_live_a0_33 := Fld.other W33 F_live_a0_29 (Or.inl ne_a0_w_sizes_a0)
  have W_w_groupOf_a0_33 := W_w_groupOf_a0_29.other W33 ne_w_groupOf_a0_w_sizes_a0
  have Z33 := Nat.le_trans Z29 (Keep.of_wr W33).1
  have K33 := K29.wr W33 (Or.inl (List.mem_of_getElem? (i := 2) rfl))
  have N33 := Fr.snoc X33 N29 g_w_sizes_a0
  have W_w_sizes_a0_33 : Arl Z h33 w_sizes_a0 .int (f7n2_l8 p1 w_counts_a0 w_numbered_a0 LG LI LC L_a2 S'_11) := up33 W33
  refine go (B := T33.setTop (mkF m 124 #[.val (.ref a0), .val (.int p1), .val (.ref a2), .val (.ref a2), .val (.int (2 : Int32)), .val (.int (0 : Int32)), .val (.int (List.getD L_a2 0 0)), .val (.int ((f7n2_t0 p1 LG L_a2) + (1 : Int32))), .val (.int (f7n2_t5 p1 w_counts_a0 w_numbered_a0 LG LI LC L_a2))] [(.int (List.getD S'_11 ((f7n2_t5 p1 w_counts_a0 w_numbered_a0 LG LI LC L_a2)).toNatClampNeg 0))])) st33 ?_
  suffices Kj34 : ∀ (T34 : State) (h34 : Heap) (L34 : List Loc), Stand p l e room7n2 s m #[(.ref a0), (.int p1), (.ref a2)] below meth c T34 L34 0 0 → Fr n0 L34 → T34.heap = h34 → n0 ≤ h34.size → Keep h0 h34 [a0, w_groupOf_a0, w_sizes_a0, w_seenIn_a0, w_counted_a0] → Exa Z h34 a0 "com/example/constrained_flow/constrainedflow/planner/search/Sweep$Groups" → Arl Z h34 w_seenIn_a0 .int (f7n2_l2 p1 w_counts_a0 LG LI L_a2) → Arl Z h34 w_counted_a0 .int (f7n2_l3 p1 w_counts_a0 w_numbered_a0 LG LI LC L_a2) → Arl Z h34 a2 .int L_a2 → Fld Z h34 a0 "com/example/constrained_flow/constrainedflow/planner/search/Sweep$Groups" "sizes" "[I" (.ref w_sizes_a0) → Fld Z h34 a0 "com/example/constrained_flow/constrainedflow/planner/search/Sweep$Groups" "seenIn" "[I" (.ref w_seenIn_a0) → Fld Z h34 a0 "com/example/constrained_flow/constrainedflow/planner/search/Sweep$Groups" "counted" "[I" (.ref w_counted_a0) → Fld Z h34 a0 "com/example/constrained_flow/constrainedflow/planner/search/Sweep$Groups" "groupOf" "[I" (.ref w_groupOf_a0) → Fld Z h34 a0 "com/example/constrained_flow/constrainedflow/planner/search/Sweep$Groups" "counts" "I" (.int (w_counts_a0 + (1 : Int32))) → Fld Z h34 a0 "com/example/constrained_flow/constrainedflow/planner/search/Sweep$Groups" "numbered" "I" (.int (f7n2_z4 p1 w_counts_a0 w_numbered_a0 LG LI L_a2)) → Arl Z h34 w_groupOf_a0 .int (f7n2_l6 p1 w_counts_a0 w_numbered_a0 LG LI LC L_a2) → Arl Z h34 w_sizes_a0 .int (f7n2_l8 p1 w_counts_a0 w_numbered_a0 LG LI LC L_a2 S'_11) → Fld Z h34 a0 "com/example/constrained_flow/constrainedflow/planner/search/Sweep$Groups" "live" "I" (.int (f7n2_z9 p1 w_counts_a0 w_numbered_a0 LG LI LC L_a2 S'_11 V'_11)) → Go p.tables e below F (T34.setTop (mkF m 137 #[.val (.ref a0), .val (.int p1), .val (.ref a2), .val (.ref a2), .val (.int (2 : Int32)), .val (.int (0 : Int32)), .val (.int (List.getD L_a2 0 0)), .val (.int ((f7n2_t0 p1 LG L_a2) + (1 : Int32))), .val (.int (f7n2_t5 p1 w_counts_a0 w_numbered_a0 LG LI LC L_a2))] [])) by
    by_cases hc35 : (List.getD S'_11 ((f7n2_t5 p1 w_counts_a0 w_numbered_a0 LG LI LC L_a2)).toNatClampNeg 0) = (0 : Int32)
    · refine go (B := T33.setTop (mkF m 127 #[.val (.ref a0), .val (.int p1), .val (.ref a2), .val (.ref a2), .val (.int (2 : Int32)), .val (.int (0 : Int32)), .val (.int (List.getD L_a2 0 0)), .val (.int ((f7n2_t0 p1 LG L_a2) + (1 : Int32))), .val (.int (f7n2_t5 p1 w_counts_a0 w_numbered_a0 LG LI LC L_a2))] [])) (fun _ k => XS.ifNo X33.here hx rfl (hb hby d7_124) rfl ((if0 _ _).trans (teq hc35).2) k) ?_
      refine go (B := T33.setTop (mkF m 128 #[.val (.ref a0), .val (.int p1), .val (.ref a2), .val (.ref a2), .val (.int (2 : Int32)), .val (.int (0 : Int32)), .val (.int (List.getD L_a2 0 0)), .val (.int ((f7n2_t0 p1 LG L_a2) + (1 : Int32))), .val (.int (f7n2_t5 p1 w_counts_a0 w_numbered_a0 LG LI LC L_a2))] [(.ref a0)])) (fun _ k => XS.aloadN X33.here hx rfl (hb hby d7_127) rfl rfl k) ?_
      refine go (B := T33.setTop (mkF m 129 #[.val (.ref a0), .val (.int p1), .val (.ref a2), .val (.ref a2), .val (.int (2 : Int32)), .val (.int (0 : Int32)), .val (.int (List.getD L_a2 0 0)), .val (.int ((f7n2_t0 p1 LG L_a2) + (1 : Int32))), .val (.int (f7n2_t5 p1 w_counts_a0 w_numbered_a0 LG LI LC L_a2))] [(.ref a0), (.ref a0)])) (fun _ k => XS.dup X33.here hx rfl (hb hby d7_128) rfl rfl k) ?_
      obtain ⟨T36, X36, e36, st36⟩ := getF X33 hx hZ hown (host := "") (Or.inl (hw _ (List.mem_of_getElem? (i := 59) rfl))) Via.refl e33 F_live_a0_33 (g := (mkF m 129 #[.val (.ref a0), .val (.int p1), .val (.ref a2), .val (.ref a2), .val (.int (2 : Int32)), .val (.int (0 : Int32)), .val (.int (List.getD L_a2 0 0)), .val (.int ((f7n2_t0 p1 LG L_a2) + (1 : Int32))), .val (.int (f7n2_t5 p1 w_counts_a0 w_numbered_a0 LG LI LC L_a2))] [(.ref a0), (.ref a0)])) rfl rfl (hb hby d7_129)
      refine go (B := T36.setTop (mkF m 132 #[.val (.ref a0), .val (.int p1), .val (.ref a2), .val (.ref a2), .val (.int (2 : Int32)), .val (.int (0 : Int32)), .val (.int (List.getD L_a2 0 0)), .val (.int ((f7n2_t0 p1 LG L_a2) + (1 : Int32))), .val (.int (f7n2_t5 p1 w_counts_a0 w_numbered_a0 LG LI LC L_a2))] [(.int V'_11), (.ref a0)])) st36 ?_
      refine go (B := T36.setTop (mkF m 133 #[.val (.ref a0), .val (.int p1), .val (.ref a2), .val (.ref a2), .val (.int (2 : Int32)), .val (.int (0 : Int32)), .val (.int (List.getD L_a2 0 0)), .val (.int ((f7n2_t0 p1 LG L_a2) + (1 : Int32))), .val (.int (f7n2_t5 p1 w_counts_a0 w_numbered_a0 LG LI LC L_a2))] [(.int (1 : Int32)), (.int V'_11), (.ref a0)])) (fun _ k => XS.iconst X36.here hx rfl (hb hby d7_132) k) ?_
      refine go (B := T36.setTop (mkF m 134 #[.val (.ref a0), .val (.int p1), .val (.ref a2), .val (.ref a2), .val (.int (2 : Int32)), .val (.int (0 : Int32)), .val (.int (List.getD L_a2 0 0)), .val (.int ((f7n2_t0 p1 LG L_a2) + (1 : Int32))), .val (.int (f7n2_t5 p1 w_counts_a0 w_numbered_a0 LG LI LC L_a2))] [(.int (V'_11 + (1 : Int32))), (.ref a0)])) (fun _ k => XS.iadd X36.here hx rfl (hb hby d7_133) rfl k) ?_
      obtain ⟨T37, h37, X37, e37, W37, st37⟩ := putF X36 hx hZ hown (host := "") (Or.inl (hw _ (List.mem_of_getElem? (i := 59) rfl))) Via.refl e36 F_live_a0_33 E_a0_33 (Or.inl (hw _ (List.mem_of_getElem? (i := 60) rfl))) (hw _ (List.mem_of_getElem? (i := 14) rfl)) (ty := .int) (by decide) rfl rfl (g := (mkF m 134 #[.val (.ref a0), .val (.int p1), .val (.ref a2), .val (.ref a2), .val (.int (2 : Int32)), .val (.int (0 : Int32)), .val (.int (List.getD L_a2 0 0)), .val (.int ((f7n2_t0 p1 LG L_a2) + (1 : Int32))), .val (.int (f7n2_t5 p1 w_counts_a0 w_numbered_a0 LG LI LC L_a2))] [(.int (V'_11 + (1 : Int32))), (.ref a0)])) rfl rfl (hb hby d7_134)
      have E_a0_37 := E_a0_33.wr W37
      have W_w_seenIn_a0_37 := W_w_seenIn_a0_33.other W37 (Ne.symm ne_a0_w_seenIn_a0)
      have W_w_counted_a0_37 := W_w_counted_a0_33.other W37 (Ne.symm ne_a0_w_counted_a0)
      have W_a2_37 := W_a2_33.other W37 (Ne.symm ne_a0_a2)
      have F_sizes_a0_37 := Fld.other W37 F_sizes_a0_33 (Or.inr (slot_ne (Or.inl (hw _ (List.mem_of_getElem? (i := 23) rfl))) (Or.inl (hw _ (List.mem_of_getElem? (i := 60) rfl))) (by decide) (t := (.array .int)) (t' := .int) (by decide) (by decide)))
      have F_seenIn_a0_37 := Fld.other W37 F_seenIn_a0_33 (Or.inr (slot_ne (Or.inl (hw _ (List.mem_of_getElem? (i := 25) rfl))) (Or.inl (hw _ (List.mem_of_getElem? (i := 60) rfl))) (by decide) (t := (.array .int)) (t' := .int) (by decide) (by decide)))
      have F_counted_a0_37 := Fld.other W37 F_counted_a0_33 (Or.inr (slot_ne (Or.inl (hw _ (List.mem_of_getElem? (i := 27) rfl))) (Or.inl (hw _ (List.mem_of_getElem? (i := 60) rfl))) (by decide) (t := (.array .int)) (t' := .int) (by decide) (by decide)))
      have F_groupOf_a0_37 := Fld.other W37 F_groupOf_a0_33 (Or.inr (slot_ne (Or.inr (hw _ (List.mem_of_getElem? (i := 29) rfl))) (Or.inl (hw _ (List.mem_of_getElem? (i := 60) rfl))) (by decide) (t := (.array .int)) (t' := .int) (by decide) (by decide)))
      have F_counts_a0_37 := Fld.other W37 F_counts_a0_33 (Or.inr (slot_ne (Or.inl (hw _ (List.mem_of_getElem? (i := 44) rfl))) (Or.inl (hw _ (List.mem_of_getElem? (i := 60) rfl))) (by decide) (t := .int) (t' := .int) (by decide) (by decide)))
      have F_numbered_a0_37 := Fld.other W37 F_numbered_a0_33 (Or.inr (slot_ne (Or.inl (hw _ (List.mem_of_getElem? (i := 58) rfl))) (Or.inl (hw _ (List.mem_of_getElem? (i := 60) rfl))) (by decide) (t := .int) (t' := .int) (by decide) (by decide)))
      have W_w_groupOf_a0_37 := W_w_groupOf_a0_33.other W37 (Ne.symm ne_a0_w_groupOf_a0)
      have W_w_sizes_a0_37 := W_w_sizes_a0_33.other W37 (Ne.symm ne_a0_w_sizes_a0)
      have F_live_a0_37 := Fld.same W37 F_live_a0_33
      have Z37 := Nat.le_trans Z33 (Keep.of_wr W37).1
      have K37 := K33.wr W37 (Or.inl (List.mem_of_getElem? (i := 0) rfl))
      have N37 := Fr.snoc X37 N33 g_a0
      refine go (B := T37.setTop (mkF m 137 #[.val (.ref a0), .val (.int p1), .val (.ref a2), .val (.ref a2), .val (.int (2 : Int32)), .val (.int (0 : Int32)), .val (.int (List.getD L_a2 0 0)), .val (.int ((f7n2_t0 p1 LG L_a2) + (1 : Int32))), .val (.int (f7n2_t5 p1 w_counts_a0 w_numbered_a0 LG LI LC L_a2))] [])) st37 ?_
      rw [show (f7n2_z9 p1 w_counts_a0 w_numbered_a0 LG LI LC L_a2 S'_11 V'_11) = (V'_11 + (1 : Int32)) from by unfold f7n2_z9; rw [if_pos hc35]] at Kj34
      exact Kj34 _ _ _ X37 N37 e37 Z37 K37 E_a0_37 W_w_seenIn_a0_37 W_w_counted_a0_37 W_a2_37 F_sizes_a0_37 F_seenIn_a0_37 F_counted_a0_37 F_groupOf_a0_37 F_counts_a0_37 F_numbered_a0_37 W_w_groupOf_a0_37 W_w_sizes_a0_37 F_live_a0_37
    · refine go (B := T33.setTop (mkF m 137 #[.val (.ref a0), .val (.int p1), .val (.ref a2), .val (.ref a2), .val (.int (2 : Int32)), .val (.int (0 : Int32)), .val (.int (List.getD L_a2 0 0)), .val (.int ((f7n2_t0 p1 LG L_a2) + (1 : Int32))), .val (.int (f7n2_t5 p1 w_counts_a0 w_numbered_a0 LG LI LC L_a2))] [])) (fun _ k => XS.ifYes X33.here hx rfl (pc0 := 124) (pc' := 137) rfl (hb hby d7_124) rfl ((if0 _ _).trans (feq hc35).2) (by decide) (by decide) k) ?_
      rw [show (f7n2_z9 p1 w_counts_a0 w_numbered_a0 LG LI LC L_a2 S'_11 V'_11) = V'_11 from by unfold f7n2_z9; rw [if_neg hc35]] at Kj34
      exact Kj34 _ _ _ X33 N33 e33 Z33 K33 E_a0_33 W_w_seenIn_a0_33 W_w_counted_a0_33 W_a2_33 F_sizes_a0_33 F_seenIn_a0_33 F_counted_a0_33 F_groupOf_a0_33 F_counts_a0_33 F_numbered_a0_33 W_w_groupOf_a0_33 W_w_sizes_a0_33 F_live_a0_33
  intro T34 h34 L34 X34 N34 e34 Z34 K34 E_a0_34 W_w_seenIn_a0_34 W_w_counted_a0_34 W_a2_34 F_sizes_a0_34 F_seenIn_a0_34 F_counted_a0_34 F_groupOf_a0_34 F_counts_a0_34 F_numbered_a0_34 W_w_groupOf_a0_34 W_w_sizes_a0_34 F_live_a0_34
  refine go (B := T34.setTop (mkF m 140 #[.val (.ref a0), .val (.int p1), .val (.ref a2), .val (.ref a2), .val (.int (2 : Int32)), .val (.int (1 : Int32)), .val (.int (List.getD L_a2 0 0)), .val (.int ((f7n2_t0 p1 LG L_a2) + (1 : Int32))), .val (.int (f7n2_t5 p1 w_counts_a0 w_numbered_a0 LG LI LC L_a2))] [])) (fun _ k => XS.iinc X34.here hx rfl (hb hby d7_137) rfl (l' := #[.val (.ref a0), .val (.int p1), .val (.ref a2), .val (.ref a2), .val (.int (2 : Int32)), .val (.int (1 : Int32)), .val (.int (List.getD L_a2 0 0)), .val (.int ((f7n2_t0 p1 LG L_a2) + (1 : Int32))), .val (.int (f7n2_t5 p1 w_counts_a0 w_numbered_a0 LG LI LC L_a2))]) rfl k) ?_
  refine go (B := T34.setTop (mkF m 24 #[.val (.ref a0), .val (.int p1), .val (.ref a2), .val (.ref a2), .val (.int (2 : Int32)), .val (.int (1 : Int32)), .val (.int (List.getD L_a2 0 0)), .val (.int ((f7n2_t0 p1 LG L_a2) + (1 : Int32))), .val (.int (f7n2_t5 p1 w_counts_a0 w_numbered_a0 LG LI LC L_a2))] [])) (fun _ k => XS.goto X34.here hx rfl (pc0 := 140) (pc' := 24) rfl (hb hby d7_140) (by decide) (by decide) k) ?_
  refine go (B := T34.setTop (mkF m 26 #[.val (.ref a0), .val (.int p1), .val (.ref a2), .val (.ref a2), .val (.int (2 : Int32)), .val (.int (1 : Int32)), .val (.int (List.getD L_a2 0 0)), .val (.int ((f7n2_t0 p1 LG L_a2) + (1 : Int32))), .val (.int (f7n2_t5 p1 w_counts_a0 w_numbered_a0 LG LI LC L_a2))] [(.int (1 : Int32))])) (fun _ k => XS.iload X34.here hx rfl (hb hby d7_24) rfl k) ?_
  refine go (B := T34.setTop (mkF m 28 #[.val (.ref a0), .val (.int p1), .val (.ref a2), .val (.ref a2), .val (.int (2 : Int32)), .val (.int (1 : Int32)), .val (.int (List.getD L_a2 0 0)), .val (.int ((f7n2_t0 p1 LG L_a2) + (1 : Int32))), .val (.int (f7n2_t5 p1 w_counts_a0 w_numbered_a0 LG LI LC L_a2))] [(.int (2 : Int32)), (.int (1 : Int32))])) (fun _ k => XS.iload X34.here hx rfl (hb hby d7_26) rfl k) ?_
  refine go (B := T34.setTop (mkF m 31 #[.val (.ref a0), .val (.int p1), .val (.ref a2), .val (.ref a2), .val (.int (2 : Int32)), .val (.int (1 : Int32)), .val (.int (List.getD L_a2 0 0)), .val (.int ((f7n2_t0 p1 LG L_a2) + (1 : Int32))), .val (.int (f7n2_t5 p1 w_counts_a0 w_numbered_a0 LG LI LC L_a2))] [])) (fun _ k => XS.icmpNo X34.here hx rfl (hb hby d7_28) rfl (tlt (by decide : (1 : Int32) < (2 : Int32))).2.1 k) ?_
  refine go (B := T34.setTop (mkF m 32 #[.val (.ref a0), .val (.int p1), .val (.ref a2), .val (.ref a2), .val (.int (2 : Int32)), .val (.int (1 : Int32)), .val (.int (List.getD L_a2 0 0)), .val (.int ((f7n2_t0 p1 LG L_a2) + (1 : Int32))), .val (.int (f7n2_t5 p1 w_counts_a0 w_numbered_a0 LG LI LC L_a2))] [(.ref a2)])) (fun _ k => XS.aloadN X34.here hx rfl (hb hby d7_31) rfl rfl k) ?_
  refine go (B := T34.setTop (mkF m 34 #[.val (.ref a0), .val (.int p1), .val (.ref a2), .val (.ref a2), .val (.int (2 : Int32)), .val (.int (1 : Int32)), .val (.int (List.getD L_a2 0 0)), .val (.int ((f7n2_t0 p1 LG L_a2) + (1 : Int32))), .val (.int (f7n2_t5 p1 w_counts_a0 w_numbered_a0 LG LI LC L_a2))] [(.int (1 : Int32)), (.ref a2)])) (fun _ k => XS.iload X34.here hx rfl (hb hby d7_32) rfl k) ?_
  obtain ⟨cl38, Ar38, hin38, hat38, up38⟩ := Arl.in W_a2_34 (j := (1 : Int32)) (by decide) (own_lit (n := 2) (by decide) hl_L_a2)
  refine go (B := T34.setTop (mkF m 35 #[.val (.ref a0), .val (.int p1), .val (.ref a2), .val (.ref a2), .val (.int (2 : Int32)), .val (.int (1 : Int32)), .val (.int (List.getD L_a2 0 0)), .val (.int ((f7n2_t0 p1 LG L_a2) + (1 : Int32))), .val (.int (f7n2_t5 p1 w_counts_a0 w_numbered_a0 LG LI LC L_a2))] [(.int (List.getD L_a2 1 0))])) (fun _ k => X34.iaload hx (j := (1 : Int32)) (v := (.int (List.getD L_a2 1 0))) (by rw [e34]; exact Ar38.1) (State.isArrayOf_alike hZ.alike Ar38.2.1) Ar38.2.2 hin38 hat38 (g := (mkF m 34 #[.val (.ref a0), .val (.int p1), .val (.ref a2), .val (.ref a2), .val (.int (2 : Int32)), .val (.int (1 : Int32)), .val (.int (List.getD L_a2 0 0)), .val (.int ((f7n2_t0 p1 LG L_a2) + (1 : Int32))), .val (.int (f7n2_t5 p1 w_counts_a0 w_numbered_a0 LG LI LC L_a2))] [(.int (1 : Int32)), (.ref a2)])) rfl rfl (hb hby d7_34) _ k) ?_
  refine go (B := T34.setTop (mkF m 37 #[.val (.ref a0), .val (.int p1), .val (.ref a2), .val (.ref a2), .val (.int (2 : Int32)), .val (.int (1 : Int32)), .val (.int (List.getD L_a2 1 0)), .val (.int ((f7n2_t0 p1 LG L_a2) + (1 : Int32))), .val (.int (f7n2_t5 p1 w_counts_a0 w_numbered_a0 LG LI LC L_a2))] [])) (fun _ k => XS.istore X34.here hx rfl (hb hby d7_35) rfl (l' := #[.val (.ref a0), .val (.int p1), .val (.ref a2), .val (.ref a2), .val (.int (2 : Int32)), .val (.int (1 : Int32)), .val (.int (List.getD L_a2 1 0)), .val (.int ((f7n2_t0 p1 LG L_a2) + (1 : Int32))), .val (.int (f7n2_t5 p1 w_counts_a0 w_numbered_a0 LG LI LC L_a2))]) rfl k) ?_
  refine go (B := T34.setTop (mkF m 38 #[.val (.ref a0), .val (.int p1), .val (.ref a2), .val (.ref a2), .val (.int (2 : Int32)), .val (.int (1 : Int32)), .val (.int (List.getD L_a2 1 0)), .val (.int ((f7n2_t0 p1 LG L_a2) + (1 : Int32))), .val (.int (f7n2_t5 p1 w_counts_a0 w_numbered_a0 LG LI LC L_a2))] [(.ref a0)])) (fun _ k => XS.aloadN X34.here hx rfl (hb hby d7_37) rfl rfl k) ?_
  obtain ⟨T39, X39, e39, st39⟩ := getF X34 hx hZ hown (host := "") (Or.inl (hw _ (List.mem_of_getElem? (i := 28) rfl))) Via.refl e34 F_groupOf_a0_34 (g := (mkF m 38 #[.val (.ref a0), .val (.int p1), .val (.ref a2), .val (.ref a2), .val (.int (2 : Int32)), .val (.int (1 : Int32)), .val (.int (List.getD L_a2 1 0)), .val (.int ((f7n2_t0 p1 LG L_a2) + (1 : Int32))), .val (.int (f7n2_t5 p1 w_counts_a0 w_numbered_a0 LG LI LC L_a2))] [(.ref a0)])) rfl rfl (hb hby d7_38)
  refine go (B := T39.setTop (mkF m 41 #[.val (.ref a0), .val (.int p1), .val (.ref a2), .val (.ref a2), .val (.int (2 : Int32)), .val (.int (1 : Int32)), .val (.int (List.getD L_a2 1 0)), .val (.int ((f7n2_t0 p1 LG L_a2) + (1 : Int32))), .val (.int (f7n2_t5 p1 w_counts_a0 w_numbered_a0 LG LI LC L_a2))] [(.ref w_groupOf_a0)])) st39 ?_
  refine go (B := T39.setTop (mkF m 43 #[.val (.ref a0), .val (.int p1), .val (.ref a2), .val (.ref a2), .val (.int (2 : Int32)), .val (.int (1 : Int32)), .val (.int (List.getD L_a2 1 0)), .val (.int ((f7n2_t0 p1 LG L_a2) + (1 : Int32))), .val (.int (f7n2_t5 p1 w_counts_a0 w_numbered_a0 LG LI LC L_a2))] [(.int (List.getD L_a2 1 0)), (.ref w_groupOf_a0)])) (fun _ k => XS.iload X39.here hx rfl (hb hby d7_41) rfl k) ?_
  obtain ⟨cl40, Ar40, hin40, hat40, up40⟩ := Arl.in W_w_groupOf_a0_34 (j := (List.getD L_a2 1 0)) (own_mem hch hl_L_a2 1).1 (own_lit (own_mem hch hl_L_a2 1).2 ((List.length_set).trans o11_9))
  refine go (B := T39.setTop (mkF m 44 #[.val (.ref a0), .val (.int p1), .val (.ref a2), .val (.ref a2), .val (.int (2 : Int32)), .val (.int (1 : Int32)), .val (.int (List.getD L_a2 1 0)), .val (.int ((f7n2_t0 p1 LG L_a2) + (1 : Int32))), .val (.int (f7n2_t5 p1 w_counts_a0 w_numbered_a0 LG LI LC L_a2))] [(.int (f7n2_t10 p1 w_counts_a0 w_numbered_a0 LG LI LC L_a2))])) (fun _ k => X39.iaload hx (j := (List.getD L_a2 1 0)) (v := (.int (f7n2_t10 p1 w_counts_a0 w_numbered_a0 LG LI LC L_a2))) (by rw [e39]; exact Ar40.1) (State.isArrayOf_alike hZ.alike Ar40.2.1) Ar40.2.2 hin40 hat40 (g := (mkF m 43 #[.val (.ref a0), .val (.int p1), .val (.ref a2), .val (.ref a2), .val (.int (2 : Int32)), .val (.int (1 : Int32)), .val (.int (List.getD L_a2 1 0)), .val (.int ((f7n2_t0 p1 LG L_a2) + (1 : Int32))), .val (.int (f7n2_t5 p1 w_counts_a0 w_numbered_a0 LG LI LC L_a2))] [(.int (List.getD L_a2 1 0)), (.ref w_groupOf_a0)])) rfl rfl (hb hby d7_43) _ k) ?_
  refine go (B := T39.setTop (mkF m 45 #[.val (.ref a0), .val (.int p1), .val (.ref a2), .val (.ref a2), .val (.int (2 : Int32)), .val (.int (1 : Int32)), .val (.int (List.getD L_a2 1 0)), .val (.int ((f7n2_t0 p1 LG L_a2) + (1 : Int32))), .val (.int (f7n2_t5 p1 w_counts_a0 w_numbered_a0 LG LI LC L_a2))] [(.int (1 : Int32)), (.int (f7n2_t10 p1 w_counts_a0 w_numbered_a0 LG LI LC L_a2))])) (fun _ k => XS.iconst X39.here hx rfl (hb hby d7_44) k) ?_
  refine go (B := T39.setTop (mkF m 46 #[.val (.ref a0), .val (.int p1), .val (.ref a2), .val (.ref a2), .val (.int (2 : Int32)), .val (.int (1 : Int32)), .val (.int (List.getD L_a2 1 0)), .val (.int ((f7n2_t0 p1 LG L_a2) + (1 : Int32))), .val (.int (f7n2_t5 p1 w_counts_a0 w_numbered_a0 LG LI LC L_a2))] [(.int ((f7n2_t10 p1 w_counts_a0 w_numbered_a0 LG LI LC L_a2) + (1 : Int32)))])) (fun _ k => XS.iadd X39.here hx rfl (hb hby d7_45) rfl k) ?_
  refine go (B := T39.setTop (mkF m 48 #[.val (.ref a0), .val (.int p1), .val (.ref a2), .val (.ref a2), .val (.int (2 : Int32)), .val (.int (1 : Int32)), .val (.int (List.getD L_a2 1 0)), .val (.int ((f7n2_t10 p1 w_counts_a0 w_numbered_a0 LG LI LC L_a2) + (1 : Int32))), .val (.int (f7n2_t5 p1 w_counts_a0 w_numbered_a0 LG LI LC L_a2))] [])) (fun _ k => XS.istore X39.here hx rfl (hb hby d7_46) rfl (l' := #[.val (.ref a0), .val (.int p1), .val (.ref a2), .val (.ref a2), .val (.int (2 : Int32)), .val (.int (1 : Int32)), .val (.int (List.getD L_a2 1 0)), .val (.int ((f7n2_t10 p1 w_counts_a0 w_numbered_a0 LG LI LC L_a2) + (1 : Int32))), .val (.int (f7n2_t5 p1 w_counts_a0 w_numbered_a0 LG LI LC L_a2))]) rfl k) ?_
  have hf41 : ¬ (((f7n2_t10 p1 w_counts_a0 w_numbered_a0 LG LI LC L_a2) + (1 : Int32))) < 0 ∧ (((f7n2_t10 p1 w_counts_a0 w_numbered_a0 LG LI LC L_a2) + (1 : Int32))).toNatClampNeg < 17 := own_bf hG30 (own_mem hch hl_L_a2 1)
  refine go (B := T39.setTop (mkF m 49 #[.val (.ref a0), .val (.int p1), .val (.ref a2), .val (.ref a2), .val (.int (2 : Int32)), .val (.int (1 : Int32)), .val (.int (List.getD L_a2 1 0)), .val (.int ((f7n2_t10 p1 w_counts_a0 w_numbered_a0 LG LI LC L_a2) + (1 : Int32))), .val (.int (f7n2_t5 p1 w_counts_a0 w_numbered_a0 LG LI LC L_a2))] [(.ref a0)])) (fun _ k => XS.aloadN X39.here hx rfl (hb hby d7_48) rfl rfl k) ?_
  refine go (B := T39.setTop (mkF m 51 #[.val (.ref a0), .val (.int p1), .val (.ref a2), .val (.ref a2), .val (.int (2 : Int32)), .val (.int (1 : Int32)), .val (.int (List.getD L_a2 1 0)), .val (.int ((f7n2_t10 p1 w_counts_a0 w_numbered_a0 LG LI LC L_a2) + (1 : Int32))), .val (.int (f7n2_t5 p1 w_counts_a0 w_numbered_a0 LG LI LC L_a2))] [(.int (List.getD L_a2 1 0)), (.ref a0)])) (fun _ k => XS.iload X39.here hx rfl (hb hby d7_49) rfl k) ?_
  obtain ⟨cq42, q42, q42'⟩ := E_a0_34.cell
  obtain ⟨_, _, ⟨T42, L42, k42, n42⟩, -, X42, ⟨Lc42, hQ42, l42, y42, z42⟩, st42⟩ := X39.privateBack hx (y := (⟨"com/example/constrained_flow/constrainedflow/planner/search/Sweep$Groups", "leave", "(I)V"⟩ : MethodName)) hown (mvT hZ (hw _ (List.mem_of_getElem? (i := 39) rfl))) (mvT hZ (hw _ (List.mem_of_getElem? (i := 40) rfl))) (own_selp hZ (hw _ (List.mem_of_getElem? (i := 14) rfl)) (hw _ (List.mem_of_getElem? (i := 41) rfl)) (hw _ (List.mem_of_getElem? (i := 40) rfl)) (by decide)) (Cond.privateMethod_at (mvP hZ (hw _ (List.mem_of_getElem? (i := 41) rfl)) (args := #[]))) (mvT hZ (hw _ (List.mem_of_getElem? (i := 42) rfl))) (by decide) (backOf (W := 0) (rm8 l Z aw hw [] a0 (List.getD L_a2 1 0) w_sizes_a0 w_seenIn_a0 w_counted_a0 w_groupOf_a0 (w_counts_a0 + (1 : Int32)) (f7n2_z4 p1 w_counts_a0 w_numbered_a0 LG LI L_a2) (f7n2_z9 p1 w_counts_a0 w_numbered_a0 LG LI LC L_a2 S'_11 V'_11) (f7n2_l6 p1 w_counts_a0 w_numbered_a0 LG LI LC L_a2) (f7n2_l8 p1 w_counts_a0 w_numbered_a0 LG LI LC L_a2 S'_11) h34 n0 Z34 F_sizes_a0_34 F_seenIn_a0_34 F_counted_a0_34 F_groupOf_a0_34 F_counts_a0_34 F_numbered_a0_34 F_live_a0_34 E_a0_34 W_w_groupOf_a0_34 ((List.length_set).trans o11_9) W_w_sizes_a0_34 ((List.length_set).trans o11_11) ne_a0_w_groupOf_a0 ne_a0_w_sizes_a0 ne_w_groupOf_a0_w_sizes_a0 hG30 (own_mem hch hl_L_a2 1) g_w_groupOf_a0 g_w_sizes_a0 g_a0) hZ (hw _ (List.mem_of_getElem? (i := 42) rfl)) (hw _ (List.mem_of_getElem? (i := 15) rfl)) (by decide) (by decide)) (g := (mkF m 51 #[.val (.ref a0), .val (.int p1), .val (.ref a2), .val (.ref a2), .val (.int (2 : Int32)), .val (.int (1 : Int32)), .val (.int (List.getD L_a2 1 0)), .val (.int ((f7n2_t10 p1 w_counts_a0 w_numbered_a0 LG LI LC L_a2) + (1 : Int32))), .val (.int (f7n2_t5 p1 w_counts_a0 w_numbered_a0 LG LI LC L_a2))] [(.int (List.getD L_a2 1 0)), (.ref a0)])) rfl (by rw [hml]; rfl) (Steps.refl _) (a := a0) (by rw [e39]; exact q42) q42' (argsL := [(.int (List.getD L_a2 1 0))]) (rest := []) (lenOf pd_3 rfl) rfl (by show 2 * 0 + _ ≤ _; exact Nat.le_of_eq rfl) (hb hby d7_51) (fun _ _ => ⟨rfl, e39, (by decide : 0 + 0 ≤ _), (by decide : 0 + 0 ≤ _)⟩)
  dsimp only [Pt.U, Pt.locs, Pt.cells, Pt.slots] at X42 l42 y42 z42 st42 hQ42
  subst l42 y42 z42
  obtain ⟨S'_42, V'_42, rfl, N42q, Kc42, o42_0, o42_1, o42_2, o42_3, o42_4, o42_5, o42_6, o42_7, o42_8, o42_9, o42_10, o42_11⟩ := hQ42
  have E_a0_42 := E_a0_34.keep Kc42
  have W_w_seenIn_a0_42 := W_w_seenIn_a0_34.keep Kc42 (ninS (Ne.symm ne_a0_w_seenIn_a0) (ninS (Ne.symm ne_w_groupOf_a0_w_seenIn_a0) (ninS (Ne.symm ne_w_sizes_a0_w_seenIn_a0) nin0)))
  have W_w_counted_a0_42 := W_w_counted_a0_34.keep Kc42 (ninS (Ne.symm ne_a0_w_counted_a0) (ninS (Ne.symm ne_w_groupOf_a0_w_counted_a0) (ninS (Ne.symm ne_w_sizes_a0_w_counted_a0) nin0)))
  have W_a2_42 := W_a2_34.keep Kc42 (ninS (Ne.symm ne_a0_a2) (ninS (Ne.symm ne_w_groupOf_a0_a2) (ninS (Ne.symm ne_w_sizes_a0_a2) nin0)))
  have N42 := Fr.app N34 N42q
  have Z42 := Nat.le_trans Z34 Kc42.1
  have K42 := K34.trans Kc42 (allS (Or.inl (List.mem_of_getElem? (i := 0) rfl)) (allS (Or.inl (List.mem_of_getElem? (i := 1) rfl)) (allS (Or.inl (List.mem_of_getElem? (i := 2) rfl)) all0)))
  refine go (B := T42.setTop (mkF m 54 #[.val (.ref a0), .val (.int p1), .val (.ref a2), .val (.ref a2), .val (.int (2 : Int32)), .val (.int (1 : Int32)), .val (.int (List.getD L_a2 1 0)), .val (.int ((f7n2_t10 p1 w_counts_a0 w_numbered_a0 LG LI LC L_a2) + (1 : Int32))), .val (.int (f7n2_t5 p1 w_counts_a0 w_numbered_a0 LG LI LC L_a2))] [])) (fun _ k => st42.trans k) ?_
  have hG43 : own_G (List.set (f7n2_l6 p1 w_counts_a0 w_numbered_a0 LG LI LC L_a2) ((List.getD L_a2 1 0)).toNatClampNeg (-1 : Int32)) (f7n2_z4 p1 w_counts_a0 w_numbered_a0 LG LI L_a2) := own_Gneg hG30
  refine go (B := T42.setTop (mkF m 55 #[.val (.ref a0), .val (.int p1), .val (.ref a2), .val (.ref a2), .val (.int (2 : Int32)), .val (.int (1 : Int32)), .val (.int (List.getD L_a2 1 0)), .val (.int ((f7n2_t10 p1 w_counts_a0 w_numbered_a0 LG LI LC L_a2) + (1 : Int32))), .val (.int (f7n2_t5 p1 w_counts_a0 w_numbered_a0 LG LI LC L_a2))] [(.ref a0)])) (fun _ k => XS.aloadN X42.here hx rfl (hb hby d7_54) rfl rfl k) ?_
  obtain ⟨T44, X44, e44, st44⟩ := getF X42 hx hZ hown (host := "") (Or.inl (hw _ (List.mem_of_getElem? (i := 24) rfl))) Via.refl rfl o42_2 (g := (mkF m 55 #[.val (.ref a0), .val (.int p1), .val (.ref a2), .val (.ref a2), .val (.int (2 : Int32)), .val (.int (1 : Int32)), .val (.int (List.getD L_a2 1 0)), .val (.int ((f7n2_t10 p1 w_counts_a0 w_numbered_a0 LG LI LC L_a2) + (1 : Int32))), .val (.int (f7n2_t5 p1 w_counts_a0 w_numbered_a0 LG LI LC L_a2))] [(.ref a0)])) rfl rfl (hb hby d7_55)
  refine go (B := T44.setTop (mkF m 58 #[.val (.ref a0), .val (.int p1), .val (.ref a2), .val (.ref a2), .val (.int (2 : Int32)), .val (.int (1 : Int32)), .val (.int (List.getD L_a2 1 0)), .val (.int ((f7n2_t10 p1 w_counts_a0 w_numbered_a0 LG LI LC L_a2) + (1 : Int32))), .val (.int (f7n2_t5 p1 w_counts_a0 w_numbered_a0 LG LI LC L_a2))] [(.ref w_seenIn_a0)])) st44 ?_
  refine go (B := T44.setTop (mkF m 60 #[.val (.ref a0), .val (.int p1), .val (.ref a2), .val (.ref a2), .val (.int (2 : Int32)), .val (.int (1 : Int32)), .val (.int (List.getD L_a2 1 0)), .val (.int ((f7n2_t10 p1 w_counts_a0 w_numbered_a0 LG LI LC L_a2) + (1 : Int32))), .val (.int (f7n2_t5 p1 w_counts_a0 w_numbered_a0 LG LI LC L_a2))] [(.int ((f7n2_t10 p1 w_counts_a0 w_numbered_a0 LG LI LC L_a2) + (1 : Int32))), (.ref w_seenIn_a0)])) (fun _ k => XS.iload X44.here hx rfl (hb hby d7_58) rfl k) ?_
  obtain ⟨cl45, Ar45, hin45, hat45, up45⟩ := Arl.in W_w_seenIn_a0_42 (j := ((f7n2_t10 p1 w_counts_a0 w_numbered_a0 LG LI LC L_a2) + (1 : Int32))) hf41.1 (own_lit hf41.2 hl_w_seenIn_a0_16)
  refine go (B := T44.setTop (mkF m 61 #[.val (.ref a0), .val (.int p1), .val (.ref a2), .val (.ref a2), .val (.int (2 : Int32)), .val (.int (1 : Int32)), .val (.int (List.getD L_a2 1 0)), .val (.int ((f7n2_t10 p1 w_counts_a0 w_numbered_a0 LG LI LC L_a2) + (1 : Int32))), .val (.int (f7n2_t5 p1 w_counts_a0 w_numbered_a0 LG LI LC L_a2))] [(.int (f7n2_t11 p1 w_counts_a0 w_numbered_a0 LG LI LC L_a2))])) (fun _ k => X44.iaload hx (j := ((f7n2_t10 p1 w_counts_a0 w_numbered_a0 LG LI LC L_a2) + (1 : Int32))) (v := (.int (f7n2_t11 p1 w_counts_a0 w_numbered_a0 LG LI LC L_a2))) (by rw [e44]; exact Ar45.1) (State.isArrayOf_alike hZ.alike Ar45.2.1) Ar45.2.2 hin45 hat45 (g := (mkF m 60 #[.val (.ref a0), .val (.int p1), .val (.ref a2), .val (.ref a2), .val (.int (2 : Int32)), .val (.int (1 : Int32)), .val (.int (List.getD L_a2 1 0)), .val (.int ((f7n2_t10 p1 w_counts_a0 w_numbered_a0 LG LI LC L_a2) + (1 : Int32))), .val (.int (f7n2_t5 p1 w_counts_a0 w_numbered_a0 LG LI LC L_a2))] [(.int ((f7n2_t10 p1 w_counts_a0 w_numbered_a0 LG LI LC L_a2) + (1 : Int32))), (.ref w_seenIn_a0)])) rfl rfl (hb hby d7_60) _ k) ?_
  refine go (B := T44.setTop (mkF m 62 #[.val (.ref a0), .val (.int p1), .val (.ref a2), .val (.ref a2), .val (.int (2 : Int32)), .val (.int (1 : Int32)), .val (.int (List.getD L_a2 1 0)), .val (.int ((f7n2_t10 p1 w_counts_a0 w_numbered_a0 LG LI LC L_a2) + (1 : Int32))), .val (.int (f7n2_t5 p1 w_counts_a0 w_numbered_a0 LG LI LC L_a2))] [(.ref a0), (.int (f7n2_t11 p1 w_counts_a0 w_numbered_a0 LG LI LC L_a2))])) (fun _ k => XS.aloadN X44.here hx rfl (hb hby d7_61) rfl rfl k) ?_
  obtain ⟨T46, X46, e46, st46⟩ := getF X44 hx hZ hown (host := "") (Or.inl (hw _ (List.mem_of_getElem? (i := 43) rfl))) Via.refl e44 o42_5 (g := (mkF m 62 #[.val (.ref a0), .val (.int p1), .val (.ref a2), .val (.ref a2), .val (.int (2 : Int32)), .val (.int (1 : Int32)), .val (.int (List.getD L_a2 1 0)), .val (.int ((f7n2_t10 p1 w_counts_a0 w_numbered_a0 LG LI LC L_a2) + (1 : Int32))), .val (.int (f7n2_t5 p1 w_counts_a0 w_numbered_a0 LG LI LC L_a2))] [(.ref a0), (.int (f7n2_t11 p1 w_counts_a0 w_numbered_a0 LG LI LC L_a2))])) rfl rfl (hb hby d7_62)
  refine go (B := T46.setTop (mkF m 65 #[.val (.ref a0), .val (.int p1), .val (.ref a2), .val (.ref a2), .val (.int (2 : Int32)), .val (.int (1 : Int32)), .val (.int (List.getD L_a2 1 0)), .val (.int ((f7n2_t10 p1 w_counts_a0 w_numbered_a0 LG LI LC L_a2) + (1 : Int32))), .val (.int (f7n2_t5 p1 w_counts_a0 w_numbered_a0 LG LI LC L_a2))] [(.int (w_counts_a0 + (1 : Int32))), (.int (f7n2_t11 p1 w_counts_a0 w_numbered_a0 LG LI LC L_a2))])) st46 ?_
  suffices Kj47 : ∀ (T47 : State) (h47 : Heap) (L47 : List Loc), Stand p l e room7n2 s m #[(.ref a0), (.int p1), (.ref a2)] below meth c T47 L47 0 0 → Fr n0 L47 → T47.heap = h47 → n0 ≤ h47.size → Keep h0 h47 [a0, w_groupOf_a0, w_sizes_a0, w_seenIn_a0, w_counted_a0] → Exa Z h47 a0 "com/example/constrained_flow/constrainedflow/planner/search/Sweep$Groups" → Arl Z h47 w_seenIn_a0 .int (f7n2_l15 p1 w_counts_a0 w_numbered_a0 LG LI LC L_a2) → Arl Z h47 w_counted_a0 .int (f7n2_l16 p1 w_counts_a0 w_numbered_a0 LG LI LC L_a2) → Arl Z h47 a2 .int L_a2 → Fld Z h47 a0 "com/example/constrained_flow/constrainedflow/planner/search/Sweep$Groups" "sizes" "[I" (.ref w_sizes_a0) → Fld Z h47 a0 "com/example/constrained_flow/constrainedflow/planner/search/Sweep$Groups" "seenIn" "[I" (.ref w_seenIn_a0) → Fld Z h47 a0 "com/example/constrained_flow/constrainedflow/planner/search/Sweep$Groups" "counted" "[I" (.ref w_counted_a0) → Fld Z h47 a0 "com/example/constrained_flow/constrainedflow/planner/search/Sweep$Groups" "groupOf" "[I" (.ref w_groupOf_a0) → Fld Z h47 a0 "com/example/constrained_flow/constrainedflow/planner/search/Sweep$Groups" "counts" "I" (.int (w_counts_a0 + (1 : Int32))) → Fld Z h47 a0 "com/example/constrained_flow/constrainedflow/planner/search/Sweep$Groups" "numbered" "I" (.int (f7n2_z17 p1 w_counts_a0 w_numbered_a0 LG LI LC L_a2)) → Fld Z h47 a0 "com/example/constrained_flow/constrainedflow/planner/search/Sweep$Groups" "live" "I" (.int V'_42) → Arl Z h47 w_groupOf_a0 .int (List.set (f7n2_l6 p1 w_counts_a0 w_numbered_a0 LG LI LC L_a2) ((List.getD L_a2 1 0)).toNatClampNeg (-1 : Int32)) → Arl Z h47 w_sizes_a0 .int S'_42 → (f7n2_l15 p1 w_counts_a0 w_numbered_a0 LG LI LC L_a2).length = 17 → (f7n2_l16 p1 w_counts_a0 w_numbered_a0 LG LI LC L_a2).length = 17 → Go p.tables e below F (T47.setTop (mkF m 94 #[.val (.ref a0), .val (.int p1), .val (.ref a2), .val (.ref a2), .val (.int (2 : Int32)), .val (.int (1 : Int32)), .val (.int (List.getD L_a2 1 0)), .val (.int ((f7n2_t10 p1 w_counts_a0 w_numbered_a0 LG LI LC L_a2) + (1 : Int32))), .val (.int (f7n2_z14 p1 w_counts_a0 w_numbered_a0 LG LI LC L_a2))] [])) by
    by_cases hc48 : (f7n2_t11 p1 w_counts_a0 w_numbered_a0 LG LI LC L_a2) = (w_counts_a0 + (1 : Int32))
    · refine go (B := T46.setTop (mkF m 94 #[.val (.ref a0), .val (.int p1), .val (.ref a2), .val (.ref a2), .val (.int (2 : Int32)), .val (.int (1 : Int32)), .val (.int (List.getD L_a2 1 0)), .val (.int ((f7n2_t10 p1 w_counts_a0 w_numbered_a0 LG LI LC L_a2) + (1 : Int32))), .val (.int (f7n2_t5 p1 w_counts_a0 w_numbered_a0 LG LI LC L_a2))] [])) (fun _ k => XS.icmpYes X46.here hx rfl (pc0 := 65) (pc' := 94) rfl (hb hby d7_65) rfl (teq hc48).1 (by decide) (by decide) k) ?_
      rw [show (f7n2_z14 p1 w_counts_a0 w_numbered_a0 LG LI LC L_a2) = (f7n2_t5 p1 w_counts_a0 w_numbered_a0 LG LI LC L_a2) from by unfold f7n2_z14; rw [if_pos hc48]] at Kj47
      rw [show (f7n2_l15 p1 w_counts_a0 w_numbered_a0 LG LI LC L_a2) = (f7n2_l2 p1 w_counts_a0 LG LI L_a2) from by unfold f7n2_l15; rw [if_pos hc48]] at Kj47
      rw [show (f7n2_l16 p1 w_counts_a0 w_numbered_a0 LG LI LC L_a2) = (f7n2_l3 p1 w_counts_a0 w_numbered_a0 LG LI LC L_a2) from by unfold f7n2_l16; rw [if_pos hc48]] at Kj47
      rw [show (f7n2_z17 p1 w_counts_a0 w_numbered_a0 LG LI LC L_a2) = (f7n2_z4 p1 w_counts_a0 w_numbered_a0 LG LI L_a2) from by unfold f7n2_z17; rw [if_pos hc48]] at Kj47
      exact Kj47 _ _ _ X46 N42 e46 Z42 K42 o42_0 W_w_seenIn_a0_42 W_w_counted_a0_42 W_a2_42 o42_1 o42_2 o42_3 o42_4 o42_5 o42_6 o42_7 o42_8 o42_10 hl_w_seenIn_a0_16 hl_w_counted_a0_16
    · refine go (B := T46.setTop (mkF m 68 #[.val (.ref a0), .val (.int p1), .val (.ref a2), .val (.ref a2), .val (.int (2 : Int32)), .val (.int (1 : Int32)), .val (.int (List.getD L_a2 1 0)), .val (.int ((f7n2_t10 p1 w_counts_a0 w_numbered_a0 LG LI LC L_a2) + (1 : Int32))), .val (.int (f7n2_t5 p1 w_counts_a0 w_numbered_a0 LG LI LC L_a2))] [])) (fun _ k => XS.icmpNo X46.here hx rfl (hb hby d7_65) rfl (feq hc48).1 k) ?_
      refine go (B := T46.setTop (mkF m 69 #[.val (.ref a0), .val (.int p1), .val (.ref a2), .val (.ref a2), .val (.int (2 : Int32)), .val (.int (1 : Int32)), .val (.int (List.getD L_a2 1 0)), .val (.int ((f7n2_t10 p1 w_counts_a0 w_numbered_a0 LG LI LC L_a2) + (1 : Int32))), .val (.int (f7n2_t5 p1 w_counts_a0 w_numbered_a0 LG LI LC L_a2))] [(.ref a0)])) (fun _ k => XS.aloadN X46.here hx rfl (hb hby d7_68) rfl rfl k) ?_
      obtain ⟨cq49, q49, q49'⟩ := o42_0.cell
      obtain ⟨_, _, ⟨T49, L49, k49, n49⟩, -, X49, ⟨Lc49, hQ49, l49, y49, z49⟩, st49⟩ := X46.privateBack hx (y := (⟨"com/example/constrained_flow/constrainedflow/planner/search/Sweep$Groups", "number", "()I"⟩ : MethodName)) hown (mvT hZ (hw _ (List.mem_of_getElem? (i := 53) rfl))) (mvT hZ (hw _ (List.mem_of_getElem? (i := 54) rfl))) (own_selp hZ (hw _ (List.mem_of_getElem? (i := 14) rfl)) (hw _ (List.mem_of_getElem? (i := 55) rfl)) (hw _ (List.mem_of_getElem? (i := 54) rfl)) (by decide)) (Cond.privateMethod_at (mvP hZ (hw _ (List.mem_of_getElem? (i := 55) rfl)) (args := #[]))) (mvT hZ (hw _ (List.mem_of_getElem? (i := 56) rfl))) (by decide) (backOf (W := 0) (rm11 l Z aw hw [] a0 w_sizes_a0 w_seenIn_a0 w_counted_a0 w_groupOf_a0 (w_counts_a0 + (1 : Int32)) (f7n2_z4 p1 w_counts_a0 w_numbered_a0 LG LI L_a2) V'_42 S'_42 T42.heap n0 Z42 o42_1 o42_2 o42_3 o42_4 o42_5 o42_6 o42_7 o42_0 o42_10 o42_11 ne_a0_w_sizes_a0 (show ¬ ((f7n2_z4 p1 w_counts_a0 w_numbered_a0 LG LI L_a2) = (16 : Int32)) from own_n16 hG43) g_a0) hZ (hw _ (List.mem_of_getElem? (i := 56) rfl)) (hw _ (List.mem_of_getElem? (i := 15) rfl)) (by decide) (by decide)) (g := (mkF m 69 #[.val (.ref a0), .val (.int p1), .val (.ref a2), .val (.ref a2), .val (.int (2 : Int32)), .val (.int (1 : Int32)), .val (.int (List.getD L_a2 1 0)), .val (.int ((f7n2_t10 p1 w_counts_a0 w_numbered_a0 LG LI LC L_a2) + (1 : Int32))), .val (.int (f7n2_t5 p1 w_counts_a0 w_numbered_a0 LG LI LC L_a2))] [(.ref a0)])) rfl (by rw [hml]; rfl) (Steps.refl _) (a := a0) (by rw [e46]; exact q49) q49' (argsL := []) (rest := []) (lenOf pd_4 rfl) rfl (by show 2 * 0 + _ ≤ _; exact Nat.le_of_eq rfl) (hb hby d7_69) (fun _ _ => ⟨rfl, e46, (by decide : 0 + 0 ≤ _), (by decide : 0 + 0 ≤ _)⟩)
      dsimp only [Pt.U, Pt.locs, Pt.cells, Pt.slots] at X49 l49 y49 z49 st49 hQ49
      subst l49 y49 z49
      obtain ⟨rfl, N49q, Kc49, o49_0, o49_1, o49_2, o49_3, o49_4, o49_5, o49_6, o49_7⟩ := hQ49
      have E_a0_49 := o42_0.keep Kc49
      have W_w_seenIn_a0_49 := W_w_seenIn_a0_42.keep Kc49 (ninS (Ne.symm ne_a0_w_seenIn_a0) nin0)
      have W_w_counted_a0_49 := W_w_counted_a0_42.keep Kc49 (ninS (Ne.symm ne_a0_w_counted_a0) nin0)
      have W_a2_49 := W_a2_42.keep Kc49 (ninS (Ne.symm ne_a0_a2) nin0)
      have W_w_groupOf_a0_49 := o42_8.keep Kc49 (ninS (Ne.symm ne_a0_w_groupOf_a0) nin0)
      have W_w_sizes_a0_49 := o42_10.keep Kc49 (ninS (Ne.symm ne_a0_w_sizes_a0) nin0)
      have N49 := Fr.app N42 N49q
      have Z49 := Nat.le_trans Z42 Kc49.1
      have K49 := K42.trans Kc49 (allS (Or.inl (List.mem_of_getElem? (i := 0) rfl)) all0)
      refine go (B := T49.setTop (mkF m 72 #[.val (.ref a0), .val (.int p1), .val (.ref a2), .val (.ref a2), .val (.int (2 : Int32)), .val (.int (1 : Int32)), .val (.int (List.getD L_a2 1 0)), .val (.int ((f7n2_t10 p1 w_counts_a0 w_numbered_a0 LG LI LC L_a2) + (1 : Int32))), .val (.int (f7n2_t5 p1 w_counts_a0 w_numbered_a0 LG LI LC L_a2))] [(.int (f11 (f7n2_z4 p1 w_counts_a0 w_numbered_a0 LG LI L_a2)))])) (fun _ k => st49.trans k) ?_
      refine go (B := T49.setTop (mkF m 74 #[.val (.ref a0), .val (.int p1), .val (.ref a2), .val (.ref a2), .val (.int (2 : Int32)), .val (.int (1 : Int32)), .val (.int (List.getD L_a2 1 0)), .val (.int ((f7n2_t10 p1 w_counts_a0 w_numbered_a0 LG LI LC L_a2) + (1 : Int32))), .val (.int (f11 (f7n2_z4 p1 w_counts_a0 w_numbered_a0 LG LI L_a2)))] [])) (fun _ k => XS.istore X49.here hx rfl (hb hby d7_72) rfl (l' := #[.val (.ref a0), .val (.int p1), .val (.ref a2), .val (.ref a2), .val (.int (2 : Int32)), .val (.int (1 : Int32)), .val (.int (List.getD L_a2 1 0)), .val (.int ((f7n2_t10 p1 w_counts_a0 w_numbered_a0 LG LI LC L_a2) + (1 : Int32))), .val (.int (f11 (f7n2_z4 p1 w_counts_a0 w_numbered_a0 LG LI L_a2)))]) rfl k) ?_
      refine go (B := T49.setTop (mkF m 75 #[.val (.ref a0), .val (.int p1), .val (.ref a2), .val (.ref a2), .val (.int (2 : Int32)), .val (.int (1 : Int32)), .val (.int (List.getD L_a2 1 0)), .val (.int ((f7n2_t10 p1 w_counts_a0 w_numbered_a0 LG LI LC L_a2) + (1 : Int32))), .val (.int (f11 (f7n2_z4 p1 w_counts_a0 w_numbered_a0 LG LI L_a2)))] [(.ref a0)])) (fun _ k => XS.aloadN X49.here hx rfl (hb hby d7_74) rfl rfl k) ?_
      obtain ⟨T50, X50, e50, st50⟩ := getF X49 hx hZ hown (host := "") (Or.inl (hw _ (List.mem_of_getElem? (i := 24) rfl))) Via.refl rfl o49_1 (g := (mkF m 75 #[.val (.ref a0), .val (.int p1), .val (.ref a2), .val (.ref a2), .val (.int (2 : Int32)), .val (.int (1 : Int32)), .val (.int (List.getD L_a2 1 0)), .val (.int ((f7n2_t10 p1 w_counts_a0 w_numbered_a0 LG LI LC L_a2) + (1 : Int32))), .val (.int (f11 (f7n2_z4 p1 w_counts_a0 w_numbered_a0 LG LI L_a2)))] [(.ref a0)])) rfl rfl (hb hby d7_75)
      refine go (B := T50.setTop (mkF m 78 #[.val (.ref a0), .val (.int p1), .val (.ref a2), .val (.ref a2), .val (.int (2 : Int32)), .val (.int (1 : Int32)), .val (.int (List.getD L_a2 1 0)), .val (.int ((f7n2_t10 p1 w_counts_a0 w_numbered_a0 LG LI LC L_a2) + (1 : Int32))), .val (.int (f11 (f7n2_z4 p1 w_counts_a0 w_numbered_a0 LG LI L_a2)))] [(.ref w_seenIn_a0)])) st50 ?_
      refine go (B := T50.setTop (mkF m 80 #[.val (.ref a0), .val (.int p1), .val (.ref a2), .val (.ref a2), .val (.int (2 : Int32)), .val (.int (1 : Int32)), .val (.int (List.getD L_a2 1 0)), .val (.int ((f7n2_t10 p1 w_counts_a0 w_numbered_a0 LG LI LC L_a2) + (1 : Int32))), .val (.int (f11 (f7n2_z4 p1 w_counts_a0 w_numbered_a0 LG LI L_a2)))] [(.int ((f7n2_t10 p1 w_counts_a0 w_numbered_a0 LG LI LC L_a2) + (1 : Int32))), (.ref w_seenIn_a0)])) (fun _ k => XS.iload X50.here hx rfl (hb hby d7_78) rfl k) ?_
      refine go (B := T50.setTop (mkF m 81 #[.val (.ref a0), .val (.int p1), .val (.ref a2), .val (.ref a2), .val (.int (2 : Int32)), .val (.int (1 : Int32)), .val (.int (List.getD L_a2 1 0)), .val (.int ((f7n2_t10 p1 w_counts_a0 w_numbered_a0 LG LI LC L_a2) + (1 : Int32))), .val (.int (f11 (f7n2_z4 p1 w_counts_a0 w_numbered_a0 LG LI L_a2)))] [(.ref a0), (.int ((f7n2_t10 p1 w_counts_a0 w_numbered_a0 LG LI LC L_a2) + (1 : Int32))), (.ref w_seenIn_a0)])) (fun _ k => XS.aloadN X50.here hx rfl (hb hby d7_80) rfl rfl k) ?_
      obtain ⟨T51, X51, e51, st51⟩ := getF X50 hx hZ hown (host := "") (Or.inl (hw _ (List.mem_of_getElem? (i := 43) rfl))) Via.refl e50 o49_4 (g := (mkF m 81 #[.val (.ref a0), .val (.int p1), .val (.ref a2), .val (.ref a2), .val (.int (2 : Int32)), .val (.int (1 : Int32)), .val (.int (List.getD L_a2 1 0)), .val (.int ((f7n2_t10 p1 w_counts_a0 w_numbered_a0 LG LI LC L_a2) + (1 : Int32))), .val (.int (f11 (f7n2_z4 p1 w_counts_a0 w_numbered_a0 LG LI L_a2)))] [(.ref a0), (.int ((f7n2_t10 p1 w_counts_a0 w_numbered_a0 LG LI LC L_a2) + (1 : Int32))), (.ref w_seenIn_a0)])) rfl rfl (hb hby d7_81)
      refine go (B := T51.setTop (mkF m 84 #[.val (.ref a0), .val (.int p1), .val (.ref a2), .val (.ref a2), .val (.int (2 : Int32)), .val (.int (1 : Int32)), .val (.int (List.getD L_a2 1 0)), .val (.int ((f7n2_t10 p1 w_counts_a0 w_numbered_a0 LG LI LC L_a2) + (1 : Int32))), .val (.int (f11 (f7n2_z4 p1 w_counts_a0 w_numbered_a0 LG LI L_a2)))] [(.int (w_counts_a0 + (1 : Int32))), (.int ((f7n2_t10 p1 w_counts_a0 w_numbered_a0 LG LI LC L_a2) + (1 : Int32))), (.ref w_seenIn_a0)])) st51 ?_
      obtain ⟨cl52, Ar52, hin52, hat52, up52⟩ := Arl.in W_w_seenIn_a0_49 (j := ((f7n2_t10 p1 w_counts_a0 w_numbered_a0 LG LI LC L_a2) + (1 : Int32))) hf41.1 (own_lit hf41.2 hl_w_seenIn_a0_16)
      obtain ⟨T52, h52, X52, e52, W52, st52⟩ := stI X51 hx hZ e51 Ar52 (j := ((f7n2_t10 p1 w_counts_a0 w_numbered_a0 LG LI LC L_a2) + (1 : Int32))) hin52 (g := (mkF m 84 #[.val (.ref a0), .val (.int p1), .val (.ref a2), .val (.ref a2), .val (.int (2 : Int32)), .val (.int (1 : Int32)), .val (.int (List.getD L_a2 1 0)), .val (.int ((f7n2_t10 p1 w_counts_a0 w_numbered_a0 LG LI LC L_a2) + (1 : Int32))), .val (.int (f11 (f7n2_z4 p1 w_counts_a0 w_numbered_a0 LG LI L_a2)))] [(.int (w_counts_a0 + (1 : Int32))), (.int ((f7n2_t10 p1 w_counts_a0 w_numbered_a0 LG LI LC L_a2) + (1 : Int32))), (.ref w_seenIn_a0)])) rfl rfl (hb hby d7_84)
      have E_a0_52 := o49_6.wr W52
      have W_w_counted_a0_52 := W_w_counted_a0_49.other W52 (Ne.symm ne_w_seenIn_a0_w_counted_a0)
      have W_a2_52 := W_a2_49.other W52 (Ne.symm ne_w_seenIn_a0_a2)
      have W_w_groupOf_a0_52 := W_w_groupOf_a0_49.other W52 ne_w_groupOf_a0_w_seenIn_a0
      have W_w_sizes_a0_52 := W_w_sizes_a0_49.other W52 ne_w_sizes_a0_w_seenIn_a0
      have F_sizes_a0_52 := Fld.other W52 o49_0 (Or.inl ne_a0_w_seenIn_a0)
      have F_seenIn_a0_52 := Fld.other W52 o49_1 (Or.inl ne_a0_w_seenIn_a0)
      have F_counted_a0_52 := Fld.other W52 o49_2 (Or.inl ne_a0_w_seenIn_a0)
      have F_groupOf_a0_52 := Fld.other W52 o49_3 (Or.inl ne_a0_w_seenIn_a0)
      have F_counts_a0_52 := Fld.other W52 o49_4 (Or.inl ne_a0_w_seenIn_a0)
      have F_live_a0_52 := Fld.other W52 o49_5 (Or.inl ne_a0_w_seenIn_a0)
      have F_numbered_a0_52 := Fld.other W52 o49_7 (Or.inl ne_a0_w_seenIn_a0)
      have Z52 := Nat.le_trans Z49 (Keep.of_wr W52).1
      have K52 := K49.wr W52 (Or.inl (List.mem_of_getElem? (i := 3) rfl))
      have N52 := Fr.snoc X52 N49 g_w_seenIn_a0
      have W_w_seenIn_a0_52 : Arl Z h52 w_seenIn_a0 .int (f7n2_l12 p1 w_counts_a0 w_numbered_a0 LG LI LC L_a2) := up52 W52
      refine go (B := T52.setTop (mkF m 85 #[.val (.ref a0), .val (.int p1), .val (.ref a2), .val (.ref a2), .val (.int (2 : Int32)), .val (.int (1 : Int32)), .val (.int (List.getD L_a2 1 0)), .val (.int ((f7n2_t10 p1 w_counts_a0 w_numbered_a0 LG LI LC L_a2) + (1 : Int32))), .val (.int (f11 (f7n2_z4 p1 w_counts_a0 w_numbered_a0 LG LI L_a2)))] [])) st52 ?_
      refine go (B := T52.setTop (mkF m 86 #[.val (.ref a0), .val (.int p1), .val (.ref a2), .val (.ref a2), .val (.int (2 : Int32)), .val (.int (1 : Int32)), .val (.int (List.getD L_a2 1 0)), .val (.int ((f7n2_t10 p1 w_counts_a0 w_numbered_a0 LG LI LC L_a2) + (1 : Int32))), .val (.int (f11 (f7n2_z4 p1 w_counts_a0 w_numbered_a0 LG LI L_a2)))] [(.ref a0)])) (fun _ k => XS.aloadN X52.here hx rfl (hb hby d7_85) rfl rfl k) ?_
      obtain ⟨T53, X53, e53, st53⟩ := getF X52 hx hZ hown (host := "") (Or.inl (hw _ (List.mem_of_getElem? (i := 26) rfl))) Via.refl e52 F_counted_a0_52 (g := (mkF m 86 #[.val (.ref a0), .val (.int p1), .val (.ref a2), .val (.ref a2), .val (.int (2 : Int32)), .val (.int (1 : Int32)), .val (.int (List.getD L_a2 1 0)), .val (.int ((f7n2_t10 p1 w_counts_a0 w_numbered_a0 LG LI LC L_a2) + (1 : Int32))), .val (.int (f11 (f7n2_z4 p1 w_counts_a0 w_numbered_a0 LG LI L_a2)))] [(.ref a0)])) rfl rfl (hb hby d7_86)
      refine go (B := T53.setTop (mkF m 89 #[.val (.ref a0), .val (.int p1), .val (.ref a2), .val (.ref a2), .val (.int (2 : Int32)), .val (.int (1 : Int32)), .val (.int (List.getD L_a2 1 0)), .val (.int ((f7n2_t10 p1 w_counts_a0 w_numbered_a0 LG LI LC L_a2) + (1 : Int32))), .val (.int (f11 (f7n2_z4 p1 w_counts_a0 w_numbered_a0 LG LI L_a2)))] [(.ref w_counted_a0)])) st53 ?_
      refine go (B := T53.setTop (mkF m 91 #[.val (.ref a0), .val (.int p1), .val (.ref a2), .val (.ref a2), .val (.int (2 : Int32)), .val (.int (1 : Int32)), .val (.int (List.getD L_a2 1 0)), .val (.int ((f7n2_t10 p1 w_counts_a0 w_numbered_a0 LG LI LC L_a2) + (1 : Int32))), .val (.int (f11 (f7n2_z4 p1 w_counts_a0 w_numbered_a0 LG LI L_a2)))] [(.int ((f7n2_t10 p1 w_counts_a0 w_numbered_a0 LG LI LC L_a2) + (1 : Int32))), (.ref w_counted_a0)])) (fun _ k => XS.iload X53.here hx rfl (hb hby d7_89) rfl k) ?_
      refine go (B := T53.setTop (mkF m 93 #[.val (.ref a0), .val (.int p1), .val (.ref a2), .val (.ref a2), .val (.int (2 : Int32)), .val (.int (1 : Int32)), .val (.int (List.getD L_a2 1 0)), .val (.int ((f7n2_t10 p1 w_counts_a0 w_numbered_a0 LG LI LC L_a2) + (1 : Int32))), .val (.int (f11 (f7n2_z4 p1 w_counts_a0 w_numbered_a0 LG LI L_a2)))] [(.int (f11 (f7n2_z4 p1 w_counts_a0 w_numbered_a0 LG LI L_a2))), (.int ((f7n2_t10 p1 w_counts_a0 w_numbered_a0 LG LI LC L_a2) + (1 : Int32))), (.ref w_counted_a0)])) (fun _ k => XS.iload X53.here hx rfl (hb hby d7_91) rfl k) ?_
      obtain ⟨cl54, Ar54, hin54, hat54, up54⟩ := Arl.in W_w_counted_a0_52 (j := ((f7n2_t10 p1 w_counts_a0 w_numbered_a0 LG LI LC L_a2) + (1 : Int32))) hf41.1 (own_lit hf41.2 hl_w_counted_a0_16)
      obtain ⟨T54, h54, X54, e54, W54, st54⟩ := stI X53 hx hZ e53 Ar54 (j := ((f7n2_t10 p1 w_counts_a0 w_numbered_a0 LG LI LC L_a2) + (1 : Int32))) hin54 (g := (mkF m 93 #[.val (.ref a0), .val (.int p1), .val (.ref a2), .val (.ref a2), .val (.int (2 : Int32)), .val (.int (1 : Int32)), .val (.int (List.getD L_a2 1 0)), .val (.int ((f7n2_t10 p1 w_counts_a0 w_numbered_a0 LG LI LC L_a2) + (1 : Int32))), .val (.int (f11 (f7n2_z4 p1 w_counts_a0 w_numbered_a0 LG LI L_a2)))] [(.int (f11 (f7n2_z4 p1 w_counts_a0 w_numbered_a0 LG LI L_a2))), (.int ((f7n2_t10 p1 w_counts_a0 w_numbered_a0 LG LI LC L_a2) + (1 : Int32))), (.ref w_counted_a0)])) rfl rfl (hb hby d7_93)
      have E_a0_54 := E_a0_52.wr W54
      have W_a2_54 := W_a2_52.other W54 (Ne.symm ne_w_counted_a0_a2)
      have W_w_groupOf_a0_54 := W_w_groupOf_a0_52.other W54 ne_w_groupOf_a0_w_counted_a0
      have W_w_sizes_a0_54 := W_w_sizes_a0_52.other W54 ne_w_sizes_a0_w_counted_a0
      have F_sizes_a0_54 := Fld.other W54 F_sizes_a0_52 (Or.inl ne_a0_w_counted_a0)
      have F_seenIn_a0_54 := Fld.other W54 F_seenIn_a0_52 (Or.inl ne_a0_w_counted_a0)
      have F_counted_a0_54 := Fld.other W54 F_counted_a0_52 (Or.inl ne_a0_w_counted_a0)
      have F_groupOf_a0_54 := Fld.other W54 F_groupOf_a0_52 (Or.inl ne_a0_w_counted_a0)
      have F_counts_a0_54 := Fld.other W54 F_counts_a0_52 (Or.inl ne_a0_w_counted_a0)
      have F_live_a0_54 := Fld.other W54 F_live_a0_52 (Or.inl ne_a0_w_counted_a0)
      have F_numbered_a0_54 := Fld.other W54 F_numbered_a0_52 (Or.inl ne_a0_w_counted_a0)
      have W_w_seenIn_a0_54 := W_w_seenIn_a0_52.other W54 ne_w_seenIn_a0_w_counted_a0
      have Z54 := Nat.le_trans Z52 (Keep.of_wr W54).1
      have K54 := K52.wr W54 (Or.inl (List.mem_of_getElem? (i := 4) rfl))
      have N54 := Fr.snoc X54 N52 g_w_counted_a0
      have W_w_counted_a0_54 : Arl Z h54 w_counted_a0 .int (f7n2_l13 p1 w_counts_a0 w_numbered_a0 LG LI LC L_a2) := up54 W54
      refine go (B := T54.setTop (mkF m 94 #[.val (.ref a0), .val (.int p1), .val (.ref a2), .val (.ref a2), .val (.int (2 : Int32)), .val (.int (1 : Int32)), .val (.int (List.getD L_a2 1 0)), .val (.int ((f7n2_t10 p1 w_counts_a0 w_numbered_a0 LG LI LC L_a2) + (1 : Int32))), .val (.int (f11 (f7n2_z4 p1 w_counts_a0 w_numbered_a0 LG LI L_a2)))] [])) st54 ?_
      rw [show (f7n2_z14 p1 w_counts_a0 w_numbered_a0 LG LI LC L_a2) = (f11 (f7n2_z4 p1 w_counts_a0 w_numbered_a0 LG LI L_a2)) from by unfold f7n2_z14; rw [if_neg hc48]] at Kj47
      rw [show (f7n2_l15 p1 w_counts_a0 w_numbered_a0 LG LI LC L_a2) = (f7n2_l12 p1 w_counts_a0 w_numbered_a0 LG LI LC L_a2) from by unfold f7n2_l15; rw [if_neg hc48]] at Kj47
      rw [show (f7n2_l16 p1 w_counts_a0 w_numbered_a0 LG LI LC L_a2) = (f7n2_l13 p1 w_counts_a0 w_numbered_a0 LG LI LC L_a2) from by unfold f7n2_l16; rw [if_neg hc48]] at Kj47
      rw [show (f7n2_z17 p1 w_counts_a0 w_numbered_a0 LG LI LC L_a2) = ((f7n2_z4 p1 w_counts_a0 w_numbered_a0 LG LI L_a2) + (1 : Int32)) from by unfold f7n2_z17; rw [if_neg hc48]] at Kj47
      exact Kj47 _ _ _ X54 N54 e54 Z54 K54 E_a0_54 W_w_seenIn_a0_54 W_w_counted_a0_54 W_a2_54 F_sizes_a0_54 F_seenIn_a0_54 F_counted_a0_54 F_groupOf_a0_54 F_counts_a0_54 F_numbered_a0_54 F_live_a0_54 W_w_groupOf_a0_54 W_w_sizes_a0_54 ((List.length_set).trans hl_w_seenIn_a0_16) ((List.length_set).trans hl_w_counted_a0_16)
  intro T47 h47 L47 X47 N47 e47 Z47 K47 E_a0_47 W_w_seenIn_a0_47 W_w_counted_a0_47 W_a2_47 F_sizes_a0_47 F_seenIn_a0_47 F_counted_a0_47 F_groupOf_a0_47 F_counts_a0_47 F_numbered_a0_47 F_live_a0_47 W_w_groupOf_a0_47 W_w_sizes_a0_47 hl_w_seenIn_a0_47 hl_w_counted_a0_47
  have hq55 : own_J (f7n2_l15 p1 w_counts_a0 w_numbered_a0 LG LI LC L_a2) (f7n2_l16 p1 w_counts_a0 w_numbered_a0 LG LI LC L_a2) (w_counts_a0 + (1 : Int32)) (f7n2_z17 p1 w_counts_a0 w_numbered_a0 LG LI LC L_a2) ∧ List.getD (f7n2_l15 p1 w_counts_a0 w_numbered_a0 LG LI LC L_a2) (((f7n2_t10 p1 w_counts_a0 w_numbered_a0 LG LI LC L_a2) + (1 : Int32))).toNatClampNeg 0 = (w_counts_a0 + (1 : Int32)) ∧ ((f7n2_z4 p1 w_counts_a0 w_numbered_a0 LG LI L_a2)).toInt ≤ ((f7n2_z17 p1 w_counts_a0 w_numbered_a0 LG LI LC L_a2)).toInt ∧ ((f7n2_z17 p1 w_counts_a0 w_numbered_a0 LG LI LC L_a2)).toInt ≤ ((f7n2_z4 p1 w_counts_a0 w_numbered_a0 LG LI L_a2)).toInt + 1 := by
    unfold f7n2_l15 f7n2_l16 f7n2_z17
    by_cases hz : (f7n2_t11 p1 w_counts_a0 w_numbered_a0 LG LI LC L_a2) = (w_counts_a0 + (1 : Int32))
    · rw [if_pos hz, if_pos hz, if_pos hz]; exact ⟨hq24.1, hz, Int.le_refl _, by omega⟩
    · rw [if_neg hz, if_neg hz, if_neg hz]; exact own_fresh (nb := (f7n2_z4 p1 w_counts_a0 w_numbered_a0 LG LI L_a2)) hq24.1 hf41.2 hB30.1 (by have := hB30.2; omega)
  have hG55 := own_Gup (nb' := (f7n2_z17 p1 w_counts_a0 w_numbered_a0 LG LI LC L_a2)) hG43 hq55.2.2.1 (by have := hq55.2.2.2; have := hB30.2; omega)
  have hg55 : 0 ≤ ((f7n2_t18 p1 w_counts_a0 w_numbered_a0 LG LI LC L_a2)).toInt ∧ ((f7n2_t18 p1 w_counts_a0 w_numbered_a0 LG LI LC L_a2)).toInt < ((f7n2_z17 p1 w_counts_a0 w_numbered_a0 LG LI LC L_a2)).toInt := own_Jget hq55.1 hf41.2 hq55.2.1
  refine go (B := T47.setTop (mkF m 95 #[.val (.ref a0), .val (.int p1), .val (.ref a2), .val (.ref a2), .val (.int (2 : Int32)), .val (.int (1 : Int32)), .val (.int (List.getD L_a2 1 0)), .val (.int ((f7n2_t10 p1 w_counts_a0 w_numbered_a0 LG LI LC L_a2) + (1 : Int32))), .val (.int (f7n2_z14 p1 w_counts_a0 w_numbered_a0 LG LI LC L_a2))] [(.ref a0)])) (fun _ k => XS.aloadN X47.here hx rfl (hb hby d7_94) rfl rfl k) ?_
  obtain ⟨T56, X56, e56, st56⟩ := getF X47 hx hZ hown (host := "") (Or.inl (hw _ (List.mem_of_getElem? (i := 26) rfl))) Via.refl e47 F_counted_a0_47 (g := (mkF m 95 #[.val (.ref a0), .val (.int p1), .val (.ref a2), .val (.ref a2), .val (.int (2 : Int32)), .val (.int (1 : Int32)), .val (.int (List.getD L_a2 1 0)), .val (.int ((f7n2_t10 p1 w_counts_a0 w_numbered_a0 LG LI LC L_a2) + (1 : Int32))), .val (.int (f7n2_z14 p1 w_counts_a0 w_numbered_a0 LG LI LC L_a2))] [(.ref a0)])) rfl rfl (hb hby d7_95)
  refine go (B := T56.setTop (mkF m 98 #[.val (.ref a0), .val (.int p1), .val (.ref a2), .val (.ref a2), .val (.int (2 : Int32)), .val (.int (1 : Int32)), .val (.int (List.getD L_a2 1 0)), .val (.int ((f7n2_t10 p1 w_counts_a0 w_numbered_a0 LG LI LC L_a2) + (1 : Int32))), .val (.int (f7n2_z14 p1 w_counts_a0 w_numbered_a0 LG LI LC L_a2))] [(.ref w_counted_a0)])) st56 ?_
  refine go (B := T56.setTop (mkF m 100 #[.val (.ref a0), .val (.int p1), .val (.ref a2), .val (.ref a2), .val (.int (2 : Int32)), .val (.int (1 : Int32)), .val (.int (List.getD L_a2 1 0)), .val (.int ((f7n2_t10 p1 w_counts_a0 w_numbered_a0 LG LI LC L_a2) + (1 : Int32))), .val (.int (f7n2_z14 p1 w_counts_a0 w_numbered_a0 LG LI LC L_a2))] [(.int ((f7n2_t10 p1 w_counts_a0 w_numbered_a0 LG LI LC L_a2) + (1 : Int32))), (.ref w_counted_a0)])) (fun _ k => XS.iload X56.here hx rfl (hb hby d7_98) rfl k) ?_
  obtain ⟨cl57, Ar57, hin57, hat57, up57⟩ := Arl.in W_w_counted_a0_47 (j := ((f7n2_t10 p1 w_counts_a0 w_numbered_a0 LG LI LC L_a2) + (1 : Int32))) hf41.1 (own_lit hf41.2 hl_w_counted_a0_47)
  refine go (B := T56.setTop (mkF m 101 #[.val (.ref a0), .val (.int p1), .val (.ref a2), .val (.ref a2), .val (.int (2 : Int32)), .val (.int (1 : Int32)), .val (.int (List.getD L_a2 1 0)), .val (.int ((f7n2_t10 p1 w_counts_a0 w_numbered_a0 LG LI LC L_a2) + (1 : Int32))), .val (.int (f7n2_z14 p1 w_counts_a0 w_numbered_a0 LG LI LC L_a2))] [(.int (f7n2_t18 p1 w_counts_a0 w_numbered_a0 LG LI LC L_a2))])) (fun _ k => X56.iaload hx (j := ((f7n2_t10 p1 w_counts_a0 w_numbered_a0 LG LI LC L_a2) + (1 : Int32))) (v := (.int (f7n2_t18 p1 w_counts_a0 w_numbered_a0 LG LI LC L_a2))) (by rw [e56]; exact Ar57.1) (State.isArrayOf_alike hZ.alike Ar57.2.1) Ar57.2.2 hin57 hat57 (g := (mkF m 100 #[.val (.ref a0), .val (.int p1), .val (.ref a2), .val (.ref a2), .val (.int (2 : Int32)), .val (.int (1 : Int32)), .val (.int (List.getD L_a2 1 0)), .val (.int ((f7n2_t10 p1 w_counts_a0 w_numbered_a0 LG LI LC L_a2) + (1 : Int32))), .val (.int (f7n2_z14 p1 w_counts_a0 w_numbered_a0 LG LI LC L_a2))] [(.int ((f7n2_t10 p1 w_counts_a0 w_numbered_a0 LG LI LC L_a2) + (1 : Int32))), (.ref w_counted_a0)])) rfl rfl (hb hby d7_100) _ k) ?_
  refine go (B := T56.setTop (mkF m 103 #[.val (.ref a0), .val (.int p1), .val (.ref a2), .val (.ref a2), .val (.int (2 : Int32)), .val (.int (1 : Int32)), .val (.int (List.getD L_a2 1 0)), .val (.int ((f7n2_t10 p1 w_counts_a0 w_numbered_a0 LG LI LC L_a2) + (1 : Int32))), .val (.int (f7n2_t18 p1 w_counts_a0 w_numbered_a0 LG LI LC L_a2))] [])) (fun _ k => XS.istore X56.here hx rfl (hb hby d7_101) rfl (l' := #[.val (.ref a0), .val (.int p1), .val (.ref a2), .val (.ref a2), .val (.int (2 : Int32)), .val (.int (1 : Int32)), .val (.int (List.getD L_a2 1 0)), .val (.int ((f7n2_t10 p1 w_counts_a0 w_numbered_a0 LG LI LC L_a2) + (1 : Int32))), .val (.int (f7n2_t18 p1 w_counts_a0 w_numbered_a0 LG LI LC L_a2))]) rfl k) ?_
  refine go (B := T56.setTop (mkF m 104 #[.val (.ref a0), .val (.int p1), .val (.ref a2), .val (.ref a2), .val (.int (2 : Int32)), .val (.int (1 : Int32)), .val (.int (List.getD L_a2 1 0)), .val (.int ((f7n2_t10 p1 w_counts_a0 w_numbered_a0 LG LI LC L_a2) + (1 : Int32))), .val (.int (f7n2_t18 p1 w_counts_a0 w_numbered_a0 LG LI LC L_a2))] [(.ref a0)])) (fun _ k => XS.aloadN X56.here hx rfl (hb hby d7_103) rfl rfl k) ?_
  obtain ⟨T58, X58, e58, st58⟩ := getF X56 hx hZ hown (host := "") (Or.inl (hw _ (List.mem_of_getElem? (i := 28) rfl))) Via.refl e56 F_groupOf_a0_47 (g := (mkF m 104 #[.val (.ref a0), .val (.int p1), .val (.ref a2), .val (.ref a2), .val (.int (2 : Int32)), .val (.int (1 : Int32)), .val (.int (List.getD L_a2 1 0)), .val (.int ((f7n2_t10 p1 w_counts_a0 w_numbered_a0 LG LI LC L_a2) + (1 : Int32))), .val (.int (f7n2_t18 p1 w_counts_a0 w_numbered_a0 LG LI LC L_a2))] [(.ref a0)])) rfl rfl (hb hby d7_104)
  refine go (B := T58.setTop (mkF m 107 #[.val (.ref a0), .val (.int p1), .val (.ref a2), .val (.ref a2), .val (.int (2 : Int32)), .val (.int (1 : Int32)), .val (.int (List.getD L_a2 1 0)), .val (.int ((f7n2_t10 p1 w_counts_a0 w_numbered_a0 LG LI LC L_a2) + (1 : Int32))), .val (.int (f7n2_t18 p1 w_counts_a0 w_numbered_a0 LG LI LC L_a2))] [(.ref w_groupOf_a0)])) st58 ?_
  refine go (B := T58.setTop (mkF m 109 #[.val (.ref a0), .val (.int p1), .val (.ref a2), .val (.ref a2), .val (.int (2 : Int32)), .val (.int (1 : Int32)), .val (.int (List.getD L_a2 1 0)), .val (.int ((f7n2_t10 p1 w_counts_a0 w_numbered_a0 LG LI LC L_a2) + (1 : Int32))), .val (.int (f7n2_t18 p1 w_counts_a0 w_numbered_a0 LG LI LC L_a2))] [(.int (List.getD L_a2 1 0)), (.ref w_groupOf_a0)])) (fun _ k => XS.iload X58.here hx rfl (hb hby d7_107) rfl k) ?_
  refine go (B := T58.setTop (mkF m 111 #[.val (.ref a0), .val (.int p1), .val (.ref a2), .val (.ref a2), .val (.int (2 : Int32)), .val (.int (1 : Int32)), .val (.int (List.getD L_a2 1 0)), .val (.int ((f7n2_t10 p1 w_counts_a0 w_numbered_a0 LG LI LC L_a2) + (1 : Int32))), .val (.int (f7n2_t18 p1 w_counts_a0 w_numbered_a0 LG LI LC L_a2))] [(.int (f7n2_t18 p1 w_counts_a0 w_numbered_a0 LG LI LC L_a2)), (.int (List.getD L_a2 1 0)), (.ref w_groupOf_a0)])) (fun _ k => XS.iload X58.here hx rfl (hb hby d7_109) rfl k) ?_
  obtain ⟨cl59, Ar59, hin59, hat59, up59⟩ := Arl.in W_w_groupOf_a0_47 (j := (List.getD L_a2 1 0)) (own_mem hch hl_L_a2 1).1 (own_lit (own_mem hch hl_L_a2 1).2 o42_9)
  obtain ⟨T59, h59, X59, e59, W59, st59⟩ := stI X58 hx hZ e58 Ar59 (j := (List.getD L_a2 1 0)) hin59 (g := (mkF m 111 #[.val (.ref a0), .val (.int p1), .val (.ref a2), .val (.ref a2), .val (.int (2 : Int32)), .val (.int (1 : Int32)), .val (.int (List.getD L_a2 1 0)), .val (.int ((f7n2_t10 p1 w_counts_a0 w_numbered_a0 LG LI LC L_a2) + (1 : Int32))), .val (.int (f7n2_t18 p1 w_counts_a0 w_numbered_a0 LG LI LC L_a2))] [(.int (f7n2_t18 p1 w_counts_a0 w_numbered_a0 LG LI LC L_a2)), (.int (List.getD L_a2 1 0)), (.ref w_groupOf_a0)])) rfl rfl (hb hby d7_111)
  have E_a0_59 := E_a0_47.wr W59
  have W_w_seenIn_a0_59 := W_w_seenIn_a0_47.other W59 (Ne.symm ne_w_groupOf_a0_w_seenIn_a0)
  have W_w_counted_a0_59 := W_w_counted_a0_47.other W59 (Ne.symm ne_w_groupOf_a0_w_counted_a0)
  have W_a2_59 := W_a2_47.other W59 (Ne.symm ne_w_groupOf_a0_a2)
  have F_sizes_a0_59 := Fld.other W59 F_sizes_a0_47 (Or.inl ne_a0_w_groupOf_a0)
  have F_seenIn_a0_59 := Fld.other W59 F_seenIn_a0_47 (Or.inl ne_a0_w_groupOf_a0)
  have F_counted_a0_59 := Fld.other W59 F_counted_a0_47 (Or.inl ne_a0_w_groupOf_a0)
  have F_groupOf_a0_59 := Fld.other W59 F_groupOf_a0_47 (Or.inl ne_a0_w_groupOf_a0)
  have F_counts_a0_59 := Fld.other W59 F_counts_a0_47 (Or.inl ne_a0_w_groupOf_a0)
  have F_numbered_a0_59 := Fld.other W59 F_numbered_a0_47 (Or.inl ne_a0_w_groupOf_a0)
  have F_live_a0_59 := Fld.other W59 F_live_a0_47 (Or.inl ne_a0_w_groupOf_a0)
  have W_w_sizes_a0_59 := W_w_sizes_a0_47.other W59 (Ne.symm ne_w_groupOf_a0_w_sizes_a0)
  have Z59 := Nat.le_trans Z47 (Keep.of_wr W59).1
  have K59 := K47.wr W59 (Or.inl (List.mem_of_getElem? (i := 1) rfl))
  have N59 := Fr.snoc X59 N47 g_w_groupOf_a0
  have W_w_groupOf_a0_59 : Arl Z h59 w_groupOf_a0 .int (f7n2_l19 p1 w_counts_a0 w_numbered_a0 LG LI LC L_a2) := up59 W59
  refine go (B := T59.setTop (mkF m 112 #[.val (.ref a0), .val (.int p1), .val (.ref a2), .val (.ref a2), .val (.int (2 : Int32)), .val (.int (1 : Int32)), .val (.int (List.getD L_a2 1 0)), .val (.int ((f7n2_t10 p1 w_counts_a0 w_numbered_a0 LG LI LC L_a2) + (1 : Int32))), .val (.int (f7n2_t18 p1 w_counts_a0 w_numbered_a0 LG LI LC L_a2))] [])) st59 ?_
  have hG60 : own_G (f7n2_l19 p1 w_counts_a0 w_numbered_a0 LG LI LC L_a2) (f7n2_z17 p1 w_counts_a0 w_numbered_a0 LG LI LC L_a2) := own_Gset hG55 (by have := hg55.1; omega) hg55.2
  have hR60 : own_rel LG p1 (([] ++ [(List.getD L_a2 0 0)]) ++ [(List.getD L_a2 1 0)]) (f7n2_l19 p1 w_counts_a0 w_numbered_a0 LG LI LC L_a2) := own_relS hR30 hG30.1 (own_mem hch hl_L_a2 1) hg55.1
  have hB60 : 0 ≤ ((f7n2_z17 p1 w_counts_a0 w_numbered_a0 LG LI LC L_a2)).toInt ∧ ((f7n2_z17 p1 w_counts_a0 w_numbered_a0 LG LI LC L_a2)).toInt ≤ w_numbered_a0.toInt + 2 := ⟨by have := hB30.1; have := hq55.2.2.1; omega, by have := hB30.2; have := hq55.2.2.2; omega⟩
  refine go (B := T59.setTop (mkF m 113 #[.val (.ref a0), .val (.int p1), .val (.ref a2), .val (.ref a2), .val (.int (2 : Int32)), .val (.int (1 : Int32)), .val (.int (List.getD L_a2 1 0)), .val (.int ((f7n2_t10 p1 w_counts_a0 w_numbered_a0 LG LI LC L_a2) + (1 : Int32))), .val (.int (f7n2_t18 p1 w_counts_a0 w_numbered_a0 LG LI LC L_a2))] [(.ref a0)])) (fun _ k => XS.aloadN X59.here hx rfl (hb hby d7_112) rfl rfl k) ?_
  obtain ⟨T61, X61, e61, st61⟩ := getF X59 hx hZ hown (host := "") (Or.inl (hw _ (List.mem_of_getElem? (i := 22) rfl))) Via.refl e59 F_sizes_a0_59 (g := (mkF m 113 #[.val (.ref a0), .val (.int p1), .val (.ref a2), .val (.ref a2), .val (.int (2 : Int32)), .val (.int (1 : Int32)), .val (.int (List.getD L_a2 1 0)), .val (.int ((f7n2_t10 p1 w_counts_a0 w_numbered_a0 LG LI LC L_a2) + (1 : Int32))), .val (.int (f7n2_t18 p1 w_counts_a0 w_numbered_a0 LG LI LC L_a2))] [(.ref a0)])) rfl rfl (hb hby d7_113)
  refine go (B := T61.setTop (mkF m 116 #[.val (.ref a0), .val (.int p1), .val (.ref a2), .val (.ref a2), .val (.int (2 : Int32)), .val (.int (1 : Int32)), .val (.int (List.getD L_a2 1 0)), .val (.int ((f7n2_t10 p1 w_counts_a0 w_numbered_a0 LG LI LC L_a2) + (1 : Int32))), .val (.int (f7n2_t18 p1 w_counts_a0 w_numbered_a0 LG LI LC L_a2))] [(.ref w_sizes_a0)])) st61 ?_
  refine go (B := T61.setTop (mkF m 118 #[.val (.ref a0), .val (.int p1), .val (.ref a2), .val (.ref a2), .val (.int (2 : Int32)), .val (.int (1 : Int32)), .val (.int (List.getD L_a2 1 0)), .val (.int ((f7n2_t10 p1 w_counts_a0 w_numbered_a0 LG LI LC L_a2) + (1 : Int32))), .val (.int (f7n2_t18 p1 w_counts_a0 w_numbered_a0 LG LI LC L_a2))] [(.int (f7n2_t18 p1 w_counts_a0 w_numbered_a0 LG LI LC L_a2)), (.ref w_sizes_a0)])) (fun _ k => XS.iload X61.here hx rfl (hb hby d7_116) rfl k) ?_
  refine go (B := T61.setTop (mkF m 119 #[.val (.ref a0), .val (.int p1), .val (.ref a2), .val (.ref a2), .val (.int (2 : Int32)), .val (.int (1 : Int32)), .val (.int (List.getD L_a2 1 0)), .val (.int ((f7n2_t10 p1 w_counts_a0 w_numbered_a0 LG LI LC L_a2) + (1 : Int32))), .val (.int (f7n2_t18 p1 w_counts_a0 w_numbered_a0 LG LI LC L_a2))] [(.int (f7n2_t18 p1 w_counts_a0 w_numbered_a0 LG LI LC L_a2)), (.ref w_sizes_a0), (.int (f7n2_t18 p1 w_counts_a0 w_numbered_a0 LG LI LC L_a2)), (.ref w_sizes_a0)])) (fun _ k => Jvm.Free.XT.dup2 X61.here hx rfl (hb hby d7_118) rfl rfl rfl k) ?_
  obtain ⟨cl62, Ar62, hin62, hat62, up62⟩ := Arl.in W_w_sizes_a0_59 (j := (f7n2_t18 p1 w_counts_a0 w_numbered_a0 LG LI LC L_a2)) (own_nn hg55.1) (own_lit (own_cl (by have := hg55.2; have := hG60.2.2.1; show _ < (16 : Int); omega) hg55.1) o42_11)
  refine go (B := T61.setTop (mkF m 120 #[.val (.ref a0), .val (.int p1), .val (.ref a2), .val (.ref a2), .val (.int (2 : Int32)), .val (.int (1 : Int32)), .val (.int (List.getD L_a2 1 0)), .val (.int ((f7n2_t10 p1 w_counts_a0 w_numbered_a0 LG LI LC L_a2) + (1 : Int32))), .val (.int (f7n2_t18 p1 w_counts_a0 w_numbered_a0 LG LI LC L_a2))] [(.int (List.getD S'_42 ((f7n2_t18 p1 w_counts_a0 w_numbered_a0 LG LI LC L_a2)).toNatClampNeg 0)), (.int (f7n2_t18 p1 w_counts_a0 w_numbered_a0 LG LI LC L_a2)), (.ref w_sizes_a0)])) (fun _ k => X61.iaload hx (j := (f7n2_t18 p1 w_counts_a0 w_numbered_a0 LG LI LC L_a2)) (v := (.int (List.getD S'_42 ((f7n2_t18 p1 w_counts_a0 w_numbered_a0 LG LI LC L_a2)).toNatClampNeg 0))) (by rw [e61]; exact Ar62.1) (State.isArrayOf_alike hZ.alike Ar62.2.1) Ar62.2.2 hin62 hat62 (g := (mkF m 119 #[.val (.ref a0), .val (.int p1), .val (.ref a2), .val (.ref a2), .val (.int (2 : Int32)), .val (.int (1 : Int32)), .val (.int (List.getD L_a2 1 0)), .val (.int ((f7n2_t10 p1 w_counts_a0 w_numbered_a0 LG LI LC L_a2) + (1 : Int32))), .val (.int (f7n2_t18 p1 w_counts_a0 w_numbered_a0 LG LI LC L_a2))] [(.int (f7n2_t18 p1 w_counts_a0 w_numbered_a0 LG LI LC L_a2)), (.ref w_sizes_a0), (.int (f7n2_t18 p1 w_counts_a0 w_numbered_a0 LG LI LC L_a2)), (.ref w_sizes_a0)])) rfl rfl (hb hby d7_119) _ k) ?_
  refine go (B := T61.setTop (mkF m 121 #[.val (.ref a0), .val (.int p1), .val (.ref a2), .val (.ref a2), .val (.int (2 : Int32)), .val (.int (1 : Int32)), .val (.int (List.getD L_a2 1 0)), .val (.int ((f7n2_t10 p1 w_counts_a0 w_numbered_a0 LG LI LC L_a2) + (1 : Int32))), .val (.int (f7n2_t18 p1 w_counts_a0 w_numbered_a0 LG LI LC L_a2))] [(.int (List.getD S'_42 ((f7n2_t18 p1 w_counts_a0 w_numbered_a0 LG LI LC L_a2)).toNatClampNeg 0)), (.int (f7n2_t18 p1 w_counts_a0 w_numbered_a0 LG LI LC L_a2)), (.ref w_sizes_a0), (.int (List.getD S'_42 ((f7n2_t18 p1 w_counts_a0 w_numbered_a0 LG LI LC L_a2)).toNatClampNeg 0))])) (fun _ k => by jvm_step X61.here [X61.here.top, hx, (hb hby d7_120), Value.category]; exact k) ?_
  refine go (B := T61.setTop (mkF m 122 #[.val (.ref a0), .val (.int p1), .val (.ref a2), .val (.ref a2), .val (.int (2 : Int32)), .val (.int (1 : Int32)), .val (.int (List.getD L_a2 1 0)), .val (.int ((f7n2_t10 p1 w_counts_a0 w_numbered_a0 LG LI LC L_a2) + (1 : Int32))), .val (.int (f7n2_t18 p1 w_counts_a0 w_numbered_a0 LG LI LC L_a2))] [(.int (1 : Int32)), (.int (List.getD S'_42 ((f7n2_t18 p1 w_counts_a0 w_numbered_a0 LG LI LC L_a2)).toNatClampNeg 0)), (.int (f7n2_t18 p1 w_counts_a0 w_numbered_a0 LG LI LC L_a2)), (.ref w_sizes_a0), (.int (List.getD S'_42 ((f7n2_t18 p1 w_counts_a0 w_numbered_a0 LG LI LC L_a2)).toNatClampNeg 0))])) (fun _ k => XS.iconst X61.here hx rfl (hb hby d7_121) k) ?_
  refine go (B := T61.setTop (mkF m 123 #[.val (.ref a0), .val (.int p1), .val (.ref a2), .val (.ref a2), .val (.int (2 : Int32)), .val (.int (1 : Int32)), .val (.int (List.getD L_a2 1 0)), .val (.int ((f7n2_t10 p1 w_counts_a0 w_numbered_a0 LG LI LC L_a2) + (1 : Int32))), .val (.int (f7n2_t18 p1 w_counts_a0 w_numbered_a0 LG LI LC L_a2))] [(.int (f7n2_t20 p1 w_counts_a0 w_numbered_a0 LG LI LC L_a2 S'_42)), (.int (f7n2_t18 p1 w_counts_a0 w_numbered_a0 LG LI LC L_a2)), (.ref w_sizes_a0), (.int (List.getD S'_42 ((f7n2_t18 p1 w_counts_a0 w_numbered_a0 LG LI LC L_a2)).toNatClampNeg 0))])) (fun _ k => XS.iadd X61.here hx rfl (hb hby d7_122) rfl k) ?_
  obtain ⟨cl63, Ar63, hin63, hat63, up63⟩ := Arl.in W_w_sizes_a0_59 (j := (f7n2_t18 p1 w_counts_a0 w_numbered_a0 LG LI LC L_a2)) (own_nn hg55.1) (own_lit (own_cl (by have := hg55.2; have := hG60.2.2.1; show _ < (16 : Int); omega) hg55.1) o42_11)
  obtain ⟨T63, h63, X63, e63, W63, st63⟩ := stI X61 hx hZ e61 Ar63 (j := (f7n2_t18 p1 w_counts_a0 w_numbered_a0 LG LI LC L_a2)) hin63 (g := (mkF m 123 #[.val (.ref a0), .val (.int p1), .val (.ref a2), .val (.ref a2), .val (.int (2 : Int32)), .val (.int (1 : Int32)), .val (.int (List.getD L_a2 1 0)), .val (.int ((f7n2_t10 p1 w_counts_a0 w_numbered_a0 LG LI LC L_a2) + (1 : Int32))), .val (.int (f7n2_t18 p1 w_counts_a0 w_numbered_a0 LG LI LC L_a2))] [(.int (f7n2_t20 p1 w_counts_a0 w_numbered_a0 LG LI LC L_a2 S'_42)), (.int (f7n2_t18 p1 w_counts_a0 w_numbered_a0 LG LI LC L_a2)), (.ref w_sizes_a0), (.int (List.getD S'_42 ((f7n2_t18 p1 w_counts_a0 w_numbered_a0 LG LI LC L_a2)).toNatClampNeg 0))])) rfl rfl (hb hby d7_123)
  have E_a0_63 := E_a0_59.wr W63
  have W_w_seenIn_a0_63 := W_w_seenIn_a0_59.other W63 (Ne.symm ne_w_sizes_a0_w_seenIn_a0)
  have W_w_counted_a0_63 := W_w_counted_a0_59.other W63 (Ne.symm ne_w_sizes_a0_w_counted_a0)
  have W_a2_63 := W_a2_59.other W63 (Ne.symm ne_w_sizes_a0_a2)
  have F_sizes_a0_63 := Fld.other W63 F_sizes_a0_59 (Or.inl ne_a0_w_sizes_a0)
  have F_seenIn_a0_63 := Fld.other W63 F_seenIn_a0_59 (Or.inl ne_a0_w_sizes_a0)
  have F_counted_a0_63 := Fld.other W63 F_counted_a0_59 (Or.inl ne_a0_w_sizes_a0)
  have F_groupOf_a0_63 := Fld.other W63 F_groupOf_a0_59 (Or.inl ne_a0_w_sizes_a0)
  have F_counts_a0_63 := Fld.other W63 F_counts_a0_59 (Or.inl ne_a0_w_sizes_a0)
  have F_numbered_a0_63 := Fld.other W63 F_numbered_a0_59 (Or.inl ne_a0_w_sizes_a0)
  have F_live_a0_63 := Fld.other W63 F_live_a0_59 (Or.inl ne_a0_w_sizes_a0)
  have W_w_groupOf_a0_63 := W_w_groupOf_a0_59.other W63 ne_w_groupOf_a0_w_sizes_a0
  have Z63 := Nat.le_trans Z59 (Keep.of_wr W63).1
  have K63 := K59.wr W63 (Or.inl (List.mem_of_getElem? (i := 2) rfl))
  have N63 := Fr.snoc X63 N59 g_w_sizes_a0
  have W_w_sizes_a0_63 : Arl Z h63 w_sizes_a0 .int (f7n2_l21 p1 w_counts_a0 w_numbered_a0 LG LI LC L_a2 S'_42) := up63 W63
  refine go (B := T63.setTop (mkF m 124 #[.val (.ref a0), .val (.int p1), .val (.ref a2), .val (.ref a2), .val (.int (2 : Int32)), .val (.int (1 : Int32)), .val (.int (List.getD L_a2 1 0)), .val (.int ((f7n2_t10 p1 w_counts_a0 w_numbered_a0 LG LI LC L_a2) + (1 : Int32))), .val (.int (f7n2_t18 p1 w_counts_a0 w_numbered_a0 LG LI LC L_a2))] [(.int (List.getD S'_42 ((f7n2_t18 p1 w_counts_a0 w_numbered_a0 LG LI LC L_a2)).toNatClampNeg 0))])) st63 ?_
  suffices Kj64 : ∀ (T64 : State) (h64 : Heap) (L64 : List Loc), Stand p l e room7n2 s m #[(.ref a0), (.int p1), (.ref a2)] below meth c T64 L64 0 0 → Fr n0 L64 → T64.heap = h64 → n0 ≤ h64.size → Keep h0 h64 [a0, w_groupOf_a0, w_sizes_a0, w_seenIn_a0, w_counted_a0] → Exa Z h64 a0 "com/example/constrained_flow/constrainedflow/planner/search/Sweep$Groups" → Arl Z h64 w_seenIn_a0 .int (f7n2_l15 p1 w_counts_a0 w_numbered_a0 LG LI LC L_a2) → Arl Z h64 w_counted_a0 .int (f7n2_l16 p1 w_counts_a0 w_numbered_a0 LG LI LC L_a2) → Arl Z h64 a2 .int L_a2 → Fld Z h64 a0 "com/example/constrained_flow/constrainedflow/planner/search/Sweep$Groups" "sizes" "[I" (.ref w_sizes_a0) → Fld Z h64 a0 "com/example/constrained_flow/constrainedflow/planner/search/Sweep$Groups" "seenIn" "[I" (.ref w_seenIn_a0) → Fld Z h64 a0 "com/example/constrained_flow/constrainedflow/planner/search/Sweep$Groups" "counted" "[I" (.ref w_counted_a0) → Fld Z h64 a0 "com/example/constrained_flow/constrainedflow/planner/search/Sweep$Groups" "groupOf" "[I" (.ref w_groupOf_a0) → Fld Z h64 a0 "com/example/constrained_flow/constrainedflow/planner/search/Sweep$Groups" "counts" "I" (.int (w_counts_a0 + (1 : Int32))) → Fld Z h64 a0 "com/example/constrained_flow/constrainedflow/planner/search/Sweep$Groups" "numbered" "I" (.int (f7n2_z17 p1 w_counts_a0 w_numbered_a0 LG LI LC L_a2)) → Arl Z h64 w_groupOf_a0 .int (f7n2_l19 p1 w_counts_a0 w_numbered_a0 LG LI LC L_a2) → Arl Z h64 w_sizes_a0 .int (f7n2_l21 p1 w_counts_a0 w_numbered_a0 LG LI LC L_a2 S'_42) → Fld Z h64 a0 "com/example/constrained_flow/constrainedflow/planner/search/Sweep$Groups" "live" "I" (.int (f7n2_z22 p1 w_counts_a0 w_numbered_a0 LG LI LC L_a2 S'_42 V'_42)) → Go p.tables e below F (T64.setTop (mkF m 137 #[.val (.ref a0), .val (.int p1), .val (.ref a2), .val (.ref a2), .val (.int (2 : Int32)), .val (.int (1 : Int32)), .val (.int (List.getD L_a2 1 0)), .val (.int ((f7n2_t10 p1 w_counts_a0 w_numbered_a0 LG LI LC L_a2) + (1 : Int32))), .val (.int (f7n2_t18 p1 w_counts_a0 w_numbered_a0 LG LI LC L_a2))] [])) by
    by_cases hc65 : (List.getD S'_42 ((f7n2_t18 p1 w_counts_a0 w_numbered_a0 LG LI LC L_a2)).toNatClampNeg 0) = (0 : Int32)
    · refine go (B := T63.setTop (mkF m 127 #[.val (.ref a0), .val (.int p1), .val (.ref a2), .val (.ref a2), .val (.int (2 : Int32)), .val (.int (1 : Int32)), .val (.int (List.getD L_a2 1 0)), .val (.int ((f7n2_t10 p1 w_counts_a0 w_numbered_a0 LG LI LC L_a2) + (1 : Int32))), .val (.int (f7n2_t18 p1 w_counts_a0 w_numbered_a0 LG LI LC L_a2))] [])) (fun _ k => XS.ifNo X63.here hx rfl (hb hby d7_124) rfl ((if0 _ _).trans (teq hc65).2) k) ?_
      refine go (B := T63.setTop (mkF m 128 #[.val (.ref a0), .val (.int p1), .val (.ref a2), .val (.ref a2), .val (.int (2 : Int32)), .val (.int (1 : Int32)), .val (.int (List.getD L_a2 1 0)), .val (.int ((f7n2_t10 p1 w_counts_a0 w_numbered_a0 LG LI LC L_a2) + (1 : Int32))), .val (.int (f7n2_t18 p1 w_counts_a0 w_numbered_a0 LG LI LC L_a2))] [(.ref a0)])) (fun _ k => XS.aloadN X63.here hx rfl (hb hby d7_127) rfl rfl k) ?_
      refine go (B := T63.setTop (mkF m 129 #[.val (.ref a0), .val (.int p1), .val (.ref a2), .val (.ref a2), .val (.int (2 : Int32)), .val (.int (1 : Int32)), .val (.int (List.getD L_a2 1 0)), .val (.int ((f7n2_t10 p1 w_counts_a0 w_numbered_a0 LG LI LC L_a2) + (1 : Int32))), .val (.int (f7n2_t18 p1 w_counts_a0 w_numbered_a0 LG LI LC L_a2))] [(.ref a0), (.ref a0)])) (fun _ k => XS.dup X63.here hx rfl (hb hby d7_128) rfl rfl k) ?_
      obtain ⟨T66, X66, e66, st66⟩ := getF X63 hx hZ hown (host := "") (Or.inl (hw _ (List.mem_of_getElem? (i := 59) rfl))) Via.refl e63 F_live_a0_63 (g := (mkF m 129 #[.val (.ref a0), .val (.int p1), .val (.ref a2), .val (.ref a2), .val (.int (2 : Int32)), .val (.int (1 : Int32)), .val (.int (List.getD L_a2 1 0)), .val (.int ((f7n2_t10 p1 w_counts_a0 w_numbered_a0 LG LI LC L_a2) + (1 : Int32))), .val (.int (f7n2_t18 p1 w_counts_a0 w_numbered_a0 LG LI LC L_a2))] [(.ref a0), (.ref a0)])) rfl rfl (hb hby d7_129)
      refine go (B := T66.setTop (mkF m 132 #[.val (.ref a0), .val (.int p1), .val (.ref a2), .val (.ref a2), .val (.int (2 : Int32)), .val (.int (1 : Int32)), .val (.int (List.getD L_a2 1 0)), .val (.int ((f7n2_t10 p1 w_counts_a0 w_numbered_a0 LG LI LC L_a2) + (1 : Int32))), .val (.int (f7n2_t18 p1 w_counts_a0 w_numbered_a0 LG LI LC L_a2))] [(.int V'_42), (.ref a0)])) st66 ?_
      refine go (B := T66.setTop (mkF m 133 #[.val (.ref a0), .val (.int p1), .val (.ref a2), .val (.ref a2), .val (.int (2 : Int32)), .val (.int (1 : Int32)), .val (.int (List.getD L_a2 1 0)), .val (.int ((f7n2_t10 p1 w_counts_a0 w_numbered_a0 LG LI LC L_a2) + (1 : Int32))), .val (.int (f7n2_t18 p1 w_counts_a0 w_numbered_a0 LG LI LC L_a2))] [(.int (1 : Int32)), (.int V'_42), (.ref a0)])) (fun _ k => XS.iconst X66.here hx rfl (hb hby d7_132) k) ?_
      refine go (B := T66.setTop (mkF m 134 #[.val (.ref a0), .val (.int p1), .val (.ref a2), .val (.ref a2), .val (.int (2 : Int32)), .val (.int (1 : Int32)), .val (.int (List.getD L_a2 1 0)), .val (.int ((f7n2_t10 p1 w_counts_a0 w_numbered_a0 LG LI LC L_a2) + (1 : Int32))), .val (.int (f7n2_t18 p1 w_counts_a0 w_numbered_a0 LG LI LC L_a2))] [(.int (V'_42 + (1 : Int32))), (.ref a0)])) (fun _ k => XS.iadd X66.here hx rfl (hb hby d7_133) rfl k) ?_
      obtain ⟨T67, h67, X67, e67, W67, st67⟩ := putF X66 hx hZ hown (host := "") (Or.inl (hw _ (List.mem_of_getElem? (i := 59) rfl))) Via.refl e66 F_live_a0_63 E_a0_63 (Or.inl (hw _ (List.mem_of_getElem? (i := 60) rfl))) (hw _ (List.mem_of_getElem? (i := 14) rfl)) (ty := .int) (by decide) rfl rfl (g := (mkF m 134 #[.val (.ref a0), .val (.int p1), .val (.ref a2), .val (.ref a2), .val (.int (2 : Int32)), .val (.int (1 : Int32)), .val (.int (List.getD L_a2 1 0)), .val (.int ((f7n2_t10 p1 w_counts_a0 w_numbered_a0 LG LI LC L_a2) + (1 : Int32))), .val (.int (f7n2_t18 p1 w_counts_a0 w_numbered_a0 LG LI LC L_a2))] [(.int (V'_42 + (1 : Int32))), (.ref a0)])) rfl rfl (hb hby d7_134)
      have E_a0_67 := E_a0_63.wr W67
      have W_w_seenIn_a0_67 := W_w_seenIn_a0_63.other W67 (Ne.symm ne_a0_w_seenIn_a0)
      have W_w_counted_a0_67 := W_w_counted_a0_63.other W67 (Ne.symm ne_a0_w_counted_a0)
      have W_a2_67 := W_a2_63.other W67 (Ne.symm ne_a0_a2)
      have F_sizes_a0_67 := Fld.other W67 F_sizes_a0_63 (Or.inr (slot_ne (Or.inl (hw _ (List.mem_of_getElem? (i := 23) rfl))) (Or.inl (hw _ (List.mem_of_getElem? (i := 60) rfl))) (by decide) (t := (.array .int)) (t' := .int) (by decide) (by decide)))
      have F_seenIn_a0_67 := Fld.other W67 F_seenIn_a0_63 (Or.inr (slot_ne (Or.inl (hw _ (List.mem_of_getElem? (i := 25) rfl))) (Or.inl (hw _ (List.mem_of_getElem? (i := 60) rfl))) (by decide) (t := (.array .int)) (t' := .int) (by decide) (by decide)))
      have F_counted_a0_67 := Fld.other W67 F_counted_a0_63 (Or.inr (slot_ne (Or.inl (hw _ (List.mem_of_getElem? (i := 27) rfl))) (Or.inl (hw _ (List.mem_of_getElem? (i := 60) rfl))) (by decide) (t := (.array .int)) (t' := .int) (by decide) (by decide)))
      have F_groupOf_a0_67 := Fld.other W67 F_groupOf_a0_63 (Or.inr (slot_ne (Or.inr (hw _ (List.mem_of_getElem? (i := 29) rfl))) (Or.inl (hw _ (List.mem_of_getElem? (i := 60) rfl))) (by decide) (t := (.array .int)) (t' := .int) (by decide) (by decide)))
      have F_counts_a0_67 := Fld.other W67 F_counts_a0_63 (Or.inr (slot_ne (Or.inl (hw _ (List.mem_of_getElem? (i := 44) rfl))) (Or.inl (hw _ (List.mem_of_getElem? (i := 60) rfl))) (by decide) (t := .int) (t' := .int) (by decide) (by decide)))
      have F_numbered_a0_67 := Fld.other W67 F_numbered_a0_63 (Or.inr (slot_ne (Or.inl (hw _ (List.mem_of_getElem? (i := 58) rfl))) (Or.inl (hw _ (List.mem_of_getElem? (i := 60) rfl))) (by decide) (t := .int) (t' := .int) (by decide) (by decide)))
      have W_w_groupOf_a0_67 := W_w_groupOf_a0_63.other W67 (Ne.symm ne_a0_w_groupOf_a0)
      have W_w_sizes_a0_67 := W_w_sizes_a0_63.other W67 (Ne.symm ne_a0_w_sizes_a0)
      have F_live_a0_67 := Fld.same W67 F_live_a0_63
      have Z67 := Nat.le_trans Z63 (Keep.of_wr W67).1
      have K67 := K63.wr W67 (Or.inl (List.mem_of_getElem? (i := 0) rfl))
      have N67 := Fr.snoc X67 N63 g_a0
      refine go (B := T67.setTop (mkF m 137 #[.val (.ref a0), .val (.int p1), .val (.ref a2), .val (.ref a2), .val (.int (2 : Int32)), .val (.int (1 : Int32)), .val (.int (List.getD L_a2 1 0)), .val (.int ((f7n2_t10 p1 w_counts_a0 w_numbered_a0 LG LI LC L_a2) + (1 : Int32))), .val (.int (f7n2_t18 p1 w_counts_a0 w_numbered_a0 LG LI LC L_a2))] [])) st67 ?_
      rw [show (f7n2_z22 p1 w_counts_a0 w_numbered_a0 LG LI LC L_a2 S'_42 V'_42) = (V'_42 + (1 : Int32)) from by unfold f7n2_z22; rw [if_pos hc65]] at Kj64
      exact Kj64 _ _ _ X67 N67 e67 Z67 K67 E_a0_67 W_w_seenIn_a0_67 W_w_counted_a0_67 W_a2_67 F_sizes_a0_67 F_seenIn_a0_67 F_counted_a0_67 F_groupOf_a0_67 F_counts_a0_67 F_numbered_a0_67 W_w_groupOf_a0_67 W_w_sizes_a0_67 F_live_a0_67
    · refine go (B := T63.setTop (mkF m 137 #[.val (.ref a0), .val (.int p1), .val (.ref a2), .val (.ref a2), .val (.int (2 : Int32)), .val (.int (1 : Int32)), .val (.int (List.getD L_a2 1 0)), .val (.int ((f7n2_t10 p1 w_counts_a0 w_numbered_a0 LG LI LC L_a2) + (1 : Int32))), .val (.int (f7n2_t18 p1 w_counts_a0 w_numbered_a0 LG LI LC L_a2))] [])) (fun _ k => XS.ifYes X63.here hx rfl (pc0 := 124) (pc' := 137) rfl (hb hby d7_124) rfl ((if0 _ _).trans (feq hc65).2) (by decide) (by decide) k) ?_
      rw [show (f7n2_z22 p1 w_counts_a0 w_numbered_a0 LG LI LC L_a2 S'_42 V'_42) = V'_42 from by unfold f7n2_z22; rw [if_neg hc65]] at Kj64
      exact Kj64 _ _ _ X63 N63 e63 Z63 K63 E_a0_63 W_w_seenIn_a0_63 W_w_counted_a0_63 W_a2_63 F_sizes_a0_63 F_seenIn_a0_63 F_counted_a0_63 F_groupOf_a0_63 F_counts_a0_63 F_numbered_a0_63 W_w_groupOf_a0_63 W_w_sizes_a0_63 F_live_a0_63
  intro T64 h64 L64 X64 N64 e64 Z64 K64 E_a0_64 W_w_seenIn_a0_64 W_w_counted_a0_64 W_a2_64 F_sizes_a0_64 F_seenIn_a0_64 F_counted_a0_64 F_groupOf_a0_64 F_counts_a0_64 F_numbered_a0_64 W_w_groupOf_a0_64 W_w_sizes_a0_64 F_live_a0_64
  refine go (B := T64.setTop (mkF m 140 #[.val (.ref a0), .val (.int p1), .val (.ref a2), .val (.ref a2), .val (.int (2 : Int32)), .val (.int (2 : Int32)), .val (.int (List.getD L_a2 1 0)), .val (.int ((f7n2_t10 p1 w_counts_a0 w_numbered_a0 LG LI LC L_a2) + (1 : Int32))), .val (.int (f7n2_t18 p1 w_counts_a0 w_numbered_a0 LG LI LC L_a2))] [])) (fun _ k => XS.iinc X64.here hx rfl (hb hby d7_137) rfl (l' := #[.val (.ref a0), .val (.int p1), .val (.ref a2), .val (.ref a2), .val (.int (2 : Int32)), .val (.int (2 : Int32)), .val (.int (List.getD L_a2 1 0)), .val (.int ((f7n2_t10 p1 w_counts_a0 w_numbered_a0 LG LI LC L_a2) + (1 : Int32))), .val (.int (f7n2_t18 p1 w_counts_a0 w_numbered_a0 LG LI LC L_a2))]) rfl k) ?_
  refine go (B := T64.setTop (mkF m 24 #[.val (.ref a0), .val (.int p1), .val (.ref a2), .val (.ref a2), .val (.int (2 : Int32)), .val (.int (2 : Int32)), .val (.int (List.getD L_a2 1 0)), .val (.int ((f7n2_t10 p1 w_counts_a0 w_numbered_a0 LG LI LC L_a2) + (1 : Int32))), .val (.int (f7n2_t18 p1 w_counts_a0 w_numbered_a0 LG LI LC L_a2))] [])) (fun _ k => XS.goto X64.here hx rfl (pc0 := 140) (pc' := 24) rfl (hb hby d7_140) (by decide) (by decide) k) ?_
  refine go (B := T64.setTop (mkF m 26 #[.val (.ref a0), .val (.int p1), .val (.ref a2), .val (.ref a2), .val (.int (2 : Int32)), .val (.int (2 : Int32)), .val (.int (List.getD L_a2 1 0)), .val (.int ((f7n2_t10 p1 w_counts_a0 w_numbered_a0 LG LI LC L_a2) + (1 : Int32))), .val (.int (f7n2_t18 p1 w_counts_a0 w_numbered_a0 LG LI LC L_a2))] [(.int (2 : Int32))])) (fun _ k => XS.iload X64.here hx rfl (hb hby d7_24) rfl k) ?_
  refine go (B := T64.setTop (mkF m 28 #[.val (.ref a0), .val (.int p1), .val (.ref a2), .val (.ref a2), .val (.int (2 : Int32)), .val (.int (2 : Int32)), .val (.int (List.getD L_a2 1 0)), .val (.int ((f7n2_t10 p1 w_counts_a0 w_numbered_a0 LG LI LC L_a2) + (1 : Int32))), .val (.int (f7n2_t18 p1 w_counts_a0 w_numbered_a0 LG LI LC L_a2))] [(.int (2 : Int32)), (.int (2 : Int32))])) (fun _ k => XS.iload X64.here hx rfl (hb hby d7_26) rfl k) ?_
  refine go (B := T64.setTop (mkF m 143 #[.val (.ref a0), .val (.int p1), .val (.ref a2), .val (.ref a2), .val (.int (2 : Int32)), .val (.int (2 : Int32)), .val (.int (List.getD L_a2 1 0)), .val (.int ((f7n2_t10 p1 w_counts_a0 w_numbered_a0 LG LI LC L_a2) + (1 : Int32))), .val (.int (f7n2_t18 p1 w_counts_a0 w_numbered_a0 LG LI LC L_a2))] [])) (fun _ k => XS.icmpYes X64.here hx rfl (pc0 := 28) (pc' := 143) rfl (hb hby d7_28) rfl (flt (by decide : ¬ ((2 : Int32) < (2 : Int32)))).2.1 (by decide) (by decide) k) ?_
  exact end_void X64 hx Bd.notSynchronized Bd.returns (hb hby d7_143) hF e64 (by decide) (by decide) ⟨(f7n2_l19 p1 w_counts_a0 w_numbered_a0 LG LI LC L_a2), (f7n2_l21 p1 w_counts_a0 w_numbered_a0 LG LI LC L_a2 S'_42), (f7n2_l15 p1 w_counts_a0 w_numbered_a0 LG LI LC L_a2), (f7n2_l16 p1 w_counts_a0 w_numbered_a0 LG LI LC L_a2), (f7n2_z22 p1 w_counts_a0 w_numbered_a0 LG LI LC L_a2 S'_42 V'_42), (f7n2_z17 p1 w_counts_a0 w_numbered_a0 LG LI LC L_a2), rfl, N64, K64, E_a0_64, F_sizes_a0_64, F_seenIn_a0_64, F_counted_a0_64, F_groupOf_a0_64, F_counts_a0_64, F_numbered_a0_64, F_live_a0_64, W_w_groupOf_a0_64, ((List.length_set).trans o42_9), W_w_sizes_a0_64, ((List.length_set).trans o42_11), W_w_seenIn_a0_64, hl_w_seenIn_a0_47, W_w_counted_a0_64, hl_w_counted_a0_47, hG60, (own_Jend hq55.1 (by rw [own_inc (by omega) (by have := hI.2.1; omega)]; have := hI.2.1; omega) (by rw [own_inc (by omega) (by have := hI.2.1; omega)]; omega)), (by have := hB60.2; omega), (own_list2 hl_L_a2 ▸ hR60)⟩
theorem ef_7n1 (m : MethodId) (a0 : Addr) (p1 : Int32) (a2 : Addr) : entryFrame m #[(.ref a0), (.int p1), (.ref a2)] 9 = mkF m 0 #[.val (.ref a0), .val (.int p1), .val (.ref a2), .unset, .unset, .unset, .unset, .unset, .unset] [] := by first | (simp [entryFrame, mkF, argsToLocals, Value.category]; done) | rfl
def f7n1_t0 (p1 : Int32) (LG : List Int32) (L_a2 : List Int32) : Int32 := (List.getD (List.set LG (p1).toNatClampNeg (-1 : Int32)) ((List.getD L_a2 0 0)).toNatClampNeg 0)
def f7n1_l1 (p1 : Int32) (w_counts_a0 : Int32) (LG : List Int32) (LI : List Int32) (L_a2 : List Int32) : List Int32 := (List.set LI (((f7n1_t0 p1 LG L_a2) + (1 : Int32))).toNatClampNeg (w_counts_a0 + (1 : Int32)))
def f7n1_l2 (p1 : Int32) (w_counts_a0 : Int32) (LG : List Int32) (LI : List Int32) (L_a2 : List Int32) : List Int32 := if (List.getD LI (((f7n1_t0 p1 LG L_a2) + (1 : Int32))).toNatClampNeg 0) = (w_counts_a0 + (1 : Int32)) then LI else (f7n1_l1 p1 w_counts_a0 LG LI L_a2)
def f7n1_l3 (p1 : Int32) (w_counts_a0 : Int32) (w_numbered_a0 : Int32) (LG : List Int32) (LI : List Int32) (LC : List Int32) (L_a2 : List Int32) : List Int32 := if (List.getD LI (((f7n1_t0 p1 LG L_a2) + (1 : Int32))).toNatClampNeg 0) = (w_counts_a0 + (1 : Int32)) then LC else (List.set LC (((f7n1_t0 p1 LG L_a2) + (1 : Int32))).toNatClampNeg (f11 w_numbered_a0))
def f7n1_z4 (p1 : Int32) (w_counts_a0 : Int32) (w_numbered_a0 : Int32) (LG : List Int32) (LI : List Int32) (L_a2 : List Int32) : Int32 := if (List.getD LI (((f7n1_t0 p1 LG L_a2) + (1 : Int32))).toNatClampNeg 0) = (w_counts_a0 + (1 : Int32)) then w_numbered_a0 else (w_numbered_a0 + (1 : Int32))
def f7n1_t5 (p1 : Int32) (w_counts_a0 : Int32) (w_numbered_a0 : Int32) (LG : List Int32) (LI : List Int32) (LC : List Int32) (L_a2 : List Int32) : Int32 := (List.getD (f7n1_l3 p1 w_counts_a0 w_numbered_a0 LG LI LC L_a2) (((f7n1_t0 p1 LG L_a2) + (1 : Int32))).toNatClampNeg 0)
def f7n1_l6 (p1 : Int32) (w_counts_a0 : Int32) (w_numbered_a0 : Int32) (LG : List Int32) (LI : List Int32) (LC : List Int32) (L_a2 : List Int32) : List Int32 := (List.set (List.set (List.set LG (p1).toNatClampNeg (-1 : Int32)) ((List.getD L_a2 0 0)).toNatClampNeg (-1 : Int32)) ((List.getD L_a2 0 0)).toNatClampNeg (f7n1_t5 p1 w_counts_a0 w_numbered_a0 LG LI LC L_a2))
def f7n1_t7 (p1 : Int32) (w_counts_a0 : Int32) (w_numbered_a0 : Int32) (LG : List Int32) (LI : List Int32) (LC : List Int32) (L_a2 : List Int32) (S'_11 : List Int32) : Int32 := ((List.getD S'_11 ((f7n1_t5 p1 w_counts_a0 w_numbered_a0 LG LI LC L_a2)).toNatClampNeg 0) + (1 : Int32))
def f7n1_l8 (p1 : Int32) (w_counts_a0 : Int32) (w_numbered_a0 : Int32) (LG : List Int32) (LI : List Int32) (LC : List Int32) (L_a2 : List Int32) (S'_11 : List Int32) : List Int32 := (List.set S'_11 ((f7n1_t5 p1 w_counts_a0 w_numbered_a0 LG LI LC L_a2)).toNatClampNeg (f7n1_t7 p1 w_counts_a0 w_numbered_a0 LG LI LC L_a2 S'_11))
def f7n1_z9 (p1 : Int32) (w_counts_a0 : Int32) (w_numbered_a0 : Int32) (LG : List Int32) (LI : List Int32) (LC : List Int32) (L_a2 : List Int32) (S'_11 : List Int32) (V'_11 : Int32) : Int32 := if (List.getD S'_11 ((f7n1_t5 p1 w_counts_a0 w_numbered_a0 LG LI LC L_a2)).toNatClampNeg 0) = (0 : Int32) then (V'_11 + (1 : Int32)) else V'_11
abbrev room7n1 : Room := { frames := 1, cells := 0, slots := 0, locals := 14 }
def Q7n1 (Z : State) (a0 : Addr) (p1 : Int32) (a2 : Addr) (w_sizes_a0 : Addr) (w_seenIn_a0 : Addr) (w_counted_a0 : Addr) (w_groupOf_a0 : Addr) (w_counts_a0 : Int32) (w_numbered_a0 : Int32) (w_live_a0 : Int32) (LG : List Int32) (LS : List Int32) (LI : List Int32) (LC : List Int32) (L_a2 : List Int32) (h0 : Heap) (n0 : Nat) (v : Option Value) (h : Heap) (L : List Loc) : Prop := ∃ G' : List Int32, ∃ S' : List Int32, ∃ I' : List Int32, ∃ C' : List Int32, ∃ V' : Int32, ∃ N' : Int32, v = none ∧ Fr n0 L ∧ Keep h0 h [a0, w_groupOf_a0, w_sizes_a0, w_seenIn_a0, w_counted_a0] ∧ Exa Z h a0 "com/example/constrained_flow/constrainedflow/planner/search/Sweep$Groups" ∧ Fld Z h a0 "com/example/constrained_flow/constrainedflow/planner/search/Sweep$Groups" "sizes" "[I" (.ref w_sizes_a0) ∧ Fld Z h a0 "com/example/constrained_flow/constrainedflow/planner/search/Sweep$Groups" "seenIn" "[I" (.ref w_seenIn_a0) ∧ Fld Z h a0 "com/example/constrained_flow/constrainedflow/planner/search/Sweep$Groups" "counted" "[I" (.ref w_counted_a0) ∧ Fld Z h a0 "com/example/constrained_flow/constrainedflow/planner/search/Sweep$Groups" "groupOf" "[I" (.ref w_groupOf_a0) ∧ Fld Z h a0 "com/example/constrained_flow/constrainedflow/planner/search/Sweep$Groups" "counts" "I" (.int (w_counts_a0 + (1 : Int32))) ∧ Fld Z h a0 "com/example/constrained_flow/constrainedflow/planner/search/Sweep$Groups" "numbered" "I" (.int N') ∧ Fld Z h a0 "com/example/constrained_flow/constrainedflow/planner/search/Sweep$Groups" "live" "I" (.int V') ∧ Arl Z h w_groupOf_a0 .int G' ∧ G'.length = 4 ∧ Arl Z h w_sizes_a0 .int S' ∧ S'.length = 16 ∧ Arl Z h w_seenIn_a0 .int I' ∧ I'.length = 17 ∧ Arl Z h w_counted_a0 .int C' ∧ C'.length = 17 ∧ own_G G' N' ∧ own_I I' (w_counts_a0 + (1 : Int32)) ∧ N'.toInt ≤ w_numbered_a0.toInt + 2 ∧ own_rel LG p1 L_a2 G'
set_option maxRecDepth 65536 in
set_option maxHeartbeats 40000000 in
theorem rm7n1 (l : Launch) (Z : State) (aw : Array Value) (hw : ∀ d ∈ tables_1, d.before aw Z = true) (ws : List Jvm.Cond) (a0 : Addr) (p1 : Int32) (a2 : Addr) (w_sizes_a0 : Addr) (w_seenIn_a0 : Addr) (w_counted_a0 : Addr) (w_groupOf_a0 : Addr) (w_counts_a0 : Int32) (w_numbered_a0 : Int32) (w_live_a0 : Int32) (LG : List Int32) (LS : List Int32) (LI : List Int32) (LC : List Int32) (L_a2 : List Int32) (h0 : Heap) (n0 : Nat) (Z0 : n0 ≤ h0.size) (F_sizes_a0 : Fld Z h0 a0 "com/example/constrained_flow/constrainedflow/planner/search/Sweep$Groups" "sizes" "[I" (.ref w_sizes_a0)) (F_seenIn_a0 : Fld Z h0 a0 "com/example/constrained_flow/constrainedflow/planner/search/Sweep$Groups" "seenIn" "[I" (.ref w_seenIn_a0)) (F_counted_a0 : Fld Z h0 a0 "com/example/constrained_flow/constrainedflow/planner/search/Sweep$Groups" "counted" "[I" (.ref w_counted_a0)) (F_groupOf_a0 : Fld Z h0 a0 "com/example/constrained_flow/constrainedflow/planner/search/Sweep$Groups" "groupOf" "[I" (.ref w_groupOf_a0)) (F_counts_a0 : Fld Z h0 a0 "com/example/constrained_flow/constrainedflow/planner/search/Sweep$Groups" "counts" "I" (.int w_counts_a0)) (F_numbered_a0 : Fld Z h0 a0 "com/example/constrained_flow/constrainedflow/planner/search/Sweep$Groups" "numbered" "I" (.int w_numbered_a0)) (F_live_a0 : Fld Z h0 a0 "com/example/constrained_flow/constrainedflow/planner/search/Sweep$Groups" "live" "I" (.int w_live_a0)) (E_a0 : Exa Z h0 a0 "com/example/constrained_flow/constrainedflow/planner/search/Sweep$Groups") (W_w_groupOf_a0 : Arl Z h0 w_groupOf_a0 .int LG) (hl_LG : LG.length = 4) (W_w_sizes_a0 : Arl Z h0 w_sizes_a0 .int LS) (hl_LS : LS.length = 16) (W_w_seenIn_a0 : Arl Z h0 w_seenIn_a0 .int LI) (hl_LI : LI.length = 17) (W_w_counted_a0 : Arl Z h0 w_counted_a0 .int LC) (hl_LC : LC.length = 17) (W_a2 : Arl Z h0 a2 .int L_a2) (hl_L_a2 : L_a2.length = 1) (ne_a0_w_groupOf_a0 : a0 ≠ w_groupOf_a0) (ne_a0_w_sizes_a0 : a0 ≠ w_sizes_a0) (ne_a0_w_seenIn_a0 : a0 ≠ w_seenIn_a0) (ne_a0_w_counted_a0 : a0 ≠ w_counted_a0) (ne_a0_a2 : a0 ≠ a2) (ne_w_groupOf_a0_w_sizes_a0 : w_groupOf_a0 ≠ w_sizes_a0) (ne_w_groupOf_a0_w_seenIn_a0 : w_groupOf_a0 ≠ w_seenIn_a0) (ne_w_groupOf_a0_w_counted_a0 : w_groupOf_a0 ≠ w_counted_a0) (ne_w_groupOf_a0_a2 : w_groupOf_a0 ≠ a2) (ne_w_sizes_a0_w_seenIn_a0 : w_sizes_a0 ≠ w_seenIn_a0) (ne_w_sizes_a0_w_counted_a0 : w_sizes_a0 ≠ w_counted_a0) (ne_w_sizes_a0_a2 : w_sizes_a0 ≠ a2) (ne_w_seenIn_a0_w_counted_a0 : w_seenIn_a0 ≠ w_counted_a0) (ne_w_seenIn_a0_a2 : w_seenIn_a0 ≠ a2) (ne_w_counted_a0_a2 : w_counted_a0 ≠ a2) (hG : own_G LG w_numbered_a0) (hI : own_I LI w_counts_a0) (hbk : own_nd p1) (g_a0 : n0 ≤ a0) (g_w_groupOf_a0 : n0 ≤ w_groupOf_a0) (g_w_sizes_a0 : n0 ≤ w_sizes_a0) (g_w_seenIn_a0 : n0 ≤ w_seenIn_a0) (g_w_counted_a0 : n0 ≤ w_counted_a0) (hch : ∀ z ∈ L_a2, own_nd z) (hN : w_numbered_a0.toInt + 2 ≤ 15) (hKc : w_counts_a0.toInt < 100) :
    MetFree l (⟨"com/example/constrained_flow/constrainedflow/planner/search/Sweep$Groups", "take", "(I[I)V"⟩ : MethodName) (head1 (Jvm.Cond.code (⟨"com/example/constrained_flow/constrainedflow/planner/search/Sweep$Groups", "take", "(I[I)V"⟩ : MethodName) prog_97_method_4_code 9 none :: ws) room7n1) (fun a U => a = #[(.ref a0), (.int p1), (.ref a2)] ∧ Z.Warmed39 U.vm ∧ U.heap = h0) (fun _ _ _ _ _ => True) (fun _ U o U' => ∃ v L, o = .returned v ∧ Q7n1 Z a0 p1 a2 w_sizes_a0 w_seenIn_a0 w_counted_a0 w_groupOf_a0 w_counts_a0 w_numbered_a0 w_live_a0 LG LS LI LC L_a2 h0 n0 v U'.heap L ∧ FrameEnd U o U' L room7n1.cells room7n1.slots) := by
  refine MetFree.of_bodySF (plainFor_of_name pn_4) hisR ?_
  intro p e s m args below meth c s₁ Bd hml0 hP hK
  obtain ⟨rfl, hZ, hh⟩ := hP
  have hx := Bd.exec
  have hby := Bd.bytes
  have hml : c.maxLocals = 9 := hml0
  have hown : s.vm.findClass "com/example/constrained_flow/constrainedflow/planner/search/Sweep$Groups" = some m.cls := findClass_of_methodNamed Bd.named
  have hnm := (name_of_methodNamed Bd.named Bd.method).1
  have X0 : Stand p l e room7n1 s m #[(.ref a0), (.int p1), (.ref a2)] below meth c s₁ [] 0 0 := Stand.of_body Bd
  have e0 : s₁.heap = h0 := by rw [← hh, Bd.state]; rfl
  have N0 := Fr.nil n0
  have K0 := Keep.refl h0 [a0, w_groupOf_a0, w_sizes_a0, w_seenIn_a0, w_counted_a0]
  rw [ef_7n1 m a0 p1 a2]
  refine go_in (s₁ := s₁) (Q := Q7n1 Z a0 p1 a2 w_sizes_a0 w_seenIn_a0 w_counted_a0 w_groupOf_a0 w_counts_a0 w_numbered_a0 w_live_a0 LG LS LI LC L_a2 h0 n0) fun F hF => ?_
  refine go (B := s₁.setTop (mkF m 1 #[.val (.ref a0), .val (.int p1), .val (.ref a2), .unset, .unset, .unset, .unset, .unset, .unset] [(.ref a0)])) (fun _ k => XS.aloadN X0.here hx rfl (hb hby d7_0) rfl rfl k) ?_
  refine go (B := s₁.setTop (mkF m 2 #[.val (.ref a0), .val (.int p1), .val (.ref a2), .unset, .unset, .unset, .unset, .unset, .unset] [(.int p1), (.ref a0)])) (fun _ k => XS.iloadN X0.here hx rfl (hb hby d7_1) rfl k) ?_
  obtain ⟨cq1, q1, q1'⟩ := E_a0.cell
  obtain ⟨_, _, ⟨T1, L1, k1, n1⟩, -, X1, ⟨Lc1, hQ1, l1, y1, z1⟩, st1⟩ := X0.privateBack hx (y := (⟨"com/example/constrained_flow/constrainedflow/planner/search/Sweep$Groups", "leave", "(I)V"⟩ : MethodName)) hown (mvT hZ (hw _ (List.mem_of_getElem? (i := 39) rfl))) (mvT hZ (hw _ (List.mem_of_getElem? (i := 40) rfl))) (own_selp hZ (hw _ (List.mem_of_getElem? (i := 14) rfl)) (hw _ (List.mem_of_getElem? (i := 41) rfl)) (hw _ (List.mem_of_getElem? (i := 40) rfl)) (by decide)) (Cond.privateMethod_at (mvP hZ (hw _ (List.mem_of_getElem? (i := 41) rfl)) (args := #[]))) (mvT hZ (hw _ (List.mem_of_getElem? (i := 42) rfl))) (by decide) (backOf (W := 0) (rm8 l Z aw hw [] a0 p1 w_sizes_a0 w_seenIn_a0 w_counted_a0 w_groupOf_a0 w_counts_a0 w_numbered_a0 w_live_a0 LG LS h0 n0 Z0 F_sizes_a0 F_seenIn_a0 F_counted_a0 F_groupOf_a0 F_counts_a0 F_numbered_a0 F_live_a0 E_a0 W_w_groupOf_a0 hl_LG W_w_sizes_a0 hl_LS ne_a0_w_groupOf_a0 ne_a0_w_sizes_a0 ne_w_groupOf_a0_w_sizes_a0 hG hbk g_w_groupOf_a0 g_w_sizes_a0 g_a0) hZ (hw _ (List.mem_of_getElem? (i := 42) rfl)) (hw _ (List.mem_of_getElem? (i := 15) rfl)) (by decide) (by decide)) (g := (mkF m 2 #[.val (.ref a0), .val (.int p1), .val (.ref a2), .unset, .unset, .unset, .unset, .unset, .unset] [(.int p1), (.ref a0)])) rfl (by rw [hml]; rfl) (Steps.refl _) (a := a0) (by rw [e0]; exact q1) q1' (argsL := [(.int p1)]) (rest := []) (lenOf pd_3 rfl) rfl (by show 2 * 0 + _ ≤ _; exact Nat.le_of_eq rfl) (hb hby d7_2) (fun _ _ => ⟨rfl, e0, (by decide : 0 + 0 ≤ _), (by decide : 0 + 0 ≤ _)⟩)
  dsimp only [Pt.U, Pt.locs, Pt.cells, Pt.slots] at X1 l1 y1 z1 st1 hQ1
  subst l1 y1 z1
  obtain ⟨S'_1, V'_1, rfl, N1q, Kc1, o1_0, o1_1, o1_2, o1_3, o1_4, o1_5, o1_6, o1_7, o1_8, o1_9, o1_10, o1_11⟩ := hQ1
  have E_a0_1 := E_a0.keep Kc1
  have W_w_seenIn_a0_1 := W_w_seenIn_a0.keep Kc1 (ninS (Ne.symm ne_a0_w_seenIn_a0) (ninS (Ne.symm ne_w_groupOf_a0_w_seenIn_a0) (ninS (Ne.symm ne_w_sizes_a0_w_seenIn_a0) nin0)))
  have W_w_counted_a0_1 := W_w_counted_a0.keep Kc1 (ninS (Ne.symm ne_a0_w_counted_a0) (ninS (Ne.symm ne_w_groupOf_a0_w_counted_a0) (ninS (Ne.symm ne_w_sizes_a0_w_counted_a0) nin0)))
  have W_a2_1 := W_a2.keep Kc1 (ninS (Ne.symm ne_a0_a2) (ninS (Ne.symm ne_w_groupOf_a0_a2) (ninS (Ne.symm ne_w_sizes_a0_a2) nin0)))
  have N1 := Fr.app N0 N1q
  have Z1 := Nat.le_trans Z0 Kc1.1
  have K1 := K0.trans Kc1 (allS (Or.inl (List.mem_of_getElem? (i := 0) rfl)) (allS (Or.inl (List.mem_of_getElem? (i := 1) rfl)) (allS (Or.inl (List.mem_of_getElem? (i := 2) rfl)) all0)))
  refine go (B := T1.setTop (mkF m 5 #[.val (.ref a0), .val (.int p1), .val (.ref a2), .unset, .unset, .unset, .unset, .unset, .unset] [])) (fun _ k => st1.trans k) ?_
  have hG2 : own_G (List.set LG (p1).toNatClampNeg (-1 : Int32)) w_numbered_a0 := own_Gneg hG
  have hR2 : own_rel LG p1 [] (List.set LG (p1).toNatClampNeg (-1 : Int32)) := own_rel0 hl_LG hbk
  refine go (B := T1.setTop (mkF m 6 #[.val (.ref a0), .val (.int p1), .val (.ref a2), .unset, .unset, .unset, .unset, .unset, .unset] [(.ref a0)])) (fun _ k => XS.aloadN X1.here hx rfl (hb hby d7_5) rfl rfl k) ?_
  refine go (B := T1.setTop (mkF m 7 #[.val (.ref a0), .val (.int p1), .val (.ref a2), .unset, .unset, .unset, .unset, .unset, .unset] [(.ref a0), (.ref a0)])) (fun _ k => XS.dup X1.here hx rfl (hb hby d7_6) rfl rfl k) ?_
  obtain ⟨T3, X3, e3, st3⟩ := getF X1 hx hZ hown (host := "") (Or.inl (hw _ (List.mem_of_getElem? (i := 43) rfl))) Via.refl rfl o1_5 (g := (mkF m 7 #[.val (.ref a0), .val (.int p1), .val (.ref a2), .unset, .unset, .unset, .unset, .unset, .unset] [(.ref a0), (.ref a0)])) rfl rfl (hb hby d7_7)
  refine go (B := T3.setTop (mkF m 10 #[.val (.ref a0), .val (.int p1), .val (.ref a2), .unset, .unset, .unset, .unset, .unset, .unset] [(.int w_counts_a0), (.ref a0)])) st3 ?_
  refine go (B := T3.setTop (mkF m 11 #[.val (.ref a0), .val (.int p1), .val (.ref a2), .unset, .unset, .unset, .unset, .unset, .unset] [(.int (1 : Int32)), (.int w_counts_a0), (.ref a0)])) (fun _ k => XS.iconst X3.here hx rfl (hb hby d7_10) k) ?_
  refine go (B := T3.setTop (mkF m 12 #[.val (.ref a0), .val (.int p1), .val (.ref a2), .unset, .unset, .unset, .unset, .unset, .unset] [(.int (w_counts_a0 + (1 : Int32))), (.ref a0)])) (fun _ k => XS.iadd X3.here hx rfl (hb hby d7_11) rfl k) ?_
  obtain ⟨T4, h4, X4, e4, W4, st4⟩ := putF X3 hx hZ hown (host := "") (Or.inl (hw _ (List.mem_of_getElem? (i := 43) rfl))) Via.refl e3 o1_5 o1_0 (Or.inl (hw _ (List.mem_of_getElem? (i := 44) rfl))) (hw _ (List.mem_of_getElem? (i := 14) rfl)) (ty := .int) (by decide) rfl rfl (g := (mkF m 12 #[.val (.ref a0), .val (.int p1), .val (.ref a2), .unset, .unset, .unset, .unset, .unset, .unset] [(.int (w_counts_a0 + (1 : Int32))), (.ref a0)])) rfl rfl (hb hby d7_12)
  have E_a0_4 := o1_0.wr W4
  have W_w_seenIn_a0_4 := W_w_seenIn_a0_1.other W4 (Ne.symm ne_a0_w_seenIn_a0)
  have W_w_counted_a0_4 := W_w_counted_a0_1.other W4 (Ne.symm ne_a0_w_counted_a0)
  have W_a2_4 := W_a2_1.other W4 (Ne.symm ne_a0_a2)
  have F_sizes_a0_4 := Fld.other W4 o1_1 (Or.inr (slot_ne (Or.inl (hw _ (List.mem_of_getElem? (i := 23) rfl))) (Or.inl (hw _ (List.mem_of_getElem? (i := 44) rfl))) (by decide) (t := (.array .int)) (t' := .int) (by decide) (by decide)))
  have F_seenIn_a0_4 := Fld.other W4 o1_2 (Or.inr (slot_ne (Or.inl (hw _ (List.mem_of_getElem? (i := 25) rfl))) (Or.inl (hw _ (List.mem_of_getElem? (i := 44) rfl))) (by decide) (t := (.array .int)) (t' := .int) (by decide) (by decide)))
  have F_counted_a0_4 := Fld.other W4 o1_3 (Or.inr (slot_ne (Or.inl (hw _ (List.mem_of_getElem? (i := 27) rfl))) (Or.inl (hw _ (List.mem_of_getElem? (i := 44) rfl))) (by decide) (t := (.array .int)) (t' := .int) (by decide) (by decide)))
  have F_groupOf_a0_4 := Fld.other W4 o1_4 (Or.inr (slot_ne (Or.inr (hw _ (List.mem_of_getElem? (i := 29) rfl))) (Or.inl (hw _ (List.mem_of_getElem? (i := 44) rfl))) (by decide) (t := (.array .int)) (t' := .int) (by decide) (by decide)))
  have F_numbered_a0_4 := Fld.other W4 o1_6 (Or.inr (slot_ne (Or.inl (hw _ (List.mem_of_getElem? (i := 58) rfl))) (Or.inl (hw _ (List.mem_of_getElem? (i := 44) rfl))) (by decide) (t := .int) (t' := .int) (by decide) (by decide)))
  have F_live_a0_4 := Fld.other W4 o1_7 (Or.inr (slot_ne (Or.inl (hw _ (List.mem_of_getElem? (i := 60) rfl))) (Or.inl (hw _ (List.mem_of_getElem? (i := 44) rfl))) (by decide) (t := .int) (t' := .int) (by decide) (by decide)))
  have W_w_groupOf_a0_4 := o1_8.other W4 (Ne.symm ne_a0_w_groupOf_a0)
  have W_w_sizes_a0_4 := o1_10.other W4 (Ne.symm ne_a0_w_sizes_a0)
  have F_counts_a0_4 := Fld.same W4 o1_5
  have Z4 := Nat.le_trans Z1 (Keep.of_wr W4).1
  have K4 := K1.wr W4 (Or.inl (List.mem_of_getElem? (i := 0) rfl))
  have N4 := Fr.snoc X4 N1 g_a0
  refine go (B := T4.setTop (mkF m 15 #[.val (.ref a0), .val (.int p1), .val (.ref a2), .unset, .unset, .unset, .unset, .unset, .unset] [])) st4 ?_
  have hJ5 : own_J LI LC (w_counts_a0 + (1 : Int32)) w_numbered_a0 := own_Jstart hI hKc hl_LC
  have hB5 : 0 ≤ (w_numbered_a0).toInt ∧ (w_numbered_a0).toInt ≤ w_numbered_a0.toInt + 0 := ⟨hG.2.1, by omega⟩
  refine go (B := T4.setTop (mkF m 16 #[.val (.ref a0), .val (.int p1), .val (.ref a2), .unset, .unset, .unset, .unset, .unset, .unset] [(.ref a2)])) (fun _ k => XS.aloadN X4.here hx rfl (hb hby d7_15) rfl rfl k) ?_
  refine go (B := T4.setTop (mkF m 17 #[.val (.ref a0), .val (.int p1), .val (.ref a2), .val (.ref a2), .unset, .unset, .unset, .unset, .unset] [])) (fun _ k => XS.astoreN X4.here hx rfl (hb hby d7_16) rfl rfl (l' := #[.val (.ref a0), .val (.int p1), .val (.ref a2), .val (.ref a2), .unset, .unset, .unset, .unset, .unset]) rfl k) ?_
  refine go (B := T4.setTop (mkF m 18 #[.val (.ref a0), .val (.int p1), .val (.ref a2), .val (.ref a2), .unset, .unset, .unset, .unset, .unset] [(.ref a2)])) (fun _ k => XS.aloadN X4.here hx rfl (hb hby d7_17) rfl rfl k) ?_
  obtain ⟨cl6, Ar6, ln6⟩ := Arl.len W_a2_4
  rw [hl_L_a2] at ln6
  refine go (B := T4.setTop (mkF m 19 #[.val (.ref a0), .val (.int p1), .val (.ref a2), .val (.ref a2), .unset, .unset, .unset, .unset, .unset] [(.int (1 : Int32))])) (fun _ k => X4.arraylength hx (by rw [e4]; exact Ar6.1) (State.isArrayOf_alike hZ.alike Ar6.2.1) (g := (mkF m 18 #[.val (.ref a0), .val (.int p1), .val (.ref a2), .val (.ref a2), .unset, .unset, .unset, .unset, .unset] [(.ref a2)])) rfl rfl (hb hby d7_18) _ (by rw [ln6]; exact k)) ?_
  refine go (B := T4.setTop (mkF m 21 #[.val (.ref a0), .val (.int p1), .val (.ref a2), .val (.ref a2), .val (.int (1 : Int32)), .unset, .unset, .unset, .unset] [])) (fun _ k => XS.istore X4.here hx rfl (hb hby d7_19) rfl (l' := #[.val (.ref a0), .val (.int p1), .val (.ref a2), .val (.ref a2), .val (.int (1 : Int32)), .unset, .unset, .unset, .unset]) rfl k) ?_
  refine go (B := T4.setTop (mkF m 22 #[.val (.ref a0), .val (.int p1), .val (.ref a2), .val (.ref a2), .val (.int (1 : Int32)), .unset, .unset, .unset, .unset] [(.int (0 : Int32))])) (fun _ k => XS.iconst X4.here hx rfl (hb hby d7_21) k) ?_
  refine go (B := T4.setTop (mkF m 24 #[.val (.ref a0), .val (.int p1), .val (.ref a2), .val (.ref a2), .val (.int (1 : Int32)), .val (.int (0 : Int32)), .unset, .unset, .unset] [])) (fun _ k => XS.istore X4.here hx rfl (hb hby d7_22) rfl (l' := #[.val (.ref a0), .val (.int p1), .val (.ref a2), .val (.ref a2), .val (.int (1 : Int32)), .val (.int (0 : Int32)), .unset, .unset, .unset]) rfl k) ?_
  refine go (B := T4.setTop (mkF m 26 #[.val (.ref a0), .val (.int p1), .val (.ref a2), .val (.ref a2), .val (.int (1 : Int32)), .val (.int (0 : Int32)), .unset, .unset, .unset] [(.int (0 : Int32))])) (fun _ k => XS.iload X4.here hx rfl (hb hby d7_24) rfl k) ?_
  refine go (B := T4.setTop (mkF m 28 #[.val (.ref a0), .val (.int p1), .val (.ref a2), .val (.ref a2), .val (.int (1 : Int32)), .val (.int (0 : Int32)), .unset, .unset, .unset] [(.int (1 : Int32)), (.int (0 : Int32))])) (fun _ k => XS.iload X4.here hx rfl (hb hby d7_26) rfl k) ?_
  refine go (B := T4.setTop (mkF m 31 #[.val (.ref a0), .val (.int p1), .val (.ref a2), .val (.ref a2), .val (.int (1 : Int32)), .val (.int (0 : Int32)), .unset, .unset, .unset] [])) (fun _ k => XS.icmpNo X4.here hx rfl (hb hby d7_28) rfl (tlt (by decide : (0 : Int32) < (1 : Int32))).2.1 k) ?_
  refine go (B := T4.setTop (mkF m 32 #[.val (.ref a0), .val (.int p1), .val (.ref a2), .val (.ref a2), .val (.int (1 : Int32)), .val (.int (0 : Int32)), .unset, .unset, .unset] [(.ref a2)])) (fun _ k => XS.aloadN X4.here hx rfl (hb hby d7_31) rfl rfl k) ?_
  refine go (B := T4.setTop (mkF m 34 #[.val (.ref a0), .val (.int p1), .val (.ref a2), .val (.ref a2), .val (.int (1 : Int32)), .val (.int (0 : Int32)), .unset, .unset, .unset] [(.int (0 : Int32)), (.ref a2)])) (fun _ k => XS.iload X4.here hx rfl (hb hby d7_32) rfl k) ?_
  obtain ⟨cl7, Ar7, hin7, hat7, up7⟩ := Arl.in W_a2_4 (j := (0 : Int32)) (by decide) (own_lit (n := 1) (by decide) hl_L_a2)
  refine go (B := T4.setTop (mkF m 35 #[.val (.ref a0), .val (.int p1), .val (.ref a2), .val (.ref a2), .val (.int (1 : Int32)), .val (.int (0 : Int32)), .unset, .unset, .unset] [(.int (List.getD L_a2 0 0))])) (fun _ k => X4.iaload hx (j := (0 : Int32)) (v := (.int (List.getD L_a2 0 0))) (by rw [e4]; exact Ar7.1) (State.isArrayOf_alike hZ.alike Ar7.2.1) Ar7.2.2 hin7 hat7 (g := (mkF m 34 #[.val (.ref a0), .val (.int p1), .val (.ref a2), .val (.ref a2), .val (.int (1 : Int32)), .val (.int (0 : Int32)), .unset, .unset, .unset] [(.int (0 : Int32)), (.ref a2)])) rfl rfl (hb hby d7_34) _ k) ?_
  refine go (B := T4.setTop (mkF m 37 #[.val (.ref a0), .val (.int p1), .val (.ref a2), .val (.ref a2), .val (.int (1 : Int32)), .val (.int (0 : Int32)), .val (.int (List.getD L_a2 0 0)), .unset, .unset] [])) (fun _ k => XS.istore X4.here hx rfl (hb hby d7_35) rfl (l' := #[.val (.ref a0), .val (.int p1), .val (.ref a2), .val (.ref a2), .val (.int (1 : Int32)), .val (.int (0 : Int32)), .val (.int (List.getD L_a2 0 0)), .unset, .unset]) rfl k) ?_
  refine go (B := T4.setTop (mkF m 38 #[.val (.ref a0), .val (.int p1), .val (.ref a2), .val (.ref a2), .val (.int (1 : Int32)), .val (.int (0 : Int32)), .val (.int (List.getD L_a2 0 0)), .unset, .unset] [(.ref a0)])) (fun _ k => XS.aloadN X4.here hx rfl (hb hby d7_37) rfl rfl k) ?_
  obtain ⟨T8, X8, e8, st8⟩ := getF X4 hx hZ hown (host := "") (Or.inl (hw _ (List.mem_of_getElem? (i := 28) rfl))) Via.refl e4 F_groupOf_a0_4 (g := (mkF m 38 #[.val (.ref a0), .val (.int p1), .val (.ref a2), .val (.ref a2), .val (.int (1 : Int32)), .val (.int (0 : Int32)), .val (.int (List.getD L_a2 0 0)), .unset, .unset] [(.ref a0)])) rfl rfl (hb hby d7_38)
  refine go (B := T8.setTop (mkF m 41 #[.val (.ref a0), .val (.int p1), .val (.ref a2), .val (.ref a2), .val (.int (1 : Int32)), .val (.int (0 : Int32)), .val (.int (List.getD L_a2 0 0)), .unset, .unset] [(.ref w_groupOf_a0)])) st8 ?_
  refine go (B := T8.setTop (mkF m 43 #[.val (.ref a0), .val (.int p1), .val (.ref a2), .val (.ref a2), .val (.int (1 : Int32)), .val (.int (0 : Int32)), .val (.int (List.getD L_a2 0 0)), .unset, .unset] [(.int (List.getD L_a2 0 0)), (.ref w_groupOf_a0)])) (fun _ k => XS.iload X8.here hx rfl (hb hby d7_41) rfl k) ?_
  obtain ⟨cl9, Ar9, hin9, hat9, up9⟩ := Arl.in W_w_groupOf_a0_4 (j := (List.getD L_a2 0 0)) (own_mem hch hl_L_a2 0).1 (own_lit (own_mem hch hl_L_a2 0).2 o1_9)
  refine go (B := T8.setTop (mkF m 44 #[.val (.ref a0), .val (.int p1), .val (.ref a2), .val (.ref a2), .val (.int (1 : Int32)), .val (.int (0 : Int32)), .val (.int (List.getD L_a2 0 0)), .unset, .unset] [(.int (f7n1_t0 p1 LG L_a2))])) (fun _ k => X8.iaload hx (j := (List.getD L_a2 0 0)) (v := (.int (f7n1_t0 p1 LG L_a2))) (by rw [e8]; exact Ar9.1) (State.isArrayOf_alike hZ.alike Ar9.2.1) Ar9.2.2 hin9 hat9 (g := (mkF m 43 #[.val (.ref a0), .val (.int p1), .val (.ref a2), .val (.ref a2), .val (.int (1 : Int32)), .val (.int (0 : Int32)), .val (.int (List.getD L_a2 0 0)), .unset, .unset] [(.int (List.getD L_a2 0 0)), (.ref w_groupOf_a0)])) rfl rfl (hb hby d7_43) _ k) ?_
  refine go (B := T8.setTop (mkF m 45 #[.val (.ref a0), .val (.int p1), .val (.ref a2), .val (.ref a2), .val (.int (1 : Int32)), .val (.int (0 : Int32)), .val (.int (List.getD L_a2 0 0)), .unset, .unset] [(.int (1 : Int32)), (.int (f7n1_t0 p1 LG L_a2))])) (fun _ k => XS.iconst X8.here hx rfl (hb hby d7_44) k) ?_
  refine go (B := T8.setTop (mkF m 46 #[.val (.ref a0), .val (.int p1), .val (.ref a2), .val (.ref a2), .val (.int (1 : Int32)), .val (.int (0 : Int32)), .val (.int (List.getD L_a2 0 0)), .unset, .unset] [(.int ((f7n1_t0 p1 LG L_a2) + (1 : Int32)))])) (fun _ k => XS.iadd X8.here hx rfl (hb hby d7_45) rfl k) ?_
  refine go (B := T8.setTop (mkF m 48 #[.val (.ref a0), .val (.int p1), .val (.ref a2), .val (.ref a2), .val (.int (1 : Int32)), .val (.int (0 : Int32)), .val (.int (List.getD L_a2 0 0)), .val (.int ((f7n1_t0 p1 LG L_a2) + (1 : Int32))), .unset] [])) (fun _ k => XS.istore X8.here hx rfl (hb hby d7_46) rfl (l' := #[.val (.ref a0), .val (.int p1), .val (.ref a2), .val (.ref a2), .val (.int (1 : Int32)), .val (.int (0 : Int32)), .val (.int (List.getD L_a2 0 0)), .val (.int ((f7n1_t0 p1 LG L_a2) + (1 : Int32))), .unset]) rfl k) ?_
  have hf10 : ¬ (((f7n1_t0 p1 LG L_a2) + (1 : Int32))) < 0 ∧ (((f7n1_t0 p1 LG L_a2) + (1 : Int32))).toNatClampNeg < 17 := own_bf hG2 (own_mem hch hl_L_a2 0)
  refine go (B := T8.setTop (mkF m 49 #[.val (.ref a0), .val (.int p1), .val (.ref a2), .val (.ref a2), .val (.int (1 : Int32)), .val (.int (0 : Int32)), .val (.int (List.getD L_a2 0 0)), .val (.int ((f7n1_t0 p1 LG L_a2) + (1 : Int32))), .unset] [(.ref a0)])) (fun _ k => XS.aloadN X8.here hx rfl (hb hby d7_48) rfl rfl k) ?_
  refine go (B := T8.setTop (mkF m 51 #[.val (.ref a0), .val (.int p1), .val (.ref a2), .val (.ref a2), .val (.int (1 : Int32)), .val (.int (0 : Int32)), .val (.int (List.getD L_a2 0 0)), .val (.int ((f7n1_t0 p1 LG L_a2) + (1 : Int32))), .unset] [(.int (List.getD L_a2 0 0)), (.ref a0)])) (fun _ k => XS.iload X8.here hx rfl (hb hby d7_49) rfl k) ?_
  obtain ⟨cq11, q11, q11'⟩ := E_a0_4.cell
  obtain ⟨_, _, ⟨T11, L11, k11, n11⟩, -, X11, ⟨Lc11, hQ11, l11, y11, z11⟩, st11⟩ := X8.privateBack hx (y := (⟨"com/example/constrained_flow/constrainedflow/planner/search/Sweep$Groups", "leave", "(I)V"⟩ : MethodName)) hown (mvT hZ (hw _ (List.mem_of_getElem? (i := 39) rfl))) (mvT hZ (hw _ (List.mem_of_getElem? (i := 40) rfl))) (own_selp hZ (hw _ (List.mem_of_getElem? (i := 14) rfl)) (hw _ (List.mem_of_getElem? (i := 41) rfl)) (hw _ (List.mem_of_getElem? (i := 40) rfl)) (by decide)) (Cond.privateMethod_at (mvP hZ (hw _ (List.mem_of_getElem? (i := 41) rfl)) (args := #[]))) (mvT hZ (hw _ (List.mem_of_getElem? (i := 42) rfl))) (by decide) (backOf (W := 0) (rm8 l Z aw hw [] a0 (List.getD L_a2 0 0) w_sizes_a0 w_seenIn_a0 w_counted_a0 w_groupOf_a0 (w_counts_a0 + (1 : Int32)) w_numbered_a0 V'_1 (List.set LG (p1).toNatClampNeg (-1 : Int32)) S'_1 h4 n0 Z4 F_sizes_a0_4 F_seenIn_a0_4 F_counted_a0_4 F_groupOf_a0_4 F_counts_a0_4 F_numbered_a0_4 F_live_a0_4 E_a0_4 W_w_groupOf_a0_4 o1_9 W_w_sizes_a0_4 o1_11 ne_a0_w_groupOf_a0 ne_a0_w_sizes_a0 ne_w_groupOf_a0_w_sizes_a0 hG2 (own_mem hch hl_L_a2 0) g_w_groupOf_a0 g_w_sizes_a0 g_a0) hZ (hw _ (List.mem_of_getElem? (i := 42) rfl)) (hw _ (List.mem_of_getElem? (i := 15) rfl)) (by decide) (by decide)) (g := (mkF m 51 #[.val (.ref a0), .val (.int p1), .val (.ref a2), .val (.ref a2), .val (.int (1 : Int32)), .val (.int (0 : Int32)), .val (.int (List.getD L_a2 0 0)), .val (.int ((f7n1_t0 p1 LG L_a2) + (1 : Int32))), .unset] [(.int (List.getD L_a2 0 0)), (.ref a0)])) rfl (by rw [hml]; rfl) (Steps.refl _) (a := a0) (by rw [e8]; exact q11) q11' (argsL := [(.int (List.getD L_a2 0 0))]) (rest := []) (lenOf pd_3 rfl) rfl (by show 2 * 0 + _ ≤ _; exact Nat.le_of_eq rfl) (hb hby d7_51) (fun _ _ => ⟨rfl, e8, (by decide : 0 + 0 ≤ _), (by decide : 0 + 0 ≤ _)⟩)
  dsimp only [Pt.U, Pt.locs, Pt.cells, Pt.slots] at X11 l11 y11 z11 st11 hQ11
  subst l11 y11 z11
  obtain ⟨S'_11, V'_11, rfl, N11q, Kc11, o11_0, o11_1, o11_2, o11_3, o11_4, o11_5, o11_6, o11_7, o11_8, o11_9, o11_10, o11_11⟩ := hQ11
  have E_a0_11 := E_a0_4.keep Kc11
  have W_w_seenIn_a0_11 := W_w_seenIn_a0_4.keep Kc11 (ninS (Ne.symm ne_a0_w_seenIn_a0) (ninS (Ne.symm ne_w_groupOf_a0_w_seenIn_a0) (ninS (Ne.symm ne_w_sizes_a0_w_seenIn_a0) nin0)))
  have W_w_counted_a0_11 := W_w_counted_a0_4.keep Kc11 (ninS (Ne.symm ne_a0_w_counted_a0) (ninS (Ne.symm ne_w_groupOf_a0_w_counted_a0) (ninS (Ne.symm ne_w_sizes_a0_w_counted_a0) nin0)))
  have W_a2_11 := W_a2_4.keep Kc11 (ninS (Ne.symm ne_a0_a2) (ninS (Ne.symm ne_w_groupOf_a0_a2) (ninS (Ne.symm ne_w_sizes_a0_a2) nin0)))
  have N11 := Fr.app N4 N11q
  have Z11 := Nat.le_trans Z4 Kc11.1
  have K11 := K4.trans Kc11 (allS (Or.inl (List.mem_of_getElem? (i := 0) rfl)) (allS (Or.inl (List.mem_of_getElem? (i := 1) rfl)) (allS (Or.inl (List.mem_of_getElem? (i := 2) rfl)) all0)))
  refine go (B := T11.setTop (mkF m 54 #[.val (.ref a0), .val (.int p1), .val (.ref a2), .val (.ref a2), .val (.int (1 : Int32)), .val (.int (0 : Int32)), .val (.int (List.getD L_a2 0 0)), .val (.int ((f7n1_t0 p1 LG L_a2) + (1 : Int32))), .unset] [])) (fun _ k => st11.trans k) ?_
  have hG12 : own_G (List.set (List.set LG (p1).toNatClampNeg (-1 : Int32)) ((List.getD L_a2 0 0)).toNatClampNeg (-1 : Int32)) w_numbered_a0 := own_Gneg hG2
  refine go (B := T11.setTop (mkF m 55 #[.val (.ref a0), .val (.int p1), .val (.ref a2), .val (.ref a2), .val (.int (1 : Int32)), .val (.int (0 : Int32)), .val (.int (List.getD L_a2 0 0)), .val (.int ((f7n1_t0 p1 LG L_a2) + (1 : Int32))), .unset] [(.ref a0)])) (fun _ k => XS.aloadN X11.here hx rfl (hb hby d7_54) rfl rfl k) ?_
  obtain ⟨T13, X13, e13, st13⟩ := getF X11 hx hZ hown (host := "") (Or.inl (hw _ (List.mem_of_getElem? (i := 24) rfl))) Via.refl rfl o11_2 (g := (mkF m 55 #[.val (.ref a0), .val (.int p1), .val (.ref a2), .val (.ref a2), .val (.int (1 : Int32)), .val (.int (0 : Int32)), .val (.int (List.getD L_a2 0 0)), .val (.int ((f7n1_t0 p1 LG L_a2) + (1 : Int32))), .unset] [(.ref a0)])) rfl rfl (hb hby d7_55)
  refine go (B := T13.setTop (mkF m 58 #[.val (.ref a0), .val (.int p1), .val (.ref a2), .val (.ref a2), .val (.int (1 : Int32)), .val (.int (0 : Int32)), .val (.int (List.getD L_a2 0 0)), .val (.int ((f7n1_t0 p1 LG L_a2) + (1 : Int32))), .unset] [(.ref w_seenIn_a0)])) st13 ?_
  refine go (B := T13.setTop (mkF m 60 #[.val (.ref a0), .val (.int p1), .val (.ref a2), .val (.ref a2), .val (.int (1 : Int32)), .val (.int (0 : Int32)), .val (.int (List.getD L_a2 0 0)), .val (.int ((f7n1_t0 p1 LG L_a2) + (1 : Int32))), .unset] [(.int ((f7n1_t0 p1 LG L_a2) + (1 : Int32))), (.ref w_seenIn_a0)])) (fun _ k => XS.iload X13.here hx rfl (hb hby d7_58) rfl k) ?_
  obtain ⟨cl14, Ar14, hin14, hat14, up14⟩ := Arl.in W_w_seenIn_a0_11 (j := ((f7n1_t0 p1 LG L_a2) + (1 : Int32))) hf10.1 (own_lit hf10.2 hl_LI)
  refine go (B := T13.setTop (mkF m 61 #[.val (.ref a0), .val (.int p1), .val (.ref a2), .val (.ref a2), .val (.int (1 : Int32)), .val (.int (0 : Int32)), .val (.int (List.getD L_a2 0 0)), .val (.int ((f7n1_t0 p1 LG L_a2) + (1 : Int32))), .unset] [(.int (List.getD LI (((f7n1_t0 p1 LG L_a2) + (1 : Int32))).toNatClampNeg 0))])) (fun _ k => X13.iaload hx (j := ((f7n1_t0 p1 LG L_a2) + (1 : Int32))) (v := (.int (List.getD LI (((f7n1_t0 p1 LG L_a2) + (1 : Int32))).toNatClampNeg 0))) (by rw [e13]; exact Ar14.1) (State.isArrayOf_alike hZ.alike Ar14.2.1) Ar14.2.2 hin14 hat14 (g := (mkF m 60 #[.val (.ref a0), .val (.int p1), .val (.ref a2), .val (.ref a2), .val (.int (1 : Int32)), .val (.int (0 : Int32)), .val (.int (List.getD L_a2 0 0)), .val (.int ((f7n1_t0 p1 LG L_a2) + (1 : Int32))), .unset] [(.int ((f7n1_t0 p1 LG L_a2) + (1 : Int32))), (.ref w_seenIn_a0)])) rfl rfl (hb hby d7_60) _ k) ?_
  refine go (B := T13.setTop (mkF m 62 #[.val (.ref a0), .val (.int p1), .val (.ref a2), .val (.ref a2), .val (.int (1 : Int32)), .val (.int (0 : Int32)), .val (.int (List.getD L_a2 0 0)), .val (.int ((f7n1_t0 p1 LG L_a2) + (1 : Int32))), .unset] [(.ref a0), (.int (List.getD LI (((f7n1_t0 p1 LG L_a2) + (1 : Int32))).toNatClampNeg 0))])) (fun _ k => XS.aloadN X13.here hx rfl (hb hby d7_61) rfl rfl k) ?_
  obtain ⟨T15, X15, e15, st15⟩ := getF X13 hx hZ hown (host := "") (Or.inl (hw _ (List.mem_of_getElem? (i := 43) rfl))) Via.refl e13 o11_5 (g := (mkF m 62 #[.val (.ref a0), .val (.int p1), .val (.ref a2), .val (.ref a2), .val (.int (1 : Int32)), .val (.int (0 : Int32)), .val (.int (List.getD L_a2 0 0)), .val (.int ((f7n1_t0 p1 LG L_a2) + (1 : Int32))), .unset] [(.ref a0), (.int (List.getD LI (((f7n1_t0 p1 LG L_a2) + (1 : Int32))).toNatClampNeg 0))])) rfl rfl (hb hby d7_62)
  refine go (B := T15.setTop (mkF m 65 #[.val (.ref a0), .val (.int p1), .val (.ref a2), .val (.ref a2), .val (.int (1 : Int32)), .val (.int (0 : Int32)), .val (.int (List.getD L_a2 0 0)), .val (.int ((f7n1_t0 p1 LG L_a2) + (1 : Int32))), .unset] [(.int (w_counts_a0 + (1 : Int32))), (.int (List.getD LI (((f7n1_t0 p1 LG L_a2) + (1 : Int32))).toNatClampNeg 0))])) st15 ?_
  suffices Kj16 : ∀ (sl16_8 : Slot) (T16 : State) (h16 : Heap) (L16 : List Loc), One sl16_8 → Stand p l e room7n1 s m #[(.ref a0), (.int p1), (.ref a2)] below meth c T16 L16 0 0 → Fr n0 L16 → T16.heap = h16 → n0 ≤ h16.size → Keep h0 h16 [a0, w_groupOf_a0, w_sizes_a0, w_seenIn_a0, w_counted_a0] → Exa Z h16 a0 "com/example/constrained_flow/constrainedflow/planner/search/Sweep$Groups" → Arl Z h16 w_seenIn_a0 .int (f7n1_l2 p1 w_counts_a0 LG LI L_a2) → Arl Z h16 w_counted_a0 .int (f7n1_l3 p1 w_counts_a0 w_numbered_a0 LG LI LC L_a2) → Arl Z h16 a2 .int L_a2 → Fld Z h16 a0 "com/example/constrained_flow/constrainedflow/planner/search/Sweep$Groups" "sizes" "[I" (.ref w_sizes_a0) → Fld Z h16 a0 "com/example/constrained_flow/constrainedflow/planner/search/Sweep$Groups" "seenIn" "[I" (.ref w_seenIn_a0) → Fld Z h16 a0 "com/example/constrained_flow/constrainedflow/planner/search/Sweep$Groups" "counted" "[I" (.ref w_counted_a0) → Fld Z h16 a0 "com/example/constrained_flow/constrainedflow/planner/search/Sweep$Groups" "groupOf" "[I" (.ref w_groupOf_a0) → Fld Z h16 a0 "com/example/constrained_flow/constrainedflow/planner/search/Sweep$Groups" "counts" "I" (.int (w_counts_a0 + (1 : Int32))) → Fld Z h16 a0 "com/example/constrained_flow/constrainedflow/planner/search/Sweep$Groups" "numbered" "I" (.int (f7n1_z4 p1 w_counts_a0 w_numbered_a0 LG LI L_a2)) → Fld Z h16 a0 "com/example/constrained_flow/constrainedflow/planner/search/Sweep$Groups" "live" "I" (.int V'_11) → Arl Z h16 w_groupOf_a0 .int (List.set (List.set LG (p1).toNatClampNeg (-1 : Int32)) ((List.getD L_a2 0 0)).toNatClampNeg (-1 : Int32)) → Arl Z h16 w_sizes_a0 .int S'_11 → (f7n1_l2 p1 w_counts_a0 LG LI L_a2).length = 17 → (f7n1_l3 p1 w_counts_a0 w_numbered_a0 LG LI LC L_a2).length = 17 → Go p.tables e below F (T16.setTop (mkF m 94 #[.val (.ref a0), .val (.int p1), .val (.ref a2), .val (.ref a2), .val (.int (1 : Int32)), .val (.int (0 : Int32)), .val (.int (List.getD L_a2 0 0)), .val (.int ((f7n1_t0 p1 LG L_a2) + (1 : Int32))), sl16_8] [])) by
    by_cases hc17 : (List.getD LI (((f7n1_t0 p1 LG L_a2) + (1 : Int32))).toNatClampNeg 0) = (w_counts_a0 + (1 : Int32))
    · refine go (B := T15.setTop (mkF m 94 #[.val (.ref a0), .val (.int p1), .val (.ref a2), .val (.ref a2), .val (.int (1 : Int32)), .val (.int (0 : Int32)), .val (.int (List.getD L_a2 0 0)), .val (.int ((f7n1_t0 p1 LG L_a2) + (1 : Int32))), .unset] [])) (fun _ k => XS.icmpYes X15.here hx rfl (pc0 := 65) (pc' := 94) rfl (hb hby d7_65) rfl (teq hc17).1 (by decide) (by decide) k) ?_
      rw [show (f7n1_l2 p1 w_counts_a0 LG LI L_a2) = LI from by unfold f7n1_l2; rw [if_pos hc17]] at Kj16
      rw [show (f7n1_l3 p1 w_counts_a0 w_numbered_a0 LG LI LC L_a2) = LC from by unfold f7n1_l3; rw [if_pos hc17]] at Kj16
      rw [show (f7n1_z4 p1 w_counts_a0 w_numbered_a0 LG LI L_a2) = w_numbered_a0 from by unfold f7n1_z4; rw [if_pos hc17]] at Kj16
      exact Kj16 _ _ _ _ One.u X15 N11 e15 Z11 K11 o11_0 W_w_seenIn_a0_11 W_w_counted_a0_11 W_a2_11 o11_1 o11_2 o11_3 o11_4 o11_5 o11_6 o11_7 o11_8 o11_10 hl_LI hl_LC
    · refine go (B := T15.setTop (mkF m 68 #[.val (.ref a0), .val (.int p1), .val (.ref a2), .val (.ref a2), .val (.int (1 : Int32)), .val (.int (0 : Int32)), .val (.int (List.getD L_a2 0 0)), .val (.int ((f7n1_t0 p1 LG L_a2) + (1 : Int32))), .unset] [])) (fun _ k => XS.icmpNo X15.here hx rfl (hb hby d7_65) rfl (feq hc17).1 k) ?_
      refine go (B := T15.setTop (mkF m 69 #[.val (.ref a0), .val (.int p1), .val (.ref a2), .val (.ref a2), .val (.int (1 : Int32)), .val (.int (0 : Int32)), .val (.int (List.getD L_a2 0 0)), .val (.int ((f7n1_t0 p1 LG L_a2) + (1 : Int32))), .unset] [(.ref a0)])) (fun _ k => XS.aloadN X15.here hx rfl (hb hby d7_68) rfl rfl k) ?_
      obtain ⟨cq18, q18, q18'⟩ := o11_0.cell
      obtain ⟨_, _, ⟨T18, L18, k18, n18⟩, -, X18, ⟨Lc18, hQ18, l18, y18, z18⟩, st18⟩ := X15.privateBack hx (y := (⟨"com/example/constrained_flow/constrainedflow/planner/search/Sweep$Groups", "number", "()I"⟩ : MethodName)) hown (mvT hZ (hw _ (List.mem_of_getElem? (i := 53) rfl))) (mvT hZ (hw _ (List.mem_of_getElem? (i := 54) rfl))) (own_selp hZ (hw _ (List.mem_of_getElem? (i := 14) rfl)) (hw _ (List.mem_of_getElem? (i := 55) rfl)) (hw _ (List.mem_of_getElem? (i := 54) rfl)) (by decide)) (Cond.privateMethod_at (mvP hZ (hw _ (List.mem_of_getElem? (i := 55) rfl)) (args := #[]))) (mvT hZ (hw _ (List.mem_of_getElem? (i := 56) rfl))) (by decide) (backOf (W := 0) (rm11 l Z aw hw [] a0 w_sizes_a0 w_seenIn_a0 w_counted_a0 w_groupOf_a0 (w_counts_a0 + (1 : Int32)) w_numbered_a0 V'_11 S'_11 T11.heap n0 Z11 o11_1 o11_2 o11_3 o11_4 o11_5 o11_6 o11_7 o11_0 o11_10 o11_11 ne_a0_w_sizes_a0 (show ¬ (w_numbered_a0 = (16 : Int32)) from own_n16 hG12) g_a0) hZ (hw _ (List.mem_of_getElem? (i := 56) rfl)) (hw _ (List.mem_of_getElem? (i := 15) rfl)) (by decide) (by decide)) (g := (mkF m 69 #[.val (.ref a0), .val (.int p1), .val (.ref a2), .val (.ref a2), .val (.int (1 : Int32)), .val (.int (0 : Int32)), .val (.int (List.getD L_a2 0 0)), .val (.int ((f7n1_t0 p1 LG L_a2) + (1 : Int32))), .unset] [(.ref a0)])) rfl (by rw [hml]; rfl) (Steps.refl _) (a := a0) (by rw [e15]; exact q18) q18' (argsL := []) (rest := []) (lenOf pd_4 rfl) rfl (by show 2 * 0 + _ ≤ _; exact Nat.le_of_eq rfl) (hb hby d7_69) (fun _ _ => ⟨rfl, e15, (by decide : 0 + 0 ≤ _), (by decide : 0 + 0 ≤ _)⟩)
      dsimp only [Pt.U, Pt.locs, Pt.cells, Pt.slots] at X18 l18 y18 z18 st18 hQ18
      subst l18 y18 z18
      obtain ⟨rfl, N18q, Kc18, o18_0, o18_1, o18_2, o18_3, o18_4, o18_5, o18_6, o18_7⟩ := hQ18
      have E_a0_18 := o11_0.keep Kc18
      have W_w_seenIn_a0_18 := W_w_seenIn_a0_11.keep Kc18 (ninS (Ne.symm ne_a0_w_seenIn_a0) nin0)
      have W_w_counted_a0_18 := W_w_counted_a0_11.keep Kc18 (ninS (Ne.symm ne_a0_w_counted_a0) nin0)
      have W_a2_18 := W_a2_11.keep Kc18 (ninS (Ne.symm ne_a0_a2) nin0)
      have W_w_groupOf_a0_18 := o11_8.keep Kc18 (ninS (Ne.symm ne_a0_w_groupOf_a0) nin0)
      have W_w_sizes_a0_18 := o11_10.keep Kc18 (ninS (Ne.symm ne_a0_w_sizes_a0) nin0)
      have N18 := Fr.app N11 N18q
      have Z18 := Nat.le_trans Z11 Kc18.1
      have K18 := K11.trans Kc18 (allS (Or.inl (List.mem_of_getElem? (i := 0) rfl)) all0)
      refine go (B := T18.setTop (mkF m 72 #[.val (.ref a0), .val (.int p1), .val (.ref a2), .val (.ref a2), .val (.int (1 : Int32)), .val (.int (0 : Int32)), .val (.int (List.getD L_a2 0 0)), .val (.int ((f7n1_t0 p1 LG L_a2) + (1 : Int32))), .unset] [(.int (f11 w_numbered_a0))])) (fun _ k => st18.trans k) ?_
      refine go (B := T18.setTop (mkF m 74 #[.val (.ref a0), .val (.int p1), .val (.ref a2), .val (.ref a2), .val (.int (1 : Int32)), .val (.int (0 : Int32)), .val (.int (List.getD L_a2 0 0)), .val (.int ((f7n1_t0 p1 LG L_a2) + (1 : Int32))), .val (.int (f11 w_numbered_a0))] [])) (fun _ k => XS.istore X18.here hx rfl (hb hby d7_72) rfl (l' := #[.val (.ref a0), .val (.int p1), .val (.ref a2), .val (.ref a2), .val (.int (1 : Int32)), .val (.int (0 : Int32)), .val (.int (List.getD L_a2 0 0)), .val (.int ((f7n1_t0 p1 LG L_a2) + (1 : Int32))), .val (.int (f11 w_numbered_a0))]) rfl k) ?_
      refine go (B := T18.setTop (mkF m 75 #[.val (.ref a0), .val (.int p1), .val (.ref a2), .val (.ref a2), .val (.int (1 : Int32)), .val (.int (0 : Int32)), .val (.int (List.getD L_a2 0 0)), .val (.int ((f7n1_t0 p1 LG L_a2) + (1 : Int32))), .val (.int (f11 w_numbered_a0))] [(.ref a0)])) (fun _ k => XS.aloadN X18.here hx rfl (hb hby d7_74) rfl rfl k) ?_
      obtain ⟨T19, X19, e19, st19⟩ := getF X18 hx hZ hown (host := "") (Or.inl (hw _ (List.mem_of_getElem? (i := 24) rfl))) Via.refl rfl o18_1 (g := (mkF m 75 #[.val (.ref a0), .val (.int p1), .val (.ref a2), .val (.ref a2), .val (.int (1 : Int32)), .val (.int (0 : Int32)), .val (.int (List.getD L_a2 0 0)), .val (.int ((f7n1_t0 p1 LG L_a2) + (1 : Int32))), .val (.int (f11 w_numbered_a0))] [(.ref a0)])) rfl rfl (hb hby d7_75)
      refine go (B := T19.setTop (mkF m 78 #[.val (.ref a0), .val (.int p1), .val (.ref a2), .val (.ref a2), .val (.int (1 : Int32)), .val (.int (0 : Int32)), .val (.int (List.getD L_a2 0 0)), .val (.int ((f7n1_t0 p1 LG L_a2) + (1 : Int32))), .val (.int (f11 w_numbered_a0))] [(.ref w_seenIn_a0)])) st19 ?_
      refine go (B := T19.setTop (mkF m 80 #[.val (.ref a0), .val (.int p1), .val (.ref a2), .val (.ref a2), .val (.int (1 : Int32)), .val (.int (0 : Int32)), .val (.int (List.getD L_a2 0 0)), .val (.int ((f7n1_t0 p1 LG L_a2) + (1 : Int32))), .val (.int (f11 w_numbered_a0))] [(.int ((f7n1_t0 p1 LG L_a2) + (1 : Int32))), (.ref w_seenIn_a0)])) (fun _ k => XS.iload X19.here hx rfl (hb hby d7_78) rfl k) ?_
      refine go (B := T19.setTop (mkF m 81 #[.val (.ref a0), .val (.int p1), .val (.ref a2), .val (.ref a2), .val (.int (1 : Int32)), .val (.int (0 : Int32)), .val (.int (List.getD L_a2 0 0)), .val (.int ((f7n1_t0 p1 LG L_a2) + (1 : Int32))), .val (.int (f11 w_numbered_a0))] [(.ref a0), (.int ((f7n1_t0 p1 LG L_a2) + (1 : Int32))), (.ref w_seenIn_a0)])) (fun _ k => XS.aloadN X19.here hx rfl (hb hby d7_80) rfl rfl k) ?_
      obtain ⟨T20, X20, e20, st20⟩ := getF X19 hx hZ hown (host := "") (Or.inl (hw _ (List.mem_of_getElem? (i := 43) rfl))) Via.refl e19 o18_4 (g := (mkF m 81 #[.val (.ref a0), .val (.int p1), .val (.ref a2), .val (.ref a2), .val (.int (1 : Int32)), .val (.int (0 : Int32)), .val (.int (List.getD L_a2 0 0)), .val (.int ((f7n1_t0 p1 LG L_a2) + (1 : Int32))), .val (.int (f11 w_numbered_a0))] [(.ref a0), (.int ((f7n1_t0 p1 LG L_a2) + (1 : Int32))), (.ref w_seenIn_a0)])) rfl rfl (hb hby d7_81)
      refine go (B := T20.setTop (mkF m 84 #[.val (.ref a0), .val (.int p1), .val (.ref a2), .val (.ref a2), .val (.int (1 : Int32)), .val (.int (0 : Int32)), .val (.int (List.getD L_a2 0 0)), .val (.int ((f7n1_t0 p1 LG L_a2) + (1 : Int32))), .val (.int (f11 w_numbered_a0))] [(.int (w_counts_a0 + (1 : Int32))), (.int ((f7n1_t0 p1 LG L_a2) + (1 : Int32))), (.ref w_seenIn_a0)])) st20 ?_
      obtain ⟨cl21, Ar21, hin21, hat21, up21⟩ := Arl.in W_w_seenIn_a0_18 (j := ((f7n1_t0 p1 LG L_a2) + (1 : Int32))) hf10.1 (own_lit hf10.2 hl_LI)
      obtain ⟨T21, h21, X21, e21, W21, st21⟩ := stI X20 hx hZ e20 Ar21 (j := ((f7n1_t0 p1 LG L_a2) + (1 : Int32))) hin21 (g := (mkF m 84 #[.val (.ref a0), .val (.int p1), .val (.ref a2), .val (.ref a2), .val (.int (1 : Int32)), .val (.int (0 : Int32)), .val (.int (List.getD L_a2 0 0)), .val (.int ((f7n1_t0 p1 LG L_a2) + (1 : Int32))), .val (.int (f11 w_numbered_a0))] [(.int (w_counts_a0 + (1 : Int32))), (.int ((f7n1_t0 p1 LG L_a2) + (1 : Int32))), (.ref w_seenIn_a0)])) rfl rfl (hb hby d7_84)
      have E_a0_21 := o18_6.wr W21
      have W_w_counted_a0_21 := W_w_counted_a0_18.other W21 (Ne.symm ne_w_seenIn_a0_w_counted_a0)
      have W_a2_21 := W_a2_18.other W21 (Ne.symm ne_w_seenIn_a0_a2)
      have W_w_groupOf_a0_21 := W_w_groupOf_a0_18.other W21 ne_w_groupOf_a0_w_seenIn_a0
      have W_w_sizes_a0_21 := W_w_sizes_a0_18.other W21 ne_w_sizes_a0_w_seenIn_a0
      have F_sizes_a0_21 := Fld.other W21 o18_0 (Or.inl ne_a0_w_seenIn_a0)
      have F_seenIn_a0_21 := Fld.other W21 o18_1 (Or.inl ne_a0_w_seenIn_a0)
      have F_counted_a0_21 := Fld.other W21 o18_2 (Or.inl ne_a0_w_seenIn_a0)
      have F_groupOf_a0_21 := Fld.other W21 o18_3 (Or.inl ne_a0_w_seenIn_a0)
      have F_counts_a0_21 := Fld.other W21 o18_4 (Or.inl ne_a0_w_seenIn_a0)
      have F_live_a0_21 := Fld.other W21 o18_5 (Or.inl ne_a0_w_seenIn_a0)
      have F_numbered_a0_21 := Fld.other W21 o18_7 (Or.inl ne_a0_w_seenIn_a0)
      have Z21 := Nat.le_trans Z18 (Keep.of_wr W21).1
      have K21 := K18.wr W21 (Or.inl (List.mem_of_getElem? (i := 3) rfl))
      have N21 := Fr.snoc X21 N18 g_w_seenIn_a0
      have W_w_seenIn_a0_21 : Arl Z h21 w_seenIn_a0 .int (f7n1_l1 p1 w_counts_a0 LG LI L_a2) := up21 W21
      refine go (B := T21.setTop (mkF m 85 #[.val (.ref a0), .val (.int p1), .val (.ref a2), .val (.ref a2), .val (.int (1 : Int32)), .val (.int (0 : Int32)), .val (.int (List.getD L_a2 0 0)), .val (.int ((f7n1_t0 p1 LG L_a2) + (1 : Int32))), .val (.int (f11 w_numbered_a0))] [])) st21 ?_
      refine go (B := T21.setTop (mkF m 86 #[.val (.ref a0), .val (.int p1), .val (.ref a2), .val (.ref a2), .val (.int (1 : Int32)), .val (.int (0 : Int32)), .val (.int (List.getD L_a2 0 0)), .val (.int ((f7n1_t0 p1 LG L_a2) + (1 : Int32))), .val (.int (f11 w_numbered_a0))] [(.ref a0)])) (fun _ k => XS.aloadN X21.here hx rfl (hb hby d7_85) rfl rfl k) ?_
      obtain ⟨T22, X22, e22, st22⟩ := getF X21 hx hZ hown (host := "") (Or.inl (hw _ (List.mem_of_getElem? (i := 26) rfl))) Via.refl e21 F_counted_a0_21 (g := (mkF m 86 #[.val (.ref a0), .val (.int p1), .val (.ref a2), .val (.ref a2), .val (.int (1 : Int32)), .val (.int (0 : Int32)), .val (.int (List.getD L_a2 0 0)), .val (.int ((f7n1_t0 p1 LG L_a2) + (1 : Int32))), .val (.int (f11 w_numbered_a0))] [(.ref a0)])) rfl rfl (hb hby d7_86)
      refine go (B := T22.setTop (mkF m 89 #[.val (.ref a0), .val (.int p1), .val (.ref a2), .val (.ref a2), .val (.int (1 : Int32)), .val (.int (0 : Int32)), .val (.int (List.getD L_a2 0 0)), .val (.int ((f7n1_t0 p1 LG L_a2) + (1 : Int32))), .val (.int (f11 w_numbered_a0))] [(.ref w_counted_a0)])) st22 ?_
      refine go (B := T22.setTop (mkF m 91 #[.val (.ref a0), .val (.int p1), .val (.ref a2), .val (.ref a2), .val (.int (1 : Int32)), .val (.int (0 : Int32)), .val (.int (List.getD L_a2 0 0)), .val (.int ((f7n1_t0 p1 LG L_a2) + (1 : Int32))), .val (.int (f11 w_numbered_a0))] [(.int ((f7n1_t0 p1 LG L_a2) + (1 : Int32))), (.ref w_counted_a0)])) (fun _ k => XS.iload X22.here hx rfl (hb hby d7_89) rfl k) ?_
      refine go (B := T22.setTop (mkF m 93 #[.val (.ref a0), .val (.int p1), .val (.ref a2), .val (.ref a2), .val (.int (1 : Int32)), .val (.int (0 : Int32)), .val (.int (List.getD L_a2 0 0)), .val (.int ((f7n1_t0 p1 LG L_a2) + (1 : Int32))), .val (.int (f11 w_numbered_a0))] [(.int (f11 w_numbered_a0)), (.int ((f7n1_t0 p1 LG L_a2) + (1 : Int32))), (.ref w_counted_a0)])) (fun _ k => XS.iload X22.here hx rfl (hb hby d7_91) rfl k) ?_
      obtain ⟨cl23, Ar23, hin23, hat23, up23⟩ := Arl.in W_w_counted_a0_21 (j := ((f7n1_t0 p1 LG L_a2) + (1 : Int32))) hf10.1 (own_lit hf10.2 hl_LC)
      obtain ⟨T23, h23, X23, e23, W23, st23⟩ := stI X22 hx hZ e22 Ar23 (j := ((f7n1_t0 p1 LG L_a2) + (1 : Int32))) hin23 (g := (mkF m 93 #[.val (.ref a0), .val (.int p1), .val (.ref a2), .val (.ref a2), .val (.int (1 : Int32)), .val (.int (0 : Int32)), .val (.int (List.getD L_a2 0 0)), .val (.int ((f7n1_t0 p1 LG L_a2) + (1 : Int32))), .val (.int (f11 w_numbered_a0))] [(.int (f11 w_numbered_a0)), (.int ((f7n1_t0 p1 LG L_a2) + (1 : Int32))), (.ref w_counted_a0)])) rfl rfl (hb hby d7_93)
      have E_a0_23 := E_a0_21.wr W23
      have W_a2_23 := W_a2_21.other W23 (Ne.symm ne_w_counted_a0_a2)
      have W_w_groupOf_a0_23 := W_w_groupOf_a0_21.other W23 ne_w_groupOf_a0_w_counted_a0
      have W_w_sizes_a0_23 := W_w_sizes_a0_21.other W23 ne_w_sizes_a0_w_counted_a0
      have F_sizes_a0_23 := Fld.other W23 F_sizes_a0_21 (Or.inl ne_a0_w_counted_a0)
      have F_seenIn_a0_23 := Fld.other W23 F_seenIn_a0_21 (Or.inl ne_a0_w_counted_a0)
      have F_counted_a0_23 := Fld.other W23 F_counted_a0_21 (Or.inl ne_a0_w_counted_a0)
      have F_groupOf_a0_23 := Fld.other W23 F_groupOf_a0_21 (Or.inl ne_a0_w_counted_a0)
      have F_counts_a0_23 := Fld.other W23 F_counts_a0_21 (Or.inl ne_a0_w_counted_a0)
      have F_live_a0_23 := Fld.other W23 F_live_a0_21 (Or.inl ne_a0_w_counted_a0)
      have F_numbered_a0_23 := Fld.other W23 F_numbered_a0_21 (Or.inl ne_a0_w_counted_a0)
      have W_w_seenIn_a0_23 := W_w_seenIn_a0_21.other W23 ne_w_seenIn_a0_w_counted_a0
      have Z23 := Nat.le_trans Z21 (Keep.of_wr W23).1
      have K23 := K21.wr W23 (Or.inl (List.mem_of_getElem? (i := 4) rfl))
      have N23 := Fr.snoc X23 N21 g_w_counted_a0
      have W_w_counted_a0_23 : Arl Z h23 w_counted_a0 .int (List.set LC (((f7n1_t0 p1 LG L_a2) + (1 : Int32))).toNatClampNeg (f11 w_numbered_a0)) := up23 W23
      refine go (B := T23.setTop (mkF m 94 #[.val (.ref a0), .val (.int p1), .val (.ref a2), .val (.ref a2), .val (.int (1 : Int32)), .val (.int (0 : Int32)), .val (.int (List.getD L_a2 0 0)), .val (.int ((f7n1_t0 p1 LG L_a2) + (1 : Int32))), .val (.int (f11 w_numbered_a0))] [])) st23 ?_
      rw [show (f7n1_l2 p1 w_counts_a0 LG LI L_a2) = (f7n1_l1 p1 w_counts_a0 LG LI L_a2) from by unfold f7n1_l2; rw [if_neg hc17]] at Kj16
      rw [show (f7n1_l3 p1 w_counts_a0 w_numbered_a0 LG LI LC L_a2) = (List.set LC (((f7n1_t0 p1 LG L_a2) + (1 : Int32))).toNatClampNeg (f11 w_numbered_a0)) from by unfold f7n1_l3; rw [if_neg hc17]] at Kj16
      rw [show (f7n1_z4 p1 w_counts_a0 w_numbered_a0 LG LI L_a2) = (w_numbered_a0 + (1 : Int32)) from by unfold f7n1_z4; rw [if_neg hc17]] at Kj16
      exact Kj16 _ _ _ _ (One.val rfl) X23 N23 e23 Z23 K23 E_a0_23 W_w_seenIn_a0_23 W_w_counted_a0_23 W_a2_23 F_sizes_a0_23 F_seenIn_a0_23 F_counted_a0_23 F_groupOf_a0_23 F_counts_a0_23 F_numbered_a0_23 F_live_a0_23 W_w_groupOf_a0_23 W_w_sizes_a0_23 ((List.length_set).trans hl_LI) ((List.length_set).trans hl_LC)
  intro sl16_8 T16 h16 L16 hsl16_8 X16 N16 e16 Z16 K16 E_a0_16 W_w_seenIn_a0_16 W_w_counted_a0_16 W_a2_16 F_sizes_a0_16 F_seenIn_a0_16 F_counted_a0_16 F_groupOf_a0_16 F_counts_a0_16 F_numbered_a0_16 F_live_a0_16 W_w_groupOf_a0_16 W_w_sizes_a0_16 hl_w_seenIn_a0_16 hl_w_counted_a0_16
  have hq24 : own_J (f7n1_l2 p1 w_counts_a0 LG LI L_a2) (f7n1_l3 p1 w_counts_a0 w_numbered_a0 LG LI LC L_a2) (w_counts_a0 + (1 : Int32)) (f7n1_z4 p1 w_counts_a0 w_numbered_a0 LG LI L_a2) ∧ List.getD (f7n1_l2 p1 w_counts_a0 LG LI L_a2) (((f7n1_t0 p1 LG L_a2) + (1 : Int32))).toNatClampNeg 0 = (w_counts_a0 + (1 : Int32)) ∧ (w_numbered_a0).toInt ≤ ((f7n1_z4 p1 w_counts_a0 w_numbered_a0 LG LI L_a2)).toInt ∧ ((f7n1_z4 p1 w_counts_a0 w_numbered_a0 LG LI L_a2)).toInt ≤ (w_numbered_a0).toInt + 1 := by
    unfold f7n1_l2 f7n1_l3 f7n1_z4
    by_cases hz : (List.getD LI (((f7n1_t0 p1 LG L_a2) + (1 : Int32))).toNatClampNeg 0) = (w_counts_a0 + (1 : Int32))
    · rw [if_pos hz, if_pos hz, if_pos hz]; exact ⟨hJ5, hz, Int.le_refl _, by omega⟩
    · rw [if_neg hz, if_neg hz, if_neg hz]; exact own_fresh (nb := w_numbered_a0) hJ5 hf10.2 hB5.1 (by have := hB5.2; omega)
  have hG24 := own_Gup (nb' := (f7n1_z4 p1 w_counts_a0 w_numbered_a0 LG LI L_a2)) hG12 hq24.2.2.1 (by have := hq24.2.2.2; have := hB5.2; omega)
  have hg24 : 0 ≤ ((f7n1_t5 p1 w_counts_a0 w_numbered_a0 LG LI LC L_a2)).toInt ∧ ((f7n1_t5 p1 w_counts_a0 w_numbered_a0 LG LI LC L_a2)).toInt < ((f7n1_z4 p1 w_counts_a0 w_numbered_a0 LG LI L_a2)).toInt := own_Jget hq24.1 hf10.2 hq24.2.1
  refine go (B := T16.setTop (mkF m 95 #[.val (.ref a0), .val (.int p1), .val (.ref a2), .val (.ref a2), .val (.int (1 : Int32)), .val (.int (0 : Int32)), .val (.int (List.getD L_a2 0 0)), .val (.int ((f7n1_t0 p1 LG L_a2) + (1 : Int32))), sl16_8] [(.ref a0)])) (fun _ k => XS.aloadN X16.here hx rfl (hb hby d7_94) rfl rfl k) ?_
  obtain ⟨T25, X25, e25, st25⟩ := getF X16 hx hZ hown (host := "") (Or.inl (hw _ (List.mem_of_getElem? (i := 26) rfl))) Via.refl e16 F_counted_a0_16 (g := (mkF m 95 #[.val (.ref a0), .val (.int p1), .val (.ref a2), .val (.ref a2), .val (.int (1 : Int32)), .val (.int (0 : Int32)), .val (.int (List.getD L_a2 0 0)), .val (.int ((f7n1_t0 p1 LG L_a2) + (1 : Int32))), sl16_8] [(.ref a0)])) rfl rfl (hb hby d7_95)
  refine go (B := T25.setTop (mkF m 98 #[.val (.ref a0), .val (.int p1), .val (.ref a2), .val (.ref a2), .val (.int (1 : Int32)), .val (.int (0 : Int32)), .val (.int (List.getD L_a2 0 0)), .val (.int ((f7n1_t0 p1 LG L_a2) + (1 : Int32))), sl16_8] [(.ref w_counted_a0)])) st25 ?_
  refine go (B := T25.setTop (mkF m 100 #[.val (.ref a0), .val (.int p1), .val (.ref a2), .val (.ref a2), .val (.int (1 : Int32)), .val (.int (0 : Int32)), .val (.int (List.getD L_a2 0 0)), .val (.int ((f7n1_t0 p1 LG L_a2) + (1 : Int32))), sl16_8] [(.int ((f7n1_t0 p1 LG L_a2) + (1 : Int32))), (.ref w_counted_a0)])) (fun _ k => XS.iload X25.here hx rfl (hb hby d7_98) rfl k) ?_
  obtain ⟨cl26, Ar26, hin26, hat26, up26⟩ := Arl.in W_w_counted_a0_16 (j := ((f7n1_t0 p1 LG L_a2) + (1 : Int32))) hf10.1 (own_lit hf10.2 hl_w_counted_a0_16)
  refine go (B := T25.setTop (mkF m 101 #[.val (.ref a0), .val (.int p1), .val (.ref a2), .val (.ref a2), .val (.int (1 : Int32)), .val (.int (0 : Int32)), .val (.int (List.getD L_a2 0 0)), .val (.int ((f7n1_t0 p1 LG L_a2) + (1 : Int32))), sl16_8] [(.int (f7n1_t5 p1 w_counts_a0 w_numbered_a0 LG LI LC L_a2))])) (fun _ k => X25.iaload hx (j := ((f7n1_t0 p1 LG L_a2) + (1 : Int32))) (v := (.int (f7n1_t5 p1 w_counts_a0 w_numbered_a0 LG LI LC L_a2))) (by rw [e25]; exact Ar26.1) (State.isArrayOf_alike hZ.alike Ar26.2.1) Ar26.2.2 hin26 hat26 (g := (mkF m 100 #[.val (.ref a0), .val (.int p1), .val (.ref a2), .val (.ref a2), .val (.int (1 : Int32)), .val (.int (0 : Int32)), .val (.int (List.getD L_a2 0 0)), .val (.int ((f7n1_t0 p1 LG L_a2) + (1 : Int32))), sl16_8] [(.int ((f7n1_t0 p1 LG L_a2) + (1 : Int32))), (.ref w_counted_a0)])) rfl rfl (hb hby d7_100) _ k) ?_
  have os27 : storeLocals #[.val (.ref a0), .val (.int p1), .val (.ref a2), .val (.ref a2), .val (.int (1 : Int32)), .val (.int (0 : Int32)), .val (.int (List.getD L_a2 0 0)), .val (.int ((f7n1_t0 p1 LG L_a2) + (1 : Int32))), sl16_8] 8 (.int (f7n1_t5 p1 w_counts_a0 w_numbered_a0 LG LI LC L_a2)) = some #[.val (.ref a0), .val (.int p1), .val (.ref a2), .val (.ref a2), .val (.int (1 : Int32)), .val (.int (0 : Int32)), .val (.int (List.getD L_a2 0 0)), .val (.int ((f7n1_t0 p1 LG L_a2) + (1 : Int32))), .val (.int (f7n1_t5 p1 w_counts_a0 w_numbered_a0 LG LI LC L_a2))] := by
    rcases hsl16_8 with q | ⟨w, q, hw⟩
    · subst q; rfl
    · subst q; cases w <;> first | rfl | (simp [Value.category] at hw)
  refine go (B := T25.setTop (mkF m 103 #[.val (.ref a0), .val (.int p1), .val (.ref a2), .val (.ref a2), .val (.int (1 : Int32)), .val (.int (0 : Int32)), .val (.int (List.getD L_a2 0 0)), .val (.int ((f7n1_t0 p1 LG L_a2) + (1 : Int32))), .val (.int (f7n1_t5 p1 w_counts_a0 w_numbered_a0 LG LI LC L_a2))] [])) (fun _ k => XS.istore X25.here hx rfl (hb hby d7_101) rfl (l' := #[.val (.ref a0), .val (.int p1), .val (.ref a2), .val (.ref a2), .val (.int (1 : Int32)), .val (.int (0 : Int32)), .val (.int (List.getD L_a2 0 0)), .val (.int ((f7n1_t0 p1 LG L_a2) + (1 : Int32))), .val (.int (f7n1_t5 p1 w_counts_a0 w_numbered_a0 LG LI LC L_a2))]) os27 k) ?_
  refine go (B := T25.setTop (mkF m 104 #[.val (.ref a0), .val (.int p1), .val (.ref a2), .val (.ref a2), .val (.int (1 : Int32)), .val (.int (0 : Int32)), .val (.int (List.getD L_a2 0 0)), .val (.int ((f7n1_t0 p1 LG L_a2) + (1 : Int32))), .val (.int (f7n1_t5 p1 w_counts_a0 w_numbered_a0 LG LI LC L_a2))] [(.ref a0)])) (fun _ k => XS.aloadN X25.here hx rfl (hb hby d7_103) rfl rfl k) ?_
  obtain ⟨T28, X28, e28, st28⟩ := getF X25 hx hZ hown (host := "") (Or.inl (hw _ (List.mem_of_getElem? (i := 28) rfl))) Via.refl e25 F_groupOf_a0_16 (g := (mkF m 104 #[.val (.ref a0), .val (.int p1), .val (.ref a2), .val (.ref a2), .val (.int (1 : Int32)), .val (.int (0 : Int32)), .val (.int (List.getD L_a2 0 0)), .val (.int ((f7n1_t0 p1 LG L_a2) + (1 : Int32))), .val (.int (f7n1_t5 p1 w_counts_a0 w_numbered_a0 LG LI LC L_a2))] [(.ref a0)])) rfl rfl (hb hby d7_104)
  refine go (B := T28.setTop (mkF m 107 #[.val (.ref a0), .val (.int p1), .val (.ref a2), .val (.ref a2), .val (.int (1 : Int32)), .val (.int (0 : Int32)), .val (.int (List.getD L_a2 0 0)), .val (.int ((f7n1_t0 p1 LG L_a2) + (1 : Int32))), .val (.int (f7n1_t5 p1 w_counts_a0 w_numbered_a0 LG LI LC L_a2))] [(.ref w_groupOf_a0)])) st28 ?_
  refine go (B := T28.setTop (mkF m 109 #[.val (.ref a0), .val (.int p1), .val (.ref a2), .val (.ref a2), .val (.int (1 : Int32)), .val (.int (0 : Int32)), .val (.int (List.getD L_a2 0 0)), .val (.int ((f7n1_t0 p1 LG L_a2) + (1 : Int32))), .val (.int (f7n1_t5 p1 w_counts_a0 w_numbered_a0 LG LI LC L_a2))] [(.int (List.getD L_a2 0 0)), (.ref w_groupOf_a0)])) (fun _ k => XS.iload X28.here hx rfl (hb hby d7_107) rfl k) ?_
  refine go (B := T28.setTop (mkF m 111 #[.val (.ref a0), .val (.int p1), .val (.ref a2), .val (.ref a2), .val (.int (1 : Int32)), .val (.int (0 : Int32)), .val (.int (List.getD L_a2 0 0)), .val (.int ((f7n1_t0 p1 LG L_a2) + (1 : Int32))), .val (.int (f7n1_t5 p1 w_counts_a0 w_numbered_a0 LG LI LC L_a2))] [(.int (f7n1_t5 p1 w_counts_a0 w_numbered_a0 LG LI LC L_a2)), (.int (List.getD L_a2 0 0)), (.ref w_groupOf_a0)])) (fun _ k => XS.iload X28.here hx rfl (hb hby d7_109) rfl k) ?_
  obtain ⟨cl29, Ar29, hin29, hat29, up29⟩ := Arl.in W_w_groupOf_a0_16 (j := (List.getD L_a2 0 0)) (own_mem hch hl_L_a2 0).1 (own_lit (own_mem hch hl_L_a2 0).2 o11_9)
  obtain ⟨T29, h29, X29, e29, W29, st29⟩ := stI X28 hx hZ e28 Ar29 (j := (List.getD L_a2 0 0)) hin29 (g := (mkF m 111 #[.val (.ref a0), .val (.int p1), .val (.ref a2), .val (.ref a2), .val (.int (1 : Int32)), .val (.int (0 : Int32)), .val (.int (List.getD L_a2 0 0)), .val (.int ((f7n1_t0 p1 LG L_a2) + (1 : Int32))), .val (.int (f7n1_t5 p1 w_counts_a0 w_numbered_a0 LG LI LC L_a2))] [(.int (f7n1_t5 p1 w_counts_a0 w_numbered_a0 LG LI LC L_a2)), (.int (List.getD L_a2 0 0)), (.ref w_groupOf_a0)])) rfl rfl (hb hby d7_111)
  have E_a0_29 := E_a0_16.wr W29
  have W_w_seenIn_a0_29 := W_w_seenIn_a0_16.other W29 (Ne.symm ne_w_groupOf_a0_w_seenIn_a0)
  have W_w_counted_a0_29 := W_w_counted_a0_16.other W29 (Ne.symm ne_w_groupOf_a0_w_counted_a0)
  have W_a2_29 := W_a2_16.other W29 (Ne.symm ne_w_groupOf_a0_a2)
  have F_sizes_a0_29 := Fld.other W29 F_sizes_a0_16 (Or.inl ne_a0_w_groupOf_a0)
  have F_seenIn_a0_29 := Fld.other W29 F_seenIn_a0_16 (Or.inl ne_a0_w_groupOf_a0)
  have F_counted_a0_29 := Fld.other W29 F_counted_a0_16 (Or.inl ne_a0_w_groupOf_a0)
  have F_groupOf_a0_29 := Fld.other W29 F_groupOf_a0_16 (Or.inl ne_a0_w_groupOf_a0)
  have F_counts_a0_29 := Fld.other W29 F_counts_a0_16 (Or.inl ne_a0_w_groupOf_a0)
  have F_numbered_a0_29 := Fld.other W29 F_numbered_a0_16 (Or.inl ne_a0_w_groupOf_a0)
  have F_live_a0_29 := Fld.other W29 F_live_a0_16 (Or.inl ne_a0_w_groupOf_a0)
  have W_w_sizes_a0_29 := W_w_sizes_a0_16.other W29 (Ne.symm ne_w_groupOf_a0_w_sizes_a0)
  have Z29 := Nat.le_trans Z16 (Keep.of_wr W29).1
  have K29 := K16.wr W29 (Or.inl (List.mem_of_getElem? (i := 1) rfl))
  have N29 := Fr.snoc X29 N16 g_w_groupOf_a0
  have W_w_groupOf_a0_29 : Arl Z h29 w_groupOf_a0 .int (f7n1_l6 p1 w_counts_a0 w_numbered_a0 LG LI LC L_a2) := up29 W29
  refine go (B := T29.setTop (mkF m 112 #[.val (.ref a0), .val (.int p1), .val (.ref a2), .val (.ref a2), .val (.int (1 : Int32)), .val (.int (0 : Int32)), .val (.int (List.getD L_a2 0 0)), .val (.int ((f7n1_t0 p1 LG L_a2) + (1 : Int32))), .val (.int (f7n1_t5 p1 w_counts_a0 w_numbered_a0 LG LI LC L_a2))] [])) st29 ?_
  have hG30 : own_G (f7n1_l6 p1 w_counts_a0 w_numbered_a0 LG LI LC L_a2) (f7n1_z4 p1 w_counts_a0 w_numbered_a0 LG LI L_a2) := own_Gset hG24 (by have := hg24.1; omega) hg24.2
  have hR30 : own_rel LG p1 ([] ++ [(List.getD L_a2 0 0)]) (f7n1_l6 p1 w_counts_a0 w_numbered_a0 LG LI LC L_a2) := own_relS hR2 hG2.1 (own_mem hch hl_L_a2 0) hg24.1
  have hB30 : 0 ≤ ((f7n1_z4 p1 w_counts_a0 w_numbered_a0 LG LI L_a2)).toInt ∧ ((f7n1_z4 p1 w_counts_a0 w_numbered_a0 LG LI L_a2)).toInt ≤ w_numbered_a0.toInt + 1 := ⟨by have := hB5.1; have := hq24.2.2.1; omega, by have := hB5.2; have := hq24.2.2.2; omega⟩
  refine go (B := T29.setTop (mkF m 113 #[.val (.ref a0), .val (.int p1), .val (.ref a2), .val (.ref a2), .val (.int (1 : Int32)), .val (.int (0 : Int32)), .val (.int (List.getD L_a2 0 0)), .val (.int ((f7n1_t0 p1 LG L_a2) + (1 : Int32))), .val (.int (f7n1_t5 p1 w_counts_a0 w_numbered_a0 LG LI LC L_a2))] [(.ref a0)])) (fun _ k => XS.aloadN X29.here hx rfl (hb hby d7_112) rfl rfl k) ?_
  obtain ⟨T31, X31, e31, st31⟩ := getF X29 hx hZ hown (host := "") (Or.inl (hw _ (List.mem_of_getElem? (i := 22) rfl))) Via.refl e29 F_sizes_a0_29 (g := (mkF m 113 #[.val (.ref a0), .val (.int p1), .val (.ref a2), .val (.ref a2), .val (.int (1 : Int32)), .val (.int (0 : Int32)), .val (.int (List.getD L_a2 0 0)), .val (.int ((f7n1_t0 p1 LG L_a2) + (1 : Int32))), .val (.int (f7n1_t5 p1 w_counts_a0 w_numbered_a0 LG LI LC L_a2))] [(.ref a0)])) rfl rfl (hb hby d7_113)
  refine go (B := T31.setTop (mkF m 116 #[.val (.ref a0), .val (.int p1), .val (.ref a2), .val (.ref a2), .val (.int (1 : Int32)), .val (.int (0 : Int32)), .val (.int (List.getD L_a2 0 0)), .val (.int ((f7n1_t0 p1 LG L_a2) + (1 : Int32))), .val (.int (f7n1_t5 p1 w_counts_a0 w_numbered_a0 LG LI LC L_a2))] [(.ref w_sizes_a0)])) st31 ?_
  refine go (B := T31.setTop (mkF m 118 #[.val (.ref a0), .val (.int p1), .val (.ref a2), .val (.ref a2), .val (.int (1 : Int32)), .val (.int (0 : Int32)), .val (.int (List.getD L_a2 0 0)), .val (.int ((f7n1_t0 p1 LG L_a2) + (1 : Int32))), .val (.int (f7n1_t5 p1 w_counts_a0 w_numbered_a0 LG LI LC L_a2))] [(.int (f7n1_t5 p1 w_counts_a0 w_numbered_a0 LG LI LC L_a2)), (.ref w_sizes_a0)])) (fun _ k => XS.iload X31.here hx rfl (hb hby d7_116) rfl k) ?_
  refine go (B := T31.setTop (mkF m 119 #[.val (.ref a0), .val (.int p1), .val (.ref a2), .val (.ref a2), .val (.int (1 : Int32)), .val (.int (0 : Int32)), .val (.int (List.getD L_a2 0 0)), .val (.int ((f7n1_t0 p1 LG L_a2) + (1 : Int32))), .val (.int (f7n1_t5 p1 w_counts_a0 w_numbered_a0 LG LI LC L_a2))] [(.int (f7n1_t5 p1 w_counts_a0 w_numbered_a0 LG LI LC L_a2)), (.ref w_sizes_a0), (.int (f7n1_t5 p1 w_counts_a0 w_numbered_a0 LG LI LC L_a2)), (.ref w_sizes_a0)])) (fun _ k => Jvm.Free.XT.dup2 X31.here hx rfl (hb hby d7_118) rfl rfl rfl k) ?_
  obtain ⟨cl32, Ar32, hin32, hat32, up32⟩ := Arl.in W_w_sizes_a0_29 (j := (f7n1_t5 p1 w_counts_a0 w_numbered_a0 LG LI LC L_a2)) (own_nn hg24.1) (own_lit (own_cl (by have := hg24.2; have := hG30.2.2.1; show _ < (16 : Int); omega) hg24.1) o11_11)
  refine go (B := T31.setTop (mkF m 120 #[.val (.ref a0), .val (.int p1), .val (.ref a2), .val (.ref a2), .val (.int (1 : Int32)), .val (.int (0 : Int32)), .val (.int (List.getD L_a2 0 0)), .val (.int ((f7n1_t0 p1 LG L_a2) + (1 : Int32))), .val (.int (f7n1_t5 p1 w_counts_a0 w_numbered_a0 LG LI LC L_a2))] [(.int (List.getD S'_11 ((f7n1_t5 p1 w_counts_a0 w_numbered_a0 LG LI LC L_a2)).toNatClampNeg 0)), (.int (f7n1_t5 p1 w_counts_a0 w_numbered_a0 LG LI LC L_a2)), (.ref w_sizes_a0)])) (fun _ k => X31.iaload hx (j := (f7n1_t5 p1 w_counts_a0 w_numbered_a0 LG LI LC L_a2)) (v := (.int (List.getD S'_11 ((f7n1_t5 p1 w_counts_a0 w_numbered_a0 LG LI LC L_a2)).toNatClampNeg 0))) (by rw [e31]; exact Ar32.1) (State.isArrayOf_alike hZ.alike Ar32.2.1) Ar32.2.2 hin32 hat32 (g := (mkF m 119 #[.val (.ref a0), .val (.int p1), .val (.ref a2), .val (.ref a2), .val (.int (1 : Int32)), .val (.int (0 : Int32)), .val (.int (List.getD L_a2 0 0)), .val (.int ((f7n1_t0 p1 LG L_a2) + (1 : Int32))), .val (.int (f7n1_t5 p1 w_counts_a0 w_numbered_a0 LG LI LC L_a2))] [(.int (f7n1_t5 p1 w_counts_a0 w_numbered_a0 LG LI LC L_a2)), (.ref w_sizes_a0), (.int (f7n1_t5 p1 w_counts_a0 w_numbered_a0 LG LI LC L_a2)), (.ref w_sizes_a0)])) rfl rfl (hb hby d7_119) _ k) ?_
  refine go (B := T31.setTop (mkF m 121 #[.val (.ref a0), .val (.int p1), .val (.ref a2), .val (.ref a2), .val (.int (1 : Int32)), .val (.int (0 : Int32)), .val (.int (List.getD L_a2 0 0)), .val (.int ((f7n1_t0 p1 LG L_a2) + (1 : Int32))), .val (.int (f7n1_t5 p1 w_counts_a0 w_numbered_a0 LG LI LC L_a2))] [(.int (List.getD S'_11 ((f7n1_t5 p1 w_counts_a0 w_numbered_a0 LG LI LC L_a2)).toNatClampNeg 0)), (.int (f7n1_t5 p1 w_counts_a0 w_numbered_a0 LG LI LC L_a2)), (.ref w_sizes_a0), (.int (List.getD S'_11 ((f7n1_t5 p1 w_counts_a0 w_numbered_a0 LG LI LC L_a2)).toNatClampNeg 0))])) (fun _ k => by jvm_step X31.here [X31.here.top, hx, (hb hby d7_120), Value.category]; exact k) ?_
  refine go (B := T31.setTop (mkF m 122 #[.val (.ref a0), .val (.int p1), .val (.ref a2), .val (.ref a2), .val (.int (1 : Int32)), .val (.int (0 : Int32)), .val (.int (List.getD L_a2 0 0)), .val (.int ((f7n1_t0 p1 LG L_a2) + (1 : Int32))), .val (.int (f7n1_t5 p1 w_counts_a0 w_numbered_a0 LG LI LC L_a2))] [(.int (1 : Int32)), (.int (List.getD S'_11 ((f7n1_t5 p1 w_counts_a0 w_numbered_a0 LG LI LC L_a2)).toNatClampNeg 0)), (.int (f7n1_t5 p1 w_counts_a0 w_numbered_a0 LG LI LC L_a2)), (.ref w_sizes_a0), (.int (List.getD S'_11 ((f7n1_t5 p1 w_counts_a0 w_numbered_a0 LG LI LC L_a2)).toNatClampNeg 0))])) (fun _ k => XS.iconst X31.here hx rfl (hb hby d7_121) k) ?_
  refine go (B := T31.setTop (mkF m 123 #[.val (.ref a0), .val (.int p1), .val (.ref a2), .val (.ref a2), .val (.int (1 : Int32)), .val (.int (0 : Int32)), .val (.int (List.getD L_a2 0 0)), .val (.int ((f7n1_t0 p1 LG L_a2) + (1 : Int32))), .val (.int (f7n1_t5 p1 w_counts_a0 w_numbered_a0 LG LI LC L_a2))] [(.int (f7n1_t7 p1 w_counts_a0 w_numbered_a0 LG LI LC L_a2 S'_11)), (.int (f7n1_t5 p1 w_counts_a0 w_numbered_a0 LG LI LC L_a2)), (.ref w_sizes_a0), (.int (List.getD S'_11 ((f7n1_t5 p1 w_counts_a0 w_numbered_a0 LG LI LC L_a2)).toNatClampNeg 0))])) (fun _ k => XS.iadd X31.here hx rfl (hb hby d7_122) rfl k) ?_
  obtain ⟨cl33, Ar33, hin33, hat33, up33⟩ := Arl.in W_w_sizes_a0_29 (j := (f7n1_t5 p1 w_counts_a0 w_numbered_a0 LG LI LC L_a2)) (own_nn hg24.1) (own_lit (own_cl (by have := hg24.2; have := hG30.2.2.1; show _ < (16 : Int); omega) hg24.1) o11_11)
  obtain ⟨T33, h33, X33, e33, W33, st33⟩ := stI X31 hx hZ e31 Ar33 (j := (f7n1_t5 p1 w_counts_a0 w_numbered_a0 LG LI LC L_a2)) hin33 (g := (mkF m 123 #[.val (.ref a0), .val (.int p1), .val (.ref a2), .val (.ref a2), .val (.int (1 : Int32)), .val (.int (0 : Int32)), .val (.int (List.getD L_a2 0 0)), .val (.int ((f7n1_t0 p1 LG L_a2) + (1 : Int32))), .val (.int (f7n1_t5 p1 w_counts_a0 w_numbered_a0 LG LI LC L_a2))] [(.int (f7n1_t7 p1 w_counts_a0 w_numbered_a0 LG LI LC L_a2 S'_11)), (.int (f7n1_t5 p1 w_counts_a0 w_numbered_a0 LG LI LC L_a2)), (.ref w_sizes_a0), (.int (List.getD S'_11 ((f7n1_t5 p1 w_counts_a0 w_numbered_a0 LG LI LC L_a2)).toNatClampNeg 0))])) rfl rfl (hb hby d7_123)
  have E_a0_33 := E_a0_29.wr W33
  have W_w_seenIn_a0_33 := W_w_seenIn_a0_29.other W33 (Ne.symm ne_w_sizes_a0_w_seenIn_a0)
  have W_w_counted_a0_33 := W_w_counted_a0_29.other W33 (Ne.symm ne_w_sizes_a0_w_counted_a0)
  have W_a2_33 := W_a2_29.other W33 (Ne.symm ne_w_sizes_a0_a2)
  have F_sizes_a0_33 := Fld.other W33 F_sizes_a0_29 (Or.inl ne_a0_w_sizes_a0)
  have F_seenIn_a0_33 := Fld.other W33 F_seenIn_a0_29 (Or.inl ne_a0_w_sizes_a0)
  have F_counted_a0_33 := Fld.other W33 F_counted_a0_29 (Or.inl ne_a0_w_sizes_a0)
  have F_groupOf_a0_33 := Fld.other W33 F_groupOf_a0_29 (Or.inl ne_a0_w_sizes_a0)
  have F_counts_a0_33 := Fld.other W33 F_counts_a0_29 (Or.inl ne_a0_w_sizes_a0)
  have F_numbered_a0_33 := Fld.other W33 F_numbered_a0_29 (Or.inl ne_a0_w_sizes_a0)
  have F_live_a0_33 := Fld.other W33 F_live_a0_29 (Or.inl ne_a0_w_sizes_a0)
  have W_w_groupOf_a0_33 := W_w_groupOf_a0_29.other W33 ne_w_groupOf_a0_w_sizes_a0
  have Z33 := Nat.le_trans Z29 (Keep.of_wr W33).1
  have K33 := K29.wr W33 (Or.inl (List.mem_of_getElem? (i := 2) rfl))
  have N33 := Fr.snoc X33 N29 g_w_sizes_a0
  have W_w_sizes_a0_33 : Arl Z h33 w_sizes_a0 .int (f7n1_l8 p1 w_counts_a0 w_numbered_a0 LG LI LC L_a2 S'_11) := up33 W33
  refine go (B := T33.setTop (mkF m 124 #[.val (.ref a0), .val (.int p1), .val (.ref a2), .val (.ref a2), .val (.int (1 : Int32)), .val (.int (0 : Int32)), .val (.int (List.getD L_a2 0 0)), .val (.int ((f7n1_t0 p1 LG L_a2) + (1 : Int32))), .val (.int (f7n1_t5 p1 w_counts_a0 w_numbered_a0 LG LI LC L_a2))] [(.int (List.getD S'_11 ((f7n1_t5 p1 w_counts_a0 w_numbered_a0 LG LI LC L_a2)).toNatClampNeg 0))])) st33 ?_
  suffices Kj34 : ∀ (T34 : State) (h34 : Heap) (L34 : List Loc), Stand p l e room7n1 s m #[(.ref a0), (.int p1), (.ref a2)] below meth c T34 L34 0 0 → Fr n0 L34 → T34.heap = h34 → n0 ≤ h34.size → Keep h0 h34 [a0, w_groupOf_a0, w_sizes_a0, w_seenIn_a0, w_counted_a0] → Exa Z h34 a0 "com/example/constrained_flow/constrainedflow/planner/search/Sweep$Groups" → Arl Z h34 w_seenIn_a0 .int (f7n1_l2 p1 w_counts_a0 LG LI L_a2) → Arl Z h34 w_counted_a0 .int (f7n1_l3 p1 w_counts_a0 w_numbered_a0 LG LI LC L_a2) → Arl Z h34 a2 .int L_a2 → Fld Z h34 a0 "com/example/constrained_flow/constrainedflow/planner/search/Sweep$Groups" "sizes" "[I" (.ref w_sizes_a0) → Fld Z h34 a0 "com/example/constrained_flow/constrainedflow/planner/search/Sweep$Groups" "seenIn" "[I" (.ref w_seenIn_a0) → Fld Z h34 a0 "com/example/constrained_flow/constrainedflow/planner/search/Sweep$Groups" "counted" "[I" (.ref w_counted_a0) → Fld Z h34 a0 "com/example/constrained_flow/constrainedflow/planner/search/Sweep$Groups" "groupOf" "[I" (.ref w_groupOf_a0) → Fld Z h34 a0 "com/example/constrained_flow/constrainedflow/planner/search/Sweep$Groups" "counts" "I" (.int (w_counts_a0 + (1 : Int32))) → Fld Z h34 a0 "com/example/constrained_flow/constrainedflow/planner/search/Sweep$Groups" "numbered" "I" (.int (f7n1_z4 p1 w_counts_a0 w_numbered_a0 LG LI L_a2)) → Arl Z h34 w_groupOf_a0 .int (f7n1_l6 p1 w_counts_a0 w_numbered_a0 LG LI LC L_a2) → Arl Z h34 w_sizes_a0 .int (f7n1_l8 p1 w_counts_a0 w_numbered_a0 LG LI LC L_a2 S'_11) → Fld Z h34 a0 "com/example/constrained_flow/constrainedflow/planner/search/Sweep$Groups" "live" "I" (.int (f7n1_z9 p1 w_counts_a0 w_numbered_a0 LG LI LC L_a2 S'_11 V'_11)) → Go p.tables e below F (T34.setTop (mkF m 137 #[.val (.ref a0), .val (.int p1), .val (.ref a2), .val (.ref a2), .val (.int (1 : Int32)), .val (.int (0 : Int32)), .val (.int (List.getD L_a2 0 0)), .val (.int ((f7n1_t0 p1 LG L_a2) + (1 : Int32))), .val (.int (f7n1_t5 p1 w_counts_a0 w_numbered_a0 LG LI LC L_a2))] [])) by
    by_cases hc35 : (List.getD S'_11 ((f7n1_t5 p1 w_counts_a0 w_numbered_a0 LG LI LC L_a2)).toNatClampNeg 0) = (0 : Int32)
    · refine go (B := T33.setTop (mkF m 127 #[.val (.ref a0), .val (.int p1), .val (.ref a2), .val (.ref a2), .val (.int (1 : Int32)), .val (.int (0 : Int32)), .val (.int (List.getD L_a2 0 0)), .val (.int ((f7n1_t0 p1 LG L_a2) + (1 : Int32))), .val (.int (f7n1_t5 p1 w_counts_a0 w_numbered_a0 LG LI LC L_a2))] [])) (fun _ k => XS.ifNo X33.here hx rfl (hb hby d7_124) rfl ((if0 _ _).trans (teq hc35).2) k) ?_
      refine go (B := T33.setTop (mkF m 128 #[.val (.ref a0), .val (.int p1), .val (.ref a2), .val (.ref a2), .val (.int (1 : Int32)), .val (.int (0 : Int32)), .val (.int (List.getD L_a2 0 0)), .val (.int ((f7n1_t0 p1 LG L_a2) + (1 : Int32))), .val (.int (f7n1_t5 p1 w_counts_a0 w_numbered_a0 LG LI LC L_a2))] [(.ref a0)])) (fun _ k => XS.aloadN X33.here hx rfl (hb hby d7_127) rfl rfl k) ?_
      refine go (B := T33.setTop (mkF m 129 #[.val (.ref a0), .val (.int p1), .val (.ref a2), .val (.ref a2), .val (.int (1 : Int32)), .val (.int (0 : Int32)), .val (.int (List.getD L_a2 0 0)), .val (.int ((f7n1_t0 p1 LG L_a2) + (1 : Int32))), .val (.int (f7n1_t5 p1 w_counts_a0 w_numbered_a0 LG LI LC L_a2))] [(.ref a0), (.ref a0)])) (fun _ k => XS.dup X33.here hx rfl (hb hby d7_128) rfl rfl k) ?_
      obtain ⟨T36, X36, e36, st36⟩ := getF X33 hx hZ hown (host := "") (Or.inl (hw _ (List.mem_of_getElem? (i := 59) rfl))) Via.refl e33 F_live_a0_33 (g := (mkF m 129 #[.val (.ref a0), .val (.int p1), .val (.ref a2), .val (.ref a2), .val (.int (1 : Int32)), .val (.int (0 : Int32)), .val (.int (List.getD L_a2 0 0)), .val (.int ((f7n1_t0 p1 LG L_a2) + (1 : Int32))), .val (.int (f7n1_t5 p1 w_counts_a0 w_numbered_a0 LG LI LC L_a2))] [(.ref a0), (.ref a0)])) rfl rfl (hb hby d7_129)
      refine go (B := T36.setTop (mkF m 132 #[.val (.ref a0), .val (.int p1), .val (.ref a2), .val (.ref a2), .val (.int (1 : Int32)), .val (.int (0 : Int32)), .val (.int (List.getD L_a2 0 0)), .val (.int ((f7n1_t0 p1 LG L_a2) + (1 : Int32))), .val (.int (f7n1_t5 p1 w_counts_a0 w_numbered_a0 LG LI LC L_a2))] [(.int V'_11), (.ref a0)])) st36 ?_
      refine go (B := T36.setTop (mkF m 133 #[.val (.ref a0), .val (.int p1), .val (.ref a2), .val (.ref a2), .val (.int (1 : Int32)), .val (.int (0 : Int32)), .val (.int (List.getD L_a2 0 0)), .val (.int ((f7n1_t0 p1 LG L_a2) + (1 : Int32))), .val (.int (f7n1_t5 p1 w_counts_a0 w_numbered_a0 LG LI LC L_a2))] [(.int (1 : Int32)), (.int V'_11), (.ref a0)])) (fun _ k => XS.iconst X36.here hx rfl (hb hby d7_132) k) ?_
      refine go (B := T36.setTop (mkF m 134 #[.val (.ref a0), .val (.int p1), .val (.ref a2), .val (.ref a2), .val (.int (1 : Int32)), .val (.int (0 : Int32)), .val (.int (List.getD L_a2 0 0)), .val (.int ((f7n1_t0 p1 LG L_a2) + (1 : Int32))), .val (.int (f7n1_t5 p1 w_counts_a0 w_numbered_a0 LG LI LC L_a2))] [(.int (V'_11 + (1 : Int32))), (.ref a0)])) (fun _ k => XS.iadd X36.here hx rfl (hb hby d7_133) rfl k) ?_
      obtain ⟨T37, h37, X37, e37, W37, st37⟩ := putF X36 hx hZ hown (host := "") (Or.inl (hw _ (List.mem_of_getElem? (i := 59) rfl))) Via.refl e36 F_live_a0_33 E_a0_33 (Or.inl (hw _ (List.mem_of_getElem? (i := 60) rfl))) (hw _ (List.mem_of_getElem? (i := 14) rfl)) (ty := .int) (by decide) rfl rfl (g := (mkF m 134 #[.val (.ref a0), .val (.int p1), .val (.ref a2), .val (.ref a2), .val (.int (1 : Int32)), .val (.int (0 : Int32)), .val (.int (List.getD L_a2 0 0)), .val (.int ((f7n1_t0 p1 LG L_a2) + (1 : Int32))), .val (.int (f7n1_t5 p1 w_counts_a0 w_numbered_a0 LG LI LC L_a2))] [(.int (V'_11 + (1 : Int32))), (.ref a0)])) rfl rfl (hb hby d7_134)
      have E_a0_37 := E_a0_33.wr W37
      have W_w_seenIn_a0_37 := W_w_seenIn_a0_33.other W37 (Ne.symm ne_a0_w_seenIn_a0)
      have W_w_counted_a0_37 := W_w_counted_a0_33.other W37 (Ne.symm ne_a0_w_counted_a0)
      have W_a2_37 := W_a2_33.other W37 (Ne.symm ne_a0_a2)
      have F_sizes_a0_37 := Fld.other W37 F_sizes_a0_33 (Or.inr (slot_ne (Or.inl (hw _ (List.mem_of_getElem? (i := 23) rfl))) (Or.inl (hw _ (List.mem_of_getElem? (i := 60) rfl))) (by decide) (t := (.array .int)) (t' := .int) (by decide) (by decide)))
      have F_seenIn_a0_37 := Fld.other W37 F_seenIn_a0_33 (Or.inr (slot_ne (Or.inl (hw _ (List.mem_of_getElem? (i := 25) rfl))) (Or.inl (hw _ (List.mem_of_getElem? (i := 60) rfl))) (by decide) (t := (.array .int)) (t' := .int) (by decide) (by decide)))
      have F_counted_a0_37 := Fld.other W37 F_counted_a0_33 (Or.inr (slot_ne (Or.inl (hw _ (List.mem_of_getElem? (i := 27) rfl))) (Or.inl (hw _ (List.mem_of_getElem? (i := 60) rfl))) (by decide) (t := (.array .int)) (t' := .int) (by decide) (by decide)))
      have F_groupOf_a0_37 := Fld.other W37 F_groupOf_a0_33 (Or.inr (slot_ne (Or.inr (hw _ (List.mem_of_getElem? (i := 29) rfl))) (Or.inl (hw _ (List.mem_of_getElem? (i := 60) rfl))) (by decide) (t := (.array .int)) (t' := .int) (by decide) (by decide)))
      have F_counts_a0_37 := Fld.other W37 F_counts_a0_33 (Or.inr (slot_ne (Or.inl (hw _ (List.mem_of_getElem? (i := 44) rfl))) (Or.inl (hw _ (List.mem_of_getElem? (i := 60) rfl))) (by decide) (t := .int) (t' := .int) (by decide) (by decide)))
      have F_numbered_a0_37 := Fld.other W37 F_numbered_a0_33 (Or.inr (slot_ne (Or.inl (hw _ (List.mem_of_getElem? (i := 58) rfl))) (Or.inl (hw _ (List.mem_of_getElem? (i := 60) rfl))) (by decide) (t := .int) (t' := .int) (by decide) (by decide)))
      have W_w_groupOf_a0_37 := W_w_groupOf_a0_33.other W37 (Ne.symm ne_a0_w_groupOf_a0)
      have W_w_sizes_a0_37 := W_w_sizes_a0_33.other W37 (Ne.symm ne_a0_w_sizes_a0)
      have F_live_a0_37 := Fld.same W37 F_live_a0_33
      have Z37 := Nat.le_trans Z33 (Keep.of_wr W37).1
      have K37 := K33.wr W37 (Or.inl (List.mem_of_getElem? (i := 0) rfl))
      have N37 := Fr.snoc X37 N33 g_a0
      refine go (B := T37.setTop (mkF m 137 #[.val (.ref a0), .val (.int p1), .val (.ref a2), .val (.ref a2), .val (.int (1 : Int32)), .val (.int (0 : Int32)), .val (.int (List.getD L_a2 0 0)), .val (.int ((f7n1_t0 p1 LG L_a2) + (1 : Int32))), .val (.int (f7n1_t5 p1 w_counts_a0 w_numbered_a0 LG LI LC L_a2))] [])) st37 ?_
      rw [show (f7n1_z9 p1 w_counts_a0 w_numbered_a0 LG LI LC L_a2 S'_11 V'_11) = (V'_11 + (1 : Int32)) from by unfold f7n1_z9; rw [if_pos hc35]] at Kj34
      exact Kj34 _ _ _ X37 N37 e37 Z37 K37 E_a0_37 W_w_seenIn_a0_37 W_w_counted_a0_37 W_a2_37 F_sizes_a0_37 F_seenIn_a0_37 F_counted_a0_37 F_groupOf_a0_37 F_counts_a0_37 F_numbered_a0_37 W_w_groupOf_a0_37 W_w_sizes_a0_37 F_live_a0_37
    · refine go (B := T33.setTop (mkF m 137 #[.val (.ref a0), .val (.int p1), .val (.ref a2), .val (.ref a2), .val (.int (1 : Int32)), .val (.int (0 : Int32)), .val (.int (List.getD L_a2 0 0)), .val (.int ((f7n1_t0 p1 LG L_a2) + (1 : Int32))), .val (.int (f7n1_t5 p1 w_counts_a0 w_numbered_a0 LG LI LC L_a2))] [])) (fun _ k => XS.ifYes X33.here hx rfl (pc0 := 124) (pc' := 137) rfl (hb hby d7_124) rfl ((if0 _ _).trans (feq hc35).2) (by decide) (by decide) k) ?_
      rw [show (f7n1_z9 p1 w_counts_a0 w_numbered_a0 LG LI LC L_a2 S'_11 V'_11) = V'_11 from by unfold f7n1_z9; rw [if_neg hc35]] at Kj34
      exact Kj34 _ _ _ X33 N33 e33 Z33 K33 E_a0_33 W_w_seenIn_a0_33 W_w_counted_a0_33 W_a2_33 F_sizes_a0_33 F_seenIn_a0_33 F_counted_a0_33 F_groupOf_a0_33 F_counts_a0_33 F_numbered_a0_33 W_w_groupOf_a0_33 W_w_sizes_a0_33 F_live_a0_33
  intro T34 h34 L34 X34 N34 e34 Z34 K34 E_a0_34 W_w_seenIn_a0_34 W_w_counted_a0_34 W_a2_34 F_sizes_a0_34 F_seenIn_a0_34 F_counted_a0_34 F_groupOf_a0_34 F_counts_a0_34 F_numbered_a0_34 W_w_groupOf_a0_34 W_w_sizes_a0_34 F_live_a0_34
  refine go (B := T34.setTop (mkF m 140 #[.val (.ref a0), .val (.int p1), .val (.ref a2), .val (.ref a2), .val (.int (1 : Int32)), .val (.int (1 : Int32)), .val (.int (List.getD L_a2 0 0)), .val (.int ((f7n1_t0 p1 LG L_a2) + (1 : Int32))), .val (.int (f7n1_t5 p1 w_counts_a0 w_numbered_a0 LG LI LC L_a2))] [])) (fun _ k => XS.iinc X34.here hx rfl (hb hby d7_137) rfl (l' := #[.val (.ref a0), .val (.int p1), .val (.ref a2), .val (.ref a2), .val (.int (1 : Int32)), .val (.int (1 : Int32)), .val (.int (List.getD L_a2 0 0)), .val (.int ((f7n1_t0 p1 LG L_a2) + (1 : Int32))), .val (.int (f7n1_t5 p1 w_counts_a0 w_numbered_a0 LG LI LC L_a2))]) rfl k) ?_
  refine go (B := T34.setTop (mkF m 24 #[.val (.ref a0), .val (.int p1), .val (.ref a2), .val (.ref a2), .val (.int (1 : Int32)), .val (.int (1 : Int32)), .val (.int (List.getD L_a2 0 0)), .val (.int ((f7n1_t0 p1 LG L_a2) + (1 : Int32))), .val (.int (f7n1_t5 p1 w_counts_a0 w_numbered_a0 LG LI LC L_a2))] [])) (fun _ k => XS.goto X34.here hx rfl (pc0 := 140) (pc' := 24) rfl (hb hby d7_140) (by decide) (by decide) k) ?_
  refine go (B := T34.setTop (mkF m 26 #[.val (.ref a0), .val (.int p1), .val (.ref a2), .val (.ref a2), .val (.int (1 : Int32)), .val (.int (1 : Int32)), .val (.int (List.getD L_a2 0 0)), .val (.int ((f7n1_t0 p1 LG L_a2) + (1 : Int32))), .val (.int (f7n1_t5 p1 w_counts_a0 w_numbered_a0 LG LI LC L_a2))] [(.int (1 : Int32))])) (fun _ k => XS.iload X34.here hx rfl (hb hby d7_24) rfl k) ?_
  refine go (B := T34.setTop (mkF m 28 #[.val (.ref a0), .val (.int p1), .val (.ref a2), .val (.ref a2), .val (.int (1 : Int32)), .val (.int (1 : Int32)), .val (.int (List.getD L_a2 0 0)), .val (.int ((f7n1_t0 p1 LG L_a2) + (1 : Int32))), .val (.int (f7n1_t5 p1 w_counts_a0 w_numbered_a0 LG LI LC L_a2))] [(.int (1 : Int32)), (.int (1 : Int32))])) (fun _ k => XS.iload X34.here hx rfl (hb hby d7_26) rfl k) ?_
  refine go (B := T34.setTop (mkF m 143 #[.val (.ref a0), .val (.int p1), .val (.ref a2), .val (.ref a2), .val (.int (1 : Int32)), .val (.int (1 : Int32)), .val (.int (List.getD L_a2 0 0)), .val (.int ((f7n1_t0 p1 LG L_a2) + (1 : Int32))), .val (.int (f7n1_t5 p1 w_counts_a0 w_numbered_a0 LG LI LC L_a2))] [])) (fun _ k => XS.icmpYes X34.here hx rfl (pc0 := 28) (pc' := 143) rfl (hb hby d7_28) rfl (flt (by decide : ¬ ((1 : Int32) < (1 : Int32)))).2.1 (by decide) (by decide) k) ?_
  exact end_void X34 hx Bd.notSynchronized Bd.returns (hb hby d7_143) hF e34 (by decide) (by decide) ⟨(f7n1_l6 p1 w_counts_a0 w_numbered_a0 LG LI LC L_a2), (f7n1_l8 p1 w_counts_a0 w_numbered_a0 LG LI LC L_a2 S'_11), (f7n1_l2 p1 w_counts_a0 LG LI L_a2), (f7n1_l3 p1 w_counts_a0 w_numbered_a0 LG LI LC L_a2), (f7n1_z9 p1 w_counts_a0 w_numbered_a0 LG LI LC L_a2 S'_11 V'_11), (f7n1_z4 p1 w_counts_a0 w_numbered_a0 LG LI L_a2), rfl, N34, K34, E_a0_34, F_sizes_a0_34, F_seenIn_a0_34, F_counted_a0_34, F_groupOf_a0_34, F_counts_a0_34, F_numbered_a0_34, F_live_a0_34, W_w_groupOf_a0_34, ((List.length_set).trans o11_9), W_w_sizes_a0_34, ((List.length_set).trans o11_11), W_w_seenIn_a0_34, hl_w_seenIn_a0_16, W_w_counted_a0_34, hl_w_counted_a0_16, hG30, (own_Jend hq24.1 (by rw [own_inc (by omega) (by have := hI.2.1; omega)]; have := hI.2.1; omega) (by rw [own_inc (by omega) (by have := hI.2.1; omega)]; omega)), (by have := hB30.2; omega), (own_list1 hl_L_a2 ▸ hR30)⟩
theorem ef_7n0 (m : MethodId) (a0 : Addr) (p1 : Int32) (a2 : Addr) : entryFrame m #[(.ref a0), (.int p1), (.ref a2)] 9 = mkF m 0 #[.val (.ref a0), .val (.int p1), .val (.ref a2), .unset, .unset, .unset, .unset, .unset, .unset] [] := by first | (simp [entryFrame, mkF, argsToLocals, Value.category]; done) | rfl
abbrev room7n0 : Room := { frames := 1, cells := 0, slots := 0, locals := 14 }
def Q7n0 (Z : State) (a0 : Addr) (p1 : Int32) (a2 : Addr) (w_sizes_a0 : Addr) (w_seenIn_a0 : Addr) (w_counted_a0 : Addr) (w_groupOf_a0 : Addr) (w_counts_a0 : Int32) (w_numbered_a0 : Int32) (w_live_a0 : Int32) (LG : List Int32) (LS : List Int32) (LI : List Int32) (LC : List Int32) (L_a2 : List Int32) (h0 : Heap) (n0 : Nat) (v : Option Value) (h : Heap) (L : List Loc) : Prop := ∃ G' : List Int32, ∃ S' : List Int32, ∃ I' : List Int32, ∃ C' : List Int32, ∃ V' : Int32, ∃ N' : Int32, v = none ∧ Fr n0 L ∧ Keep h0 h [a0, w_groupOf_a0, w_sizes_a0, w_seenIn_a0, w_counted_a0] ∧ Exa Z h a0 "com/example/constrained_flow/constrainedflow/planner/search/Sweep$Groups" ∧ Fld Z h a0 "com/example/constrained_flow/constrainedflow/planner/search/Sweep$Groups" "sizes" "[I" (.ref w_sizes_a0) ∧ Fld Z h a0 "com/example/constrained_flow/constrainedflow/planner/search/Sweep$Groups" "seenIn" "[I" (.ref w_seenIn_a0) ∧ Fld Z h a0 "com/example/constrained_flow/constrainedflow/planner/search/Sweep$Groups" "counted" "[I" (.ref w_counted_a0) ∧ Fld Z h a0 "com/example/constrained_flow/constrainedflow/planner/search/Sweep$Groups" "groupOf" "[I" (.ref w_groupOf_a0) ∧ Fld Z h a0 "com/example/constrained_flow/constrainedflow/planner/search/Sweep$Groups" "counts" "I" (.int (w_counts_a0 + (1 : Int32))) ∧ Fld Z h a0 "com/example/constrained_flow/constrainedflow/planner/search/Sweep$Groups" "numbered" "I" (.int N') ∧ Fld Z h a0 "com/example/constrained_flow/constrainedflow/planner/search/Sweep$Groups" "live" "I" (.int V') ∧ Arl Z h w_groupOf_a0 .int G' ∧ G'.length = 4 ∧ Arl Z h w_sizes_a0 .int S' ∧ S'.length = 16 ∧ Arl Z h w_seenIn_a0 .int I' ∧ I'.length = 17 ∧ Arl Z h w_counted_a0 .int C' ∧ C'.length = 17 ∧ own_G G' N' ∧ own_I I' (w_counts_a0 + (1 : Int32)) ∧ N'.toInt ≤ w_numbered_a0.toInt + 2 ∧ own_rel LG p1 L_a2 G'
set_option maxRecDepth 65536 in
set_option maxHeartbeats 40000000 in
theorem rm7n0 (l : Launch) (Z : State) (aw : Array Value) (hw : ∀ d ∈ tables_1, d.before aw Z = true) (ws : List Jvm.Cond) (a0 : Addr) (p1 : Int32) (a2 : Addr) (w_sizes_a0 : Addr) (w_seenIn_a0 : Addr) (w_counted_a0 : Addr) (w_groupOf_a0 : Addr) (w_counts_a0 : Int32) (w_numbered_a0 : Int32) (w_live_a0 : Int32) (LG : List Int32) (LS : List Int32) (LI : List Int32) (LC : List Int32) (L_a2 : List Int32) (h0 : Heap) (n0 : Nat) (Z0 : n0 ≤ h0.size) (F_sizes_a0 : Fld Z h0 a0 "com/example/constrained_flow/constrainedflow/planner/search/Sweep$Groups" "sizes" "[I" (.ref w_sizes_a0)) (F_seenIn_a0 : Fld Z h0 a0 "com/example/constrained_flow/constrainedflow/planner/search/Sweep$Groups" "seenIn" "[I" (.ref w_seenIn_a0)) (F_counted_a0 : Fld Z h0 a0 "com/example/constrained_flow/constrainedflow/planner/search/Sweep$Groups" "counted" "[I" (.ref w_counted_a0)) (F_groupOf_a0 : Fld Z h0 a0 "com/example/constrained_flow/constrainedflow/planner/search/Sweep$Groups" "groupOf" "[I" (.ref w_groupOf_a0)) (F_counts_a0 : Fld Z h0 a0 "com/example/constrained_flow/constrainedflow/planner/search/Sweep$Groups" "counts" "I" (.int w_counts_a0)) (F_numbered_a0 : Fld Z h0 a0 "com/example/constrained_flow/constrainedflow/planner/search/Sweep$Groups" "numbered" "I" (.int w_numbered_a0)) (F_live_a0 : Fld Z h0 a0 "com/example/constrained_flow/constrainedflow/planner/search/Sweep$Groups" "live" "I" (.int w_live_a0)) (E_a0 : Exa Z h0 a0 "com/example/constrained_flow/constrainedflow/planner/search/Sweep$Groups") (W_w_groupOf_a0 : Arl Z h0 w_groupOf_a0 .int LG) (hl_LG : LG.length = 4) (W_w_sizes_a0 : Arl Z h0 w_sizes_a0 .int LS) (hl_LS : LS.length = 16) (W_w_seenIn_a0 : Arl Z h0 w_seenIn_a0 .int LI) (hl_LI : LI.length = 17) (W_w_counted_a0 : Arl Z h0 w_counted_a0 .int LC) (hl_LC : LC.length = 17) (W_a2 : Arl Z h0 a2 .int L_a2) (hl_L_a2 : L_a2.length = 0) (ne_a0_w_groupOf_a0 : a0 ≠ w_groupOf_a0) (ne_a0_w_sizes_a0 : a0 ≠ w_sizes_a0) (ne_a0_w_seenIn_a0 : a0 ≠ w_seenIn_a0) (ne_a0_w_counted_a0 : a0 ≠ w_counted_a0) (ne_a0_a2 : a0 ≠ a2) (ne_w_groupOf_a0_w_sizes_a0 : w_groupOf_a0 ≠ w_sizes_a0) (ne_w_groupOf_a0_w_seenIn_a0 : w_groupOf_a0 ≠ w_seenIn_a0) (ne_w_groupOf_a0_w_counted_a0 : w_groupOf_a0 ≠ w_counted_a0) (ne_w_groupOf_a0_a2 : w_groupOf_a0 ≠ a2) (ne_w_sizes_a0_w_seenIn_a0 : w_sizes_a0 ≠ w_seenIn_a0) (ne_w_sizes_a0_w_counted_a0 : w_sizes_a0 ≠ w_counted_a0) (ne_w_sizes_a0_a2 : w_sizes_a0 ≠ a2) (ne_w_seenIn_a0_w_counted_a0 : w_seenIn_a0 ≠ w_counted_a0) (ne_w_seenIn_a0_a2 : w_seenIn_a0 ≠ a2) (ne_w_counted_a0_a2 : w_counted_a0 ≠ a2) (hG : own_G LG w_numbered_a0) (hI : own_I LI w_counts_a0) (hbk : own_nd p1) (g_a0 : n0 ≤ a0) (g_w_groupOf_a0 : n0 ≤ w_groupOf_a0) (g_w_sizes_a0 : n0 ≤ w_sizes_a0) (g_w_seenIn_a0 : n0 ≤ w_seenIn_a0) (g_w_counted_a0 : n0 ≤ w_counted_a0) (hch : ∀ z ∈ L_a2, own_nd z) (hN : w_numbered_a0.toInt + 2 ≤ 15) (hKc : w_counts_a0.toInt < 100) :
    MetFree l (⟨"com/example/constrained_flow/constrainedflow/planner/search/Sweep$Groups", "take", "(I[I)V"⟩ : MethodName) (head1 (Jvm.Cond.code (⟨"com/example/constrained_flow/constrainedflow/planner/search/Sweep$Groups", "take", "(I[I)V"⟩ : MethodName) prog_97_method_4_code 9 none :: ws) room7n0) (fun a U => a = #[(.ref a0), (.int p1), (.ref a2)] ∧ Z.Warmed39 U.vm ∧ U.heap = h0) (fun _ _ _ _ _ => True) (fun _ U o U' => ∃ v L, o = .returned v ∧ Q7n0 Z a0 p1 a2 w_sizes_a0 w_seenIn_a0 w_counted_a0 w_groupOf_a0 w_counts_a0 w_numbered_a0 w_live_a0 LG LS LI LC L_a2 h0 n0 v U'.heap L ∧ FrameEnd U o U' L room7n0.cells room7n0.slots) := by
  refine MetFree.of_bodySF (plainFor_of_name pn_4) hisR ?_
  intro p e s m args below meth c s₁ Bd hml0 hP hK
  obtain ⟨rfl, hZ, hh⟩ := hP
  have hx := Bd.exec
  have hby := Bd.bytes
  have hml : c.maxLocals = 9 := hml0
  have hown : s.vm.findClass "com/example/constrained_flow/constrainedflow/planner/search/Sweep$Groups" = some m.cls := findClass_of_methodNamed Bd.named
  have hnm := (name_of_methodNamed Bd.named Bd.method).1
  have X0 : Stand p l e room7n0 s m #[(.ref a0), (.int p1), (.ref a2)] below meth c s₁ [] 0 0 := Stand.of_body Bd
  have e0 : s₁.heap = h0 := by rw [← hh, Bd.state]; rfl
  have N0 := Fr.nil n0
  have K0 := Keep.refl h0 [a0, w_groupOf_a0, w_sizes_a0, w_seenIn_a0, w_counted_a0]
  rw [ef_7n0 m a0 p1 a2]
  refine go_in (s₁ := s₁) (Q := Q7n0 Z a0 p1 a2 w_sizes_a0 w_seenIn_a0 w_counted_a0 w_groupOf_a0 w_counts_a0 w_numbered_a0 w_live_a0 LG LS LI LC L_a2 h0 n0) fun F hF => ?_
  refine go (B := s₁.setTop (mkF m 1 #[.val (.ref a0), .val (.int p1), .val (.ref a2), .unset, .unset, .unset, .unset, .unset, .unset] [(.ref a0)])) (fun _ k => XS.aloadN X0.here hx rfl (hb hby d7_0) rfl rfl k) ?_
  refine go (B := s₁.setTop (mkF m 2 #[.val (.ref a0), .val (.int p1), .val (.ref a2), .unset, .unset, .unset, .unset, .unset, .unset] [(.int p1), (.ref a0)])) (fun _ k => XS.iloadN X0.here hx rfl (hb hby d7_1) rfl k) ?_
  obtain ⟨cq1, q1, q1'⟩ := E_a0.cell
  obtain ⟨_, _, ⟨T1, L1, k1, n1⟩, -, X1, ⟨Lc1, hQ1, l1, y1, z1⟩, st1⟩ := X0.privateBack hx (y := (⟨"com/example/constrained_flow/constrainedflow/planner/search/Sweep$Groups", "leave", "(I)V"⟩ : MethodName)) hown (mvT hZ (hw _ (List.mem_of_getElem? (i := 39) rfl))) (mvT hZ (hw _ (List.mem_of_getElem? (i := 40) rfl))) (own_selp hZ (hw _ (List.mem_of_getElem? (i := 14) rfl)) (hw _ (List.mem_of_getElem? (i := 41) rfl)) (hw _ (List.mem_of_getElem? (i := 40) rfl)) (by decide)) (Cond.privateMethod_at (mvP hZ (hw _ (List.mem_of_getElem? (i := 41) rfl)) (args := #[]))) (mvT hZ (hw _ (List.mem_of_getElem? (i := 42) rfl))) (by decide) (backOf (W := 0) (rm8 l Z aw hw [] a0 p1 w_sizes_a0 w_seenIn_a0 w_counted_a0 w_groupOf_a0 w_counts_a0 w_numbered_a0 w_live_a0 LG LS h0 n0 Z0 F_sizes_a0 F_seenIn_a0 F_counted_a0 F_groupOf_a0 F_counts_a0 F_numbered_a0 F_live_a0 E_a0 W_w_groupOf_a0 hl_LG W_w_sizes_a0 hl_LS ne_a0_w_groupOf_a0 ne_a0_w_sizes_a0 ne_w_groupOf_a0_w_sizes_a0 hG hbk g_w_groupOf_a0 g_w_sizes_a0 g_a0) hZ (hw _ (List.mem_of_getElem? (i := 42) rfl)) (hw _ (List.mem_of_getElem? (i := 15) rfl)) (by decide) (by decide)) (g := (mkF m 2 #[.val (.ref a0), .val (.int p1), .val (.ref a2), .unset, .unset, .unset, .unset, .unset, .unset] [(.int p1), (.ref a0)])) rfl (by rw [hml]; rfl) (Steps.refl _) (a := a0) (by rw [e0]; exact q1) q1' (argsL := [(.int p1)]) (rest := []) (lenOf pd_3 rfl) rfl (by show 2 * 0 + _ ≤ _; exact Nat.le_of_eq rfl) (hb hby d7_2) (fun _ _ => ⟨rfl, e0, (by decide : 0 + 0 ≤ _), (by decide : 0 + 0 ≤ _)⟩)
  dsimp only [Pt.U, Pt.locs, Pt.cells, Pt.slots] at X1 l1 y1 z1 st1 hQ1
  subst l1 y1 z1
  obtain ⟨S'_1, V'_1, rfl, N1q, Kc1, o1_0, o1_1, o1_2, o1_3, o1_4, o1_5, o1_6, o1_7, o1_8, o1_9, o1_10, o1_11⟩ := hQ1
  have E_a0_1 := E_a0.keep Kc1
  have W_w_seenIn_a0_1 := W_w_seenIn_a0.keep Kc1 (ninS (Ne.symm ne_a0_w_seenIn_a0) (ninS (Ne.symm ne_w_groupOf_a0_w_seenIn_a0) (ninS (Ne.symm ne_w_sizes_a0_w_seenIn_a0) nin0)))
  have W_w_counted_a0_1 := W_w_counted_a0.keep Kc1 (ninS (Ne.symm ne_a0_w_counted_a0) (ninS (Ne.symm ne_w_groupOf_a0_w_counted_a0) (ninS (Ne.symm ne_w_sizes_a0_w_counted_a0) nin0)))
  have W_a2_1 := W_a2.keep Kc1 (ninS (Ne.symm ne_a0_a2) (ninS (Ne.symm ne_w_groupOf_a0_a2) (ninS (Ne.symm ne_w_sizes_a0_a2) nin0)))
  have N1 := Fr.app N0 N1q
  have Z1 := Nat.le_trans Z0 Kc1.1
  have K1 := K0.trans Kc1 (allS (Or.inl (List.mem_of_getElem? (i := 0) rfl)) (allS (Or.inl (List.mem_of_getElem? (i := 1) rfl)) (allS (Or.inl (List.mem_of_getElem? (i := 2) rfl)) all0)))
  refine go (B := T1.setTop (mkF m 5 #[.val (.ref a0), .val (.int p1), .val (.ref a2), .unset, .unset, .unset, .unset, .unset, .unset] [])) (fun _ k => st1.trans k) ?_
  have hG2 : own_G (List.set LG (p1).toNatClampNeg (-1 : Int32)) w_numbered_a0 := own_Gneg hG
  have hR2 : own_rel LG p1 [] (List.set LG (p1).toNatClampNeg (-1 : Int32)) := own_rel0 hl_LG hbk
  refine go (B := T1.setTop (mkF m 6 #[.val (.ref a0), .val (.int p1), .val (.ref a2), .unset, .unset, .unset, .unset, .unset, .unset] [(.ref a0)])) (fun _ k => XS.aloadN X1.here hx rfl (hb hby d7_5) rfl rfl k) ?_
  refine go (B := T1.setTop (mkF m 7 #[.val (.ref a0), .val (.int p1), .val (.ref a2), .unset, .unset, .unset, .unset, .unset, .unset] [(.ref a0), (.ref a0)])) (fun _ k => XS.dup X1.here hx rfl (hb hby d7_6) rfl rfl k) ?_
  obtain ⟨T3, X3, e3, st3⟩ := getF X1 hx hZ hown (host := "") (Or.inl (hw _ (List.mem_of_getElem? (i := 43) rfl))) Via.refl rfl o1_5 (g := (mkF m 7 #[.val (.ref a0), .val (.int p1), .val (.ref a2), .unset, .unset, .unset, .unset, .unset, .unset] [(.ref a0), (.ref a0)])) rfl rfl (hb hby d7_7)
  refine go (B := T3.setTop (mkF m 10 #[.val (.ref a0), .val (.int p1), .val (.ref a2), .unset, .unset, .unset, .unset, .unset, .unset] [(.int w_counts_a0), (.ref a0)])) st3 ?_
  refine go (B := T3.setTop (mkF m 11 #[.val (.ref a0), .val (.int p1), .val (.ref a2), .unset, .unset, .unset, .unset, .unset, .unset] [(.int (1 : Int32)), (.int w_counts_a0), (.ref a0)])) (fun _ k => XS.iconst X3.here hx rfl (hb hby d7_10) k) ?_
  refine go (B := T3.setTop (mkF m 12 #[.val (.ref a0), .val (.int p1), .val (.ref a2), .unset, .unset, .unset, .unset, .unset, .unset] [(.int (w_counts_a0 + (1 : Int32))), (.ref a0)])) (fun _ k => XS.iadd X3.here hx rfl (hb hby d7_11) rfl k) ?_
  obtain ⟨T4, h4, X4, e4, W4, st4⟩ := putF X3 hx hZ hown (host := "") (Or.inl (hw _ (List.mem_of_getElem? (i := 43) rfl))) Via.refl e3 o1_5 o1_0 (Or.inl (hw _ (List.mem_of_getElem? (i := 44) rfl))) (hw _ (List.mem_of_getElem? (i := 14) rfl)) (ty := .int) (by decide) rfl rfl (g := (mkF m 12 #[.val (.ref a0), .val (.int p1), .val (.ref a2), .unset, .unset, .unset, .unset, .unset, .unset] [(.int (w_counts_a0 + (1 : Int32))), (.ref a0)])) rfl rfl (hb hby d7_12)
  have E_a0_4 := o1_0.wr W4
  have W_w_seenIn_a0_4 := W_w_seenIn_a0_1.other W4 (Ne.symm ne_a0_w_seenIn_a0)
  have W_w_counted_a0_4 := W_w_counted_a0_1.other W4 (Ne.symm ne_a0_w_counted_a0)
  have W_a2_4 := W_a2_1.other W4 (Ne.symm ne_a0_a2)
  have F_sizes_a0_4 := Fld.other W4 o1_1 (Or.inr (slot_ne (Or.inl (hw _ (List.mem_of_getElem? (i := 23) rfl))) (Or.inl (hw _ (List.mem_of_getElem? (i := 44) rfl))) (by decide) (t := (.array .int)) (t' := .int) (by decide) (by decide)))
  have F_seenIn_a0_4 := Fld.other W4 o1_2 (Or.inr (slot_ne (Or.inl (hw _ (List.mem_of_getElem? (i := 25) rfl))) (Or.inl (hw _ (List.mem_of_getElem? (i := 44) rfl))) (by decide) (t := (.array .int)) (t' := .int) (by decide) (by decide)))
  have F_counted_a0_4 := Fld.other W4 o1_3 (Or.inr (slot_ne (Or.inl (hw _ (List.mem_of_getElem? (i := 27) rfl))) (Or.inl (hw _ (List.mem_of_getElem? (i := 44) rfl))) (by decide) (t := (.array .int)) (t' := .int) (by decide) (by decide)))
  have F_groupOf_a0_4 := Fld.other W4 o1_4 (Or.inr (slot_ne (Or.inr (hw _ (List.mem_of_getElem? (i := 29) rfl))) (Or.inl (hw _ (List.mem_of_getElem? (i := 44) rfl))) (by decide) (t := (.array .int)) (t' := .int) (by decide) (by decide)))
  have F_numbered_a0_4 := Fld.other W4 o1_6 (Or.inr (slot_ne (Or.inl (hw _ (List.mem_of_getElem? (i := 58) rfl))) (Or.inl (hw _ (List.mem_of_getElem? (i := 44) rfl))) (by decide) (t := .int) (t' := .int) (by decide) (by decide)))
  have F_live_a0_4 := Fld.other W4 o1_7 (Or.inr (slot_ne (Or.inl (hw _ (List.mem_of_getElem? (i := 60) rfl))) (Or.inl (hw _ (List.mem_of_getElem? (i := 44) rfl))) (by decide) (t := .int) (t' := .int) (by decide) (by decide)))
  have W_w_groupOf_a0_4 := o1_8.other W4 (Ne.symm ne_a0_w_groupOf_a0)
  have W_w_sizes_a0_4 := o1_10.other W4 (Ne.symm ne_a0_w_sizes_a0)
  have F_counts_a0_4 := Fld.same W4 o1_5
  have Z4 := Nat.le_trans Z1 (Keep.of_wr W4).1
  have K4 := K1.wr W4 (Or.inl (List.mem_of_getElem? (i := 0) rfl))
  have N4 := Fr.snoc X4 N1 g_a0
  refine go (B := T4.setTop (mkF m 15 #[.val (.ref a0), .val (.int p1), .val (.ref a2), .unset, .unset, .unset, .unset, .unset, .unset] [])) st4 ?_
  have hJ5 : own_J LI LC (w_counts_a0 + (1 : Int32)) w_numbered_a0 := own_Jstart hI hKc hl_LC
  have hB5 : 0 ≤ (w_numbered_a0).toInt ∧ (w_numbered_a0).toInt ≤ w_numbered_a0.toInt + 0 := ⟨hG.2.1, by omega⟩
  refine go (B := T4.setTop (mkF m 16 #[.val (.ref a0), .val (.int p1), .val (.ref a2), .unset, .unset, .unset, .unset, .unset, .unset] [(.ref a2)])) (fun _ k => XS.aloadN X4.here hx rfl (hb hby d7_15) rfl rfl k) ?_
  refine go (B := T4.setTop (mkF m 17 #[.val (.ref a0), .val (.int p1), .val (.ref a2), .val (.ref a2), .unset, .unset, .unset, .unset, .unset] [])) (fun _ k => XS.astoreN X4.here hx rfl (hb hby d7_16) rfl rfl (l' := #[.val (.ref a0), .val (.int p1), .val (.ref a2), .val (.ref a2), .unset, .unset, .unset, .unset, .unset]) rfl k) ?_
  refine go (B := T4.setTop (mkF m 18 #[.val (.ref a0), .val (.int p1), .val (.ref a2), .val (.ref a2), .unset, .unset, .unset, .unset, .unset] [(.ref a2)])) (fun _ k => XS.aloadN X4.here hx rfl (hb hby d7_17) rfl rfl k) ?_
  obtain ⟨cl6, Ar6, ln6⟩ := Arl.len W_a2_4
  rw [hl_L_a2] at ln6
  refine go (B := T4.setTop (mkF m 19 #[.val (.ref a0), .val (.int p1), .val (.ref a2), .val (.ref a2), .unset, .unset, .unset, .unset, .unset] [(.int (0 : Int32))])) (fun _ k => X4.arraylength hx (by rw [e4]; exact Ar6.1) (State.isArrayOf_alike hZ.alike Ar6.2.1) (g := (mkF m 18 #[.val (.ref a0), .val (.int p1), .val (.ref a2), .val (.ref a2), .unset, .unset, .unset, .unset, .unset] [(.ref a2)])) rfl rfl (hb hby d7_18) _ (by rw [ln6]; exact k)) ?_
  refine go (B := T4.setTop (mkF m 21 #[.val (.ref a0), .val (.int p1), .val (.ref a2), .val (.ref a2), .val (.int (0 : Int32)), .unset, .unset, .unset, .unset] [])) (fun _ k => XS.istore X4.here hx rfl (hb hby d7_19) rfl (l' := #[.val (.ref a0), .val (.int p1), .val (.ref a2), .val (.ref a2), .val (.int (0 : Int32)), .unset, .unset, .unset, .unset]) rfl k) ?_
  refine go (B := T4.setTop (mkF m 22 #[.val (.ref a0), .val (.int p1), .val (.ref a2), .val (.ref a2), .val (.int (0 : Int32)), .unset, .unset, .unset, .unset] [(.int (0 : Int32))])) (fun _ k => XS.iconst X4.here hx rfl (hb hby d7_21) k) ?_
  refine go (B := T4.setTop (mkF m 24 #[.val (.ref a0), .val (.int p1), .val (.ref a2), .val (.ref a2), .val (.int (0 : Int32)), .val (.int (0 : Int32)), .unset, .unset, .unset] [])) (fun _ k => XS.istore X4.here hx rfl (hb hby d7_22) rfl (l' := #[.val (.ref a0), .val (.int p1), .val (.ref a2), .val (.ref a2), .val (.int (0 : Int32)), .val (.int (0 : Int32)), .unset, .unset, .unset]) rfl k) ?_
  refine go (B := T4.setTop (mkF m 26 #[.val (.ref a0), .val (.int p1), .val (.ref a2), .val (.ref a2), .val (.int (0 : Int32)), .val (.int (0 : Int32)), .unset, .unset, .unset] [(.int (0 : Int32))])) (fun _ k => XS.iload X4.here hx rfl (hb hby d7_24) rfl k) ?_
  refine go (B := T4.setTop (mkF m 28 #[.val (.ref a0), .val (.int p1), .val (.ref a2), .val (.ref a2), .val (.int (0 : Int32)), .val (.int (0 : Int32)), .unset, .unset, .unset] [(.int (0 : Int32)), (.int (0 : Int32))])) (fun _ k => XS.iload X4.here hx rfl (hb hby d7_26) rfl k) ?_
  refine go (B := T4.setTop (mkF m 143 #[.val (.ref a0), .val (.int p1), .val (.ref a2), .val (.ref a2), .val (.int (0 : Int32)), .val (.int (0 : Int32)), .unset, .unset, .unset] [])) (fun _ k => XS.icmpYes X4.here hx rfl (pc0 := 28) (pc' := 143) rfl (hb hby d7_28) rfl (flt (by decide : ¬ ((0 : Int32) < (0 : Int32)))).2.1 (by decide) (by decide) k) ?_
  exact end_void X4 hx Bd.notSynchronized Bd.returns (hb hby d7_143) hF e4 (by decide) (by decide) ⟨(List.set LG (p1).toNatClampNeg (-1 : Int32)), S'_1, LI, LC, V'_1, w_numbered_a0, rfl, N4, K4, E_a0_4, F_sizes_a0_4, F_seenIn_a0_4, F_counted_a0_4, F_groupOf_a0_4, F_counts_a0_4, F_numbered_a0_4, F_live_a0_4, W_w_groupOf_a0_4, o1_9, W_w_sizes_a0_4, o1_11, W_w_seenIn_a0_4, hl_LI, W_w_counted_a0_4, hl_LC, hG2, (own_Jend hJ5 (by rw [own_inc (by omega) (by have := hI.2.1; omega)]; have := hI.2.1; omega) (by rw [own_inc (by omega) (by have := hI.2.1; omega)]; omega)), (by have := hB5.2; omega), (own_list0 hl_L_a2 ▸ hR2)⟩
theorem rm7 (l : Launch) (Z : State) (aw : Array Value) (hw : ∀ d ∈ tables_1, d.before aw Z = true) (ws : List Jvm.Cond) (a0 : Addr) (p1 : Int32) (a2 : Addr) (w_sizes_a0 : Addr) (w_seenIn_a0 : Addr) (w_counted_a0 : Addr) (w_groupOf_a0 : Addr) (w_counts_a0 : Int32) (w_numbered_a0 : Int32) (w_live_a0 : Int32) (LG : List Int32) (LS : List Int32) (LI : List Int32) (LC : List Int32) (L_a2 : List Int32) (h0 : Heap) (n0 : Nat) (Z0 : n0 ≤ h0.size) (F_sizes_a0 : Fld Z h0 a0 "com/example/constrained_flow/constrainedflow/planner/search/Sweep$Groups" "sizes" "[I" (.ref w_sizes_a0)) (F_seenIn_a0 : Fld Z h0 a0 "com/example/constrained_flow/constrainedflow/planner/search/Sweep$Groups" "seenIn" "[I" (.ref w_seenIn_a0)) (F_counted_a0 : Fld Z h0 a0 "com/example/constrained_flow/constrainedflow/planner/search/Sweep$Groups" "counted" "[I" (.ref w_counted_a0)) (F_groupOf_a0 : Fld Z h0 a0 "com/example/constrained_flow/constrainedflow/planner/search/Sweep$Groups" "groupOf" "[I" (.ref w_groupOf_a0)) (F_counts_a0 : Fld Z h0 a0 "com/example/constrained_flow/constrainedflow/planner/search/Sweep$Groups" "counts" "I" (.int w_counts_a0)) (F_numbered_a0 : Fld Z h0 a0 "com/example/constrained_flow/constrainedflow/planner/search/Sweep$Groups" "numbered" "I" (.int w_numbered_a0)) (F_live_a0 : Fld Z h0 a0 "com/example/constrained_flow/constrainedflow/planner/search/Sweep$Groups" "live" "I" (.int w_live_a0)) (E_a0 : Exa Z h0 a0 "com/example/constrained_flow/constrainedflow/planner/search/Sweep$Groups") (W_w_groupOf_a0 : Arl Z h0 w_groupOf_a0 .int LG) (hl_LG : LG.length = 4) (W_w_sizes_a0 : Arl Z h0 w_sizes_a0 .int LS) (hl_LS : LS.length = 16) (W_w_seenIn_a0 : Arl Z h0 w_seenIn_a0 .int LI) (hl_LI : LI.length = 17) (W_w_counted_a0 : Arl Z h0 w_counted_a0 .int LC) (hl_LC : LC.length = 17) (W_a2 : Arl Z h0 a2 .int L_a2) (hle : L_a2.length ≤ 2) (ne_a0_w_groupOf_a0 : a0 ≠ w_groupOf_a0) (ne_a0_w_sizes_a0 : a0 ≠ w_sizes_a0) (ne_a0_w_seenIn_a0 : a0 ≠ w_seenIn_a0) (ne_a0_w_counted_a0 : a0 ≠ w_counted_a0) (ne_a0_a2 : a0 ≠ a2) (ne_w_groupOf_a0_w_sizes_a0 : w_groupOf_a0 ≠ w_sizes_a0) (ne_w_groupOf_a0_w_seenIn_a0 : w_groupOf_a0 ≠ w_seenIn_a0) (ne_w_groupOf_a0_w_counted_a0 : w_groupOf_a0 ≠ w_counted_a0) (ne_w_groupOf_a0_a2 : w_groupOf_a0 ≠ a2) (ne_w_sizes_a0_w_seenIn_a0 : w_sizes_a0 ≠ w_seenIn_a0) (ne_w_sizes_a0_w_counted_a0 : w_sizes_a0 ≠ w_counted_a0) (ne_w_sizes_a0_a2 : w_sizes_a0 ≠ a2) (ne_w_seenIn_a0_w_counted_a0 : w_seenIn_a0 ≠ w_counted_a0) (ne_w_seenIn_a0_a2 : w_seenIn_a0 ≠ a2) (ne_w_counted_a0_a2 : w_counted_a0 ≠ a2) (hG : own_G LG w_numbered_a0) (hI : own_I LI w_counts_a0) (hbk : own_nd p1) (g_a0 : n0 ≤ a0) (g_w_groupOf_a0 : n0 ≤ w_groupOf_a0) (g_w_sizes_a0 : n0 ≤ w_sizes_a0) (g_w_seenIn_a0 : n0 ≤ w_seenIn_a0) (g_w_counted_a0 : n0 ≤ w_counted_a0) (hch : ∀ z ∈ L_a2, own_nd z) (hN : w_numbered_a0.toInt + 2 ≤ 15) (hKc : w_counts_a0.toInt < 100) :
    MetFree l (⟨"com/example/constrained_flow/constrainedflow/planner/search/Sweep$Groups", "take", "(I[I)V"⟩ : MethodName) (head1 (Jvm.Cond.code (⟨"com/example/constrained_flow/constrainedflow/planner/search/Sweep$Groups", "take", "(I[I)V"⟩ : MethodName) prog_97_method_4_code 9 none :: ws) room7n2) (fun a U => a = #[(.ref a0), (.int p1), (.ref a2)] ∧ Z.Warmed39 U.vm ∧ U.heap = h0) (fun _ _ _ _ _ => True) (fun _ U o U' => ∃ v L, o = .returned v ∧ Q7n2 Z a0 p1 a2 w_sizes_a0 w_seenIn_a0 w_counted_a0 w_groupOf_a0 w_counts_a0 w_numbered_a0 w_live_a0 LG LS LI LC L_a2 h0 n0 v U'.heap L ∧ FrameEnd U o U' L room7n2.cells room7n2.slots) := by
  rcases (by omega : L_a2.length = 0 ∨ L_a2.length = 1 ∨ L_a2.length = 2) with h | h | h
  · exact rm7n0 l Z aw hw ws a0 p1 a2 w_sizes_a0 w_seenIn_a0 w_counted_a0 w_groupOf_a0 w_counts_a0 w_numbered_a0 w_live_a0 LG LS LI LC L_a2 h0 n0 Z0 F_sizes_a0 F_seenIn_a0 F_counted_a0 F_groupOf_a0 F_counts_a0 F_numbered_a0 F_live_a0 E_a0 W_w_groupOf_a0 hl_LG W_w_sizes_a0 hl_LS W_w_seenIn_a0 hl_LI W_w_counted_a0 hl_LC W_a2 h ne_a0_w_groupOf_a0 ne_a0_w_sizes_a0 ne_a0_w_seenIn_a0 ne_a0_w_counted_a0 ne_a0_a2 ne_w_groupOf_a0_w_sizes_a0 ne_w_groupOf_a0_w_seenIn_a0 ne_w_groupOf_a0_w_counted_a0 ne_w_groupOf_a0_a2 ne_w_sizes_a0_w_seenIn_a0 ne_w_sizes_a0_w_counted_a0 ne_w_sizes_a0_a2 ne_w_seenIn_a0_w_counted_a0 ne_w_seenIn_a0_a2 ne_w_counted_a0_a2 hG hI hbk g_a0 g_w_groupOf_a0 g_w_sizes_a0 g_w_seenIn_a0 g_w_counted_a0 hch hN hKc
  · exact rm7n1 l Z aw hw ws a0 p1 a2 w_sizes_a0 w_seenIn_a0 w_counted_a0 w_groupOf_a0 w_counts_a0 w_numbered_a0 w_live_a0 LG LS LI LC L_a2 h0 n0 Z0 F_sizes_a0 F_seenIn_a0 F_counted_a0 F_groupOf_a0 F_counts_a0 F_numbered_a0 F_live_a0 E_a0 W_w_groupOf_a0 hl_LG W_w_sizes_a0 hl_LS W_w_seenIn_a0 hl_LI W_w_counted_a0 hl_LC W_a2 h ne_a0_w_groupOf_a0 ne_a0_w_sizes_a0 ne_a0_w_seenIn_a0 ne_a0_w_counted_a0 ne_a0_a2 ne_w_groupOf_a0_w_sizes_a0 ne_w_groupOf_a0_w_seenIn_a0 ne_w_groupOf_a0_w_counted_a0 ne_w_groupOf_a0_a2 ne_w_sizes_a0_w_seenIn_a0 ne_w_sizes_a0_w_counted_a0 ne_w_sizes_a0_a2 ne_w_seenIn_a0_w_counted_a0 ne_w_seenIn_a0_a2 ne_w_counted_a0_a2 hG hI hbk g_a0 g_w_groupOf_a0 g_w_sizes_a0 g_w_seenIn_a0 g_w_counted_a0 hch hN hKc
  · exact rm7n2 l Z aw hw ws a0 p1 a2 w_sizes_a0 w_seenIn_a0 w_counted_a0 w_groupOf_a0 w_counts_a0 w_numbered_a0 w_live_a0 LG LS LI LC L_a2 h0 n0 Z0 F_sizes_a0 F_seenIn_a0 F_counted_a0 F_groupOf_a0 F_counts_a0 F_numbered_a0 F_live_a0 E_a0 W_w_groupOf_a0 hl_LG W_w_sizes_a0 hl_LS W_w_seenIn_a0 hl_LI W_w_counted_a0 hl_LC W_a2 h ne_a0_w_groupOf_a0 ne_a0_w_sizes_a0 ne_a0_w_seenIn_a0 ne_a0_w_counted_a0 ne_a0_a2 ne_w_groupOf_a0_w_sizes_a0 ne_w_groupOf_a0_w_seenIn_a0 ne_w_groupOf_a0_w_counted_a0 ne_w_groupOf_a0_a2 ne_w_sizes_a0_w_seenIn_a0 ne_w_sizes_a0_w_counted_a0 ne_w_sizes_a0_a2 ne_w_seenIn_a0_w_counted_a0 ne_w_seenIn_a0_a2 ne_w_counted_a0_a2 hG hI hbk g_a0 g_w_groupOf_a0 g_w_sizes_a0 g_w_seenIn_a0 g_w_counted_a0 hch hN hKc
theorem d10_0 : decode prog_97_method_2_code 0 = .ok (.aload_n 0, 1) := by decide +kernel
theorem d10_1 : decode prog_97_method_2_code 1 = .ok (.getfield 19, 3) := by decide +kernel
theorem d10_4 : decode prog_97_method_2_code 4 = .ok (.iload_n 1, 1) := by decide +kernel
theorem d10_5 : decode prog_97_method_2_code 5 = .ok (.iaload, 1) := by decide +kernel
theorem d10_6 : decode prog_97_method_2_code 6 = .ok (.ifCond .lt 7, 3) := by decide +kernel
theorem d10_9 : decode prog_97_method_2_code 9 = .ok (.iconst 1, 1) := by decide +kernel
theorem d10_10 : decode prog_97_method_2_code 10 = .ok (.goto 4, 3) := by decide +kernel
theorem d10_13 : decode prog_97_method_2_code 13 = .ok (.iconst 0, 1) := by decide +kernel
theorem d10_14 : decode prog_97_method_2_code 14 = .ok (.ireturn, 1) := by decide +kernel
theorem ef_10 (m : MethodId) (a0 : Addr) (p1 : Int32) : entryFrame m #[(.ref a0), (.int p1)] 2 = mkF m 0 #[.val (.ref a0), .val (.int p1)] [] := by first | (simp [entryFrame, mkF, argsToLocals, Value.category]; done) | rfl
def f10 (p1 : Int32) (LG : List Int32) : Int32 := if (List.getD LG (p1).toNatClampNeg 0) < (0 : Int32) then (0 : Int32) else (1 : Int32)
abbrev room10 : Room := { frames := 0, cells := 0, slots := 0, locals := 0 }
def Q10 (Z : State) (a0 : Addr) (p1 : Int32) (w_sizes_a0 : Addr) (w_seenIn_a0 : Addr) (w_counted_a0 : Addr) (w_groupOf_a0 : Addr) (w_counts_a0 : Int32) (w_numbered_a0 : Int32) (w_live_a0 : Int32) (LG : List Int32) (h0 : Heap) (n0 : Nat) (v : Option Value) (h : Heap) (L : List Loc) : Prop := v = some (.int (f10 p1 LG)) ∧ L = [] ∧ h = h0
set_option maxRecDepth 65536 in
set_option maxHeartbeats 40000000 in
theorem rm10 (l : Launch) (Z : State) (aw : Array Value) (hw : ∀ d ∈ tables_1, d.before aw Z = true) (ws : List Jvm.Cond) (a0 : Addr) (p1 : Int32) (w_sizes_a0 : Addr) (w_seenIn_a0 : Addr) (w_counted_a0 : Addr) (w_groupOf_a0 : Addr) (w_counts_a0 : Int32) (w_numbered_a0 : Int32) (w_live_a0 : Int32) (LG : List Int32) (h0 : Heap) (n0 : Nat) (Z0 : n0 ≤ h0.size) (F_sizes_a0 : Fld Z h0 a0 "com/example/constrained_flow/constrainedflow/planner/search/Sweep$Groups" "sizes" "[I" (.ref w_sizes_a0)) (F_seenIn_a0 : Fld Z h0 a0 "com/example/constrained_flow/constrainedflow/planner/search/Sweep$Groups" "seenIn" "[I" (.ref w_seenIn_a0)) (F_counted_a0 : Fld Z h0 a0 "com/example/constrained_flow/constrainedflow/planner/search/Sweep$Groups" "counted" "[I" (.ref w_counted_a0)) (F_groupOf_a0 : Fld Z h0 a0 "com/example/constrained_flow/constrainedflow/planner/search/Sweep$Groups" "groupOf" "[I" (.ref w_groupOf_a0)) (F_counts_a0 : Fld Z h0 a0 "com/example/constrained_flow/constrainedflow/planner/search/Sweep$Groups" "counts" "I" (.int w_counts_a0)) (F_numbered_a0 : Fld Z h0 a0 "com/example/constrained_flow/constrainedflow/planner/search/Sweep$Groups" "numbered" "I" (.int w_numbered_a0)) (F_live_a0 : Fld Z h0 a0 "com/example/constrained_flow/constrainedflow/planner/search/Sweep$Groups" "live" "I" (.int w_live_a0)) (E_a0 : Exa Z h0 a0 "com/example/constrained_flow/constrainedflow/planner/search/Sweep$Groups") (W_w_groupOf_a0 : Arl Z h0 w_groupOf_a0 .int LG) (hl_LG : LG.length = 4) (hn : own_nd p1) :
    MetFree l (⟨"com/example/constrained_flow/constrainedflow/planner/search/Sweep$Groups", "waits", "(I)Z"⟩ : MethodName) (head1 (Jvm.Cond.code (⟨"com/example/constrained_flow/constrainedflow/planner/search/Sweep$Groups", "waits", "(I)Z"⟩ : MethodName) prog_97_method_2_code 2 (some .boolean) :: ws) room10) (fun a U => a = #[(.ref a0), (.int p1)] ∧ Z.Warmed39 U.vm ∧ U.heap = h0) (fun _ _ _ _ _ => True) (fun _ U o U' => ∃ v L, o = .returned v ∧ Q10 Z a0 p1 w_sizes_a0 w_seenIn_a0 w_counted_a0 w_groupOf_a0 w_counts_a0 w_numbered_a0 w_live_a0 LG h0 n0 v U'.heap L ∧ FrameEnd U o U' L room10.cells room10.slots) := by
  refine MetFree.of_bodySF (plainFor_of_name pn_4) hisR ?_
  intro p e s m args below meth c s₁ Bd hml0 hP hK
  obtain ⟨rfl, hZ, hh⟩ := hP
  have hx := Bd.exec
  have hby := Bd.bytes
  have hml : c.maxLocals = 2 := hml0
  have hown : s.vm.findClass "com/example/constrained_flow/constrainedflow/planner/search/Sweep$Groups" = some m.cls := findClass_of_methodNamed Bd.named
  have hnm := (name_of_methodNamed Bd.named Bd.method).1
  have X0 : Stand p l e room10 s m #[(.ref a0), (.int p1)] below meth c s₁ [] 0 0 := Stand.of_body Bd
  have e0 : s₁.heap = h0 := by rw [← hh, Bd.state]; rfl
  have N0 := Fr.nil n0
  rw [ef_10 m a0 p1]
  refine go_in (s₁ := s₁) (Q := Q10 Z a0 p1 w_sizes_a0 w_seenIn_a0 w_counted_a0 w_groupOf_a0 w_counts_a0 w_numbered_a0 w_live_a0 LG h0 n0) fun F hF => ?_
  refine go (B := s₁.setTop (mkF m 1 #[.val (.ref a0), .val (.int p1)] [(.ref a0)])) (fun _ k => XS.aloadN X0.here hx rfl (hb hby d10_0) rfl rfl k) ?_
  obtain ⟨T1, X1, e1, st1⟩ := getF X0 hx hZ hown (host := "") (Or.inl (hw _ (List.mem_of_getElem? (i := 28) rfl))) Via.refl e0 F_groupOf_a0 (g := (mkF m 1 #[.val (.ref a0), .val (.int p1)] [(.ref a0)])) rfl rfl (hb hby d10_1)
  refine go (B := T1.setTop (mkF m 4 #[.val (.ref a0), .val (.int p1)] [(.ref w_groupOf_a0)])) st1 ?_
  refine go (B := T1.setTop (mkF m 5 #[.val (.ref a0), .val (.int p1)] [(.int p1), (.ref w_groupOf_a0)])) (fun _ k => XS.iloadN X1.here hx rfl (hb hby d10_4) rfl k) ?_
  obtain ⟨cl2, Ar2, hin2, hat2, up2⟩ := Arl.in W_w_groupOf_a0 (j := p1) hn.1 (own_lit hn.2 hl_LG)
  refine go (B := T1.setTop (mkF m 6 #[.val (.ref a0), .val (.int p1)] [(.int (List.getD LG (p1).toNatClampNeg 0))])) (fun _ k => X1.iaload hx (j := p1) (v := (.int (List.getD LG (p1).toNatClampNeg 0))) (by rw [e1]; exact Ar2.1) (State.isArrayOf_alike hZ.alike Ar2.2.1) Ar2.2.2 hin2 hat2 (g := (mkF m 5 #[.val (.ref a0), .val (.int p1)] [(.int p1), (.ref w_groupOf_a0)])) rfl rfl (hb hby d10_5) _ k) ?_
  by_cases hc3 : (List.getD LG (p1).toNatClampNeg 0) < (0 : Int32)
  · refine go (B := T1.setTop (mkF m 13 #[.val (.ref a0), .val (.int p1)] [])) (fun _ k => XS.ifYes X1.here hx rfl (pc0 := 6) (pc' := 13) rfl (hb hby d10_6) rfl ((if0 _ _).trans (tlt hc3).1) (by decide) (by decide) k) ?_
    refine go (B := T1.setTop (mkF m 14 #[.val (.ref a0), .val (.int p1)] [(.int (0 : Int32))])) (fun _ k => XS.iconst X1.here hx rfl (hb hby d10_13) k) ?_
    have r4 : (f10 p1 LG) = (0 : Int32) := by unfold f10; rw [if_pos hc3]
    exact end_nar X1 hx Bd.notSynchronized (t := .boolean) Bd.returns (by simp) (hb hby d10_14) hF e1 (by decide) (by decide) ⟨(congrArg (fun z => some (Value.int z)) r4.symm), rfl, rfl⟩
  · refine go (B := T1.setTop (mkF m 9 #[.val (.ref a0), .val (.int p1)] [])) (fun _ k => XS.ifNo X1.here hx rfl (hb hby d10_6) rfl ((if0 _ _).trans (flt hc3).1) k) ?_
    refine go (B := T1.setTop (mkF m 10 #[.val (.ref a0), .val (.int p1)] [(.int (1 : Int32))])) (fun _ k => XS.iconst X1.here hx rfl (hb hby d10_9) k) ?_
    refine go (B := T1.setTop (mkF m 14 #[.val (.ref a0), .val (.int p1)] [(.int (1 : Int32))])) (fun _ k => XS.goto X1.here hx rfl (pc0 := 10) (pc' := 14) rfl (hb hby d10_10) (by decide) (by decide) k) ?_
    have r5 : (f10 p1 LG) = (1 : Int32) := by unfold f10; rw [if_neg hc3]
    exact end_nar X1 hx Bd.notSynchronized (t := .boolean) Bd.returns (by simp) (hb hby d10_14) hF e1 (by decide) (by decide) ⟨(congrArg (fun z => some (Value.int z)) r5.symm), rfl, rfl⟩
theorem own_G0 : own_G (List.set (List.set (List.set (List.set (List.replicate 4 (0 : Int32)) 0 (-1 : Int32)) 1 (-1 : Int32)) 2 (-1 : Int32)) 3 (-1 : Int32)) (0 : Int32) := by
  refine ⟨rfl, by decide, by decide, ?_⟩
  unfold own_at; decide
theorem own_I0 : own_I (List.replicate 17 (0 : Int32)) (0 : Int32) := by
  refine ⟨rfl, by decide, by decide, ?_⟩
  unfold own_at; decide
theorem own_R0 : own_R (List.replicate 4 (0 : Int32)) (List.set (List.set (List.set (List.set (List.replicate 4 (0 : Int32)) 0 (-1 : Int32)) 1 (-1 : Int32)) 2 (-1 : Int32)) 3 (-1 : Int32)) := by
  refine ⟨rfl, ?_⟩
  unfold own_at; decide
theorem own_w {R G : List Int32} (h : own_R R G) {j : Int32} (i : Nat) (hi : i < 4) (e : j.toNatClampNeg = i) : f10 j G = List.getD R i 0 := by
  rw [h.2 i hi]
  unfold f10 own_at
  rw [e]
  by_cases q : List.getD G i 0 < 0
  · have q' := q
    rw [Int32.lt_iff_toInt_lt] at q'
    have : (0 : Int32).toInt = 0 := rfl
    rw [if_pos q, if_neg (by omega)]
  · rw [if_neg q, if_pos (own_nlt q)]
theorem own_blen (t : Int32) : (f1_l1 t).length = (f2 t).toNatClampNeg := by
  unfold f1_l1 f1_l0
  split <;> simp only [List.length_set, List.length_replicate]
/-- the children, by their number -/
theorem own_b3 (t : Int32) : (f2 t < 1 ∧ f1_l3 t = []) ∨ (¬ f2 t < 1 ∧ f2 t < 2 ∧ f1_l3 t = [((t.toUInt32 >>> ((4 : Int32) &&& 31).toUInt32).toInt32) &&& (3 : Int32)]) ∨ (¬ f2 t < 1 ∧ ¬ f2 t < 2 ∧ f1_l3 t = [((t.toUInt32 >>> ((4 : Int32) &&& 31).toUInt32).toInt32) &&& (3 : Int32), ((t.toUInt32 >>> ((6 : Int32) &&& 31).toUInt32).toInt32) &&& (3 : Int32)]) := by
  have hc := own_cnt t
  have e0 : (0 : Int32).toInt = 0 := rfl
  have e1 : (1 : Int32).toInt = 1 := rfl
  have e2 : (2 : Int32).toInt = 2 := rfl
  have hn : (f2 t).toNatClampNeg = (f2 t).toInt.toNat := rfl
  unfold f1_l3 f1_l2 f1_l1 f1_l0
  by_cases h1 : f2 t < 1
  · have h2 : f2 t < 2 := by rw [Int32.lt_iff_toInt_lt] at *; omega
    have hz : (f2 t).toNatClampNeg = 0 := by rw [Int32.lt_iff_toInt_lt] at h1; rw [hn]; omega
    refine Or.inl ⟨h1, ?_⟩
    rw [if_pos h2, if_pos h1, hz]; rfl
  · by_cases h2 : f2 t < 2
    · have hz : (f2 t).toNatClampNeg = 1 := by rw [Int32.lt_iff_toInt_lt] at h1 h2; rw [hn]; omega
      refine Or.inr (Or.inl ⟨h1, h2, ?_⟩)
      rw [if_pos h2, if_neg h1, hz]; rfl
    · have hz : (f2 t).toNatClampNeg = 2 := by rw [Int32.lt_iff_toInt_lt] at h1 h2; rw [hn]; omega
      refine Or.inr (Or.inr ⟨h1, h2, ?_⟩)
      rw [if_neg h2, if_neg h1, hz]; rfl
theorem own_ch (t : Int32) : (∀ z ∈ f1_l3 t, own_nd z) ∧ (f1_l3 t).length ≤ 2 := by
  rcases own_b3 t with ⟨-, e⟩ | ⟨-, -, e⟩ | ⟨-, -, e⟩ <;> rw [e]
  · exact ⟨fun z hz => (nomatch hz), by decide⟩
  · refine ⟨fun z hz => ?_, by simp⟩
    cases List.mem_singleton.mp hz; exact own_nd3 _
  · refine ⟨fun z hz => ?_, by simp⟩
    rcases List.mem_cons.mp hz with rfl | hz
    · exact own_nd3 _
    · cases List.mem_singleton.mp hz; exact own_nd3 _
theorem own_RG {R G G' : List Int32} {t : Int32} (h : own_R R G) (r : own_rel G (t &&& (3 : Int32)) (f1_l3 t) G') : own_R (f9_l3 t R) G' := by
  obtain ⟨hl, hR⟩ := h
  have hb := own_nd3 t
  have key : ∀ i, i < 4 → ∀ v : Int32, ((∃ c ∈ f1_l3 t, c.toNatClampNeg = i) → v = 1) → ((¬ ∃ c ∈ f1_l3 t, c.toNatClampNeg = i) → v = if (t &&& (3 : Int32)).toNatClampNeg = i then 0 else List.getD R i 0) → v = if 0 ≤ own_at G' i then 1 else 0 := by
    intro i hi v h1 h2
    by_cases q : ∃ c ∈ f1_l3 t, c.toNatClampNeg = i
    · rw [h1 q, if_pos ((r i hi).mpr (Or.inl q))]
    · rw [h2 q]
      by_cases p : (t &&& (3 : Int32)).toNatClampNeg = i
      · rw [if_pos p, if_neg]
        intro z
        rcases (r i hi).mp z with z | z
        · exact q z
        · exact z.1 p
      · rw [if_neg p, hR i hi]
        by_cases z : 0 ≤ own_at G i
        · rw [if_pos z, if_pos ((r i hi).mpr (Or.inr ⟨p, z⟩))]
        · rw [if_neg z, if_neg]
          intro y
          rcases (r i hi).mp y with y | y
          · exact q y
          · exact z y.2
  refine ⟨?_, fun i hi => key i hi _ ?_ ?_⟩
  · unfold f9_l3 f9_l2 f9_l1 f9_l0
    split <;> (try split) <;> simp only [List.length_set] <;> (first | exact hl | (split <;> simp only [List.length_set] <;> exact hl))
  all_goals
    rcases own_b3 t with ⟨n1, e⟩ | ⟨n1, n2, e⟩ | ⟨n1, n2, e⟩ <;> rw [e] <;> unfold f9_l3 f9_l2 f9_l1 f9_l0
  · rintro ⟨c, hc, _⟩; cases hc
  · rintro ⟨c, hc, q⟩
    cases List.mem_singleton.mp hc
    rw [if_pos n2, if_neg n1, own_getset, if_pos ⟨q, by rw [List.length_set, hl]; exact hi⟩]
  · rintro ⟨c, hc, q⟩
    rw [if_neg n2, if_neg n1, own_getset]
    rcases List.mem_cons.mp hc with rfl | hc
    · split
      · rfl
      · rw [own_getset, if_pos ⟨q, by rw [List.length_set, hl]; exact hi⟩]
    · cases List.mem_singleton.mp hc
      rw [if_pos ⟨q, by rw [List.length_set, List.length_set, hl]; exact hi⟩]
  · intro _
    have n2 : f2 t < 2 := by
      rw [Int32.lt_iff_toInt_lt] at *
      have e1 : (1 : Int32).toInt = 1 := rfl
      have e2 : (2 : Int32).toInt = 2 := rfl
      omega
    rw [if_pos n2, if_pos n1, own_getset, hl]
    by_cases q : (t &&& (3 : Int32)).toNatClampNeg = i
    · rw [if_pos ⟨q, hi⟩, if_pos q]
    · rw [if_neg (fun z => q z.1), if_neg q]
  · intro no
    have m1 : ¬ (((t.toUInt32 >>> ((4 : Int32) &&& 31).toUInt32).toInt32) &&& (3 : Int32)).toNatClampNeg = i := fun z => no ⟨_, List.mem_singleton.mpr rfl, z⟩
    rw [if_pos n2, if_neg n1, own_getset, if_neg (fun z => m1 z.1), own_getset, hl]
    by_cases q : (t &&& (3 : Int32)).toNatClampNeg = i
    · rw [if_pos ⟨q, hi⟩, if_pos q]
    · rw [if_neg (fun z => q z.1), if_neg q]
  · intro no
    have m1 : ¬ (((t.toUInt32 >>> ((4 : Int32) &&& 31).toUInt32).toInt32) &&& (3 : Int32)).toNatClampNeg = i := fun z => no ⟨_, List.mem_cons_self .., z⟩
    have m2 : ¬ (((t.toUInt32 >>> ((6 : Int32) &&& 31).toUInt32).toInt32) &&& (3 : Int32)).toNatClampNeg = i := fun z => no ⟨_, List.mem_cons_of_mem _ (List.mem_singleton.mpr rfl), z⟩
    rw [if_neg n2, if_neg n1, own_getset, if_neg (fun z => m2 z.1), own_getset, if_neg (fun z => m1 z.1), own_getset, hl]
    by_cases q : (t &&& (3 : Int32)).toNatClampNeg = i
    · rw [if_pos ⟨q, hi⟩, if_pos q]
    · rw [if_neg (fun z => q z.1), if_neg q]

theorem pd_5 : parseMethodDescriptor "(I)[I" = some ⟨[.int], some (.array .int)⟩ := by decide +kernel
theorem pd_6 : parseMethodDescriptor "(I)Z" = some ⟨[.int], some .boolean⟩ := by decide +kernel
theorem pd_7 : parseMethodDescriptor "(I[I)V" = some ⟨[.int, (.array .int)], none⟩ := by decide +kernel
theorem pd_8 : parseMethodDescriptor "([ZI)V" = some ⟨[(.array .boolean), .int], none⟩ := by decide +kernel
theorem ef_0 (m : MethodId) (p0 : Int32) (p1 : Int32) (p2 : Int32) (p3 : Int32) : entryFrame m #[(.int p0), (.int p1), (.int p2), (.int p3)] maxLocals = mkF m 0 #[.val (.int p0), .val (.int p1), .val (.int p2), .val (.int p3), .unset, .unset, .unset, .unset, .unset, .unset, .unset, .unset, .unset, .unset] [] := by first | (simp [entryFrame, mkF, argsToLocals, Value.category, maxLocals]; done) | rfl
def f0_t0 : Int32 := (f10 (0 : Int32) (List.set (List.set (List.set (List.set (List.replicate 4 (0 : Int32)) 0 (-1 : Int32)) 1 (-1 : Int32)) 2 (-1 : Int32)) 3 (-1 : Int32)))
def f0_t1 : Int32 := (f10 (1 : Int32) (List.set (List.set (List.set (List.set (List.replicate 4 (0 : Int32)) 0 (-1 : Int32)) 1 (-1 : Int32)) 2 (-1 : Int32)) 3 (-1 : Int32)))
def f0_t2 : Int32 := (f10 (2 : Int32) (List.set (List.set (List.set (List.set (List.replicate 4 (0 : Int32)) 0 (-1 : Int32)) 1 (-1 : Int32)) 2 (-1 : Int32)) 3 (-1 : Int32)))
def f0_t3 : Int32 := (f10 (3 : Int32) (List.set (List.set (List.set (List.set (List.replicate 4 (0 : Int32)) 0 (-1 : Int32)) 1 (-1 : Int32)) 2 (-1 : Int32)) 3 (-1 : Int32)))
def f0 (p3 : Int32) : Int32 := if (p3 &&& (3 : Int32)) < (1 : Int32) then (1 : Int32) else if (p3 &&& (3 : Int32)) < (2 : Int32) then (1 : Int32) else if (p3 &&& (3 : Int32)) < (3 : Int32) then (1 : Int32) else (1 : Int32)
theorem own_law (p3 : Int32) : f0 p3 = 1 := by
  unfold f0
  repeat' split
  all_goals rfl
def Q0 (Z : State) (p0 : Int32) (p1 : Int32) (p2 : Int32) (p3 : Int32) (h0 : Heap) (n0 : Nat) (v : Option Value) (h : Heap) (L : List Loc) : Prop := v = some (.int (1 : Int32)) ∧ Fr n0 L
set_option maxRecDepth 65536 in
set_option maxHeartbeats 40000000 in
theorem rm0 (l : Launch) (Z : State) (aw : Array Value) (hw : ∀ d ∈ tables_1, d.before aw Z = true) (ws : List Jvm.Cond) (p0 : Int32) (p1 : Int32) (p2 : Int32) (p3 : Int32) (h0 : Heap) (n0 : Nat) (Z0 : n0 ≤ h0.size) :
    MetFree l x (head1 (Jvm.Cond.code x code maxLocals ret :: ws) room_1) (fun a U => a = #[(.int p0), (.int p1), (.int p2), (.int p3)] ∧ Z.Warmed39 U.vm ∧ U.heap = h0) (fun _ _ _ _ _ => True) (fun _ U o U' => ∃ v L, o = .returned v ∧ Q0 Z p0 p1 p2 p3 h0 n0 v U'.heap L ∧ FrameEnd U o U' L room_1.cells room_1.slots) := by
  refine MetFree.of_bodySF (plainFor_of_name pn_2) hisR ?_
  intro p e s m args below meth c s₁ Bd hml0 hP hK
  obtain ⟨rfl, hZ, hh⟩ := hP
  have hx := Bd.exec
  have hby := Bd.bytes
  have hml : c.maxLocals = 14 := hml0
  have hown : s.vm.findClass "com/example/constrained_flow/constrainedflow/planner/search/GroupsWaitsPinLaw" = some m.cls := findClass_of_methodNamed Bd.named
  have hnm := (name_of_methodNamed Bd.named Bd.method).1
  have X0 : Stand p l e room_1 s m #[(.int p0), (.int p1), (.int p2), (.int p3)] below meth c s₁ [] 0 0 := Stand.of_body Bd
  have e0 : s₁.heap = h0 := by rw [← hh, Bd.state]; rfl
  have N0 := Fr.nil n0
  rw [ef_0 m p0 p1 p2 p3]
  refine go_in (s₁ := s₁) (Q := Q0 Z p0 p1 p2 p3 h0 n0) fun F hF => ?_
  refine go (B := s₁.setTop (mkF m 1 #[.val (.int p0), .val (.int p1), .val (.int p2), .val (.int p3), .unset, .unset, .unset, .unset, .unset, .unset, .unset, .unset, .unset, .unset] [(.int p3)])) (fun _ k => XS.iloadN X0.here hx rfl (hb hby at_0) rfl k) ?_
  refine go (B := s₁.setTop (mkF m 2 #[.val (.int p0), .val (.int p1), .val (.int p2), .val (.int p3), .unset, .unset, .unset, .unset, .unset, .unset, .unset, .unset, .unset, .unset] [(.int (3 : Int32)), (.int p3)])) (fun _ k => XS.iconst X0.here hx rfl (hb hby at_1) k) ?_
  refine go (B := s₁.setTop (mkF m 3 #[.val (.int p0), .val (.int p1), .val (.int p2), .val (.int p3), .unset, .unset, .unset, .unset, .unset, .unset, .unset, .unset, .unset, .unset] [(.int (p3 &&& (3 : Int32)))])) (fun _ k => XS.iand X0.here hx rfl (hb hby at_2) rfl k) ?_
  refine go (B := s₁.setTop (mkF m 5 #[.val (.int p0), .val (.int p1), .val (.int p2), .val (.int p3), .val (.int (p3 &&& (3 : Int32))), .unset, .unset, .unset, .unset, .unset, .unset, .unset, .unset, .unset] [])) (fun _ k => XS.istore X0.here hx rfl (hb hby at_3) rfl (l' := #[.val (.int p0), .val (.int p1), .val (.int p2), .val (.int p3), .val (.int (p3 &&& (3 : Int32))), .unset, .unset, .unset, .unset, .unset, .unset, .unset, .unset, .unset]) rfl k) ?_
  refine go (B := s₁.setTop (mkF m 6 #[.val (.int p0), .val (.int p1), .val (.int p2), .val (.int p3), .val (.int (p3 &&& (3 : Int32))), .unset, .unset, .unset, .unset, .unset, .unset, .unset, .unset, .unset] [(.int (4 : Int32))])) (fun _ k => XS.iconst X0.here hx rfl (hb hby at_5) k) ?_
  obtain ⟨T1, h1, k1, X1, e1, E1, A1, st1⟩ := newP X0 hx hZ (hw _ (List.mem_of_getElem? (i := 0) rfl)) e0 (g := (mkF m 6 #[.val (.int p0), .val (.int p1), .val (.int p2), .val (.int p3), .val (.int (p3 &&& (3 : Int32))), .unset, .unset, .unset, .unset, .unset, .unset, .unset, .unset, .unset] [(.int (4 : Int32))])) rfl (hb hby at_6) rfl (by decide) (cap := 4) (by decide) (by decide) (by decide) (by decide)
  obtain ⟨b1, g1⟩ : ∃ z, z = h0.size := ⟨_, rfl⟩
  rw [← g1] at A1 st1
  have g_b1 : n0 ≤ b1 := Nat.le_trans Z0 (Nat.le_of_eq g1.symm)
  have Z1 := Nat.le_trans Z0 E1.1
  have W_b1 : Arl Z h1 b1 .boolean (List.replicate 4 (0 : Int32)) := Arl.of_new A1 (by decide) (by decide) rfl (by decide)
  refine go (B := T1.setTop (mkF m 8 #[.val (.int p0), .val (.int p1), .val (.int p2), .val (.int p3), .val (.int (p3 &&& (3 : Int32))), .unset, .unset, .unset, .unset, .unset, .unset, .unset, .unset, .unset] [(.ref b1)])) st1 ?_
  refine go (B := T1.setTop (mkF m 10 #[.val (.int p0), .val (.int p1), .val (.int p2), .val (.int p3), .val (.int (p3 &&& (3 : Int32))), .val (.ref b1), .unset, .unset, .unset, .unset, .unset, .unset, .unset, .unset] [])) (fun _ k => XS.astore X1.here hx rfl (hb hby at_8) rfl rfl (l' := #[.val (.int p0), .val (.int p1), .val (.int p2), .val (.int p3), .val (.int (p3 &&& (3 : Int32))), .val (.ref b1), .unset, .unset, .unset, .unset, .unset, .unset, .unset, .unset]) rfl k) ?_
  refine go (B := T1.setTop (mkF m 11 #[.val (.int p0), .val (.int p1), .val (.int p2), .val (.int p3), .val (.int (p3 &&& (3 : Int32))), .val (.ref b1), .unset, .unset, .unset, .unset, .unset, .unset, .unset, .unset] [(.int p0)])) (fun _ k => XS.iloadN X1.here hx rfl (hb hby at_10) rfl k) ?_
  obtain ⟨_, _, ⟨T2, L2, k2, n2⟩, -, X2, ⟨Lc2, hQ2, l2, y2, z2⟩, st2⟩ := Jvm.LawKit.callS X1 hx (y := (⟨"com/example/constrained_flow/constrainedflow/planner/search/GroupsWaitsPinLaw", "below", "(I)[I"⟩ : MethodName)) hown (mvT hZ (hw _ (List.mem_of_getElem? (i := 1) rfl))) (mvT hZ (hw _ (List.mem_of_getElem? (i := 2) rfl))) (mvT hZ (hw _ (List.mem_of_getElem? (i := 3) rfl))) (mvT hZ (hw _ (List.mem_of_getElem? (i := 4) rfl))) (by decide) (backOf (W := 0) (rm1 l Z aw hw [] p0 h1 n0 Z1 ) hZ (hw _ (List.mem_of_getElem? (i := 4) rfl)) (hw _ (List.mem_of_getElem? (i := 3) rfl)) (by decide) (by decide)) (g := (mkF m 11 #[.val (.int p0), .val (.int p1), .val (.int p2), .val (.int p3), .val (.int (p3 &&& (3 : Int32))), .val (.ref b1), .unset, .unset, .unset, .unset, .unset, .unset, .unset, .unset] [(.int p0)])) rfl (by rw [hml]; rfl) (argsL := [(.int p0)]) (rest := []) (lenOf pd_5 rfl) rfl (by show 2 * 0 + _ ≤ _; exact Nat.le_of_eq rfl) (hb hby at_11) (fun _ _ => ⟨rfl, e1, (by decide : 1 + 1 ≤ _), (by decide : 4 + 2 ≤ _)⟩)
  dsimp only [Pt.U, Pt.locs, Pt.cells, Pt.slots] at X2 l2 y2 z2 st2 hQ2
  subst l2 y2 z2
  obtain ⟨b2_2, rfl, N2q, Kc2, o2_0, o2_1⟩ := hQ2
  have W_b1_2 := W_b1.keep Kc2 nin0
  have N2 := Fr.app N0 N2q
  have Z2 := Nat.le_trans Z1 Kc2.1
  have g_b2_2 : n0 ≤ b2_2 := Nat.le_trans Z1 o2_0
  have ne_b1_b2_2 : b1 ≠ b2_2 := Nat.ne_of_lt (Nat.lt_of_lt_of_le W_b1.lt o2_0)
  refine go (B := T2.setTop (mkF m 14 #[.val (.int p0), .val (.int p1), .val (.int p2), .val (.int p3), .val (.int (p3 &&& (3 : Int32))), .val (.ref b1), .unset, .unset, .unset, .unset, .unset, .unset, .unset, .unset] [(.ref b2_2)])) (fun _ k => st2 _ k) ?_
  refine go (B := T2.setTop (mkF m 16 #[.val (.int p0), .val (.int p1), .val (.int p2), .val (.int p3), .val (.int (p3 &&& (3 : Int32))), .val (.ref b1), .val (.ref b2_2), .unset, .unset, .unset, .unset, .unset, .unset, .unset] [])) (fun _ k => XS.astore X2.here hx rfl (hb hby at_14) rfl rfl (l' := #[.val (.int p0), .val (.int p1), .val (.int p2), .val (.int p3), .val (.int (p3 &&& (3 : Int32))), .val (.ref b1), .val (.ref b2_2), .unset, .unset, .unset, .unset, .unset, .unset, .unset]) rfl k) ?_
  refine go (B := T2.setTop (mkF m 17 #[.val (.int p0), .val (.int p1), .val (.int p2), .val (.int p3), .val (.int (p3 &&& (3 : Int32))), .val (.ref b1), .val (.ref b2_2), .unset, .unset, .unset, .unset, .unset, .unset, .unset] [(.int p1)])) (fun _ k => XS.iloadN X2.here hx rfl (hb hby at_16) rfl k) ?_
  obtain ⟨_, _, ⟨T3, L3, k3, n3⟩, -, X3, ⟨Lc3, hQ3, l3, y3, z3⟩, st3⟩ := Jvm.LawKit.callS X2 hx (y := (⟨"com/example/constrained_flow/constrainedflow/planner/search/GroupsWaitsPinLaw", "below", "(I)[I"⟩ : MethodName)) hown (mvT hZ (hw _ (List.mem_of_getElem? (i := 1) rfl))) (mvT hZ (hw _ (List.mem_of_getElem? (i := 2) rfl))) (mvT hZ (hw _ (List.mem_of_getElem? (i := 3) rfl))) (mvT hZ (hw _ (List.mem_of_getElem? (i := 4) rfl))) (by decide) (backOf (W := 0) (rm1 l Z aw hw [] p1 T2.heap n0 Z2 ) hZ (hw _ (List.mem_of_getElem? (i := 4) rfl)) (hw _ (List.mem_of_getElem? (i := 3) rfl)) (by decide) (by decide)) (g := (mkF m 17 #[.val (.int p0), .val (.int p1), .val (.int p2), .val (.int p3), .val (.int (p3 &&& (3 : Int32))), .val (.ref b1), .val (.ref b2_2), .unset, .unset, .unset, .unset, .unset, .unset, .unset] [(.int p1)])) rfl (by rw [hml]; rfl) (argsL := [(.int p1)]) (rest := []) (lenOf pd_5 rfl) rfl (by show 2 * 0 + _ ≤ _; exact Nat.le_of_eq rfl) (hb hby at_17) (fun _ _ => ⟨rfl, rfl, (by decide : 2 + 1 ≤ _), (by decide : 6 + 2 ≤ _)⟩)
  dsimp only [Pt.U, Pt.locs, Pt.cells, Pt.slots] at X3 l3 y3 z3 st3 hQ3
  subst l3 y3 z3
  obtain ⟨b2_3, rfl, N3q, Kc3, o3_0, o3_1⟩ := hQ3
  have W_b1_3 := W_b1_2.keep Kc3 nin0
  have W_b2_2_3 := o2_1.keep Kc3 nin0
  have N3 := Fr.app N2 N3q
  have Z3 := Nat.le_trans Z2 Kc3.1
  have g_b2_3 : n0 ≤ b2_3 := Nat.le_trans Z2 o3_0
  have ne_b1_b2_3 : b1 ≠ b2_3 := Nat.ne_of_lt (Nat.lt_of_lt_of_le W_b1_2.lt o3_0)
  have ne_b2_2_b2_3 : b2_2 ≠ b2_3 := Nat.ne_of_lt (Nat.lt_of_lt_of_le o2_1.lt o3_0)
  refine go (B := T3.setTop (mkF m 20 #[.val (.int p0), .val (.int p1), .val (.int p2), .val (.int p3), .val (.int (p3 &&& (3 : Int32))), .val (.ref b1), .val (.ref b2_2), .unset, .unset, .unset, .unset, .unset, .unset, .unset] [(.ref b2_3)])) (fun _ k => st3 _ k) ?_
  refine go (B := T3.setTop (mkF m 22 #[.val (.int p0), .val (.int p1), .val (.int p2), .val (.int p3), .val (.int (p3 &&& (3 : Int32))), .val (.ref b1), .val (.ref b2_2), .val (.ref b2_3), .unset, .unset, .unset, .unset, .unset, .unset] [])) (fun _ k => XS.astore X3.here hx rfl (hb hby at_20) rfl rfl (l' := #[.val (.int p0), .val (.int p1), .val (.int p2), .val (.int p3), .val (.int (p3 &&& (3 : Int32))), .val (.ref b1), .val (.ref b2_2), .val (.ref b2_3), .unset, .unset, .unset, .unset, .unset, .unset]) rfl k) ?_
  refine go (B := T3.setTop (mkF m 23 #[.val (.int p0), .val (.int p1), .val (.int p2), .val (.int p3), .val (.int (p3 &&& (3 : Int32))), .val (.ref b1), .val (.ref b2_2), .val (.ref b2_3), .unset, .unset, .unset, .unset, .unset, .unset] [(.int p2)])) (fun _ k => XS.iloadN X3.here hx rfl (hb hby at_22) rfl k) ?_
  obtain ⟨_, _, ⟨T4, L4, k4, n4⟩, -, X4, ⟨Lc4, hQ4, l4, y4, z4⟩, st4⟩ := Jvm.LawKit.callS X3 hx (y := (⟨"com/example/constrained_flow/constrainedflow/planner/search/GroupsWaitsPinLaw", "below", "(I)[I"⟩ : MethodName)) hown (mvT hZ (hw _ (List.mem_of_getElem? (i := 1) rfl))) (mvT hZ (hw _ (List.mem_of_getElem? (i := 2) rfl))) (mvT hZ (hw _ (List.mem_of_getElem? (i := 3) rfl))) (mvT hZ (hw _ (List.mem_of_getElem? (i := 4) rfl))) (by decide) (backOf (W := 0) (rm1 l Z aw hw [] p2 T3.heap n0 Z3 ) hZ (hw _ (List.mem_of_getElem? (i := 4) rfl)) (hw _ (List.mem_of_getElem? (i := 3) rfl)) (by decide) (by decide)) (g := (mkF m 23 #[.val (.int p0), .val (.int p1), .val (.int p2), .val (.int p3), .val (.int (p3 &&& (3 : Int32))), .val (.ref b1), .val (.ref b2_2), .val (.ref b2_3), .unset, .unset, .unset, .unset, .unset, .unset] [(.int p2)])) rfl (by rw [hml]; rfl) (argsL := [(.int p2)]) (rest := []) (lenOf pd_5 rfl) rfl (by show 2 * 0 + _ ≤ _; exact Nat.le_of_eq rfl) (hb hby at_23) (fun _ _ => ⟨rfl, rfl, (by decide : 3 + 1 ≤ _), (by decide : 8 + 2 ≤ _)⟩)
  dsimp only [Pt.U, Pt.locs, Pt.cells, Pt.slots] at X4 l4 y4 z4 st4 hQ4
  subst l4 y4 z4
  obtain ⟨b2_4, rfl, N4q, Kc4, o4_0, o4_1⟩ := hQ4
  have W_b1_4 := W_b1_3.keep Kc4 nin0
  have W_b2_2_4 := W_b2_2_3.keep Kc4 nin0
  have W_b2_3_4 := o3_1.keep Kc4 nin0
  have N4 := Fr.app N3 N4q
  have Z4 := Nat.le_trans Z3 Kc4.1
  have g_b2_4 : n0 ≤ b2_4 := Nat.le_trans Z3 o4_0
  have ne_b1_b2_4 : b1 ≠ b2_4 := Nat.ne_of_lt (Nat.lt_of_lt_of_le W_b1_3.lt o4_0)
  have ne_b2_2_b2_4 : b2_2 ≠ b2_4 := Nat.ne_of_lt (Nat.lt_of_lt_of_le W_b2_2_3.lt o4_0)
  have ne_b2_3_b2_4 : b2_3 ≠ b2_4 := Nat.ne_of_lt (Nat.lt_of_lt_of_le o3_1.lt o4_0)
  refine go (B := T4.setTop (mkF m 26 #[.val (.int p0), .val (.int p1), .val (.int p2), .val (.int p3), .val (.int (p3 &&& (3 : Int32))), .val (.ref b1), .val (.ref b2_2), .val (.ref b2_3), .unset, .unset, .unset, .unset, .unset, .unset] [(.ref b2_4)])) (fun _ k => st4 _ k) ?_
  refine go (B := T4.setTop (mkF m 28 #[.val (.int p0), .val (.int p1), .val (.int p2), .val (.int p3), .val (.int (p3 &&& (3 : Int32))), .val (.ref b1), .val (.ref b2_2), .val (.ref b2_3), .val (.ref b2_4), .unset, .unset, .unset, .unset, .unset] [])) (fun _ k => XS.astore X4.here hx rfl (hb hby at_26) rfl rfl (l' := #[.val (.int p0), .val (.int p1), .val (.int p2), .val (.int p3), .val (.int (p3 &&& (3 : Int32))), .val (.ref b1), .val (.ref b2_2), .val (.ref b2_3), .val (.ref b2_4), .unset, .unset, .unset, .unset, .unset]) rfl k) ?_
  obtain ⟨T5, h5, X5, e5, E5, A5, D5, -, st5⟩ := newO X4 hx hZ hown (hw _ (List.mem_of_getElem? (i := 13) rfl)) (hw _ (List.mem_of_getElem? (i := 14) rfl)) (hw _ (List.mem_of_getElem? (i := 15) rfl)) rfl (g := (mkF m 28 #[.val (.int p0), .val (.int p1), .val (.int p2), .val (.int p3), .val (.int (p3 &&& (3 : Int32))), .val (.ref b1), .val (.ref b2_2), .val (.ref b2_3), .val (.ref b2_4), .unset, .unset, .unset, .unset, .unset] [])) rfl (hb hby at_28) (by decide) (by decide)
  obtain ⟨b5, g5⟩ : ∃ z, z = T4.heap.size := ⟨_, rfl⟩
  rw [← g5] at A5 D5 st5
  have g_b5 : n0 ≤ b5 := Nat.le_trans Z4 (Nat.le_of_eq g5.symm)
  have ne_b1_b5 : b1 ≠ b5 := Nat.ne_of_lt (Nat.lt_of_lt_of_le W_b1_4.lt (Nat.le_of_eq g5.symm))
  have ne_b2_2_b5 : b2_2 ≠ b5 := Nat.ne_of_lt (Nat.lt_of_lt_of_le W_b2_2_4.lt (Nat.le_of_eq g5.symm))
  have ne_b2_3_b5 : b2_3 ≠ b5 := Nat.ne_of_lt (Nat.lt_of_lt_of_le W_b2_3_4.lt (Nat.le_of_eq g5.symm))
  have ne_b2_4_b5 : b2_4 ≠ b5 := Nat.ne_of_lt (Nat.lt_of_lt_of_le o4_1.lt (Nat.le_of_eq g5.symm))
  have W_b1_5 := W_b1_4.ext E5
  have W_b2_2_5 := W_b2_2_4.ext E5
  have W_b2_3_5 := W_b2_3_4.ext E5
  have W_b2_4_5 := o4_1.ext E5
  have Z5 := Nat.le_trans Z4 E5.1
  have F_sizes_b5 : Fld Z h5 b5 "com/example/constrained_flow/constrainedflow/planner/search/Sweep$Groups" "sizes" "[I" .null := D5 (Or.inl (hw _ (List.mem_of_getElem? (i := 23) rfl))) (ty := (.array .int)) (by decide)
  have F_seenIn_b5 : Fld Z h5 b5 "com/example/constrained_flow/constrainedflow/planner/search/Sweep$Groups" "seenIn" "[I" .null := D5 (Or.inl (hw _ (List.mem_of_getElem? (i := 25) rfl))) (ty := (.array .int)) (by decide)
  have F_counted_b5 : Fld Z h5 b5 "com/example/constrained_flow/constrainedflow/planner/search/Sweep$Groups" "counted" "[I" .null := D5 (Or.inl (hw _ (List.mem_of_getElem? (i := 27) rfl))) (ty := (.array .int)) (by decide)
  have F_groupOf_b5 : Fld Z h5 b5 "com/example/constrained_flow/constrainedflow/planner/search/Sweep$Groups" "groupOf" "[I" .null := D5 (Or.inr (hw _ (List.mem_of_getElem? (i := 29) rfl))) (ty := (.array .int)) (by decide)
  have F_counts_b5 : Fld Z h5 b5 "com/example/constrained_flow/constrainedflow/planner/search/Sweep$Groups" "counts" "I" (.int (0 : Int32)) := D5 (Or.inl (hw _ (List.mem_of_getElem? (i := 44) rfl))) (ty := .int) (by decide)
  have F_numbered_b5 : Fld Z h5 b5 "com/example/constrained_flow/constrainedflow/planner/search/Sweep$Groups" "numbered" "I" (.int (0 : Int32)) := D5 (Or.inl (hw _ (List.mem_of_getElem? (i := 58) rfl))) (ty := .int) (by decide)
  have F_live_b5 : Fld Z h5 b5 "com/example/constrained_flow/constrainedflow/planner/search/Sweep$Groups" "live" "I" (.int (0 : Int32)) := D5 (Or.inl (hw _ (List.mem_of_getElem? (i := 60) rfl))) (ty := .int) (by decide)
  have E_b5 := A5
  refine go (B := T5.setTop (mkF m 31 #[.val (.int p0), .val (.int p1), .val (.int p2), .val (.int p3), .val (.int (p3 &&& (3 : Int32))), .val (.ref b1), .val (.ref b2_2), .val (.ref b2_3), .val (.ref b2_4), .unset, .unset, .unset, .unset, .unset] [(.ref b5)])) st5 ?_
  refine go (B := T5.setTop (mkF m 32 #[.val (.int p0), .val (.int p1), .val (.int p2), .val (.int p3), .val (.int (p3 &&& (3 : Int32))), .val (.ref b1), .val (.ref b2_2), .val (.ref b2_3), .val (.ref b2_4), .unset, .unset, .unset, .unset, .unset] [(.ref b5), (.ref b5)])) (fun _ k => XS.dup X5.here hx rfl (hb hby at_31) rfl rfl k) ?_
  refine go (B := T5.setTop (mkF m 33 #[.val (.int p0), .val (.int p1), .val (.int p2), .val (.int p3), .val (.int (p3 &&& (3 : Int32))), .val (.ref b1), .val (.ref b2_2), .val (.ref b2_3), .val (.ref b2_4), .unset, .unset, .unset, .unset, .unset] [(.int (4 : Int32)), (.ref b5), (.ref b5)])) (fun _ k => XS.iconst X5.here hx rfl (hb hby at_32) k) ?_
  obtain ⟨_, _, ⟨T6, L6, k6, n6⟩, -, X6, ⟨Lc6, hQ6, l6, y6, z6⟩, st6⟩ := X5.specialBack hx (y := (⟨"com/example/constrained_flow/constrainedflow/planner/search/Sweep$Groups", "<init>", "(I)V"⟩ : MethodName)) rfl hown (mvT hZ (hw _ (List.mem_of_getElem? (i := 16) rfl))) (mvT hZ (hw _ (List.mem_of_getElem? (i := 17) rfl))) (mvT hZ (hw _ (List.mem_of_getElem? (i := 18) rfl))) (by decide) (backOf (W := 1) (rm4 l Z aw hw [] b5 h5 n0 Z5 F_sizes_b5 F_seenIn_b5 F_counted_b5 F_groupOf_b5 F_counts_b5 F_numbered_b5 F_live_b5 E_b5 g_b5) hZ (hw _ (List.mem_of_getElem? (i := 18) rfl)) (hw _ (List.mem_of_getElem? (i := 15) rfl)) (by decide) (by decide)) (g := (mkF m 33 #[.val (.int p0), .val (.int p1), .val (.int p2), .val (.int p3), .val (.int (p3 &&& (3 : Int32))), .val (.ref b1), .val (.ref b2_2), .val (.ref b2_3), .val (.ref b2_4), .unset, .unset, .unset, .unset, .unset] [(.int (4 : Int32)), (.ref b5), (.ref b5)])) rfl (by rw [hml]; rfl) (Steps.refl _) (a := b5) (argsL := [(.int (4 : Int32))]) (rest := [(.ref b5)]) (lenOf pd_3 rfl) rfl (by show 2 * 0 + _ ≤ _; exact Nat.le_of_eq rfl) (hb hby at_33) (fun _ _ => ⟨rfl, e5, (by decide : 5 + 4 ≤ _), (by decide : 17 + 54 ≤ _)⟩)
  dsimp only [Pt.U, Pt.locs, Pt.cells, Pt.slots] at X6 l6 y6 z6 st6 hQ6
  subst l6 y6 z6
  obtain ⟨b2_6, b4_6, b6_6, b8_6, rfl, N6q, Kc6, o6_0, o6_1, o6_2, o6_3, o6_4, o6_5, o6_6, o6_7, o6_8, o6_9, o6_10, o6_11, o6_12, o6_13, o6_14, o6_15, o6_16, o6_17, o6_18, o6_19, o6_20, o6_21, o6_22, o6_23, o6_24, o6_25⟩ := hQ6
  have W_b1_6 := W_b1_5.keep Kc6 (ninS ne_b1_b5 nin0)
  have W_b2_2_6 := W_b2_2_5.keep Kc6 (ninS ne_b2_2_b5 nin0)
  have W_b2_3_6 := W_b2_3_5.keep Kc6 (ninS ne_b2_3_b5 nin0)
  have W_b2_4_6 := W_b2_4_5.keep Kc6 (ninS ne_b2_4_b5 nin0)
  have E_b5_6 := E_b5.keep Kc6
  have N6 := Fr.app N4 N6q
  have Z6 := Nat.le_trans Z5 Kc6.1
  have g_b2_6 : n0 ≤ b2_6 := Nat.le_trans Z5 o6_0
  have ne_b1_b2_6 : b1 ≠ b2_6 := Nat.ne_of_lt (Nat.lt_of_lt_of_le W_b1_5.lt o6_0)
  have ne_b2_2_b2_6 : b2_2 ≠ b2_6 := Nat.ne_of_lt (Nat.lt_of_lt_of_le W_b2_2_5.lt o6_0)
  have ne_b2_3_b2_6 : b2_3 ≠ b2_6 := Nat.ne_of_lt (Nat.lt_of_lt_of_le W_b2_3_5.lt o6_0)
  have ne_b2_4_b2_6 : b2_4 ≠ b2_6 := Nat.ne_of_lt (Nat.lt_of_lt_of_le W_b2_4_5.lt o6_0)
  have ne_b5_b2_6 : b5 ≠ b2_6 := Nat.ne_of_lt (Nat.lt_of_lt_of_le F_sizes_b5.lt o6_0)
  have g_b4_6 : n0 ≤ b4_6 := Nat.le_trans Z5 o6_1
  have ne_b1_b4_6 : b1 ≠ b4_6 := Nat.ne_of_lt (Nat.lt_of_lt_of_le W_b1_5.lt o6_1)
  have ne_b2_2_b4_6 : b2_2 ≠ b4_6 := Nat.ne_of_lt (Nat.lt_of_lt_of_le W_b2_2_5.lt o6_1)
  have ne_b2_3_b4_6 : b2_3 ≠ b4_6 := Nat.ne_of_lt (Nat.lt_of_lt_of_le W_b2_3_5.lt o6_1)
  have ne_b2_4_b4_6 : b2_4 ≠ b4_6 := Nat.ne_of_lt (Nat.lt_of_lt_of_le W_b2_4_5.lt o6_1)
  have ne_b5_b4_6 : b5 ≠ b4_6 := Nat.ne_of_lt (Nat.lt_of_lt_of_le F_sizes_b5.lt o6_1)
  have g_b6_6 : n0 ≤ b6_6 := Nat.le_trans Z5 o6_2
  have ne_b1_b6_6 : b1 ≠ b6_6 := Nat.ne_of_lt (Nat.lt_of_lt_of_le W_b1_5.lt o6_2)
  have ne_b2_2_b6_6 : b2_2 ≠ b6_6 := Nat.ne_of_lt (Nat.lt_of_lt_of_le W_b2_2_5.lt o6_2)
  have ne_b2_3_b6_6 : b2_3 ≠ b6_6 := Nat.ne_of_lt (Nat.lt_of_lt_of_le W_b2_3_5.lt o6_2)
  have ne_b2_4_b6_6 : b2_4 ≠ b6_6 := Nat.ne_of_lt (Nat.lt_of_lt_of_le W_b2_4_5.lt o6_2)
  have ne_b5_b6_6 : b5 ≠ b6_6 := Nat.ne_of_lt (Nat.lt_of_lt_of_le F_sizes_b5.lt o6_2)
  have g_b8_6 : n0 ≤ b8_6 := Nat.le_trans Z5 o6_3
  have ne_b1_b8_6 : b1 ≠ b8_6 := Nat.ne_of_lt (Nat.lt_of_lt_of_le W_b1_5.lt o6_3)
  have ne_b2_2_b8_6 : b2_2 ≠ b8_6 := Nat.ne_of_lt (Nat.lt_of_lt_of_le W_b2_2_5.lt o6_3)
  have ne_b2_3_b8_6 : b2_3 ≠ b8_6 := Nat.ne_of_lt (Nat.lt_of_lt_of_le W_b2_3_5.lt o6_3)
  have ne_b2_4_b8_6 : b2_4 ≠ b8_6 := Nat.ne_of_lt (Nat.lt_of_lt_of_le W_b2_4_5.lt o6_3)
  have ne_b5_b8_6 : b5 ≠ b8_6 := Nat.ne_of_lt (Nat.lt_of_lt_of_le F_sizes_b5.lt o6_3)
  refine go (B := T6.setTop (mkF m 36 #[.val (.int p0), .val (.int p1), .val (.int p2), .val (.int p3), .val (.int (p3 &&& (3 : Int32))), .val (.ref b1), .val (.ref b2_2), .val (.ref b2_3), .val (.ref b2_4), .unset, .unset, .unset, .unset, .unset] [(.ref b5)])) (fun _ k => st6.trans k) ?_
  refine go (B := T6.setTop (mkF m 38 #[.val (.int p0), .val (.int p1), .val (.int p2), .val (.int p3), .val (.int (p3 &&& (3 : Int32))), .val (.ref b1), .val (.ref b2_2), .val (.ref b2_3), .val (.ref b2_4), .val (.ref b5), .unset, .unset, .unset, .unset] [])) (fun _ k => XS.astore X6.here hx rfl (hb hby at_36) rfl rfl (l' := #[.val (.int p0), .val (.int p1), .val (.int p2), .val (.int p3), .val (.int (p3 &&& (3 : Int32))), .val (.ref b1), .val (.ref b2_2), .val (.ref b2_3), .val (.ref b2_4), .val (.ref b5), .unset, .unset, .unset, .unset]) rfl k) ?_
  have hG7 : own_G (List.set (List.set (List.set (List.set (List.replicate 4 (0 : Int32)) 0 (-1 : Int32)) 1 (-1 : Int32)) 2 (-1 : Int32)) 3 (-1 : Int32)) (0 : Int32) := own_G0
  have hI7 : own_I (List.replicate 17 (0 : Int32)) (0 : Int32) := own_I0
  have hR7 : own_R (List.replicate 4 (0 : Int32)) (List.set (List.set (List.set (List.set (List.replicate 4 (0 : Int32)) 0 (-1 : Int32)) 1 (-1 : Int32)) 2 (-1 : Int32)) 3 (-1 : Int32)) := own_R0
  have hM7 : ((0 : Int32)).toInt ≤ 0 := by decide
  refine go (B := T6.setTop (mkF m 40 #[.val (.int p0), .val (.int p1), .val (.int p2), .val (.int p3), .val (.int (p3 &&& (3 : Int32))), .val (.ref b1), .val (.ref b2_2), .val (.ref b2_3), .val (.ref b2_4), .val (.ref b5), .unset, .unset, .unset, .unset] [(.int (p3 &&& (3 : Int32)))])) (fun _ k => XS.iload X6.here hx rfl (hb hby at_38) rfl k) ?_
  refine go (B := T6.setTop (mkF m 41 #[.val (.int p0), .val (.int p1), .val (.int p2), .val (.int p3), .val (.int (p3 &&& (3 : Int32))), .val (.ref b1), .val (.ref b2_2), .val (.ref b2_3), .val (.ref b2_4), .val (.ref b5), .unset, .unset, .unset, .unset] [(.int (1 : Int32)), (.int (p3 &&& (3 : Int32)))])) (fun _ k => XS.iconst X6.here hx rfl (hb hby at_40) k) ?_
  by_cases hc8 : (p3 &&& (3 : Int32)) < (1 : Int32)
  · refine go (B := T6.setTop (mkF m 60 #[.val (.int p0), .val (.int p1), .val (.int p2), .val (.int p3), .val (.int (p3 &&& (3 : Int32))), .val (.ref b1), .val (.ref b2_2), .val (.ref b2_3), .val (.ref b2_4), .val (.ref b5), .unset, .unset, .unset, .unset] [])) (fun _ k => XS.icmpYes X6.here hx rfl (pc0 := 41) (pc' := 60) rfl (hb hby at_41) rfl (tlt hc8).1 (by decide) (by decide) k) ?_
    refine go (B := T6.setTop (mkF m 62 #[.val (.int p0), .val (.int p1), .val (.int p2), .val (.int p3), .val (.int (p3 &&& (3 : Int32))), .val (.ref b1), .val (.ref b2_2), .val (.ref b2_3), .val (.ref b2_4), .val (.ref b5), .unset, .unset, .unset, .unset] [(.int (p3 &&& (3 : Int32)))])) (fun _ k => XS.iload X6.here hx rfl (hb hby at_60) rfl k) ?_
    refine go (B := T6.setTop (mkF m 63 #[.val (.int p0), .val (.int p1), .val (.int p2), .val (.int p3), .val (.int (p3 &&& (3 : Int32))), .val (.ref b1), .val (.ref b2_2), .val (.ref b2_3), .val (.ref b2_4), .val (.ref b5), .unset, .unset, .unset, .unset] [(.int (2 : Int32)), (.int (p3 &&& (3 : Int32)))])) (fun _ k => XS.iconst X6.here hx rfl (hb hby at_62) k) ?_
    refine go (B := T6.setTop (mkF m 82 #[.val (.int p0), .val (.int p1), .val (.int p2), .val (.int p3), .val (.int (p3 &&& (3 : Int32))), .val (.ref b1), .val (.ref b2_2), .val (.ref b2_3), .val (.ref b2_4), .val (.ref b5), .unset, .unset, .unset, .unset] [])) (fun _ k => XS.icmpYes X6.here hx rfl (pc0 := 63) (pc' := 82) rfl (hb hby at_63) rfl (tlt (show (p3 &&& (3 : Int32)) < (2 : Int32) from by revert hc8; simp only [Int32.lt_iff_toInt_lt, ← Int32.toInt_inj, Int32.reduceToInt]; omega)).1 (by decide) (by decide) k) ?_
    refine go (B := T6.setTop (mkF m 84 #[.val (.int p0), .val (.int p1), .val (.int p2), .val (.int p3), .val (.int (p3 &&& (3 : Int32))), .val (.ref b1), .val (.ref b2_2), .val (.ref b2_3), .val (.ref b2_4), .val (.ref b5), .unset, .unset, .unset, .unset] [(.int (p3 &&& (3 : Int32)))])) (fun _ k => XS.iload X6.here hx rfl (hb hby at_82) rfl k) ?_
    refine go (B := T6.setTop (mkF m 85 #[.val (.int p0), .val (.int p1), .val (.int p2), .val (.int p3), .val (.int (p3 &&& (3 : Int32))), .val (.ref b1), .val (.ref b2_2), .val (.ref b2_3), .val (.ref b2_4), .val (.ref b5), .unset, .unset, .unset, .unset] [(.int (3 : Int32)), (.int (p3 &&& (3 : Int32)))])) (fun _ k => XS.iconst X6.here hx rfl (hb hby at_84) k) ?_
    refine go (B := T6.setTop (mkF m 104 #[.val (.int p0), .val (.int p1), .val (.int p2), .val (.int p3), .val (.int (p3 &&& (3 : Int32))), .val (.ref b1), .val (.ref b2_2), .val (.ref b2_3), .val (.ref b2_4), .val (.ref b5), .unset, .unset, .unset, .unset] [])) (fun _ k => XS.icmpYes X6.here hx rfl (pc0 := 85) (pc' := 104) rfl (hb hby at_85) rfl (tlt (show (p3 &&& (3 : Int32)) < (3 : Int32) from by revert hc8; simp only [Int32.lt_iff_toInt_lt, ← Int32.toInt_inj, Int32.reduceToInt]; omega)).1 (by decide) (by decide) k) ?_
    refine go (B := T6.setTop (mkF m 106 #[.val (.int p0), .val (.int p1), .val (.int p2), .val (.int p3), .val (.int (p3 &&& (3 : Int32))), .val (.ref b1), .val (.ref b2_2), .val (.ref b2_3), .val (.ref b2_4), .val (.ref b5), .unset, .unset, .unset, .unset] [(.ref b5)])) (fun _ k => XS.aload X6.here hx rfl (hb hby at_104) rfl rfl k) ?_
    refine go (B := T6.setTop (mkF m 107 #[.val (.int p0), .val (.int p1), .val (.int p2), .val (.int p3), .val (.int (p3 &&& (3 : Int32))), .val (.ref b1), .val (.ref b2_2), .val (.ref b2_3), .val (.ref b2_4), .val (.ref b5), .unset, .unset, .unset, .unset] [(.int (0 : Int32)), (.ref b5)])) (fun _ k => XS.iconst X6.here hx rfl (hb hby at_106) k) ?_
    obtain ⟨cq9, kq9, q9a, q9b, q9c⟩ := isOf hZ rfl o6_13
    obtain ⟨_, _, ⟨T9, L9, k9, n9⟩, -, X9, ⟨Lc9, hQ9, l9, y9, z9⟩, st9⟩ := X6.virtualBack hx (y := (⟨"com/example/constrained_flow/constrainedflow/planner/search/Sweep$Groups", "waits", "(I)Z"⟩ : MethodName)) (z := (⟨"com/example/constrained_flow/constrainedflow/planner/search/Sweep$Groups", "waits", "(I)Z"⟩ : MethodName)) hown (mvT hZ (hw _ (List.mem_of_getElem? (i := 48) rfl))) (mvT hZ (hw _ (List.mem_of_getElem? (i := 49) rfl))) (notFace_of_selects (args := #[]) (mvT hZ (hw _ (List.mem_of_getElem? (i := 51) rfl)))) (mvT hZ (hw _ (List.mem_of_getElem? (i := 51) rfl))) (mvT hZ (hw _ (List.mem_of_getElem? (i := 50) rfl))) (by decide) (backOf (W := 0) (rm10 l Z aw hw [] b5 (0 : Int32) b2_6 b4_6 b6_6 b8_6 (0 : Int32) (0 : Int32) (0 : Int32) (List.set (List.set (List.set (List.set (List.replicate 4 (0 : Int32)) 0 (-1 : Int32)) 1 (-1 : Int32)) 2 (-1 : Int32)) 3 (-1 : Int32)) T6.heap n0 Z6 o6_14 o6_15 o6_16 o6_17 o6_10 o6_11 o6_12 o6_13 o6_24 o6_25 (show own_nd (0 : Int32) from by unfold own_nd; decide)) hZ (hw _ (List.mem_of_getElem? (i := 52) rfl)) (hw _ (List.mem_of_getElem? (i := 15) rfl)) (by decide) (by decide)) q9a q9c (g := (mkF m 107 #[.val (.int p0), .val (.int p1), .val (.int p2), .val (.int p3), .val (.int (p3 &&& (3 : Int32))), .val (.ref b1), .val (.ref b2_2), .val (.ref b2_3), .val (.ref b2_4), .val (.ref b5), .unset, .unset, .unset, .unset] [(.int (0 : Int32)), (.ref b5)])) rfl (by rw [hml]; rfl) (Steps.refl _) (argsL := [(.int (0 : Int32))]) (rest := []) (lenOf pd_6 rfl) rfl (by show 2 * 0 + _ ≤ _; exact Nat.le_of_eq rfl) (hb hby at_107) (fun _ _ => ⟨rfl, rfl, (by decide : 9 + 0 ≤ _), (by decide : 71 + 0 ≤ _)⟩)
    dsimp only [Pt.U, Pt.locs, Pt.cells, Pt.slots] at X9 l9 y9 z9 st9 hQ9
    subst l9 y9 z9
    obtain ⟨rfl, rfl, e9⟩ := hQ9
    have N9 := Fr.app N6 (Fr.nil n0)
    refine go (B := T9.setTop (mkF m 110 #[.val (.int p0), .val (.int p1), .val (.int p2), .val (.int p3), .val (.int (p3 &&& (3 : Int32))), .val (.ref b1), .val (.ref b2_2), .val (.ref b2_3), .val (.ref b2_4), .val (.ref b5), .unset, .unset, .unset, .unset] [(.int f0_t0)])) (fun _ k => st9.trans k) ?_
    refine go (B := T9.setTop (mkF m 112 #[.val (.int p0), .val (.int p1), .val (.int p2), .val (.int p3), .val (.int (p3 &&& (3 : Int32))), .val (.ref b1), .val (.ref b2_2), .val (.ref b2_3), .val (.ref b2_4), .val (.ref b5), .val (.int f0_t0), .unset, .unset, .unset] [])) (fun _ k => XS.istore X9.here hx rfl (hb hby at_110) rfl (l' := #[.val (.int p0), .val (.int p1), .val (.int p2), .val (.int p3), .val (.int (p3 &&& (3 : Int32))), .val (.ref b1), .val (.ref b2_2), .val (.ref b2_3), .val (.ref b2_4), .val (.ref b5), .val (.int f0_t0), .unset, .unset, .unset]) rfl k) ?_
    refine go (B := T9.setTop (mkF m 114 #[.val (.int p0), .val (.int p1), .val (.int p2), .val (.int p3), .val (.int (p3 &&& (3 : Int32))), .val (.ref b1), .val (.ref b2_2), .val (.ref b2_3), .val (.ref b2_4), .val (.ref b5), .val (.int f0_t0), .unset, .unset, .unset] [(.ref b5)])) (fun _ k => XS.aload X9.here hx rfl (hb hby at_112) rfl rfl k) ?_
    refine go (B := T9.setTop (mkF m 115 #[.val (.int p0), .val (.int p1), .val (.int p2), .val (.int p3), .val (.int (p3 &&& (3 : Int32))), .val (.ref b1), .val (.ref b2_2), .val (.ref b2_3), .val (.ref b2_4), .val (.ref b5), .val (.int f0_t0), .unset, .unset, .unset] [(.int (1 : Int32)), (.ref b5)])) (fun _ k => XS.iconst X9.here hx rfl (hb hby at_114) k) ?_
    obtain ⟨cq10, kq10, q10a, q10b, q10c⟩ := isOf hZ e9 o6_13
    obtain ⟨_, _, ⟨T10, L10, k10, n10⟩, -, X10, ⟨Lc10, hQ10, l10, y10, z10⟩, st10⟩ := X9.virtualBack hx (y := (⟨"com/example/constrained_flow/constrainedflow/planner/search/Sweep$Groups", "waits", "(I)Z"⟩ : MethodName)) (z := (⟨"com/example/constrained_flow/constrainedflow/planner/search/Sweep$Groups", "waits", "(I)Z"⟩ : MethodName)) hown (mvT hZ (hw _ (List.mem_of_getElem? (i := 48) rfl))) (mvT hZ (hw _ (List.mem_of_getElem? (i := 49) rfl))) (notFace_of_selects (args := #[]) (mvT hZ (hw _ (List.mem_of_getElem? (i := 51) rfl)))) (mvT hZ (hw _ (List.mem_of_getElem? (i := 51) rfl))) (mvT hZ (hw _ (List.mem_of_getElem? (i := 50) rfl))) (by decide) (backOf (W := 0) (rm10 l Z aw hw [] b5 (1 : Int32) b2_6 b4_6 b6_6 b8_6 (0 : Int32) (0 : Int32) (0 : Int32) (List.set (List.set (List.set (List.set (List.replicate 4 (0 : Int32)) 0 (-1 : Int32)) 1 (-1 : Int32)) 2 (-1 : Int32)) 3 (-1 : Int32)) T6.heap n0 Z6 o6_14 o6_15 o6_16 o6_17 o6_10 o6_11 o6_12 o6_13 o6_24 o6_25 (show own_nd (1 : Int32) from by unfold own_nd; decide)) hZ (hw _ (List.mem_of_getElem? (i := 52) rfl)) (hw _ (List.mem_of_getElem? (i := 15) rfl)) (by decide) (by decide)) q10a q10c (g := (mkF m 115 #[.val (.int p0), .val (.int p1), .val (.int p2), .val (.int p3), .val (.int (p3 &&& (3 : Int32))), .val (.ref b1), .val (.ref b2_2), .val (.ref b2_3), .val (.ref b2_4), .val (.ref b5), .val (.int f0_t0), .unset, .unset, .unset] [(.int (1 : Int32)), (.ref b5)])) rfl (by rw [hml]; rfl) (Steps.refl _) (argsL := [(.int (1 : Int32))]) (rest := []) (lenOf pd_6 rfl) rfl (by show 2 * 0 + _ ≤ _; exact Nat.le_of_eq rfl) (hb hby at_115) (fun _ _ => ⟨rfl, e9, (by decide : 9 + 0 ≤ _), (by decide : 71 + 0 ≤ _)⟩)
    dsimp only [Pt.U, Pt.locs, Pt.cells, Pt.slots] at X10 l10 y10 z10 st10 hQ10
    subst l10 y10 z10
    obtain ⟨rfl, rfl, e10⟩ := hQ10
    have N10 := Fr.app N9 (Fr.nil n0)
    refine go (B := T10.setTop (mkF m 118 #[.val (.int p0), .val (.int p1), .val (.int p2), .val (.int p3), .val (.int (p3 &&& (3 : Int32))), .val (.ref b1), .val (.ref b2_2), .val (.ref b2_3), .val (.ref b2_4), .val (.ref b5), .val (.int f0_t0), .unset, .unset, .unset] [(.int f0_t1)])) (fun _ k => st10.trans k) ?_
    refine go (B := T10.setTop (mkF m 120 #[.val (.int p0), .val (.int p1), .val (.int p2), .val (.int p3), .val (.int (p3 &&& (3 : Int32))), .val (.ref b1), .val (.ref b2_2), .val (.ref b2_3), .val (.ref b2_4), .val (.ref b5), .val (.int f0_t0), .val (.int f0_t1), .unset, .unset] [])) (fun _ k => XS.istore X10.here hx rfl (hb hby at_118) rfl (l' := #[.val (.int p0), .val (.int p1), .val (.int p2), .val (.int p3), .val (.int (p3 &&& (3 : Int32))), .val (.ref b1), .val (.ref b2_2), .val (.ref b2_3), .val (.ref b2_4), .val (.ref b5), .val (.int f0_t0), .val (.int f0_t1), .unset, .unset]) rfl k) ?_
    refine go (B := T10.setTop (mkF m 122 #[.val (.int p0), .val (.int p1), .val (.int p2), .val (.int p3), .val (.int (p3 &&& (3 : Int32))), .val (.ref b1), .val (.ref b2_2), .val (.ref b2_3), .val (.ref b2_4), .val (.ref b5), .val (.int f0_t0), .val (.int f0_t1), .unset, .unset] [(.ref b5)])) (fun _ k => XS.aload X10.here hx rfl (hb hby at_120) rfl rfl k) ?_
    refine go (B := T10.setTop (mkF m 123 #[.val (.int p0), .val (.int p1), .val (.int p2), .val (.int p3), .val (.int (p3 &&& (3 : Int32))), .val (.ref b1), .val (.ref b2_2), .val (.ref b2_3), .val (.ref b2_4), .val (.ref b5), .val (.int f0_t0), .val (.int f0_t1), .unset, .unset] [(.int (2 : Int32)), (.ref b5)])) (fun _ k => XS.iconst X10.here hx rfl (hb hby at_122) k) ?_
    obtain ⟨cq11, kq11, q11a, q11b, q11c⟩ := isOf hZ e10 o6_13
    obtain ⟨_, _, ⟨T11, L11, k11, n11⟩, -, X11, ⟨Lc11, hQ11, l11, y11, z11⟩, st11⟩ := X10.virtualBack hx (y := (⟨"com/example/constrained_flow/constrainedflow/planner/search/Sweep$Groups", "waits", "(I)Z"⟩ : MethodName)) (z := (⟨"com/example/constrained_flow/constrainedflow/planner/search/Sweep$Groups", "waits", "(I)Z"⟩ : MethodName)) hown (mvT hZ (hw _ (List.mem_of_getElem? (i := 48) rfl))) (mvT hZ (hw _ (List.mem_of_getElem? (i := 49) rfl))) (notFace_of_selects (args := #[]) (mvT hZ (hw _ (List.mem_of_getElem? (i := 51) rfl)))) (mvT hZ (hw _ (List.mem_of_getElem? (i := 51) rfl))) (mvT hZ (hw _ (List.mem_of_getElem? (i := 50) rfl))) (by decide) (backOf (W := 0) (rm10 l Z aw hw [] b5 (2 : Int32) b2_6 b4_6 b6_6 b8_6 (0 : Int32) (0 : Int32) (0 : Int32) (List.set (List.set (List.set (List.set (List.replicate 4 (0 : Int32)) 0 (-1 : Int32)) 1 (-1 : Int32)) 2 (-1 : Int32)) 3 (-1 : Int32)) T6.heap n0 Z6 o6_14 o6_15 o6_16 o6_17 o6_10 o6_11 o6_12 o6_13 o6_24 o6_25 (show own_nd (2 : Int32) from by unfold own_nd; decide)) hZ (hw _ (List.mem_of_getElem? (i := 52) rfl)) (hw _ (List.mem_of_getElem? (i := 15) rfl)) (by decide) (by decide)) q11a q11c (g := (mkF m 123 #[.val (.int p0), .val (.int p1), .val (.int p2), .val (.int p3), .val (.int (p3 &&& (3 : Int32))), .val (.ref b1), .val (.ref b2_2), .val (.ref b2_3), .val (.ref b2_4), .val (.ref b5), .val (.int f0_t0), .val (.int f0_t1), .unset, .unset] [(.int (2 : Int32)), (.ref b5)])) rfl (by rw [hml]; rfl) (Steps.refl _) (argsL := [(.int (2 : Int32))]) (rest := []) (lenOf pd_6 rfl) rfl (by show 2 * 0 + _ ≤ _; exact Nat.le_of_eq rfl) (hb hby at_123) (fun _ _ => ⟨rfl, e10, (by decide : 9 + 0 ≤ _), (by decide : 71 + 0 ≤ _)⟩)
    dsimp only [Pt.U, Pt.locs, Pt.cells, Pt.slots] at X11 l11 y11 z11 st11 hQ11
    subst l11 y11 z11
    obtain ⟨rfl, rfl, e11⟩ := hQ11
    have N11 := Fr.app N10 (Fr.nil n0)
    refine go (B := T11.setTop (mkF m 126 #[.val (.int p0), .val (.int p1), .val (.int p2), .val (.int p3), .val (.int (p3 &&& (3 : Int32))), .val (.ref b1), .val (.ref b2_2), .val (.ref b2_3), .val (.ref b2_4), .val (.ref b5), .val (.int f0_t0), .val (.int f0_t1), .unset, .unset] [(.int f0_t2)])) (fun _ k => st11.trans k) ?_
    refine go (B := T11.setTop (mkF m 128 #[.val (.int p0), .val (.int p1), .val (.int p2), .val (.int p3), .val (.int (p3 &&& (3 : Int32))), .val (.ref b1), .val (.ref b2_2), .val (.ref b2_3), .val (.ref b2_4), .val (.ref b5), .val (.int f0_t0), .val (.int f0_t1), .val (.int f0_t2), .unset] [])) (fun _ k => XS.istore X11.here hx rfl (hb hby at_126) rfl (l' := #[.val (.int p0), .val (.int p1), .val (.int p2), .val (.int p3), .val (.int (p3 &&& (3 : Int32))), .val (.ref b1), .val (.ref b2_2), .val (.ref b2_3), .val (.ref b2_4), .val (.ref b5), .val (.int f0_t0), .val (.int f0_t1), .val (.int f0_t2), .unset]) rfl k) ?_
    refine go (B := T11.setTop (mkF m 130 #[.val (.int p0), .val (.int p1), .val (.int p2), .val (.int p3), .val (.int (p3 &&& (3 : Int32))), .val (.ref b1), .val (.ref b2_2), .val (.ref b2_3), .val (.ref b2_4), .val (.ref b5), .val (.int f0_t0), .val (.int f0_t1), .val (.int f0_t2), .unset] [(.ref b5)])) (fun _ k => XS.aload X11.here hx rfl (hb hby at_128) rfl rfl k) ?_
    refine go (B := T11.setTop (mkF m 131 #[.val (.int p0), .val (.int p1), .val (.int p2), .val (.int p3), .val (.int (p3 &&& (3 : Int32))), .val (.ref b1), .val (.ref b2_2), .val (.ref b2_3), .val (.ref b2_4), .val (.ref b5), .val (.int f0_t0), .val (.int f0_t1), .val (.int f0_t2), .unset] [(.int (3 : Int32)), (.ref b5)])) (fun _ k => XS.iconst X11.here hx rfl (hb hby at_130) k) ?_
    obtain ⟨cq12, kq12, q12a, q12b, q12c⟩ := isOf hZ e11 o6_13
    obtain ⟨_, _, ⟨T12, L12, k12, n12⟩, -, X12, ⟨Lc12, hQ12, l12, y12, z12⟩, st12⟩ := X11.virtualBack hx (y := (⟨"com/example/constrained_flow/constrainedflow/planner/search/Sweep$Groups", "waits", "(I)Z"⟩ : MethodName)) (z := (⟨"com/example/constrained_flow/constrainedflow/planner/search/Sweep$Groups", "waits", "(I)Z"⟩ : MethodName)) hown (mvT hZ (hw _ (List.mem_of_getElem? (i := 48) rfl))) (mvT hZ (hw _ (List.mem_of_getElem? (i := 49) rfl))) (notFace_of_selects (args := #[]) (mvT hZ (hw _ (List.mem_of_getElem? (i := 51) rfl)))) (mvT hZ (hw _ (List.mem_of_getElem? (i := 51) rfl))) (mvT hZ (hw _ (List.mem_of_getElem? (i := 50) rfl))) (by decide) (backOf (W := 0) (rm10 l Z aw hw [] b5 (3 : Int32) b2_6 b4_6 b6_6 b8_6 (0 : Int32) (0 : Int32) (0 : Int32) (List.set (List.set (List.set (List.set (List.replicate 4 (0 : Int32)) 0 (-1 : Int32)) 1 (-1 : Int32)) 2 (-1 : Int32)) 3 (-1 : Int32)) T6.heap n0 Z6 o6_14 o6_15 o6_16 o6_17 o6_10 o6_11 o6_12 o6_13 o6_24 o6_25 (show own_nd (3 : Int32) from by unfold own_nd; decide)) hZ (hw _ (List.mem_of_getElem? (i := 52) rfl)) (hw _ (List.mem_of_getElem? (i := 15) rfl)) (by decide) (by decide)) q12a q12c (g := (mkF m 131 #[.val (.int p0), .val (.int p1), .val (.int p2), .val (.int p3), .val (.int (p3 &&& (3 : Int32))), .val (.ref b1), .val (.ref b2_2), .val (.ref b2_3), .val (.ref b2_4), .val (.ref b5), .val (.int f0_t0), .val (.int f0_t1), .val (.int f0_t2), .unset] [(.int (3 : Int32)), (.ref b5)])) rfl (by rw [hml]; rfl) (Steps.refl _) (argsL := [(.int (3 : Int32))]) (rest := []) (lenOf pd_6 rfl) rfl (by show 2 * 0 + _ ≤ _; exact Nat.le_of_eq rfl) (hb hby at_131) (fun _ _ => ⟨rfl, e11, (by decide : 9 + 0 ≤ _), (by decide : 71 + 0 ≤ _)⟩)
    dsimp only [Pt.U, Pt.locs, Pt.cells, Pt.slots] at X12 l12 y12 z12 st12 hQ12
    subst l12 y12 z12
    obtain ⟨rfl, rfl, e12⟩ := hQ12
    have N12 := Fr.app N11 (Fr.nil n0)
    refine go (B := T12.setTop (mkF m 134 #[.val (.int p0), .val (.int p1), .val (.int p2), .val (.int p3), .val (.int (p3 &&& (3 : Int32))), .val (.ref b1), .val (.ref b2_2), .val (.ref b2_3), .val (.ref b2_4), .val (.ref b5), .val (.int f0_t0), .val (.int f0_t1), .val (.int f0_t2), .unset] [(.int f0_t3)])) (fun _ k => st12.trans k) ?_
    refine go (B := T12.setTop (mkF m 136 #[.val (.int p0), .val (.int p1), .val (.int p2), .val (.int p3), .val (.int (p3 &&& (3 : Int32))), .val (.ref b1), .val (.ref b2_2), .val (.ref b2_3), .val (.ref b2_4), .val (.ref b5), .val (.int f0_t0), .val (.int f0_t1), .val (.int f0_t2), .val (.int f0_t3)] [])) (fun _ k => XS.istore X12.here hx rfl (hb hby at_134) rfl (l' := #[.val (.int p0), .val (.int p1), .val (.int p2), .val (.int p3), .val (.int (p3 &&& (3 : Int32))), .val (.ref b1), .val (.ref b2_2), .val (.ref b2_3), .val (.ref b2_4), .val (.ref b5), .val (.int f0_t0), .val (.int f0_t1), .val (.int f0_t2), .val (.int f0_t3)]) rfl k) ?_
    refine go (B := T12.setTop (mkF m 138 #[.val (.int p0), .val (.int p1), .val (.int p2), .val (.int p3), .val (.int (p3 &&& (3 : Int32))), .val (.ref b1), .val (.ref b2_2), .val (.ref b2_3), .val (.ref b2_4), .val (.ref b5), .val (.int f0_t0), .val (.int f0_t1), .val (.int f0_t2), .val (.int f0_t3)] [(.int f0_t0)])) (fun _ k => XS.iload X12.here hx rfl (hb hby at_136) rfl k) ?_
    refine go (B := T12.setTop (mkF m 140 #[.val (.int p0), .val (.int p1), .val (.int p2), .val (.int p3), .val (.int (p3 &&& (3 : Int32))), .val (.ref b1), .val (.ref b2_2), .val (.ref b2_3), .val (.ref b2_4), .val (.ref b5), .val (.int f0_t0), .val (.int f0_t1), .val (.int f0_t2), .val (.int f0_t3)] [(.ref b1), (.int f0_t0)])) (fun _ k => XS.aload X12.here hx rfl (hb hby at_138) rfl rfl k) ?_
    refine go (B := T12.setTop (mkF m 141 #[.val (.int p0), .val (.int p1), .val (.int p2), .val (.int p3), .val (.int (p3 &&& (3 : Int32))), .val (.ref b1), .val (.ref b2_2), .val (.ref b2_3), .val (.ref b2_4), .val (.ref b5), .val (.int f0_t0), .val (.int f0_t1), .val (.int f0_t2), .val (.int f0_t3)] [(.int (0 : Int32)), (.ref b1), (.int f0_t0)])) (fun _ k => XS.iconst X12.here hx rfl (hb hby at_140) k) ?_
    obtain ⟨cl13, Ar13, hin13, hat13, up13⟩ := Arl.in W_b1_6 (j := (0 : Int32)) (by decide) (own_lit (n := 4) (by decide) List.length_replicate)
    refine go (B := T12.setTop (mkF m 142 #[.val (.int p0), .val (.int p1), .val (.int p2), .val (.int p3), .val (.int (p3 &&& (3 : Int32))), .val (.ref b1), .val (.ref b2_2), .val (.ref b2_3), .val (.ref b2_4), .val (.ref b5), .val (.int f0_t0), .val (.int f0_t1), .val (.int f0_t2), .val (.int f0_t3)] [(.int (List.getD (List.replicate 4 (0 : Int32)) 0 0)), (.int f0_t0)])) (fun _ k => X12.baloadBooleans hx (j := (0 : Int32)) (v := (.int (List.getD (List.replicate 4 (0 : Int32)) 0 0))) (by rw [e12]; exact Ar13.1) (State.isArrayOf_alike hZ.alike Ar13.2.1) Ar13.2.2 hin13 hat13 (g := (mkF m 141 #[.val (.int p0), .val (.int p1), .val (.int p2), .val (.int p3), .val (.int (p3 &&& (3 : Int32))), .val (.ref b1), .val (.ref b2_2), .val (.ref b2_3), .val (.ref b2_4), .val (.ref b5), .val (.int f0_t0), .val (.int f0_t1), .val (.int f0_t2), .val (.int f0_t3)] [(.int (0 : Int32)), (.ref b1), (.int f0_t0)])) rfl rfl (hb hby at_141) _ k) ?_
    refine go (B := T12.setTop (mkF m 145 #[.val (.int p0), .val (.int p1), .val (.int p2), .val (.int p3), .val (.int (p3 &&& (3 : Int32))), .val (.ref b1), .val (.ref b2_2), .val (.ref b2_3), .val (.ref b2_4), .val (.ref b5), .val (.int f0_t0), .val (.int f0_t1), .val (.int f0_t2), .val (.int f0_t3)] [])) (fun _ k => XS.icmpNo X12.here hx rfl (hb hby at_142) rfl (teq (show f0_t0 = (List.getD (List.replicate 4 (0 : Int32)) 0 0) from (own_w hR7 0 (by decide) rfl))).2 k) ?_
    refine go (B := T12.setTop (mkF m 147 #[.val (.int p0), .val (.int p1), .val (.int p2), .val (.int p3), .val (.int (p3 &&& (3 : Int32))), .val (.ref b1), .val (.ref b2_2), .val (.ref b2_3), .val (.ref b2_4), .val (.ref b5), .val (.int f0_t0), .val (.int f0_t1), .val (.int f0_t2), .val (.int f0_t3)] [(.int f0_t1)])) (fun _ k => XS.iload X12.here hx rfl (hb hby at_145) rfl k) ?_
    refine go (B := T12.setTop (mkF m 149 #[.val (.int p0), .val (.int p1), .val (.int p2), .val (.int p3), .val (.int (p3 &&& (3 : Int32))), .val (.ref b1), .val (.ref b2_2), .val (.ref b2_3), .val (.ref b2_4), .val (.ref b5), .val (.int f0_t0), .val (.int f0_t1), .val (.int f0_t2), .val (.int f0_t3)] [(.ref b1), (.int f0_t1)])) (fun _ k => XS.aload X12.here hx rfl (hb hby at_147) rfl rfl k) ?_
    refine go (B := T12.setTop (mkF m 150 #[.val (.int p0), .val (.int p1), .val (.int p2), .val (.int p3), .val (.int (p3 &&& (3 : Int32))), .val (.ref b1), .val (.ref b2_2), .val (.ref b2_3), .val (.ref b2_4), .val (.ref b5), .val (.int f0_t0), .val (.int f0_t1), .val (.int f0_t2), .val (.int f0_t3)] [(.int (1 : Int32)), (.ref b1), (.int f0_t1)])) (fun _ k => XS.iconst X12.here hx rfl (hb hby at_149) k) ?_
    obtain ⟨cl14, Ar14, hin14, hat14, up14⟩ := Arl.in W_b1_6 (j := (1 : Int32)) (by decide) (own_lit (n := 4) (by decide) List.length_replicate)
    refine go (B := T12.setTop (mkF m 151 #[.val (.int p0), .val (.int p1), .val (.int p2), .val (.int p3), .val (.int (p3 &&& (3 : Int32))), .val (.ref b1), .val (.ref b2_2), .val (.ref b2_3), .val (.ref b2_4), .val (.ref b5), .val (.int f0_t0), .val (.int f0_t1), .val (.int f0_t2), .val (.int f0_t3)] [(.int (List.getD (List.replicate 4 (0 : Int32)) 1 0)), (.int f0_t1)])) (fun _ k => X12.baloadBooleans hx (j := (1 : Int32)) (v := (.int (List.getD (List.replicate 4 (0 : Int32)) 1 0))) (by rw [e12]; exact Ar14.1) (State.isArrayOf_alike hZ.alike Ar14.2.1) Ar14.2.2 hin14 hat14 (g := (mkF m 150 #[.val (.int p0), .val (.int p1), .val (.int p2), .val (.int p3), .val (.int (p3 &&& (3 : Int32))), .val (.ref b1), .val (.ref b2_2), .val (.ref b2_3), .val (.ref b2_4), .val (.ref b5), .val (.int f0_t0), .val (.int f0_t1), .val (.int f0_t2), .val (.int f0_t3)] [(.int (1 : Int32)), (.ref b1), (.int f0_t1)])) rfl rfl (hb hby at_150) _ k) ?_
    refine go (B := T12.setTop (mkF m 154 #[.val (.int p0), .val (.int p1), .val (.int p2), .val (.int p3), .val (.int (p3 &&& (3 : Int32))), .val (.ref b1), .val (.ref b2_2), .val (.ref b2_3), .val (.ref b2_4), .val (.ref b5), .val (.int f0_t0), .val (.int f0_t1), .val (.int f0_t2), .val (.int f0_t3)] [])) (fun _ k => XS.icmpNo X12.here hx rfl (hb hby at_151) rfl (teq (show f0_t1 = (List.getD (List.replicate 4 (0 : Int32)) 1 0) from (own_w hR7 1 (by decide) rfl))).2 k) ?_
    refine go (B := T12.setTop (mkF m 156 #[.val (.int p0), .val (.int p1), .val (.int p2), .val (.int p3), .val (.int (p3 &&& (3 : Int32))), .val (.ref b1), .val (.ref b2_2), .val (.ref b2_3), .val (.ref b2_4), .val (.ref b5), .val (.int f0_t0), .val (.int f0_t1), .val (.int f0_t2), .val (.int f0_t3)] [(.int f0_t2)])) (fun _ k => XS.iload X12.here hx rfl (hb hby at_154) rfl k) ?_
    refine go (B := T12.setTop (mkF m 158 #[.val (.int p0), .val (.int p1), .val (.int p2), .val (.int p3), .val (.int (p3 &&& (3 : Int32))), .val (.ref b1), .val (.ref b2_2), .val (.ref b2_3), .val (.ref b2_4), .val (.ref b5), .val (.int f0_t0), .val (.int f0_t1), .val (.int f0_t2), .val (.int f0_t3)] [(.ref b1), (.int f0_t2)])) (fun _ k => XS.aload X12.here hx rfl (hb hby at_156) rfl rfl k) ?_
    refine go (B := T12.setTop (mkF m 159 #[.val (.int p0), .val (.int p1), .val (.int p2), .val (.int p3), .val (.int (p3 &&& (3 : Int32))), .val (.ref b1), .val (.ref b2_2), .val (.ref b2_3), .val (.ref b2_4), .val (.ref b5), .val (.int f0_t0), .val (.int f0_t1), .val (.int f0_t2), .val (.int f0_t3)] [(.int (2 : Int32)), (.ref b1), (.int f0_t2)])) (fun _ k => XS.iconst X12.here hx rfl (hb hby at_158) k) ?_
    obtain ⟨cl15, Ar15, hin15, hat15, up15⟩ := Arl.in W_b1_6 (j := (2 : Int32)) (by decide) (own_lit (n := 4) (by decide) List.length_replicate)
    refine go (B := T12.setTop (mkF m 160 #[.val (.int p0), .val (.int p1), .val (.int p2), .val (.int p3), .val (.int (p3 &&& (3 : Int32))), .val (.ref b1), .val (.ref b2_2), .val (.ref b2_3), .val (.ref b2_4), .val (.ref b5), .val (.int f0_t0), .val (.int f0_t1), .val (.int f0_t2), .val (.int f0_t3)] [(.int (List.getD (List.replicate 4 (0 : Int32)) 2 0)), (.int f0_t2)])) (fun _ k => X12.baloadBooleans hx (j := (2 : Int32)) (v := (.int (List.getD (List.replicate 4 (0 : Int32)) 2 0))) (by rw [e12]; exact Ar15.1) (State.isArrayOf_alike hZ.alike Ar15.2.1) Ar15.2.2 hin15 hat15 (g := (mkF m 159 #[.val (.int p0), .val (.int p1), .val (.int p2), .val (.int p3), .val (.int (p3 &&& (3 : Int32))), .val (.ref b1), .val (.ref b2_2), .val (.ref b2_3), .val (.ref b2_4), .val (.ref b5), .val (.int f0_t0), .val (.int f0_t1), .val (.int f0_t2), .val (.int f0_t3)] [(.int (2 : Int32)), (.ref b1), (.int f0_t2)])) rfl rfl (hb hby at_159) _ k) ?_
    refine go (B := T12.setTop (mkF m 163 #[.val (.int p0), .val (.int p1), .val (.int p2), .val (.int p3), .val (.int (p3 &&& (3 : Int32))), .val (.ref b1), .val (.ref b2_2), .val (.ref b2_3), .val (.ref b2_4), .val (.ref b5), .val (.int f0_t0), .val (.int f0_t1), .val (.int f0_t2), .val (.int f0_t3)] [])) (fun _ k => XS.icmpNo X12.here hx rfl (hb hby at_160) rfl (teq (show f0_t2 = (List.getD (List.replicate 4 (0 : Int32)) 2 0) from (own_w hR7 2 (by decide) rfl))).2 k) ?_
    refine go (B := T12.setTop (mkF m 165 #[.val (.int p0), .val (.int p1), .val (.int p2), .val (.int p3), .val (.int (p3 &&& (3 : Int32))), .val (.ref b1), .val (.ref b2_2), .val (.ref b2_3), .val (.ref b2_4), .val (.ref b5), .val (.int f0_t0), .val (.int f0_t1), .val (.int f0_t2), .val (.int f0_t3)] [(.int f0_t3)])) (fun _ k => XS.iload X12.here hx rfl (hb hby at_163) rfl k) ?_
    refine go (B := T12.setTop (mkF m 167 #[.val (.int p0), .val (.int p1), .val (.int p2), .val (.int p3), .val (.int (p3 &&& (3 : Int32))), .val (.ref b1), .val (.ref b2_2), .val (.ref b2_3), .val (.ref b2_4), .val (.ref b5), .val (.int f0_t0), .val (.int f0_t1), .val (.int f0_t2), .val (.int f0_t3)] [(.ref b1), (.int f0_t3)])) (fun _ k => XS.aload X12.here hx rfl (hb hby at_165) rfl rfl k) ?_
    refine go (B := T12.setTop (mkF m 168 #[.val (.int p0), .val (.int p1), .val (.int p2), .val (.int p3), .val (.int (p3 &&& (3 : Int32))), .val (.ref b1), .val (.ref b2_2), .val (.ref b2_3), .val (.ref b2_4), .val (.ref b5), .val (.int f0_t0), .val (.int f0_t1), .val (.int f0_t2), .val (.int f0_t3)] [(.int (3 : Int32)), (.ref b1), (.int f0_t3)])) (fun _ k => XS.iconst X12.here hx rfl (hb hby at_167) k) ?_
    obtain ⟨cl16, Ar16, hin16, hat16, up16⟩ := Arl.in W_b1_6 (j := (3 : Int32)) (by decide) (own_lit (n := 4) (by decide) List.length_replicate)
    refine go (B := T12.setTop (mkF m 169 #[.val (.int p0), .val (.int p1), .val (.int p2), .val (.int p3), .val (.int (p3 &&& (3 : Int32))), .val (.ref b1), .val (.ref b2_2), .val (.ref b2_3), .val (.ref b2_4), .val (.ref b5), .val (.int f0_t0), .val (.int f0_t1), .val (.int f0_t2), .val (.int f0_t3)] [(.int (List.getD (List.replicate 4 (0 : Int32)) 3 0)), (.int f0_t3)])) (fun _ k => X12.baloadBooleans hx (j := (3 : Int32)) (v := (.int (List.getD (List.replicate 4 (0 : Int32)) 3 0))) (by rw [e12]; exact Ar16.1) (State.isArrayOf_alike hZ.alike Ar16.2.1) Ar16.2.2 hin16 hat16 (g := (mkF m 168 #[.val (.int p0), .val (.int p1), .val (.int p2), .val (.int p3), .val (.int (p3 &&& (3 : Int32))), .val (.ref b1), .val (.ref b2_2), .val (.ref b2_3), .val (.ref b2_4), .val (.ref b5), .val (.int f0_t0), .val (.int f0_t1), .val (.int f0_t2), .val (.int f0_t3)] [(.int (3 : Int32)), (.ref b1), (.int f0_t3)])) rfl rfl (hb hby at_168) _ k) ?_
    refine go (B := T12.setTop (mkF m 172 #[.val (.int p0), .val (.int p1), .val (.int p2), .val (.int p3), .val (.int (p3 &&& (3 : Int32))), .val (.ref b1), .val (.ref b2_2), .val (.ref b2_3), .val (.ref b2_4), .val (.ref b5), .val (.int f0_t0), .val (.int f0_t1), .val (.int f0_t2), .val (.int f0_t3)] [])) (fun _ k => XS.icmpNo X12.here hx rfl (hb hby at_169) rfl (teq (show f0_t3 = (List.getD (List.replicate 4 (0 : Int32)) 3 0) from (own_w hR7 3 (by decide) rfl))).2 k) ?_
    refine go (B := T12.setTop (mkF m 173 #[.val (.int p0), .val (.int p1), .val (.int p2), .val (.int p3), .val (.int (p3 &&& (3 : Int32))), .val (.ref b1), .val (.ref b2_2), .val (.ref b2_3), .val (.ref b2_4), .val (.ref b5), .val (.int f0_t0), .val (.int f0_t1), .val (.int f0_t2), .val (.int f0_t3)] [(.int (1 : Int32))])) (fun _ k => XS.iconst X12.here hx rfl (hb hby at_172) k) ?_
    refine go (B := T12.setTop (mkF m 177 #[.val (.int p0), .val (.int p1), .val (.int p2), .val (.int p3), .val (.int (p3 &&& (3 : Int32))), .val (.ref b1), .val (.ref b2_2), .val (.ref b2_3), .val (.ref b2_4), .val (.ref b5), .val (.int f0_t0), .val (.int f0_t1), .val (.int f0_t2), .val (.int f0_t3)] [(.int (1 : Int32))])) (fun _ k => XS.goto X12.here hx rfl (pc0 := 173) (pc' := 177) rfl (hb hby at_173) (by decide) (by decide) k) ?_
    have r17 : (f0 p3) = (1 : Int32) := by unfold f0; rw [if_pos hc8]
    exact end_nar X12 hx Bd.notSynchronized (t := .boolean) Bd.returns (by simp) (hb hby at_177) hF e12 (by decide) (by decide) ⟨(congrArg (fun z => some (Value.int z)) (r17.symm.trans (own_law p3))), N12⟩
  · refine go (B := T6.setTop (mkF m 44 #[.val (.int p0), .val (.int p1), .val (.int p2), .val (.int p3), .val (.int (p3 &&& (3 : Int32))), .val (.ref b1), .val (.ref b2_2), .val (.ref b2_3), .val (.ref b2_4), .val (.ref b5), .unset, .unset, .unset, .unset] [])) (fun _ k => XS.icmpNo X6.here hx rfl (hb hby at_41) rfl (flt hc8).1 k) ?_
    refine go (B := T6.setTop (mkF m 46 #[.val (.int p0), .val (.int p1), .val (.int p2), .val (.int p3), .val (.int (p3 &&& (3 : Int32))), .val (.ref b1), .val (.ref b2_2), .val (.ref b2_3), .val (.ref b2_4), .val (.ref b5), .unset, .unset, .unset, .unset] [(.ref b5)])) (fun _ k => XS.aload X6.here hx rfl (hb hby at_44) rfl rfl k) ?_
    refine go (B := T6.setTop (mkF m 47 #[.val (.int p0), .val (.int p1), .val (.int p2), .val (.int p3), .val (.int (p3 &&& (3 : Int32))), .val (.ref b1), .val (.ref b2_2), .val (.ref b2_3), .val (.ref b2_4), .val (.ref b5), .unset, .unset, .unset, .unset] [(.int p0), (.ref b5)])) (fun _ k => XS.iloadN X6.here hx rfl (hb hby at_46) rfl k) ?_
    refine go (B := T6.setTop (mkF m 48 #[.val (.int p0), .val (.int p1), .val (.int p2), .val (.int p3), .val (.int (p3 &&& (3 : Int32))), .val (.ref b1), .val (.ref b2_2), .val (.ref b2_3), .val (.ref b2_4), .val (.ref b5), .unset, .unset, .unset, .unset] [(.int (3 : Int32)), (.int p0), (.ref b5)])) (fun _ k => XS.iconst X6.here hx rfl (hb hby at_47) k) ?_
    refine go (B := T6.setTop (mkF m 49 #[.val (.int p0), .val (.int p1), .val (.int p2), .val (.int p3), .val (.int (p3 &&& (3 : Int32))), .val (.ref b1), .val (.ref b2_2), .val (.ref b2_3), .val (.ref b2_4), .val (.ref b5), .unset, .unset, .unset, .unset] [(.int (p0 &&& (3 : Int32))), (.ref b5)])) (fun _ k => XS.iand X6.here hx rfl (hb hby at_48) rfl k) ?_
    refine go (B := T6.setTop (mkF m 51 #[.val (.int p0), .val (.int p1), .val (.int p2), .val (.int p3), .val (.int (p3 &&& (3 : Int32))), .val (.ref b1), .val (.ref b2_2), .val (.ref b2_3), .val (.ref b2_4), .val (.ref b5), .unset, .unset, .unset, .unset] [(.ref b2_2), (.int (p0 &&& (3 : Int32))), (.ref b5)])) (fun _ k => XS.aload X6.here hx rfl (hb hby at_49) rfl rfl k) ?_
    obtain ⟨cq18, kq18, q18a, q18b, q18c⟩ := isOf hZ rfl o6_13
    obtain ⟨_, _, ⟨T18, L18, k18, n18⟩, -, X18, ⟨Lc18, hQ18, l18, y18, z18⟩, st18⟩ := X6.virtualBack hx (y := (⟨"com/example/constrained_flow/constrainedflow/planner/search/Sweep$Groups", "take", "(I[I)V"⟩ : MethodName)) (z := (⟨"com/example/constrained_flow/constrainedflow/planner/search/Sweep$Groups", "take", "(I[I)V"⟩ : MethodName)) hown (mvT hZ (hw _ (List.mem_of_getElem? (i := 34) rfl))) (mvT hZ (hw _ (List.mem_of_getElem? (i := 35) rfl))) (notFace_of_selects (args := #[]) (mvT hZ (hw _ (List.mem_of_getElem? (i := 37) rfl)))) (mvT hZ (hw _ (List.mem_of_getElem? (i := 37) rfl))) (mvT hZ (hw _ (List.mem_of_getElem? (i := 36) rfl))) (by decide) (backOf (W := 0) (rm7 l Z aw hw [] b5 (p0 &&& (3 : Int32)) b2_2 b2_6 b4_6 b6_6 b8_6 (0 : Int32) (0 : Int32) (0 : Int32) (List.set (List.set (List.set (List.set (List.replicate 4 (0 : Int32)) 0 (-1 : Int32)) 1 (-1 : Int32)) 2 (-1 : Int32)) 3 (-1 : Int32)) (List.replicate 16 (0 : Int32)) (List.replicate 17 (0 : Int32)) (List.replicate 17 (0 : Int32)) (f1_l3 p0) T6.heap n0 Z6 o6_14 o6_15 o6_16 o6_17 o6_10 o6_11 o6_12 o6_13 o6_24 o6_25 o6_18 o6_19 o6_20 o6_21 o6_22 o6_23 W_b2_2_6 (own_ch p0).2 ne_b5_b8_6 ne_b5_b2_6 ne_b5_b4_6 ne_b5_b6_6 (Ne.symm ne_b2_2_b5) (Ne.symm o6_6) (Ne.symm o6_8) (Ne.symm o6_9) (Ne.symm ne_b2_2_b8_6) o6_4 o6_5 (Ne.symm ne_b2_2_b2_6) o6_7 (Ne.symm ne_b2_2_b4_6) (Ne.symm ne_b2_2_b6_6) hG7 hI7 (own_nd3 _) g_b5 g_b8_6 g_b2_6 g_b4_6 g_b6_6 (own_ch p0).1 (by have := hM7; omega) (by decide)) hZ (hw _ (List.mem_of_getElem? (i := 38) rfl)) (hw _ (List.mem_of_getElem? (i := 15) rfl)) (by decide) (by decide)) q18a q18c (g := (mkF m 51 #[.val (.int p0), .val (.int p1), .val (.int p2), .val (.int p3), .val (.int (p3 &&& (3 : Int32))), .val (.ref b1), .val (.ref b2_2), .val (.ref b2_3), .val (.ref b2_4), .val (.ref b5), .unset, .unset, .unset, .unset] [(.ref b2_2), (.int (p0 &&& (3 : Int32))), (.ref b5)])) rfl (by rw [hml]; rfl) (Steps.refl _) (argsL := [(.int (p0 &&& (3 : Int32))), (.ref b2_2)]) (rest := []) (lenOf pd_7 rfl) rfl (by show 2 * 0 + _ ≤ _; exact Nat.le_of_eq rfl) (hb hby at_51) (fun _ _ => ⟨rfl, rfl, (by decide : 9 + 0 ≤ _), (by decide : 71 + 0 ≤ _)⟩)
    dsimp only [Pt.U, Pt.locs, Pt.cells, Pt.slots] at X18 l18 y18 z18 st18 hQ18
    subst l18 y18 z18
    obtain ⟨G'_18, S'_18, I'_18, C'_18, V'_18, N'_18, rfl, N18q, Kc18, o18_0, o18_1, o18_2, o18_3, o18_4, o18_5, o18_6, o18_7, o18_8, o18_9, o18_10, o18_11, o18_12, o18_13, o18_14, o18_15, o18_16, o18_17, o18_18, o18_19⟩ := hQ18
    have W_b1_18 := W_b1_6.keep Kc18 (ninS ne_b1_b5 (ninS ne_b1_b8_6 (ninS ne_b1_b2_6 (ninS ne_b1_b4_6 (ninS ne_b1_b6_6 nin0)))))
    have W_b2_2_18 := W_b2_2_6.keep Kc18 (ninS ne_b2_2_b5 (ninS ne_b2_2_b8_6 (ninS ne_b2_2_b2_6 (ninS ne_b2_2_b4_6 (ninS ne_b2_2_b6_6 nin0)))))
    have W_b2_3_18 := W_b2_3_6.keep Kc18 (ninS ne_b2_3_b5 (ninS ne_b2_3_b8_6 (ninS ne_b2_3_b2_6 (ninS ne_b2_3_b4_6 (ninS ne_b2_3_b6_6 nin0)))))
    have W_b2_4_18 := W_b2_4_6.keep Kc18 (ninS ne_b2_4_b5 (ninS ne_b2_4_b8_6 (ninS ne_b2_4_b2_6 (ninS ne_b2_4_b4_6 (ninS ne_b2_4_b6_6 nin0)))))
    have E_b5_18 := o6_13.keep Kc18
    have N18 := Fr.app N6 N18q
    have Z18 := Nat.le_trans Z6 Kc18.1
    refine go (B := T18.setTop (mkF m 54 #[.val (.int p0), .val (.int p1), .val (.int p2), .val (.int p3), .val (.int (p3 &&& (3 : Int32))), .val (.ref b1), .val (.ref b2_2), .val (.ref b2_3), .val (.ref b2_4), .val (.ref b5), .unset, .unset, .unset, .unset] [])) (fun _ k => st18.trans k) ?_
    refine go (B := T18.setTop (mkF m 56 #[.val (.int p0), .val (.int p1), .val (.int p2), .val (.int p3), .val (.int (p3 &&& (3 : Int32))), .val (.ref b1), .val (.ref b2_2), .val (.ref b2_3), .val (.ref b2_4), .val (.ref b5), .unset, .unset, .unset, .unset] [(.ref b1)])) (fun _ k => XS.aload X18.here hx rfl (hb hby at_54) rfl rfl k) ?_
    refine go (B := T18.setTop (mkF m 57 #[.val (.int p0), .val (.int p1), .val (.int p2), .val (.int p3), .val (.int (p3 &&& (3 : Int32))), .val (.ref b1), .val (.ref b2_2), .val (.ref b2_3), .val (.ref b2_4), .val (.ref b5), .unset, .unset, .unset, .unset] [(.int p0), (.ref b1)])) (fun _ k => XS.iloadN X18.here hx rfl (hb hby at_56) rfl k) ?_
    obtain ⟨_, _, ⟨T19, L19, k19, n19⟩, -, X19, ⟨Lc19, hQ19, l19, y19, z19⟩, st19⟩ := Jvm.LawKit.callS X18 hx (y := (⟨"com/example/constrained_flow/constrainedflow/planner/search/GroupsWaitsPinLaw", "apply", "([ZI)V"⟩ : MethodName)) hown (mvT hZ (hw _ (List.mem_of_getElem? (i := 45) rfl))) (mvT hZ (hw _ (List.mem_of_getElem? (i := 46) rfl))) (mvT hZ (hw _ (List.mem_of_getElem? (i := 3) rfl))) (mvT hZ (hw _ (List.mem_of_getElem? (i := 47) rfl))) (by decide) (backOf (W := 0) (rm9 l Z aw hw [] b1 p0 (List.replicate 4 (0 : Int32)) T18.heap n0 Z18 W_b1_18 List.length_replicate g_b1) hZ (hw _ (List.mem_of_getElem? (i := 47) rfl)) (hw _ (List.mem_of_getElem? (i := 3) rfl)) (by decide) (by decide)) (g := (mkF m 57 #[.val (.int p0), .val (.int p1), .val (.int p2), .val (.int p3), .val (.int (p3 &&& (3 : Int32))), .val (.ref b1), .val (.ref b2_2), .val (.ref b2_3), .val (.ref b2_4), .val (.ref b5), .unset, .unset, .unset, .unset] [(.int p0), (.ref b1)])) rfl (by rw [hml]; rfl) (argsL := [(.ref b1), (.int p0)]) (rest := []) (lenOf pd_8 rfl) rfl (by show 2 * 0 + _ ≤ _; exact Nat.le_of_eq rfl) (hb hby at_57) (fun _ _ => ⟨rfl, rfl, (by decide : 9 + 0 ≤ _), (by decide : 71 + 0 ≤ _)⟩)
    dsimp only [Pt.U, Pt.locs, Pt.cells, Pt.slots] at X19 l19 y19 z19 st19 hQ19
    subst l19 y19 z19
    obtain ⟨rfl, N19q, Kc19, o19_0, o19_1⟩ := hQ19
    have W_b2_2_19 := W_b2_2_18.keep Kc19 (ninS (Ne.symm ne_b1_b2_2) nin0)
    have W_b2_3_19 := W_b2_3_18.keep Kc19 (ninS (Ne.symm ne_b1_b2_3) nin0)
    have W_b2_4_19 := W_b2_4_18.keep Kc19 (ninS (Ne.symm ne_b1_b2_4) nin0)
    have E_b5_19 := o18_0.keep Kc19
    have F_sizes_b5_19 := o18_1.keep Kc19 (ninS (Ne.symm ne_b1_b5) nin0)
    have F_seenIn_b5_19 := o18_2.keep Kc19 (ninS (Ne.symm ne_b1_b5) nin0)
    have F_counted_b5_19 := o18_3.keep Kc19 (ninS (Ne.symm ne_b1_b5) nin0)
    have F_groupOf_b5_19 := o18_4.keep Kc19 (ninS (Ne.symm ne_b1_b5) nin0)
    have F_counts_b5_19 := o18_5.keep Kc19 (ninS (Ne.symm ne_b1_b5) nin0)
    have F_numbered_b5_19 := o18_6.keep Kc19 (ninS (Ne.symm ne_b1_b5) nin0)
    have F_live_b5_19 := o18_7.keep Kc19 (ninS (Ne.symm ne_b1_b5) nin0)
    have W_b8_6_19 := o18_8.keep Kc19 (ninS (Ne.symm ne_b1_b8_6) nin0)
    have W_b2_6_19 := o18_10.keep Kc19 (ninS (Ne.symm ne_b1_b2_6) nin0)
    have W_b4_6_19 := o18_12.keep Kc19 (ninS (Ne.symm ne_b1_b4_6) nin0)
    have W_b6_6_19 := o18_14.keep Kc19 (ninS (Ne.symm ne_b1_b6_6) nin0)
    have N19 := Fr.app N18 N19q
    have Z19 := Nat.le_trans Z18 Kc19.1
    refine go (B := T19.setTop (mkF m 60 #[.val (.int p0), .val (.int p1), .val (.int p2), .val (.int p3), .val (.int (p3 &&& (3 : Int32))), .val (.ref b1), .val (.ref b2_2), .val (.ref b2_3), .val (.ref b2_4), .val (.ref b5), .unset, .unset, .unset, .unset] [])) (fun _ k => st19 _ k) ?_
    have hR20 : own_R (f9_l3 p0 (List.replicate 4 (0 : Int32))) G'_18 := own_RG hR7 o18_19
    have hM20 : (N'_18).toInt ≤ 2 := by have := hM7; have := o18_18; omega
    refine go (B := T19.setTop (mkF m 62 #[.val (.int p0), .val (.int p1), .val (.int p2), .val (.int p3), .val (.int (p3 &&& (3 : Int32))), .val (.ref b1), .val (.ref b2_2), .val (.ref b2_3), .val (.ref b2_4), .val (.ref b5), .unset, .unset, .unset, .unset] [(.int (p3 &&& (3 : Int32)))])) (fun _ k => XS.iload X19.here hx rfl (hb hby at_60) rfl k) ?_
    refine go (B := T19.setTop (mkF m 63 #[.val (.int p0), .val (.int p1), .val (.int p2), .val (.int p3), .val (.int (p3 &&& (3 : Int32))), .val (.ref b1), .val (.ref b2_2), .val (.ref b2_3), .val (.ref b2_4), .val (.ref b5), .unset, .unset, .unset, .unset] [(.int (2 : Int32)), (.int (p3 &&& (3 : Int32)))])) (fun _ k => XS.iconst X19.here hx rfl (hb hby at_62) k) ?_
    by_cases hc21 : (p3 &&& (3 : Int32)) < (2 : Int32)
    · refine go (B := T19.setTop (mkF m 82 #[.val (.int p0), .val (.int p1), .val (.int p2), .val (.int p3), .val (.int (p3 &&& (3 : Int32))), .val (.ref b1), .val (.ref b2_2), .val (.ref b2_3), .val (.ref b2_4), .val (.ref b5), .unset, .unset, .unset, .unset] [])) (fun _ k => XS.icmpYes X19.here hx rfl (pc0 := 63) (pc' := 82) rfl (hb hby at_63) rfl (tlt hc21).1 (by decide) (by decide) k) ?_
      refine go (B := T19.setTop (mkF m 84 #[.val (.int p0), .val (.int p1), .val (.int p2), .val (.int p3), .val (.int (p3 &&& (3 : Int32))), .val (.ref b1), .val (.ref b2_2), .val (.ref b2_3), .val (.ref b2_4), .val (.ref b5), .unset, .unset, .unset, .unset] [(.int (p3 &&& (3 : Int32)))])) (fun _ k => XS.iload X19.here hx rfl (hb hby at_82) rfl k) ?_
      refine go (B := T19.setTop (mkF m 85 #[.val (.int p0), .val (.int p1), .val (.int p2), .val (.int p3), .val (.int (p3 &&& (3 : Int32))), .val (.ref b1), .val (.ref b2_2), .val (.ref b2_3), .val (.ref b2_4), .val (.ref b5), .unset, .unset, .unset, .unset] [(.int (3 : Int32)), (.int (p3 &&& (3 : Int32)))])) (fun _ k => XS.iconst X19.here hx rfl (hb hby at_84) k) ?_
      refine go (B := T19.setTop (mkF m 104 #[.val (.int p0), .val (.int p1), .val (.int p2), .val (.int p3), .val (.int (p3 &&& (3 : Int32))), .val (.ref b1), .val (.ref b2_2), .val (.ref b2_3), .val (.ref b2_4), .val (.ref b5), .unset, .unset, .unset, .unset] [])) (fun _ k => XS.icmpYes X19.here hx rfl (pc0 := 85) (pc' := 104) rfl (hb hby at_85) rfl (tlt (show (p3 &&& (3 : Int32)) < (3 : Int32) from by revert hc8 hc21; simp only [Int32.lt_iff_toInt_lt, ← Int32.toInt_inj, Int32.reduceToInt]; omega)).1 (by decide) (by decide) k) ?_
      refine go (B := T19.setTop (mkF m 106 #[.val (.int p0), .val (.int p1), .val (.int p2), .val (.int p3), .val (.int (p3 &&& (3 : Int32))), .val (.ref b1), .val (.ref b2_2), .val (.ref b2_3), .val (.ref b2_4), .val (.ref b5), .unset, .unset, .unset, .unset] [(.ref b5)])) (fun _ k => XS.aload X19.here hx rfl (hb hby at_104) rfl rfl k) ?_
      refine go (B := T19.setTop (mkF m 107 #[.val (.int p0), .val (.int p1), .val (.int p2), .val (.int p3), .val (.int (p3 &&& (3 : Int32))), .val (.ref b1), .val (.ref b2_2), .val (.ref b2_3), .val (.ref b2_4), .val (.ref b5), .unset, .unset, .unset, .unset] [(.int (0 : Int32)), (.ref b5)])) (fun _ k => XS.iconst X19.here hx rfl (hb hby at_106) k) ?_
      obtain ⟨cq22, kq22, q22a, q22b, q22c⟩ := isOf hZ rfl E_b5_19
      obtain ⟨_, _, ⟨T22, L22, k22, n22⟩, -, X22, ⟨Lc22, hQ22, l22, y22, z22⟩, st22⟩ := X19.virtualBack hx (y := (⟨"com/example/constrained_flow/constrainedflow/planner/search/Sweep$Groups", "waits", "(I)Z"⟩ : MethodName)) (z := (⟨"com/example/constrained_flow/constrainedflow/planner/search/Sweep$Groups", "waits", "(I)Z"⟩ : MethodName)) hown (mvT hZ (hw _ (List.mem_of_getElem? (i := 48) rfl))) (mvT hZ (hw _ (List.mem_of_getElem? (i := 49) rfl))) (notFace_of_selects (args := #[]) (mvT hZ (hw _ (List.mem_of_getElem? (i := 51) rfl)))) (mvT hZ (hw _ (List.mem_of_getElem? (i := 51) rfl))) (mvT hZ (hw _ (List.mem_of_getElem? (i := 50) rfl))) (by decide) (backOf (W := 0) (rm10 l Z aw hw [] b5 (0 : Int32) b2_6 b4_6 b6_6 b8_6 ((0 : Int32) + (1 : Int32)) N'_18 V'_18 G'_18 T19.heap n0 Z19 F_sizes_b5_19 F_seenIn_b5_19 F_counted_b5_19 F_groupOf_b5_19 F_counts_b5_19 F_numbered_b5_19 F_live_b5_19 E_b5_19 W_b8_6_19 o18_9 (show own_nd (0 : Int32) from by unfold own_nd; decide)) hZ (hw _ (List.mem_of_getElem? (i := 52) rfl)) (hw _ (List.mem_of_getElem? (i := 15) rfl)) (by decide) (by decide)) q22a q22c (g := (mkF m 107 #[.val (.int p0), .val (.int p1), .val (.int p2), .val (.int p3), .val (.int (p3 &&& (3 : Int32))), .val (.ref b1), .val (.ref b2_2), .val (.ref b2_3), .val (.ref b2_4), .val (.ref b5), .unset, .unset, .unset, .unset] [(.int (0 : Int32)), (.ref b5)])) rfl (by rw [hml]; rfl) (Steps.refl _) (argsL := [(.int (0 : Int32))]) (rest := []) (lenOf pd_6 rfl) rfl (by show 2 * 0 + _ ≤ _; exact Nat.le_of_eq rfl) (hb hby at_107) (fun _ _ => ⟨rfl, rfl, (by decide : 9 + 0 ≤ _), (by decide : 71 + 0 ≤ _)⟩)
      dsimp only [Pt.U, Pt.locs, Pt.cells, Pt.slots] at X22 l22 y22 z22 st22 hQ22
      subst l22 y22 z22
      obtain ⟨rfl, rfl, e22⟩ := hQ22
      have N22 := Fr.app N19 (Fr.nil n0)
      refine go (B := T22.setTop (mkF m 110 #[.val (.int p0), .val (.int p1), .val (.int p2), .val (.int p3), .val (.int (p3 &&& (3 : Int32))), .val (.ref b1), .val (.ref b2_2), .val (.ref b2_3), .val (.ref b2_4), .val (.ref b5), .unset, .unset, .unset, .unset] [(.int (f10 (0 : Int32) G'_18))])) (fun _ k => st22.trans k) ?_
      refine go (B := T22.setTop (mkF m 112 #[.val (.int p0), .val (.int p1), .val (.int p2), .val (.int p3), .val (.int (p3 &&& (3 : Int32))), .val (.ref b1), .val (.ref b2_2), .val (.ref b2_3), .val (.ref b2_4), .val (.ref b5), .val (.int (f10 (0 : Int32) G'_18)), .unset, .unset, .unset] [])) (fun _ k => XS.istore X22.here hx rfl (hb hby at_110) rfl (l' := #[.val (.int p0), .val (.int p1), .val (.int p2), .val (.int p3), .val (.int (p3 &&& (3 : Int32))), .val (.ref b1), .val (.ref b2_2), .val (.ref b2_3), .val (.ref b2_4), .val (.ref b5), .val (.int (f10 (0 : Int32) G'_18)), .unset, .unset, .unset]) rfl k) ?_
      refine go (B := T22.setTop (mkF m 114 #[.val (.int p0), .val (.int p1), .val (.int p2), .val (.int p3), .val (.int (p3 &&& (3 : Int32))), .val (.ref b1), .val (.ref b2_2), .val (.ref b2_3), .val (.ref b2_4), .val (.ref b5), .val (.int (f10 (0 : Int32) G'_18)), .unset, .unset, .unset] [(.ref b5)])) (fun _ k => XS.aload X22.here hx rfl (hb hby at_112) rfl rfl k) ?_
      refine go (B := T22.setTop (mkF m 115 #[.val (.int p0), .val (.int p1), .val (.int p2), .val (.int p3), .val (.int (p3 &&& (3 : Int32))), .val (.ref b1), .val (.ref b2_2), .val (.ref b2_3), .val (.ref b2_4), .val (.ref b5), .val (.int (f10 (0 : Int32) G'_18)), .unset, .unset, .unset] [(.int (1 : Int32)), (.ref b5)])) (fun _ k => XS.iconst X22.here hx rfl (hb hby at_114) k) ?_
      obtain ⟨cq23, kq23, q23a, q23b, q23c⟩ := isOf hZ e22 E_b5_19
      obtain ⟨_, _, ⟨T23, L23, k23, n23⟩, -, X23, ⟨Lc23, hQ23, l23, y23, z23⟩, st23⟩ := X22.virtualBack hx (y := (⟨"com/example/constrained_flow/constrainedflow/planner/search/Sweep$Groups", "waits", "(I)Z"⟩ : MethodName)) (z := (⟨"com/example/constrained_flow/constrainedflow/planner/search/Sweep$Groups", "waits", "(I)Z"⟩ : MethodName)) hown (mvT hZ (hw _ (List.mem_of_getElem? (i := 48) rfl))) (mvT hZ (hw _ (List.mem_of_getElem? (i := 49) rfl))) (notFace_of_selects (args := #[]) (mvT hZ (hw _ (List.mem_of_getElem? (i := 51) rfl)))) (mvT hZ (hw _ (List.mem_of_getElem? (i := 51) rfl))) (mvT hZ (hw _ (List.mem_of_getElem? (i := 50) rfl))) (by decide) (backOf (W := 0) (rm10 l Z aw hw [] b5 (1 : Int32) b2_6 b4_6 b6_6 b8_6 ((0 : Int32) + (1 : Int32)) N'_18 V'_18 G'_18 T19.heap n0 Z19 F_sizes_b5_19 F_seenIn_b5_19 F_counted_b5_19 F_groupOf_b5_19 F_counts_b5_19 F_numbered_b5_19 F_live_b5_19 E_b5_19 W_b8_6_19 o18_9 (show own_nd (1 : Int32) from by unfold own_nd; decide)) hZ (hw _ (List.mem_of_getElem? (i := 52) rfl)) (hw _ (List.mem_of_getElem? (i := 15) rfl)) (by decide) (by decide)) q23a q23c (g := (mkF m 115 #[.val (.int p0), .val (.int p1), .val (.int p2), .val (.int p3), .val (.int (p3 &&& (3 : Int32))), .val (.ref b1), .val (.ref b2_2), .val (.ref b2_3), .val (.ref b2_4), .val (.ref b5), .val (.int (f10 (0 : Int32) G'_18)), .unset, .unset, .unset] [(.int (1 : Int32)), (.ref b5)])) rfl (by rw [hml]; rfl) (Steps.refl _) (argsL := [(.int (1 : Int32))]) (rest := []) (lenOf pd_6 rfl) rfl (by show 2 * 0 + _ ≤ _; exact Nat.le_of_eq rfl) (hb hby at_115) (fun _ _ => ⟨rfl, e22, (by decide : 9 + 0 ≤ _), (by decide : 71 + 0 ≤ _)⟩)
      dsimp only [Pt.U, Pt.locs, Pt.cells, Pt.slots] at X23 l23 y23 z23 st23 hQ23
      subst l23 y23 z23
      obtain ⟨rfl, rfl, e23⟩ := hQ23
      have N23 := Fr.app N22 (Fr.nil n0)
      refine go (B := T23.setTop (mkF m 118 #[.val (.int p0), .val (.int p1), .val (.int p2), .val (.int p3), .val (.int (p3 &&& (3 : Int32))), .val (.ref b1), .val (.ref b2_2), .val (.ref b2_3), .val (.ref b2_4), .val (.ref b5), .val (.int (f10 (0 : Int32) G'_18)), .unset, .unset, .unset] [(.int (f10 (1 : Int32) G'_18))])) (fun _ k => st23.trans k) ?_
      refine go (B := T23.setTop (mkF m 120 #[.val (.int p0), .val (.int p1), .val (.int p2), .val (.int p3), .val (.int (p3 &&& (3 : Int32))), .val (.ref b1), .val (.ref b2_2), .val (.ref b2_3), .val (.ref b2_4), .val (.ref b5), .val (.int (f10 (0 : Int32) G'_18)), .val (.int (f10 (1 : Int32) G'_18)), .unset, .unset] [])) (fun _ k => XS.istore X23.here hx rfl (hb hby at_118) rfl (l' := #[.val (.int p0), .val (.int p1), .val (.int p2), .val (.int p3), .val (.int (p3 &&& (3 : Int32))), .val (.ref b1), .val (.ref b2_2), .val (.ref b2_3), .val (.ref b2_4), .val (.ref b5), .val (.int (f10 (0 : Int32) G'_18)), .val (.int (f10 (1 : Int32) G'_18)), .unset, .unset]) rfl k) ?_
      refine go (B := T23.setTop (mkF m 122 #[.val (.int p0), .val (.int p1), .val (.int p2), .val (.int p3), .val (.int (p3 &&& (3 : Int32))), .val (.ref b1), .val (.ref b2_2), .val (.ref b2_3), .val (.ref b2_4), .val (.ref b5), .val (.int (f10 (0 : Int32) G'_18)), .val (.int (f10 (1 : Int32) G'_18)), .unset, .unset] [(.ref b5)])) (fun _ k => XS.aload X23.here hx rfl (hb hby at_120) rfl rfl k) ?_
      refine go (B := T23.setTop (mkF m 123 #[.val (.int p0), .val (.int p1), .val (.int p2), .val (.int p3), .val (.int (p3 &&& (3 : Int32))), .val (.ref b1), .val (.ref b2_2), .val (.ref b2_3), .val (.ref b2_4), .val (.ref b5), .val (.int (f10 (0 : Int32) G'_18)), .val (.int (f10 (1 : Int32) G'_18)), .unset, .unset] [(.int (2 : Int32)), (.ref b5)])) (fun _ k => XS.iconst X23.here hx rfl (hb hby at_122) k) ?_
      obtain ⟨cq24, kq24, q24a, q24b, q24c⟩ := isOf hZ e23 E_b5_19
      obtain ⟨_, _, ⟨T24, L24, k24, n24⟩, -, X24, ⟨Lc24, hQ24, l24, y24, z24⟩, st24⟩ := X23.virtualBack hx (y := (⟨"com/example/constrained_flow/constrainedflow/planner/search/Sweep$Groups", "waits", "(I)Z"⟩ : MethodName)) (z := (⟨"com/example/constrained_flow/constrainedflow/planner/search/Sweep$Groups", "waits", "(I)Z"⟩ : MethodName)) hown (mvT hZ (hw _ (List.mem_of_getElem? (i := 48) rfl))) (mvT hZ (hw _ (List.mem_of_getElem? (i := 49) rfl))) (notFace_of_selects (args := #[]) (mvT hZ (hw _ (List.mem_of_getElem? (i := 51) rfl)))) (mvT hZ (hw _ (List.mem_of_getElem? (i := 51) rfl))) (mvT hZ (hw _ (List.mem_of_getElem? (i := 50) rfl))) (by decide) (backOf (W := 0) (rm10 l Z aw hw [] b5 (2 : Int32) b2_6 b4_6 b6_6 b8_6 ((0 : Int32) + (1 : Int32)) N'_18 V'_18 G'_18 T19.heap n0 Z19 F_sizes_b5_19 F_seenIn_b5_19 F_counted_b5_19 F_groupOf_b5_19 F_counts_b5_19 F_numbered_b5_19 F_live_b5_19 E_b5_19 W_b8_6_19 o18_9 (show own_nd (2 : Int32) from by unfold own_nd; decide)) hZ (hw _ (List.mem_of_getElem? (i := 52) rfl)) (hw _ (List.mem_of_getElem? (i := 15) rfl)) (by decide) (by decide)) q24a q24c (g := (mkF m 123 #[.val (.int p0), .val (.int p1), .val (.int p2), .val (.int p3), .val (.int (p3 &&& (3 : Int32))), .val (.ref b1), .val (.ref b2_2), .val (.ref b2_3), .val (.ref b2_4), .val (.ref b5), .val (.int (f10 (0 : Int32) G'_18)), .val (.int (f10 (1 : Int32) G'_18)), .unset, .unset] [(.int (2 : Int32)), (.ref b5)])) rfl (by rw [hml]; rfl) (Steps.refl _) (argsL := [(.int (2 : Int32))]) (rest := []) (lenOf pd_6 rfl) rfl (by show 2 * 0 + _ ≤ _; exact Nat.le_of_eq rfl) (hb hby at_123) (fun _ _ => ⟨rfl, e23, (by decide : 9 + 0 ≤ _), (by decide : 71 + 0 ≤ _)⟩)
      dsimp only [Pt.U, Pt.locs, Pt.cells, Pt.slots] at X24 l24 y24 z24 st24 hQ24
      subst l24 y24 z24
      obtain ⟨rfl, rfl, e24⟩ := hQ24
      have N24 := Fr.app N23 (Fr.nil n0)
      refine go (B := T24.setTop (mkF m 126 #[.val (.int p0), .val (.int p1), .val (.int p2), .val (.int p3), .val (.int (p3 &&& (3 : Int32))), .val (.ref b1), .val (.ref b2_2), .val (.ref b2_3), .val (.ref b2_4), .val (.ref b5), .val (.int (f10 (0 : Int32) G'_18)), .val (.int (f10 (1 : Int32) G'_18)), .unset, .unset] [(.int (f10 (2 : Int32) G'_18))])) (fun _ k => st24.trans k) ?_
      refine go (B := T24.setTop (mkF m 128 #[.val (.int p0), .val (.int p1), .val (.int p2), .val (.int p3), .val (.int (p3 &&& (3 : Int32))), .val (.ref b1), .val (.ref b2_2), .val (.ref b2_3), .val (.ref b2_4), .val (.ref b5), .val (.int (f10 (0 : Int32) G'_18)), .val (.int (f10 (1 : Int32) G'_18)), .val (.int (f10 (2 : Int32) G'_18)), .unset] [])) (fun _ k => XS.istore X24.here hx rfl (hb hby at_126) rfl (l' := #[.val (.int p0), .val (.int p1), .val (.int p2), .val (.int p3), .val (.int (p3 &&& (3 : Int32))), .val (.ref b1), .val (.ref b2_2), .val (.ref b2_3), .val (.ref b2_4), .val (.ref b5), .val (.int (f10 (0 : Int32) G'_18)), .val (.int (f10 (1 : Int32) G'_18)), .val (.int (f10 (2 : Int32) G'_18)), .unset]) rfl k) ?_
      refine go (B := T24.setTop (mkF m 130 #[.val (.int p0), .val (.int p1), .val (.int p2), .val (.int p3), .val (.int (p3 &&& (3 : Int32))), .val (.ref b1), .val (.ref b2_2), .val (.ref b2_3), .val (.ref b2_4), .val (.ref b5), .val (.int (f10 (0 : Int32) G'_18)), .val (.int (f10 (1 : Int32) G'_18)), .val (.int (f10 (2 : Int32) G'_18)), .unset] [(.ref b5)])) (fun _ k => XS.aload X24.here hx rfl (hb hby at_128) rfl rfl k) ?_
      refine go (B := T24.setTop (mkF m 131 #[.val (.int p0), .val (.int p1), .val (.int p2), .val (.int p3), .val (.int (p3 &&& (3 : Int32))), .val (.ref b1), .val (.ref b2_2), .val (.ref b2_3), .val (.ref b2_4), .val (.ref b5), .val (.int (f10 (0 : Int32) G'_18)), .val (.int (f10 (1 : Int32) G'_18)), .val (.int (f10 (2 : Int32) G'_18)), .unset] [(.int (3 : Int32)), (.ref b5)])) (fun _ k => XS.iconst X24.here hx rfl (hb hby at_130) k) ?_
      obtain ⟨cq25, kq25, q25a, q25b, q25c⟩ := isOf hZ e24 E_b5_19
      obtain ⟨_, _, ⟨T25, L25, k25, n25⟩, -, X25, ⟨Lc25, hQ25, l25, y25, z25⟩, st25⟩ := X24.virtualBack hx (y := (⟨"com/example/constrained_flow/constrainedflow/planner/search/Sweep$Groups", "waits", "(I)Z"⟩ : MethodName)) (z := (⟨"com/example/constrained_flow/constrainedflow/planner/search/Sweep$Groups", "waits", "(I)Z"⟩ : MethodName)) hown (mvT hZ (hw _ (List.mem_of_getElem? (i := 48) rfl))) (mvT hZ (hw _ (List.mem_of_getElem? (i := 49) rfl))) (notFace_of_selects (args := #[]) (mvT hZ (hw _ (List.mem_of_getElem? (i := 51) rfl)))) (mvT hZ (hw _ (List.mem_of_getElem? (i := 51) rfl))) (mvT hZ (hw _ (List.mem_of_getElem? (i := 50) rfl))) (by decide) (backOf (W := 0) (rm10 l Z aw hw [] b5 (3 : Int32) b2_6 b4_6 b6_6 b8_6 ((0 : Int32) + (1 : Int32)) N'_18 V'_18 G'_18 T19.heap n0 Z19 F_sizes_b5_19 F_seenIn_b5_19 F_counted_b5_19 F_groupOf_b5_19 F_counts_b5_19 F_numbered_b5_19 F_live_b5_19 E_b5_19 W_b8_6_19 o18_9 (show own_nd (3 : Int32) from by unfold own_nd; decide)) hZ (hw _ (List.mem_of_getElem? (i := 52) rfl)) (hw _ (List.mem_of_getElem? (i := 15) rfl)) (by decide) (by decide)) q25a q25c (g := (mkF m 131 #[.val (.int p0), .val (.int p1), .val (.int p2), .val (.int p3), .val (.int (p3 &&& (3 : Int32))), .val (.ref b1), .val (.ref b2_2), .val (.ref b2_3), .val (.ref b2_4), .val (.ref b5), .val (.int (f10 (0 : Int32) G'_18)), .val (.int (f10 (1 : Int32) G'_18)), .val (.int (f10 (2 : Int32) G'_18)), .unset] [(.int (3 : Int32)), (.ref b5)])) rfl (by rw [hml]; rfl) (Steps.refl _) (argsL := [(.int (3 : Int32))]) (rest := []) (lenOf pd_6 rfl) rfl (by show 2 * 0 + _ ≤ _; exact Nat.le_of_eq rfl) (hb hby at_131) (fun _ _ => ⟨rfl, e24, (by decide : 9 + 0 ≤ _), (by decide : 71 + 0 ≤ _)⟩)
      dsimp only [Pt.U, Pt.locs, Pt.cells, Pt.slots] at X25 l25 y25 z25 st25 hQ25
      subst l25 y25 z25
      obtain ⟨rfl, rfl, e25⟩ := hQ25
      have N25 := Fr.app N24 (Fr.nil n0)
      refine go (B := T25.setTop (mkF m 134 #[.val (.int p0), .val (.int p1), .val (.int p2), .val (.int p3), .val (.int (p3 &&& (3 : Int32))), .val (.ref b1), .val (.ref b2_2), .val (.ref b2_3), .val (.ref b2_4), .val (.ref b5), .val (.int (f10 (0 : Int32) G'_18)), .val (.int (f10 (1 : Int32) G'_18)), .val (.int (f10 (2 : Int32) G'_18)), .unset] [(.int (f10 (3 : Int32) G'_18))])) (fun _ k => st25.trans k) ?_
      refine go (B := T25.setTop (mkF m 136 #[.val (.int p0), .val (.int p1), .val (.int p2), .val (.int p3), .val (.int (p3 &&& (3 : Int32))), .val (.ref b1), .val (.ref b2_2), .val (.ref b2_3), .val (.ref b2_4), .val (.ref b5), .val (.int (f10 (0 : Int32) G'_18)), .val (.int (f10 (1 : Int32) G'_18)), .val (.int (f10 (2 : Int32) G'_18)), .val (.int (f10 (3 : Int32) G'_18))] [])) (fun _ k => XS.istore X25.here hx rfl (hb hby at_134) rfl (l' := #[.val (.int p0), .val (.int p1), .val (.int p2), .val (.int p3), .val (.int (p3 &&& (3 : Int32))), .val (.ref b1), .val (.ref b2_2), .val (.ref b2_3), .val (.ref b2_4), .val (.ref b5), .val (.int (f10 (0 : Int32) G'_18)), .val (.int (f10 (1 : Int32) G'_18)), .val (.int (f10 (2 : Int32) G'_18)), .val (.int (f10 (3 : Int32) G'_18))]) rfl k) ?_
      refine go (B := T25.setTop (mkF m 138 #[.val (.int p0), .val (.int p1), .val (.int p2), .val (.int p3), .val (.int (p3 &&& (3 : Int32))), .val (.ref b1), .val (.ref b2_2), .val (.ref b2_3), .val (.ref b2_4), .val (.ref b5), .val (.int (f10 (0 : Int32) G'_18)), .val (.int (f10 (1 : Int32) G'_18)), .val (.int (f10 (2 : Int32) G'_18)), .val (.int (f10 (3 : Int32) G'_18))] [(.int (f10 (0 : Int32) G'_18))])) (fun _ k => XS.iload X25.here hx rfl (hb hby at_136) rfl k) ?_
      refine go (B := T25.setTop (mkF m 140 #[.val (.int p0), .val (.int p1), .val (.int p2), .val (.int p3), .val (.int (p3 &&& (3 : Int32))), .val (.ref b1), .val (.ref b2_2), .val (.ref b2_3), .val (.ref b2_4), .val (.ref b5), .val (.int (f10 (0 : Int32) G'_18)), .val (.int (f10 (1 : Int32) G'_18)), .val (.int (f10 (2 : Int32) G'_18)), .val (.int (f10 (3 : Int32) G'_18))] [(.ref b1), (.int (f10 (0 : Int32) G'_18))])) (fun _ k => XS.aload X25.here hx rfl (hb hby at_138) rfl rfl k) ?_
      refine go (B := T25.setTop (mkF m 141 #[.val (.int p0), .val (.int p1), .val (.int p2), .val (.int p3), .val (.int (p3 &&& (3 : Int32))), .val (.ref b1), .val (.ref b2_2), .val (.ref b2_3), .val (.ref b2_4), .val (.ref b5), .val (.int (f10 (0 : Int32) G'_18)), .val (.int (f10 (1 : Int32) G'_18)), .val (.int (f10 (2 : Int32) G'_18)), .val (.int (f10 (3 : Int32) G'_18))] [(.int (0 : Int32)), (.ref b1), (.int (f10 (0 : Int32) G'_18))])) (fun _ k => XS.iconst X25.here hx rfl (hb hby at_140) k) ?_
      obtain ⟨cl26, Ar26, hin26, hat26, up26⟩ := Arl.in o19_0 (j := (0 : Int32)) (by decide) (own_lit (n := 4) (by decide) o19_1)
      refine go (B := T25.setTop (mkF m 142 #[.val (.int p0), .val (.int p1), .val (.int p2), .val (.int p3), .val (.int (p3 &&& (3 : Int32))), .val (.ref b1), .val (.ref b2_2), .val (.ref b2_3), .val (.ref b2_4), .val (.ref b5), .val (.int (f10 (0 : Int32) G'_18)), .val (.int (f10 (1 : Int32) G'_18)), .val (.int (f10 (2 : Int32) G'_18)), .val (.int (f10 (3 : Int32) G'_18))] [(.int (List.getD (f9_l3 p0 (List.replicate 4 (0 : Int32))) 0 0)), (.int (f10 (0 : Int32) G'_18))])) (fun _ k => X25.baloadBooleans hx (j := (0 : Int32)) (v := (.int (List.getD (f9_l3 p0 (List.replicate 4 (0 : Int32))) 0 0))) (by rw [e25]; exact Ar26.1) (State.isArrayOf_alike hZ.alike Ar26.2.1) Ar26.2.2 hin26 hat26 (g := (mkF m 141 #[.val (.int p0), .val (.int p1), .val (.int p2), .val (.int p3), .val (.int (p3 &&& (3 : Int32))), .val (.ref b1), .val (.ref b2_2), .val (.ref b2_3), .val (.ref b2_4), .val (.ref b5), .val (.int (f10 (0 : Int32) G'_18)), .val (.int (f10 (1 : Int32) G'_18)), .val (.int (f10 (2 : Int32) G'_18)), .val (.int (f10 (3 : Int32) G'_18))] [(.int (0 : Int32)), (.ref b1), (.int (f10 (0 : Int32) G'_18))])) rfl rfl (hb hby at_141) _ k) ?_
      refine go (B := T25.setTop (mkF m 145 #[.val (.int p0), .val (.int p1), .val (.int p2), .val (.int p3), .val (.int (p3 &&& (3 : Int32))), .val (.ref b1), .val (.ref b2_2), .val (.ref b2_3), .val (.ref b2_4), .val (.ref b5), .val (.int (f10 (0 : Int32) G'_18)), .val (.int (f10 (1 : Int32) G'_18)), .val (.int (f10 (2 : Int32) G'_18)), .val (.int (f10 (3 : Int32) G'_18))] [])) (fun _ k => XS.icmpNo X25.here hx rfl (hb hby at_142) rfl (teq (show (f10 (0 : Int32) G'_18) = (List.getD (f9_l3 p0 (List.replicate 4 (0 : Int32))) 0 0) from (own_w hR20 0 (by decide) rfl))).2 k) ?_
      refine go (B := T25.setTop (mkF m 147 #[.val (.int p0), .val (.int p1), .val (.int p2), .val (.int p3), .val (.int (p3 &&& (3 : Int32))), .val (.ref b1), .val (.ref b2_2), .val (.ref b2_3), .val (.ref b2_4), .val (.ref b5), .val (.int (f10 (0 : Int32) G'_18)), .val (.int (f10 (1 : Int32) G'_18)), .val (.int (f10 (2 : Int32) G'_18)), .val (.int (f10 (3 : Int32) G'_18))] [(.int (f10 (1 : Int32) G'_18))])) (fun _ k => XS.iload X25.here hx rfl (hb hby at_145) rfl k) ?_
      refine go (B := T25.setTop (mkF m 149 #[.val (.int p0), .val (.int p1), .val (.int p2), .val (.int p3), .val (.int (p3 &&& (3 : Int32))), .val (.ref b1), .val (.ref b2_2), .val (.ref b2_3), .val (.ref b2_4), .val (.ref b5), .val (.int (f10 (0 : Int32) G'_18)), .val (.int (f10 (1 : Int32) G'_18)), .val (.int (f10 (2 : Int32) G'_18)), .val (.int (f10 (3 : Int32) G'_18))] [(.ref b1), (.int (f10 (1 : Int32) G'_18))])) (fun _ k => XS.aload X25.here hx rfl (hb hby at_147) rfl rfl k) ?_
      refine go (B := T25.setTop (mkF m 150 #[.val (.int p0), .val (.int p1), .val (.int p2), .val (.int p3), .val (.int (p3 &&& (3 : Int32))), .val (.ref b1), .val (.ref b2_2), .val (.ref b2_3), .val (.ref b2_4), .val (.ref b5), .val (.int (f10 (0 : Int32) G'_18)), .val (.int (f10 (1 : Int32) G'_18)), .val (.int (f10 (2 : Int32) G'_18)), .val (.int (f10 (3 : Int32) G'_18))] [(.int (1 : Int32)), (.ref b1), (.int (f10 (1 : Int32) G'_18))])) (fun _ k => XS.iconst X25.here hx rfl (hb hby at_149) k) ?_
      obtain ⟨cl27, Ar27, hin27, hat27, up27⟩ := Arl.in o19_0 (j := (1 : Int32)) (by decide) (own_lit (n := 4) (by decide) o19_1)
      refine go (B := T25.setTop (mkF m 151 #[.val (.int p0), .val (.int p1), .val (.int p2), .val (.int p3), .val (.int (p3 &&& (3 : Int32))), .val (.ref b1), .val (.ref b2_2), .val (.ref b2_3), .val (.ref b2_4), .val (.ref b5), .val (.int (f10 (0 : Int32) G'_18)), .val (.int (f10 (1 : Int32) G'_18)), .val (.int (f10 (2 : Int32) G'_18)), .val (.int (f10 (3 : Int32) G'_18))] [(.int (List.getD (f9_l3 p0 (List.replicate 4 (0 : Int32))) 1 0)), (.int (f10 (1 : Int32) G'_18))])) (fun _ k => X25.baloadBooleans hx (j := (1 : Int32)) (v := (.int (List.getD (f9_l3 p0 (List.replicate 4 (0 : Int32))) 1 0))) (by rw [e25]; exact Ar27.1) (State.isArrayOf_alike hZ.alike Ar27.2.1) Ar27.2.2 hin27 hat27 (g := (mkF m 150 #[.val (.int p0), .val (.int p1), .val (.int p2), .val (.int p3), .val (.int (p3 &&& (3 : Int32))), .val (.ref b1), .val (.ref b2_2), .val (.ref b2_3), .val (.ref b2_4), .val (.ref b5), .val (.int (f10 (0 : Int32) G'_18)), .val (.int (f10 (1 : Int32) G'_18)), .val (.int (f10 (2 : Int32) G'_18)), .val (.int (f10 (3 : Int32) G'_18))] [(.int (1 : Int32)), (.ref b1), (.int (f10 (1 : Int32) G'_18))])) rfl rfl (hb hby at_150) _ k) ?_
      refine go (B := T25.setTop (mkF m 154 #[.val (.int p0), .val (.int p1), .val (.int p2), .val (.int p3), .val (.int (p3 &&& (3 : Int32))), .val (.ref b1), .val (.ref b2_2), .val (.ref b2_3), .val (.ref b2_4), .val (.ref b5), .val (.int (f10 (0 : Int32) G'_18)), .val (.int (f10 (1 : Int32) G'_18)), .val (.int (f10 (2 : Int32) G'_18)), .val (.int (f10 (3 : Int32) G'_18))] [])) (fun _ k => XS.icmpNo X25.here hx rfl (hb hby at_151) rfl (teq (show (f10 (1 : Int32) G'_18) = (List.getD (f9_l3 p0 (List.replicate 4 (0 : Int32))) 1 0) from (own_w hR20 1 (by decide) rfl))).2 k) ?_
      refine go (B := T25.setTop (mkF m 156 #[.val (.int p0), .val (.int p1), .val (.int p2), .val (.int p3), .val (.int (p3 &&& (3 : Int32))), .val (.ref b1), .val (.ref b2_2), .val (.ref b2_3), .val (.ref b2_4), .val (.ref b5), .val (.int (f10 (0 : Int32) G'_18)), .val (.int (f10 (1 : Int32) G'_18)), .val (.int (f10 (2 : Int32) G'_18)), .val (.int (f10 (3 : Int32) G'_18))] [(.int (f10 (2 : Int32) G'_18))])) (fun _ k => XS.iload X25.here hx rfl (hb hby at_154) rfl k) ?_
      refine go (B := T25.setTop (mkF m 158 #[.val (.int p0), .val (.int p1), .val (.int p2), .val (.int p3), .val (.int (p3 &&& (3 : Int32))), .val (.ref b1), .val (.ref b2_2), .val (.ref b2_3), .val (.ref b2_4), .val (.ref b5), .val (.int (f10 (0 : Int32) G'_18)), .val (.int (f10 (1 : Int32) G'_18)), .val (.int (f10 (2 : Int32) G'_18)), .val (.int (f10 (3 : Int32) G'_18))] [(.ref b1), (.int (f10 (2 : Int32) G'_18))])) (fun _ k => XS.aload X25.here hx rfl (hb hby at_156) rfl rfl k) ?_
      refine go (B := T25.setTop (mkF m 159 #[.val (.int p0), .val (.int p1), .val (.int p2), .val (.int p3), .val (.int (p3 &&& (3 : Int32))), .val (.ref b1), .val (.ref b2_2), .val (.ref b2_3), .val (.ref b2_4), .val (.ref b5), .val (.int (f10 (0 : Int32) G'_18)), .val (.int (f10 (1 : Int32) G'_18)), .val (.int (f10 (2 : Int32) G'_18)), .val (.int (f10 (3 : Int32) G'_18))] [(.int (2 : Int32)), (.ref b1), (.int (f10 (2 : Int32) G'_18))])) (fun _ k => XS.iconst X25.here hx rfl (hb hby at_158) k) ?_
      obtain ⟨cl28, Ar28, hin28, hat28, up28⟩ := Arl.in o19_0 (j := (2 : Int32)) (by decide) (own_lit (n := 4) (by decide) o19_1)
      refine go (B := T25.setTop (mkF m 160 #[.val (.int p0), .val (.int p1), .val (.int p2), .val (.int p3), .val (.int (p3 &&& (3 : Int32))), .val (.ref b1), .val (.ref b2_2), .val (.ref b2_3), .val (.ref b2_4), .val (.ref b5), .val (.int (f10 (0 : Int32) G'_18)), .val (.int (f10 (1 : Int32) G'_18)), .val (.int (f10 (2 : Int32) G'_18)), .val (.int (f10 (3 : Int32) G'_18))] [(.int (List.getD (f9_l3 p0 (List.replicate 4 (0 : Int32))) 2 0)), (.int (f10 (2 : Int32) G'_18))])) (fun _ k => X25.baloadBooleans hx (j := (2 : Int32)) (v := (.int (List.getD (f9_l3 p0 (List.replicate 4 (0 : Int32))) 2 0))) (by rw [e25]; exact Ar28.1) (State.isArrayOf_alike hZ.alike Ar28.2.1) Ar28.2.2 hin28 hat28 (g := (mkF m 159 #[.val (.int p0), .val (.int p1), .val (.int p2), .val (.int p3), .val (.int (p3 &&& (3 : Int32))), .val (.ref b1), .val (.ref b2_2), .val (.ref b2_3), .val (.ref b2_4), .val (.ref b5), .val (.int (f10 (0 : Int32) G'_18)), .val (.int (f10 (1 : Int32) G'_18)), .val (.int (f10 (2 : Int32) G'_18)), .val (.int (f10 (3 : Int32) G'_18))] [(.int (2 : Int32)), (.ref b1), (.int (f10 (2 : Int32) G'_18))])) rfl rfl (hb hby at_159) _ k) ?_
      refine go (B := T25.setTop (mkF m 163 #[.val (.int p0), .val (.int p1), .val (.int p2), .val (.int p3), .val (.int (p3 &&& (3 : Int32))), .val (.ref b1), .val (.ref b2_2), .val (.ref b2_3), .val (.ref b2_4), .val (.ref b5), .val (.int (f10 (0 : Int32) G'_18)), .val (.int (f10 (1 : Int32) G'_18)), .val (.int (f10 (2 : Int32) G'_18)), .val (.int (f10 (3 : Int32) G'_18))] [])) (fun _ k => XS.icmpNo X25.here hx rfl (hb hby at_160) rfl (teq (show (f10 (2 : Int32) G'_18) = (List.getD (f9_l3 p0 (List.replicate 4 (0 : Int32))) 2 0) from (own_w hR20 2 (by decide) rfl))).2 k) ?_
      refine go (B := T25.setTop (mkF m 165 #[.val (.int p0), .val (.int p1), .val (.int p2), .val (.int p3), .val (.int (p3 &&& (3 : Int32))), .val (.ref b1), .val (.ref b2_2), .val (.ref b2_3), .val (.ref b2_4), .val (.ref b5), .val (.int (f10 (0 : Int32) G'_18)), .val (.int (f10 (1 : Int32) G'_18)), .val (.int (f10 (2 : Int32) G'_18)), .val (.int (f10 (3 : Int32) G'_18))] [(.int (f10 (3 : Int32) G'_18))])) (fun _ k => XS.iload X25.here hx rfl (hb hby at_163) rfl k) ?_
      refine go (B := T25.setTop (mkF m 167 #[.val (.int p0), .val (.int p1), .val (.int p2), .val (.int p3), .val (.int (p3 &&& (3 : Int32))), .val (.ref b1), .val (.ref b2_2), .val (.ref b2_3), .val (.ref b2_4), .val (.ref b5), .val (.int (f10 (0 : Int32) G'_18)), .val (.int (f10 (1 : Int32) G'_18)), .val (.int (f10 (2 : Int32) G'_18)), .val (.int (f10 (3 : Int32) G'_18))] [(.ref b1), (.int (f10 (3 : Int32) G'_18))])) (fun _ k => XS.aload X25.here hx rfl (hb hby at_165) rfl rfl k) ?_
      refine go (B := T25.setTop (mkF m 168 #[.val (.int p0), .val (.int p1), .val (.int p2), .val (.int p3), .val (.int (p3 &&& (3 : Int32))), .val (.ref b1), .val (.ref b2_2), .val (.ref b2_3), .val (.ref b2_4), .val (.ref b5), .val (.int (f10 (0 : Int32) G'_18)), .val (.int (f10 (1 : Int32) G'_18)), .val (.int (f10 (2 : Int32) G'_18)), .val (.int (f10 (3 : Int32) G'_18))] [(.int (3 : Int32)), (.ref b1), (.int (f10 (3 : Int32) G'_18))])) (fun _ k => XS.iconst X25.here hx rfl (hb hby at_167) k) ?_
      obtain ⟨cl29, Ar29, hin29, hat29, up29⟩ := Arl.in o19_0 (j := (3 : Int32)) (by decide) (own_lit (n := 4) (by decide) o19_1)
      refine go (B := T25.setTop (mkF m 169 #[.val (.int p0), .val (.int p1), .val (.int p2), .val (.int p3), .val (.int (p3 &&& (3 : Int32))), .val (.ref b1), .val (.ref b2_2), .val (.ref b2_3), .val (.ref b2_4), .val (.ref b5), .val (.int (f10 (0 : Int32) G'_18)), .val (.int (f10 (1 : Int32) G'_18)), .val (.int (f10 (2 : Int32) G'_18)), .val (.int (f10 (3 : Int32) G'_18))] [(.int (List.getD (f9_l3 p0 (List.replicate 4 (0 : Int32))) 3 0)), (.int (f10 (3 : Int32) G'_18))])) (fun _ k => X25.baloadBooleans hx (j := (3 : Int32)) (v := (.int (List.getD (f9_l3 p0 (List.replicate 4 (0 : Int32))) 3 0))) (by rw [e25]; exact Ar29.1) (State.isArrayOf_alike hZ.alike Ar29.2.1) Ar29.2.2 hin29 hat29 (g := (mkF m 168 #[.val (.int p0), .val (.int p1), .val (.int p2), .val (.int p3), .val (.int (p3 &&& (3 : Int32))), .val (.ref b1), .val (.ref b2_2), .val (.ref b2_3), .val (.ref b2_4), .val (.ref b5), .val (.int (f10 (0 : Int32) G'_18)), .val (.int (f10 (1 : Int32) G'_18)), .val (.int (f10 (2 : Int32) G'_18)), .val (.int (f10 (3 : Int32) G'_18))] [(.int (3 : Int32)), (.ref b1), (.int (f10 (3 : Int32) G'_18))])) rfl rfl (hb hby at_168) _ k) ?_
      refine go (B := T25.setTop (mkF m 172 #[.val (.int p0), .val (.int p1), .val (.int p2), .val (.int p3), .val (.int (p3 &&& (3 : Int32))), .val (.ref b1), .val (.ref b2_2), .val (.ref b2_3), .val (.ref b2_4), .val (.ref b5), .val (.int (f10 (0 : Int32) G'_18)), .val (.int (f10 (1 : Int32) G'_18)), .val (.int (f10 (2 : Int32) G'_18)), .val (.int (f10 (3 : Int32) G'_18))] [])) (fun _ k => XS.icmpNo X25.here hx rfl (hb hby at_169) rfl (teq (show (f10 (3 : Int32) G'_18) = (List.getD (f9_l3 p0 (List.replicate 4 (0 : Int32))) 3 0) from (own_w hR20 3 (by decide) rfl))).2 k) ?_
      refine go (B := T25.setTop (mkF m 173 #[.val (.int p0), .val (.int p1), .val (.int p2), .val (.int p3), .val (.int (p3 &&& (3 : Int32))), .val (.ref b1), .val (.ref b2_2), .val (.ref b2_3), .val (.ref b2_4), .val (.ref b5), .val (.int (f10 (0 : Int32) G'_18)), .val (.int (f10 (1 : Int32) G'_18)), .val (.int (f10 (2 : Int32) G'_18)), .val (.int (f10 (3 : Int32) G'_18))] [(.int (1 : Int32))])) (fun _ k => XS.iconst X25.here hx rfl (hb hby at_172) k) ?_
      refine go (B := T25.setTop (mkF m 177 #[.val (.int p0), .val (.int p1), .val (.int p2), .val (.int p3), .val (.int (p3 &&& (3 : Int32))), .val (.ref b1), .val (.ref b2_2), .val (.ref b2_3), .val (.ref b2_4), .val (.ref b5), .val (.int (f10 (0 : Int32) G'_18)), .val (.int (f10 (1 : Int32) G'_18)), .val (.int (f10 (2 : Int32) G'_18)), .val (.int (f10 (3 : Int32) G'_18))] [(.int (1 : Int32))])) (fun _ k => XS.goto X25.here hx rfl (pc0 := 173) (pc' := 177) rfl (hb hby at_173) (by decide) (by decide) k) ?_
      have r30 : (f0 p3) = (1 : Int32) := by unfold f0; rw [if_neg hc8, if_pos hc21]
      exact end_nar X25 hx Bd.notSynchronized (t := .boolean) Bd.returns (by simp) (hb hby at_177) hF e25 (by decide) (by decide) ⟨(congrArg (fun z => some (Value.int z)) (r30.symm.trans (own_law p3))), N25⟩
    · refine go (B := T19.setTop (mkF m 66 #[.val (.int p0), .val (.int p1), .val (.int p2), .val (.int p3), .val (.int (p3 &&& (3 : Int32))), .val (.ref b1), .val (.ref b2_2), .val (.ref b2_3), .val (.ref b2_4), .val (.ref b5), .unset, .unset, .unset, .unset] [])) (fun _ k => XS.icmpNo X19.here hx rfl (hb hby at_63) rfl (flt hc21).1 k) ?_
      refine go (B := T19.setTop (mkF m 68 #[.val (.int p0), .val (.int p1), .val (.int p2), .val (.int p3), .val (.int (p3 &&& (3 : Int32))), .val (.ref b1), .val (.ref b2_2), .val (.ref b2_3), .val (.ref b2_4), .val (.ref b5), .unset, .unset, .unset, .unset] [(.ref b5)])) (fun _ k => XS.aload X19.here hx rfl (hb hby at_66) rfl rfl k) ?_
      refine go (B := T19.setTop (mkF m 69 #[.val (.int p0), .val (.int p1), .val (.int p2), .val (.int p3), .val (.int (p3 &&& (3 : Int32))), .val (.ref b1), .val (.ref b2_2), .val (.ref b2_3), .val (.ref b2_4), .val (.ref b5), .unset, .unset, .unset, .unset] [(.int p1), (.ref b5)])) (fun _ k => XS.iloadN X19.here hx rfl (hb hby at_68) rfl k) ?_
      refine go (B := T19.setTop (mkF m 70 #[.val (.int p0), .val (.int p1), .val (.int p2), .val (.int p3), .val (.int (p3 &&& (3 : Int32))), .val (.ref b1), .val (.ref b2_2), .val (.ref b2_3), .val (.ref b2_4), .val (.ref b5), .unset, .unset, .unset, .unset] [(.int (3 : Int32)), (.int p1), (.ref b5)])) (fun _ k => XS.iconst X19.here hx rfl (hb hby at_69) k) ?_
      refine go (B := T19.setTop (mkF m 71 #[.val (.int p0), .val (.int p1), .val (.int p2), .val (.int p3), .val (.int (p3 &&& (3 : Int32))), .val (.ref b1), .val (.ref b2_2), .val (.ref b2_3), .val (.ref b2_4), .val (.ref b5), .unset, .unset, .unset, .unset] [(.int (p1 &&& (3 : Int32))), (.ref b5)])) (fun _ k => XS.iand X19.here hx rfl (hb hby at_70) rfl k) ?_
      refine go (B := T19.setTop (mkF m 73 #[.val (.int p0), .val (.int p1), .val (.int p2), .val (.int p3), .val (.int (p3 &&& (3 : Int32))), .val (.ref b1), .val (.ref b2_2), .val (.ref b2_3), .val (.ref b2_4), .val (.ref b5), .unset, .unset, .unset, .unset] [(.ref b2_3), (.int (p1 &&& (3 : Int32))), (.ref b5)])) (fun _ k => XS.aload X19.here hx rfl (hb hby at_71) rfl rfl k) ?_
      obtain ⟨cq31, kq31, q31a, q31b, q31c⟩ := isOf hZ rfl E_b5_19
      obtain ⟨_, _, ⟨T31, L31, k31, n31⟩, -, X31, ⟨Lc31, hQ31, l31, y31, z31⟩, st31⟩ := X19.virtualBack hx (y := (⟨"com/example/constrained_flow/constrainedflow/planner/search/Sweep$Groups", "take", "(I[I)V"⟩ : MethodName)) (z := (⟨"com/example/constrained_flow/constrainedflow/planner/search/Sweep$Groups", "take", "(I[I)V"⟩ : MethodName)) hown (mvT hZ (hw _ (List.mem_of_getElem? (i := 34) rfl))) (mvT hZ (hw _ (List.mem_of_getElem? (i := 35) rfl))) (notFace_of_selects (args := #[]) (mvT hZ (hw _ (List.mem_of_getElem? (i := 37) rfl)))) (mvT hZ (hw _ (List.mem_of_getElem? (i := 37) rfl))) (mvT hZ (hw _ (List.mem_of_getElem? (i := 36) rfl))) (by decide) (backOf (W := 0) (rm7 l Z aw hw [] b5 (p1 &&& (3 : Int32)) b2_3 b2_6 b4_6 b6_6 b8_6 ((0 : Int32) + (1 : Int32)) N'_18 V'_18 G'_18 S'_18 I'_18 C'_18 (f1_l3 p1) T19.heap n0 Z19 F_sizes_b5_19 F_seenIn_b5_19 F_counted_b5_19 F_groupOf_b5_19 F_counts_b5_19 F_numbered_b5_19 F_live_b5_19 E_b5_19 W_b8_6_19 o18_9 W_b2_6_19 o18_11 W_b4_6_19 o18_13 W_b6_6_19 o18_15 W_b2_3_19 (own_ch p1).2 ne_b5_b8_6 ne_b5_b2_6 ne_b5_b4_6 ne_b5_b6_6 (Ne.symm ne_b2_3_b5) (Ne.symm o6_6) (Ne.symm o6_8) (Ne.symm o6_9) (Ne.symm ne_b2_3_b8_6) o6_4 o6_5 (Ne.symm ne_b2_3_b2_6) o6_7 (Ne.symm ne_b2_3_b4_6) (Ne.symm ne_b2_3_b6_6) o18_16 o18_17 (own_nd3 _) g_b5 g_b8_6 g_b2_6 g_b4_6 g_b6_6 (own_ch p1).1 (by have := hM20; omega) (by decide)) hZ (hw _ (List.mem_of_getElem? (i := 38) rfl)) (hw _ (List.mem_of_getElem? (i := 15) rfl)) (by decide) (by decide)) q31a q31c (g := (mkF m 73 #[.val (.int p0), .val (.int p1), .val (.int p2), .val (.int p3), .val (.int (p3 &&& (3 : Int32))), .val (.ref b1), .val (.ref b2_2), .val (.ref b2_3), .val (.ref b2_4), .val (.ref b5), .unset, .unset, .unset, .unset] [(.ref b2_3), (.int (p1 &&& (3 : Int32))), (.ref b5)])) rfl (by rw [hml]; rfl) (Steps.refl _) (argsL := [(.int (p1 &&& (3 : Int32))), (.ref b2_3)]) (rest := []) (lenOf pd_7 rfl) rfl (by show 2 * 0 + _ ≤ _; exact Nat.le_of_eq rfl) (hb hby at_73) (fun _ _ => ⟨rfl, rfl, (by decide : 9 + 0 ≤ _), (by decide : 71 + 0 ≤ _)⟩)
      dsimp only [Pt.U, Pt.locs, Pt.cells, Pt.slots] at X31 l31 y31 z31 st31 hQ31
      subst l31 y31 z31
      obtain ⟨G'_31, S'_31, I'_31, C'_31, V'_31, N'_31, rfl, N31q, Kc31, o31_0, o31_1, o31_2, o31_3, o31_4, o31_5, o31_6, o31_7, o31_8, o31_9, o31_10, o31_11, o31_12, o31_13, o31_14, o31_15, o31_16, o31_17, o31_18, o31_19⟩ := hQ31
      have W_b2_2_31 := W_b2_2_19.keep Kc31 (ninS ne_b2_2_b5 (ninS ne_b2_2_b8_6 (ninS ne_b2_2_b2_6 (ninS ne_b2_2_b4_6 (ninS ne_b2_2_b6_6 nin0)))))
      have W_b2_3_31 := W_b2_3_19.keep Kc31 (ninS ne_b2_3_b5 (ninS ne_b2_3_b8_6 (ninS ne_b2_3_b2_6 (ninS ne_b2_3_b4_6 (ninS ne_b2_3_b6_6 nin0)))))
      have W_b2_4_31 := W_b2_4_19.keep Kc31 (ninS ne_b2_4_b5 (ninS ne_b2_4_b8_6 (ninS ne_b2_4_b2_6 (ninS ne_b2_4_b4_6 (ninS ne_b2_4_b6_6 nin0)))))
      have E_b5_31 := E_b5_19.keep Kc31
      have W_b1_31 := o19_0.keep Kc31 (ninS ne_b1_b5 (ninS ne_b1_b8_6 (ninS ne_b1_b2_6 (ninS ne_b1_b4_6 (ninS ne_b1_b6_6 nin0)))))
      have N31 := Fr.app N19 N31q
      have Z31 := Nat.le_trans Z19 Kc31.1
      refine go (B := T31.setTop (mkF m 76 #[.val (.int p0), .val (.int p1), .val (.int p2), .val (.int p3), .val (.int (p3 &&& (3 : Int32))), .val (.ref b1), .val (.ref b2_2), .val (.ref b2_3), .val (.ref b2_4), .val (.ref b5), .unset, .unset, .unset, .unset] [])) (fun _ k => st31.trans k) ?_
      refine go (B := T31.setTop (mkF m 78 #[.val (.int p0), .val (.int p1), .val (.int p2), .val (.int p3), .val (.int (p3 &&& (3 : Int32))), .val (.ref b1), .val (.ref b2_2), .val (.ref b2_3), .val (.ref b2_4), .val (.ref b5), .unset, .unset, .unset, .unset] [(.ref b1)])) (fun _ k => XS.aload X31.here hx rfl (hb hby at_76) rfl rfl k) ?_
      refine go (B := T31.setTop (mkF m 79 #[.val (.int p0), .val (.int p1), .val (.int p2), .val (.int p3), .val (.int (p3 &&& (3 : Int32))), .val (.ref b1), .val (.ref b2_2), .val (.ref b2_3), .val (.ref b2_4), .val (.ref b5), .unset, .unset, .unset, .unset] [(.int p1), (.ref b1)])) (fun _ k => XS.iloadN X31.here hx rfl (hb hby at_78) rfl k) ?_
      obtain ⟨_, _, ⟨T32, L32, k32, n32⟩, -, X32, ⟨Lc32, hQ32, l32, y32, z32⟩, st32⟩ := Jvm.LawKit.callS X31 hx (y := (⟨"com/example/constrained_flow/constrainedflow/planner/search/GroupsWaitsPinLaw", "apply", "([ZI)V"⟩ : MethodName)) hown (mvT hZ (hw _ (List.mem_of_getElem? (i := 45) rfl))) (mvT hZ (hw _ (List.mem_of_getElem? (i := 46) rfl))) (mvT hZ (hw _ (List.mem_of_getElem? (i := 3) rfl))) (mvT hZ (hw _ (List.mem_of_getElem? (i := 47) rfl))) (by decide) (backOf (W := 0) (rm9 l Z aw hw [] b1 p1 (f9_l3 p0 (List.replicate 4 (0 : Int32))) T31.heap n0 Z31 W_b1_31 o19_1 g_b1) hZ (hw _ (List.mem_of_getElem? (i := 47) rfl)) (hw _ (List.mem_of_getElem? (i := 3) rfl)) (by decide) (by decide)) (g := (mkF m 79 #[.val (.int p0), .val (.int p1), .val (.int p2), .val (.int p3), .val (.int (p3 &&& (3 : Int32))), .val (.ref b1), .val (.ref b2_2), .val (.ref b2_3), .val (.ref b2_4), .val (.ref b5), .unset, .unset, .unset, .unset] [(.int p1), (.ref b1)])) rfl (by rw [hml]; rfl) (argsL := [(.ref b1), (.int p1)]) (rest := []) (lenOf pd_8 rfl) rfl (by show 2 * 0 + _ ≤ _; exact Nat.le_of_eq rfl) (hb hby at_79) (fun _ _ => ⟨rfl, rfl, (by decide : 9 + 0 ≤ _), (by decide : 71 + 0 ≤ _)⟩)
      dsimp only [Pt.U, Pt.locs, Pt.cells, Pt.slots] at X32 l32 y32 z32 st32 hQ32
      subst l32 y32 z32
      obtain ⟨rfl, N32q, Kc32, o32_0, o32_1⟩ := hQ32
      have W_b2_2_32 := W_b2_2_31.keep Kc32 (ninS (Ne.symm ne_b1_b2_2) nin0)
      have W_b2_3_32 := W_b2_3_31.keep Kc32 (ninS (Ne.symm ne_b1_b2_3) nin0)
      have W_b2_4_32 := W_b2_4_31.keep Kc32 (ninS (Ne.symm ne_b1_b2_4) nin0)
      have E_b5_32 := o31_0.keep Kc32
      have F_sizes_b5_32 := o31_1.keep Kc32 (ninS (Ne.symm ne_b1_b5) nin0)
      have F_seenIn_b5_32 := o31_2.keep Kc32 (ninS (Ne.symm ne_b1_b5) nin0)
      have F_counted_b5_32 := o31_3.keep Kc32 (ninS (Ne.symm ne_b1_b5) nin0)
      have F_groupOf_b5_32 := o31_4.keep Kc32 (ninS (Ne.symm ne_b1_b5) nin0)
      have F_counts_b5_32 := o31_5.keep Kc32 (ninS (Ne.symm ne_b1_b5) nin0)
      have F_numbered_b5_32 := o31_6.keep Kc32 (ninS (Ne.symm ne_b1_b5) nin0)
      have F_live_b5_32 := o31_7.keep Kc32 (ninS (Ne.symm ne_b1_b5) nin0)
      have W_b8_6_32 := o31_8.keep Kc32 (ninS (Ne.symm ne_b1_b8_6) nin0)
      have W_b2_6_32 := o31_10.keep Kc32 (ninS (Ne.symm ne_b1_b2_6) nin0)
      have W_b4_6_32 := o31_12.keep Kc32 (ninS (Ne.symm ne_b1_b4_6) nin0)
      have W_b6_6_32 := o31_14.keep Kc32 (ninS (Ne.symm ne_b1_b6_6) nin0)
      have N32 := Fr.app N31 N32q
      have Z32 := Nat.le_trans Z31 Kc32.1
      refine go (B := T32.setTop (mkF m 82 #[.val (.int p0), .val (.int p1), .val (.int p2), .val (.int p3), .val (.int (p3 &&& (3 : Int32))), .val (.ref b1), .val (.ref b2_2), .val (.ref b2_3), .val (.ref b2_4), .val (.ref b5), .unset, .unset, .unset, .unset] [])) (fun _ k => st32 _ k) ?_
      have hR33 : own_R (f9_l3 p1 (f9_l3 p0 (List.replicate 4 (0 : Int32)))) G'_31 := own_RG hR20 o31_19
      have hM33 : (N'_31).toInt ≤ 4 := by have := hM20; have := o31_18; omega
      refine go (B := T32.setTop (mkF m 84 #[.val (.int p0), .val (.int p1), .val (.int p2), .val (.int p3), .val (.int (p3 &&& (3 : Int32))), .val (.ref b1), .val (.ref b2_2), .val (.ref b2_3), .val (.ref b2_4), .val (.ref b5), .unset, .unset, .unset, .unset] [(.int (p3 &&& (3 : Int32)))])) (fun _ k => XS.iload X32.here hx rfl (hb hby at_82) rfl k) ?_
      refine go (B := T32.setTop (mkF m 85 #[.val (.int p0), .val (.int p1), .val (.int p2), .val (.int p3), .val (.int (p3 &&& (3 : Int32))), .val (.ref b1), .val (.ref b2_2), .val (.ref b2_3), .val (.ref b2_4), .val (.ref b5), .unset, .unset, .unset, .unset] [(.int (3 : Int32)), (.int (p3 &&& (3 : Int32)))])) (fun _ k => XS.iconst X32.here hx rfl (hb hby at_84) k) ?_
      by_cases hc34 : (p3 &&& (3 : Int32)) < (3 : Int32)
      · refine go (B := T32.setTop (mkF m 104 #[.val (.int p0), .val (.int p1), .val (.int p2), .val (.int p3), .val (.int (p3 &&& (3 : Int32))), .val (.ref b1), .val (.ref b2_2), .val (.ref b2_3), .val (.ref b2_4), .val (.ref b5), .unset, .unset, .unset, .unset] [])) (fun _ k => XS.icmpYes X32.here hx rfl (pc0 := 85) (pc' := 104) rfl (hb hby at_85) rfl (tlt hc34).1 (by decide) (by decide) k) ?_
        refine go (B := T32.setTop (mkF m 106 #[.val (.int p0), .val (.int p1), .val (.int p2), .val (.int p3), .val (.int (p3 &&& (3 : Int32))), .val (.ref b1), .val (.ref b2_2), .val (.ref b2_3), .val (.ref b2_4), .val (.ref b5), .unset, .unset, .unset, .unset] [(.ref b5)])) (fun _ k => XS.aload X32.here hx rfl (hb hby at_104) rfl rfl k) ?_
        refine go (B := T32.setTop (mkF m 107 #[.val (.int p0), .val (.int p1), .val (.int p2), .val (.int p3), .val (.int (p3 &&& (3 : Int32))), .val (.ref b1), .val (.ref b2_2), .val (.ref b2_3), .val (.ref b2_4), .val (.ref b5), .unset, .unset, .unset, .unset] [(.int (0 : Int32)), (.ref b5)])) (fun _ k => XS.iconst X32.here hx rfl (hb hby at_106) k) ?_
        obtain ⟨cq35, kq35, q35a, q35b, q35c⟩ := isOf hZ rfl E_b5_32
        obtain ⟨_, _, ⟨T35, L35, k35, n35⟩, -, X35, ⟨Lc35, hQ35, l35, y35, z35⟩, st35⟩ := X32.virtualBack hx (y := (⟨"com/example/constrained_flow/constrainedflow/planner/search/Sweep$Groups", "waits", "(I)Z"⟩ : MethodName)) (z := (⟨"com/example/constrained_flow/constrainedflow/planner/search/Sweep$Groups", "waits", "(I)Z"⟩ : MethodName)) hown (mvT hZ (hw _ (List.mem_of_getElem? (i := 48) rfl))) (mvT hZ (hw _ (List.mem_of_getElem? (i := 49) rfl))) (notFace_of_selects (args := #[]) (mvT hZ (hw _ (List.mem_of_getElem? (i := 51) rfl)))) (mvT hZ (hw _ (List.mem_of_getElem? (i := 51) rfl))) (mvT hZ (hw _ (List.mem_of_getElem? (i := 50) rfl))) (by decide) (backOf (W := 0) (rm10 l Z aw hw [] b5 (0 : Int32) b2_6 b4_6 b6_6 b8_6 (((0 : Int32) + (1 : Int32)) + (1 : Int32)) N'_31 V'_31 G'_31 T32.heap n0 Z32 F_sizes_b5_32 F_seenIn_b5_32 F_counted_b5_32 F_groupOf_b5_32 F_counts_b5_32 F_numbered_b5_32 F_live_b5_32 E_b5_32 W_b8_6_32 o31_9 (show own_nd (0 : Int32) from by unfold own_nd; decide)) hZ (hw _ (List.mem_of_getElem? (i := 52) rfl)) (hw _ (List.mem_of_getElem? (i := 15) rfl)) (by decide) (by decide)) q35a q35c (g := (mkF m 107 #[.val (.int p0), .val (.int p1), .val (.int p2), .val (.int p3), .val (.int (p3 &&& (3 : Int32))), .val (.ref b1), .val (.ref b2_2), .val (.ref b2_3), .val (.ref b2_4), .val (.ref b5), .unset, .unset, .unset, .unset] [(.int (0 : Int32)), (.ref b5)])) rfl (by rw [hml]; rfl) (Steps.refl _) (argsL := [(.int (0 : Int32))]) (rest := []) (lenOf pd_6 rfl) rfl (by show 2 * 0 + _ ≤ _; exact Nat.le_of_eq rfl) (hb hby at_107) (fun _ _ => ⟨rfl, rfl, (by decide : 9 + 0 ≤ _), (by decide : 71 + 0 ≤ _)⟩)
        dsimp only [Pt.U, Pt.locs, Pt.cells, Pt.slots] at X35 l35 y35 z35 st35 hQ35
        subst l35 y35 z35
        obtain ⟨rfl, rfl, e35⟩ := hQ35
        have N35 := Fr.app N32 (Fr.nil n0)
        refine go (B := T35.setTop (mkF m 110 #[.val (.int p0), .val (.int p1), .val (.int p2), .val (.int p3), .val (.int (p3 &&& (3 : Int32))), .val (.ref b1), .val (.ref b2_2), .val (.ref b2_3), .val (.ref b2_4), .val (.ref b5), .unset, .unset, .unset, .unset] [(.int (f10 (0 : Int32) G'_31))])) (fun _ k => st35.trans k) ?_
        refine go (B := T35.setTop (mkF m 112 #[.val (.int p0), .val (.int p1), .val (.int p2), .val (.int p3), .val (.int (p3 &&& (3 : Int32))), .val (.ref b1), .val (.ref b2_2), .val (.ref b2_3), .val (.ref b2_4), .val (.ref b5), .val (.int (f10 (0 : Int32) G'_31)), .unset, .unset, .unset] [])) (fun _ k => XS.istore X35.here hx rfl (hb hby at_110) rfl (l' := #[.val (.int p0), .val (.int p1), .val (.int p2), .val (.int p3), .val (.int (p3 &&& (3 : Int32))), .val (.ref b1), .val (.ref b2_2), .val (.ref b2_3), .val (.ref b2_4), .val (.ref b5), .val (.int (f10 (0 : Int32) G'_31)), .unset, .unset, .unset]) rfl k) ?_
        refine go (B := T35.setTop (mkF m 114 #[.val (.int p0), .val (.int p1), .val (.int p2), .val (.int p3), .val (.int (p3 &&& (3 : Int32))), .val (.ref b1), .val (.ref b2_2), .val (.ref b2_3), .val (.ref b2_4), .val (.ref b5), .val (.int (f10 (0 : Int32) G'_31)), .unset, .unset, .unset] [(.ref b5)])) (fun _ k => XS.aload X35.here hx rfl (hb hby at_112) rfl rfl k) ?_
        refine go (B := T35.setTop (mkF m 115 #[.val (.int p0), .val (.int p1), .val (.int p2), .val (.int p3), .val (.int (p3 &&& (3 : Int32))), .val (.ref b1), .val (.ref b2_2), .val (.ref b2_3), .val (.ref b2_4), .val (.ref b5), .val (.int (f10 (0 : Int32) G'_31)), .unset, .unset, .unset] [(.int (1 : Int32)), (.ref b5)])) (fun _ k => XS.iconst X35.here hx rfl (hb hby at_114) k) ?_
        obtain ⟨cq36, kq36, q36a, q36b, q36c⟩ := isOf hZ e35 E_b5_32
        obtain ⟨_, _, ⟨T36, L36, k36, n36⟩, -, X36, ⟨Lc36, hQ36, l36, y36, z36⟩, st36⟩ := X35.virtualBack hx (y := (⟨"com/example/constrained_flow/constrainedflow/planner/search/Sweep$Groups", "waits", "(I)Z"⟩ : MethodName)) (z := (⟨"com/example/constrained_flow/constrainedflow/planner/search/Sweep$Groups", "waits", "(I)Z"⟩ : MethodName)) hown (mvT hZ (hw _ (List.mem_of_getElem? (i := 48) rfl))) (mvT hZ (hw _ (List.mem_of_getElem? (i := 49) rfl))) (notFace_of_selects (args := #[]) (mvT hZ (hw _ (List.mem_of_getElem? (i := 51) rfl)))) (mvT hZ (hw _ (List.mem_of_getElem? (i := 51) rfl))) (mvT hZ (hw _ (List.mem_of_getElem? (i := 50) rfl))) (by decide) (backOf (W := 0) (rm10 l Z aw hw [] b5 (1 : Int32) b2_6 b4_6 b6_6 b8_6 (((0 : Int32) + (1 : Int32)) + (1 : Int32)) N'_31 V'_31 G'_31 T32.heap n0 Z32 F_sizes_b5_32 F_seenIn_b5_32 F_counted_b5_32 F_groupOf_b5_32 F_counts_b5_32 F_numbered_b5_32 F_live_b5_32 E_b5_32 W_b8_6_32 o31_9 (show own_nd (1 : Int32) from by unfold own_nd; decide)) hZ (hw _ (List.mem_of_getElem? (i := 52) rfl)) (hw _ (List.mem_of_getElem? (i := 15) rfl)) (by decide) (by decide)) q36a q36c (g := (mkF m 115 #[.val (.int p0), .val (.int p1), .val (.int p2), .val (.int p3), .val (.int (p3 &&& (3 : Int32))), .val (.ref b1), .val (.ref b2_2), .val (.ref b2_3), .val (.ref b2_4), .val (.ref b5), .val (.int (f10 (0 : Int32) G'_31)), .unset, .unset, .unset] [(.int (1 : Int32)), (.ref b5)])) rfl (by rw [hml]; rfl) (Steps.refl _) (argsL := [(.int (1 : Int32))]) (rest := []) (lenOf pd_6 rfl) rfl (by show 2 * 0 + _ ≤ _; exact Nat.le_of_eq rfl) (hb hby at_115) (fun _ _ => ⟨rfl, e35, (by decide : 9 + 0 ≤ _), (by decide : 71 + 0 ≤ _)⟩)
        dsimp only [Pt.U, Pt.locs, Pt.cells, Pt.slots] at X36 l36 y36 z36 st36 hQ36
        subst l36 y36 z36
        obtain ⟨rfl, rfl, e36⟩ := hQ36
        have N36 := Fr.app N35 (Fr.nil n0)
        refine go (B := T36.setTop (mkF m 118 #[.val (.int p0), .val (.int p1), .val (.int p2), .val (.int p3), .val (.int (p3 &&& (3 : Int32))), .val (.ref b1), .val (.ref b2_2), .val (.ref b2_3), .val (.ref b2_4), .val (.ref b5), .val (.int (f10 (0 : Int32) G'_31)), .unset, .unset, .unset] [(.int (f10 (1 : Int32) G'_31))])) (fun _ k => st36.trans k) ?_
        refine go (B := T36.setTop (mkF m 120 #[.val (.int p0), .val (.int p1), .val (.int p2), .val (.int p3), .val (.int (p3 &&& (3 : Int32))), .val (.ref b1), .val (.ref b2_2), .val (.ref b2_3), .val (.ref b2_4), .val (.ref b5), .val (.int (f10 (0 : Int32) G'_31)), .val (.int (f10 (1 : Int32) G'_31)), .unset, .unset] [])) (fun _ k => XS.istore X36.here hx rfl (hb hby at_118) rfl (l' := #[.val (.int p0), .val (.int p1), .val (.int p2), .val (.int p3), .val (.int (p3 &&& (3 : Int32))), .val (.ref b1), .val (.ref b2_2), .val (.ref b2_3), .val (.ref b2_4), .val (.ref b5), .val (.int (f10 (0 : Int32) G'_31)), .val (.int (f10 (1 : Int32) G'_31)), .unset, .unset]) rfl k) ?_
        refine go (B := T36.setTop (mkF m 122 #[.val (.int p0), .val (.int p1), .val (.int p2), .val (.int p3), .val (.int (p3 &&& (3 : Int32))), .val (.ref b1), .val (.ref b2_2), .val (.ref b2_3), .val (.ref b2_4), .val (.ref b5), .val (.int (f10 (0 : Int32) G'_31)), .val (.int (f10 (1 : Int32) G'_31)), .unset, .unset] [(.ref b5)])) (fun _ k => XS.aload X36.here hx rfl (hb hby at_120) rfl rfl k) ?_
        refine go (B := T36.setTop (mkF m 123 #[.val (.int p0), .val (.int p1), .val (.int p2), .val (.int p3), .val (.int (p3 &&& (3 : Int32))), .val (.ref b1), .val (.ref b2_2), .val (.ref b2_3), .val (.ref b2_4), .val (.ref b5), .val (.int (f10 (0 : Int32) G'_31)), .val (.int (f10 (1 : Int32) G'_31)), .unset, .unset] [(.int (2 : Int32)), (.ref b5)])) (fun _ k => XS.iconst X36.here hx rfl (hb hby at_122) k) ?_
        obtain ⟨cq37, kq37, q37a, q37b, q37c⟩ := isOf hZ e36 E_b5_32
        obtain ⟨_, _, ⟨T37, L37, k37, n37⟩, -, X37, ⟨Lc37, hQ37, l37, y37, z37⟩, st37⟩ := X36.virtualBack hx (y := (⟨"com/example/constrained_flow/constrainedflow/planner/search/Sweep$Groups", "waits", "(I)Z"⟩ : MethodName)) (z := (⟨"com/example/constrained_flow/constrainedflow/planner/search/Sweep$Groups", "waits", "(I)Z"⟩ : MethodName)) hown (mvT hZ (hw _ (List.mem_of_getElem? (i := 48) rfl))) (mvT hZ (hw _ (List.mem_of_getElem? (i := 49) rfl))) (notFace_of_selects (args := #[]) (mvT hZ (hw _ (List.mem_of_getElem? (i := 51) rfl)))) (mvT hZ (hw _ (List.mem_of_getElem? (i := 51) rfl))) (mvT hZ (hw _ (List.mem_of_getElem? (i := 50) rfl))) (by decide) (backOf (W := 0) (rm10 l Z aw hw [] b5 (2 : Int32) b2_6 b4_6 b6_6 b8_6 (((0 : Int32) + (1 : Int32)) + (1 : Int32)) N'_31 V'_31 G'_31 T32.heap n0 Z32 F_sizes_b5_32 F_seenIn_b5_32 F_counted_b5_32 F_groupOf_b5_32 F_counts_b5_32 F_numbered_b5_32 F_live_b5_32 E_b5_32 W_b8_6_32 o31_9 (show own_nd (2 : Int32) from by unfold own_nd; decide)) hZ (hw _ (List.mem_of_getElem? (i := 52) rfl)) (hw _ (List.mem_of_getElem? (i := 15) rfl)) (by decide) (by decide)) q37a q37c (g := (mkF m 123 #[.val (.int p0), .val (.int p1), .val (.int p2), .val (.int p3), .val (.int (p3 &&& (3 : Int32))), .val (.ref b1), .val (.ref b2_2), .val (.ref b2_3), .val (.ref b2_4), .val (.ref b5), .val (.int (f10 (0 : Int32) G'_31)), .val (.int (f10 (1 : Int32) G'_31)), .unset, .unset] [(.int (2 : Int32)), (.ref b5)])) rfl (by rw [hml]; rfl) (Steps.refl _) (argsL := [(.int (2 : Int32))]) (rest := []) (lenOf pd_6 rfl) rfl (by show 2 * 0 + _ ≤ _; exact Nat.le_of_eq rfl) (hb hby at_123) (fun _ _ => ⟨rfl, e36, (by decide : 9 + 0 ≤ _), (by decide : 71 + 0 ≤ _)⟩)
        dsimp only [Pt.U, Pt.locs, Pt.cells, Pt.slots] at X37 l37 y37 z37 st37 hQ37
        subst l37 y37 z37
        obtain ⟨rfl, rfl, e37⟩ := hQ37
        have N37 := Fr.app N36 (Fr.nil n0)
        refine go (B := T37.setTop (mkF m 126 #[.val (.int p0), .val (.int p1), .val (.int p2), .val (.int p3), .val (.int (p3 &&& (3 : Int32))), .val (.ref b1), .val (.ref b2_2), .val (.ref b2_3), .val (.ref b2_4), .val (.ref b5), .val (.int (f10 (0 : Int32) G'_31)), .val (.int (f10 (1 : Int32) G'_31)), .unset, .unset] [(.int (f10 (2 : Int32) G'_31))])) (fun _ k => st37.trans k) ?_
        refine go (B := T37.setTop (mkF m 128 #[.val (.int p0), .val (.int p1), .val (.int p2), .val (.int p3), .val (.int (p3 &&& (3 : Int32))), .val (.ref b1), .val (.ref b2_2), .val (.ref b2_3), .val (.ref b2_4), .val (.ref b5), .val (.int (f10 (0 : Int32) G'_31)), .val (.int (f10 (1 : Int32) G'_31)), .val (.int (f10 (2 : Int32) G'_31)), .unset] [])) (fun _ k => XS.istore X37.here hx rfl (hb hby at_126) rfl (l' := #[.val (.int p0), .val (.int p1), .val (.int p2), .val (.int p3), .val (.int (p3 &&& (3 : Int32))), .val (.ref b1), .val (.ref b2_2), .val (.ref b2_3), .val (.ref b2_4), .val (.ref b5), .val (.int (f10 (0 : Int32) G'_31)), .val (.int (f10 (1 : Int32) G'_31)), .val (.int (f10 (2 : Int32) G'_31)), .unset]) rfl k) ?_
        refine go (B := T37.setTop (mkF m 130 #[.val (.int p0), .val (.int p1), .val (.int p2), .val (.int p3), .val (.int (p3 &&& (3 : Int32))), .val (.ref b1), .val (.ref b2_2), .val (.ref b2_3), .val (.ref b2_4), .val (.ref b5), .val (.int (f10 (0 : Int32) G'_31)), .val (.int (f10 (1 : Int32) G'_31)), .val (.int (f10 (2 : Int32) G'_31)), .unset] [(.ref b5)])) (fun _ k => XS.aload X37.here hx rfl (hb hby at_128) rfl rfl k) ?_
        refine go (B := T37.setTop (mkF m 131 #[.val (.int p0), .val (.int p1), .val (.int p2), .val (.int p3), .val (.int (p3 &&& (3 : Int32))), .val (.ref b1), .val (.ref b2_2), .val (.ref b2_3), .val (.ref b2_4), .val (.ref b5), .val (.int (f10 (0 : Int32) G'_31)), .val (.int (f10 (1 : Int32) G'_31)), .val (.int (f10 (2 : Int32) G'_31)), .unset] [(.int (3 : Int32)), (.ref b5)])) (fun _ k => XS.iconst X37.here hx rfl (hb hby at_130) k) ?_
        obtain ⟨cq38, kq38, q38a, q38b, q38c⟩ := isOf hZ e37 E_b5_32
        obtain ⟨_, _, ⟨T38, L38, k38, n38⟩, -, X38, ⟨Lc38, hQ38, l38, y38, z38⟩, st38⟩ := X37.virtualBack hx (y := (⟨"com/example/constrained_flow/constrainedflow/planner/search/Sweep$Groups", "waits", "(I)Z"⟩ : MethodName)) (z := (⟨"com/example/constrained_flow/constrainedflow/planner/search/Sweep$Groups", "waits", "(I)Z"⟩ : MethodName)) hown (mvT hZ (hw _ (List.mem_of_getElem? (i := 48) rfl))) (mvT hZ (hw _ (List.mem_of_getElem? (i := 49) rfl))) (notFace_of_selects (args := #[]) (mvT hZ (hw _ (List.mem_of_getElem? (i := 51) rfl)))) (mvT hZ (hw _ (List.mem_of_getElem? (i := 51) rfl))) (mvT hZ (hw _ (List.mem_of_getElem? (i := 50) rfl))) (by decide) (backOf (W := 0) (rm10 l Z aw hw [] b5 (3 : Int32) b2_6 b4_6 b6_6 b8_6 (((0 : Int32) + (1 : Int32)) + (1 : Int32)) N'_31 V'_31 G'_31 T32.heap n0 Z32 F_sizes_b5_32 F_seenIn_b5_32 F_counted_b5_32 F_groupOf_b5_32 F_counts_b5_32 F_numbered_b5_32 F_live_b5_32 E_b5_32 W_b8_6_32 o31_9 (show own_nd (3 : Int32) from by unfold own_nd; decide)) hZ (hw _ (List.mem_of_getElem? (i := 52) rfl)) (hw _ (List.mem_of_getElem? (i := 15) rfl)) (by decide) (by decide)) q38a q38c (g := (mkF m 131 #[.val (.int p0), .val (.int p1), .val (.int p2), .val (.int p3), .val (.int (p3 &&& (3 : Int32))), .val (.ref b1), .val (.ref b2_2), .val (.ref b2_3), .val (.ref b2_4), .val (.ref b5), .val (.int (f10 (0 : Int32) G'_31)), .val (.int (f10 (1 : Int32) G'_31)), .val (.int (f10 (2 : Int32) G'_31)), .unset] [(.int (3 : Int32)), (.ref b5)])) rfl (by rw [hml]; rfl) (Steps.refl _) (argsL := [(.int (3 : Int32))]) (rest := []) (lenOf pd_6 rfl) rfl (by show 2 * 0 + _ ≤ _; exact Nat.le_of_eq rfl) (hb hby at_131) (fun _ _ => ⟨rfl, e37, (by decide : 9 + 0 ≤ _), (by decide : 71 + 0 ≤ _)⟩)
        dsimp only [Pt.U, Pt.locs, Pt.cells, Pt.slots] at X38 l38 y38 z38 st38 hQ38
        subst l38 y38 z38
        obtain ⟨rfl, rfl, e38⟩ := hQ38
        have N38 := Fr.app N37 (Fr.nil n0)
        refine go (B := T38.setTop (mkF m 134 #[.val (.int p0), .val (.int p1), .val (.int p2), .val (.int p3), .val (.int (p3 &&& (3 : Int32))), .val (.ref b1), .val (.ref b2_2), .val (.ref b2_3), .val (.ref b2_4), .val (.ref b5), .val (.int (f10 (0 : Int32) G'_31)), .val (.int (f10 (1 : Int32) G'_31)), .val (.int (f10 (2 : Int32) G'_31)), .unset] [(.int (f10 (3 : Int32) G'_31))])) (fun _ k => st38.trans k) ?_
        refine go (B := T38.setTop (mkF m 136 #[.val (.int p0), .val (.int p1), .val (.int p2), .val (.int p3), .val (.int (p3 &&& (3 : Int32))), .val (.ref b1), .val (.ref b2_2), .val (.ref b2_3), .val (.ref b2_4), .val (.ref b5), .val (.int (f10 (0 : Int32) G'_31)), .val (.int (f10 (1 : Int32) G'_31)), .val (.int (f10 (2 : Int32) G'_31)), .val (.int (f10 (3 : Int32) G'_31))] [])) (fun _ k => XS.istore X38.here hx rfl (hb hby at_134) rfl (l' := #[.val (.int p0), .val (.int p1), .val (.int p2), .val (.int p3), .val (.int (p3 &&& (3 : Int32))), .val (.ref b1), .val (.ref b2_2), .val (.ref b2_3), .val (.ref b2_4), .val (.ref b5), .val (.int (f10 (0 : Int32) G'_31)), .val (.int (f10 (1 : Int32) G'_31)), .val (.int (f10 (2 : Int32) G'_31)), .val (.int (f10 (3 : Int32) G'_31))]) rfl k) ?_
        refine go (B := T38.setTop (mkF m 138 #[.val (.int p0), .val (.int p1), .val (.int p2), .val (.int p3), .val (.int (p3 &&& (3 : Int32))), .val (.ref b1), .val (.ref b2_2), .val (.ref b2_3), .val (.ref b2_4), .val (.ref b5), .val (.int (f10 (0 : Int32) G'_31)), .val (.int (f10 (1 : Int32) G'_31)), .val (.int (f10 (2 : Int32) G'_31)), .val (.int (f10 (3 : Int32) G'_31))] [(.int (f10 (0 : Int32) G'_31))])) (fun _ k => XS.iload X38.here hx rfl (hb hby at_136) rfl k) ?_
        refine go (B := T38.setTop (mkF m 140 #[.val (.int p0), .val (.int p1), .val (.int p2), .val (.int p3), .val (.int (p3 &&& (3 : Int32))), .val (.ref b1), .val (.ref b2_2), .val (.ref b2_3), .val (.ref b2_4), .val (.ref b5), .val (.int (f10 (0 : Int32) G'_31)), .val (.int (f10 (1 : Int32) G'_31)), .val (.int (f10 (2 : Int32) G'_31)), .val (.int (f10 (3 : Int32) G'_31))] [(.ref b1), (.int (f10 (0 : Int32) G'_31))])) (fun _ k => XS.aload X38.here hx rfl (hb hby at_138) rfl rfl k) ?_
        refine go (B := T38.setTop (mkF m 141 #[.val (.int p0), .val (.int p1), .val (.int p2), .val (.int p3), .val (.int (p3 &&& (3 : Int32))), .val (.ref b1), .val (.ref b2_2), .val (.ref b2_3), .val (.ref b2_4), .val (.ref b5), .val (.int (f10 (0 : Int32) G'_31)), .val (.int (f10 (1 : Int32) G'_31)), .val (.int (f10 (2 : Int32) G'_31)), .val (.int (f10 (3 : Int32) G'_31))] [(.int (0 : Int32)), (.ref b1), (.int (f10 (0 : Int32) G'_31))])) (fun _ k => XS.iconst X38.here hx rfl (hb hby at_140) k) ?_
        obtain ⟨cl39, Ar39, hin39, hat39, up39⟩ := Arl.in o32_0 (j := (0 : Int32)) (by decide) (own_lit (n := 4) (by decide) o32_1)
        refine go (B := T38.setTop (mkF m 142 #[.val (.int p0), .val (.int p1), .val (.int p2), .val (.int p3), .val (.int (p3 &&& (3 : Int32))), .val (.ref b1), .val (.ref b2_2), .val (.ref b2_3), .val (.ref b2_4), .val (.ref b5), .val (.int (f10 (0 : Int32) G'_31)), .val (.int (f10 (1 : Int32) G'_31)), .val (.int (f10 (2 : Int32) G'_31)), .val (.int (f10 (3 : Int32) G'_31))] [(.int (List.getD (f9_l3 p1 (f9_l3 p0 (List.replicate 4 (0 : Int32)))) 0 0)), (.int (f10 (0 : Int32) G'_31))])) (fun _ k => X38.baloadBooleans hx (j := (0 : Int32)) (v := (.int (List.getD (f9_l3 p1 (f9_l3 p0 (List.replicate 4 (0 : Int32)))) 0 0))) (by rw [e38]; exact Ar39.1) (State.isArrayOf_alike hZ.alike Ar39.2.1) Ar39.2.2 hin39 hat39 (g := (mkF m 141 #[.val (.int p0), .val (.int p1), .val (.int p2), .val (.int p3), .val (.int (p3 &&& (3 : Int32))), .val (.ref b1), .val (.ref b2_2), .val (.ref b2_3), .val (.ref b2_4), .val (.ref b5), .val (.int (f10 (0 : Int32) G'_31)), .val (.int (f10 (1 : Int32) G'_31)), .val (.int (f10 (2 : Int32) G'_31)), .val (.int (f10 (3 : Int32) G'_31))] [(.int (0 : Int32)), (.ref b1), (.int (f10 (0 : Int32) G'_31))])) rfl rfl (hb hby at_141) _ k) ?_
        refine go (B := T38.setTop (mkF m 145 #[.val (.int p0), .val (.int p1), .val (.int p2), .val (.int p3), .val (.int (p3 &&& (3 : Int32))), .val (.ref b1), .val (.ref b2_2), .val (.ref b2_3), .val (.ref b2_4), .val (.ref b5), .val (.int (f10 (0 : Int32) G'_31)), .val (.int (f10 (1 : Int32) G'_31)), .val (.int (f10 (2 : Int32) G'_31)), .val (.int (f10 (3 : Int32) G'_31))] [])) (fun _ k => XS.icmpNo X38.here hx rfl (hb hby at_142) rfl (teq (show (f10 (0 : Int32) G'_31) = (List.getD (f9_l3 p1 (f9_l3 p0 (List.replicate 4 (0 : Int32)))) 0 0) from (own_w hR33 0 (by decide) rfl))).2 k) ?_
        refine go (B := T38.setTop (mkF m 147 #[.val (.int p0), .val (.int p1), .val (.int p2), .val (.int p3), .val (.int (p3 &&& (3 : Int32))), .val (.ref b1), .val (.ref b2_2), .val (.ref b2_3), .val (.ref b2_4), .val (.ref b5), .val (.int (f10 (0 : Int32) G'_31)), .val (.int (f10 (1 : Int32) G'_31)), .val (.int (f10 (2 : Int32) G'_31)), .val (.int (f10 (3 : Int32) G'_31))] [(.int (f10 (1 : Int32) G'_31))])) (fun _ k => XS.iload X38.here hx rfl (hb hby at_145) rfl k) ?_
        refine go (B := T38.setTop (mkF m 149 #[.val (.int p0), .val (.int p1), .val (.int p2), .val (.int p3), .val (.int (p3 &&& (3 : Int32))), .val (.ref b1), .val (.ref b2_2), .val (.ref b2_3), .val (.ref b2_4), .val (.ref b5), .val (.int (f10 (0 : Int32) G'_31)), .val (.int (f10 (1 : Int32) G'_31)), .val (.int (f10 (2 : Int32) G'_31)), .val (.int (f10 (3 : Int32) G'_31))] [(.ref b1), (.int (f10 (1 : Int32) G'_31))])) (fun _ k => XS.aload X38.here hx rfl (hb hby at_147) rfl rfl k) ?_
        refine go (B := T38.setTop (mkF m 150 #[.val (.int p0), .val (.int p1), .val (.int p2), .val (.int p3), .val (.int (p3 &&& (3 : Int32))), .val (.ref b1), .val (.ref b2_2), .val (.ref b2_3), .val (.ref b2_4), .val (.ref b5), .val (.int (f10 (0 : Int32) G'_31)), .val (.int (f10 (1 : Int32) G'_31)), .val (.int (f10 (2 : Int32) G'_31)), .val (.int (f10 (3 : Int32) G'_31))] [(.int (1 : Int32)), (.ref b1), (.int (f10 (1 : Int32) G'_31))])) (fun _ k => XS.iconst X38.here hx rfl (hb hby at_149) k) ?_
        obtain ⟨cl40, Ar40, hin40, hat40, up40⟩ := Arl.in o32_0 (j := (1 : Int32)) (by decide) (own_lit (n := 4) (by decide) o32_1)
        refine go (B := T38.setTop (mkF m 151 #[.val (.int p0), .val (.int p1), .val (.int p2), .val (.int p3), .val (.int (p3 &&& (3 : Int32))), .val (.ref b1), .val (.ref b2_2), .val (.ref b2_3), .val (.ref b2_4), .val (.ref b5), .val (.int (f10 (0 : Int32) G'_31)), .val (.int (f10 (1 : Int32) G'_31)), .val (.int (f10 (2 : Int32) G'_31)), .val (.int (f10 (3 : Int32) G'_31))] [(.int (List.getD (f9_l3 p1 (f9_l3 p0 (List.replicate 4 (0 : Int32)))) 1 0)), (.int (f10 (1 : Int32) G'_31))])) (fun _ k => X38.baloadBooleans hx (j := (1 : Int32)) (v := (.int (List.getD (f9_l3 p1 (f9_l3 p0 (List.replicate 4 (0 : Int32)))) 1 0))) (by rw [e38]; exact Ar40.1) (State.isArrayOf_alike hZ.alike Ar40.2.1) Ar40.2.2 hin40 hat40 (g := (mkF m 150 #[.val (.int p0), .val (.int p1), .val (.int p2), .val (.int p3), .val (.int (p3 &&& (3 : Int32))), .val (.ref b1), .val (.ref b2_2), .val (.ref b2_3), .val (.ref b2_4), .val (.ref b5), .val (.int (f10 (0 : Int32) G'_31)), .val (.int (f10 (1 : Int32) G'_31)), .val (.int (f10 (2 : Int32) G'_31)), .val (.int (f10 (3 : Int32) G'_31))] [(.int (1 : Int32)), (.ref b1), (.int (f10 (1 : Int32) G'_31))])) rfl rfl (hb hby at_150) _ k) ?_
        refine go (B := T38.setTop (mkF m 154 #[.val (.int p0), .val (.int p1), .val (.int p2), .val (.int p3), .val (.int (p3 &&& (3 : Int32))), .val (.ref b1), .val (.ref b2_2), .val (.ref b2_3), .val (.ref b2_4), .val (.ref b5), .val (.int (f10 (0 : Int32) G'_31)), .val (.int (f10 (1 : Int32) G'_31)), .val (.int (f10 (2 : Int32) G'_31)), .val (.int (f10 (3 : Int32) G'_31))] [])) (fun _ k => XS.icmpNo X38.here hx rfl (hb hby at_151) rfl (teq (show (f10 (1 : Int32) G'_31) = (List.getD (f9_l3 p1 (f9_l3 p0 (List.replicate 4 (0 : Int32)))) 1 0) from (own_w hR33 1 (by decide) rfl))).2 k) ?_
        refine go (B := T38.setTop (mkF m 156 #[.val (.int p0), .val (.int p1), .val (.int p2), .val (.int p3), .val (.int (p3 &&& (3 : Int32))), .val (.ref b1), .val (.ref b2_2), .val (.ref b2_3), .val (.ref b2_4), .val (.ref b5), .val (.int (f10 (0 : Int32) G'_31)), .val (.int (f10 (1 : Int32) G'_31)), .val (.int (f10 (2 : Int32) G'_31)), .val (.int (f10 (3 : Int32) G'_31))] [(.int (f10 (2 : Int32) G'_31))])) (fun _ k => XS.iload X38.here hx rfl (hb hby at_154) rfl k) ?_
        refine go (B := T38.setTop (mkF m 158 #[.val (.int p0), .val (.int p1), .val (.int p2), .val (.int p3), .val (.int (p3 &&& (3 : Int32))), .val (.ref b1), .val (.ref b2_2), .val (.ref b2_3), .val (.ref b2_4), .val (.ref b5), .val (.int (f10 (0 : Int32) G'_31)), .val (.int (f10 (1 : Int32) G'_31)), .val (.int (f10 (2 : Int32) G'_31)), .val (.int (f10 (3 : Int32) G'_31))] [(.ref b1), (.int (f10 (2 : Int32) G'_31))])) (fun _ k => XS.aload X38.here hx rfl (hb hby at_156) rfl rfl k) ?_
        refine go (B := T38.setTop (mkF m 159 #[.val (.int p0), .val (.int p1), .val (.int p2), .val (.int p3), .val (.int (p3 &&& (3 : Int32))), .val (.ref b1), .val (.ref b2_2), .val (.ref b2_3), .val (.ref b2_4), .val (.ref b5), .val (.int (f10 (0 : Int32) G'_31)), .val (.int (f10 (1 : Int32) G'_31)), .val (.int (f10 (2 : Int32) G'_31)), .val (.int (f10 (3 : Int32) G'_31))] [(.int (2 : Int32)), (.ref b1), (.int (f10 (2 : Int32) G'_31))])) (fun _ k => XS.iconst X38.here hx rfl (hb hby at_158) k) ?_
        obtain ⟨cl41, Ar41, hin41, hat41, up41⟩ := Arl.in o32_0 (j := (2 : Int32)) (by decide) (own_lit (n := 4) (by decide) o32_1)
        refine go (B := T38.setTop (mkF m 160 #[.val (.int p0), .val (.int p1), .val (.int p2), .val (.int p3), .val (.int (p3 &&& (3 : Int32))), .val (.ref b1), .val (.ref b2_2), .val (.ref b2_3), .val (.ref b2_4), .val (.ref b5), .val (.int (f10 (0 : Int32) G'_31)), .val (.int (f10 (1 : Int32) G'_31)), .val (.int (f10 (2 : Int32) G'_31)), .val (.int (f10 (3 : Int32) G'_31))] [(.int (List.getD (f9_l3 p1 (f9_l3 p0 (List.replicate 4 (0 : Int32)))) 2 0)), (.int (f10 (2 : Int32) G'_31))])) (fun _ k => X38.baloadBooleans hx (j := (2 : Int32)) (v := (.int (List.getD (f9_l3 p1 (f9_l3 p0 (List.replicate 4 (0 : Int32)))) 2 0))) (by rw [e38]; exact Ar41.1) (State.isArrayOf_alike hZ.alike Ar41.2.1) Ar41.2.2 hin41 hat41 (g := (mkF m 159 #[.val (.int p0), .val (.int p1), .val (.int p2), .val (.int p3), .val (.int (p3 &&& (3 : Int32))), .val (.ref b1), .val (.ref b2_2), .val (.ref b2_3), .val (.ref b2_4), .val (.ref b5), .val (.int (f10 (0 : Int32) G'_31)), .val (.int (f10 (1 : Int32) G'_31)), .val (.int (f10 (2 : Int32) G'_31)), .val (.int (f10 (3 : Int32) G'_31))] [(.int (2 : Int32)), (.ref b1), (.int (f10 (2 : Int32) G'_31))])) rfl rfl (hb hby at_159) _ k) ?_
        refine go (B := T38.setTop (mkF m 163 #[.val (.int p0), .val (.int p1), .val (.int p2), .val (.int p3), .val (.int (p3 &&& (3 : Int32))), .val (.ref b1), .val (.ref b2_2), .val (.ref b2_3), .val (.ref b2_4), .val (.ref b5), .val (.int (f10 (0 : Int32) G'_31)), .val (.int (f10 (1 : Int32) G'_31)), .val (.int (f10 (2 : Int32) G'_31)), .val (.int (f10 (3 : Int32) G'_31))] [])) (fun _ k => XS.icmpNo X38.here hx rfl (hb hby at_160) rfl (teq (show (f10 (2 : Int32) G'_31) = (List.getD (f9_l3 p1 (f9_l3 p0 (List.replicate 4 (0 : Int32)))) 2 0) from (own_w hR33 2 (by decide) rfl))).2 k) ?_
        refine go (B := T38.setTop (mkF m 165 #[.val (.int p0), .val (.int p1), .val (.int p2), .val (.int p3), .val (.int (p3 &&& (3 : Int32))), .val (.ref b1), .val (.ref b2_2), .val (.ref b2_3), .val (.ref b2_4), .val (.ref b5), .val (.int (f10 (0 : Int32) G'_31)), .val (.int (f10 (1 : Int32) G'_31)), .val (.int (f10 (2 : Int32) G'_31)), .val (.int (f10 (3 : Int32) G'_31))] [(.int (f10 (3 : Int32) G'_31))])) (fun _ k => XS.iload X38.here hx rfl (hb hby at_163) rfl k) ?_
        refine go (B := T38.setTop (mkF m 167 #[.val (.int p0), .val (.int p1), .val (.int p2), .val (.int p3), .val (.int (p3 &&& (3 : Int32))), .val (.ref b1), .val (.ref b2_2), .val (.ref b2_3), .val (.ref b2_4), .val (.ref b5), .val (.int (f10 (0 : Int32) G'_31)), .val (.int (f10 (1 : Int32) G'_31)), .val (.int (f10 (2 : Int32) G'_31)), .val (.int (f10 (3 : Int32) G'_31))] [(.ref b1), (.int (f10 (3 : Int32) G'_31))])) (fun _ k => XS.aload X38.here hx rfl (hb hby at_165) rfl rfl k) ?_
        refine go (B := T38.setTop (mkF m 168 #[.val (.int p0), .val (.int p1), .val (.int p2), .val (.int p3), .val (.int (p3 &&& (3 : Int32))), .val (.ref b1), .val (.ref b2_2), .val (.ref b2_3), .val (.ref b2_4), .val (.ref b5), .val (.int (f10 (0 : Int32) G'_31)), .val (.int (f10 (1 : Int32) G'_31)), .val (.int (f10 (2 : Int32) G'_31)), .val (.int (f10 (3 : Int32) G'_31))] [(.int (3 : Int32)), (.ref b1), (.int (f10 (3 : Int32) G'_31))])) (fun _ k => XS.iconst X38.here hx rfl (hb hby at_167) k) ?_
        obtain ⟨cl42, Ar42, hin42, hat42, up42⟩ := Arl.in o32_0 (j := (3 : Int32)) (by decide) (own_lit (n := 4) (by decide) o32_1)
        refine go (B := T38.setTop (mkF m 169 #[.val (.int p0), .val (.int p1), .val (.int p2), .val (.int p3), .val (.int (p3 &&& (3 : Int32))), .val (.ref b1), .val (.ref b2_2), .val (.ref b2_3), .val (.ref b2_4), .val (.ref b5), .val (.int (f10 (0 : Int32) G'_31)), .val (.int (f10 (1 : Int32) G'_31)), .val (.int (f10 (2 : Int32) G'_31)), .val (.int (f10 (3 : Int32) G'_31))] [(.int (List.getD (f9_l3 p1 (f9_l3 p0 (List.replicate 4 (0 : Int32)))) 3 0)), (.int (f10 (3 : Int32) G'_31))])) (fun _ k => X38.baloadBooleans hx (j := (3 : Int32)) (v := (.int (List.getD (f9_l3 p1 (f9_l3 p0 (List.replicate 4 (0 : Int32)))) 3 0))) (by rw [e38]; exact Ar42.1) (State.isArrayOf_alike hZ.alike Ar42.2.1) Ar42.2.2 hin42 hat42 (g := (mkF m 168 #[.val (.int p0), .val (.int p1), .val (.int p2), .val (.int p3), .val (.int (p3 &&& (3 : Int32))), .val (.ref b1), .val (.ref b2_2), .val (.ref b2_3), .val (.ref b2_4), .val (.ref b5), .val (.int (f10 (0 : Int32) G'_31)), .val (.int (f10 (1 : Int32) G'_31)), .val (.int (f10 (2 : Int32) G'_31)), .val (.int (f10 (3 : Int32) G'_31))] [(.int (3 : Int32)), (.ref b1), (.int (f10 (3 : Int32) G'_31))])) rfl rfl (hb hby at_168) _ k) ?_
        refine go (B := T38.setTop (mkF m 172 #[.val (.int p0), .val (.int p1), .val (.int p2), .val (.int p3), .val (.int (p3 &&& (3 : Int32))), .val (.ref b1), .val (.ref b2_2), .val (.ref b2_3), .val (.ref b2_4), .val (.ref b5), .val (.int (f10 (0 : Int32) G'_31)), .val (.int (f10 (1 : Int32) G'_31)), .val (.int (f10 (2 : Int32) G'_31)), .val (.int (f10 (3 : Int32) G'_31))] [])) (fun _ k => XS.icmpNo X38.here hx rfl (hb hby at_169) rfl (teq (show (f10 (3 : Int32) G'_31) = (List.getD (f9_l3 p1 (f9_l3 p0 (List.replicate 4 (0 : Int32)))) 3 0) from (own_w hR33 3 (by decide) rfl))).2 k) ?_
        refine go (B := T38.setTop (mkF m 173 #[.val (.int p0), .val (.int p1), .val (.int p2), .val (.int p3), .val (.int (p3 &&& (3 : Int32))), .val (.ref b1), .val (.ref b2_2), .val (.ref b2_3), .val (.ref b2_4), .val (.ref b5), .val (.int (f10 (0 : Int32) G'_31)), .val (.int (f10 (1 : Int32) G'_31)), .val (.int (f10 (2 : Int32) G'_31)), .val (.int (f10 (3 : Int32) G'_31))] [(.int (1 : Int32))])) (fun _ k => XS.iconst X38.here hx rfl (hb hby at_172) k) ?_
        refine go (B := T38.setTop (mkF m 177 #[.val (.int p0), .val (.int p1), .val (.int p2), .val (.int p3), .val (.int (p3 &&& (3 : Int32))), .val (.ref b1), .val (.ref b2_2), .val (.ref b2_3), .val (.ref b2_4), .val (.ref b5), .val (.int (f10 (0 : Int32) G'_31)), .val (.int (f10 (1 : Int32) G'_31)), .val (.int (f10 (2 : Int32) G'_31)), .val (.int (f10 (3 : Int32) G'_31))] [(.int (1 : Int32))])) (fun _ k => XS.goto X38.here hx rfl (pc0 := 173) (pc' := 177) rfl (hb hby at_173) (by decide) (by decide) k) ?_
        have r43 : (f0 p3) = (1 : Int32) := by unfold f0; rw [if_neg hc8, if_neg hc21, if_pos hc34]
        exact end_nar X38 hx Bd.notSynchronized (t := .boolean) Bd.returns (by simp) (hb hby at_177) hF e38 (by decide) (by decide) ⟨(congrArg (fun z => some (Value.int z)) (r43.symm.trans (own_law p3))), N38⟩
      · refine go (B := T32.setTop (mkF m 88 #[.val (.int p0), .val (.int p1), .val (.int p2), .val (.int p3), .val (.int (p3 &&& (3 : Int32))), .val (.ref b1), .val (.ref b2_2), .val (.ref b2_3), .val (.ref b2_4), .val (.ref b5), .unset, .unset, .unset, .unset] [])) (fun _ k => XS.icmpNo X32.here hx rfl (hb hby at_85) rfl (flt hc34).1 k) ?_
        refine go (B := T32.setTop (mkF m 90 #[.val (.int p0), .val (.int p1), .val (.int p2), .val (.int p3), .val (.int (p3 &&& (3 : Int32))), .val (.ref b1), .val (.ref b2_2), .val (.ref b2_3), .val (.ref b2_4), .val (.ref b5), .unset, .unset, .unset, .unset] [(.ref b5)])) (fun _ k => XS.aload X32.here hx rfl (hb hby at_88) rfl rfl k) ?_
        refine go (B := T32.setTop (mkF m 91 #[.val (.int p0), .val (.int p1), .val (.int p2), .val (.int p3), .val (.int (p3 &&& (3 : Int32))), .val (.ref b1), .val (.ref b2_2), .val (.ref b2_3), .val (.ref b2_4), .val (.ref b5), .unset, .unset, .unset, .unset] [(.int p2), (.ref b5)])) (fun _ k => XS.iloadN X32.here hx rfl (hb hby at_90) rfl k) ?_
        refine go (B := T32.setTop (mkF m 92 #[.val (.int p0), .val (.int p1), .val (.int p2), .val (.int p3), .val (.int (p3 &&& (3 : Int32))), .val (.ref b1), .val (.ref b2_2), .val (.ref b2_3), .val (.ref b2_4), .val (.ref b5), .unset, .unset, .unset, .unset] [(.int (3 : Int32)), (.int p2), (.ref b5)])) (fun _ k => XS.iconst X32.here hx rfl (hb hby at_91) k) ?_
        refine go (B := T32.setTop (mkF m 93 #[.val (.int p0), .val (.int p1), .val (.int p2), .val (.int p3), .val (.int (p3 &&& (3 : Int32))), .val (.ref b1), .val (.ref b2_2), .val (.ref b2_3), .val (.ref b2_4), .val (.ref b5), .unset, .unset, .unset, .unset] [(.int (p2 &&& (3 : Int32))), (.ref b5)])) (fun _ k => XS.iand X32.here hx rfl (hb hby at_92) rfl k) ?_
        refine go (B := T32.setTop (mkF m 95 #[.val (.int p0), .val (.int p1), .val (.int p2), .val (.int p3), .val (.int (p3 &&& (3 : Int32))), .val (.ref b1), .val (.ref b2_2), .val (.ref b2_3), .val (.ref b2_4), .val (.ref b5), .unset, .unset, .unset, .unset] [(.ref b2_4), (.int (p2 &&& (3 : Int32))), (.ref b5)])) (fun _ k => XS.aload X32.here hx rfl (hb hby at_93) rfl rfl k) ?_
        obtain ⟨cq44, kq44, q44a, q44b, q44c⟩ := isOf hZ rfl E_b5_32
        obtain ⟨_, _, ⟨T44, L44, k44, n44⟩, -, X44, ⟨Lc44, hQ44, l44, y44, z44⟩, st44⟩ := X32.virtualBack hx (y := (⟨"com/example/constrained_flow/constrainedflow/planner/search/Sweep$Groups", "take", "(I[I)V"⟩ : MethodName)) (z := (⟨"com/example/constrained_flow/constrainedflow/planner/search/Sweep$Groups", "take", "(I[I)V"⟩ : MethodName)) hown (mvT hZ (hw _ (List.mem_of_getElem? (i := 34) rfl))) (mvT hZ (hw _ (List.mem_of_getElem? (i := 35) rfl))) (notFace_of_selects (args := #[]) (mvT hZ (hw _ (List.mem_of_getElem? (i := 37) rfl)))) (mvT hZ (hw _ (List.mem_of_getElem? (i := 37) rfl))) (mvT hZ (hw _ (List.mem_of_getElem? (i := 36) rfl))) (by decide) (backOf (W := 0) (rm7 l Z aw hw [] b5 (p2 &&& (3 : Int32)) b2_4 b2_6 b4_6 b6_6 b8_6 (((0 : Int32) + (1 : Int32)) + (1 : Int32)) N'_31 V'_31 G'_31 S'_31 I'_31 C'_31 (f1_l3 p2) T32.heap n0 Z32 F_sizes_b5_32 F_seenIn_b5_32 F_counted_b5_32 F_groupOf_b5_32 F_counts_b5_32 F_numbered_b5_32 F_live_b5_32 E_b5_32 W_b8_6_32 o31_9 W_b2_6_32 o31_11 W_b4_6_32 o31_13 W_b6_6_32 o31_15 W_b2_4_32 (own_ch p2).2 ne_b5_b8_6 ne_b5_b2_6 ne_b5_b4_6 ne_b5_b6_6 (Ne.symm ne_b2_4_b5) (Ne.symm o6_6) (Ne.symm o6_8) (Ne.symm o6_9) (Ne.symm ne_b2_4_b8_6) o6_4 o6_5 (Ne.symm ne_b2_4_b2_6) o6_7 (Ne.symm ne_b2_4_b4_6) (Ne.symm ne_b2_4_b6_6) o31_16 o31_17 (own_nd3 _) g_b5 g_b8_6 g_b2_6 g_b4_6 g_b6_6 (own_ch p2).1 (by have := hM33; omega) (by decide)) hZ (hw _ (List.mem_of_getElem? (i := 38) rfl)) (hw _ (List.mem_of_getElem? (i := 15) rfl)) (by decide) (by decide)) q44a q44c (g := (mkF m 95 #[.val (.int p0), .val (.int p1), .val (.int p2), .val (.int p3), .val (.int (p3 &&& (3 : Int32))), .val (.ref b1), .val (.ref b2_2), .val (.ref b2_3), .val (.ref b2_4), .val (.ref b5), .unset, .unset, .unset, .unset] [(.ref b2_4), (.int (p2 &&& (3 : Int32))), (.ref b5)])) rfl (by rw [hml]; rfl) (Steps.refl _) (argsL := [(.int (p2 &&& (3 : Int32))), (.ref b2_4)]) (rest := []) (lenOf pd_7 rfl) rfl (by show 2 * 0 + _ ≤ _; exact Nat.le_of_eq rfl) (hb hby at_95) (fun _ _ => ⟨rfl, rfl, (by decide : 9 + 0 ≤ _), (by decide : 71 + 0 ≤ _)⟩)
        dsimp only [Pt.U, Pt.locs, Pt.cells, Pt.slots] at X44 l44 y44 z44 st44 hQ44
        subst l44 y44 z44
        obtain ⟨G'_44, S'_44, I'_44, C'_44, V'_44, N'_44, rfl, N44q, Kc44, o44_0, o44_1, o44_2, o44_3, o44_4, o44_5, o44_6, o44_7, o44_8, o44_9, o44_10, o44_11, o44_12, o44_13, o44_14, o44_15, o44_16, o44_17, o44_18, o44_19⟩ := hQ44
        have W_b2_2_44 := W_b2_2_32.keep Kc44 (ninS ne_b2_2_b5 (ninS ne_b2_2_b8_6 (ninS ne_b2_2_b2_6 (ninS ne_b2_2_b4_6 (ninS ne_b2_2_b6_6 nin0)))))
        have W_b2_3_44 := W_b2_3_32.keep Kc44 (ninS ne_b2_3_b5 (ninS ne_b2_3_b8_6 (ninS ne_b2_3_b2_6 (ninS ne_b2_3_b4_6 (ninS ne_b2_3_b6_6 nin0)))))
        have W_b2_4_44 := W_b2_4_32.keep Kc44 (ninS ne_b2_4_b5 (ninS ne_b2_4_b8_6 (ninS ne_b2_4_b2_6 (ninS ne_b2_4_b4_6 (ninS ne_b2_4_b6_6 nin0)))))
        have E_b5_44 := E_b5_32.keep Kc44
        have W_b1_44 := o32_0.keep Kc44 (ninS ne_b1_b5 (ninS ne_b1_b8_6 (ninS ne_b1_b2_6 (ninS ne_b1_b4_6 (ninS ne_b1_b6_6 nin0)))))
        have N44 := Fr.app N32 N44q
        have Z44 := Nat.le_trans Z32 Kc44.1
        refine go (B := T44.setTop (mkF m 98 #[.val (.int p0), .val (.int p1), .val (.int p2), .val (.int p3), .val (.int (p3 &&& (3 : Int32))), .val (.ref b1), .val (.ref b2_2), .val (.ref b2_3), .val (.ref b2_4), .val (.ref b5), .unset, .unset, .unset, .unset] [])) (fun _ k => st44.trans k) ?_
        refine go (B := T44.setTop (mkF m 100 #[.val (.int p0), .val (.int p1), .val (.int p2), .val (.int p3), .val (.int (p3 &&& (3 : Int32))), .val (.ref b1), .val (.ref b2_2), .val (.ref b2_3), .val (.ref b2_4), .val (.ref b5), .unset, .unset, .unset, .unset] [(.ref b1)])) (fun _ k => XS.aload X44.here hx rfl (hb hby at_98) rfl rfl k) ?_
        refine go (B := T44.setTop (mkF m 101 #[.val (.int p0), .val (.int p1), .val (.int p2), .val (.int p3), .val (.int (p3 &&& (3 : Int32))), .val (.ref b1), .val (.ref b2_2), .val (.ref b2_3), .val (.ref b2_4), .val (.ref b5), .unset, .unset, .unset, .unset] [(.int p2), (.ref b1)])) (fun _ k => XS.iloadN X44.here hx rfl (hb hby at_100) rfl k) ?_
        obtain ⟨_, _, ⟨T45, L45, k45, n45⟩, -, X45, ⟨Lc45, hQ45, l45, y45, z45⟩, st45⟩ := Jvm.LawKit.callS X44 hx (y := (⟨"com/example/constrained_flow/constrainedflow/planner/search/GroupsWaitsPinLaw", "apply", "([ZI)V"⟩ : MethodName)) hown (mvT hZ (hw _ (List.mem_of_getElem? (i := 45) rfl))) (mvT hZ (hw _ (List.mem_of_getElem? (i := 46) rfl))) (mvT hZ (hw _ (List.mem_of_getElem? (i := 3) rfl))) (mvT hZ (hw _ (List.mem_of_getElem? (i := 47) rfl))) (by decide) (backOf (W := 0) (rm9 l Z aw hw [] b1 p2 (f9_l3 p1 (f9_l3 p0 (List.replicate 4 (0 : Int32)))) T44.heap n0 Z44 W_b1_44 o32_1 g_b1) hZ (hw _ (List.mem_of_getElem? (i := 47) rfl)) (hw _ (List.mem_of_getElem? (i := 3) rfl)) (by decide) (by decide)) (g := (mkF m 101 #[.val (.int p0), .val (.int p1), .val (.int p2), .val (.int p3), .val (.int (p3 &&& (3 : Int32))), .val (.ref b1), .val (.ref b2_2), .val (.ref b2_3), .val (.ref b2_4), .val (.ref b5), .unset, .unset, .unset, .unset] [(.int p2), (.ref b1)])) rfl (by rw [hml]; rfl) (argsL := [(.ref b1), (.int p2)]) (rest := []) (lenOf pd_8 rfl) rfl (by show 2 * 0 + _ ≤ _; exact Nat.le_of_eq rfl) (hb hby at_101) (fun _ _ => ⟨rfl, rfl, (by decide : 9 + 0 ≤ _), (by decide : 71 + 0 ≤ _)⟩)
        dsimp only [Pt.U, Pt.locs, Pt.cells, Pt.slots] at X45 l45 y45 z45 st45 hQ45
        subst l45 y45 z45
        obtain ⟨rfl, N45q, Kc45, o45_0, o45_1⟩ := hQ45
        have W_b2_2_45 := W_b2_2_44.keep Kc45 (ninS (Ne.symm ne_b1_b2_2) nin0)
        have W_b2_3_45 := W_b2_3_44.keep Kc45 (ninS (Ne.symm ne_b1_b2_3) nin0)
        have W_b2_4_45 := W_b2_4_44.keep Kc45 (ninS (Ne.symm ne_b1_b2_4) nin0)
        have E_b5_45 := o44_0.keep Kc45
        have F_sizes_b5_45 := o44_1.keep Kc45 (ninS (Ne.symm ne_b1_b5) nin0)
        have F_seenIn_b5_45 := o44_2.keep Kc45 (ninS (Ne.symm ne_b1_b5) nin0)
        have F_counted_b5_45 := o44_3.keep Kc45 (ninS (Ne.symm ne_b1_b5) nin0)
        have F_groupOf_b5_45 := o44_4.keep Kc45 (ninS (Ne.symm ne_b1_b5) nin0)
        have F_counts_b5_45 := o44_5.keep Kc45 (ninS (Ne.symm ne_b1_b5) nin0)
        have F_numbered_b5_45 := o44_6.keep Kc45 (ninS (Ne.symm ne_b1_b5) nin0)
        have F_live_b5_45 := o44_7.keep Kc45 (ninS (Ne.symm ne_b1_b5) nin0)
        have W_b8_6_45 := o44_8.keep Kc45 (ninS (Ne.symm ne_b1_b8_6) nin0)
        have W_b2_6_45 := o44_10.keep Kc45 (ninS (Ne.symm ne_b1_b2_6) nin0)
        have W_b4_6_45 := o44_12.keep Kc45 (ninS (Ne.symm ne_b1_b4_6) nin0)
        have W_b6_6_45 := o44_14.keep Kc45 (ninS (Ne.symm ne_b1_b6_6) nin0)
        have N45 := Fr.app N44 N45q
        have Z45 := Nat.le_trans Z44 Kc45.1
        refine go (B := T45.setTop (mkF m 104 #[.val (.int p0), .val (.int p1), .val (.int p2), .val (.int p3), .val (.int (p3 &&& (3 : Int32))), .val (.ref b1), .val (.ref b2_2), .val (.ref b2_3), .val (.ref b2_4), .val (.ref b5), .unset, .unset, .unset, .unset] [])) (fun _ k => st45 _ k) ?_
        have hR46 : own_R (f9_l3 p2 (f9_l3 p1 (f9_l3 p0 (List.replicate 4 (0 : Int32))))) G'_44 := own_RG hR33 o44_19
        have hM46 : (N'_44).toInt ≤ 6 := by have := hM33; have := o44_18; omega
        refine go (B := T45.setTop (mkF m 106 #[.val (.int p0), .val (.int p1), .val (.int p2), .val (.int p3), .val (.int (p3 &&& (3 : Int32))), .val (.ref b1), .val (.ref b2_2), .val (.ref b2_3), .val (.ref b2_4), .val (.ref b5), .unset, .unset, .unset, .unset] [(.ref b5)])) (fun _ k => XS.aload X45.here hx rfl (hb hby at_104) rfl rfl k) ?_
        refine go (B := T45.setTop (mkF m 107 #[.val (.int p0), .val (.int p1), .val (.int p2), .val (.int p3), .val (.int (p3 &&& (3 : Int32))), .val (.ref b1), .val (.ref b2_2), .val (.ref b2_3), .val (.ref b2_4), .val (.ref b5), .unset, .unset, .unset, .unset] [(.int (0 : Int32)), (.ref b5)])) (fun _ k => XS.iconst X45.here hx rfl (hb hby at_106) k) ?_
        obtain ⟨cq47, kq47, q47a, q47b, q47c⟩ := isOf hZ rfl E_b5_45
        obtain ⟨_, _, ⟨T47, L47, k47, n47⟩, -, X47, ⟨Lc47, hQ47, l47, y47, z47⟩, st47⟩ := X45.virtualBack hx (y := (⟨"com/example/constrained_flow/constrainedflow/planner/search/Sweep$Groups", "waits", "(I)Z"⟩ : MethodName)) (z := (⟨"com/example/constrained_flow/constrainedflow/planner/search/Sweep$Groups", "waits", "(I)Z"⟩ : MethodName)) hown (mvT hZ (hw _ (List.mem_of_getElem? (i := 48) rfl))) (mvT hZ (hw _ (List.mem_of_getElem? (i := 49) rfl))) (notFace_of_selects (args := #[]) (mvT hZ (hw _ (List.mem_of_getElem? (i := 51) rfl)))) (mvT hZ (hw _ (List.mem_of_getElem? (i := 51) rfl))) (mvT hZ (hw _ (List.mem_of_getElem? (i := 50) rfl))) (by decide) (backOf (W := 0) (rm10 l Z aw hw [] b5 (0 : Int32) b2_6 b4_6 b6_6 b8_6 ((((0 : Int32) + (1 : Int32)) + (1 : Int32)) + (1 : Int32)) N'_44 V'_44 G'_44 T45.heap n0 Z45 F_sizes_b5_45 F_seenIn_b5_45 F_counted_b5_45 F_groupOf_b5_45 F_counts_b5_45 F_numbered_b5_45 F_live_b5_45 E_b5_45 W_b8_6_45 o44_9 (show own_nd (0 : Int32) from by unfold own_nd; decide)) hZ (hw _ (List.mem_of_getElem? (i := 52) rfl)) (hw _ (List.mem_of_getElem? (i := 15) rfl)) (by decide) (by decide)) q47a q47c (g := (mkF m 107 #[.val (.int p0), .val (.int p1), .val (.int p2), .val (.int p3), .val (.int (p3 &&& (3 : Int32))), .val (.ref b1), .val (.ref b2_2), .val (.ref b2_3), .val (.ref b2_4), .val (.ref b5), .unset, .unset, .unset, .unset] [(.int (0 : Int32)), (.ref b5)])) rfl (by rw [hml]; rfl) (Steps.refl _) (argsL := [(.int (0 : Int32))]) (rest := []) (lenOf pd_6 rfl) rfl (by show 2 * 0 + _ ≤ _; exact Nat.le_of_eq rfl) (hb hby at_107) (fun _ _ => ⟨rfl, rfl, (by decide : 9 + 0 ≤ _), (by decide : 71 + 0 ≤ _)⟩)
        dsimp only [Pt.U, Pt.locs, Pt.cells, Pt.slots] at X47 l47 y47 z47 st47 hQ47
        subst l47 y47 z47
        obtain ⟨rfl, rfl, e47⟩ := hQ47
        have N47 := Fr.app N45 (Fr.nil n0)
        refine go (B := T47.setTop (mkF m 110 #[.val (.int p0), .val (.int p1), .val (.int p2), .val (.int p3), .val (.int (p3 &&& (3 : Int32))), .val (.ref b1), .val (.ref b2_2), .val (.ref b2_3), .val (.ref b2_4), .val (.ref b5), .unset, .unset, .unset, .unset] [(.int (f10 (0 : Int32) G'_44))])) (fun _ k => st47.trans k) ?_
        refine go (B := T47.setTop (mkF m 112 #[.val (.int p0), .val (.int p1), .val (.int p2), .val (.int p3), .val (.int (p3 &&& (3 : Int32))), .val (.ref b1), .val (.ref b2_2), .val (.ref b2_3), .val (.ref b2_4), .val (.ref b5), .val (.int (f10 (0 : Int32) G'_44)), .unset, .unset, .unset] [])) (fun _ k => XS.istore X47.here hx rfl (hb hby at_110) rfl (l' := #[.val (.int p0), .val (.int p1), .val (.int p2), .val (.int p3), .val (.int (p3 &&& (3 : Int32))), .val (.ref b1), .val (.ref b2_2), .val (.ref b2_3), .val (.ref b2_4), .val (.ref b5), .val (.int (f10 (0 : Int32) G'_44)), .unset, .unset, .unset]) rfl k) ?_
        refine go (B := T47.setTop (mkF m 114 #[.val (.int p0), .val (.int p1), .val (.int p2), .val (.int p3), .val (.int (p3 &&& (3 : Int32))), .val (.ref b1), .val (.ref b2_2), .val (.ref b2_3), .val (.ref b2_4), .val (.ref b5), .val (.int (f10 (0 : Int32) G'_44)), .unset, .unset, .unset] [(.ref b5)])) (fun _ k => XS.aload X47.here hx rfl (hb hby at_112) rfl rfl k) ?_
        refine go (B := T47.setTop (mkF m 115 #[.val (.int p0), .val (.int p1), .val (.int p2), .val (.int p3), .val (.int (p3 &&& (3 : Int32))), .val (.ref b1), .val (.ref b2_2), .val (.ref b2_3), .val (.ref b2_4), .val (.ref b5), .val (.int (f10 (0 : Int32) G'_44)), .unset, .unset, .unset] [(.int (1 : Int32)), (.ref b5)])) (fun _ k => XS.iconst X47.here hx rfl (hb hby at_114) k) ?_
        obtain ⟨cq48, kq48, q48a, q48b, q48c⟩ := isOf hZ e47 E_b5_45
        obtain ⟨_, _, ⟨T48, L48, k48, n48⟩, -, X48, ⟨Lc48, hQ48, l48, y48, z48⟩, st48⟩ := X47.virtualBack hx (y := (⟨"com/example/constrained_flow/constrainedflow/planner/search/Sweep$Groups", "waits", "(I)Z"⟩ : MethodName)) (z := (⟨"com/example/constrained_flow/constrainedflow/planner/search/Sweep$Groups", "waits", "(I)Z"⟩ : MethodName)) hown (mvT hZ (hw _ (List.mem_of_getElem? (i := 48) rfl))) (mvT hZ (hw _ (List.mem_of_getElem? (i := 49) rfl))) (notFace_of_selects (args := #[]) (mvT hZ (hw _ (List.mem_of_getElem? (i := 51) rfl)))) (mvT hZ (hw _ (List.mem_of_getElem? (i := 51) rfl))) (mvT hZ (hw _ (List.mem_of_getElem? (i := 50) rfl))) (by decide) (backOf (W := 0) (rm10 l Z aw hw [] b5 (1 : Int32) b2_6 b4_6 b6_6 b8_6 ((((0 : Int32) + (1 : Int32)) + (1 : Int32)) + (1 : Int32)) N'_44 V'_44 G'_44 T45.heap n0 Z45 F_sizes_b5_45 F_seenIn_b5_45 F_counted_b5_45 F_groupOf_b5_45 F_counts_b5_45 F_numbered_b5_45 F_live_b5_45 E_b5_45 W_b8_6_45 o44_9 (show own_nd (1 : Int32) from by unfold own_nd; decide)) hZ (hw _ (List.mem_of_getElem? (i := 52) rfl)) (hw _ (List.mem_of_getElem? (i := 15) rfl)) (by decide) (by decide)) q48a q48c (g := (mkF m 115 #[.val (.int p0), .val (.int p1), .val (.int p2), .val (.int p3), .val (.int (p3 &&& (3 : Int32))), .val (.ref b1), .val (.ref b2_2), .val (.ref b2_3), .val (.ref b2_4), .val (.ref b5), .val (.int (f10 (0 : Int32) G'_44)), .unset, .unset, .unset] [(.int (1 : Int32)), (.ref b5)])) rfl (by rw [hml]; rfl) (Steps.refl _) (argsL := [(.int (1 : Int32))]) (rest := []) (lenOf pd_6 rfl) rfl (by show 2 * 0 + _ ≤ _; exact Nat.le_of_eq rfl) (hb hby at_115) (fun _ _ => ⟨rfl, e47, (by decide : 9 + 0 ≤ _), (by decide : 71 + 0 ≤ _)⟩)
        dsimp only [Pt.U, Pt.locs, Pt.cells, Pt.slots] at X48 l48 y48 z48 st48 hQ48
        subst l48 y48 z48
        obtain ⟨rfl, rfl, e48⟩ := hQ48
        have N48 := Fr.app N47 (Fr.nil n0)
        refine go (B := T48.setTop (mkF m 118 #[.val (.int p0), .val (.int p1), .val (.int p2), .val (.int p3), .val (.int (p3 &&& (3 : Int32))), .val (.ref b1), .val (.ref b2_2), .val (.ref b2_3), .val (.ref b2_4), .val (.ref b5), .val (.int (f10 (0 : Int32) G'_44)), .unset, .unset, .unset] [(.int (f10 (1 : Int32) G'_44))])) (fun _ k => st48.trans k) ?_
        refine go (B := T48.setTop (mkF m 120 #[.val (.int p0), .val (.int p1), .val (.int p2), .val (.int p3), .val (.int (p3 &&& (3 : Int32))), .val (.ref b1), .val (.ref b2_2), .val (.ref b2_3), .val (.ref b2_4), .val (.ref b5), .val (.int (f10 (0 : Int32) G'_44)), .val (.int (f10 (1 : Int32) G'_44)), .unset, .unset] [])) (fun _ k => XS.istore X48.here hx rfl (hb hby at_118) rfl (l' := #[.val (.int p0), .val (.int p1), .val (.int p2), .val (.int p3), .val (.int (p3 &&& (3 : Int32))), .val (.ref b1), .val (.ref b2_2), .val (.ref b2_3), .val (.ref b2_4), .val (.ref b5), .val (.int (f10 (0 : Int32) G'_44)), .val (.int (f10 (1 : Int32) G'_44)), .unset, .unset]) rfl k) ?_
        refine go (B := T48.setTop (mkF m 122 #[.val (.int p0), .val (.int p1), .val (.int p2), .val (.int p3), .val (.int (p3 &&& (3 : Int32))), .val (.ref b1), .val (.ref b2_2), .val (.ref b2_3), .val (.ref b2_4), .val (.ref b5), .val (.int (f10 (0 : Int32) G'_44)), .val (.int (f10 (1 : Int32) G'_44)), .unset, .unset] [(.ref b5)])) (fun _ k => XS.aload X48.here hx rfl (hb hby at_120) rfl rfl k) ?_
        refine go (B := T48.setTop (mkF m 123 #[.val (.int p0), .val (.int p1), .val (.int p2), .val (.int p3), .val (.int (p3 &&& (3 : Int32))), .val (.ref b1), .val (.ref b2_2), .val (.ref b2_3), .val (.ref b2_4), .val (.ref b5), .val (.int (f10 (0 : Int32) G'_44)), .val (.int (f10 (1 : Int32) G'_44)), .unset, .unset] [(.int (2 : Int32)), (.ref b5)])) (fun _ k => XS.iconst X48.here hx rfl (hb hby at_122) k) ?_
        obtain ⟨cq49, kq49, q49a, q49b, q49c⟩ := isOf hZ e48 E_b5_45
        obtain ⟨_, _, ⟨T49, L49, k49, n49⟩, -, X49, ⟨Lc49, hQ49, l49, y49, z49⟩, st49⟩ := X48.virtualBack hx (y := (⟨"com/example/constrained_flow/constrainedflow/planner/search/Sweep$Groups", "waits", "(I)Z"⟩ : MethodName)) (z := (⟨"com/example/constrained_flow/constrainedflow/planner/search/Sweep$Groups", "waits", "(I)Z"⟩ : MethodName)) hown (mvT hZ (hw _ (List.mem_of_getElem? (i := 48) rfl))) (mvT hZ (hw _ (List.mem_of_getElem? (i := 49) rfl))) (notFace_of_selects (args := #[]) (mvT hZ (hw _ (List.mem_of_getElem? (i := 51) rfl)))) (mvT hZ (hw _ (List.mem_of_getElem? (i := 51) rfl))) (mvT hZ (hw _ (List.mem_of_getElem? (i := 50) rfl))) (by decide) (backOf (W := 0) (rm10 l Z aw hw [] b5 (2 : Int32) b2_6 b4_6 b6_6 b8_6 ((((0 : Int32) + (1 : Int32)) + (1 : Int32)) + (1 : Int32)) N'_44 V'_44 G'_44 T45.heap n0 Z45 F_sizes_b5_45 F_seenIn_b5_45 F_counted_b5_45 F_groupOf_b5_45 F_counts_b5_45 F_numbered_b5_45 F_live_b5_45 E_b5_45 W_b8_6_45 o44_9 (show own_nd (2 : Int32) from by unfold own_nd; decide)) hZ (hw _ (List.mem_of_getElem? (i := 52) rfl)) (hw _ (List.mem_of_getElem? (i := 15) rfl)) (by decide) (by decide)) q49a q49c (g := (mkF m 123 #[.val (.int p0), .val (.int p1), .val (.int p2), .val (.int p3), .val (.int (p3 &&& (3 : Int32))), .val (.ref b1), .val (.ref b2_2), .val (.ref b2_3), .val (.ref b2_4), .val (.ref b5), .val (.int (f10 (0 : Int32) G'_44)), .val (.int (f10 (1 : Int32) G'_44)), .unset, .unset] [(.int (2 : Int32)), (.ref b5)])) rfl (by rw [hml]; rfl) (Steps.refl _) (argsL := [(.int (2 : Int32))]) (rest := []) (lenOf pd_6 rfl) rfl (by show 2 * 0 + _ ≤ _; exact Nat.le_of_eq rfl) (hb hby at_123) (fun _ _ => ⟨rfl, e48, (by decide : 9 + 0 ≤ _), (by decide : 71 + 0 ≤ _)⟩)
        dsimp only [Pt.U, Pt.locs, Pt.cells, Pt.slots] at X49 l49 y49 z49 st49 hQ49
        subst l49 y49 z49
        obtain ⟨rfl, rfl, e49⟩ := hQ49
        have N49 := Fr.app N48 (Fr.nil n0)
        refine go (B := T49.setTop (mkF m 126 #[.val (.int p0), .val (.int p1), .val (.int p2), .val (.int p3), .val (.int (p3 &&& (3 : Int32))), .val (.ref b1), .val (.ref b2_2), .val (.ref b2_3), .val (.ref b2_4), .val (.ref b5), .val (.int (f10 (0 : Int32) G'_44)), .val (.int (f10 (1 : Int32) G'_44)), .unset, .unset] [(.int (f10 (2 : Int32) G'_44))])) (fun _ k => st49.trans k) ?_
        refine go (B := T49.setTop (mkF m 128 #[.val (.int p0), .val (.int p1), .val (.int p2), .val (.int p3), .val (.int (p3 &&& (3 : Int32))), .val (.ref b1), .val (.ref b2_2), .val (.ref b2_3), .val (.ref b2_4), .val (.ref b5), .val (.int (f10 (0 : Int32) G'_44)), .val (.int (f10 (1 : Int32) G'_44)), .val (.int (f10 (2 : Int32) G'_44)), .unset] [])) (fun _ k => XS.istore X49.here hx rfl (hb hby at_126) rfl (l' := #[.val (.int p0), .val (.int p1), .val (.int p2), .val (.int p3), .val (.int (p3 &&& (3 : Int32))), .val (.ref b1), .val (.ref b2_2), .val (.ref b2_3), .val (.ref b2_4), .val (.ref b5), .val (.int (f10 (0 : Int32) G'_44)), .val (.int (f10 (1 : Int32) G'_44)), .val (.int (f10 (2 : Int32) G'_44)), .unset]) rfl k) ?_
        refine go (B := T49.setTop (mkF m 130 #[.val (.int p0), .val (.int p1), .val (.int p2), .val (.int p3), .val (.int (p3 &&& (3 : Int32))), .val (.ref b1), .val (.ref b2_2), .val (.ref b2_3), .val (.ref b2_4), .val (.ref b5), .val (.int (f10 (0 : Int32) G'_44)), .val (.int (f10 (1 : Int32) G'_44)), .val (.int (f10 (2 : Int32) G'_44)), .unset] [(.ref b5)])) (fun _ k => XS.aload X49.here hx rfl (hb hby at_128) rfl rfl k) ?_
        refine go (B := T49.setTop (mkF m 131 #[.val (.int p0), .val (.int p1), .val (.int p2), .val (.int p3), .val (.int (p3 &&& (3 : Int32))), .val (.ref b1), .val (.ref b2_2), .val (.ref b2_3), .val (.ref b2_4), .val (.ref b5), .val (.int (f10 (0 : Int32) G'_44)), .val (.int (f10 (1 : Int32) G'_44)), .val (.int (f10 (2 : Int32) G'_44)), .unset] [(.int (3 : Int32)), (.ref b5)])) (fun _ k => XS.iconst X49.here hx rfl (hb hby at_130) k) ?_
        obtain ⟨cq50, kq50, q50a, q50b, q50c⟩ := isOf hZ e49 E_b5_45
        obtain ⟨_, _, ⟨T50, L50, k50, n50⟩, -, X50, ⟨Lc50, hQ50, l50, y50, z50⟩, st50⟩ := X49.virtualBack hx (y := (⟨"com/example/constrained_flow/constrainedflow/planner/search/Sweep$Groups", "waits", "(I)Z"⟩ : MethodName)) (z := (⟨"com/example/constrained_flow/constrainedflow/planner/search/Sweep$Groups", "waits", "(I)Z"⟩ : MethodName)) hown (mvT hZ (hw _ (List.mem_of_getElem? (i := 48) rfl))) (mvT hZ (hw _ (List.mem_of_getElem? (i := 49) rfl))) (notFace_of_selects (args := #[]) (mvT hZ (hw _ (List.mem_of_getElem? (i := 51) rfl)))) (mvT hZ (hw _ (List.mem_of_getElem? (i := 51) rfl))) (mvT hZ (hw _ (List.mem_of_getElem? (i := 50) rfl))) (by decide) (backOf (W := 0) (rm10 l Z aw hw [] b5 (3 : Int32) b2_6 b4_6 b6_6 b8_6 ((((0 : Int32) + (1 : Int32)) + (1 : Int32)) + (1 : Int32)) N'_44 V'_44 G'_44 T45.heap n0 Z45 F_sizes_b5_45 F_seenIn_b5_45 F_counted_b5_45 F_groupOf_b5_45 F_counts_b5_45 F_numbered_b5_45 F_live_b5_45 E_b5_45 W_b8_6_45 o44_9 (show own_nd (3 : Int32) from by unfold own_nd; decide)) hZ (hw _ (List.mem_of_getElem? (i := 52) rfl)) (hw _ (List.mem_of_getElem? (i := 15) rfl)) (by decide) (by decide)) q50a q50c (g := (mkF m 131 #[.val (.int p0), .val (.int p1), .val (.int p2), .val (.int p3), .val (.int (p3 &&& (3 : Int32))), .val (.ref b1), .val (.ref b2_2), .val (.ref b2_3), .val (.ref b2_4), .val (.ref b5), .val (.int (f10 (0 : Int32) G'_44)), .val (.int (f10 (1 : Int32) G'_44)), .val (.int (f10 (2 : Int32) G'_44)), .unset] [(.int (3 : Int32)), (.ref b5)])) rfl (by rw [hml]; rfl) (Steps.refl _) (argsL := [(.int (3 : Int32))]) (rest := []) (lenOf pd_6 rfl) rfl (by show 2 * 0 + _ ≤ _; exact Nat.le_of_eq rfl) (hb hby at_131) (fun _ _ => ⟨rfl, e49, (by decide : 9 + 0 ≤ _), (by decide : 71 + 0 ≤ _)⟩)
        dsimp only [Pt.U, Pt.locs, Pt.cells, Pt.slots] at X50 l50 y50 z50 st50 hQ50
        subst l50 y50 z50
        obtain ⟨rfl, rfl, e50⟩ := hQ50
        have N50 := Fr.app N49 (Fr.nil n0)
        refine go (B := T50.setTop (mkF m 134 #[.val (.int p0), .val (.int p1), .val (.int p2), .val (.int p3), .val (.int (p3 &&& (3 : Int32))), .val (.ref b1), .val (.ref b2_2), .val (.ref b2_3), .val (.ref b2_4), .val (.ref b5), .val (.int (f10 (0 : Int32) G'_44)), .val (.int (f10 (1 : Int32) G'_44)), .val (.int (f10 (2 : Int32) G'_44)), .unset] [(.int (f10 (3 : Int32) G'_44))])) (fun _ k => st50.trans k) ?_
        refine go (B := T50.setTop (mkF m 136 #[.val (.int p0), .val (.int p1), .val (.int p2), .val (.int p3), .val (.int (p3 &&& (3 : Int32))), .val (.ref b1), .val (.ref b2_2), .val (.ref b2_3), .val (.ref b2_4), .val (.ref b5), .val (.int (f10 (0 : Int32) G'_44)), .val (.int (f10 (1 : Int32) G'_44)), .val (.int (f10 (2 : Int32) G'_44)), .val (.int (f10 (3 : Int32) G'_44))] [])) (fun _ k => XS.istore X50.here hx rfl (hb hby at_134) rfl (l' := #[.val (.int p0), .val (.int p1), .val (.int p2), .val (.int p3), .val (.int (p3 &&& (3 : Int32))), .val (.ref b1), .val (.ref b2_2), .val (.ref b2_3), .val (.ref b2_4), .val (.ref b5), .val (.int (f10 (0 : Int32) G'_44)), .val (.int (f10 (1 : Int32) G'_44)), .val (.int (f10 (2 : Int32) G'_44)), .val (.int (f10 (3 : Int32) G'_44))]) rfl k) ?_
        refine go (B := T50.setTop (mkF m 138 #[.val (.int p0), .val (.int p1), .val (.int p2), .val (.int p3), .val (.int (p3 &&& (3 : Int32))), .val (.ref b1), .val (.ref b2_2), .val (.ref b2_3), .val (.ref b2_4), .val (.ref b5), .val (.int (f10 (0 : Int32) G'_44)), .val (.int (f10 (1 : Int32) G'_44)), .val (.int (f10 (2 : Int32) G'_44)), .val (.int (f10 (3 : Int32) G'_44))] [(.int (f10 (0 : Int32) G'_44))])) (fun _ k => XS.iload X50.here hx rfl (hb hby at_136) rfl k) ?_
        refine go (B := T50.setTop (mkF m 140 #[.val (.int p0), .val (.int p1), .val (.int p2), .val (.int p3), .val (.int (p3 &&& (3 : Int32))), .val (.ref b1), .val (.ref b2_2), .val (.ref b2_3), .val (.ref b2_4), .val (.ref b5), .val (.int (f10 (0 : Int32) G'_44)), .val (.int (f10 (1 : Int32) G'_44)), .val (.int (f10 (2 : Int32) G'_44)), .val (.int (f10 (3 : Int32) G'_44))] [(.ref b1), (.int (f10 (0 : Int32) G'_44))])) (fun _ k => XS.aload X50.here hx rfl (hb hby at_138) rfl rfl k) ?_
        refine go (B := T50.setTop (mkF m 141 #[.val (.int p0), .val (.int p1), .val (.int p2), .val (.int p3), .val (.int (p3 &&& (3 : Int32))), .val (.ref b1), .val (.ref b2_2), .val (.ref b2_3), .val (.ref b2_4), .val (.ref b5), .val (.int (f10 (0 : Int32) G'_44)), .val (.int (f10 (1 : Int32) G'_44)), .val (.int (f10 (2 : Int32) G'_44)), .val (.int (f10 (3 : Int32) G'_44))] [(.int (0 : Int32)), (.ref b1), (.int (f10 (0 : Int32) G'_44))])) (fun _ k => XS.iconst X50.here hx rfl (hb hby at_140) k) ?_
        obtain ⟨cl51, Ar51, hin51, hat51, up51⟩ := Arl.in o45_0 (j := (0 : Int32)) (by decide) (own_lit (n := 4) (by decide) o45_1)
        refine go (B := T50.setTop (mkF m 142 #[.val (.int p0), .val (.int p1), .val (.int p2), .val (.int p3), .val (.int (p3 &&& (3 : Int32))), .val (.ref b1), .val (.ref b2_2), .val (.ref b2_3), .val (.ref b2_4), .val (.ref b5), .val (.int (f10 (0 : Int32) G'_44)), .val (.int (f10 (1 : Int32) G'_44)), .val (.int (f10 (2 : Int32) G'_44)), .val (.int (f10 (3 : Int32) G'_44))] [(.int (List.getD (f9_l3 p2 (f9_l3 p1 (f9_l3 p0 (List.replicate 4 (0 : Int32))))) 0 0)), (.int (f10 (0 : Int32) G'_44))])) (fun _ k => X50.baloadBooleans hx (j := (0 : Int32)) (v := (.int (List.getD (f9_l3 p2 (f9_l3 p1 (f9_l3 p0 (List.replicate 4 (0 : Int32))))) 0 0))) (by rw [e50]; exact Ar51.1) (State.isArrayOf_alike hZ.alike Ar51.2.1) Ar51.2.2 hin51 hat51 (g := (mkF m 141 #[.val (.int p0), .val (.int p1), .val (.int p2), .val (.int p3), .val (.int (p3 &&& (3 : Int32))), .val (.ref b1), .val (.ref b2_2), .val (.ref b2_3), .val (.ref b2_4), .val (.ref b5), .val (.int (f10 (0 : Int32) G'_44)), .val (.int (f10 (1 : Int32) G'_44)), .val (.int (f10 (2 : Int32) G'_44)), .val (.int (f10 (3 : Int32) G'_44))] [(.int (0 : Int32)), (.ref b1), (.int (f10 (0 : Int32) G'_44))])) rfl rfl (hb hby at_141) _ k) ?_
        refine go (B := T50.setTop (mkF m 145 #[.val (.int p0), .val (.int p1), .val (.int p2), .val (.int p3), .val (.int (p3 &&& (3 : Int32))), .val (.ref b1), .val (.ref b2_2), .val (.ref b2_3), .val (.ref b2_4), .val (.ref b5), .val (.int (f10 (0 : Int32) G'_44)), .val (.int (f10 (1 : Int32) G'_44)), .val (.int (f10 (2 : Int32) G'_44)), .val (.int (f10 (3 : Int32) G'_44))] [])) (fun _ k => XS.icmpNo X50.here hx rfl (hb hby at_142) rfl (teq (show (f10 (0 : Int32) G'_44) = (List.getD (f9_l3 p2 (f9_l3 p1 (f9_l3 p0 (List.replicate 4 (0 : Int32))))) 0 0) from (own_w hR46 0 (by decide) rfl))).2 k) ?_
        refine go (B := T50.setTop (mkF m 147 #[.val (.int p0), .val (.int p1), .val (.int p2), .val (.int p3), .val (.int (p3 &&& (3 : Int32))), .val (.ref b1), .val (.ref b2_2), .val (.ref b2_3), .val (.ref b2_4), .val (.ref b5), .val (.int (f10 (0 : Int32) G'_44)), .val (.int (f10 (1 : Int32) G'_44)), .val (.int (f10 (2 : Int32) G'_44)), .val (.int (f10 (3 : Int32) G'_44))] [(.int (f10 (1 : Int32) G'_44))])) (fun _ k => XS.iload X50.here hx rfl (hb hby at_145) rfl k) ?_
        refine go (B := T50.setTop (mkF m 149 #[.val (.int p0), .val (.int p1), .val (.int p2), .val (.int p3), .val (.int (p3 &&& (3 : Int32))), .val (.ref b1), .val (.ref b2_2), .val (.ref b2_3), .val (.ref b2_4), .val (.ref b5), .val (.int (f10 (0 : Int32) G'_44)), .val (.int (f10 (1 : Int32) G'_44)), .val (.int (f10 (2 : Int32) G'_44)), .val (.int (f10 (3 : Int32) G'_44))] [(.ref b1), (.int (f10 (1 : Int32) G'_44))])) (fun _ k => XS.aload X50.here hx rfl (hb hby at_147) rfl rfl k) ?_
        refine go (B := T50.setTop (mkF m 150 #[.val (.int p0), .val (.int p1), .val (.int p2), .val (.int p3), .val (.int (p3 &&& (3 : Int32))), .val (.ref b1), .val (.ref b2_2), .val (.ref b2_3), .val (.ref b2_4), .val (.ref b5), .val (.int (f10 (0 : Int32) G'_44)), .val (.int (f10 (1 : Int32) G'_44)), .val (.int (f10 (2 : Int32) G'_44)), .val (.int (f10 (3 : Int32) G'_44))] [(.int (1 : Int32)), (.ref b1), (.int (f10 (1 : Int32) G'_44))])) (fun _ k => XS.iconst X50.here hx rfl (hb hby at_149) k) ?_
        obtain ⟨cl52, Ar52, hin52, hat52, up52⟩ := Arl.in o45_0 (j := (1 : Int32)) (by decide) (own_lit (n := 4) (by decide) o45_1)
        refine go (B := T50.setTop (mkF m 151 #[.val (.int p0), .val (.int p1), .val (.int p2), .val (.int p3), .val (.int (p3 &&& (3 : Int32))), .val (.ref b1), .val (.ref b2_2), .val (.ref b2_3), .val (.ref b2_4), .val (.ref b5), .val (.int (f10 (0 : Int32) G'_44)), .val (.int (f10 (1 : Int32) G'_44)), .val (.int (f10 (2 : Int32) G'_44)), .val (.int (f10 (3 : Int32) G'_44))] [(.int (List.getD (f9_l3 p2 (f9_l3 p1 (f9_l3 p0 (List.replicate 4 (0 : Int32))))) 1 0)), (.int (f10 (1 : Int32) G'_44))])) (fun _ k => X50.baloadBooleans hx (j := (1 : Int32)) (v := (.int (List.getD (f9_l3 p2 (f9_l3 p1 (f9_l3 p0 (List.replicate 4 (0 : Int32))))) 1 0))) (by rw [e50]; exact Ar52.1) (State.isArrayOf_alike hZ.alike Ar52.2.1) Ar52.2.2 hin52 hat52 (g := (mkF m 150 #[.val (.int p0), .val (.int p1), .val (.int p2), .val (.int p3), .val (.int (p3 &&& (3 : Int32))), .val (.ref b1), .val (.ref b2_2), .val (.ref b2_3), .val (.ref b2_4), .val (.ref b5), .val (.int (f10 (0 : Int32) G'_44)), .val (.int (f10 (1 : Int32) G'_44)), .val (.int (f10 (2 : Int32) G'_44)), .val (.int (f10 (3 : Int32) G'_44))] [(.int (1 : Int32)), (.ref b1), (.int (f10 (1 : Int32) G'_44))])) rfl rfl (hb hby at_150) _ k) ?_
        refine go (B := T50.setTop (mkF m 154 #[.val (.int p0), .val (.int p1), .val (.int p2), .val (.int p3), .val (.int (p3 &&& (3 : Int32))), .val (.ref b1), .val (.ref b2_2), .val (.ref b2_3), .val (.ref b2_4), .val (.ref b5), .val (.int (f10 (0 : Int32) G'_44)), .val (.int (f10 (1 : Int32) G'_44)), .val (.int (f10 (2 : Int32) G'_44)), .val (.int (f10 (3 : Int32) G'_44))] [])) (fun _ k => XS.icmpNo X50.here hx rfl (hb hby at_151) rfl (teq (show (f10 (1 : Int32) G'_44) = (List.getD (f9_l3 p2 (f9_l3 p1 (f9_l3 p0 (List.replicate 4 (0 : Int32))))) 1 0) from (own_w hR46 1 (by decide) rfl))).2 k) ?_
        refine go (B := T50.setTop (mkF m 156 #[.val (.int p0), .val (.int p1), .val (.int p2), .val (.int p3), .val (.int (p3 &&& (3 : Int32))), .val (.ref b1), .val (.ref b2_2), .val (.ref b2_3), .val (.ref b2_4), .val (.ref b5), .val (.int (f10 (0 : Int32) G'_44)), .val (.int (f10 (1 : Int32) G'_44)), .val (.int (f10 (2 : Int32) G'_44)), .val (.int (f10 (3 : Int32) G'_44))] [(.int (f10 (2 : Int32) G'_44))])) (fun _ k => XS.iload X50.here hx rfl (hb hby at_154) rfl k) ?_
        refine go (B := T50.setTop (mkF m 158 #[.val (.int p0), .val (.int p1), .val (.int p2), .val (.int p3), .val (.int (p3 &&& (3 : Int32))), .val (.ref b1), .val (.ref b2_2), .val (.ref b2_3), .val (.ref b2_4), .val (.ref b5), .val (.int (f10 (0 : Int32) G'_44)), .val (.int (f10 (1 : Int32) G'_44)), .val (.int (f10 (2 : Int32) G'_44)), .val (.int (f10 (3 : Int32) G'_44))] [(.ref b1), (.int (f10 (2 : Int32) G'_44))])) (fun _ k => XS.aload X50.here hx rfl (hb hby at_156) rfl rfl k) ?_
        refine go (B := T50.setTop (mkF m 159 #[.val (.int p0), .val (.int p1), .val (.int p2), .val (.int p3), .val (.int (p3 &&& (3 : Int32))), .val (.ref b1), .val (.ref b2_2), .val (.ref b2_3), .val (.ref b2_4), .val (.ref b5), .val (.int (f10 (0 : Int32) G'_44)), .val (.int (f10 (1 : Int32) G'_44)), .val (.int (f10 (2 : Int32) G'_44)), .val (.int (f10 (3 : Int32) G'_44))] [(.int (2 : Int32)), (.ref b1), (.int (f10 (2 : Int32) G'_44))])) (fun _ k => XS.iconst X50.here hx rfl (hb hby at_158) k) ?_
        obtain ⟨cl53, Ar53, hin53, hat53, up53⟩ := Arl.in o45_0 (j := (2 : Int32)) (by decide) (own_lit (n := 4) (by decide) o45_1)
        refine go (B := T50.setTop (mkF m 160 #[.val (.int p0), .val (.int p1), .val (.int p2), .val (.int p3), .val (.int (p3 &&& (3 : Int32))), .val (.ref b1), .val (.ref b2_2), .val (.ref b2_3), .val (.ref b2_4), .val (.ref b5), .val (.int (f10 (0 : Int32) G'_44)), .val (.int (f10 (1 : Int32) G'_44)), .val (.int (f10 (2 : Int32) G'_44)), .val (.int (f10 (3 : Int32) G'_44))] [(.int (List.getD (f9_l3 p2 (f9_l3 p1 (f9_l3 p0 (List.replicate 4 (0 : Int32))))) 2 0)), (.int (f10 (2 : Int32) G'_44))])) (fun _ k => X50.baloadBooleans hx (j := (2 : Int32)) (v := (.int (List.getD (f9_l3 p2 (f9_l3 p1 (f9_l3 p0 (List.replicate 4 (0 : Int32))))) 2 0))) (by rw [e50]; exact Ar53.1) (State.isArrayOf_alike hZ.alike Ar53.2.1) Ar53.2.2 hin53 hat53 (g := (mkF m 159 #[.val (.int p0), .val (.int p1), .val (.int p2), .val (.int p3), .val (.int (p3 &&& (3 : Int32))), .val (.ref b1), .val (.ref b2_2), .val (.ref b2_3), .val (.ref b2_4), .val (.ref b5), .val (.int (f10 (0 : Int32) G'_44)), .val (.int (f10 (1 : Int32) G'_44)), .val (.int (f10 (2 : Int32) G'_44)), .val (.int (f10 (3 : Int32) G'_44))] [(.int (2 : Int32)), (.ref b1), (.int (f10 (2 : Int32) G'_44))])) rfl rfl (hb hby at_159) _ k) ?_
        refine go (B := T50.setTop (mkF m 163 #[.val (.int p0), .val (.int p1), .val (.int p2), .val (.int p3), .val (.int (p3 &&& (3 : Int32))), .val (.ref b1), .val (.ref b2_2), .val (.ref b2_3), .val (.ref b2_4), .val (.ref b5), .val (.int (f10 (0 : Int32) G'_44)), .val (.int (f10 (1 : Int32) G'_44)), .val (.int (f10 (2 : Int32) G'_44)), .val (.int (f10 (3 : Int32) G'_44))] [])) (fun _ k => XS.icmpNo X50.here hx rfl (hb hby at_160) rfl (teq (show (f10 (2 : Int32) G'_44) = (List.getD (f9_l3 p2 (f9_l3 p1 (f9_l3 p0 (List.replicate 4 (0 : Int32))))) 2 0) from (own_w hR46 2 (by decide) rfl))).2 k) ?_
        refine go (B := T50.setTop (mkF m 165 #[.val (.int p0), .val (.int p1), .val (.int p2), .val (.int p3), .val (.int (p3 &&& (3 : Int32))), .val (.ref b1), .val (.ref b2_2), .val (.ref b2_3), .val (.ref b2_4), .val (.ref b5), .val (.int (f10 (0 : Int32) G'_44)), .val (.int (f10 (1 : Int32) G'_44)), .val (.int (f10 (2 : Int32) G'_44)), .val (.int (f10 (3 : Int32) G'_44))] [(.int (f10 (3 : Int32) G'_44))])) (fun _ k => XS.iload X50.here hx rfl (hb hby at_163) rfl k) ?_
        refine go (B := T50.setTop (mkF m 167 #[.val (.int p0), .val (.int p1), .val (.int p2), .val (.int p3), .val (.int (p3 &&& (3 : Int32))), .val (.ref b1), .val (.ref b2_2), .val (.ref b2_3), .val (.ref b2_4), .val (.ref b5), .val (.int (f10 (0 : Int32) G'_44)), .val (.int (f10 (1 : Int32) G'_44)), .val (.int (f10 (2 : Int32) G'_44)), .val (.int (f10 (3 : Int32) G'_44))] [(.ref b1), (.int (f10 (3 : Int32) G'_44))])) (fun _ k => XS.aload X50.here hx rfl (hb hby at_165) rfl rfl k) ?_
        refine go (B := T50.setTop (mkF m 168 #[.val (.int p0), .val (.int p1), .val (.int p2), .val (.int p3), .val (.int (p3 &&& (3 : Int32))), .val (.ref b1), .val (.ref b2_2), .val (.ref b2_3), .val (.ref b2_4), .val (.ref b5), .val (.int (f10 (0 : Int32) G'_44)), .val (.int (f10 (1 : Int32) G'_44)), .val (.int (f10 (2 : Int32) G'_44)), .val (.int (f10 (3 : Int32) G'_44))] [(.int (3 : Int32)), (.ref b1), (.int (f10 (3 : Int32) G'_44))])) (fun _ k => XS.iconst X50.here hx rfl (hb hby at_167) k) ?_
        obtain ⟨cl54, Ar54, hin54, hat54, up54⟩ := Arl.in o45_0 (j := (3 : Int32)) (by decide) (own_lit (n := 4) (by decide) o45_1)
        refine go (B := T50.setTop (mkF m 169 #[.val (.int p0), .val (.int p1), .val (.int p2), .val (.int p3), .val (.int (p3 &&& (3 : Int32))), .val (.ref b1), .val (.ref b2_2), .val (.ref b2_3), .val (.ref b2_4), .val (.ref b5), .val (.int (f10 (0 : Int32) G'_44)), .val (.int (f10 (1 : Int32) G'_44)), .val (.int (f10 (2 : Int32) G'_44)), .val (.int (f10 (3 : Int32) G'_44))] [(.int (List.getD (f9_l3 p2 (f9_l3 p1 (f9_l3 p0 (List.replicate 4 (0 : Int32))))) 3 0)), (.int (f10 (3 : Int32) G'_44))])) (fun _ k => X50.baloadBooleans hx (j := (3 : Int32)) (v := (.int (List.getD (f9_l3 p2 (f9_l3 p1 (f9_l3 p0 (List.replicate 4 (0 : Int32))))) 3 0))) (by rw [e50]; exact Ar54.1) (State.isArrayOf_alike hZ.alike Ar54.2.1) Ar54.2.2 hin54 hat54 (g := (mkF m 168 #[.val (.int p0), .val (.int p1), .val (.int p2), .val (.int p3), .val (.int (p3 &&& (3 : Int32))), .val (.ref b1), .val (.ref b2_2), .val (.ref b2_3), .val (.ref b2_4), .val (.ref b5), .val (.int (f10 (0 : Int32) G'_44)), .val (.int (f10 (1 : Int32) G'_44)), .val (.int (f10 (2 : Int32) G'_44)), .val (.int (f10 (3 : Int32) G'_44))] [(.int (3 : Int32)), (.ref b1), (.int (f10 (3 : Int32) G'_44))])) rfl rfl (hb hby at_168) _ k) ?_
        refine go (B := T50.setTop (mkF m 172 #[.val (.int p0), .val (.int p1), .val (.int p2), .val (.int p3), .val (.int (p3 &&& (3 : Int32))), .val (.ref b1), .val (.ref b2_2), .val (.ref b2_3), .val (.ref b2_4), .val (.ref b5), .val (.int (f10 (0 : Int32) G'_44)), .val (.int (f10 (1 : Int32) G'_44)), .val (.int (f10 (2 : Int32) G'_44)), .val (.int (f10 (3 : Int32) G'_44))] [])) (fun _ k => XS.icmpNo X50.here hx rfl (hb hby at_169) rfl (teq (show (f10 (3 : Int32) G'_44) = (List.getD (f9_l3 p2 (f9_l3 p1 (f9_l3 p0 (List.replicate 4 (0 : Int32))))) 3 0) from (own_w hR46 3 (by decide) rfl))).2 k) ?_
        refine go (B := T50.setTop (mkF m 173 #[.val (.int p0), .val (.int p1), .val (.int p2), .val (.int p3), .val (.int (p3 &&& (3 : Int32))), .val (.ref b1), .val (.ref b2_2), .val (.ref b2_3), .val (.ref b2_4), .val (.ref b5), .val (.int (f10 (0 : Int32) G'_44)), .val (.int (f10 (1 : Int32) G'_44)), .val (.int (f10 (2 : Int32) G'_44)), .val (.int (f10 (3 : Int32) G'_44))] [(.int (1 : Int32))])) (fun _ k => XS.iconst X50.here hx rfl (hb hby at_172) k) ?_
        refine go (B := T50.setTop (mkF m 177 #[.val (.int p0), .val (.int p1), .val (.int p2), .val (.int p3), .val (.int (p3 &&& (3 : Int32))), .val (.ref b1), .val (.ref b2_2), .val (.ref b2_3), .val (.ref b2_4), .val (.ref b5), .val (.int (f10 (0 : Int32) G'_44)), .val (.int (f10 (1 : Int32) G'_44)), .val (.int (f10 (2 : Int32) G'_44)), .val (.int (f10 (3 : Int32) G'_44))] [(.int (1 : Int32))])) (fun _ k => XS.goto X50.here hx rfl (pc0 := 173) (pc' := 177) rfl (hb hby at_173) (by decide) (by decide) k) ?_
        have r55 : (f0 p3) = (1 : Int32) := by unfold f0; rw [if_neg hc8, if_neg hc21, if_neg hc34]
        exact end_nar X50 hx Bd.notSynchronized (t := .boolean) Bd.returns (by simp) (hb hby at_177) hF e50 (by decide) (by decide) ⟨(congrArg (fun z => some (Value.int z)) (r55.symm.trans (own_law p3))), N50⟩
set_option maxRecDepth 65536 in
set_option maxHeartbeats 40000000 in
theorem comes_1 {Post : Tables → Env → Array Value → State → Outcome → State → Prop} (hpost : ∀ tb e args s v u, (limb_1_1.after args s (.returned v) u = true ∧ limb_1_2.after args s (.returned v) u = true ∧ True) → FrameEnd s (.returned v) u (Jvm.fieldLocs frame_1_writes args s ++ Jvm.arrayLocs frame_1_arrays args s ++ Jvm.staticLocs frame_1_statics s) 32 256 → Post tb e args s (.returned v) u) :
    ArmFor flags0 classFile x code maxLocals ret World_1 tables_1 room_1 Calls_1 rest_1 Pre_1 Post := by
  intro l hfl _ _ p e ha hc hk s m args below hf hA hF happ hP
  obtain ⟨hcalls, hrest, hpre⟩ := hP
  obtain ⟨-, -, -, hnamed, -, -, -, hat⟩ := (Spec.applies_iff hf).mp happ
  obtain ⟨hg, hn⟩ := and_e (Cond.before_iff.mp (show (Jvm.Cond.and given_1 narrow_1).before args s = true from hpre))
  obtain ⟨gg1, gg2⟩ := and_e hg
  obtain ⟨gg3, gg4⟩ := and_e gg2
  obtain ⟨gg5, gg6⟩ := and_e gg4
  obtain ⟨gg7, gg8⟩ := and_e gg6
  obtain ⟨w0, w1, w2, w3, rfl⟩ : ∃ w0 w1 w2 w3 : Value, args = #[w0, w1, w2, w3] := by
    have hs : args.size = 4 := by simpa [Cond.value, given_1] using gg1
    obtain ⟨L⟩ := args
    match L, hs with
    | [w0, w1, w2, w3], _ => exact ⟨w0, w1, w2, w3, rfl⟩
  have hw := fun d (hd : d ∈ tables_1) => atoms_spec (ws := Jvm.Cond.code x code maxLocals ret :: tables_1) hat d (List.mem_cons_of_mem _ hd)
  have hfit : Fit s := fun {y c} hc i hi => by
    obtain ⟨ha, rfl⟩ := Array.getElem?_eq_some_iff.mp hc
    have q := List.all_eq_true.mp ((Array.all_eq_true_iff_forall_mem.mp hF) _ (Array.getElem_mem ha)) i (List.mem_range.mpr hi)
    simpa [Array.getElem?_eq_getElem hi] using q
  obtain ⟨i0, ei0⟩ := is_v gg3
  obtain rfl : w0 = (.int i0) := Option.some.inj ei0
  obtain ⟨i1, ei1⟩ := is_v gg5
  obtain rfl : w1 = (.int i1) := Option.some.inj ei1
  obtain ⟨i2, ei2⟩ := is_v gg7
  obtain rfl : w2 = (.int i2) := Option.some.inj ei2
  obtain ⟨i3, ei3⟩ := is_v gg8
  obtain rfl : w3 = (.int i3) := Option.some.inj ei3
  obtain ⟨n, o, h1, h2, h3, _, L, rfl, ⟨rfl, N⟩, hq⟩ := rm0 l s _ hw tables_1 i0 i1 i2 i3 s.heap s.heap.size (Nat.le_refl _)  p e ha hc hk s m _ below hf ((Spec.applies_iff_loose hf).mp happ).1 ⟨rfl, State.Warmed39.refl s, rfl⟩ trivial
  refine ⟨n, _, h1, h2, h3, hpost _ _ _ _ _ _ ⟨Cond.after_iff.mpr rfl, Cond.after_iff.mpr (eq_i res_at (Term.int_eval (1)) rfl), trivial⟩ ⟨hq.1, hq.2.1, (hq.2.2.sift fun y hy => Or.inr (N y hy)).mono (by decide) (by decide)⟩⟩
theorem main_1_1 : Claimed_1_1 := comes_1 fun _ _ _ _ _ _ h hF => ⟨h.1, hF⟩
theorem main_1_2 : Claimed_1_2 := comes_1 fun _ _ _ _ _ _ h hF => ⟨h.2.1, hF⟩
end Jvm.Pilot.@@N@@
namespace Jvm.Pilot.@@N@@
open Jvm Jvm.ClassFile Sem Op Lib Jvm.Free Jvm.Stand Jvm.Pilot.@@N@@.Jvm.D
/-! MADE BY PROGRAM (witnessworld.py) out of the Statement's table words and the real class files: 13 classes; the members and pool entries that the words name. The judged class is class 1, her method 4. -/
namespace start1
open Jvm.ClassFile
def u (s : String) : CpInfo := .utf8 (stringToUtf16 s)
/-- a pool by its gaps: so many unusable entries, then the entry; so many at the end -/
def gap : Nat → List CpInfo → List CpInfo
  | 0, r => r
  | n + 1, r => .unusable :: gap n r
def poolList (es : List (Nat × CpInfo)) (last : Nat) : List CpInfo := es.foldr (fun e r => gap e.1 (e.2 :: r)) (gap last [])
def pool (es : List (Nat × CpInfo)) (last : Nat) : Array CpInfo := ⟨poolList es last⟩
def fileOf (pool : Array CpInfo) (this : Nat) (attrs : Array Attribute := #[]) (ms : Array MethodInfo := #[]) (fl : Nat := 33) (sup : Nat := 0) (ifs : Array Nat := #[]) (fds : Array FieldInfo := #[]) : ClassFile where
  minorVersion := 0
  majorVersion := 65
  constantPool := pool
  accessFlags := fl
  thisClass := this
  superClass := sup
  interfaces := ifs
  fields := fds
  methods := ms
  attributes := attrs
def plain (name : String) (sup : Option ClassId) : Class where
  name := name
  kind := .ordinary
  loader := none
  accessFlags := 33
  super := sup
  interfaces := #[]
  cf := none
  fields := #[]
  methods := #[]
  instanceTypes := #[]
  staticTypes := #[]
  resolved := #[]
  callSites := []
  init := .initialized
  statics := none
  mirror := none

def pool0 : Array CpInfo := pool [(5, u "<init>"), (0, u "()V"), (1, .class_ 10), (1, u "java/lang/Object")] 113

def k0c0 : Code := { maxStack := 0, maxLocals := 1, code := object_method_1_code, exceptionTable := #[], attributes := #[] }
def k0m0 : Method := { name := "<init>", desc := "()V", sig := { parameters := [], returnType := none }, accessFlags := 1, code := some k0c0 }
/-- java/lang/Object -/
def k0 : Class := { plain "java/lang/Object" none with
  accessFlags := 33
  interfaces := #[]
  cf := some (fileOf pool0 8 #[] #[{ accessFlags := 1, nameIndex := 5, descriptorIndex := 6, attributes := #[] }] 33 0 #[] #[])
  fields := #[]
  methods := #[k0m0]
  instanceTypes := #[]
  staticTypes := #[]
  resolved := Array.replicate 124 none
  statics := none }

def pool1 : Array CpInfo := pool [(2, .class_ 4), (1, u "java/lang/Object"), (0, u "<init>"), (0, u "()V"), (0, .methodref 8 9), (0, .class_ 10), (0, .nameAndType 11 12), (0, u "java/lang/Math"), (0, u "min"), (0, u "(II)I"), (0, .methodref 14 15), (0, .class_ 16), (0, .nameAndType 17 18), (0, u "com/example/constrained_flow/constrainedflow/planner/search/GroupsWaitsPinLaw"), (0, u "count"), (0, u "(I)I"), (0, .methodref 14 20), (0, .nameAndType 21 22), (0, u "below"), (0, u "(I)[I"), (0, .class_ 24), (0, u "com/example/constrained_flow/constrainedflow/planner/search/Sweep$Groups"), (0, .methodref 23 26), (0, .nameAndType 5 27), (0, u "(I)V"), (0, .methodref 23 29), (0, .nameAndType 30 31), (0, u "take"), (0, u "(I[I)V"), (0, .methodref 14 33), (0, .nameAndType 34 35), (0, u "apply"), (0, u "([ZI)V"), (0, .methodref 23 37), (0, .nameAndType 38 39), (0, u "waits"), (0, u "(I)Z"), (5, u "law"), (0, u "(IIII)Z")] 8

def k1m0 : Method := { name := "<init>", desc := "()V", sig := { parameters := [], returnType := none }, accessFlags := 2, code := none }
def k1c1 : Code := { maxStack := 2, maxLocals := 1, code := method_2_code, exceptionTable := #[], attributes := #[] }
def k1m1 : Method := { name := "count", desc := "(I)I", sig := { parameters := [.int], returnType := some .int }, accessFlags := 10, code := some k1c1 }
def k1c2 : Code := { maxStack := 4, maxLocals := 3, code := method_3_code, exceptionTable := #[], attributes := #[] }
def k1m2 : Method := { name := "below", desc := "(I)[I", sig := { parameters := [.int], returnType := some (.array .int) }, accessFlags := 10, code := some k1c2 }
def k1c3 : Code := { maxStack := 3, maxLocals := 3, code := method_4_code, exceptionTable := #[], attributes := #[] }
def k1m3 : Method := { name := "apply", desc := "([ZI)V", sig := { parameters := [(.array .boolean), .int], returnType := none }, accessFlags := 10, code := some k1c3 }
def k1c4 : Code := { maxStack := 3, maxLocals := 14, code := code, exceptionTable := #[], attributes := #[] }
def k1m4 : Method := { name := "law", desc := "(IIII)Z", sig := { parameters := [.int, .int, .int, .int], returnType := some .boolean }, accessFlags := 9, code := some k1c4 }
/-- com/example/constrained_flow/constrainedflow/planner/search/GroupsWaitsPinLaw -/
def k1 : Class := { plain "com/example/constrained_flow/constrainedflow/planner/search/GroupsWaitsPinLaw" (some 0) with
  accessFlags := 49
  interfaces := #[]
  cf := some (fileOf pool1 14 #[] #[{ accessFlags := 2, nameIndex := 5, descriptorIndex := 6, attributes := #[] }, { accessFlags := 10, nameIndex := 17, descriptorIndex := 18, attributes := #[] }, { accessFlags := 10, nameIndex := 21, descriptorIndex := 22, attributes := #[] }, { accessFlags := 10, nameIndex := 34, descriptorIndex := 35, attributes := #[] }, { accessFlags := 9, nameIndex := 45, descriptorIndex := 46, attributes := #[] }] 49 2 #[] #[])
  fields := #[]
  methods := #[k1m0, k1m1, k1m2, k1m3, k1m4]
  instanceTypes := #[]
  staticTypes := #[]
  resolved := Array.replicate 55 none
  statics := none }

def pool2 : Array CpInfo := pool [(1, .class_ 2), (0, u "java/lang/Math"), (1, .class_ 6), (1, u "java/lang/Object"), (0, u "<init>"), (0, u "()V"), (89, .class_ 100), (1, u "java/lang/Math$RandomNumberGeneratorHolder"), (71, u "negativeZeroFloatBits"), (0, u "J"), (2, u "negativeZeroDoubleBits"), (24, u "min"), (43, u "$assertionsDisabled"), (0, u "Z"), (88, u "(II)I"), (2, u "twoToTheDoubleScaleDown"), (0, u "D"), (4, u "twoToTheDoubleScaleUp"), (9, u "E"), (3, u "PI"), (2, u "TAU"), (2, u "DEGREES_TO_RADIANS"), (0, u "RADIANS_TO_DEGREES")] 94

def k2m0 : Method := { name := "<init>", desc := "()V", sig := { parameters := [], returnType := none }, accessFlags := 2, code := none }
def k2c1 : Code := { maxStack := 2, maxLocals := 2, code := jdk_29_method_69_code, exceptionTable := #[], attributes := #[] }
def k2m1 : Method := { name := "min", desc := "(II)I", sig := { parameters := [.int, .int], returnType := some .int }, accessFlags := 9, code := some k2c1 }
/-- java/lang/Math -/
def k2 : Class := { plain "java/lang/Math" (some 0) with
  accessFlags := 49
  interfaces := #[]
  cf := some (fileOf pool2 1 #[.nestMembers #[98]] #[{ accessFlags := 2, nameIndex := 7, descriptorIndex := 8, attributes := #[] }, { accessFlags := 9, nameIndex := 201, descriptorIndex := 335, attributes := #[] }] 49 4 #[] #[{ accessFlags := 25, nameIndex := 354, descriptorIndex := 339, attributes := #[] }, { accessFlags := 25, nameIndex := 358, descriptorIndex := 339, attributes := #[] }, { accessFlags := 25, nameIndex := 361, descriptorIndex := 339, attributes := #[] }, { accessFlags := 26, nameIndex := 364, descriptorIndex := 339, attributes := #[] }, { accessFlags := 26, nameIndex := 365, descriptorIndex := 339, attributes := #[] }, { accessFlags := 26, nameIndex := 172, descriptorIndex := 173, attributes := #[] }, { accessFlags := 26, nameIndex := 176, descriptorIndex := 173, attributes := #[] }, { accessFlags := 8, nameIndex := 344, descriptorIndex := 339, attributes := #[] }, { accessFlags := 8, nameIndex := 338, descriptorIndex := 339, attributes := #[] }, { accessFlags := 4120, nameIndex := 245, descriptorIndex := 246, attributes := #[] }])
  fields := #[{ name := "E", type := .double, accessFlags := 25, slot := 0, constantValue := 0 }, { name := "PI", type := .double, accessFlags := 25, slot := 1, constantValue := 0 }, { name := "TAU", type := .double, accessFlags := 25, slot := 2, constantValue := 0 }, { name := "DEGREES_TO_RADIANS", type := .double, accessFlags := 26, slot := 3, constantValue := 0 }, { name := "RADIANS_TO_DEGREES", type := .double, accessFlags := 26, slot := 4, constantValue := 0 }, { name := "negativeZeroFloatBits", type := .long, accessFlags := 26, slot := 5, constantValue := 0 }, { name := "negativeZeroDoubleBits", type := .long, accessFlags := 26, slot := 6, constantValue := 0 }, { name := "twoToTheDoubleScaleUp", type := .double, accessFlags := 8, slot := 7, constantValue := 0 }, { name := "twoToTheDoubleScaleDown", type := .double, accessFlags := 8, slot := 8, constantValue := 0 }, { name := "$assertionsDisabled", type := .boolean, accessFlags := 4120, slot := 9, constantValue := 0 }]
  methods := #[k2m0, k2m1]
  instanceTypes := #[]
  staticTypes := #[.double, .double, .double, .double, .double, .long, .long, .double, .double, .boolean]
  resolved := Array.replicate 460 none
  statics := none }

def pool3 : Array CpInfo := pool [(1, .methodref 2 3), (0, .class_ 4), (0, .nameAndType 5 6), (0, u "java/lang/Object"), (0, u "<init>"), (0, u "()V"), (0, .fieldref 8 9), (0, .class_ 10), (0, .nameAndType 11 12), (0, u "com/example/constrained_flow/constrainedflow/planner/search/Sweep$Groups"), (0, u "sizes"), (0, u "[I"), (0, .fieldref 8 14), (0, .nameAndType 15 12), (0, u "seenIn"), (0, .fieldref 8 17), (0, .nameAndType 18 12), (0, u "counted"), (0, .fieldref 8 20), (0, .nameAndType 21 12), (0, u "groupOf"), (0, .methodref 23 24), (0, .class_ 25), (0, .nameAndType 26 27), (0, u "java/util/Arrays"), (0, u "fill"), (0, u "([II)V"), (0, .fieldref 8 29), (0, .nameAndType 30 31), (0, u "live"), (0, u "I"), (0, .methodref 8 33), (0, .nameAndType 34 35), (0, u "leave"), (0, u "(I)V"), (0, .fieldref 8 37), (0, .nameAndType 38 31), (0, u "counts"), (0, .methodref 8 40), (0, .nameAndType 41 42), (0, u "number"), (0, u "()I"), (3, u "(I)Z"), (31, .fieldref 8 79), (0, .nameAndType 80 31), (0, u "numbered"), (6, u "waits"), (1, u "take"), (0, u "(I[I)V"), (9, .class_ 101), (0, u "com/example/constrained_flow/constrainedflow/planner/search/Sweep")] 3

def k3c0 : Code := { maxStack := 2, maxLocals := 2, code := prog_97_method_1_code, exceptionTable := #[], attributes := #[] }
def k3m0 : Method := { name := "<init>", desc := "(I)V", sig := { parameters := [.int], returnType := none }, accessFlags := 0, code := some k3c0 }
def k3c1 : Code := { maxStack := 2, maxLocals := 2, code := prog_97_method_2_code, exceptionTable := #[], attributes := #[] }
def k3m1 : Method := { name := "waits", desc := "(I)Z", sig := { parameters := [.int], returnType := some .boolean }, accessFlags := 0, code := some k3c1 }
def k3c2 : Code := { maxStack := 5, maxLocals := 9, code := prog_97_method_4_code, exceptionTable := #[], attributes := #[] }
def k3m2 : Method := { name := "take", desc := "(I[I)V", sig := { parameters := [.int, (.array .int)], returnType := none }, accessFlags := 0, code := some k3c2 }
def k3c3 : Code := { maxStack := 4, maxLocals := 3, code := prog_97_method_8_code, exceptionTable := #[], attributes := #[] }
def k3m3 : Method := { name := "leave", desc := "(I)V", sig := { parameters := [.int], returnType := none }, accessFlags := 2, code := some k3c3 }
def k3c4 : Code := { maxStack := 4, maxLocals := 1, code := prog_97_method_9_code, exceptionTable := #[], attributes := #[] }
def k3m4 : Method := { name := "number", desc := "()I", sig := { parameters := [], returnType := some .int }, accessFlags := 2, code := some k3c4 }
/-- com/example/constrained_flow/constrainedflow/planner/search/Sweep$Groups -/
def k3 : Class := { plain "com/example/constrained_flow/constrainedflow/planner/search/Sweep$Groups" (some 0) with
  accessFlags := 32
  interfaces := #[]
  cf := some (fileOf pool3 8 #[.nestHost 100] #[{ accessFlags := 0, nameIndex := 5, descriptorIndex := 35, attributes := #[] }, { accessFlags := 0, nameIndex := 87, descriptorIndex := 46, attributes := #[] }, { accessFlags := 0, nameIndex := 89, descriptorIndex := 90, attributes := #[] }, { accessFlags := 2, nameIndex := 34, descriptorIndex := 35, attributes := #[] }, { accessFlags := 2, nameIndex := 41, descriptorIndex := 42, attributes := #[] }] 32 2 #[] #[{ accessFlags := 18, nameIndex := 21, descriptorIndex := 12, attributes := #[] }, { accessFlags := 2, nameIndex := 11, descriptorIndex := 12, attributes := #[] }, { accessFlags := 2, nameIndex := 15, descriptorIndex := 12, attributes := #[] }, { accessFlags := 2, nameIndex := 18, descriptorIndex := 12, attributes := #[] }, { accessFlags := 2, nameIndex := 80, descriptorIndex := 31, attributes := #[] }, { accessFlags := 2, nameIndex := 30, descriptorIndex := 31, attributes := #[] }, { accessFlags := 2, nameIndex := 38, descriptorIndex := 31, attributes := #[] }])
  fields := #[{ name := "groupOf", type := (.array .int), accessFlags := 18, slot := 0, constantValue := 0 }, { name := "sizes", type := (.array .int), accessFlags := 2, slot := 1, constantValue := 0 }, { name := "seenIn", type := (.array .int), accessFlags := 2, slot := 2, constantValue := 0 }, { name := "counted", type := (.array .int), accessFlags := 2, slot := 3, constantValue := 0 }, { name := "numbered", type := .int, accessFlags := 2, slot := 4, constantValue := 0 }, { name := "live", type := .int, accessFlags := 2, slot := 5, constantValue := 0 }, { name := "counts", type := .int, accessFlags := 2, slot := 6, constantValue := 0 }]
  methods := #[k3m0, k3m1, k3m2, k3m3, k3m4]
  instanceTypes := #[(.array .int), (.array .int), (.array .int), (.array .int), .int, .int, .int]
  staticTypes := #[]
  resolved := Array.replicate 105 none
  statics := none }

def pool4 : Array CpInfo := pool [(2, .class_ 4), (1, u "java/lang/Object"), (0, u "<init>"), (0, u "()V"), (7, .class_ 16), (1, u "java/util/Arrays"), (57, .class_ 76), (1, u "java/util/Arrays$NaturalOrder"), (36, .class_ 115), (1, u "java/util/Arrays$LegacyMergeSort"), (1, u "Z"), (257, .class_ 376), (0, u "java/util/Arrays$ArrayList"), (68, u "$assertionsDisabled"), (269, u "MIN_ARRAY_SORT_GRAN"), (0, u "I"), (2, u "INSERTIONSORT_THRESHOLD"), (120, u "fill"), (4, u "([II)V"), (129, .class_ 976), (0, u "java/util/Arrays$ArrayItr")] 52

def k4m0 : Method := { name := "<init>", desc := "()V", sig := { parameters := [], returnType := none }, accessFlags := 2, code := none }
def k4c1 : Code := { maxStack := 3, maxLocals := 4, code := jdk_65_method_103_code, exceptionTable := #[], attributes := #[] }
def k4m1 : Method := { name := "fill", desc := "([II)V", sig := { parameters := [(.array .int), .int], returnType := none }, accessFlags := 9, code := some k4c1 }
/-- java/util/Arrays -/
def k4 : Class := { plain "java/util/Arrays" (some 0) with
  accessFlags := 49
  interfaces := #[]
  cf := some (fileOf pool4 14 #[.nestMembers #[975, 375, 113, 74]] #[{ accessFlags := 2, nameIndex := 5, descriptorIndex := 6, attributes := #[] }, { accessFlags := 9, nameIndex := 840, descriptorIndex := 845, attributes := #[] }] 49 2 #[] #[{ accessFlags := 26, nameIndex := 715, descriptorIndex := 716, attributes := #[] }, { accessFlags := 26, nameIndex := 719, descriptorIndex := 716, attributes := #[] }, { accessFlags := 4120, nameIndex := 445, descriptorIndex := 117, attributes := #[] }])
  fields := #[{ name := "MIN_ARRAY_SORT_GRAN", type := .int, accessFlags := 26, slot := 0, constantValue := 0 }, { name := "INSERTIONSORT_THRESHOLD", type := .int, accessFlags := 26, slot := 1, constantValue := 0 }, { name := "$assertionsDisabled", type := .boolean, accessFlags := 4120, slot := 2, constantValue := 0 }]
  methods := #[k4m0, k4m1]
  instanceTypes := #[]
  staticTypes := #[.int, .int, .boolean]
  resolved := Array.replicate 1029 none
  statics := none }

def pool5 : Array CpInfo := pool [(1, u "java/lang/Cloneable"), (0, .class_ 1), (0, u "java/lang/Object"), (0, .class_ 3)] 3

/-- java/lang/Cloneable -/
def k5 : Class := { plain "java/lang/Cloneable" (some 0) with
  accessFlags := 1537
  interfaces := #[]
  cf := some (fileOf pool5 2 #[] #[] 1537 4 #[] #[])
  fields := #[]
  methods := #[]
  instanceTypes := #[]
  staticTypes := #[]
  resolved := Array.replicate 8 none
  statics := none }

def pool6 : Array CpInfo := pool [(1, u "java/io/Serializable"), (0, .class_ 1), (0, u "java/lang/Object"), (0, .class_ 3)] 3

/-- java/io/Serializable -/
def k6 : Class := { plain "java/io/Serializable" (some 0) with
  accessFlags := 1537
  interfaces := #[]
  cf := some (fileOf pool6 2 #[] #[] 1537 4 #[] #[])
  fields := #[]
  methods := #[]
  instanceTypes := #[]
  staticTypes := #[]
  resolved := Array.replicate 8 none
  statics := none }

/-- the primitive boolean -/
def k7 : Class := { plain "boolean" none with kind := .primitive 'Z', accessFlags := 0x411 }
/-- [Z -/
def k8 : Class := { plain "[Z" (some 0) with kind := .array 7 .boolean, interfaces := #[5, 6], accessFlags := 1041 }

/-- the primitive byte -/
def k9 : Class := { plain "byte" none with kind := .primitive 'B', accessFlags := 0x411 }
/-- [B -/
def k10 : Class := { plain "[B" (some 0) with kind := .array 9 .byte, interfaces := #[5, 6], accessFlags := 1041 }

/-- the primitive int -/
def k11 : Class := { plain "int" none with kind := .primitive 'I', accessFlags := 0x411 }
/-- [I -/
def k12 : Class := { plain "[I" (some 0) with kind := .array 11 .int, interfaces := #[5, 6], accessFlags := 1041 }

def heap : Heap := #[]
def classes : Array Class := #[k0, k1, k2, k3, k4, k5, k6, k7, k8, k9, k10, k11, k12]
def interned : List (Array UInt16 × Addr) := []
def slotsUsed : Nat := 0
def theMethod : MethodId := ⟨1, 4⟩
def args0 : Array Value := #[.int 5, .int 77, .int 123, .int 3]
def aboutOver (below : List Frame) : State where
  vm := { classes := classes, interned := interned.toArray }
  heap := heap
  slotsUsed := slotsUsed
  threads := #[{ frames := .invoking theMethod args0 :: below }]
def below0 : List Frame := [.native { method := ⟨0, 0⟩, args := #[] }]
def about1 : State := aboutOver below0
def p0 : Program := .bare "" "" ""
def e0 : Env := launch0.env 0 0 0
theorem w_frames : about1.frames = Frame.invoking theMethod args0 :: below0 := rfl
set_option maxRecDepth 65536 in
theorem w_args : argsFit about1.vm theMethod args0 = true := by decide +kernel
set_option maxRecDepth 65536 in
theorem w_heap : heapFits about1 = true := by decide +kernel
set_option maxRecDepth 65536 in
theorem w_runnable : about1.curStatus? = some .runnable := by decide +kernel
set_option maxRecDepth 65536 in
theorem w_alone : about1.alone = true := by decide +kernel
set_option maxRecDepth 65536 in
theorem w_named : about1.methodNamed? x = some theMethod := by decide +kernel
set_option maxRecDepth 65536 in
theorem w_hears : about1.hears theMethod below0 = true := by decide +kernel
set_option maxRecDepth 65536 in
theorem w_ripe : about1.ripe theMethod args0 below0 = true := by decide +kernel
theorem w_running : about1.status = .running := rfl
set_option maxRecDepth 65536 in
theorem w_room : about1.hasRoom e0.platform room_1 = true :=
  launch0.hasRoom_least _ room_1 (by decide +kernel) (by decide +kernel) (by decide +kernel) (by decide +kernel) (by decide +kernel) (by decide +kernel)
theorem allAtoms_all (ts : List Jvm.Cond) (a : Array Jvm.Value) (st : Jvm.State) : (allAtoms ts).before a st = ts.all (fun c => c.before a st) := by
  induction ts with
  | nil => rfl
  | cons c t ih =>
    show (Jvm.Cond.and c (allAtoms t)).before a st = _
    rw [Jvm.Cond.before_and, ih, List.all_cons]
def words1 : List Jvm.Cond := Jvm.Cond.code x code maxLocals ret :: tables_1
/-- a 'code' word, met by the world's own term for the bytes: nothing is compared byte by byte -/
theorem code_word {y : MethodName} {bytes : ByteArray} {mx : Nat} {rt : Option FieldType} {a : Array Value} {s : State} {m : MethodId} {meth : Method} {c : Code} (h1 : s.methodNamed? y = some m) (h2 : s.vm.method? m = some meth) (h3 : meth.code = some c) (h4 : c.code = bytes)
    (h5 : (c.maxLocals == mx && c.exceptionTable.isEmpty && decide (c.maxStack ≤ mostOperands) && decide (meth.sig.returnType = rt) && !meth.locks && decide (parseMethodDescriptor y.desc = some meth.sig)) = true) : (Jvm.Cond.code y bytes mx rt).before a s = true := by
  simp only [Bool.and_eq_true, beq_iff_eq, Bool.not_eq_true', decide_eq_true_eq] at h5
  obtain ⟨⟨⟨⟨⟨g1, g2⟩, g3⟩, g4⟩, g5⟩, g6⟩ := h5
  simp [Cond.before, Cond.holds, Cond.value, h1, h2, h3, h4, g1, g2, g3, g4, g5, g6]
def isCode : Jvm.Cond → Bool
  | .code _ _ _ _ => true
  | _ => false
theorem all_split {L : List Jvm.Cond} {P : Jvm.Cond → Bool} (h1 : L.all (fun c => isCode c || P c) = true) (h2 : ∀ c ∈ L.filter isCode, P c = true) : L.all P = true := by
  refine List.all_eq_true.mpr fun c hc => ?_
  have h := List.all_eq_true.mp h1 c hc
  rcases Bool.eq_false_or_eq_true (isCode c) with hi | hi
  · exact h2 c (List.mem_filter.mpr ⟨hc, hi⟩)
  · simpa [hi] using h
set_option maxRecDepth 65536 in
theorem w_c0 : (Jvm.Cond.code x code maxLocals ret).before args0 about1 = true := code_word (m := ⟨1, 4⟩) (meth := k1m4) (c := k1c4) (by decide +kernel) rfl rfl rfl (by decide +kernel)
set_option maxRecDepth 65536 in
theorem w_c1 : (Jvm.Cond.code ({ cls := "com/example/constrained_flow/constrainedflow/planner/search/GroupsWaitsPinLaw", name := "below", desc := "(I)[I" } : Jvm.MethodName) method_3_code (3 : Nat) (Option.some (Jvm.ClassFile.FieldType.array Jvm.ClassFile.FieldType.int))).before args0 about1 = true := code_word (m := ⟨1, 2⟩) (meth := k1m2) (c := k1c2) (by decide +kernel) rfl rfl rfl (by decide +kernel)
set_option maxRecDepth 65536 in
theorem w_c2 : (Jvm.Cond.code ({ cls := "com/example/constrained_flow/constrainedflow/planner/search/GroupsWaitsPinLaw", name := "count", desc := "(I)I" } : Jvm.MethodName) method_2_code (1 : Nat) (Option.some Jvm.ClassFile.FieldType.int)).before args0 about1 = true := code_word (m := ⟨1, 1⟩) (meth := k1m1) (c := k1c1) (by decide +kernel) rfl rfl rfl (by decide +kernel)
set_option maxRecDepth 65536 in
theorem w_c3 : (Jvm.Cond.code ({ cls := "java/lang/Math", name := "min", desc := "(II)I" } : Jvm.MethodName) jdk_29_method_69_code (2 : Nat) (Option.some Jvm.ClassFile.FieldType.int)).before args0 about1 = true := code_word (m := ⟨2, 1⟩) (meth := k2m1) (c := k2c1) (by decide +kernel) rfl rfl rfl (by decide +kernel)
set_option maxRecDepth 65536 in
theorem w_c4 : (Jvm.Cond.code ({ cls := "com/example/constrained_flow/constrainedflow/planner/search/Sweep$Groups", name := "<init>", desc := "(I)V" } : Jvm.MethodName) prog_97_method_1_code (2 : Nat) (Option.none : Option Jvm.ClassFile.FieldType)).before args0 about1 = true := code_word (m := ⟨3, 0⟩) (meth := k3m0) (c := k3c0) (by decide +kernel) rfl rfl rfl (by decide +kernel)
set_option maxRecDepth 65536 in
theorem w_c5 : (Jvm.Cond.code ({ cls := "java/lang/Object", name := "<init>", desc := "()V" } : Jvm.MethodName) object_method_1_code (1 : Nat) (Option.none : Option Jvm.ClassFile.FieldType)).before args0 about1 = true := code_word (m := ⟨0, 0⟩) (meth := k0m0) (c := k0c0) (by decide +kernel) rfl rfl rfl (by decide +kernel)
set_option maxRecDepth 65536 in
theorem w_c6 : (Jvm.Cond.code ({ cls := "java/util/Arrays", name := "fill", desc := "([II)V" } : Jvm.MethodName) jdk_65_method_103_code (4 : Nat) (Option.none : Option Jvm.ClassFile.FieldType)).before args0 about1 = true := code_word (m := ⟨4, 1⟩) (meth := k4m1) (c := k4c1) (by decide +kernel) rfl rfl rfl (by decide +kernel)
set_option maxRecDepth 65536 in
theorem w_c7 : (Jvm.Cond.code ({ cls := "com/example/constrained_flow/constrainedflow/planner/search/Sweep$Groups", name := "take", desc := "(I[I)V" } : Jvm.MethodName) prog_97_method_4_code (9 : Nat) (Option.none : Option Jvm.ClassFile.FieldType)).before args0 about1 = true := code_word (m := ⟨3, 2⟩) (meth := k3m2) (c := k3c2) (by decide +kernel) rfl rfl rfl (by decide +kernel)
set_option maxRecDepth 65536 in
theorem w_c8 : (Jvm.Cond.code ({ cls := "com/example/constrained_flow/constrainedflow/planner/search/Sweep$Groups", name := "leave", desc := "(I)V" } : Jvm.MethodName) prog_97_method_8_code (3 : Nat) (Option.none : Option Jvm.ClassFile.FieldType)).before args0 about1 = true := code_word (m := ⟨3, 3⟩) (meth := k3m3) (c := k3c3) (by decide +kernel) rfl rfl rfl (by decide +kernel)
set_option maxRecDepth 65536 in
theorem w_c9 : (Jvm.Cond.code ({ cls := "com/example/constrained_flow/constrainedflow/planner/search/GroupsWaitsPinLaw", name := "apply", desc := "([ZI)V" } : Jvm.MethodName) method_4_code (3 : Nat) (Option.none : Option Jvm.ClassFile.FieldType)).before args0 about1 = true := code_word (m := ⟨1, 3⟩) (meth := k1m3) (c := k1c3) (by decide +kernel) rfl rfl rfl (by decide +kernel)
set_option maxRecDepth 65536 in
theorem w_c10 : (Jvm.Cond.code ({ cls := "com/example/constrained_flow/constrainedflow/planner/search/Sweep$Groups", name := "waits", desc := "(I)Z" } : Jvm.MethodName) prog_97_method_2_code (2 : Nat) (Option.some Jvm.ClassFile.FieldType.boolean)).before args0 about1 = true := code_word (m := ⟨3, 1⟩) (meth := k3m1) (c := k3c1) (by decide +kernel) rfl rfl rfl (by decide +kernel)
set_option maxRecDepth 65536 in
theorem w_c11 : (Jvm.Cond.code ({ cls := "com/example/constrained_flow/constrainedflow/planner/search/Sweep$Groups", name := "number", desc := "()I" } : Jvm.MethodName) prog_97_method_9_code (1 : Nat) (Option.some Jvm.ClassFile.FieldType.int)).before args0 about1 = true := code_word (m := ⟨3, 4⟩) (meth := k3m4) (c := k3c4) (by decide +kernel) rfl rfl rfl (by decide +kernel)
def codes1 : List Jvm.Cond := [Jvm.Cond.code x code maxLocals ret, Jvm.Cond.code ({ cls := "com/example/constrained_flow/constrainedflow/planner/search/GroupsWaitsPinLaw", name := "below", desc := "(I)[I" } : Jvm.MethodName) method_3_code (3 : Nat) (Option.some (Jvm.ClassFile.FieldType.array Jvm.ClassFile.FieldType.int)), Jvm.Cond.code ({ cls := "com/example/constrained_flow/constrainedflow/planner/search/GroupsWaitsPinLaw", name := "count", desc := "(I)I" } : Jvm.MethodName) method_2_code (1 : Nat) (Option.some Jvm.ClassFile.FieldType.int), Jvm.Cond.code ({ cls := "java/lang/Math", name := "min", desc := "(II)I" } : Jvm.MethodName) jdk_29_method_69_code (2 : Nat) (Option.some Jvm.ClassFile.FieldType.int), Jvm.Cond.code ({ cls := "com/example/constrained_flow/constrainedflow/planner/search/Sweep$Groups", name := "<init>", desc := "(I)V" } : Jvm.MethodName) prog_97_method_1_code (2 : Nat) (Option.none : Option Jvm.ClassFile.FieldType), Jvm.Cond.code ({ cls := "java/lang/Object", name := "<init>", desc := "()V" } : Jvm.MethodName) object_method_1_code (1 : Nat) (Option.none : Option Jvm.ClassFile.FieldType), Jvm.Cond.code ({ cls := "java/util/Arrays", name := "fill", desc := "([II)V" } : Jvm.MethodName) jdk_65_method_103_code (4 : Nat) (Option.none : Option Jvm.ClassFile.FieldType), Jvm.Cond.code ({ cls := "com/example/constrained_flow/constrainedflow/planner/search/Sweep$Groups", name := "take", desc := "(I[I)V" } : Jvm.MethodName) prog_97_method_4_code (9 : Nat) (Option.none : Option Jvm.ClassFile.FieldType), Jvm.Cond.code ({ cls := "com/example/constrained_flow/constrainedflow/planner/search/Sweep$Groups", name := "leave", desc := "(I)V" } : Jvm.MethodName) prog_97_method_8_code (3 : Nat) (Option.none : Option Jvm.ClassFile.FieldType), Jvm.Cond.code ({ cls := "com/example/constrained_flow/constrainedflow/planner/search/GroupsWaitsPinLaw", name := "apply", desc := "([ZI)V" } : Jvm.MethodName) method_4_code (3 : Nat) (Option.none : Option Jvm.ClassFile.FieldType), Jvm.Cond.code ({ cls := "com/example/constrained_flow/constrainedflow/planner/search/Sweep$Groups", name := "waits", desc := "(I)Z" } : Jvm.MethodName) prog_97_method_2_code (2 : Nat) (Option.some Jvm.ClassFile.FieldType.boolean), Jvm.Cond.code ({ cls := "com/example/constrained_flow/constrainedflow/planner/search/Sweep$Groups", name := "number", desc := "()I" } : Jvm.MethodName) prog_97_method_9_code (1 : Nat) (Option.some Jvm.ClassFile.FieldType.int)]
set_option maxRecDepth 65536 in
theorem codes_eq : words1.filter isCode = codes1 := rfl
theorem w_codes : ∀ c ∈ words1.filter isCode, c.before args0 about1 = true := by
  rw [codes_eq]
  intro c hc
  simp only [codes1, List.mem_cons, List.not_mem_nil, or_false] at hc
  rcases hc with rfl | rfl | rfl | rfl | rfl | rfl | rfl | rfl | rfl | rfl | rfl | rfl
  · exact w_c0
  · exact w_c1
  · exact w_c2
  · exact w_c3
  · exact w_c4
  · exact w_c5
  · exact w_c6
  · exact w_c7
  · exact w_c8
  · exact w_c9
  · exact w_c10
  · exact w_c11
set_option maxRecDepth 65536 in
theorem w_t1 : (words1.take 24).all (fun c => isCode c || c.before args0 about1) = true := by decide +kernel
set_option maxRecDepth 65536 in
theorem w_t2 : ((words1.drop 24).take 24).all (fun c => isCode c || c.before args0 about1) = true := by decide +kernel
set_option maxRecDepth 65536 in
theorem w_t3 : ((words1.drop 24).drop 24).all (fun c => isCode c || c.before args0 about1) = true := by decide +kernel
theorem w_tables : (allAtoms (Jvm.Cond.code x code maxLocals ret :: tables_1)).before args0 about1 = true := by
  rw [allAtoms_all]
  show words1.all (fun c => c.before args0 about1) = true
  refine all_split ?_ w_codes
  rw [← List.take_append_drop 24 words1, List.all_append, w_t1, ← List.take_append_drop 24 (words1.drop 24), List.all_append, w_t2, w_t3]
  rfl
set_option maxRecDepth 65536 in
theorem w_case : (Jvm.Cond.and given_1 narrow_1).before args0 about1 = true := by decide +kernel
theorem w_applies : (headSpec (Jvm.Cond.code x code maxLocals ret :: tables_1) room_1).applies x e0.platform about1 = true :=
  (Spec.applies_iff w_frames).mpr ⟨w_running, w_runnable, w_alone, w_named, w_hears, w_ripe, w_room, w_tables⟩
theorem atStart : AtStart classFile x code maxLocals ret World_1 tables_1 room_1 Calls_1 rest_1 Pre_1 launch0 p0 e0 about1 theMethod args0 below0 :=
  ⟨lists_1, trivial, launch0.admits_env _ _ _, launch0.least_env, fairChoices_fair.cas, fairChoices_fair.clock, w_frames, w_args, w_heap, w_applies, trivial, trivial, w_case⟩
end start1
theorem witness_1 : WitnessClaimed_1 := ⟨start1.p0, start1.e0, start1.about1, start1.theMethod, start1.args0, start1.below0, start1.atStart⟩
end Jvm.Pilot.@@N@@
