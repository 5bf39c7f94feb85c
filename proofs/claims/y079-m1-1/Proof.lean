import JvmDerived
import JvmDerived.Pilot.@@N@@Statement
import JvmDerived.Pilot.@@N@@Code
set_option linter.unusedVariables false
set_option linter.unusedSimpArgs false
namespace Jvm.Pilot.@@N@@
open Jvm Jvm.ClassFile Sem Op Lib Jvm.Free Jvm.Stand Jvm.LawKit Jvm.RoadKit Bundle Jvm.Pilot.@@N@@.Jvm.D
/-! own layer: a small logic of triples over the library's Stand. Fd: a field's owner, name, descriptor, value; Ds: an object (class, fields) or an array (type, is its class known, is it over its component's class, values); En: an address, may it be written, what lies there. -/
abbrev Fd : Type := String × String × String × Value
abbrev Ds : Type := (String × List Fd) ⊕ (FieldType × Bool × Bool × List Value)
abbrev En : Type := Addr × Bool × Ds
abbrev eB (a : Addr) (vs : List Value) : En := (a, true, .inr (.byte, true, false, vs))
abbrev eC (a : Addr) (vs : List Value) : En := (a, true, .inr (.char, true, false, vs))
abbrev eI (a : Addr) (vs : List Value) : En := (a, true, .inr (.int, true, false, vs))
abbrev eJ (a : Addr) (vs : List Value) : En := (a, true, .inr (.long, true, false, vs))
abbrev eO (a : Addr) (vs : List Value) : En := (a, true, .inr (.object "java/lang/Object", true, true, vs))
abbrev Wd : Type := Launch × State × Array Value × Nat × (Addr → Prop)
abbrev Mt : Type := MethodName × ByteArray × Nat × Option FieldType × Room
abbrev Kx : Type := Program × Env × State × MethodId × Array Value × List Frame × Method × Code × Option (State × List (String × Nat))
def wL (W : Wd) : Launch := W.1
def wZ (W : Wd) : State := W.2.1
def wA (W : Wd) : Array Value := W.2.2.1
def wN (W : Wd) : Nat := W.2.2.2.1
def wP (W : Wd) : Addr → Prop := W.2.2.2.2
def wSet (W : Wd) (P : Addr → Prop) : Wd := (W.1, W.2.1, W.2.2.1, W.2.2.2.1, P)
def mN (M : Mt) : MethodName := M.1
def mC (M : Mt) : ByteArray := M.2.1
def mL (M : Mt) : Nat := M.2.2.1
def mT (M : Mt) : Option FieldType := M.2.2.2.1
def mR (M : Mt) : Room := M.2.2.2.2
def kP (K : Kx) : Program := K.1
def kE (K : Kx) : Env := K.2.1
def kS (K : Kx) : State := K.2.2.1
def kM (K : Kx) : MethodId := K.2.2.2.1
def kA (K : Kx) : Array Value := K.2.2.2.2.1
def kB (K : Kx) : List Frame := K.2.2.2.2.2.1
def kH (K : Kx) : Method := K.2.2.2.2.2.2.1
def kC (K : Kx) : Code := K.2.2.2.2.2.2.2.1
def kW (K : Kx) : Option (State × List (String × Nat)) := K.2.2.2.2.2.2.2.2
def fSl (Z : State) (f : Fd) : Nat := Jvm.RoadKit.slotOf Z f.1 f.2.1 f.2.2.1
def FdOk (Z : State) (h : Heap) (a : Addr) (f : Fd) : Prop := Fld Z h a f.1 f.2.1 f.2.2.1 f.2.2.2
def ArOk (Z : State) (h : Heap) (a : Addr) (ty : FieldType) (ex ov : Bool) (vs : List Value) : Prop := ∃ c : Cell, Arr Z h a c ty ∧ c.slots.toList = vs ∧ vs.length < 2 ^ 31 ∧ (∀ v ∈ vs, fits ty v = true) ∧ (ex = true → Exa Z h a ("[" ++ ty.toString)) ∧ (ov = true → ∀ C, ty = .object C → Ovr Z c.cls C)
def ObOk (Z : State) (h : Heap) (a : Addr) (C : String) (fs : List Fd) : Prop := Exa Z h a C ∧ (∀ f ∈ fs, FdOk Z h a f) ∧ (fs.map (fSl Z)).Nodup
def DsOk (Z : State) (h : Heap) (a : Addr) (D : Ds) : Prop := match D with
  | .inl (C, fs) => ObOk Z h a C fs
  | .inr (ty, ex, ov, vs) => ArOk Z h a ty ex ov vs
def Apart (x y : En) : Prop := (x.2.1 = false ∧ y.2.1 = false) ∨ x.1 ≠ y.1
def Ol (W : Wd) (h : Heap) : Prop := Old (wZ W) (wN W) h ∧ ∀ a, h.size ≤ a → wP W a
theorem Ol.ext {W : Wd} {h h' : Heap} (X : Ol W h) (E : Ext h h') : Ol W h' := ⟨X.1.ext E, fun a q => X.2 a (Nat.le_trans E.1 q)⟩
theorem Ol.keep {W : Wd} {h h' : Heap} {ws : List Addr} (X : Ol W h) (K : Keep h h' ws) (q : ∀ x ∈ ws, wN W ≤ x) : Ol W h' := ⟨X.1.keep K q, fun a q => X.2 a (Nat.le_trans K.1 q)⟩
theorem Ol.wr {W : Wd} {h h' : Heap} {a : Addr} {sl : Nat} {v : Value} (X : Ol W h) (E : Wr h h' a sl v) (q : wN W ≤ a) : Ol W h' := ⟨X.1.wr E q, fun b r => X.2 b (by obtain ⟨c, -, -, -, rfl⟩ := E; simpa using r)⟩
def Hp (W : Wd) (h : Heap) (H : List En) : Prop := Ol W h ∧ (∀ x ∈ H, (x.2.1 = true → wN W ≤ x.1 ∧ wP W x.1) ∧ DsOk (wZ W) h x.1 x.2.2) ∧ H.Pairwise Apart
section HeapLaws
variable {Z : State} {h h' : Heap} {a b : Addr} {W : Wd} {H : List En} {D : Ds} {sl : Nat} {v : Value}
theorem DsOk.lt (F : DsOk Z h a D) : a < h.size := by
  match D, F with
  | .inl _, F => exact F.1.lt
  | .inr _, F => exact F.choose_spec.1.lt
theorem DsOk.ext (F : DsOk Z h a D) (E : Ext h h') : DsOk Z h' a D := by
  match D, F with
  | .inl _, F => exact ⟨F.1.ext E, fun f hf => Fld.ext E (F.2.1 f hf), F.2.2⟩
  | .inr _, ⟨c, h1, h2, h3, h4, h5, h6⟩ => exact ⟨c, h1.ext E, h2, h3, h4, fun q => (h5 q).ext E, h6⟩
theorem DsOk.other (F : DsOk Z h b D) (E : Wr h h' a sl v) (q : b ≠ a) : DsOk Z h' b D := by
  match D, F with
  | .inl _, F => exact ⟨F.1.wr E, fun f hf => Fld.other E (F.2.1 f hf) (Or.inl q), F.2.2⟩
  | .inr _, ⟨c, h1, h2, h3, h4, h5, h6⟩ => exact ⟨c, h1.other E q, h2, h3, h4, fun q => (h5 q).wr E, h6⟩
theorem DsOk.keep {ws : List Addr} (F : DsOk Z h b D) (E : Keep h h' ws) (q : b ∉ ws) : DsOk Z h' b D := by
  match D, F with
  | .inl _, F => exact ⟨F.1.keep E, fun f hf => Fld.keep (F.2.1 f hf) E q, F.2.2⟩
  | .inr _, ⟨c, h1, h2, h3, h4, h5, h6⟩ => exact ⟨c, ⟨E.2.1 _ _ h1.1 q, h1.2⟩, h2, h3, h4, fun q => (h5 q).keep E, h6⟩
theorem Hp.size (P : Hp W h H) : wN W ≤ h.size := by
  obtain ⟨⟨⟨e1, e2⟩, -⟩, -⟩ := P
  rw [← e1]; exact e2.1
theorem Hp.new (P : Hp W h H) (E : Ext h h') (F : DsOk (wZ W) h' h.size D) : Hp W h' ((h.size, true, D) :: H) := by
  refine ⟨P.1.ext E, fun x hx => ?_, List.pairwise_cons.mpr ⟨fun y hy => Or.inr ?_, P.2.2⟩⟩
  · rcases List.mem_cons.mp hx with rfl | hx
    · exact ⟨fun _ => ⟨P.size, P.1.2 _ (Nat.le_refl _)⟩, F⟩
    · exact ⟨(P.2.1 x hx).1, (P.2.1 x hx).2.ext E⟩
  · have := (P.2.1 y hy).2.lt
    exact fun (e : h.size = y.1) => Nat.lt_irrefl y.1 (Nat.lt_of_lt_of_le this (Nat.le_of_eq e))
theorem Hp.apart (P : Hp W h H) {i j : Nat} {x y : En} (hi : H[i]? = some x) (hj : H[j]? = some y) (hne : i ≠ j) (hw : x.2.1 = true) : y.1 ≠ x.1 := by
  obtain ⟨li, rfl⟩ := List.getElem?_eq_some_iff.mp hi
  obtain ⟨lj, rfl⟩ := List.getElem?_eq_some_iff.mp hj
  have q := List.pairwise_iff_getElem.mp P.2.2
  rcases Nat.lt_or_gt_of_ne hne with g | g
  · rcases q i j li lj g with u | u
    · rw [hw] at u; exact absurd u.1 (by decide)
    · exact fun e => u e.symm
  · rcases q j i lj li g with u | u
    · rw [hw] at u; exact absurd u.2 (by decide)
    · exact u
/-- one entry is written: what else is known stays -/
theorem Hp.put (P : Hp W h H) {i : Nat} {D' : Ds} (hi : H[i]? = some (a, true, D)) (E : Wr h h' a sl v) (F : DsOk (wZ W) h' a D') : Hp W h' (H.set i (a, true, D')) := by
  have hm := List.mem_of_getElem? hi
  have hn := (P.2.1 _ hm).1 rfl
  refine ⟨P.1.wr E hn.1, fun x hx => ?_, ?_⟩
  · obtain ⟨j, hj⟩ := List.getElem?_of_mem hx
    by_cases e : i = j
    · subst e
      rw [List.getElem?_set_self (List.getElem?_eq_some_iff.mp hi).1] at hj
      cases hj
      exact ⟨fun _ => hn, F⟩
    · rw [List.getElem?_set_ne e] at hj
      have hx' := P.2.1 x (List.mem_of_getElem? hj)
      exact ⟨hx'.1, hx'.2.other E (P.apart hi hj e rfl)⟩
  · rw [List.pairwise_iff_getElem]
    intro j k hj hk hjk
    rw [List.length_set] at hj hk
    have q := (List.pairwise_iff_getElem.mp P.2.2) j k hj hk hjk
    obtain ⟨li, e⟩ := List.getElem?_eq_some_iff.mp hi
    rw [List.getElem_set, List.getElem_set]
    have fix : ∀ x : En, x = (a, true, D) → x.2.1 = true ∧ x.1 = a := fun x e => by subst e; exact ⟨rfl, rfl⟩
    obtain ⟨f1, f2⟩ := fix _ e
    split
    · rename_i e1
      subst e1
      split
      · rename_i e2; omega
      · rcases q with u | u
        · exact absurd (f1.symm.trans u.1) (by decide)
        · exact Or.inr (fun w => u (f2.trans w))
    · split
      · rename_i e2
        subst e2
        rcases q with u | u
        · exact absurd (f1.symm.trans u.2) (by decide)
        · exact Or.inr (fun w => u (w.trans f2.symm))
      · exact q
theorem Hp.sub (P : Hp W h H) {H' : List En} (q : H'.Sublist H) : Hp W h H' := ⟨P.1, fun x hx => P.2.1 x (q.subset hx), P.2.2.sublist q⟩
theorem Apart.symm {x y : En} (q : Apart x y) : Apart y x := q.elim (fun u => Or.inl ⟨u.2, u.1⟩) fun u => Or.inr fun e => u e.symm
theorem Hp.perm (P : Hp W h H) {H' : List En} (q : H.Perm H') : Hp W h H' := ⟨P.1, fun x hx => P.2.1 x (q.mem_iff.mpr hx), (List.Perm.pairwise_iff (fun {x y} (u : Apart x y) => u.symm) q).mp P.2.2⟩
theorem Hp.at (P : Hp W h H) {i : Nat} {w : Bool} (hi : H[i]? = some (a, w, D)) : DsOk (wZ W) h a D := (P.2.1 _ (List.mem_of_getElem? hi)).2
theorem nodup_slot {Z : State} {fs : List Fd} {i j : Nat} {f g : Fd} (P : (fs.map (fSl Z)).Nodup) (hi : fs[i]? = some f) (hj : fs[j]? = some g) (hne : i ≠ j) : fSl Z g ≠ fSl Z f := fun e => by
  obtain ⟨li, rfl⟩ := List.getElem?_eq_some_iff.mp hi
  obtain ⟨lj, rfl⟩ := List.getElem?_eq_some_iff.mp hj
  have q := List.pairwise_iff_getElem.mp P
  rcases Nat.lt_or_gt_of_ne hne with u | u
  · exact q i j (by simpa using li) (by simpa using lj) u (by simpa using e.symm)
  · exact q j i (by simpa using lj) (by simpa using li) u (by simpa using e)
theorem map_set_same {Z : State} {fs : List Fd} {j : Nat} {O n d : String} {old w : Value} (hj : fs[j]? = some (O, n, d, old)) : (fs.set j (O, n, d, w)).map (fSl Z) = fs.map (fSl Z) := by
  apply List.ext_getElem? 
  intro k
  rw [List.getElem?_map, List.getElem?_map]
  by_cases e : j = k
  · subst e
    rw [List.getElem?_set_self (List.getElem?_eq_some_iff.mp hj).1, hj]
    rfl
  · rw [List.getElem?_set_ne e]
theorem ObOk.put {C O n d : String} {fs : List Fd} {j : Nat} {old : Value} (F : ObOk Z h a C fs) (hj : fs[j]? = some (O, n, d, old)) (E : Wr h h' a (Jvm.RoadKit.slotOf Z O n d) v) : ObOk Z h' a C (fs.set j (O, n, d, v)) := by
  refine ⟨F.1.wr E, fun f hf => ?_, by rw [map_set_same hj]; exact F.2.2⟩
  obtain ⟨k, hk⟩ := List.getElem?_of_mem hf
  by_cases e : j = k
  · subst e
    rw [List.getElem?_set_self (List.getElem?_eq_some_iff.mp hj).1] at hk
    cases hk
    exact Fld.same E (show Fld Z h a O n d old from F.2.1 _ (List.mem_of_getElem? hj))
  · rw [List.getElem?_set_ne e] at hk
    exact Fld.other E (show Fld Z h a f.1 f.2.1 f.2.2.1 f.2.2.2 from F.2.1 _ (List.mem_of_getElem? hk)) (Or.inr (show fSl Z f ≠ fSl Z (O, n, d, old) from nodup_slot F.2.2 hj hk e))
theorem ArOk.put {ty : FieldType} {ex ov : Bool} {vs : List Value} {j : Int32} {k : Nat} (F : ArOk Z h a ty ex ov vs) (hk : j.toNatClampNeg = k) (hf : fits ty v = true) (E : Wr h h' a j.toNatClampNeg v) : ArOk Z h' a ty ex ov (vs.set k v) := by
  obtain ⟨c, h1, h2, h3, h4, h5, h6⟩ := F
  subst hk
  refine ⟨c.setSlot j.toNatClampNeg v, h1.same E, ?_, by rw [List.length_set]; exact h3, fun u hu => ?_, fun q => (h5 q).wr E, h6⟩
  · rw [← h2]; simp [Cell.setSlot]
  · rcases List.mem_or_eq_of_mem_set hu with q | q
    · exact h4 u q
    · rw [q]; exact hf
end HeapLaws
/-- how the heap goes on: only what H says may be written has been; what H' says may be written is of H, or new -/
def Nx (h : Heap) (H : List En) (h' : Heap) (H' : List En) : Prop := h.size ≤ h'.size ∧ (∀ (x : Addr) (c : Cell), h[x]? = some c → (∀ y ∈ H, y.2.1 = true → y.1 ≠ x) → h'[x]? = some c) ∧ ∀ y ∈ H', y.2.1 = true → h.size ≤ y.1 ∨ ∃ z ∈ H, z.2.1 = true ∧ z.1 = y.1
theorem Nx.sub {h : Heap} {H H' : List En} (q : ∀ y ∈ H', y ∈ H) : Nx h H h H' := ⟨Nat.le_refl _, fun _ _ q _ => q, fun y hy r => Or.inr ⟨y, q y hy, r, rfl⟩⟩
theorem Nx.refl (h : Heap) (H : List En) : Nx h H h H := Nx.sub fun _ q => q
theorem Nx.keepAt {h h' : Heap} {H : List En} {i : Nat} {a : Addr} {D D' : Ds} (hi : H[i]? = some (a, true, D)) (E : Keep h h' [a]) : Nx h H h' (H.set i (a, true, D')) := by
  refine ⟨E.1, fun x c q r => E.2.1 x c q fun hm => r _ (List.mem_of_getElem? hi) rfl (List.mem_singleton.mp hm).symm, fun y hy r => Or.inr ?_⟩
  rcases List.mem_or_eq_of_mem_set hy with q | q
  · exact ⟨y, q, r, rfl⟩
  · exact ⟨_, List.mem_of_getElem? hi, rfl, by rw [q]⟩
theorem Nx.put {h h' : Heap} {H : List En} {i : Nat} {a : Addr} {D D' : Ds} {sl : Nat} {v : Value} (hi : H[i]? = some (a, true, D)) (E : Wr h h' a sl v) : Nx h H h' (H.set i (a, true, D')) := Nx.keepAt hi (Keep.of_wr E)
theorem Nx.new {h h' : Heap} {H : List En} {D : Ds} (E : Ext h h') : Nx h H h' ((h.size, true, D) :: H) := ⟨E.1, fun x c q _ => E.2 x c q, fun y hy r => by
  rcases List.mem_cons.mp hy with rfl | hy
  · exact Or.inl (Nat.le_refl _)
  · exact Or.inr ⟨y, hy, r, rfl⟩⟩
/-- since the body began nothing has been written but what wP says -/
def Ko (W : Wd) (K : Kx) (h : Heap) : Prop := (kS K).heap.size ≤ h.size ∧ ∀ (x : Addr) (c : Cell), (kS K).heap[x]? = some c → ¬ wP W x → h[x]? = some c
/-- what may be written is none of the constants' cells -/
def Sf (Z : State) (EL : List (String × Nat)) (vm : Vm) (h : Heap) (H : List En) : Prop := ∀ y ∈ H, y.2.1 = true → Safe Z EL vm h y.1
/-- the ghost: where the run may have interned: the true start, and the constants whose text is known -/
def Gw (W : Wd) (K : Kx) (h : Heap) (H : List En) : Prop := match kW K with
  | none => True
  | some (s0, EL) => kS K = s0.setVm (kS K).vm ∧ (∃ k0, s0.Since (kS K).vm k0 ∧ k0 ≤ h.size) ∧ EW (wZ W) (wA W) EL ∧ CHr (wZ W) EL s0.vm s0.heap (kS K).vm h ∧ Sf (wZ W) EL (kS K).vm h H
theorem Gw.get {W : Wd} {K : Kx} {h : Heap} {H : List En} {s0 : State} {EL : List (String × Nat)} (G : Gw W K h H) (e : kW K = some (s0, EL)) : kS K = s0.setVm (kS K).vm ∧ (∃ k0, s0.Since (kS K).vm k0 ∧ k0 ≤ h.size) ∧ EW (wZ W) (wA W) EL ∧ CHr (wZ W) EL s0.vm s0.heap (kS K).vm h ∧ Sf (wZ W) EL (kS K).vm h H := by
  unfold Gw at G
  rw [e] at G
  exact G
theorem Gw.mk {W : Wd} {K : Kx} {h : Heap} {H : List En} {s0 : State} {EL : List (String × Nat)} (e : kW K = some (s0, EL)) (G : kS K = s0.setVm (kS K).vm ∧ (∃ k0, s0.Since (kS K).vm k0 ∧ k0 ≤ h.size) ∧ EW (wZ W) (wA W) EL ∧ CHr (wZ W) EL s0.vm s0.heap (kS K).vm h ∧ Sf (wZ W) EL (kS K).vm h H) : Gw W K h H := by
  unfold Gw
  rw [e]
  exact G
def Gs (W : Wd) (K : Kx) (h : Heap) (H : List En) : Prop := Ko W K h ∧ Gw W K h H
theorem Gs.nx {W : Wd} {K : Kx} {h h' : Heap} {H H' : List En} (G : Gs W K h H) (P : Hp W h H) (N : Nx h H h' H') : Gs W K h' H' := by
  obtain ⟨⟨G1, G2⟩, G⟩ := G
  refine ⟨⟨Nat.le_trans G1 N.1, fun x c q r => N.2.1 x c (G2 x c q r) fun y hy hr e => r (e ▸ ((P.2.1 y hy).1 hr).2)⟩, ?_⟩
  rcases e : kW K with _ | ⟨s0, EL⟩
  · unfold Gw; rw [e]; trivial
  · obtain ⟨a, ⟨k0, b, d⟩, e1, f, g⟩ := G.get e
    have st := f.1.step (h' := h') (fun y B cell q => N.2.1 y cell q (fun z hz hr e => g z hz hr (e ▸ B)))
    refine Gw.mk e ⟨a, ⟨k0, b, Nat.le_trans d N.1⟩, e1, f.trans ⟨st.1, N.1, fun y q => Or.inl (st.2 y q)⟩, fun y hy hr B => ?_⟩
    rcases N.2.2 y hy hr with q | ⟨z, hz, hr', e2⟩
    · exact Safe.new q (st.2 _ B)
    · exact g z hz hr' (e2 ▸ st.2 _ B)
/-- how a body ends: narrow, or seen from the true start -/
def EndK (W : Wd) (K : Kx) (o : Outcome) (U : State) (L : List Loc) (H' : List En) (k n : Nat) : Prop := Ko W K U.heap ∧ match kW K with
  | none => FrameEnd (kS K) o U L k n
  | some (s0, EL) => ReturnedEndW s0 o U L k n ∧ CHr (wZ W) EL s0.vm s0.heap U.vm U.heap ∧ Sf (wZ W) EL U.vm U.heap H'
theorem EndK.shift {W : Wd} {K K' : Kx} {o : Outcome} {U : State} {L : List Loc} {H' : List En} {k n : Nat} {s0 : State} {EL : List (String × Nat)} (e' : kW K' = some (s0, EL)) (e : kW K = some (s0, EL)) (eh : (kS K').heap = (kS K).heap) (X : EndK W K' o U L H' k n) : EndK W K o U L H' k n := by
  unfold EndK Ko at *
  rw [e', eh] at X
  rw [e]
  exact X
/-- the run stands in K's body, over the heap that H tells -/
def Std (W : Wd) (K : Kx) (M : Mt) (T : State) (H : List En) (c n : Nat) : Prop :=
  (kP K).tables.exec = Jvm.exec ∧ (wZ W).Warmed39 (kS K).vm ∧ (kS K).vm.findClass (mN M).cls = some (kM K).cls ∧ (kC K).code = mC M ∧ (kC K).maxLocals = mL M ∧ (kH K).sig.returnType = mT M ∧ (kH K).name = (mN M).name ∧ (kH K).locks = false ∧ Gs W K T.heap H ∧
  ∃ locs, Stand (kP K) (wL W) (kE K) (mR M) (kS K) (kM K) (kA K) (kB K) (kH K) (kC K) T locs c n ∧ Fr (wN W) locs ∧ Hp W T.heap H
def Fini (W : Wd) (K : Kx) (M : Mt) (Q : Option Value → List En → Prop) (U : State) : Prop :=
  ∃ o, U.status = .running ∧ Ended U (kB K) o ∧ ∃ v L, o = .returned v ∧ Fr (wN W) L ∧ ∃ H', Hp W U.heap H' ∧ Q v H' ∧ EndK W K o U L H' (mR M).cells (mR M).slots
def Wp (W : Wd) (K : Kx) (M : Mt) (Q : Option Value → List En → Prop) (H : List En) (c n pc : Nat) (L : List Slot) (S : List Value) : Prop :=
  ∀ T, Std W K M T H c n → ∃ U, Steps (kP K).tables (kE K) (kB K) (T.setTop (mkF (kM K) pc L.toArray S)) U ∧ Fini W K M Q U
/-- from a call's start to its end nothing has been written but what wP says -/
def Kl (W : Wd) (h h' : Heap) : Prop := h.size ≤ h'.size ∧ ∀ (x : Addr) (c : Cell), h[x]? = some c → ¬ wP W x → h'[x]? = some c
/-- what a method does, called with 'as' over the heap that H tells -/
def Ct (W : Wd) (M : Mt) (as : List Value) (H : List En) (Q : Option Value → List En → Prop) : Prop :=
  ∀ (ws : List Cond) (h0 : Heap), Hp W h0 H → MetFree (wL W) (mN M) (head1 (Cond.code (mN M) (mC M) (mL M) (mT M) :: ws) (mR M)) (fun a U => a = as.toArray ∧ (wZ W).Warmed39 U.vm ∧ U.heap = h0) (fun _ _ _ _ _ => True)
    (fun _ U o U' => ∃ v L, o = .returned v ∧ ((Fr (wN W) L ∧ Kl W h0 U'.heap) ∧ ∃ H', Hp W U'.heap H' ∧ Q v H') ∧ FrameEnd U o U' L (mR M).cells (mR M).slots)
def Dc (C : ByteArray) (pc : Nat) (i : Instr) (len pc' : Nat) : Prop := decode C pc = .ok (i, len) ∧ pc + len = pc'
def Bj (C : ByteArray) (pc : Nat) (i : Instr) (o : Int) (pc' pt : Nat) : Prop := decode C pc = .ok (i, 3) ∧ pc + 3 = pc' ∧ 0 ≤ (pc : Int) + o ∧ ((pc : Int) + o).toNat = pt
def Wok (W : Wd) (d : Cond) : Prop := d.before (wA W) (wZ W) = true
section Logic
variable {W : Wd} {K : Kx} {M : Mt} {Q : Option Value → List En → Prop} {H H' : List En} {c n pc pc' pt len : Nat} {L L' : List Slot} {S : List Value}
def slotsOf : List Value → List Slot
  | [] => []
  | v :: vs => if v.category = 2 then .val v :: .second :: slotsOf vs else .val v :: slotsOf vs
theorem slots_fold : ∀ (as : List Value) (acc : Array Slot), as.foldl (fun acc v => if v.category = 2 then (acc.push (.val v)).push .second else acc.push (.val v)) acc = acc ++ (slotsOf as).toArray
  | [], acc => by simp [slotsOf]
  | v :: vs, acc => by
    rw [List.foldl_cons, slots_fold vs]
    by_cases h : v.category = 2
    · simp [slotsOf, h]
    · simp [slotsOf, h]
theorem entry_eq (m : MethodId) (as : List Value) (ml : Nat) : entryFrame m as.toArray ml = mkF m 0 (slotsOf as ++ List.replicate (ml - (slotsOf as).length) Slot.unset).toArray [] := by
  have h : argsToLocals as.toArray ml = (slotsOf as ++ List.replicate (ml - (slotsOf as).length) Slot.unset).toArray := by
    simp [argsToLocals, slots_fold]
  unfold entryFrame
  rw [h]
theorem Ct.intro {as : List Value} {L0 : List Slot} (hp : plainFor (mN M) = true) (he : slotsOf as ++ List.replicate (mL M - (slotsOf as).length) Slot.unset = L0) (body : ∀ K, Wp W K M Q H 0 0 0 L0 []) : Ct W M as H Q := by
  intro ws h0 P
  refine MetFree.of_bodySF hp hisR ?_
  intro p e s m args below meth c s₁ Bd hml0 hP hK
  obtain ⟨rfl, hZ, hh⟩ := hP
  have e0 : s₁.heap = h0 := by rw [← hh, Bd.state]; rfl
  obtain ⟨U, st, o, h1, h2, h3⟩ := body (p, e, s, m, as.toArray, below, meth, c, none) s₁ ⟨Bd.exec, hZ, findClass_of_methodNamed Bd.named, Bd.bytes, hml0, Bd.returns, (name_of_methodNamed Bd.named Bd.method).1, Bd.notSynchronized, ⟨⟨Nat.le_of_eq (by rw [e0, ← hh]; first | done | rfl), fun x c q _ => by rw [e0, ← hh]; exact q⟩, trivial⟩, [], Stand.of_body Bd, Fr.nil _, by rw [e0]; exact P⟩
  obtain ⟨v, L, e1, e2, H', e3, e4, e5⟩ := h3
  exact ⟨U, o, castTop ((entry_eq m as (mL M)).trans (by rw [he]; rfl)) st, h1, h2, v, L, e1, ⟨⟨e2, by rw [← hh]; exact e5.1⟩, H', e3, e4⟩, e5.2⟩
theorem Ct.mono {as : List Value} {Q' : Option Value → List En → Prop} (C : Ct W M as H Q) (q : ∀ v H', Q v H' → Q' v H') : Ct W M as H Q' := fun ws h0 P =>
  (C ws h0 P).mono (fun _ _ u => u) (fun _ _ _ _ _ u => u) (fun _ _ _ _ _ ⟨v, L, e1, ⟨e2, H', e3, e4⟩, e5⟩ => ⟨v, L, e1, ⟨e2, H', e3, q v H' e4⟩, e5⟩)
theorem Wp.mono {Q' : Option Value → List En → Prop} (k : Wp W K M Q H c n pc L S) (q : ∀ v H', Q v H' → Q' v H') : Wp W K M Q' H c n pc L S := fun T X => by
  obtain ⟨U, st, o, h1, h2, v, L, e1, e2, H', e3, e4, e5⟩ := k T X
  exact ⟨U, st, o, h1, h2, v, L, e1, e2, H', e3, q v H' e4, e5⟩
/-- a step that leaves the state -/
theorem Wp.go {S' : List Value} (st : ∀ T locs, Stand (kP K) (wL W) (kE K) (mR M) (kS K) (kM K) (kA K) (kB K) (kH K) (kC K) T locs c n → (kP K).tables.exec = Jvm.exec → (wZ W).Warmed39 (kS K).vm → (kS K).vm.findClass (mN M).cls = some (kM K).cls → (kC K).code = mC M → (kC K).maxLocals = mL M → Hp W T.heap H →
    ∀ t, Steps (kP K).tables (kE K) (kB K) (T.setTop (mkF (kM K) pc' L'.toArray S')) t → Steps (kP K).tables (kE K) (kB K) (T.setTop (mkF (kM K) pc L.toArray S)) t) (k : Wp W K M Q H c n pc' L' S') : Wp W K M Q H c n pc L S := fun T X => by
  obtain ⟨hx, hZ, ho, hb, hm, hr, hn, hl, gs, locs, X, N, P⟩ := X
  obtain ⟨U, s1, s2⟩ := k T ⟨hx, hZ, ho, hb, hm, hr, hn, hl, gs, locs, X, N, P⟩
  exact ⟨U, st T locs X hx hZ ho hb hm P _ s1, s2⟩
/-- a step that comes to another state -/
theorem Wp.to {S' : List Value} {c' n' : Nat} (st : ∀ T locs, Stand (kP K) (wL W) (kE K) (mR M) (kS K) (kM K) (kA K) (kB K) (kH K) (kC K) T locs c n → (kP K).tables.exec = Jvm.exec → (wZ W).Warmed39 (kS K).vm → (kS K).vm.findClass (mN M).cls = some (kM K).cls → (kC K).code = mC M → (kC K).maxLocals = mL M → (kH K).name = (mN M).name → Hp W T.heap H → Fr (wN W) locs →
    ∃ T' locs', Stand (kP K) (wL W) (kE K) (mR M) (kS K) (kM K) (kA K) (kB K) (kH K) (kC K) T' locs' c' n' ∧ Fr (wN W) locs' ∧ Hp W T'.heap H' ∧ Nx T.heap H T'.heap H' ∧ ∀ t, Steps (kP K).tables (kE K) (kB K) (T'.setTop (mkF (kM K) pc' L'.toArray S')) t → Steps (kP K).tables (kE K) (kB K) (T.setTop (mkF (kM K) pc L.toArray S)) t) (k : Wp W K M Q H' c' n' pc' L' S') : Wp W K M Q H c n pc L S := fun T X => by
  obtain ⟨hx, hZ, ho, hb, hm, hr, hn, hl, gs, locs, X, N, P⟩ := X
  obtain ⟨T', locs', X', N', P', le, s0⟩ := st T locs X hx hZ ho hb hm hn P N
  obtain ⟨U, s1, s2⟩ := k T' ⟨hx, hZ, ho, hb, hm, hr, hn, hl, gs.nx P le, locs', X', N', P'⟩
  exact ⟨U, s0 _ s1, s2⟩
theorem Wp.heap (q : H.Perm H') (k : Wp W K M Q H' c n pc L S) : Wp W K M Q H c n pc L S := fun T X => by
  obtain ⟨hx, hZ, ho, hb, hm, hr, hn, hl, gs, locs, X, N, P⟩ := X
  exact k T ⟨hx, hZ, ho, hb, hm, hr, hn, hl, gs.nx P (Nx.sub (fun y hy => q.mem_iff.mpr hy)), locs, X, N, P.perm q⟩
theorem Wp.less (q : H'.Sublist H) (k : Wp W K M Q H' c n pc L S) : Wp W K M Q H c n pc L S := fun T X => by
  obtain ⟨hx, hZ, ho, hb, hm, hr, hn, hl, gs, locs, X, N, P⟩ := X
  exact k T ⟨hx, hZ, ho, hb, hm, hr, hn, hl, gs.nx P (Nx.sub (fun y hy => q.subset hy)), locs, X, N, P.sub q⟩
theorem Wp.room {c' n' : Nat} (q1 : c ≤ c') (q2 : n ≤ n') (k : Wp W K M Q H c' n' pc L S) : Wp W K M Q H c n pc L S := fun T X => by
  obtain ⟨hx, hZ, ho, hb, hm, hr, hn, hl, gs, locs, X, N, P⟩ := X
  exact k T ⟨hx, hZ, ho, hb, hm, hr, hn, hl, gs, locs, X.mono q1 q2, N, P⟩
theorem hbM {M : Mt} {c : Code} (h : c.code = mC M) {r : Except DecodeError (Instr × Nat)} (h2 : decode (mC M) pc = r) : decode c.code pc = r := by rw [h]; exact h2
theorem Wp.aloadN {k : Fin 4} {v : Value} (hl : L[k.val]? = some (.val v)) (hv : v.isRef = true) (hd : Dc (mC M) pc (.aload_n k) 1 pc') (k : Wp W K M Q H c n pc' L (v :: S)) : Wp W K M Q H c n pc L (S) := by
  obtain ⟨hd, rfl⟩ := hd
  exact Wp.go (fun T locs X hx _ ho hc _ _ t r => XS.aloadN X.here hx rfl (hbM hc hd) (by simpa using hl) hv r) k
theorem Wp.aload {k : Nat} {v : Value} (hl : L[k]? = some (.val v)) (hv : v.isRef = true) (hd : Dc (mC M) pc (.aload k) 2 pc') (k : Wp W K M Q H c n pc' L (v :: S)) : Wp W K M Q H c n pc L (S) := by
  obtain ⟨hd, rfl⟩ := hd
  exact Wp.go (fun T locs X hx _ ho hc _ _ t r => XS.aload X.here hx rfl (hbM hc hd) (by simpa using hl) hv r) k
theorem Wp.iloadN {k : Fin 4} {v : Int32} (hl : L[k.val]? = some (.val (.int v))) (hd : Dc (mC M) pc (.iload_n k) 1 pc') (k : Wp W K M Q H c n pc' L (.int v :: S)) : Wp W K M Q H c n pc L (S) := by
  obtain ⟨hd, rfl⟩ := hd
  exact Wp.go (fun T locs X hx _ ho hc _ _ t r => XS.iloadN X.here hx rfl (hbM hc hd) (by simpa using hl) r) k
theorem Wp.iload {k : Nat} {v : Int32} (hl : L[k]? = some (.val (.int v))) (hd : Dc (mC M) pc (.iload k) 2 pc') (k : Wp W K M Q H c n pc' L (.int v :: S)) : Wp W K M Q H c n pc L (S) := by
  obtain ⟨hd, rfl⟩ := hd
  exact Wp.go (fun T locs X hx _ ho hc _ _ t r => XS.iload X.here hx rfl (hbM hc hd) (by simpa using hl) r) k
theorem Wp.lloadN {k : Fin 4} {v : Int64} (hl : L[k.val]? = some (.val (.long v))) (hd : Dc (mC M) pc (.lload_n k) 1 pc') (k : Wp W K M Q H c n pc' L (.long v :: S)) : Wp W K M Q H c n pc L (S) := by
  obtain ⟨hd, rfl⟩ := hd
  exact Wp.go (fun T locs X hx _ ho hc _ _ t r => XT.lloadN X.here hx rfl (hbM hc hd) (by simpa using hl) r) k
theorem Wp.lload {k : Nat} {v : Int64} (hl : L[k]? = some (.val (.long v))) (hd : Dc (mC M) pc (.lload k) 2 pc') (k : Wp W K M Q H c n pc' L (.long v :: S)) : Wp W K M Q H c n pc L (S) := by
  obtain ⟨hd, rfl⟩ := hd
  exact Wp.go (fun T locs X hx _ ho hc _ _ t r => XT.lload X.here hx rfl (hbM hc hd) (by simpa using hl) r) k
theorem Wp.astoreN {k : Fin 4} {v : Value} (hv : v.isRef = true) (hl : storeLocals L.toArray k.val (v) = some L'.toArray) (hd : Dc (mC M) pc (.astore_n k) 1 pc') (k : Wp W K M Q H c n pc' L' (S)) : Wp W K M Q H c n pc L (v :: S) := by
  obtain ⟨hd, rfl⟩ := hd
  exact Wp.go (fun T locs X hx _ ho hc _ _ t r => XS.astoreN X.here hx rfl (hbM hc hd) rfl hv hl r) k
theorem Wp.astore {k : Nat} {v : Value} (hv : v.isRef = true) (hl : storeLocals L.toArray k (v) = some L'.toArray) (hd : Dc (mC M) pc (.astore k) 2 pc') (k : Wp W K M Q H c n pc' L' (S)) : Wp W K M Q H c n pc L (v :: S) := by
  obtain ⟨hd, rfl⟩ := hd
  exact Wp.go (fun T locs X hx _ ho hc _ _ t r => XS.astore X.here hx rfl (hbM hc hd) rfl hv hl r) k
theorem Wp.istoreN {k : Fin 4} {v : Int32} (hl : storeLocals L.toArray k.val (.int v) = some L'.toArray) (hd : Dc (mC M) pc (.istore_n k) 1 pc') (k : Wp W K M Q H c n pc' L' (S)) : Wp W K M Q H c n pc L (.int v :: S) := by
  obtain ⟨hd, rfl⟩ := hd
  exact Wp.go (fun T locs X hx _ ho hc _ _ t r => XS.istoreN X.here hx rfl (hbM hc hd) rfl hl r) k
theorem Wp.istore {k : Nat} {v : Int32} (hl : storeLocals L.toArray k (.int v) = some L'.toArray) (hd : Dc (mC M) pc (.istore k) 2 pc') (k : Wp W K M Q H c n pc' L' (S)) : Wp W K M Q H c n pc L (.int v :: S) := by
  obtain ⟨hd, rfl⟩ := hd
  exact Wp.go (fun T locs X hx _ ho hc _ _ t r => XS.istore X.here hx rfl (hbM hc hd) rfl hl r) k
theorem Wp.lstoreN {k : Fin 4} {v : Int64} (hl : storeLocals L.toArray k.val (.long v) = some L'.toArray) (hd : Dc (mC M) pc (.lstore_n k) 1 pc') (k : Wp W K M Q H c n pc' L' (S)) : Wp W K M Q H c n pc L (.long v :: S) := by
  obtain ⟨hd, rfl⟩ := hd
  exact Wp.go (fun T locs X hx _ ho hc _ _ t r => XT.lstoreN X.here hx rfl (hbM hc hd) rfl hl r) k
theorem Wp.lstore {k : Nat} {v : Int64} (hl : storeLocals L.toArray k (.long v) = some L'.toArray) (hd : Dc (mC M) pc (.lstore k) 2 pc') (k : Wp W K M Q H c n pc' L' (S)) : Wp W K M Q H c n pc L (.long v :: S) := by
  obtain ⟨hd, rfl⟩ := hd
  exact Wp.go (fun T locs X hx _ ho hc _ _ t r => XT.lstore X.here hx rfl (hbM hc hd) rfl hl r) k
theorem Wp.iinc {k : Nat} {i : Int} {x z : Int32} (hl : L[k]? = some (.val (.int x))) (hz : x + Int32.ofInt i = z) (hs : storeLocals L.toArray k (.int z) = some L'.toArray) (hd : Dc (mC M) pc (.iinc k i) 3 pc') (k : Wp W K M Q H c n pc' L' (S)) : Wp W K M Q H c n pc L (S) := by
  obtain ⟨hd, rfl⟩ := hd
  exact Wp.go (fun T locs X hx _ ho hc _ _ t r => XS.iinc X.here hx rfl (hbM hc hd) (by simpa using hl) (hz ▸ hs) r) k
theorem Wp.iconst {i : Int} {z : Int32} (hz : Int32.ofInt i = z) (hd : Dc (mC M) pc (.iconst i) 1 pc') (k : Wp W K M Q H c n pc' L (.int z :: S)) : Wp W K M Q H c n pc L (S) := by
  obtain ⟨hd, rfl⟩ := hd
  exact Wp.go (fun T locs X hx _ ho hc _ _ t r => XS.iconst X.here hx rfl (hbM hc hd) (hz ▸ r)) k
theorem Wp.bipush {i : Int} {z : Int32} (hz : (Int8.ofInt i).toInt32 = z) (hd : Dc (mC M) pc (.bipush i) 2 pc') (k : Wp W K M Q H c n pc' L (.int z :: S)) : Wp W K M Q H c n pc L (S) := by
  obtain ⟨hd, rfl⟩ := hd
  exact Wp.go (fun T locs X hx _ ho hc _ _ t r => XS.bipush X.here hx rfl (hbM hc hd) (hz ▸ r)) k
theorem Wp.sipush {i : Int} {z : Int32} (hz : (Int16.ofInt i).toInt32 = z) (hd : Dc (mC M) pc (.sipush i) 3 pc') (k : Wp W K M Q H c n pc' L (.int z :: S)) : Wp W K M Q H c n pc L (S) := by
  obtain ⟨hd, rfl⟩ := hd
  exact Wp.go (fun T locs X hx _ ho hc _ _ t r => XS.sipush X.here hx rfl (hbM hc hd) (hz ▸ r)) k
theorem Wp.aconstNull  (hd : Dc (mC M) pc .aconst_null 1 pc') (k : Wp W K M Q H c n pc' L (.null :: S)) : Wp W K M Q H c n pc L (S) := by
  obtain ⟨hd, rfl⟩ := hd
  exact Wp.go (fun T locs X hx _ ho hc _ _ t r => XS.aconstNull X.here hx rfl (hbM hc hd) r) k
theorem Wp.lconst {k : Fin 2} {z : Int64} (hz : Int64.ofNat k = z) (hd : Dc (mC M) pc (.lconst k) 1 pc') (k : Wp W K M Q H c n pc' L (.long z :: S)) : Wp W K M Q H c n pc L (S) := by
  obtain ⟨hd, rfl⟩ := hd
  exact Wp.go (fun T locs X hx _ ho hc _ _ t r => XT.lconst X.here hx rfl (hbM hc hd) (hz ▸ r)) k
theorem Wp.ldcI {y0 : MethodName} (hM : mN M = y0) {i : Nat} {z : Int32} (w : Wok W (.constant y0.cls i z)) (hd : Dc (mC M) pc (.ldc i) 2 pc') (k : Wp W K M Q H c n pc' L (.int z :: S)) : Wp W K M Q H c n pc L (S) := by
  subst hM
  obtain ⟨hd, rfl⟩ := hd
  exact Wp.go (fun T locs X hx h0 ho hc _ _ t r => ldcI X hx ho (mvT h0 w) rfl (hbM hc hd) r) k
theorem Wp.ldcWI {y0 : MethodName} (hM : mN M = y0) {i : Nat} {z : Int32} (w : Wok W (.constant y0.cls i z)) (hd : Dc (mC M) pc (.ldc_w i) 3 pc') (k : Wp W K M Q H c n pc' L (.int z :: S)) : Wp W K M Q H c n pc L (S) := by
  subst hM
  obtain ⟨hd, rfl⟩ := hd
  exact Wp.go (fun T locs X hx h0 ho hc _ _ t r => ldcWI X hx ho (mvT h0 w) rfl (hbM hc hd) r) k
theorem Wp.ldc2J {y0 : MethodName} (hM : mN M = y0) {i : Nat} {z : Int64} (w : Wok W (.constantLong y0.cls i z)) (hd : Dc (mC M) pc (.ldc2_w i) 3 pc') (k : Wp W K M Q H c n pc' L (.long z :: S)) : Wp W K M Q H c n pc L (S) := by
  subst hM
  obtain ⟨hd, rfl⟩ := hd
  exact Wp.go (fun T locs X hx h0 ho hc _ _ t r => ldc2J X hx ho (mvT h0 w) rfl (hbM hc hd) r) k
theorem Wp.iadd {x y z : Int32} (hz : x + y = z) (hd : Dc (mC M) pc .iadd 1 pc') (k : Wp W K M Q H c n pc' L (.int z :: S)) : Wp W K M Q H c n pc L (.int y :: .int x :: S) := by
  obtain ⟨hd, rfl⟩ := hd
  exact Wp.go (fun T locs X hx _ ho hc _ _ t r => XS.iadd X.here hx rfl (hbM hc hd) rfl (hz ▸ r)) k
theorem Wp.isub {x y z : Int32} (hz : x - y = z) (hd : Dc (mC M) pc .isub 1 pc') (k : Wp W K M Q H c n pc' L (.int z :: S)) : Wp W K M Q H c n pc L (.int y :: .int x :: S) := by
  obtain ⟨hd, rfl⟩ := hd
  exact Wp.go (fun T locs X hx _ ho hc _ _ t r => XS.isub X.here hx rfl (hbM hc hd) rfl (hz ▸ r)) k
theorem Wp.imul {x y z : Int32} (hz : x * y = z) (hd : Dc (mC M) pc .imul 1 pc') (k : Wp W K M Q H c n pc' L (.int z :: S)) : Wp W K M Q H c n pc L (.int y :: .int x :: S) := by
  obtain ⟨hd, rfl⟩ := hd
  exact Wp.go (fun T locs X hx _ ho hc _ _ t r => XS.imul X.here hx rfl (hbM hc hd) rfl (hz ▸ r)) k
theorem Wp.iand {x y z : Int32} (hz : x &&& y = z) (hd : Dc (mC M) pc .iand 1 pc') (k : Wp W K M Q H c n pc' L (.int z :: S)) : Wp W K M Q H c n pc L (.int y :: .int x :: S) := by
  obtain ⟨hd, rfl⟩ := hd
  exact Wp.go (fun T locs X hx _ ho hc _ _ t r => XS.iand X.here hx rfl (hbM hc hd) rfl (hz ▸ r)) k
theorem Wp.ior {x y z : Int32} (hz : x ||| y = z) (hd : Dc (mC M) pc .ior 1 pc') (k : Wp W K M Q H c n pc' L (.int z :: S)) : Wp W K M Q H c n pc L (.int y :: .int x :: S) := by
  obtain ⟨hd, rfl⟩ := hd
  exact Wp.go (fun T locs X hx _ ho hc _ _ t r => XT.ior X.here hx rfl (hbM hc hd) rfl (hz ▸ r)) k
theorem Wp.ixor {x y z : Int32} (hz : x ^^^ y = z) (hd : Dc (mC M) pc .ixor 1 pc') (k : Wp W K M Q H c n pc' L (.int z :: S)) : Wp W K M Q H c n pc L (.int y :: .int x :: S) := by
  obtain ⟨hd, rfl⟩ := hd
  exact Wp.go (fun T locs X hx _ ho hc _ _ t r => XT.ixor X.here hx rfl (hbM hc hd) rfl (hz ▸ r)) k
theorem Wp.ishl {x y z : Int32} (hz : x <<< (y &&& 31) = z) (hd : Dc (mC M) pc .ishl 1 pc') (k : Wp W K M Q H c n pc' L (.int z :: S)) : Wp W K M Q H c n pc L (.int y :: .int x :: S) := by
  obtain ⟨hd, rfl⟩ := hd
  exact Wp.go (fun T locs X hx _ ho hc _ _ t r => XT.ishl X.here hx rfl (hbM hc hd) rfl (hz ▸ r)) k
theorem Wp.ishr {x y z : Int32} (hz : x >>> (y &&& 31) = z) (hd : Dc (mC M) pc .ishr 1 pc') (k : Wp W K M Q H c n pc' L (.int z :: S)) : Wp W K M Q H c n pc L (.int y :: .int x :: S) := by
  obtain ⟨hd, rfl⟩ := hd
  exact Wp.go (fun T locs X hx _ ho hc _ _ t r => XT.ishr X.here hx rfl (hbM hc hd) rfl (hz ▸ r)) k
theorem Wp.iushr {x y z : Int32} (hz : Jvm.Free.XT.ushr x y = z) (hd : Dc (mC M) pc .iushr 1 pc') (k : Wp W K M Q H c n pc' L (.int z :: S)) : Wp W K M Q H c n pc L (.int y :: .int x :: S) := by
  obtain ⟨hd, rfl⟩ := hd
  exact Wp.go (fun T locs X hx _ ho hc _ _ t r => XT.iushr X.here hx rfl (hbM hc hd) rfl (hz ▸ r)) k
theorem Wp.idiv {x y z : Int32} (hy : y ≠ 0) (hz : x / y = z) (hd : Dc (mC M) pc .idiv 1 pc') (k : Wp W K M Q H c n pc' L (.int z :: S)) : Wp W K M Q H c n pc L (.int y :: .int x :: S) := by
  obtain ⟨hd, rfl⟩ := hd
  exact Wp.go (fun T locs X hx _ ho hc _ _ t r => XS.idiv X.here hx rfl (hbM hc hd) rfl hy (hz ▸ r)) k
theorem Wp.irem {x y z : Int32} (hy : y ≠ 0) (hz : x % y = z) (hd : Dc (mC M) pc .irem 1 pc') (k : Wp W K M Q H c n pc' L (.int z :: S)) : Wp W K M Q H c n pc L (.int y :: .int x :: S) := by
  obtain ⟨hd, rfl⟩ := hd
  exact Wp.go (fun T locs X hx _ ho hc _ _ t r => iremM X hx rfl (hbM hc hd) rfl hy (hz ▸ r)) k
theorem Wp.ineg {x z : Int32} (hz : -x = z) (hd : Dc (mC M) pc .ineg 1 pc') (k : Wp W K M Q H c n pc' L (.int z :: S)) : Wp W K M Q H c n pc L (.int x :: S) := by
  obtain ⟨hd, rfl⟩ := hd
  exact Wp.go (fun T locs X hx _ ho hc _ _ t r => XS.ineg X.here hx rfl (hbM hc hd) rfl (hz ▸ r)) k
theorem Wp.i2b {x z : Int32} (hz : x.toInt8.toInt32 = z) (hd : Dc (mC M) pc .i2b 1 pc') (k : Wp W K M Q H c n pc' L (.int z :: S)) : Wp W K M Q H c n pc L (.int x :: S) := by
  obtain ⟨hd, rfl⟩ := hd
  exact Wp.go (fun T locs X hx _ ho hc _ _ t r => XT.i2b X.here hx rfl (hbM hc hd) rfl (hz ▸ r)) k
theorem Wp.i2c {x z : Int32} (hz : x.toUInt32.toUInt16.toUInt32.toInt32 = z) (hd : Dc (mC M) pc .i2c 1 pc') (k : Wp W K M Q H c n pc' L (.int z :: S)) : Wp W K M Q H c n pc L (.int x :: S) := by
  obtain ⟨hd, rfl⟩ := hd
  exact Wp.go (fun T locs X hx _ ho hc _ _ t r => XT.i2c X.here hx rfl (hbM hc hd) rfl (hz ▸ r)) k
theorem Wp.i2s {x z : Int32} (hz : x.toInt16.toInt32 = z) (hd : Dc (mC M) pc .i2s 1 pc') (k : Wp W K M Q H c n pc' L (.int z :: S)) : Wp W K M Q H c n pc L (.int x :: S) := by
  obtain ⟨hd, rfl⟩ := hd
  exact Wp.go (fun T locs X hx _ ho hc _ _ t r => XT.i2s X.here hx rfl (hbM hc hd) rfl (hz ▸ r)) k
theorem Wp.i2l {x : Int32} {z : Int64} (hz : x.toInt64 = z) (hd : Dc (mC M) pc .i2l 1 pc') (k : Wp W K M Q H c n pc' L (.long z :: S)) : Wp W K M Q H c n pc L (.int x :: S) := by
  obtain ⟨hd, rfl⟩ := hd
  exact Wp.go (fun T locs X hx _ ho hc _ _ t r => XT.i2l X.here hx rfl (hbM hc hd) rfl (hz ▸ r)) k
theorem Wp.l2i {x : Int64} {z : Int32} (hz : x.toInt32 = z) (hd : Dc (mC M) pc .l2i 1 pc') (k : Wp W K M Q H c n pc' L (.int z :: S)) : Wp W K M Q H c n pc L (.long x :: S) := by
  obtain ⟨hd, rfl⟩ := hd
  exact Wp.go (fun T locs X hx _ ho hc _ _ t r => XT.l2i X.here hx rfl (hbM hc hd) rfl (hz ▸ r)) k
theorem Wp.ladd {x y z : Int64} (hz : x + y = z) (hd : Dc (mC M) pc .ladd 1 pc') (k : Wp W K M Q H c n pc' L (.long z :: S)) : Wp W K M Q H c n pc L (.long y :: .long x :: S) := by
  obtain ⟨hd, rfl⟩ := hd
  exact Wp.go (fun T locs X hx _ ho hc _ _ t r => XT.ladd X.here hx rfl (hbM hc hd) rfl (hz ▸ r)) k
theorem Wp.lsub {x y z : Int64} (hz : x - y = z) (hd : Dc (mC M) pc .lsub 1 pc') (k : Wp W K M Q H c n pc' L (.long z :: S)) : Wp W K M Q H c n pc L (.long y :: .long x :: S) := by
  obtain ⟨hd, rfl⟩ := hd
  exact Wp.go (fun T locs X hx _ ho hc _ _ t r => XT.lsub X.here hx rfl (hbM hc hd) rfl (hz ▸ r)) k
theorem Wp.lmul {x y z : Int64} (hz : x * y = z) (hd : Dc (mC M) pc .lmul 1 pc') (k : Wp W K M Q H c n pc' L (.long z :: S)) : Wp W K M Q H c n pc L (.long y :: .long x :: S) := by
  obtain ⟨hd, rfl⟩ := hd
  exact Wp.go (fun T locs X hx _ ho hc _ _ t r => XT.lmul X.here hx rfl (hbM hc hd) rfl (hz ▸ r)) k
theorem Wp.land {x y z : Int64} (hz : x &&& y = z) (hd : Dc (mC M) pc .land 1 pc') (k : Wp W K M Q H c n pc' L (.long z :: S)) : Wp W K M Q H c n pc L (.long y :: .long x :: S) := by
  obtain ⟨hd, rfl⟩ := hd
  exact Wp.go (fun T locs X hx _ ho hc _ _ t r => XT.land X.here hx rfl (hbM hc hd) rfl (hz ▸ r)) k
theorem Wp.lor {x y z : Int64} (hz : x ||| y = z) (hd : Dc (mC M) pc .lor 1 pc') (k : Wp W K M Q H c n pc' L (.long z :: S)) : Wp W K M Q H c n pc L (.long y :: .long x :: S) := by
  obtain ⟨hd, rfl⟩ := hd
  exact Wp.go (fun T locs X hx _ ho hc _ _ t r => XT.lor X.here hx rfl (hbM hc hd) rfl (hz ▸ r)) k
theorem Wp.lxor {x y z : Int64} (hz : x ^^^ y = z) (hd : Dc (mC M) pc .lxor 1 pc') (k : Wp W K M Q H c n pc' L (.long z :: S)) : Wp W K M Q H c n pc L (.long y :: .long x :: S) := by
  obtain ⟨hd, rfl⟩ := hd
  exact Wp.go (fun T locs X hx _ ho hc _ _ t r => XT.lxor X.here hx rfl (hbM hc hd) rfl (hz ▸ r)) k
theorem Wp.ldiv {x y z : Int64} (hy : y ≠ 0) (hz : x / y = z) (hd : Dc (mC M) pc .ldiv 1 pc') (k : Wp W K M Q H c n pc' L (.long z :: S)) : Wp W K M Q H c n pc L (.long y :: .long x :: S) := by
  obtain ⟨hd, rfl⟩ := hd
  exact Wp.go (fun T locs X hx _ ho hc _ _ t r => XT.ldiv X.here hx rfl (hbM hc hd) rfl hy (hz ▸ r)) k
theorem Wp.lrem {x y z : Int64} (hy : y ≠ 0) (hz : x - (x / y) * y = z) (hd : Dc (mC M) pc .lrem 1 pc') (k : Wp W K M Q H c n pc' L (.long z :: S)) : Wp W K M Q H c n pc L (.long y :: .long x :: S) := by
  obtain ⟨hd, rfl⟩ := hd
  exact Wp.go (fun T locs X hx _ ho hc _ _ t r => XT.lrem X.here hx rfl (hbM hc hd) rfl hy (hz ▸ r)) k
theorem Wp.lneg {x z : Int64} (hz : -x = z) (hd : Dc (mC M) pc .lneg 1 pc') (k : Wp W K M Q H c n pc' L (.long z :: S)) : Wp W K M Q H c n pc L (.long x :: S) := by
  obtain ⟨hd, rfl⟩ := hd
  exact Wp.go (fun T locs X hx _ ho hc _ _ t r => XT.lneg X.here hx rfl (hbM hc hd) rfl (hz ▸ r)) k
theorem Wp.lshl {x : Int64} {y : Int32} {z : Int64} (hz : x <<< (y.toInt64 &&& 63) = z) (hd : Dc (mC M) pc .lshl 1 pc') (k : Wp W K M Q H c n pc' L (.long z :: S)) : Wp W K M Q H c n pc L (.int y :: .long x :: S) := by
  obtain ⟨hd, rfl⟩ := hd
  exact Wp.go (fun T locs X hx _ ho hc _ _ t r => XT.lshl X.here hx rfl (hbM hc hd) rfl (hz ▸ r)) k
theorem Wp.lshr {x : Int64} {y : Int32} {z : Int64} (hz : x >>> (y.toInt64 &&& 63) = z) (hd : Dc (mC M) pc .lshr 1 pc') (k : Wp W K M Q H c n pc' L (.long z :: S)) : Wp W K M Q H c n pc L (.int y :: .long x :: S) := by
  obtain ⟨hd, rfl⟩ := hd
  exact Wp.go (fun T locs X hx _ ho hc _ _ t r => XT.lshr X.here hx rfl (hbM hc hd) rfl (hz ▸ r)) k
theorem Wp.lushr {x : Int64} {y : Int32} {z : Int64} (hz : Jvm.Free.XT.ushrL x y = z) (hd : Dc (mC M) pc .lushr 1 pc') (k : Wp W K M Q H c n pc' L (.long z :: S)) : Wp W K M Q H c n pc L (.int y :: .long x :: S) := by
  obtain ⟨hd, rfl⟩ := hd
  exact Wp.go (fun T locs X hx _ ho hc _ _ t r => XT.lushr X.here hx rfl (hbM hc hd) rfl (hz ▸ r)) k
theorem Wp.lcmp {x y : Int64} {z : Int32} (hz : Jvm.Free.XT.cmpL x y = z) (hd : Dc (mC M) pc .lcmp 1 pc') (k : Wp W K M Q H c n pc' L (.int z :: S)) : Wp W K M Q H c n pc L (.long y :: .long x :: S) := by
  obtain ⟨hd, rfl⟩ := hd
  exact Wp.go (fun T locs X hx _ ho hc _ _ t r => XT.lcmp X.here hx rfl (hbM hc hd) rfl (hz ▸ r)) k
theorem Wp.pop {x : Value} (hc1 : x.category = 1) (hd : Dc (mC M) pc .pop 1 pc') (k : Wp W K M Q H c n pc' L (S)) : Wp W K M Q H c n pc L (x :: S) := by
  obtain ⟨hd, rfl⟩ := hd
  exact Wp.go (fun T locs X hx _ ho hc _ _ t r => XT.pop X.here hx rfl (hbM hc hd) rfl hc1 r) k
theorem Wp.dup {x : Value} (hc1 : x.category = 1) (hd : Dc (mC M) pc .dup 1 pc') (k : Wp W K M Q H c n pc' L (x :: x :: S)) : Wp W K M Q H c n pc L (x :: S) := by
  obtain ⟨hd, rfl⟩ := hd
  exact Wp.go (fun T locs X hx _ ho hc _ _ t r => XS.dup X.here hx rfl (hbM hc hd) rfl hc1 r) k
theorem Wp.dupX1 {x y : Value} (hc1 : x.category = 1) (hc2 : y.category = 1) (hd : Dc (mC M) pc .dup_x1 1 pc') (k : Wp W K M Q H c n pc' L (x :: y :: x :: S)) : Wp W K M Q H c n pc L (x :: y :: S) := by
  obtain ⟨hd, rfl⟩ := hd
  exact Wp.go (fun T locs X hx _ ho hc _ _ t r => XT.dupX1 X.here hx rfl (hbM hc hd) rfl hc1 hc2 r) k
theorem Wp.dup2 {x y : Value} (hc1 : x.category = 1) (hc2 : y.category = 1) (hd : Dc (mC M) pc .dup2 1 pc') (k : Wp W K M Q H c n pc' L (x :: y :: x :: y :: S)) : Wp W K M Q H c n pc L (x :: y :: S) := by
  obtain ⟨hd, rfl⟩ := hd
  exact Wp.go (fun T locs X hx _ ho hc _ _ t r => XT.dup2 X.here hx rfl (hbM hc hd) rfl hc1 hc2 r) k
theorem Wp.dup2L {x : Int64} (hd : Dc (mC M) pc .dup2 1 pc') (k : Wp W K M Q H c n pc' L (.long x :: .long x :: S)) : Wp W K M Q H c n pc L (.long x :: S) := by
  obtain ⟨hd, rfl⟩ := hd
  exact Wp.go (fun T locs X hx _ ho hc _ _ t r => XT.dup2L X.here hx rfl (hbM hc hd) rfl r) k
theorem Wp.icT {cd : ClassFile.Cond} {x y : Int32} (hq : if_icmp.holds cd x y = true) {o : Int} (hd : Bj (mC M) pc (.if_icmp cd o) o pc' pt) (k : Wp W K M Q H c n pt L S) : Wp W K M Q H c n pc L (.int y :: .int x :: S) := by
  obtain ⟨hd, -, h1, h2⟩ := hd
  exact Wp.go (fun T locs X hx _ ho hc _ _ t r => XS.icmpYes X.here hx rfl rfl (hbM hc hd) rfl hq h1 h2 r) k
theorem Wp.icF {cd : ClassFile.Cond} {x y : Int32} (hq : if_icmp.holds cd x y = false) {o : Int} (hd : Bj (mC M) pc (.if_icmp cd o) o pc' pt) (k : Wp W K M Q H c n pc' L S) : Wp W K M Q H c n pc L (.int y :: .int x :: S) := by
  obtain ⟨hd, rfl, -, -⟩ := hd
  exact Wp.go (fun T locs X hx _ ho hc _ _ t r => XS.icmpNo X.here hx rfl (hbM hc hd) rfl hq r) k
theorem Wp.ifT {cd : ClassFile.Cond} {x : Int32} (hq : if_icmp.holds cd x 0 = true) {o : Int} (hd : Bj (mC M) pc (.ifCond cd o) o pc' pt) (k : Wp W K M Q H c n pt L S) : Wp W K M Q H c n pc L (.int x :: S) := by
  obtain ⟨hd, -, h1, h2⟩ := hd
  exact Wp.go (fun T locs X hx _ ho hc _ _ t r => XS.ifYes X.here hx rfl rfl (hbM hc hd) rfl ((if0 _ _).trans hq) h1 h2 r) k
theorem Wp.ifF {cd : ClassFile.Cond} {x : Int32} (hq : if_icmp.holds cd x 0 = false) {o : Int} (hd : Bj (mC M) pc (.ifCond cd o) o pc' pt) (k : Wp W K M Q H c n pc' L S) : Wp W K M Q H c n pc L (.int x :: S) := by
  obtain ⟨hd, rfl, -, -⟩ := hd
  exact Wp.go (fun T locs X hx _ ho hc _ _ t r => XS.ifNo X.here hx rfl (hbM hc hd) rfl ((if0 _ _).trans hq) r) k
theorem Wp.acT {cd : ACond} {x y : Value} (hx1 : x.isRef = true) (hy1 : y.isRef = true) (hq : Jvm.Free.XT.acmp cd x y = true) {o : Int} (hd : Bj (mC M) pc (.if_acmp cd o) o pc' pt) (k : Wp W K M Q H c n pt L S) : Wp W K M Q H c n pc L (y :: x :: S) := by
  obtain ⟨hd, -, h1, h2⟩ := hd
  exact Wp.go (fun T locs X hx _ ho hc _ _ t r => XT.acmpYes X.here hx rfl rfl (hbM hc hd) rfl hx1 hy1 hq h1 h2 r) k
theorem Wp.acF {cd : ACond} {x y : Value} (hx1 : x.isRef = true) (hy1 : y.isRef = true) (hq : Jvm.Free.XT.acmp cd x y = false) {o : Int} (hd : Bj (mC M) pc (.if_acmp cd o) o pc' pt) (k : Wp W K M Q H c n pc' L S) : Wp W K M Q H c n pc L (y :: x :: S) := by
  obtain ⟨hd, rfl, -, -⟩ := hd
  exact Wp.go (fun T locs X hx _ ho hc _ _ t r => XT.acmpNo X.here hx rfl (hbM hc hd) rfl hx1 hy1 hq r) k
theorem Wp.ifnullT  {o : Int} (hd : Bj (mC M) pc (.ifnull o) o pc' pt) (k : Wp W K M Q H c n pt L S) : Wp W K M Q H c n pc L (.null :: S) := by
  obtain ⟨hd, -, h1, h2⟩ := hd
  exact Wp.go (fun T locs X hx _ ho hc _ _ t r => XS.ifnullYes X.here hx rfl rfl (hbM hc hd) rfl h1 h2 r) k
theorem Wp.ifnullF {b : Addr} {o : Int} (hd : Bj (mC M) pc (.ifnull o) o pc' pt) (k : Wp W K M Q H c n pc' L S) : Wp W K M Q H c n pc L (.ref b :: S) := by
  obtain ⟨hd, rfl, -, -⟩ := hd
  exact Wp.go (fun T locs X hx _ ho hc _ _ t r => XS.ifnullNo X.here hx rfl (hbM hc hd) rfl r) k
theorem Wp.ifnonnullT {b : Addr} {o : Int} (hd : Bj (mC M) pc (.ifnonnull o) o pc' pt) (k : Wp W K M Q H c n pt L S) : Wp W K M Q H c n pc L (.ref b :: S) := by
  obtain ⟨hd, -, h1, h2⟩ := hd
  exact Wp.go (fun T locs X hx _ ho hc _ _ t r => XT.ifnonnullYes X.here hx rfl rfl (hbM hc hd) rfl h1 h2 r) k
theorem Wp.ifnonnullF  {o : Int} (hd : Bj (mC M) pc (.ifnonnull o) o pc' pt) (k : Wp W K M Q H c n pc' L S) : Wp W K M Q H c n pc L (.null :: S) := by
  obtain ⟨hd, rfl, -, -⟩ := hd
  exact Wp.go (fun T locs X hx _ ho hc _ _ t r => XT.ifnonnullNo X.here hx rfl (hbM hc hd) rfl r) k
theorem Wp.goto {o : Int} (hd : Bj (mC M) pc (.goto o) o pc' pt) (k : Wp W K M Q H c n pt L S) : Wp W K M Q H c n pc L S := by
  obtain ⟨hd, -, h1, h2⟩ := hd
  exact Wp.go (fun T locs X hx _ ho hc _ _ t r => XS.goto X.here hx rfl rfl (hbM hc hd) h1 h2 r) k
-- heap reads
theorem Wp.getF {y0 : MethodName} (hM : mN M = y0) {R0 O nm d host : String} {idx : Nat} (w : Wok W (.fieldLink y0.cls idx R0 nm d) ∨ Wok W (.fieldLinkNest y0.cls idx R0 nm d host)) (via : Via (wZ W) R0 O nm d) {a : Addr} {rw : Bool} {C : String} {fs : List Fd} {v : Value} (i j : Nat) (hi : H[i]? = some (a, rw, .inl (C, fs))) (hj : fs[j]? = some (O, nm, d, v))
    (hd : Dc (mC M) pc (.getfield idx) 3 pc') (k : Wp W K M Q H c n pc' L (v :: S)) : Wp W K M Q H c n pc L (.ref a :: S) := by
  subst hM
  obtain ⟨hd, rfl⟩ := hd
  exact Wp.to (fun T locs X hx hZ ho hc _ _ P N => by
    have F : ObOk (wZ W) T.heap a C fs := P.at hi
    obtain ⟨T', X', e', st⟩ := Jvm.RoadKit.getF X hx hZ ho w via rfl (F.2.1 _ (List.mem_of_getElem? hj)) (g := mkF (kM K) pc L.toArray (.ref a :: S)) rfl rfl (hbM hc hd)
    exact ⟨T', locs, X', N, by rw [e']; exact P, by rw [e']; exact Nx.refl _ _, st⟩) k
theorem Wp.putF {y0 : MethodName} (hM : mN M = y0) {R0 O nm d host : String} {idx kk : Nat} {ty : FieldType} (w : Wok W (.fieldLink y0.cls idx R0 nm d) ∨ Wok W (.fieldLinkNest y0.cls idx R0 nm d host)) (via : Via (wZ W) R0 O nm d) {a : Addr} {C : String} {fs : List Fd} {v old : Value} (i j : Nat) (hi : H[i]? = some (a, true, .inl (C, fs))) (hj : fs[j]? = some (O, nm, d, old))
    (la : Wok W (.lays C O nm d) ∨ (Wok W (.laysFinal C O nm d) ∧ y0.cls = O ∧ y0.name = "<init>")) (wi : Wok W (.instantiable C kk)) (hty : parseFieldDescriptor d = some ty) (hn : narrow ty v = v) (hf : fits ty v = true)
    (hd : Dc (mC M) pc (.putfield idx) 3 pc') (hH : H.set i (a, true, .inl (C, fs.set j (O, nm, d, v))) = H') (k : Wp W K M Q H' c n pc' L S) : Wp W K M Q H c n pc L (v :: .ref a :: S) := by
  subst hM
  obtain ⟨hd, rfl⟩ := hd
  subst hH
  exact Wp.to (fun T locs X hx hZ ho hc _ hnm P N => by
    have F : ObOk (wZ W) T.heap a C fs := P.at hi
    obtain ⟨T', h', X', e', E, st⟩ := Jvm.RoadKit.putF X hx hZ ho w via rfl (F.2.1 _ (List.mem_of_getElem? hj)) F.1 (la.imp id fun u => ⟨u.1, u.2.1, hnm.trans u.2.2⟩) wi hty hn hf (g := mkF (kM K) pc L.toArray (v :: .ref a :: S)) rfl rfl (hbM hc hd)
    exact ⟨T', _, X', Fr.snoc X' N ((P.2.1 _ (List.mem_of_getElem? hi)).1 rfl).1, by rw [e']; exact P.put hi E (F.put hj E), by rw [e']; exact Nx.put hi E, st⟩) k
theorem Wp.putFN {y0 : MethodName} (hM : mN M = y0) {R0 O nm d : String} {idx kk : Nat} {ty : FieldType} (w : Wok W (.fieldLink y0.cls idx R0 nm d)) (via : Via (wZ W) R0 O nm d) {a : Addr} {C : String} {fs : List Fd} {v v' old : Value} (i j : Nat) (hi : H[i]? = some (a, true, .inl (C, fs))) (hj : fs[j]? = some (O, nm, d, old))
    (la : Wok W (.lays C O nm d) ∨ (Wok W (.laysFinal C O nm d) ∧ y0.cls = O ∧ y0.name = "<init>")) (wi : Wok W (.instantiable C kk)) (hty : parseFieldDescriptor d = some ty) (hn : narrow ty v = v') (hf : fits ty v' = true)
    (hd : Dc (mC M) pc (.putfield idx) 3 pc') (hH : H.set i (a, true, .inl (C, fs.set j (O, nm, d, v'))) = H') (k : Wp W K M Q H' c n pc' L S) : Wp W K M Q H c n pc L (v :: .ref a :: S) := by
  subst hM
  obtain ⟨hd, rfl⟩ := hd
  subst hH
  exact Wp.to (fun T locs X hx hZ ho hc _ hnm P N => by
    have F : ObOk (wZ W) T.heap a C fs := P.at hi
    obtain ⟨T', h', X', e', E, st⟩ := Jvm.RoadKit.putFN X hx hZ ho w via rfl (F.2.1 _ (List.mem_of_getElem? hj)) F.1 (la.imp id fun u => ⟨u.1, u.2.1, hnm.trans u.2.2⟩) wi hty hn hf (g := mkF (kM K) pc L.toArray (v :: .ref a :: S)) rfl rfl (hbM hc hd)
    exact ⟨T', _, X', Fr.snoc X' N ((P.2.1 _ (List.mem_of_getElem? hi)).1 rfl).1, by rw [e']; exact P.put hi E (F.put hj E), by rw [e']; exact Nx.put hi E, st⟩) k
theorem Wp.getS {y0 : MethodName} (hM : mN M = y0) {R0 O nm d host : String} {idx : Nat} (w : Wok W (.fieldLink y0.cls idx R0 nm d) ∨ Wok W (.fieldLinkNest y0.cls idx R0 nm d host)) (via : Via (wZ W) R0 O nm d) {v : Value} (F : Sta (wZ W) (wZ W).heap O nm d v) (hd : Dc (mC M) pc (.getstatic idx) 3 pc') (k : Wp W K M Q H c n pc' L (v :: S)) : Wp W K M Q H c n pc L S := by
  subst hM
  obtain ⟨hd, rfl⟩ := hd
  exact Wp.to (fun T locs X hx hZ ho hc _ _ P N => by
    obtain ⟨T', X', e', st⟩ := Jvm.RoadKit.getS2 X hx hZ ho w via rfl (F.ext P.1.1.2) (g := mkF (kM K) pc L.toArray S) rfl (hbM hc hd)
    exact ⟨T', locs, X', N, by rw [e']; exact P, by rw [e']; exact Nx.refl _ _, st⟩) k
-- new objects and arrays
def NewFs (W : Wd) (C : String) (fs : List Fd) : Prop := (∀ f ∈ fs, ∃ ty, Laid (wZ W) (wA W) C f.1 f.2.1 f.2.2.1 ∧ parseFieldDescriptor f.2.2.1 = some ty ∧ f.2.2.2 = defaultValue ty) ∧ (fs.map fun f => f.2.1).Nodup
theorem NewFs.nil {C : String} : NewFs W C [] := ⟨fun _ q => (nomatch q), List.nodup_nil⟩
theorem NewFs.cons {C O nm d : String} {ty : FieldType} {v : Value} {fs : List Fd} (la : Laid (wZ W) (wA W) C O nm d) (ht : parseFieldDescriptor d = some ty) (hv : v = defaultValue ty) (hn : nm ∉ fs.map fun f => f.2.1) (r : NewFs W C fs) : NewFs W C ((O, nm, d, v) :: fs) :=
  ⟨fun f hf => (List.mem_cons.mp hf).elim (fun e => e ▸ ⟨ty, la, ht, hv⟩) (r.1 f), List.nodup_cons.mpr ⟨hn, r.2⟩⟩
theorem NewFs.slots {C : String} : ∀ {fs : List Fd}, NewFs W C fs → (fs.map (fSl (wZ W))).Nodup
  | [], _ => List.nodup_nil
  | f :: fs, r => by
    have hn := List.nodup_cons.mp (show (f.2.1 :: fs.map fun f => f.2.1).Nodup from r.2)
    refine List.nodup_cons.mpr ⟨fun q => ?_, NewFs.slots ⟨fun g hg => r.1 g (List.mem_cons_of_mem _ hg), hn.2⟩⟩
    obtain ⟨g, hg, e⟩ := List.mem_map.mp q
    obtain ⟨t1, l1, p1, -⟩ := r.1 f List.mem_cons_self
    obtain ⟨t2, l2, p2, -⟩ := r.1 g (List.mem_cons_of_mem _ hg)
    have ne : f.2.1 ≠ g.2.1 := fun e => hn.1 (e ▸ List.mem_map.mpr ⟨g, hg, rfl⟩)
    exact Jvm.RoadKit.slot_ne l1 l2 ne p1 p2 e.symm
theorem Wp.newO {y0 : MethodName} (hM : mN M = y0) {C : String} {idx kk : Nat} {fs : List Fd} (w : Wok W (.classLink y0.cls idx C)) (wi : Wok W (.instantiable C kk)) (wz : Wok W (.initialized C)) (hfs : NewFs W C fs) (hc1 : c + 1 ≤ (mR M).cells) (hl1 : n + kk ≤ (mR M).slots)
    (hd : Dc (mC M) pc (.new idx) 3 pc') (k : ∀ a : Addr, Wp W K M Q ((a, true, .inl (C, fs)) :: H) (c + 1) (n + kk) pc' L (.ref a :: S)) : Wp W K M Q H c n pc L S := by
  subst hM
  obtain ⟨hd, rfl⟩ := hd
  exact fun T X => by
    obtain ⟨hx, hZ, ho, hb, hm, hr, hn, hl, gs, locs, X, N, P⟩ := X
    obtain ⟨T', h', X', e', E, A, D, -, st⟩ := Jvm.RoadKit.newO X hx hZ ho w wi wz rfl (g := mkF (kM K) pc L.toArray S) rfl (hbM hb hd) hc1 hl1
    have F : DsOk (wZ W) h' T.heap.size (.inl (C, fs)) := ⟨A, fun f hf => by
      obtain ⟨ty, l1, l2, l3⟩ := hfs.1 f hf
      show Fld (wZ W) h' T.heap.size f.1 f.2.1 f.2.2.1 f.2.2.2
      rw [l3]; exact D l1 l2, hfs.slots⟩
    obtain ⟨U, s1, s2⟩ := k T.heap.size T' ⟨hx, hZ, ho, hb, hm, hr, hn, hl, gs.nx P (by rw [e']; exact Nx.new E), locs, X', N, by rw [e']; exact P.new E F⟩
    exact ⟨U, st _ s1, s2⟩
theorem def_fits (ty : FieldType) : fits ty (defaultValue ty) = true := by cases ty <;> first | decide | rfl
theorem arNew {Z : State} {h : Heap} {a : Addr} {cA : ClassId} {ty : FieldType} {z : Int32} {kk : Nat} (A : Arr Z h a (newA cA ty z) ty) (hz : z.toNatClampNeg = kk) (ex ov : Bool) (h1 : ex = true → Exa Z h a ("[" ++ ty.toString)) (h2 : ov = true → ∀ C, ty = .object C → Ovr Z cA C) : ArOk Z h a ty ex ov (List.replicate kk (defaultValue ty)) := by
  subst hz
  refine ⟨_, A, by simp [newA], ?_, fun v hv => by rw [List.eq_of_mem_replicate hv]; exact def_fits ty, h1, h2⟩
  rw [List.length_replicate]
  have := Int32.toNatClampNeg_lt z
  omega
theorem Wp.newP {aty : ArrayType} {z : Int32} {kk : Nat} {vs : List Value} (hd : Dc (mC M) pc (.newarray aty) 2 pc') (w : Wok W (.arrayClass (newarray.typeOf aty))) (hz : z.toNatClampNeg = kk) (h0 : ¬ z < 0) (hb8 : kk * 8 ≤ 536870912) (hc1 : c + 1 ≤ (mR M).cells) (hl1 : n + kk ≤ (mR M).slots) (hv : List.replicate kk (defaultValue (newarray.typeOf aty)) = vs)
    (k : ∀ a : Addr, Wp W K M Q ((a, true, .inr (newarray.typeOf aty, true, false, vs)) :: H) (c + 1) (n + kk) pc' L (.ref a :: S)) : Wp W K M Q H c n pc L (.int z :: S) := by
  obtain ⟨hd, rfl⟩ := hd
  subst hv
  exact fun T X => by
    obtain ⟨hx, hZ, ho, hb, hm, hr, hn, hl, gs, locs, X, N, P⟩ := X
    obtain ⟨T', h', cA, X', e', E, A, B, st⟩ := Jvm.RoadKit.newPE X hx hZ w rfl (g := mkF (kM K) pc L.toArray (.int z :: S)) rfl (hbM hb hd) rfl h0 (Nat.le_of_eq hz) hb8 hc1 hl1 (ad := _) rfl
    obtain ⟨U, s1, s2⟩ := k T.heap.size T' ⟨hx, hZ, ho, hb, hm, hr, hn, hl, gs.nx P (by rw [e']; exact Nx.new E), locs, X', N, by rw [e']; exact P.new E (arNew A hz true false (fun _ => B) (fun q => nomatch q))⟩
    exact ⟨U, st _ s1, s2⟩
theorem Wp.newR {y0 : MethodName} (hM : mN M = y0) {C : String} {idx : Nat} {z : Int32} {kk : Nat} {vs : List Value} (w : Wok W (.classLink y0.cls idx C)) (w2 : Wok W (.arrayOver (.object C))) (hz : z.toNatClampNeg = kk) (h0 : ¬ z < 0) (hb8 : kk * 8 ≤ 536870912) (hc1 : c + 1 ≤ (mR M).cells) (hl1 : n + kk ≤ (mR M).slots) (hv : List.replicate kk Value.null = vs)
    (hd : Dc (mC M) pc (.anewarray idx) 3 pc') (k : ∀ a : Addr, Wp W K M Q ((a, true, .inr (.object C, true, true, vs)) :: H) (c + 1) (n + kk) pc' L (.ref a :: S)) : Wp W K M Q H c n pc L (.int z :: S) := by
  subst hM
  obtain ⟨hd, rfl⟩ := hd
  subst hv
  exact fun T X => by
    obtain ⟨hx, hZ, ho, hb, hm, hr, hn, hl, gs, locs, X, N, P⟩ := X
    obtain ⟨T', h', cA, X', e', E, A, B, O, st⟩ := Jvm.RoadKit.newRE X hx hZ ho w w2 rfl (g := mkF (kM K) pc L.toArray (.int z :: S)) rfl (hbM hb hd) rfl h0 (Nat.le_of_eq hz) hb8 hc1 hl1 (ad := _) rfl
    obtain ⟨U, s1, s2⟩ := k T.heap.size T' ⟨hx, hZ, ho, hb, hm, hr, hn, hl, gs.nx P (by rw [e']; exact Nx.new E), locs, X', N, by rw [e']; exact P.new E (arNew A hz true true (fun _ => B) (fun _ C' e => by cases e; exact O))⟩
    exact ⟨U, st _ s1, s2⟩
-- arrays read and written
theorem ArOk.inb {Z : State} {c : Cell} {vs : List Value} {j : Int32} {k : Nat} {v : Value} (e : c.slots.toList = vs) (hj : ¬ j < 0) (hk : j.toNatClampNeg = k) (hv : vs[k]? = some v) : ¬ (j < 0 ∨ c.slots.size ≤ j.toNatClampNeg) ∧ c.slots[j.toNatClampNeg]? = some v := by
  subst hk e
  rw [Array.getElem?_toList] at hv
  refine ⟨fun q => q.elim hj fun q => ?_, hv⟩
  rw [Array.getElem?_eq_none q] at hv
  cases hv
theorem Wp.alen {a : Addr} {rw ex ov : Bool} {ty : FieldType} {vs : List Value} {z : Int32} (i : Nat) (hi : H[i]? = some (a, rw, .inr (ty, ex, ov, vs))) (hz : vs.length.toInt32 = z) (hd : Dc (mC M) pc .arraylength 1 pc') (k : Wp W K M Q H c n pc' L (.int z :: S)) : Wp W K M Q H c n pc L (.ref a :: S) := by
  obtain ⟨hd, rfl⟩ := hd
  exact Wp.go (fun T locs X hx hZ ho hc _ P t r => by
    obtain ⟨cl, h1, h2, -⟩ : ArOk (wZ W) T.heap a ty ex ov vs := P.at hi
    refine X.arraylength hx h1.1 (State.isArrayOf_alike hZ.alike h1.2.1) (g := mkF (kM K) pc L.toArray (.ref a :: S)) rfl rfl (hbM hc hd) _ ?_
    have e : cl.slots.size.toInt32 = z := by rw [← hz, ← h2]; rfl
    rw [e]; exact r) k
theorem Wp.iaload {a : Addr} {rw ex ov : Bool} {vs : List Value} {j : Int32} {v : Value} (i kk : Nat) (hi : H[i]? = some (a, rw, .inr (.int, ex, ov, vs))) (hj : ¬ j < 0) (hk : j.toNatClampNeg = kk) (hv : vs[kk]? = some v) (hd : Dc (mC M) pc .iaload 1 pc') (k : Wp W K M Q H c n pc' L (v :: S)) : Wp W K M Q H c n pc L (.int j :: .ref a :: S) := by
  obtain ⟨hd, rfl⟩ := hd
  exact Wp.go (fun T locs X hx hZ ho hc _ P t r => by
    obtain ⟨cl, h1, h2, -⟩ : ArOk (wZ W) T.heap a .int ex ov vs := P.at hi
    obtain ⟨g1, g2⟩ := ArOk.inb (Z := wZ W) h2 hj hk hv
    exact X.iaload hx h1.1 (State.isArrayOf_alike hZ.alike h1.2.1) h1.2.2 g1 g2 (g := mkF (kM K) pc L.toArray (.int j :: .ref a :: S)) rfl rfl (hbM hc hd) _ r) k
theorem Wp.laload {a : Addr} {rw ex ov : Bool} {vs : List Value} {j : Int32} {v : Value} (i kk : Nat) (hi : H[i]? = some (a, rw, .inr (.long, ex, ov, vs))) (hj : ¬ j < 0) (hk : j.toNatClampNeg = kk) (hv : vs[kk]? = some v) (hd : Dc (mC M) pc .laload 1 pc') (k : Wp W K M Q H c n pc' L (v :: S)) : Wp W K M Q H c n pc L (.int j :: .ref a :: S) := by
  obtain ⟨hd, rfl⟩ := hd
  exact Wp.go (fun T locs X hx hZ ho hc _ P t r => by
    obtain ⟨cl, h1, h2, -⟩ : ArOk (wZ W) T.heap a .long ex ov vs := P.at hi
    obtain ⟨g1, g2⟩ := ArOk.inb (Z := wZ W) h2 hj hk hv
    exact X.laload hx h1.1 (State.isArrayOf_alike hZ.alike h1.2.1) h1.2.2 g1 g2 (g := mkF (kM K) pc L.toArray (.int j :: .ref a :: S)) rfl rfl (hbM hc hd) _ r) k
theorem Wp.caload {a : Addr} {rw ex ov : Bool} {vs : List Value} {j : Int32} {v : Value} (i kk : Nat) (hi : H[i]? = some (a, rw, .inr (.char, ex, ov, vs))) (hj : ¬ j < 0) (hk : j.toNatClampNeg = kk) (hv : vs[kk]? = some v) (hd : Dc (mC M) pc .caload 1 pc') (k : Wp W K M Q H c n pc' L (v :: S)) : Wp W K M Q H c n pc L (.int j :: .ref a :: S) := by
  obtain ⟨hd, rfl⟩ := hd
  exact Wp.go (fun T locs X hx hZ ho hc _ P t r => by
    obtain ⟨cl, h1, h2, -⟩ : ArOk (wZ W) T.heap a .char ex ov vs := P.at hi
    obtain ⟨g1, g2⟩ := ArOk.inb (Z := wZ W) h2 hj hk hv
    exact X.caload hx h1.1 (State.isArrayOf_alike hZ.alike h1.2.1) h1.2.2 g1 g2 (g := mkF (kM K) pc L.toArray (.int j :: .ref a :: S)) rfl rfl (hbM hc hd) _ r) k
theorem Wp.saload {a : Addr} {rw ex ov : Bool} {vs : List Value} {j : Int32} {v : Value} (i kk : Nat) (hi : H[i]? = some (a, rw, .inr (.short, ex, ov, vs))) (hj : ¬ j < 0) (hk : j.toNatClampNeg = kk) (hv : vs[kk]? = some v) (hd : Dc (mC M) pc .saload 1 pc') (k : Wp W K M Q H c n pc' L (v :: S)) : Wp W K M Q H c n pc L (.int j :: .ref a :: S) := by
  obtain ⟨hd, rfl⟩ := hd
  exact Wp.go (fun T locs X hx hZ ho hc _ P t r => by
    obtain ⟨cl, h1, h2, -⟩ : ArOk (wZ W) T.heap a .short ex ov vs := P.at hi
    obtain ⟨g1, g2⟩ := ArOk.inb (Z := wZ W) h2 hj hk hv
    exact X.saload hx h1.1 (State.isArrayOf_alike hZ.alike h1.2.1) h1.2.2 g1 g2 (g := mkF (kM K) pc L.toArray (.int j :: .ref a :: S)) rfl rfl (hbM hc hd) _ r) k
theorem Wp.baload {a : Addr} {rw ex ov : Bool} {vs : List Value} {j : Int32} {v : Value} (i kk : Nat) (hi : H[i]? = some (a, rw, .inr (.byte, ex, ov, vs))) (hj : ¬ j < 0) (hk : j.toNatClampNeg = kk) (hv : vs[kk]? = some v) (hd : Dc (mC M) pc .baload 1 pc') (k : Wp W K M Q H c n pc' L (v :: S)) : Wp W K M Q H c n pc L (.int j :: .ref a :: S) := by
  obtain ⟨hd, rfl⟩ := hd
  exact Wp.go (fun T locs X hx hZ ho hc _ P t r => by
    obtain ⟨cl, h1, h2, -⟩ : ArOk (wZ W) T.heap a .byte ex ov vs := P.at hi
    obtain ⟨g1, g2⟩ := ArOk.inb (Z := wZ W) h2 hj hk hv
    exact X.baloadBytes hx h1.1 (State.isArrayOf_alike hZ.alike h1.2.1) h1.2.2 g1 g2 (g := mkF (kM K) pc L.toArray (.int j :: .ref a :: S)) rfl rfl (hbM hc hd) _ r) k
theorem Wp.baloadZ {a : Addr} {rw ex ov : Bool} {vs : List Value} {j : Int32} {v : Value} (i kk : Nat) (hi : H[i]? = some (a, rw, .inr (.boolean, ex, ov, vs))) (hj : ¬ j < 0) (hk : j.toNatClampNeg = kk) (hv : vs[kk]? = some v) (hd : Dc (mC M) pc .baload 1 pc') (k : Wp W K M Q H c n pc' L (v :: S)) : Wp W K M Q H c n pc L (.int j :: .ref a :: S) := by
  obtain ⟨hd, rfl⟩ := hd
  exact Wp.go (fun T locs X hx hZ ho hc _ P t r => by
    obtain ⟨cl, h1, h2, -⟩ : ArOk (wZ W) T.heap a .boolean ex ov vs := P.at hi
    obtain ⟨g1, g2⟩ := ArOk.inb (Z := wZ W) h2 hj hk hv
    exact X.baloadBooleans hx h1.1 (State.isArrayOf_alike hZ.alike h1.2.1) h1.2.2 g1 g2 (g := mkF (kM K) pc L.toArray (.int j :: .ref a :: S)) rfl rfl (hbM hc hd) _ r) k
theorem Wp.aaload {a : Addr} {rw ex ov : Bool} {ty : FieldType} {vs : List Value} {j : Int32} {v : Value} (i kk : Nat) (hi : H[i]? = some (a, rw, .inr (ty, ex, ov, vs))) (hty : ty.isReference = true) (hj : ¬ j < 0) (hk : j.toNatClampNeg = kk) (hv : vs[kk]? = some v) (hd : Dc (mC M) pc .aaload 1 pc') (k : Wp W K M Q H c n pc' L (v :: S)) : Wp W K M Q H c n pc L (.int j :: .ref a :: S) := by
  obtain ⟨hd, rfl⟩ := hd
  exact Wp.go (fun T locs X hx hZ ho hc _ P t r => by
    obtain ⟨cl, h1, h2, -⟩ : ArOk (wZ W) T.heap a ty ex ov vs := P.at hi
    obtain ⟨g1, g2⟩ := ArOk.inb (Z := wZ W) h2 hj hk hv
    exact X.aaload hx h1.1 (State.isArrayOf_alike hZ.alike h1.2.1) hty h1.2.2 g1 g2 (g := mkF (kM K) pc L.toArray (.int j :: .ref a :: S)) rfl rfl (hbM hc hd) _ r) k
theorem Wp.castore {a : Addr} {ex ov : Bool} {vs : List Value} {j : Int32} {x : Int32} {z : Int32} (i kk : Nat) (hi : H[i]? = some (a, true, .inr (.char, ex, ov, vs))) (hj : ¬ j < 0) (hk : j.toNatClampNeg = kk) (hl : kk < vs.length) (hz : nar .char x = z) (hd : Dc (mC M) pc .castore 1 pc') (hH : H.set i (a, true, .inr (.char, ex, ov, vs.set kk (.int z))) = H') (k : Wp W K M Q H' c n pc' L S) : Wp W K M Q H c n pc L (.int x :: .int j :: .ref a :: S) := by
  obtain ⟨hd, rfl⟩ := hd
  subst hH hz
  exact Wp.to (fun T locs X hx hZ ho hc _ hnm P N => by
    have F : ArOk (wZ W) T.heap a .char ex ov vs := P.at hi
    obtain ⟨cl, h1, h2, -⟩ := id F
    obtain ⟨g1, -⟩ := ArOk.inb (Z := wZ W) h2 hj hk (List.getElem?_eq_getElem hl)
    obtain ⟨T', h', X', e', E, st⟩ := Jvm.RoadKit.stC X hx hZ rfl h1 g1 (g := mkF (kM K) pc L.toArray (.int x :: .int j :: .ref a :: S)) rfl rfl (hbM hc hd)
    exact ⟨T', _, X', Fr.snoc X' N ((P.2.1 _ (List.mem_of_getElem? hi)).1 rfl).1, by rw [e']; exact P.put hi E (F.put hk (fits_nar_char x) E), by rw [e']; exact Nx.put hi E, st⟩) k
theorem Wp.sastore {a : Addr} {ex ov : Bool} {vs : List Value} {j : Int32} {x : Int32} {z : Int32} (i kk : Nat) (hi : H[i]? = some (a, true, .inr (.short, ex, ov, vs))) (hj : ¬ j < 0) (hk : j.toNatClampNeg = kk) (hl : kk < vs.length) (hz : nar .short x = z) (hd : Dc (mC M) pc .sastore 1 pc') (hH : H.set i (a, true, .inr (.short, ex, ov, vs.set kk (.int z))) = H') (k : Wp W K M Q H' c n pc' L S) : Wp W K M Q H c n pc L (.int x :: .int j :: .ref a :: S) := by
  obtain ⟨hd, rfl⟩ := hd
  subst hH hz
  exact Wp.to (fun T locs X hx hZ ho hc _ hnm P N => by
    have F : ArOk (wZ W) T.heap a .short ex ov vs := P.at hi
    obtain ⟨cl, h1, h2, -⟩ := id F
    obtain ⟨g1, -⟩ := ArOk.inb (Z := wZ W) h2 hj hk (List.getElem?_eq_getElem hl)
    obtain ⟨T', h', X', e', E, st⟩ := Jvm.RoadKit.stS X hx hZ rfl h1 g1 (g := mkF (kM K) pc L.toArray (.int x :: .int j :: .ref a :: S)) rfl rfl (hbM hc hd)
    exact ⟨T', _, X', Fr.snoc X' N ((P.2.1 _ (List.mem_of_getElem? hi)).1 rfl).1, by rw [e']; exact P.put hi E (F.put hk (fits_nar_short x) E), by rw [e']; exact Nx.put hi E, st⟩) k
theorem Wp.bastore {a : Addr} {ex ov : Bool} {vs : List Value} {j : Int32} {x : Int32} {z : Int32} (i kk : Nat) (hi : H[i]? = some (a, true, .inr (.byte, ex, ov, vs))) (hj : ¬ j < 0) (hk : j.toNatClampNeg = kk) (hl : kk < vs.length) (hz : nar .byte x = z) (hd : Dc (mC M) pc .bastore 1 pc') (hH : H.set i (a, true, .inr (.byte, ex, ov, vs.set kk (.int z))) = H') (k : Wp W K M Q H' c n pc' L S) : Wp W K M Q H c n pc L (.int x :: .int j :: .ref a :: S) := by
  obtain ⟨hd, rfl⟩ := hd
  subst hH hz
  exact Wp.to (fun T locs X hx hZ ho hc _ hnm P N => by
    have F : ArOk (wZ W) T.heap a .byte ex ov vs := P.at hi
    obtain ⟨cl, h1, h2, -⟩ := id F
    obtain ⟨g1, -⟩ := ArOk.inb (Z := wZ W) h2 hj hk (List.getElem?_eq_getElem hl)
    obtain ⟨T', h', X', e', E, st⟩ := Jvm.RoadKit.stB X hx hZ rfl h1 g1 (g := mkF (kM K) pc L.toArray (.int x :: .int j :: .ref a :: S)) rfl rfl (hbM hc hd)
    exact ⟨T', _, X', Fr.snoc X' N ((P.2.1 _ (List.mem_of_getElem? hi)).1 rfl).1, by rw [e']; exact P.put hi E (F.put hk (fits_nar_byte x) E), by rw [e']; exact Nx.put hi E, st⟩) k
theorem Wp.bastoreZ {a : Addr} {ex ov : Bool} {vs : List Value} {j : Int32} {x : Int32} {z : Int32} (i kk : Nat) (hi : H[i]? = some (a, true, .inr (.boolean, ex, ov, vs))) (hj : ¬ j < 0) (hk : j.toNatClampNeg = kk) (hl : kk < vs.length) (hz : nar .boolean x = z) (hd : Dc (mC M) pc .bastore 1 pc') (hH : H.set i (a, true, .inr (.boolean, ex, ov, vs.set kk (.int z))) = H') (k : Wp W K M Q H' c n pc' L S) : Wp W K M Q H c n pc L (.int x :: .int j :: .ref a :: S) := by
  obtain ⟨hd, rfl⟩ := hd
  subst hH hz
  exact Wp.to (fun T locs X hx hZ ho hc _ hnm P N => by
    have F : ArOk (wZ W) T.heap a .boolean ex ov vs := P.at hi
    obtain ⟨cl, h1, h2, -⟩ := id F
    obtain ⟨g1, -⟩ := ArOk.inb (Z := wZ W) h2 hj hk (List.getElem?_eq_getElem hl)
    obtain ⟨T', h', X', e', E, st⟩ := Jvm.RoadKit.stZ X hx hZ rfl h1 g1 (g := mkF (kM K) pc L.toArray (.int x :: .int j :: .ref a :: S)) rfl rfl (hbM hc hd)
    exact ⟨T', _, X', Fr.snoc X' N ((P.2.1 _ (List.mem_of_getElem? hi)).1 rfl).1, by rw [e']; exact P.put hi E (F.put hk (fits_nar_bool x) E), by rw [e']; exact Nx.put hi E, st⟩) k
theorem Wp.iastore {a : Addr} {ex ov : Bool} {vs : List Value} {j : Int32} {x : Int32} (i kk : Nat) (hi : H[i]? = some (a, true, .inr (.int, ex, ov, vs))) (hj : ¬ j < 0) (hk : j.toNatClampNeg = kk) (hl : kk < vs.length) (hd : Dc (mC M) pc .iastore 1 pc') (hH : H.set i (a, true, .inr (.int, ex, ov, vs.set kk (.int x))) = H') (k : Wp W K M Q H' c n pc' L S) : Wp W K M Q H c n pc L (.int x :: .int j :: .ref a :: S) := by
  obtain ⟨hd, rfl⟩ := hd
  subst hH
  exact Wp.to (fun T locs X hx hZ ho hc _ hnm P N => by
    have F : ArOk (wZ W) T.heap a .int ex ov vs := P.at hi
    obtain ⟨cl, h1, h2, -⟩ := id F
    obtain ⟨g1, -⟩ := ArOk.inb (Z := wZ W) h2 hj hk (List.getElem?_eq_getElem hl)
    obtain ⟨T', h', X', e', E, st⟩ := Jvm.RoadKit.stI X hx hZ rfl h1 g1 (g := mkF (kM K) pc L.toArray (.int x :: .int j :: .ref a :: S)) rfl rfl (hbM hc hd)
    exact ⟨T', _, X', Fr.snoc X' N ((P.2.1 _ (List.mem_of_getElem? hi)).1 rfl).1, by rw [e']; exact P.put hi E (F.put hk (rfl) E), by rw [e']; exact Nx.put hi E, st⟩) k
theorem Wp.lastore {a : Addr} {ex ov : Bool} {vs : List Value} {j : Int32} {x : Int64} (i kk : Nat) (hi : H[i]? = some (a, true, .inr (.long, ex, ov, vs))) (hj : ¬ j < 0) (hk : j.toNatClampNeg = kk) (hl : kk < vs.length) (hd : Dc (mC M) pc .lastore 1 pc') (hH : H.set i (a, true, .inr (.long, ex, ov, vs.set kk (.long x))) = H') (k : Wp W K M Q H' c n pc' L S) : Wp W K M Q H c n pc L (.long x :: .int j :: .ref a :: S) := by
  obtain ⟨hd, rfl⟩ := hd
  subst hH
  exact Wp.to (fun T locs X hx hZ ho hc _ hnm P N => by
    have F : ArOk (wZ W) T.heap a .long ex ov vs := P.at hi
    obtain ⟨cl, h1, h2, -⟩ := id F
    obtain ⟨g1, -⟩ := ArOk.inb (Z := wZ W) h2 hj hk (List.getElem?_eq_getElem hl)
    obtain ⟨T', h', X', e', E, st⟩ := Jvm.RoadKit.stJ X hx hZ rfl h1 g1 (g := mkF (kM K) pc L.toArray (.long x :: .int j :: .ref a :: S)) rfl rfl (hbM hc hd)
    exact ⟨T', _, X', Fr.snoc X' N ((P.2.1 _ (List.mem_of_getElem? hi)).1 rfl).1, by rw [e']; exact P.put hi E (F.put hk (rfl) E), by rw [e']; exact Nx.put hi E, st⟩) k
/-- a reference stored into an array over the class C: null, or an object of exactly the class D that is a C -/
theorem Wp.aastore {a : Addr} {ex : Bool} {C : String} {vs : List Value} {j : Int32} {v : Value} (i kk : Nat) (hi : H[i]? = some (a, true, .inr (.object C, ex, true, vs))) (hj : ¬ j < 0) (hk : j.toNatClampNeg = kk) (hl : kk < vs.length) (hs : v = .null ∨ ∃ y, v = .ref y ∧ ∀ h, Hp W h H → Ins (wZ W) h y C true) (hr : v.isRef = true)
    (hd : Dc (mC M) pc .aastore 1 pc') (hH : H.set i (a, true, .inr (.object C, ex, true, vs.set kk v)) = H') (k : Wp W K M Q H' c n pc' L S) : Wp W K M Q H c n pc L (v :: .int j :: .ref a :: S) := by
  obtain ⟨hd, rfl⟩ := hd
  subst hH
  exact Wp.to (fun T locs X hx hZ ho hc _ hnm P N => by
    have F : ArOk (wZ W) T.heap a (.object C) ex true vs := P.at hi
    obtain ⟨cl, h1, h2, h3, h4, h5, h6⟩ := id F
    obtain ⟨g1, -⟩ := ArOk.inb (Z := wZ W) h2 hj hk (List.getElem?_eq_getElem hl)
    have B : Sto (wZ W) T.heap a v := hs.elim Or.inl fun ⟨y, e, I⟩ => e ▸ Sto.of h1 (h6 rfl C rfl) (I _ P)
    obtain ⟨T', h', X', e', E, st⟩ := Jvm.RoadKit.stR X hx hZ rfl h1 g1 rfl B (g := mkF (kM K) pc L.toArray (v :: .int j :: .ref a :: S)) rfl rfl (hbM hc hd)
    have hf : fits (.object C) v = true := by rcases ref_cases hr with rfl | ⟨_, rfl⟩ <;> rfl
    exact ⟨T', _, X', Fr.snoc X' N ((P.2.1 _ (List.mem_of_getElem? hi)).1 rfl).1, by rw [e']; exact P.put hi E (F.put hk hf E), by rw [e']; exact Nx.put hi E, st⟩) k
-- the ends
theorem Wp.fin {v : Option Value} (q : Q v H) (hc1 : c ≤ (mR M).cells) (hn1 : n ≤ (mR M).slots) (hv : mT M = none → v = none)
    (st : ∀ T locs, Stand (kP K) (wL W) (kE K) (mR M) (kS K) (kM K) (kA K) (kB K) (kH K) (kC K) T locs c n → (kP K).tables.exec = Jvm.exec → (kC K).code = mC M → (kH K).sig.returnType = mT M → ∀ fs, (∀ (f : JFrame) (acts : List Action), f.method = kM K → f.locked = none → f.entered = [] → (doReturn (kE K) (T.setTop f) acts v).1 = T.setFrames fs) → Steps (kP K).tables (kE K) (kB K) (T.setTop (mkF (kM K) pc L.toArray S)) (T.setFrames fs)) : Wp W K M Q H c n pc L S := fun T X => by
  obtain ⟨hx, hZ, ho, hb, hm, hr, hn, hl, gs, locs, X, N, P⟩ := X
  rcases e : kW K with _ | ⟨s0, EL⟩
  · obtain ⟨fs, h1, h2, h3, h4, h5⟩ := X.leave (v := v) (fun u => hv (hr.symm.trans u)) hl
    refine ⟨_, st T locs X hx hb hr fs h1, _, h2, h3, v, locs, rfl, N, H, P, q, gs.1, ?_⟩
    rw [e]
    exact ⟨⟨v, rfl⟩, h4, h5.mono hc1 hn1⟩
  · obtain ⟨g1, ⟨k0, g2, g3⟩, g4, g5, g6⟩ := gs.2.get e
    have X1 := X
    rw [g1] at X1
    have A := CHv.at X1 hZ g4 g5.1
    obtain ⟨fs, h1, h2, h3, h4, h5, h6, h7⟩ := Stand.leaveW X1 g2 g3 (v := v) (fun u => hv (hr.symm.trans u)) hl
    refine ⟨_, st T locs X hx hb hr fs h1, _, h2, h3, v, locs, rfl, N, H, P, q, gs.1, ?_⟩
    rw [e]
    exact ⟨⟨h4, h5, h6, h7.mono hc1 hn1⟩, g5.trans A, fun y hy hr => A.safe (P.2.1 y hy).2.lt (g6 y hy hr)⟩
theorem Wp.ret (hT : mT M = none) (hd : Dc (mC M) pc .return_ 1 pc') (hc1 : c ≤ (mR M).cells) (hn1 : n ≤ (mR M).slots) (q : Q none H) : Wp W K M Q H c n pc L [] := by
  obtain ⟨hd, rfl⟩ := hd
  exact Wp.fin q hc1 hn1 (fun _ => rfl) fun T locs X hx hc hr fs hl => X.returnOut hx (hr.trans hT) (hbM hc hd) hl
theorem Wp.iretN {t : FieldType} {x z : Int32} (ht : t = .boolean ∨ t = .byte ∨ t = .char ∨ t = .short) (hT : mT M = some t) (hz : nar t x = z) (hd : Dc (mC M) pc .ireturn 1 pc') (hc1 : c ≤ (mR M).cells) (hn1 : n ≤ (mR M).slots) (q : Q (some (.int z)) H) : Wp W K M Q H c n pc L (.int x :: S) := by
  obtain ⟨hd, rfl⟩ := hd
  subst hz
  exact Wp.fin q hc1 hn1 (fun u => by rw [hT] at u; cases u) fun T locs X hx hc hr fs hl => retN X hx (hr.trans hT) ht (hbM hc hd) hl
theorem Wp.iret {x : Int32} (hT : mT M = some .int) (hd : Dc (mC M) pc .ireturn 1 pc') (hc1 : c ≤ (mR M).cells) (hn1 : n ≤ (mR M).slots) (q : Q (some (.int x)) H) : Wp W K M Q H c n pc L (.int x :: S) := by
  obtain ⟨hd, rfl⟩ := hd
  exact Wp.fin q hc1 hn1 (fun u => by rw [hT] at u; cases u) fun T locs X hx hc hr fs hl => retOut X hx (hr.trans hT) rfl (Or.inl ⟨rfl, Or.inl rfl, x, rfl⟩) (hbM hc hd) hl
theorem Wp.lret {x : Int64} (hT : mT M = some .long) (hd : Dc (mC M) pc .lreturn 1 pc') (hc1 : c ≤ (mR M).cells) (hn1 : n ≤ (mR M).slots) (q : Q (some (.long x)) H) : Wp W K M Q H c n pc L (.long x :: S) := by
  obtain ⟨hd, rfl⟩ := hd
  exact Wp.fin q hc1 hn1 (fun u => by rw [hT] at u; cases u) fun T locs X hx hc hr fs hl => retOut X hx (hr.trans hT) rfl (Or.inr (Or.inl ⟨rfl, rfl, x, rfl⟩)) (hbM hc hd) hl
theorem Wp.aret {t : FieldType} {v : Value} (hT : mT M = some t) (hr1 : t.isReference = true) (hv : v.isRef = true) (hd : Dc (mC M) pc .areturn 1 pc') (hc1 : c ≤ (mR M).cells) (hn1 : n ≤ (mR M).slots) (q : Q (some v) H) : Wp W K M Q H c n pc L (v :: S) := by
  obtain ⟨hd, rfl⟩ := hd
  have hn2 : narrow t v = v := by rcases ref_cases hv with rfl | ⟨_, rfl⟩ <;> cases t <;> rfl
  exact Wp.fin q hc1 hn1 (fun u => by rw [hT] at u; cases u) fun T locs X hx hc hr fs hl => retOut X hx (hr.trans hT) hn2 (Or.inr (Or.inr (Or.inr (Or.inr ⟨rfl, hr1, hv⟩)))) (hbM hc hd) hl
-- calls
def pushV (v : Option Value) (S : List Value) : List Value := match v with
  | none => S
  | some x => x :: S
theorem pushV_eq (v : Option Value) (S : List Value) : pushV v S = v.toList ++ S := by cases v <;> rfl
theorem mkLen {d : String} {ps : List FieldType} {r : Option FieldType} {np : Nat} (hd : parseMethodDescriptor d = some ⟨ps, r⟩) (hl : np = ps.length) : ∀ sig, parseMethodDescriptor d = some sig → np = sig.parameters.length := fun sig h => by
  rw [hd] at h; cases h; exact hl
theorem Wp.know {P : Prop} (q : ∀ h, Hp W h H → P) (k : P → Wp W K M Q H c n pc L S) : Wp W K M Q H c n pc L S := fun T X => by
  have u := X
  obtain ⟨-, -, -, -, -, -, -, -, -, -, -, -, hp⟩ := u
  exact k (q _ hp) T X
theorem Wp.apart {a b : Addr} {r r' : Bool} {D D' : Ds} (i j : Nat) (hi : H[i]? = some (a, r, D)) (hj : H[j]? = some (b, r', D')) (hne : i ≠ j) (hr : r = true) (k : b ≠ a → Wp W K M Q H c n pc L S) : Wp W K M Q H c n pc L S := Wp.know (fun _ P => P.apart hi hj hne hr) k
theorem acT_eq (a : Value) : Jvm.Free.XT.acmp .eq a a = true := by simp [Jvm.Free.XT.acmp]
theorem acT_ne (a : Value) : Jvm.Free.XT.acmp .ne a a = false := by simp [Jvm.Free.XT.acmp]
theorem acF_eq {a b : Addr} (h : a ≠ b) : Jvm.Free.XT.acmp .eq (.ref a) (.ref b) = false := by simp [Jvm.Free.XT.acmp, h]
theorem acF_ne {a b : Addr} (h : a ≠ b) : Jvm.Free.XT.acmp .ne (.ref a) (.ref b) = true := by simp [Jvm.Free.XT.acmp, h]
theorem acN_eq_l (b : Addr) : Jvm.Free.XT.acmp .eq .null (.ref b) = false := by simp [Jvm.Free.XT.acmp]
theorem acN_eq_r (b : Addr) : Jvm.Free.XT.acmp .eq (.ref b) .null = false := by simp [Jvm.Free.XT.acmp]
theorem acN_ne_l (b : Addr) : Jvm.Free.XT.acmp .ne .null (.ref b) = true := by simp [Jvm.Free.XT.acmp]
theorem acN_ne_r (b : Addr) : Jvm.Free.XT.acmp .ne (.ref b) .null = true := by simp [Jvm.Free.XT.acmp]
theorem insSelf {h : Heap} {a : Addr} {r : Bool} {C : String} {fs : List Fd} (P : Hp W h H) (i : Nat) (hi : H[i]? = some (a, r, .inl (C, fs))) : Ins (wZ W) h a C true := Ins.self (show ObOk (wZ W) h a C fs from P.at hi).1
theorem insCast {h : Heap} {a : Addr} {r : Bool} {C D : String} {fs : List Fd} (P : Hp W h H) (i : Nat) (hi : H[i]? = some (a, r, .inl (C, fs))) (w : Wok W (.castable C D)) : Ins (wZ W) h a D true := Ins.of_exa (show ObOk (wZ W) h a C fs from P.at hi).1 w
/-- what the sheet says of a callee: its code, its class, how many arguments -/
def Mk (W : Wd) (M : Mt) (y : MethodName) (np : Nat) : Prop := mN M = y ∧ Wok W (.code y (mC M) (mL M) (mT M)) ∧ Wok W (.initialized y.cls) ∧ (∀ sig, parseMethodDescriptor y.desc = some sig → np = sig.parameters.length) ∧ (y.cls ≠ "java/lang/invoke/MethodHandle" ∧ y.cls ≠ "java/lang/invoke/VarHandle")
theorem Mk.of {W : Wd} {M : Mt} {y : MethodName} {np ml : Nat} {cd : ByteArray} {rt : Option FieldType} (h1 : mN M = y) (h2 : mC M = cd) (h3 : mL M = ml) (h4 : mT M = rt) (w1 : Wok W (.code y cd ml rt)) (w2 : Wok W (.initialized y.cls)) (h5 : ∀ sig, parseMethodDescriptor y.desc = some sig → np = sig.parameters.length) (h6 : y.cls ≠ "java/lang/invoke/MethodHandle" ∧ y.cls ≠ "java/lang/invoke/VarHandle") : Mk W M y np := by
  subst h1 h2 h3 h4
  exact ⟨rfl, w1, w2, h5, h6⟩
abbrev Fits (M M' : Mt) (c n Wn : Nat) : Prop := (mR M').frames + 1 ≤ (mR M).frames ∧ Wn + (mL M' + 11) + (mR M').locals ≤ (mR M).locals ∧ c + (mR M').cells ≤ (mR M).cells ∧ n + (mR M').slots ≤ (mR M).slots
/-- what a callee may write: what its caller may, or what is new -/
def Pn (H : List En) (h : Heap) : Addr → Prop := fun a => (∃ y ∈ H, y.2.1 = true ∧ y.1 = a) ∨ h.size ≤ a
theorem Hp.pn {h : Heap} (P : Hp W h H) : Hp (wSet W (Pn H h)) h H := ⟨⟨P.1.1, fun a q => Or.inr q⟩, fun x hx => ⟨fun r => ⟨((P.2.1 x hx).1 r).1, Or.inl ⟨x, hx, r, rfl⟩⟩, (P.2.1 x hx).2⟩, P.2.2⟩
theorem pn_wp {h : Heap} (P : Hp W h H) {a : Addr} (q : Pn H h a) : wP W a := q.elim (fun ⟨y, hy, r, e⟩ => e ▸ ((P.2.1 y hy).1 r).2) (fun q => P.1.2 a q)
theorem Hp.widen {h h' : Heap} (Q : Hp (wSet W (Pn H h)) h' H') (P : Hp W h H) (le : h.size ≤ h'.size) : Hp W h' H' := ⟨⟨Q.1.1, fun a q => P.1.2 a (Nat.le_trans le q)⟩, fun x hx => ⟨fun r => ⟨((Q.2.1 x hx).1 r).1, pn_wp P ((Q.2.1 x hx).1 r).2⟩, (Q.2.1 x hx).2⟩, Q.2.2⟩
theorem Nx.call {h h' : Heap} (P : Hp W h H) (k : Kl (wSet W (Pn H h)) h h') (Q : Hp (wSet W (Pn H h)) h' H') : Nx h H h' H' := ⟨k.1, fun x c q r => k.2 x c q (fun u => (show Pn H h x from u).elim (fun ⟨y, hy, r', e⟩ => r y hy r' e) (fun g => absurd (Array.getElem?_eq_some_iff.mp q).1 (Nat.not_lt.mpr g))), fun y hy hr => (show Pn H h y.1 from ((Q.2.1 y hy).1 hr).2).elim (fun u => Or.inr u) Or.inl⟩
theorem Ct.back {M' : Mt} {as : List Value} {Q' : Option Value → List En → Prop} {h : Heap} {p : Program} {e : Env} {s : State} {args : Array Value} {below : List Frame} {ln Wn : Nat} {R : Room} (C : ∀ P', Ct (wSet W P') M' as H Q') (P : Hp W h H) (hZ : (wZ W).Warmed39 s.vm) {np : Nat} (w : Mk W M' (mN M') np) (hf : (mR M').frames + 1 ≤ R.frames) (hl : Wn + (mL M' + 11) + (mR M').locals ≤ R.locals) :
    Back (wL W) R p e below s args (mN M') ln Wn (fun A a => a = as.toArray ∧ A.U.heap = h ∧ A.cells + (mR M').cells ≤ R.cells ∧ A.slots + (mR M').slots ≤ R.slots) (fun A _ v B => ∃ L, (Fr (wN W) L ∧ ∃ H', Hp W B.U.heap H' ∧ Nx h H B.U.heap H' ∧ Q' v H') ∧ B.locs = A.locs ++ L ∧ B.cells = A.cells + (mR M').cells ∧ B.slots = A.slots + (mR M').slots) :=
  backOf (Q := fun v h1 L => Fr (wN W) L ∧ ∃ H', Hp W h1 H' ∧ Nx h H h1 H' ∧ Q' v H') ((C (Pn H h) [] h P.pn).mono (fun _ _ u => u) (fun _ _ _ _ _ u => u) (fun _ _ _ _ _ ⟨v, L, e1, ⟨⟨e2, e6⟩, H', e3, e4⟩, e5⟩ => ⟨v, L, e1, ⟨e2, H', e3.widen P e6.1, Nx.call P e6 e3, e4⟩, e5⟩)) hZ w.2.1 w.2.2.1 hf hl
theorem Wp.callS {y0 : MethodName} (hM : mN M = y0) {M' : Mt} {as : List Value} {idx Wn np : Nat} {S0 : List Value} {Q' : Option Value → List En → Prop} (C : ∀ P', Ct (wSet W P') M' as H Q') {y' : MethodName} (w : Mk W M' y' np) (w1 : Wok W (.methodLink y0.cls idx y')) (w2 : Wok W (.static y')) (hst : S0 = as.reverse ++ S) (hp : as.length = np) (hW : (S.map fun v => v.category).sum = Wn) (hL : L.length = mL M) (hR : Fits M M' c n Wn)
    (hd : Dc (mC M) pc (.invokestatic idx) 3 pc') (k : ∀ v H', Q' v H' → Wp W K M Q H' (c + (mR M').cells) (n + (mR M').slots) pc' L (pushV v S)) : Wp W K M Q H c n pc L S0 := by
  subst hM
  obtain ⟨rfl, w⟩ := w
  obtain ⟨hd, rfl⟩ := hd
  subst hst hp
  exact fun T X => by
    obtain ⟨hx, hZ, ho, hb, hm, hr, hn, hl, gs, locs, X, N, P⟩ := X
    obtain ⟨v, vm1, ⟨T', L', k', n'⟩, -, X', ⟨Lc, ⟨N', H', P', g', q⟩, l1, y1, z1⟩, st⟩ := Jvm.LawKit.callS X hx (y := mN M') ho (mvT hZ w1) (mvT hZ w2) (mvT hZ w.2.1) (mvT hZ w.1) w.2.2.2 (Ct.back C P hZ ⟨rfl, w⟩ hR.1 hR.2.1) (g := mkF (kM K) pc L.toArray (as.reverse ++ S)) rfl (by rw [hm, ← hL]; simp) (argsL := as) (rest := S) w.2.2.1 rfl (by show 2 * 0 + _ ≤ _; omega) (hbM hb hd) (fun _ _ => ⟨rfl, rfl, hR.2.2.1, hR.2.2.2⟩)
    dsimp only [Pt.U, Pt.locs, Pt.cells, Pt.slots] at X' l1 y1 z1 st P'
    subst l1 y1 z1
    obtain ⟨U, s1, s2⟩ := k v H' q T' ⟨hx, hZ, ho, hb, hm, hr, hn, hl, gs.nx P g', _, X', N.app N', P'⟩
    rw [pushV_eq] at s1
    exact ⟨U, st _ s1, s2⟩
/-- a constructor -/
theorem Wp.callC {y0 : MethodName} (hM : mN M = y0) {M' : Mt} {a : Addr} {as : List Value} {idx Wn np : Nat} {S0 : List Value} {Q' : Option Value → List En → Prop} (C : ∀ P', Ct (wSet W P') M' (.ref a :: as) H Q') {y' : MethodName} (w : Mk W M' y' np) (w1 : Wok W (.methodLink y0.cls idx y')) (w2 : Wok W (.instanceMethod y')) (hi : y'.name = "<init>") (hT : mT M' = none) (hst : S0 = as.reverse ++ .ref a :: S) (hp : as.length = np) (hW : (S.map fun v => v.category).sum = Wn) (hL : L.length = mL M) (hR : Fits M M' c n Wn)
    (hd : Dc (mC M) pc (.invokespecial idx) 3 pc') (k : ∀ v H', Q' v H' → Wp W K M Q H' (c + (mR M').cells) (n + (mR M').slots) pc' L (pushV v S)) : Wp W K M Q H c n pc L S0 := by
  subst hM
  obtain ⟨rfl, w⟩ := w
  obtain ⟨hd, rfl⟩ := hd
  subst hst hp
  exact fun T X => by
    obtain ⟨hx, hZ, ho, hb, hm, hr, hn, hl, gs, locs, X, N, P⟩ := X
    obtain ⟨v, vm1, ⟨T', L', k', n'⟩, -, X', ⟨Lc, ⟨N', H', P', g', q⟩, l1, y1, z1⟩, st⟩ := X.specialBack hx (y := mN M') hi ho (mvT hZ w1) (mvT hZ w2) (hT ▸ mvT hZ w.1) w.2.2.2 (Ct.back C P hZ ⟨rfl, w⟩ hR.1 hR.2.1) (g := mkF (kM K) pc L.toArray (as.reverse ++ .ref a :: S)) rfl (by rw [hm, ← hL]; simp) (Steps.refl _) (a := a) (argsL := as) (rest := S) w.2.2.1 rfl (by show 2 * 0 + _ ≤ _; omega) (hbM hb hd) (fun _ _ => ⟨rfl, rfl, hR.2.2.1, hR.2.2.2⟩)
    dsimp only [Pt.U, Pt.locs, Pt.cells, Pt.slots] at X' l1 y1 z1 st P'
    subst l1 y1 z1
    obtain ⟨U, s1, s2⟩ := k v H' q T' ⟨hx, hZ, ho, hb, hm, hr, hn, hl, gs.nx P g', _, X', N.app N', P'⟩
    rw [pushV_eq] at s1
    exact ⟨U, st.trans s1, s2⟩
theorem selP {args : Array Value} {s : State} {C1 : String} {y : MethodName} (hZ : (wZ W).Warmed39 s.vm) (w3 : Wok W (.selects C1 y y)) (w2 : Wok W (.instanceMethod y)) (w4 : Wok W (.privateMethod y)) (hy : y.cls ≠ "java/lang/invoke/MethodHandle" ∧ y.cls ≠ "java/lang/invoke/VarHandle") : (Cond.selects y.cls y y).before args s = true := by
  obtain ⟨c2, r2, m2, q1, q2, q3, q4, kP, hkP, hkPi⟩ := Cond.selects_spec (args := #[]) (mvT hZ w3)
  exact Jvm.Stand.selects_self_of_private (findClass_of_methodNamed q3) hkP hkPi (Cond.privateMethod_at (mvP hZ w4 (args := #[]))) (mvT hZ w2) hy
theorem nf_sel {args : Array Value} {s : State} {C : String} {y y1 z1 : MethodName} (hsel : (Cond.selects C y1 z1).before args s = true) (hc : z1.cls = y.cls) : NotFace s y := fun r0 h0 => by
  obtain ⟨c2, r2, m2, q1, q2, q3, q4, kP, hkP, hkPi⟩ := Cond.selects_spec hsel
  have e1 := findClass_of_methodNamed q3
  rw [hc] at e1
  have e := Option.some.inj (e1.symm.trans (findClass_of_methodNamed h0))
  exact ⟨kP, by rw [← e]; exact hkP, hkPi⟩
theorem sameM {C1 : String} {y y1 z1 : MethodName} (w3 : Wok W (.instanceMethod y)) (w5 : Wok W (.selects C1 y1 z1)) (hc : z1.cls = y.cls) (hy : y.cls ≠ "java/lang/invoke/MethodHandle" ∧ y.cls ≠ "java/lang/invoke/VarHandle") : Wok W (.sameMethod y.cls y.cls y.name y.desc) := by
  obtain ⟨mk, methM, hnamed, hmethM, -, -⟩ := Cond.instanceMethod_spec w3
  have hfound := State.methodFound?_of_named hnamed hy
  obtain ⟨kr, hkr, hni⟩ := nf_sel w5 hc mk hnamed
  have hcl := findClass_of_methodNamed hnamed
  cases y
  show (Cond.sameMethod _ _ _ _).before _ _ = true
  simp_all [Cond.before, Cond.holds, Cond.value]
/-- why the class that an entry names is no interface -/
def NfW (W : Wd) (y y' : MethodName) (S' : String) : Prop := y = y' ∨ Wok W (.superclass y.cls S') ∨ Wok W (.noSuperclass y.cls) ∨ ∃ C1 y1 z1, Wok W (.selects C1 y1 z1) ∧ z1.cls = y.cls
theorem nf_of {s : State} {C0 S' : String} {y y' : MethodName} (hZ : (wZ W).Warmed39 s.vm) (w3 : Wok W (.selects C0 y y')) (nf : NfW W y y' S') : NotFace s y := by
  rcases nf with e | u | u | ⟨C1, y1, z1, u, hc⟩
  · exact notFace_of_selects (args := #[]) (C := C0) (by rw [← e] at w3; exact mvT hZ w3)
  · exact nf_super (args := #[]) (mvT hZ u)
  · exact nf_top (args := #[]) (mvT hZ u)
  · exact nf_sel (args := #[]) (mvT hZ u) hc
theorem Wp.callV {y0 : MethodName} (hM : mN M = y0) {M' : Mt} {y : MethodName} {C0 S' : String} {fs : List Fd} {rw : Bool} {a : Addr} {as : List Value} {idx Wn np : Nat} {S0 : List Value} {Q' : Option Value → List En → Prop} (C : ∀ P', Ct (wSet W P') M' (.ref a :: as) H Q') (i : Nat) (hi : H[i]? = some (a, rw, .inl (C0, fs))) {y' : MethodName} (w : Mk W M' y' np) (w1 : Wok W (.methodLink y0.cls idx y)) (w2 : Wok W (.declares y)) (w3 : Wok W (.selects C0 y y')) (w4 : Wok W (.instanceMethod y'))
    (nf : NfW W y y' S') (hy : y.cls ≠ "java/lang/invoke/MethodHandle" ∧ y.cls ≠ "java/lang/invoke/VarHandle") (hdsc : y.desc = y'.desc) (hst : S0 = as.reverse ++ .ref a :: S) (hp : as.length = np) (hW : (S.map fun v => v.category).sum = Wn) (hL : L.length = mL M) (hR : Fits M M' c n Wn)
    (hd : Dc (mC M) pc (.invokevirtual idx) 3 pc') (k : ∀ v H', Q' v H' → Wp W K M Q H' (c + (mR M').cells) (n + (mR M').slots) pc' L (pushV v S)) : Wp W K M Q H c n pc L S0 := by
  subst hM
  obtain ⟨rfl, w⟩ := w
  obtain ⟨hd, rfl⟩ := hd
  subst hst hp
  exact fun T X => by
    obtain ⟨hx, hZ, ho, hb, hm, hr, hn, hl, gs, locs, X, N, P⟩ := X
    have F : ObOk (wZ W) T.heap a C0 fs := P.at hi
    obtain ⟨cq, kq, q1, q2, q3⟩ := isOf hZ rfl F.1
    have nf' : NotFace (kS K) y := nf_of hZ w3 nf
    obtain ⟨v, vm1, ⟨T', L', k', n'⟩, -, X', ⟨Lc, ⟨N', H', P', g', q⟩, l1, y1, z1⟩, st⟩ := X.virtualBack hx (y := y) (z := mN M') ho (mvT hZ w1) (mvT hZ w2) nf' (mvT hZ w3) (mvT hZ w4) hy (Ct.back C P hZ ⟨rfl, w⟩ hR.1 hR.2.1) q1 q3 (g := mkF (kM K) pc L.toArray (as.reverse ++ .ref a :: S)) rfl (by rw [hm, ← hL]; simp) (Steps.refl _) (argsL := as) (rest := S) (fun sig u => w.2.2.1 sig (hdsc ▸ u)) rfl (by show 2 * 0 + _ ≤ _; omega) (hbM hb hd) (fun _ _ => ⟨rfl, rfl, hR.2.2.1, hR.2.2.2⟩)
    dsimp only [Pt.U, Pt.locs, Pt.cells, Pt.slots] at X' l1 y1 z1 st P'
    subst l1 y1 z1
    obtain ⟨U, s1, s2⟩ := k v H' q T' ⟨hx, hZ, ho, hb, hm, hr, hn, hl, gs.nx P g', _, X', N.app N', P'⟩
    rw [pushV_eq] at s1
    exact ⟨U, st.trans s1, s2⟩
theorem Wp.callI {y0 : MethodName} (hM : mN M = y0) {M' : Mt} {y : MethodName} {C0 : String} {fs : List Fd} {rw : Bool} {a : Addr} {as : List Value} {idx cnt Wn np : Nat} {S0 : List Value} {Q' : Option Value → List En → Prop} (C : ∀ P', Ct (wSet W P') M' (.ref a :: as) H Q') (i : Nat) (hi : H[i]? = some (a, rw, .inl (C0, fs))) {y' : MethodName} (w : Mk W M' y' np) (w1 : Wok W (.methodLink y0.cls idx y)) (w2 : Wok W (.declares y)) (w3 : Wok W (.interfaceMethod y.cls y.cls y.name y.desc)) (w4 : Wok W (.selects C0 y y')) (w5 : Wok W (.instanceMethod y')) (w6 : Wok W (.publicMethod y')) (w7 : Wok W (.unhidden C0 y.name y.desc)) (w8 : Wok W (.castable C0 y.cls))
    (hy : y.cls ≠ "java/lang/invoke/MethodHandle" ∧ y.cls ≠ "java/lang/invoke/VarHandle") (hdsc : y.desc = y'.desc) (hst : S0 = as.reverse ++ .ref a :: S) (hp : as.length = np) (hW : (S.map fun v => v.category).sum = Wn) (hL : L.length = mL M) (hR : Fits M M' c n Wn)
    (hd : Dc (mC M) pc (.invokeinterface idx cnt) 5 pc') (k : ∀ v H', Q' v H' → Wp W K M Q H' (c + (mR M').cells) (n + (mR M').slots) pc' L (pushV v S)) : Wp W K M Q H c n pc L S0 := by
  subst hM
  obtain ⟨rfl, w⟩ := w
  obtain ⟨hd, rfl⟩ := hd
  subst hst hp
  exact fun T X => by
    obtain ⟨hx, hZ, ho, hb, hm, hr, hn, hl, gs, locs, X, N, P⟩ := X
    have F : ObOk (wZ W) T.heap a C0 fs := P.at hi
    obtain ⟨cq, kq, q1, q2, q3⟩ := isOf hZ rfl F.1
    obtain ⟨v, vm1, ⟨T', L', k', n'⟩, -, X', ⟨Lc, ⟨N', H', P', g', q⟩, l1, y1, z1⟩, st⟩ := X.interfaceBack hx (xi := y) (y := mN M') ho (mvT hZ w1) (mvT hZ w2) (mvT hZ w3 (by simp [Cond.onTables, Cond.keepsFace, Cond.faceAtom, hy.1, hy.2])) (mvT hZ w4) (mvT hZ w5) (mvT hZ w6) (mvT hZ w7) (mvT hZ w8) hy (Ct.back C P hZ ⟨rfl, w⟩ hR.1 hR.2.1) q1 q2 q3 (g := mkF (kM K) pc L.toArray (as.reverse ++ .ref a :: S)) rfl (by rw [hm, ← hL]; simp) (Steps.refl _) (argsL := as) (rest := S) (fun sig u => w.2.2.1 sig (hdsc ▸ u)) rfl (by show 2 * 0 + _ ≤ _; omega) (hbM hb hd) (fun _ _ => ⟨rfl, rfl, hR.2.2.1, hR.2.2.2⟩)
    dsimp only [Pt.U, Pt.locs, Pt.cells, Pt.slots] at X' l1 y1 z1 st P'
    subst l1 y1 z1
    obtain ⟨U, s1, s2⟩ := k v H' q T' ⟨hx, hZ, ho, hb, hm, hr, hn, hl, gs.nx P g', _, X', N.app N', P'⟩
    rw [pushV_eq] at s1
    exact ⟨U, st.trans s1, s2⟩
/-- a private instance method -/
theorem Wp.callP {y0 : MethodName} (hM : mN M = y0) {M' : Mt} {rw : Bool} {C0 : String} {fs : List Fd} {a : Addr} {as : List Value} {idx Wn np : Nat} {S0 : List Value} {Q' : Option Value → List En → Prop} (C : ∀ P', Ct (wSet W P') M' (.ref a :: as) H Q') (i : Nat) (hi : H[i]? = some (a, rw, .inl (C0, fs))) {y' : MethodName} (w : Mk W M' y' np) (w1 : Wok W (.methodLink y0.cls idx y')) (w2 : Wok W (.instanceMethod y')) {C1 : String} (w3 : Wok W (.selects C1 y' y')) (w4 : Wok W (.privateMethod y'))
    (hst : S0 = as.reverse ++ .ref a :: S) (hp : as.length = np) (hW : (S.map fun v => v.category).sum = Wn) (hL : L.length = mL M) (hR : Fits M M' c n Wn)
    (hd : Dc (mC M) pc (.invokevirtual idx) 3 pc') (k : ∀ v H', Q' v H' → Wp W K M Q H' (c + (mR M').cells) (n + (mR M').slots) pc' L (pushV v S)) : Wp W K M Q H c n pc L S0 := by
  subst hM
  obtain ⟨rfl, w⟩ := w
  obtain ⟨hd, rfl⟩ := hd
  subst hst hp
  exact fun T X => by
    obtain ⟨hx, hZ, ho, hb, hm, hr, hn, hl, gs, locs, X, N, P⟩ := X
    have F : ObOk (wZ W) T.heap a C0 fs := P.at hi
    obtain ⟨cq, q1, q2⟩ := F.1.cell
    obtain ⟨v, vm1, ⟨T', L', k', n'⟩, -, X', ⟨Lc, ⟨N', H', P', g', q⟩, l1, y1, z1⟩, st⟩ := X.privateBack hx (y := mN M') ho (mvT hZ w1) (mvT hZ w2) (selP hZ w3 w2 w4 w.2.2.2) (Cond.privateMethod_at (mvP hZ w4 (args := #[]))) (mvT hZ w.1) w.2.2.2 (Ct.back C P hZ ⟨rfl, w⟩ hR.1 hR.2.1) (g := mkF (kM K) pc L.toArray (as.reverse ++ .ref a :: S)) rfl (by rw [hm, ← hL]; simp) (Steps.refl _) (a := a) q1 q2 (argsL := as) (rest := S) w.2.2.1 rfl (by show 2 * 0 + _ ≤ _; omega) (hbM hb hd) (fun _ _ => ⟨rfl, rfl, hR.2.2.1, hR.2.2.2⟩)
    dsimp only [Pt.U, Pt.locs, Pt.cells, Pt.slots] at X' l1 y1 z1 st P'
    subst l1 y1 z1
    obtain ⟨U, s1, s2⟩ := k v H' q T' ⟨hx, hZ, ho, hb, hm, hr, hn, hl, gs.nx P g', _, X', N.app N', P'⟩
    rw [pushV_eq] at s1
    exact ⟨U, st.trans s1, s2⟩
/-- super.m(..) -/
theorem Wp.callU {y0 : MethodName} (hM : mN M = y0) {M' : Mt} {rw : Bool} {C0 : String} {fs : List Fd} {a : Addr} {as : List Value} {idx Wn np : Nat} {S0 : List Value} {Q' : Option Value → List En → Prop} (C : ∀ P', Ct (wSet W P') M' (.ref a :: as) H Q') (i : Nat) (hi : H[i]? = some (a, rw, .inl (C0, fs))) {y' : MethodName} (w : Mk W M' y' np) (w1 : Wok W (.methodLink y0.cls idx y')) (w2 : Wok W (.sameMethod y'.cls y'.cls y'.name y'.desc)) (w3 : Wok W (.instanceMethod y')) (w4 : Wok W (.superclass y0.cls y'.cls)) (hni : y'.name ≠ "<init>")
    (hst : S0 = as.reverse ++ .ref a :: S) (hp : as.length = np) (hW : (S.map fun v => v.category).sum = Wn) (hL : L.length = mL M) (hR : Fits M M' c n Wn)
    (hd : Dc (mC M) pc (.invokespecial idx) 3 pc') (k : ∀ v H', Q' v H' → Wp W K M Q H' (c + (mR M').cells) (n + (mR M').slots) pc' L (pushV v S)) : Wp W K M Q H c n pc L S0 := by
  subst hM
  obtain ⟨rfl, w⟩ := w
  obtain ⟨hd, rfl⟩ := hd
  subst hst hp
  exact fun T X => by
    obtain ⟨hx, hZ, ho, hb, hm, hr, hn, hl, gs, locs, X, N, P⟩ := X
    have F : ObOk (wZ W) T.heap a C0 fs := P.at hi
    obtain ⟨v, vm1, ⟨T', L', k', n'⟩, -, X', ⟨Lc, ⟨N', H', P', g', q⟩, l1, y1, z1⟩, st⟩ := superBack X hx hZ (y := mN M') ho w1 w2 w3 w4 hni (Ct.back C P hZ ⟨rfl, w⟩ hR.1 hR.2.1) rfl (Ins.self F.1) (g := mkF (kM K) pc L.toArray (as.reverse ++ .ref a :: S)) rfl (by rw [hm, ← hL]; simp) w.1 (argsL := as) (rest := S) w.2.2.1 rfl (by show 2 * 0 + _ ≤ _; omega) (hbM hb hd) (fun _ _ => ⟨rfl, rfl, hR.2.2.1, hR.2.2.2⟩)
    dsimp only [Pt.U, Pt.locs, Pt.cells, Pt.slots] at X' l1 y1 z1 st P'
    subst l1 y1 z1
    obtain ⟨U, s1, s2⟩ := k v H' q T' ⟨hx, hZ, ho, hb, hm, hr, hn, hl, gs.nx P g', _, X', N.app N', P'⟩
    rw [pushV_eq] at s1
    exact ⟨U, st.trans s1, s2⟩
theorem Wp.initO {y0 : MethodName} (hM : mN M = y0) {a : Addr} {idx Wn : Nat} (w1 : Wok W (.methodLink y0.cls idx Lib.objectInit)) (w2 : Wok W (.instanceMethod Lib.objectInit)) (w3 : Wok W (.code Lib.objectInit ⟨#[0xb1]⟩ 1 none)) (hW : (S.map fun v => v.category).sum = Wn) (hL : L.length = mL M) (hf : 1 ≤ (mR M).frames) (hlo : Wn + 12 ≤ (mR M).locals)
    (hd : Dc (mC M) pc (.invokespecial idx) 3 pc') (k : Wp W K M Q H c n pc' L S) : Wp W K M Q H c n pc L (.ref a :: S) := by
  subst hM
  obtain ⟨hd, rfl⟩ := hd
  exact Wp.to (fun T locs X hx hZ ho hc hm _ P N => by
    obtain ⟨T', X', e', st⟩ := Jvm.RoadKit.initO X hx hZ ho w1 w2 w3 rfl (g := mkF (kM K) pc L.toArray (.ref a :: S)) rfl (by rw [hm, ← hL]; simp) rfl (hbM hc hd) hf (W := Wn) (by show 2 * 0 + _ ≤ _; omega) hlo
    exact ⟨T', locs, X', N, by rw [e']; exact P, by rw [e']; exact Nx.refl _ _, st⟩) k
-- casts
theorem Wp.cast {y0 : MethodName} (hM : mN M = y0) {a : Addr} {Kc : String} {idx : Nat} (w : Wok W (.classLink y0.cls idx Kc)) (I : ∀ h, Hp W h H → Ins (wZ W) h a Kc true) (hd : Dc (mC M) pc (.checkcast idx) 3 pc') (k : Wp W K M Q H c n pc' L (.ref a :: S)) : Wp W K M Q H c n pc L (.ref a :: S) := by
  subst hM
  obtain ⟨hd, rfl⟩ := hd
  exact Wp.to (fun T locs X hx hZ ho hc _ _ P N => by
    obtain ⟨T', X', e', st⟩ := castY X hx hZ ho w rfl (I _ P) (g := mkF (kM K) pc L.toArray (.ref a :: S)) rfl rfl (hbM hc hd)
    exact ⟨T', locs, X', N, by rw [e']; exact P, by rw [e']; exact Nx.refl _ _, st⟩) k
theorem Wp.inst {y0 : MethodName} (hM : mN M = y0) {a : Addr} {Kc : String} {idx : Nat} (w : Wok W (.classLink y0.cls idx Kc)) (I : ∀ h, Hp W h H → Ins (wZ W) h a Kc true) (hd : Dc (mC M) pc (.instanceof idx) 3 pc') (k : Wp W K M Q H c n pc' L (.int 1 :: S)) : Wp W K M Q H c n pc L (.ref a :: S) := by
  subst hM
  obtain ⟨hd, rfl⟩ := hd
  exact Wp.to (fun T locs X hx hZ ho hc _ _ P N => by
    obtain ⟨T', X', e', st⟩ := instY X hx hZ ho w rfl (I _ P) (g := mkF (kM K) pc L.toArray (.ref a :: S)) rfl rfl (hbM hc hd)
    exact ⟨T', locs, X', N, by rw [e']; exact P, by rw [e']; exact Nx.refl _ _, st⟩) k
-- the heap's rows in another order: the first k as 'is' tells
def sel (is : List Nat) (H : List En) : List En := is.filterMap fun i => H[i]?
theorem sel_range : ∀ (k : Nat) (H : List En), sel (List.range k) H = H.take k
  | 0, H => by simp [sel]
  | k + 1, H => by
    have ih := sel_range k H
    unfold sel at ih ⊢
    rw [List.range_succ, List.filterMap_append, ih, List.take_add_one]
    cases h : H[k]? <;> simp [h]
theorem sel_perm {is : List Nat} {k : Nat} (hp : is.isPerm (List.range k) = true) (H : List En) : H.Perm (sel is H ++ H.drop k) := by
  have h1 : (sel is H).Perm (H.take k) := by
    rw [← sel_range]
    exact List.Perm.filterMap _ (List.isPerm_iff.mp hp)
  have h2 : (H.take k ++ H.drop k).Perm (sel is H ++ H.drop k) := List.Perm.append_right _ h1.symm
  rwa [List.take_append_drop] at h2
theorem Wp.perm (is : List Nat) (m : Nat) (hp : is.isPerm (List.range m) = true) (e : sel is H ++ H.drop m = H') (k : Wp W K M Q H' c n pc L S) : Wp W K M Q H c n pc L S := Wp.heap (e ▸ sel_perm hp H) k
end Logic
section Logic2
variable {W : Wd} {K : Kx} {M : Mt} {Q : Option Value → List En → Prop} {H H' : List En} {c n pc pc' pt len : Nat} {L L' : List Slot} {S : List Value}
theorem Wp.castNull {idx : Nat} (hd : Dc (mC M) pc (.checkcast idx) 3 pc') (k : Wp W K M Q H c n pc' L (.null :: S)) : Wp W K M Q H c n pc L (.null :: S) := by
  obtain ⟨hd, rfl⟩ := hd
  exact Wp.go (fun T locs X hx _ ho hc _ _ t r => X.checkcastNull hx (g := mkF (kM K) pc L.toArray (.null :: S)) rfl rfl (hbM hc hd) _ r) k
theorem Wp.instNull {idx : Nat} (hd : Dc (mC M) pc (.instanceof idx) 3 pc') (k : Wp W K M Q H c n pc' L (.int 0 :: S)) : Wp W K M Q H c n pc L (.null :: S) := by
  obtain ⟨hd, rfl⟩ := hd
  exact Wp.go (fun T locs X hx _ ho hc _ _ t r => X.instanceofNull hx (g := mkF (kM K) pc L.toArray (.null :: S)) rfl rfl (hbM hc hd) _ r) k
theorem Wp.tswIn {x : Int32} {dflt low high o : Int} {offs : Array Int} (hin : ¬ (x.toInt < low ∨ x.toInt > high)) (hoff : offs[(x.toInt - low).toNat]? = some o) (h1 : 0 ≤ (pc : Int) + o) (h2 : ((pc : Int) + o).toNat = pt) (hd : Dc (mC M) pc (.tableswitch dflt low high offs) len pc') (k : Wp W K M Q H c n pt L S) : Wp W K M Q H c n pc L (.int x :: S) := by
  obtain ⟨hd, -⟩ := hd
  exact Wp.go (fun T locs X hx _ ho hc _ _ t r => XS.tswIn X.here hx rfl rfl (hbM hc hd) rfl hin hoff h1 h2 r) k
theorem Wp.tswOut {x : Int32} {dflt low high : Int} {offs : Array Int} (hout : x.toInt < low ∨ x.toInt > high) (h1 : 0 ≤ (pc : Int) + dflt) (h2 : ((pc : Int) + dflt).toNat = pt) (hd : Dc (mC M) pc (.tableswitch dflt low high offs) len pc') (k : Wp W K M Q H c n pt L S) : Wp W K M Q H c n pc L (.int x :: S) := by
  obtain ⟨hd, -⟩ := hd
  exact Wp.go (fun T locs X hx _ ho hc _ _ t r => XS.tswOut X.here hx rfl rfl (hbM hc hd) rfl hout h1 h2 r) k
theorem Wp.lswIn {x : Int32} {dflt a o : Int} {prs : Array (Int × Int)} (hs : (prs.toList.zip (prs.toList.drop 1)).all (fun (a, next) => a.1 < next.1) = true) (hf : prs.find? (·.1 == x.toInt) = some (a, o)) (h1 : 0 ≤ (pc : Int) + o) (h2 : ((pc : Int) + o).toNat = pt) (hd : Dc (mC M) pc (.lookupswitch dflt prs) len pc') (k : Wp W K M Q H c n pt L S) : Wp W K M Q H c n pc L (.int x :: S) := by
  obtain ⟨hd, -⟩ := hd
  subst h2
  exact Wp.go (fun T locs X hx _ ho hc _ _ t r => X.lookupswitchHit hx (g := mkF (kM K) pc L.toArray (.int x :: S)) rfl rfl (hbM hc hd) hs hf h1 _ r) k
theorem Wp.lswOut {x : Int32} {dflt : Int} {prs : Array (Int × Int)} (hs : (prs.toList.zip (prs.toList.drop 1)).all (fun (a, next) => a.1 < next.1) = true) (hf : prs.find? (·.1 == x.toInt) = none) (h1 : 0 ≤ (pc : Int) + dflt) (h2 : ((pc : Int) + dflt).toNat = pt) (hd : Dc (mC M) pc (.lookupswitch dflt prs) len pc') (k : Wp W K M Q H c n pt L S) : Wp W K M Q H c n pc L (.int x :: S) := by
  obtain ⟨hd, -⟩ := hd
  subst h2
  exact Wp.go (fun T locs X hx _ ho hc _ _ t r => X.lookupswitchMiss hx (g := mkF (kM K) pc L.toArray (.int x :: S)) rfl rfl (hbM hc hd) hs hf h1 _ r) k
/-- a local that held nothing, or one word of any kind, is written over -/
theorem storeOne {k : Nat} {o : Slot} {v : Value} (hk : L[k]? = some o) (ho : One o) (hv : v.category = 1) (hL : L.set k (.val v) = L') : storeLocals L.toArray k v = some L'.toArray := by
  subst hL
  rw [Jvm.Free.XS.store1 (by simpa using hk) ho hv]
  simp
/-- arraycopy of whole values: primitive arrays -/
theorem hp0 {s : State} {l : Launch} {a : Array Value} : Hp (l, s, a, s.heap.size, fun _ => True) s.heap [] := ⟨⟨Old.start s, fun _ _ => trivial⟩, fun _ q => (nomatch q), List.Pairwise.nil⟩
/-- an old entry, told at the start -/
theorem Hp.old {h : Heap} {a : Addr} {D : Ds} (P : Hp W h H) (F : DsOk (wZ W) (wZ W).heap a D) (hN : wN W = (wZ W).heap.size) : Hp W h ((a, false, D) :: H) := by
  have hlt := F.lt
  refine ⟨P.1, fun x hx => ?_, List.pairwise_cons.mpr ⟨fun y hy => ?_, P.2.2⟩⟩
  · rcases List.mem_cons.mp hx with rfl | hx
    · exact ⟨fun q => (nomatch q), F.ext P.1.1.2⟩
    · exact P.2.1 x hx
  · rcases Bool.eq_false_or_eq_true y.2.1 with q | q
    · exact Or.inr fun (e : a = y.1) => by
        have q1 : (wZ W).heap.size ≤ y.1 := hN ▸ ((P.2.1 y hy).1 q).1
        exact Nat.lt_irrefl _ (Nat.lt_of_lt_of_le hlt (Nat.le_trans q1 (Nat.le_of_eq e.symm)))
    · exact Or.inl ⟨rfl, q⟩
end Logic2
-- ints
def by8 (c : Int32) : Int32 := c.toInt8.toInt32
def csL (cs : List Int32) : List Value := cs.map Value.int
def eqI (xs ys : List Int32) : Int32 := if xs = ys then 1 else 0
abbrev ix (i : Nat) : Int32 := Int32.ofNat i
theorem ix_toInt {i : Nat} (h : i < 2 ^ 31) : (ix i).toInt = (i : Int) := toInt_of rfl h
theorem ix_lt {i j : Nat} (hi : i < 2 ^ 31) (hj : j < 2 ^ 31) : ix i < ix j ↔ i < j := by
  rw [Int32.lt_iff_toInt_lt, ix_toInt hi, ix_toInt hj]; omega
theorem ix_nn {i : Nat} (hi : i < 2 ^ 31) : ¬ ix i < 0 := by
  have := ix_lt (j := 0) hi (by decide)
  exact fun q => by have q' : ix i < ix 0 := q; rw [this] at q'; omega
theorem ix_nat {i : Nat} (hi : i < 2 ^ 31) : (ix i).toNatClampNeg = i := clamp_of rfl hi
theorem ix_inc (i : Nat) : ix i + Int32.ofInt 1 = ix (i + 1) := by rw [lit1]; exact (inc_ofNat i).symm
theorem ix_eq {i j : Nat} (hi : i < 2 ^ 31) (hj : j < 2 ^ 31) (h : ix i = ix j) : i = j := by
  have := congrArg Int32.toInt h
  rw [ix_toInt hi, ix_toInt hj] at this; omega
theorem csL_len (cs : List Int32) : (csL cs).length = cs.length := List.length_map ..
theorem csL_get {cs : List Int32} {i : Nat} {x : Int32} (h : cs[i]? = some x) : (csL cs)[i]? = some (.int x) := by simp [csL, h]
theorem csL_set (cs : List Int32) (i : Nat) (x : Int32) : (csL cs).set i (.int x) = csL (cs.set i x) := by simp [csL, List.map_set]
theorem by8_by8 (c : Int32) : nar .byte (by8 c) = by8 c := by simp [nar, by8]
/-- a copy that has come to i: the first i are f's, the others as they were -/
def part (f : Int32 → Int32) (cs ds : List Int32) (i : Nat) : List Int32 := (cs.take i).map f ++ ds.drop i
theorem part_len {f : Int32 → Int32} {cs ds : List Int32} {i : Nat} (h : cs.length = ds.length) : (part f cs ds i).length = ds.length := by
  simp [part]; omega
theorem part_zero (f : Int32 → Int32) (cs ds : List Int32) : part f cs ds 0 = ds := by simp [part]
theorem part_end {f : Int32 → Int32} {cs ds : List Int32} {i : Nat} (h : cs.length = ds.length) (hi : i = cs.length) : part f cs ds i = cs.map f := by
  subst hi
  rw [part, List.take_length, h, List.drop_length, List.append_nil]
theorem part_set {f : Int32 → Int32} {cs ds : List Int32} {i : Nat} {x : Int32} (h : cs.length = ds.length) (hx : cs[i]? = some x) : (part f cs ds i).set i (f x) = part f cs ds (i + 1) := by
  obtain ⟨hi, rfl⟩ := List.getElem?_eq_some_iff.mp hx
  apply List.ext_getElem?
  intro k
  have hl : ((cs.take i).map f).length = i := by simp; omega
  simp only [part, List.getElem?_set, List.getElem?_append, List.length_map, List.length_take, List.getElem?_map, List.getElem?_take, List.getElem?_drop, List.length_append, List.length_drop]
  by_cases e : i = k
  · subst e
    have h1 : i < min (i + 1) cs.length := by omega
    have h2 : i < min i cs.length + (ds.length - i) := by omega
    simp [h1, h2, hi]
  · simp only [e, if_false]
    by_cases hk : k < min i cs.length
    · have h1 : k < min (i + 1) cs.length := by omega
      have h2 : k < i := by omega
      have h3 : k < i + 1 := by omega
      simp [hk, h1, h2, h3]
    · have h1 : ¬ k < min (i + 1) cs.length := by omega
      have h2 : min i cs.length = i := by omega
      have h3 : min (i + 1) cs.length = i + 1 := by omega
      rw [h2] at hk
      rw [h3] at h1
      simp only [h2, h3, hk, h1, if_false]
      congr 1
      omega
theorem csL_rep (n : Nat) : List.replicate n (Value.int 0) = csL (List.replicate n 0) := by simp [csL]
theorem hpN : ∀ c ∈ ([] : List Int32), ¬ c < 0 ∧ ¬ 255 < c := fun _ q => (nomatch q)
theorem hpC {x : Int32} {xs : List Int32} (h : ¬ x < 0 ∧ ¬ 255 < x) (r : ∀ c ∈ xs, ¬ c < 0 ∧ ¬ 255 < c) : ∀ c ∈ x :: xs, ¬ c < 0 ∧ ¬ 255 < c := fun c hc => (List.mem_cons.mp hc).elim (fun e => e ▸ h) (r c)
theorem eqI_ne {xs ys : List Int32} (h : ¬ xs = ys) : eqI xs ys = 0 := if_neg h
theorem eqI_eq {xs ys : List Int32} (h : xs = ys) : eqI xs ys = 1 := if_pos h
theorem eqI_one {xs ys : List Int32} (h : ¬ eqI xs ys = 0) : eqI xs ys = 1 := by
  by_cases e : xs = ys
  · exact eqI_eq e
  · exact absurd (eqI_ne e) h
theorem csL_inj {xs ys : List Int32} (h : csL xs = csL ys) : xs = ys := by
  refine List.map_inj_right (f := Value.int) ?_ |>.mp h
  intro a b e; cases e; rfl
theorem take_snoc {xs ys : List Int32} {i : Nat} {x y : Int32} (h : xs.take i = ys.take i) (hx : xs[i]? = some x) (hy : ys[i]? = some y) (e : x = y) : xs.take (i + 1) = ys.take (i + 1) := by
  rw [List.take_add_one, List.take_add_one, h, hx, hy, e]
theorem take_all {xs ys : List Int32} {i : Nat} (h : xs.take i = ys.take i) (h1 : i = xs.length) (h2 : xs.length = ys.length) : xs = ys := by
  rw [h1, List.take_length, h2, List.take_length] at h; exact h
theorem get_ne {xs ys : List Int32} {i : Nat} {x y : Int32} (hx : xs[i]? = some x) (hy : ys[i]? = some y) (e : ¬ x = y) : ¬ xs = ys := fun q => by
  rw [q, hy] at hx; exact e (Option.some.inj hx).symm
theorem Fld.uniq {Z : State} {h : Heap} {a : Addr} {C n d : String} {v w : Value} (F : Fld Z h a C n d v) (G : Fld Z h a C n d w) : v = w := by
  obtain ⟨c1, cf, k, i, f, h1, h2, -, -, -, -, h7⟩ := F
  obtain ⟨c2, cf', k', i', f', g1, g2, -, -, -, -, g7⟩ := G
  cases h1.symm.trans g1
  cases h2.symm.trans g2
  exact Option.some.inj (h7.symm.trans g7)
theorem ArOk.uniq {Z : State} {h : Heap} {a : Addr} {ty ty' : FieldType} {ex ov ex' ov' : Bool} {vs ws : List Value} (F : ArOk Z h a ty ex ov vs) (G : ArOk Z h a ty' ex' ov' ws) : vs = ws := by
  obtain ⟨c1, h1, h2, -⟩ := F
  obtain ⟨c2, g1, g2, -⟩ := G
  cases h1.1.symm.trans g1.1
  exact h2.symm.trans g2
theorem arh_of {Z : State} {h : Heap} {a : Addr} {ty : FieldType} {ex ov : Bool} {vs : List Value} (F : ArOk Z h a ty ex ov vs) (dv : Value) : ∃ k, Arh Z h a k ty (ix vs.length) [] vs dv := by
  obtain ⟨c, h1, h2, h3, h4, -⟩ := F
  have hs : c.slots.size = vs.length := by rw [← h2]; simp
  refine ⟨c.cls, c, h1, rfl, by rw [hs, ix_nat h3], ix_nn h3, fun i hi => ?_, fun i hi => ?_⟩
  · show c.slots[i]? = some (vs.getD i dv)
    rw [← Array.getElem?_toList, h2, List.getD_eq_getElem?_getD, List.getElem?_eq_getElem (by omega)]; rfl
  · show fits ty (vs.getD i dv) = true
    rw [List.getD_eq_getElem?_getD, List.getElem?_eq_getElem (by omega)]
    exact h4 _ (List.getElem_mem _)
theorem of_arh {Z : State} {h : Heap} {a : Addr} {ty : FieldType} {k : ClassId} {z : Int32} {vs : List Value} {dv : Value} (F : Arh Z h a k ty z [] vs dv) (hz : z.toNatClampNeg = vs.length) (h3 : vs.length < 2 ^ 31) {ex ov : Bool} (h5 : ex = true → Exa Z h a ("[" ++ ty.toString)) (h6 : ov = true → ∀ C, ty = .object C → Ovr Z k C) : ArOk Z h a ty ex ov vs := by
  obtain ⟨c, h1, h2, g3, -, g5, g6⟩ := F
  have hs : c.slots.size = vs.length := g3.trans hz
  refine ⟨c, h1, ?_, h3, fun v hv => ?_, h5, fun q C e => h2 ▸ h6 q C e⟩
  · apply List.ext_getElem?
    intro i
    by_cases hi : i < c.slots.size
    · rw [Array.getElem?_toList, g5 i hi]
      show some (vs.getD i dv) = _
      rw [List.getD_eq_getElem?_getD, List.getElem?_eq_getElem (by omega)]; rfl
    · rw [List.getElem?_eq_none (by simpa using hi), List.getElem?_eq_none (by omega)]
  · obtain ⟨i, hi⟩ := List.getElem?_of_mem hv
    obtain ⟨li, e⟩ := List.getElem?_eq_some_iff.mp hi
    have := g6 i (by omega)
    show fits ty v = true
    have e2 : vs.getD i dv = v := by rw [List.getD_eq_getElem?_getD, hi]; rfl
    exact e2 ▸ this
section Logic3
variable {W : Wd} {K : Kx} {M : Mt} {Q : Option Value → List En → Prop} {H H' : List En} {c n pc pc' pt len : Nat} {L L' : List Slot} {S : List Value}
/-- an array's clone() -/
theorem Wp.clone {y0 : MethodName} (hM : mN M = y0) {ad : String} {a : Addr} {rw ov : Bool} {ty : FieldType} {vs : List Value} {idx Wn kk : Nat} (i : Nat) (hi : H[i]? = some (a, rw, .inr (ty, true, ov, vs))) (hkk : vs.length = kk) (had : "[" ++ ty.toString = ad) (w1 : Wok W (.methodLink y0.cls idx ⟨ad, "clone", "()Ljava/lang/Object;"⟩)) (w2 : Wok W (.sameMethod ad "java/lang/Object" "clone" "()Ljava/lang/Object;")) (w3 : Wok W (.native ⟨"java/lang/Object", "clone", "()Ljava/lang/Object;"⟩))
    (w4 : Wok W (.instanceMethod ⟨"java/lang/Object", "clone", "()Ljava/lang/Object;"⟩)) (w5 : Wok W (.selects ad ⟨ad, "clone", "()Ljava/lang/Object;"⟩ ⟨"java/lang/Object", "clone", "()Ljava/lang/Object;"⟩)) (w6 : Wok W (.castable ad "java/lang/Cloneable")) (hW : (S.map fun v => v.category).sum = Wn) (hL : L.length = mL M) (hf : 1 ≤ (mR M).frames) (hlo : Wn + 14 ≤ (mR M).locals) (hc1 : c + 1 ≤ (mR M).cells) (hl1 : n + kk ≤ (mR M).slots)
    (hd : Dc (mC M) pc (.invokevirtual idx) 3 pc') (k : ∀ b : Addr, Wp W K M Q ((b, true, .inr (ty, true, false, vs)) :: H) (c + 1) (n + kk) pc' L (.ref b :: S)) : Wp W K M Q H c n pc L (.ref a :: S) := by
  subst hM
  subst hkk
  obtain ⟨hd, rfl⟩ := hd
  subst had
  exact fun T X => by
    obtain ⟨hx, hZ, ho, hb, hm, hr, hn, hl, gs, locs, X, N, P⟩ := X
    have F : ArOk (wZ W) T.heap a ty true ov vs := P.at hi
    have h3 : vs.length < 2 ^ 31 := F.choose_spec.2.2.1
    have hE := F.choose_spec.2.2.2.2.1 rfl
    obtain ⟨kk, F'⟩ := arh_of F (.int 0)
    obtain ⟨T', h', X', e', E, A, B, st⟩ := cloneH X hx hZ ho w1 w2 w3 w4 w5 w6 rfl F' hE (g := mkF (kM K) pc L.toArray (.ref a :: S)) rfl (by rw [hm, ← hL]; simp) rfl (hbM hb hd) hf (W := Wn) (cap := vs.length) (by show 2 * 0 + _ ≤ _; omega) hlo (Nat.le_of_eq (ix_nat h3)) hc1 hl1
    obtain ⟨U, s1, s2⟩ := k T.heap.size T' ⟨hx, hZ, ho, hb, hm, hr, hn, hl, gs.nx P (by rw [e']; exact Nx.new E), locs, X', N, by rw [e']; exact P.new E (of_arh A (ix_nat h3) h3 (fun _ => B) (fun q => nomatch q))⟩
    exact ⟨U, st _ s1, s2⟩
theorem insArr {h : Heap} {a : Addr} {r ov : Bool} {ty : FieldType} {vs : List Value} {ad : String} (P : Hp W h H) (i : Nat) (hi : H[i]? = some (a, r, .inr (ty, true, ov, vs))) (had : "[" ++ ty.toString = ad) : Ins (wZ W) h a ad true := had ▸ Ins.self ((show ArOk (wZ W) h a ty true ov vs from P.at hi).choose_spec.2.2.2.2.1 rfl)
end Logic3
theorem rngC (x : Int32) : ¬ nar .char x < 0 ∧ ¬ 65535 < nar .char x := rng_char (fits_nar_char x)
theorem i2c_int (x : Int32) (h1 : ¬ x < 0) (h2 : ¬ 65535 < x) : x.toUInt32.toUInt16.toUInt32.toInt32 = x := by
  have a := c_i2c x
  rw [Int32.lt_iff_toInt_lt] at h1 h2
  rw [← Int32.toInt_inj]
  have e0 : (0 : Int32).toInt = 0 := rfl
  have e1 : (65535 : Int32).toInt = 65535 := rfl
  rw [e0] at h1
  rw [e1] at h2
  omega
theorem i2cC_id {x : Int32} (h1 : ¬ x < 0) (h2 : ¬ 65535 < x) : x.toUInt32.toUInt16.toUInt32.toInt32 = x := i2c_int x h1 h2
theorem narC_id {x : Int32} (h1 : ¬ x < 0) (h2 : ¬ 65535 < x) : nar .char x = x := i2c_int x h1 h2
theorem le8 {x : Int32} (h : ¬ 255 < x) : ¬ 65535 < x := fun q => h (by
  rw [Int32.lt_iff_toInt_lt] at q ⊢
  have e0 : (255 : Int32).toInt = 255 := rfl
  have e1 : (65535 : Int32).toInt = 65535 := rfl
  omega)
theorem i2cC_id8 {x : Int32} (h1 : ¬ x < 0) (h2 : ¬ 255 < x) : x.toUInt32.toUInt16.toUInt32.toInt32 = x := i2c_int x h1 (le8 h2)
theorem narC_id8 {x : Int32} (h1 : ¬ x < 0) (h2 : ¬ 255 < x) : nar .char x = x := i2c_int x h1 (le8 h2)
/-- a byte read back as a char -/
theorem by8_back {x : Int32} (h1 : ¬ x < 0) (h2 : ¬ 255 < x) : by8 x &&& 255 = x := by
  have a := c_i2b x
  have b := c_mask (by8 x) 255 8 (by decide) (by decide)
  rw [Int32.lt_iff_toInt_lt] at h1 h2
  rw [← Int32.toInt_inj, b]
  have e0 : (0 : Int32).toInt = 0 := rfl
  have e1 : (255 : Int32).toInt = 255 := rfl
  rw [e0] at h1
  rw [e1] at h2
  show (x.toInt8.toInt32.toInt) % 256 = x.toInt
  omega
def lob (c : Int32) : Int32 := by8 (c >>> (0 &&& 31))
def hib (c : Int32) : Int32 := by8 (c >>> (8 &&& 31))
theorem u16_back {x : Int32} (h1 : ¬ x < 0) (h2 : ¬ 65535 < x) : (((lob x &&& 255) <<< (0 &&& 31)) ||| ((hib x &&& 255) <<< (8 &&& 31))) = x := by
  have s0 := c_ishr x 0 0 (by decide)
  have s8 := c_ishr x 8 8 (by decide)
  have a0 := c_i2b (x >>> (0 &&& 31))
  have a8 := c_i2b (x >>> (8 &&& 31))
  have m0 := c_mask (lob x) 255 8 (by decide) (by decide)
  have m8 := c_mask (hib x) 255 8 (by decide) (by decide)
  have t0 := c_ishl (lob x &&& 255) 0 0 (by decide)
  have t8 := c_ishl (hib x &&& 255) 8 8 (by decide)
  have r0 := rng32 ((lob x &&& 255) <<< (0 &&& 31))
  have r8 := rng32 ((hib x &&& 255) <<< (8 &&& 31))
  rw [Int32.lt_iff_toInt_lt] at h1 h2
  have e0 : (0 : Int32).toInt = 0 := rfl
  have e1 : (65535 : Int32).toInt = 65535 := rfl
  rw [e0] at h1
  rw [e1] at h2
  have l0 : (lob x).toInt = (x >>> (0 &&& 31)).toInt8.toInt32.toInt := rfl
  have l8 : (hib x).toInt = (x >>> (8 &&& 31)).toInt8.toInt32.toInt := rfl
  simp only [Nat.reducePow] at *
  have v0 : ((lob x &&& 255) <<< (0 &&& 31)).toInt = x.toInt % 256 := by omega
  have v8 : ((hib x &&& 255) <<< (8 &&& 31)).toInt = x.toInt / 256 * 256 := by omega
  have o := c_or' ((lob x &&& 255) <<< (0 &&& 31)) ((hib x &&& 255) <<< (8 &&& 31)) 8 (by decide) 256 rfl (by omega) (by omega) (by omega)
  have ro := rng32 (((lob x &&& 255) <<< (0 &&& 31)) ||| ((hib x &&& 255) <<< (8 &&& 31)))
  rw [← Int32.toInt_inj]
  omega
theorem ix_shl1 {k : Nat} (h : 2 * k + 1 < 2 ^ 31) : ix k <<< ((1 : Int32) &&& 31) = ix (2 * k) := by
  have a := c_ishl (ix k) 1 1 (by decide)
  have r := rng32 (ix k <<< ((1 : Int32) &&& 31))
  rw [ix_toInt (by omega)] at a
  rw [← Int32.toInt_inj, ix_toInt (by omega)]
  simp only [Nat.reducePow] at *
  omega
theorem ix_shr1 {k : Nat} (h : k < 2 ^ 31) : ix k >>> ((1 : Int32) &&& 31) = ix (k / 2) := by
  have a := c_ishr (ix k) 1 1 (by decide)
  rw [ix_toInt h] at a
  rw [← Int32.toInt_inj, ix_toInt (by omega), a]
  simp only [Nat.reducePow]
  omega
theorem catR {v : Value} (h : v.isRef = true) : v.category = 1 := by rcases ref_cases h with rfl | ⟨_, rfl⟩ <;> rfl
section Start
variable {args : Array Value} {s : State} {t u : Term}
theorem eqv_int {z : Int32} (h : (Cond.eq t (.int z)).value args s none s [] = some true) : t.eval args s none [] s = some (.int z) := by
  obtain ⟨x, y, h1, h2, -, k2⟩ := cmp_v (Or.inl h)
  obtain rfl : y = .int z := Option.some.inj (h2.symm.trans (Term.int_eval z))
  obtain ⟨z', rfl⟩ := k2
  rw [h1, gotT (Cond.eq_ints h1 h2) h]
theorem eqv_ref {y : Addr} (h : (Cond.eq t u).value args s none s [] = some true) (hu : u.eval args s none [] s = some (.ref y)) : t.eval args s none [] s = some (.ref y) := by
  obtain ⟨x, y', h1, h2, -, k2⟩ := cmp_v (Or.inl h)
  obtain rfl : y' = .ref y := Option.some.inj (h2.symm.trans hu)
  rw [h1, gotT (eq_R h1 h2 k2.2 rfl) h]
/-- an array of the start: its length and its members told by the sheet -/
theorem arStart {a : Addr} {ty : FieldType} {z : Int32} {vs : List Value} {ex : Bool} (hf : Fit s) (ev : t.eval args s none [] s = some (.ref a)) (hx : (Cond.arrayOf t ty).value args s none s [] = some true) (hl : (Cond.eq (.length t) (.int z)).value args s none s [] = some true) (hz : z = ix vs.length) (hn : vs.length < 2 ^ 31) (he : ∀ i v, vs[i]? = some v → (Term.elem t (.int (ix i))).eval args s none [] s = some v)
    (hex : ex = true → Exa s s.heap a ("[" ++ ty.toString)) : ArOk s s.heap a ty ex false vs := by
  obtain ⟨c, A⟩ := Arr.start ev hx
  have e1 := eqv_int hl
  have ha : s.arrayAt? a = some c := Arr.fin (Vm.Alike.refl _) A
  have h31 : c.slots.size < 2 ^ 31 := by
    simp only [Term.eval, ev, ha, Option.bind_eq_bind, Option.bind_some] at e1
    by_cases q : c.slots.size < 2 ^ 31
    · exact q
    · simp [q] at e1
  rw [len_f ev ha h31] at e1
  have hs : c.slots.size = vs.length := by
    have e2 : c.slots.size.toInt32 = z := by injection (Option.some.inj e1)
    exact ix_eq h31 hn (e2.trans hz)
  have hel : ∀ i v, vs[i]? = some v → c.slots[i]? = some v := fun i v hv => by
    have li : i < vs.length := (List.getElem?_eq_some_iff.mp hv).1
    have q := (elem_in (he i v hv) ev (Term.int_eval _) A.1).2
    rwa [ix_nat (by omega)] at q
  refine ⟨c, A, ?_, hn, fun v hv => ?_, hex, fun q => nomatch q⟩
  · apply List.ext_getElem?
    intro i
    by_cases li : i < vs.length
    · rw [Array.getElem?_toList, List.getElem?_eq_getElem li]
      exact hel i _ (List.getElem?_eq_getElem li)
    · rw [List.getElem?_eq_none (by simp; omega), List.getElem?_eq_none (by omega)]
  · obtain ⟨i, hi⟩ := List.getElem?_of_mem hv
    have li : i < vs.length := (List.getElem?_eq_some_iff.mp hi).1
    have q := elem_fits (j := ix i) hf A (by rw [ix_nat (by omega)]; rintro (u | u); exact ix_nn (by omega) u; omega) (by rw [ix_nat (by omega)]; exact hel i v hi)
    exact q
end Start

-- lists: instanceof that says no; a nest mate's constructor; Class objects; arraycopy
def NoSub (W : Wd) (C D : String) : Prop := ∃ c t, (wZ W).vm.findClass C = some c ∧ (wZ W).vm.findClass D = some t ∧ (wZ W).vm.assignable c t = false
theorem nsRoot {W : Wd} {O D : String} {kk : Nat} (w : Wok W (.noSuperclass O)) (wk : Wok W (.instantiable D kk)) (hn : O ≠ D) : NS (wZ W) O D := by
  obtain ⟨c, k, h1, h2, h3, -, -⟩ := Cond.noSuperclass_spec w
  obtain ⟨t, kt, g1, -⟩ := Cond.instantiable_spec wk
  have ne := ids_ne h1 g1 hn
  refine ⟨c, t, h1, g1, fun fuel => ?_⟩
  cases fuel with
  | zero => rfl
  | succ f => simp [Vm.isSubclassAux, ne, h2, h3]
theorem nsNo {W : Wd} {C S D : String} {kk : Nat} (w : Wok W (.superclass C S)) (wk : Wok W (.instantiable D kk)) (n : NS (wZ W) C D) (hn : C ≠ D) : NoSub W C D := by
  obtain ⟨c, t, h0, g0, n3⟩ := n
  obtain ⟨p, k, kp, h1, h2, h3, h4, h5, -, h7⟩ := Cond.superclass_spec h0 w
  obtain ⟨t', kt, g1, g2, g3, g4, -⟩ := Cond.instantiable_spec wk
  cases g0.symm.trans g1
  have gi : kt.isInterface = false := by
    cases q : kt.isInterface
    · rfl
    · rw [q] at g4; cases g4
  have ne := ids_ne h0 g0 hn
  refine ⟨c, t, h0, g0, ?_⟩
  show (wZ W).vm.assignableAux (255 + 1) c t = false
  simp [Vm.assignableAux, ne, h2, g2, h5, g3, gi, Vm.isSubclass, n3]
section Logic4
variable {W : Wd} {K : Kx} {M : Mt} {Q : Option Value → List En → Prop} {H H' : List En} {c n pc pc' pt len : Nat} {L L' : List Slot} {S : List Value}
theorem Wp.instNo {y0 : MethodName} (hM : mN M = y0) {a : Addr} {r : Bool} {C D : String} {fs : List Fd} {idx : Nat} (w : Wok W (.classLink y0.cls idx D)) (i : Nat) (hi : H[i]? = some (a, r, .inl (C, fs))) (F : NoSub W C D) (hd : Dc (mC M) pc (.instanceof idx) 3 pc') (k : Wp W K M Q H c n pc' L (.int 0 :: S)) : Wp W K M Q H c n pc L (.ref a :: S) := by
  subst hM
  obtain ⟨hd, rfl⟩ := hd
  exact Wp.to (fun T locs X hx hZ ho hc _ _ P N => by
    have E : ObOk (wZ W) T.heap a C fs := P.at hi
    obtain ⟨T', X', e', st⟩ := Jvm.RoadKit.instNo X hx hZ ho w rfl E.1 F (g := mkF (kM K) pc L.toArray (.ref a :: S)) rfl rfl (hbM hc hd)
    exact ⟨T', locs, X', N, by rw [e']; exact P, by rw [e']; exact Nx.refl _ _, st⟩) k
theorem Wp.callCN {y0 : MethodName} (hM : mN M = y0) {M' : Mt} {host : String} {a : Addr} {as : List Value} {idx Wn np : Nat} {S0 : List Value} {Q' : Option Value → List En → Prop} (C : ∀ P', Ct (wSet W P') M' (.ref a :: as) H Q') {y' : MethodName} (w : Mk W M' y' np) (w1 : Wok W (.methodLinkNest y0.cls idx y' host)) (w2 : Wok W (.instanceMethod y')) (hi : y'.name = "<init>") (hT : mT M' = none) (hst : S0 = as.reverse ++ .ref a :: S) (hp : as.length = np) (hW : (S.map fun v => v.category).sum = Wn) (hL : L.length = mL M) (hR : Fits M M' c n Wn)
    (hd : Dc (mC M) pc (.invokespecial idx) 3 pc') (k : ∀ v H', Q' v H' → Wp W K M Q H' (c + (mR M').cells) (n + (mR M').slots) pc' L (pushV v S)) : Wp W K M Q H c n pc L S0 := by
  subst hM
  obtain ⟨rfl, w⟩ := w
  obtain ⟨hd, rfl⟩ := hd
  subst hst hp
  exact fun T X => by
    obtain ⟨hx, hZ, ho, hb, hm, hr, hn, hl, gs, locs, X, N, P⟩ := X
    obtain ⟨v, vm1, ⟨T', L', k', n'⟩, -, X', ⟨Lc, ⟨N', H', P', g', q⟩, l1, y1, z1⟩, st⟩ := X.specialBackNest hx (y := mN M') hi ho (Cond.methodLinkNest_wide hZ w1 :) (mvT hZ w2) (hT ▸ mvT hZ w.1) w.2.2.2 (Ct.back C P hZ ⟨rfl, w⟩ hR.1 hR.2.1) (g := mkF (kM K) pc L.toArray (as.reverse ++ .ref a :: S)) rfl (by rw [hm, ← hL]; simp) (Steps.refl _) (a := a) (argsL := as) (rest := S) w.2.2.1 rfl (by show 2 * 0 + _ ≤ _; omega) (hbM hb hd) (fun _ _ => ⟨rfl, rfl, hR.2.2.1, hR.2.2.2⟩)
    dsimp only [Pt.U, Pt.locs, Pt.cells, Pt.slots] at X' l1 y1 z1 st P'
    subst l1 y1 z1
    obtain ⟨U, s1, s2⟩ := k v H' q T' ⟨hx, hZ, ho, hb, hm, hr, hn, hl, gs.nx P g', _, X', N.app N', P'⟩
    rw [pushV_eq] at s1
    exact ⟨U, st.trans s1, s2⟩
/-- a class constant whose Class object has been made -/
theorem Wp.ldcM {y0 : MethodName} (hM : mN M = y0) {C : String} {mr : Addr} {idx : Nat} (w : Wok W (.classLink y0.cls idx C)) (F : Mir (wZ W) C mr) (hd : Dc (mC M) pc (.ldc idx) 2 pc') (k : Wp W K M Q H c n pc' L (.ref mr :: S)) : Wp W K M Q H c n pc L S := by
  subst hM
  obtain ⟨hd, rfl⟩ := hd
  exact Wp.to (fun T locs X hx hZ ho hc _ _ P N => by
    obtain ⟨cc, kc, m1, m2, m3, -⟩ := F
    obtain ⟨k', q, ek⟩ := hZ.alike.2.2 _ _ m2
    have ev : (Term.mirror C).eval (kA K) (kS K) none [] (kS K) = some (.ref mr) := by
      have f : (kS K).vm.findClass C = some cc := by rw [hZ.alike.findClass]; exact m1
      have mm : k'.mirror = some mr := by rw [ek]; exact m3
      simp [Term.eval, f, q, mm]
    obtain ⟨vm', X', st⟩ := X.ldcMirror hx ho (mvT hZ w) ev (g := mkF (kM K) pc L.toArray S) rfl (hbM hc hd)
    exact ⟨_, locs, X', N, P, Nx.refl _ _, st⟩) k
theorem Wp.gcls {y0 : MethodName} (hM : mN M = y0) {C : String} {a mr : Addr} {r ov : Bool} {ty : FieldType} {vs : List Value} {idx Wn : Nat} (i : Nat) (hi : H[i]? = some (a, r, .inr (ty, true, ov, vs))) (had : "[" ++ ty.toString = C) (w1 : Wok W (.methodLink y0.cls idx ⟨"java/lang/Object", "getClass", "()Ljava/lang/Class;"⟩)) (w2 : Wok W (.declares ⟨"java/lang/Object", "getClass", "()Ljava/lang/Class;"⟩)) (w3 : Wok W (.noSuperclass "java/lang/Object")) (w4 : Wok W (.selects C ⟨"java/lang/Object", "getClass", "()Ljava/lang/Class;"⟩ ⟨"java/lang/Object", "getClass", "()Ljava/lang/Class;"⟩))
    (w5 : Wok W (.instanceMethod ⟨"java/lang/Object", "getClass", "()Ljava/lang/Class;"⟩)) (w6 : Wok W (.native ⟨"java/lang/Object", "getClass", "()Ljava/lang/Class;"⟩)) (F : Mir (wZ W) C mr) (hW : (S.map fun v => v.category).sum = Wn) (hL : L.length = mL M) (hf : 1 ≤ (mR M).frames) (hlo : Wn + (nativeFrameWords "java/lang/Object" "getClass" 1 + 11) ≤ (mR M).locals)
    (hd : Dc (mC M) pc (.invokevirtual idx) 3 pc') (k : Wp W K M Q H c n pc' L (.ref mr :: S)) : Wp W K M Q H c n pc L (.ref a :: S) := by
  subst hM
  obtain ⟨hd, rfl⟩ := hd
  exact Wp.to (fun T locs X hx hZ ho hc hm _ P N => by
    have E : ArOk (wZ W) T.heap a ty true ov vs := P.at hi
    obtain ⟨T', X', e', st⟩ := Jvm.RoadKit.gcls X hx hZ ho w1 w2 w3 w4 w5 w6 rfl (had ▸ E.choose_spec.2.2.2.2.1 rfl) F (g := mkF (kM K) pc L.toArray (.ref a :: S)) rfl (by rw [hm, ← hL]; simp) rfl (hbM hc hd) hf (W := Wn) (by show 2 * 0 + _ ≤ _; omega) hlo
    exact ⟨T', locs, X', N, by rw [e']; exact P, by rw [e']; exact Nx.refl _ _, st⟩) k
theorem ArOk.arv {Z : State} {h : Heap} {a : Addr} {ty : FieldType} {ex ov : Bool} {vs : List Value} (F : ArOk Z h a ty ex ov vs) (dv : Value) : ∃ k, Arv Z h a k ty (ix vs.length) vs dv ∧ (ov = true → ∀ C, ty = .object C → Ovr Z k C) := by
  obtain ⟨c, h1, h2, h3, h4, h5, h6⟩ := F
  have hs : c.slots.size = vs.length := by rw [← h2]; simp
  refine ⟨c.cls, ⟨c, h1, rfl, by rw [hs, ix_nat h3], ix_nn h3, fun i hi => ?_, fun i hi => ?_⟩, h6⟩
  · rw [← Array.getElem?_toList, h2, List.getD_eq_getElem?_getD, List.getElem?_eq_getElem (by omega)]; rfl
  · rw [List.getD_eq_getElem?_getD, List.getElem?_eq_getElem (by omega)]
    exact h4 _ (List.getElem_mem _)
theorem ArOk.of_arv {Z : State} {h : Heap} {a : Addr} {ty : FieldType} {k : ClassId} {z : Int32} {vs : List Value} {dv : Value} (F : Arv Z h a k ty z vs dv) (hz : z.toNatClampNeg = vs.length) (h3 : vs.length < 2 ^ 31) {ex ov : Bool} (h5 : ex = true → Exa Z h a ("[" ++ ty.toString)) (h6 : ov = true → ∀ C, ty = .object C → Ovr Z k C) : ArOk Z h a ty ex ov vs :=
  of_arh (Arv.arh F) hz h3 h5 h6
/-- one entry is written by a callee or a native: what else is known stays -/
theorem Hp.keepAt {h h' : Heap} {a : Addr} {D D' : Ds} (P : Hp W h H) {i : Nat} (hi : H[i]? = some (a, true, D)) (E : Keep h h' [a]) (F : DsOk (wZ W) h' a D') : Hp W h' (H.set i (a, true, D')) := by
  have hm := List.mem_of_getElem? hi
  have hn := (P.2.1 _ hm).1 rfl
  refine ⟨P.1.keep E (fun x hx => by rw [List.mem_singleton.mp hx]; exact hn.1), fun x hx => ?_, ?_⟩
  · obtain ⟨j, hj⟩ := List.getElem?_of_mem hx
    by_cases e : i = j
    · subst e
      rw [List.getElem?_set_self (List.getElem?_eq_some_iff.mp hi).1] at hj
      cases hj
      exact ⟨fun _ => hn, F⟩
    · rw [List.getElem?_set_ne e] at hj
      have hx' := P.2.1 x (List.mem_of_getElem? hj)
      exact ⟨hx'.1, hx'.2.keep E (fun q => P.apart hi hj e rfl (List.mem_singleton.mp q))⟩
  · rw [List.pairwise_iff_getElem]
    intro j k hj hk hjk
    rw [List.length_set] at hj hk
    have q := (List.pairwise_iff_getElem.mp P.2.2) j k hj hk hjk
    obtain ⟨li, e⟩ := List.getElem?_eq_some_iff.mp hi
    rw [List.getElem_set, List.getElem_set]
    have fix : ∀ x : En, x = (a, true, D) → x.2.1 = true ∧ x.1 = a := fun x e => by subst e; exact ⟨rfl, rfl⟩
    obtain ⟨f1, f2⟩ := fix _ e
    split
    · rename_i e1
      subst e1
      split
      · rename_i e2; omega
      · rcases q with u | u
        · exact absurd (f1.symm.trans u.1) (by decide)
        · exact Or.inr (fun w => u (f2.trans w))
    · split
      · rename_i e2
        subst e2
        rcases q with u | u
        · exact absurd (f1.symm.trans u.2) (by decide)
        · exact Or.inr (fun w => u (w.trans f2.symm))
      · exact q
theorem us_eq (vs : List Value) (dv : Value) {s m : Nat} (h : s + m ≤ vs.length) : (vs.drop s).take m = (List.range m).map fun i => vs.getD (s + i) dv := by
  apply List.ext_getElem?
  intro i
  by_cases hi : i < m
  · rw [List.getElem?_take_of_lt hi, List.getElem?_drop, List.getElem?_map, List.getElem?_range hi]
    show vs[s + i]? = some (vs.getD (s + i) dv)
    rw [List.getD_eq_getElem?_getD, List.getElem?_eq_getElem (by omega)]
    rfl
  · rw [List.getElem?_eq_none (by simp; omega), List.getElem?_eq_none (by simp; omega)]
/-- System.arraycopy between two known arrays -/
theorem Wp.acopy {y0 : MethodName} (hM : mN M = y0) {a b : Addr} {r ex ov ex' ov' : Bool} {ty ty' : FieldType} {vs vd us : List Value} {idx Wn s d m : Nat} {sp dp nn : Int32} (i j : Nat) (hi : H[i]? = some (a, r, .inr (ty, ex, ov, vs))) (hj : H[j]? = some (b, true, .inr (ty', ex', ov', vd))) (w1 : Wok W (.methodLink y0.cls idx Jvm.Stand.acN)) (w2 : Wok W (.native Jvm.Stand.acN)) (w3 : Wok W (.static Jvm.Stand.acN)) (w4 : Wok W (.initialized "java/lang/System"))
    (hty : (ty = ty' ∧ refKind ty = false) ∨ (refKind ty = true ∧ refKind ty' = true ∧ ∀ h, Hp W h H → StoL (wZ W) h b us)) (h1 : sp = ix s) (h2 : dp = ix d) (h3 : nn = ix m) (hus : (vs.drop s).take m = us) (h4 : s + m ≤ vs.length) (h5 : d + m ≤ vd.length)
    (hW : (S.map fun v => v.category).sum = Wn) (hL : L.length = mL M) (hf : 1 ≤ (mR M).frames) (hlo : Wn + (nativeFrameWords "java/lang/System" "arraycopy" 5 + 11) ≤ (mR M).locals)
    (hd : Dc (mC M) pc (.invokestatic idx) 3 pc') (hH : H.set j (b, true, .inr (ty', ex', ov', vd.take d ++ us ++ vd.drop (d + m))) = H') (k : Wp W K M Q H' c n pc' L S) : Wp W K M Q H c n pc L (.int nn :: .int dp :: .ref b :: .int sp :: .ref a :: S) := by
  subst hM
  obtain ⟨hd, rfl⟩ := hd
  subst hH h1 h2 h3
  exact Wp.to (fun T locs X hx hZ ho hc hm _ P N => by
    have A : ArOk (wZ W) T.heap a ty ex ov vs := P.at hi
    have B : ArOk (wZ W) T.heap b ty' ex' ov' vd := P.at hj
    have la : vs.length < 2 ^ 31 := A.choose_spec.2.2.1
    have lb : vd.length < 2 ^ 31 := B.choose_spec.2.2.1
    obtain ⟨ka, A', -⟩ := A.arv (.int 0)
    obtain ⟨kb, B', ob⟩ := B.arv (.int 0)
    have ge := ((P.2.1 _ (List.mem_of_getElem? hj)).1 rfl).1
    have bex := B.choose_spec.2.2.2.2.1
    have es : (ix s).toNatClampNeg = s := ix_nat (by omega)
    have ed : (ix d).toNatClampNeg = d := ix_nat (by omega)
    have em : (ix m).toNatClampNeg = m := ix_nat (by omega)
    have lu : us.length = m := by rw [← hus]; simp; omega
    obtain ⟨T', h', L2, X', e', N', Kp, R', st⟩ := cpA X hx hZ ho w1 w2 w3 w4 rfl A' B' (us := us) (sp := ix s) (dp := ix d) (nn := ix m) (hty.imp id fun u => ⟨u.1, u.2.1, u.2.2 _ P⟩) (ix_nn (by omega)) (ix_nn (by omega)) (ix_nn (by omega)) (by rw [es, em, ix_nat la]; exact h4) (by rw [ed, em, ix_nat lb]; exact h5) (by rw [es, em, ← hus]; exact us_eq vs _ h4) (by rw [ed, em]; exact h5) N ge (g := mkF (kM K) pc L.toArray _) rfl (by rw [hm, ← hL]; simp) (rest := S) rfl (hbM hc hd) hf (W := Wn) (by show 2 * 0 + _ ≤ _; omega) hlo
    have ln : (vd.take d ++ us ++ vd.drop (d + m)).length = vd.length := by simp; omega
    rw [ed, em] at R'
    refine ⟨T', L2, X', N', ?_, by rw [e']; exact Nx.keepAt hj Kp, st⟩
    rw [e']
    exact P.keepAt hj Kp (ArOk.of_arv R' (by rw [ix_nat lb, ln]) (by rw [ln]; exact lb) (fun q => (bex q).keep Kp) ob)) k
end Logic4
theorem stoOf {W : Wd} {H : List En} {h : Heap} {a y : Addr} {r ex : Bool} {C : String} {vs : List Value} (P : Hp W h H) (i : Nat) (hi : H[i]? = some (a, r, .inr (.object C, ex, true, vs))) (I : Ins (wZ W) h y C true) : Sto (wZ W) h a (.ref y) := by
  obtain ⟨c, h1, -, -, -, -, h6⟩ : ArOk (wZ W) h a (.object C) ex true vs := P.at hi
  exact Sto.of h1 (h6 rfl C rfl) I
theorem narRef {ty : FieldType} {v : Value} (hv : v.isRef = true) : narrow ty v = v := by rcases ref_cases hv with rfl | ⟨_, rfl⟩ <;> cases ty <;> rfl
theorem fitRef {ty : FieldType} {v : Value} (hv : v.isRef = true) (hr : ty.isReference = true) : fits ty v = true := by rcases ref_cases hv with rfl | ⟨_, rfl⟩ <;> cases ty <;> first | rfl | cases hr
theorem mask255 (x : Int32) : ¬ x &&& 255 < 0 ∧ ¬ 255 < x &&& 255 := by
  have a := c_and x 255 (by decide)
  rw [Int32.lt_iff_toInt_lt, Int32.lt_iff_toInt_lt]
  have e0 : (0 : Int32).toInt = 0 := rfl
  have e1 : (255 : Int32).toInt = 255 := rfl
  omega
theorem and3 (x : Int32) : x &&& 3 = 0 ∨ x &&& 3 = 1 ∨ x &&& 3 = 2 ∨ x &&& 3 = 3 := by
  have a := c_and x 3 (by decide)
  have e3 : (3 : Int32).toInt = 3 := rfl
  have e2 : (2 : Int32).toInt = 2 := rfl
  have e1 : (1 : Int32).toInt = 1 := rfl
  have e0 : (0 : Int32).toInt = 0 := rfl
  rw [← Int32.toInt_inj, ← Int32.toInt_inj, ← Int32.toInt_inj, ← Int32.toInt_inj, e0, e1, e2, e3]
  omega
section Wide
variable {W : Wd} {K : Kx} {M : Mt} {Q : Option Value → List En → Prop} {H H' : List En} {c n pc pc' pt len : Nat} {L L' : List Slot} {S : List Value} {s0 : State} {EL : List (String × Nat)}
/-- K, seen behind a step that has interned -/
def kN (K : Kx) (s : State) : Kx := (kP K, kE K, s, kM K, kA K, kB K, kH K, kC K, kW K)
/-- from the ghost's end back -/
theorem Fini.back {s : State} {U : State} (hk : kW K = some (s0, EL)) (eh : s.heap = (kS K).heap) (F : Fini W (kN K s) M Q U) : Fini W K M Q U := by
  obtain ⟨o, h1, h2, v, L2, h3, h4, H', h5, h6, h7⟩ := F
  exact ⟨o, h1, h2, v, L2, h3, h4, H', h5, h6, EndK.shift (K' := kN K s) hk hk eh h7⟩
/-- a String constant, of which nothing is told -/
theorem Wp.ldcO {y0 : MethodName} (hM : mN M = y0) {text : String} {idx n1 : Nat} (hk : kW K = some (s0, EL)) (w : Wok W (.stringLink y0.cls idx text)) (wS : ∀ a ∈ Bundle.stringAtoms, Wok W a) (hn1 : 4 * text.toList.length ≤ n1) (hbig : n1 ≤ 536870912) (hc1 : c + 2 ≤ (mR M).cells) (hl1 : n + (n1 + 4) ≤ (mR M).slots)
    (hd : Dc (mC M) pc (.ldc idx) 2 pc') (k : ∀ (K' : Kx) (a : Addr), kW K' = some (s0, EL) → Wp W K' M Q H (c + 2) (n + (n1 + 4)) pc' L (.ref a :: S)) : Wp W K M Q H c n pc L S := by
  subst hM
  obtain ⟨hd, rfl⟩ := hd
  exact fun T X => by
    obtain ⟨hx, hZ, ho, hb, hm, hr, hn, hl, gs, locs, X, N, P⟩ := X
    obtain ⟨g1, ⟨k0, g2, g3⟩, g4, g5, g6⟩ := gs.2.get hk
    have eh : (kS K).heap = s0.heap := by rw [g1]; rfl
    have X1 := X
    rw [g1] at X1
    obtain ⟨a, T', h', k1, X', e', E, hS, hk1, hW, hf, hC, -, st⟩ := ldcOH X1 hx hZ ho w wS rfl g2 g3 g4 g5.1 (g := mkF (kM K) pc L.toArray S) rfl (hbM hb hd) hn1 hbig hc1 hl1
    obtain ⟨U, s1, F⟩ := k (kN K (s0.setVm T'.vm)) a hk T' ⟨hx, hW, hf, hb, hm, hr, hn, hl, ⟨⟨by rw [e']; exact Nat.le_trans (eh ▸ gs.1.1) E.1, fun x c q r => by rw [e']; exact E.2 x c (gs.1.2 x c (by rw [eh]; exact q) r)⟩, Gw.mk hk ⟨rfl, ⟨k1, hS, by rw [e']; exact hk1⟩, g4, by rw [e']; exact g5.trans hC, fun y hy hr => by rw [e']; exact hC.safe (P.2.1 y hy).2.lt (g6 y hy hr)⟩⟩, locs, X', N, by rw [e']; exact ⟨P.1.ext E, fun x hx => ⟨(P.2.1 x hx).1, (P.2.1 x hx).2.ext E⟩, P.2.2⟩⟩
    exact ⟨U, st _ s1, Fini.back (s := s0.setVm T'.vm) hk eh.symm F⟩
/-- a String constant whose text is known: its two cells, that nothing writes -/
theorem Wp.ldcK {y0 : MethodName} (hM : mN M = y0) {text : String} {idx n1 : Nat} {vs : List Value} (hk : kW K = some (s0, EL)) (w : Wok W (.stringLink y0.cls idx text)) (wS : ∀ a ∈ Bundle.stringAtoms, Wok W a) (hmem : (y0.cls, idx) ∈ EL) (ht : (∀ c ∈ text.toList, c.toNat < 256) ∧ text.toList.map (fun c => Value.int (Jvm.Lit.byteI c.toNat.toUInt16)) = vs) (hl0 : vs.length < 2 ^ 31) (hfs : NewFs W "java/lang/String" [("java/lang/String", "value", "[B", .null), ("java/lang/String", "coder", "B", .int 0)])
    (hn1 : 4 * text.toList.length ≤ n1) (hbig : n1 ≤ 536870912) (hc1 : c + 2 ≤ (mR M).cells) (hl1 : n + (n1 + 4) ≤ (mR M).slots)
    (hd : Dc (mC M) pc (.ldc idx) 2 pc') (k : ∀ (K' : Kx) (a b : Addr), kW K' = some (s0, EL) → Wp W K' M Q ((a, false, .inl ("java/lang/String", [("java/lang/String", "value", "[B", .ref b), ("java/lang/String", "coder", "B", .int 0)])) :: (b, false, .inr (.byte, false, false, vs)) :: H) (c + 2) (n + (n1 + 4)) pc' L (.ref a :: S)) : Wp W K M Q H c n pc L S := by
  subst hM
  obtain ⟨hd, rfl⟩ := hd
  exact fun T X => by
    obtain ⟨hx, hZ, ho, hb, hm, hr, hn, hl, gs, locs, X, N, P⟩ := X
    obtain ⟨g1, ⟨k0, g2, g3⟩, g4, g5, g6⟩ := gs.2.get hk
    have eh : (kS K).heap = s0.heap := by rw [g1]; rfl
    have X1 := X
    rw [g1] at X1
    obtain ⟨a, T', h', k1, b, kb, X', e', E, hS, hk1, hW, hf, F1, F2, F3, F4, -, -, hC, -, hne, st⟩ := ldcCH X1 hx hZ ho w wS rfl g2 g3 g4 hmem g5.1 ht (ix_nn hl0) (ix_nat hl0) (g := mkF (kM K) pc L.toArray S) rfl (hbM hb hd) hn1 hbig hc1 hl1
    have sf : Sf (wZ W) EL T'.vm h' H := fun y hy hr => hC.safe (P.2.1 y hy).2.lt (g6 y hy hr)
    have O : DsOk (wZ W) h' a (.inl ("java/lang/String", [("java/lang/String", "value", "[B", .ref b), ("java/lang/String", "coder", "B", .int 0)])) := ⟨F1, fun f hf => by
      rcases List.mem_cons.mp hf with rfl | hf
      · exact F3
      · cases List.mem_singleton.mp hf; exact F2, hfs.slots⟩
    have A : DsOk (wZ W) h' b (.inr (.byte, false, false, vs)) := ArOk.of_arv F4 (ix_nat hl0) hl0 (fun q => nomatch q) (fun q => nomatch q)
    have P1 : Hp W h' H := ⟨P.1.ext E, fun x hx => ⟨(P.2.1 x hx).1, (P.2.1 x hx).2.ext E⟩, P.2.2⟩
    have ap : ∀ (x : Addr) (D : Ds) (y : En), y ∈ H → (∀ z, Safe (wZ W) EL T'.vm h' z → z ≠ x) → Apart (x, false, D) y := fun x D y hy q => by
      rcases Bool.eq_false_or_eq_true y.2.1 with r | r
      · exact Or.inr fun e => q _ (sf y hy r) e.symm
      · exact Or.inl ⟨rfl, r⟩
    have P2 : Hp W h' ((a, false, .inl ("java/lang/String", [("java/lang/String", "value", "[B", .ref b), ("java/lang/String", "coder", "B", .int 0)])) :: (b, false, .inr (.byte, false, false, vs)) :: H) := ⟨P1.1, fun x hx => by
      rcases List.mem_cons.mp hx with rfl | hx
      · exact ⟨fun q => (nomatch q), O⟩
      · rcases List.mem_cons.mp hx with rfl | hx
        · exact ⟨fun q => (nomatch q), A⟩
        · exact P1.2.1 x hx, List.pairwise_cons.mpr ⟨fun y hy => by
            rcases List.mem_cons.mp hy with rfl | hy
            · exact Or.inl ⟨rfl, rfl⟩
            · exact ap a _ y hy fun z q => (hne z q).1, List.pairwise_cons.mpr ⟨fun y hy => ap b _ y hy fun z q => (hne z q).2, P1.2.2⟩⟩⟩
    obtain ⟨U, s1, F⟩ := k (kN K (s0.setVm T'.vm)) a b hk T' ⟨hx, hW, hf, hb, hm, hr, hn, hl, ⟨⟨by rw [e']; exact Nat.le_trans (eh ▸ gs.1.1) E.1, fun x c q r => by rw [e']; exact E.2 x c (gs.1.2 x c (by rw [eh]; exact q) r)⟩, Gw.mk hk ⟨rfl, ⟨k1, hS, by rw [e']; exact hk1⟩, g4, by rw [e']; exact g5.trans hC, fun y hy hr => by
      rw [e']
      rcases List.mem_cons.mp hy with rfl | hy
      · cases hr
      · rcases List.mem_cons.mp hy with rfl | hy
        · cases hr
        · exact sf y hy hr⟩⟩, locs, X', N, by rw [e']; exact P2⟩
    exact ⟨U, st _ s1, Fini.back (s := s0.setVm T'.vm) hk eh.symm F⟩
/-- a contract, seen wide: the method, or what it calls, may load String constants -/
def CtW (EL : List (String × Nat)) (W : Wd) (M : Mt) (as : List Value) (H : List En) (Q : Option Value → List En → Prop) : Prop :=
  ∀ (ws : List Cond) (h0 : Heap), Hp W h0 H → MetFree (wL W) (mN M) (head1 (Cond.code (mN M) (mC M) (mL M) (mT M) :: ws) (mR M)) (fun a U => a = as.toArray ∧ (wZ W).Warmed39 U.vm ∧ U.heap = h0 ∧ CHv (wZ W) EL U.vm h0 ∧ Sf (wZ W) EL U.vm h0 H) (fun _ _ _ _ _ => True)
    (fun _ U o U' => ∃ v L, o = .returned v ∧ (Fr (wN W) L ∧ Kl W h0 U'.heap ∧ ∃ H', Hp W U'.heap H' ∧ Q v H' ∧ Sf (wZ W) EL U'.vm U'.heap H') ∧ CHr (wZ W) EL U.vm U.heap U'.vm U'.heap ∧ ReturnedEndW U o U' L (mR M).cells (mR M).slots)
theorem CtW.intro {as : List Value} {L0 : List Slot} (hE : EW (wZ W) (wA W) EL) (hp : plainFor (mN M) = true) (he : slotsOf as ++ List.replicate (mL M - (slotsOf as).length) Slot.unset = L0) (body : ∀ K s0, kW K = some (s0, EL) → Wp W K M Q H 0 0 0 L0 []) : CtW EL W M as H Q := by
  intro ws h0 P
  refine MetFree.of_bodySF hp hisR ?_
  intro p e s m args below meth c s₁ Bd hml0 hP hK
  obtain ⟨rfl, hZ, hh, hC, hS⟩ := hP
  have e0 : s₁.heap = h0 := by rw [← hh, Bd.state]; rfl
  obtain ⟨U, st, o, h1, h2, v, L, e1, e2, H', e3, e4, e5⟩ := body (p, e, s, m, as.toArray, below, meth, c, some (s, EL)) s rfl s₁ ⟨Bd.exec, hZ, findClass_of_methodNamed Bd.named, Bd.bytes, hml0, Bd.returns, (name_of_methodNamed Bd.named Bd.method).1, Bd.notSynchronized, ⟨⟨Nat.le_of_eq (by rw [e0, ← hh]; first | done | rfl), fun x c q _ => by rw [e0, ← hh]; exact q⟩, Gw.mk (EL := EL) (s0 := s) rfl ⟨rfl, ⟨0, (State.WarmedH.refl s).since 0, Nat.zero_le _⟩, hE, by rw [e0, ← hh]; exact CHr.refl (hh ▸ hC), by rw [e0]; exact hS⟩⟩, [], Stand.of_body Bd, Fr.nil _, by rw [e0]; exact P⟩
  have e6 : ReturnedEndW s o U L (mR M).cells (mR M).slots ∧ CHr (wZ W) EL s.vm s.heap U.vm U.heap ∧ Sf (wZ W) EL U.vm U.heap H' := e5.2
  exact ⟨U, o, castTop ((entry_eq m as (mL M)).trans (by rw [he]; rfl)) st, h1, h2, v, L, e1, ⟨e2, by rw [← hh]; exact e5.1, H', e3, e4, e6.2.2⟩, e6.2.1, e6.1⟩
theorem CtW.back {M' : Mt} {as : List Value} {Q' : Option Value → List En → Prop} {h : Heap} {p : Program} {e : Env} {s : State} {vm0 : Vm} {args : Array Value} {below : List Frame} {ln Wn : Nat} {R : Room} (C : CtW EL W M' as H Q') (P : Hp W h H) (hZ : (wZ W).Warmed39 vm0) {np : Nat} (w : Mk W M' (mN M') np) (hf : (mR M').frames + 1 ≤ R.frames) (hl : Wn + (mL M' + 11) + (mR M').locals ≤ R.locals) (hE : EW (wZ W) (wA W) EL) (hC : CHv (wZ W) EL vm0 h) (hS : Sf (wZ W) EL vm0 h H) :
    BackS (wL W) R p e below (s.setVm vm0) args (mN M') ln Wn (fun A a => a = as.toArray ∧ A.U.heap = h ∧ A.cells + (mR M').cells ≤ R.cells ∧ A.slots + (mR M').slots ≤ R.slots) (fun A _ v B => ∃ L, (Fr (wN W) L ∧ Kl W h B.U.heap ∧ ∃ H', Hp W B.U.heap H' ∧ Q' v H' ∧ Sf (wZ W) EL B.U.vm B.U.heap H') ∧ CHr (wZ W) EL vm0 h B.U.vm B.U.heap ∧ B.locs = A.locs ++ L ∧ B.cells = A.cells + (mR M').cells ∧ B.slots = A.slots + (mR M').slots) :=
  BackS.of_freeW (bytes := mC M') (maxL := mL M') (ret := mT M') (E := fun _ U o t L k n => k = (mR M').cells ∧ n = (mR M').slots ∧ (∃ v, o = .returned v ∧ (Fr (wN W) L ∧ Kl W h t.heap ∧ ∃ H', Hp W t.heap H' ∧ Q' v H' ∧ Sf (wZ W) EL t.vm t.heap H')) ∧ CHr (wZ W) EL U.vm U.heap t.vm t.heap) (C [] h P) hf hl
    (fun m meth c A a Y hp => have hU : (wZ W).Warmed39 A.U.vm := wtrans (s := s.setVm vm0) hZ Y.warmed
      ⟨by show (Cond.and _ .tt).before a A.U = true; rw [Cond.before_and, mv hU w.2.1]; rfl, mv hU w.2.1, mv hU w.2.2.1, hp.2.2.1, hp.2.2.2⟩)
    (fun m meth c A a g mk Y hp => have D := CHv.at Y hZ hE hC
      ⟨hp.1, wtrans (s := s.setVm vm0) hZ Y.warmed, hp.2.1, D.1, fun y hy hr => D.safe (P.2.1 y hy).2.lt (hS y hy hr)⟩) (fun _ _ _ _ _ _ _ _ _ => trivial)
    (fun _ _ _ _ ⟨v, L, h1, h2, h3, h4⟩ => ⟨L, _, _, h4, rfl, rfl, ⟨v, h1, h2⟩, h3⟩)
    (fun m meth c A a g mk v t L k n Y hp _ _ ⟨e1, e2, ⟨v', e3, e4⟩, e5⟩ => by
      cases e3; subst e1 e2
      refine ⟨L, e4, (CHv.at Y hZ hE hC).trans ?_, rfl, rfl, rfl⟩
      rw [← hp.2.1]; exact e5)
/-- invokestatic of a method that may load constants -/
theorem Wp.callSW {y0 : MethodName} (hM : mN M = y0) {M' : Mt} {as : List Value} {idx Wn np : Nat} {S0 : List Value} {Q' : Option Value → List En → Prop} (hk : kW K = some (s0, EL)) (C : CtW EL W M' as H Q') {y' : MethodName} (w : Mk W M' y' np) (w1 : Wok W (.methodLink y0.cls idx y')) (w2 : Wok W (.static y')) (hst : S0 = as.reverse ++ S) (hp : as.length = np) (hW : (S.map fun v => v.category).sum = Wn) (hL : L.length = mL M) (hR : Fits M M' c n Wn)
    (hd : Dc (mC M) pc (.invokestatic idx) 3 pc') (k : ∀ K' v H', kW K' = some (s0, EL) → Q' v H' → Wp W K' M Q H' (c + (mR M').cells) (n + (mR M').slots) pc' L (pushV v S)) : Wp W K M Q H c n pc L S0 := by
  subst hM
  obtain ⟨rfl, w⟩ := w
  obtain ⟨hd, rfl⟩ := hd
  subst hst hp
  exact fun T X => by
    obtain ⟨hx, hZ, ho, hb, hm, hr, hn, hl, gs, locs, X, N, P⟩ := X
    obtain ⟨g1, ⟨k0, g2, g3⟩, g4, g5, g6⟩ := gs.2.get hk
    have eh : (kS K).heap = s0.heap := by rw [g1]; rfl
    have X1 := X
    rw [g1] at X1
    obtain ⟨v, vm1, ⟨T', L', k', n'⟩, -, X', hS, hle, ⟨Lc, ⟨N', kl, H', P', q, sf⟩, hC, l1, y1, z1⟩, st⟩ := Jvm.RoadKit.callSS X1 hx (y := mN M') ho (mvT (s := s0.setVm (kS K).vm) hZ w1) (mvT (s := s0.setVm (kS K).vm) hZ w2) (mvT (s := s0.setVm (kS K).vm) hZ w.2.1) (mvT (s := s0.setVm (kS K).vm) hZ w.1) w.2.2.2 (CtW.back C P hZ ⟨rfl, w⟩ hR.1 hR.2.1 g4 g5.1 g6) (g := mkF (kM K) pc L.toArray (as.reverse ++ S)) rfl (by rw [hm, ← hL]; simp) (argsL := as) (rest := S) w.2.2.1 rfl (by show 2 * 0 + _ ≤ _; omega) (hbM hb hd) (fun _ _ => ⟨rfl, rfl, hR.2.2.1, hR.2.2.2⟩)
    dsimp only [Pt.U, Pt.locs, Pt.cells, Pt.slots] at X' l1 y1 z1 st P' hS hle kl sf hC
    subst l1 y1 z1
    obtain ⟨U, s1, F⟩ := k (kN K (s0.setVm T'.vm)) v H' hk q T' ⟨hx, State.Warmed39.trans (t := s0.setVm (kS K).vm) hZ hS.1, by show T'.vm.findClass _ = _; rw [hS.1.alike.findClass]; exact ho, hb, hm, hr, hn, hl, ⟨⟨Nat.le_trans (eh ▸ gs.1.1) kl.1, fun x c q r => kl.2 x c (gs.1.2 x c (by rw [eh]; exact q) r) r⟩, Gw.mk hk ⟨rfl, ⟨_, g2.trans hS (Nat.le_trans g3 hle), Nat.le_refl _⟩, g4, g5.trans hC, sf⟩⟩, _, X', N.app N', P'⟩
    rw [pushV_eq] at s1
    exact ⟨U, st.trans s1, Fini.back (s := s0.setVm T'.vm) hk eh.symm F⟩
/-- a constructor that may load constants -/
theorem Wp.callCW {y0 : MethodName} (hM : mN M = y0) {M' : Mt} {a : Addr} {as : List Value} {idx Wn np : Nat} {S0 : List Value} {Q' : Option Value → List En → Prop} (hk : kW K = some (s0, EL)) (C : CtW EL W M' (.ref a :: as) H Q') {y' : MethodName} (w : Mk W M' y' np) (w1 : Wok W (.methodLink y0.cls idx y')) (w2 : Wok W (.instanceMethod y')) (hi : y'.name = "<init>") (hT : mT M' = none) (hst : S0 = as.reverse ++ .ref a :: S) (hp : as.length = np) (hW : (S.map fun v => v.category).sum = Wn) (hL : L.length = mL M) (hR : Fits M M' c n Wn)
    (hd : Dc (mC M) pc (.invokespecial idx) 3 pc') (k : ∀ K' v H', kW K' = some (s0, EL) → Q' v H' → Wp W K' M Q H' (c + (mR M').cells) (n + (mR M').slots) pc' L (pushV v S)) : Wp W K M Q H c n pc L S0 := by
  subst hM
  obtain ⟨rfl, w⟩ := w
  obtain ⟨hd, rfl⟩ := hd
  subst hst hp
  exact fun T X => by
    obtain ⟨hx, hZ, ho, hb, hm, hr, hn, hl, gs, locs, X, N, P⟩ := X
    obtain ⟨g1, ⟨k0, g2, g3⟩, g4, g5, g6⟩ := gs.2.get hk
    have eh : (kS K).heap = s0.heap := by rw [g1]; rfl
    have X1 := X
    rw [g1] at X1
    obtain ⟨v, vm1, ⟨T', L', k', n'⟩, -, X', hS, hle, ⟨Lc, ⟨N', kl, H', P', q, sf⟩, hC, l1, y1, z1⟩, st⟩ := X1.specialBackS hx (y := mN M') hi ho (mvT (s := s0.setVm (kS K).vm) hZ w1) (mvT (s := s0.setVm (kS K).vm) hZ w2) (hT ▸ mvT (s := s0.setVm (kS K).vm) hZ w.1) w.2.2.2 (CtW.back C P hZ ⟨rfl, w⟩ hR.1 hR.2.1 g4 g5.1 g6) (g := mkF (kM K) pc L.toArray (as.reverse ++ .ref a :: S)) rfl (by rw [hm, ← hL]; simp) (Steps.refl _) (a := a) (argsL := as) (rest := S) w.2.2.1 rfl (by show 2 * 0 + _ ≤ _; omega) (hbM hb hd) (fun _ _ => ⟨rfl, rfl, hR.2.2.1, hR.2.2.2⟩)
    dsimp only [Pt.U, Pt.locs, Pt.cells, Pt.slots] at X' l1 y1 z1 st P' hS hle kl sf hC
    subst l1 y1 z1
    obtain ⟨U, s1, F⟩ := k (kN K (s0.setVm T'.vm)) v H' hk q T' ⟨hx, State.Warmed39.trans (t := s0.setVm (kS K).vm) hZ hS.1, by show T'.vm.findClass _ = _; rw [hS.1.alike.findClass]; exact ho, hb, hm, hr, hn, hl, ⟨⟨Nat.le_trans (eh ▸ gs.1.1) kl.1, fun x c q r => kl.2 x c (gs.1.2 x c (by rw [eh]; exact q) r) r⟩, Gw.mk hk ⟨rfl, ⟨_, g2.trans hS (Nat.le_trans g3 hle), Nat.le_refl _⟩, g4, g5.trans hC, sf⟩⟩, _, X', N.app N', P'⟩
    rw [pushV_eq] at s1
    exact ⟨U, st.trans s1, Fini.back (s := s0.setVm T'.vm) hk eh.symm F⟩
/-- invokevirtual of a method that may load constants -/
theorem Wp.callVW {y0 : MethodName} (hM : mN M = y0) {M' : Mt} {y : MethodName} {C0 S' : String} {fs : List Fd} {rw : Bool} {a : Addr} {as : List Value} {idx Wn np : Nat} {S0 : List Value} {Q' : Option Value → List En → Prop} (hk : kW K = some (s0, EL)) (C : CtW EL W M' (.ref a :: as) H Q') (i : Nat) (hi : H[i]? = some (a, rw, .inl (C0, fs))) {y' : MethodName} (w : Mk W M' y' np) (w1 : Wok W (.methodLink y0.cls idx y)) (w2 : Wok W (.declares y)) (w3 : Wok W (.selects C0 y y')) (w4 : Wok W (.instanceMethod y'))
    (nf : NfW W y y' S') (hy : y.cls ≠ "java/lang/invoke/MethodHandle" ∧ y.cls ≠ "java/lang/invoke/VarHandle") (hdsc : y.desc = y'.desc) (hst : S0 = as.reverse ++ .ref a :: S) (hp : as.length = np) (hW : (S.map fun v => v.category).sum = Wn) (hL : L.length = mL M) (hR : Fits M M' c n Wn)
    (hd : Dc (mC M) pc (.invokevirtual idx) 3 pc') (k : ∀ K' v H', kW K' = some (s0, EL) → Q' v H' → Wp W K' M Q H' (c + (mR M').cells) (n + (mR M').slots) pc' L (pushV v S)) : Wp W K M Q H c n pc L S0 := by
  subst hM
  obtain ⟨rfl, w⟩ := w
  obtain ⟨hd, rfl⟩ := hd
  subst hst hp
  exact fun T X => by
    obtain ⟨hx, hZ, ho, hb, hm, hr, hn, hl, gs, locs, X, N, P⟩ := X
    obtain ⟨g1, ⟨k0, g2, g3⟩, g4, g5, g6⟩ := gs.2.get hk
    have eh : (kS K).heap = s0.heap := by rw [g1]; rfl
    have X1 := X
    rw [g1] at X1
    have F : ObOk (wZ W) T.heap a C0 fs := P.at hi
    obtain ⟨cq, kq, q1, q2, q3⟩ := isOf (s := s0.setVm (kS K).vm) hZ rfl F.1
    obtain ⟨v, vm1, ⟨T', L', k', n'⟩, -, X', hS, hle, ⟨Lc, ⟨N', kl, H', P', q, sf⟩, hC, l1, y1, z1⟩, st⟩ := X1.virtualBackS hx (y := y) (z := mN M') ho (mvT (s := s0.setVm (kS K).vm) hZ w1) (mvT (s := s0.setVm (kS K).vm) hZ w2) (nf_of (s := s0.setVm (kS K).vm) hZ w3 nf) (mvT (s := s0.setVm (kS K).vm) hZ w3) (mvT (s := s0.setVm (kS K).vm) hZ w4) hy (CtW.back C P hZ ⟨rfl, w⟩ hR.1 hR.2.1 g4 g5.1 g6) q1 q3 (g := mkF (kM K) pc L.toArray (as.reverse ++ .ref a :: S)) rfl (by rw [hm, ← hL]; simp) (Steps.refl _) (argsL := as) (rest := S) (fun sig u => w.2.2.1 sig (hdsc ▸ u)) rfl (by show 2 * 0 + _ ≤ _; omega) (hbM hb hd) (fun _ _ => ⟨rfl, rfl, hR.2.2.1, hR.2.2.2⟩)
    dsimp only [Pt.U, Pt.locs, Pt.cells, Pt.slots] at X' l1 y1 z1 st P' hS hle kl sf hC
    subst l1 y1 z1
    obtain ⟨U, s1, F⟩ := k (kN K (s0.setVm T'.vm)) v H' hk q T' ⟨hx, State.Warmed39.trans (t := s0.setVm (kS K).vm) hZ hS.1, by show T'.vm.findClass _ = _; rw [hS.1.alike.findClass]; exact ho, hb, hm, hr, hn, hl, ⟨⟨Nat.le_trans (eh ▸ gs.1.1) kl.1, fun x c q r => kl.2 x c (gs.1.2 x c (by rw [eh]; exact q) r) r⟩, Gw.mk hk ⟨rfl, ⟨_, g2.trans hS (Nat.le_trans g3 hle), Nat.le_refl _⟩, g4, g5.trans hC, sf⟩⟩, _, X', N.app N', P'⟩
    rw [pushV_eq] at s1
    exact ⟨U, st.trans s1, Fini.back (s := s0.setVm T'.vm) hk eh.symm F⟩
end Wide
def Ws (W : Wd) : Prop := (∀ d ∈ tables_1, d.before (wA W) (wZ W) = true) ∧ (∃ cs : Int32, Sta (wZ W) (wZ W).heap "java/lang/String" "COMPACT_STRINGS" "Z" (.int cs) ∧ ¬ cs = 0)
theorem st_compact {W : Wd} (hw : Ws W) : ∃ cs : Int32, Sta (wZ W) (wZ W).heap "java/lang/String" "COMPACT_STRINGS" "Z" (.int cs) ∧ ¬ cs = 0 := hw.2
theorem narZ_eqI (xs ys : List Int32) : nar .boolean (eqI xs ys) = eqI xs ys := by
  unfold eqI
  split <;> decide
theorem by8_eq {x y : Int32} (h1 : ¬ x < 0) (h2 : ¬ 255 < x) (h3 : by8 x = y) (h4 : ¬ y < 0) (h5 : ¬ 127 < y) : x = y := by
  have e := by8_back h1 h2
  rw [h3] at e
  rw [← e]
  have a := c_and y 255 (by decide)
  have h4' : 0 ≤ y.toInt := by rw [Int32.lt_iff_toInt_lt] at h4; have : (0 : Int32).toInt = 0 := rfl; omega
  have h5' : y.toInt ≤ 127 := by rw [Int32.lt_iff_toInt_lt] at h5; have : (127 : Int32).toInt = 127 := rfl; omega
  obtain ⟨k, hk, rfl⟩ : ∃ k : Nat, k < 128 ∧ y = ix k := ⟨y.toInt.toNat, by omega, by rw [← Int32.toInt_inj, ix_toInt (by omega)]; omega⟩
  clear a h4' h5' h5 h4 e h3 h2 h1
  revert k
  decide
theorem rem18 (x : Int32) : ∃ k : Nat, k < 18 ∧ (x &&& 2147483647) % 18 = ix k := by
  have a := c_and x 2147483647 (by decide)
  have e : ((x &&& 2147483647) % 18).toInt = (x &&& 2147483647).toInt.tmod 18 := by rw [Int32.toInt_mod]; rfl
  have e2 : (2147483647 : Int32).toInt = 2147483647 := rfl
  refine ⟨((x &&& 2147483647) % 18).toInt.toNat, ?_, ?_⟩
  · rw [e]; rw [Int.tmod_eq_emod_of_nonneg (by omega)]; omega
  · rw [← Int32.toInt_inj, ix_toInt (by rw [e, Int.tmod_eq_emod_of_nonneg (by omega)]; omega)]
    rw [e, Int.tmod_eq_emod_of_nonneg (by omega)]; omega
theorem cases18 (x : Int32) : (x &&& 2147483647) % 18 = 0 ∨ (x &&& 2147483647) % 18 = 1 ∨ (x &&& 2147483647) % 18 = 2 ∨ (x &&& 2147483647) % 18 = 3 ∨ (x &&& 2147483647) % 18 = 4 ∨ (x &&& 2147483647) % 18 = 5 ∨ (x &&& 2147483647) % 18 = 6 ∨ (x &&& 2147483647) % 18 = 7 ∨ (x &&& 2147483647) % 18 = 8 ∨ (x &&& 2147483647) % 18 = 9 ∨ (x &&& 2147483647) % 18 = 10 ∨ (x &&& 2147483647) % 18 = 11 ∨ (x &&& 2147483647) % 18 = 12 ∨ (x &&& 2147483647) % 18 = 13 ∨ (x &&& 2147483647) % 18 = 14 ∨ (x &&& 2147483647) % 18 = 15 ∨ (x &&& 2147483647) % 18 = 16 ∨ (x &&& 2147483647) % 18 = 17 := by
  obtain ⟨k, hk, e⟩ := rem18 x
  rw [e]
  clear e
  revert k
  decide
theorem nn4 (x : Int32) : 1 + (x &&& 3) = 1 ∨ 1 + (x &&& 3) = 2 ∨ 1 + (x &&& 3) = 3 ∨ 1 + (x &&& 3) = 4 := by
  rcases and3 x with h | h | h | h <;> rw [h] <;> decide
abbrev oStr (r : Bool) (a : Addr) (f0 : Value) (f1 : Value) : En := (a, r, .inl ("java/lang/String", [("java/lang/String", "value", "[B", f0), ("java/lang/String", "coder", "B", f1)]))
abbrev oAL (r : Bool) (a : Addr) (f0 : Value) (f1 : Value) (f2 : Value) : En := (a, r, .inl ("java/util/ArrayList", [("java/util/AbstractList", "modCount", "I", f0), ("java/util/ArrayList", "elementData", "[Ljava/lang/Object;", f1), ("java/util/ArrayList", "size", "I", f2)]))
theorem Ws.set {W : Wd} {P : Addr → Prop} (hw : Ws W) : Ws (wSet W P) := hw
theorem w_154 {W : Wd} (hw : Ws W) : Wok W (Jvm.Cond.stringLink "com/example/binhold/binhold/maven/MavenLayoutIsMetadataPinLaw" (34 : Nat) "maven-metadata.xml") := hw.1 _ (List.mem_of_getElem? (i := 154) rfl)
def tt_0 : List Int32 := [109, 97, 118, 101, 110, 45, 109, 101, 116, 97, 100, 97, 116, 97, 46, 120, 109, 108]
theorem tx_0 : (∀ c ∈ ("maven-metadata.xml" : String).toList, c.toNat < 256) ∧ ("maven-metadata.xml" : String).toList.map (fun c => Value.int (Jvm.Lit.byteI c.toNat.toUInt16)) = csL tt_0 := ⟨by decide +kernel, by rfl⟩
theorem ln_0 : 4 * ("maven-metadata.xml" : String).toList.length ≤ 72 := by decide +kernel
theorem w_159 {W : Wd} (hw : Ws W) : Wok W (Jvm.Cond.stringLink "com/example/binhold/binhold/maven/MavenLayoutIsMetadataPinLaw" (32 : Nat) "maven-metadata.xml.sha256") := hw.1 _ (List.mem_of_getElem? (i := 159) rfl)
def tt_1 : List Int32 := [109, 97, 118, 101, 110, 45, 109, 101, 116, 97, 100, 97, 116, 97, 46, 120, 109, 108, 46, 115, 104, 97, 50, 53, 54]
theorem tx_1 : (∀ c ∈ ("maven-metadata.xml.sha256" : String).toList, c.toNat < 256) ∧ ("maven-metadata.xml.sha256" : String).toList.map (fun c => Value.int (Jvm.Lit.byteI c.toNat.toUInt16)) = csL tt_1 := ⟨by decide +kernel, by rfl⟩
theorem ln_1 : 4 * ("maven-metadata.xml.sha256" : String).toList.length ≤ 100 := by decide +kernel
theorem w_153 {W : Wd} (hw : Ws W) : Wok W (Jvm.Cond.stringLink "com/example/binhold/binhold/maven/MavenLayoutIsMetadataPinLaw" (30 : Nat) "maven-metadata.xml.asc") := hw.1 _ (List.mem_of_getElem? (i := 153) rfl)
def tt_2 : List Int32 := [109, 97, 118, 101, 110, 45, 109, 101, 116, 97, 100, 97, 116, 97, 46, 120, 109, 108, 46, 97, 115, 99]
theorem tx_2 : (∀ c ∈ ("maven-metadata.xml.asc" : String).toList, c.toNat < 256) ∧ ("maven-metadata.xml.asc" : String).toList.map (fun c => Value.int (Jvm.Lit.byteI c.toNat.toUInt16)) = csL tt_2 := ⟨by decide +kernel, by rfl⟩
theorem ln_2 : 4 * ("maven-metadata.xml.asc" : String).toList.length ≤ 88 := by decide +kernel
theorem w_155 {W : Wd} (hw : Ws W) : Wok W (Jvm.Cond.stringLink "com/example/binhold/binhold/maven/MavenLayoutIsMetadataPinLaw" (28 : Nat) "maven-metadata.xml.sha1") := hw.1 _ (List.mem_of_getElem? (i := 155) rfl)
def tt_3 : List Int32 := [109, 97, 118, 101, 110, 45, 109, 101, 116, 97, 100, 97, 116, 97, 46, 120, 109, 108, 46, 115, 104, 97, 49]
theorem tx_3 : (∀ c ∈ ("maven-metadata.xml.sha1" : String).toList, c.toNat < 256) ∧ ("maven-metadata.xml.sha1" : String).toList.map (fun c => Value.int (Jvm.Lit.byteI c.toNat.toUInt16)) = csL tt_3 := ⟨by decide +kernel, by rfl⟩
theorem ln_3 : 4 * ("maven-metadata.xml.sha1" : String).toList.length ≤ 92 := by decide +kernel
theorem w_160 {W : Wd} (hw : Ws W) : Wok W (Jvm.Cond.stringLink "com/example/binhold/binhold/maven/MavenLayoutIsMetadataPinLaw" (26 : Nat) "maven-metadata.xml.md5") := hw.1 _ (List.mem_of_getElem? (i := 160) rfl)
def tt_4 : List Int32 := [109, 97, 118, 101, 110, 45, 109, 101, 116, 97, 100, 97, 116, 97, 46, 120, 109, 108, 46, 109, 100, 53]
theorem tx_4 : (∀ c ∈ ("maven-metadata.xml.md5" : String).toList, c.toNat < 256) ∧ ("maven-metadata.xml.md5" : String).toList.map (fun c => Value.int (Jvm.Lit.byteI c.toNat.toUInt16)) = csL tt_4 := ⟨by decide +kernel, by rfl⟩
theorem ln_4 : 4 * ("maven-metadata.xml.md5" : String).toList.length ≤ 88 := by decide +kernel
theorem w_142 {W : Wd} (hw : Ws W) : Wok W (Jvm.Cond.stringLink "com/example/binhold/binhold/maven/MavenLayout" (109 : Nat) "maven-metadata.xml") := hw.1 _ (List.mem_of_getElem? (i := 142) rfl)
theorem ew_1 {W : Wd} (hw : Ws W) : EW (wZ W) (wA W) consts_1 := (EW.cons (w_142 hw) tx_0.1 (EW.cons (w_160 hw) tx_4.1 (EW.cons (w_155 hw) tx_3.1 (EW.cons (w_153 hw) tx_2.1 (EW.cons (w_159 hw) tx_1.1 (EW.cons (w_154 hw) tx_0.1 EW.nil))))))
theorem w_8 {W : Wd} (hw : Ws W) : Wok W (Jvm.Cond.initialized "java/lang/String") := hw.1 _ (List.mem_of_getElem? (i := 8) rfl)
theorem w_7 {W : Wd} (hw : Ws W) : Wok W (Jvm.Cond.instantiable "java/lang/String" (4 : Nat)) := hw.1 _ (List.mem_of_getElem? (i := 7) rfl)
theorem w_27 {W : Wd} (hw : Ws W) : Wok W (Jvm.Cond.arrayClass Jvm.ClassFile.FieldType.byte) := hw.1 _ (List.mem_of_getElem? (i := 27) rfl)
theorem w_37 {W : Wd} (hw : Ws W) : Wok W (Jvm.Cond.laysFinal "java/lang/String" "java/lang/String" "value" "[B") := hw.1 _ (List.mem_of_getElem? (i := 37) rfl)
theorem w_35 {W : Wd} (hw : Ws W) : Wok W (Jvm.Cond.laysFinal "java/lang/String" "java/lang/String" "coder" "B") := hw.1 _ (List.mem_of_getElem? (i := 35) rfl)
theorem w_143 {W : Wd} (hw : Ws W) : Wok W (Jvm.Cond.soleField "java/lang/String" "value") := hw.1 _ (List.mem_of_getElem? (i := 143) rfl)
theorem w_144 {W : Wd} (hw : Ws W) : Wok W (Jvm.Cond.soleField "java/lang/String" "coder") := hw.1 _ (List.mem_of_getElem? (i := 144) rfl)
theorem sa_1 {W : Wd} (hw : Ws W) : ∀ a ∈ Bundle.stringAtoms, Wok W a := by
  intro a ha
  simp only [Bundle.stringAtoms, Bundle.sN, List.mem_cons, List.not_mem_nil, or_false] at ha
  rcases ha with rfl | rfl | rfl | rfl | rfl | rfl | rfl
  · exact (w_8 hw)
  · exact (w_7 hw)
  · exact (w_27 hw)
  · exact (w_37 hw)
  · exact (w_35 hw)
  · exact (w_143 hw)
  · exact (w_144 hw)
def Mcp2 : Mt := (⟨"java/lang/StringUTF16", "compress", "([CI[BII)I"⟩, jdk_52_method_21_code, 7, some .int, ⟨0, 0, 0, 0⟩)
theorem nm_Mcp2 : mN Mcp2 = ⟨"java/lang/StringUTF16", "compress", "([CI[BII)I"⟩ := by delta mN Mcp2; rfl
theorem d_jdk_52_21_3 : Dc jdk_52_method_21_code 3 (.iload 5) 2 5 := ⟨by decide +kernel, rfl⟩
theorem d_jdk_52_21_5 : Dc jdk_52_method_21_code 5 (.iload 4) 2 7 := ⟨by decide +kernel, rfl⟩
theorem d_jdk_52_21_7 : Bj jdk_52_method_21_code 7 (.if_icmp .ge 37) 37 10 44 := ⟨by decide +kernel, rfl, by decide, rfl⟩
theorem d_jdk_52_21_10 : Dc jdk_52_method_21_code 10 (.aload_n 0) 1 11 := ⟨by decide +kernel, rfl⟩
theorem d_jdk_52_21_11 : Dc jdk_52_method_21_code 11 (.iload_n 1) 1 12 := ⟨by decide +kernel, rfl⟩
theorem d_jdk_52_21_12 : Dc jdk_52_method_21_code 12 (.caload) 1 13 := ⟨by decide +kernel, rfl⟩
theorem d_jdk_52_21_13 : Dc jdk_52_method_21_code 13 (.istore 6) 2 15 := ⟨by decide +kernel, rfl⟩
theorem d_jdk_52_21_15 : Dc jdk_52_method_21_code 15 (.iload 6) 2 17 := ⟨by decide +kernel, rfl⟩
theorem d_jdk_52_21_17 : Dc jdk_52_method_21_code 17 (.sipush 255) 3 20 := ⟨by decide +kernel, rfl⟩
theorem ls_255 : (Int16.ofInt 255).toInt32 = 255 := by decide
theorem d_jdk_52_21_20 : Bj jdk_52_method_21_code 20 (.if_icmp .le 6) 6 23 26 := ⟨by decide +kernel, rfl, by decide, rfl⟩
theorem d_jdk_52_21_26 : Dc jdk_52_method_21_code 26 (.aload_n 2) 1 27 := ⟨by decide +kernel, rfl⟩
theorem d_jdk_52_21_27 : Dc jdk_52_method_21_code 27 (.iload_n 3) 1 28 := ⟨by decide +kernel, rfl⟩
theorem d_jdk_52_21_28 : Dc jdk_52_method_21_code 28 (.iload 6) 2 30 := ⟨by decide +kernel, rfl⟩
theorem d_jdk_52_21_30 : Dc jdk_52_method_21_code 30 (.i2b) 1 31 := ⟨by decide +kernel, rfl⟩
theorem d_jdk_52_21_31 : Dc jdk_52_method_21_code 31 (.bastore) 1 32 := ⟨by decide +kernel, rfl⟩
theorem d_jdk_52_21_32 : Dc jdk_52_method_21_code 32 (.iinc 1 1) 3 35 := ⟨by decide +kernel, rfl⟩
theorem d_jdk_52_21_35 : Dc jdk_52_method_21_code 35 (.iinc 3 1) 3 38 := ⟨by decide +kernel, rfl⟩
theorem d_jdk_52_21_38 : Dc jdk_52_method_21_code 38 (.iinc 5 1) 3 41 := ⟨by decide +kernel, rfl⟩
theorem d_jdk_52_21_41 : Bj jdk_52_method_21_code 41 (.goto (-38)) (-38) 44 3 := ⟨by decide +kernel, rfl, by decide, rfl⟩
theorem d_jdk_52_21_44 : Dc jdk_52_method_21_code 44 (.iload 4) 2 46 := ⟨by decide +kernel, rfl⟩
theorem d_jdk_52_21_46 : Dc jdk_52_method_21_code 46 (.ireturn) 1 47 := ⟨by decide +kernel, rfl⟩
set_option maxRecDepth 65536 in
set_option maxHeartbeats 40000000 in
theorem lp_cp2 {W : Wd} {K : Kx} (hw : Ws W) (a b : Addr) (r ex ov : Bool) (cs ds : List Int32) (F : List En) (hp : ∀ c ∈ cs, ¬ c < 0 ∧ ¬ 255 < c) (hd : cs.length = ds.length) (hn : cs.length < 2 ^ 31) (Q : Option Value → List En → Prop) (hQ : Q (some (.int (ix cs.length))) ((a, r, .inr (.char, ex, ov, csL cs)) :: (eB b (csL (cs.map by8))) :: F)) :
    ∀ (k i : Nat) (o : Slot), i + k = cs.length → One o → Wp W K Mcp2 Q ((a, r, .inr (.char, ex, ov, csL cs)) :: (eB b (csL (part by8 cs ds i))) :: F) 0 0 3 [.val (.ref a), .val (.int (ix i)), .val (.ref b), .val (.int (ix i)), .val (.int (ix cs.length)), .val (.int (ix i)), o] []
  | 0, i, o, hi, ho_o => by
    have hi1 : i < 2 ^ 31 := by omega
    have e : part by8 cs ds i = cs.map by8 := part_end hd (by omega)
    rw [e]
    refine Wp.iload rfl d_jdk_52_21_3 ?_
    refine Wp.iload rfl d_jdk_52_21_5 ?_
    refine Wp.icT (flt (fun q => by rw [ix_lt hi1 hn] at q; omega)).2.1 d_jdk_52_21_7 ?_
    refine Wp.iload rfl d_jdk_52_21_44 ?_
    refine Wp.iret rfl d_jdk_52_21_46 (by decide) (by decide) ?_
    exact hQ
  | k + 1, i, o, hi, ho_o => by
    have hi1 : i < 2 ^ 31 := by omega
    have hi2 : i < cs.length := by omega
    obtain ⟨x, hx⟩ : ∃ x, cs[i]? = some x := ⟨_, List.getElem?_eq_getElem hi2⟩
    refine Wp.iload rfl d_jdk_52_21_3 ?_
    refine Wp.iload rfl d_jdk_52_21_5 ?_
    refine Wp.icF (tlt ((ix_lt hi1 hn).mpr hi2)).2.1 d_jdk_52_21_7 ?_
    refine Wp.aloadN rfl rfl d_jdk_52_21_10 ?_
    refine Wp.iloadN rfl d_jdk_52_21_11 ?_
    refine Wp.caload 0 i rfl (ix_nn hi1) (ix_nat hi1) (csL_get hx) d_jdk_52_21_12 ?_
    refine Wp.istore (L' := [.val (.ref a), .val (.int (ix i)), .val (.ref b), .val (.int (ix i)), .val (.int (ix cs.length)), .val (.int (ix i)), .val (.int x)]) (storeOne rfl ho_o rfl rfl) d_jdk_52_21_13 ?_
    refine Wp.iload rfl d_jdk_52_21_15 ?_
    refine Wp.sipush ls_255 d_jdk_52_21_17 ?_
    refine Wp.icT (flt (hp x (List.mem_of_getElem? hx)).2).2.2.2 d_jdk_52_21_20 ?_
    refine Wp.aloadN rfl rfl d_jdk_52_21_26 ?_
    refine Wp.iloadN rfl d_jdk_52_21_27 ?_
    refine Wp.iload rfl d_jdk_52_21_28 ?_
    refine Wp.i2b (z := (by8 x)) rfl d_jdk_52_21_30 ?_
    refine Wp.bastore (z := (by8 x)) 1 i rfl (ix_nn hi1) (ix_nat hi1) (by rw [csL_len, part_len hd]; omega) (by8_by8 _) d_jdk_52_21_31 (H' := ((a, r, .inr (.char, ex, ov, csL cs)) :: (eB b (csL (part by8 cs ds (i + 1)))) :: F)) (by rw [csL_set, part_set hd hx]; rfl) ?_
    refine Wp.iinc (z := (ix (i + 1))) (L' := [.val (.ref a), .val (.int (ix (i + 1))), .val (.ref b), .val (.int (ix i)), .val (.int (ix cs.length)), .val (.int (ix i)), .val (.int x)]) rfl (ix_inc i) rfl d_jdk_52_21_32 ?_
    refine Wp.iinc (z := (ix (i + 1))) (L' := [.val (.ref a), .val (.int (ix (i + 1))), .val (.ref b), .val (.int (ix (i + 1))), .val (.int (ix cs.length)), .val (.int (ix i)), .val (.int x)]) rfl (ix_inc i) rfl d_jdk_52_21_35 ?_
    refine Wp.iinc (z := (ix (i + 1))) (L' := [.val (.ref a), .val (.int (ix (i + 1))), .val (.ref b), .val (.int (ix (i + 1))), .val (.int (ix cs.length)), .val (.int (ix (i + 1))), .val (.int x)]) rfl (ix_inc i) rfl d_jdk_52_21_38 ?_
    refine Wp.goto d_jdk_52_21_41 ?_
    exact lp_cp2 hw a b r ex ov cs ds F hp hd hn Q hQ k (i + 1) _ (by omega) (One.val rfl)
theorem d_jdk_52_21_0 : Dc jdk_52_method_21_code 0 (.iconst 0) 1 1 := ⟨by decide +kernel, rfl⟩
theorem lc_0 : Int32.ofInt 0 = 0 := by decide
theorem d_jdk_52_21_1 : Dc jdk_52_method_21_code 1 (.istore 5) 2 3 := ⟨by decide +kernel, rfl⟩
theorem pf_java_lang_StringUTF16 : plainName "java/lang/StringUTF16" = true := by first | (simp [plainName, overriddenIn]; done) | decide +kernel
set_option maxRecDepth 65536 in
set_option maxHeartbeats 40000000 in
theorem rm_cp2 {W : Wd} (hw : Ws W) (a : Addr) (b : Addr) (r : Bool) (ex : Bool) (ov : Bool) (cs : List Int32) (ds : List Int32) (F : List En) (hp : ∀ c ∈ cs, ¬ c < 0 ∧ ¬ 255 < c) (hd : cs.length = ds.length) (hn : cs.length < 2 ^ 31) : Ct W Mcp2 [.ref a, .int 0, .ref b, .int 0, .int (ix cs.length)] ((a, r, .inr (.char, ex, ov, csL cs)) :: (eB b (csL ds)) :: F) (fun v H' => v = some (.int (ix cs.length)) ∧ H' = ((a, r, .inr (.char, ex, ov, csL cs)) :: (eB b (csL (cs.map by8))) :: F)) := by
  refine Ct.intro (L0 := [.val (.ref a), .val (.int 0), .val (.ref b), .val (.int 0), .val (.int (ix cs.length)), .unset, .unset]) (plainFor_of_name pf_java_lang_StringUTF16) rfl (fun K => ?_)
  refine Wp.iconst lc_0 d_jdk_52_21_0 ?_
  refine Wp.istore (L' := [.val (.ref a), .val (.int 0), .val (.ref b), .val (.int 0), .val (.int (ix cs.length)), .val (.int 0), .unset]) rfl d_jdk_52_21_1 ?_
  have q := lp_cp2 (K := K) hw a b r ex ov cs ds F hp hd hn (fun v H' => v = some (.int (ix cs.length)) ∧ H' = ((a, r, .inr (.char, ex, ov, csL cs)) :: (eB b (csL (cs.map by8))) :: F)) ⟨rfl, rfl⟩ cs.length 0 .unset (by omega) One.u
  rw [part_zero] at q
  exact q
theorem d_jdk_52_16_0 : Dc jdk_52_method_16_code 0 (.iload_n 2) 1 1 := ⟨by decide +kernel, rfl⟩
theorem d_jdk_52_16_1 : Dc jdk_52_method_16_code 1 (.newarray .byte) 2 3 := ⟨by decide +kernel, rfl⟩
theorem d_jdk_52_16_3 : Dc jdk_52_method_16_code 3 (.astore_n 3) 1 4 := ⟨by decide +kernel, rfl⟩
theorem d_jdk_52_16_4 : Dc jdk_52_method_16_code 4 (.aload_n 0) 1 5 := ⟨by decide +kernel, rfl⟩
theorem d_jdk_52_16_5 : Dc jdk_52_method_16_code 5 (.iload_n 1) 1 6 := ⟨by decide +kernel, rfl⟩
theorem d_jdk_52_16_6 : Dc jdk_52_method_16_code 6 (.aload_n 3) 1 7 := ⟨by decide +kernel, rfl⟩
theorem d_jdk_52_16_7 : Dc jdk_52_method_16_code 7 (.iconst 0) 1 8 := ⟨by decide +kernel, rfl⟩
theorem d_jdk_52_16_8 : Dc jdk_52_method_16_code 8 (.iload_n 2) 1 9 := ⟨by decide +kernel, rfl⟩
theorem d_jdk_52_16_9 : Dc jdk_52_method_16_code 9 (.invokestatic 115) 3 12 := ⟨by decide +kernel, rfl⟩
theorem pp_1_0 : [1, 0].isPerm (List.range 2) = true := by decide +kernel
theorem w_30 {W : Wd} (hw : Ws W) : Wok W (Jvm.Cond.code ({ cls := "java/lang/StringUTF16", name := "compress", desc := "([CI[BII)I" } : Jvm.MethodName) jdk_52_method_21_code (7 : Nat) (Option.some Jvm.ClassFile.FieldType.int)) := hw.1 _ (List.mem_of_getElem? (i := 30) rfl)
theorem w_25 {W : Wd} (hw : Ws W) : Wok W (Jvm.Cond.initialized "java/lang/StringUTF16") := hw.1 _ (List.mem_of_getElem? (i := 25) rfl)
theorem pd___CI_BII_I : parseMethodDescriptor "([CI[BII)I" = some ⟨[(.array .char), .int, (.array .byte), .int, .int], some .int⟩ := by decide +kernel
theorem mk_Mcp2 {W : Wd} (hw : Ws W) : Mk W Mcp2 ⟨"java/lang/StringUTF16", "compress", "([CI[BII)I"⟩ 5 := Mk.of nm_Mcp2 rfl rfl rfl (w_30 hw) (w_25 hw) (mkLen pd___CI_BII_I rfl) (by decide)
theorem w_28 {W : Wd} (hw : Ws W) : Wok W (Jvm.Cond.methodLink "java/lang/StringUTF16" (115 : Nat) ({ cls := "java/lang/StringUTF16", name := "compress", desc := "([CI[BII)I" } : Jvm.MethodName)) := hw.1 _ (List.mem_of_getElem? (i := 28) rfl)
theorem w_29 {W : Wd} (hw : Ws W) : Wok W (Jvm.Cond.static ({ cls := "java/lang/StringUTF16", name := "compress", desc := "([CI[BII)I" } : Jvm.MethodName)) := hw.1 _ (List.mem_of_getElem? (i := 29) rfl)
theorem d_jdk_52_16_12 : Dc jdk_52_method_16_code 12 (.istore 4) 2 14 := ⟨by decide +kernel, rfl⟩
theorem d_jdk_52_16_14 : Dc jdk_52_method_16_code 14 (.iload 4) 2 16 := ⟨by decide +kernel, rfl⟩
theorem d_jdk_52_16_16 : Dc jdk_52_method_16_code 16 (.iload_n 2) 1 17 := ⟨by decide +kernel, rfl⟩
theorem d_jdk_52_16_17 : Bj jdk_52_method_16_code 17 (.if_icmp .eq 40) 40 20 57 := ⟨by decide +kernel, rfl, by decide, rfl⟩
theorem d_jdk_52_16_57 : Dc jdk_52_method_16_code 57 (.aload_n 3) 1 58 := ⟨by decide +kernel, rfl⟩
theorem d_jdk_52_16_58 : Dc jdk_52_method_16_code 58 (.areturn) 1 59 := ⟨by decide +kernel, rfl⟩
def M_cp1 (n : Nat) : Mt := (⟨"java/lang/StringUTF16", "compress", "([CII)[B"⟩, jdk_52_method_16_code, 6, some (.array .byte), ⟨1, 1, n, 18⟩)
theorem nm_M_cp1 {n : Nat} : mN (M_cp1 n) = ⟨"java/lang/StringUTF16", "compress", "([CII)[B"⟩ := by delta mN M_cp1; rfl
set_option maxRecDepth 65536 in
set_option maxHeartbeats 40000000 in
theorem rm_cp1 {W : Wd} (hw : Ws W) (a : Addr) (r : Bool) (ex : Bool) (ov : Bool) (cs : List Int32) (F : List En) (hp : ∀ c ∈ cs, ¬ c < 0 ∧ ¬ 255 < c) (hn : cs.length ≤ 4000) : Ct W (M_cp1 cs.length) [.ref a, .int 0, .int (ix cs.length)] ((a, r, .inr (.char, ex, ov, csL cs)) :: F) (fun v H' => ∃ b, v = some (.ref b) ∧ H' = ((eB b (csL (cs.map by8))) :: (a, r, .inr (.char, ex, ov, csL cs)) :: F)) := by
  refine Ct.intro (L0 := [.val (.ref a), .val (.int 0), .val (.int (ix cs.length)), .unset, .unset, .unset]) (plainFor_of_name pf_java_lang_StringUTF16) rfl (fun K => ?_)
  refine Wp.iloadN rfl d_jdk_52_16_0 ?_
  refine Wp.newP (kk := cs.length) (vs := csL (List.replicate cs.length 0)) d_jdk_52_16_1 (w_27 hw) (ix_nat (by omega)) (ix_nn (by omega)) (by omega) (Nat.le_refl _) (Nat.le_of_eq (Nat.zero_add _)) (csL_rep _) (fun a1 => ?_)
  refine Wp.astoreN (L' := [.val (.ref a), .val (.int 0), .val (.int (ix cs.length)), .val (.ref a1), .unset, .unset]) rfl rfl d_jdk_52_16_3 ?_
  refine Wp.aloadN rfl rfl d_jdk_52_16_4 ?_
  refine Wp.iloadN rfl d_jdk_52_16_5 ?_
  refine Wp.aloadN rfl rfl d_jdk_52_16_6 ?_
  refine Wp.iconst lc_0 d_jdk_52_16_7 ?_
  refine Wp.iloadN rfl d_jdk_52_16_8 ?_
  refine Wp.perm [1, 0] 2 pp_1_0 (H' := ((a, r, .inr (.char, ex, ov, csL cs)) :: (eB a1 (csL (List.replicate cs.length 0))) :: F)) rfl ?_
  refine Wp.callS nm_M_cp1 (fun _ => rm_cp2 hw.set a a1 r ex ov cs (List.replicate cs.length 0) _ hp (by simp) (by omega)) (mk_Mcp2 hw) (w_28 hw) (w_29 hw) rfl rfl (Wn := 0) rfl rfl (by simp [Fits, mR, mL, M_cp1, Mcp2]) d_jdk_52_16_9 ?_
  rintro _ _ ⟨rfl, rfl⟩
  refine Wp.istore (L' := [.val (.ref a), .val (.int 0), .val (.int (ix cs.length)), .val (.ref a1), .val (.int (ix cs.length)), .unset]) rfl d_jdk_52_16_12 ?_
  refine Wp.iload rfl d_jdk_52_16_14 ?_
  refine Wp.iloadN rfl d_jdk_52_16_16 ?_
  refine Wp.icT (teq rfl).1 d_jdk_52_16_17 ?_
  refine Wp.aloadN rfl rfl d_jdk_52_16_57 ?_
  refine Wp.perm [1, 0] 2 pp_1_0 (H' := ((eB a1 (csL (cs.map by8))) :: (a, r, .inr (.char, ex, ov, csL cs)) :: F)) rfl ?_
  refine Wp.aret rfl rfl rfl d_jdk_52_16_58 (by simp [mR, M_cp1, Mcp2]) (by simp [mR, M_cp1, Mcp2]) ?_
  exact ⟨a1, rfl, rfl⟩
theorem d_jdk_52_15_0 : Dc jdk_52_method_15_code 0 (.iload_n 1) 1 1 := ⟨by decide +kernel, rfl⟩
theorem d_jdk_52_15_1 : Dc jdk_52_method_15_code 1 (.aload_n 0) 1 2 := ⟨by decide +kernel, rfl⟩
theorem d_jdk_52_15_2 : Dc jdk_52_method_15_code 2 (.arraylength) 1 3 := ⟨by decide +kernel, rfl⟩
theorem d_jdk_52_15_3 : Dc jdk_52_method_15_code 3 (.isub) 1 4 := ⟨by decide +kernel, rfl⟩
theorem d_jdk_52_15_4 : Dc jdk_52_method_15_code 4 (.bipush 31) 2 6 := ⟨by decide +kernel, rfl⟩
theorem lb_31 : (Int8.ofInt 31).toInt32 = 31 := by decide
theorem d_jdk_52_15_6 : Dc jdk_52_method_15_code 6 (.iushr) 1 7 := ⟨by decide +kernel, rfl⟩
theorem d_jdk_52_15_7 : Dc jdk_52_method_15_code 7 (.i2b) 1 8 := ⟨by decide +kernel, rfl⟩
theorem d_jdk_52_15_8 : Dc jdk_52_method_15_code 8 (.ireturn) 1 9 := ⟨by decide +kernel, rfl⟩
def M_cfl : Mt := (⟨"java/lang/StringUTF16", "coderFromArrayLen", "([BI)B"⟩, jdk_52_method_15_code, 2, some .byte, ⟨0, 0, 0, 0⟩)
theorem nm_M_cfl : mN M_cfl = ⟨"java/lang/StringUTF16", "coderFromArrayLen", "([BI)B"⟩ := by delta mN M_cfl; rfl
set_option maxRecDepth 65536 in
set_option maxHeartbeats 40000000 in
theorem rm_cfl {W : Wd} (hw : Ws W) (b : Addr) (r : Bool) (ex : Bool) (ov : Bool) (bs : List Int32) (n : Nat) (F : List En) (hb : bs.length = n) : Ct W M_cfl [.ref b, .int (ix n)] ((b, r, .inr (.byte, ex, ov, csL bs)) :: F) (fun v H' => v = some (.int 0) ∧ H' = ((b, r, .inr (.byte, ex, ov, csL bs)) :: F)) := by
  refine Ct.intro (L0 := [.val (.ref b), .val (.int (ix n))]) (plainFor_of_name pf_java_lang_StringUTF16) rfl (fun K => ?_)
  refine Wp.iloadN rfl d_jdk_52_15_0 ?_
  refine Wp.aloadN rfl rfl d_jdk_52_15_1 ?_
  refine Wp.alen (z := (ix n)) 0 rfl (congrArg Nat.toInt32 ((csL_len _).trans hb)) d_jdk_52_15_2 ?_
  refine Wp.isub (z := 0) (Int32.sub_self _) d_jdk_52_15_3 ?_
  refine Wp.bipush lb_31 d_jdk_52_15_4 ?_
  refine Wp.iushr (z := 0) (by decide) d_jdk_52_15_6 ?_
  refine Wp.i2b (z := 0) (by decide) d_jdk_52_15_7 ?_
  refine Wp.iretN (z := 0) (by simp) rfl (by decide) d_jdk_52_15_8 (by decide) (by decide) ?_
  exact ⟨rfl, rfl⟩
theorem d_jdk_42_149_0 : Dc jdk_42_method_149_code 0 (.aload_n 0) 1 1 := ⟨by decide +kernel, rfl⟩
theorem d_jdk_42_149_1 : Dc jdk_42_method_149_code 1 (.invokespecial 1) 3 4 := ⟨by decide +kernel, rfl⟩
theorem w_19 {W : Wd} (hw : Ws W) : Wok W (Jvm.Cond.methodLink "java/lang/String" (1 : Nat) ({ cls := "java/lang/Object", name := "<init>", desc := "()V" } : Jvm.MethodName)) := hw.1 _ (List.mem_of_getElem? (i := 19) rfl)
theorem w_20 {W : Wd} (hw : Ws W) : Wok W (Jvm.Cond.instanceMethod ({ cls := "java/lang/Object", name := "<init>", desc := "()V" } : Jvm.MethodName)) := hw.1 _ (List.mem_of_getElem? (i := 20) rfl)
theorem w_21 {W : Wd} (hw : Ws W) : Wok W (Jvm.Cond.code ({ cls := "java/lang/Object", name := "<init>", desc := "()V" } : Jvm.MethodName) object_method_1_code (1 : Nat) (Option.none : Option Jvm.ClassFile.FieldType)) := hw.1 _ (List.mem_of_getElem? (i := 21) rfl)
theorem d_jdk_42_149_4 : Dc jdk_42_method_149_code 4 (.iload_n 3) 1 5 := ⟨by decide +kernel, rfl⟩
theorem d_jdk_42_149_5 : Bj jdk_42_method_149_code 5 (.ifCond .ne 22) 22 8 27 := ⟨by decide +kernel, rfl, by decide, rfl⟩
theorem d_jdk_42_149_27 : Dc jdk_42_method_149_code 27 (.getstatic 38) 3 30 := ⟨by decide +kernel, rfl⟩
theorem w_22 {W : Wd} (hw : Ws W) : Wok W (Jvm.Cond.fieldLink "java/lang/String" (38 : Nat) "java/lang/String" "COMPACT_STRINGS" "Z") := hw.1 _ (List.mem_of_getElem? (i := 22) rfl)
theorem d_jdk_42_149_30 : Bj jdk_42_method_149_code 30 (.ifCond .eq 28) 28 33 58 := ⟨by decide +kernel, rfl, by decide, rfl⟩
theorem d_jdk_42_149_33 : Dc jdk_42_method_149_code 33 (.aload_n 1) 1 34 := ⟨by decide +kernel, rfl⟩
theorem d_jdk_42_149_34 : Dc jdk_42_method_149_code 34 (.iload_n 2) 1 35 := ⟨by decide +kernel, rfl⟩
theorem d_jdk_42_149_35 : Dc jdk_42_method_149_code 35 (.iload_n 3) 1 36 := ⟨by decide +kernel, rfl⟩
theorem d_jdk_42_149_36 : Dc jdk_42_method_149_code 36 (.invokestatic 177) 3 39 := ⟨by decide +kernel, rfl⟩
theorem w_26 {W : Wd} (hw : Ws W) : Wok W (Jvm.Cond.code ({ cls := "java/lang/StringUTF16", name := "compress", desc := "([CII)[B" } : Jvm.MethodName) jdk_52_method_16_code (6 : Nat) (Option.some (Jvm.ClassFile.FieldType.array Jvm.ClassFile.FieldType.byte))) := hw.1 _ (List.mem_of_getElem? (i := 26) rfl)
theorem pd___CII__B : parseMethodDescriptor "([CII)[B" = some ⟨[(.array .char), .int, .int], some (.array .byte)⟩ := by decide +kernel
theorem mk_M_cp1 {W : Wd} (hw : Ws W) (n : Nat) : Mk W (M_cp1 n) ⟨"java/lang/StringUTF16", "compress", "([CII)[B"⟩ 3 := Mk.of nm_M_cp1 rfl rfl rfl (w_26 hw) (w_25 hw) (mkLen pd___CII__B rfl) (by decide)
theorem w_23 {W : Wd} (hw : Ws W) : Wok W (Jvm.Cond.methodLink "java/lang/String" (177 : Nat) ({ cls := "java/lang/StringUTF16", name := "compress", desc := "([CII)[B" } : Jvm.MethodName)) := hw.1 _ (List.mem_of_getElem? (i := 23) rfl)
theorem w_24 {W : Wd} (hw : Ws W) : Wok W (Jvm.Cond.static ({ cls := "java/lang/StringUTF16", name := "compress", desc := "([CII)[B" } : Jvm.MethodName)) := hw.1 _ (List.mem_of_getElem? (i := 24) rfl)
theorem d_jdk_42_149_39 : Dc jdk_42_method_149_code 39 (.astore 5) 2 41 := ⟨by decide +kernel, rfl⟩
theorem d_jdk_42_149_41 : Dc jdk_42_method_149_code 41 (.aload_n 0) 1 42 := ⟨by decide +kernel, rfl⟩
theorem d_jdk_42_149_42 : Dc jdk_42_method_149_code 42 (.aload 5) 2 44 := ⟨by decide +kernel, rfl⟩
theorem d_jdk_42_149_44 : Dc jdk_42_method_149_code 44 (.iload_n 3) 1 45 := ⟨by decide +kernel, rfl⟩
theorem d_jdk_42_149_45 : Dc jdk_42_method_149_code 45 (.invokestatic 47) 3 48 := ⟨by decide +kernel, rfl⟩
theorem w_33 {W : Wd} (hw : Ws W) : Wok W (Jvm.Cond.code ({ cls := "java/lang/StringUTF16", name := "coderFromArrayLen", desc := "([BI)B" } : Jvm.MethodName) jdk_52_method_15_code (2 : Nat) (Option.some Jvm.ClassFile.FieldType.byte)) := hw.1 _ (List.mem_of_getElem? (i := 33) rfl)
theorem pd___BI_B : parseMethodDescriptor "([BI)B" = some ⟨[(.array .byte), .int], some .byte⟩ := by decide +kernel
theorem mk_M_cfl {W : Wd} (hw : Ws W) : Mk W M_cfl ⟨"java/lang/StringUTF16", "coderFromArrayLen", "([BI)B"⟩ 2 := Mk.of nm_M_cfl rfl rfl rfl (w_33 hw) (w_25 hw) (mkLen pd___BI_B rfl) (by decide)
theorem w_31 {W : Wd} (hw : Ws W) : Wok W (Jvm.Cond.methodLink "java/lang/String" (47 : Nat) ({ cls := "java/lang/StringUTF16", name := "coderFromArrayLen", desc := "([BI)B" } : Jvm.MethodName)) := hw.1 _ (List.mem_of_getElem? (i := 31) rfl)
theorem w_32 {W : Wd} (hw : Ws W) : Wok W (Jvm.Cond.static ({ cls := "java/lang/StringUTF16", name := "coderFromArrayLen", desc := "([BI)B" } : Jvm.MethodName)) := hw.1 _ (List.mem_of_getElem? (i := 32) rfl)
theorem d_jdk_42_149_48 : Dc jdk_42_method_149_code 48 (.putfield 15) 3 51 := ⟨by decide +kernel, rfl⟩
theorem w_34 {W : Wd} (hw : Ws W) : Wok W (Jvm.Cond.fieldLink "java/lang/String" (15 : Nat) "java/lang/String" "coder" "B") := hw.1 _ (List.mem_of_getElem? (i := 34) rfl)
theorem d_jdk_42_149_51 : Dc jdk_42_method_149_code 51 (.aload_n 0) 1 52 := ⟨by decide +kernel, rfl⟩
theorem d_jdk_42_149_52 : Dc jdk_42_method_149_code 52 (.aload 5) 2 54 := ⟨by decide +kernel, rfl⟩
theorem d_jdk_42_149_54 : Dc jdk_42_method_149_code 54 (.putfield 9) 3 57 := ⟨by decide +kernel, rfl⟩
theorem w_36 {W : Wd} (hw : Ws W) : Wok W (Jvm.Cond.fieldLink "java/lang/String" (9 : Nat) "java/lang/String" "value" "[B") := hw.1 _ (List.mem_of_getElem? (i := 36) rfl)
theorem d_jdk_42_149_57 : Dc jdk_42_method_149_code 57 (.return_) 1 58 := ⟨by decide +kernel, rfl⟩
theorem pp_2_0_1 : [2, 0, 1].isPerm (List.range 3) = true := by decide +kernel
def M_si2 (n : Nat) : Mt := (⟨"java/lang/String", "<init>", "([CIILjava/lang/Void;)V"⟩, jdk_42_method_149_code, 6, none, ⟨2, 1, n, 35⟩)
theorem nm_M_si2 {n : Nat} : mN (M_si2 n) = ⟨"java/lang/String", "<init>", "([CIILjava/lang/Void;)V"⟩ := by delta mN M_si2; rfl
theorem pf_java_lang_String : plainName "java/lang/String" = true := by first | (simp [plainName, overriddenIn]; done) | decide +kernel
set_option maxRecDepth 65536 in
set_option maxHeartbeats 40000000 in
theorem rm_si2 {W : Wd} (hw : Ws W) (s : Addr) (a : Addr) (r : Bool) (ex : Bool) (ov : Bool) (cs : List Int32) (F : List En) (hp : ∀ c ∈ cs, ¬ c < 0 ∧ ¬ 255 < c) (hn : cs.length ≤ 4000) (h1 : 0 < cs.length) : Ct W (M_si2 cs.length) [.ref s, .ref a, .int 0, .int (ix cs.length), .null] ((oStr true s (.null) (.int 0)) :: (a, r, .inr (.char, ex, ov, csL cs)) :: F) (fun v H' => ∃ b, v = none ∧ H' = ((oStr true s (.ref b) (.int 0)) :: (eB b (csL (cs.map by8))) :: (a, r, .inr (.char, ex, ov, csL cs)) :: F)) := by
  refine Ct.intro (L0 := [.val (.ref s), .val (.ref a), .val (.int 0), .val (.int (ix cs.length)), .val (.null), .unset]) (plainFor_of_name pf_java_lang_String) rfl (fun K => ?_)
  refine Wp.aloadN rfl rfl d_jdk_42_149_0 ?_
  refine Wp.initO nm_M_si2 (w_19 hw) (w_20 hw) (w_21 hw) (Wn := 0) rfl rfl (by simp [mR, M_si2, M_cp1, M_cfl]) (by simp [mR, M_si2, M_cp1, M_cfl]) d_jdk_42_149_1 ?_
  refine Wp.iloadN rfl d_jdk_42_149_4 ?_
  refine Wp.ifT (feq (fun q => by have := ix_eq (j := 0) (by omega) (by decide) q; omega)).2 d_jdk_42_149_5 ?_
  obtain ⟨cs1, Fcs1, ncs1⟩ := st_compact hw
  refine Wp.getS nm_M_si2 (host := "") (Or.inl (w_22 hw)) Via.refl Fcs1 d_jdk_42_149_27 ?_
  refine Wp.ifF (feq ncs1).1 d_jdk_42_149_30 ?_
  refine Wp.aloadN rfl rfl d_jdk_42_149_33 ?_
  refine Wp.iloadN rfl d_jdk_42_149_34 ?_
  refine Wp.iloadN rfl d_jdk_42_149_35 ?_
  refine Wp.perm [1, 0] 2 pp_1_0 (H' := ((a, r, .inr (.char, ex, ov, csL cs)) :: (oStr true s (.null) (.int 0)) :: F)) rfl ?_
  refine Wp.callS nm_M_si2 (M' := M_cp1 cs.length) (fun _ => rm_cp1 hw.set a r ex ov cs _ hp hn) (mk_M_cp1 hw cs.length) (w_23 hw) (w_24 hw) rfl rfl (Wn := 0) rfl rfl (by simp [Fits, mR, mL, M_si2, M_cp1, M_cfl]) d_jdk_42_149_36 ?_
  rintro _ _ ⟨b_2, rfl, rfl⟩
  refine Wp.astore (L' := [.val (.ref s), .val (.ref a), .val (.int 0), .val (.int (ix cs.length)), .val (.null), .val (.ref b_2)]) rfl rfl d_jdk_42_149_39 ?_
  refine Wp.aloadN rfl rfl d_jdk_42_149_41 ?_
  refine Wp.aload rfl rfl d_jdk_42_149_42 ?_
  refine Wp.iloadN rfl d_jdk_42_149_44 ?_
  refine Wp.callS nm_M_si2 (fun _ => rm_cfl hw.set b_2 true true false (cs.map by8) cs.length _ (by simp)) (mk_M_cfl hw) (w_31 hw) (w_32 hw) rfl rfl (Wn := 1) rfl rfl (by simp [Fits, mR, mL, M_si2, M_cp1, M_cfl]) d_jdk_42_149_45 ?_
  rintro _ _ ⟨rfl, rfl⟩
  refine Wp.putF nm_M_si2 (host := "") (Or.inl (w_34 hw)) Via.refl 2 1 rfl rfl (Or.inr ⟨(w_35 hw), rfl, rfl⟩) (w_7 hw) (ty := .byte) (by decide) rfl rfl d_jdk_42_149_48 (H' := ((eB b_2 (csL (cs.map by8))) :: (a, r, .inr (.char, ex, ov, csL cs)) :: (oStr true s (.null) (.int 0)) :: F)) rfl ?_
  refine Wp.aloadN rfl rfl d_jdk_42_149_51 ?_
  refine Wp.aload rfl rfl d_jdk_42_149_52 ?_
  refine Wp.putF nm_M_si2 (host := "") (Or.inl (w_36 hw)) Via.refl 2 0 rfl rfl (Or.inr ⟨(w_37 hw), rfl, rfl⟩) (w_7 hw) (ty := (.array .byte)) (by decide) rfl rfl d_jdk_42_149_54 (H' := ((eB b_2 (csL (cs.map by8))) :: (a, r, .inr (.char, ex, ov, csL cs)) :: (oStr true s (.ref b_2) (.int 0)) :: F)) rfl ?_
  refine Wp.perm [2, 0, 1] 3 pp_2_0_1 (H' := ((oStr true s (.ref b_2) (.int 0)) :: (eB b_2 (csL (cs.map by8))) :: (a, r, .inr (.char, ex, ov, csL cs)) :: F)) rfl ?_
  refine Wp.ret rfl d_jdk_42_149_57 (by simp [mR, M_si2, M_cp1, M_cfl]) (by simp [mR, M_si2, M_cp1, M_cfl]) ?_
  exact ⟨b_2, rfl, rfl⟩
theorem d_jdk_42_3_0 : Dc jdk_42_method_3_code 0 (.aload_n 0) 1 1 := ⟨by decide +kernel, rfl⟩
theorem d_jdk_42_3_1 : Dc jdk_42_method_3_code 1 (.aload_n 1) 1 2 := ⟨by decide +kernel, rfl⟩
theorem d_jdk_42_3_2 : Dc jdk_42_method_3_code 2 (.iconst 0) 1 3 := ⟨by decide +kernel, rfl⟩
theorem d_jdk_42_3_3 : Dc jdk_42_method_3_code 3 (.aload_n 1) 1 4 := ⟨by decide +kernel, rfl⟩
theorem d_jdk_42_3_4 : Dc jdk_42_method_3_code 4 (.arraylength) 1 5 := ⟨by decide +kernel, rfl⟩
theorem d_jdk_42_3_5 : Dc jdk_42_method_3_code 5 (.aconst_null) 1 6 := ⟨by decide +kernel, rfl⟩
theorem d_jdk_42_3_6 : Dc jdk_42_method_3_code 6 (.invokespecial 27) 3 9 := ⟨by decide +kernel, rfl⟩
theorem w_18 {W : Wd} (hw : Ws W) : Wok W (Jvm.Cond.code ({ cls := "java/lang/String", name := "<init>", desc := "([CIILjava/lang/Void;)V" } : Jvm.MethodName) jdk_42_method_149_code (6 : Nat) (Option.none : Option Jvm.ClassFile.FieldType)) := hw.1 _ (List.mem_of_getElem? (i := 18) rfl)
theorem pd___CIILjava_lang_Void__V : parseMethodDescriptor "([CIILjava/lang/Void;)V" = some ⟨[(.array .char), .int, .int, (.object "java/lang/Void")], none⟩ := by decide +kernel
theorem mk_M_si2 {W : Wd} (hw : Ws W) (n : Nat) : Mk W (M_si2 n) ⟨"java/lang/String", "<init>", "([CIILjava/lang/Void;)V"⟩ 4 := Mk.of nm_M_si2 rfl rfl rfl (w_18 hw) (w_8 hw) (mkLen pd___CIILjava_lang_Void__V rfl) (by decide)
theorem w_15 {W : Wd} (hw : Ws W) : Wok W (Jvm.Cond.methodLink "java/lang/String" (27 : Nat) ({ cls := "java/lang/String", name := "<init>", desc := "([CIILjava/lang/Void;)V" } : Jvm.MethodName)) := hw.1 _ (List.mem_of_getElem? (i := 15) rfl)
theorem w_16 {W : Wd} (hw : Ws W) : Wok W (Jvm.Cond.instanceMethod ({ cls := "java/lang/String", name := "<init>", desc := "([CIILjava/lang/Void;)V" } : Jvm.MethodName)) := hw.1 _ (List.mem_of_getElem? (i := 16) rfl)
theorem d_jdk_42_3_9 : Dc jdk_42_method_3_code 9 (.return_) 1 10 := ⟨by decide +kernel, rfl⟩
def M_si (n : Nat) : Mt := (⟨"java/lang/String", "<init>", "([C)V"⟩, jdk_42_method_3_code, 2, none, ⟨3, 1, n, 52⟩)
theorem nm_M_si {n : Nat} : mN (M_si n) = ⟨"java/lang/String", "<init>", "([C)V"⟩ := by delta mN M_si; rfl
set_option maxRecDepth 65536 in
set_option maxHeartbeats 40000000 in
theorem rm_si {W : Wd} (hw : Ws W) (s : Addr) (a : Addr) (r : Bool) (ex : Bool) (ov : Bool) (cs : List Int32) (F : List En) (hp : ∀ c ∈ cs, ¬ c < 0 ∧ ¬ 255 < c) (hn : cs.length ≤ 4000) (h1 : 0 < cs.length) : Ct W (M_si cs.length) [.ref s, .ref a] ((oStr true s (.null) (.int 0)) :: (a, r, .inr (.char, ex, ov, csL cs)) :: F) (fun v H' => ∃ b, v = none ∧ H' = ((oStr true s (.ref b) (.int 0)) :: (eB b (csL (cs.map by8))) :: (a, r, .inr (.char, ex, ov, csL cs)) :: F)) := by
  refine Ct.intro (L0 := [.val (.ref s), .val (.ref a)]) (plainFor_of_name pf_java_lang_String) rfl (fun K => ?_)
  refine Wp.aloadN rfl rfl d_jdk_42_3_0 ?_
  refine Wp.aloadN rfl rfl d_jdk_42_3_1 ?_
  refine Wp.iconst lc_0 d_jdk_42_3_2 ?_
  refine Wp.aloadN rfl rfl d_jdk_42_3_3 ?_
  refine Wp.alen (z := (ix cs.length)) 1 rfl (congrArg Nat.toInt32 (csL_len _)) d_jdk_42_3_4 ?_
  refine Wp.aconstNull d_jdk_42_3_5 ?_
  refine Wp.callC nm_M_si (M' := M_si2 cs.length) (fun _ => rm_si2 hw.set s a r ex ov cs _ hp hn h1) (mk_M_si2 hw cs.length) (w_15 hw) (w_16 hw) rfl rfl rfl rfl (Wn := 0) rfl rfl (by simp [Fits, mR, mL, M_si, M_si2]) d_jdk_42_3_6 ?_
  rintro _ _ ⟨b_1, rfl, rfl⟩
  refine Wp.ret rfl d_jdk_42_3_9 (by simp [mR, M_si, M_si2]) (by simp [mR, M_si, M_si2]) ?_
  exact ⟨b_1, rfl, rfl⟩
def M_le : Mt := (⟨"java/lang/StringLatin1", "equals", "([B[B)Z"⟩, jdk_43_method_13_code, 3, some .boolean, ⟨0, 0, 0, 0⟩)
theorem nm_M_le : mN M_le = ⟨"java/lang/StringLatin1", "equals", "([B[B)Z"⟩ := by delta mN M_le; rfl
theorem d_jdk_43_13_9 : Dc jdk_43_method_13_code 9 (.iload_n 2) 1 10 := ⟨by decide +kernel, rfl⟩
theorem d_jdk_43_13_10 : Dc jdk_43_method_13_code 10 (.aload_n 0) 1 11 := ⟨by decide +kernel, rfl⟩
theorem d_jdk_43_13_11 : Dc jdk_43_method_13_code 11 (.arraylength) 1 12 := ⟨by decide +kernel, rfl⟩
theorem d_jdk_43_13_12 : Bj jdk_43_method_13_code 12 (.if_icmp .ge 20) 20 15 32 := ⟨by decide +kernel, rfl, by decide, rfl⟩
theorem d_jdk_43_13_15 : Dc jdk_43_method_13_code 15 (.aload_n 0) 1 16 := ⟨by decide +kernel, rfl⟩
theorem d_jdk_43_13_16 : Dc jdk_43_method_13_code 16 (.iload_n 2) 1 17 := ⟨by decide +kernel, rfl⟩
theorem d_jdk_43_13_17 : Dc jdk_43_method_13_code 17 (.baload) 1 18 := ⟨by decide +kernel, rfl⟩
theorem d_jdk_43_13_18 : Dc jdk_43_method_13_code 18 (.aload_n 1) 1 19 := ⟨by decide +kernel, rfl⟩
theorem d_jdk_43_13_19 : Dc jdk_43_method_13_code 19 (.iload_n 2) 1 20 := ⟨by decide +kernel, rfl⟩
theorem d_jdk_43_13_20 : Dc jdk_43_method_13_code 20 (.baload) 1 21 := ⟨by decide +kernel, rfl⟩
theorem d_jdk_43_13_21 : Bj jdk_43_method_13_code 21 (.if_icmp .eq 5) 5 24 26 := ⟨by decide +kernel, rfl, by decide, rfl⟩
theorem d_jdk_43_13_26 : Dc jdk_43_method_13_code 26 (.iinc 2 1) 3 29 := ⟨by decide +kernel, rfl⟩
theorem d_jdk_43_13_29 : Bj jdk_43_method_13_code 29 (.goto (-20)) (-20) 32 9 := ⟨by decide +kernel, rfl, by decide, rfl⟩
theorem d_jdk_43_13_24 : Dc jdk_43_method_13_code 24 (.iconst 0) 1 25 := ⟨by decide +kernel, rfl⟩
theorem d_jdk_43_13_25 : Dc jdk_43_method_13_code 25 (.ireturn) 1 26 := ⟨by decide +kernel, rfl⟩
theorem d_jdk_43_13_32 : Dc jdk_43_method_13_code 32 (.iconst 1) 1 33 := ⟨by decide +kernel, rfl⟩
theorem lc_1 : Int32.ofInt 1 = 1 := by decide
theorem d_jdk_43_13_33 : Dc jdk_43_method_13_code 33 (.ireturn) 1 34 := ⟨by decide +kernel, rfl⟩
set_option maxRecDepth 65536 in
set_option maxHeartbeats 40000000 in
theorem lp_le {W : Wd} {K : Kx} (hw : Ws W) (a : Addr) (b : Addr) (r1 : Bool) (ex1 : Bool) (ov1 : Bool) (r2 : Bool) (ex2 : Bool) (ov2 : Bool) (xs : List Int32) (ys : List Int32) (F : List En) (hn : xs.length < 2 ^ 31) (hl : xs.length = ys.length) (Q : Option Value → List En → Prop) (hQ : ∀ z, z = eqI xs ys → Q (some (.int z)) ((a, r1, .inr (.byte, ex1, ov1, csL xs)) :: (b, r2, .inr (.byte, ex2, ov2, csL ys)) :: F)) :
    ∀ (k i : Nat), i + k = xs.length → xs.take i = ys.take i → Wp W K M_le Q ((a, r1, .inr (.byte, ex1, ov1, csL xs)) :: (b, r2, .inr (.byte, ex2, ov2, csL ys)) :: F) 0 0 9 [.val (.ref a), .val (.ref b), .val (.int (ix i))] []
  | 0, i, hi, ht => by
    have hi1 : i < 2 ^ 31 := by omega
    refine Wp.iloadN rfl d_jdk_43_13_9 ?_
    refine Wp.aloadN rfl rfl d_jdk_43_13_10 ?_
    refine Wp.alen (z := (ix xs.length)) 0 rfl (congrArg Nat.toInt32 (csL_len _)) d_jdk_43_13_11 ?_
    refine Wp.icT (flt (fun q => by rw [ix_lt hi1 hn] at q; omega)).2.1 d_jdk_43_13_12 ?_
    refine Wp.iconst lc_1 d_jdk_43_13_32 ?_
    refine Wp.iretN (z := 1) (by simp) rfl (by decide) d_jdk_43_13_33 (by decide) (by decide) ?_
    exact hQ _ (eqI_eq (take_all ht (by omega) hl)).symm
  | k + 1, i, hi, ht => by
    have hi1 : i < 2 ^ 31 := by omega
    have hi2 : i < xs.length := by omega
    obtain ⟨x, hx⟩ : ∃ x, xs[i]? = some x := ⟨_, List.getElem?_eq_getElem hi2⟩
    obtain ⟨y, hy⟩ : ∃ y, ys[i]? = some y := ⟨_, List.getElem?_eq_getElem (by omega)⟩
    refine Wp.iloadN rfl d_jdk_43_13_9 ?_
    refine Wp.aloadN rfl rfl d_jdk_43_13_10 ?_
    refine Wp.alen (z := (ix xs.length)) 0 rfl (congrArg Nat.toInt32 (csL_len _)) d_jdk_43_13_11 ?_
    refine Wp.icF (tlt ((ix_lt hi1 hn).mpr hi2)).2.1 d_jdk_43_13_12 ?_
    refine Wp.aloadN rfl rfl d_jdk_43_13_15 ?_
    refine Wp.iloadN rfl d_jdk_43_13_16 ?_
    refine Wp.baload 0 i rfl (ix_nn hi1) (ix_nat hi1) (csL_get hx) d_jdk_43_13_17 ?_
    refine Wp.aloadN rfl rfl d_jdk_43_13_18 ?_
    refine Wp.iloadN rfl d_jdk_43_13_19 ?_
    refine Wp.baload 1 i rfl (ix_nn hi1) (ix_nat hi1) (csL_get hy) d_jdk_43_13_20 ?_
    by_cases b21_1 : x = y
    · refine Wp.icT (teq b21_1).1 d_jdk_43_13_21 ?_
      refine Wp.iinc (z := (ix (i + 1))) (L' := [.val (.ref a), .val (.ref b), .val (.int (ix (i + 1)))]) rfl (ix_inc i) rfl d_jdk_43_13_26 ?_
      refine Wp.goto d_jdk_43_13_29 ?_
      exact lp_le hw a b r1 ex1 ov1 r2 ex2 ov2 xs ys F hn hl Q hQ k (i + 1) (by omega) (take_snoc ht hx hy b21_1)
    · refine Wp.icF (feq b21_1).1 d_jdk_43_13_21 ?_
      refine Wp.iconst lc_0 d_jdk_43_13_24 ?_
      refine Wp.iretN (z := 0) (by simp) rfl (by decide) d_jdk_43_13_25 (by decide) (by decide) ?_
      exact hQ _ (eqI_ne (get_ne hx hy b21_1)).symm
theorem d_jdk_43_13_0 : Dc jdk_43_method_13_code 0 (.aload_n 0) 1 1 := ⟨by decide +kernel, rfl⟩
theorem d_jdk_43_13_1 : Dc jdk_43_method_13_code 1 (.arraylength) 1 2 := ⟨by decide +kernel, rfl⟩
theorem d_jdk_43_13_2 : Dc jdk_43_method_13_code 2 (.aload_n 1) 1 3 := ⟨by decide +kernel, rfl⟩
theorem d_jdk_43_13_3 : Dc jdk_43_method_13_code 3 (.arraylength) 1 4 := ⟨by decide +kernel, rfl⟩
theorem d_jdk_43_13_4 : Bj jdk_43_method_13_code 4 (.if_icmp .ne 30) 30 7 34 := ⟨by decide +kernel, rfl, by decide, rfl⟩
theorem d_jdk_43_13_7 : Dc jdk_43_method_13_code 7 (.iconst 0) 1 8 := ⟨by decide +kernel, rfl⟩
theorem d_jdk_43_13_8 : Dc jdk_43_method_13_code 8 (.istore_n 2) 1 9 := ⟨by decide +kernel, rfl⟩
theorem d_jdk_43_13_34 : Dc jdk_43_method_13_code 34 (.iconst 0) 1 35 := ⟨by decide +kernel, rfl⟩
theorem d_jdk_43_13_35 : Dc jdk_43_method_13_code 35 (.ireturn) 1 36 := ⟨by decide +kernel, rfl⟩
theorem pf_java_lang_StringLatin1 : plainName "java/lang/StringLatin1" = true := by first | (simp [plainName, overriddenIn]; done) | decide +kernel
set_option maxRecDepth 65536 in
set_option maxHeartbeats 40000000 in
theorem rm_le {W : Wd} (hw : Ws W) (a : Addr) (b : Addr) (r1 : Bool) (ex1 : Bool) (ov1 : Bool) (r2 : Bool) (ex2 : Bool) (ov2 : Bool) (xs : List Int32) (ys : List Int32) (F : List En) (hn : xs.length < 2 ^ 31) (hn2 : ys.length < 2 ^ 31) : Ct W M_le [.ref a, .ref b] ((a, r1, .inr (.byte, ex1, ov1, csL xs)) :: (b, r2, .inr (.byte, ex2, ov2, csL ys)) :: F) (fun v H' => v = some (.int (eqI xs ys)) ∧ H' = ((a, r1, .inr (.byte, ex1, ov1, csL xs)) :: (b, r2, .inr (.byte, ex2, ov2, csL ys)) :: F)) := by
  refine Ct.intro (L0 := [.val (.ref a), .val (.ref b), .unset]) (plainFor_of_name pf_java_lang_StringLatin1) rfl (fun K => ?_)
  by_cases hl : xs.length = ys.length
  · refine Wp.aloadN rfl rfl d_jdk_43_13_0 ?_
    refine Wp.alen (z := (ix xs.length)) 0 rfl (congrArg Nat.toInt32 (csL_len _)) d_jdk_43_13_1 ?_
    refine Wp.aloadN rfl rfl d_jdk_43_13_2 ?_
    refine Wp.alen (z := (ix ys.length)) 1 rfl (congrArg Nat.toInt32 (csL_len _)) d_jdk_43_13_3 ?_
    refine Wp.icF (teq (congrArg ix hl)).2 d_jdk_43_13_4 ?_
    refine Wp.iconst lc_0 d_jdk_43_13_7 ?_
    refine Wp.istoreN (L' := [.val (.ref a), .val (.ref b), .val (.int 0)]) rfl d_jdk_43_13_8 ?_
    exact lp_le hw a b r1 ex1 ov1 r2 ex2 ov2 xs ys F hn hl (fun v H' => v = some (.int (eqI xs ys)) ∧ H' = ((a, r1, .inr (.byte, ex1, ov1, csL xs)) :: (b, r2, .inr (.byte, ex2, ov2, csL ys)) :: F)) (fun z e => ⟨congrArg (fun z => some (Value.int z)) e, rfl⟩) xs.length 0 (by omega) rfl
  · refine Wp.aloadN rfl rfl d_jdk_43_13_0 ?_
    refine Wp.alen (z := (ix xs.length)) 0 rfl (congrArg Nat.toInt32 (csL_len _)) d_jdk_43_13_1 ?_
    refine Wp.aloadN rfl rfl d_jdk_43_13_2 ?_
    refine Wp.alen (z := (ix ys.length)) 1 rfl (congrArg Nat.toInt32 (csL_len _)) d_jdk_43_13_3 ?_
    refine Wp.icT (feq (fun q => hl (ix_eq hn hn2 q))).2 d_jdk_43_13_4 ?_
    refine Wp.iconst lc_0 d_jdk_43_13_34 ?_
    refine Wp.iretN (z := 0) (by simp) rfl (by decide) d_jdk_43_13_35 (by decide) (by decide) ?_
    exact ⟨congrArg (fun z => some (Value.int z)) (eqI_ne (fun q => hl (congrArg List.length q))).symm, rfl⟩
theorem d_jdk_42_66_0 : Dc jdk_42_method_66_code 0 (.aload_n 0) 1 1 := ⟨by decide +kernel, rfl⟩
theorem d_jdk_42_66_1 : Dc jdk_42_method_66_code 1 (.aload_n 1) 1 2 := ⟨by decide +kernel, rfl⟩
theorem d_jdk_42_66_2 : Bj jdk_42_method_66_code 2 (.if_acmp .ne 5) 5 5 7 := ⟨by decide +kernel, rfl, by decide, rfl⟩
theorem d_jdk_42_66_5 : Dc jdk_42_method_66_code 5 (.iconst 1) 1 6 := ⟨by decide +kernel, rfl⟩
theorem d_jdk_42_66_6 : Dc jdk_42_method_66_code 6 (.ireturn) 1 7 := ⟨by decide +kernel, rfl⟩
theorem d_jdk_42_66_7 : Dc jdk_42_method_66_code 7 (.aload_n 1) 1 8 := ⟨by decide +kernel, rfl⟩
theorem d_jdk_42_66_8 : Dc jdk_42_method_66_code 8 (.instanceof 10) 3 11 := ⟨by decide +kernel, rfl⟩
theorem w_45 {W : Wd} (hw : Ws W) : Wok W (Jvm.Cond.classLink "java/lang/String" (10 : Nat) "java/lang/String") := hw.1 _ (List.mem_of_getElem? (i := 45) rfl)
theorem d_jdk_42_66_11 : Bj jdk_42_method_66_code 11 (.ifCond .eq 43) 43 14 54 := ⟨by decide +kernel, rfl, by decide, rfl⟩
theorem d_jdk_42_66_14 : Dc jdk_42_method_66_code 14 (.aload_n 1) 1 15 := ⟨by decide +kernel, rfl⟩
theorem d_jdk_42_66_15 : Dc jdk_42_method_66_code 15 (.checkcast 10) 3 18 := ⟨by decide +kernel, rfl⟩
theorem d_jdk_42_66_18 : Dc jdk_42_method_66_code 18 (.astore_n 2) 1 19 := ⟨by decide +kernel, rfl⟩
theorem d_jdk_42_66_19 : Dc jdk_42_method_66_code 19 (.getstatic 38) 3 22 := ⟨by decide +kernel, rfl⟩
theorem d_jdk_42_66_22 : Bj jdk_42_method_66_code 22 (.ifCond .eq 14) 14 25 36 := ⟨by decide +kernel, rfl, by decide, rfl⟩
theorem d_jdk_42_66_25 : Dc jdk_42_method_66_code 25 (.aload_n 0) 1 26 := ⟨by decide +kernel, rfl⟩
theorem d_jdk_42_66_26 : Dc jdk_42_method_66_code 26 (.getfield 15) 3 29 := ⟨by decide +kernel, rfl⟩
theorem d_jdk_42_66_29 : Dc jdk_42_method_66_code 29 (.aload_n 2) 1 30 := ⟨by decide +kernel, rfl⟩
theorem d_jdk_42_66_30 : Dc jdk_42_method_66_code 30 (.getfield 15) 3 33 := ⟨by decide +kernel, rfl⟩
theorem d_jdk_42_66_33 : Bj jdk_42_method_66_code 33 (.if_icmp .ne 21) 21 36 54 := ⟨by decide +kernel, rfl, by decide, rfl⟩
theorem d_jdk_42_66_36 : Dc jdk_42_method_66_code 36 (.aload_n 0) 1 37 := ⟨by decide +kernel, rfl⟩
theorem d_jdk_42_66_37 : Dc jdk_42_method_66_code 37 (.getfield 9) 3 40 := ⟨by decide +kernel, rfl⟩
theorem d_jdk_42_66_40 : Dc jdk_42_method_66_code 40 (.aload_n 2) 1 41 := ⟨by decide +kernel, rfl⟩
theorem d_jdk_42_66_41 : Dc jdk_42_method_66_code 41 (.getfield 9) 3 44 := ⟨by decide +kernel, rfl⟩
theorem d_jdk_42_66_44 : Dc jdk_42_method_66_code 44 (.invokestatic 541) 3 47 := ⟨by decide +kernel, rfl⟩
theorem pp_1_3_0_2 : [1, 3, 0, 2].isPerm (List.range 4) = true := by decide +kernel
theorem w_152 {W : Wd} (hw : Ws W) : Wok W (Jvm.Cond.code ({ cls := "java/lang/StringLatin1", name := "equals", desc := "([B[B)Z" } : Jvm.MethodName) jdk_43_method_13_code (3 : Nat) (Option.some Jvm.ClassFile.FieldType.boolean)) := hw.1 _ (List.mem_of_getElem? (i := 152) rfl)
theorem w_43 {W : Wd} (hw : Ws W) : Wok W (Jvm.Cond.initialized "java/lang/StringLatin1") := hw.1 _ (List.mem_of_getElem? (i := 43) rfl)
theorem pd___B_B_Z : parseMethodDescriptor "([B[B)Z" = some ⟨[(.array .byte), (.array .byte)], some .boolean⟩ := by decide +kernel
theorem mk_M_le {W : Wd} (hw : Ws W) : Mk W M_le ⟨"java/lang/StringLatin1", "equals", "([B[B)Z"⟩ 2 := Mk.of nm_M_le rfl rfl rfl (w_152 hw) (w_43 hw) (mkLen pd___B_B_Z rfl) (by decide)
theorem w_150 {W : Wd} (hw : Ws W) : Wok W (Jvm.Cond.methodLink "java/lang/String" (541 : Nat) ({ cls := "java/lang/StringLatin1", name := "equals", desc := "([B[B)Z" } : Jvm.MethodName)) := hw.1 _ (List.mem_of_getElem? (i := 150) rfl)
theorem w_151 {W : Wd} (hw : Ws W) : Wok W (Jvm.Cond.static ({ cls := "java/lang/StringLatin1", name := "equals", desc := "([B[B)Z" } : Jvm.MethodName)) := hw.1 _ (List.mem_of_getElem? (i := 151) rfl)
theorem d_jdk_42_66_47 : Bj jdk_42_method_66_code 47 (.ifCond .eq 7) 7 50 54 := ⟨by decide +kernel, rfl, by decide, rfl⟩
theorem d_jdk_42_66_54 : Dc jdk_42_method_66_code 54 (.iconst 0) 1 55 := ⟨by decide +kernel, rfl⟩
theorem d_jdk_42_66_55 : Dc jdk_42_method_66_code 55 (.ireturn) 1 56 := ⟨by decide +kernel, rfl⟩
theorem pp_2_0_3_1 : [2, 0, 3, 1].isPerm (List.range 4) = true := by decide +kernel
theorem d_jdk_42_66_50 : Dc jdk_42_method_66_code 50 (.iconst 1) 1 51 := ⟨by decide +kernel, rfl⟩
theorem d_jdk_42_66_51 : Bj jdk_42_method_66_code 51 (.goto 4) 4 54 55 := ⟨by decide +kernel, rfl, by decide, rfl⟩
def M_se : Mt := (⟨"java/lang/String", "equals", "(Ljava/lang/Object;)Z"⟩, jdk_42_method_66_code, 3, some .boolean, ⟨1, 0, 0, 14⟩)
theorem nm_M_se : mN M_se = ⟨"java/lang/String", "equals", "(Ljava/lang/Object;)Z"⟩ := by delta mN M_se; rfl
set_option maxRecDepth 65536 in
set_option maxHeartbeats 40000000 in
theorem rm_se {W : Wd} (hw : Ws W) (s : Addr) (t : Addr) (q1 : Bool) (q2 : Bool) (a : Addr) (b : Addr) (r1 : Bool) (ex1 : Bool) (ov1 : Bool) (r2 : Bool) (ex2 : Bool) (ov2 : Bool) (xs : List Int32) (ys : List Int32) (F : List En) (hn : xs.length < 2 ^ 31) (hn2 : ys.length < 2 ^ 31) : Ct W M_se [.ref s, .ref t] ((oStr q1 s (.ref a) (.int 0)) :: (a, r1, .inr (.byte, ex1, ov1, csL xs)) :: (oStr q2 t (.ref b) (.int 0)) :: (b, r2, .inr (.byte, ex2, ov2, csL ys)) :: F) (fun v H' => v = some (.int (eqI xs ys)) ∧ H' = ((oStr q1 s (.ref a) (.int 0)) :: (a, r1, .inr (.byte, ex1, ov1, csL xs)) :: (oStr q2 t (.ref b) (.int 0)) :: (b, r2, .inr (.byte, ex2, ov2, csL ys)) :: F)) := by
  refine Ct.intro (L0 := [.val (.ref s), .val (.ref t), .unset]) (plainFor_of_name pf_java_lang_String) rfl (fun K => ?_)
  by_cases e0 : s = t
  · subst e0
    refine Wp.know (P := xs = ys) (fun h P => ?_) (fun e1 => ?_)
    · have o1 : ObOk _ _ _ _ _ := P.at (i := 0) rfl
      have o2 : ObOk _ _ _ _ _ := P.at (i := 2) rfl
      have e2 : Value.ref a = Value.ref b := Fld.uniq (C := "java/lang/String") (n := "value") (d := "[B") (o1.2.1 ("java/lang/String", "value", "[B", .ref a) (List.mem_of_getElem? (i := 0) rfl)) (o2.2.1 ("java/lang/String", "value", "[B", .ref b) (List.mem_of_getElem? (i := 0) rfl))
      cases e2
      have a1 : ArOk _ _ _ _ _ _ _ := P.at (i := 1) rfl
      have a2 : ArOk _ _ _ _ _ _ _ := P.at (i := 3) rfl
      exact csL_inj (ArOk.uniq a1 a2)
    · refine Wp.aloadN rfl rfl d_jdk_42_66_0 ?_
      refine Wp.aloadN rfl rfl d_jdk_42_66_1 ?_
      refine Wp.acF rfl rfl (acT_ne _) d_jdk_42_66_2 ?_
      refine Wp.iconst lc_1 d_jdk_42_66_5 ?_
      refine Wp.iretN (z := 1) (by simp) rfl (by decide) d_jdk_42_66_6 (by decide) (by decide) ?_
      exact ⟨congrArg (fun z => some (Value.int z)) (eqI_eq e1).symm, rfl⟩
  · refine Wp.aloadN rfl rfl d_jdk_42_66_0 ?_
    refine Wp.aloadN rfl rfl d_jdk_42_66_1 ?_
    refine Wp.acT rfl rfl (acF_ne e0) d_jdk_42_66_2 ?_
    refine Wp.aloadN rfl rfl d_jdk_42_66_7 ?_
    refine Wp.inst nm_M_se (w_45 hw) (fun _ P => insSelf P 2 rfl) d_jdk_42_66_8 ?_
    refine Wp.ifF (by decide) d_jdk_42_66_11 ?_
    refine Wp.aloadN rfl rfl d_jdk_42_66_14 ?_
    refine Wp.cast nm_M_se (w_45 hw) (fun _ P => insSelf P 2 rfl) d_jdk_42_66_15 ?_
    refine Wp.astoreN (L' := [.val (.ref s), .val (.ref t), .val (.ref t)]) rfl rfl d_jdk_42_66_18 ?_
    obtain ⟨cs1, Fcs1, ncs1⟩ := st_compact hw
    refine Wp.getS nm_M_se (host := "") (Or.inl (w_22 hw)) Via.refl Fcs1 d_jdk_42_66_19 ?_
    refine Wp.ifF (feq ncs1).1 d_jdk_42_66_22 ?_
    refine Wp.aloadN rfl rfl d_jdk_42_66_25 ?_
    refine Wp.getF nm_M_se (host := "") (Or.inl (w_34 hw)) Via.refl 0 1 rfl rfl d_jdk_42_66_26 ?_
    refine Wp.aloadN rfl rfl d_jdk_42_66_29 ?_
    refine Wp.getF nm_M_se (host := "") (Or.inl (w_34 hw)) Via.refl 2 1 rfl rfl d_jdk_42_66_30 ?_
    refine Wp.icF (by decide) d_jdk_42_66_33 ?_
    refine Wp.aloadN rfl rfl d_jdk_42_66_36 ?_
    refine Wp.getF nm_M_se (host := "") (Or.inl (w_36 hw)) Via.refl 0 0 rfl rfl d_jdk_42_66_37 ?_
    refine Wp.aloadN rfl rfl d_jdk_42_66_40 ?_
    refine Wp.getF nm_M_se (host := "") (Or.inl (w_36 hw)) Via.refl 2 0 rfl rfl d_jdk_42_66_41 ?_
    refine Wp.perm [1, 3, 0, 2] 4 pp_1_3_0_2 (H' := ((a, r1, .inr (.byte, ex1, ov1, csL xs)) :: (b, r2, .inr (.byte, ex2, ov2, csL ys)) :: (oStr q1 s (.ref a) (.int 0)) :: (oStr q2 t (.ref b) (.int 0)) :: F)) rfl ?_
    refine Wp.callS nm_M_se (fun _ => rm_le hw.set a b r1 ex1 ov1 r2 ex2 ov2 xs ys _ hn hn2) (mk_M_le hw) (w_150 hw) (w_151 hw) rfl rfl (Wn := 0) rfl rfl (by decide) d_jdk_42_66_44 ?_
    rintro _ _ ⟨rfl, rfl⟩
    by_cases b47_2 : (eqI xs ys) = 0
    · refine Wp.ifT (teq b47_2).1 d_jdk_42_66_47 ?_
      refine Wp.iconst lc_0 d_jdk_42_66_54 ?_
      refine Wp.perm [2, 0, 3, 1] 4 pp_2_0_3_1 (H' := ((oStr q1 s (.ref a) (.int 0)) :: (a, r1, .inr (.byte, ex1, ov1, csL xs)) :: (oStr q2 t (.ref b) (.int 0)) :: (b, r2, .inr (.byte, ex2, ov2, csL ys)) :: F)) rfl ?_
      refine Wp.iretN (z := 0) (by simp) rfl (by decide) d_jdk_42_66_55 (by decide) (by decide) ?_
      exact ⟨congrArg (fun z => some (Value.int z)) b47_2.symm, rfl⟩
    · refine Wp.ifF (feq b47_2).1 d_jdk_42_66_47 ?_
      refine Wp.iconst lc_1 d_jdk_42_66_50 ?_
      refine Wp.goto d_jdk_42_66_51 ?_
      refine Wp.perm [2, 0, 3, 1] 4 pp_2_0_3_1 (H' := ((oStr q1 s (.ref a) (.int 0)) :: (a, r1, .inr (.byte, ex1, ov1, csL xs)) :: (oStr q2 t (.ref b) (.int 0)) :: (b, r2, .inr (.byte, ex2, ov2, csL ys)) :: F)) rfl ?_
      refine Wp.iretN (z := 1) (by simp) rfl (by decide) d_jdk_42_66_55 (by decide) (by decide) ?_
      exact ⟨congrArg (fun z => some (Value.int z)) (eqI_one b47_2).symm, rfl⟩
theorem d_jdk_22_1_0 : Dc jdk_22_method_1_code 0 (.aload_n 0) 1 1 := ⟨by decide +kernel, rfl⟩
theorem d_jdk_22_1_1 : Dc jdk_22_method_1_code 1 (.invokespecial 1) 3 4 := ⟨by decide +kernel, rfl⟩
theorem w_70 {W : Wd} (hw : Ws W) : Wok W (Jvm.Cond.methodLink "java/util/AbstractCollection" (1 : Nat) ({ cls := "java/lang/Object", name := "<init>", desc := "()V" } : Jvm.MethodName)) := hw.1 _ (List.mem_of_getElem? (i := 70) rfl)
theorem d_jdk_22_1_4 : Dc jdk_22_method_1_code 4 (.return_) 1 5 := ⟨by decide +kernel, rfl⟩
def M_aci : Mt := (⟨"java/util/AbstractCollection", "<init>", "()V"⟩, jdk_22_method_1_code, 1, none, ⟨1, 0, 0, 12⟩)
theorem nm_M_aci : mN M_aci = ⟨"java/util/AbstractCollection", "<init>", "()V"⟩ := by delta mN M_aci; rfl
theorem pf_java_util_AbstractCollection : plainName "java/util/AbstractCollection" = true := by first | (simp [plainName, overriddenIn]; done) | decide +kernel
set_option maxRecDepth 65536 in
set_option maxHeartbeats 40000000 in
theorem rm_aci {W : Wd} (hw : Ws W) (l : Addr) (F : List En) : Ct W M_aci [.ref l] F (fun v H' => v = none ∧ H' = F) := by
  refine Ct.intro (L0 := [.val (.ref l)]) (plainFor_of_name pf_java_util_AbstractCollection) rfl (fun K => ?_)
  refine Wp.aloadN rfl rfl d_jdk_22_1_0 ?_
  refine Wp.initO nm_M_aci (w_70 hw) (w_20 hw) (w_21 hw) (Wn := 0) rfl rfl (by decide) (by decide) d_jdk_22_1_1 ?_
  refine Wp.ret rfl d_jdk_22_1_4 (by decide) (by decide) ?_
  exact ⟨rfl, rfl⟩
theorem d_jdk_39_1_0 : Dc jdk_39_method_1_code 0 (.aload_n 0) 1 1 := ⟨by decide +kernel, rfl⟩
theorem d_jdk_39_1_1 : Dc jdk_39_method_1_code 1 (.invokespecial 1) 3 4 := ⟨by decide +kernel, rfl⟩
theorem w_69 {W : Wd} (hw : Ws W) : Wok W (Jvm.Cond.code ({ cls := "java/util/AbstractCollection", name := "<init>", desc := "()V" } : Jvm.MethodName) jdk_22_method_1_code (1 : Nat) (Option.none : Option Jvm.ClassFile.FieldType)) := hw.1 _ (List.mem_of_getElem? (i := 69) rfl)
theorem w_68 {W : Wd} (hw : Ws W) : Wok W (Jvm.Cond.initialized "java/util/AbstractCollection") := hw.1 _ (List.mem_of_getElem? (i := 68) rfl)
theorem pd___V : parseMethodDescriptor "()V" = some ⟨[], none⟩ := by decide +kernel
theorem mk_M_aci {W : Wd} (hw : Ws W) : Mk W M_aci ⟨"java/util/AbstractCollection", "<init>", "()V"⟩ 0 := Mk.of nm_M_aci rfl rfl rfl (w_69 hw) (w_68 hw) (mkLen pd___V rfl) (by decide)
theorem w_64 {W : Wd} (hw : Ws W) : Wok W (Jvm.Cond.methodLink "java/util/AbstractList" (1 : Nat) ({ cls := "java/util/AbstractCollection", name := "<init>", desc := "()V" } : Jvm.MethodName)) := hw.1 _ (List.mem_of_getElem? (i := 64) rfl)
theorem w_65 {W : Wd} (hw : Ws W) : Wok W (Jvm.Cond.instanceMethod ({ cls := "java/util/AbstractCollection", name := "<init>", desc := "()V" } : Jvm.MethodName)) := hw.1 _ (List.mem_of_getElem? (i := 65) rfl)
theorem d_jdk_39_1_4 : Dc jdk_39_method_1_code 4 (.aload_n 0) 1 5 := ⟨by decide +kernel, rfl⟩
theorem d_jdk_39_1_5 : Dc jdk_39_method_1_code 5 (.iconst 0) 1 6 := ⟨by decide +kernel, rfl⟩
theorem d_jdk_39_1_6 : Dc jdk_39_method_1_code 6 (.putfield 7) 3 9 := ⟨by decide +kernel, rfl⟩
theorem w_72 {W : Wd} (hw : Ws W) : Wok W (Jvm.Cond.lays "java/util/ArrayList" "java/util/AbstractList" "modCount" "I") := hw.1 _ (List.mem_of_getElem? (i := 72) rfl)
theorem w_71 {W : Wd} (hw : Ws W) : Wok W (Jvm.Cond.fieldLink "java/util/AbstractList" (7 : Nat) "java/util/AbstractList" "modCount" "I") := hw.1 _ (List.mem_of_getElem? (i := 71) rfl)
theorem w_53 {W : Wd} (hw : Ws W) : Wok W (Jvm.Cond.instantiable "java/util/ArrayList" (3 : Nat)) := hw.1 _ (List.mem_of_getElem? (i := 53) rfl)
theorem d_jdk_39_1_9 : Dc jdk_39_method_1_code 9 (.return_) 1 10 := ⟨by decide +kernel, rfl⟩
def M_abi : Mt := (⟨"java/util/AbstractList", "<init>", "()V"⟩, jdk_39_method_1_code, 1, none, ⟨2, 0, 0, 24⟩)
theorem nm_M_abi : mN M_abi = ⟨"java/util/AbstractList", "<init>", "()V"⟩ := by delta mN M_abi; rfl
theorem pf_java_util_AbstractList : plainName "java/util/AbstractList" = true := by first | (simp [plainName, overriddenIn]; done) | decide +kernel
set_option maxRecDepth 65536 in
set_option maxHeartbeats 40000000 in
theorem rm_abi {W : Wd} (hw : Ws W) (l : Addr) (e : Value) (F : List En) : Ct W M_abi [.ref l] ((oAL true l (.int 0) (e) (.int 0)) :: F) (fun v H' => v = none ∧ H' = ((oAL true l (.int 0) (e) (.int 0)) :: F)) := by
  refine Ct.intro (L0 := [.val (.ref l)]) (plainFor_of_name pf_java_util_AbstractList) rfl (fun K => ?_)
  refine Wp.aloadN rfl rfl d_jdk_39_1_0 ?_
  refine Wp.callC nm_M_abi (fun _ => rm_aci hw.set l _ ) (mk_M_aci hw) (w_64 hw) (w_65 hw) rfl rfl rfl rfl (Wn := 0) rfl rfl (by decide) d_jdk_39_1_1 ?_
  rintro _ _ ⟨rfl, rfl⟩
  refine Wp.aloadN rfl rfl d_jdk_39_1_4 ?_
  refine Wp.iconst lc_0 d_jdk_39_1_5 ?_
  refine Wp.putF nm_M_abi (host := "") (Or.inl (w_71 hw)) Via.refl 0 0 rfl rfl (Or.inl (w_72 hw)) (w_53 hw) (ty := .int) (by decide) rfl rfl d_jdk_39_1_6 (H' := ((oAL true l (.int 0) (e) (.int 0)) :: F)) rfl ?_
  refine Wp.ret rfl d_jdk_39_1_9 (by decide) (by decide) ?_
  exact ⟨rfl, rfl⟩
theorem d_jdk_38_2_0 : Dc jdk_38_method_2_code 0 (.aload_n 0) 1 1 := ⟨by decide +kernel, rfl⟩
theorem d_jdk_38_2_1 : Dc jdk_38_method_2_code 1 (.invokespecial 1) 3 4 := ⟨by decide +kernel, rfl⟩
theorem w_63 {W : Wd} (hw : Ws W) : Wok W (Jvm.Cond.code ({ cls := "java/util/AbstractList", name := "<init>", desc := "()V" } : Jvm.MethodName) jdk_39_method_1_code (1 : Nat) (Option.none : Option Jvm.ClassFile.FieldType)) := hw.1 _ (List.mem_of_getElem? (i := 63) rfl)
theorem w_62 {W : Wd} (hw : Ws W) : Wok W (Jvm.Cond.initialized "java/util/AbstractList") := hw.1 _ (List.mem_of_getElem? (i := 62) rfl)
theorem mk_M_abi {W : Wd} (hw : Ws W) : Mk W M_abi ⟨"java/util/AbstractList", "<init>", "()V"⟩ 0 := Mk.of nm_M_abi rfl rfl rfl (w_63 hw) (w_62 hw) (mkLen pd___V rfl) (by decide)
theorem w_58 {W : Wd} (hw : Ws W) : Wok W (Jvm.Cond.methodLink "java/util/ArrayList" (1 : Nat) ({ cls := "java/util/AbstractList", name := "<init>", desc := "()V" } : Jvm.MethodName)) := hw.1 _ (List.mem_of_getElem? (i := 58) rfl)
theorem w_59 {W : Wd} (hw : Ws W) : Wok W (Jvm.Cond.instanceMethod ({ cls := "java/util/AbstractList", name := "<init>", desc := "()V" } : Jvm.MethodName)) := hw.1 _ (List.mem_of_getElem? (i := 59) rfl)
theorem d_jdk_38_2_4 : Dc jdk_38_method_2_code 4 (.aload_n 0) 1 5 := ⟨by decide +kernel, rfl⟩
theorem d_jdk_38_2_5 : Dc jdk_38_method_2_code 5 (.getstatic 39) 3 8 := ⟨by decide +kernel, rfl⟩
theorem w_73 {W : Wd} (hw : Ws W) : Wok W (Jvm.Cond.fieldLink "java/util/ArrayList" (39 : Nat) "java/util/ArrayList" "DEFAULTCAPACITY_EMPTY_ELEMENTDATA" "[Ljava/lang/Object;") := hw.1 _ (List.mem_of_getElem? (i := 73) rfl)
theorem d_jdk_38_2_8 : Dc jdk_38_method_2_code 8 (.putfield 9) 3 11 := ⟨by decide +kernel, rfl⟩
theorem w_75 {W : Wd} (hw : Ws W) : Wok W (Jvm.Cond.lays "java/util/ArrayList" "java/util/ArrayList" "elementData" "[Ljava/lang/Object;") := hw.1 _ (List.mem_of_getElem? (i := 75) rfl)
theorem w_74 {W : Wd} (hw : Ws W) : Wok W (Jvm.Cond.fieldLink "java/util/ArrayList" (9 : Nat) "java/util/ArrayList" "elementData" "[Ljava/lang/Object;") := hw.1 _ (List.mem_of_getElem? (i := 74) rfl)
theorem d_jdk_38_2_11 : Dc jdk_38_method_2_code 11 (.return_) 1 12 := ⟨by decide +kernel, rfl⟩
def M_ali : Mt := (⟨"java/util/ArrayList", "<init>", "()V"⟩, jdk_38_method_2_code, 1, none, ⟨3, 0, 0, 36⟩)
theorem nm_M_ali : mN M_ali = ⟨"java/util/ArrayList", "<init>", "()V"⟩ := by delta mN M_ali; rfl
theorem pf_java_util_ArrayList : plainName "java/util/ArrayList" = true := by first | (simp [plainName, overriddenIn]; done) | decide +kernel
set_option maxRecDepth 65536 in
set_option maxHeartbeats 40000000 in
theorem rm_ali {W : Wd} (hw : Ws W) (l : Addr) (de : Addr) (F : List En) (hde : Sta (wZ W) (wZ W).heap "java/util/ArrayList" "DEFAULTCAPACITY_EMPTY_ELEMENTDATA" "[Ljava/lang/Object;" (.ref de)) : Ct W M_ali [.ref l] ((oAL true l (.int 0) (.null) (.int 0)) :: F) (fun v H' => v = none ∧ H' = ((oAL true l (.int 0) (.ref de) (.int 0)) :: F)) := by
  refine Ct.intro (L0 := [.val (.ref l)]) (plainFor_of_name pf_java_util_ArrayList) rfl (fun K => ?_)
  refine Wp.aloadN rfl rfl d_jdk_38_2_0 ?_
  refine Wp.callC nm_M_ali (fun _ => rm_abi hw.set l .null _ ) (mk_M_abi hw) (w_58 hw) (w_59 hw) rfl rfl rfl rfl (Wn := 0) rfl rfl (by decide) d_jdk_38_2_1 ?_
  rintro _ _ ⟨rfl, rfl⟩
  refine Wp.aloadN rfl rfl d_jdk_38_2_4 ?_
  refine Wp.getS nm_M_ali (host := "") (Or.inl (w_73 hw)) Via.refl hde d_jdk_38_2_5 ?_
  refine Wp.putF nm_M_ali (host := "") (Or.inl (w_74 hw)) Via.refl 0 1 rfl rfl (Or.inl (w_75 hw)) (w_53 hw) (ty := (.array (.object "java/lang/Object"))) (by decide) rfl rfl d_jdk_38_2_8 (H' := ((oAL true l (.int 0) (.ref de) (.int 0)) :: F)) rfl ?_
  refine Wp.ret rfl d_jdk_38_2_11 (by decide) (by decide) ?_
  exact ⟨rfl, rfl⟩
theorem d_jdk_29_65_0 : Dc jdk_29_method_65_code 0 (.iload_n 0) 1 1 := ⟨by decide +kernel, rfl⟩
theorem d_jdk_29_65_1 : Dc jdk_29_method_65_code 1 (.iload_n 1) 1 2 := ⟨by decide +kernel, rfl⟩
theorem d_jdk_29_65_2 : Bj jdk_29_method_65_code 2 (.if_icmp .lt 7) 7 5 9 := ⟨by decide +kernel, rfl, by decide, rfl⟩
theorem d_jdk_29_65_5 : Dc jdk_29_method_65_code 5 (.iload_n 0) 1 6 := ⟨by decide +kernel, rfl⟩
theorem d_jdk_29_65_6 : Bj jdk_29_method_65_code 6 (.goto 4) 4 9 10 := ⟨by decide +kernel, rfl, by decide, rfl⟩
theorem d_jdk_29_65_10 : Dc jdk_29_method_65_code 10 (.ireturn) 1 11 := ⟨by decide +kernel, rfl⟩
def M_max : Mt := (⟨"java/lang/Math", "max", "(II)I"⟩, jdk_29_method_65_code, 2, some .int, ⟨0, 0, 0, 0⟩)
theorem nm_M_max : mN M_max = ⟨"java/lang/Math", "max", "(II)I"⟩ := by delta mN M_max; rfl
theorem pf_java_lang_Math_max_II_I : plainFor (⟨"java/lang/Math", "max", "(II)I"⟩ : MethodName) = true := Jvm.Free.JP.mathPlain rfl (by decide +kernel)
set_option maxRecDepth 65536 in
set_option maxHeartbeats 40000000 in
theorem rm_max {W : Wd} (hw : Ws W) (F : List En) : Ct W M_max [.int 10, .int 1] F (fun v H' => v = some (.int 10) ∧ H' = F) := by
  refine Ct.intro (L0 := [.val (.int 10), .val (.int 1)]) pf_java_lang_Math_max_II_I rfl (fun K => ?_)
  refine Wp.iloadN rfl d_jdk_29_65_0 ?_
  refine Wp.iloadN rfl d_jdk_29_65_1 ?_
  refine Wp.icF (by decide) d_jdk_29_65_2 ?_
  refine Wp.iloadN rfl d_jdk_29_65_5 ?_
  refine Wp.goto d_jdk_29_65_6 ?_
  refine Wp.iret rfl d_jdk_29_65_10 (by decide) (by decide) ?_
  exact ⟨rfl, rfl⟩
theorem d_jdk_38_6_0 : Dc jdk_38_method_6_code 0 (.aload_n 0) 1 1 := ⟨by decide +kernel, rfl⟩
theorem d_jdk_38_6_1 : Dc jdk_38_method_6_code 1 (.getfield 9) 3 4 := ⟨by decide +kernel, rfl⟩
theorem d_jdk_38_6_4 : Dc jdk_38_method_6_code 4 (.arraylength) 1 5 := ⟨by decide +kernel, rfl⟩
theorem d_jdk_38_6_5 : Dc jdk_38_method_6_code 5 (.istore_n 2) 1 6 := ⟨by decide +kernel, rfl⟩
theorem d_jdk_38_6_6 : Dc jdk_38_method_6_code 6 (.iload_n 2) 1 7 := ⟨by decide +kernel, rfl⟩
theorem d_jdk_38_6_7 : Bj jdk_38_method_6_code 7 (.ifCond .gt 13) 13 10 20 := ⟨by decide +kernel, rfl, by decide, rfl⟩
theorem d_jdk_38_6_10 : Dc jdk_38_method_6_code 10 (.aload_n 0) 1 11 := ⟨by decide +kernel, rfl⟩
theorem d_jdk_38_6_11 : Dc jdk_38_method_6_code 11 (.getfield 9) 3 14 := ⟨by decide +kernel, rfl⟩
theorem d_jdk_38_6_14 : Dc jdk_38_method_6_code 14 (.getstatic 39) 3 17 := ⟨by decide +kernel, rfl⟩
theorem d_jdk_38_6_17 : Bj jdk_38_method_6_code 17 (.if_acmp .eq 28) 28 20 45 := ⟨by decide +kernel, rfl, by decide, rfl⟩
theorem d_jdk_38_6_45 : Dc jdk_38_method_6_code 45 (.aload_n 0) 1 46 := ⟨by decide +kernel, rfl⟩
theorem d_jdk_38_6_46 : Dc jdk_38_method_6_code 46 (.bipush 10) 2 48 := ⟨by decide +kernel, rfl⟩
theorem lb_10 : (Int8.ofInt 10).toInt32 = 10 := by decide
theorem d_jdk_38_6_48 : Dc jdk_38_method_6_code 48 (.iload_n 1) 1 49 := ⟨by decide +kernel, rfl⟩
theorem d_jdk_38_6_49 : Dc jdk_38_method_6_code 49 (.invokestatic 79) 3 52 := ⟨by decide +kernel, rfl⟩
theorem w_103 {W : Wd} (hw : Ws W) : Wok W (Jvm.Cond.code ({ cls := "java/lang/Math", name := "max", desc := "(II)I" } : Jvm.MethodName) jdk_29_method_65_code (2 : Nat) (Option.some Jvm.ClassFile.FieldType.int)) := hw.1 _ (List.mem_of_getElem? (i := 103) rfl)
theorem w_102 {W : Wd} (hw : Ws W) : Wok W (Jvm.Cond.initialized "java/lang/Math") := hw.1 _ (List.mem_of_getElem? (i := 102) rfl)
theorem pd__II_I : parseMethodDescriptor "(II)I" = some ⟨[.int, .int], some .int⟩ := by decide +kernel
theorem mk_M_max {W : Wd} (hw : Ws W) : Mk W M_max ⟨"java/lang/Math", "max", "(II)I"⟩ 2 := Mk.of nm_M_max rfl rfl rfl (w_103 hw) (w_102 hw) (mkLen pd__II_I rfl) (by decide)
theorem w_100 {W : Wd} (hw : Ws W) : Wok W (Jvm.Cond.methodLink "java/util/ArrayList" (79 : Nat) ({ cls := "java/lang/Math", name := "max", desc := "(II)I" } : Jvm.MethodName)) := hw.1 _ (List.mem_of_getElem? (i := 100) rfl)
theorem w_101 {W : Wd} (hw : Ws W) : Wok W (Jvm.Cond.static ({ cls := "java/lang/Math", name := "max", desc := "(II)I" } : Jvm.MethodName)) := hw.1 _ (List.mem_of_getElem? (i := 101) rfl)
theorem d_jdk_38_6_52 : Dc jdk_38_method_6_code 52 (.anewarray 7) 3 55 := ⟨by decide +kernel, rfl⟩
theorem w_104 {W : Wd} (hw : Ws W) : Wok W (Jvm.Cond.classLink "java/util/ArrayList" (7 : Nat) "java/lang/Object") := hw.1 _ (List.mem_of_getElem? (i := 104) rfl)
theorem w_105 {W : Wd} (hw : Ws W) : Wok W (Jvm.Cond.arrayOver (Jvm.ClassFile.FieldType.object "java/lang/Object")) := hw.1 _ (List.mem_of_getElem? (i := 105) rfl)
theorem d_jdk_38_6_55 : Dc jdk_38_method_6_code 55 (.dup_x1) 1 56 := ⟨by decide +kernel, rfl⟩
theorem d_jdk_38_6_56 : Dc jdk_38_method_6_code 56 (.putfield 9) 3 59 := ⟨by decide +kernel, rfl⟩
theorem d_jdk_38_6_59 : Dc jdk_38_method_6_code 59 (.areturn) 1 60 := ⟨by decide +kernel, rfl⟩
def M_gr1 : Mt := (⟨"java/util/ArrayList", "grow", "(I)[Ljava/lang/Object;"⟩, jdk_38_method_6_code, 4, some (.array (.object "java/lang/Object")), ⟨1, 1, 10, 14⟩)
theorem nm_M_gr1 : mN M_gr1 = ⟨"java/util/ArrayList", "grow", "(I)[Ljava/lang/Object;"⟩ := by delta mN M_gr1; rfl
set_option maxRecDepth 65536 in
set_option maxHeartbeats 40000000 in
theorem rm_gr1 {W : Wd} (hw : Ws W) (l : Addr) (de : Addr) (F : List En) (hde : Sta (wZ W) (wZ W).heap "java/util/ArrayList" "DEFAULTCAPACITY_EMPTY_ELEMENTDATA" "[Ljava/lang/Object;" (.ref de)) : Ct W M_gr1 [.ref l, .int 1] ((oAL true l (.int 1) (.ref de) (.int 0)) :: (de, false, .inr ((.object "java/lang/Object"), true, false, [])) :: F) (fun v H' => ∃ e, v = some (.ref e) ∧ H' = ((eO e [.null, .null, .null, .null, .null, .null, .null, .null, .null, .null]) :: (oAL true l (.int 1) (.ref e) (.int 0)) :: (de, false, .inr ((.object "java/lang/Object"), true, false, [])) :: F)) := by
  refine Ct.intro (L0 := [.val (.ref l), .val (.int 1), .unset, .unset]) (plainFor_of_name pf_java_util_ArrayList) rfl (fun K => ?_)
  refine Wp.aloadN rfl rfl d_jdk_38_6_0 ?_
  refine Wp.getF nm_M_gr1 (host := "") (Or.inl (w_74 hw)) Via.refl 0 1 rfl rfl d_jdk_38_6_1 ?_
  refine Wp.alen (z := 0) 1 rfl (by decide) d_jdk_38_6_4 ?_
  refine Wp.istoreN (L' := [.val (.ref l), .val (.int 1), .val (.int 0), .unset]) rfl d_jdk_38_6_5 ?_
  refine Wp.iloadN rfl d_jdk_38_6_6 ?_
  refine Wp.ifF (by decide) d_jdk_38_6_7 ?_
  refine Wp.aloadN rfl rfl d_jdk_38_6_10 ?_
  refine Wp.getF nm_M_gr1 (host := "") (Or.inl (w_74 hw)) Via.refl 0 1 rfl rfl d_jdk_38_6_11 ?_
  refine Wp.getS nm_M_gr1 (host := "") (Or.inl (w_73 hw)) Via.refl hde d_jdk_38_6_14 ?_
  refine Wp.acT rfl rfl (acT_eq _) d_jdk_38_6_17 ?_
  refine Wp.aloadN rfl rfl d_jdk_38_6_45 ?_
  refine Wp.bipush lb_10 d_jdk_38_6_46 ?_
  refine Wp.iloadN rfl d_jdk_38_6_48 ?_
  refine Wp.callS nm_M_gr1 (fun _ => rm_max hw.set  _ ) (mk_M_max hw) (w_100 hw) (w_101 hw) rfl rfl (Wn := 1) rfl rfl (by decide) d_jdk_38_6_49 ?_
  rintro _ _ ⟨rfl, rfl⟩
  refine Wp.newR nm_M_gr1 (kk := 10) (vs := [.null, .null, .null, .null, .null, .null, .null, .null, .null, .null]) (w_104 hw) (w_105 hw) (by decide) (by decide) (by decide) (by decide) (by decide) rfl d_jdk_38_6_52 (fun a1 => ?_)
  refine Wp.dupX1 rfl rfl d_jdk_38_6_55 ?_
  refine Wp.putF nm_M_gr1 (host := "") (Or.inl (w_74 hw)) Via.refl 1 1 rfl rfl (Or.inl (w_75 hw)) (w_53 hw) (ty := (.array (.object "java/lang/Object"))) (by decide) rfl rfl d_jdk_38_6_56 (H' := ((eO a1 [.null, .null, .null, .null, .null, .null, .null, .null, .null, .null]) :: (oAL true l (.int 1) (.ref a1) (.int 0)) :: (de, false, .inr ((.object "java/lang/Object"), true, false, [])) :: F)) rfl ?_
  refine Wp.aret rfl rfl rfl d_jdk_38_6_59 (by decide) (by decide) ?_
  exact ⟨a1, rfl, rfl⟩
theorem d_jdk_38_7_0 : Dc jdk_38_method_7_code 0 (.aload_n 0) 1 1 := ⟨by decide +kernel, rfl⟩
theorem d_jdk_38_7_1 : Dc jdk_38_method_7_code 1 (.aload_n 0) 1 2 := ⟨by decide +kernel, rfl⟩
theorem d_jdk_38_7_2 : Dc jdk_38_method_7_code 2 (.getfield 48) 3 5 := ⟨by decide +kernel, rfl⟩
theorem w_83 {W : Wd} (hw : Ws W) : Wok W (Jvm.Cond.fieldLink "java/util/ArrayList" (48 : Nat) "java/util/ArrayList" "size" "I") := hw.1 _ (List.mem_of_getElem? (i := 83) rfl)
theorem d_jdk_38_7_5 : Dc jdk_38_method_7_code 5 (.iconst 1) 1 6 := ⟨by decide +kernel, rfl⟩
theorem d_jdk_38_7_6 : Dc jdk_38_method_7_code 6 (.iadd) 1 7 := ⟨by decide +kernel, rfl⟩
theorem d_jdk_38_7_7 : Dc jdk_38_method_7_code 7 (.invokevirtual 69) 3 10 := ⟨by decide +kernel, rfl⟩
theorem w_99 {W : Wd} (hw : Ws W) : Wok W (Jvm.Cond.code ({ cls := "java/util/ArrayList", name := "grow", desc := "(I)[Ljava/lang/Object;" } : Jvm.MethodName) jdk_38_method_6_code (4 : Nat) (Option.some (Jvm.ClassFile.FieldType.array (Jvm.ClassFile.FieldType.object "java/lang/Object")))) := hw.1 _ (List.mem_of_getElem? (i := 99) rfl)
theorem w_54 {W : Wd} (hw : Ws W) : Wok W (Jvm.Cond.initialized "java/util/ArrayList") := hw.1 _ (List.mem_of_getElem? (i := 54) rfl)
theorem pd__I__Ljava_lang_Object_ : parseMethodDescriptor "(I)[Ljava/lang/Object;" = some ⟨[.int], some (.array (.object "java/lang/Object"))⟩ := by decide +kernel
theorem mk_M_gr1 {W : Wd} (hw : Ws W) : Mk W M_gr1 ⟨"java/util/ArrayList", "grow", "(I)[Ljava/lang/Object;"⟩ 1 := Mk.of nm_M_gr1 rfl rfl rfl (w_99 hw) (w_54 hw) (mkLen pd__I__Ljava_lang_Object_ rfl) (by decide)
theorem w_95 {W : Wd} (hw : Ws W) : Wok W (Jvm.Cond.methodLink "java/util/ArrayList" (69 : Nat) ({ cls := "java/util/ArrayList", name := "grow", desc := "(I)[Ljava/lang/Object;" } : Jvm.MethodName)) := hw.1 _ (List.mem_of_getElem? (i := 95) rfl)
theorem w_96 {W : Wd} (hw : Ws W) : Wok W (Jvm.Cond.instanceMethod ({ cls := "java/util/ArrayList", name := "grow", desc := "(I)[Ljava/lang/Object;" } : Jvm.MethodName)) := hw.1 _ (List.mem_of_getElem? (i := 96) rfl)
theorem w_98 {W : Wd} (hw : Ws W) : Wok W (Jvm.Cond.selects "java/util/ArrayList" ({ cls := "java/util/ArrayList", name := "grow", desc := "(I)[Ljava/lang/Object;" } : Jvm.MethodName) ({ cls := "java/util/ArrayList", name := "grow", desc := "(I)[Ljava/lang/Object;" } : Jvm.MethodName)) := hw.1 _ (List.mem_of_getElem? (i := 98) rfl)
theorem w_97 {W : Wd} (hw : Ws W) : Wok W (Jvm.Cond.privateMethod ({ cls := "java/util/ArrayList", name := "grow", desc := "(I)[Ljava/lang/Object;" } : Jvm.MethodName)) := hw.1 _ (List.mem_of_getElem? (i := 97) rfl)
theorem d_jdk_38_7_10 : Dc jdk_38_method_7_code 10 (.areturn) 1 11 := ⟨by decide +kernel, rfl⟩
def M_gr0 : Mt := (⟨"java/util/ArrayList", "grow", "()[Ljava/lang/Object;"⟩, jdk_38_method_7_code, 1, some (.array (.object "java/lang/Object")), ⟨2, 1, 10, 29⟩)
theorem nm_M_gr0 : mN M_gr0 = ⟨"java/util/ArrayList", "grow", "()[Ljava/lang/Object;"⟩ := by delta mN M_gr0; rfl
set_option maxRecDepth 65536 in
set_option maxHeartbeats 40000000 in
theorem rm_gr0 {W : Wd} (hw : Ws W) (l : Addr) (de : Addr) (F : List En) (hde : Sta (wZ W) (wZ W).heap "java/util/ArrayList" "DEFAULTCAPACITY_EMPTY_ELEMENTDATA" "[Ljava/lang/Object;" (.ref de)) : Ct W M_gr0 [.ref l] ((oAL true l (.int 1) (.ref de) (.int 0)) :: (de, false, .inr ((.object "java/lang/Object"), true, false, [])) :: F) (fun v H' => ∃ e, v = some (.ref e) ∧ H' = ((eO e [.null, .null, .null, .null, .null, .null, .null, .null, .null, .null]) :: (oAL true l (.int 1) (.ref e) (.int 0)) :: (de, false, .inr ((.object "java/lang/Object"), true, false, [])) :: F)) := by
  refine Ct.intro (L0 := [.val (.ref l)]) (plainFor_of_name pf_java_util_ArrayList) rfl (fun K => ?_)
  refine Wp.aloadN rfl rfl d_jdk_38_7_0 ?_
  refine Wp.aloadN rfl rfl d_jdk_38_7_1 ?_
  refine Wp.getF nm_M_gr0 (host := "") (Or.inl (w_83 hw)) Via.refl 0 2 rfl rfl d_jdk_38_7_2 ?_
  refine Wp.iconst lc_1 d_jdk_38_7_5 ?_
  refine Wp.iadd (z := 1) (by decide) d_jdk_38_7_6 ?_
  refine Wp.callP nm_M_gr0 (fun _ => rm_gr1 hw.set l de _ hde) 0 rfl (mk_M_gr1 hw) (w_95 hw) (w_96 hw) (w_98 hw) (w_97 hw) rfl rfl (Wn := 0) rfl rfl (by decide) d_jdk_38_7_7 ?_
  rintro _ _ ⟨e_1, rfl, rfl⟩
  refine Wp.aret rfl rfl rfl d_jdk_38_7_10 (by decide) (by decide) ?_
  exact ⟨e_1, rfl, rfl⟩
theorem d_jdk_38_24_0 : Dc jdk_38_method_24_code 0 (.iload_n 3) 1 1 := ⟨by decide +kernel, rfl⟩
theorem d_jdk_38_24_1 : Dc jdk_38_method_24_code 1 (.aload_n 2) 1 2 := ⟨by decide +kernel, rfl⟩
theorem d_jdk_38_24_2 : Dc jdk_38_method_24_code 2 (.arraylength) 1 3 := ⟨by decide +kernel, rfl⟩
theorem d_jdk_38_24_3 : Bj jdk_38_method_24_code 3 (.if_icmp .ne 8) 8 6 11 := ⟨by decide +kernel, rfl, by decide, rfl⟩
theorem d_jdk_38_24_6 : Dc jdk_38_method_24_code 6 (.aload_n 0) 1 7 := ⟨by decide +kernel, rfl⟩
theorem d_jdk_38_24_7 : Dc jdk_38_method_24_code 7 (.invokevirtual 129) 3 10 := ⟨by decide +kernel, rfl⟩
theorem w_94 {W : Wd} (hw : Ws W) : Wok W (Jvm.Cond.code ({ cls := "java/util/ArrayList", name := "grow", desc := "()[Ljava/lang/Object;" } : Jvm.MethodName) jdk_38_method_7_code (1 : Nat) (Option.some (Jvm.ClassFile.FieldType.array (Jvm.ClassFile.FieldType.object "java/lang/Object")))) := hw.1 _ (List.mem_of_getElem? (i := 94) rfl)
theorem pd____Ljava_lang_Object_ : parseMethodDescriptor "()[Ljava/lang/Object;" = some ⟨[], some (.array (.object "java/lang/Object"))⟩ := by decide +kernel
theorem mk_M_gr0 {W : Wd} (hw : Ws W) : Mk W M_gr0 ⟨"java/util/ArrayList", "grow", "()[Ljava/lang/Object;"⟩ 0 := Mk.of nm_M_gr0 rfl rfl rfl (w_94 hw) (w_54 hw) (mkLen pd____Ljava_lang_Object_ rfl) (by decide)
theorem w_90 {W : Wd} (hw : Ws W) : Wok W (Jvm.Cond.methodLink "java/util/ArrayList" (129 : Nat) ({ cls := "java/util/ArrayList", name := "grow", desc := "()[Ljava/lang/Object;" } : Jvm.MethodName)) := hw.1 _ (List.mem_of_getElem? (i := 90) rfl)
theorem w_91 {W : Wd} (hw : Ws W) : Wok W (Jvm.Cond.instanceMethod ({ cls := "java/util/ArrayList", name := "grow", desc := "()[Ljava/lang/Object;" } : Jvm.MethodName)) := hw.1 _ (List.mem_of_getElem? (i := 91) rfl)
theorem w_93 {W : Wd} (hw : Ws W) : Wok W (Jvm.Cond.selects "java/util/ArrayList" ({ cls := "java/util/ArrayList", name := "grow", desc := "()[Ljava/lang/Object;" } : Jvm.MethodName) ({ cls := "java/util/ArrayList", name := "grow", desc := "()[Ljava/lang/Object;" } : Jvm.MethodName)) := hw.1 _ (List.mem_of_getElem? (i := 93) rfl)
theorem w_92 {W : Wd} (hw : Ws W) : Wok W (Jvm.Cond.privateMethod ({ cls := "java/util/ArrayList", name := "grow", desc := "()[Ljava/lang/Object;" } : Jvm.MethodName)) := hw.1 _ (List.mem_of_getElem? (i := 92) rfl)
theorem d_jdk_38_24_10 : Dc jdk_38_method_24_code 10 (.astore_n 2) 1 11 := ⟨by decide +kernel, rfl⟩
theorem d_jdk_38_24_11 : Dc jdk_38_method_24_code 11 (.aload_n 2) 1 12 := ⟨by decide +kernel, rfl⟩
theorem d_jdk_38_24_12 : Dc jdk_38_method_24_code 12 (.iload_n 3) 1 13 := ⟨by decide +kernel, rfl⟩
theorem d_jdk_38_24_13 : Dc jdk_38_method_24_code 13 (.aload_n 1) 1 14 := ⟨by decide +kernel, rfl⟩
theorem d_jdk_38_24_14 : Dc jdk_38_method_24_code 14 (.aastore) 1 15 := ⟨by decide +kernel, rfl⟩
theorem w_106 {W : Wd} (hw : Ws W) : Wok W (Jvm.Cond.castable "java/lang/String" "java/lang/Object") := hw.1 _ (List.mem_of_getElem? (i := 106) rfl)
theorem d_jdk_38_24_15 : Dc jdk_38_method_24_code 15 (.aload_n 0) 1 16 := ⟨by decide +kernel, rfl⟩
theorem d_jdk_38_24_16 : Dc jdk_38_method_24_code 16 (.iload_n 3) 1 17 := ⟨by decide +kernel, rfl⟩
theorem d_jdk_38_24_17 : Dc jdk_38_method_24_code 17 (.iconst 1) 1 18 := ⟨by decide +kernel, rfl⟩
theorem d_jdk_38_24_18 : Dc jdk_38_method_24_code 18 (.iadd) 1 19 := ⟨by decide +kernel, rfl⟩
theorem d_jdk_38_24_19 : Dc jdk_38_method_24_code 19 (.putfield 48) 3 22 := ⟨by decide +kernel, rfl⟩
theorem w_84 {W : Wd} (hw : Ws W) : Wok W (Jvm.Cond.lays "java/util/ArrayList" "java/util/ArrayList" "size" "I") := hw.1 _ (List.mem_of_getElem? (i := 84) rfl)
theorem d_jdk_38_24_22 : Dc jdk_38_method_24_code 22 (.return_) 1 23 := ⟨by decide +kernel, rfl⟩
def M_ad3_0 : Mt := (⟨"java/util/ArrayList", "add", "(Ljava/lang/Object;[Ljava/lang/Object;I)V"⟩, jdk_38_method_24_code, 4, none, ⟨3, 1, 10, 41⟩)
theorem nm_M_ad3_0 : mN M_ad3_0 = ⟨"java/util/ArrayList", "add", "(Ljava/lang/Object;[Ljava/lang/Object;I)V"⟩ := by delta mN M_ad3_0; rfl
set_option maxRecDepth 65536 in
set_option maxHeartbeats 40000000 in
theorem rm_ad3_0 {W : Wd} (hw : Ws W) (l : Addr) (de : Addr) (y0 : Addr) (ry0 : Bool) (v0 : Value) (c0 : Value) (F : List En) (hde : Sta (wZ W) (wZ W).heap "java/util/ArrayList" "DEFAULTCAPACITY_EMPTY_ELEMENTDATA" "[Ljava/lang/Object;" (.ref de)) : Ct W M_ad3_0 [.ref l, .ref y0, .ref de, .int 0] ((oAL true l (.int 1) (.ref de) (.int 0)) :: (de, false, .inr ((.object "java/lang/Object"), true, false, [])) :: (oStr ry0 y0 (v0) (c0)) :: F) (fun v H' => ∃ e, v = none ∧ H' = ((oAL true l (.int 1) (.ref e) (.int 1)) :: (eO e [.ref y0, .null, .null, .null, .null, .null, .null, .null, .null, .null]) :: (de, false, .inr ((.object "java/lang/Object"), true, false, [])) :: (oStr ry0 y0 (v0) (c0)) :: F)) := by
  refine Ct.intro (L0 := [.val (.ref l), .val (.ref y0), .val (.ref de), .val (.int 0)]) (plainFor_of_name pf_java_util_ArrayList) rfl (fun K => ?_)
  refine Wp.iloadN rfl d_jdk_38_24_0 ?_
  refine Wp.aloadN rfl rfl d_jdk_38_24_1 ?_
  refine Wp.alen (z := 0) 1 rfl (by decide) d_jdk_38_24_2 ?_
  refine Wp.icF (by decide) d_jdk_38_24_3 ?_
  refine Wp.aloadN rfl rfl d_jdk_38_24_6 ?_
  refine Wp.callP nm_M_ad3_0 (fun _ => rm_gr0 hw.set l de _ hde) 0 rfl (mk_M_gr0 hw) (w_90 hw) (w_91 hw) (w_93 hw) (w_92 hw) rfl rfl (Wn := 0) rfl rfl (by decide) d_jdk_38_24_7 ?_
  rintro _ _ ⟨e_1, rfl, rfl⟩
  refine Wp.astoreN (L' := [.val (.ref l), .val (.ref y0), .val (.ref e_1), .val (.int 0)]) rfl rfl d_jdk_38_24_10 ?_
  refine Wp.aloadN rfl rfl d_jdk_38_24_11 ?_
  refine Wp.iloadN rfl d_jdk_38_24_12 ?_
  refine Wp.aloadN rfl rfl d_jdk_38_24_13 ?_
  refine Wp.aastore 0 0 rfl (by decide) (by decide) (show 0 < 10 by decide) (Or.inr ⟨_, rfl, (fun _ P => insCast P 3 rfl (w_106 hw))⟩) rfl d_jdk_38_24_14 (H' := ((eO e_1 [.ref y0, .null, .null, .null, .null, .null, .null, .null, .null, .null]) :: (oAL true l (.int 1) (.ref e_1) (.int 0)) :: (de, false, .inr ((.object "java/lang/Object"), true, false, [])) :: (oStr ry0 y0 (v0) (c0)) :: F)) rfl ?_
  refine Wp.aloadN rfl rfl d_jdk_38_24_15 ?_
  refine Wp.iloadN rfl d_jdk_38_24_16 ?_
  refine Wp.iconst lc_1 d_jdk_38_24_17 ?_
  refine Wp.iadd (z := 1) (by decide) d_jdk_38_24_18 ?_
  refine Wp.putF nm_M_ad3_0 (host := "") (Or.inl (w_83 hw)) Via.refl 1 2 rfl rfl (Or.inl (w_84 hw)) (w_53 hw) (ty := .int) (by decide) rfl rfl d_jdk_38_24_19 (H' := ((eO e_1 [.ref y0, .null, .null, .null, .null, .null, .null, .null, .null, .null]) :: (oAL true l (.int 1) (.ref e_1) (.int 1)) :: (de, false, .inr ((.object "java/lang/Object"), true, false, [])) :: (oStr ry0 y0 (v0) (c0)) :: F)) rfl ?_
  refine Wp.perm [1, 0] 2 pp_1_0 (H' := ((oAL true l (.int 1) (.ref e_1) (.int 1)) :: (eO e_1 [.ref y0, .null, .null, .null, .null, .null, .null, .null, .null, .null]) :: (de, false, .inr ((.object "java/lang/Object"), true, false, [])) :: (oStr ry0 y0 (v0) (c0)) :: F)) rfl ?_
  refine Wp.ret rfl d_jdk_38_24_22 (by decide) (by decide) ?_
  exact ⟨e_1, rfl, rfl⟩
theorem d_jdk_38_25_0 : Dc jdk_38_method_25_code 0 (.aload_n 0) 1 1 := ⟨by decide +kernel, rfl⟩
theorem d_jdk_38_25_1 : Dc jdk_38_method_25_code 1 (.dup) 1 2 := ⟨by decide +kernel, rfl⟩
theorem d_jdk_38_25_2 : Dc jdk_38_method_25_code 2 (.getfield 63) 3 5 := ⟨by decide +kernel, rfl⟩
theorem w_82 {W : Wd} (hw : Ws W) : Wok W (Jvm.Cond.sameField "java/util/ArrayList" "java/util/AbstractList" "modCount" "I") := hw.1 _ (List.mem_of_getElem? (i := 82) rfl)
theorem w_81 {W : Wd} (hw : Ws W) : Wok W (Jvm.Cond.fieldLink "java/util/ArrayList" (63 : Nat) "java/util/ArrayList" "modCount" "I") := hw.1 _ (List.mem_of_getElem? (i := 81) rfl)
theorem d_jdk_38_25_5 : Dc jdk_38_method_25_code 5 (.iconst 1) 1 6 := ⟨by decide +kernel, rfl⟩
theorem d_jdk_38_25_6 : Dc jdk_38_method_25_code 6 (.iadd) 1 7 := ⟨by decide +kernel, rfl⟩
theorem d_jdk_38_25_7 : Dc jdk_38_method_25_code 7 (.putfield 63) 3 10 := ⟨by decide +kernel, rfl⟩
theorem d_jdk_38_25_10 : Dc jdk_38_method_25_code 10 (.aload_n 0) 1 11 := ⟨by decide +kernel, rfl⟩
theorem d_jdk_38_25_11 : Dc jdk_38_method_25_code 11 (.aload_n 1) 1 12 := ⟨by decide +kernel, rfl⟩
theorem d_jdk_38_25_12 : Dc jdk_38_method_25_code 12 (.aload_n 0) 1 13 := ⟨by decide +kernel, rfl⟩
theorem d_jdk_38_25_13 : Dc jdk_38_method_25_code 13 (.getfield 9) 3 16 := ⟨by decide +kernel, rfl⟩
theorem d_jdk_38_25_16 : Dc jdk_38_method_25_code 16 (.aload_n 0) 1 17 := ⟨by decide +kernel, rfl⟩
theorem d_jdk_38_25_17 : Dc jdk_38_method_25_code 17 (.getfield 48) 3 20 := ⟨by decide +kernel, rfl⟩
theorem d_jdk_38_25_20 : Dc jdk_38_method_25_code 20 (.invokevirtual 131) 3 23 := ⟨by decide +kernel, rfl⟩
theorem w_89 {W : Wd} (hw : Ws W) : Wok W (Jvm.Cond.code ({ cls := "java/util/ArrayList", name := "add", desc := "(Ljava/lang/Object;[Ljava/lang/Object;I)V" } : Jvm.MethodName) jdk_38_method_24_code (4 : Nat) (Option.none : Option Jvm.ClassFile.FieldType)) := hw.1 _ (List.mem_of_getElem? (i := 89) rfl)
theorem pd__Ljava_lang_Object__Ljava_lang_Object_I_V : parseMethodDescriptor "(Ljava/lang/Object;[Ljava/lang/Object;I)V" = some ⟨[(.object "java/lang/Object"), (.array (.object "java/lang/Object")), .int], none⟩ := by decide +kernel
theorem mk_M_ad3_0 {W : Wd} (hw : Ws W) : Mk W M_ad3_0 ⟨"java/util/ArrayList", "add", "(Ljava/lang/Object;[Ljava/lang/Object;I)V"⟩ 3 := Mk.of nm_M_ad3_0 rfl rfl rfl (w_89 hw) (w_54 hw) (mkLen pd__Ljava_lang_Object__Ljava_lang_Object_I_V rfl) (by decide)
theorem w_85 {W : Wd} (hw : Ws W) : Wok W (Jvm.Cond.methodLink "java/util/ArrayList" (131 : Nat) ({ cls := "java/util/ArrayList", name := "add", desc := "(Ljava/lang/Object;[Ljava/lang/Object;I)V" } : Jvm.MethodName)) := hw.1 _ (List.mem_of_getElem? (i := 85) rfl)
theorem w_86 {W : Wd} (hw : Ws W) : Wok W (Jvm.Cond.instanceMethod ({ cls := "java/util/ArrayList", name := "add", desc := "(Ljava/lang/Object;[Ljava/lang/Object;I)V" } : Jvm.MethodName)) := hw.1 _ (List.mem_of_getElem? (i := 86) rfl)
theorem w_88 {W : Wd} (hw : Ws W) : Wok W (Jvm.Cond.selects "java/util/ArrayList" ({ cls := "java/util/ArrayList", name := "add", desc := "(Ljava/lang/Object;[Ljava/lang/Object;I)V" } : Jvm.MethodName) ({ cls := "java/util/ArrayList", name := "add", desc := "(Ljava/lang/Object;[Ljava/lang/Object;I)V" } : Jvm.MethodName)) := hw.1 _ (List.mem_of_getElem? (i := 88) rfl)
theorem w_87 {W : Wd} (hw : Ws W) : Wok W (Jvm.Cond.privateMethod ({ cls := "java/util/ArrayList", name := "add", desc := "(Ljava/lang/Object;[Ljava/lang/Object;I)V" } : Jvm.MethodName)) := hw.1 _ (List.mem_of_getElem? (i := 87) rfl)
theorem d_jdk_38_25_23 : Dc jdk_38_method_25_code 23 (.iconst 1) 1 24 := ⟨by decide +kernel, rfl⟩
theorem d_jdk_38_25_24 : Dc jdk_38_method_25_code 24 (.ireturn) 1 25 := ⟨by decide +kernel, rfl⟩
def M_add_0 : Mt := (⟨"java/util/ArrayList", "add", "(Ljava/lang/Object;)Z"⟩, jdk_38_method_25_code, 2, some .boolean, ⟨4, 1, 10, 56⟩)
theorem nm_M_add_0 : mN M_add_0 = ⟨"java/util/ArrayList", "add", "(Ljava/lang/Object;)Z"⟩ := by delta mN M_add_0; rfl
set_option maxRecDepth 65536 in
set_option maxHeartbeats 40000000 in
theorem rm_add_0 {W : Wd} (hw : Ws W) (l : Addr) (de : Addr) (y0 : Addr) (ry0 : Bool) (v0 : Value) (c0 : Value) (F : List En) (hde : Sta (wZ W) (wZ W).heap "java/util/ArrayList" "DEFAULTCAPACITY_EMPTY_ELEMENTDATA" "[Ljava/lang/Object;" (.ref de)) : Ct W M_add_0 [.ref l, .ref y0] ((oAL true l (.int 0) (.ref de) (.int 0)) :: (de, false, .inr ((.object "java/lang/Object"), true, false, [])) :: (oStr ry0 y0 (v0) (c0)) :: F) (fun v H' => ∃ e, v = some (.int 1) ∧ H' = ((oAL true l (.int 1) (.ref e) (.int 1)) :: (eO e [.ref y0, .null, .null, .null, .null, .null, .null, .null, .null, .null]) :: (de, false, .inr ((.object "java/lang/Object"), true, false, [])) :: (oStr ry0 y0 (v0) (c0)) :: F)) := by
  refine Ct.intro (L0 := [.val (.ref l), .val (.ref y0)]) (plainFor_of_name pf_java_util_ArrayList) rfl (fun K => ?_)
  refine Wp.aloadN rfl rfl d_jdk_38_25_0 ?_
  refine Wp.dup rfl d_jdk_38_25_1 ?_
  refine Wp.getF nm_M_add_0 (host := "") (Or.inl (w_81 hw)) (Via.of (w_82 hw)) 0 0 rfl rfl d_jdk_38_25_2 ?_
  refine Wp.iconst lc_1 d_jdk_38_25_5 ?_
  refine Wp.iadd (z := 1) (by decide) d_jdk_38_25_6 ?_
  refine Wp.putF nm_M_add_0 (host := "") (Or.inl (w_81 hw)) (Via.of (w_82 hw)) 0 0 rfl rfl (Or.inl (w_72 hw)) (w_53 hw) (ty := .int) (by decide) rfl rfl d_jdk_38_25_7 (H' := ((oAL true l (.int 1) (.ref de) (.int 0)) :: (de, false, .inr ((.object "java/lang/Object"), true, false, [])) :: (oStr ry0 y0 (v0) (c0)) :: F)) rfl ?_
  refine Wp.aloadN rfl rfl d_jdk_38_25_10 ?_
  refine Wp.aloadN rfl rfl d_jdk_38_25_11 ?_
  refine Wp.aloadN rfl rfl d_jdk_38_25_12 ?_
  refine Wp.getF nm_M_add_0 (host := "") (Or.inl (w_74 hw)) Via.refl 0 1 rfl rfl d_jdk_38_25_13 ?_
  refine Wp.aloadN rfl rfl d_jdk_38_25_16 ?_
  refine Wp.getF nm_M_add_0 (host := "") (Or.inl (w_83 hw)) Via.refl 0 2 rfl rfl d_jdk_38_25_17 ?_
  refine Wp.callP nm_M_add_0 (fun _ => rm_ad3_0 hw.set l de y0 ry0 v0 c0 _ hde) 0 rfl (mk_M_ad3_0 hw) (w_85 hw) (w_86 hw) (w_88 hw) (w_87 hw) rfl rfl (Wn := 0) rfl rfl (by decide) d_jdk_38_25_20 ?_
  rintro _ _ ⟨e_1, rfl, rfl⟩
  refine Wp.iconst lc_1 d_jdk_38_25_23 ?_
  refine Wp.iretN (z := 1) (by simp) rfl (by decide) d_jdk_38_25_24 (by decide) (by decide) ?_
  exact ⟨e_1, rfl, rfl⟩
def M_ad3_1 : Mt := (⟨"java/util/ArrayList", "add", "(Ljava/lang/Object;[Ljava/lang/Object;I)V"⟩, jdk_38_method_24_code, 4, none, ⟨0, 0, 0, 0⟩)
theorem nm_M_ad3_1 : mN M_ad3_1 = ⟨"java/util/ArrayList", "add", "(Ljava/lang/Object;[Ljava/lang/Object;I)V"⟩ := by delta mN M_ad3_1; rfl
set_option maxRecDepth 65536 in
set_option maxHeartbeats 40000000 in
theorem rm_ad3_1 {W : Wd} (hw : Ws W) (l : Addr) (e : Addr) (u0 : Value) (y1 : Addr) (ry1 : Bool) (v1 : Value) (c1 : Value) (F : List En) : Ct W M_ad3_1 [.ref l, .ref y1, .ref e, .int 1] ((oAL true l (.int 2) (.ref e) (.int 1)) :: (eO e [u0, .null, .null, .null, .null, .null, .null, .null, .null, .null]) :: (oStr ry1 y1 (v1) (c1)) :: F) (fun v H' => v = none ∧ H' = ((oAL true l (.int 2) (.ref e) (.int 2)) :: (eO e [u0, .ref y1, .null, .null, .null, .null, .null, .null, .null, .null]) :: (oStr ry1 y1 (v1) (c1)) :: F)) := by
  refine Ct.intro (L0 := [.val (.ref l), .val (.ref y1), .val (.ref e), .val (.int 1)]) (plainFor_of_name pf_java_util_ArrayList) rfl (fun K => ?_)
  refine Wp.iloadN rfl d_jdk_38_24_0 ?_
  refine Wp.aloadN rfl rfl d_jdk_38_24_1 ?_
  refine Wp.alen (z := 10) 1 rfl rfl d_jdk_38_24_2 ?_
  refine Wp.icT (by decide) d_jdk_38_24_3 ?_
  refine Wp.aloadN rfl rfl d_jdk_38_24_11 ?_
  refine Wp.iloadN rfl d_jdk_38_24_12 ?_
  refine Wp.aloadN rfl rfl d_jdk_38_24_13 ?_
  refine Wp.aastore 1 1 rfl (by decide) (by decide) (show 1 < 10 by decide) (Or.inr ⟨_, rfl, (fun _ P => insCast P 2 rfl (w_106 hw))⟩) rfl d_jdk_38_24_14 (H' := ((oAL true l (.int 2) (.ref e) (.int 1)) :: (eO e [u0, .ref y1, .null, .null, .null, .null, .null, .null, .null, .null]) :: (oStr ry1 y1 (v1) (c1)) :: F)) rfl ?_
  refine Wp.aloadN rfl rfl d_jdk_38_24_15 ?_
  refine Wp.iloadN rfl d_jdk_38_24_16 ?_
  refine Wp.iconst lc_1 d_jdk_38_24_17 ?_
  refine Wp.iadd (z := 2) (by decide) d_jdk_38_24_18 ?_
  refine Wp.putF nm_M_ad3_1 (host := "") (Or.inl (w_83 hw)) Via.refl 0 2 rfl rfl (Or.inl (w_84 hw)) (w_53 hw) (ty := .int) (by decide) rfl rfl d_jdk_38_24_19 (H' := ((oAL true l (.int 2) (.ref e) (.int 2)) :: (eO e [u0, .ref y1, .null, .null, .null, .null, .null, .null, .null, .null]) :: (oStr ry1 y1 (v1) (c1)) :: F)) rfl ?_
  refine Wp.ret rfl d_jdk_38_24_22 (by decide) (by decide) ?_
  exact ⟨rfl, rfl⟩
theorem mk_M_ad3_1 {W : Wd} (hw : Ws W) : Mk W M_ad3_1 ⟨"java/util/ArrayList", "add", "(Ljava/lang/Object;[Ljava/lang/Object;I)V"⟩ 3 := Mk.of nm_M_ad3_1 rfl rfl rfl (w_89 hw) (w_54 hw) (mkLen pd__Ljava_lang_Object__Ljava_lang_Object_I_V rfl) (by decide)
def M_add_1 : Mt := (⟨"java/util/ArrayList", "add", "(Ljava/lang/Object;)Z"⟩, jdk_38_method_25_code, 2, some .boolean, ⟨1, 0, 0, 15⟩)
theorem nm_M_add_1 : mN M_add_1 = ⟨"java/util/ArrayList", "add", "(Ljava/lang/Object;)Z"⟩ := by delta mN M_add_1; rfl
set_option maxRecDepth 65536 in
set_option maxHeartbeats 40000000 in
theorem rm_add_1 {W : Wd} (hw : Ws W) (l : Addr) (e : Addr) (u0 : Value) (y1 : Addr) (ry1 : Bool) (v1 : Value) (c1 : Value) (F : List En) : Ct W M_add_1 [.ref l, .ref y1] ((oAL true l (.int 1) (.ref e) (.int 1)) :: (eO e [u0, .null, .null, .null, .null, .null, .null, .null, .null, .null]) :: (oStr ry1 y1 (v1) (c1)) :: F) (fun v H' => v = some (.int 1) ∧ H' = ((oAL true l (.int 2) (.ref e) (.int 2)) :: (eO e [u0, .ref y1, .null, .null, .null, .null, .null, .null, .null, .null]) :: (oStr ry1 y1 (v1) (c1)) :: F)) := by
  refine Ct.intro (L0 := [.val (.ref l), .val (.ref y1)]) (plainFor_of_name pf_java_util_ArrayList) rfl (fun K => ?_)
  refine Wp.aloadN rfl rfl d_jdk_38_25_0 ?_
  refine Wp.dup rfl d_jdk_38_25_1 ?_
  refine Wp.getF nm_M_add_1 (host := "") (Or.inl (w_81 hw)) (Via.of (w_82 hw)) 0 0 rfl rfl d_jdk_38_25_2 ?_
  refine Wp.iconst lc_1 d_jdk_38_25_5 ?_
  refine Wp.iadd (z := 2) (by decide) d_jdk_38_25_6 ?_
  refine Wp.putF nm_M_add_1 (host := "") (Or.inl (w_81 hw)) (Via.of (w_82 hw)) 0 0 rfl rfl (Or.inl (w_72 hw)) (w_53 hw) (ty := .int) (by decide) rfl rfl d_jdk_38_25_7 (H' := ((oAL true l (.int 2) (.ref e) (.int 1)) :: (eO e [u0, .null, .null, .null, .null, .null, .null, .null, .null, .null]) :: (oStr ry1 y1 (v1) (c1)) :: F)) rfl ?_
  refine Wp.aloadN rfl rfl d_jdk_38_25_10 ?_
  refine Wp.aloadN rfl rfl d_jdk_38_25_11 ?_
  refine Wp.aloadN rfl rfl d_jdk_38_25_12 ?_
  refine Wp.getF nm_M_add_1 (host := "") (Or.inl (w_74 hw)) Via.refl 0 1 rfl rfl d_jdk_38_25_13 ?_
  refine Wp.aloadN rfl rfl d_jdk_38_25_16 ?_
  refine Wp.getF nm_M_add_1 (host := "") (Or.inl (w_83 hw)) Via.refl 0 2 rfl rfl d_jdk_38_25_17 ?_
  refine Wp.callP nm_M_add_1 (fun _ => rm_ad3_1 hw.set l e u0 y1 ry1 v1 c1 _ ) 0 rfl (mk_M_ad3_1 hw) (w_85 hw) (w_86 hw) (w_88 hw) (w_87 hw) rfl rfl (Wn := 0) rfl rfl (by decide) d_jdk_38_25_20 ?_
  rintro _ _ ⟨rfl, rfl⟩
  refine Wp.iconst lc_1 d_jdk_38_25_23 ?_
  refine Wp.iretN (z := 1) (by simp) rfl (by decide) d_jdk_38_25_24 (by decide) (by decide) ?_
  exact ⟨rfl, rfl⟩
def M_ad3_2 : Mt := (⟨"java/util/ArrayList", "add", "(Ljava/lang/Object;[Ljava/lang/Object;I)V"⟩, jdk_38_method_24_code, 4, none, ⟨0, 0, 0, 0⟩)
theorem nm_M_ad3_2 : mN M_ad3_2 = ⟨"java/util/ArrayList", "add", "(Ljava/lang/Object;[Ljava/lang/Object;I)V"⟩ := by delta mN M_ad3_2; rfl
set_option maxRecDepth 65536 in
set_option maxHeartbeats 40000000 in
theorem rm_ad3_2 {W : Wd} (hw : Ws W) (l : Addr) (e : Addr) (u0 : Value) (u1 : Value) (y2 : Addr) (ry2 : Bool) (v2 : Value) (c2 : Value) (F : List En) : Ct W M_ad3_2 [.ref l, .ref y2, .ref e, .int 2] ((oAL true l (.int 3) (.ref e) (.int 2)) :: (eO e [u0, u1, .null, .null, .null, .null, .null, .null, .null, .null]) :: (oStr ry2 y2 (v2) (c2)) :: F) (fun v H' => v = none ∧ H' = ((oAL true l (.int 3) (.ref e) (.int 3)) :: (eO e [u0, u1, .ref y2, .null, .null, .null, .null, .null, .null, .null]) :: (oStr ry2 y2 (v2) (c2)) :: F)) := by
  refine Ct.intro (L0 := [.val (.ref l), .val (.ref y2), .val (.ref e), .val (.int 2)]) (plainFor_of_name pf_java_util_ArrayList) rfl (fun K => ?_)
  refine Wp.iloadN rfl d_jdk_38_24_0 ?_
  refine Wp.aloadN rfl rfl d_jdk_38_24_1 ?_
  refine Wp.alen (z := 10) 1 rfl rfl d_jdk_38_24_2 ?_
  refine Wp.icT (by decide) d_jdk_38_24_3 ?_
  refine Wp.aloadN rfl rfl d_jdk_38_24_11 ?_
  refine Wp.iloadN rfl d_jdk_38_24_12 ?_
  refine Wp.aloadN rfl rfl d_jdk_38_24_13 ?_
  refine Wp.aastore 1 2 rfl (by decide) (by decide) (show 2 < 10 by decide) (Or.inr ⟨_, rfl, (fun _ P => insCast P 2 rfl (w_106 hw))⟩) rfl d_jdk_38_24_14 (H' := ((oAL true l (.int 3) (.ref e) (.int 2)) :: (eO e [u0, u1, .ref y2, .null, .null, .null, .null, .null, .null, .null]) :: (oStr ry2 y2 (v2) (c2)) :: F)) rfl ?_
  refine Wp.aloadN rfl rfl d_jdk_38_24_15 ?_
  refine Wp.iloadN rfl d_jdk_38_24_16 ?_
  refine Wp.iconst lc_1 d_jdk_38_24_17 ?_
  refine Wp.iadd (z := 3) (by decide) d_jdk_38_24_18 ?_
  refine Wp.putF nm_M_ad3_2 (host := "") (Or.inl (w_83 hw)) Via.refl 0 2 rfl rfl (Or.inl (w_84 hw)) (w_53 hw) (ty := .int) (by decide) rfl rfl d_jdk_38_24_19 (H' := ((oAL true l (.int 3) (.ref e) (.int 3)) :: (eO e [u0, u1, .ref y2, .null, .null, .null, .null, .null, .null, .null]) :: (oStr ry2 y2 (v2) (c2)) :: F)) rfl ?_
  refine Wp.ret rfl d_jdk_38_24_22 (by decide) (by decide) ?_
  exact ⟨rfl, rfl⟩
theorem mk_M_ad3_2 {W : Wd} (hw : Ws W) : Mk W M_ad3_2 ⟨"java/util/ArrayList", "add", "(Ljava/lang/Object;[Ljava/lang/Object;I)V"⟩ 3 := Mk.of nm_M_ad3_2 rfl rfl rfl (w_89 hw) (w_54 hw) (mkLen pd__Ljava_lang_Object__Ljava_lang_Object_I_V rfl) (by decide)
def M_add_2 : Mt := (⟨"java/util/ArrayList", "add", "(Ljava/lang/Object;)Z"⟩, jdk_38_method_25_code, 2, some .boolean, ⟨1, 0, 0, 15⟩)
theorem nm_M_add_2 : mN M_add_2 = ⟨"java/util/ArrayList", "add", "(Ljava/lang/Object;)Z"⟩ := by delta mN M_add_2; rfl
set_option maxRecDepth 65536 in
set_option maxHeartbeats 40000000 in
theorem rm_add_2 {W : Wd} (hw : Ws W) (l : Addr) (e : Addr) (u0 : Value) (u1 : Value) (y2 : Addr) (ry2 : Bool) (v2 : Value) (c2 : Value) (F : List En) : Ct W M_add_2 [.ref l, .ref y2] ((oAL true l (.int 2) (.ref e) (.int 2)) :: (eO e [u0, u1, .null, .null, .null, .null, .null, .null, .null, .null]) :: (oStr ry2 y2 (v2) (c2)) :: F) (fun v H' => v = some (.int 1) ∧ H' = ((oAL true l (.int 3) (.ref e) (.int 3)) :: (eO e [u0, u1, .ref y2, .null, .null, .null, .null, .null, .null, .null]) :: (oStr ry2 y2 (v2) (c2)) :: F)) := by
  refine Ct.intro (L0 := [.val (.ref l), .val (.ref y2)]) (plainFor_of_name pf_java_util_ArrayList) rfl (fun K => ?_)
  refine Wp.aloadN rfl rfl d_jdk_38_25_0 ?_
  refine Wp.dup rfl d_jdk_38_25_1 ?_
  refine Wp.getF nm_M_add_2 (host := "") (Or.inl (w_81 hw)) (Via.of (w_82 hw)) 0 0 rfl rfl d_jdk_38_25_2 ?_
  refine Wp.iconst lc_1 d_jdk_38_25_5 ?_
  refine Wp.iadd (z := 3) (by decide) d_jdk_38_25_6 ?_
  refine Wp.putF nm_M_add_2 (host := "") (Or.inl (w_81 hw)) (Via.of (w_82 hw)) 0 0 rfl rfl (Or.inl (w_72 hw)) (w_53 hw) (ty := .int) (by decide) rfl rfl d_jdk_38_25_7 (H' := ((oAL true l (.int 3) (.ref e) (.int 2)) :: (eO e [u0, u1, .null, .null, .null, .null, .null, .null, .null, .null]) :: (oStr ry2 y2 (v2) (c2)) :: F)) rfl ?_
  refine Wp.aloadN rfl rfl d_jdk_38_25_10 ?_
  refine Wp.aloadN rfl rfl d_jdk_38_25_11 ?_
  refine Wp.aloadN rfl rfl d_jdk_38_25_12 ?_
  refine Wp.getF nm_M_add_2 (host := "") (Or.inl (w_74 hw)) Via.refl 0 1 rfl rfl d_jdk_38_25_13 ?_
  refine Wp.aloadN rfl rfl d_jdk_38_25_16 ?_
  refine Wp.getF nm_M_add_2 (host := "") (Or.inl (w_83 hw)) Via.refl 0 2 rfl rfl d_jdk_38_25_17 ?_
  refine Wp.callP nm_M_add_2 (fun _ => rm_ad3_2 hw.set l e u0 u1 y2 ry2 v2 c2 _ ) 0 rfl (mk_M_ad3_2 hw) (w_85 hw) (w_86 hw) (w_88 hw) (w_87 hw) rfl rfl (Wn := 0) rfl rfl (by decide) d_jdk_38_25_20 ?_
  rintro _ _ ⟨rfl, rfl⟩
  refine Wp.iconst lc_1 d_jdk_38_25_23 ?_
  refine Wp.iretN (z := 1) (by simp) rfl (by decide) d_jdk_38_25_24 (by decide) (by decide) ?_
  exact ⟨rfl, rfl⟩
def M_ad3_3 : Mt := (⟨"java/util/ArrayList", "add", "(Ljava/lang/Object;[Ljava/lang/Object;I)V"⟩, jdk_38_method_24_code, 4, none, ⟨0, 0, 0, 0⟩)
theorem nm_M_ad3_3 : mN M_ad3_3 = ⟨"java/util/ArrayList", "add", "(Ljava/lang/Object;[Ljava/lang/Object;I)V"⟩ := by delta mN M_ad3_3; rfl
set_option maxRecDepth 65536 in
set_option maxHeartbeats 40000000 in
theorem rm_ad3_3 {W : Wd} (hw : Ws W) (l : Addr) (e : Addr) (u0 : Value) (u1 : Value) (u2 : Value) (y3 : Addr) (ry3 : Bool) (v3 : Value) (c3 : Value) (F : List En) : Ct W M_ad3_3 [.ref l, .ref y3, .ref e, .int 3] ((oAL true l (.int 4) (.ref e) (.int 3)) :: (eO e [u0, u1, u2, .null, .null, .null, .null, .null, .null, .null]) :: (oStr ry3 y3 (v3) (c3)) :: F) (fun v H' => v = none ∧ H' = ((oAL true l (.int 4) (.ref e) (.int 4)) :: (eO e [u0, u1, u2, .ref y3, .null, .null, .null, .null, .null, .null]) :: (oStr ry3 y3 (v3) (c3)) :: F)) := by
  refine Ct.intro (L0 := [.val (.ref l), .val (.ref y3), .val (.ref e), .val (.int 3)]) (plainFor_of_name pf_java_util_ArrayList) rfl (fun K => ?_)
  refine Wp.iloadN rfl d_jdk_38_24_0 ?_
  refine Wp.aloadN rfl rfl d_jdk_38_24_1 ?_
  refine Wp.alen (z := 10) 1 rfl rfl d_jdk_38_24_2 ?_
  refine Wp.icT (by decide) d_jdk_38_24_3 ?_
  refine Wp.aloadN rfl rfl d_jdk_38_24_11 ?_
  refine Wp.iloadN rfl d_jdk_38_24_12 ?_
  refine Wp.aloadN rfl rfl d_jdk_38_24_13 ?_
  refine Wp.aastore 1 3 rfl (by decide) (by decide) (show 3 < 10 by decide) (Or.inr ⟨_, rfl, (fun _ P => insCast P 2 rfl (w_106 hw))⟩) rfl d_jdk_38_24_14 (H' := ((oAL true l (.int 4) (.ref e) (.int 3)) :: (eO e [u0, u1, u2, .ref y3, .null, .null, .null, .null, .null, .null]) :: (oStr ry3 y3 (v3) (c3)) :: F)) rfl ?_
  refine Wp.aloadN rfl rfl d_jdk_38_24_15 ?_
  refine Wp.iloadN rfl d_jdk_38_24_16 ?_
  refine Wp.iconst lc_1 d_jdk_38_24_17 ?_
  refine Wp.iadd (z := 4) (by decide) d_jdk_38_24_18 ?_
  refine Wp.putF nm_M_ad3_3 (host := "") (Or.inl (w_83 hw)) Via.refl 0 2 rfl rfl (Or.inl (w_84 hw)) (w_53 hw) (ty := .int) (by decide) rfl rfl d_jdk_38_24_19 (H' := ((oAL true l (.int 4) (.ref e) (.int 4)) :: (eO e [u0, u1, u2, .ref y3, .null, .null, .null, .null, .null, .null]) :: (oStr ry3 y3 (v3) (c3)) :: F)) rfl ?_
  refine Wp.ret rfl d_jdk_38_24_22 (by decide) (by decide) ?_
  exact ⟨rfl, rfl⟩
theorem mk_M_ad3_3 {W : Wd} (hw : Ws W) : Mk W M_ad3_3 ⟨"java/util/ArrayList", "add", "(Ljava/lang/Object;[Ljava/lang/Object;I)V"⟩ 3 := Mk.of nm_M_ad3_3 rfl rfl rfl (w_89 hw) (w_54 hw) (mkLen pd__Ljava_lang_Object__Ljava_lang_Object_I_V rfl) (by decide)
def M_add_3 : Mt := (⟨"java/util/ArrayList", "add", "(Ljava/lang/Object;)Z"⟩, jdk_38_method_25_code, 2, some .boolean, ⟨1, 0, 0, 15⟩)
theorem nm_M_add_3 : mN M_add_3 = ⟨"java/util/ArrayList", "add", "(Ljava/lang/Object;)Z"⟩ := by delta mN M_add_3; rfl
set_option maxRecDepth 65536 in
set_option maxHeartbeats 40000000 in
theorem rm_add_3 {W : Wd} (hw : Ws W) (l : Addr) (e : Addr) (u0 : Value) (u1 : Value) (u2 : Value) (y3 : Addr) (ry3 : Bool) (v3 : Value) (c3 : Value) (F : List En) : Ct W M_add_3 [.ref l, .ref y3] ((oAL true l (.int 3) (.ref e) (.int 3)) :: (eO e [u0, u1, u2, .null, .null, .null, .null, .null, .null, .null]) :: (oStr ry3 y3 (v3) (c3)) :: F) (fun v H' => v = some (.int 1) ∧ H' = ((oAL true l (.int 4) (.ref e) (.int 4)) :: (eO e [u0, u1, u2, .ref y3, .null, .null, .null, .null, .null, .null]) :: (oStr ry3 y3 (v3) (c3)) :: F)) := by
  refine Ct.intro (L0 := [.val (.ref l), .val (.ref y3)]) (plainFor_of_name pf_java_util_ArrayList) rfl (fun K => ?_)
  refine Wp.aloadN rfl rfl d_jdk_38_25_0 ?_
  refine Wp.dup rfl d_jdk_38_25_1 ?_
  refine Wp.getF nm_M_add_3 (host := "") (Or.inl (w_81 hw)) (Via.of (w_82 hw)) 0 0 rfl rfl d_jdk_38_25_2 ?_
  refine Wp.iconst lc_1 d_jdk_38_25_5 ?_
  refine Wp.iadd (z := 4) (by decide) d_jdk_38_25_6 ?_
  refine Wp.putF nm_M_add_3 (host := "") (Or.inl (w_81 hw)) (Via.of (w_82 hw)) 0 0 rfl rfl (Or.inl (w_72 hw)) (w_53 hw) (ty := .int) (by decide) rfl rfl d_jdk_38_25_7 (H' := ((oAL true l (.int 4) (.ref e) (.int 3)) :: (eO e [u0, u1, u2, .null, .null, .null, .null, .null, .null, .null]) :: (oStr ry3 y3 (v3) (c3)) :: F)) rfl ?_
  refine Wp.aloadN rfl rfl d_jdk_38_25_10 ?_
  refine Wp.aloadN rfl rfl d_jdk_38_25_11 ?_
  refine Wp.aloadN rfl rfl d_jdk_38_25_12 ?_
  refine Wp.getF nm_M_add_3 (host := "") (Or.inl (w_74 hw)) Via.refl 0 1 rfl rfl d_jdk_38_25_13 ?_
  refine Wp.aloadN rfl rfl d_jdk_38_25_16 ?_
  refine Wp.getF nm_M_add_3 (host := "") (Or.inl (w_83 hw)) Via.refl 0 2 rfl rfl d_jdk_38_25_17 ?_
  refine Wp.callP nm_M_add_3 (fun _ => rm_ad3_3 hw.set l e u0 u1 u2 y3 ry3 v3 c3 _ ) 0 rfl (mk_M_ad3_3 hw) (w_85 hw) (w_86 hw) (w_88 hw) (w_87 hw) rfl rfl (Wn := 0) rfl rfl (by decide) d_jdk_38_25_20 ?_
  rintro _ _ ⟨rfl, rfl⟩
  refine Wp.iconst lc_1 d_jdk_38_25_23 ?_
  refine Wp.iretN (z := 1) (by simp) rfl (by decide) d_jdk_38_25_24 (by decide) (by decide) ?_
  exact ⟨rfl, rfl⟩
theorem d_method_2_0 : Dc method_2_code 0 (.bipush 18) 2 2 := ⟨by decide +kernel, rfl⟩
theorem lb_18 : (Int8.ofInt 18).toInt32 = 18 := by decide
theorem d_method_2_2 : Dc method_2_code 2 (.newarray .char) 2 4 := ⟨by decide +kernel, rfl⟩
theorem w_5 {W : Wd} (hw : Ws W) : Wok W (Jvm.Cond.arrayClass Jvm.ClassFile.FieldType.char) := hw.1 _ (List.mem_of_getElem? (i := 5) rfl)
theorem d_method_2_4 : Dc method_2_code 4 (.dup) 1 5 := ⟨by decide +kernel, rfl⟩
theorem d_method_2_5 : Dc method_2_code 5 (.iconst 0) 1 6 := ⟨by decide +kernel, rfl⟩
theorem d_method_2_6 : Dc method_2_code 6 (.bipush 109) 2 8 := ⟨by decide +kernel, rfl⟩
theorem lb_109 : (Int8.ofInt 109).toInt32 = 109 := by decide
theorem d_method_2_8 : Dc method_2_code 8 (.castore) 1 9 := ⟨by decide +kernel, rfl⟩
theorem d_method_2_9 : Dc method_2_code 9 (.dup) 1 10 := ⟨by decide +kernel, rfl⟩
theorem d_method_2_10 : Dc method_2_code 10 (.iconst 1) 1 11 := ⟨by decide +kernel, rfl⟩
theorem d_method_2_11 : Dc method_2_code 11 (.bipush 97) 2 13 := ⟨by decide +kernel, rfl⟩
theorem lb_97 : (Int8.ofInt 97).toInt32 = 97 := by decide
theorem d_method_2_13 : Dc method_2_code 13 (.castore) 1 14 := ⟨by decide +kernel, rfl⟩
theorem d_method_2_14 : Dc method_2_code 14 (.dup) 1 15 := ⟨by decide +kernel, rfl⟩
theorem d_method_2_15 : Dc method_2_code 15 (.iconst 2) 1 16 := ⟨by decide +kernel, rfl⟩
theorem lc_2 : Int32.ofInt 2 = 2 := by decide
theorem d_method_2_16 : Dc method_2_code 16 (.bipush 118) 2 18 := ⟨by decide +kernel, rfl⟩
theorem lb_118 : (Int8.ofInt 118).toInt32 = 118 := by decide
theorem d_method_2_18 : Dc method_2_code 18 (.castore) 1 19 := ⟨by decide +kernel, rfl⟩
theorem d_method_2_19 : Dc method_2_code 19 (.dup) 1 20 := ⟨by decide +kernel, rfl⟩
theorem d_method_2_20 : Dc method_2_code 20 (.iconst 3) 1 21 := ⟨by decide +kernel, rfl⟩
theorem lc_3 : Int32.ofInt 3 = 3 := by decide
theorem d_method_2_21 : Dc method_2_code 21 (.bipush 101) 2 23 := ⟨by decide +kernel, rfl⟩
theorem lb_101 : (Int8.ofInt 101).toInt32 = 101 := by decide
theorem d_method_2_23 : Dc method_2_code 23 (.castore) 1 24 := ⟨by decide +kernel, rfl⟩
theorem d_method_2_24 : Dc method_2_code 24 (.dup) 1 25 := ⟨by decide +kernel, rfl⟩
theorem d_method_2_25 : Dc method_2_code 25 (.iconst 4) 1 26 := ⟨by decide +kernel, rfl⟩
theorem lc_4 : Int32.ofInt 4 = 4 := by decide
theorem d_method_2_26 : Dc method_2_code 26 (.bipush 110) 2 28 := ⟨by decide +kernel, rfl⟩
theorem lb_110 : (Int8.ofInt 110).toInt32 = 110 := by decide
theorem d_method_2_28 : Dc method_2_code 28 (.castore) 1 29 := ⟨by decide +kernel, rfl⟩
theorem d_method_2_29 : Dc method_2_code 29 (.dup) 1 30 := ⟨by decide +kernel, rfl⟩
theorem d_method_2_30 : Dc method_2_code 30 (.iconst 5) 1 31 := ⟨by decide +kernel, rfl⟩
theorem lc_5 : Int32.ofInt 5 = 5 := by decide
theorem d_method_2_31 : Dc method_2_code 31 (.bipush 45) 2 33 := ⟨by decide +kernel, rfl⟩
theorem lb_45 : (Int8.ofInt 45).toInt32 = 45 := by decide
theorem d_method_2_33 : Dc method_2_code 33 (.castore) 1 34 := ⟨by decide +kernel, rfl⟩
theorem d_method_2_34 : Dc method_2_code 34 (.dup) 1 35 := ⟨by decide +kernel, rfl⟩
theorem d_method_2_35 : Dc method_2_code 35 (.bipush 6) 2 37 := ⟨by decide +kernel, rfl⟩
theorem lb_6 : (Int8.ofInt 6).toInt32 = 6 := by decide
theorem d_method_2_37 : Dc method_2_code 37 (.bipush 109) 2 39 := ⟨by decide +kernel, rfl⟩
theorem d_method_2_39 : Dc method_2_code 39 (.castore) 1 40 := ⟨by decide +kernel, rfl⟩
theorem d_method_2_40 : Dc method_2_code 40 (.dup) 1 41 := ⟨by decide +kernel, rfl⟩
theorem d_method_2_41 : Dc method_2_code 41 (.bipush 7) 2 43 := ⟨by decide +kernel, rfl⟩
theorem lb_7 : (Int8.ofInt 7).toInt32 = 7 := by decide
theorem d_method_2_43 : Dc method_2_code 43 (.bipush 101) 2 45 := ⟨by decide +kernel, rfl⟩
theorem d_method_2_45 : Dc method_2_code 45 (.castore) 1 46 := ⟨by decide +kernel, rfl⟩
theorem d_method_2_46 : Dc method_2_code 46 (.dup) 1 47 := ⟨by decide +kernel, rfl⟩
theorem d_method_2_47 : Dc method_2_code 47 (.bipush 8) 2 49 := ⟨by decide +kernel, rfl⟩
theorem lb_8 : (Int8.ofInt 8).toInt32 = 8 := by decide
theorem d_method_2_49 : Dc method_2_code 49 (.bipush 116) 2 51 := ⟨by decide +kernel, rfl⟩
theorem lb_116 : (Int8.ofInt 116).toInt32 = 116 := by decide
theorem d_method_2_51 : Dc method_2_code 51 (.castore) 1 52 := ⟨by decide +kernel, rfl⟩
theorem d_method_2_52 : Dc method_2_code 52 (.dup) 1 53 := ⟨by decide +kernel, rfl⟩
theorem d_method_2_53 : Dc method_2_code 53 (.bipush 9) 2 55 := ⟨by decide +kernel, rfl⟩
theorem lb_9 : (Int8.ofInt 9).toInt32 = 9 := by decide
theorem d_method_2_55 : Dc method_2_code 55 (.bipush 97) 2 57 := ⟨by decide +kernel, rfl⟩
theorem d_method_2_57 : Dc method_2_code 57 (.castore) 1 58 := ⟨by decide +kernel, rfl⟩
theorem d_method_2_58 : Dc method_2_code 58 (.dup) 1 59 := ⟨by decide +kernel, rfl⟩
theorem d_method_2_59 : Dc method_2_code 59 (.bipush 10) 2 61 := ⟨by decide +kernel, rfl⟩
theorem d_method_2_61 : Dc method_2_code 61 (.bipush 100) 2 63 := ⟨by decide +kernel, rfl⟩
theorem lb_100 : (Int8.ofInt 100).toInt32 = 100 := by decide
theorem d_method_2_63 : Dc method_2_code 63 (.castore) 1 64 := ⟨by decide +kernel, rfl⟩
theorem d_method_2_64 : Dc method_2_code 64 (.dup) 1 65 := ⟨by decide +kernel, rfl⟩
theorem d_method_2_65 : Dc method_2_code 65 (.bipush 11) 2 67 := ⟨by decide +kernel, rfl⟩
theorem lb_11 : (Int8.ofInt 11).toInt32 = 11 := by decide
theorem d_method_2_67 : Dc method_2_code 67 (.bipush 97) 2 69 := ⟨by decide +kernel, rfl⟩
theorem d_method_2_69 : Dc method_2_code 69 (.castore) 1 70 := ⟨by decide +kernel, rfl⟩
theorem d_method_2_70 : Dc method_2_code 70 (.dup) 1 71 := ⟨by decide +kernel, rfl⟩
theorem d_method_2_71 : Dc method_2_code 71 (.bipush 12) 2 73 := ⟨by decide +kernel, rfl⟩
theorem lb_12 : (Int8.ofInt 12).toInt32 = 12 := by decide
theorem d_method_2_73 : Dc method_2_code 73 (.bipush 116) 2 75 := ⟨by decide +kernel, rfl⟩
theorem d_method_2_75 : Dc method_2_code 75 (.castore) 1 76 := ⟨by decide +kernel, rfl⟩
theorem d_method_2_76 : Dc method_2_code 76 (.dup) 1 77 := ⟨by decide +kernel, rfl⟩
theorem d_method_2_77 : Dc method_2_code 77 (.bipush 13) 2 79 := ⟨by decide +kernel, rfl⟩
theorem lb_13 : (Int8.ofInt 13).toInt32 = 13 := by decide
theorem d_method_2_79 : Dc method_2_code 79 (.bipush 97) 2 81 := ⟨by decide +kernel, rfl⟩
theorem d_method_2_81 : Dc method_2_code 81 (.castore) 1 82 := ⟨by decide +kernel, rfl⟩
theorem d_method_2_82 : Dc method_2_code 82 (.dup) 1 83 := ⟨by decide +kernel, rfl⟩
theorem d_method_2_83 : Dc method_2_code 83 (.bipush 14) 2 85 := ⟨by decide +kernel, rfl⟩
theorem lb_14 : (Int8.ofInt 14).toInt32 = 14 := by decide
theorem d_method_2_85 : Dc method_2_code 85 (.bipush 46) 2 87 := ⟨by decide +kernel, rfl⟩
theorem lb_46 : (Int8.ofInt 46).toInt32 = 46 := by decide
theorem d_method_2_87 : Dc method_2_code 87 (.castore) 1 88 := ⟨by decide +kernel, rfl⟩
theorem d_method_2_88 : Dc method_2_code 88 (.dup) 1 89 := ⟨by decide +kernel, rfl⟩
theorem d_method_2_89 : Dc method_2_code 89 (.bipush 15) 2 91 := ⟨by decide +kernel, rfl⟩
theorem lb_15 : (Int8.ofInt 15).toInt32 = 15 := by decide
theorem d_method_2_91 : Dc method_2_code 91 (.bipush 120) 2 93 := ⟨by decide +kernel, rfl⟩
theorem lb_120 : (Int8.ofInt 120).toInt32 = 120 := by decide
theorem d_method_2_93 : Dc method_2_code 93 (.castore) 1 94 := ⟨by decide +kernel, rfl⟩
theorem d_method_2_94 : Dc method_2_code 94 (.dup) 1 95 := ⟨by decide +kernel, rfl⟩
theorem d_method_2_95 : Dc method_2_code 95 (.bipush 16) 2 97 := ⟨by decide +kernel, rfl⟩
theorem lb_16 : (Int8.ofInt 16).toInt32 = 16 := by decide
theorem d_method_2_97 : Dc method_2_code 97 (.bipush 109) 2 99 := ⟨by decide +kernel, rfl⟩
theorem d_method_2_99 : Dc method_2_code 99 (.castore) 1 100 := ⟨by decide +kernel, rfl⟩
theorem d_method_2_100 : Dc method_2_code 100 (.dup) 1 101 := ⟨by decide +kernel, rfl⟩
theorem d_method_2_101 : Dc method_2_code 101 (.bipush 17) 2 103 := ⟨by decide +kernel, rfl⟩
theorem lb_17 : (Int8.ofInt 17).toInt32 = 17 := by decide
theorem d_method_2_103 : Dc method_2_code 103 (.bipush 108) 2 105 := ⟨by decide +kernel, rfl⟩
theorem lb_108 : (Int8.ofInt 108).toInt32 = 108 := by decide
theorem d_method_2_105 : Dc method_2_code 105 (.castore) 1 106 := ⟨by decide +kernel, rfl⟩
theorem d_method_2_106 : Dc method_2_code 106 (.areturn) 1 107 := ⟨by decide +kernel, rfl⟩
def M_ca0 : Mt := (method_2, method_2_code, 0, some (.array .char), ⟨0, 1, 18, 0⟩)
theorem nm_M_ca0 : mN M_ca0 = method_2 := by delta mN M_ca0; rfl
theorem pf_com_example_binhold_binhold_maven_MavenLayoutIsMetadataPinLaw : plainName "com/example/binhold/binhold/maven/MavenLayoutIsMetadataPinLaw" = true := by first | (simp [plainName, overriddenIn]; done) | decide +kernel
set_option maxRecDepth 65536 in
set_option maxHeartbeats 40000000 in
theorem rm_ca0 {W : Wd} (hw : Ws W) (F : List En) : Ct W M_ca0 [] F (fun v H' => ∃ a, v = some (.ref a) ∧ H' = ((eC a [.int 109, .int 97, .int 118, .int 101, .int 110, .int 45, .int 109, .int 101, .int 116, .int 97, .int 100, .int 97, .int 116, .int 97, .int 46, .int 120, .int 109, .int 108]) :: F)) := by
  refine Ct.intro (L0 := []) (plainFor_of_name pf_com_example_binhold_binhold_maven_MavenLayoutIsMetadataPinLaw) rfl (fun K => ?_)
  refine Wp.bipush lb_18 d_method_2_0 ?_
  refine Wp.newP (kk := 18) (vs := [.int 0, .int 0, .int 0, .int 0, .int 0, .int 0, .int 0, .int 0, .int 0, .int 0, .int 0, .int 0, .int 0, .int 0, .int 0, .int 0, .int 0, .int 0]) d_method_2_2 (w_5 hw) (by decide) (by decide) (by decide) (by decide) (by decide) rfl (fun a1 => ?_)
  refine Wp.dup rfl d_method_2_4 ?_
  refine Wp.iconst lc_0 d_method_2_5 ?_
  refine Wp.bipush lb_109 d_method_2_6 ?_
  refine Wp.castore (z := 109) 0 0 rfl (by decide) (by decide) (show 0 < 18 by decide) (by decide) d_method_2_8 (H' := ((eC a1 [.int 109, .int 0, .int 0, .int 0, .int 0, .int 0, .int 0, .int 0, .int 0, .int 0, .int 0, .int 0, .int 0, .int 0, .int 0, .int 0, .int 0, .int 0]) :: F)) rfl ?_
  refine Wp.dup rfl d_method_2_9 ?_
  refine Wp.iconst lc_1 d_method_2_10 ?_
  refine Wp.bipush lb_97 d_method_2_11 ?_
  refine Wp.castore (z := 97) 0 1 rfl (by decide) (by decide) (show 1 < 18 by decide) (by decide) d_method_2_13 (H' := ((eC a1 [.int 109, .int 97, .int 0, .int 0, .int 0, .int 0, .int 0, .int 0, .int 0, .int 0, .int 0, .int 0, .int 0, .int 0, .int 0, .int 0, .int 0, .int 0]) :: F)) rfl ?_
  refine Wp.dup rfl d_method_2_14 ?_
  refine Wp.iconst lc_2 d_method_2_15 ?_
  refine Wp.bipush lb_118 d_method_2_16 ?_
  refine Wp.castore (z := 118) 0 2 rfl (by decide) (by decide) (show 2 < 18 by decide) (by decide) d_method_2_18 (H' := ((eC a1 [.int 109, .int 97, .int 118, .int 0, .int 0, .int 0, .int 0, .int 0, .int 0, .int 0, .int 0, .int 0, .int 0, .int 0, .int 0, .int 0, .int 0, .int 0]) :: F)) rfl ?_
  refine Wp.dup rfl d_method_2_19 ?_
  refine Wp.iconst lc_3 d_method_2_20 ?_
  refine Wp.bipush lb_101 d_method_2_21 ?_
  refine Wp.castore (z := 101) 0 3 rfl (by decide) (by decide) (show 3 < 18 by decide) (by decide) d_method_2_23 (H' := ((eC a1 [.int 109, .int 97, .int 118, .int 101, .int 0, .int 0, .int 0, .int 0, .int 0, .int 0, .int 0, .int 0, .int 0, .int 0, .int 0, .int 0, .int 0, .int 0]) :: F)) rfl ?_
  refine Wp.dup rfl d_method_2_24 ?_
  refine Wp.iconst lc_4 d_method_2_25 ?_
  refine Wp.bipush lb_110 d_method_2_26 ?_
  refine Wp.castore (z := 110) 0 4 rfl (by decide) (by decide) (show 4 < 18 by decide) (by decide) d_method_2_28 (H' := ((eC a1 [.int 109, .int 97, .int 118, .int 101, .int 110, .int 0, .int 0, .int 0, .int 0, .int 0, .int 0, .int 0, .int 0, .int 0, .int 0, .int 0, .int 0, .int 0]) :: F)) rfl ?_
  refine Wp.dup rfl d_method_2_29 ?_
  refine Wp.iconst lc_5 d_method_2_30 ?_
  refine Wp.bipush lb_45 d_method_2_31 ?_
  refine Wp.castore (z := 45) 0 5 rfl (by decide) (by decide) (show 5 < 18 by decide) (by decide) d_method_2_33 (H' := ((eC a1 [.int 109, .int 97, .int 118, .int 101, .int 110, .int 45, .int 0, .int 0, .int 0, .int 0, .int 0, .int 0, .int 0, .int 0, .int 0, .int 0, .int 0, .int 0]) :: F)) rfl ?_
  refine Wp.dup rfl d_method_2_34 ?_
  refine Wp.bipush lb_6 d_method_2_35 ?_
  refine Wp.bipush lb_109 d_method_2_37 ?_
  refine Wp.castore (z := 109) 0 6 rfl (by decide) (by decide) (show 6 < 18 by decide) (by decide) d_method_2_39 (H' := ((eC a1 [.int 109, .int 97, .int 118, .int 101, .int 110, .int 45, .int 109, .int 0, .int 0, .int 0, .int 0, .int 0, .int 0, .int 0, .int 0, .int 0, .int 0, .int 0]) :: F)) rfl ?_
  refine Wp.dup rfl d_method_2_40 ?_
  refine Wp.bipush lb_7 d_method_2_41 ?_
  refine Wp.bipush lb_101 d_method_2_43 ?_
  refine Wp.castore (z := 101) 0 7 rfl (by decide) (by decide) (show 7 < 18 by decide) (by decide) d_method_2_45 (H' := ((eC a1 [.int 109, .int 97, .int 118, .int 101, .int 110, .int 45, .int 109, .int 101, .int 0, .int 0, .int 0, .int 0, .int 0, .int 0, .int 0, .int 0, .int 0, .int 0]) :: F)) rfl ?_
  refine Wp.dup rfl d_method_2_46 ?_
  refine Wp.bipush lb_8 d_method_2_47 ?_
  refine Wp.bipush lb_116 d_method_2_49 ?_
  refine Wp.castore (z := 116) 0 8 rfl (by decide) (by decide) (show 8 < 18 by decide) (by decide) d_method_2_51 (H' := ((eC a1 [.int 109, .int 97, .int 118, .int 101, .int 110, .int 45, .int 109, .int 101, .int 116, .int 0, .int 0, .int 0, .int 0, .int 0, .int 0, .int 0, .int 0, .int 0]) :: F)) rfl ?_
  refine Wp.dup rfl d_method_2_52 ?_
  refine Wp.bipush lb_9 d_method_2_53 ?_
  refine Wp.bipush lb_97 d_method_2_55 ?_
  refine Wp.castore (z := 97) 0 9 rfl (by decide) (by decide) (show 9 < 18 by decide) (by decide) d_method_2_57 (H' := ((eC a1 [.int 109, .int 97, .int 118, .int 101, .int 110, .int 45, .int 109, .int 101, .int 116, .int 97, .int 0, .int 0, .int 0, .int 0, .int 0, .int 0, .int 0, .int 0]) :: F)) rfl ?_
  refine Wp.dup rfl d_method_2_58 ?_
  refine Wp.bipush lb_10 d_method_2_59 ?_
  refine Wp.bipush lb_100 d_method_2_61 ?_
  refine Wp.castore (z := 100) 0 10 rfl (by decide) (by decide) (show 10 < 18 by decide) (by decide) d_method_2_63 (H' := ((eC a1 [.int 109, .int 97, .int 118, .int 101, .int 110, .int 45, .int 109, .int 101, .int 116, .int 97, .int 100, .int 0, .int 0, .int 0, .int 0, .int 0, .int 0, .int 0]) :: F)) rfl ?_
  refine Wp.dup rfl d_method_2_64 ?_
  refine Wp.bipush lb_11 d_method_2_65 ?_
  refine Wp.bipush lb_97 d_method_2_67 ?_
  refine Wp.castore (z := 97) 0 11 rfl (by decide) (by decide) (show 11 < 18 by decide) (by decide) d_method_2_69 (H' := ((eC a1 [.int 109, .int 97, .int 118, .int 101, .int 110, .int 45, .int 109, .int 101, .int 116, .int 97, .int 100, .int 97, .int 0, .int 0, .int 0, .int 0, .int 0, .int 0]) :: F)) rfl ?_
  refine Wp.dup rfl d_method_2_70 ?_
  refine Wp.bipush lb_12 d_method_2_71 ?_
  refine Wp.bipush lb_116 d_method_2_73 ?_
  refine Wp.castore (z := 116) 0 12 rfl (by decide) (by decide) (show 12 < 18 by decide) (by decide) d_method_2_75 (H' := ((eC a1 [.int 109, .int 97, .int 118, .int 101, .int 110, .int 45, .int 109, .int 101, .int 116, .int 97, .int 100, .int 97, .int 116, .int 0, .int 0, .int 0, .int 0, .int 0]) :: F)) rfl ?_
  refine Wp.dup rfl d_method_2_76 ?_
  refine Wp.bipush lb_13 d_method_2_77 ?_
  refine Wp.bipush lb_97 d_method_2_79 ?_
  refine Wp.castore (z := 97) 0 13 rfl (by decide) (by decide) (show 13 < 18 by decide) (by decide) d_method_2_81 (H' := ((eC a1 [.int 109, .int 97, .int 118, .int 101, .int 110, .int 45, .int 109, .int 101, .int 116, .int 97, .int 100, .int 97, .int 116, .int 97, .int 0, .int 0, .int 0, .int 0]) :: F)) rfl ?_
  refine Wp.dup rfl d_method_2_82 ?_
  refine Wp.bipush lb_14 d_method_2_83 ?_
  refine Wp.bipush lb_46 d_method_2_85 ?_
  refine Wp.castore (z := 46) 0 14 rfl (by decide) (by decide) (show 14 < 18 by decide) (by decide) d_method_2_87 (H' := ((eC a1 [.int 109, .int 97, .int 118, .int 101, .int 110, .int 45, .int 109, .int 101, .int 116, .int 97, .int 100, .int 97, .int 116, .int 97, .int 46, .int 0, .int 0, .int 0]) :: F)) rfl ?_
  refine Wp.dup rfl d_method_2_88 ?_
  refine Wp.bipush lb_15 d_method_2_89 ?_
  refine Wp.bipush lb_120 d_method_2_91 ?_
  refine Wp.castore (z := 120) 0 15 rfl (by decide) (by decide) (show 15 < 18 by decide) (by decide) d_method_2_93 (H' := ((eC a1 [.int 109, .int 97, .int 118, .int 101, .int 110, .int 45, .int 109, .int 101, .int 116, .int 97, .int 100, .int 97, .int 116, .int 97, .int 46, .int 120, .int 0, .int 0]) :: F)) rfl ?_
  refine Wp.dup rfl d_method_2_94 ?_
  refine Wp.bipush lb_16 d_method_2_95 ?_
  refine Wp.bipush lb_109 d_method_2_97 ?_
  refine Wp.castore (z := 109) 0 16 rfl (by decide) (by decide) (show 16 < 18 by decide) (by decide) d_method_2_99 (H' := ((eC a1 [.int 109, .int 97, .int 118, .int 101, .int 110, .int 45, .int 109, .int 101, .int 116, .int 97, .int 100, .int 97, .int 116, .int 97, .int 46, .int 120, .int 109, .int 0]) :: F)) rfl ?_
  refine Wp.dup rfl d_method_2_100 ?_
  refine Wp.bipush lb_17 d_method_2_101 ?_
  refine Wp.bipush lb_108 d_method_2_103 ?_
  refine Wp.castore (z := 108) 0 17 rfl (by decide) (by decide) (show 17 < 18 by decide) (by decide) d_method_2_105 (H' := ((eC a1 [.int 109, .int 97, .int 118, .int 101, .int 110, .int 45, .int 109, .int 101, .int 116, .int 97, .int 100, .int 97, .int 116, .int 97, .int 46, .int 120, .int 109, .int 108]) :: F)) rfl ?_
  refine Wp.aret rfl rfl rfl d_method_2_106 (by decide) (by decide) ?_
  exact ⟨a1, rfl, rfl⟩
theorem d_method_4_0 : Dc method_4_code 0 (.bipush 17) 2 2 := ⟨by decide +kernel, rfl⟩
theorem d_method_4_2 : Dc method_4_code 2 (.newarray .char) 2 4 := ⟨by decide +kernel, rfl⟩
theorem d_method_4_4 : Dc method_4_code 4 (.dup) 1 5 := ⟨by decide +kernel, rfl⟩
theorem d_method_4_5 : Dc method_4_code 5 (.iconst 0) 1 6 := ⟨by decide +kernel, rfl⟩
theorem d_method_4_6 : Dc method_4_code 6 (.bipush 109) 2 8 := ⟨by decide +kernel, rfl⟩
theorem d_method_4_8 : Dc method_4_code 8 (.castore) 1 9 := ⟨by decide +kernel, rfl⟩
theorem d_method_4_9 : Dc method_4_code 9 (.dup) 1 10 := ⟨by decide +kernel, rfl⟩
theorem d_method_4_10 : Dc method_4_code 10 (.iconst 1) 1 11 := ⟨by decide +kernel, rfl⟩
theorem d_method_4_11 : Dc method_4_code 11 (.bipush 97) 2 13 := ⟨by decide +kernel, rfl⟩
theorem d_method_4_13 : Dc method_4_code 13 (.castore) 1 14 := ⟨by decide +kernel, rfl⟩
theorem d_method_4_14 : Dc method_4_code 14 (.dup) 1 15 := ⟨by decide +kernel, rfl⟩
theorem d_method_4_15 : Dc method_4_code 15 (.iconst 2) 1 16 := ⟨by decide +kernel, rfl⟩
theorem d_method_4_16 : Dc method_4_code 16 (.bipush 118) 2 18 := ⟨by decide +kernel, rfl⟩
theorem d_method_4_18 : Dc method_4_code 18 (.castore) 1 19 := ⟨by decide +kernel, rfl⟩
theorem d_method_4_19 : Dc method_4_code 19 (.dup) 1 20 := ⟨by decide +kernel, rfl⟩
theorem d_method_4_20 : Dc method_4_code 20 (.iconst 3) 1 21 := ⟨by decide +kernel, rfl⟩
theorem d_method_4_21 : Dc method_4_code 21 (.bipush 101) 2 23 := ⟨by decide +kernel, rfl⟩
theorem d_method_4_23 : Dc method_4_code 23 (.castore) 1 24 := ⟨by decide +kernel, rfl⟩
theorem d_method_4_24 : Dc method_4_code 24 (.dup) 1 25 := ⟨by decide +kernel, rfl⟩
theorem d_method_4_25 : Dc method_4_code 25 (.iconst 4) 1 26 := ⟨by decide +kernel, rfl⟩
theorem d_method_4_26 : Dc method_4_code 26 (.bipush 110) 2 28 := ⟨by decide +kernel, rfl⟩
theorem d_method_4_28 : Dc method_4_code 28 (.castore) 1 29 := ⟨by decide +kernel, rfl⟩
theorem d_method_4_29 : Dc method_4_code 29 (.dup) 1 30 := ⟨by decide +kernel, rfl⟩
theorem d_method_4_30 : Dc method_4_code 30 (.iconst 5) 1 31 := ⟨by decide +kernel, rfl⟩
theorem d_method_4_31 : Dc method_4_code 31 (.bipush 45) 2 33 := ⟨by decide +kernel, rfl⟩
theorem d_method_4_33 : Dc method_4_code 33 (.castore) 1 34 := ⟨by decide +kernel, rfl⟩
theorem d_method_4_34 : Dc method_4_code 34 (.dup) 1 35 := ⟨by decide +kernel, rfl⟩
theorem d_method_4_35 : Dc method_4_code 35 (.bipush 6) 2 37 := ⟨by decide +kernel, rfl⟩
theorem d_method_4_37 : Dc method_4_code 37 (.bipush 109) 2 39 := ⟨by decide +kernel, rfl⟩
theorem d_method_4_39 : Dc method_4_code 39 (.castore) 1 40 := ⟨by decide +kernel, rfl⟩
theorem d_method_4_40 : Dc method_4_code 40 (.dup) 1 41 := ⟨by decide +kernel, rfl⟩
theorem d_method_4_41 : Dc method_4_code 41 (.bipush 7) 2 43 := ⟨by decide +kernel, rfl⟩
theorem d_method_4_43 : Dc method_4_code 43 (.bipush 101) 2 45 := ⟨by decide +kernel, rfl⟩
theorem d_method_4_45 : Dc method_4_code 45 (.castore) 1 46 := ⟨by decide +kernel, rfl⟩
theorem d_method_4_46 : Dc method_4_code 46 (.dup) 1 47 := ⟨by decide +kernel, rfl⟩
theorem d_method_4_47 : Dc method_4_code 47 (.bipush 8) 2 49 := ⟨by decide +kernel, rfl⟩
theorem d_method_4_49 : Dc method_4_code 49 (.bipush 116) 2 51 := ⟨by decide +kernel, rfl⟩
theorem d_method_4_51 : Dc method_4_code 51 (.castore) 1 52 := ⟨by decide +kernel, rfl⟩
theorem d_method_4_52 : Dc method_4_code 52 (.dup) 1 53 := ⟨by decide +kernel, rfl⟩
theorem d_method_4_53 : Dc method_4_code 53 (.bipush 9) 2 55 := ⟨by decide +kernel, rfl⟩
theorem d_method_4_55 : Dc method_4_code 55 (.bipush 97) 2 57 := ⟨by decide +kernel, rfl⟩
theorem d_method_4_57 : Dc method_4_code 57 (.castore) 1 58 := ⟨by decide +kernel, rfl⟩
theorem d_method_4_58 : Dc method_4_code 58 (.dup) 1 59 := ⟨by decide +kernel, rfl⟩
theorem d_method_4_59 : Dc method_4_code 59 (.bipush 10) 2 61 := ⟨by decide +kernel, rfl⟩
theorem d_method_4_61 : Dc method_4_code 61 (.bipush 100) 2 63 := ⟨by decide +kernel, rfl⟩
theorem d_method_4_63 : Dc method_4_code 63 (.castore) 1 64 := ⟨by decide +kernel, rfl⟩
theorem d_method_4_64 : Dc method_4_code 64 (.dup) 1 65 := ⟨by decide +kernel, rfl⟩
theorem d_method_4_65 : Dc method_4_code 65 (.bipush 11) 2 67 := ⟨by decide +kernel, rfl⟩
theorem d_method_4_67 : Dc method_4_code 67 (.bipush 97) 2 69 := ⟨by decide +kernel, rfl⟩
theorem d_method_4_69 : Dc method_4_code 69 (.castore) 1 70 := ⟨by decide +kernel, rfl⟩
theorem d_method_4_70 : Dc method_4_code 70 (.dup) 1 71 := ⟨by decide +kernel, rfl⟩
theorem d_method_4_71 : Dc method_4_code 71 (.bipush 12) 2 73 := ⟨by decide +kernel, rfl⟩
theorem d_method_4_73 : Dc method_4_code 73 (.bipush 116) 2 75 := ⟨by decide +kernel, rfl⟩
theorem d_method_4_75 : Dc method_4_code 75 (.castore) 1 76 := ⟨by decide +kernel, rfl⟩
theorem d_method_4_76 : Dc method_4_code 76 (.dup) 1 77 := ⟨by decide +kernel, rfl⟩
theorem d_method_4_77 : Dc method_4_code 77 (.bipush 13) 2 79 := ⟨by decide +kernel, rfl⟩
theorem d_method_4_79 : Dc method_4_code 79 (.bipush 97) 2 81 := ⟨by decide +kernel, rfl⟩
theorem d_method_4_81 : Dc method_4_code 81 (.castore) 1 82 := ⟨by decide +kernel, rfl⟩
theorem d_method_4_82 : Dc method_4_code 82 (.dup) 1 83 := ⟨by decide +kernel, rfl⟩
theorem d_method_4_83 : Dc method_4_code 83 (.bipush 14) 2 85 := ⟨by decide +kernel, rfl⟩
theorem d_method_4_85 : Dc method_4_code 85 (.bipush 46) 2 87 := ⟨by decide +kernel, rfl⟩
theorem d_method_4_87 : Dc method_4_code 87 (.castore) 1 88 := ⟨by decide +kernel, rfl⟩
theorem d_method_4_88 : Dc method_4_code 88 (.dup) 1 89 := ⟨by decide +kernel, rfl⟩
theorem d_method_4_89 : Dc method_4_code 89 (.bipush 15) 2 91 := ⟨by decide +kernel, rfl⟩
theorem d_method_4_91 : Dc method_4_code 91 (.bipush 120) 2 93 := ⟨by decide +kernel, rfl⟩
theorem d_method_4_93 : Dc method_4_code 93 (.castore) 1 94 := ⟨by decide +kernel, rfl⟩
theorem d_method_4_94 : Dc method_4_code 94 (.dup) 1 95 := ⟨by decide +kernel, rfl⟩
theorem d_method_4_95 : Dc method_4_code 95 (.bipush 16) 2 97 := ⟨by decide +kernel, rfl⟩
theorem d_method_4_97 : Dc method_4_code 97 (.bipush 109) 2 99 := ⟨by decide +kernel, rfl⟩
theorem d_method_4_99 : Dc method_4_code 99 (.castore) 1 100 := ⟨by decide +kernel, rfl⟩
theorem d_method_4_100 : Dc method_4_code 100 (.areturn) 1 101 := ⟨by decide +kernel, rfl⟩
def M_ca2 : Mt := (⟨"com/example/binhold/binhold/maven/MavenLayoutIsMetadataPinLaw", "metaShort", "()[C"⟩, method_4_code, 0, some (.array .char), ⟨0, 1, 17, 0⟩)
theorem nm_M_ca2 : mN M_ca2 = ⟨"com/example/binhold/binhold/maven/MavenLayoutIsMetadataPinLaw", "metaShort", "()[C"⟩ := by delta mN M_ca2; rfl
set_option maxRecDepth 65536 in
set_option maxHeartbeats 40000000 in
theorem rm_ca2 {W : Wd} (hw : Ws W) (F : List En) : Ct W M_ca2 [] F (fun v H' => ∃ a, v = some (.ref a) ∧ H' = ((eC a [.int 109, .int 97, .int 118, .int 101, .int 110, .int 45, .int 109, .int 101, .int 116, .int 97, .int 100, .int 97, .int 116, .int 97, .int 46, .int 120, .int 109]) :: F)) := by
  refine Ct.intro (L0 := []) (plainFor_of_name pf_com_example_binhold_binhold_maven_MavenLayoutIsMetadataPinLaw) rfl (fun K => ?_)
  refine Wp.bipush lb_17 d_method_4_0 ?_
  refine Wp.newP (kk := 17) (vs := [.int 0, .int 0, .int 0, .int 0, .int 0, .int 0, .int 0, .int 0, .int 0, .int 0, .int 0, .int 0, .int 0, .int 0, .int 0, .int 0, .int 0]) d_method_4_2 (w_5 hw) (by decide) (by decide) (by decide) (by decide) (by decide) rfl (fun a1 => ?_)
  refine Wp.dup rfl d_method_4_4 ?_
  refine Wp.iconst lc_0 d_method_4_5 ?_
  refine Wp.bipush lb_109 d_method_4_6 ?_
  refine Wp.castore (z := 109) 0 0 rfl (by decide) (by decide) (show 0 < 17 by decide) (by decide) d_method_4_8 (H' := ((eC a1 [.int 109, .int 0, .int 0, .int 0, .int 0, .int 0, .int 0, .int 0, .int 0, .int 0, .int 0, .int 0, .int 0, .int 0, .int 0, .int 0, .int 0]) :: F)) rfl ?_
  refine Wp.dup rfl d_method_4_9 ?_
  refine Wp.iconst lc_1 d_method_4_10 ?_
  refine Wp.bipush lb_97 d_method_4_11 ?_
  refine Wp.castore (z := 97) 0 1 rfl (by decide) (by decide) (show 1 < 17 by decide) (by decide) d_method_4_13 (H' := ((eC a1 [.int 109, .int 97, .int 0, .int 0, .int 0, .int 0, .int 0, .int 0, .int 0, .int 0, .int 0, .int 0, .int 0, .int 0, .int 0, .int 0, .int 0]) :: F)) rfl ?_
  refine Wp.dup rfl d_method_4_14 ?_
  refine Wp.iconst lc_2 d_method_4_15 ?_
  refine Wp.bipush lb_118 d_method_4_16 ?_
  refine Wp.castore (z := 118) 0 2 rfl (by decide) (by decide) (show 2 < 17 by decide) (by decide) d_method_4_18 (H' := ((eC a1 [.int 109, .int 97, .int 118, .int 0, .int 0, .int 0, .int 0, .int 0, .int 0, .int 0, .int 0, .int 0, .int 0, .int 0, .int 0, .int 0, .int 0]) :: F)) rfl ?_
  refine Wp.dup rfl d_method_4_19 ?_
  refine Wp.iconst lc_3 d_method_4_20 ?_
  refine Wp.bipush lb_101 d_method_4_21 ?_
  refine Wp.castore (z := 101) 0 3 rfl (by decide) (by decide) (show 3 < 17 by decide) (by decide) d_method_4_23 (H' := ((eC a1 [.int 109, .int 97, .int 118, .int 101, .int 0, .int 0, .int 0, .int 0, .int 0, .int 0, .int 0, .int 0, .int 0, .int 0, .int 0, .int 0, .int 0]) :: F)) rfl ?_
  refine Wp.dup rfl d_method_4_24 ?_
  refine Wp.iconst lc_4 d_method_4_25 ?_
  refine Wp.bipush lb_110 d_method_4_26 ?_
  refine Wp.castore (z := 110) 0 4 rfl (by decide) (by decide) (show 4 < 17 by decide) (by decide) d_method_4_28 (H' := ((eC a1 [.int 109, .int 97, .int 118, .int 101, .int 110, .int 0, .int 0, .int 0, .int 0, .int 0, .int 0, .int 0, .int 0, .int 0, .int 0, .int 0, .int 0]) :: F)) rfl ?_
  refine Wp.dup rfl d_method_4_29 ?_
  refine Wp.iconst lc_5 d_method_4_30 ?_
  refine Wp.bipush lb_45 d_method_4_31 ?_
  refine Wp.castore (z := 45) 0 5 rfl (by decide) (by decide) (show 5 < 17 by decide) (by decide) d_method_4_33 (H' := ((eC a1 [.int 109, .int 97, .int 118, .int 101, .int 110, .int 45, .int 0, .int 0, .int 0, .int 0, .int 0, .int 0, .int 0, .int 0, .int 0, .int 0, .int 0]) :: F)) rfl ?_
  refine Wp.dup rfl d_method_4_34 ?_
  refine Wp.bipush lb_6 d_method_4_35 ?_
  refine Wp.bipush lb_109 d_method_4_37 ?_
  refine Wp.castore (z := 109) 0 6 rfl (by decide) (by decide) (show 6 < 17 by decide) (by decide) d_method_4_39 (H' := ((eC a1 [.int 109, .int 97, .int 118, .int 101, .int 110, .int 45, .int 109, .int 0, .int 0, .int 0, .int 0, .int 0, .int 0, .int 0, .int 0, .int 0, .int 0]) :: F)) rfl ?_
  refine Wp.dup rfl d_method_4_40 ?_
  refine Wp.bipush lb_7 d_method_4_41 ?_
  refine Wp.bipush lb_101 d_method_4_43 ?_
  refine Wp.castore (z := 101) 0 7 rfl (by decide) (by decide) (show 7 < 17 by decide) (by decide) d_method_4_45 (H' := ((eC a1 [.int 109, .int 97, .int 118, .int 101, .int 110, .int 45, .int 109, .int 101, .int 0, .int 0, .int 0, .int 0, .int 0, .int 0, .int 0, .int 0, .int 0]) :: F)) rfl ?_
  refine Wp.dup rfl d_method_4_46 ?_
  refine Wp.bipush lb_8 d_method_4_47 ?_
  refine Wp.bipush lb_116 d_method_4_49 ?_
  refine Wp.castore (z := 116) 0 8 rfl (by decide) (by decide) (show 8 < 17 by decide) (by decide) d_method_4_51 (H' := ((eC a1 [.int 109, .int 97, .int 118, .int 101, .int 110, .int 45, .int 109, .int 101, .int 116, .int 0, .int 0, .int 0, .int 0, .int 0, .int 0, .int 0, .int 0]) :: F)) rfl ?_
  refine Wp.dup rfl d_method_4_52 ?_
  refine Wp.bipush lb_9 d_method_4_53 ?_
  refine Wp.bipush lb_97 d_method_4_55 ?_
  refine Wp.castore (z := 97) 0 9 rfl (by decide) (by decide) (show 9 < 17 by decide) (by decide) d_method_4_57 (H' := ((eC a1 [.int 109, .int 97, .int 118, .int 101, .int 110, .int 45, .int 109, .int 101, .int 116, .int 97, .int 0, .int 0, .int 0, .int 0, .int 0, .int 0, .int 0]) :: F)) rfl ?_
  refine Wp.dup rfl d_method_4_58 ?_
  refine Wp.bipush lb_10 d_method_4_59 ?_
  refine Wp.bipush lb_100 d_method_4_61 ?_
  refine Wp.castore (z := 100) 0 10 rfl (by decide) (by decide) (show 10 < 17 by decide) (by decide) d_method_4_63 (H' := ((eC a1 [.int 109, .int 97, .int 118, .int 101, .int 110, .int 45, .int 109, .int 101, .int 116, .int 97, .int 100, .int 0, .int 0, .int 0, .int 0, .int 0, .int 0]) :: F)) rfl ?_
  refine Wp.dup rfl d_method_4_64 ?_
  refine Wp.bipush lb_11 d_method_4_65 ?_
  refine Wp.bipush lb_97 d_method_4_67 ?_
  refine Wp.castore (z := 97) 0 11 rfl (by decide) (by decide) (show 11 < 17 by decide) (by decide) d_method_4_69 (H' := ((eC a1 [.int 109, .int 97, .int 118, .int 101, .int 110, .int 45, .int 109, .int 101, .int 116, .int 97, .int 100, .int 97, .int 0, .int 0, .int 0, .int 0, .int 0]) :: F)) rfl ?_
  refine Wp.dup rfl d_method_4_70 ?_
  refine Wp.bipush lb_12 d_method_4_71 ?_
  refine Wp.bipush lb_116 d_method_4_73 ?_
  refine Wp.castore (z := 116) 0 12 rfl (by decide) (by decide) (show 12 < 17 by decide) (by decide) d_method_4_75 (H' := ((eC a1 [.int 109, .int 97, .int 118, .int 101, .int 110, .int 45, .int 109, .int 101, .int 116, .int 97, .int 100, .int 97, .int 116, .int 0, .int 0, .int 0, .int 0]) :: F)) rfl ?_
  refine Wp.dup rfl d_method_4_76 ?_
  refine Wp.bipush lb_13 d_method_4_77 ?_
  refine Wp.bipush lb_97 d_method_4_79 ?_
  refine Wp.castore (z := 97) 0 13 rfl (by decide) (by decide) (show 13 < 17 by decide) (by decide) d_method_4_81 (H' := ((eC a1 [.int 109, .int 97, .int 118, .int 101, .int 110, .int 45, .int 109, .int 101, .int 116, .int 97, .int 100, .int 97, .int 116, .int 97, .int 0, .int 0, .int 0]) :: F)) rfl ?_
  refine Wp.dup rfl d_method_4_82 ?_
  refine Wp.bipush lb_14 d_method_4_83 ?_
  refine Wp.bipush lb_46 d_method_4_85 ?_
  refine Wp.castore (z := 46) 0 14 rfl (by decide) (by decide) (show 14 < 17 by decide) (by decide) d_method_4_87 (H' := ((eC a1 [.int 109, .int 97, .int 118, .int 101, .int 110, .int 45, .int 109, .int 101, .int 116, .int 97, .int 100, .int 97, .int 116, .int 97, .int 46, .int 0, .int 0]) :: F)) rfl ?_
  refine Wp.dup rfl d_method_4_88 ?_
  refine Wp.bipush lb_15 d_method_4_89 ?_
  refine Wp.bipush lb_120 d_method_4_91 ?_
  refine Wp.castore (z := 120) 0 15 rfl (by decide) (by decide) (show 15 < 17 by decide) (by decide) d_method_4_93 (H' := ((eC a1 [.int 109, .int 97, .int 118, .int 101, .int 110, .int 45, .int 109, .int 101, .int 116, .int 97, .int 100, .int 97, .int 116, .int 97, .int 46, .int 120, .int 0]) :: F)) rfl ?_
  refine Wp.dup rfl d_method_4_94 ?_
  refine Wp.bipush lb_16 d_method_4_95 ?_
  refine Wp.bipush lb_109 d_method_4_97 ?_
  refine Wp.castore (z := 109) 0 16 rfl (by decide) (by decide) (show 16 < 17 by decide) (by decide) d_method_4_99 (H' := ((eC a1 [.int 109, .int 97, .int 118, .int 101, .int 110, .int 45, .int 109, .int 101, .int 116, .int 97, .int 100, .int 97, .int 116, .int 97, .int 46, .int 120, .int 109]) :: F)) rfl ?_
  refine Wp.aret rfl rfl rfl d_method_4_100 (by decide) (by decide) ?_
  exact ⟨a1, rfl, rfl⟩
theorem d_method_3_0 : Dc method_3_code 0 (.bipush 19) 2 2 := ⟨by decide +kernel, rfl⟩
theorem lb_19 : (Int8.ofInt 19).toInt32 = 19 := by decide
theorem d_method_3_2 : Dc method_3_code 2 (.newarray .char) 2 4 := ⟨by decide +kernel, rfl⟩
theorem d_method_3_4 : Dc method_3_code 4 (.dup) 1 5 := ⟨by decide +kernel, rfl⟩
theorem d_method_3_5 : Dc method_3_code 5 (.iconst 0) 1 6 := ⟨by decide +kernel, rfl⟩
theorem d_method_3_6 : Dc method_3_code 6 (.bipush 109) 2 8 := ⟨by decide +kernel, rfl⟩
theorem d_method_3_8 : Dc method_3_code 8 (.castore) 1 9 := ⟨by decide +kernel, rfl⟩
theorem d_method_3_9 : Dc method_3_code 9 (.dup) 1 10 := ⟨by decide +kernel, rfl⟩
theorem d_method_3_10 : Dc method_3_code 10 (.iconst 1) 1 11 := ⟨by decide +kernel, rfl⟩
theorem d_method_3_11 : Dc method_3_code 11 (.bipush 97) 2 13 := ⟨by decide +kernel, rfl⟩
theorem d_method_3_13 : Dc method_3_code 13 (.castore) 1 14 := ⟨by decide +kernel, rfl⟩
theorem d_method_3_14 : Dc method_3_code 14 (.dup) 1 15 := ⟨by decide +kernel, rfl⟩
theorem d_method_3_15 : Dc method_3_code 15 (.iconst 2) 1 16 := ⟨by decide +kernel, rfl⟩
theorem d_method_3_16 : Dc method_3_code 16 (.bipush 118) 2 18 := ⟨by decide +kernel, rfl⟩
theorem d_method_3_18 : Dc method_3_code 18 (.castore) 1 19 := ⟨by decide +kernel, rfl⟩
theorem d_method_3_19 : Dc method_3_code 19 (.dup) 1 20 := ⟨by decide +kernel, rfl⟩
theorem d_method_3_20 : Dc method_3_code 20 (.iconst 3) 1 21 := ⟨by decide +kernel, rfl⟩
theorem d_method_3_21 : Dc method_3_code 21 (.bipush 101) 2 23 := ⟨by decide +kernel, rfl⟩
theorem d_method_3_23 : Dc method_3_code 23 (.castore) 1 24 := ⟨by decide +kernel, rfl⟩
theorem d_method_3_24 : Dc method_3_code 24 (.dup) 1 25 := ⟨by decide +kernel, rfl⟩
theorem d_method_3_25 : Dc method_3_code 25 (.iconst 4) 1 26 := ⟨by decide +kernel, rfl⟩
theorem d_method_3_26 : Dc method_3_code 26 (.bipush 110) 2 28 := ⟨by decide +kernel, rfl⟩
theorem d_method_3_28 : Dc method_3_code 28 (.castore) 1 29 := ⟨by decide +kernel, rfl⟩
theorem d_method_3_29 : Dc method_3_code 29 (.dup) 1 30 := ⟨by decide +kernel, rfl⟩
theorem d_method_3_30 : Dc method_3_code 30 (.iconst 5) 1 31 := ⟨by decide +kernel, rfl⟩
theorem d_method_3_31 : Dc method_3_code 31 (.bipush 45) 2 33 := ⟨by decide +kernel, rfl⟩
theorem d_method_3_33 : Dc method_3_code 33 (.castore) 1 34 := ⟨by decide +kernel, rfl⟩
theorem d_method_3_34 : Dc method_3_code 34 (.dup) 1 35 := ⟨by decide +kernel, rfl⟩
theorem d_method_3_35 : Dc method_3_code 35 (.bipush 6) 2 37 := ⟨by decide +kernel, rfl⟩
theorem d_method_3_37 : Dc method_3_code 37 (.bipush 109) 2 39 := ⟨by decide +kernel, rfl⟩
theorem d_method_3_39 : Dc method_3_code 39 (.castore) 1 40 := ⟨by decide +kernel, rfl⟩
theorem d_method_3_40 : Dc method_3_code 40 (.dup) 1 41 := ⟨by decide +kernel, rfl⟩
theorem d_method_3_41 : Dc method_3_code 41 (.bipush 7) 2 43 := ⟨by decide +kernel, rfl⟩
theorem d_method_3_43 : Dc method_3_code 43 (.bipush 101) 2 45 := ⟨by decide +kernel, rfl⟩
theorem d_method_3_45 : Dc method_3_code 45 (.castore) 1 46 := ⟨by decide +kernel, rfl⟩
theorem d_method_3_46 : Dc method_3_code 46 (.dup) 1 47 := ⟨by decide +kernel, rfl⟩
theorem d_method_3_47 : Dc method_3_code 47 (.bipush 8) 2 49 := ⟨by decide +kernel, rfl⟩
theorem d_method_3_49 : Dc method_3_code 49 (.bipush 116) 2 51 := ⟨by decide +kernel, rfl⟩
theorem d_method_3_51 : Dc method_3_code 51 (.castore) 1 52 := ⟨by decide +kernel, rfl⟩
theorem d_method_3_52 : Dc method_3_code 52 (.dup) 1 53 := ⟨by decide +kernel, rfl⟩
theorem d_method_3_53 : Dc method_3_code 53 (.bipush 9) 2 55 := ⟨by decide +kernel, rfl⟩
theorem d_method_3_55 : Dc method_3_code 55 (.bipush 97) 2 57 := ⟨by decide +kernel, rfl⟩
theorem d_method_3_57 : Dc method_3_code 57 (.castore) 1 58 := ⟨by decide +kernel, rfl⟩
theorem d_method_3_58 : Dc method_3_code 58 (.dup) 1 59 := ⟨by decide +kernel, rfl⟩
theorem d_method_3_59 : Dc method_3_code 59 (.bipush 10) 2 61 := ⟨by decide +kernel, rfl⟩
theorem d_method_3_61 : Dc method_3_code 61 (.bipush 100) 2 63 := ⟨by decide +kernel, rfl⟩
theorem d_method_3_63 : Dc method_3_code 63 (.castore) 1 64 := ⟨by decide +kernel, rfl⟩
theorem d_method_3_64 : Dc method_3_code 64 (.dup) 1 65 := ⟨by decide +kernel, rfl⟩
theorem d_method_3_65 : Dc method_3_code 65 (.bipush 11) 2 67 := ⟨by decide +kernel, rfl⟩
theorem d_method_3_67 : Dc method_3_code 67 (.bipush 97) 2 69 := ⟨by decide +kernel, rfl⟩
theorem d_method_3_69 : Dc method_3_code 69 (.castore) 1 70 := ⟨by decide +kernel, rfl⟩
theorem d_method_3_70 : Dc method_3_code 70 (.dup) 1 71 := ⟨by decide +kernel, rfl⟩
theorem d_method_3_71 : Dc method_3_code 71 (.bipush 12) 2 73 := ⟨by decide +kernel, rfl⟩
theorem d_method_3_73 : Dc method_3_code 73 (.bipush 116) 2 75 := ⟨by decide +kernel, rfl⟩
theorem d_method_3_75 : Dc method_3_code 75 (.castore) 1 76 := ⟨by decide +kernel, rfl⟩
theorem d_method_3_76 : Dc method_3_code 76 (.dup) 1 77 := ⟨by decide +kernel, rfl⟩
theorem d_method_3_77 : Dc method_3_code 77 (.bipush 13) 2 79 := ⟨by decide +kernel, rfl⟩
theorem d_method_3_79 : Dc method_3_code 79 (.bipush 97) 2 81 := ⟨by decide +kernel, rfl⟩
theorem d_method_3_81 : Dc method_3_code 81 (.castore) 1 82 := ⟨by decide +kernel, rfl⟩
theorem d_method_3_82 : Dc method_3_code 82 (.dup) 1 83 := ⟨by decide +kernel, rfl⟩
theorem d_method_3_83 : Dc method_3_code 83 (.bipush 14) 2 85 := ⟨by decide +kernel, rfl⟩
theorem d_method_3_85 : Dc method_3_code 85 (.bipush 46) 2 87 := ⟨by decide +kernel, rfl⟩
theorem d_method_3_87 : Dc method_3_code 87 (.castore) 1 88 := ⟨by decide +kernel, rfl⟩
theorem d_method_3_88 : Dc method_3_code 88 (.dup) 1 89 := ⟨by decide +kernel, rfl⟩
theorem d_method_3_89 : Dc method_3_code 89 (.bipush 15) 2 91 := ⟨by decide +kernel, rfl⟩
theorem d_method_3_91 : Dc method_3_code 91 (.bipush 120) 2 93 := ⟨by decide +kernel, rfl⟩
theorem d_method_3_93 : Dc method_3_code 93 (.castore) 1 94 := ⟨by decide +kernel, rfl⟩
theorem d_method_3_94 : Dc method_3_code 94 (.dup) 1 95 := ⟨by decide +kernel, rfl⟩
theorem d_method_3_95 : Dc method_3_code 95 (.bipush 16) 2 97 := ⟨by decide +kernel, rfl⟩
theorem d_method_3_97 : Dc method_3_code 97 (.bipush 109) 2 99 := ⟨by decide +kernel, rfl⟩
theorem d_method_3_99 : Dc method_3_code 99 (.castore) 1 100 := ⟨by decide +kernel, rfl⟩
theorem d_method_3_100 : Dc method_3_code 100 (.dup) 1 101 := ⟨by decide +kernel, rfl⟩
theorem d_method_3_101 : Dc method_3_code 101 (.bipush 17) 2 103 := ⟨by decide +kernel, rfl⟩
theorem d_method_3_103 : Dc method_3_code 103 (.bipush 108) 2 105 := ⟨by decide +kernel, rfl⟩
theorem d_method_3_105 : Dc method_3_code 105 (.castore) 1 106 := ⟨by decide +kernel, rfl⟩
theorem d_method_3_106 : Dc method_3_code 106 (.dup) 1 107 := ⟨by decide +kernel, rfl⟩
theorem d_method_3_107 : Dc method_3_code 107 (.bipush 18) 2 109 := ⟨by decide +kernel, rfl⟩
theorem d_method_3_109 : Dc method_3_code 109 (.iload_n 0) 1 110 := ⟨by decide +kernel, rfl⟩
theorem d_method_3_110 : Dc method_3_code 110 (.castore) 1 111 := ⟨by decide +kernel, rfl⟩
theorem d_method_3_111 : Dc method_3_code 111 (.areturn) 1 112 := ⟨by decide +kernel, rfl⟩
def M_ca1 : Mt := (⟨"com/example/binhold/binhold/maven/MavenLayoutIsMetadataPinLaw", "metaPlus", "(C)[C"⟩, method_3_code, 1, some (.array .char), ⟨0, 1, 19, 0⟩)
theorem nm_M_ca1 : mN M_ca1 = ⟨"com/example/binhold/binhold/maven/MavenLayoutIsMetadataPinLaw", "metaPlus", "(C)[C"⟩ := by delta mN M_ca1; rfl
set_option maxRecDepth 65536 in
set_option maxHeartbeats 40000000 in
theorem rm_ca1 {W : Wd} (hw : Ws W) (ch : Int32) (F : List En) (hc0 : ¬ ch < 0) (hc1 : ¬ 255 < ch) : Ct W M_ca1 [.int ch] F (fun v H' => ∃ a, v = some (.ref a) ∧ H' = ((eC a [.int 109, .int 97, .int 118, .int 101, .int 110, .int 45, .int 109, .int 101, .int 116, .int 97, .int 100, .int 97, .int 116, .int 97, .int 46, .int 120, .int 109, .int 108, .int ch]) :: F)) := by
  refine Ct.intro (L0 := [.val (.int ch)]) (plainFor_of_name pf_com_example_binhold_binhold_maven_MavenLayoutIsMetadataPinLaw) rfl (fun K => ?_)
  refine Wp.bipush lb_19 d_method_3_0 ?_
  refine Wp.newP (kk := 19) (vs := [.int 0, .int 0, .int 0, .int 0, .int 0, .int 0, .int 0, .int 0, .int 0, .int 0, .int 0, .int 0, .int 0, .int 0, .int 0, .int 0, .int 0, .int 0, .int 0]) d_method_3_2 (w_5 hw) (by decide) (by decide) (by decide) (by decide) (by decide) rfl (fun a1 => ?_)
  refine Wp.dup rfl d_method_3_4 ?_
  refine Wp.iconst lc_0 d_method_3_5 ?_
  refine Wp.bipush lb_109 d_method_3_6 ?_
  refine Wp.castore (z := 109) 0 0 rfl (by decide) (by decide) (show 0 < 19 by decide) (by decide) d_method_3_8 (H' := ((eC a1 [.int 109, .int 0, .int 0, .int 0, .int 0, .int 0, .int 0, .int 0, .int 0, .int 0, .int 0, .int 0, .int 0, .int 0, .int 0, .int 0, .int 0, .int 0, .int 0]) :: F)) rfl ?_
  refine Wp.dup rfl d_method_3_9 ?_
  refine Wp.iconst lc_1 d_method_3_10 ?_
  refine Wp.bipush lb_97 d_method_3_11 ?_
  refine Wp.castore (z := 97) 0 1 rfl (by decide) (by decide) (show 1 < 19 by decide) (by decide) d_method_3_13 (H' := ((eC a1 [.int 109, .int 97, .int 0, .int 0, .int 0, .int 0, .int 0, .int 0, .int 0, .int 0, .int 0, .int 0, .int 0, .int 0, .int 0, .int 0, .int 0, .int 0, .int 0]) :: F)) rfl ?_
  refine Wp.dup rfl d_method_3_14 ?_
  refine Wp.iconst lc_2 d_method_3_15 ?_
  refine Wp.bipush lb_118 d_method_3_16 ?_
  refine Wp.castore (z := 118) 0 2 rfl (by decide) (by decide) (show 2 < 19 by decide) (by decide) d_method_3_18 (H' := ((eC a1 [.int 109, .int 97, .int 118, .int 0, .int 0, .int 0, .int 0, .int 0, .int 0, .int 0, .int 0, .int 0, .int 0, .int 0, .int 0, .int 0, .int 0, .int 0, .int 0]) :: F)) rfl ?_
  refine Wp.dup rfl d_method_3_19 ?_
  refine Wp.iconst lc_3 d_method_3_20 ?_
  refine Wp.bipush lb_101 d_method_3_21 ?_
  refine Wp.castore (z := 101) 0 3 rfl (by decide) (by decide) (show 3 < 19 by decide) (by decide) d_method_3_23 (H' := ((eC a1 [.int 109, .int 97, .int 118, .int 101, .int 0, .int 0, .int 0, .int 0, .int 0, .int 0, .int 0, .int 0, .int 0, .int 0, .int 0, .int 0, .int 0, .int 0, .int 0]) :: F)) rfl ?_
  refine Wp.dup rfl d_method_3_24 ?_
  refine Wp.iconst lc_4 d_method_3_25 ?_
  refine Wp.bipush lb_110 d_method_3_26 ?_
  refine Wp.castore (z := 110) 0 4 rfl (by decide) (by decide) (show 4 < 19 by decide) (by decide) d_method_3_28 (H' := ((eC a1 [.int 109, .int 97, .int 118, .int 101, .int 110, .int 0, .int 0, .int 0, .int 0, .int 0, .int 0, .int 0, .int 0, .int 0, .int 0, .int 0, .int 0, .int 0, .int 0]) :: F)) rfl ?_
  refine Wp.dup rfl d_method_3_29 ?_
  refine Wp.iconst lc_5 d_method_3_30 ?_
  refine Wp.bipush lb_45 d_method_3_31 ?_
  refine Wp.castore (z := 45) 0 5 rfl (by decide) (by decide) (show 5 < 19 by decide) (by decide) d_method_3_33 (H' := ((eC a1 [.int 109, .int 97, .int 118, .int 101, .int 110, .int 45, .int 0, .int 0, .int 0, .int 0, .int 0, .int 0, .int 0, .int 0, .int 0, .int 0, .int 0, .int 0, .int 0]) :: F)) rfl ?_
  refine Wp.dup rfl d_method_3_34 ?_
  refine Wp.bipush lb_6 d_method_3_35 ?_
  refine Wp.bipush lb_109 d_method_3_37 ?_
  refine Wp.castore (z := 109) 0 6 rfl (by decide) (by decide) (show 6 < 19 by decide) (by decide) d_method_3_39 (H' := ((eC a1 [.int 109, .int 97, .int 118, .int 101, .int 110, .int 45, .int 109, .int 0, .int 0, .int 0, .int 0, .int 0, .int 0, .int 0, .int 0, .int 0, .int 0, .int 0, .int 0]) :: F)) rfl ?_
  refine Wp.dup rfl d_method_3_40 ?_
  refine Wp.bipush lb_7 d_method_3_41 ?_
  refine Wp.bipush lb_101 d_method_3_43 ?_
  refine Wp.castore (z := 101) 0 7 rfl (by decide) (by decide) (show 7 < 19 by decide) (by decide) d_method_3_45 (H' := ((eC a1 [.int 109, .int 97, .int 118, .int 101, .int 110, .int 45, .int 109, .int 101, .int 0, .int 0, .int 0, .int 0, .int 0, .int 0, .int 0, .int 0, .int 0, .int 0, .int 0]) :: F)) rfl ?_
  refine Wp.dup rfl d_method_3_46 ?_
  refine Wp.bipush lb_8 d_method_3_47 ?_
  refine Wp.bipush lb_116 d_method_3_49 ?_
  refine Wp.castore (z := 116) 0 8 rfl (by decide) (by decide) (show 8 < 19 by decide) (by decide) d_method_3_51 (H' := ((eC a1 [.int 109, .int 97, .int 118, .int 101, .int 110, .int 45, .int 109, .int 101, .int 116, .int 0, .int 0, .int 0, .int 0, .int 0, .int 0, .int 0, .int 0, .int 0, .int 0]) :: F)) rfl ?_
  refine Wp.dup rfl d_method_3_52 ?_
  refine Wp.bipush lb_9 d_method_3_53 ?_
  refine Wp.bipush lb_97 d_method_3_55 ?_
  refine Wp.castore (z := 97) 0 9 rfl (by decide) (by decide) (show 9 < 19 by decide) (by decide) d_method_3_57 (H' := ((eC a1 [.int 109, .int 97, .int 118, .int 101, .int 110, .int 45, .int 109, .int 101, .int 116, .int 97, .int 0, .int 0, .int 0, .int 0, .int 0, .int 0, .int 0, .int 0, .int 0]) :: F)) rfl ?_
  refine Wp.dup rfl d_method_3_58 ?_
  refine Wp.bipush lb_10 d_method_3_59 ?_
  refine Wp.bipush lb_100 d_method_3_61 ?_
  refine Wp.castore (z := 100) 0 10 rfl (by decide) (by decide) (show 10 < 19 by decide) (by decide) d_method_3_63 (H' := ((eC a1 [.int 109, .int 97, .int 118, .int 101, .int 110, .int 45, .int 109, .int 101, .int 116, .int 97, .int 100, .int 0, .int 0, .int 0, .int 0, .int 0, .int 0, .int 0, .int 0]) :: F)) rfl ?_
  refine Wp.dup rfl d_method_3_64 ?_
  refine Wp.bipush lb_11 d_method_3_65 ?_
  refine Wp.bipush lb_97 d_method_3_67 ?_
  refine Wp.castore (z := 97) 0 11 rfl (by decide) (by decide) (show 11 < 19 by decide) (by decide) d_method_3_69 (H' := ((eC a1 [.int 109, .int 97, .int 118, .int 101, .int 110, .int 45, .int 109, .int 101, .int 116, .int 97, .int 100, .int 97, .int 0, .int 0, .int 0, .int 0, .int 0, .int 0, .int 0]) :: F)) rfl ?_
  refine Wp.dup rfl d_method_3_70 ?_
  refine Wp.bipush lb_12 d_method_3_71 ?_
  refine Wp.bipush lb_116 d_method_3_73 ?_
  refine Wp.castore (z := 116) 0 12 rfl (by decide) (by decide) (show 12 < 19 by decide) (by decide) d_method_3_75 (H' := ((eC a1 [.int 109, .int 97, .int 118, .int 101, .int 110, .int 45, .int 109, .int 101, .int 116, .int 97, .int 100, .int 97, .int 116, .int 0, .int 0, .int 0, .int 0, .int 0, .int 0]) :: F)) rfl ?_
  refine Wp.dup rfl d_method_3_76 ?_
  refine Wp.bipush lb_13 d_method_3_77 ?_
  refine Wp.bipush lb_97 d_method_3_79 ?_
  refine Wp.castore (z := 97) 0 13 rfl (by decide) (by decide) (show 13 < 19 by decide) (by decide) d_method_3_81 (H' := ((eC a1 [.int 109, .int 97, .int 118, .int 101, .int 110, .int 45, .int 109, .int 101, .int 116, .int 97, .int 100, .int 97, .int 116, .int 97, .int 0, .int 0, .int 0, .int 0, .int 0]) :: F)) rfl ?_
  refine Wp.dup rfl d_method_3_82 ?_
  refine Wp.bipush lb_14 d_method_3_83 ?_
  refine Wp.bipush lb_46 d_method_3_85 ?_
  refine Wp.castore (z := 46) 0 14 rfl (by decide) (by decide) (show 14 < 19 by decide) (by decide) d_method_3_87 (H' := ((eC a1 [.int 109, .int 97, .int 118, .int 101, .int 110, .int 45, .int 109, .int 101, .int 116, .int 97, .int 100, .int 97, .int 116, .int 97, .int 46, .int 0, .int 0, .int 0, .int 0]) :: F)) rfl ?_
  refine Wp.dup rfl d_method_3_88 ?_
  refine Wp.bipush lb_15 d_method_3_89 ?_
  refine Wp.bipush lb_120 d_method_3_91 ?_
  refine Wp.castore (z := 120) 0 15 rfl (by decide) (by decide) (show 15 < 19 by decide) (by decide) d_method_3_93 (H' := ((eC a1 [.int 109, .int 97, .int 118, .int 101, .int 110, .int 45, .int 109, .int 101, .int 116, .int 97, .int 100, .int 97, .int 116, .int 97, .int 46, .int 120, .int 0, .int 0, .int 0]) :: F)) rfl ?_
  refine Wp.dup rfl d_method_3_94 ?_
  refine Wp.bipush lb_16 d_method_3_95 ?_
  refine Wp.bipush lb_109 d_method_3_97 ?_
  refine Wp.castore (z := 109) 0 16 rfl (by decide) (by decide) (show 16 < 19 by decide) (by decide) d_method_3_99 (H' := ((eC a1 [.int 109, .int 97, .int 118, .int 101, .int 110, .int 45, .int 109, .int 101, .int 116, .int 97, .int 100, .int 97, .int 116, .int 97, .int 46, .int 120, .int 109, .int 0, .int 0]) :: F)) rfl ?_
  refine Wp.dup rfl d_method_3_100 ?_
  refine Wp.bipush lb_17 d_method_3_101 ?_
  refine Wp.bipush lb_108 d_method_3_103 ?_
  refine Wp.castore (z := 108) 0 17 rfl (by decide) (by decide) (show 17 < 19 by decide) (by decide) d_method_3_105 (H' := ((eC a1 [.int 109, .int 97, .int 118, .int 101, .int 110, .int 45, .int 109, .int 101, .int 116, .int 97, .int 100, .int 97, .int 116, .int 97, .int 46, .int 120, .int 109, .int 108, .int 0]) :: F)) rfl ?_
  refine Wp.dup rfl d_method_3_106 ?_
  refine Wp.bipush lb_18 d_method_3_107 ?_
  refine Wp.iloadN rfl d_method_3_109 ?_
  refine Wp.castore (z := ch) 0 18 rfl (by decide) (by decide) (show 18 < 19 by decide) (narC_id8 hc0 hc1) d_method_3_110 (H' := ((eC a1 [.int 109, .int 97, .int 118, .int 101, .int 110, .int 45, .int 109, .int 101, .int 116, .int 97, .int 100, .int 97, .int 116, .int 97, .int 46, .int 120, .int 109, .int 108, .int ch]) :: F)) rfl ?_
  refine Wp.aret rfl rfl rfl d_method_3_111 (by decide) (by decide) ?_
  exact ⟨a1, rfl, rfl⟩
theorem d_jdk_43_3_0 : Dc jdk_43_method_3_code 0 (.iload_n 0) 1 1 := ⟨by decide +kernel, rfl⟩
theorem d_jdk_43_3_1 : Dc jdk_43_method_3_code 1 (.sipush 255) 3 4 := ⟨by decide +kernel, rfl⟩
theorem d_jdk_43_3_4 : Bj jdk_43_method_3_code 4 (.if_icmp .gt 7) 7 7 11 := ⟨by decide +kernel, rfl, by decide, rfl⟩
theorem d_jdk_43_3_7 : Dc jdk_43_method_3_code 7 (.iconst 1) 1 8 := ⟨by decide +kernel, rfl⟩
theorem d_jdk_43_3_8 : Bj jdk_43_method_3_code 8 (.goto 4) 4 11 12 := ⟨by decide +kernel, rfl, by decide, rfl⟩
theorem d_jdk_43_3_12 : Dc jdk_43_method_3_code 12 (.ireturn) 1 13 := ⟨by decide +kernel, rfl⟩
def M_cen : Mt := (⟨"java/lang/StringLatin1", "canEncode", "(C)Z"⟩, jdk_43_method_3_code, 1, some .boolean, ⟨0, 0, 0, 0⟩)
theorem nm_M_cen : mN M_cen = ⟨"java/lang/StringLatin1", "canEncode", "(C)Z"⟩ := by delta mN M_cen; rfl
set_option maxRecDepth 65536 in
set_option maxHeartbeats 40000000 in
theorem rm_cen {W : Wd} (hw : Ws W) (ch : Int32) (F : List En) (hc1 : ¬ 255 < ch) : Ct W M_cen [.int ch] F (fun v H' => v = some (.int 1) ∧ H' = F) := by
  refine Ct.intro (L0 := [.val (.int ch)]) (plainFor_of_name pf_java_lang_StringLatin1) rfl (fun K => ?_)
  refine Wp.iloadN rfl d_jdk_43_3_0 ?_
  refine Wp.sipush ls_255 d_jdk_43_3_1 ?_
  refine Wp.icF (flt hc1).2.2.1 d_jdk_43_3_4 ?_
  refine Wp.iconst lc_1 d_jdk_43_3_7 ?_
  refine Wp.goto d_jdk_43_3_8 ?_
  refine Wp.iretN (z := 1) (by simp) rfl (by decide) d_jdk_43_3_12 (by decide) (by decide) ?_
  exact ⟨rfl, rfl⟩
theorem d_jdk_43_46_0 : Dc jdk_43_method_46_code 0 (.iconst 1) 1 1 := ⟨by decide +kernel, rfl⟩
theorem d_jdk_43_46_1 : Dc jdk_43_method_46_code 1 (.newarray .byte) 2 3 := ⟨by decide +kernel, rfl⟩
theorem d_jdk_43_46_3 : Dc jdk_43_method_46_code 3 (.dup) 1 4 := ⟨by decide +kernel, rfl⟩
theorem d_jdk_43_46_4 : Dc jdk_43_method_46_code 4 (.iconst 0) 1 5 := ⟨by decide +kernel, rfl⟩
theorem d_jdk_43_46_5 : Dc jdk_43_method_46_code 5 (.iload_n 0) 1 6 := ⟨by decide +kernel, rfl⟩
theorem d_jdk_43_46_6 : Dc jdk_43_method_46_code 6 (.i2b) 1 7 := ⟨by decide +kernel, rfl⟩
theorem d_jdk_43_46_7 : Dc jdk_43_method_46_code 7 (.bastore) 1 8 := ⟨by decide +kernel, rfl⟩
theorem d_jdk_43_46_8 : Dc jdk_43_method_46_code 8 (.areturn) 1 9 := ⟨by decide +kernel, rfl⟩
def M_tob : Mt := (⟨"java/lang/StringLatin1", "toBytes", "(C)[B"⟩, jdk_43_method_46_code, 1, some (.array .byte), ⟨0, 1, 1, 0⟩)
theorem nm_M_tob : mN M_tob = ⟨"java/lang/StringLatin1", "toBytes", "(C)[B"⟩ := by delta mN M_tob; rfl
set_option maxRecDepth 65536 in
set_option maxHeartbeats 40000000 in
theorem rm_tob {W : Wd} (hw : Ws W) (ch : Int32) (F : List En) : Ct W M_tob [.int ch] F (fun v H' => ∃ b, v = some (.ref b) ∧ H' = ((eB b [.int (by8 ch)]) :: F)) := by
  refine Ct.intro (L0 := [.val (.int ch)]) (plainFor_of_name pf_java_lang_StringLatin1) rfl (fun K => ?_)
  refine Wp.iconst lc_1 d_jdk_43_46_0 ?_
  refine Wp.newP (kk := 1) (vs := [.int 0]) d_jdk_43_46_1 (w_27 hw) (by decide) (by decide) (by decide) (by decide) (by decide) rfl (fun a1 => ?_)
  refine Wp.dup rfl d_jdk_43_46_3 ?_
  refine Wp.iconst lc_0 d_jdk_43_46_4 ?_
  refine Wp.iloadN rfl d_jdk_43_46_5 ?_
  refine Wp.i2b (z := (by8 ch)) rfl d_jdk_43_46_6 ?_
  refine Wp.bastore (z := (by8 ch)) 0 0 rfl (by decide) (by decide) (show 0 < 1 by decide) (by8_by8 _) d_jdk_43_46_7 (H' := ((eB a1 [.int (by8 ch)]) :: F)) rfl ?_
  refine Wp.aret rfl rfl rfl d_jdk_43_46_8 (by decide) (by decide) ?_
  exact ⟨a1, rfl, rfl⟩
theorem d_jdk_42_151_0 : Dc jdk_42_method_151_code 0 (.aload_n 0) 1 1 := ⟨by decide +kernel, rfl⟩
theorem d_jdk_42_151_1 : Dc jdk_42_method_151_code 1 (.invokespecial 1) 3 4 := ⟨by decide +kernel, rfl⟩
theorem d_jdk_42_151_4 : Dc jdk_42_method_151_code 4 (.aload_n 0) 1 5 := ⟨by decide +kernel, rfl⟩
theorem d_jdk_42_151_5 : Dc jdk_42_method_151_code 5 (.aload_n 1) 1 6 := ⟨by decide +kernel, rfl⟩
theorem d_jdk_42_151_6 : Dc jdk_42_method_151_code 6 (.putfield 9) 3 9 := ⟨by decide +kernel, rfl⟩
theorem d_jdk_42_151_9 : Dc jdk_42_method_151_code 9 (.aload_n 0) 1 10 := ⟨by decide +kernel, rfl⟩
theorem d_jdk_42_151_10 : Dc jdk_42_method_151_code 10 (.iload_n 2) 1 11 := ⟨by decide +kernel, rfl⟩
theorem d_jdk_42_151_11 : Dc jdk_42_method_151_code 11 (.putfield 15) 3 14 := ⟨by decide +kernel, rfl⟩
theorem d_jdk_42_151_14 : Dc jdk_42_method_151_code 14 (.return_) 1 15 := ⟨by decide +kernel, rfl⟩
def M_sbb : Mt := (⟨"java/lang/String", "<init>", "([BB)V"⟩, jdk_42_method_151_code, 3, none, ⟨1, 0, 0, 12⟩)
theorem nm_M_sbb : mN M_sbb = ⟨"java/lang/String", "<init>", "([BB)V"⟩ := by delta mN M_sbb; rfl
set_option maxRecDepth 65536 in
set_option maxHeartbeats 40000000 in
theorem rm_sbb {W : Wd} (hw : Ws W) (s : Addr) (b : Addr) (F : List En) : Ct W M_sbb [.ref s, .ref b, .int 0] ((oStr true s (.null) (.int 0)) :: F) (fun v H' => v = none ∧ H' = ((oStr true s (.ref b) (.int 0)) :: F)) := by
  refine Ct.intro (L0 := [.val (.ref s), .val (.ref b), .val (.int 0)]) (plainFor_of_name pf_java_lang_String) rfl (fun K => ?_)
  refine Wp.aloadN rfl rfl d_jdk_42_151_0 ?_
  refine Wp.initO nm_M_sbb (w_19 hw) (w_20 hw) (w_21 hw) (Wn := 0) rfl rfl (by decide) (by decide) d_jdk_42_151_1 ?_
  refine Wp.aloadN rfl rfl d_jdk_42_151_4 ?_
  refine Wp.aloadN rfl rfl d_jdk_42_151_5 ?_
  refine Wp.putF nm_M_sbb (host := "") (Or.inl (w_36 hw)) Via.refl 0 0 rfl rfl (Or.inr ⟨(w_37 hw), rfl, rfl⟩) (w_7 hw) (ty := (.array .byte)) (by decide) rfl rfl d_jdk_42_151_6 (H' := ((oStr true s (.ref b) (.int 0)) :: F)) rfl ?_
  refine Wp.aloadN rfl rfl d_jdk_42_151_9 ?_
  refine Wp.iloadN rfl d_jdk_42_151_10 ?_
  refine Wp.putF nm_M_sbb (host := "") (Or.inl (w_34 hw)) Via.refl 0 1 rfl rfl (Or.inr ⟨(w_35 hw), rfl, rfl⟩) (w_7 hw) (ty := .byte) (by decide) rfl rfl d_jdk_42_151_11 (H' := ((oStr true s (.ref b) (.int 0)) :: F)) rfl ?_
  refine Wp.ret rfl d_jdk_42_151_14 (by decide) (by decide) ?_
  exact ⟨rfl, rfl⟩
theorem d_jdk_42_139_0 : Dc jdk_42_method_139_code 0 (.getstatic 38) 3 3 := ⟨by decide +kernel, rfl⟩
theorem d_jdk_42_139_3 : Bj jdk_42_method_139_code 3 (.ifCond .eq 23) 23 6 26 := ⟨by decide +kernel, rfl, by decide, rfl⟩
theorem d_jdk_42_139_6 : Dc jdk_42_method_139_code 6 (.iload_n 0) 1 7 := ⟨by decide +kernel, rfl⟩
theorem d_jdk_42_139_7 : Dc jdk_42_method_139_code 7 (.invokestatic 1015) 3 10 := ⟨by decide +kernel, rfl⟩
theorem w_44 {W : Wd} (hw : Ws W) : Wok W (Jvm.Cond.code ({ cls := "java/lang/StringLatin1", name := "canEncode", desc := "(C)Z" } : Jvm.MethodName) jdk_43_method_3_code (1 : Nat) (Option.some Jvm.ClassFile.FieldType.boolean)) := hw.1 _ (List.mem_of_getElem? (i := 44) rfl)
theorem pd__C_Z : parseMethodDescriptor "(C)Z" = some ⟨[.char], some .boolean⟩ := by decide +kernel
theorem mk_M_cen {W : Wd} (hw : Ws W) : Mk W M_cen ⟨"java/lang/StringLatin1", "canEncode", "(C)Z"⟩ 1 := Mk.of nm_M_cen rfl rfl rfl (w_44 hw) (w_43 hw) (mkLen pd__C_Z rfl) (by decide)
theorem w_41 {W : Wd} (hw : Ws W) : Wok W (Jvm.Cond.methodLink "java/lang/String" (1015 : Nat) ({ cls := "java/lang/StringLatin1", name := "canEncode", desc := "(C)Z" } : Jvm.MethodName)) := hw.1 _ (List.mem_of_getElem? (i := 41) rfl)
theorem w_42 {W : Wd} (hw : Ws W) : Wok W (Jvm.Cond.static ({ cls := "java/lang/StringLatin1", name := "canEncode", desc := "(C)Z" } : Jvm.MethodName)) := hw.1 _ (List.mem_of_getElem? (i := 42) rfl)
theorem d_jdk_42_139_10 : Bj jdk_42_method_139_code 10 (.ifCond .eq 16) 16 13 26 := ⟨by decide +kernel, rfl, by decide, rfl⟩
theorem d_jdk_42_139_13 : Dc jdk_42_method_139_code 13 (.new 10) 3 16 := ⟨by decide +kernel, rfl⟩
theorem nf_oStr {W : Wd} (hw : Ws W) : NewFs W "java/lang/String" [("java/lang/String", "value", "[B", .null), ("java/lang/String", "coder", "B", .int 0)] := NewFs.cons (Or.inr (w_37 hw)) (ty := (.array .byte)) (by decide) rfl (by decide) (NewFs.cons (Or.inr (w_35 hw)) (ty := .byte) (by decide) rfl (by decide) (NewFs.nil))
theorem d_jdk_42_139_16 : Dc jdk_42_method_139_code 16 (.dup) 1 17 := ⟨by decide +kernel, rfl⟩
theorem d_jdk_42_139_17 : Dc jdk_42_method_139_code 17 (.iload_n 0) 1 18 := ⟨by decide +kernel, rfl⟩
theorem d_jdk_42_139_18 : Dc jdk_42_method_139_code 18 (.invokestatic 1018) 3 21 := ⟨by decide +kernel, rfl⟩
theorem w_48 {W : Wd} (hw : Ws W) : Wok W (Jvm.Cond.code ({ cls := "java/lang/StringLatin1", name := "toBytes", desc := "(C)[B" } : Jvm.MethodName) jdk_43_method_46_code (1 : Nat) (Option.some (Jvm.ClassFile.FieldType.array Jvm.ClassFile.FieldType.byte))) := hw.1 _ (List.mem_of_getElem? (i := 48) rfl)
theorem pd__C__B : parseMethodDescriptor "(C)[B" = some ⟨[.char], some (.array .byte)⟩ := by decide +kernel
theorem mk_M_tob {W : Wd} (hw : Ws W) : Mk W M_tob ⟨"java/lang/StringLatin1", "toBytes", "(C)[B"⟩ 1 := Mk.of nm_M_tob rfl rfl rfl (w_48 hw) (w_43 hw) (mkLen pd__C__B rfl) (by decide)
theorem w_46 {W : Wd} (hw : Ws W) : Wok W (Jvm.Cond.methodLink "java/lang/String" (1018 : Nat) ({ cls := "java/lang/StringLatin1", name := "toBytes", desc := "(C)[B" } : Jvm.MethodName)) := hw.1 _ (List.mem_of_getElem? (i := 46) rfl)
theorem w_47 {W : Wd} (hw : Ws W) : Wok W (Jvm.Cond.static ({ cls := "java/lang/StringLatin1", name := "toBytes", desc := "(C)[B" } : Jvm.MethodName)) := hw.1 _ (List.mem_of_getElem? (i := 47) rfl)
theorem d_jdk_42_139_21 : Dc jdk_42_method_139_code 21 (.iconst 0) 1 22 := ⟨by decide +kernel, rfl⟩
theorem d_jdk_42_139_22 : Dc jdk_42_method_139_code 22 (.invokespecial 209) 3 25 := ⟨by decide +kernel, rfl⟩
theorem w_51 {W : Wd} (hw : Ws W) : Wok W (Jvm.Cond.code ({ cls := "java/lang/String", name := "<init>", desc := "([BB)V" } : Jvm.MethodName) jdk_42_method_151_code (3 : Nat) (Option.none : Option Jvm.ClassFile.FieldType)) := hw.1 _ (List.mem_of_getElem? (i := 51) rfl)
theorem pd___BB_V : parseMethodDescriptor "([BB)V" = some ⟨[(.array .byte), .byte], none⟩ := by decide +kernel
theorem mk_M_sbb {W : Wd} (hw : Ws W) : Mk W M_sbb ⟨"java/lang/String", "<init>", "([BB)V"⟩ 2 := Mk.of nm_M_sbb rfl rfl rfl (w_51 hw) (w_8 hw) (mkLen pd___BB_V rfl) (by decide)
theorem w_49 {W : Wd} (hw : Ws W) : Wok W (Jvm.Cond.methodLink "java/lang/String" (209 : Nat) ({ cls := "java/lang/String", name := "<init>", desc := "([BB)V" } : Jvm.MethodName)) := hw.1 _ (List.mem_of_getElem? (i := 49) rfl)
theorem w_50 {W : Wd} (hw : Ws W) : Wok W (Jvm.Cond.instanceMethod ({ cls := "java/lang/String", name := "<init>", desc := "([BB)V" } : Jvm.MethodName)) := hw.1 _ (List.mem_of_getElem? (i := 50) rfl)
theorem d_jdk_42_139_25 : Dc jdk_42_method_139_code 25 (.areturn) 1 26 := ⟨by decide +kernel, rfl⟩
def M_vof : Mt := (⟨"java/lang/String", "valueOf", "(C)Ljava/lang/String;"⟩, jdk_42_method_139_code, 1, some (.object "java/lang/String"), ⟨2, 2, 5, 27⟩)
theorem nm_M_vof : mN M_vof = ⟨"java/lang/String", "valueOf", "(C)Ljava/lang/String;"⟩ := by delta mN M_vof; rfl
set_option maxRecDepth 65536 in
set_option maxHeartbeats 40000000 in
theorem rm_vof {W : Wd} (hw : Ws W) (ch : Int32) (F : List En) (hc0 : ¬ ch < 0) (hc1 : ¬ 255 < ch) : Ct W M_vof [.int ch] F (fun v H' => ∃ s b, v = some (.ref s) ∧ H' = ((oStr true s (.ref b) (.int 0)) :: (eB b [.int (by8 ch)]) :: F)) := by
  refine Ct.intro (L0 := [.val (.int ch)]) (plainFor_of_name pf_java_lang_String) rfl (fun K => ?_)
  obtain ⟨cs1, Fcs1, ncs1⟩ := st_compact hw
  refine Wp.getS nm_M_vof (host := "") (Or.inl (w_22 hw)) Via.refl Fcs1 d_jdk_42_139_0 ?_
  refine Wp.ifF (feq ncs1).1 d_jdk_42_139_3 ?_
  refine Wp.iloadN rfl d_jdk_42_139_6 ?_
  refine Wp.callS nm_M_vof (fun _ => rm_cen hw.set ch _ hc1) (mk_M_cen hw) (w_41 hw) (w_42 hw) rfl rfl (Wn := 0) rfl rfl (by decide) d_jdk_42_139_7 ?_
  rintro _ _ ⟨rfl, eH2⟩
  rw [eH2]
  refine Wp.ifF (by decide) d_jdk_42_139_10 ?_
  refine Wp.newO nm_M_vof (w_45 hw) (w_7 hw) (w_8 hw) (nf_oStr hw) (by decide) (by decide) d_jdk_42_139_13 (fun a3 => ?_)
  refine Wp.dup rfl d_jdk_42_139_16 ?_
  refine Wp.iloadN rfl d_jdk_42_139_17 ?_
  refine Wp.callS nm_M_vof (fun _ => rm_tob hw.set ch _ ) (mk_M_tob hw) (w_46 hw) (w_47 hw) rfl rfl (Wn := 2) rfl rfl (by decide) d_jdk_42_139_18 ?_
  rintro _ _ ⟨b_4, rfl, rfl⟩
  refine Wp.iconst lc_0 d_jdk_42_139_21 ?_
  refine Wp.perm [1, 0] 2 pp_1_0 (H' := ((oStr true a3 (.null) (.int 0)) :: (eB b_4 [.int (by8 ch)]) :: F)) rfl ?_
  refine Wp.callC nm_M_vof (fun _ => rm_sbb hw.set a3 b_4 _ ) (mk_M_sbb hw) (w_49 hw) (w_50 hw) rfl rfl rfl rfl (Wn := 1) rfl rfl (by decide) d_jdk_42_139_22 ?_
  rintro _ _ ⟨rfl, rfl⟩
  refine Wp.aret rfl rfl rfl d_jdk_42_139_25 (by decide) (by decide) ?_
  exact ⟨a3, b_4, rfl, rfl⟩
theorem d_jdk_38_8_0 : Dc jdk_38_method_8_code 0 (.aload_n 0) 1 1 := ⟨by decide +kernel, rfl⟩
theorem d_jdk_38_8_1 : Dc jdk_38_method_8_code 1 (.getfield 48) 3 4 := ⟨by decide +kernel, rfl⟩
theorem d_jdk_38_8_4 : Dc jdk_38_method_8_code 4 (.ireturn) 1 5 := ⟨by decide +kernel, rfl⟩
def M_asz1 : Mt := (⟨"java/util/ArrayList", "size", "()I"⟩, jdk_38_method_8_code, 1, some .int, ⟨0, 0, 0, 0⟩)
theorem nm_M_asz1 : mN M_asz1 = ⟨"java/util/ArrayList", "size", "()I"⟩ := by delta mN M_asz1; rfl
set_option maxRecDepth 65536 in
set_option maxHeartbeats 40000000 in
theorem rm_asz1 {W : Wd} (hw : Ws W) (l : Addr) (e : Addr) (F : List En) : Ct W M_asz1 [.ref l] ((oAL true l (.int 1) (.ref e) (.int 1)) :: F) (fun v H' => v = some (.int 1) ∧ H' = ((oAL true l (.int 1) (.ref e) (.int 1)) :: F)) := by
  refine Ct.intro (L0 := [.val (.ref l)]) (plainFor_of_name pf_java_util_ArrayList) rfl (fun K => ?_)
  refine Wp.aloadN rfl rfl d_jdk_38_8_0 ?_
  refine Wp.getF nm_M_asz1 (host := "") (Or.inl (w_83 hw)) Via.refl 0 2 rfl rfl d_jdk_38_8_1 ?_
  refine Wp.iret rfl d_jdk_38_8_4 (by decide) (by decide) ?_
  exact ⟨rfl, rfl⟩
theorem d_jdk_41_11_0 : Dc jdk_41_method_11_code 0 (.iload_n 0) 1 1 := ⟨by decide +kernel, rfl⟩
theorem d_jdk_41_11_1 : Bj jdk_41_method_11_code 1 (.ifCond .lt 8) 8 4 9 := ⟨by decide +kernel, rfl, by decide, rfl⟩
theorem d_jdk_41_11_4 : Dc jdk_41_method_11_code 4 (.iload_n 0) 1 5 := ⟨by decide +kernel, rfl⟩
theorem d_jdk_41_11_5 : Dc jdk_41_method_11_code 5 (.iload_n 1) 1 6 := ⟨by decide +kernel, rfl⟩
theorem d_jdk_41_11_6 : Bj jdk_41_method_11_code 6 (.if_icmp .lt 10) 10 9 16 := ⟨by decide +kernel, rfl, by decide, rfl⟩
theorem d_jdk_41_11_16 : Dc jdk_41_method_11_code 16 (.iload_n 0) 1 17 := ⟨by decide +kernel, rfl⟩
theorem d_jdk_41_11_17 : Dc jdk_41_method_11_code 17 (.ireturn) 1 18 := ⟨by decide +kernel, rfl⟩
def M_pci1 : Mt := (⟨"jdk/internal/util/Preconditions", "checkIndex", "(IILjava/util/function/BiFunction;)I"⟩, jdk_41_method_11_code, 3, some .int, ⟨0, 0, 0, 0⟩)
theorem nm_M_pci1 : mN M_pci1 = ⟨"jdk/internal/util/Preconditions", "checkIndex", "(IILjava/util/function/BiFunction;)I"⟩ := by delta mN M_pci1; rfl
theorem pf_jdk_internal_util_Preconditions : plainName "jdk/internal/util/Preconditions" = true := by first | (simp [plainName, overriddenIn]; done) | decide +kernel
set_option maxRecDepth 65536 in
set_option maxHeartbeats 40000000 in
theorem rm_pci1 {W : Wd} (hw : Ws W) (F : List En) : Ct W M_pci1 [.int 0, .int 1, .null] F (fun v H' => v = some (.int 0) ∧ H' = F) := by
  refine Ct.intro (L0 := [.val (.int 0), .val (.int 1), .val (.null)]) (plainFor_of_name pf_jdk_internal_util_Preconditions) rfl (fun K => ?_)
  refine Wp.iloadN rfl d_jdk_41_11_0 ?_
  refine Wp.ifF (by decide) d_jdk_41_11_1 ?_
  refine Wp.iloadN rfl d_jdk_41_11_4 ?_
  refine Wp.iloadN rfl d_jdk_41_11_5 ?_
  refine Wp.icT (by decide) d_jdk_41_11_6 ?_
  refine Wp.iloadN rfl d_jdk_41_11_16 ?_
  refine Wp.iret rfl d_jdk_41_11_17 (by decide) (by decide) ?_
  exact ⟨rfl, rfl⟩
theorem d_jdk_31_17_0 : Dc jdk_31_method_17_code 0 (.iload_n 0) 1 1 := ⟨by decide +kernel, rfl⟩
theorem d_jdk_31_17_1 : Dc jdk_31_method_17_code 1 (.iload_n 1) 1 2 := ⟨by decide +kernel, rfl⟩
theorem d_jdk_31_17_2 : Dc jdk_31_method_17_code 2 (.aconst_null) 1 3 := ⟨by decide +kernel, rfl⟩
theorem d_jdk_31_17_3 : Dc jdk_31_method_17_code 3 (.invokestatic 105) 3 6 := ⟨by decide +kernel, rfl⟩
theorem w_135 {W : Wd} (hw : Ws W) : Wok W (Jvm.Cond.code ({ cls := "jdk/internal/util/Preconditions", name := "checkIndex", desc := "(IILjava/util/function/BiFunction;)I" } : Jvm.MethodName) jdk_41_method_11_code (3 : Nat) (Option.some Jvm.ClassFile.FieldType.int)) := hw.1 _ (List.mem_of_getElem? (i := 135) rfl)
theorem w_134 {W : Wd} (hw : Ws W) : Wok W (Jvm.Cond.initialized "jdk/internal/util/Preconditions") := hw.1 _ (List.mem_of_getElem? (i := 134) rfl)
theorem pd__IILjava_util_function_BiFunction__I : parseMethodDescriptor "(IILjava/util/function/BiFunction;)I" = some ⟨[.int, .int, (.object "java/util/function/BiFunction")], some .int⟩ := by decide +kernel
theorem mk_M_pci1 {W : Wd} (hw : Ws W) : Mk W M_pci1 ⟨"jdk/internal/util/Preconditions", "checkIndex", "(IILjava/util/function/BiFunction;)I"⟩ 3 := Mk.of nm_M_pci1 rfl rfl rfl (w_135 hw) (w_134 hw) (mkLen pd__IILjava_util_function_BiFunction__I rfl) (by decide)
theorem w_132 {W : Wd} (hw : Ws W) : Wok W (Jvm.Cond.methodLink "java/util/Objects" (105 : Nat) ({ cls := "jdk/internal/util/Preconditions", name := "checkIndex", desc := "(IILjava/util/function/BiFunction;)I" } : Jvm.MethodName)) := hw.1 _ (List.mem_of_getElem? (i := 132) rfl)
theorem w_133 {W : Wd} (hw : Ws W) : Wok W (Jvm.Cond.static ({ cls := "jdk/internal/util/Preconditions", name := "checkIndex", desc := "(IILjava/util/function/BiFunction;)I" } : Jvm.MethodName)) := hw.1 _ (List.mem_of_getElem? (i := 133) rfl)
theorem d_jdk_31_17_6 : Dc jdk_31_method_17_code 6 (.ireturn) 1 7 := ⟨by decide +kernel, rfl⟩
def M_oci1 : Mt := (⟨"java/util/Objects", "checkIndex", "(II)I"⟩, jdk_31_method_17_code, 2, some .int, ⟨1, 0, 0, 14⟩)
theorem nm_M_oci1 : mN M_oci1 = ⟨"java/util/Objects", "checkIndex", "(II)I"⟩ := by delta mN M_oci1; rfl
theorem pf_java_util_Objects : plainName "java/util/Objects" = true := by first | (simp [plainName, overriddenIn]; done) | decide +kernel
set_option maxRecDepth 65536 in
set_option maxHeartbeats 40000000 in
theorem rm_oci1 {W : Wd} (hw : Ws W) (F : List En) : Ct W M_oci1 [.int 0, .int 1] F (fun v H' => v = some (.int 0) ∧ H' = F) := by
  refine Ct.intro (L0 := [.val (.int 0), .val (.int 1)]) (plainFor_of_name pf_java_util_Objects) rfl (fun K => ?_)
  refine Wp.iloadN rfl d_jdk_31_17_0 ?_
  refine Wp.iloadN rfl d_jdk_31_17_1 ?_
  refine Wp.aconstNull d_jdk_31_17_2 ?_
  refine Wp.callS nm_M_oci1 (fun _ => rm_pci1 hw.set  _ ) (mk_M_pci1 hw) (w_132 hw) (w_133 hw) rfl rfl (Wn := 0) rfl rfl (by decide) d_jdk_31_17_3 ?_
  rintro _ _ ⟨rfl, eH1⟩
  rw [eH1]
  refine Wp.iret rfl d_jdk_31_17_6 (by decide) (by decide) ?_
  exact ⟨rfl, rfl⟩
theorem d_jdk_38_18_0 : Dc jdk_38_method_18_code 0 (.aload_n 0) 1 1 := ⟨by decide +kernel, rfl⟩
theorem d_jdk_38_18_1 : Dc jdk_38_method_18_code 1 (.getfield 9) 3 4 := ⟨by decide +kernel, rfl⟩
theorem d_jdk_38_18_4 : Dc jdk_38_method_18_code 4 (.iload_n 1) 1 5 := ⟨by decide +kernel, rfl⟩
theorem d_jdk_38_18_5 : Dc jdk_38_method_18_code 5 (.aaload) 1 6 := ⟨by decide +kernel, rfl⟩
theorem d_jdk_38_18_6 : Dc jdk_38_method_18_code 6 (.areturn) 1 7 := ⟨by decide +kernel, rfl⟩
def M_eld1 : Mt := (⟨"java/util/ArrayList", "elementData", "(I)Ljava/lang/Object;"⟩, jdk_38_method_18_code, 2, some (.object "java/lang/Object"), ⟨0, 0, 0, 0⟩)
theorem nm_M_eld1 : mN M_eld1 = ⟨"java/util/ArrayList", "elementData", "(I)Ljava/lang/Object;"⟩ := by delta mN M_eld1; rfl
set_option maxRecDepth 65536 in
set_option maxHeartbeats 40000000 in
theorem rm_eld1 {W : Wd} (hw : Ws W) (l : Addr) (e : Addr) (s : Addr) (F : List En) : Ct W M_eld1 [.ref l, .int 0] ((oAL true l (.int 1) (.ref e) (.int 1)) :: (eO e [.ref s, .null, .null, .null, .null, .null, .null, .null, .null, .null]) :: F) (fun v H' => v = some (.ref s) ∧ H' = ((oAL true l (.int 1) (.ref e) (.int 1)) :: (eO e [.ref s, .null, .null, .null, .null, .null, .null, .null, .null, .null]) :: F)) := by
  refine Ct.intro (L0 := [.val (.ref l), .val (.int 0)]) (plainFor_of_name pf_java_util_ArrayList) rfl (fun K => ?_)
  refine Wp.aloadN rfl rfl d_jdk_38_18_0 ?_
  refine Wp.getF nm_M_eld1 (host := "") (Or.inl (w_74 hw)) Via.refl 0 1 rfl rfl d_jdk_38_18_1 ?_
  refine Wp.iloadN rfl d_jdk_38_18_4 ?_
  refine Wp.aaload 1 0 rfl rfl (by decide) (by decide) rfl d_jdk_38_18_5 ?_
  refine Wp.aret rfl rfl rfl d_jdk_38_18_6 (by decide) (by decide) ?_
  exact ⟨rfl, rfl⟩
theorem d_jdk_38_20_0 : Dc jdk_38_method_20_code 0 (.iload_n 1) 1 1 := ⟨by decide +kernel, rfl⟩
theorem d_jdk_38_20_1 : Dc jdk_38_method_20_code 1 (.aload_n 0) 1 2 := ⟨by decide +kernel, rfl⟩
theorem d_jdk_38_20_2 : Dc jdk_38_method_20_code 2 (.getfield 48) 3 5 := ⟨by decide +kernel, rfl⟩
theorem d_jdk_38_20_5 : Dc jdk_38_method_20_code 5 (.invokestatic 118) 3 8 := ⟨by decide +kernel, rfl⟩
theorem w_131 {W : Wd} (hw : Ws W) : Wok W (Jvm.Cond.code ({ cls := "java/util/Objects", name := "checkIndex", desc := "(II)I" } : Jvm.MethodName) jdk_31_method_17_code (2 : Nat) (Option.some Jvm.ClassFile.FieldType.int)) := hw.1 _ (List.mem_of_getElem? (i := 131) rfl)
theorem w_130 {W : Wd} (hw : Ws W) : Wok W (Jvm.Cond.initialized "java/util/Objects") := hw.1 _ (List.mem_of_getElem? (i := 130) rfl)
theorem mk_M_oci1 {W : Wd} (hw : Ws W) : Mk W M_oci1 ⟨"java/util/Objects", "checkIndex", "(II)I"⟩ 2 := Mk.of nm_M_oci1 rfl rfl rfl (w_131 hw) (w_130 hw) (mkLen pd__II_I rfl) (by decide)
theorem w_128 {W : Wd} (hw : Ws W) : Wok W (Jvm.Cond.methodLink "java/util/ArrayList" (118 : Nat) ({ cls := "java/util/Objects", name := "checkIndex", desc := "(II)I" } : Jvm.MethodName)) := hw.1 _ (List.mem_of_getElem? (i := 128) rfl)
theorem w_129 {W : Wd} (hw : Ws W) : Wok W (Jvm.Cond.static ({ cls := "java/util/Objects", name := "checkIndex", desc := "(II)I" } : Jvm.MethodName)) := hw.1 _ (List.mem_of_getElem? (i := 129) rfl)
theorem d_jdk_38_20_8 : Dc jdk_38_method_20_code 8 (.pop) 1 9 := ⟨by decide +kernel, rfl⟩
theorem d_jdk_38_20_9 : Dc jdk_38_method_20_code 9 (.aload_n 0) 1 10 := ⟨by decide +kernel, rfl⟩
theorem d_jdk_38_20_10 : Dc jdk_38_method_20_code 10 (.iload_n 1) 1 11 := ⟨by decide +kernel, rfl⟩
theorem d_jdk_38_20_11 : Dc jdk_38_method_20_code 11 (.invokevirtual 123) 3 14 := ⟨by decide +kernel, rfl⟩
theorem w_139 {W : Wd} (hw : Ws W) : Wok W (Jvm.Cond.selects "java/util/ArrayList" ({ cls := "java/util/ArrayList", name := "elementData", desc := "(I)Ljava/lang/Object;" } : Jvm.MethodName) ({ cls := "java/util/ArrayList", name := "elementData", desc := "(I)Ljava/lang/Object;" } : Jvm.MethodName)) := hw.1 _ (List.mem_of_getElem? (i := 139) rfl)
theorem w_140 {W : Wd} (hw : Ws W) : Wok W (Jvm.Cond.code ({ cls := "java/util/ArrayList", name := "elementData", desc := "(I)Ljava/lang/Object;" } : Jvm.MethodName) jdk_38_method_18_code (2 : Nat) (Option.some (Jvm.ClassFile.FieldType.object "java/lang/Object"))) := hw.1 _ (List.mem_of_getElem? (i := 140) rfl)
theorem pd__I_Ljava_lang_Object_ : parseMethodDescriptor "(I)Ljava/lang/Object;" = some ⟨[.int], some (.object "java/lang/Object")⟩ := by decide +kernel
theorem mk_M_eld1 {W : Wd} (hw : Ws W) : Mk W M_eld1 ⟨"java/util/ArrayList", "elementData", "(I)Ljava/lang/Object;"⟩ 1 := Mk.of nm_M_eld1 rfl rfl rfl (w_140 hw) (w_54 hw) (mkLen pd__I_Ljava_lang_Object_ rfl) (by decide)
theorem w_136 {W : Wd} (hw : Ws W) : Wok W (Jvm.Cond.methodLink "java/util/ArrayList" (123 : Nat) ({ cls := "java/util/ArrayList", name := "elementData", desc := "(I)Ljava/lang/Object;" } : Jvm.MethodName)) := hw.1 _ (List.mem_of_getElem? (i := 136) rfl)
theorem w_137 {W : Wd} (hw : Ws W) : Wok W (Jvm.Cond.declares ({ cls := "java/util/ArrayList", name := "elementData", desc := "(I)Ljava/lang/Object;" } : Jvm.MethodName)) := hw.1 _ (List.mem_of_getElem? (i := 137) rfl)
theorem w_138 {W : Wd} (hw : Ws W) : Wok W (Jvm.Cond.instanceMethod ({ cls := "java/util/ArrayList", name := "elementData", desc := "(I)Ljava/lang/Object;" } : Jvm.MethodName)) := hw.1 _ (List.mem_of_getElem? (i := 138) rfl)
theorem d_jdk_38_20_14 : Dc jdk_38_method_20_code 14 (.areturn) 1 15 := ⟨by decide +kernel, rfl⟩
def M_get1 : Mt := (⟨"java/util/ArrayList", "get", "(I)Ljava/lang/Object;"⟩, jdk_38_method_20_code, 2, some (.object "java/lang/Object"), ⟨2, 0, 0, 27⟩)
theorem nm_M_get1 : mN M_get1 = ⟨"java/util/ArrayList", "get", "(I)Ljava/lang/Object;"⟩ := by delta mN M_get1; rfl
set_option maxRecDepth 65536 in
set_option maxHeartbeats 40000000 in
theorem rm_get1 {W : Wd} (hw : Ws W) (l : Addr) (e : Addr) (s : Addr) (F : List En) : Ct W M_get1 [.ref l, .int 0] ((oAL true l (.int 1) (.ref e) (.int 1)) :: (eO e [.ref s, .null, .null, .null, .null, .null, .null, .null, .null, .null]) :: F) (fun v H' => v = some (.ref s) ∧ H' = ((oAL true l (.int 1) (.ref e) (.int 1)) :: (eO e [.ref s, .null, .null, .null, .null, .null, .null, .null, .null, .null]) :: F)) := by
  refine Ct.intro (L0 := [.val (.ref l), .val (.int 0)]) (plainFor_of_name pf_java_util_ArrayList) rfl (fun K => ?_)
  refine Wp.iloadN rfl d_jdk_38_20_0 ?_
  refine Wp.aloadN rfl rfl d_jdk_38_20_1 ?_
  refine Wp.getF nm_M_get1 (host := "") (Or.inl (w_83 hw)) Via.refl 0 2 rfl rfl d_jdk_38_20_2 ?_
  refine Wp.callS nm_M_get1 (fun _ => rm_oci1 hw.set  _ ) (mk_M_oci1 hw) (w_128 hw) (w_129 hw) rfl rfl (Wn := 0) rfl rfl (by decide) d_jdk_38_20_5 ?_
  rintro _ _ ⟨rfl, rfl⟩
  refine Wp.pop rfl d_jdk_38_20_8 ?_
  refine Wp.aloadN rfl rfl d_jdk_38_20_9 ?_
  refine Wp.iloadN rfl d_jdk_38_20_10 ?_
  refine Wp.callV nm_M_get1 (fun _ => rm_eld1 hw.set l e s _ ) 0 rfl (mk_M_eld1 hw) (w_136 hw) (w_137 hw) (w_139 hw) (w_138 hw) (S' := "") (Or.inl rfl) (by decide) rfl rfl rfl (Wn := 0) rfl rfl (by decide) d_jdk_38_20_11 ?_
  rintro _ _ ⟨rfl, rfl⟩
  refine Wp.aret rfl rfl rfl d_jdk_38_20_14 (by decide) (by decide) ?_
  exact ⟨rfl, rfl⟩
theorem d_prog_27_4_0 : Dc prog_27_method_4_code 0 (.aload_n 0) 1 1 := ⟨by decide +kernel, rfl⟩
theorem d_prog_27_4_1 : Dc prog_27_method_4_code 1 (.aload_n 0) 1 2 := ⟨by decide +kernel, rfl⟩
theorem d_prog_27_4_2 : Dc prog_27_method_4_code 2 (.invokeinterface 7 1) 5 7 := ⟨by decide +kernel, rfl⟩
theorem w_114 {W : Wd} (hw : Ws W) : Wok W (Jvm.Cond.selects "java/util/ArrayList" ({ cls := "java/util/List", name := "size", desc := "()I" } : Jvm.MethodName) ({ cls := "java/util/ArrayList", name := "size", desc := "()I" } : Jvm.MethodName)) := hw.1 _ (List.mem_of_getElem? (i := 114) rfl)
theorem w_119 {W : Wd} (hw : Ws W) : Wok W (Jvm.Cond.code ({ cls := "java/util/ArrayList", name := "size", desc := "()I" } : Jvm.MethodName) jdk_38_method_8_code (1 : Nat) (Option.some Jvm.ClassFile.FieldType.int)) := hw.1 _ (List.mem_of_getElem? (i := 119) rfl)
theorem pd___I : parseMethodDescriptor "()I" = some ⟨[], some .int⟩ := by decide +kernel
theorem mk_M_asz1 {W : Wd} (hw : Ws W) : Mk W M_asz1 ⟨"java/util/ArrayList", "size", "()I"⟩ 0 := Mk.of nm_M_asz1 rfl rfl rfl (w_119 hw) (w_54 hw) (mkLen pd___I rfl) (by decide)
theorem w_111 {W : Wd} (hw : Ws W) : Wok W (Jvm.Cond.methodLink "com/example/binhold/binhold/maven/MavenLayout" (7 : Nat) ({ cls := "java/util/List", name := "size", desc := "()I" } : Jvm.MethodName)) := hw.1 _ (List.mem_of_getElem? (i := 111) rfl)
theorem w_112 {W : Wd} (hw : Ws W) : Wok W (Jvm.Cond.declares ({ cls := "java/util/List", name := "size", desc := "()I" } : Jvm.MethodName)) := hw.1 _ (List.mem_of_getElem? (i := 112) rfl)
theorem w_113 {W : Wd} (hw : Ws W) : Wok W (Jvm.Cond.interfaceMethod "java/util/List" "java/util/List" "size" "()I") := hw.1 _ (List.mem_of_getElem? (i := 113) rfl)
theorem w_115 {W : Wd} (hw : Ws W) : Wok W (Jvm.Cond.instanceMethod ({ cls := "java/util/ArrayList", name := "size", desc := "()I" } : Jvm.MethodName)) := hw.1 _ (List.mem_of_getElem? (i := 115) rfl)
theorem w_116 {W : Wd} (hw : Ws W) : Wok W (Jvm.Cond.publicMethod ({ cls := "java/util/ArrayList", name := "size", desc := "()I" } : Jvm.MethodName)) := hw.1 _ (List.mem_of_getElem? (i := 116) rfl)
theorem w_117 {W : Wd} (hw : Ws W) : Wok W (Jvm.Cond.unhidden "java/util/ArrayList" "size" "()I") := hw.1 _ (List.mem_of_getElem? (i := 117) rfl)
theorem w_118 {W : Wd} (hw : Ws W) : Wok W (Jvm.Cond.castable "java/util/ArrayList" "java/util/List") := hw.1 _ (List.mem_of_getElem? (i := 118) rfl)
theorem d_prog_27_4_7 : Dc prog_27_method_4_code 7 (.iconst 1) 1 8 := ⟨by decide +kernel, rfl⟩
theorem d_prog_27_4_8 : Dc prog_27_method_4_code 8 (.isub) 1 9 := ⟨by decide +kernel, rfl⟩
theorem d_prog_27_4_9 : Dc prog_27_method_4_code 9 (.invokeinterface 13 2) 5 14 := ⟨by decide +kernel, rfl⟩
theorem w_123 {W : Wd} (hw : Ws W) : Wok W (Jvm.Cond.selects "java/util/ArrayList" ({ cls := "java/util/List", name := "get", desc := "(I)Ljava/lang/Object;" } : Jvm.MethodName) ({ cls := "java/util/ArrayList", name := "get", desc := "(I)Ljava/lang/Object;" } : Jvm.MethodName)) := hw.1 _ (List.mem_of_getElem? (i := 123) rfl)
theorem w_127 {W : Wd} (hw : Ws W) : Wok W (Jvm.Cond.code ({ cls := "java/util/ArrayList", name := "get", desc := "(I)Ljava/lang/Object;" } : Jvm.MethodName) jdk_38_method_20_code (2 : Nat) (Option.some (Jvm.ClassFile.FieldType.object "java/lang/Object"))) := hw.1 _ (List.mem_of_getElem? (i := 127) rfl)
theorem mk_M_get1 {W : Wd} (hw : Ws W) : Mk W M_get1 ⟨"java/util/ArrayList", "get", "(I)Ljava/lang/Object;"⟩ 1 := Mk.of nm_M_get1 rfl rfl rfl (w_127 hw) (w_54 hw) (mkLen pd__I_Ljava_lang_Object_ rfl) (by decide)
theorem w_120 {W : Wd} (hw : Ws W) : Wok W (Jvm.Cond.methodLink "com/example/binhold/binhold/maven/MavenLayout" (13 : Nat) ({ cls := "java/util/List", name := "get", desc := "(I)Ljava/lang/Object;" } : Jvm.MethodName)) := hw.1 _ (List.mem_of_getElem? (i := 120) rfl)
theorem w_121 {W : Wd} (hw : Ws W) : Wok W (Jvm.Cond.declares ({ cls := "java/util/List", name := "get", desc := "(I)Ljava/lang/Object;" } : Jvm.MethodName)) := hw.1 _ (List.mem_of_getElem? (i := 121) rfl)
theorem w_122 {W : Wd} (hw : Ws W) : Wok W (Jvm.Cond.interfaceMethod "java/util/List" "java/util/List" "get" "(I)Ljava/lang/Object;") := hw.1 _ (List.mem_of_getElem? (i := 122) rfl)
theorem w_124 {W : Wd} (hw : Ws W) : Wok W (Jvm.Cond.instanceMethod ({ cls := "java/util/ArrayList", name := "get", desc := "(I)Ljava/lang/Object;" } : Jvm.MethodName)) := hw.1 _ (List.mem_of_getElem? (i := 124) rfl)
theorem w_125 {W : Wd} (hw : Ws W) : Wok W (Jvm.Cond.publicMethod ({ cls := "java/util/ArrayList", name := "get", desc := "(I)Ljava/lang/Object;" } : Jvm.MethodName)) := hw.1 _ (List.mem_of_getElem? (i := 125) rfl)
theorem w_126 {W : Wd} (hw : Ws W) : Wok W (Jvm.Cond.unhidden "java/util/ArrayList" "get" "(I)Ljava/lang/Object;") := hw.1 _ (List.mem_of_getElem? (i := 126) rfl)
theorem d_prog_27_4_14 : Dc prog_27_method_4_code 14 (.checkcast 17) 3 17 := ⟨by decide +kernel, rfl⟩
theorem w_141 {W : Wd} (hw : Ws W) : Wok W (Jvm.Cond.classLink "com/example/binhold/binhold/maven/MavenLayout" (17 : Nat) "java/lang/String") := hw.1 _ (List.mem_of_getElem? (i := 141) rfl)
theorem d_prog_27_4_17 : Dc prog_27_method_4_code 17 (.ldc 109) 2 19 := ⟨by decide +kernel, rfl⟩
theorem d_prog_27_4_19 : Dc prog_27_method_4_code 19 (.invokevirtual 111) 3 22 := ⟨by decide +kernel, rfl⟩
theorem w_148 {W : Wd} (hw : Ws W) : Wok W (Jvm.Cond.selects "java/lang/String" ({ cls := "java/lang/String", name := "equals", desc := "(Ljava/lang/Object;)Z" } : Jvm.MethodName) ({ cls := "java/lang/String", name := "equals", desc := "(Ljava/lang/Object;)Z" } : Jvm.MethodName)) := hw.1 _ (List.mem_of_getElem? (i := 148) rfl)
theorem pp_4_5_0_1_2_3 : [4, 5, 0, 1, 2, 3].isPerm (List.range 6) = true := by decide +kernel
theorem w_149 {W : Wd} (hw : Ws W) : Wok W (Jvm.Cond.code ({ cls := "java/lang/String", name := "equals", desc := "(Ljava/lang/Object;)Z" } : Jvm.MethodName) jdk_42_method_66_code (3 : Nat) (Option.some Jvm.ClassFile.FieldType.boolean)) := hw.1 _ (List.mem_of_getElem? (i := 149) rfl)
theorem pd__Ljava_lang_Object__Z : parseMethodDescriptor "(Ljava/lang/Object;)Z" = some ⟨[(.object "java/lang/Object")], some .boolean⟩ := by decide +kernel
theorem mk_M_se {W : Wd} (hw : Ws W) : Mk W M_se ⟨"java/lang/String", "equals", "(Ljava/lang/Object;)Z"⟩ 1 := Mk.of nm_M_se rfl rfl rfl (w_149 hw) (w_8 hw) (mkLen pd__Ljava_lang_Object__Z rfl) (by decide)
theorem w_145 {W : Wd} (hw : Ws W) : Wok W (Jvm.Cond.methodLink "com/example/binhold/binhold/maven/MavenLayout" (111 : Nat) ({ cls := "java/lang/String", name := "equals", desc := "(Ljava/lang/Object;)Z" } : Jvm.MethodName)) := hw.1 _ (List.mem_of_getElem? (i := 145) rfl)
theorem w_146 {W : Wd} (hw : Ws W) : Wok W (Jvm.Cond.declares ({ cls := "java/lang/String", name := "equals", desc := "(Ljava/lang/Object;)Z" } : Jvm.MethodName)) := hw.1 _ (List.mem_of_getElem? (i := 146) rfl)
theorem w_147 {W : Wd} (hw : Ws W) : Wok W (Jvm.Cond.instanceMethod ({ cls := "java/lang/String", name := "equals", desc := "(Ljava/lang/Object;)Z" } : Jvm.MethodName)) := hw.1 _ (List.mem_of_getElem? (i := 147) rfl)
theorem d_prog_27_4_22 : Dc prog_27_method_4_code 22 (.ireturn) 1 23 := ⟨by decide +kernel, rfl⟩
def M_ism1 : Mt := (⟨"com/example/binhold/binhold/maven/MavenLayout", "isMetadata", "(Ljava/util/List;)Z"⟩, prog_27_method_4_code, 1, some .boolean, ⟨3, 2, 76, 40⟩)
theorem nm_M_ism1 : mN M_ism1 = ⟨"com/example/binhold/binhold/maven/MavenLayout", "isMetadata", "(Ljava/util/List;)Z"⟩ := by delta mN M_ism1; rfl
theorem pf_com_example_binhold_binhold_maven_MavenLayout : plainName "com/example/binhold/binhold/maven/MavenLayout" = true := by first | (simp [plainName, overriddenIn]; done) | decide +kernel
set_option maxRecDepth 65536 in
set_option maxHeartbeats 40000000 in
theorem rm_ism1 {W : Wd} (hw : Ws W) (l : Addr) (e : Addr) (s : Addr) (b : Addr) (rs : Bool) (rb : Bool) (xb : Bool) (ob : Bool) (xs : List Int32) (F : List En) (hn : xs.length < 2 ^ 31) : CtW consts_1 W M_ism1 [.ref l] ((oAL true l (.int 1) (.ref e) (.int 1)) :: (eO e [.ref s, .null, .null, .null, .null, .null, .null, .null, .null, .null]) :: (oStr rs s (.ref b) (.int 0)) :: (b, rb, .inr (.byte, xb, ob, csL xs)) :: F) (fun v H' => v = some (.int (eqI xs tt_0)) ∧ H' = ((oAL true l (.int 1) (.ref e) (.int 1)) :: (eO e [.ref s, .null, .null, .null, .null, .null, .null, .null, .null, .null]) :: (oStr rs s (.ref b) (.int 0)) :: (b, rb, .inr (.byte, xb, ob, csL xs)) :: F)) := by
  refine CtW.intro (ew_1 hw) (L0 := [.val (.ref l)]) (plainFor_of_name pf_com_example_binhold_binhold_maven_MavenLayout) rfl (fun K s0 hk => ?_)
  refine Wp.aloadN rfl rfl d_prog_27_4_0 ?_
  refine Wp.aloadN rfl rfl d_prog_27_4_1 ?_
  refine Wp.callI nm_M_ism1 (fun _ => rm_asz1 hw.set l e _ ) 0 rfl (mk_M_asz1 hw) (w_111 hw) (w_112 hw) (w_113 hw) (w_114 hw) (w_115 hw) (w_116 hw) (w_117 hw) (w_118 hw) (by decide) rfl rfl rfl (Wn := 1) rfl rfl (by decide) d_prog_27_4_2 ?_
  rintro _ _ ⟨rfl, rfl⟩
  refine Wp.iconst lc_1 d_prog_27_4_7 ?_
  refine Wp.isub (z := 0) (by decide) d_prog_27_4_8 ?_
  refine Wp.callI nm_M_ism1 (fun _ => rm_get1 hw.set l e s _ ) 0 rfl (mk_M_get1 hw) (w_120 hw) (w_121 hw) (w_122 hw) (w_123 hw) (w_124 hw) (w_125 hw) (w_126 hw) (w_118 hw) (by decide) rfl rfl rfl (Wn := 0) rfl rfl (by decide) d_prog_27_4_9 ?_
  rintro _ _ ⟨rfl, rfl⟩
  refine Wp.cast nm_M_ism1 (w_141 hw) (fun _ P => insSelf P 2 rfl) d_prog_27_4_14 ?_
  refine Wp.ldcK nm_M_ism1 (n1 := 72) hk (w_142 hw) (sa_1 hw) (List.mem_of_getElem? (i := 0) rfl) tx_0 (by decide) (nf_oStr hw) ln_0 (by decide) (by decide) (by decide) d_prog_27_4_17 (fun _ a1 b2 hk => ?_)
  refine Wp.perm [4, 5, 0, 1, 2, 3] 6 pp_4_5_0_1_2_3 (H' := ((oStr rs s (.ref b) (.int 0)) :: (b, rb, .inr (.byte, xb, ob, csL xs)) :: (oStr false a1 (.ref b2) (.int 0)) :: (b2, false, .inr (.byte, false, false, csL tt_0)) :: (oAL true l (.int 1) (.ref e) (.int 1)) :: (eO e [.ref s, .null, .null, .null, .null, .null, .null, .null, .null, .null]) :: F)) rfl ?_
  refine Wp.callV nm_M_ism1 (fun _ => rm_se hw.set s a1 rs false b b2 rb xb ob false false false xs tt_0 _ hn (by decide)) 0 rfl (mk_M_se hw) (w_145 hw) (w_146 hw) (w_148 hw) (w_147 hw) (S' := "") (Or.inl rfl) (by decide) rfl rfl rfl (Wn := 0) rfl rfl (by decide) d_prog_27_4_19 ?_
  rintro _ _ ⟨rfl, rfl⟩
  refine Wp.perm [4, 5, 0, 1, 2, 3] 6 pp_4_5_0_1_2_3 (H' := ((oAL true l (.int 1) (.ref e) (.int 1)) :: (eO e [.ref s, .null, .null, .null, .null, .null, .null, .null, .null, .null]) :: (oStr rs s (.ref b) (.int 0)) :: (b, rb, .inr (.byte, xb, ob, csL xs)) :: (oStr false a1 (.ref b2) (.int 0)) :: (b2, false, .inr (.byte, false, false, csL tt_0)) :: F)) rfl ?_
  refine Wp.less (((((((List.Sublist.refl _).cons _).cons _).cons_cons _).cons_cons _).cons_cons _).cons_cons _) ?_
  refine Wp.iretN (z := (eqI xs tt_0)) (by simp) rfl (narZ_eqI _ _) d_prog_27_4_22 (by decide) (by decide) ?_
  exact ⟨rfl, rfl⟩
def M_asz2 : Mt := (⟨"java/util/ArrayList", "size", "()I"⟩, jdk_38_method_8_code, 1, some .int, ⟨0, 0, 0, 0⟩)
theorem nm_M_asz2 : mN M_asz2 = ⟨"java/util/ArrayList", "size", "()I"⟩ := by delta mN M_asz2; rfl
set_option maxRecDepth 65536 in
set_option maxHeartbeats 40000000 in
theorem rm_asz2 {W : Wd} (hw : Ws W) (l : Addr) (e : Addr) (F : List En) : Ct W M_asz2 [.ref l] ((oAL true l (.int 2) (.ref e) (.int 2)) :: F) (fun v H' => v = some (.int 2) ∧ H' = ((oAL true l (.int 2) (.ref e) (.int 2)) :: F)) := by
  refine Ct.intro (L0 := [.val (.ref l)]) (plainFor_of_name pf_java_util_ArrayList) rfl (fun K => ?_)
  refine Wp.aloadN rfl rfl d_jdk_38_8_0 ?_
  refine Wp.getF nm_M_asz2 (host := "") (Or.inl (w_83 hw)) Via.refl 0 2 rfl rfl d_jdk_38_8_1 ?_
  refine Wp.iret rfl d_jdk_38_8_4 (by decide) (by decide) ?_
  exact ⟨rfl, rfl⟩
def M_pci2 : Mt := (⟨"jdk/internal/util/Preconditions", "checkIndex", "(IILjava/util/function/BiFunction;)I"⟩, jdk_41_method_11_code, 3, some .int, ⟨0, 0, 0, 0⟩)
theorem nm_M_pci2 : mN M_pci2 = ⟨"jdk/internal/util/Preconditions", "checkIndex", "(IILjava/util/function/BiFunction;)I"⟩ := by delta mN M_pci2; rfl
set_option maxRecDepth 65536 in
set_option maxHeartbeats 40000000 in
theorem rm_pci2 {W : Wd} (hw : Ws W) (F : List En) : Ct W M_pci2 [.int 1, .int 2, .null] F (fun v H' => v = some (.int 1) ∧ H' = F) := by
  refine Ct.intro (L0 := [.val (.int 1), .val (.int 2), .val (.null)]) (plainFor_of_name pf_jdk_internal_util_Preconditions) rfl (fun K => ?_)
  refine Wp.iloadN rfl d_jdk_41_11_0 ?_
  refine Wp.ifF (by decide) d_jdk_41_11_1 ?_
  refine Wp.iloadN rfl d_jdk_41_11_4 ?_
  refine Wp.iloadN rfl d_jdk_41_11_5 ?_
  refine Wp.icT (by decide) d_jdk_41_11_6 ?_
  refine Wp.iloadN rfl d_jdk_41_11_16 ?_
  refine Wp.iret rfl d_jdk_41_11_17 (by decide) (by decide) ?_
  exact ⟨rfl, rfl⟩
theorem mk_M_pci2 {W : Wd} (hw : Ws W) : Mk W M_pci2 ⟨"jdk/internal/util/Preconditions", "checkIndex", "(IILjava/util/function/BiFunction;)I"⟩ 3 := Mk.of nm_M_pci2 rfl rfl rfl (w_135 hw) (w_134 hw) (mkLen pd__IILjava_util_function_BiFunction__I rfl) (by decide)
def M_oci2 : Mt := (⟨"java/util/Objects", "checkIndex", "(II)I"⟩, jdk_31_method_17_code, 2, some .int, ⟨1, 0, 0, 14⟩)
theorem nm_M_oci2 : mN M_oci2 = ⟨"java/util/Objects", "checkIndex", "(II)I"⟩ := by delta mN M_oci2; rfl
set_option maxRecDepth 65536 in
set_option maxHeartbeats 40000000 in
theorem rm_oci2 {W : Wd} (hw : Ws W) (F : List En) : Ct W M_oci2 [.int 1, .int 2] F (fun v H' => v = some (.int 1) ∧ H' = F) := by
  refine Ct.intro (L0 := [.val (.int 1), .val (.int 2)]) (plainFor_of_name pf_java_util_Objects) rfl (fun K => ?_)
  refine Wp.iloadN rfl d_jdk_31_17_0 ?_
  refine Wp.iloadN rfl d_jdk_31_17_1 ?_
  refine Wp.aconstNull d_jdk_31_17_2 ?_
  refine Wp.callS nm_M_oci2 (fun _ => rm_pci2 hw.set  _ ) (mk_M_pci2 hw) (w_132 hw) (w_133 hw) rfl rfl (Wn := 0) rfl rfl (by decide) d_jdk_31_17_3 ?_
  rintro _ _ ⟨rfl, eH1⟩
  rw [eH1]
  refine Wp.iret rfl d_jdk_31_17_6 (by decide) (by decide) ?_
  exact ⟨rfl, rfl⟩
def M_eld2 : Mt := (⟨"java/util/ArrayList", "elementData", "(I)Ljava/lang/Object;"⟩, jdk_38_method_18_code, 2, some (.object "java/lang/Object"), ⟨0, 0, 0, 0⟩)
theorem nm_M_eld2 : mN M_eld2 = ⟨"java/util/ArrayList", "elementData", "(I)Ljava/lang/Object;"⟩ := by delta mN M_eld2; rfl
set_option maxRecDepth 65536 in
set_option maxHeartbeats 40000000 in
theorem rm_eld2 {W : Wd} (hw : Ws W) (l : Addr) (e : Addr) (u0 : Value) (s : Addr) (F : List En) : Ct W M_eld2 [.ref l, .int 1] ((oAL true l (.int 2) (.ref e) (.int 2)) :: (eO e [u0, .ref s, .null, .null, .null, .null, .null, .null, .null, .null]) :: F) (fun v H' => v = some (.ref s) ∧ H' = ((oAL true l (.int 2) (.ref e) (.int 2)) :: (eO e [u0, .ref s, .null, .null, .null, .null, .null, .null, .null, .null]) :: F)) := by
  refine Ct.intro (L0 := [.val (.ref l), .val (.int 1)]) (plainFor_of_name pf_java_util_ArrayList) rfl (fun K => ?_)
  refine Wp.aloadN rfl rfl d_jdk_38_18_0 ?_
  refine Wp.getF nm_M_eld2 (host := "") (Or.inl (w_74 hw)) Via.refl 0 1 rfl rfl d_jdk_38_18_1 ?_
  refine Wp.iloadN rfl d_jdk_38_18_4 ?_
  refine Wp.aaload 1 1 rfl rfl (by decide) (by decide) rfl d_jdk_38_18_5 ?_
  refine Wp.aret rfl rfl rfl d_jdk_38_18_6 (by decide) (by decide) ?_
  exact ⟨rfl, rfl⟩
theorem mk_M_oci2 {W : Wd} (hw : Ws W) : Mk W M_oci2 ⟨"java/util/Objects", "checkIndex", "(II)I"⟩ 2 := Mk.of nm_M_oci2 rfl rfl rfl (w_131 hw) (w_130 hw) (mkLen pd__II_I rfl) (by decide)
theorem mk_M_eld2 {W : Wd} (hw : Ws W) : Mk W M_eld2 ⟨"java/util/ArrayList", "elementData", "(I)Ljava/lang/Object;"⟩ 1 := Mk.of nm_M_eld2 rfl rfl rfl (w_140 hw) (w_54 hw) (mkLen pd__I_Ljava_lang_Object_ rfl) (by decide)
def M_get2 : Mt := (⟨"java/util/ArrayList", "get", "(I)Ljava/lang/Object;"⟩, jdk_38_method_20_code, 2, some (.object "java/lang/Object"), ⟨2, 0, 0, 27⟩)
theorem nm_M_get2 : mN M_get2 = ⟨"java/util/ArrayList", "get", "(I)Ljava/lang/Object;"⟩ := by delta mN M_get2; rfl
set_option maxRecDepth 65536 in
set_option maxHeartbeats 40000000 in
theorem rm_get2 {W : Wd} (hw : Ws W) (l : Addr) (e : Addr) (u0 : Value) (s : Addr) (F : List En) : Ct W M_get2 [.ref l, .int 1] ((oAL true l (.int 2) (.ref e) (.int 2)) :: (eO e [u0, .ref s, .null, .null, .null, .null, .null, .null, .null, .null]) :: F) (fun v H' => v = some (.ref s) ∧ H' = ((oAL true l (.int 2) (.ref e) (.int 2)) :: (eO e [u0, .ref s, .null, .null, .null, .null, .null, .null, .null, .null]) :: F)) := by
  refine Ct.intro (L0 := [.val (.ref l), .val (.int 1)]) (plainFor_of_name pf_java_util_ArrayList) rfl (fun K => ?_)
  refine Wp.iloadN rfl d_jdk_38_20_0 ?_
  refine Wp.aloadN rfl rfl d_jdk_38_20_1 ?_
  refine Wp.getF nm_M_get2 (host := "") (Or.inl (w_83 hw)) Via.refl 0 2 rfl rfl d_jdk_38_20_2 ?_
  refine Wp.callS nm_M_get2 (fun _ => rm_oci2 hw.set  _ ) (mk_M_oci2 hw) (w_128 hw) (w_129 hw) rfl rfl (Wn := 0) rfl rfl (by decide) d_jdk_38_20_5 ?_
  rintro _ _ ⟨rfl, rfl⟩
  refine Wp.pop rfl d_jdk_38_20_8 ?_
  refine Wp.aloadN rfl rfl d_jdk_38_20_9 ?_
  refine Wp.iloadN rfl d_jdk_38_20_10 ?_
  refine Wp.callV nm_M_get2 (fun _ => rm_eld2 hw.set l e u0 s _ ) 0 rfl (mk_M_eld2 hw) (w_136 hw) (w_137 hw) (w_139 hw) (w_138 hw) (S' := "") (Or.inl rfl) (by decide) rfl rfl rfl (Wn := 0) rfl rfl (by decide) d_jdk_38_20_11 ?_
  rintro _ _ ⟨rfl, rfl⟩
  refine Wp.aret rfl rfl rfl d_jdk_38_20_14 (by decide) (by decide) ?_
  exact ⟨rfl, rfl⟩
theorem mk_M_asz2 {W : Wd} (hw : Ws W) : Mk W M_asz2 ⟨"java/util/ArrayList", "size", "()I"⟩ 0 := Mk.of nm_M_asz2 rfl rfl rfl (w_119 hw) (w_54 hw) (mkLen pd___I rfl) (by decide)
theorem mk_M_get2 {W : Wd} (hw : Ws W) : Mk W M_get2 ⟨"java/util/ArrayList", "get", "(I)Ljava/lang/Object;"⟩ 1 := Mk.of nm_M_get2 rfl rfl rfl (w_127 hw) (w_54 hw) (mkLen pd__I_Ljava_lang_Object_ rfl) (by decide)
def M_ism2 : Mt := (⟨"com/example/binhold/binhold/maven/MavenLayout", "isMetadata", "(Ljava/util/List;)Z"⟩, prog_27_method_4_code, 1, some .boolean, ⟨3, 2, 76, 40⟩)
theorem nm_M_ism2 : mN M_ism2 = ⟨"com/example/binhold/binhold/maven/MavenLayout", "isMetadata", "(Ljava/util/List;)Z"⟩ := by delta mN M_ism2; rfl
set_option maxRecDepth 65536 in
set_option maxHeartbeats 40000000 in
theorem rm_ism2 {W : Wd} (hw : Ws W) (l : Addr) (e : Addr) (u0 : Value) (s : Addr) (b : Addr) (rs : Bool) (rb : Bool) (xb : Bool) (ob : Bool) (xs : List Int32) (F : List En) (hn : xs.length < 2 ^ 31) : CtW consts_1 W M_ism2 [.ref l] ((oAL true l (.int 2) (.ref e) (.int 2)) :: (eO e [u0, .ref s, .null, .null, .null, .null, .null, .null, .null, .null]) :: (oStr rs s (.ref b) (.int 0)) :: (b, rb, .inr (.byte, xb, ob, csL xs)) :: F) (fun v H' => v = some (.int (eqI xs tt_0)) ∧ H' = ((oAL true l (.int 2) (.ref e) (.int 2)) :: (eO e [u0, .ref s, .null, .null, .null, .null, .null, .null, .null, .null]) :: (oStr rs s (.ref b) (.int 0)) :: (b, rb, .inr (.byte, xb, ob, csL xs)) :: F)) := by
  refine CtW.intro (ew_1 hw) (L0 := [.val (.ref l)]) (plainFor_of_name pf_com_example_binhold_binhold_maven_MavenLayout) rfl (fun K s0 hk => ?_)
  refine Wp.aloadN rfl rfl d_prog_27_4_0 ?_
  refine Wp.aloadN rfl rfl d_prog_27_4_1 ?_
  refine Wp.callI nm_M_ism2 (fun _ => rm_asz2 hw.set l e _ ) 0 rfl (mk_M_asz2 hw) (w_111 hw) (w_112 hw) (w_113 hw) (w_114 hw) (w_115 hw) (w_116 hw) (w_117 hw) (w_118 hw) (by decide) rfl rfl rfl (Wn := 1) rfl rfl (by decide) d_prog_27_4_2 ?_
  rintro _ _ ⟨rfl, rfl⟩
  refine Wp.iconst lc_1 d_prog_27_4_7 ?_
  refine Wp.isub (z := 1) (by decide) d_prog_27_4_8 ?_
  refine Wp.callI nm_M_ism2 (fun _ => rm_get2 hw.set l e u0 s _ ) 0 rfl (mk_M_get2 hw) (w_120 hw) (w_121 hw) (w_122 hw) (w_123 hw) (w_124 hw) (w_125 hw) (w_126 hw) (w_118 hw) (by decide) rfl rfl rfl (Wn := 0) rfl rfl (by decide) d_prog_27_4_9 ?_
  rintro _ _ ⟨rfl, rfl⟩
  refine Wp.cast nm_M_ism2 (w_141 hw) (fun _ P => insSelf P 2 rfl) d_prog_27_4_14 ?_
  refine Wp.ldcK nm_M_ism2 (n1 := 72) hk (w_142 hw) (sa_1 hw) (List.mem_of_getElem? (i := 0) rfl) tx_0 (by decide) (nf_oStr hw) ln_0 (by decide) (by decide) (by decide) d_prog_27_4_17 (fun _ a1 b2 hk => ?_)
  refine Wp.perm [4, 5, 0, 1, 2, 3] 6 pp_4_5_0_1_2_3 (H' := ((oStr rs s (.ref b) (.int 0)) :: (b, rb, .inr (.byte, xb, ob, csL xs)) :: (oStr false a1 (.ref b2) (.int 0)) :: (b2, false, .inr (.byte, false, false, csL tt_0)) :: (oAL true l (.int 2) (.ref e) (.int 2)) :: (eO e [u0, .ref s, .null, .null, .null, .null, .null, .null, .null, .null]) :: F)) rfl ?_
  refine Wp.callV nm_M_ism2 (fun _ => rm_se hw.set s a1 rs false b b2 rb xb ob false false false xs tt_0 _ hn (by decide)) 0 rfl (mk_M_se hw) (w_145 hw) (w_146 hw) (w_148 hw) (w_147 hw) (S' := "") (Or.inl rfl) (by decide) rfl rfl rfl (Wn := 0) rfl rfl (by decide) d_prog_27_4_19 ?_
  rintro _ _ ⟨rfl, rfl⟩
  refine Wp.perm [4, 5, 0, 1, 2, 3] 6 pp_4_5_0_1_2_3 (H' := ((oAL true l (.int 2) (.ref e) (.int 2)) :: (eO e [u0, .ref s, .null, .null, .null, .null, .null, .null, .null, .null]) :: (oStr rs s (.ref b) (.int 0)) :: (b, rb, .inr (.byte, xb, ob, csL xs)) :: (oStr false a1 (.ref b2) (.int 0)) :: (b2, false, .inr (.byte, false, false, csL tt_0)) :: F)) rfl ?_
  refine Wp.less (((((((List.Sublist.refl _).cons _).cons _).cons_cons _).cons_cons _).cons_cons _).cons_cons _) ?_
  refine Wp.iretN (z := (eqI xs tt_0)) (by simp) rfl (narZ_eqI _ _) d_prog_27_4_22 (by decide) (by decide) ?_
  exact ⟨rfl, rfl⟩
def M_asz3 : Mt := (⟨"java/util/ArrayList", "size", "()I"⟩, jdk_38_method_8_code, 1, some .int, ⟨0, 0, 0, 0⟩)
theorem nm_M_asz3 : mN M_asz3 = ⟨"java/util/ArrayList", "size", "()I"⟩ := by delta mN M_asz3; rfl
set_option maxRecDepth 65536 in
set_option maxHeartbeats 40000000 in
theorem rm_asz3 {W : Wd} (hw : Ws W) (l : Addr) (e : Addr) (F : List En) : Ct W M_asz3 [.ref l] ((oAL true l (.int 3) (.ref e) (.int 3)) :: F) (fun v H' => v = some (.int 3) ∧ H' = ((oAL true l (.int 3) (.ref e) (.int 3)) :: F)) := by
  refine Ct.intro (L0 := [.val (.ref l)]) (plainFor_of_name pf_java_util_ArrayList) rfl (fun K => ?_)
  refine Wp.aloadN rfl rfl d_jdk_38_8_0 ?_
  refine Wp.getF nm_M_asz3 (host := "") (Or.inl (w_83 hw)) Via.refl 0 2 rfl rfl d_jdk_38_8_1 ?_
  refine Wp.iret rfl d_jdk_38_8_4 (by decide) (by decide) ?_
  exact ⟨rfl, rfl⟩
def M_pci3 : Mt := (⟨"jdk/internal/util/Preconditions", "checkIndex", "(IILjava/util/function/BiFunction;)I"⟩, jdk_41_method_11_code, 3, some .int, ⟨0, 0, 0, 0⟩)
theorem nm_M_pci3 : mN M_pci3 = ⟨"jdk/internal/util/Preconditions", "checkIndex", "(IILjava/util/function/BiFunction;)I"⟩ := by delta mN M_pci3; rfl
set_option maxRecDepth 65536 in
set_option maxHeartbeats 40000000 in
theorem rm_pci3 {W : Wd} (hw : Ws W) (F : List En) : Ct W M_pci3 [.int 2, .int 3, .null] F (fun v H' => v = some (.int 2) ∧ H' = F) := by
  refine Ct.intro (L0 := [.val (.int 2), .val (.int 3), .val (.null)]) (plainFor_of_name pf_jdk_internal_util_Preconditions) rfl (fun K => ?_)
  refine Wp.iloadN rfl d_jdk_41_11_0 ?_
  refine Wp.ifF (by decide) d_jdk_41_11_1 ?_
  refine Wp.iloadN rfl d_jdk_41_11_4 ?_
  refine Wp.iloadN rfl d_jdk_41_11_5 ?_
  refine Wp.icT (by decide) d_jdk_41_11_6 ?_
  refine Wp.iloadN rfl d_jdk_41_11_16 ?_
  refine Wp.iret rfl d_jdk_41_11_17 (by decide) (by decide) ?_
  exact ⟨rfl, rfl⟩
theorem mk_M_pci3 {W : Wd} (hw : Ws W) : Mk W M_pci3 ⟨"jdk/internal/util/Preconditions", "checkIndex", "(IILjava/util/function/BiFunction;)I"⟩ 3 := Mk.of nm_M_pci3 rfl rfl rfl (w_135 hw) (w_134 hw) (mkLen pd__IILjava_util_function_BiFunction__I rfl) (by decide)
def M_oci3 : Mt := (⟨"java/util/Objects", "checkIndex", "(II)I"⟩, jdk_31_method_17_code, 2, some .int, ⟨1, 0, 0, 14⟩)
theorem nm_M_oci3 : mN M_oci3 = ⟨"java/util/Objects", "checkIndex", "(II)I"⟩ := by delta mN M_oci3; rfl
set_option maxRecDepth 65536 in
set_option maxHeartbeats 40000000 in
theorem rm_oci3 {W : Wd} (hw : Ws W) (F : List En) : Ct W M_oci3 [.int 2, .int 3] F (fun v H' => v = some (.int 2) ∧ H' = F) := by
  refine Ct.intro (L0 := [.val (.int 2), .val (.int 3)]) (plainFor_of_name pf_java_util_Objects) rfl (fun K => ?_)
  refine Wp.iloadN rfl d_jdk_31_17_0 ?_
  refine Wp.iloadN rfl d_jdk_31_17_1 ?_
  refine Wp.aconstNull d_jdk_31_17_2 ?_
  refine Wp.callS nm_M_oci3 (fun _ => rm_pci3 hw.set  _ ) (mk_M_pci3 hw) (w_132 hw) (w_133 hw) rfl rfl (Wn := 0) rfl rfl (by decide) d_jdk_31_17_3 ?_
  rintro _ _ ⟨rfl, eH1⟩
  rw [eH1]
  refine Wp.iret rfl d_jdk_31_17_6 (by decide) (by decide) ?_
  exact ⟨rfl, rfl⟩
def M_eld3 : Mt := (⟨"java/util/ArrayList", "elementData", "(I)Ljava/lang/Object;"⟩, jdk_38_method_18_code, 2, some (.object "java/lang/Object"), ⟨0, 0, 0, 0⟩)
theorem nm_M_eld3 : mN M_eld3 = ⟨"java/util/ArrayList", "elementData", "(I)Ljava/lang/Object;"⟩ := by delta mN M_eld3; rfl
set_option maxRecDepth 65536 in
set_option maxHeartbeats 40000000 in
theorem rm_eld3 {W : Wd} (hw : Ws W) (l : Addr) (e : Addr) (u0 : Value) (u1 : Value) (s : Addr) (F : List En) : Ct W M_eld3 [.ref l, .int 2] ((oAL true l (.int 3) (.ref e) (.int 3)) :: (eO e [u0, u1, .ref s, .null, .null, .null, .null, .null, .null, .null]) :: F) (fun v H' => v = some (.ref s) ∧ H' = ((oAL true l (.int 3) (.ref e) (.int 3)) :: (eO e [u0, u1, .ref s, .null, .null, .null, .null, .null, .null, .null]) :: F)) := by
  refine Ct.intro (L0 := [.val (.ref l), .val (.int 2)]) (plainFor_of_name pf_java_util_ArrayList) rfl (fun K => ?_)
  refine Wp.aloadN rfl rfl d_jdk_38_18_0 ?_
  refine Wp.getF nm_M_eld3 (host := "") (Or.inl (w_74 hw)) Via.refl 0 1 rfl rfl d_jdk_38_18_1 ?_
  refine Wp.iloadN rfl d_jdk_38_18_4 ?_
  refine Wp.aaload 1 2 rfl rfl (by decide) (by decide) rfl d_jdk_38_18_5 ?_
  refine Wp.aret rfl rfl rfl d_jdk_38_18_6 (by decide) (by decide) ?_
  exact ⟨rfl, rfl⟩
theorem mk_M_oci3 {W : Wd} (hw : Ws W) : Mk W M_oci3 ⟨"java/util/Objects", "checkIndex", "(II)I"⟩ 2 := Mk.of nm_M_oci3 rfl rfl rfl (w_131 hw) (w_130 hw) (mkLen pd__II_I rfl) (by decide)
theorem mk_M_eld3 {W : Wd} (hw : Ws W) : Mk W M_eld3 ⟨"java/util/ArrayList", "elementData", "(I)Ljava/lang/Object;"⟩ 1 := Mk.of nm_M_eld3 rfl rfl rfl (w_140 hw) (w_54 hw) (mkLen pd__I_Ljava_lang_Object_ rfl) (by decide)
def M_get3 : Mt := (⟨"java/util/ArrayList", "get", "(I)Ljava/lang/Object;"⟩, jdk_38_method_20_code, 2, some (.object "java/lang/Object"), ⟨2, 0, 0, 27⟩)
theorem nm_M_get3 : mN M_get3 = ⟨"java/util/ArrayList", "get", "(I)Ljava/lang/Object;"⟩ := by delta mN M_get3; rfl
set_option maxRecDepth 65536 in
set_option maxHeartbeats 40000000 in
theorem rm_get3 {W : Wd} (hw : Ws W) (l : Addr) (e : Addr) (u0 : Value) (u1 : Value) (s : Addr) (F : List En) : Ct W M_get3 [.ref l, .int 2] ((oAL true l (.int 3) (.ref e) (.int 3)) :: (eO e [u0, u1, .ref s, .null, .null, .null, .null, .null, .null, .null]) :: F) (fun v H' => v = some (.ref s) ∧ H' = ((oAL true l (.int 3) (.ref e) (.int 3)) :: (eO e [u0, u1, .ref s, .null, .null, .null, .null, .null, .null, .null]) :: F)) := by
  refine Ct.intro (L0 := [.val (.ref l), .val (.int 2)]) (plainFor_of_name pf_java_util_ArrayList) rfl (fun K => ?_)
  refine Wp.iloadN rfl d_jdk_38_20_0 ?_
  refine Wp.aloadN rfl rfl d_jdk_38_20_1 ?_
  refine Wp.getF nm_M_get3 (host := "") (Or.inl (w_83 hw)) Via.refl 0 2 rfl rfl d_jdk_38_20_2 ?_
  refine Wp.callS nm_M_get3 (fun _ => rm_oci3 hw.set  _ ) (mk_M_oci3 hw) (w_128 hw) (w_129 hw) rfl rfl (Wn := 0) rfl rfl (by decide) d_jdk_38_20_5 ?_
  rintro _ _ ⟨rfl, rfl⟩
  refine Wp.pop rfl d_jdk_38_20_8 ?_
  refine Wp.aloadN rfl rfl d_jdk_38_20_9 ?_
  refine Wp.iloadN rfl d_jdk_38_20_10 ?_
  refine Wp.callV nm_M_get3 (fun _ => rm_eld3 hw.set l e u0 u1 s _ ) 0 rfl (mk_M_eld3 hw) (w_136 hw) (w_137 hw) (w_139 hw) (w_138 hw) (S' := "") (Or.inl rfl) (by decide) rfl rfl rfl (Wn := 0) rfl rfl (by decide) d_jdk_38_20_11 ?_
  rintro _ _ ⟨rfl, rfl⟩
  refine Wp.aret rfl rfl rfl d_jdk_38_20_14 (by decide) (by decide) ?_
  exact ⟨rfl, rfl⟩
theorem mk_M_asz3 {W : Wd} (hw : Ws W) : Mk W M_asz3 ⟨"java/util/ArrayList", "size", "()I"⟩ 0 := Mk.of nm_M_asz3 rfl rfl rfl (w_119 hw) (w_54 hw) (mkLen pd___I rfl) (by decide)
theorem mk_M_get3 {W : Wd} (hw : Ws W) : Mk W M_get3 ⟨"java/util/ArrayList", "get", "(I)Ljava/lang/Object;"⟩ 1 := Mk.of nm_M_get3 rfl rfl rfl (w_127 hw) (w_54 hw) (mkLen pd__I_Ljava_lang_Object_ rfl) (by decide)
def M_ism3 : Mt := (⟨"com/example/binhold/binhold/maven/MavenLayout", "isMetadata", "(Ljava/util/List;)Z"⟩, prog_27_method_4_code, 1, some .boolean, ⟨3, 2, 76, 40⟩)
theorem nm_M_ism3 : mN M_ism3 = ⟨"com/example/binhold/binhold/maven/MavenLayout", "isMetadata", "(Ljava/util/List;)Z"⟩ := by delta mN M_ism3; rfl
set_option maxRecDepth 65536 in
set_option maxHeartbeats 40000000 in
theorem rm_ism3 {W : Wd} (hw : Ws W) (l : Addr) (e : Addr) (u0 : Value) (u1 : Value) (s : Addr) (b : Addr) (rs : Bool) (rb : Bool) (xb : Bool) (ob : Bool) (xs : List Int32) (F : List En) (hn : xs.length < 2 ^ 31) : CtW consts_1 W M_ism3 [.ref l] ((oAL true l (.int 3) (.ref e) (.int 3)) :: (eO e [u0, u1, .ref s, .null, .null, .null, .null, .null, .null, .null]) :: (oStr rs s (.ref b) (.int 0)) :: (b, rb, .inr (.byte, xb, ob, csL xs)) :: F) (fun v H' => v = some (.int (eqI xs tt_0)) ∧ H' = ((oAL true l (.int 3) (.ref e) (.int 3)) :: (eO e [u0, u1, .ref s, .null, .null, .null, .null, .null, .null, .null]) :: (oStr rs s (.ref b) (.int 0)) :: (b, rb, .inr (.byte, xb, ob, csL xs)) :: F)) := by
  refine CtW.intro (ew_1 hw) (L0 := [.val (.ref l)]) (plainFor_of_name pf_com_example_binhold_binhold_maven_MavenLayout) rfl (fun K s0 hk => ?_)
  refine Wp.aloadN rfl rfl d_prog_27_4_0 ?_
  refine Wp.aloadN rfl rfl d_prog_27_4_1 ?_
  refine Wp.callI nm_M_ism3 (fun _ => rm_asz3 hw.set l e _ ) 0 rfl (mk_M_asz3 hw) (w_111 hw) (w_112 hw) (w_113 hw) (w_114 hw) (w_115 hw) (w_116 hw) (w_117 hw) (w_118 hw) (by decide) rfl rfl rfl (Wn := 1) rfl rfl (by decide) d_prog_27_4_2 ?_
  rintro _ _ ⟨rfl, rfl⟩
  refine Wp.iconst lc_1 d_prog_27_4_7 ?_
  refine Wp.isub (z := 2) (by decide) d_prog_27_4_8 ?_
  refine Wp.callI nm_M_ism3 (fun _ => rm_get3 hw.set l e u0 u1 s _ ) 0 rfl (mk_M_get3 hw) (w_120 hw) (w_121 hw) (w_122 hw) (w_123 hw) (w_124 hw) (w_125 hw) (w_126 hw) (w_118 hw) (by decide) rfl rfl rfl (Wn := 0) rfl rfl (by decide) d_prog_27_4_9 ?_
  rintro _ _ ⟨rfl, rfl⟩
  refine Wp.cast nm_M_ism3 (w_141 hw) (fun _ P => insSelf P 2 rfl) d_prog_27_4_14 ?_
  refine Wp.ldcK nm_M_ism3 (n1 := 72) hk (w_142 hw) (sa_1 hw) (List.mem_of_getElem? (i := 0) rfl) tx_0 (by decide) (nf_oStr hw) ln_0 (by decide) (by decide) (by decide) d_prog_27_4_17 (fun _ a1 b2 hk => ?_)
  refine Wp.perm [4, 5, 0, 1, 2, 3] 6 pp_4_5_0_1_2_3 (H' := ((oStr rs s (.ref b) (.int 0)) :: (b, rb, .inr (.byte, xb, ob, csL xs)) :: (oStr false a1 (.ref b2) (.int 0)) :: (b2, false, .inr (.byte, false, false, csL tt_0)) :: (oAL true l (.int 3) (.ref e) (.int 3)) :: (eO e [u0, u1, .ref s, .null, .null, .null, .null, .null, .null, .null]) :: F)) rfl ?_
  refine Wp.callV nm_M_ism3 (fun _ => rm_se hw.set s a1 rs false b b2 rb xb ob false false false xs tt_0 _ hn (by decide)) 0 rfl (mk_M_se hw) (w_145 hw) (w_146 hw) (w_148 hw) (w_147 hw) (S' := "") (Or.inl rfl) (by decide) rfl rfl rfl (Wn := 0) rfl rfl (by decide) d_prog_27_4_19 ?_
  rintro _ _ ⟨rfl, rfl⟩
  refine Wp.perm [4, 5, 0, 1, 2, 3] 6 pp_4_5_0_1_2_3 (H' := ((oAL true l (.int 3) (.ref e) (.int 3)) :: (eO e [u0, u1, .ref s, .null, .null, .null, .null, .null, .null, .null]) :: (oStr rs s (.ref b) (.int 0)) :: (b, rb, .inr (.byte, xb, ob, csL xs)) :: (oStr false a1 (.ref b2) (.int 0)) :: (b2, false, .inr (.byte, false, false, csL tt_0)) :: F)) rfl ?_
  refine Wp.less (((((((List.Sublist.refl _).cons _).cons _).cons_cons _).cons_cons _).cons_cons _).cons_cons _) ?_
  refine Wp.iretN (z := (eqI xs tt_0)) (by simp) rfl (narZ_eqI _ _) d_prog_27_4_22 (by decide) (by decide) ?_
  exact ⟨rfl, rfl⟩
def M_asz4 : Mt := (⟨"java/util/ArrayList", "size", "()I"⟩, jdk_38_method_8_code, 1, some .int, ⟨0, 0, 0, 0⟩)
theorem nm_M_asz4 : mN M_asz4 = ⟨"java/util/ArrayList", "size", "()I"⟩ := by delta mN M_asz4; rfl
set_option maxRecDepth 65536 in
set_option maxHeartbeats 40000000 in
theorem rm_asz4 {W : Wd} (hw : Ws W) (l : Addr) (e : Addr) (F : List En) : Ct W M_asz4 [.ref l] ((oAL true l (.int 4) (.ref e) (.int 4)) :: F) (fun v H' => v = some (.int 4) ∧ H' = ((oAL true l (.int 4) (.ref e) (.int 4)) :: F)) := by
  refine Ct.intro (L0 := [.val (.ref l)]) (plainFor_of_name pf_java_util_ArrayList) rfl (fun K => ?_)
  refine Wp.aloadN rfl rfl d_jdk_38_8_0 ?_
  refine Wp.getF nm_M_asz4 (host := "") (Or.inl (w_83 hw)) Via.refl 0 2 rfl rfl d_jdk_38_8_1 ?_
  refine Wp.iret rfl d_jdk_38_8_4 (by decide) (by decide) ?_
  exact ⟨rfl, rfl⟩
def M_pci4 : Mt := (⟨"jdk/internal/util/Preconditions", "checkIndex", "(IILjava/util/function/BiFunction;)I"⟩, jdk_41_method_11_code, 3, some .int, ⟨0, 0, 0, 0⟩)
theorem nm_M_pci4 : mN M_pci4 = ⟨"jdk/internal/util/Preconditions", "checkIndex", "(IILjava/util/function/BiFunction;)I"⟩ := by delta mN M_pci4; rfl
set_option maxRecDepth 65536 in
set_option maxHeartbeats 40000000 in
theorem rm_pci4 {W : Wd} (hw : Ws W) (F : List En) : Ct W M_pci4 [.int 3, .int 4, .null] F (fun v H' => v = some (.int 3) ∧ H' = F) := by
  refine Ct.intro (L0 := [.val (.int 3), .val (.int 4), .val (.null)]) (plainFor_of_name pf_jdk_internal_util_Preconditions) rfl (fun K => ?_)
  refine Wp.iloadN rfl d_jdk_41_11_0 ?_
  refine Wp.ifF (by decide) d_jdk_41_11_1 ?_
  refine Wp.iloadN rfl d_jdk_41_11_4 ?_
  refine Wp.iloadN rfl d_jdk_41_11_5 ?_
  refine Wp.icT (by decide) d_jdk_41_11_6 ?_
  refine Wp.iloadN rfl d_jdk_41_11_16 ?_
  refine Wp.iret rfl d_jdk_41_11_17 (by decide) (by decide) ?_
  exact ⟨rfl, rfl⟩
theorem mk_M_pci4 {W : Wd} (hw : Ws W) : Mk W M_pci4 ⟨"jdk/internal/util/Preconditions", "checkIndex", "(IILjava/util/function/BiFunction;)I"⟩ 3 := Mk.of nm_M_pci4 rfl rfl rfl (w_135 hw) (w_134 hw) (mkLen pd__IILjava_util_function_BiFunction__I rfl) (by decide)
def M_oci4 : Mt := (⟨"java/util/Objects", "checkIndex", "(II)I"⟩, jdk_31_method_17_code, 2, some .int, ⟨1, 0, 0, 14⟩)
theorem nm_M_oci4 : mN M_oci4 = ⟨"java/util/Objects", "checkIndex", "(II)I"⟩ := by delta mN M_oci4; rfl
set_option maxRecDepth 65536 in
set_option maxHeartbeats 40000000 in
theorem rm_oci4 {W : Wd} (hw : Ws W) (F : List En) : Ct W M_oci4 [.int 3, .int 4] F (fun v H' => v = some (.int 3) ∧ H' = F) := by
  refine Ct.intro (L0 := [.val (.int 3), .val (.int 4)]) (plainFor_of_name pf_java_util_Objects) rfl (fun K => ?_)
  refine Wp.iloadN rfl d_jdk_31_17_0 ?_
  refine Wp.iloadN rfl d_jdk_31_17_1 ?_
  refine Wp.aconstNull d_jdk_31_17_2 ?_
  refine Wp.callS nm_M_oci4 (fun _ => rm_pci4 hw.set  _ ) (mk_M_pci4 hw) (w_132 hw) (w_133 hw) rfl rfl (Wn := 0) rfl rfl (by decide) d_jdk_31_17_3 ?_
  rintro _ _ ⟨rfl, eH1⟩
  rw [eH1]
  refine Wp.iret rfl d_jdk_31_17_6 (by decide) (by decide) ?_
  exact ⟨rfl, rfl⟩
def M_eld4 : Mt := (⟨"java/util/ArrayList", "elementData", "(I)Ljava/lang/Object;"⟩, jdk_38_method_18_code, 2, some (.object "java/lang/Object"), ⟨0, 0, 0, 0⟩)
theorem nm_M_eld4 : mN M_eld4 = ⟨"java/util/ArrayList", "elementData", "(I)Ljava/lang/Object;"⟩ := by delta mN M_eld4; rfl
set_option maxRecDepth 65536 in
set_option maxHeartbeats 40000000 in
theorem rm_eld4 {W : Wd} (hw : Ws W) (l : Addr) (e : Addr) (u0 : Value) (u1 : Value) (u2 : Value) (s : Addr) (F : List En) : Ct W M_eld4 [.ref l, .int 3] ((oAL true l (.int 4) (.ref e) (.int 4)) :: (eO e [u0, u1, u2, .ref s, .null, .null, .null, .null, .null, .null]) :: F) (fun v H' => v = some (.ref s) ∧ H' = ((oAL true l (.int 4) (.ref e) (.int 4)) :: (eO e [u0, u1, u2, .ref s, .null, .null, .null, .null, .null, .null]) :: F)) := by
  refine Ct.intro (L0 := [.val (.ref l), .val (.int 3)]) (plainFor_of_name pf_java_util_ArrayList) rfl (fun K => ?_)
  refine Wp.aloadN rfl rfl d_jdk_38_18_0 ?_
  refine Wp.getF nm_M_eld4 (host := "") (Or.inl (w_74 hw)) Via.refl 0 1 rfl rfl d_jdk_38_18_1 ?_
  refine Wp.iloadN rfl d_jdk_38_18_4 ?_
  refine Wp.aaload 1 3 rfl rfl (by decide) (by decide) rfl d_jdk_38_18_5 ?_
  refine Wp.aret rfl rfl rfl d_jdk_38_18_6 (by decide) (by decide) ?_
  exact ⟨rfl, rfl⟩
theorem mk_M_oci4 {W : Wd} (hw : Ws W) : Mk W M_oci4 ⟨"java/util/Objects", "checkIndex", "(II)I"⟩ 2 := Mk.of nm_M_oci4 rfl rfl rfl (w_131 hw) (w_130 hw) (mkLen pd__II_I rfl) (by decide)
theorem mk_M_eld4 {W : Wd} (hw : Ws W) : Mk W M_eld4 ⟨"java/util/ArrayList", "elementData", "(I)Ljava/lang/Object;"⟩ 1 := Mk.of nm_M_eld4 rfl rfl rfl (w_140 hw) (w_54 hw) (mkLen pd__I_Ljava_lang_Object_ rfl) (by decide)
def M_get4 : Mt := (⟨"java/util/ArrayList", "get", "(I)Ljava/lang/Object;"⟩, jdk_38_method_20_code, 2, some (.object "java/lang/Object"), ⟨2, 0, 0, 27⟩)
theorem nm_M_get4 : mN M_get4 = ⟨"java/util/ArrayList", "get", "(I)Ljava/lang/Object;"⟩ := by delta mN M_get4; rfl
set_option maxRecDepth 65536 in
set_option maxHeartbeats 40000000 in
theorem rm_get4 {W : Wd} (hw : Ws W) (l : Addr) (e : Addr) (u0 : Value) (u1 : Value) (u2 : Value) (s : Addr) (F : List En) : Ct W M_get4 [.ref l, .int 3] ((oAL true l (.int 4) (.ref e) (.int 4)) :: (eO e [u0, u1, u2, .ref s, .null, .null, .null, .null, .null, .null]) :: F) (fun v H' => v = some (.ref s) ∧ H' = ((oAL true l (.int 4) (.ref e) (.int 4)) :: (eO e [u0, u1, u2, .ref s, .null, .null, .null, .null, .null, .null]) :: F)) := by
  refine Ct.intro (L0 := [.val (.ref l), .val (.int 3)]) (plainFor_of_name pf_java_util_ArrayList) rfl (fun K => ?_)
  refine Wp.iloadN rfl d_jdk_38_20_0 ?_
  refine Wp.aloadN rfl rfl d_jdk_38_20_1 ?_
  refine Wp.getF nm_M_get4 (host := "") (Or.inl (w_83 hw)) Via.refl 0 2 rfl rfl d_jdk_38_20_2 ?_
  refine Wp.callS nm_M_get4 (fun _ => rm_oci4 hw.set  _ ) (mk_M_oci4 hw) (w_128 hw) (w_129 hw) rfl rfl (Wn := 0) rfl rfl (by decide) d_jdk_38_20_5 ?_
  rintro _ _ ⟨rfl, rfl⟩
  refine Wp.pop rfl d_jdk_38_20_8 ?_
  refine Wp.aloadN rfl rfl d_jdk_38_20_9 ?_
  refine Wp.iloadN rfl d_jdk_38_20_10 ?_
  refine Wp.callV nm_M_get4 (fun _ => rm_eld4 hw.set l e u0 u1 u2 s _ ) 0 rfl (mk_M_eld4 hw) (w_136 hw) (w_137 hw) (w_139 hw) (w_138 hw) (S' := "") (Or.inl rfl) (by decide) rfl rfl rfl (Wn := 0) rfl rfl (by decide) d_jdk_38_20_11 ?_
  rintro _ _ ⟨rfl, rfl⟩
  refine Wp.aret rfl rfl rfl d_jdk_38_20_14 (by decide) (by decide) ?_
  exact ⟨rfl, rfl⟩
theorem mk_M_asz4 {W : Wd} (hw : Ws W) : Mk W M_asz4 ⟨"java/util/ArrayList", "size", "()I"⟩ 0 := Mk.of nm_M_asz4 rfl rfl rfl (w_119 hw) (w_54 hw) (mkLen pd___I rfl) (by decide)
theorem mk_M_get4 {W : Wd} (hw : Ws W) : Mk W M_get4 ⟨"java/util/ArrayList", "get", "(I)Ljava/lang/Object;"⟩ 1 := Mk.of nm_M_get4 rfl rfl rfl (w_127 hw) (w_54 hw) (mkLen pd__I_Ljava_lang_Object_ rfl) (by decide)
def M_ism4 : Mt := (⟨"com/example/binhold/binhold/maven/MavenLayout", "isMetadata", "(Ljava/util/List;)Z"⟩, prog_27_method_4_code, 1, some .boolean, ⟨3, 2, 76, 40⟩)
theorem nm_M_ism4 : mN M_ism4 = ⟨"com/example/binhold/binhold/maven/MavenLayout", "isMetadata", "(Ljava/util/List;)Z"⟩ := by delta mN M_ism4; rfl
set_option maxRecDepth 65536 in
set_option maxHeartbeats 40000000 in
theorem rm_ism4 {W : Wd} (hw : Ws W) (l : Addr) (e : Addr) (u0 : Value) (u1 : Value) (u2 : Value) (s : Addr) (b : Addr) (rs : Bool) (rb : Bool) (xb : Bool) (ob : Bool) (xs : List Int32) (F : List En) (hn : xs.length < 2 ^ 31) : CtW consts_1 W M_ism4 [.ref l] ((oAL true l (.int 4) (.ref e) (.int 4)) :: (eO e [u0, u1, u2, .ref s, .null, .null, .null, .null, .null, .null]) :: (oStr rs s (.ref b) (.int 0)) :: (b, rb, .inr (.byte, xb, ob, csL xs)) :: F) (fun v H' => v = some (.int (eqI xs tt_0)) ∧ H' = ((oAL true l (.int 4) (.ref e) (.int 4)) :: (eO e [u0, u1, u2, .ref s, .null, .null, .null, .null, .null, .null]) :: (oStr rs s (.ref b) (.int 0)) :: (b, rb, .inr (.byte, xb, ob, csL xs)) :: F)) := by
  refine CtW.intro (ew_1 hw) (L0 := [.val (.ref l)]) (plainFor_of_name pf_com_example_binhold_binhold_maven_MavenLayout) rfl (fun K s0 hk => ?_)
  refine Wp.aloadN rfl rfl d_prog_27_4_0 ?_
  refine Wp.aloadN rfl rfl d_prog_27_4_1 ?_
  refine Wp.callI nm_M_ism4 (fun _ => rm_asz4 hw.set l e _ ) 0 rfl (mk_M_asz4 hw) (w_111 hw) (w_112 hw) (w_113 hw) (w_114 hw) (w_115 hw) (w_116 hw) (w_117 hw) (w_118 hw) (by decide) rfl rfl rfl (Wn := 1) rfl rfl (by decide) d_prog_27_4_2 ?_
  rintro _ _ ⟨rfl, rfl⟩
  refine Wp.iconst lc_1 d_prog_27_4_7 ?_
  refine Wp.isub (z := 3) (by decide) d_prog_27_4_8 ?_
  refine Wp.callI nm_M_ism4 (fun _ => rm_get4 hw.set l e u0 u1 u2 s _ ) 0 rfl (mk_M_get4 hw) (w_120 hw) (w_121 hw) (w_122 hw) (w_123 hw) (w_124 hw) (w_125 hw) (w_126 hw) (w_118 hw) (by decide) rfl rfl rfl (Wn := 0) rfl rfl (by decide) d_prog_27_4_9 ?_
  rintro _ _ ⟨rfl, rfl⟩
  refine Wp.cast nm_M_ism4 (w_141 hw) (fun _ P => insSelf P 2 rfl) d_prog_27_4_14 ?_
  refine Wp.ldcK nm_M_ism4 (n1 := 72) hk (w_142 hw) (sa_1 hw) (List.mem_of_getElem? (i := 0) rfl) tx_0 (by decide) (nf_oStr hw) ln_0 (by decide) (by decide) (by decide) d_prog_27_4_17 (fun _ a1 b2 hk => ?_)
  refine Wp.perm [4, 5, 0, 1, 2, 3] 6 pp_4_5_0_1_2_3 (H' := ((oStr rs s (.ref b) (.int 0)) :: (b, rb, .inr (.byte, xb, ob, csL xs)) :: (oStr false a1 (.ref b2) (.int 0)) :: (b2, false, .inr (.byte, false, false, csL tt_0)) :: (oAL true l (.int 4) (.ref e) (.int 4)) :: (eO e [u0, u1, u2, .ref s, .null, .null, .null, .null, .null, .null]) :: F)) rfl ?_
  refine Wp.callV nm_M_ism4 (fun _ => rm_se hw.set s a1 rs false b b2 rb xb ob false false false xs tt_0 _ hn (by decide)) 0 rfl (mk_M_se hw) (w_145 hw) (w_146 hw) (w_148 hw) (w_147 hw) (S' := "") (Or.inl rfl) (by decide) rfl rfl rfl (Wn := 0) rfl rfl (by decide) d_prog_27_4_19 ?_
  rintro _ _ ⟨rfl, rfl⟩
  refine Wp.perm [4, 5, 0, 1, 2, 3] 6 pp_4_5_0_1_2_3 (H' := ((oAL true l (.int 4) (.ref e) (.int 4)) :: (eO e [u0, u1, u2, .ref s, .null, .null, .null, .null, .null, .null]) :: (oStr rs s (.ref b) (.int 0)) :: (b, rb, .inr (.byte, xb, ob, csL xs)) :: (oStr false a1 (.ref b2) (.int 0)) :: (b2, false, .inr (.byte, false, false, csL tt_0)) :: F)) rfl ?_
  refine Wp.less (((((((List.Sublist.refl _).cons _).cons _).cons_cons _).cons_cons _).cons_cons _).cons_cons _) ?_
  refine Wp.iretN (z := (eqI xs tt_0)) (by simp) rfl (narZ_eqI _ _) d_prog_27_4_22 (by decide) (by decide) ?_
  exact ⟨rfl, rfl⟩
def M0 : Mt := (x, code, maxLocals, ret, room_1)
theorem nm_M0 : mN M0 = ⟨"com/example/binhold/binhold/maven/MavenLayoutIsMetadataPinLaw", "law", "(IIIII)Z"⟩ := by delta M0; delta mN x; rfl
theorem d_law_208 : Dc code 208 (.new 40) 3 211 := ⟨by decide +kernel, rfl⟩
theorem w_52 {W : Wd} (hw : Ws W) : Wok W (Jvm.Cond.classLink "com/example/binhold/binhold/maven/MavenLayoutIsMetadataPinLaw" (40 : Nat) "java/util/ArrayList") := hw.1 _ (List.mem_of_getElem? (i := 52) rfl)
theorem nf_oAL {W : Wd} (hw : Ws W) : NewFs W "java/util/ArrayList" [("java/util/AbstractList", "modCount", "I", .int 0), ("java/util/ArrayList", "elementData", "[Ljava/lang/Object;", .null), ("java/util/ArrayList", "size", "I", .int 0)] := NewFs.cons (Or.inl (w_72 hw)) (ty := .int) (by decide) rfl (by decide) (NewFs.cons (Or.inl (w_75 hw)) (ty := (.array (.object "java/lang/Object"))) (by decide) rfl (by decide) (NewFs.cons (Or.inl (w_84 hw)) (ty := .int) (by decide) rfl (by decide) (NewFs.nil)))
theorem d_law_211 : Dc code 211 (.dup) 1 212 := ⟨by decide +kernel, rfl⟩
theorem d_law_212 : Dc code 212 (.invokespecial 42) 3 215 := ⟨by decide +kernel, rfl⟩
theorem w_57 {W : Wd} (hw : Ws W) : Wok W (Jvm.Cond.code ({ cls := "java/util/ArrayList", name := "<init>", desc := "()V" } : Jvm.MethodName) jdk_38_method_2_code (1 : Nat) (Option.none : Option Jvm.ClassFile.FieldType)) := hw.1 _ (List.mem_of_getElem? (i := 57) rfl)
theorem mk_M_ali {W : Wd} (hw : Ws W) : Mk W M_ali ⟨"java/util/ArrayList", "<init>", "()V"⟩ 0 := Mk.of nm_M_ali rfl rfl rfl (w_57 hw) (w_54 hw) (mkLen pd___V rfl) (by decide)
theorem w_55 {W : Wd} (hw : Ws W) : Wok W (Jvm.Cond.methodLink "com/example/binhold/binhold/maven/MavenLayoutIsMetadataPinLaw" (42 : Nat) ({ cls := "java/util/ArrayList", name := "<init>", desc := "()V" } : Jvm.MethodName)) := hw.1 _ (List.mem_of_getElem? (i := 55) rfl)
theorem w_56 {W : Wd} (hw : Ws W) : Wok W (Jvm.Cond.instanceMethod ({ cls := "java/util/ArrayList", name := "<init>", desc := "()V" } : Jvm.MethodName)) := hw.1 _ (List.mem_of_getElem? (i := 56) rfl)
theorem d_law_215 : Dc code 215 (.astore 13) 2 217 := ⟨by decide +kernel, rfl⟩
theorem d_law_217 : Dc code 217 (.iload 5) 2 219 := ⟨by decide +kernel, rfl⟩
theorem d_law_219 : Dc code 219 (.iconst 2) 1 220 := ⟨by decide +kernel, rfl⟩
theorem d_law_220 : Bj code 220 (.if_icmp .lt 11) 11 223 231 := ⟨by decide +kernel, rfl, by decide, rfl⟩
theorem d_law_231 : Dc code 231 (.iload 5) 2 233 := ⟨by decide +kernel, rfl⟩
theorem d_law_233 : Dc code 233 (.iconst 3) 1 234 := ⟨by decide +kernel, rfl⟩
theorem d_law_234 : Bj code 234 (.if_icmp .lt 11) 11 237 245 := ⟨by decide +kernel, rfl, by decide, rfl⟩
theorem d_law_245 : Dc code 245 (.iload 5) 2 247 := ⟨by decide +kernel, rfl⟩
theorem d_law_247 : Dc code 247 (.iconst 4) 1 248 := ⟨by decide +kernel, rfl⟩
theorem d_law_248 : Bj code 248 (.if_icmp .lt 11) 11 251 259 := ⟨by decide +kernel, rfl, by decide, rfl⟩
theorem d_law_259 : Dc code 259 (.aload 13) 2 261 := ⟨by decide +kernel, rfl⟩
theorem d_law_261 : Dc code 261 (.aload 10) 2 263 := ⟨by decide +kernel, rfl⟩
theorem d_law_263 : Dc code 263 (.invokevirtual 43) 3 266 := ⟨by decide +kernel, rfl⟩
theorem w_79 {W : Wd} (hw : Ws W) : Wok W (Jvm.Cond.selects "java/util/ArrayList" ({ cls := "java/util/ArrayList", name := "add", desc := "(Ljava/lang/Object;)Z" } : Jvm.MethodName) ({ cls := "java/util/ArrayList", name := "add", desc := "(Ljava/lang/Object;)Z" } : Jvm.MethodName)) := hw.1 _ (List.mem_of_getElem? (i := 79) rfl)
theorem pp_0_4_1_2_3 : [0, 4, 1, 2, 3].isPerm (List.range 5) = true := by decide +kernel
theorem w_80 {W : Wd} (hw : Ws W) : Wok W (Jvm.Cond.code ({ cls := "java/util/ArrayList", name := "add", desc := "(Ljava/lang/Object;)Z" } : Jvm.MethodName) jdk_38_method_25_code (2 : Nat) (Option.some Jvm.ClassFile.FieldType.boolean)) := hw.1 _ (List.mem_of_getElem? (i := 80) rfl)
theorem mk_M_add_0 {W : Wd} (hw : Ws W) : Mk W M_add_0 ⟨"java/util/ArrayList", "add", "(Ljava/lang/Object;)Z"⟩ 1 := Mk.of nm_M_add_0 rfl rfl rfl (w_80 hw) (w_54 hw) (mkLen pd__Ljava_lang_Object__Z rfl) (by decide)
theorem w_76 {W : Wd} (hw : Ws W) : Wok W (Jvm.Cond.methodLink "com/example/binhold/binhold/maven/MavenLayoutIsMetadataPinLaw" (43 : Nat) ({ cls := "java/util/ArrayList", name := "add", desc := "(Ljava/lang/Object;)Z" } : Jvm.MethodName)) := hw.1 _ (List.mem_of_getElem? (i := 76) rfl)
theorem w_77 {W : Wd} (hw : Ws W) : Wok W (Jvm.Cond.declares ({ cls := "java/util/ArrayList", name := "add", desc := "(Ljava/lang/Object;)Z" } : Jvm.MethodName)) := hw.1 _ (List.mem_of_getElem? (i := 77) rfl)
theorem w_78 {W : Wd} (hw : Ws W) : Wok W (Jvm.Cond.instanceMethod ({ cls := "java/util/ArrayList", name := "add", desc := "(Ljava/lang/Object;)Z" } : Jvm.MethodName)) := hw.1 _ (List.mem_of_getElem? (i := 78) rfl)
theorem d_law_266 : Dc code 266 (.pop) 1 267 := ⟨by decide +kernel, rfl⟩
theorem d_law_267 : Dc code 267 (.aload 13) 2 269 := ⟨by decide +kernel, rfl⟩
theorem d_law_269 : Dc code 269 (.invokestatic 47) 3 272 := ⟨by decide +kernel, rfl⟩
theorem pp_0_1_3_4_2 : [0, 1, 3, 4, 2].isPerm (List.range 5) = true := by decide +kernel
theorem w_110 {W : Wd} (hw : Ws W) : Wok W (Jvm.Cond.code ({ cls := "com/example/binhold/binhold/maven/MavenLayout", name := "isMetadata", desc := "(Ljava/util/List;)Z" } : Jvm.MethodName) prog_27_method_4_code (1 : Nat) (Option.some Jvm.ClassFile.FieldType.boolean)) := hw.1 _ (List.mem_of_getElem? (i := 110) rfl)
theorem w_109 {W : Wd} (hw : Ws W) : Wok W (Jvm.Cond.initialized "com/example/binhold/binhold/maven/MavenLayout") := hw.1 _ (List.mem_of_getElem? (i := 109) rfl)
theorem pd__Ljava_util_List__Z : parseMethodDescriptor "(Ljava/util/List;)Z" = some ⟨[(.object "java/util/List")], some .boolean⟩ := by decide +kernel
theorem mk_M_ism1 {W : Wd} (hw : Ws W) : Mk W M_ism1 ⟨"com/example/binhold/binhold/maven/MavenLayout", "isMetadata", "(Ljava/util/List;)Z"⟩ 1 := Mk.of nm_M_ism1 rfl rfl rfl (w_110 hw) (w_109 hw) (mkLen pd__Ljava_util_List__Z rfl) (by decide)
theorem w_107 {W : Wd} (hw : Ws W) : Wok W (Jvm.Cond.methodLink "com/example/binhold/binhold/maven/MavenLayoutIsMetadataPinLaw" (47 : Nat) ({ cls := "com/example/binhold/binhold/maven/MavenLayout", name := "isMetadata", desc := "(Ljava/util/List;)Z" } : Jvm.MethodName)) := hw.1 _ (List.mem_of_getElem? (i := 107) rfl)
theorem w_108 {W : Wd} (hw : Ws W) : Wok W (Jvm.Cond.static ({ cls := "com/example/binhold/binhold/maven/MavenLayout", name := "isMetadata", desc := "(Ljava/util/List;)Z" } : Jvm.MethodName)) := hw.1 _ (List.mem_of_getElem? (i := 108) rfl)
theorem d_law_272 : Dc code 272 (.iload 11) 2 274 := ⟨by decide +kernel, rfl⟩
theorem d_law_274 : Bj code 274 (.if_icmp .ne 7) 7 277 281 := ⟨by decide +kernel, rfl, by decide, rfl⟩
theorem d_law_277 : Dc code 277 (.iconst 1) 1 278 := ⟨by decide +kernel, rfl⟩
theorem d_law_278 : Bj code 278 (.goto 4) 4 281 282 := ⟨by decide +kernel, rfl, by decide, rfl⟩
theorem d_law_282 : Dc code 282 (.ireturn) 1 283 := ⟨by decide +kernel, rfl⟩
set_option maxRecDepth 65536 in
set_option maxHeartbeats 40000000 in
theorem lp_208_1 {W : Wd} {K : Kx} (hw : Ws W) {s0 : State} (hk : kW K = some (s0, consts_1)) (p0 p1 p2 p3 p4 x6 x7 x8 z : Int32) (a9 s b de : Addr) (rs rb xb ob : Bool) (xs : List Int32) (t : Addr) (rt : Bool) (tv tc : Value) (hde : Sta (wZ W) (wZ W).heap "java/util/ArrayList" "DEFAULTCAPACITY_EMPTY_ELEMENTDATA" "[Ljava/lang/Object;" (.ref de)) (hn : xs.length < 2 ^ 31) (hz : z = eqI xs tt_0) : Wp W K M0 (fun v _ => v = some (.int 1)) [oStr rs s (.ref b) (.int 0), (b, rb, .inr (.byte, xb, ob, csL xs)), oStr rt t (tv) (tc), (de, false, .inr ((.object "java/lang/Object"), true, false, []))] 12 600 208 [.val (.int p0), .val (.int p1), .val (.int p2), .val (.int p3), .val (.int p4), .val (.int 1), .val (.int x6), .val (.int x7), .val (.int x8), .val (.ref a9), .val (.ref s), .val (.int z), .val (.ref t), .unset] [] := by
  refine Wp.newO nm_M0 (w_52 hw) (w_53 hw) (w_54 hw) (nf_oAL hw) (by decide) (by decide) d_law_208 (fun a1 => ?_)
  refine Wp.dup rfl d_law_211 ?_
  refine Wp.callC nm_M0 (fun _ => rm_ali hw.set a1 de _ hde) (mk_M_ali hw) (w_55 hw) (w_56 hw) rfl rfl rfl rfl (Wn := 1) rfl rfl (by decide) d_law_212 ?_
  rintro _ _ ⟨rfl, rfl⟩
  refine Wp.astore (L' := [.val (.int p0), .val (.int p1), .val (.int p2), .val (.int p3), .val (.int p4), .val (.int 1), .val (.int x6), .val (.int x7), .val (.int x8), .val (.ref a9), .val (.ref s), .val (.int z), .val (.ref t), .val (.ref a1)]) rfl rfl d_law_215 ?_
  refine Wp.iload rfl d_law_217 ?_
  refine Wp.iconst lc_2 d_law_219 ?_
  refine Wp.icT (by decide) d_law_220 ?_
  refine Wp.iload rfl d_law_231 ?_
  refine Wp.iconst lc_3 d_law_233 ?_
  refine Wp.icT (by decide) d_law_234 ?_
  refine Wp.iload rfl d_law_245 ?_
  refine Wp.iconst lc_4 d_law_247 ?_
  refine Wp.icT (by decide) d_law_248 ?_
  refine Wp.aload rfl rfl d_law_259 ?_
  refine Wp.aload rfl rfl d_law_261 ?_
  refine Wp.perm [0, 4, 1, 2, 3] 5 pp_0_4_1_2_3 (H' := [oAL true a1 (.int 0) (.ref de) (.int 0), (de, false, .inr ((.object "java/lang/Object"), true, false, [])), oStr rs s (.ref b) (.int 0), (b, rb, .inr (.byte, xb, ob, csL xs)), oStr rt t (tv) (tc)]) rfl ?_
  refine Wp.callV nm_M0 (fun _ => rm_add_0 hw.set a1 de s rs (.ref b) (.int 0) _ hde) 0 rfl (mk_M_add_0 hw) (w_76 hw) (w_77 hw) (w_79 hw) (w_78 hw) (S' := "") (Or.inl rfl) (by decide) rfl rfl rfl (Wn := 0) rfl rfl (by decide) d_law_263 ?_
  rintro _ _ ⟨e_2, rfl, rfl⟩
  refine Wp.pop rfl d_law_266 ?_
  refine Wp.aload rfl rfl d_law_267 ?_
  refine Wp.perm [0, 1, 3, 4, 2] 5 pp_0_1_3_4_2 (H' := [oAL true a1 (.int 1) (.ref e_2) (.int 1), eO e_2 [.ref s, .null, .null, .null, .null, .null, .null, .null, .null, .null], oStr rs s (.ref b) (.int 0), (b, rb, .inr (.byte, xb, ob, csL xs)), (de, false, .inr ((.object "java/lang/Object"), true, false, [])), oStr rt t (tv) (tc)]) rfl ?_
  refine Wp.callSW nm_M0 hk (rm_ism1 hw a1 e_2 s b rs rb xb ob xs _ hn) (mk_M_ism1 hw) (w_107 hw) (w_108 hw) rfl rfl (Wn := 0) rfl rfl (by decide) d_law_269 ?_
  rintro _ _ _ hk ⟨rfl, rfl⟩
  refine Wp.iload rfl d_law_272 ?_
  refine Wp.icF (teq hz.symm).2 d_law_274 ?_
  refine Wp.iconst lc_1 d_law_277 ?_
  refine Wp.goto d_law_278 ?_
  refine Wp.iretN (z := 1) (by simp) rfl (by decide) d_law_282 (by decide) (by decide) ?_
  exact rfl
theorem d_law_223 : Dc code 223 (.aload 13) 2 225 := ⟨by decide +kernel, rfl⟩
theorem d_law_225 : Dc code 225 (.aload 12) 2 227 := ⟨by decide +kernel, rfl⟩
theorem d_law_227 : Dc code 227 (.invokevirtual 43) 3 230 := ⟨by decide +kernel, rfl⟩
theorem pp_0_4_3_1_2 : [0, 4, 3, 1, 2].isPerm (List.range 5) = true := by decide +kernel
theorem d_law_230 : Dc code 230 (.pop) 1 231 := ⟨by decide +kernel, rfl⟩
theorem pp_0_1_4_2_3 : [0, 1, 4, 2, 3].isPerm (List.range 5) = true := by decide +kernel
theorem mk_M_add_1 {W : Wd} (hw : Ws W) : Mk W M_add_1 ⟨"java/util/ArrayList", "add", "(Ljava/lang/Object;)Z"⟩ 1 := Mk.of nm_M_add_1 rfl rfl rfl (w_80 hw) (w_54 hw) (mkLen pd__Ljava_lang_Object__Z rfl) (by decide)
theorem pp_0_1_2_5_3_4 : [0, 1, 2, 5, 3, 4].isPerm (List.range 6) = true := by decide +kernel
theorem mk_M_ism2 {W : Wd} (hw : Ws W) : Mk W M_ism2 ⟨"com/example/binhold/binhold/maven/MavenLayout", "isMetadata", "(Ljava/util/List;)Z"⟩ 1 := Mk.of nm_M_ism2 rfl rfl rfl (w_110 hw) (w_109 hw) (mkLen pd__Ljava_util_List__Z rfl) (by decide)
set_option maxRecDepth 65536 in
set_option maxHeartbeats 40000000 in
theorem lp_208_2 {W : Wd} {K : Kx} (hw : Ws W) {s0 : State} (hk : kW K = some (s0, consts_1)) (p0 p1 p2 p3 p4 x6 x7 x8 z : Int32) (a9 s b de : Addr) (rs rb xb ob : Bool) (xs : List Int32) (t : Addr) (rt : Bool) (tv tc : Value) (hde : Sta (wZ W) (wZ W).heap "java/util/ArrayList" "DEFAULTCAPACITY_EMPTY_ELEMENTDATA" "[Ljava/lang/Object;" (.ref de)) (hn : xs.length < 2 ^ 31) (hz : z = eqI xs tt_0) : Wp W K M0 (fun v _ => v = some (.int 1)) [oStr rs s (.ref b) (.int 0), (b, rb, .inr (.byte, xb, ob, csL xs)), oStr rt t (tv) (tc), (de, false, .inr ((.object "java/lang/Object"), true, false, []))] 12 600 208 [.val (.int p0), .val (.int p1), .val (.int p2), .val (.int p3), .val (.int p4), .val (.int 2), .val (.int x6), .val (.int x7), .val (.int x8), .val (.ref a9), .val (.ref s), .val (.int z), .val (.ref t), .unset] [] := by
  refine Wp.newO nm_M0 (w_52 hw) (w_53 hw) (w_54 hw) (nf_oAL hw) (by decide) (by decide) d_law_208 (fun a1 => ?_)
  refine Wp.dup rfl d_law_211 ?_
  refine Wp.callC nm_M0 (fun _ => rm_ali hw.set a1 de _ hde) (mk_M_ali hw) (w_55 hw) (w_56 hw) rfl rfl rfl rfl (Wn := 1) rfl rfl (by decide) d_law_212 ?_
  rintro _ _ ⟨rfl, rfl⟩
  refine Wp.astore (L' := [.val (.int p0), .val (.int p1), .val (.int p2), .val (.int p3), .val (.int p4), .val (.int 2), .val (.int x6), .val (.int x7), .val (.int x8), .val (.ref a9), .val (.ref s), .val (.int z), .val (.ref t), .val (.ref a1)]) rfl rfl d_law_215 ?_
  refine Wp.iload rfl d_law_217 ?_
  refine Wp.iconst lc_2 d_law_219 ?_
  refine Wp.icF (by decide) d_law_220 ?_
  refine Wp.aload rfl rfl d_law_223 ?_
  refine Wp.aload rfl rfl d_law_225 ?_
  refine Wp.perm [0, 4, 3, 1, 2] 5 pp_0_4_3_1_2 (H' := [oAL true a1 (.int 0) (.ref de) (.int 0), (de, false, .inr ((.object "java/lang/Object"), true, false, [])), oStr rt t (tv) (tc), oStr rs s (.ref b) (.int 0), (b, rb, .inr (.byte, xb, ob, csL xs))]) rfl ?_
  refine Wp.callV nm_M0 (fun _ => rm_add_0 hw.set a1 de t rt tv tc _ hde) 0 rfl (mk_M_add_0 hw) (w_76 hw) (w_77 hw) (w_79 hw) (w_78 hw) (S' := "") (Or.inl rfl) (by decide) rfl rfl rfl (Wn := 0) rfl rfl (by decide) d_law_227 ?_
  rintro _ _ ⟨e_2, rfl, rfl⟩
  refine Wp.pop rfl d_law_230 ?_
  refine Wp.iload rfl d_law_231 ?_
  refine Wp.iconst lc_3 d_law_233 ?_
  refine Wp.icT (by decide) d_law_234 ?_
  refine Wp.iload rfl d_law_245 ?_
  refine Wp.iconst lc_4 d_law_247 ?_
  refine Wp.icT (by decide) d_law_248 ?_
  refine Wp.aload rfl rfl d_law_259 ?_
  refine Wp.aload rfl rfl d_law_261 ?_
  refine Wp.perm [0, 1, 4, 2, 3] 5 pp_0_1_4_2_3 (H' := [oAL true a1 (.int 1) (.ref e_2) (.int 1), eO e_2 [.ref t, .null, .null, .null, .null, .null, .null, .null, .null, .null], oStr rs s (.ref b) (.int 0), (de, false, .inr ((.object "java/lang/Object"), true, false, [])), oStr rt t (tv) (tc), (b, rb, .inr (.byte, xb, ob, csL xs))]) rfl ?_
  refine Wp.callV nm_M0 (fun _ => rm_add_1 hw.set a1 e_2 (.ref t) s rs (.ref b) (.int 0) _ ) 0 rfl (mk_M_add_1 hw) (w_76 hw) (w_77 hw) (w_79 hw) (w_78 hw) (S' := "") (Or.inl rfl) (by decide) rfl rfl rfl (Wn := 0) rfl rfl (by decide) d_law_263 ?_
  rintro _ _ ⟨rfl, rfl⟩
  refine Wp.pop rfl d_law_266 ?_
  refine Wp.aload rfl rfl d_law_267 ?_
  refine Wp.perm [0, 1, 2, 5, 3, 4] 6 pp_0_1_2_5_3_4 (H' := [oAL true a1 (.int 2) (.ref e_2) (.int 2), eO e_2 [.ref t, .ref s, .null, .null, .null, .null, .null, .null, .null, .null], oStr rs s (.ref b) (.int 0), (b, rb, .inr (.byte, xb, ob, csL xs)), (de, false, .inr ((.object "java/lang/Object"), true, false, [])), oStr rt t (tv) (tc)]) rfl ?_
  refine Wp.callSW nm_M0 hk (rm_ism2 hw a1 e_2 (.ref t) s b rs rb xb ob xs _ hn) (mk_M_ism2 hw) (w_107 hw) (w_108 hw) rfl rfl (Wn := 0) rfl rfl (by decide) d_law_269 ?_
  rintro _ _ _ hk ⟨rfl, rfl⟩
  refine Wp.iload rfl d_law_272 ?_
  refine Wp.icF (teq hz.symm).2 d_law_274 ?_
  refine Wp.iconst lc_1 d_law_277 ?_
  refine Wp.goto d_law_278 ?_
  refine Wp.iretN (z := 1) (by simp) rfl (by decide) d_law_282 (by decide) (by decide) ?_
  exact rfl
theorem d_law_237 : Dc code 237 (.aload 13) 2 239 := ⟨by decide +kernel, rfl⟩
theorem d_law_239 : Dc code 239 (.aload 12) 2 241 := ⟨by decide +kernel, rfl⟩
theorem d_law_241 : Dc code 241 (.invokevirtual 43) 3 244 := ⟨by decide +kernel, rfl⟩
theorem pp_0_1_3_2 : [0, 1, 3, 2].isPerm (List.range 4) = true := by decide +kernel
theorem d_law_244 : Dc code 244 (.pop) 1 245 := ⟨by decide +kernel, rfl⟩
theorem mk_M_add_2 {W : Wd} (hw : Ws W) : Mk W M_add_2 ⟨"java/util/ArrayList", "add", "(Ljava/lang/Object;)Z"⟩ 1 := Mk.of nm_M_add_2 rfl rfl rfl (w_80 hw) (w_54 hw) (mkLen pd__Ljava_lang_Object__Z rfl) (by decide)
theorem mk_M_ism3 {W : Wd} (hw : Ws W) : Mk W M_ism3 ⟨"com/example/binhold/binhold/maven/MavenLayout", "isMetadata", "(Ljava/util/List;)Z"⟩ 1 := Mk.of nm_M_ism3 rfl rfl rfl (w_110 hw) (w_109 hw) (mkLen pd__Ljava_util_List__Z rfl) (by decide)
set_option maxRecDepth 65536 in
set_option maxHeartbeats 40000000 in
theorem lp_208_3 {W : Wd} {K : Kx} (hw : Ws W) {s0 : State} (hk : kW K = some (s0, consts_1)) (p0 p1 p2 p3 p4 x6 x7 x8 z : Int32) (a9 s b de : Addr) (rs rb xb ob : Bool) (xs : List Int32) (t : Addr) (rt : Bool) (tv tc : Value) (hde : Sta (wZ W) (wZ W).heap "java/util/ArrayList" "DEFAULTCAPACITY_EMPTY_ELEMENTDATA" "[Ljava/lang/Object;" (.ref de)) (hn : xs.length < 2 ^ 31) (hz : z = eqI xs tt_0) : Wp W K M0 (fun v _ => v = some (.int 1)) [oStr rs s (.ref b) (.int 0), (b, rb, .inr (.byte, xb, ob, csL xs)), oStr rt t (tv) (tc), (de, false, .inr ((.object "java/lang/Object"), true, false, []))] 12 600 208 [.val (.int p0), .val (.int p1), .val (.int p2), .val (.int p3), .val (.int p4), .val (.int 3), .val (.int x6), .val (.int x7), .val (.int x8), .val (.ref a9), .val (.ref s), .val (.int z), .val (.ref t), .unset] [] := by
  refine Wp.newO nm_M0 (w_52 hw) (w_53 hw) (w_54 hw) (nf_oAL hw) (by decide) (by decide) d_law_208 (fun a1 => ?_)
  refine Wp.dup rfl d_law_211 ?_
  refine Wp.callC nm_M0 (fun _ => rm_ali hw.set a1 de _ hde) (mk_M_ali hw) (w_55 hw) (w_56 hw) rfl rfl rfl rfl (Wn := 1) rfl rfl (by decide) d_law_212 ?_
  rintro _ _ ⟨rfl, rfl⟩
  refine Wp.astore (L' := [.val (.int p0), .val (.int p1), .val (.int p2), .val (.int p3), .val (.int p4), .val (.int 3), .val (.int x6), .val (.int x7), .val (.int x8), .val (.ref a9), .val (.ref s), .val (.int z), .val (.ref t), .val (.ref a1)]) rfl rfl d_law_215 ?_
  refine Wp.iload rfl d_law_217 ?_
  refine Wp.iconst lc_2 d_law_219 ?_
  refine Wp.icF (by decide) d_law_220 ?_
  refine Wp.aload rfl rfl d_law_223 ?_
  refine Wp.aload rfl rfl d_law_225 ?_
  refine Wp.perm [0, 4, 3, 1, 2] 5 pp_0_4_3_1_2 (H' := [oAL true a1 (.int 0) (.ref de) (.int 0), (de, false, .inr ((.object "java/lang/Object"), true, false, [])), oStr rt t (tv) (tc), oStr rs s (.ref b) (.int 0), (b, rb, .inr (.byte, xb, ob, csL xs))]) rfl ?_
  refine Wp.callV nm_M0 (fun _ => rm_add_0 hw.set a1 de t rt tv tc _ hde) 0 rfl (mk_M_add_0 hw) (w_76 hw) (w_77 hw) (w_79 hw) (w_78 hw) (S' := "") (Or.inl rfl) (by decide) rfl rfl rfl (Wn := 0) rfl rfl (by decide) d_law_227 ?_
  rintro _ _ ⟨e_2, rfl, rfl⟩
  refine Wp.pop rfl d_law_230 ?_
  refine Wp.iload rfl d_law_231 ?_
  refine Wp.iconst lc_3 d_law_233 ?_
  refine Wp.icF (by decide) d_law_234 ?_
  refine Wp.aload rfl rfl d_law_237 ?_
  refine Wp.aload rfl rfl d_law_239 ?_
  refine Wp.perm [0, 1, 3, 2] 4 pp_0_1_3_2 (H' := [oAL true a1 (.int 1) (.ref e_2) (.int 1), eO e_2 [.ref t, .null, .null, .null, .null, .null, .null, .null, .null, .null], oStr rt t (tv) (tc), (de, false, .inr ((.object "java/lang/Object"), true, false, [])), oStr rs s (.ref b) (.int 0), (b, rb, .inr (.byte, xb, ob, csL xs))]) rfl ?_
  refine Wp.callV nm_M0 (fun _ => rm_add_1 hw.set a1 e_2 (.ref t) t rt tv tc _ ) 0 rfl (mk_M_add_1 hw) (w_76 hw) (w_77 hw) (w_79 hw) (w_78 hw) (S' := "") (Or.inl rfl) (by decide) rfl rfl rfl (Wn := 0) rfl rfl (by decide) d_law_241 ?_
  rintro _ _ ⟨rfl, rfl⟩
  refine Wp.pop rfl d_law_244 ?_
  refine Wp.iload rfl d_law_245 ?_
  refine Wp.iconst lc_4 d_law_247 ?_
  refine Wp.icT (by decide) d_law_248 ?_
  refine Wp.aload rfl rfl d_law_259 ?_
  refine Wp.aload rfl rfl d_law_261 ?_
  refine Wp.perm [0, 1, 4, 2, 3] 5 pp_0_1_4_2_3 (H' := [oAL true a1 (.int 2) (.ref e_2) (.int 2), eO e_2 [.ref t, .ref t, .null, .null, .null, .null, .null, .null, .null, .null], oStr rs s (.ref b) (.int 0), oStr rt t (tv) (tc), (de, false, .inr ((.object "java/lang/Object"), true, false, [])), (b, rb, .inr (.byte, xb, ob, csL xs))]) rfl ?_
  refine Wp.callV nm_M0 (fun _ => rm_add_2 hw.set a1 e_2 (.ref t) (.ref t) s rs (.ref b) (.int 0) _ ) 0 rfl (mk_M_add_2 hw) (w_76 hw) (w_77 hw) (w_79 hw) (w_78 hw) (S' := "") (Or.inl rfl) (by decide) rfl rfl rfl (Wn := 0) rfl rfl (by decide) d_law_263 ?_
  rintro _ _ ⟨rfl, rfl⟩
  refine Wp.pop rfl d_law_266 ?_
  refine Wp.aload rfl rfl d_law_267 ?_
  refine Wp.perm [0, 1, 2, 5, 3, 4] 6 pp_0_1_2_5_3_4 (H' := [oAL true a1 (.int 3) (.ref e_2) (.int 3), eO e_2 [.ref t, .ref t, .ref s, .null, .null, .null, .null, .null, .null, .null], oStr rs s (.ref b) (.int 0), (b, rb, .inr (.byte, xb, ob, csL xs)), oStr rt t (tv) (tc), (de, false, .inr ((.object "java/lang/Object"), true, false, []))]) rfl ?_
  refine Wp.callSW nm_M0 hk (rm_ism3 hw a1 e_2 (.ref t) (.ref t) s b rs rb xb ob xs _ hn) (mk_M_ism3 hw) (w_107 hw) (w_108 hw) rfl rfl (Wn := 0) rfl rfl (by decide) d_law_269 ?_
  rintro _ _ _ hk ⟨rfl, rfl⟩
  refine Wp.iload rfl d_law_272 ?_
  refine Wp.icF (teq hz.symm).2 d_law_274 ?_
  refine Wp.iconst lc_1 d_law_277 ?_
  refine Wp.goto d_law_278 ?_
  refine Wp.iretN (z := 1) (by simp) rfl (by decide) d_law_282 (by decide) (by decide) ?_
  exact rfl
theorem d_law_251 : Dc code 251 (.aload 13) 2 253 := ⟨by decide +kernel, rfl⟩
theorem d_law_253 : Dc code 253 (.aload 12) 2 255 := ⟨by decide +kernel, rfl⟩
theorem d_law_255 : Dc code 255 (.invokevirtual 43) 3 258 := ⟨by decide +kernel, rfl⟩
theorem d_law_258 : Dc code 258 (.pop) 1 259 := ⟨by decide +kernel, rfl⟩
theorem mk_M_add_3 {W : Wd} (hw : Ws W) : Mk W M_add_3 ⟨"java/util/ArrayList", "add", "(Ljava/lang/Object;)Z"⟩ 1 := Mk.of nm_M_add_3 rfl rfl rfl (w_80 hw) (w_54 hw) (mkLen pd__Ljava_lang_Object__Z rfl) (by decide)
theorem mk_M_ism4 {W : Wd} (hw : Ws W) : Mk W M_ism4 ⟨"com/example/binhold/binhold/maven/MavenLayout", "isMetadata", "(Ljava/util/List;)Z"⟩ 1 := Mk.of nm_M_ism4 rfl rfl rfl (w_110 hw) (w_109 hw) (mkLen pd__Ljava_util_List__Z rfl) (by decide)
set_option maxRecDepth 65536 in
set_option maxHeartbeats 40000000 in
theorem lp_208_4 {W : Wd} {K : Kx} (hw : Ws W) {s0 : State} (hk : kW K = some (s0, consts_1)) (p0 p1 p2 p3 p4 x6 x7 x8 z : Int32) (a9 s b de : Addr) (rs rb xb ob : Bool) (xs : List Int32) (t : Addr) (rt : Bool) (tv tc : Value) (hde : Sta (wZ W) (wZ W).heap "java/util/ArrayList" "DEFAULTCAPACITY_EMPTY_ELEMENTDATA" "[Ljava/lang/Object;" (.ref de)) (hn : xs.length < 2 ^ 31) (hz : z = eqI xs tt_0) : Wp W K M0 (fun v _ => v = some (.int 1)) [oStr rs s (.ref b) (.int 0), (b, rb, .inr (.byte, xb, ob, csL xs)), oStr rt t (tv) (tc), (de, false, .inr ((.object "java/lang/Object"), true, false, []))] 12 600 208 [.val (.int p0), .val (.int p1), .val (.int p2), .val (.int p3), .val (.int p4), .val (.int 4), .val (.int x6), .val (.int x7), .val (.int x8), .val (.ref a9), .val (.ref s), .val (.int z), .val (.ref t), .unset] [] := by
  refine Wp.newO nm_M0 (w_52 hw) (w_53 hw) (w_54 hw) (nf_oAL hw) (by decide) (by decide) d_law_208 (fun a1 => ?_)
  refine Wp.dup rfl d_law_211 ?_
  refine Wp.callC nm_M0 (fun _ => rm_ali hw.set a1 de _ hde) (mk_M_ali hw) (w_55 hw) (w_56 hw) rfl rfl rfl rfl (Wn := 1) rfl rfl (by decide) d_law_212 ?_
  rintro _ _ ⟨rfl, rfl⟩
  refine Wp.astore (L' := [.val (.int p0), .val (.int p1), .val (.int p2), .val (.int p3), .val (.int p4), .val (.int 4), .val (.int x6), .val (.int x7), .val (.int x8), .val (.ref a9), .val (.ref s), .val (.int z), .val (.ref t), .val (.ref a1)]) rfl rfl d_law_215 ?_
  refine Wp.iload rfl d_law_217 ?_
  refine Wp.iconst lc_2 d_law_219 ?_
  refine Wp.icF (by decide) d_law_220 ?_
  refine Wp.aload rfl rfl d_law_223 ?_
  refine Wp.aload rfl rfl d_law_225 ?_
  refine Wp.perm [0, 4, 3, 1, 2] 5 pp_0_4_3_1_2 (H' := [oAL true a1 (.int 0) (.ref de) (.int 0), (de, false, .inr ((.object "java/lang/Object"), true, false, [])), oStr rt t (tv) (tc), oStr rs s (.ref b) (.int 0), (b, rb, .inr (.byte, xb, ob, csL xs))]) rfl ?_
  refine Wp.callV nm_M0 (fun _ => rm_add_0 hw.set a1 de t rt tv tc _ hde) 0 rfl (mk_M_add_0 hw) (w_76 hw) (w_77 hw) (w_79 hw) (w_78 hw) (S' := "") (Or.inl rfl) (by decide) rfl rfl rfl (Wn := 0) rfl rfl (by decide) d_law_227 ?_
  rintro _ _ ⟨e_2, rfl, rfl⟩
  refine Wp.pop rfl d_law_230 ?_
  refine Wp.iload rfl d_law_231 ?_
  refine Wp.iconst lc_3 d_law_233 ?_
  refine Wp.icF (by decide) d_law_234 ?_
  refine Wp.aload rfl rfl d_law_237 ?_
  refine Wp.aload rfl rfl d_law_239 ?_
  refine Wp.perm [0, 1, 3, 2] 4 pp_0_1_3_2 (H' := [oAL true a1 (.int 1) (.ref e_2) (.int 1), eO e_2 [.ref t, .null, .null, .null, .null, .null, .null, .null, .null, .null], oStr rt t (tv) (tc), (de, false, .inr ((.object "java/lang/Object"), true, false, [])), oStr rs s (.ref b) (.int 0), (b, rb, .inr (.byte, xb, ob, csL xs))]) rfl ?_
  refine Wp.callV nm_M0 (fun _ => rm_add_1 hw.set a1 e_2 (.ref t) t rt tv tc _ ) 0 rfl (mk_M_add_1 hw) (w_76 hw) (w_77 hw) (w_79 hw) (w_78 hw) (S' := "") (Or.inl rfl) (by decide) rfl rfl rfl (Wn := 0) rfl rfl (by decide) d_law_241 ?_
  rintro _ _ ⟨rfl, rfl⟩
  refine Wp.pop rfl d_law_244 ?_
  refine Wp.iload rfl d_law_245 ?_
  refine Wp.iconst lc_4 d_law_247 ?_
  refine Wp.icF (by decide) d_law_248 ?_
  refine Wp.aload rfl rfl d_law_251 ?_
  refine Wp.aload rfl rfl d_law_253 ?_
  refine Wp.callV nm_M0 (fun _ => rm_add_2 hw.set a1 e_2 (.ref t) (.ref t) t rt tv tc _ ) 0 rfl (mk_M_add_2 hw) (w_76 hw) (w_77 hw) (w_79 hw) (w_78 hw) (S' := "") (Or.inl rfl) (by decide) rfl rfl rfl (Wn := 0) rfl rfl (by decide) d_law_255 ?_
  rintro _ _ ⟨rfl, rfl⟩
  refine Wp.pop rfl d_law_258 ?_
  refine Wp.aload rfl rfl d_law_259 ?_
  refine Wp.aload rfl rfl d_law_261 ?_
  refine Wp.perm [0, 1, 4, 2, 3] 5 pp_0_1_4_2_3 (H' := [oAL true a1 (.int 3) (.ref e_2) (.int 3), eO e_2 [.ref t, .ref t, .ref t, .null, .null, .null, .null, .null, .null, .null], oStr rs s (.ref b) (.int 0), oStr rt t (tv) (tc), (de, false, .inr ((.object "java/lang/Object"), true, false, [])), (b, rb, .inr (.byte, xb, ob, csL xs))]) rfl ?_
  refine Wp.callV nm_M0 (fun _ => rm_add_3 hw.set a1 e_2 (.ref t) (.ref t) (.ref t) s rs (.ref b) (.int 0) _ ) 0 rfl (mk_M_add_3 hw) (w_76 hw) (w_77 hw) (w_79 hw) (w_78 hw) (S' := "") (Or.inl rfl) (by decide) rfl rfl rfl (Wn := 0) rfl rfl (by decide) d_law_263 ?_
  rintro _ _ ⟨rfl, rfl⟩
  refine Wp.pop rfl d_law_266 ?_
  refine Wp.aload rfl rfl d_law_267 ?_
  refine Wp.perm [0, 1, 2, 5, 3, 4] 6 pp_0_1_2_5_3_4 (H' := [oAL true a1 (.int 4) (.ref e_2) (.int 4), eO e_2 [.ref t, .ref t, .ref t, .ref s, .null, .null, .null, .null, .null, .null], oStr rs s (.ref b) (.int 0), (b, rb, .inr (.byte, xb, ob, csL xs)), oStr rt t (tv) (tc), (de, false, .inr ((.object "java/lang/Object"), true, false, []))]) rfl ?_
  refine Wp.callSW nm_M0 hk (rm_ism4 hw a1 e_2 (.ref t) (.ref t) (.ref t) s b rs rb xb ob xs _ hn) (mk_M_ism4 hw) (w_107 hw) (w_108 hw) rfl rfl (Wn := 0) rfl rfl (by decide) d_law_269 ?_
  rintro _ _ _ hk ⟨rfl, rfl⟩
  refine Wp.iload rfl d_law_272 ?_
  refine Wp.icF (teq hz.symm).2 d_law_274 ?_
  refine Wp.iconst lc_1 d_law_277 ?_
  refine Wp.goto d_law_278 ?_
  refine Wp.iretN (z := 1) (by simp) rfl (by decide) d_law_282 (by decide) (by decide) ?_
  exact rfl
theorem lp_208 {W : Wd} {K : Kx} (hw : Ws W) {s0 : State} (hk : kW K = some (s0, consts_1)) (nn : Int32) (hnn : nn = 1 ∨ nn = 2 ∨ nn = 3 ∨ nn = 4) (p0 p1 p2 p3 p4 x6 x7 x8 z : Int32) (a9 s b de : Addr) (rs rb xb ob : Bool) (xs : List Int32) (t : Addr) (rt : Bool) (tv tc : Value) (hde : Sta (wZ W) (wZ W).heap "java/util/ArrayList" "DEFAULTCAPACITY_EMPTY_ELEMENTDATA" "[Ljava/lang/Object;" (.ref de)) (hn : xs.length < 2 ^ 31) (hz : z = eqI xs tt_0) : Wp W K M0 (fun v _ => v = some (.int 1)) [oStr rs s (.ref b) (.int 0), (b, rb, .inr (.byte, xb, ob, csL xs)), oStr rt t (tv) (tc), (de, false, .inr ((.object "java/lang/Object"), true, false, []))] 12 600 208 [.val (.int p0), .val (.int p1), .val (.int p2), .val (.int p3), .val (.int p4), .val (.int nn), .val (.int x6), .val (.int x7), .val (.int x8), .val (.ref a9), .val (.ref s), .val (.int z), .val (.ref t), .unset] [] := by
  rcases hnn with rfl | rfl | rfl | rfl
  · exact lp_208_1 hw hk p0 p1 p2 p3 p4 x6 x7 x8 z a9 s b de rs rb xb ob xs t rt tv tc hde hn hz
  · exact lp_208_2 hw hk p0 p1 p2 p3 p4 x6 x7 x8 z a9 s b de rs rb xb ob xs t rt tv tc hde hn hz
  · exact lp_208_3 hw hk p0 p1 p2 p3 p4 x6 x7 x8 z a9 s b de rs rb xb ob xs t rt tv tc hde hn hz
  · exact lp_208_4 hw hk p0 p1 p2 p3 p4 x6 x7 x8 z a9 s b de rs rb xb ob xs t rt tv tc hde hn hz
theorem d_law_182 : Dc code 182 (.iload 4) 2 184 := ⟨by decide +kernel, rfl⟩
theorem d_law_184 : Dc code 184 (.iconst 1) 1 185 := ⟨by decide +kernel, rfl⟩
theorem d_law_185 : Dc code 185 (.iand) 1 186 := ⟨by decide +kernel, rfl⟩
theorem d_law_186 : Bj code 186 (.ifCond .eq 8) 8 189 194 := ⟨by decide +kernel, rfl, by decide, rfl⟩
theorem d_law_194 : Dc code 194 (.iload 4) 2 196 := ⟨by decide +kernel, rfl⟩
theorem d_law_196 : Dc code 196 (.iconst 1) 1 197 := ⟨by decide +kernel, rfl⟩
theorem d_law_197 : Dc code 197 (.iushr) 1 198 := ⟨by decide +kernel, rfl⟩
theorem d_law_198 : Dc code 198 (.sipush 255) 3 201 := ⟨by decide +kernel, rfl⟩
theorem d_law_201 : Dc code 201 (.iand) 1 202 := ⟨by decide +kernel, rfl⟩
theorem d_law_202 : Dc code 202 (.i2c) 1 203 := ⟨by decide +kernel, rfl⟩
theorem d_law_203 : Dc code 203 (.invokestatic 36) 3 206 := ⟨by decide +kernel, rfl⟩
theorem w_40 {W : Wd} (hw : Ws W) : Wok W (Jvm.Cond.code ({ cls := "java/lang/String", name := "valueOf", desc := "(C)Ljava/lang/String;" } : Jvm.MethodName) jdk_42_method_139_code (1 : Nat) (Option.some (Jvm.ClassFile.FieldType.object "java/lang/String"))) := hw.1 _ (List.mem_of_getElem? (i := 40) rfl)
theorem pd__C_Ljava_lang_String_ : parseMethodDescriptor "(C)Ljava/lang/String;" = some ⟨[.char], some (.object "java/lang/String")⟩ := by decide +kernel
theorem mk_M_vof {W : Wd} (hw : Ws W) : Mk W M_vof ⟨"java/lang/String", "valueOf", "(C)Ljava/lang/String;"⟩ 1 := Mk.of nm_M_vof rfl rfl rfl (w_40 hw) (w_8 hw) (mkLen pd__C_Ljava_lang_String_ rfl) (by decide)
theorem w_38 {W : Wd} (hw : Ws W) : Wok W (Jvm.Cond.methodLink "com/example/binhold/binhold/maven/MavenLayoutIsMetadataPinLaw" (36 : Nat) ({ cls := "java/lang/String", name := "valueOf", desc := "(C)Ljava/lang/String;" } : Jvm.MethodName)) := hw.1 _ (List.mem_of_getElem? (i := 38) rfl)
theorem w_39 {W : Wd} (hw : Ws W) : Wok W (Jvm.Cond.static ({ cls := "java/lang/String", name := "valueOf", desc := "(C)Ljava/lang/String;" } : Jvm.MethodName)) := hw.1 _ (List.mem_of_getElem? (i := 39) rfl)
theorem d_law_206 : Dc code 206 (.astore 12) 2 208 := ⟨by decide +kernel, rfl⟩
theorem pp_2_3_0_4_1 : [2, 3, 0, 4, 1].isPerm (List.range 5) = true := by decide +kernel
theorem d_law_189 : Dc code 189 (.ldc 34) 2 191 := ⟨by decide +kernel, rfl⟩
theorem d_law_191 : Bj code 191 (.goto 15) 15 194 206 := ⟨by decide +kernel, rfl, by decide, rfl⟩
set_option maxRecDepth 65536 in
set_option maxHeartbeats 40000000 in
theorem lp_182 {W : Wd} {K : Kx} (hw : Ws W) {s0 : State} (hk : kW K = some (s0, consts_1)) (nn : Int32) (hnn : nn = 1 ∨ nn = 2 ∨ nn = 3 ∨ nn = 4) (p0 p1 p2 p3 p4 x6 x7 x8 z : Int32) (a9 s b de : Addr) (rs rb xb ob : Bool) (xs : List Int32) (o : Slot) (ho_o : One o) (hde : Sta (wZ W) (wZ W).heap "java/util/ArrayList" "DEFAULTCAPACITY_EMPTY_ELEMENTDATA" "[Ljava/lang/Object;" (.ref de)) (hn : xs.length < 2 ^ 31) (hz : z = eqI xs tt_0) : Wp W K M0 (fun v _ => v = some (.int 1)) [oStr rs s (.ref b) (.int 0), (b, rb, .inr (.byte, xb, ob, csL xs)), (de, false, .inr ((.object "java/lang/Object"), true, false, []))] 8 400 182 [.val (.int p0), .val (.int p1), .val (.int p2), .val (.int p3), .val (.int p4), .val (.int nn), .val (.int x6), .val (.int x7), .val (.int x8), .val (.ref a9), .val (.ref s), .val (.int z), o, .unset] [] := by
  obtain ⟨co, e_co⟩ : ∃ q, (Jvm.Free.XT.ushr p4 1 &&& 255) = q := ⟨_, rfl⟩
  have ho0 : ¬ co < 0 := by rw [← e_co]; exact (mask255 _).1
  have ho1 : ¬ 255 < co := by rw [← e_co]; exact (mask255 _).2
  refine Wp.iload rfl d_law_182 ?_
  refine Wp.iconst lc_1 d_law_184 ?_
  refine Wp.iand (z := (p4 &&& 1)) rfl d_law_185 ?_
  by_cases b186_1 : (p4 &&& 1) = 0
  · refine Wp.ifT (teq b186_1).1 d_law_186 ?_
    refine Wp.iload rfl d_law_194 ?_
    refine Wp.iconst lc_1 d_law_196 ?_
    refine Wp.iushr (z := (Jvm.Free.XT.ushr p4 1)) rfl d_law_197 ?_
    refine Wp.sipush ls_255 d_law_198 ?_
    refine Wp.iand (z := co) e_co d_law_201 ?_
    refine Wp.i2c (z := co) (i2cC_id8 ho0 ho1) d_law_202 ?_
    refine Wp.callS nm_M0 (fun _ => rm_vof hw.set co _ ho0 ho1) (mk_M_vof hw) (w_38 hw) (w_39 hw) rfl rfl (Wn := 0) rfl rfl (by decide) d_law_203 ?_
    rintro _ _ ⟨s_2, b_3, rfl, rfl⟩
    refine Wp.astore (L' := [.val (.int p0), .val (.int p1), .val (.int p2), .val (.int p3), .val (.int p4), .val (.int nn), .val (.int x6), .val (.int x7), .val (.int x8), .val (.ref a9), .val (.ref s), .val (.int z), .val (.ref s_2), .unset]) rfl (storeOne rfl ho_o rfl rfl) d_law_206 ?_
    refine Wp.perm [2, 3, 0, 4, 1] 5 pp_2_3_0_4_1 (H' := [oStr rs s (.ref b) (.int 0), (b, rb, .inr (.byte, xb, ob, csL xs)), oStr true s_2 (.ref b_3) (.int 0), (de, false, .inr ((.object "java/lang/Object"), true, false, [])), eB b_3 [.int (by8 co)]]) rfl ?_
    refine Wp.less ((((((List.Sublist.refl _).cons _).cons_cons _).cons_cons _).cons_cons _).cons_cons _) ?_
    refine Wp.room (c' := 12) (n' := 600) (by decide) (by decide) ?_
    exact lp_208 hw hk nn hnn p0 p1 p2 p3 p4 x6 x7 x8 z a9 s b de rs rb xb ob xs s_2 true (.ref b_3) (.int 0) hde hn hz
  · refine Wp.ifF (feq b186_1).1 d_law_186 ?_
    refine Wp.ldcK nm_M0 (n1 := 72) hk (w_154 hw) (sa_1 hw) (List.mem_of_getElem? (i := 5) rfl) tx_0 (by decide) (nf_oStr hw) ln_0 (by decide) (by decide) (by decide) d_law_189 (fun _ a4 b5 hk => ?_)
    refine Wp.goto d_law_191 ?_
    refine Wp.astore (L' := [.val (.int p0), .val (.int p1), .val (.int p2), .val (.int p3), .val (.int p4), .val (.int nn), .val (.int x6), .val (.int x7), .val (.int x8), .val (.ref a9), .val (.ref s), .val (.int z), .val (.ref a4), .unset]) rfl (storeOne rfl ho_o rfl rfl) d_law_206 ?_
    refine Wp.perm [2, 3, 0, 4, 1] 5 pp_2_3_0_4_1 (H' := [oStr rs s (.ref b) (.int 0), (b, rb, .inr (.byte, xb, ob, csL xs)), oStr false a4 (.ref b5) (.int 0), (de, false, .inr ((.object "java/lang/Object"), true, false, [])), (b5, false, .inr (.byte, false, false, csL tt_0))]) rfl ?_
    refine Wp.less ((((((List.Sublist.refl _).cons _).cons_cons _).cons_cons _).cons_cons _).cons_cons _) ?_
    refine Wp.room (c' := 12) (n' := 600) (by decide) (by decide) ?_
    exact lp_208 hw hk nn hnn p0 p1 p2 p3 p4 x6 x7 x8 z a9 s b de rs rb xb ob xs a4 false (.ref b5) (.int 0) hde hn hz
theorem d_law_0 : Dc code 0 (.iconst 1) 1 1 := ⟨by decide +kernel, rfl⟩
theorem d_law_1 : Dc code 1 (.iload_n 0) 1 2 := ⟨by decide +kernel, rfl⟩
theorem d_law_2 : Dc code 2 (.iconst 3) 1 3 := ⟨by decide +kernel, rfl⟩
theorem d_law_3 : Dc code 3 (.iand) 1 4 := ⟨by decide +kernel, rfl⟩
theorem d_law_4 : Dc code 4 (.iadd) 1 5 := ⟨by decide +kernel, rfl⟩
theorem d_law_5 : Dc code 5 (.istore 5) 2 7 := ⟨by decide +kernel, rfl⟩
theorem d_law_7 : Dc code 7 (.iload_n 1) 1 8 := ⟨by decide +kernel, rfl⟩
theorem d_law_8 : Dc code 8 (.ldc 7) 2 10 := ⟨by decide +kernel, rfl⟩
theorem w_0 {W : Wd} (hw : Ws W) : Wok W (Jvm.Cond.constant "com/example/binhold/binhold/maven/MavenLayoutIsMetadataPinLaw" (7 : Nat) (2147483647 : Int32)) := hw.1 _ (List.mem_of_getElem? (i := 0) rfl)
theorem d_law_10 : Dc code 10 (.iand) 1 11 := ⟨by decide +kernel, rfl⟩
theorem d_law_11 : Dc code 11 (.bipush 18) 2 13 := ⟨by decide +kernel, rfl⟩
theorem d_law_13 : Dc code 13 (.irem) 1 14 := ⟨by decide +kernel, rfl⟩
theorem d_law_14 : Dc code 14 (.istore 6) 2 16 := ⟨by decide +kernel, rfl⟩
theorem d_law_16 : Dc code 16 (.iload_n 2) 1 17 := ⟨by decide +kernel, rfl⟩
theorem d_law_17 : Dc code 17 (.sipush 255) 3 20 := ⟨by decide +kernel, rfl⟩
theorem d_law_20 : Dc code 20 (.iand) 1 21 := ⟨by decide +kernel, rfl⟩
theorem d_law_21 : Dc code 21 (.i2c) 1 22 := ⟨by decide +kernel, rfl⟩
theorem d_law_22 : Dc code 22 (.istore 7) 2 24 := ⟨by decide +kernel, rfl⟩
theorem d_law_24 : Dc code 24 (.iload_n 3) 1 25 := ⟨by decide +kernel, rfl⟩
theorem d_law_25 : Dc code 25 (.iconst 3) 1 26 := ⟨by decide +kernel, rfl⟩
theorem d_law_26 : Dc code 26 (.iand) 1 27 := ⟨by decide +kernel, rfl⟩
theorem d_law_27 : Dc code 27 (.istore 8) 2 29 := ⟨by decide +kernel, rfl⟩
theorem d_law_29 : Dc code 29 (.invokestatic 8) 3 32 := ⟨by decide +kernel, rfl⟩
theorem w_4 {W : Wd} (hw : Ws W) : Wok W (Jvm.Cond.code method_2 method_2_code (0 : Nat) (Option.some (Jvm.ClassFile.FieldType.array Jvm.ClassFile.FieldType.char))) := hw.1 _ (List.mem_of_getElem? (i := 4) rfl)
theorem w_3 {W : Wd} (hw : Ws W) : Wok W (Jvm.Cond.initialized "com/example/binhold/binhold/maven/MavenLayoutIsMetadataPinLaw") := hw.1 _ (List.mem_of_getElem? (i := 3) rfl)
theorem pd____C : parseMethodDescriptor "()[C" = some ⟨[], some (.array .char)⟩ := by decide +kernel
theorem mk_M_ca0 {W : Wd} (hw : Ws W) : Mk W M_ca0 method_2 0 := Mk.of nm_M_ca0 rfl rfl rfl (w_4 hw) (w_3 hw) (mkLen pd____C rfl) (by decide)
theorem w_1 {W : Wd} (hw : Ws W) : Wok W (Jvm.Cond.methodLink "com/example/binhold/binhold/maven/MavenLayoutIsMetadataPinLaw" (8 : Nat) method_2) := hw.1 _ (List.mem_of_getElem? (i := 1) rfl)
theorem w_2 {W : Wd} (hw : Ws W) : Wok W (Jvm.Cond.static method_2) := hw.1 _ (List.mem_of_getElem? (i := 2) rfl)
theorem d_law_32 : Dc code 32 (.astore 9) 2 34 := ⟨by decide +kernel, rfl⟩
theorem d_law_34 : Dc code 34 (.iload 8) 2 36 := ⟨by decide +kernel, rfl⟩
theorem d_law_36 : Bj code 36 (.ifCond .ne 46) 46 39 82 := ⟨by decide +kernel, rfl, by decide, rfl⟩
theorem d_law_39 : Dc code 39 (.invokestatic 8) 3 42 := ⟨by decide +kernel, rfl⟩
theorem d_law_42 : Dc code 42 (.astore 12) 2 44 := ⟨by decide +kernel, rfl⟩
theorem d_law_44 : Dc code 44 (.aload 12) 2 46 := ⟨by decide +kernel, rfl⟩
theorem d_law_46 : Dc code 46 (.iload 6) 2 48 := ⟨by decide +kernel, rfl⟩
theorem d_law_48 : Dc code 48 (.iload 7) 2 50 := ⟨by decide +kernel, rfl⟩
theorem d_law_50 : Dc code 50 (.castore) 1 51 := ⟨by decide +kernel, rfl⟩
theorem d_law_51 : Dc code 51 (.new 14) 3 54 := ⟨by decide +kernel, rfl⟩
theorem w_6 {W : Wd} (hw : Ws W) : Wok W (Jvm.Cond.classLink "com/example/binhold/binhold/maven/MavenLayoutIsMetadataPinLaw" (14 : Nat) "java/lang/String") := hw.1 _ (List.mem_of_getElem? (i := 6) rfl)
theorem d_law_54 : Dc code 54 (.dup) 1 55 := ⟨by decide +kernel, rfl⟩
theorem d_law_55 : Dc code 55 (.aload 12) 2 57 := ⟨by decide +kernel, rfl⟩
theorem d_law_57 : Dc code 57 (.invokespecial 16) 3 60 := ⟨by decide +kernel, rfl⟩
theorem w_14 {W : Wd} (hw : Ws W) : Wok W (Jvm.Cond.code ({ cls := "java/lang/String", name := "<init>", desc := "([C)V" } : Jvm.MethodName) jdk_42_method_3_code (2 : Nat) (Option.none : Option Jvm.ClassFile.FieldType)) := hw.1 _ (List.mem_of_getElem? (i := 14) rfl)
theorem pd___C_V : parseMethodDescriptor "([C)V" = some ⟨[(.array .char)], none⟩ := by decide +kernel
theorem mk_M_si {W : Wd} (hw : Ws W) (n : Nat) : Mk W (M_si n) ⟨"java/lang/String", "<init>", "([C)V"⟩ 1 := Mk.of nm_M_si rfl rfl rfl (w_14 hw) (w_8 hw) (mkLen pd___C_V rfl) (by decide)
theorem w_12 {W : Wd} (hw : Ws W) : Wok W (Jvm.Cond.methodLink "com/example/binhold/binhold/maven/MavenLayoutIsMetadataPinLaw" (16 : Nat) ({ cls := "java/lang/String", name := "<init>", desc := "([C)V" } : Jvm.MethodName)) := hw.1 _ (List.mem_of_getElem? (i := 12) rfl)
theorem w_13 {W : Wd} (hw : Ws W) : Wok W (Jvm.Cond.instanceMethod ({ cls := "java/lang/String", name := "<init>", desc := "([C)V" } : Jvm.MethodName)) := hw.1 _ (List.mem_of_getElem? (i := 13) rfl)
theorem d_law_60 : Dc code 60 (.astore 10) 2 62 := ⟨by decide +kernel, rfl⟩
theorem d_law_62 : Dc code 62 (.iload 7) 2 64 := ⟨by decide +kernel, rfl⟩
theorem d_law_64 : Dc code 64 (.aload 9) 2 66 := ⟨by decide +kernel, rfl⟩
theorem d_law_66 : Dc code 66 (.iload 6) 2 68 := ⟨by decide +kernel, rfl⟩
theorem d_law_68 : Dc code 68 (.caload) 1 69 := ⟨by decide +kernel, rfl⟩
theorem d_law_69 : Bj code 69 (.if_icmp .ne 7) 7 72 76 := ⟨by decide +kernel, rfl, by decide, rfl⟩
theorem d_law_72 : Dc code 72 (.iconst 1) 1 73 := ⟨by decide +kernel, rfl⟩
theorem d_law_73 : Bj code 73 (.goto 4) 4 76 77 := ⟨by decide +kernel, rfl, by decide, rfl⟩
theorem d_law_77 : Dc code 77 (.istore 11) 2 79 := ⟨by decide +kernel, rfl⟩
theorem d_law_79 : Bj code 79 (.goto 103) 103 82 182 := ⟨by decide +kernel, rfl, by decide, rfl⟩
theorem d_law_76 : Dc code 76 (.iconst 0) 1 77 := ⟨by decide +kernel, rfl⟩
theorem d_law_82 : Dc code 82 (.iload 8) 2 84 := ⟨by decide +kernel, rfl⟩
theorem d_law_84 : Dc code 84 (.iconst 1) 1 85 := ⟨by decide +kernel, rfl⟩
theorem d_law_85 : Bj code 85 (.if_icmp .ne 23) 23 88 108 := ⟨by decide +kernel, rfl, by decide, rfl⟩
theorem d_law_88 : Dc code 88 (.new 14) 3 91 := ⟨by decide +kernel, rfl⟩
theorem d_law_91 : Dc code 91 (.dup) 1 92 := ⟨by decide +kernel, rfl⟩
theorem d_law_92 : Dc code 92 (.iload 7) 2 94 := ⟨by decide +kernel, rfl⟩
theorem d_law_94 : Dc code 94 (.invokestatic 19) 3 97 := ⟨by decide +kernel, rfl⟩
theorem w_11 {W : Wd} (hw : Ws W) : Wok W (Jvm.Cond.code ({ cls := "com/example/binhold/binhold/maven/MavenLayoutIsMetadataPinLaw", name := "metaPlus", desc := "(C)[C" } : Jvm.MethodName) method_3_code (1 : Nat) (Option.some (Jvm.ClassFile.FieldType.array Jvm.ClassFile.FieldType.char))) := hw.1 _ (List.mem_of_getElem? (i := 11) rfl)
theorem pd__C__C : parseMethodDescriptor "(C)[C" = some ⟨[.char], some (.array .char)⟩ := by decide +kernel
theorem mk_M_ca1 {W : Wd} (hw : Ws W) : Mk W M_ca1 ⟨"com/example/binhold/binhold/maven/MavenLayoutIsMetadataPinLaw", "metaPlus", "(C)[C"⟩ 1 := Mk.of nm_M_ca1 rfl rfl rfl (w_11 hw) (w_3 hw) (mkLen pd__C__C rfl) (by decide)
theorem w_9 {W : Wd} (hw : Ws W) : Wok W (Jvm.Cond.methodLink "com/example/binhold/binhold/maven/MavenLayoutIsMetadataPinLaw" (19 : Nat) ({ cls := "com/example/binhold/binhold/maven/MavenLayoutIsMetadataPinLaw", name := "metaPlus", desc := "(C)[C" } : Jvm.MethodName)) := hw.1 _ (List.mem_of_getElem? (i := 9) rfl)
theorem w_10 {W : Wd} (hw : Ws W) : Wok W (Jvm.Cond.static ({ cls := "com/example/binhold/binhold/maven/MavenLayoutIsMetadataPinLaw", name := "metaPlus", desc := "(C)[C" } : Jvm.MethodName)) := hw.1 _ (List.mem_of_getElem? (i := 10) rfl)
theorem d_law_97 : Dc code 97 (.invokespecial 16) 3 100 := ⟨by decide +kernel, rfl⟩
theorem d_law_100 : Dc code 100 (.astore 10) 2 102 := ⟨by decide +kernel, rfl⟩
theorem d_law_102 : Dc code 102 (.iconst 0) 1 103 := ⟨by decide +kernel, rfl⟩
theorem d_law_103 : Dc code 103 (.istore 11) 2 105 := ⟨by decide +kernel, rfl⟩
theorem d_law_105 : Bj code 105 (.goto 77) 77 108 182 := ⟨by decide +kernel, rfl, by decide, rfl⟩
theorem d_law_108 : Dc code 108 (.iload 8) 2 110 := ⟨by decide +kernel, rfl⟩
theorem d_law_110 : Dc code 110 (.iconst 2) 1 111 := ⟨by decide +kernel, rfl⟩
theorem d_law_111 : Bj code 111 (.if_icmp .ne 21) 21 114 132 := ⟨by decide +kernel, rfl, by decide, rfl⟩
theorem d_law_114 : Dc code 114 (.new 14) 3 117 := ⟨by decide +kernel, rfl⟩
theorem d_law_117 : Dc code 117 (.dup) 1 118 := ⟨by decide +kernel, rfl⟩
theorem d_law_118 : Dc code 118 (.invokestatic 23) 3 121 := ⟨by decide +kernel, rfl⟩
theorem w_158 {W : Wd} (hw : Ws W) : Wok W (Jvm.Cond.code ({ cls := "com/example/binhold/binhold/maven/MavenLayoutIsMetadataPinLaw", name := "metaShort", desc := "()[C" } : Jvm.MethodName) method_4_code (0 : Nat) (Option.some (Jvm.ClassFile.FieldType.array Jvm.ClassFile.FieldType.char))) := hw.1 _ (List.mem_of_getElem? (i := 158) rfl)
theorem mk_M_ca2 {W : Wd} (hw : Ws W) : Mk W M_ca2 ⟨"com/example/binhold/binhold/maven/MavenLayoutIsMetadataPinLaw", "metaShort", "()[C"⟩ 0 := Mk.of nm_M_ca2 rfl rfl rfl (w_158 hw) (w_3 hw) (mkLen pd____C rfl) (by decide)
theorem w_156 {W : Wd} (hw : Ws W) : Wok W (Jvm.Cond.methodLink "com/example/binhold/binhold/maven/MavenLayoutIsMetadataPinLaw" (23 : Nat) ({ cls := "com/example/binhold/binhold/maven/MavenLayoutIsMetadataPinLaw", name := "metaShort", desc := "()[C" } : Jvm.MethodName)) := hw.1 _ (List.mem_of_getElem? (i := 156) rfl)
theorem w_157 {W : Wd} (hw : Ws W) : Wok W (Jvm.Cond.static ({ cls := "com/example/binhold/binhold/maven/MavenLayoutIsMetadataPinLaw", name := "metaShort", desc := "()[C" } : Jvm.MethodName)) := hw.1 _ (List.mem_of_getElem? (i := 157) rfl)
theorem d_law_121 : Dc code 121 (.invokespecial 16) 3 124 := ⟨by decide +kernel, rfl⟩
theorem d_law_124 : Dc code 124 (.astore 10) 2 126 := ⟨by decide +kernel, rfl⟩
theorem d_law_126 : Dc code 126 (.iconst 0) 1 127 := ⟨by decide +kernel, rfl⟩
theorem d_law_127 : Dc code 127 (.istore 11) 2 129 := ⟨by decide +kernel, rfl⟩
theorem d_law_129 : Bj code 129 (.goto 53) 53 132 182 := ⟨by decide +kernel, rfl, by decide, rfl⟩
theorem d_law_132 : Dc code 132 (.iload_n 2) 1 133 := ⟨by decide +kernel, rfl⟩
theorem d_law_133 : Dc code 133 (.iconst 3) 1 134 := ⟨by decide +kernel, rfl⟩
theorem d_law_134 : Dc code 134 (.iand) 1 135 := ⟨by decide +kernel, rfl⟩
theorem d_law_135 : Dc code 135 (.istore 12) 2 137 := ⟨by decide +kernel, rfl⟩
theorem d_law_137 : Dc code 137 (.iload 12) 2 139 := ⟨by decide +kernel, rfl⟩
theorem d_law_139 : Bj code 139 (.ifCond .ne 10) 10 142 149 := ⟨by decide +kernel, rfl, by decide, rfl⟩
theorem d_law_142 : Dc code 142 (.ldc 26) 2 144 := ⟨by decide +kernel, rfl⟩
theorem d_law_144 : Dc code 144 (.astore 10) 2 146 := ⟨by decide +kernel, rfl⟩
theorem d_law_146 : Bj code 146 (.goto 33) 33 149 179 := ⟨by decide +kernel, rfl, by decide, rfl⟩
theorem d_law_179 : Dc code 179 (.iconst 0) 1 180 := ⟨by decide +kernel, rfl⟩
theorem d_law_180 : Dc code 180 (.istore 11) 2 182 := ⟨by decide +kernel, rfl⟩
theorem d_law_149 : Dc code 149 (.iload 12) 2 151 := ⟨by decide +kernel, rfl⟩
theorem d_law_151 : Dc code 151 (.iconst 1) 1 152 := ⟨by decide +kernel, rfl⟩
theorem d_law_152 : Bj code 152 (.if_icmp .ne 10) 10 155 162 := ⟨by decide +kernel, rfl, by decide, rfl⟩
theorem d_law_155 : Dc code 155 (.ldc 28) 2 157 := ⟨by decide +kernel, rfl⟩
theorem d_law_157 : Dc code 157 (.astore 10) 2 159 := ⟨by decide +kernel, rfl⟩
theorem d_law_159 : Bj code 159 (.goto 20) 20 162 179 := ⟨by decide +kernel, rfl, by decide, rfl⟩
theorem d_law_162 : Dc code 162 (.iload 12) 2 164 := ⟨by decide +kernel, rfl⟩
theorem d_law_164 : Dc code 164 (.iconst 2) 1 165 := ⟨by decide +kernel, rfl⟩
theorem d_law_165 : Bj code 165 (.if_icmp .ne 10) 10 168 175 := ⟨by decide +kernel, rfl, by decide, rfl⟩
theorem d_law_168 : Dc code 168 (.ldc 30) 2 170 := ⟨by decide +kernel, rfl⟩
theorem d_law_170 : Dc code 170 (.astore 10) 2 172 := ⟨by decide +kernel, rfl⟩
theorem d_law_172 : Bj code 172 (.goto 7) 7 175 179 := ⟨by decide +kernel, rfl, by decide, rfl⟩
theorem d_law_175 : Dc code 175 (.ldc 32) 2 177 := ⟨by decide +kernel, rfl⟩
theorem d_law_177 : Dc code 177 (.astore 10) 2 179 := ⟨by decide +kernel, rfl⟩
set_option maxRecDepth 65536 in
set_option maxHeartbeats 40000000 in
theorem rm_law {W : Wd} (hw : Ws W) (p0 p1 p2 p3 p4 : Int32) (de : Addr) (hde : Sta (wZ W) (wZ W).heap "java/util/ArrayList" "DEFAULTCAPACITY_EMPTY_ELEMENTDATA" "[Ljava/lang/Object;" (.ref de)) : CtW consts_1 W M0 [.int p0, .int p1, .int p2, .int p3, .int p4] [(de, false, .inr ((.object "java/lang/Object"), true, false, []))] (fun v _ => v = some (.int 1)) := by
  refine CtW.intro (ew_1 hw) (L0 := [.val (.int p0), .val (.int p1), .val (.int p2), .val (.int p3), .val (.int p4), .unset, .unset, .unset, .unset, .unset, .unset, .unset, .unset, .unset]) (plainFor_of_name pf_com_example_binhold_binhold_maven_MavenLayoutIsMetadataPinLaw) rfl (fun K s0 hk => ?_)
  obtain ⟨nn, e_nn⟩ : ∃ q, 1 + (p0 &&& 3) = q := ⟨_, rfl⟩
  have hnn := nn4 p0
  rw [e_nn] at hnn
  obtain ⟨pp, e_pp⟩ : ∃ q, (p1 &&& 2147483647) % 18 = q := ⟨_, rfl⟩
  have hpp := cases18 p1
  rw [e_pp] at hpp
  obtain ⟨ch, e_ch⟩ : ∃ q, (p2 &&& 255) = q := ⟨_, rfl⟩
  have hc0 : ¬ ch < 0 := by rw [← e_ch]; exact (mask255 _).1
  have hc1 : ¬ 255 < ch := by rw [← e_ch]; exact (mask255 _).2
  refine Wp.iconst lc_1 d_law_0 ?_
  refine Wp.iloadN rfl d_law_1 ?_
  refine Wp.iconst lc_3 d_law_2 ?_
  refine Wp.iand (z := (p0 &&& 3)) rfl d_law_3 ?_
  refine Wp.iadd (z := nn) e_nn d_law_4 ?_
  refine Wp.istore (L' := [.val (.int p0), .val (.int p1), .val (.int p2), .val (.int p3), .val (.int p4), .val (.int nn), .unset, .unset, .unset, .unset, .unset, .unset, .unset, .unset]) rfl d_law_5 ?_
  refine Wp.iloadN rfl d_law_7 ?_
  refine Wp.ldcI nm_M0 (w_0 hw) d_law_8 ?_
  refine Wp.iand (z := (p1 &&& 2147483647)) rfl d_law_10 ?_
  refine Wp.bipush lb_18 d_law_11 ?_
  refine Wp.irem (z := pp) (by decide) e_pp d_law_13 ?_
  refine Wp.istore (L' := [.val (.int p0), .val (.int p1), .val (.int p2), .val (.int p3), .val (.int p4), .val (.int nn), .val (.int pp), .unset, .unset, .unset, .unset, .unset, .unset, .unset]) rfl d_law_14 ?_
  refine Wp.iloadN rfl d_law_16 ?_
  refine Wp.sipush ls_255 d_law_17 ?_
  refine Wp.iand (z := ch) e_ch d_law_20 ?_
  refine Wp.i2c (z := ch) (i2cC_id8 hc0 hc1) d_law_21 ?_
  refine Wp.istore (L' := [.val (.int p0), .val (.int p1), .val (.int p2), .val (.int p3), .val (.int p4), .val (.int nn), .val (.int pp), .val (.int ch), .unset, .unset, .unset, .unset, .unset, .unset]) rfl d_law_22 ?_
  refine Wp.iloadN rfl d_law_24 ?_
  refine Wp.iconst lc_3 d_law_25 ?_
  refine Wp.iand (z := (p3 &&& 3)) rfl d_law_26 ?_
  refine Wp.istore (L' := [.val (.int p0), .val (.int p1), .val (.int p2), .val (.int p3), .val (.int p4), .val (.int nn), .val (.int pp), .val (.int ch), .val (.int (p3 &&& 3)), .unset, .unset, .unset, .unset, .unset]) rfl d_law_27 ?_
  refine Wp.callS nm_M0 (fun _ => rm_ca0 hw.set  _ ) (mk_M_ca0 hw) (w_1 hw) (w_2 hw) rfl rfl (Wn := 0) rfl rfl (by decide) d_law_29 ?_
  rintro _ _ ⟨a_1, rfl, rfl⟩
  refine Wp.astore (L' := [.val (.int p0), .val (.int p1), .val (.int p2), .val (.int p3), .val (.int p4), .val (.int nn), .val (.int pp), .val (.int ch), .val (.int (p3 &&& 3)), .val (.ref a_1), .unset, .unset, .unset, .unset]) rfl rfl d_law_32 ?_
  refine Wp.iload rfl d_law_34 ?_
  by_cases b36_2 : (p3 &&& 3) = 0
  · refine Wp.ifF (teq b36_2).2 d_law_36 ?_
    refine Wp.callS nm_M0 (fun _ => rm_ca0 hw.set  _ ) (mk_M_ca0 hw) (w_1 hw) (w_2 hw) rfl rfl (Wn := 0) rfl rfl (by decide) d_law_39 ?_
    rintro _ _ ⟨a_3, rfl, rfl⟩
    refine Wp.astore (L' := [.val (.int p0), .val (.int p1), .val (.int p2), .val (.int p3), .val (.int p4), .val (.int nn), .val (.int pp), .val (.int ch), .val (.int (p3 &&& 3)), .val (.ref a_1), .unset, .unset, .val (.ref a_3), .unset]) rfl rfl d_law_42 ?_
    rcases hpp with rfl | rfl | rfl | rfl | rfl | rfl | rfl | rfl | rfl | rfl | rfl | rfl | rfl | rfl | rfl | rfl | rfl | rfl
    · refine Wp.aload rfl rfl d_law_44 ?_
      refine Wp.iload rfl d_law_46 ?_
      refine Wp.iload rfl d_law_48 ?_
      refine Wp.castore (z := ch) 0 0 rfl (by decide) (by decide) (show 0 < 18 by decide) (narC_id8 hc0 hc1) d_law_50 (H' := [eC a_3 [.int ch, .int 97, .int 118, .int 101, .int 110, .int 45, .int 109, .int 101, .int 116, .int 97, .int 100, .int 97, .int 116, .int 97, .int 46, .int 120, .int 109, .int 108], eC a_1 [.int 109, .int 97, .int 118, .int 101, .int 110, .int 45, .int 109, .int 101, .int 116, .int 97, .int 100, .int 97, .int 116, .int 97, .int 46, .int 120, .int 109, .int 108], (de, false, .inr ((.object "java/lang/Object"), true, false, []))]) rfl ?_
      refine Wp.newO nm_M0 (w_6 hw) (w_7 hw) (w_8 hw) (nf_oStr hw) (by decide) (by decide) d_law_51 (fun a4 => ?_)
      refine Wp.dup rfl d_law_54 ?_
      refine Wp.aload rfl rfl d_law_55 ?_
      refine Wp.callC nm_M0 (M' := M_si 18) (fun _ => rm_si hw.set a4 a_3 true true false [ch, 97, 118, 101, 110, 45, 109, 101, 116, 97, 100, 97, 116, 97, 46, 120, 109, 108] _ (hpC ⟨hc0, hc1⟩ (hpC (by decide) (hpC (by decide) (hpC (by decide) (hpC (by decide) (hpC (by decide) (hpC (by decide) (hpC (by decide) (hpC (by decide) (hpC (by decide) (hpC (by decide) (hpC (by decide) (hpC (by decide) (hpC (by decide) (hpC (by decide) (hpC (by decide) (hpC (by decide) (hpC (by decide) hpN)))))))))))))))))) (show 18 ≤ 4000 by decide) (show 0 < 18 by decide)) (mk_M_si hw 18) (w_12 hw) (w_13 hw) rfl rfl rfl rfl (Wn := 1) rfl rfl (by decide) d_law_57 ?_
      rintro _ _ ⟨b_5, rfl, rfl⟩
      refine Wp.astore (L' := [.val (.int p0), .val (.int p1), .val (.int p2), .val (.int p3), .val (.int p4), .val (.int nn), .val (.int 0), .val (.int ch), .val (.int (p3 &&& 3)), .val (.ref a_1), .val (.ref a4), .unset, .val (.ref a_3), .unset]) rfl rfl d_law_60 ?_
      refine Wp.iload rfl d_law_62 ?_
      refine Wp.aload rfl rfl d_law_64 ?_
      refine Wp.iload rfl d_law_66 ?_
      refine Wp.caload 3 0 rfl (by decide) (by decide) rfl d_law_68 ?_
      by_cases b69_6 : ch = 109
      · refine Wp.icF (teq b69_6).2 d_law_69 ?_
        refine Wp.iconst lc_1 d_law_72 ?_
        refine Wp.goto d_law_73 ?_
        refine Wp.istore (L' := [.val (.int p0), .val (.int p1), .val (.int p2), .val (.int p3), .val (.int p4), .val (.int nn), .val (.int 0), .val (.int ch), .val (.int (p3 &&& 3)), .val (.ref a_1), .val (.ref a4), .val (.int 1), .val (.ref a_3), .unset]) rfl d_law_77 ?_
        refine Wp.goto d_law_79 ?_
        refine Wp.perm [0, 1, 4, 2, 3] 5 pp_0_1_4_2_3 (H' := [oStr true a4 (.ref b_5) (.int 0), eB b_5 [.int (by8 ch), .int (by8 97), .int (by8 118), .int (by8 101), .int (by8 110), .int (by8 45), .int (by8 109), .int (by8 101), .int (by8 116), .int (by8 97), .int (by8 100), .int (by8 97), .int (by8 116), .int (by8 97), .int (by8 46), .int (by8 120), .int (by8 109), .int (by8 108)], (de, false, .inr ((.object "java/lang/Object"), true, false, [])), eC a_3 [.int ch, .int 97, .int 118, .int 101, .int 110, .int 45, .int 109, .int 101, .int 116, .int 97, .int 100, .int 97, .int 116, .int 97, .int 46, .int 120, .int 109, .int 108], eC a_1 [.int 109, .int 97, .int 118, .int 101, .int 110, .int 45, .int 109, .int 101, .int 116, .int 97, .int 100, .int 97, .int 116, .int 97, .int 46, .int 120, .int 109, .int 108]]) rfl ?_
        refine Wp.less ((((((List.Sublist.refl _).cons _).cons _).cons_cons _).cons_cons _).cons_cons _) ?_
        refine Wp.room (c' := 8) (n' := 400) (by decide) (by decide) ?_
        exact lp_182 hw hk nn hnn p0 p1 p2 p3 p4 0 ch (p3 &&& 3) 1 a_1 a4 b_5 de true true true false [(by8 ch), (by8 97), (by8 118), (by8 101), (by8 110), (by8 45), (by8 109), (by8 101), (by8 116), (by8 97), (by8 100), (by8 97), (by8 116), (by8 97), (by8 46), (by8 120), (by8 109), (by8 108)] _ (One.val rfl) hde (show 18 < 2 ^ 31 by decide) (by rw [b69_6]; decide +kernel)
      · refine Wp.icT (feq b69_6).2 d_law_69 ?_
        refine Wp.iconst lc_0 d_law_76 ?_
        refine Wp.istore (L' := [.val (.int p0), .val (.int p1), .val (.int p2), .val (.int p3), .val (.int p4), .val (.int nn), .val (.int 0), .val (.int ch), .val (.int (p3 &&& 3)), .val (.ref a_1), .val (.ref a4), .val (.int 0), .val (.ref a_3), .unset]) rfl d_law_77 ?_
        refine Wp.goto d_law_79 ?_
        refine Wp.perm [0, 1, 4, 2, 3] 5 pp_0_1_4_2_3 (H' := [oStr true a4 (.ref b_5) (.int 0), eB b_5 [.int (by8 ch), .int (by8 97), .int (by8 118), .int (by8 101), .int (by8 110), .int (by8 45), .int (by8 109), .int (by8 101), .int (by8 116), .int (by8 97), .int (by8 100), .int (by8 97), .int (by8 116), .int (by8 97), .int (by8 46), .int (by8 120), .int (by8 109), .int (by8 108)], (de, false, .inr ((.object "java/lang/Object"), true, false, [])), eC a_3 [.int ch, .int 97, .int 118, .int 101, .int 110, .int 45, .int 109, .int 101, .int 116, .int 97, .int 100, .int 97, .int 116, .int 97, .int 46, .int 120, .int 109, .int 108], eC a_1 [.int 109, .int 97, .int 118, .int 101, .int 110, .int 45, .int 109, .int 101, .int 116, .int 97, .int 100, .int 97, .int 116, .int 97, .int 46, .int 120, .int 109, .int 108]]) rfl ?_
        refine Wp.less ((((((List.Sublist.refl _).cons _).cons _).cons_cons _).cons_cons _).cons_cons _) ?_
        refine Wp.room (c' := 8) (n' := 400) (by decide) (by decide) ?_
        exact lp_182 hw hk nn hnn p0 p1 p2 p3 p4 0 ch (p3 &&& 3) 0 a_1 a4 b_5 de true true true false [(by8 ch), (by8 97), (by8 118), (by8 101), (by8 110), (by8 45), (by8 109), (by8 101), (by8 116), (by8 97), (by8 100), (by8 97), (by8 116), (by8 97), (by8 46), (by8 120), (by8 109), (by8 108)] _ (One.val rfl) hde (show 18 < 2 ^ 31 by decide) (eqI_ne (fun q => b69_6 (by8_eq hc0 hc1 (Option.some.inj (show some (by8 ch) = some 109 from congrArg (fun l : List Int32 => l[0]?) q)) (by decide) (by decide)))).symm
    · refine Wp.aload rfl rfl d_law_44 ?_
      refine Wp.iload rfl d_law_46 ?_
      refine Wp.iload rfl d_law_48 ?_
      refine Wp.castore (z := ch) 0 1 rfl (by decide) (by decide) (show 1 < 18 by decide) (narC_id8 hc0 hc1) d_law_50 (H' := [eC a_3 [.int 109, .int ch, .int 118, .int 101, .int 110, .int 45, .int 109, .int 101, .int 116, .int 97, .int 100, .int 97, .int 116, .int 97, .int 46, .int 120, .int 109, .int 108], eC a_1 [.int 109, .int 97, .int 118, .int 101, .int 110, .int 45, .int 109, .int 101, .int 116, .int 97, .int 100, .int 97, .int 116, .int 97, .int 46, .int 120, .int 109, .int 108], (de, false, .inr ((.object "java/lang/Object"), true, false, []))]) rfl ?_
      refine Wp.newO nm_M0 (w_6 hw) (w_7 hw) (w_8 hw) (nf_oStr hw) (by decide) (by decide) d_law_51 (fun a7 => ?_)
      refine Wp.dup rfl d_law_54 ?_
      refine Wp.aload rfl rfl d_law_55 ?_
      refine Wp.callC nm_M0 (M' := M_si 18) (fun _ => rm_si hw.set a7 a_3 true true false [109, ch, 118, 101, 110, 45, 109, 101, 116, 97, 100, 97, 116, 97, 46, 120, 109, 108] _ (hpC (by decide) (hpC ⟨hc0, hc1⟩ (hpC (by decide) (hpC (by decide) (hpC (by decide) (hpC (by decide) (hpC (by decide) (hpC (by decide) (hpC (by decide) (hpC (by decide) (hpC (by decide) (hpC (by decide) (hpC (by decide) (hpC (by decide) (hpC (by decide) (hpC (by decide) (hpC (by decide) (hpC (by decide) hpN)))))))))))))))))) (show 18 ≤ 4000 by decide) (show 0 < 18 by decide)) (mk_M_si hw 18) (w_12 hw) (w_13 hw) rfl rfl rfl rfl (Wn := 1) rfl rfl (by decide) d_law_57 ?_
      rintro _ _ ⟨b_8, rfl, rfl⟩
      refine Wp.astore (L' := [.val (.int p0), .val (.int p1), .val (.int p2), .val (.int p3), .val (.int p4), .val (.int nn), .val (.int 1), .val (.int ch), .val (.int (p3 &&& 3)), .val (.ref a_1), .val (.ref a7), .unset, .val (.ref a_3), .unset]) rfl rfl d_law_60 ?_
      refine Wp.iload rfl d_law_62 ?_
      refine Wp.aload rfl rfl d_law_64 ?_
      refine Wp.iload rfl d_law_66 ?_
      refine Wp.caload 3 1 rfl (by decide) (by decide) rfl d_law_68 ?_
      by_cases b69_9 : ch = 97
      · refine Wp.icF (teq b69_9).2 d_law_69 ?_
        refine Wp.iconst lc_1 d_law_72 ?_
        refine Wp.goto d_law_73 ?_
        refine Wp.istore (L' := [.val (.int p0), .val (.int p1), .val (.int p2), .val (.int p3), .val (.int p4), .val (.int nn), .val (.int 1), .val (.int ch), .val (.int (p3 &&& 3)), .val (.ref a_1), .val (.ref a7), .val (.int 1), .val (.ref a_3), .unset]) rfl d_law_77 ?_
        refine Wp.goto d_law_79 ?_
        refine Wp.perm [0, 1, 4, 2, 3] 5 pp_0_1_4_2_3 (H' := [oStr true a7 (.ref b_8) (.int 0), eB b_8 [.int (by8 109), .int (by8 ch), .int (by8 118), .int (by8 101), .int (by8 110), .int (by8 45), .int (by8 109), .int (by8 101), .int (by8 116), .int (by8 97), .int (by8 100), .int (by8 97), .int (by8 116), .int (by8 97), .int (by8 46), .int (by8 120), .int (by8 109), .int (by8 108)], (de, false, .inr ((.object "java/lang/Object"), true, false, [])), eC a_3 [.int 109, .int ch, .int 118, .int 101, .int 110, .int 45, .int 109, .int 101, .int 116, .int 97, .int 100, .int 97, .int 116, .int 97, .int 46, .int 120, .int 109, .int 108], eC a_1 [.int 109, .int 97, .int 118, .int 101, .int 110, .int 45, .int 109, .int 101, .int 116, .int 97, .int 100, .int 97, .int 116, .int 97, .int 46, .int 120, .int 109, .int 108]]) rfl ?_
        refine Wp.less ((((((List.Sublist.refl _).cons _).cons _).cons_cons _).cons_cons _).cons_cons _) ?_
        refine Wp.room (c' := 8) (n' := 400) (by decide) (by decide) ?_
        exact lp_182 hw hk nn hnn p0 p1 p2 p3 p4 1 ch (p3 &&& 3) 1 a_1 a7 b_8 de true true true false [(by8 109), (by8 ch), (by8 118), (by8 101), (by8 110), (by8 45), (by8 109), (by8 101), (by8 116), (by8 97), (by8 100), (by8 97), (by8 116), (by8 97), (by8 46), (by8 120), (by8 109), (by8 108)] _ (One.val rfl) hde (show 18 < 2 ^ 31 by decide) (by rw [b69_9]; decide +kernel)
      · refine Wp.icT (feq b69_9).2 d_law_69 ?_
        refine Wp.iconst lc_0 d_law_76 ?_
        refine Wp.istore (L' := [.val (.int p0), .val (.int p1), .val (.int p2), .val (.int p3), .val (.int p4), .val (.int nn), .val (.int 1), .val (.int ch), .val (.int (p3 &&& 3)), .val (.ref a_1), .val (.ref a7), .val (.int 0), .val (.ref a_3), .unset]) rfl d_law_77 ?_
        refine Wp.goto d_law_79 ?_
        refine Wp.perm [0, 1, 4, 2, 3] 5 pp_0_1_4_2_3 (H' := [oStr true a7 (.ref b_8) (.int 0), eB b_8 [.int (by8 109), .int (by8 ch), .int (by8 118), .int (by8 101), .int (by8 110), .int (by8 45), .int (by8 109), .int (by8 101), .int (by8 116), .int (by8 97), .int (by8 100), .int (by8 97), .int (by8 116), .int (by8 97), .int (by8 46), .int (by8 120), .int (by8 109), .int (by8 108)], (de, false, .inr ((.object "java/lang/Object"), true, false, [])), eC a_3 [.int 109, .int ch, .int 118, .int 101, .int 110, .int 45, .int 109, .int 101, .int 116, .int 97, .int 100, .int 97, .int 116, .int 97, .int 46, .int 120, .int 109, .int 108], eC a_1 [.int 109, .int 97, .int 118, .int 101, .int 110, .int 45, .int 109, .int 101, .int 116, .int 97, .int 100, .int 97, .int 116, .int 97, .int 46, .int 120, .int 109, .int 108]]) rfl ?_
        refine Wp.less ((((((List.Sublist.refl _).cons _).cons _).cons_cons _).cons_cons _).cons_cons _) ?_
        refine Wp.room (c' := 8) (n' := 400) (by decide) (by decide) ?_
        exact lp_182 hw hk nn hnn p0 p1 p2 p3 p4 1 ch (p3 &&& 3) 0 a_1 a7 b_8 de true true true false [(by8 109), (by8 ch), (by8 118), (by8 101), (by8 110), (by8 45), (by8 109), (by8 101), (by8 116), (by8 97), (by8 100), (by8 97), (by8 116), (by8 97), (by8 46), (by8 120), (by8 109), (by8 108)] _ (One.val rfl) hde (show 18 < 2 ^ 31 by decide) (eqI_ne (fun q => b69_9 (by8_eq hc0 hc1 (Option.some.inj (show some (by8 ch) = some 97 from congrArg (fun l : List Int32 => l[1]?) q)) (by decide) (by decide)))).symm
    · refine Wp.aload rfl rfl d_law_44 ?_
      refine Wp.iload rfl d_law_46 ?_
      refine Wp.iload rfl d_law_48 ?_
      refine Wp.castore (z := ch) 0 2 rfl (by decide) (by decide) (show 2 < 18 by decide) (narC_id8 hc0 hc1) d_law_50 (H' := [eC a_3 [.int 109, .int 97, .int ch, .int 101, .int 110, .int 45, .int 109, .int 101, .int 116, .int 97, .int 100, .int 97, .int 116, .int 97, .int 46, .int 120, .int 109, .int 108], eC a_1 [.int 109, .int 97, .int 118, .int 101, .int 110, .int 45, .int 109, .int 101, .int 116, .int 97, .int 100, .int 97, .int 116, .int 97, .int 46, .int 120, .int 109, .int 108], (de, false, .inr ((.object "java/lang/Object"), true, false, []))]) rfl ?_
      refine Wp.newO nm_M0 (w_6 hw) (w_7 hw) (w_8 hw) (nf_oStr hw) (by decide) (by decide) d_law_51 (fun a10 => ?_)
      refine Wp.dup rfl d_law_54 ?_
      refine Wp.aload rfl rfl d_law_55 ?_
      refine Wp.callC nm_M0 (M' := M_si 18) (fun _ => rm_si hw.set a10 a_3 true true false [109, 97, ch, 101, 110, 45, 109, 101, 116, 97, 100, 97, 116, 97, 46, 120, 109, 108] _ (hpC (by decide) (hpC (by decide) (hpC ⟨hc0, hc1⟩ (hpC (by decide) (hpC (by decide) (hpC (by decide) (hpC (by decide) (hpC (by decide) (hpC (by decide) (hpC (by decide) (hpC (by decide) (hpC (by decide) (hpC (by decide) (hpC (by decide) (hpC (by decide) (hpC (by decide) (hpC (by decide) (hpC (by decide) hpN)))))))))))))))))) (show 18 ≤ 4000 by decide) (show 0 < 18 by decide)) (mk_M_si hw 18) (w_12 hw) (w_13 hw) rfl rfl rfl rfl (Wn := 1) rfl rfl (by decide) d_law_57 ?_
      rintro _ _ ⟨b_11, rfl, rfl⟩
      refine Wp.astore (L' := [.val (.int p0), .val (.int p1), .val (.int p2), .val (.int p3), .val (.int p4), .val (.int nn), .val (.int 2), .val (.int ch), .val (.int (p3 &&& 3)), .val (.ref a_1), .val (.ref a10), .unset, .val (.ref a_3), .unset]) rfl rfl d_law_60 ?_
      refine Wp.iload rfl d_law_62 ?_
      refine Wp.aload rfl rfl d_law_64 ?_
      refine Wp.iload rfl d_law_66 ?_
      refine Wp.caload 3 2 rfl (by decide) (by decide) rfl d_law_68 ?_
      by_cases b69_12 : ch = 118
      · refine Wp.icF (teq b69_12).2 d_law_69 ?_
        refine Wp.iconst lc_1 d_law_72 ?_
        refine Wp.goto d_law_73 ?_
        refine Wp.istore (L' := [.val (.int p0), .val (.int p1), .val (.int p2), .val (.int p3), .val (.int p4), .val (.int nn), .val (.int 2), .val (.int ch), .val (.int (p3 &&& 3)), .val (.ref a_1), .val (.ref a10), .val (.int 1), .val (.ref a_3), .unset]) rfl d_law_77 ?_
        refine Wp.goto d_law_79 ?_
        refine Wp.perm [0, 1, 4, 2, 3] 5 pp_0_1_4_2_3 (H' := [oStr true a10 (.ref b_11) (.int 0), eB b_11 [.int (by8 109), .int (by8 97), .int (by8 ch), .int (by8 101), .int (by8 110), .int (by8 45), .int (by8 109), .int (by8 101), .int (by8 116), .int (by8 97), .int (by8 100), .int (by8 97), .int (by8 116), .int (by8 97), .int (by8 46), .int (by8 120), .int (by8 109), .int (by8 108)], (de, false, .inr ((.object "java/lang/Object"), true, false, [])), eC a_3 [.int 109, .int 97, .int ch, .int 101, .int 110, .int 45, .int 109, .int 101, .int 116, .int 97, .int 100, .int 97, .int 116, .int 97, .int 46, .int 120, .int 109, .int 108], eC a_1 [.int 109, .int 97, .int 118, .int 101, .int 110, .int 45, .int 109, .int 101, .int 116, .int 97, .int 100, .int 97, .int 116, .int 97, .int 46, .int 120, .int 109, .int 108]]) rfl ?_
        refine Wp.less ((((((List.Sublist.refl _).cons _).cons _).cons_cons _).cons_cons _).cons_cons _) ?_
        refine Wp.room (c' := 8) (n' := 400) (by decide) (by decide) ?_
        exact lp_182 hw hk nn hnn p0 p1 p2 p3 p4 2 ch (p3 &&& 3) 1 a_1 a10 b_11 de true true true false [(by8 109), (by8 97), (by8 ch), (by8 101), (by8 110), (by8 45), (by8 109), (by8 101), (by8 116), (by8 97), (by8 100), (by8 97), (by8 116), (by8 97), (by8 46), (by8 120), (by8 109), (by8 108)] _ (One.val rfl) hde (show 18 < 2 ^ 31 by decide) (by rw [b69_12]; decide +kernel)
      · refine Wp.icT (feq b69_12).2 d_law_69 ?_
        refine Wp.iconst lc_0 d_law_76 ?_
        refine Wp.istore (L' := [.val (.int p0), .val (.int p1), .val (.int p2), .val (.int p3), .val (.int p4), .val (.int nn), .val (.int 2), .val (.int ch), .val (.int (p3 &&& 3)), .val (.ref a_1), .val (.ref a10), .val (.int 0), .val (.ref a_3), .unset]) rfl d_law_77 ?_
        refine Wp.goto d_law_79 ?_
        refine Wp.perm [0, 1, 4, 2, 3] 5 pp_0_1_4_2_3 (H' := [oStr true a10 (.ref b_11) (.int 0), eB b_11 [.int (by8 109), .int (by8 97), .int (by8 ch), .int (by8 101), .int (by8 110), .int (by8 45), .int (by8 109), .int (by8 101), .int (by8 116), .int (by8 97), .int (by8 100), .int (by8 97), .int (by8 116), .int (by8 97), .int (by8 46), .int (by8 120), .int (by8 109), .int (by8 108)], (de, false, .inr ((.object "java/lang/Object"), true, false, [])), eC a_3 [.int 109, .int 97, .int ch, .int 101, .int 110, .int 45, .int 109, .int 101, .int 116, .int 97, .int 100, .int 97, .int 116, .int 97, .int 46, .int 120, .int 109, .int 108], eC a_1 [.int 109, .int 97, .int 118, .int 101, .int 110, .int 45, .int 109, .int 101, .int 116, .int 97, .int 100, .int 97, .int 116, .int 97, .int 46, .int 120, .int 109, .int 108]]) rfl ?_
        refine Wp.less ((((((List.Sublist.refl _).cons _).cons _).cons_cons _).cons_cons _).cons_cons _) ?_
        refine Wp.room (c' := 8) (n' := 400) (by decide) (by decide) ?_
        exact lp_182 hw hk nn hnn p0 p1 p2 p3 p4 2 ch (p3 &&& 3) 0 a_1 a10 b_11 de true true true false [(by8 109), (by8 97), (by8 ch), (by8 101), (by8 110), (by8 45), (by8 109), (by8 101), (by8 116), (by8 97), (by8 100), (by8 97), (by8 116), (by8 97), (by8 46), (by8 120), (by8 109), (by8 108)] _ (One.val rfl) hde (show 18 < 2 ^ 31 by decide) (eqI_ne (fun q => b69_12 (by8_eq hc0 hc1 (Option.some.inj (show some (by8 ch) = some 118 from congrArg (fun l : List Int32 => l[2]?) q)) (by decide) (by decide)))).symm
    · refine Wp.aload rfl rfl d_law_44 ?_
      refine Wp.iload rfl d_law_46 ?_
      refine Wp.iload rfl d_law_48 ?_
      refine Wp.castore (z := ch) 0 3 rfl (by decide) (by decide) (show 3 < 18 by decide) (narC_id8 hc0 hc1) d_law_50 (H' := [eC a_3 [.int 109, .int 97, .int 118, .int ch, .int 110, .int 45, .int 109, .int 101, .int 116, .int 97, .int 100, .int 97, .int 116, .int 97, .int 46, .int 120, .int 109, .int 108], eC a_1 [.int 109, .int 97, .int 118, .int 101, .int 110, .int 45, .int 109, .int 101, .int 116, .int 97, .int 100, .int 97, .int 116, .int 97, .int 46, .int 120, .int 109, .int 108], (de, false, .inr ((.object "java/lang/Object"), true, false, []))]) rfl ?_
      refine Wp.newO nm_M0 (w_6 hw) (w_7 hw) (w_8 hw) (nf_oStr hw) (by decide) (by decide) d_law_51 (fun a13 => ?_)
      refine Wp.dup rfl d_law_54 ?_
      refine Wp.aload rfl rfl d_law_55 ?_
      refine Wp.callC nm_M0 (M' := M_si 18) (fun _ => rm_si hw.set a13 a_3 true true false [109, 97, 118, ch, 110, 45, 109, 101, 116, 97, 100, 97, 116, 97, 46, 120, 109, 108] _ (hpC (by decide) (hpC (by decide) (hpC (by decide) (hpC ⟨hc0, hc1⟩ (hpC (by decide) (hpC (by decide) (hpC (by decide) (hpC (by decide) (hpC (by decide) (hpC (by decide) (hpC (by decide) (hpC (by decide) (hpC (by decide) (hpC (by decide) (hpC (by decide) (hpC (by decide) (hpC (by decide) (hpC (by decide) hpN)))))))))))))))))) (show 18 ≤ 4000 by decide) (show 0 < 18 by decide)) (mk_M_si hw 18) (w_12 hw) (w_13 hw) rfl rfl rfl rfl (Wn := 1) rfl rfl (by decide) d_law_57 ?_
      rintro _ _ ⟨b_14, rfl, rfl⟩
      refine Wp.astore (L' := [.val (.int p0), .val (.int p1), .val (.int p2), .val (.int p3), .val (.int p4), .val (.int nn), .val (.int 3), .val (.int ch), .val (.int (p3 &&& 3)), .val (.ref a_1), .val (.ref a13), .unset, .val (.ref a_3), .unset]) rfl rfl d_law_60 ?_
      refine Wp.iload rfl d_law_62 ?_
      refine Wp.aload rfl rfl d_law_64 ?_
      refine Wp.iload rfl d_law_66 ?_
      refine Wp.caload 3 3 rfl (by decide) (by decide) rfl d_law_68 ?_
      by_cases b69_15 : ch = 101
      · refine Wp.icF (teq b69_15).2 d_law_69 ?_
        refine Wp.iconst lc_1 d_law_72 ?_
        refine Wp.goto d_law_73 ?_
        refine Wp.istore (L' := [.val (.int p0), .val (.int p1), .val (.int p2), .val (.int p3), .val (.int p4), .val (.int nn), .val (.int 3), .val (.int ch), .val (.int (p3 &&& 3)), .val (.ref a_1), .val (.ref a13), .val (.int 1), .val (.ref a_3), .unset]) rfl d_law_77 ?_
        refine Wp.goto d_law_79 ?_
        refine Wp.perm [0, 1, 4, 2, 3] 5 pp_0_1_4_2_3 (H' := [oStr true a13 (.ref b_14) (.int 0), eB b_14 [.int (by8 109), .int (by8 97), .int (by8 118), .int (by8 ch), .int (by8 110), .int (by8 45), .int (by8 109), .int (by8 101), .int (by8 116), .int (by8 97), .int (by8 100), .int (by8 97), .int (by8 116), .int (by8 97), .int (by8 46), .int (by8 120), .int (by8 109), .int (by8 108)], (de, false, .inr ((.object "java/lang/Object"), true, false, [])), eC a_3 [.int 109, .int 97, .int 118, .int ch, .int 110, .int 45, .int 109, .int 101, .int 116, .int 97, .int 100, .int 97, .int 116, .int 97, .int 46, .int 120, .int 109, .int 108], eC a_1 [.int 109, .int 97, .int 118, .int 101, .int 110, .int 45, .int 109, .int 101, .int 116, .int 97, .int 100, .int 97, .int 116, .int 97, .int 46, .int 120, .int 109, .int 108]]) rfl ?_
        refine Wp.less ((((((List.Sublist.refl _).cons _).cons _).cons_cons _).cons_cons _).cons_cons _) ?_
        refine Wp.room (c' := 8) (n' := 400) (by decide) (by decide) ?_
        exact lp_182 hw hk nn hnn p0 p1 p2 p3 p4 3 ch (p3 &&& 3) 1 a_1 a13 b_14 de true true true false [(by8 109), (by8 97), (by8 118), (by8 ch), (by8 110), (by8 45), (by8 109), (by8 101), (by8 116), (by8 97), (by8 100), (by8 97), (by8 116), (by8 97), (by8 46), (by8 120), (by8 109), (by8 108)] _ (One.val rfl) hde (show 18 < 2 ^ 31 by decide) (by rw [b69_15]; decide +kernel)
      · refine Wp.icT (feq b69_15).2 d_law_69 ?_
        refine Wp.iconst lc_0 d_law_76 ?_
        refine Wp.istore (L' := [.val (.int p0), .val (.int p1), .val (.int p2), .val (.int p3), .val (.int p4), .val (.int nn), .val (.int 3), .val (.int ch), .val (.int (p3 &&& 3)), .val (.ref a_1), .val (.ref a13), .val (.int 0), .val (.ref a_3), .unset]) rfl d_law_77 ?_
        refine Wp.goto d_law_79 ?_
        refine Wp.perm [0, 1, 4, 2, 3] 5 pp_0_1_4_2_3 (H' := [oStr true a13 (.ref b_14) (.int 0), eB b_14 [.int (by8 109), .int (by8 97), .int (by8 118), .int (by8 ch), .int (by8 110), .int (by8 45), .int (by8 109), .int (by8 101), .int (by8 116), .int (by8 97), .int (by8 100), .int (by8 97), .int (by8 116), .int (by8 97), .int (by8 46), .int (by8 120), .int (by8 109), .int (by8 108)], (de, false, .inr ((.object "java/lang/Object"), true, false, [])), eC a_3 [.int 109, .int 97, .int 118, .int ch, .int 110, .int 45, .int 109, .int 101, .int 116, .int 97, .int 100, .int 97, .int 116, .int 97, .int 46, .int 120, .int 109, .int 108], eC a_1 [.int 109, .int 97, .int 118, .int 101, .int 110, .int 45, .int 109, .int 101, .int 116, .int 97, .int 100, .int 97, .int 116, .int 97, .int 46, .int 120, .int 109, .int 108]]) rfl ?_
        refine Wp.less ((((((List.Sublist.refl _).cons _).cons _).cons_cons _).cons_cons _).cons_cons _) ?_
        refine Wp.room (c' := 8) (n' := 400) (by decide) (by decide) ?_
        exact lp_182 hw hk nn hnn p0 p1 p2 p3 p4 3 ch (p3 &&& 3) 0 a_1 a13 b_14 de true true true false [(by8 109), (by8 97), (by8 118), (by8 ch), (by8 110), (by8 45), (by8 109), (by8 101), (by8 116), (by8 97), (by8 100), (by8 97), (by8 116), (by8 97), (by8 46), (by8 120), (by8 109), (by8 108)] _ (One.val rfl) hde (show 18 < 2 ^ 31 by decide) (eqI_ne (fun q => b69_15 (by8_eq hc0 hc1 (Option.some.inj (show some (by8 ch) = some 101 from congrArg (fun l : List Int32 => l[3]?) q)) (by decide) (by decide)))).symm
    · refine Wp.aload rfl rfl d_law_44 ?_
      refine Wp.iload rfl d_law_46 ?_
      refine Wp.iload rfl d_law_48 ?_
      refine Wp.castore (z := ch) 0 4 rfl (by decide) (by decide) (show 4 < 18 by decide) (narC_id8 hc0 hc1) d_law_50 (H' := [eC a_3 [.int 109, .int 97, .int 118, .int 101, .int ch, .int 45, .int 109, .int 101, .int 116, .int 97, .int 100, .int 97, .int 116, .int 97, .int 46, .int 120, .int 109, .int 108], eC a_1 [.int 109, .int 97, .int 118, .int 101, .int 110, .int 45, .int 109, .int 101, .int 116, .int 97, .int 100, .int 97, .int 116, .int 97, .int 46, .int 120, .int 109, .int 108], (de, false, .inr ((.object "java/lang/Object"), true, false, []))]) rfl ?_
      refine Wp.newO nm_M0 (w_6 hw) (w_7 hw) (w_8 hw) (nf_oStr hw) (by decide) (by decide) d_law_51 (fun a16 => ?_)
      refine Wp.dup rfl d_law_54 ?_
      refine Wp.aload rfl rfl d_law_55 ?_
      refine Wp.callC nm_M0 (M' := M_si 18) (fun _ => rm_si hw.set a16 a_3 true true false [109, 97, 118, 101, ch, 45, 109, 101, 116, 97, 100, 97, 116, 97, 46, 120, 109, 108] _ (hpC (by decide) (hpC (by decide) (hpC (by decide) (hpC (by decide) (hpC ⟨hc0, hc1⟩ (hpC (by decide) (hpC (by decide) (hpC (by decide) (hpC (by decide) (hpC (by decide) (hpC (by decide) (hpC (by decide) (hpC (by decide) (hpC (by decide) (hpC (by decide) (hpC (by decide) (hpC (by decide) (hpC (by decide) hpN)))))))))))))))))) (show 18 ≤ 4000 by decide) (show 0 < 18 by decide)) (mk_M_si hw 18) (w_12 hw) (w_13 hw) rfl rfl rfl rfl (Wn := 1) rfl rfl (by decide) d_law_57 ?_
      rintro _ _ ⟨b_17, rfl, rfl⟩
      refine Wp.astore (L' := [.val (.int p0), .val (.int p1), .val (.int p2), .val (.int p3), .val (.int p4), .val (.int nn), .val (.int 4), .val (.int ch), .val (.int (p3 &&& 3)), .val (.ref a_1), .val (.ref a16), .unset, .val (.ref a_3), .unset]) rfl rfl d_law_60 ?_
      refine Wp.iload rfl d_law_62 ?_
      refine Wp.aload rfl rfl d_law_64 ?_
      refine Wp.iload rfl d_law_66 ?_
      refine Wp.caload 3 4 rfl (by decide) (by decide) rfl d_law_68 ?_
      by_cases b69_18 : ch = 110
      · refine Wp.icF (teq b69_18).2 d_law_69 ?_
        refine Wp.iconst lc_1 d_law_72 ?_
        refine Wp.goto d_law_73 ?_
        refine Wp.istore (L' := [.val (.int p0), .val (.int p1), .val (.int p2), .val (.int p3), .val (.int p4), .val (.int nn), .val (.int 4), .val (.int ch), .val (.int (p3 &&& 3)), .val (.ref a_1), .val (.ref a16), .val (.int 1), .val (.ref a_3), .unset]) rfl d_law_77 ?_
        refine Wp.goto d_law_79 ?_
        refine Wp.perm [0, 1, 4, 2, 3] 5 pp_0_1_4_2_3 (H' := [oStr true a16 (.ref b_17) (.int 0), eB b_17 [.int (by8 109), .int (by8 97), .int (by8 118), .int (by8 101), .int (by8 ch), .int (by8 45), .int (by8 109), .int (by8 101), .int (by8 116), .int (by8 97), .int (by8 100), .int (by8 97), .int (by8 116), .int (by8 97), .int (by8 46), .int (by8 120), .int (by8 109), .int (by8 108)], (de, false, .inr ((.object "java/lang/Object"), true, false, [])), eC a_3 [.int 109, .int 97, .int 118, .int 101, .int ch, .int 45, .int 109, .int 101, .int 116, .int 97, .int 100, .int 97, .int 116, .int 97, .int 46, .int 120, .int 109, .int 108], eC a_1 [.int 109, .int 97, .int 118, .int 101, .int 110, .int 45, .int 109, .int 101, .int 116, .int 97, .int 100, .int 97, .int 116, .int 97, .int 46, .int 120, .int 109, .int 108]]) rfl ?_
        refine Wp.less ((((((List.Sublist.refl _).cons _).cons _).cons_cons _).cons_cons _).cons_cons _) ?_
        refine Wp.room (c' := 8) (n' := 400) (by decide) (by decide) ?_
        exact lp_182 hw hk nn hnn p0 p1 p2 p3 p4 4 ch (p3 &&& 3) 1 a_1 a16 b_17 de true true true false [(by8 109), (by8 97), (by8 118), (by8 101), (by8 ch), (by8 45), (by8 109), (by8 101), (by8 116), (by8 97), (by8 100), (by8 97), (by8 116), (by8 97), (by8 46), (by8 120), (by8 109), (by8 108)] _ (One.val rfl) hde (show 18 < 2 ^ 31 by decide) (by rw [b69_18]; decide +kernel)
      · refine Wp.icT (feq b69_18).2 d_law_69 ?_
        refine Wp.iconst lc_0 d_law_76 ?_
        refine Wp.istore (L' := [.val (.int p0), .val (.int p1), .val (.int p2), .val (.int p3), .val (.int p4), .val (.int nn), .val (.int 4), .val (.int ch), .val (.int (p3 &&& 3)), .val (.ref a_1), .val (.ref a16), .val (.int 0), .val (.ref a_3), .unset]) rfl d_law_77 ?_
        refine Wp.goto d_law_79 ?_
        refine Wp.perm [0, 1, 4, 2, 3] 5 pp_0_1_4_2_3 (H' := [oStr true a16 (.ref b_17) (.int 0), eB b_17 [.int (by8 109), .int (by8 97), .int (by8 118), .int (by8 101), .int (by8 ch), .int (by8 45), .int (by8 109), .int (by8 101), .int (by8 116), .int (by8 97), .int (by8 100), .int (by8 97), .int (by8 116), .int (by8 97), .int (by8 46), .int (by8 120), .int (by8 109), .int (by8 108)], (de, false, .inr ((.object "java/lang/Object"), true, false, [])), eC a_3 [.int 109, .int 97, .int 118, .int 101, .int ch, .int 45, .int 109, .int 101, .int 116, .int 97, .int 100, .int 97, .int 116, .int 97, .int 46, .int 120, .int 109, .int 108], eC a_1 [.int 109, .int 97, .int 118, .int 101, .int 110, .int 45, .int 109, .int 101, .int 116, .int 97, .int 100, .int 97, .int 116, .int 97, .int 46, .int 120, .int 109, .int 108]]) rfl ?_
        refine Wp.less ((((((List.Sublist.refl _).cons _).cons _).cons_cons _).cons_cons _).cons_cons _) ?_
        refine Wp.room (c' := 8) (n' := 400) (by decide) (by decide) ?_
        exact lp_182 hw hk nn hnn p0 p1 p2 p3 p4 4 ch (p3 &&& 3) 0 a_1 a16 b_17 de true true true false [(by8 109), (by8 97), (by8 118), (by8 101), (by8 ch), (by8 45), (by8 109), (by8 101), (by8 116), (by8 97), (by8 100), (by8 97), (by8 116), (by8 97), (by8 46), (by8 120), (by8 109), (by8 108)] _ (One.val rfl) hde (show 18 < 2 ^ 31 by decide) (eqI_ne (fun q => b69_18 (by8_eq hc0 hc1 (Option.some.inj (show some (by8 ch) = some 110 from congrArg (fun l : List Int32 => l[4]?) q)) (by decide) (by decide)))).symm
    · refine Wp.aload rfl rfl d_law_44 ?_
      refine Wp.iload rfl d_law_46 ?_
      refine Wp.iload rfl d_law_48 ?_
      refine Wp.castore (z := ch) 0 5 rfl (by decide) (by decide) (show 5 < 18 by decide) (narC_id8 hc0 hc1) d_law_50 (H' := [eC a_3 [.int 109, .int 97, .int 118, .int 101, .int 110, .int ch, .int 109, .int 101, .int 116, .int 97, .int 100, .int 97, .int 116, .int 97, .int 46, .int 120, .int 109, .int 108], eC a_1 [.int 109, .int 97, .int 118, .int 101, .int 110, .int 45, .int 109, .int 101, .int 116, .int 97, .int 100, .int 97, .int 116, .int 97, .int 46, .int 120, .int 109, .int 108], (de, false, .inr ((.object "java/lang/Object"), true, false, []))]) rfl ?_
      refine Wp.newO nm_M0 (w_6 hw) (w_7 hw) (w_8 hw) (nf_oStr hw) (by decide) (by decide) d_law_51 (fun a19 => ?_)
      refine Wp.dup rfl d_law_54 ?_
      refine Wp.aload rfl rfl d_law_55 ?_
      refine Wp.callC nm_M0 (M' := M_si 18) (fun _ => rm_si hw.set a19 a_3 true true false [109, 97, 118, 101, 110, ch, 109, 101, 116, 97, 100, 97, 116, 97, 46, 120, 109, 108] _ (hpC (by decide) (hpC (by decide) (hpC (by decide) (hpC (by decide) (hpC (by decide) (hpC ⟨hc0, hc1⟩ (hpC (by decide) (hpC (by decide) (hpC (by decide) (hpC (by decide) (hpC (by decide) (hpC (by decide) (hpC (by decide) (hpC (by decide) (hpC (by decide) (hpC (by decide) (hpC (by decide) (hpC (by decide) hpN)))))))))))))))))) (show 18 ≤ 4000 by decide) (show 0 < 18 by decide)) (mk_M_si hw 18) (w_12 hw) (w_13 hw) rfl rfl rfl rfl (Wn := 1) rfl rfl (by decide) d_law_57 ?_
      rintro _ _ ⟨b_20, rfl, rfl⟩
      refine Wp.astore (L' := [.val (.int p0), .val (.int p1), .val (.int p2), .val (.int p3), .val (.int p4), .val (.int nn), .val (.int 5), .val (.int ch), .val (.int (p3 &&& 3)), .val (.ref a_1), .val (.ref a19), .unset, .val (.ref a_3), .unset]) rfl rfl d_law_60 ?_
      refine Wp.iload rfl d_law_62 ?_
      refine Wp.aload rfl rfl d_law_64 ?_
      refine Wp.iload rfl d_law_66 ?_
      refine Wp.caload 3 5 rfl (by decide) (by decide) rfl d_law_68 ?_
      by_cases b69_21 : ch = 45
      · refine Wp.icF (teq b69_21).2 d_law_69 ?_
        refine Wp.iconst lc_1 d_law_72 ?_
        refine Wp.goto d_law_73 ?_
        refine Wp.istore (L' := [.val (.int p0), .val (.int p1), .val (.int p2), .val (.int p3), .val (.int p4), .val (.int nn), .val (.int 5), .val (.int ch), .val (.int (p3 &&& 3)), .val (.ref a_1), .val (.ref a19), .val (.int 1), .val (.ref a_3), .unset]) rfl d_law_77 ?_
        refine Wp.goto d_law_79 ?_
        refine Wp.perm [0, 1, 4, 2, 3] 5 pp_0_1_4_2_3 (H' := [oStr true a19 (.ref b_20) (.int 0), eB b_20 [.int (by8 109), .int (by8 97), .int (by8 118), .int (by8 101), .int (by8 110), .int (by8 ch), .int (by8 109), .int (by8 101), .int (by8 116), .int (by8 97), .int (by8 100), .int (by8 97), .int (by8 116), .int (by8 97), .int (by8 46), .int (by8 120), .int (by8 109), .int (by8 108)], (de, false, .inr ((.object "java/lang/Object"), true, false, [])), eC a_3 [.int 109, .int 97, .int 118, .int 101, .int 110, .int ch, .int 109, .int 101, .int 116, .int 97, .int 100, .int 97, .int 116, .int 97, .int 46, .int 120, .int 109, .int 108], eC a_1 [.int 109, .int 97, .int 118, .int 101, .int 110, .int 45, .int 109, .int 101, .int 116, .int 97, .int 100, .int 97, .int 116, .int 97, .int 46, .int 120, .int 109, .int 108]]) rfl ?_
        refine Wp.less ((((((List.Sublist.refl _).cons _).cons _).cons_cons _).cons_cons _).cons_cons _) ?_
        refine Wp.room (c' := 8) (n' := 400) (by decide) (by decide) ?_
        exact lp_182 hw hk nn hnn p0 p1 p2 p3 p4 5 ch (p3 &&& 3) 1 a_1 a19 b_20 de true true true false [(by8 109), (by8 97), (by8 118), (by8 101), (by8 110), (by8 ch), (by8 109), (by8 101), (by8 116), (by8 97), (by8 100), (by8 97), (by8 116), (by8 97), (by8 46), (by8 120), (by8 109), (by8 108)] _ (One.val rfl) hde (show 18 < 2 ^ 31 by decide) (by rw [b69_21]; decide +kernel)
      · refine Wp.icT (feq b69_21).2 d_law_69 ?_
        refine Wp.iconst lc_0 d_law_76 ?_
        refine Wp.istore (L' := [.val (.int p0), .val (.int p1), .val (.int p2), .val (.int p3), .val (.int p4), .val (.int nn), .val (.int 5), .val (.int ch), .val (.int (p3 &&& 3)), .val (.ref a_1), .val (.ref a19), .val (.int 0), .val (.ref a_3), .unset]) rfl d_law_77 ?_
        refine Wp.goto d_law_79 ?_
        refine Wp.perm [0, 1, 4, 2, 3] 5 pp_0_1_4_2_3 (H' := [oStr true a19 (.ref b_20) (.int 0), eB b_20 [.int (by8 109), .int (by8 97), .int (by8 118), .int (by8 101), .int (by8 110), .int (by8 ch), .int (by8 109), .int (by8 101), .int (by8 116), .int (by8 97), .int (by8 100), .int (by8 97), .int (by8 116), .int (by8 97), .int (by8 46), .int (by8 120), .int (by8 109), .int (by8 108)], (de, false, .inr ((.object "java/lang/Object"), true, false, [])), eC a_3 [.int 109, .int 97, .int 118, .int 101, .int 110, .int ch, .int 109, .int 101, .int 116, .int 97, .int 100, .int 97, .int 116, .int 97, .int 46, .int 120, .int 109, .int 108], eC a_1 [.int 109, .int 97, .int 118, .int 101, .int 110, .int 45, .int 109, .int 101, .int 116, .int 97, .int 100, .int 97, .int 116, .int 97, .int 46, .int 120, .int 109, .int 108]]) rfl ?_
        refine Wp.less ((((((List.Sublist.refl _).cons _).cons _).cons_cons _).cons_cons _).cons_cons _) ?_
        refine Wp.room (c' := 8) (n' := 400) (by decide) (by decide) ?_
        exact lp_182 hw hk nn hnn p0 p1 p2 p3 p4 5 ch (p3 &&& 3) 0 a_1 a19 b_20 de true true true false [(by8 109), (by8 97), (by8 118), (by8 101), (by8 110), (by8 ch), (by8 109), (by8 101), (by8 116), (by8 97), (by8 100), (by8 97), (by8 116), (by8 97), (by8 46), (by8 120), (by8 109), (by8 108)] _ (One.val rfl) hde (show 18 < 2 ^ 31 by decide) (eqI_ne (fun q => b69_21 (by8_eq hc0 hc1 (Option.some.inj (show some (by8 ch) = some 45 from congrArg (fun l : List Int32 => l[5]?) q)) (by decide) (by decide)))).symm
    · refine Wp.aload rfl rfl d_law_44 ?_
      refine Wp.iload rfl d_law_46 ?_
      refine Wp.iload rfl d_law_48 ?_
      refine Wp.castore (z := ch) 0 6 rfl (by decide) (by decide) (show 6 < 18 by decide) (narC_id8 hc0 hc1) d_law_50 (H' := [eC a_3 [.int 109, .int 97, .int 118, .int 101, .int 110, .int 45, .int ch, .int 101, .int 116, .int 97, .int 100, .int 97, .int 116, .int 97, .int 46, .int 120, .int 109, .int 108], eC a_1 [.int 109, .int 97, .int 118, .int 101, .int 110, .int 45, .int 109, .int 101, .int 116, .int 97, .int 100, .int 97, .int 116, .int 97, .int 46, .int 120, .int 109, .int 108], (de, false, .inr ((.object "java/lang/Object"), true, false, []))]) rfl ?_
      refine Wp.newO nm_M0 (w_6 hw) (w_7 hw) (w_8 hw) (nf_oStr hw) (by decide) (by decide) d_law_51 (fun a22 => ?_)
      refine Wp.dup rfl d_law_54 ?_
      refine Wp.aload rfl rfl d_law_55 ?_
      refine Wp.callC nm_M0 (M' := M_si 18) (fun _ => rm_si hw.set a22 a_3 true true false [109, 97, 118, 101, 110, 45, ch, 101, 116, 97, 100, 97, 116, 97, 46, 120, 109, 108] _ (hpC (by decide) (hpC (by decide) (hpC (by decide) (hpC (by decide) (hpC (by decide) (hpC (by decide) (hpC ⟨hc0, hc1⟩ (hpC (by decide) (hpC (by decide) (hpC (by decide) (hpC (by decide) (hpC (by decide) (hpC (by decide) (hpC (by decide) (hpC (by decide) (hpC (by decide) (hpC (by decide) (hpC (by decide) hpN)))))))))))))))))) (show 18 ≤ 4000 by decide) (show 0 < 18 by decide)) (mk_M_si hw 18) (w_12 hw) (w_13 hw) rfl rfl rfl rfl (Wn := 1) rfl rfl (by decide) d_law_57 ?_
      rintro _ _ ⟨b_23, rfl, rfl⟩
      refine Wp.astore (L' := [.val (.int p0), .val (.int p1), .val (.int p2), .val (.int p3), .val (.int p4), .val (.int nn), .val (.int 6), .val (.int ch), .val (.int (p3 &&& 3)), .val (.ref a_1), .val (.ref a22), .unset, .val (.ref a_3), .unset]) rfl rfl d_law_60 ?_
      refine Wp.iload rfl d_law_62 ?_
      refine Wp.aload rfl rfl d_law_64 ?_
      refine Wp.iload rfl d_law_66 ?_
      refine Wp.caload 3 6 rfl (by decide) (by decide) rfl d_law_68 ?_
      by_cases b69_24 : ch = 109
      · refine Wp.icF (teq b69_24).2 d_law_69 ?_
        refine Wp.iconst lc_1 d_law_72 ?_
        refine Wp.goto d_law_73 ?_
        refine Wp.istore (L' := [.val (.int p0), .val (.int p1), .val (.int p2), .val (.int p3), .val (.int p4), .val (.int nn), .val (.int 6), .val (.int ch), .val (.int (p3 &&& 3)), .val (.ref a_1), .val (.ref a22), .val (.int 1), .val (.ref a_3), .unset]) rfl d_law_77 ?_
        refine Wp.goto d_law_79 ?_
        refine Wp.perm [0, 1, 4, 2, 3] 5 pp_0_1_4_2_3 (H' := [oStr true a22 (.ref b_23) (.int 0), eB b_23 [.int (by8 109), .int (by8 97), .int (by8 118), .int (by8 101), .int (by8 110), .int (by8 45), .int (by8 ch), .int (by8 101), .int (by8 116), .int (by8 97), .int (by8 100), .int (by8 97), .int (by8 116), .int (by8 97), .int (by8 46), .int (by8 120), .int (by8 109), .int (by8 108)], (de, false, .inr ((.object "java/lang/Object"), true, false, [])), eC a_3 [.int 109, .int 97, .int 118, .int 101, .int 110, .int 45, .int ch, .int 101, .int 116, .int 97, .int 100, .int 97, .int 116, .int 97, .int 46, .int 120, .int 109, .int 108], eC a_1 [.int 109, .int 97, .int 118, .int 101, .int 110, .int 45, .int 109, .int 101, .int 116, .int 97, .int 100, .int 97, .int 116, .int 97, .int 46, .int 120, .int 109, .int 108]]) rfl ?_
        refine Wp.less ((((((List.Sublist.refl _).cons _).cons _).cons_cons _).cons_cons _).cons_cons _) ?_
        refine Wp.room (c' := 8) (n' := 400) (by decide) (by decide) ?_
        exact lp_182 hw hk nn hnn p0 p1 p2 p3 p4 6 ch (p3 &&& 3) 1 a_1 a22 b_23 de true true true false [(by8 109), (by8 97), (by8 118), (by8 101), (by8 110), (by8 45), (by8 ch), (by8 101), (by8 116), (by8 97), (by8 100), (by8 97), (by8 116), (by8 97), (by8 46), (by8 120), (by8 109), (by8 108)] _ (One.val rfl) hde (show 18 < 2 ^ 31 by decide) (by rw [b69_24]; decide +kernel)
      · refine Wp.icT (feq b69_24).2 d_law_69 ?_
        refine Wp.iconst lc_0 d_law_76 ?_
        refine Wp.istore (L' := [.val (.int p0), .val (.int p1), .val (.int p2), .val (.int p3), .val (.int p4), .val (.int nn), .val (.int 6), .val (.int ch), .val (.int (p3 &&& 3)), .val (.ref a_1), .val (.ref a22), .val (.int 0), .val (.ref a_3), .unset]) rfl d_law_77 ?_
        refine Wp.goto d_law_79 ?_
        refine Wp.perm [0, 1, 4, 2, 3] 5 pp_0_1_4_2_3 (H' := [oStr true a22 (.ref b_23) (.int 0), eB b_23 [.int (by8 109), .int (by8 97), .int (by8 118), .int (by8 101), .int (by8 110), .int (by8 45), .int (by8 ch), .int (by8 101), .int (by8 116), .int (by8 97), .int (by8 100), .int (by8 97), .int (by8 116), .int (by8 97), .int (by8 46), .int (by8 120), .int (by8 109), .int (by8 108)], (de, false, .inr ((.object "java/lang/Object"), true, false, [])), eC a_3 [.int 109, .int 97, .int 118, .int 101, .int 110, .int 45, .int ch, .int 101, .int 116, .int 97, .int 100, .int 97, .int 116, .int 97, .int 46, .int 120, .int 109, .int 108], eC a_1 [.int 109, .int 97, .int 118, .int 101, .int 110, .int 45, .int 109, .int 101, .int 116, .int 97, .int 100, .int 97, .int 116, .int 97, .int 46, .int 120, .int 109, .int 108]]) rfl ?_
        refine Wp.less ((((((List.Sublist.refl _).cons _).cons _).cons_cons _).cons_cons _).cons_cons _) ?_
        refine Wp.room (c' := 8) (n' := 400) (by decide) (by decide) ?_
        exact lp_182 hw hk nn hnn p0 p1 p2 p3 p4 6 ch (p3 &&& 3) 0 a_1 a22 b_23 de true true true false [(by8 109), (by8 97), (by8 118), (by8 101), (by8 110), (by8 45), (by8 ch), (by8 101), (by8 116), (by8 97), (by8 100), (by8 97), (by8 116), (by8 97), (by8 46), (by8 120), (by8 109), (by8 108)] _ (One.val rfl) hde (show 18 < 2 ^ 31 by decide) (eqI_ne (fun q => b69_24 (by8_eq hc0 hc1 (Option.some.inj (show some (by8 ch) = some 109 from congrArg (fun l : List Int32 => l[6]?) q)) (by decide) (by decide)))).symm
    · refine Wp.aload rfl rfl d_law_44 ?_
      refine Wp.iload rfl d_law_46 ?_
      refine Wp.iload rfl d_law_48 ?_
      refine Wp.castore (z := ch) 0 7 rfl (by decide) (by decide) (show 7 < 18 by decide) (narC_id8 hc0 hc1) d_law_50 (H' := [eC a_3 [.int 109, .int 97, .int 118, .int 101, .int 110, .int 45, .int 109, .int ch, .int 116, .int 97, .int 100, .int 97, .int 116, .int 97, .int 46, .int 120, .int 109, .int 108], eC a_1 [.int 109, .int 97, .int 118, .int 101, .int 110, .int 45, .int 109, .int 101, .int 116, .int 97, .int 100, .int 97, .int 116, .int 97, .int 46, .int 120, .int 109, .int 108], (de, false, .inr ((.object "java/lang/Object"), true, false, []))]) rfl ?_
      refine Wp.newO nm_M0 (w_6 hw) (w_7 hw) (w_8 hw) (nf_oStr hw) (by decide) (by decide) d_law_51 (fun a25 => ?_)
      refine Wp.dup rfl d_law_54 ?_
      refine Wp.aload rfl rfl d_law_55 ?_
      refine Wp.callC nm_M0 (M' := M_si 18) (fun _ => rm_si hw.set a25 a_3 true true false [109, 97, 118, 101, 110, 45, 109, ch, 116, 97, 100, 97, 116, 97, 46, 120, 109, 108] _ (hpC (by decide) (hpC (by decide) (hpC (by decide) (hpC (by decide) (hpC (by decide) (hpC (by decide) (hpC (by decide) (hpC ⟨hc0, hc1⟩ (hpC (by decide) (hpC (by decide) (hpC (by decide) (hpC (by decide) (hpC (by decide) (hpC (by decide) (hpC (by decide) (hpC (by decide) (hpC (by decide) (hpC (by decide) hpN)))))))))))))))))) (show 18 ≤ 4000 by decide) (show 0 < 18 by decide)) (mk_M_si hw 18) (w_12 hw) (w_13 hw) rfl rfl rfl rfl (Wn := 1) rfl rfl (by decide) d_law_57 ?_
      rintro _ _ ⟨b_26, rfl, rfl⟩
      refine Wp.astore (L' := [.val (.int p0), .val (.int p1), .val (.int p2), .val (.int p3), .val (.int p4), .val (.int nn), .val (.int 7), .val (.int ch), .val (.int (p3 &&& 3)), .val (.ref a_1), .val (.ref a25), .unset, .val (.ref a_3), .unset]) rfl rfl d_law_60 ?_
      refine Wp.iload rfl d_law_62 ?_
      refine Wp.aload rfl rfl d_law_64 ?_
      refine Wp.iload rfl d_law_66 ?_
      refine Wp.caload 3 7 rfl (by decide) (by decide) rfl d_law_68 ?_
      by_cases b69_27 : ch = 101
      · refine Wp.icF (teq b69_27).2 d_law_69 ?_
        refine Wp.iconst lc_1 d_law_72 ?_
        refine Wp.goto d_law_73 ?_
        refine Wp.istore (L' := [.val (.int p0), .val (.int p1), .val (.int p2), .val (.int p3), .val (.int p4), .val (.int nn), .val (.int 7), .val (.int ch), .val (.int (p3 &&& 3)), .val (.ref a_1), .val (.ref a25), .val (.int 1), .val (.ref a_3), .unset]) rfl d_law_77 ?_
        refine Wp.goto d_law_79 ?_
        refine Wp.perm [0, 1, 4, 2, 3] 5 pp_0_1_4_2_3 (H' := [oStr true a25 (.ref b_26) (.int 0), eB b_26 [.int (by8 109), .int (by8 97), .int (by8 118), .int (by8 101), .int (by8 110), .int (by8 45), .int (by8 109), .int (by8 ch), .int (by8 116), .int (by8 97), .int (by8 100), .int (by8 97), .int (by8 116), .int (by8 97), .int (by8 46), .int (by8 120), .int (by8 109), .int (by8 108)], (de, false, .inr ((.object "java/lang/Object"), true, false, [])), eC a_3 [.int 109, .int 97, .int 118, .int 101, .int 110, .int 45, .int 109, .int ch, .int 116, .int 97, .int 100, .int 97, .int 116, .int 97, .int 46, .int 120, .int 109, .int 108], eC a_1 [.int 109, .int 97, .int 118, .int 101, .int 110, .int 45, .int 109, .int 101, .int 116, .int 97, .int 100, .int 97, .int 116, .int 97, .int 46, .int 120, .int 109, .int 108]]) rfl ?_
        refine Wp.less ((((((List.Sublist.refl _).cons _).cons _).cons_cons _).cons_cons _).cons_cons _) ?_
        refine Wp.room (c' := 8) (n' := 400) (by decide) (by decide) ?_
        exact lp_182 hw hk nn hnn p0 p1 p2 p3 p4 7 ch (p3 &&& 3) 1 a_1 a25 b_26 de true true true false [(by8 109), (by8 97), (by8 118), (by8 101), (by8 110), (by8 45), (by8 109), (by8 ch), (by8 116), (by8 97), (by8 100), (by8 97), (by8 116), (by8 97), (by8 46), (by8 120), (by8 109), (by8 108)] _ (One.val rfl) hde (show 18 < 2 ^ 31 by decide) (by rw [b69_27]; decide +kernel)
      · refine Wp.icT (feq b69_27).2 d_law_69 ?_
        refine Wp.iconst lc_0 d_law_76 ?_
        refine Wp.istore (L' := [.val (.int p0), .val (.int p1), .val (.int p2), .val (.int p3), .val (.int p4), .val (.int nn), .val (.int 7), .val (.int ch), .val (.int (p3 &&& 3)), .val (.ref a_1), .val (.ref a25), .val (.int 0), .val (.ref a_3), .unset]) rfl d_law_77 ?_
        refine Wp.goto d_law_79 ?_
        refine Wp.perm [0, 1, 4, 2, 3] 5 pp_0_1_4_2_3 (H' := [oStr true a25 (.ref b_26) (.int 0), eB b_26 [.int (by8 109), .int (by8 97), .int (by8 118), .int (by8 101), .int (by8 110), .int (by8 45), .int (by8 109), .int (by8 ch), .int (by8 116), .int (by8 97), .int (by8 100), .int (by8 97), .int (by8 116), .int (by8 97), .int (by8 46), .int (by8 120), .int (by8 109), .int (by8 108)], (de, false, .inr ((.object "java/lang/Object"), true, false, [])), eC a_3 [.int 109, .int 97, .int 118, .int 101, .int 110, .int 45, .int 109, .int ch, .int 116, .int 97, .int 100, .int 97, .int 116, .int 97, .int 46, .int 120, .int 109, .int 108], eC a_1 [.int 109, .int 97, .int 118, .int 101, .int 110, .int 45, .int 109, .int 101, .int 116, .int 97, .int 100, .int 97, .int 116, .int 97, .int 46, .int 120, .int 109, .int 108]]) rfl ?_
        refine Wp.less ((((((List.Sublist.refl _).cons _).cons _).cons_cons _).cons_cons _).cons_cons _) ?_
        refine Wp.room (c' := 8) (n' := 400) (by decide) (by decide) ?_
        exact lp_182 hw hk nn hnn p0 p1 p2 p3 p4 7 ch (p3 &&& 3) 0 a_1 a25 b_26 de true true true false [(by8 109), (by8 97), (by8 118), (by8 101), (by8 110), (by8 45), (by8 109), (by8 ch), (by8 116), (by8 97), (by8 100), (by8 97), (by8 116), (by8 97), (by8 46), (by8 120), (by8 109), (by8 108)] _ (One.val rfl) hde (show 18 < 2 ^ 31 by decide) (eqI_ne (fun q => b69_27 (by8_eq hc0 hc1 (Option.some.inj (show some (by8 ch) = some 101 from congrArg (fun l : List Int32 => l[7]?) q)) (by decide) (by decide)))).symm
    · refine Wp.aload rfl rfl d_law_44 ?_
      refine Wp.iload rfl d_law_46 ?_
      refine Wp.iload rfl d_law_48 ?_
      refine Wp.castore (z := ch) 0 8 rfl (by decide) (by decide) (show 8 < 18 by decide) (narC_id8 hc0 hc1) d_law_50 (H' := [eC a_3 [.int 109, .int 97, .int 118, .int 101, .int 110, .int 45, .int 109, .int 101, .int ch, .int 97, .int 100, .int 97, .int 116, .int 97, .int 46, .int 120, .int 109, .int 108], eC a_1 [.int 109, .int 97, .int 118, .int 101, .int 110, .int 45, .int 109, .int 101, .int 116, .int 97, .int 100, .int 97, .int 116, .int 97, .int 46, .int 120, .int 109, .int 108], (de, false, .inr ((.object "java/lang/Object"), true, false, []))]) rfl ?_
      refine Wp.newO nm_M0 (w_6 hw) (w_7 hw) (w_8 hw) (nf_oStr hw) (by decide) (by decide) d_law_51 (fun a28 => ?_)
      refine Wp.dup rfl d_law_54 ?_
      refine Wp.aload rfl rfl d_law_55 ?_
      refine Wp.callC nm_M0 (M' := M_si 18) (fun _ => rm_si hw.set a28 a_3 true true false [109, 97, 118, 101, 110, 45, 109, 101, ch, 97, 100, 97, 116, 97, 46, 120, 109, 108] _ (hpC (by decide) (hpC (by decide) (hpC (by decide) (hpC (by decide) (hpC (by decide) (hpC (by decide) (hpC (by decide) (hpC (by decide) (hpC ⟨hc0, hc1⟩ (hpC (by decide) (hpC (by decide) (hpC (by decide) (hpC (by decide) (hpC (by decide) (hpC (by decide) (hpC (by decide) (hpC (by decide) (hpC (by decide) hpN)))))))))))))))))) (show 18 ≤ 4000 by decide) (show 0 < 18 by decide)) (mk_M_si hw 18) (w_12 hw) (w_13 hw) rfl rfl rfl rfl (Wn := 1) rfl rfl (by decide) d_law_57 ?_
      rintro _ _ ⟨b_29, rfl, rfl⟩
      refine Wp.astore (L' := [.val (.int p0), .val (.int p1), .val (.int p2), .val (.int p3), .val (.int p4), .val (.int nn), .val (.int 8), .val (.int ch), .val (.int (p3 &&& 3)), .val (.ref a_1), .val (.ref a28), .unset, .val (.ref a_3), .unset]) rfl rfl d_law_60 ?_
      refine Wp.iload rfl d_law_62 ?_
      refine Wp.aload rfl rfl d_law_64 ?_
      refine Wp.iload rfl d_law_66 ?_
      refine Wp.caload 3 8 rfl (by decide) (by decide) rfl d_law_68 ?_
      by_cases b69_30 : ch = 116
      · refine Wp.icF (teq b69_30).2 d_law_69 ?_
        refine Wp.iconst lc_1 d_law_72 ?_
        refine Wp.goto d_law_73 ?_
        refine Wp.istore (L' := [.val (.int p0), .val (.int p1), .val (.int p2), .val (.int p3), .val (.int p4), .val (.int nn), .val (.int 8), .val (.int ch), .val (.int (p3 &&& 3)), .val (.ref a_1), .val (.ref a28), .val (.int 1), .val (.ref a_3), .unset]) rfl d_law_77 ?_
        refine Wp.goto d_law_79 ?_
        refine Wp.perm [0, 1, 4, 2, 3] 5 pp_0_1_4_2_3 (H' := [oStr true a28 (.ref b_29) (.int 0), eB b_29 [.int (by8 109), .int (by8 97), .int (by8 118), .int (by8 101), .int (by8 110), .int (by8 45), .int (by8 109), .int (by8 101), .int (by8 ch), .int (by8 97), .int (by8 100), .int (by8 97), .int (by8 116), .int (by8 97), .int (by8 46), .int (by8 120), .int (by8 109), .int (by8 108)], (de, false, .inr ((.object "java/lang/Object"), true, false, [])), eC a_3 [.int 109, .int 97, .int 118, .int 101, .int 110, .int 45, .int 109, .int 101, .int ch, .int 97, .int 100, .int 97, .int 116, .int 97, .int 46, .int 120, .int 109, .int 108], eC a_1 [.int 109, .int 97, .int 118, .int 101, .int 110, .int 45, .int 109, .int 101, .int 116, .int 97, .int 100, .int 97, .int 116, .int 97, .int 46, .int 120, .int 109, .int 108]]) rfl ?_
        refine Wp.less ((((((List.Sublist.refl _).cons _).cons _).cons_cons _).cons_cons _).cons_cons _) ?_
        refine Wp.room (c' := 8) (n' := 400) (by decide) (by decide) ?_
        exact lp_182 hw hk nn hnn p0 p1 p2 p3 p4 8 ch (p3 &&& 3) 1 a_1 a28 b_29 de true true true false [(by8 109), (by8 97), (by8 118), (by8 101), (by8 110), (by8 45), (by8 109), (by8 101), (by8 ch), (by8 97), (by8 100), (by8 97), (by8 116), (by8 97), (by8 46), (by8 120), (by8 109), (by8 108)] _ (One.val rfl) hde (show 18 < 2 ^ 31 by decide) (by rw [b69_30]; decide +kernel)
      · refine Wp.icT (feq b69_30).2 d_law_69 ?_
        refine Wp.iconst lc_0 d_law_76 ?_
        refine Wp.istore (L' := [.val (.int p0), .val (.int p1), .val (.int p2), .val (.int p3), .val (.int p4), .val (.int nn), .val (.int 8), .val (.int ch), .val (.int (p3 &&& 3)), .val (.ref a_1), .val (.ref a28), .val (.int 0), .val (.ref a_3), .unset]) rfl d_law_77 ?_
        refine Wp.goto d_law_79 ?_
        refine Wp.perm [0, 1, 4, 2, 3] 5 pp_0_1_4_2_3 (H' := [oStr true a28 (.ref b_29) (.int 0), eB b_29 [.int (by8 109), .int (by8 97), .int (by8 118), .int (by8 101), .int (by8 110), .int (by8 45), .int (by8 109), .int (by8 101), .int (by8 ch), .int (by8 97), .int (by8 100), .int (by8 97), .int (by8 116), .int (by8 97), .int (by8 46), .int (by8 120), .int (by8 109), .int (by8 108)], (de, false, .inr ((.object "java/lang/Object"), true, false, [])), eC a_3 [.int 109, .int 97, .int 118, .int 101, .int 110, .int 45, .int 109, .int 101, .int ch, .int 97, .int 100, .int 97, .int 116, .int 97, .int 46, .int 120, .int 109, .int 108], eC a_1 [.int 109, .int 97, .int 118, .int 101, .int 110, .int 45, .int 109, .int 101, .int 116, .int 97, .int 100, .int 97, .int 116, .int 97, .int 46, .int 120, .int 109, .int 108]]) rfl ?_
        refine Wp.less ((((((List.Sublist.refl _).cons _).cons _).cons_cons _).cons_cons _).cons_cons _) ?_
        refine Wp.room (c' := 8) (n' := 400) (by decide) (by decide) ?_
        exact lp_182 hw hk nn hnn p0 p1 p2 p3 p4 8 ch (p3 &&& 3) 0 a_1 a28 b_29 de true true true false [(by8 109), (by8 97), (by8 118), (by8 101), (by8 110), (by8 45), (by8 109), (by8 101), (by8 ch), (by8 97), (by8 100), (by8 97), (by8 116), (by8 97), (by8 46), (by8 120), (by8 109), (by8 108)] _ (One.val rfl) hde (show 18 < 2 ^ 31 by decide) (eqI_ne (fun q => b69_30 (by8_eq hc0 hc1 (Option.some.inj (show some (by8 ch) = some 116 from congrArg (fun l : List Int32 => l[8]?) q)) (by decide) (by decide)))).symm
    · refine Wp.aload rfl rfl d_law_44 ?_
      refine Wp.iload rfl d_law_46 ?_
      refine Wp.iload rfl d_law_48 ?_
      refine Wp.castore (z := ch) 0 9 rfl (by decide) (by decide) (show 9 < 18 by decide) (narC_id8 hc0 hc1) d_law_50 (H' := [eC a_3 [.int 109, .int 97, .int 118, .int 101, .int 110, .int 45, .int 109, .int 101, .int 116, .int ch, .int 100, .int 97, .int 116, .int 97, .int 46, .int 120, .int 109, .int 108], eC a_1 [.int 109, .int 97, .int 118, .int 101, .int 110, .int 45, .int 109, .int 101, .int 116, .int 97, .int 100, .int 97, .int 116, .int 97, .int 46, .int 120, .int 109, .int 108], (de, false, .inr ((.object "java/lang/Object"), true, false, []))]) rfl ?_
      refine Wp.newO nm_M0 (w_6 hw) (w_7 hw) (w_8 hw) (nf_oStr hw) (by decide) (by decide) d_law_51 (fun a31 => ?_)
      refine Wp.dup rfl d_law_54 ?_
      refine Wp.aload rfl rfl d_law_55 ?_
      refine Wp.callC nm_M0 (M' := M_si 18) (fun _ => rm_si hw.set a31 a_3 true true false [109, 97, 118, 101, 110, 45, 109, 101, 116, ch, 100, 97, 116, 97, 46, 120, 109, 108] _ (hpC (by decide) (hpC (by decide) (hpC (by decide) (hpC (by decide) (hpC (by decide) (hpC (by decide) (hpC (by decide) (hpC (by decide) (hpC (by decide) (hpC ⟨hc0, hc1⟩ (hpC (by decide) (hpC (by decide) (hpC (by decide) (hpC (by decide) (hpC (by decide) (hpC (by decide) (hpC (by decide) (hpC (by decide) hpN)))))))))))))))))) (show 18 ≤ 4000 by decide) (show 0 < 18 by decide)) (mk_M_si hw 18) (w_12 hw) (w_13 hw) rfl rfl rfl rfl (Wn := 1) rfl rfl (by decide) d_law_57 ?_
      rintro _ _ ⟨b_32, rfl, rfl⟩
      refine Wp.astore (L' := [.val (.int p0), .val (.int p1), .val (.int p2), .val (.int p3), .val (.int p4), .val (.int nn), .val (.int 9), .val (.int ch), .val (.int (p3 &&& 3)), .val (.ref a_1), .val (.ref a31), .unset, .val (.ref a_3), .unset]) rfl rfl d_law_60 ?_
      refine Wp.iload rfl d_law_62 ?_
      refine Wp.aload rfl rfl d_law_64 ?_
      refine Wp.iload rfl d_law_66 ?_
      refine Wp.caload 3 9 rfl (by decide) (by decide) rfl d_law_68 ?_
      by_cases b69_33 : ch = 97
      · refine Wp.icF (teq b69_33).2 d_law_69 ?_
        refine Wp.iconst lc_1 d_law_72 ?_
        refine Wp.goto d_law_73 ?_
        refine Wp.istore (L' := [.val (.int p0), .val (.int p1), .val (.int p2), .val (.int p3), .val (.int p4), .val (.int nn), .val (.int 9), .val (.int ch), .val (.int (p3 &&& 3)), .val (.ref a_1), .val (.ref a31), .val (.int 1), .val (.ref a_3), .unset]) rfl d_law_77 ?_
        refine Wp.goto d_law_79 ?_
        refine Wp.perm [0, 1, 4, 2, 3] 5 pp_0_1_4_2_3 (H' := [oStr true a31 (.ref b_32) (.int 0), eB b_32 [.int (by8 109), .int (by8 97), .int (by8 118), .int (by8 101), .int (by8 110), .int (by8 45), .int (by8 109), .int (by8 101), .int (by8 116), .int (by8 ch), .int (by8 100), .int (by8 97), .int (by8 116), .int (by8 97), .int (by8 46), .int (by8 120), .int (by8 109), .int (by8 108)], (de, false, .inr ((.object "java/lang/Object"), true, false, [])), eC a_3 [.int 109, .int 97, .int 118, .int 101, .int 110, .int 45, .int 109, .int 101, .int 116, .int ch, .int 100, .int 97, .int 116, .int 97, .int 46, .int 120, .int 109, .int 108], eC a_1 [.int 109, .int 97, .int 118, .int 101, .int 110, .int 45, .int 109, .int 101, .int 116, .int 97, .int 100, .int 97, .int 116, .int 97, .int 46, .int 120, .int 109, .int 108]]) rfl ?_
        refine Wp.less ((((((List.Sublist.refl _).cons _).cons _).cons_cons _).cons_cons _).cons_cons _) ?_
        refine Wp.room (c' := 8) (n' := 400) (by decide) (by decide) ?_
        exact lp_182 hw hk nn hnn p0 p1 p2 p3 p4 9 ch (p3 &&& 3) 1 a_1 a31 b_32 de true true true false [(by8 109), (by8 97), (by8 118), (by8 101), (by8 110), (by8 45), (by8 109), (by8 101), (by8 116), (by8 ch), (by8 100), (by8 97), (by8 116), (by8 97), (by8 46), (by8 120), (by8 109), (by8 108)] _ (One.val rfl) hde (show 18 < 2 ^ 31 by decide) (by rw [b69_33]; decide +kernel)
      · refine Wp.icT (feq b69_33).2 d_law_69 ?_
        refine Wp.iconst lc_0 d_law_76 ?_
        refine Wp.istore (L' := [.val (.int p0), .val (.int p1), .val (.int p2), .val (.int p3), .val (.int p4), .val (.int nn), .val (.int 9), .val (.int ch), .val (.int (p3 &&& 3)), .val (.ref a_1), .val (.ref a31), .val (.int 0), .val (.ref a_3), .unset]) rfl d_law_77 ?_
        refine Wp.goto d_law_79 ?_
        refine Wp.perm [0, 1, 4, 2, 3] 5 pp_0_1_4_2_3 (H' := [oStr true a31 (.ref b_32) (.int 0), eB b_32 [.int (by8 109), .int (by8 97), .int (by8 118), .int (by8 101), .int (by8 110), .int (by8 45), .int (by8 109), .int (by8 101), .int (by8 116), .int (by8 ch), .int (by8 100), .int (by8 97), .int (by8 116), .int (by8 97), .int (by8 46), .int (by8 120), .int (by8 109), .int (by8 108)], (de, false, .inr ((.object "java/lang/Object"), true, false, [])), eC a_3 [.int 109, .int 97, .int 118, .int 101, .int 110, .int 45, .int 109, .int 101, .int 116, .int ch, .int 100, .int 97, .int 116, .int 97, .int 46, .int 120, .int 109, .int 108], eC a_1 [.int 109, .int 97, .int 118, .int 101, .int 110, .int 45, .int 109, .int 101, .int 116, .int 97, .int 100, .int 97, .int 116, .int 97, .int 46, .int 120, .int 109, .int 108]]) rfl ?_
        refine Wp.less ((((((List.Sublist.refl _).cons _).cons _).cons_cons _).cons_cons _).cons_cons _) ?_
        refine Wp.room (c' := 8) (n' := 400) (by decide) (by decide) ?_
        exact lp_182 hw hk nn hnn p0 p1 p2 p3 p4 9 ch (p3 &&& 3) 0 a_1 a31 b_32 de true true true false [(by8 109), (by8 97), (by8 118), (by8 101), (by8 110), (by8 45), (by8 109), (by8 101), (by8 116), (by8 ch), (by8 100), (by8 97), (by8 116), (by8 97), (by8 46), (by8 120), (by8 109), (by8 108)] _ (One.val rfl) hde (show 18 < 2 ^ 31 by decide) (eqI_ne (fun q => b69_33 (by8_eq hc0 hc1 (Option.some.inj (show some (by8 ch) = some 97 from congrArg (fun l : List Int32 => l[9]?) q)) (by decide) (by decide)))).symm
    · refine Wp.aload rfl rfl d_law_44 ?_
      refine Wp.iload rfl d_law_46 ?_
      refine Wp.iload rfl d_law_48 ?_
      refine Wp.castore (z := ch) 0 10 rfl (by decide) (by decide) (show 10 < 18 by decide) (narC_id8 hc0 hc1) d_law_50 (H' := [eC a_3 [.int 109, .int 97, .int 118, .int 101, .int 110, .int 45, .int 109, .int 101, .int 116, .int 97, .int ch, .int 97, .int 116, .int 97, .int 46, .int 120, .int 109, .int 108], eC a_1 [.int 109, .int 97, .int 118, .int 101, .int 110, .int 45, .int 109, .int 101, .int 116, .int 97, .int 100, .int 97, .int 116, .int 97, .int 46, .int 120, .int 109, .int 108], (de, false, .inr ((.object "java/lang/Object"), true, false, []))]) rfl ?_
      refine Wp.newO nm_M0 (w_6 hw) (w_7 hw) (w_8 hw) (nf_oStr hw) (by decide) (by decide) d_law_51 (fun a34 => ?_)
      refine Wp.dup rfl d_law_54 ?_
      refine Wp.aload rfl rfl d_law_55 ?_
      refine Wp.callC nm_M0 (M' := M_si 18) (fun _ => rm_si hw.set a34 a_3 true true false [109, 97, 118, 101, 110, 45, 109, 101, 116, 97, ch, 97, 116, 97, 46, 120, 109, 108] _ (hpC (by decide) (hpC (by decide) (hpC (by decide) (hpC (by decide) (hpC (by decide) (hpC (by decide) (hpC (by decide) (hpC (by decide) (hpC (by decide) (hpC (by decide) (hpC ⟨hc0, hc1⟩ (hpC (by decide) (hpC (by decide) (hpC (by decide) (hpC (by decide) (hpC (by decide) (hpC (by decide) (hpC (by decide) hpN)))))))))))))))))) (show 18 ≤ 4000 by decide) (show 0 < 18 by decide)) (mk_M_si hw 18) (w_12 hw) (w_13 hw) rfl rfl rfl rfl (Wn := 1) rfl rfl (by decide) d_law_57 ?_
      rintro _ _ ⟨b_35, rfl, rfl⟩
      refine Wp.astore (L' := [.val (.int p0), .val (.int p1), .val (.int p2), .val (.int p3), .val (.int p4), .val (.int nn), .val (.int 10), .val (.int ch), .val (.int (p3 &&& 3)), .val (.ref a_1), .val (.ref a34), .unset, .val (.ref a_3), .unset]) rfl rfl d_law_60 ?_
      refine Wp.iload rfl d_law_62 ?_
      refine Wp.aload rfl rfl d_law_64 ?_
      refine Wp.iload rfl d_law_66 ?_
      refine Wp.caload 3 10 rfl (by decide) (by decide) rfl d_law_68 ?_
      by_cases b69_36 : ch = 100
      · refine Wp.icF (teq b69_36).2 d_law_69 ?_
        refine Wp.iconst lc_1 d_law_72 ?_
        refine Wp.goto d_law_73 ?_
        refine Wp.istore (L' := [.val (.int p0), .val (.int p1), .val (.int p2), .val (.int p3), .val (.int p4), .val (.int nn), .val (.int 10), .val (.int ch), .val (.int (p3 &&& 3)), .val (.ref a_1), .val (.ref a34), .val (.int 1), .val (.ref a_3), .unset]) rfl d_law_77 ?_
        refine Wp.goto d_law_79 ?_
        refine Wp.perm [0, 1, 4, 2, 3] 5 pp_0_1_4_2_3 (H' := [oStr true a34 (.ref b_35) (.int 0), eB b_35 [.int (by8 109), .int (by8 97), .int (by8 118), .int (by8 101), .int (by8 110), .int (by8 45), .int (by8 109), .int (by8 101), .int (by8 116), .int (by8 97), .int (by8 ch), .int (by8 97), .int (by8 116), .int (by8 97), .int (by8 46), .int (by8 120), .int (by8 109), .int (by8 108)], (de, false, .inr ((.object "java/lang/Object"), true, false, [])), eC a_3 [.int 109, .int 97, .int 118, .int 101, .int 110, .int 45, .int 109, .int 101, .int 116, .int 97, .int ch, .int 97, .int 116, .int 97, .int 46, .int 120, .int 109, .int 108], eC a_1 [.int 109, .int 97, .int 118, .int 101, .int 110, .int 45, .int 109, .int 101, .int 116, .int 97, .int 100, .int 97, .int 116, .int 97, .int 46, .int 120, .int 109, .int 108]]) rfl ?_
        refine Wp.less ((((((List.Sublist.refl _).cons _).cons _).cons_cons _).cons_cons _).cons_cons _) ?_
        refine Wp.room (c' := 8) (n' := 400) (by decide) (by decide) ?_
        exact lp_182 hw hk nn hnn p0 p1 p2 p3 p4 10 ch (p3 &&& 3) 1 a_1 a34 b_35 de true true true false [(by8 109), (by8 97), (by8 118), (by8 101), (by8 110), (by8 45), (by8 109), (by8 101), (by8 116), (by8 97), (by8 ch), (by8 97), (by8 116), (by8 97), (by8 46), (by8 120), (by8 109), (by8 108)] _ (One.val rfl) hde (show 18 < 2 ^ 31 by decide) (by rw [b69_36]; decide +kernel)
      · refine Wp.icT (feq b69_36).2 d_law_69 ?_
        refine Wp.iconst lc_0 d_law_76 ?_
        refine Wp.istore (L' := [.val (.int p0), .val (.int p1), .val (.int p2), .val (.int p3), .val (.int p4), .val (.int nn), .val (.int 10), .val (.int ch), .val (.int (p3 &&& 3)), .val (.ref a_1), .val (.ref a34), .val (.int 0), .val (.ref a_3), .unset]) rfl d_law_77 ?_
        refine Wp.goto d_law_79 ?_
        refine Wp.perm [0, 1, 4, 2, 3] 5 pp_0_1_4_2_3 (H' := [oStr true a34 (.ref b_35) (.int 0), eB b_35 [.int (by8 109), .int (by8 97), .int (by8 118), .int (by8 101), .int (by8 110), .int (by8 45), .int (by8 109), .int (by8 101), .int (by8 116), .int (by8 97), .int (by8 ch), .int (by8 97), .int (by8 116), .int (by8 97), .int (by8 46), .int (by8 120), .int (by8 109), .int (by8 108)], (de, false, .inr ((.object "java/lang/Object"), true, false, [])), eC a_3 [.int 109, .int 97, .int 118, .int 101, .int 110, .int 45, .int 109, .int 101, .int 116, .int 97, .int ch, .int 97, .int 116, .int 97, .int 46, .int 120, .int 109, .int 108], eC a_1 [.int 109, .int 97, .int 118, .int 101, .int 110, .int 45, .int 109, .int 101, .int 116, .int 97, .int 100, .int 97, .int 116, .int 97, .int 46, .int 120, .int 109, .int 108]]) rfl ?_
        refine Wp.less ((((((List.Sublist.refl _).cons _).cons _).cons_cons _).cons_cons _).cons_cons _) ?_
        refine Wp.room (c' := 8) (n' := 400) (by decide) (by decide) ?_
        exact lp_182 hw hk nn hnn p0 p1 p2 p3 p4 10 ch (p3 &&& 3) 0 a_1 a34 b_35 de true true true false [(by8 109), (by8 97), (by8 118), (by8 101), (by8 110), (by8 45), (by8 109), (by8 101), (by8 116), (by8 97), (by8 ch), (by8 97), (by8 116), (by8 97), (by8 46), (by8 120), (by8 109), (by8 108)] _ (One.val rfl) hde (show 18 < 2 ^ 31 by decide) (eqI_ne (fun q => b69_36 (by8_eq hc0 hc1 (Option.some.inj (show some (by8 ch) = some 100 from congrArg (fun l : List Int32 => l[10]?) q)) (by decide) (by decide)))).symm
    · refine Wp.aload rfl rfl d_law_44 ?_
      refine Wp.iload rfl d_law_46 ?_
      refine Wp.iload rfl d_law_48 ?_
      refine Wp.castore (z := ch) 0 11 rfl (by decide) (by decide) (show 11 < 18 by decide) (narC_id8 hc0 hc1) d_law_50 (H' := [eC a_3 [.int 109, .int 97, .int 118, .int 101, .int 110, .int 45, .int 109, .int 101, .int 116, .int 97, .int 100, .int ch, .int 116, .int 97, .int 46, .int 120, .int 109, .int 108], eC a_1 [.int 109, .int 97, .int 118, .int 101, .int 110, .int 45, .int 109, .int 101, .int 116, .int 97, .int 100, .int 97, .int 116, .int 97, .int 46, .int 120, .int 109, .int 108], (de, false, .inr ((.object "java/lang/Object"), true, false, []))]) rfl ?_
      refine Wp.newO nm_M0 (w_6 hw) (w_7 hw) (w_8 hw) (nf_oStr hw) (by decide) (by decide) d_law_51 (fun a37 => ?_)
      refine Wp.dup rfl d_law_54 ?_
      refine Wp.aload rfl rfl d_law_55 ?_
      refine Wp.callC nm_M0 (M' := M_si 18) (fun _ => rm_si hw.set a37 a_3 true true false [109, 97, 118, 101, 110, 45, 109, 101, 116, 97, 100, ch, 116, 97, 46, 120, 109, 108] _ (hpC (by decide) (hpC (by decide) (hpC (by decide) (hpC (by decide) (hpC (by decide) (hpC (by decide) (hpC (by decide) (hpC (by decide) (hpC (by decide) (hpC (by decide) (hpC (by decide) (hpC ⟨hc0, hc1⟩ (hpC (by decide) (hpC (by decide) (hpC (by decide) (hpC (by decide) (hpC (by decide) (hpC (by decide) hpN)))))))))))))))))) (show 18 ≤ 4000 by decide) (show 0 < 18 by decide)) (mk_M_si hw 18) (w_12 hw) (w_13 hw) rfl rfl rfl rfl (Wn := 1) rfl rfl (by decide) d_law_57 ?_
      rintro _ _ ⟨b_38, rfl, rfl⟩
      refine Wp.astore (L' := [.val (.int p0), .val (.int p1), .val (.int p2), .val (.int p3), .val (.int p4), .val (.int nn), .val (.int 11), .val (.int ch), .val (.int (p3 &&& 3)), .val (.ref a_1), .val (.ref a37), .unset, .val (.ref a_3), .unset]) rfl rfl d_law_60 ?_
      refine Wp.iload rfl d_law_62 ?_
      refine Wp.aload rfl rfl d_law_64 ?_
      refine Wp.iload rfl d_law_66 ?_
      refine Wp.caload 3 11 rfl (by decide) (by decide) rfl d_law_68 ?_
      by_cases b69_39 : ch = 97
      · refine Wp.icF (teq b69_39).2 d_law_69 ?_
        refine Wp.iconst lc_1 d_law_72 ?_
        refine Wp.goto d_law_73 ?_
        refine Wp.istore (L' := [.val (.int p0), .val (.int p1), .val (.int p2), .val (.int p3), .val (.int p4), .val (.int nn), .val (.int 11), .val (.int ch), .val (.int (p3 &&& 3)), .val (.ref a_1), .val (.ref a37), .val (.int 1), .val (.ref a_3), .unset]) rfl d_law_77 ?_
        refine Wp.goto d_law_79 ?_
        refine Wp.perm [0, 1, 4, 2, 3] 5 pp_0_1_4_2_3 (H' := [oStr true a37 (.ref b_38) (.int 0), eB b_38 [.int (by8 109), .int (by8 97), .int (by8 118), .int (by8 101), .int (by8 110), .int (by8 45), .int (by8 109), .int (by8 101), .int (by8 116), .int (by8 97), .int (by8 100), .int (by8 ch), .int (by8 116), .int (by8 97), .int (by8 46), .int (by8 120), .int (by8 109), .int (by8 108)], (de, false, .inr ((.object "java/lang/Object"), true, false, [])), eC a_3 [.int 109, .int 97, .int 118, .int 101, .int 110, .int 45, .int 109, .int 101, .int 116, .int 97, .int 100, .int ch, .int 116, .int 97, .int 46, .int 120, .int 109, .int 108], eC a_1 [.int 109, .int 97, .int 118, .int 101, .int 110, .int 45, .int 109, .int 101, .int 116, .int 97, .int 100, .int 97, .int 116, .int 97, .int 46, .int 120, .int 109, .int 108]]) rfl ?_
        refine Wp.less ((((((List.Sublist.refl _).cons _).cons _).cons_cons _).cons_cons _).cons_cons _) ?_
        refine Wp.room (c' := 8) (n' := 400) (by decide) (by decide) ?_
        exact lp_182 hw hk nn hnn p0 p1 p2 p3 p4 11 ch (p3 &&& 3) 1 a_1 a37 b_38 de true true true false [(by8 109), (by8 97), (by8 118), (by8 101), (by8 110), (by8 45), (by8 109), (by8 101), (by8 116), (by8 97), (by8 100), (by8 ch), (by8 116), (by8 97), (by8 46), (by8 120), (by8 109), (by8 108)] _ (One.val rfl) hde (show 18 < 2 ^ 31 by decide) (by rw [b69_39]; decide +kernel)
      · refine Wp.icT (feq b69_39).2 d_law_69 ?_
        refine Wp.iconst lc_0 d_law_76 ?_
        refine Wp.istore (L' := [.val (.int p0), .val (.int p1), .val (.int p2), .val (.int p3), .val (.int p4), .val (.int nn), .val (.int 11), .val (.int ch), .val (.int (p3 &&& 3)), .val (.ref a_1), .val (.ref a37), .val (.int 0), .val (.ref a_3), .unset]) rfl d_law_77 ?_
        refine Wp.goto d_law_79 ?_
        refine Wp.perm [0, 1, 4, 2, 3] 5 pp_0_1_4_2_3 (H' := [oStr true a37 (.ref b_38) (.int 0), eB b_38 [.int (by8 109), .int (by8 97), .int (by8 118), .int (by8 101), .int (by8 110), .int (by8 45), .int (by8 109), .int (by8 101), .int (by8 116), .int (by8 97), .int (by8 100), .int (by8 ch), .int (by8 116), .int (by8 97), .int (by8 46), .int (by8 120), .int (by8 109), .int (by8 108)], (de, false, .inr ((.object "java/lang/Object"), true, false, [])), eC a_3 [.int 109, .int 97, .int 118, .int 101, .int 110, .int 45, .int 109, .int 101, .int 116, .int 97, .int 100, .int ch, .int 116, .int 97, .int 46, .int 120, .int 109, .int 108], eC a_1 [.int 109, .int 97, .int 118, .int 101, .int 110, .int 45, .int 109, .int 101, .int 116, .int 97, .int 100, .int 97, .int 116, .int 97, .int 46, .int 120, .int 109, .int 108]]) rfl ?_
        refine Wp.less ((((((List.Sublist.refl _).cons _).cons _).cons_cons _).cons_cons _).cons_cons _) ?_
        refine Wp.room (c' := 8) (n' := 400) (by decide) (by decide) ?_
        exact lp_182 hw hk nn hnn p0 p1 p2 p3 p4 11 ch (p3 &&& 3) 0 a_1 a37 b_38 de true true true false [(by8 109), (by8 97), (by8 118), (by8 101), (by8 110), (by8 45), (by8 109), (by8 101), (by8 116), (by8 97), (by8 100), (by8 ch), (by8 116), (by8 97), (by8 46), (by8 120), (by8 109), (by8 108)] _ (One.val rfl) hde (show 18 < 2 ^ 31 by decide) (eqI_ne (fun q => b69_39 (by8_eq hc0 hc1 (Option.some.inj (show some (by8 ch) = some 97 from congrArg (fun l : List Int32 => l[11]?) q)) (by decide) (by decide)))).symm
    · refine Wp.aload rfl rfl d_law_44 ?_
      refine Wp.iload rfl d_law_46 ?_
      refine Wp.iload rfl d_law_48 ?_
      refine Wp.castore (z := ch) 0 12 rfl (by decide) (by decide) (show 12 < 18 by decide) (narC_id8 hc0 hc1) d_law_50 (H' := [eC a_3 [.int 109, .int 97, .int 118, .int 101, .int 110, .int 45, .int 109, .int 101, .int 116, .int 97, .int 100, .int 97, .int ch, .int 97, .int 46, .int 120, .int 109, .int 108], eC a_1 [.int 109, .int 97, .int 118, .int 101, .int 110, .int 45, .int 109, .int 101, .int 116, .int 97, .int 100, .int 97, .int 116, .int 97, .int 46, .int 120, .int 109, .int 108], (de, false, .inr ((.object "java/lang/Object"), true, false, []))]) rfl ?_
      refine Wp.newO nm_M0 (w_6 hw) (w_7 hw) (w_8 hw) (nf_oStr hw) (by decide) (by decide) d_law_51 (fun a40 => ?_)
      refine Wp.dup rfl d_law_54 ?_
      refine Wp.aload rfl rfl d_law_55 ?_
      refine Wp.callC nm_M0 (M' := M_si 18) (fun _ => rm_si hw.set a40 a_3 true true false [109, 97, 118, 101, 110, 45, 109, 101, 116, 97, 100, 97, ch, 97, 46, 120, 109, 108] _ (hpC (by decide) (hpC (by decide) (hpC (by decide) (hpC (by decide) (hpC (by decide) (hpC (by decide) (hpC (by decide) (hpC (by decide) (hpC (by decide) (hpC (by decide) (hpC (by decide) (hpC (by decide) (hpC ⟨hc0, hc1⟩ (hpC (by decide) (hpC (by decide) (hpC (by decide) (hpC (by decide) (hpC (by decide) hpN)))))))))))))))))) (show 18 ≤ 4000 by decide) (show 0 < 18 by decide)) (mk_M_si hw 18) (w_12 hw) (w_13 hw) rfl rfl rfl rfl (Wn := 1) rfl rfl (by decide) d_law_57 ?_
      rintro _ _ ⟨b_41, rfl, rfl⟩
      refine Wp.astore (L' := [.val (.int p0), .val (.int p1), .val (.int p2), .val (.int p3), .val (.int p4), .val (.int nn), .val (.int 12), .val (.int ch), .val (.int (p3 &&& 3)), .val (.ref a_1), .val (.ref a40), .unset, .val (.ref a_3), .unset]) rfl rfl d_law_60 ?_
      refine Wp.iload rfl d_law_62 ?_
      refine Wp.aload rfl rfl d_law_64 ?_
      refine Wp.iload rfl d_law_66 ?_
      refine Wp.caload 3 12 rfl (by decide) (by decide) rfl d_law_68 ?_
      by_cases b69_42 : ch = 116
      · refine Wp.icF (teq b69_42).2 d_law_69 ?_
        refine Wp.iconst lc_1 d_law_72 ?_
        refine Wp.goto d_law_73 ?_
        refine Wp.istore (L' := [.val (.int p0), .val (.int p1), .val (.int p2), .val (.int p3), .val (.int p4), .val (.int nn), .val (.int 12), .val (.int ch), .val (.int (p3 &&& 3)), .val (.ref a_1), .val (.ref a40), .val (.int 1), .val (.ref a_3), .unset]) rfl d_law_77 ?_
        refine Wp.goto d_law_79 ?_
        refine Wp.perm [0, 1, 4, 2, 3] 5 pp_0_1_4_2_3 (H' := [oStr true a40 (.ref b_41) (.int 0), eB b_41 [.int (by8 109), .int (by8 97), .int (by8 118), .int (by8 101), .int (by8 110), .int (by8 45), .int (by8 109), .int (by8 101), .int (by8 116), .int (by8 97), .int (by8 100), .int (by8 97), .int (by8 ch), .int (by8 97), .int (by8 46), .int (by8 120), .int (by8 109), .int (by8 108)], (de, false, .inr ((.object "java/lang/Object"), true, false, [])), eC a_3 [.int 109, .int 97, .int 118, .int 101, .int 110, .int 45, .int 109, .int 101, .int 116, .int 97, .int 100, .int 97, .int ch, .int 97, .int 46, .int 120, .int 109, .int 108], eC a_1 [.int 109, .int 97, .int 118, .int 101, .int 110, .int 45, .int 109, .int 101, .int 116, .int 97, .int 100, .int 97, .int 116, .int 97, .int 46, .int 120, .int 109, .int 108]]) rfl ?_
        refine Wp.less ((((((List.Sublist.refl _).cons _).cons _).cons_cons _).cons_cons _).cons_cons _) ?_
        refine Wp.room (c' := 8) (n' := 400) (by decide) (by decide) ?_
        exact lp_182 hw hk nn hnn p0 p1 p2 p3 p4 12 ch (p3 &&& 3) 1 a_1 a40 b_41 de true true true false [(by8 109), (by8 97), (by8 118), (by8 101), (by8 110), (by8 45), (by8 109), (by8 101), (by8 116), (by8 97), (by8 100), (by8 97), (by8 ch), (by8 97), (by8 46), (by8 120), (by8 109), (by8 108)] _ (One.val rfl) hde (show 18 < 2 ^ 31 by decide) (by rw [b69_42]; decide +kernel)
      · refine Wp.icT (feq b69_42).2 d_law_69 ?_
        refine Wp.iconst lc_0 d_law_76 ?_
        refine Wp.istore (L' := [.val (.int p0), .val (.int p1), .val (.int p2), .val (.int p3), .val (.int p4), .val (.int nn), .val (.int 12), .val (.int ch), .val (.int (p3 &&& 3)), .val (.ref a_1), .val (.ref a40), .val (.int 0), .val (.ref a_3), .unset]) rfl d_law_77 ?_
        refine Wp.goto d_law_79 ?_
        refine Wp.perm [0, 1, 4, 2, 3] 5 pp_0_1_4_2_3 (H' := [oStr true a40 (.ref b_41) (.int 0), eB b_41 [.int (by8 109), .int (by8 97), .int (by8 118), .int (by8 101), .int (by8 110), .int (by8 45), .int (by8 109), .int (by8 101), .int (by8 116), .int (by8 97), .int (by8 100), .int (by8 97), .int (by8 ch), .int (by8 97), .int (by8 46), .int (by8 120), .int (by8 109), .int (by8 108)], (de, false, .inr ((.object "java/lang/Object"), true, false, [])), eC a_3 [.int 109, .int 97, .int 118, .int 101, .int 110, .int 45, .int 109, .int 101, .int 116, .int 97, .int 100, .int 97, .int ch, .int 97, .int 46, .int 120, .int 109, .int 108], eC a_1 [.int 109, .int 97, .int 118, .int 101, .int 110, .int 45, .int 109, .int 101, .int 116, .int 97, .int 100, .int 97, .int 116, .int 97, .int 46, .int 120, .int 109, .int 108]]) rfl ?_
        refine Wp.less ((((((List.Sublist.refl _).cons _).cons _).cons_cons _).cons_cons _).cons_cons _) ?_
        refine Wp.room (c' := 8) (n' := 400) (by decide) (by decide) ?_
        exact lp_182 hw hk nn hnn p0 p1 p2 p3 p4 12 ch (p3 &&& 3) 0 a_1 a40 b_41 de true true true false [(by8 109), (by8 97), (by8 118), (by8 101), (by8 110), (by8 45), (by8 109), (by8 101), (by8 116), (by8 97), (by8 100), (by8 97), (by8 ch), (by8 97), (by8 46), (by8 120), (by8 109), (by8 108)] _ (One.val rfl) hde (show 18 < 2 ^ 31 by decide) (eqI_ne (fun q => b69_42 (by8_eq hc0 hc1 (Option.some.inj (show some (by8 ch) = some 116 from congrArg (fun l : List Int32 => l[12]?) q)) (by decide) (by decide)))).symm
    · refine Wp.aload rfl rfl d_law_44 ?_
      refine Wp.iload rfl d_law_46 ?_
      refine Wp.iload rfl d_law_48 ?_
      refine Wp.castore (z := ch) 0 13 rfl (by decide) (by decide) (show 13 < 18 by decide) (narC_id8 hc0 hc1) d_law_50 (H' := [eC a_3 [.int 109, .int 97, .int 118, .int 101, .int 110, .int 45, .int 109, .int 101, .int 116, .int 97, .int 100, .int 97, .int 116, .int ch, .int 46, .int 120, .int 109, .int 108], eC a_1 [.int 109, .int 97, .int 118, .int 101, .int 110, .int 45, .int 109, .int 101, .int 116, .int 97, .int 100, .int 97, .int 116, .int 97, .int 46, .int 120, .int 109, .int 108], (de, false, .inr ((.object "java/lang/Object"), true, false, []))]) rfl ?_
      refine Wp.newO nm_M0 (w_6 hw) (w_7 hw) (w_8 hw) (nf_oStr hw) (by decide) (by decide) d_law_51 (fun a43 => ?_)
      refine Wp.dup rfl d_law_54 ?_
      refine Wp.aload rfl rfl d_law_55 ?_
      refine Wp.callC nm_M0 (M' := M_si 18) (fun _ => rm_si hw.set a43 a_3 true true false [109, 97, 118, 101, 110, 45, 109, 101, 116, 97, 100, 97, 116, ch, 46, 120, 109, 108] _ (hpC (by decide) (hpC (by decide) (hpC (by decide) (hpC (by decide) (hpC (by decide) (hpC (by decide) (hpC (by decide) (hpC (by decide) (hpC (by decide) (hpC (by decide) (hpC (by decide) (hpC (by decide) (hpC (by decide) (hpC ⟨hc0, hc1⟩ (hpC (by decide) (hpC (by decide) (hpC (by decide) (hpC (by decide) hpN)))))))))))))))))) (show 18 ≤ 4000 by decide) (show 0 < 18 by decide)) (mk_M_si hw 18) (w_12 hw) (w_13 hw) rfl rfl rfl rfl (Wn := 1) rfl rfl (by decide) d_law_57 ?_
      rintro _ _ ⟨b_44, rfl, rfl⟩
      refine Wp.astore (L' := [.val (.int p0), .val (.int p1), .val (.int p2), .val (.int p3), .val (.int p4), .val (.int nn), .val (.int 13), .val (.int ch), .val (.int (p3 &&& 3)), .val (.ref a_1), .val (.ref a43), .unset, .val (.ref a_3), .unset]) rfl rfl d_law_60 ?_
      refine Wp.iload rfl d_law_62 ?_
      refine Wp.aload rfl rfl d_law_64 ?_
      refine Wp.iload rfl d_law_66 ?_
      refine Wp.caload 3 13 rfl (by decide) (by decide) rfl d_law_68 ?_
      by_cases b69_45 : ch = 97
      · refine Wp.icF (teq b69_45).2 d_law_69 ?_
        refine Wp.iconst lc_1 d_law_72 ?_
        refine Wp.goto d_law_73 ?_
        refine Wp.istore (L' := [.val (.int p0), .val (.int p1), .val (.int p2), .val (.int p3), .val (.int p4), .val (.int nn), .val (.int 13), .val (.int ch), .val (.int (p3 &&& 3)), .val (.ref a_1), .val (.ref a43), .val (.int 1), .val (.ref a_3), .unset]) rfl d_law_77 ?_
        refine Wp.goto d_law_79 ?_
        refine Wp.perm [0, 1, 4, 2, 3] 5 pp_0_1_4_2_3 (H' := [oStr true a43 (.ref b_44) (.int 0), eB b_44 [.int (by8 109), .int (by8 97), .int (by8 118), .int (by8 101), .int (by8 110), .int (by8 45), .int (by8 109), .int (by8 101), .int (by8 116), .int (by8 97), .int (by8 100), .int (by8 97), .int (by8 116), .int (by8 ch), .int (by8 46), .int (by8 120), .int (by8 109), .int (by8 108)], (de, false, .inr ((.object "java/lang/Object"), true, false, [])), eC a_3 [.int 109, .int 97, .int 118, .int 101, .int 110, .int 45, .int 109, .int 101, .int 116, .int 97, .int 100, .int 97, .int 116, .int ch, .int 46, .int 120, .int 109, .int 108], eC a_1 [.int 109, .int 97, .int 118, .int 101, .int 110, .int 45, .int 109, .int 101, .int 116, .int 97, .int 100, .int 97, .int 116, .int 97, .int 46, .int 120, .int 109, .int 108]]) rfl ?_
        refine Wp.less ((((((List.Sublist.refl _).cons _).cons _).cons_cons _).cons_cons _).cons_cons _) ?_
        refine Wp.room (c' := 8) (n' := 400) (by decide) (by decide) ?_
        exact lp_182 hw hk nn hnn p0 p1 p2 p3 p4 13 ch (p3 &&& 3) 1 a_1 a43 b_44 de true true true false [(by8 109), (by8 97), (by8 118), (by8 101), (by8 110), (by8 45), (by8 109), (by8 101), (by8 116), (by8 97), (by8 100), (by8 97), (by8 116), (by8 ch), (by8 46), (by8 120), (by8 109), (by8 108)] _ (One.val rfl) hde (show 18 < 2 ^ 31 by decide) (by rw [b69_45]; decide +kernel)
      · refine Wp.icT (feq b69_45).2 d_law_69 ?_
        refine Wp.iconst lc_0 d_law_76 ?_
        refine Wp.istore (L' := [.val (.int p0), .val (.int p1), .val (.int p2), .val (.int p3), .val (.int p4), .val (.int nn), .val (.int 13), .val (.int ch), .val (.int (p3 &&& 3)), .val (.ref a_1), .val (.ref a43), .val (.int 0), .val (.ref a_3), .unset]) rfl d_law_77 ?_
        refine Wp.goto d_law_79 ?_
        refine Wp.perm [0, 1, 4, 2, 3] 5 pp_0_1_4_2_3 (H' := [oStr true a43 (.ref b_44) (.int 0), eB b_44 [.int (by8 109), .int (by8 97), .int (by8 118), .int (by8 101), .int (by8 110), .int (by8 45), .int (by8 109), .int (by8 101), .int (by8 116), .int (by8 97), .int (by8 100), .int (by8 97), .int (by8 116), .int (by8 ch), .int (by8 46), .int (by8 120), .int (by8 109), .int (by8 108)], (de, false, .inr ((.object "java/lang/Object"), true, false, [])), eC a_3 [.int 109, .int 97, .int 118, .int 101, .int 110, .int 45, .int 109, .int 101, .int 116, .int 97, .int 100, .int 97, .int 116, .int ch, .int 46, .int 120, .int 109, .int 108], eC a_1 [.int 109, .int 97, .int 118, .int 101, .int 110, .int 45, .int 109, .int 101, .int 116, .int 97, .int 100, .int 97, .int 116, .int 97, .int 46, .int 120, .int 109, .int 108]]) rfl ?_
        refine Wp.less ((((((List.Sublist.refl _).cons _).cons _).cons_cons _).cons_cons _).cons_cons _) ?_
        refine Wp.room (c' := 8) (n' := 400) (by decide) (by decide) ?_
        exact lp_182 hw hk nn hnn p0 p1 p2 p3 p4 13 ch (p3 &&& 3) 0 a_1 a43 b_44 de true true true false [(by8 109), (by8 97), (by8 118), (by8 101), (by8 110), (by8 45), (by8 109), (by8 101), (by8 116), (by8 97), (by8 100), (by8 97), (by8 116), (by8 ch), (by8 46), (by8 120), (by8 109), (by8 108)] _ (One.val rfl) hde (show 18 < 2 ^ 31 by decide) (eqI_ne (fun q => b69_45 (by8_eq hc0 hc1 (Option.some.inj (show some (by8 ch) = some 97 from congrArg (fun l : List Int32 => l[13]?) q)) (by decide) (by decide)))).symm
    · refine Wp.aload rfl rfl d_law_44 ?_
      refine Wp.iload rfl d_law_46 ?_
      refine Wp.iload rfl d_law_48 ?_
      refine Wp.castore (z := ch) 0 14 rfl (by decide) (by decide) (show 14 < 18 by decide) (narC_id8 hc0 hc1) d_law_50 (H' := [eC a_3 [.int 109, .int 97, .int 118, .int 101, .int 110, .int 45, .int 109, .int 101, .int 116, .int 97, .int 100, .int 97, .int 116, .int 97, .int ch, .int 120, .int 109, .int 108], eC a_1 [.int 109, .int 97, .int 118, .int 101, .int 110, .int 45, .int 109, .int 101, .int 116, .int 97, .int 100, .int 97, .int 116, .int 97, .int 46, .int 120, .int 109, .int 108], (de, false, .inr ((.object "java/lang/Object"), true, false, []))]) rfl ?_
      refine Wp.newO nm_M0 (w_6 hw) (w_7 hw) (w_8 hw) (nf_oStr hw) (by decide) (by decide) d_law_51 (fun a46 => ?_)
      refine Wp.dup rfl d_law_54 ?_
      refine Wp.aload rfl rfl d_law_55 ?_
      refine Wp.callC nm_M0 (M' := M_si 18) (fun _ => rm_si hw.set a46 a_3 true true false [109, 97, 118, 101, 110, 45, 109, 101, 116, 97, 100, 97, 116, 97, ch, 120, 109, 108] _ (hpC (by decide) (hpC (by decide) (hpC (by decide) (hpC (by decide) (hpC (by decide) (hpC (by decide) (hpC (by decide) (hpC (by decide) (hpC (by decide) (hpC (by decide) (hpC (by decide) (hpC (by decide) (hpC (by decide) (hpC (by decide) (hpC ⟨hc0, hc1⟩ (hpC (by decide) (hpC (by decide) (hpC (by decide) hpN)))))))))))))))))) (show 18 ≤ 4000 by decide) (show 0 < 18 by decide)) (mk_M_si hw 18) (w_12 hw) (w_13 hw) rfl rfl rfl rfl (Wn := 1) rfl rfl (by decide) d_law_57 ?_
      rintro _ _ ⟨b_47, rfl, rfl⟩
      refine Wp.astore (L' := [.val (.int p0), .val (.int p1), .val (.int p2), .val (.int p3), .val (.int p4), .val (.int nn), .val (.int 14), .val (.int ch), .val (.int (p3 &&& 3)), .val (.ref a_1), .val (.ref a46), .unset, .val (.ref a_3), .unset]) rfl rfl d_law_60 ?_
      refine Wp.iload rfl d_law_62 ?_
      refine Wp.aload rfl rfl d_law_64 ?_
      refine Wp.iload rfl d_law_66 ?_
      refine Wp.caload 3 14 rfl (by decide) (by decide) rfl d_law_68 ?_
      by_cases b69_48 : ch = 46
      · refine Wp.icF (teq b69_48).2 d_law_69 ?_
        refine Wp.iconst lc_1 d_law_72 ?_
        refine Wp.goto d_law_73 ?_
        refine Wp.istore (L' := [.val (.int p0), .val (.int p1), .val (.int p2), .val (.int p3), .val (.int p4), .val (.int nn), .val (.int 14), .val (.int ch), .val (.int (p3 &&& 3)), .val (.ref a_1), .val (.ref a46), .val (.int 1), .val (.ref a_3), .unset]) rfl d_law_77 ?_
        refine Wp.goto d_law_79 ?_
        refine Wp.perm [0, 1, 4, 2, 3] 5 pp_0_1_4_2_3 (H' := [oStr true a46 (.ref b_47) (.int 0), eB b_47 [.int (by8 109), .int (by8 97), .int (by8 118), .int (by8 101), .int (by8 110), .int (by8 45), .int (by8 109), .int (by8 101), .int (by8 116), .int (by8 97), .int (by8 100), .int (by8 97), .int (by8 116), .int (by8 97), .int (by8 ch), .int (by8 120), .int (by8 109), .int (by8 108)], (de, false, .inr ((.object "java/lang/Object"), true, false, [])), eC a_3 [.int 109, .int 97, .int 118, .int 101, .int 110, .int 45, .int 109, .int 101, .int 116, .int 97, .int 100, .int 97, .int 116, .int 97, .int ch, .int 120, .int 109, .int 108], eC a_1 [.int 109, .int 97, .int 118, .int 101, .int 110, .int 45, .int 109, .int 101, .int 116, .int 97, .int 100, .int 97, .int 116, .int 97, .int 46, .int 120, .int 109, .int 108]]) rfl ?_
        refine Wp.less ((((((List.Sublist.refl _).cons _).cons _).cons_cons _).cons_cons _).cons_cons _) ?_
        refine Wp.room (c' := 8) (n' := 400) (by decide) (by decide) ?_
        exact lp_182 hw hk nn hnn p0 p1 p2 p3 p4 14 ch (p3 &&& 3) 1 a_1 a46 b_47 de true true true false [(by8 109), (by8 97), (by8 118), (by8 101), (by8 110), (by8 45), (by8 109), (by8 101), (by8 116), (by8 97), (by8 100), (by8 97), (by8 116), (by8 97), (by8 ch), (by8 120), (by8 109), (by8 108)] _ (One.val rfl) hde (show 18 < 2 ^ 31 by decide) (by rw [b69_48]; decide +kernel)
      · refine Wp.icT (feq b69_48).2 d_law_69 ?_
        refine Wp.iconst lc_0 d_law_76 ?_
        refine Wp.istore (L' := [.val (.int p0), .val (.int p1), .val (.int p2), .val (.int p3), .val (.int p4), .val (.int nn), .val (.int 14), .val (.int ch), .val (.int (p3 &&& 3)), .val (.ref a_1), .val (.ref a46), .val (.int 0), .val (.ref a_3), .unset]) rfl d_law_77 ?_
        refine Wp.goto d_law_79 ?_
        refine Wp.perm [0, 1, 4, 2, 3] 5 pp_0_1_4_2_3 (H' := [oStr true a46 (.ref b_47) (.int 0), eB b_47 [.int (by8 109), .int (by8 97), .int (by8 118), .int (by8 101), .int (by8 110), .int (by8 45), .int (by8 109), .int (by8 101), .int (by8 116), .int (by8 97), .int (by8 100), .int (by8 97), .int (by8 116), .int (by8 97), .int (by8 ch), .int (by8 120), .int (by8 109), .int (by8 108)], (de, false, .inr ((.object "java/lang/Object"), true, false, [])), eC a_3 [.int 109, .int 97, .int 118, .int 101, .int 110, .int 45, .int 109, .int 101, .int 116, .int 97, .int 100, .int 97, .int 116, .int 97, .int ch, .int 120, .int 109, .int 108], eC a_1 [.int 109, .int 97, .int 118, .int 101, .int 110, .int 45, .int 109, .int 101, .int 116, .int 97, .int 100, .int 97, .int 116, .int 97, .int 46, .int 120, .int 109, .int 108]]) rfl ?_
        refine Wp.less ((((((List.Sublist.refl _).cons _).cons _).cons_cons _).cons_cons _).cons_cons _) ?_
        refine Wp.room (c' := 8) (n' := 400) (by decide) (by decide) ?_
        exact lp_182 hw hk nn hnn p0 p1 p2 p3 p4 14 ch (p3 &&& 3) 0 a_1 a46 b_47 de true true true false [(by8 109), (by8 97), (by8 118), (by8 101), (by8 110), (by8 45), (by8 109), (by8 101), (by8 116), (by8 97), (by8 100), (by8 97), (by8 116), (by8 97), (by8 ch), (by8 120), (by8 109), (by8 108)] _ (One.val rfl) hde (show 18 < 2 ^ 31 by decide) (eqI_ne (fun q => b69_48 (by8_eq hc0 hc1 (Option.some.inj (show some (by8 ch) = some 46 from congrArg (fun l : List Int32 => l[14]?) q)) (by decide) (by decide)))).symm
    · refine Wp.aload rfl rfl d_law_44 ?_
      refine Wp.iload rfl d_law_46 ?_
      refine Wp.iload rfl d_law_48 ?_
      refine Wp.castore (z := ch) 0 15 rfl (by decide) (by decide) (show 15 < 18 by decide) (narC_id8 hc0 hc1) d_law_50 (H' := [eC a_3 [.int 109, .int 97, .int 118, .int 101, .int 110, .int 45, .int 109, .int 101, .int 116, .int 97, .int 100, .int 97, .int 116, .int 97, .int 46, .int ch, .int 109, .int 108], eC a_1 [.int 109, .int 97, .int 118, .int 101, .int 110, .int 45, .int 109, .int 101, .int 116, .int 97, .int 100, .int 97, .int 116, .int 97, .int 46, .int 120, .int 109, .int 108], (de, false, .inr ((.object "java/lang/Object"), true, false, []))]) rfl ?_
      refine Wp.newO nm_M0 (w_6 hw) (w_7 hw) (w_8 hw) (nf_oStr hw) (by decide) (by decide) d_law_51 (fun a49 => ?_)
      refine Wp.dup rfl d_law_54 ?_
      refine Wp.aload rfl rfl d_law_55 ?_
      refine Wp.callC nm_M0 (M' := M_si 18) (fun _ => rm_si hw.set a49 a_3 true true false [109, 97, 118, 101, 110, 45, 109, 101, 116, 97, 100, 97, 116, 97, 46, ch, 109, 108] _ (hpC (by decide) (hpC (by decide) (hpC (by decide) (hpC (by decide) (hpC (by decide) (hpC (by decide) (hpC (by decide) (hpC (by decide) (hpC (by decide) (hpC (by decide) (hpC (by decide) (hpC (by decide) (hpC (by decide) (hpC (by decide) (hpC (by decide) (hpC ⟨hc0, hc1⟩ (hpC (by decide) (hpC (by decide) hpN)))))))))))))))))) (show 18 ≤ 4000 by decide) (show 0 < 18 by decide)) (mk_M_si hw 18) (w_12 hw) (w_13 hw) rfl rfl rfl rfl (Wn := 1) rfl rfl (by decide) d_law_57 ?_
      rintro _ _ ⟨b_50, rfl, rfl⟩
      refine Wp.astore (L' := [.val (.int p0), .val (.int p1), .val (.int p2), .val (.int p3), .val (.int p4), .val (.int nn), .val (.int 15), .val (.int ch), .val (.int (p3 &&& 3)), .val (.ref a_1), .val (.ref a49), .unset, .val (.ref a_3), .unset]) rfl rfl d_law_60 ?_
      refine Wp.iload rfl d_law_62 ?_
      refine Wp.aload rfl rfl d_law_64 ?_
      refine Wp.iload rfl d_law_66 ?_
      refine Wp.caload 3 15 rfl (by decide) (by decide) rfl d_law_68 ?_
      by_cases b69_51 : ch = 120
      · refine Wp.icF (teq b69_51).2 d_law_69 ?_
        refine Wp.iconst lc_1 d_law_72 ?_
        refine Wp.goto d_law_73 ?_
        refine Wp.istore (L' := [.val (.int p0), .val (.int p1), .val (.int p2), .val (.int p3), .val (.int p4), .val (.int nn), .val (.int 15), .val (.int ch), .val (.int (p3 &&& 3)), .val (.ref a_1), .val (.ref a49), .val (.int 1), .val (.ref a_3), .unset]) rfl d_law_77 ?_
        refine Wp.goto d_law_79 ?_
        refine Wp.perm [0, 1, 4, 2, 3] 5 pp_0_1_4_2_3 (H' := [oStr true a49 (.ref b_50) (.int 0), eB b_50 [.int (by8 109), .int (by8 97), .int (by8 118), .int (by8 101), .int (by8 110), .int (by8 45), .int (by8 109), .int (by8 101), .int (by8 116), .int (by8 97), .int (by8 100), .int (by8 97), .int (by8 116), .int (by8 97), .int (by8 46), .int (by8 ch), .int (by8 109), .int (by8 108)], (de, false, .inr ((.object "java/lang/Object"), true, false, [])), eC a_3 [.int 109, .int 97, .int 118, .int 101, .int 110, .int 45, .int 109, .int 101, .int 116, .int 97, .int 100, .int 97, .int 116, .int 97, .int 46, .int ch, .int 109, .int 108], eC a_1 [.int 109, .int 97, .int 118, .int 101, .int 110, .int 45, .int 109, .int 101, .int 116, .int 97, .int 100, .int 97, .int 116, .int 97, .int 46, .int 120, .int 109, .int 108]]) rfl ?_
        refine Wp.less ((((((List.Sublist.refl _).cons _).cons _).cons_cons _).cons_cons _).cons_cons _) ?_
        refine Wp.room (c' := 8) (n' := 400) (by decide) (by decide) ?_
        exact lp_182 hw hk nn hnn p0 p1 p2 p3 p4 15 ch (p3 &&& 3) 1 a_1 a49 b_50 de true true true false [(by8 109), (by8 97), (by8 118), (by8 101), (by8 110), (by8 45), (by8 109), (by8 101), (by8 116), (by8 97), (by8 100), (by8 97), (by8 116), (by8 97), (by8 46), (by8 ch), (by8 109), (by8 108)] _ (One.val rfl) hde (show 18 < 2 ^ 31 by decide) (by rw [b69_51]; decide +kernel)
      · refine Wp.icT (feq b69_51).2 d_law_69 ?_
        refine Wp.iconst lc_0 d_law_76 ?_
        refine Wp.istore (L' := [.val (.int p0), .val (.int p1), .val (.int p2), .val (.int p3), .val (.int p4), .val (.int nn), .val (.int 15), .val (.int ch), .val (.int (p3 &&& 3)), .val (.ref a_1), .val (.ref a49), .val (.int 0), .val (.ref a_3), .unset]) rfl d_law_77 ?_
        refine Wp.goto d_law_79 ?_
        refine Wp.perm [0, 1, 4, 2, 3] 5 pp_0_1_4_2_3 (H' := [oStr true a49 (.ref b_50) (.int 0), eB b_50 [.int (by8 109), .int (by8 97), .int (by8 118), .int (by8 101), .int (by8 110), .int (by8 45), .int (by8 109), .int (by8 101), .int (by8 116), .int (by8 97), .int (by8 100), .int (by8 97), .int (by8 116), .int (by8 97), .int (by8 46), .int (by8 ch), .int (by8 109), .int (by8 108)], (de, false, .inr ((.object "java/lang/Object"), true, false, [])), eC a_3 [.int 109, .int 97, .int 118, .int 101, .int 110, .int 45, .int 109, .int 101, .int 116, .int 97, .int 100, .int 97, .int 116, .int 97, .int 46, .int ch, .int 109, .int 108], eC a_1 [.int 109, .int 97, .int 118, .int 101, .int 110, .int 45, .int 109, .int 101, .int 116, .int 97, .int 100, .int 97, .int 116, .int 97, .int 46, .int 120, .int 109, .int 108]]) rfl ?_
        refine Wp.less ((((((List.Sublist.refl _).cons _).cons _).cons_cons _).cons_cons _).cons_cons _) ?_
        refine Wp.room (c' := 8) (n' := 400) (by decide) (by decide) ?_
        exact lp_182 hw hk nn hnn p0 p1 p2 p3 p4 15 ch (p3 &&& 3) 0 a_1 a49 b_50 de true true true false [(by8 109), (by8 97), (by8 118), (by8 101), (by8 110), (by8 45), (by8 109), (by8 101), (by8 116), (by8 97), (by8 100), (by8 97), (by8 116), (by8 97), (by8 46), (by8 ch), (by8 109), (by8 108)] _ (One.val rfl) hde (show 18 < 2 ^ 31 by decide) (eqI_ne (fun q => b69_51 (by8_eq hc0 hc1 (Option.some.inj (show some (by8 ch) = some 120 from congrArg (fun l : List Int32 => l[15]?) q)) (by decide) (by decide)))).symm
    · refine Wp.aload rfl rfl d_law_44 ?_
      refine Wp.iload rfl d_law_46 ?_
      refine Wp.iload rfl d_law_48 ?_
      refine Wp.castore (z := ch) 0 16 rfl (by decide) (by decide) (show 16 < 18 by decide) (narC_id8 hc0 hc1) d_law_50 (H' := [eC a_3 [.int 109, .int 97, .int 118, .int 101, .int 110, .int 45, .int 109, .int 101, .int 116, .int 97, .int 100, .int 97, .int 116, .int 97, .int 46, .int 120, .int ch, .int 108], eC a_1 [.int 109, .int 97, .int 118, .int 101, .int 110, .int 45, .int 109, .int 101, .int 116, .int 97, .int 100, .int 97, .int 116, .int 97, .int 46, .int 120, .int 109, .int 108], (de, false, .inr ((.object "java/lang/Object"), true, false, []))]) rfl ?_
      refine Wp.newO nm_M0 (w_6 hw) (w_7 hw) (w_8 hw) (nf_oStr hw) (by decide) (by decide) d_law_51 (fun a52 => ?_)
      refine Wp.dup rfl d_law_54 ?_
      refine Wp.aload rfl rfl d_law_55 ?_
      refine Wp.callC nm_M0 (M' := M_si 18) (fun _ => rm_si hw.set a52 a_3 true true false [109, 97, 118, 101, 110, 45, 109, 101, 116, 97, 100, 97, 116, 97, 46, 120, ch, 108] _ (hpC (by decide) (hpC (by decide) (hpC (by decide) (hpC (by decide) (hpC (by decide) (hpC (by decide) (hpC (by decide) (hpC (by decide) (hpC (by decide) (hpC (by decide) (hpC (by decide) (hpC (by decide) (hpC (by decide) (hpC (by decide) (hpC (by decide) (hpC (by decide) (hpC ⟨hc0, hc1⟩ (hpC (by decide) hpN)))))))))))))))))) (show 18 ≤ 4000 by decide) (show 0 < 18 by decide)) (mk_M_si hw 18) (w_12 hw) (w_13 hw) rfl rfl rfl rfl (Wn := 1) rfl rfl (by decide) d_law_57 ?_
      rintro _ _ ⟨b_53, rfl, rfl⟩
      refine Wp.astore (L' := [.val (.int p0), .val (.int p1), .val (.int p2), .val (.int p3), .val (.int p4), .val (.int nn), .val (.int 16), .val (.int ch), .val (.int (p3 &&& 3)), .val (.ref a_1), .val (.ref a52), .unset, .val (.ref a_3), .unset]) rfl rfl d_law_60 ?_
      refine Wp.iload rfl d_law_62 ?_
      refine Wp.aload rfl rfl d_law_64 ?_
      refine Wp.iload rfl d_law_66 ?_
      refine Wp.caload 3 16 rfl (by decide) (by decide) rfl d_law_68 ?_
      by_cases b69_54 : ch = 109
      · refine Wp.icF (teq b69_54).2 d_law_69 ?_
        refine Wp.iconst lc_1 d_law_72 ?_
        refine Wp.goto d_law_73 ?_
        refine Wp.istore (L' := [.val (.int p0), .val (.int p1), .val (.int p2), .val (.int p3), .val (.int p4), .val (.int nn), .val (.int 16), .val (.int ch), .val (.int (p3 &&& 3)), .val (.ref a_1), .val (.ref a52), .val (.int 1), .val (.ref a_3), .unset]) rfl d_law_77 ?_
        refine Wp.goto d_law_79 ?_
        refine Wp.perm [0, 1, 4, 2, 3] 5 pp_0_1_4_2_3 (H' := [oStr true a52 (.ref b_53) (.int 0), eB b_53 [.int (by8 109), .int (by8 97), .int (by8 118), .int (by8 101), .int (by8 110), .int (by8 45), .int (by8 109), .int (by8 101), .int (by8 116), .int (by8 97), .int (by8 100), .int (by8 97), .int (by8 116), .int (by8 97), .int (by8 46), .int (by8 120), .int (by8 ch), .int (by8 108)], (de, false, .inr ((.object "java/lang/Object"), true, false, [])), eC a_3 [.int 109, .int 97, .int 118, .int 101, .int 110, .int 45, .int 109, .int 101, .int 116, .int 97, .int 100, .int 97, .int 116, .int 97, .int 46, .int 120, .int ch, .int 108], eC a_1 [.int 109, .int 97, .int 118, .int 101, .int 110, .int 45, .int 109, .int 101, .int 116, .int 97, .int 100, .int 97, .int 116, .int 97, .int 46, .int 120, .int 109, .int 108]]) rfl ?_
        refine Wp.less ((((((List.Sublist.refl _).cons _).cons _).cons_cons _).cons_cons _).cons_cons _) ?_
        refine Wp.room (c' := 8) (n' := 400) (by decide) (by decide) ?_
        exact lp_182 hw hk nn hnn p0 p1 p2 p3 p4 16 ch (p3 &&& 3) 1 a_1 a52 b_53 de true true true false [(by8 109), (by8 97), (by8 118), (by8 101), (by8 110), (by8 45), (by8 109), (by8 101), (by8 116), (by8 97), (by8 100), (by8 97), (by8 116), (by8 97), (by8 46), (by8 120), (by8 ch), (by8 108)] _ (One.val rfl) hde (show 18 < 2 ^ 31 by decide) (by rw [b69_54]; decide +kernel)
      · refine Wp.icT (feq b69_54).2 d_law_69 ?_
        refine Wp.iconst lc_0 d_law_76 ?_
        refine Wp.istore (L' := [.val (.int p0), .val (.int p1), .val (.int p2), .val (.int p3), .val (.int p4), .val (.int nn), .val (.int 16), .val (.int ch), .val (.int (p3 &&& 3)), .val (.ref a_1), .val (.ref a52), .val (.int 0), .val (.ref a_3), .unset]) rfl d_law_77 ?_
        refine Wp.goto d_law_79 ?_
        refine Wp.perm [0, 1, 4, 2, 3] 5 pp_0_1_4_2_3 (H' := [oStr true a52 (.ref b_53) (.int 0), eB b_53 [.int (by8 109), .int (by8 97), .int (by8 118), .int (by8 101), .int (by8 110), .int (by8 45), .int (by8 109), .int (by8 101), .int (by8 116), .int (by8 97), .int (by8 100), .int (by8 97), .int (by8 116), .int (by8 97), .int (by8 46), .int (by8 120), .int (by8 ch), .int (by8 108)], (de, false, .inr ((.object "java/lang/Object"), true, false, [])), eC a_3 [.int 109, .int 97, .int 118, .int 101, .int 110, .int 45, .int 109, .int 101, .int 116, .int 97, .int 100, .int 97, .int 116, .int 97, .int 46, .int 120, .int ch, .int 108], eC a_1 [.int 109, .int 97, .int 118, .int 101, .int 110, .int 45, .int 109, .int 101, .int 116, .int 97, .int 100, .int 97, .int 116, .int 97, .int 46, .int 120, .int 109, .int 108]]) rfl ?_
        refine Wp.less ((((((List.Sublist.refl _).cons _).cons _).cons_cons _).cons_cons _).cons_cons _) ?_
        refine Wp.room (c' := 8) (n' := 400) (by decide) (by decide) ?_
        exact lp_182 hw hk nn hnn p0 p1 p2 p3 p4 16 ch (p3 &&& 3) 0 a_1 a52 b_53 de true true true false [(by8 109), (by8 97), (by8 118), (by8 101), (by8 110), (by8 45), (by8 109), (by8 101), (by8 116), (by8 97), (by8 100), (by8 97), (by8 116), (by8 97), (by8 46), (by8 120), (by8 ch), (by8 108)] _ (One.val rfl) hde (show 18 < 2 ^ 31 by decide) (eqI_ne (fun q => b69_54 (by8_eq hc0 hc1 (Option.some.inj (show some (by8 ch) = some 109 from congrArg (fun l : List Int32 => l[16]?) q)) (by decide) (by decide)))).symm
    · refine Wp.aload rfl rfl d_law_44 ?_
      refine Wp.iload rfl d_law_46 ?_
      refine Wp.iload rfl d_law_48 ?_
      refine Wp.castore (z := ch) 0 17 rfl (by decide) (by decide) (show 17 < 18 by decide) (narC_id8 hc0 hc1) d_law_50 (H' := [eC a_3 [.int 109, .int 97, .int 118, .int 101, .int 110, .int 45, .int 109, .int 101, .int 116, .int 97, .int 100, .int 97, .int 116, .int 97, .int 46, .int 120, .int 109, .int ch], eC a_1 [.int 109, .int 97, .int 118, .int 101, .int 110, .int 45, .int 109, .int 101, .int 116, .int 97, .int 100, .int 97, .int 116, .int 97, .int 46, .int 120, .int 109, .int 108], (de, false, .inr ((.object "java/lang/Object"), true, false, []))]) rfl ?_
      refine Wp.newO nm_M0 (w_6 hw) (w_7 hw) (w_8 hw) (nf_oStr hw) (by decide) (by decide) d_law_51 (fun a55 => ?_)
      refine Wp.dup rfl d_law_54 ?_
      refine Wp.aload rfl rfl d_law_55 ?_
      refine Wp.callC nm_M0 (M' := M_si 18) (fun _ => rm_si hw.set a55 a_3 true true false [109, 97, 118, 101, 110, 45, 109, 101, 116, 97, 100, 97, 116, 97, 46, 120, 109, ch] _ (hpC (by decide) (hpC (by decide) (hpC (by decide) (hpC (by decide) (hpC (by decide) (hpC (by decide) (hpC (by decide) (hpC (by decide) (hpC (by decide) (hpC (by decide) (hpC (by decide) (hpC (by decide) (hpC (by decide) (hpC (by decide) (hpC (by decide) (hpC (by decide) (hpC (by decide) (hpC ⟨hc0, hc1⟩ hpN)))))))))))))))))) (show 18 ≤ 4000 by decide) (show 0 < 18 by decide)) (mk_M_si hw 18) (w_12 hw) (w_13 hw) rfl rfl rfl rfl (Wn := 1) rfl rfl (by decide) d_law_57 ?_
      rintro _ _ ⟨b_56, rfl, rfl⟩
      refine Wp.astore (L' := [.val (.int p0), .val (.int p1), .val (.int p2), .val (.int p3), .val (.int p4), .val (.int nn), .val (.int 17), .val (.int ch), .val (.int (p3 &&& 3)), .val (.ref a_1), .val (.ref a55), .unset, .val (.ref a_3), .unset]) rfl rfl d_law_60 ?_
      refine Wp.iload rfl d_law_62 ?_
      refine Wp.aload rfl rfl d_law_64 ?_
      refine Wp.iload rfl d_law_66 ?_
      refine Wp.caload 3 17 rfl (by decide) (by decide) rfl d_law_68 ?_
      by_cases b69_57 : ch = 108
      · refine Wp.icF (teq b69_57).2 d_law_69 ?_
        refine Wp.iconst lc_1 d_law_72 ?_
        refine Wp.goto d_law_73 ?_
        refine Wp.istore (L' := [.val (.int p0), .val (.int p1), .val (.int p2), .val (.int p3), .val (.int p4), .val (.int nn), .val (.int 17), .val (.int ch), .val (.int (p3 &&& 3)), .val (.ref a_1), .val (.ref a55), .val (.int 1), .val (.ref a_3), .unset]) rfl d_law_77 ?_
        refine Wp.goto d_law_79 ?_
        refine Wp.perm [0, 1, 4, 2, 3] 5 pp_0_1_4_2_3 (H' := [oStr true a55 (.ref b_56) (.int 0), eB b_56 [.int (by8 109), .int (by8 97), .int (by8 118), .int (by8 101), .int (by8 110), .int (by8 45), .int (by8 109), .int (by8 101), .int (by8 116), .int (by8 97), .int (by8 100), .int (by8 97), .int (by8 116), .int (by8 97), .int (by8 46), .int (by8 120), .int (by8 109), .int (by8 ch)], (de, false, .inr ((.object "java/lang/Object"), true, false, [])), eC a_3 [.int 109, .int 97, .int 118, .int 101, .int 110, .int 45, .int 109, .int 101, .int 116, .int 97, .int 100, .int 97, .int 116, .int 97, .int 46, .int 120, .int 109, .int ch], eC a_1 [.int 109, .int 97, .int 118, .int 101, .int 110, .int 45, .int 109, .int 101, .int 116, .int 97, .int 100, .int 97, .int 116, .int 97, .int 46, .int 120, .int 109, .int 108]]) rfl ?_
        refine Wp.less ((((((List.Sublist.refl _).cons _).cons _).cons_cons _).cons_cons _).cons_cons _) ?_
        refine Wp.room (c' := 8) (n' := 400) (by decide) (by decide) ?_
        exact lp_182 hw hk nn hnn p0 p1 p2 p3 p4 17 ch (p3 &&& 3) 1 a_1 a55 b_56 de true true true false [(by8 109), (by8 97), (by8 118), (by8 101), (by8 110), (by8 45), (by8 109), (by8 101), (by8 116), (by8 97), (by8 100), (by8 97), (by8 116), (by8 97), (by8 46), (by8 120), (by8 109), (by8 ch)] _ (One.val rfl) hde (show 18 < 2 ^ 31 by decide) (by rw [b69_57]; decide +kernel)
      · refine Wp.icT (feq b69_57).2 d_law_69 ?_
        refine Wp.iconst lc_0 d_law_76 ?_
        refine Wp.istore (L' := [.val (.int p0), .val (.int p1), .val (.int p2), .val (.int p3), .val (.int p4), .val (.int nn), .val (.int 17), .val (.int ch), .val (.int (p3 &&& 3)), .val (.ref a_1), .val (.ref a55), .val (.int 0), .val (.ref a_3), .unset]) rfl d_law_77 ?_
        refine Wp.goto d_law_79 ?_
        refine Wp.perm [0, 1, 4, 2, 3] 5 pp_0_1_4_2_3 (H' := [oStr true a55 (.ref b_56) (.int 0), eB b_56 [.int (by8 109), .int (by8 97), .int (by8 118), .int (by8 101), .int (by8 110), .int (by8 45), .int (by8 109), .int (by8 101), .int (by8 116), .int (by8 97), .int (by8 100), .int (by8 97), .int (by8 116), .int (by8 97), .int (by8 46), .int (by8 120), .int (by8 109), .int (by8 ch)], (de, false, .inr ((.object "java/lang/Object"), true, false, [])), eC a_3 [.int 109, .int 97, .int 118, .int 101, .int 110, .int 45, .int 109, .int 101, .int 116, .int 97, .int 100, .int 97, .int 116, .int 97, .int 46, .int 120, .int 109, .int ch], eC a_1 [.int 109, .int 97, .int 118, .int 101, .int 110, .int 45, .int 109, .int 101, .int 116, .int 97, .int 100, .int 97, .int 116, .int 97, .int 46, .int 120, .int 109, .int 108]]) rfl ?_
        refine Wp.less ((((((List.Sublist.refl _).cons _).cons _).cons_cons _).cons_cons _).cons_cons _) ?_
        refine Wp.room (c' := 8) (n' := 400) (by decide) (by decide) ?_
        exact lp_182 hw hk nn hnn p0 p1 p2 p3 p4 17 ch (p3 &&& 3) 0 a_1 a55 b_56 de true true true false [(by8 109), (by8 97), (by8 118), (by8 101), (by8 110), (by8 45), (by8 109), (by8 101), (by8 116), (by8 97), (by8 100), (by8 97), (by8 116), (by8 97), (by8 46), (by8 120), (by8 109), (by8 ch)] _ (One.val rfl) hde (show 18 < 2 ^ 31 by decide) (eqI_ne (fun q => b69_57 (by8_eq hc0 hc1 (Option.some.inj (show some (by8 ch) = some 108 from congrArg (fun l : List Int32 => l[17]?) q)) (by decide) (by decide)))).symm
  · refine Wp.ifT (feq b36_2).2 d_law_36 ?_
    refine Wp.iload rfl d_law_82 ?_
    refine Wp.iconst lc_1 d_law_84 ?_
    by_cases b85_58 : (p3 &&& 3) = 1
    · refine Wp.icF (teq b85_58).2 d_law_85 ?_
      refine Wp.newO nm_M0 (w_6 hw) (w_7 hw) (w_8 hw) (nf_oStr hw) (by decide) (by decide) d_law_88 (fun a59 => ?_)
      refine Wp.dup rfl d_law_91 ?_
      refine Wp.iload rfl d_law_92 ?_
      refine Wp.callS nm_M0 (fun _ => rm_ca1 hw.set ch _ hc0 hc1) (mk_M_ca1 hw) (w_9 hw) (w_10 hw) rfl rfl (Wn := 2) rfl rfl (by decide) d_law_94 ?_
      rintro _ _ ⟨a_60, rfl, rfl⟩
      refine Wp.perm [1, 0] 2 pp_1_0 (H' := [oStr true a59 (.null) (.int 0), eC a_60 [.int 109, .int 97, .int 118, .int 101, .int 110, .int 45, .int 109, .int 101, .int 116, .int 97, .int 100, .int 97, .int 116, .int 97, .int 46, .int 120, .int 109, .int 108, .int ch], eC a_1 [.int 109, .int 97, .int 118, .int 101, .int 110, .int 45, .int 109, .int 101, .int 116, .int 97, .int 100, .int 97, .int 116, .int 97, .int 46, .int 120, .int 109, .int 108], (de, false, .inr ((.object "java/lang/Object"), true, false, []))]) rfl ?_
      refine Wp.callC nm_M0 (M' := M_si 19) (fun _ => rm_si hw.set a59 a_60 true true false [109, 97, 118, 101, 110, 45, 109, 101, 116, 97, 100, 97, 116, 97, 46, 120, 109, 108, ch] _ (hpC (by decide) (hpC (by decide) (hpC (by decide) (hpC (by decide) (hpC (by decide) (hpC (by decide) (hpC (by decide) (hpC (by decide) (hpC (by decide) (hpC (by decide) (hpC (by decide) (hpC (by decide) (hpC (by decide) (hpC (by decide) (hpC (by decide) (hpC (by decide) (hpC (by decide) (hpC (by decide) (hpC ⟨hc0, hc1⟩ hpN))))))))))))))))))) (show 19 ≤ 4000 by decide) (show 0 < 19 by decide)) (mk_M_si hw 19) (w_12 hw) (w_13 hw) rfl rfl rfl rfl (Wn := 1) rfl rfl (by decide) d_law_97 ?_
      rintro _ _ ⟨b_61, rfl, rfl⟩
      refine Wp.astore (L' := [.val (.int p0), .val (.int p1), .val (.int p2), .val (.int p3), .val (.int p4), .val (.int nn), .val (.int pp), .val (.int ch), .val (.int (p3 &&& 3)), .val (.ref a_1), .val (.ref a59), .unset, .unset, .unset]) rfl rfl d_law_100 ?_
      refine Wp.iconst lc_0 d_law_102 ?_
      refine Wp.istore (L' := [.val (.int p0), .val (.int p1), .val (.int p2), .val (.int p3), .val (.int p4), .val (.int nn), .val (.int pp), .val (.int ch), .val (.int (p3 &&& 3)), .val (.ref a_1), .val (.ref a59), .val (.int 0), .unset, .unset]) rfl d_law_103 ?_
      refine Wp.goto d_law_105 ?_
      refine Wp.perm [0, 1, 4, 2, 3] 5 pp_0_1_4_2_3 (H' := [oStr true a59 (.ref b_61) (.int 0), eB b_61 [.int (by8 109), .int (by8 97), .int (by8 118), .int (by8 101), .int (by8 110), .int (by8 45), .int (by8 109), .int (by8 101), .int (by8 116), .int (by8 97), .int (by8 100), .int (by8 97), .int (by8 116), .int (by8 97), .int (by8 46), .int (by8 120), .int (by8 109), .int (by8 108), .int (by8 ch)], (de, false, .inr ((.object "java/lang/Object"), true, false, [])), eC a_60 [.int 109, .int 97, .int 118, .int 101, .int 110, .int 45, .int 109, .int 101, .int 116, .int 97, .int 100, .int 97, .int 116, .int 97, .int 46, .int 120, .int 109, .int 108, .int ch], eC a_1 [.int 109, .int 97, .int 118, .int 101, .int 110, .int 45, .int 109, .int 101, .int 116, .int 97, .int 100, .int 97, .int 116, .int 97, .int 46, .int 120, .int 109, .int 108]]) rfl ?_
      refine Wp.less ((((((List.Sublist.refl _).cons _).cons _).cons_cons _).cons_cons _).cons_cons _) ?_
      refine Wp.room (c' := 8) (n' := 400) (by decide) (by decide) ?_
      exact lp_182 hw hk nn hnn p0 p1 p2 p3 p4 pp ch (p3 &&& 3) 0 a_1 a59 b_61 de true true true false [(by8 109), (by8 97), (by8 118), (by8 101), (by8 110), (by8 45), (by8 109), (by8 101), (by8 116), (by8 97), (by8 100), (by8 97), (by8 116), (by8 97), (by8 46), (by8 120), (by8 109), (by8 108), (by8 ch)] _ One.u hde (show 19 < 2 ^ 31 by decide) (eqI_ne (fun q => by have := congrArg List.length q; simp [tt_0] at this)).symm
    · refine Wp.icT (feq b85_58).2 d_law_85 ?_
      refine Wp.iload rfl d_law_108 ?_
      refine Wp.iconst lc_2 d_law_110 ?_
      by_cases b111_62 : (p3 &&& 3) = 2
      · refine Wp.icF (teq b111_62).2 d_law_111 ?_
        refine Wp.newO nm_M0 (w_6 hw) (w_7 hw) (w_8 hw) (nf_oStr hw) (by decide) (by decide) d_law_114 (fun a63 => ?_)
        refine Wp.dup rfl d_law_117 ?_
        refine Wp.callS nm_M0 (fun _ => rm_ca2 hw.set  _ ) (mk_M_ca2 hw) (w_156 hw) (w_157 hw) rfl rfl (Wn := 2) rfl rfl (by decide) d_law_118 ?_
        rintro _ _ ⟨a_64, rfl, rfl⟩
        refine Wp.perm [1, 0] 2 pp_1_0 (H' := [oStr true a63 (.null) (.int 0), eC a_64 [.int 109, .int 97, .int 118, .int 101, .int 110, .int 45, .int 109, .int 101, .int 116, .int 97, .int 100, .int 97, .int 116, .int 97, .int 46, .int 120, .int 109], eC a_1 [.int 109, .int 97, .int 118, .int 101, .int 110, .int 45, .int 109, .int 101, .int 116, .int 97, .int 100, .int 97, .int 116, .int 97, .int 46, .int 120, .int 109, .int 108], (de, false, .inr ((.object "java/lang/Object"), true, false, []))]) rfl ?_
        refine Wp.callC nm_M0 (M' := M_si 17) (fun _ => rm_si hw.set a63 a_64 true true false [109, 97, 118, 101, 110, 45, 109, 101, 116, 97, 100, 97, 116, 97, 46, 120, 109] _ (hpC (by decide) (hpC (by decide) (hpC (by decide) (hpC (by decide) (hpC (by decide) (hpC (by decide) (hpC (by decide) (hpC (by decide) (hpC (by decide) (hpC (by decide) (hpC (by decide) (hpC (by decide) (hpC (by decide) (hpC (by decide) (hpC (by decide) (hpC (by decide) (hpC (by decide) hpN))))))))))))))))) (show 17 ≤ 4000 by decide) (show 0 < 17 by decide)) (mk_M_si hw 17) (w_12 hw) (w_13 hw) rfl rfl rfl rfl (Wn := 1) rfl rfl (by decide) d_law_121 ?_
        rintro _ _ ⟨b_65, rfl, rfl⟩
        refine Wp.astore (L' := [.val (.int p0), .val (.int p1), .val (.int p2), .val (.int p3), .val (.int p4), .val (.int nn), .val (.int pp), .val (.int ch), .val (.int (p3 &&& 3)), .val (.ref a_1), .val (.ref a63), .unset, .unset, .unset]) rfl rfl d_law_124 ?_
        refine Wp.iconst lc_0 d_law_126 ?_
        refine Wp.istore (L' := [.val (.int p0), .val (.int p1), .val (.int p2), .val (.int p3), .val (.int p4), .val (.int nn), .val (.int pp), .val (.int ch), .val (.int (p3 &&& 3)), .val (.ref a_1), .val (.ref a63), .val (.int 0), .unset, .unset]) rfl d_law_127 ?_
        refine Wp.goto d_law_129 ?_
        refine Wp.perm [0, 1, 4, 2, 3] 5 pp_0_1_4_2_3 (H' := [oStr true a63 (.ref b_65) (.int 0), eB b_65 [.int (by8 109), .int (by8 97), .int (by8 118), .int (by8 101), .int (by8 110), .int (by8 45), .int (by8 109), .int (by8 101), .int (by8 116), .int (by8 97), .int (by8 100), .int (by8 97), .int (by8 116), .int (by8 97), .int (by8 46), .int (by8 120), .int (by8 109)], (de, false, .inr ((.object "java/lang/Object"), true, false, [])), eC a_64 [.int 109, .int 97, .int 118, .int 101, .int 110, .int 45, .int 109, .int 101, .int 116, .int 97, .int 100, .int 97, .int 116, .int 97, .int 46, .int 120, .int 109], eC a_1 [.int 109, .int 97, .int 118, .int 101, .int 110, .int 45, .int 109, .int 101, .int 116, .int 97, .int 100, .int 97, .int 116, .int 97, .int 46, .int 120, .int 109, .int 108]]) rfl ?_
        refine Wp.less ((((((List.Sublist.refl _).cons _).cons _).cons_cons _).cons_cons _).cons_cons _) ?_
        refine Wp.room (c' := 8) (n' := 400) (by decide) (by decide) ?_
        exact lp_182 hw hk nn hnn p0 p1 p2 p3 p4 pp ch (p3 &&& 3) 0 a_1 a63 b_65 de true true true false [(by8 109), (by8 97), (by8 118), (by8 101), (by8 110), (by8 45), (by8 109), (by8 101), (by8 116), (by8 97), (by8 100), (by8 97), (by8 116), (by8 97), (by8 46), (by8 120), (by8 109)] _ One.u hde (show 17 < 2 ^ 31 by decide) (by decide +kernel)
      · refine Wp.icT (feq b111_62).2 d_law_111 ?_
        refine Wp.iloadN rfl d_law_132 ?_
        refine Wp.iconst lc_3 d_law_133 ?_
        refine Wp.iand (z := (p2 &&& 3)) rfl d_law_134 ?_
        refine Wp.istore (L' := [.val (.int p0), .val (.int p1), .val (.int p2), .val (.int p3), .val (.int p4), .val (.int nn), .val (.int pp), .val (.int ch), .val (.int (p3 &&& 3)), .val (.ref a_1), .unset, .unset, .val (.int (p2 &&& 3)), .unset]) rfl d_law_135 ?_
        refine Wp.iload rfl d_law_137 ?_
        by_cases b139_66 : (p2 &&& 3) = 0
        · refine Wp.ifF (teq b139_66).2 d_law_139 ?_
          refine Wp.ldcK nm_M0 (n1 := 88) hk (w_160 hw) (sa_1 hw) (List.mem_of_getElem? (i := 1) rfl) tx_4 (by decide) (nf_oStr hw) ln_4 (by decide) (by decide) (by decide) d_law_142 (fun _ a67 b68 hk => ?_)
          refine Wp.astore (L' := [.val (.int p0), .val (.int p1), .val (.int p2), .val (.int p3), .val (.int p4), .val (.int nn), .val (.int pp), .val (.int ch), .val (.int (p3 &&& 3)), .val (.ref a_1), .val (.ref a67), .unset, .val (.int (p2 &&& 3)), .unset]) rfl rfl d_law_144 ?_
          refine Wp.goto d_law_146 ?_
          refine Wp.iconst lc_0 d_law_179 ?_
          refine Wp.istore (L' := [.val (.int p0), .val (.int p1), .val (.int p2), .val (.int p3), .val (.int p4), .val (.int nn), .val (.int pp), .val (.int ch), .val (.int (p3 &&& 3)), .val (.ref a_1), .val (.ref a67), .val (.int 0), .val (.int (p2 &&& 3)), .unset]) rfl d_law_180 ?_
          refine Wp.perm [0, 1, 3, 2] 4 pp_0_1_3_2 (H' := [oStr false a67 (.ref b68) (.int 0), (b68, false, .inr (.byte, false, false, csL tt_4)), (de, false, .inr ((.object "java/lang/Object"), true, false, [])), eC a_1 [.int 109, .int 97, .int 118, .int 101, .int 110, .int 45, .int 109, .int 101, .int 116, .int 97, .int 100, .int 97, .int 116, .int 97, .int 46, .int 120, .int 109, .int 108]]) rfl ?_
          refine Wp.less (((((List.Sublist.refl _).cons _).cons_cons _).cons_cons _).cons_cons _) ?_
          refine Wp.room (c' := 8) (n' := 400) (by decide) (by decide) ?_
          exact lp_182 hw hk nn hnn p0 p1 p2 p3 p4 pp ch (p3 &&& 3) 0 a_1 a67 b68 de false false false false tt_4 _ (One.val rfl) hde (by decide) (by decide +kernel)
        · refine Wp.ifT (feq b139_66).2 d_law_139 ?_
          refine Wp.iload rfl d_law_149 ?_
          refine Wp.iconst lc_1 d_law_151 ?_
          by_cases b152_69 : (p2 &&& 3) = 1
          · refine Wp.icF (teq b152_69).2 d_law_152 ?_
            refine Wp.ldcK nm_M0 (n1 := 92) hk (w_155 hw) (sa_1 hw) (List.mem_of_getElem? (i := 2) rfl) tx_3 (by decide) (nf_oStr hw) ln_3 (by decide) (by decide) (by decide) d_law_155 (fun _ a70 b71 hk => ?_)
            refine Wp.astore (L' := [.val (.int p0), .val (.int p1), .val (.int p2), .val (.int p3), .val (.int p4), .val (.int nn), .val (.int pp), .val (.int ch), .val (.int (p3 &&& 3)), .val (.ref a_1), .val (.ref a70), .unset, .val (.int (p2 &&& 3)), .unset]) rfl rfl d_law_157 ?_
            refine Wp.goto d_law_159 ?_
            refine Wp.iconst lc_0 d_law_179 ?_
            refine Wp.istore (L' := [.val (.int p0), .val (.int p1), .val (.int p2), .val (.int p3), .val (.int p4), .val (.int nn), .val (.int pp), .val (.int ch), .val (.int (p3 &&& 3)), .val (.ref a_1), .val (.ref a70), .val (.int 0), .val (.int (p2 &&& 3)), .unset]) rfl d_law_180 ?_
            refine Wp.perm [0, 1, 3, 2] 4 pp_0_1_3_2 (H' := [oStr false a70 (.ref b71) (.int 0), (b71, false, .inr (.byte, false, false, csL tt_3)), (de, false, .inr ((.object "java/lang/Object"), true, false, [])), eC a_1 [.int 109, .int 97, .int 118, .int 101, .int 110, .int 45, .int 109, .int 101, .int 116, .int 97, .int 100, .int 97, .int 116, .int 97, .int 46, .int 120, .int 109, .int 108]]) rfl ?_
            refine Wp.less (((((List.Sublist.refl _).cons _).cons_cons _).cons_cons _).cons_cons _) ?_
            refine Wp.room (c' := 8) (n' := 400) (by decide) (by decide) ?_
            exact lp_182 hw hk nn hnn p0 p1 p2 p3 p4 pp ch (p3 &&& 3) 0 a_1 a70 b71 de false false false false tt_3 _ (One.val rfl) hde (by decide) (by decide +kernel)
          · refine Wp.icT (feq b152_69).2 d_law_152 ?_
            refine Wp.iload rfl d_law_162 ?_
            refine Wp.iconst lc_2 d_law_164 ?_
            by_cases b165_72 : (p2 &&& 3) = 2
            · refine Wp.icF (teq b165_72).2 d_law_165 ?_
              refine Wp.ldcK nm_M0 (n1 := 88) hk (w_153 hw) (sa_1 hw) (List.mem_of_getElem? (i := 3) rfl) tx_2 (by decide) (nf_oStr hw) ln_2 (by decide) (by decide) (by decide) d_law_168 (fun _ a73 b74 hk => ?_)
              refine Wp.astore (L' := [.val (.int p0), .val (.int p1), .val (.int p2), .val (.int p3), .val (.int p4), .val (.int nn), .val (.int pp), .val (.int ch), .val (.int (p3 &&& 3)), .val (.ref a_1), .val (.ref a73), .unset, .val (.int (p2 &&& 3)), .unset]) rfl rfl d_law_170 ?_
              refine Wp.goto d_law_172 ?_
              refine Wp.iconst lc_0 d_law_179 ?_
              refine Wp.istore (L' := [.val (.int p0), .val (.int p1), .val (.int p2), .val (.int p3), .val (.int p4), .val (.int nn), .val (.int pp), .val (.int ch), .val (.int (p3 &&& 3)), .val (.ref a_1), .val (.ref a73), .val (.int 0), .val (.int (p2 &&& 3)), .unset]) rfl d_law_180 ?_
              refine Wp.perm [0, 1, 3, 2] 4 pp_0_1_3_2 (H' := [oStr false a73 (.ref b74) (.int 0), (b74, false, .inr (.byte, false, false, csL tt_2)), (de, false, .inr ((.object "java/lang/Object"), true, false, [])), eC a_1 [.int 109, .int 97, .int 118, .int 101, .int 110, .int 45, .int 109, .int 101, .int 116, .int 97, .int 100, .int 97, .int 116, .int 97, .int 46, .int 120, .int 109, .int 108]]) rfl ?_
              refine Wp.less (((((List.Sublist.refl _).cons _).cons_cons _).cons_cons _).cons_cons _) ?_
              refine Wp.room (c' := 8) (n' := 400) (by decide) (by decide) ?_
              exact lp_182 hw hk nn hnn p0 p1 p2 p3 p4 pp ch (p3 &&& 3) 0 a_1 a73 b74 de false false false false tt_2 _ (One.val rfl) hde (by decide) (by decide +kernel)
            · refine Wp.icT (feq b165_72).2 d_law_165 ?_
              refine Wp.ldcK nm_M0 (n1 := 100) hk (w_159 hw) (sa_1 hw) (List.mem_of_getElem? (i := 4) rfl) tx_1 (by decide) (nf_oStr hw) ln_1 (by decide) (by decide) (by decide) d_law_175 (fun _ a75 b76 hk => ?_)
              refine Wp.astore (L' := [.val (.int p0), .val (.int p1), .val (.int p2), .val (.int p3), .val (.int p4), .val (.int nn), .val (.int pp), .val (.int ch), .val (.int (p3 &&& 3)), .val (.ref a_1), .val (.ref a75), .unset, .val (.int (p2 &&& 3)), .unset]) rfl rfl d_law_177 ?_
              refine Wp.iconst lc_0 d_law_179 ?_
              refine Wp.istore (L' := [.val (.int p0), .val (.int p1), .val (.int p2), .val (.int p3), .val (.int p4), .val (.int nn), .val (.int pp), .val (.int ch), .val (.int (p3 &&& 3)), .val (.ref a_1), .val (.ref a75), .val (.int 0), .val (.int (p2 &&& 3)), .unset]) rfl d_law_180 ?_
              refine Wp.perm [0, 1, 3, 2] 4 pp_0_1_3_2 (H' := [oStr false a75 (.ref b76) (.int 0), (b76, false, .inr (.byte, false, false, csL tt_1)), (de, false, .inr ((.object "java/lang/Object"), true, false, [])), eC a_1 [.int 109, .int 97, .int 118, .int 101, .int 110, .int 45, .int 109, .int 101, .int 116, .int 97, .int 100, .int 97, .int 116, .int 97, .int 46, .int 120, .int 109, .int 108]]) rfl ?_
              refine Wp.less (((((List.Sublist.refl _).cons _).cons_cons _).cons_cons _).cons_cons _) ?_
              refine Wp.room (c' := 8) (n' := 400) (by decide) (by decide) ?_
              exact lp_182 hw hk nn hnn p0 p1 p2 p3 p4 pp ch (p3 &&& 3) 0 a_1 a75 b76 de false false false false tt_1 _ (One.val rfl) hde (by decide) (by decide +kernel)
set_option maxRecDepth 65536 in
set_option maxHeartbeats 40000000 in
theorem comes_1 {Post : Tables → Env → Array Value → State → Outcome → State → Prop} (hpost : ∀ tb e args s v u, (limb_1_1.after args s (.returned v) u = true ∧ limb_1_2.after args s (.returned v) u = true ∧ True) → FramedW s (.returned v) u (Jvm.fieldLocs frame_1_writes args s ++ Jvm.arrayLocs frame_1_arrays args s ++ Jvm.staticLocs frame_1_statics s) 40 6400 → Post tb e args s (.returned v) u) :
    ArmFor flags0 classFile x code maxLocals ret World_1 tables_1 room_1 Calls_1 rest_1 Pre_1 Post := by
  intro l hfl _ _ p e ha hc hk s m args below hf hA hF happ hP
  obtain ⟨hcalls, hrest, hpre⟩ := hP
  obtain ⟨-, -, -, hnamed, -, -, -, hat⟩ := (Spec.applies_iff hf).mp happ
  obtain ⟨hg, hn⟩ := and_e (Cond.before_iff.mp (show (Jvm.Cond.and given_1 narrow_1).before args s = true from hpre))
  obtain ⟨g1, g2⟩ := and_e hg
  obtain ⟨g3, g4⟩ := and_e g2
  obtain ⟨g5, g6⟩ := and_e g4
  obtain ⟨g7, g8⟩ := and_e g6
  obtain ⟨g9, g10⟩ := and_e g8
  obtain ⟨w0, w1, w2, w3, w4, rfl⟩ : ∃ w0 w1 w2 w3 w4 : Value, args = #[w0, w1, w2, w3, w4] := by
    have hs : args.size = 5 := by simpa [Cond.value, given_1] using g1
    obtain ⟨L⟩ := args
    match L, hs with
    | [w0, w1, w2, w3, w4], _ => exact ⟨w0, w1, w2, w3, w4, rfl⟩
  have hw0 := fun d (hd : d ∈ tables_1) => atoms_spec (ws := Jvm.Cond.code x code maxLocals ret :: tables_1) hat d (List.mem_cons_of_mem _ hd)
  have hfit : Fit s := fun {y c} hc i hi => by
    obtain ⟨ha, rfl⟩ := Array.getElem?_eq_some_iff.mp hc
    have q := List.all_eq_true.mp ((Array.all_eq_true_iff_forall_mem.mp hF) _ (Array.getElem_mem ha)) i (List.mem_range.mpr hi)
    simpa [Array.getElem?_eq_getElem hi] using q
  obtain ⟨hsets, hown0⟩ := atoms_of _ (rest_1_c_eq ▸ (show rest_1_c.before _ s = true from hrest))
  have hr0 := Cond.before_iff.mp hown0
  obtain ⟨i0, ei0⟩ := is_v g3
  obtain rfl : w0 = (.int i0) := Option.some.inj ei0
  obtain ⟨i1, ei1⟩ := is_v g5
  obtain rfl : w1 = (.int i1) := Option.some.inj ei1
  obtain ⟨i2, ei2⟩ := is_v g7
  obtain rfl : w2 = (.int i2) := Option.some.inj ei2
  obtain ⟨i3, ei3⟩ := is_v g9
  obtain rfl : w3 = (.int i3) := Option.some.inj ei3
  obtain ⟨i4, ei4⟩ := is_v g10
  obtain rfl : w4 = (.int i4) := Option.some.inj ei4
  obtain ⟨vc, ec⟩ := is_v (Cond.before_iff.mp (hsets _ (List.mem_of_getElem? (i := 1) rfl)))
  have Sc := Sta.start ec (Or.inl (hsets _ (List.mem_of_getElem? (i := 0) rfl)))
  have cc : ¬ vc = (0 : Int32) := gotF (Cond.eq_ints ec (Term.int_eval (0))) (not_v (Cond.before_iff.mp (hsets _ (List.mem_of_getElem? (i := 2) rfl))))
  obtain ⟨de, ede⟩ := exa_v (Cond.before_iff.mp (hsets _ (List.mem_of_getElem? (i := 16) rfl)))
  have Ede := Exa.start ede (Cond.before_iff.mp (hsets _ (List.mem_of_getElem? (i := 16) rfl)))
  have hde := Sta.start ede (Or.inr ⟨hw0 _ (List.mem_of_getElem? (i := 54) rfl), (hsets _ (List.mem_of_getElem? (i := 11) rfl))⟩)
  have hw : Ws (l, s, #[.int i0, .int i1, .int i2, .int i3, .int i4], s.heap.size, fun _ => True) := ⟨hw0, ⟨_, Sc, cc⟩⟩
  have Dde : DsOk s s.heap de (.inr (.object "java/lang/Object", true, false, [])) := arStart hfit ede (Cond.before_iff.mp (hsets _ (List.mem_of_getElem? (i := 15) rfl))) (Cond.before_iff.mp (hsets _ (List.mem_of_getElem? (i := 17) rfl))) rfl (by decide) (fun i v hv => by simp at hv) (fun _ => Ede)
  have P0 : Hp (l, s, #[.int i0, .int i1, .int i2, .int i3, .int i4], s.heap.size, fun _ => True) s.heap [(de, false, .inr ((.object "java/lang/Object"), true, false, []))] := Hp.old hp0 Dde rfl
  have hCH : CHv s consts_1 s.vm s.heap := CHv.start (a0 := wA (l, s, #[.int i0, .int i1, .int i2, .int i3, .int i4], s.heap.size, fun _ => True)) (ew_1 hw) (fun p hp => show Jvm.Lit.constHeld s p.1 p.2 from hcalls.1 p hp) (hsets _ (List.mem_of_getElem? (i := 2) rfl)) (sa_1 hw _ (List.mem_of_getElem? (i := 2) rfl)) (sa_1 hw _ (List.mem_of_getElem? (i := 1) rfl))
  obtain ⟨n, o, h1, h2, h3, v, L, rfl, ⟨N, -, _, -, rfl, -⟩, -, hq⟩ := (rm_law (W := (l, s, #[.int i0, .int i1, .int i2, .int i3, .int i4], s.heap.size, fun _ => True)) hw i0 i1 i2 i3 i4 de hde) tables_1 s.heap P0 p e ha hc hk s m _ below hf ((Spec.applies_iff_loose hf).mp happ).1 ⟨rfl, State.Warmed39.refl s, rfl, hCH, fun y hy hr => by cases List.mem_singleton.mp hy; cases hr⟩ trivial
  refine ⟨n, _, h1, h2, h3, hpost _ _ _ _ _ _ ⟨Cond.after_iff.mpr rfl, Cond.after_iff.mpr (eq_i res_at (Term.int_eval (1)) rfl), trivial⟩ ⟨hq.1, hq.2.1, hq.2.2.1, (hq.2.2.2.sift fun y hy => Or.inr (N y hy)).mono (by decide) (by decide)⟩⟩
theorem main_1_1 : Claimed_1_1 := comes_1 fun _ _ _ _ _ _ h hF => ⟨h.1, hF⟩
theorem main_1_2 : Claimed_1_2 := comes_1 fun _ _ _ _ _ _ h hF => ⟨h.2.1, hF⟩
end Jvm.Pilot.@@N@@
namespace Jvm.Pilot.@@N@@
open Jvm Jvm.ClassFile Sem Op Lib Jvm.Free Jvm.Stand Jvm.Pilot.@@N@@.Jvm.D
/-! MADE BY PROGRAM (witnessworld.py) out of the Statement's table words and the real class files: 31 classes; the members and pool entries that the words name. The judged class is class 1, her method 4. -/
namespace start1
open Jvm.ClassFile
def u (s : String) : CpInfo := .utf8 (stringToUtf16 s)
/-- a pool by its gaps: so many unusable entries, then the entry; so many at the end -/
def gap : Nat → List CpInfo → List CpInfo
  | 0, r => r
  | n + 1, r => .unusable :: gap n r
def poolList (es : List (Nat × CpInfo)) (last : Nat) : List CpInfo := es.foldr (fun e r => gap e.1 (e.2 :: r)) (gap last [])
def pool (es : List (Nat × CpInfo)) (last : Nat) : Array CpInfo := ⟨poolList es last⟩
def fileOf (pool : Array CpInfo) (this : Nat) (attrs : Array Attribute := #[]) (ms : Array MethodInfo := #[]) (fl : Nat := 33) (sup : Nat := 0) (ifs : Array Nat := #[]) (fds : Array FieldInfo := #[]) : ClassFile where
  minorVersion := 0
  majorVersion := 65
  constantPool := pool
  accessFlags := fl
  thisClass := this
  superClass := sup
  interfaces := ifs
  fields := fds
  methods := ms
  attributes := attrs
def plain (name : String) (sup : Option ClassId) : Class where
  name := name
  kind := .ordinary
  loader := none
  accessFlags := 33
  super := sup
  interfaces := #[]
  cf := none
  fields := #[]
  methods := #[]
  instanceTypes := #[]
  staticTypes := #[]
  resolved := #[]
  callSites := []
  init := .initialized
  statics := none
  mirror := none

def pool0 : Array CpInfo := pool [(5, u "<init>"), (0, u "()V"), (1, .class_ 10), (1, u "java/lang/Object")] 113

def k0c0 : Code := { maxStack := 0, maxLocals := 1, code := object_method_1_code, exceptionTable := #[], attributes := #[] }
def k0m0 : Method := { name := "<init>", desc := "()V", sig := { parameters := [], returnType := none }, accessFlags := 1, code := some k0c0 }
/-- java/lang/Object -/
def k0 : Class := { plain "java/lang/Object" none with
  accessFlags := 33
  interfaces := #[]
  cf := some (fileOf pool0 8 #[] #[{ accessFlags := 1, nameIndex := 5, descriptorIndex := 6, attributes := #[] }] 33 0 #[] #[])
  fields := #[]
  methods := #[k0m0]
  instanceTypes := #[]
  staticTypes := #[]
  resolved := Array.replicate 124 none
  statics := none }

def pool1 : Array CpInfo := pool [(2, .class_ 4), (0, .nameAndType 5 6), (0, u "java/lang/Object"), (0, u "<init>"), (0, u "()V"), (0, .integer 2147483647), (0, .methodref 9 10), (0, .class_ 11), (0, .nameAndType 12 13), (0, u "com/example/binhold/binhold/maven/MavenLayoutIsMetadataPinLaw"), (0, u method_2.name), (0, u "()[C"), (0, .class_ 15), (0, u "java/lang/String"), (0, .methodref 14 17), (0, .nameAndType 5 18), (0, u "([C)V"), (0, .methodref 9 20), (0, .nameAndType 21 22), (0, u "metaPlus"), (0, u "(C)[C"), (0, .methodref 9 24), (0, .nameAndType 25 13), (0, u "metaShort"), (0, .string 27), (0, u "maven-metadata.xml.md5"), (0, .string 29), (0, u "maven-metadata.xml.sha1"), (0, .string 31), (0, u "maven-metadata.xml.asc"), (0, .string 33), (0, u "maven-metadata.xml.sha256"), (0, .string 35), (0, u "maven-metadata.xml"), (0, .methodref 14 37), (0, .nameAndType 38 39), (0, u "valueOf"), (0, u "(C)Ljava/lang/String;"), (0, .class_ 41), (0, u "java/util/ArrayList"), (0, .methodref 40 3), (0, .methodref 40 44), (0, .nameAndType 45 46), (0, u "add"), (0, u "(Ljava/lang/Object;)Z"), (0, .methodref 48 49), (0, .class_ 50), (0, .nameAndType 51 52), (0, u "com/example/binhold/binhold/maven/MavenLayout"), (0, u "isMetadata"), (0, u "(Ljava/util/List;)Z"), (2, u "law"), (0, u "(IIIII)Z")] 5

def k1m0 : Method := { name := "<init>", desc := "()V", sig := { parameters := [], returnType := none }, accessFlags := 1, code := none }
def k1c1 : Code := { maxStack := 4, maxLocals := 0, code := method_2_code, exceptionTable := #[], attributes := #[] }
def k1m1 : Method := { name := method_2.name, desc := "()[C", sig := { parameters := [], returnType := some (.array .char) }, accessFlags := 10, code := some k1c1 }
def k1c2 : Code := { maxStack := 4, maxLocals := 1, code := method_3_code, exceptionTable := #[], attributes := #[] }
def k1m2 : Method := { name := "metaPlus", desc := "(C)[C", sig := { parameters := [.char], returnType := some (.array .char) }, accessFlags := 10, code := some k1c2 }
def k1c3 : Code := { maxStack := 4, maxLocals := 0, code := method_4_code, exceptionTable := #[], attributes := #[] }
def k1m3 : Method := { name := "metaShort", desc := "()[C", sig := { parameters := [], returnType := some (.array .char) }, accessFlags := 10, code := some k1c3 }
def k1c4 : Code := { maxStack := 3, maxLocals := 14, code := code, exceptionTable := #[], attributes := #[] }
def k1m4 : Method := { name := "law", desc := "(IIIII)Z", sig := { parameters := [.int, .int, .int, .int, .int], returnType := some .boolean }, accessFlags := 9, code := some k1c4 }
/-- com/example/binhold/binhold/maven/MavenLayoutIsMetadataPinLaw -/
def k1 : Class := { plain "com/example/binhold/binhold/maven/MavenLayoutIsMetadataPinLaw" (some 0) with
  accessFlags := 49
  interfaces := #[]
  cf := some (fileOf pool1 9 #[] #[{ accessFlags := 1, nameIndex := 5, descriptorIndex := 6, attributes := #[] }, { accessFlags := 10, nameIndex := 12, descriptorIndex := 13, attributes := #[] }, { accessFlags := 10, nameIndex := 21, descriptorIndex := 22, attributes := #[] }, { accessFlags := 10, nameIndex := 25, descriptorIndex := 13, attributes := #[] }, { accessFlags := 9, nameIndex := 55, descriptorIndex := 56, attributes := #[] }] 49 2 #[] #[])
  fields := #[]
  methods := #[k1m0, k1m1, k1m2, k1m3, k1m4]
  instanceTypes := #[]
  staticTypes := #[]
  resolved := Array.replicate 62 none
  statics := none }

def pool2 : Array CpInfo := pool [(1, .class_ 2), (0, u "java/io/Serializable"), (0, .class_ 4), (0, u "java/lang/Object")] 2

/-- java/io/Serializable -/
def k2 : Class := { plain "java/io/Serializable" (some 0) with
  accessFlags := 1537
  interfaces := #[]
  cf := some (fileOf pool2 1 #[] #[] 1537 3 #[] #[])
  fields := #[]
  methods := #[]
  instanceTypes := #[]
  staticTypes := #[]
  resolved := Array.replicate 7 none
  statics := none }

def pool3 : Array CpInfo := pool [(1, .class_ 2), (0, u "java/lang/Comparable"), (0, .class_ 4), (0, u "java/lang/Object")] 7

/-- java/lang/Comparable -/
def k3 : Class := { plain "java/lang/Comparable" (some 0) with
  accessFlags := 1537
  interfaces := #[]
  cf := some (fileOf pool3 1 #[] #[] 1537 3 #[] #[])
  fields := #[]
  methods := #[]
  instanceTypes := #[]
  staticTypes := #[]
  resolved := Array.replicate 12 none
  statics := none }

def pool4 : Array CpInfo := pool [(2, .class_ 4), (1, u "java/lang/CharSequence"), (42, .class_ 48), (0, u "java/lang/CharSequence$1CodePointIterator"), (10, .class_ 60), (0, u "java/lang/CharSequence$1CharIterator"), (5, .class_ 67), (0, u "java/lang/Object")] 63

/-- java/lang/CharSequence -/
def k4 : Class := { plain "java/lang/CharSequence" (some 0) with
  accessFlags := 1537
  interfaces := #[]
  cf := some (fileOf pool4 2 #[.nestMembers #[47, 59]] #[] 1537 66 #[] #[])
  fields := #[]
  methods := #[]
  instanceTypes := #[]
  staticTypes := #[]
  resolved := Array.replicate 131 none
  statics := none }

def pool5 : Array CpInfo := pool [(1, .class_ 2), (0, u "java/lang/constant/Constable"), (0, .class_ 4), (0, u "java/lang/Object")] 6

/-- java/lang/constant/Constable -/
def k5 : Class := { plain "java/lang/constant/Constable" (some 0) with
  accessFlags := 1537
  interfaces := #[]
  cf := some (fileOf pool5 1 #[] #[] 1537 3 #[] #[])
  fields := #[]
  methods := #[]
  instanceTypes := #[]
  staticTypes := #[]
  resolved := Array.replicate 11 none
  statics := none }

def pool6 : Array CpInfo := pool [(1, .class_ 2), (0, u "java/lang/constant/ConstantDesc"), (0, .class_ 4), (0, u "java/lang/Object")] 32

/-- java/lang/constant/ConstantDesc -/
def k6 : Class := { plain "java/lang/constant/ConstantDesc" (some 0) with
  accessFlags := 1537
  interfaces := #[]
  cf := some (fileOf pool6 1 #[] #[] 1537 3 #[] #[])
  fields := #[]
  methods := #[]
  instanceTypes := #[]
  staticTypes := #[]
  resolved := Array.replicate 37 none
  statics := none }

def pool7 : Array CpInfo := pool [(1, .methodref 2 3), (0, .class_ 4), (0, .nameAndType 5 6), (0, u "java/lang/Object"), (0, u "<init>"), (0, u "()V"), (2, .fieldref 10 11), (0, .class_ 12), (0, .nameAndType 13 14), (0, u "java/lang/String"), (0, u "value"), (0, u "[B"), (0, .fieldref 10 16), (0, .nameAndType 17 18), (0, u "coder"), (0, u "B"), (2, u "hash"), (0, u "I"), (2, u "hashIsZero"), (0, u "Z"), (0, .methodref 10 28), (0, .nameAndType 5 29), (0, u "([CIILjava/lang/Void;)V"), (8, .fieldref 10 39), (0, .nameAndType 40 26), (0, u "COMPACT_STRINGS"), (1, .class_ 44), (1, u "java/lang/StringUTF16"), (0, u "compress"), (1, .methodref 42 48), (0, .nameAndType 49 50), (0, u "coderFromArrayLen"), (0, u "([BI)B"), (2, u "toBytes"), (53, .class_ 109), (1, u "java/lang/StringLatin1"), (67, .methodref 42 178), (0, .nameAndType 45 179), (0, u "([CII)[B"), (29, .methodref 10 210), (0, .nameAndType 5 211), (0, u "([BB)V"), (157, u "(C)Z"), (171, .methodref 107 542), (0, .nameAndType 543 544), (0, u "equals"), (0, u "([B[B)Z"), (28, u "(Ljava/lang/Object;)Z"), (1, .class_ 576), (0, u "java/lang/CharSequence"), (22, u "CASE_INSENSITIVE_ORDER"), (0, u "Ljava/util/Comparator;"), (181, u "valueOf"), (0, u "(C)Ljava/lang/String;"), (226, u "([C)V"), (4, .methodref 107 1016), (0, .nameAndType 1017 369), (0, u "canEncode"), (0, .methodref 107 1019), (0, .nameAndType 53 1020), (0, u "(C)[B"), (80, u "serialPersistentFields"), (0, u "[Ljava/io/ObjectStreamField;"), (0, .class_ 1104), (0, u "java/lang/String$CaseInsensitiveComparator"), (1, .class_ 1107), (0, u "java/io/Serializable"), (0, .class_ 1109), (0, u "java/lang/Comparable"), (0, .class_ 1111), (0, u "java/lang/constant/Constable"), (0, .class_ 1113), (0, u "java/lang/constant/ConstantDesc"), (2, u "serialVersionUID"), (0, u "J"), (3, u "REPL"), (0, u "C"), (2, u "LATIN1"), (1, u "UTF16")] 323

def k7m0 : Method := { name := "<init>", desc := "()V", sig := { parameters := [], returnType := none }, accessFlags := 1, code := none }
def k7c1 : Code := { maxStack := 5, maxLocals := 2, code := jdk_42_method_3_code, exceptionTable := #[], attributes := #[] }
def k7m1 : Method := { name := "<init>", desc := "([C)V", sig := { parameters := [(.array .char)], returnType := none }, accessFlags := 1, code := some k7c1 }
def k7c2 : Code := { maxStack := 2, maxLocals := 3, code := jdk_42_method_66_code, exceptionTable := #[], attributes := #[] }
def k7m2 : Method := { name := "equals", desc := "(Ljava/lang/Object;)Z", sig := { parameters := [(.object "java/lang/Object")], returnType := some .boolean }, accessFlags := 1, code := some k7c2 }
def k7c3 : Code := { maxStack := 4, maxLocals := 1, code := jdk_42_method_139_code, exceptionTable := #[], attributes := #[] }
def k7m3 : Method := { name := "valueOf", desc := "(C)Ljava/lang/String;", sig := { parameters := [.char], returnType := some (.object "java/lang/String") }, accessFlags := 9, code := some k7c3 }
def k7c4 : Code := { maxStack := 4, maxLocals := 6, code := jdk_42_method_149_code, exceptionTable := #[], attributes := #[] }
def k7m4 : Method := { name := "<init>", desc := "([CIILjava/lang/Void;)V", sig := { parameters := [(.array .char), .int, .int, (.object "java/lang/Void")], returnType := none }, accessFlags := 2, code := some k7c4 }
def k7c5 : Code := { maxStack := 2, maxLocals := 3, code := jdk_42_method_151_code, exceptionTable := #[], attributes := #[] }
def k7m5 : Method := { name := "<init>", desc := "([BB)V", sig := { parameters := [(.array .byte), .byte], returnType := none }, accessFlags := 0, code := some k7c5 }
/-- java/lang/String -/
def k7 : Class := { plain "java/lang/String" (some 0) with
  accessFlags := 49
  interfaces := #[2, 3, 4, 5, 6]
  cf := some (fileOf pool7 10 #[.nestMembers #[1103]] #[{ accessFlags := 1, nameIndex := 5, descriptorIndex := 6, attributes := #[] }, { accessFlags := 1, nameIndex := 5, descriptorIndex := 1010, attributes := #[] }, { accessFlags := 1, nameIndex := 543, descriptorIndex := 573, attributes := #[] }, { accessFlags := 9, nameIndex := 782, descriptorIndex := 783, attributes := #[] }, { accessFlags := 2, nameIndex := 5, descriptorIndex := 29, attributes := #[] }, { accessFlags := 0, nameIndex := 5, descriptorIndex := 211, attributes := #[] }] 49 2 #[1106, 1108, 575, 1110, 1112] #[{ accessFlags := 18, nameIndex := 13, descriptorIndex := 14, attributes := #[] }, { accessFlags := 18, nameIndex := 17, descriptorIndex := 18, attributes := #[] }, { accessFlags := 2, nameIndex := 21, descriptorIndex := 22, attributes := #[] }, { accessFlags := 2, nameIndex := 25, descriptorIndex := 26, attributes := #[] }, { accessFlags := 26, nameIndex := 1116, descriptorIndex := 1117, attributes := #[] }, { accessFlags := 24, nameIndex := 40, descriptorIndex := 26, attributes := #[] }, { accessFlags := 26, nameIndex := 1101, descriptorIndex := 1102, attributes := #[] }, { accessFlags := 26, nameIndex := 1121, descriptorIndex := 1122, attributes := #[] }, { accessFlags := 25, nameIndex := 599, descriptorIndex := 600, attributes := #[] }, { accessFlags := 24, nameIndex := 1125, descriptorIndex := 18, attributes := #[] }, { accessFlags := 24, nameIndex := 1127, descriptorIndex := 18, attributes := #[] }])
  fields := #[{ name := "value", type := (.array .byte), accessFlags := 18, slot := 0, constantValue := 0 }, { name := "coder", type := .byte, accessFlags := 18, slot := 1, constantValue := 0 }, { name := "hash", type := .int, accessFlags := 2, slot := 2, constantValue := 0 }, { name := "hashIsZero", type := .boolean, accessFlags := 2, slot := 3, constantValue := 0 }, { name := "serialVersionUID", type := .long, accessFlags := 26, slot := 0, constantValue := 0 }, { name := "COMPACT_STRINGS", type := .boolean, accessFlags := 24, slot := 1, constantValue := 0 }, { name := "serialPersistentFields", type := (.array (.object "java/io/ObjectStreamField")), accessFlags := 26, slot := 2, constantValue := 0 }, { name := "REPL", type := .char, accessFlags := 26, slot := 3, constantValue := 0 }, { name := "CASE_INSENSITIVE_ORDER", type := (.object "java/util/Comparator"), accessFlags := 25, slot := 4, constantValue := 0 }, { name := "LATIN1", type := .byte, accessFlags := 24, slot := 5, constantValue := 0 }, { name := "UTF16", type := .byte, accessFlags := 24, slot := 6, constantValue := 0 }]
  methods := #[k7m0, k7m1, k7m2, k7m3, k7m4, k7m5]
  instanceTypes := #[(.array .byte), .byte, .int, .boolean]
  staticTypes := #[.long, .boolean, (.array (.object "java/io/ObjectStreamField")), .char, (.object "java/util/Comparator"), .byte, .byte]
  resolved := Array.replicate 1451 none
  statics := some 0 }

def pool8 : Array CpInfo := pool [(6, .class_ 8), (1, u "java/lang/Object"), (0, u "<init>"), (0, u "()V"), (1, .class_ 14), (1, u "java/lang/StringUTF16"), (31, u "$assertionsDisabled"), (0, u "Z"), (13, u "HI_BYTE_SHIFT"), (0, u "I"), (2, u "LO_BYTE_SHIFT"), (49, .methodref 12 116), (0, .nameAndType 117 118), (0, u "compress"), (0, u "([CI[BII)I"), (3, u "([CII)[B"), (138, u "coderFromArrayLen"), (0, u "([BI)B"), (106, .class_ 371), (1, u "java/lang/StringUTF16$LinesSpliterator"), (58, u "MAX_LENGTH"), (196, .class_ 628), (0, u "java/lang/StringUTF16$CodePointsSpliterator"), (0, .class_ 630), (0, u "java/lang/StringUTF16$CharsSpliterator")] 4

def k8m0 : Method := { name := "<init>", desc := "()V", sig := { parameters := [], returnType := none }, accessFlags := 0, code := none }
def k8c1 : Code := { maxStack := 2, maxLocals := 2, code := jdk_52_method_15_code, exceptionTable := #[], attributes := #[] }
def k8m1 : Method := { name := "coderFromArrayLen", desc := "([BI)B", sig := { parameters := [(.array .byte), .int], returnType := some .byte }, accessFlags := 8, code := some k8c1 }
def k8c2 : Code := { maxStack := 5, maxLocals := 6, code := jdk_52_method_16_code, exceptionTable := #[], attributes := #[] }
def k8m2 : Method := { name := "compress", desc := "([CII)[B", sig := { parameters := [(.array .char), .int, .int], returnType := some (.array .byte) }, accessFlags := 9, code := some k8c2 }
def k8c3 : Code := { maxStack := 3, maxLocals := 7, code := jdk_52_method_21_code, exceptionTable := #[], attributes := #[] }
def k8m3 : Method := { name := "compress", desc := "([CI[BII)I", sig := { parameters := [(.array .char), .int, (.array .byte), .int, .int], returnType := some .int }, accessFlags := 9, code := some k8c3 }
/-- java/lang/StringUTF16 -/
def k8 : Class := { plain "java/lang/StringUTF16" (some 0) with
  accessFlags := 48
  interfaces := #[]
  cf := some (fileOf pool8 12 #[.nestMembers #[627, 629, 369]] #[{ accessFlags := 0, nameIndex := 9, descriptorIndex := 10, attributes := #[] }, { accessFlags := 8, nameIndex := 261, descriptorIndex := 262, attributes := #[] }, { accessFlags := 9, nameIndex := 117, descriptorIndex := 122, attributes := #[] }, { accessFlags := 9, nameIndex := 117, descriptorIndex := 118, attributes := #[] }] 48 6 #[] #[{ accessFlags := 26, nameIndex := 61, descriptorIndex := 62, attributes := #[] }, { accessFlags := 26, nameIndex := 65, descriptorIndex := 62, attributes := #[] }, { accessFlags := 24, nameIndex := 430, descriptorIndex := 62, attributes := #[] }, { accessFlags := 4120, nameIndex := 46, descriptorIndex := 47, attributes := #[] }])
  fields := #[{ name := "HI_BYTE_SHIFT", type := .int, accessFlags := 26, slot := 0, constantValue := 0 }, { name := "LO_BYTE_SHIFT", type := .int, accessFlags := 26, slot := 1, constantValue := 0 }, { name := "MAX_LENGTH", type := .int, accessFlags := 24, slot := 2, constantValue := 0 }, { name := "$assertionsDisabled", type := .boolean, accessFlags := 4120, slot := 3, constantValue := 0 }]
  methods := #[k8m0, k8m1, k8m2, k8m3]
  instanceTypes := #[]
  staticTypes := #[.int, .int, .int, .boolean]
  resolved := Array.replicate 635 none
  statics := none }

def pool9 : Array CpInfo := pool [(4, .class_ 6), (1, u "java/lang/Object"), (0, u "<init>"), (0, u "()V"), (5, .class_ 16), (1, u "java/lang/StringLatin1"), (73, u "canEncode"), (14, u "(C)Z"), (15, u "$assertionsDisabled"), (0, u "Z"), (98, .class_ 223), (1, u "java/lang/StringLatin1$LinesSpliterator"), (57, u "equals"), (0, u "([B[B)Z"), (97, u "toBytes"), (1, u "(C)[B"), (7, .class_ 391), (0, u "java/lang/StringLatin1$CharsSpliterator")] 3

def k9m0 : Method := { name := "<init>", desc := "()V", sig := { parameters := [], returnType := none }, accessFlags := 0, code := none }
def k9c1 : Code := { maxStack := 2, maxLocals := 1, code := jdk_43_method_3_code, exceptionTable := #[], attributes := #[] }
def k9m1 : Method := { name := "canEncode", desc := "(C)Z", sig := { parameters := [.char], returnType := some .boolean }, accessFlags := 9, code := some k9c1 }
def k9c2 : Code := { maxStack := 3, maxLocals := 3, code := jdk_43_method_13_code, exceptionTable := #[], attributes := #[] }
def k9m2 : Method := { name := "equals", desc := "([B[B)Z", sig := { parameters := [(.array .byte), (.array .byte)], returnType := some .boolean }, accessFlags := 9, code := some k9c2 }
def k9c3 : Code := { maxStack := 4, maxLocals := 1, code := jdk_43_method_46_code, exceptionTable := #[], attributes := #[] }
def k9m3 : Method := { name := "toBytes", desc := "(C)[B", sig := { parameters := [.char], returnType := some (.array .byte) }, accessFlags := 9, code := some k9c3 }
/-- java/lang/StringLatin1 -/
def k9 : Class := { plain "java/lang/StringLatin1" (some 0) with
  accessFlags := 48
  interfaces := #[]
  cf := some (fileOf pool9 14 #[.nestMembers #[390, 221]] #[{ accessFlags := 0, nameIndex := 7, descriptorIndex := 8, attributes := #[] }, { accessFlags := 9, nameIndex := 90, descriptorIndex := 105, attributes := #[] }, { accessFlags := 9, nameIndex := 281, descriptorIndex := 282, attributes := #[] }, { accessFlags := 9, nameIndex := 380, descriptorIndex := 382, attributes := #[] }] 48 4 #[] #[{ accessFlags := 4120, nameIndex := 121, descriptorIndex := 122, attributes := #[] }])
  fields := #[{ name := "$assertionsDisabled", type := .boolean, accessFlags := 4120, slot := 0, constantValue := 0 }]
  methods := #[k9m0, k9m1, k9m2, k9m3]
  instanceTypes := #[]
  staticTypes := #[.boolean]
  resolved := Array.replicate 395 none
  statics := none }

def pool10 : Array CpInfo := pool [(8, .class_ 10), (1, u "java/lang/Iterable"), (24, .class_ 36), (0, u "java/lang/Object")] 25

/-- java/lang/Iterable -/
def k10 : Class := { plain "java/lang/Iterable" (some 0) with
  accessFlags := 1537
  interfaces := #[]
  cf := some (fileOf pool10 8 #[] #[] 1537 35 #[] #[])
  fields := #[]
  methods := #[]
  instanceTypes := #[]
  staticTypes := #[]
  resolved := Array.replicate 62 none
  statics := none }

def pool11 : Array CpInfo := pool [(10, .class_ 12), (1, u "java/util/Collection"), (47, .class_ 61), (0, u "java/lang/Object"), (0, .class_ 63), (0, u "java/lang/Iterable")] 51

/-- java/util/Collection -/
def k11 : Class := { plain "java/util/Collection" (some 0) with
  accessFlags := 1537
  interfaces := #[10]
  cf := some (fileOf pool11 10 #[] #[] 1537 60 #[62] #[])
  fields := #[]
  methods := #[]
  instanceTypes := #[]
  staticTypes := #[]
  resolved := Array.replicate 115 none
  statics := none }

def pool12 : Array CpInfo := pool [(1, .methodref 2 3), (0, .class_ 4), (0, .nameAndType 5 6), (0, u "java/lang/Object"), (0, u "<init>"), (0, u "()V"), (1, .class_ 10), (1, u "java/util/AbstractCollection"), (66, .class_ 78), (0, u "java/util/Collection")] 81

def k12c0 : Code := { maxStack := 1, maxLocals := 1, code := jdk_22_method_1_code, exceptionTable := #[], attributes := #[] }
def k12m0 : Method := { name := "<init>", desc := "()V", sig := { parameters := [], returnType := none }, accessFlags := 4, code := some k12c0 }
/-- java/util/AbstractCollection -/
def k12 : Class := { plain "java/util/AbstractCollection" (some 0) with
  accessFlags := 1057
  interfaces := #[11]
  cf := some (fileOf pool12 8 #[] #[{ accessFlags := 4, nameIndex := 5, descriptorIndex := 6, attributes := #[] }] 1057 2 #[77] #[])
  fields := #[]
  methods := #[k12m0]
  instanceTypes := #[]
  staticTypes := #[]
  resolved := Array.replicate 160 none
  statics := none }

def pool13 : Array CpInfo := pool [(8, .class_ 10), (1, u "java/util/SequencedCollection"), (15, .class_ 27), (0, u "java/lang/Object"), (0, .class_ 29), (0, u "java/util/Collection")] 27

/-- java/util/SequencedCollection -/
def k13 : Class := { plain "java/util/SequencedCollection" (some 0) with
  accessFlags := 1537
  interfaces := #[11]
  cf := some (fileOf pool13 8 #[] #[] 1537 26 #[28] #[])
  fields := #[]
  methods := #[]
  instanceTypes := #[]
  staticTypes := #[]
  resolved := Array.replicate 57 none
  statics := none }

def pool14 : Array CpInfo := pool [(8, .class_ 10), (1, u "java/util/List"), (64, u "get"), (0, u "(I)Ljava/lang/Object;"), (2, u "size"), (0, u "()I"), (22, .class_ 104), (0, u "java/lang/Object"), (15, .class_ 121), (0, u "java/util/SequencedCollection")] 129

def k14m0 : Method := { name := "size", desc := "()I", sig := { parameters := [], returnType := some .int }, accessFlags := 1025, code := none }
def k14m1 : Method := { name := "get", desc := "(I)Ljava/lang/Object;", sig := { parameters := [.int], returnType := some (.object "java/lang/Object") }, accessFlags := 1025, code := none }
/-- java/util/List -/
def k14 : Class := { plain "java/util/List" (some 0) with
  accessFlags := 1537
  interfaces := #[13]
  cf := some (fileOf pool14 8 #[] #[{ accessFlags := 1025, nameIndex := 79, descriptorIndex := 80, attributes := #[] }, { accessFlags := 1025, nameIndex := 75, descriptorIndex := 76, attributes := #[] }] 1537 103 #[120] #[])
  fields := #[]
  methods := #[k14m0, k14m1]
  instanceTypes := #[]
  staticTypes := #[]
  resolved := Array.replicate 251 none
  statics := none }

def pool15 : Array CpInfo := pool [(1, .methodref 2 3), (0, .class_ 4), (0, .nameAndType 5 6), (0, u "java/util/AbstractCollection"), (0, u "<init>"), (0, u "()V"), (0, .fieldref 8 9), (0, .class_ 10), (0, .nameAndType 11 12), (0, u "java/util/AbstractList"), (0, u "modCount"), (0, u "I"), (64, .class_ 78), (0, u "java/util/AbstractList$Itr"), (3, .class_ 83), (0, u "java/util/AbstractList$ListItr"), (9, .class_ 94), (0, u "java/util/AbstractList$RandomAccessSubList"), (3, .class_ 99), (0, u "java/util/AbstractList$SubList"), (33, .class_ 134), (0, u "java/util/List"), (73, .class_ 209), (0, u "java/util/AbstractList$SubList$1"), (0, .class_ 211), (0, u "java/util/AbstractList$RandomAccessSpliterator")] 6

def k15c0 : Code := { maxStack := 2, maxLocals := 1, code := jdk_39_method_1_code, exceptionTable := #[], attributes := #[] }
def k15m0 : Method := { name := "<init>", desc := "()V", sig := { parameters := [], returnType := none }, accessFlags := 4, code := some k15c0 }
/-- java/util/AbstractList -/
def k15 : Class := { plain "java/util/AbstractList" (some 12) with
  accessFlags := 1057
  interfaces := #[14]
  cf := some (fileOf pool15 8 #[.nestMembers #[93, 98, 208, 210, 82, 77]] #[{ accessFlags := 4, nameIndex := 5, descriptorIndex := 6, attributes := #[] }] 1057 2 #[133] #[{ accessFlags := 132, nameIndex := 11, descriptorIndex := 12, attributes := #[] }])
  fields := #[{ name := "modCount", type := .int, accessFlags := 132, slot := 0, constantValue := 0 }]
  methods := #[k15m0]
  instanceTypes := #[.int]
  staticTypes := #[]
  resolved := Array.replicate 218 none
  statics := none }

def pool16 : Array CpInfo := pool [(1, .class_ 2), (0, u "java/util/RandomAccess"), (0, .class_ 4), (0, u "java/lang/Object")] 2

/-- java/util/RandomAccess -/
def k16 : Class := { plain "java/util/RandomAccess" (some 0) with
  accessFlags := 1537
  interfaces := #[]
  cf := some (fileOf pool16 1 #[] #[] 1537 3 #[] #[])
  fields := #[]
  methods := #[]
  instanceTypes := #[]
  staticTypes := #[]
  resolved := Array.replicate 7 none
  statics := none }

def pool17 : Array CpInfo := pool [(1, .class_ 2), (0, u "java/lang/Cloneable"), (0, .class_ 4), (0, u "java/lang/Object")] 2

/-- java/lang/Cloneable -/
def k17 : Class := { plain "java/lang/Cloneable" (some 0) with
  accessFlags := 1537
  interfaces := #[]
  cf := some (fileOf pool17 1 #[] #[] 1537 3 #[] #[])
  fields := #[]
  methods := #[]
  instanceTypes := #[]
  staticTypes := #[]
  resolved := Array.replicate 7 none
  statics := none }

def pool18 : Array CpInfo := pool [(1, .methodref 2 3), (0, .class_ 4), (0, .nameAndType 5 6), (0, u "java/util/AbstractList"), (0, u "<init>"), (0, u "()V"), (0, .class_ 8), (0, u "java/lang/Object"), (0, .fieldref 10 11), (0, .class_ 12), (0, .nameAndType 13 14), (0, u "java/util/ArrayList"), (0, u "elementData"), (0, u "[Ljava/lang/Object;"), (2, u "EMPTY_ELEMENTDATA"), (21, .fieldref 10 40), (0, .nameAndType 41 14), (0, u "DEFAULTCAPACITY_EMPTY_ELEMENTDATA"), (5, u "()[Ljava/lang/Object;"), (0, .fieldref 10 49), (0, .nameAndType 50 51), (0, u "size"), (0, u "I"), (11, .fieldref 10 64), (0, .nameAndType 65 51), (0, u "modCount"), (3, .methodref 10 70), (0, .nameAndType 71 72), (0, u "grow"), (0, u "(I)[Ljava/lang/Object;"), (6, .methodref 80 81), (0, .class_ 82), (0, .nameAndType 83 84), (0, u "java/lang/Math"), (0, u "max"), (0, u "(II)I"), (11, u "(Ljava/lang/Object;)Z"), (21, .methodref 119 120), (0, .class_ 121), (0, .nameAndType 122 84), (0, u "java/util/Objects"), (0, u "checkIndex"), (0, .methodref 10 124), (0, .nameAndType 13 125), (0, u "(I)Ljava/lang/Object;"), (3, .methodref 10 130), (0, .nameAndType 71 47), (0, .methodref 10 132), (0, .nameAndType 133 134), (0, u "add"), (0, u "(Ljava/lang/Object;[Ljava/lang/Object;I)V"), (13, .class_ 149), (0, u "java/util/List"), (36, u "()I"), (75, .class_ 263), (0, u "java/util/ArrayList$ListItr"), (3, .class_ 268), (0, u "java/util/ArrayList$Itr"), (7, .class_ 277), (0, u "java/util/ArrayList$SubList"), (12, .class_ 291), (0, u "java/util/ArrayList$ArrayListSpliterator"), (37, .class_ 330), (0, u "java/util/RandomAccess"), (0, .class_ 332), (0, u "java/lang/Cloneable"), (0, .class_ 334), (0, u "java/io/Serializable"), (0, u "serialVersionUID"), (0, u "J"), (3, u "DEFAULT_CAPACITY"), (40, u "get"), (118, .class_ 501), (0, u "java/util/ArrayList$SubList$2"), (0, .class_ 503), (0, u "java/util/ArrayList$SubList$1")] 5

def k18c0 : Code := { maxStack := 2, maxLocals := 1, code := jdk_38_method_2_code, exceptionTable := #[], attributes := #[] }
def k18m0 : Method := { name := "<init>", desc := "()V", sig := { parameters := [], returnType := none }, accessFlags := 1, code := some k18c0 }
def k18c1 : Code := { maxStack := 4, maxLocals := 4, code := jdk_38_method_6_code, exceptionTable := #[], attributes := #[] }
def k18m1 : Method := { name := "grow", desc := "(I)[Ljava/lang/Object;", sig := { parameters := [.int], returnType := some (.array (.object "java/lang/Object")) }, accessFlags := 2, code := some k18c1 }
def k18c2 : Code := { maxStack := 3, maxLocals := 1, code := jdk_38_method_7_code, exceptionTable := #[], attributes := #[] }
def k18m2 : Method := { name := "grow", desc := "()[Ljava/lang/Object;", sig := { parameters := [], returnType := some (.array (.object "java/lang/Object")) }, accessFlags := 2, code := some k18c2 }
def k18c3 : Code := { maxStack := 1, maxLocals := 1, code := jdk_38_method_8_code, exceptionTable := #[], attributes := #[] }
def k18m3 : Method := { name := "size", desc := "()I", sig := { parameters := [], returnType := some .int }, accessFlags := 1, code := some k18c3 }
def k18c4 : Code := { maxStack := 2, maxLocals := 2, code := jdk_38_method_18_code, exceptionTable := #[], attributes := #[] }
def k18m4 : Method := { name := "elementData", desc := "(I)Ljava/lang/Object;", sig := { parameters := [.int], returnType := some (.object "java/lang/Object") }, accessFlags := 0, code := some k18c4 }
def k18c5 : Code := { maxStack := 2, maxLocals := 2, code := jdk_38_method_20_code, exceptionTable := #[], attributes := #[] }
def k18m5 : Method := { name := "get", desc := "(I)Ljava/lang/Object;", sig := { parameters := [.int], returnType := some (.object "java/lang/Object") }, accessFlags := 1, code := some k18c5 }
def k18c6 : Code := { maxStack := 3, maxLocals := 4, code := jdk_38_method_24_code, exceptionTable := #[], attributes := #[] }
def k18m6 : Method := { name := "add", desc := "(Ljava/lang/Object;[Ljava/lang/Object;I)V", sig := { parameters := [(.object "java/lang/Object"), (.array (.object "java/lang/Object")), .int], returnType := none }, accessFlags := 2, code := some k18c6 }
def k18c7 : Code := { maxStack := 4, maxLocals := 2, code := jdk_38_method_25_code, exceptionTable := #[], attributes := #[] }
def k18m7 : Method := { name := "add", desc := "(Ljava/lang/Object;)Z", sig := { parameters := [(.object "java/lang/Object")], returnType := some .boolean }, accessFlags := 1, code := some k18c7 }
/-- java/util/ArrayList -/
def k18 : Class := { plain "java/util/ArrayList" (some 15) with
  accessFlags := 33
  interfaces := #[14, 16, 17, 2]
  cf := some (fileOf pool18 10 #[.nestMembers #[290, 276, 500, 502, 262, 267]] #[{ accessFlags := 1, nameIndex := 5, descriptorIndex := 6, attributes := #[] }, { accessFlags := 2, nameIndex := 71, descriptorIndex := 72, attributes := #[] }, { accessFlags := 2, nameIndex := 71, descriptorIndex := 47, attributes := #[] }, { accessFlags := 1, nameIndex := 50, descriptorIndex := 186, attributes := #[] }, { accessFlags := 0, nameIndex := 13, descriptorIndex := 125, attributes := #[] }, { accessFlags := 1, nameIndex := 381, descriptorIndex := 125, attributes := #[] }, { accessFlags := 2, nameIndex := 133, descriptorIndex := 134, attributes := #[] }, { accessFlags := 1, nameIndex := 133, descriptorIndex := 96, attributes := #[] }] 33 2 #[148, 329, 331, 333] #[{ accessFlags := 26, nameIndex := 335, descriptorIndex := 336, attributes := #[] }, { accessFlags := 26, nameIndex := 340, descriptorIndex := 51, attributes := #[] }, { accessFlags := 26, nameIndex := 17, descriptorIndex := 14, attributes := #[] }, { accessFlags := 26, nameIndex := 41, descriptorIndex := 14, attributes := #[] }, { accessFlags := 128, nameIndex := 13, descriptorIndex := 14, attributes := #[] }, { accessFlags := 2, nameIndex := 50, descriptorIndex := 51, attributes := #[] }])
  fields := #[{ name := "serialVersionUID", type := .long, accessFlags := 26, slot := 0, constantValue := 0 }, { name := "DEFAULT_CAPACITY", type := .int, accessFlags := 26, slot := 1, constantValue := 0 }, { name := "EMPTY_ELEMENTDATA", type := (.array (.object "java/lang/Object")), accessFlags := 26, slot := 2, constantValue := 0 }, { name := "DEFAULTCAPACITY_EMPTY_ELEMENTDATA", type := (.array (.object "java/lang/Object")), accessFlags := 26, slot := 3, constantValue := 0 }, { name := "elementData", type := (.array (.object "java/lang/Object")), accessFlags := 128, slot := 1, constantValue := 0 }, { name := "size", type := .int, accessFlags := 2, slot := 2, constantValue := 0 }]
  methods := #[k18m0, k18m1, k18m2, k18m3, k18m4, k18m5, k18m6, k18m7]
  instanceTypes := #[.int, (.array (.object "java/lang/Object")), .int]
  staticTypes := #[.long, .int, (.array (.object "java/lang/Object")), (.array (.object "java/lang/Object"))]
  resolved := Array.replicate 509 none
  statics := some 1 }

def pool19 : Array CpInfo := pool [(1, .class_ 2), (0, u "java/lang/Math"), (1, .class_ 6), (1, u "java/lang/Object"), (0, u "<init>"), (0, u "()V"), (89, .class_ 100), (1, u "java/lang/Math$RandomNumberGeneratorHolder"), (71, u "negativeZeroFloatBits"), (0, u "J"), (2, u "negativeZeroDoubleBits"), (21, u "max"), (46, u "$assertionsDisabled"), (0, u "Z"), (88, u "(II)I"), (2, u "twoToTheDoubleScaleDown"), (0, u "D"), (4, u "twoToTheDoubleScaleUp"), (9, u "E"), (3, u "PI"), (2, u "TAU"), (2, u "DEGREES_TO_RADIANS"), (0, u "RADIANS_TO_DEGREES")] 94

def k19m0 : Method := { name := "<init>", desc := "()V", sig := { parameters := [], returnType := none }, accessFlags := 2, code := none }
def k19c1 : Code := { maxStack := 2, maxLocals := 2, code := jdk_29_method_65_code, exceptionTable := #[], attributes := #[] }
def k19m1 : Method := { name := "max", desc := "(II)I", sig := { parameters := [.int, .int], returnType := some .int }, accessFlags := 9, code := some k19c1 }
/-- java/lang/Math -/
def k19 : Class := { plain "java/lang/Math" (some 0) with
  accessFlags := 49
  interfaces := #[]
  cf := some (fileOf pool19 1 #[.nestMembers #[98]] #[{ accessFlags := 2, nameIndex := 7, descriptorIndex := 8, attributes := #[] }, { accessFlags := 9, nameIndex := 198, descriptorIndex := 335, attributes := #[] }] 49 4 #[] #[{ accessFlags := 25, nameIndex := 354, descriptorIndex := 339, attributes := #[] }, { accessFlags := 25, nameIndex := 358, descriptorIndex := 339, attributes := #[] }, { accessFlags := 25, nameIndex := 361, descriptorIndex := 339, attributes := #[] }, { accessFlags := 26, nameIndex := 364, descriptorIndex := 339, attributes := #[] }, { accessFlags := 26, nameIndex := 365, descriptorIndex := 339, attributes := #[] }, { accessFlags := 26, nameIndex := 172, descriptorIndex := 173, attributes := #[] }, { accessFlags := 26, nameIndex := 176, descriptorIndex := 173, attributes := #[] }, { accessFlags := 8, nameIndex := 344, descriptorIndex := 339, attributes := #[] }, { accessFlags := 8, nameIndex := 338, descriptorIndex := 339, attributes := #[] }, { accessFlags := 4120, nameIndex := 245, descriptorIndex := 246, attributes := #[] }])
  fields := #[{ name := "E", type := .double, accessFlags := 25, slot := 0, constantValue := 0 }, { name := "PI", type := .double, accessFlags := 25, slot := 1, constantValue := 0 }, { name := "TAU", type := .double, accessFlags := 25, slot := 2, constantValue := 0 }, { name := "DEGREES_TO_RADIANS", type := .double, accessFlags := 26, slot := 3, constantValue := 0 }, { name := "RADIANS_TO_DEGREES", type := .double, accessFlags := 26, slot := 4, constantValue := 0 }, { name := "negativeZeroFloatBits", type := .long, accessFlags := 26, slot := 5, constantValue := 0 }, { name := "negativeZeroDoubleBits", type := .long, accessFlags := 26, slot := 6, constantValue := 0 }, { name := "twoToTheDoubleScaleUp", type := .double, accessFlags := 8, slot := 7, constantValue := 0 }, { name := "twoToTheDoubleScaleDown", type := .double, accessFlags := 8, slot := 8, constantValue := 0 }, { name := "$assertionsDisabled", type := .boolean, accessFlags := 4120, slot := 9, constantValue := 0 }]
  methods := #[k19m0, k19m1]
  instanceTypes := #[]
  staticTypes := #[.double, .double, .double, .double, .double, .long, .long, .double, .double, .boolean]
  resolved := Array.replicate 460 none
  statics := none }

def pool20 : Array CpInfo := pool [(2, .class_ 4), (1, u "java/lang/Object"), (0, u "<init>"), (0, u "()V"), (0, .interfaceMethodref 8 9), (0, .class_ 10), (0, .nameAndType 11 12), (0, u "java/util/List"), (0, u "size"), (0, u "()I"), (0, .interfaceMethodref 8 14), (0, .nameAndType 15 16), (0, u "get"), (0, u "(I)Ljava/lang/Object;"), (0, .class_ 18), (0, u "java/lang/String"), (1, .class_ 22), (1, u "com/example/binhold/binhold/maven/MavenLayout"), (0, u "METADATA_FILES"), (0, u "Ljava/util/Set;"), (5, u "(Ljava/lang/Object;)Z"), (13, u "METADATA"), (64, .string 110), (0, u "maven-metadata.xml"), (0, .methodref 17 112), (0, .nameAndType 113 30), (0, u "equals"), (64, u "SIGNATURE"), (0, u "Ljava/lang/String;"), (3, u "SNAPSHOT"), (0, u "TIMESTAMP"), (2, u "CLASSIFIER_AND_EXTENSION"), (9, u "isMetadata"), (0, u "(Ljava/util/List;)Z")] 50

def k20m0 : Method := { name := "<init>", desc := "()V", sig := { parameters := [], returnType := none }, accessFlags := 2, code := none }
def k20c1 : Code := { maxStack := 3, maxLocals := 1, code := prog_27_method_4_code, exceptionTable := #[], attributes := #[] }
def k20m1 : Method := { name := "isMetadata", desc := "(Ljava/util/List;)Z", sig := { parameters := [(.object "java/util/List")], returnType := some .boolean }, accessFlags := 9, code := some k20c1 }
/-- com/example/binhold/binhold/maven/MavenLayout -/
def k20 : Class := { plain "com/example/binhold/binhold/maven/MavenLayout" (some 0) with
  accessFlags := 49
  interfaces := #[]
  cf := some (fileOf pool20 20 #[] #[{ accessFlags := 2, nameIndex := 5, descriptorIndex := 6, attributes := #[] }, { accessFlags := 9, nameIndex := 197, descriptorIndex := 198, attributes := #[] }] 49 2 #[] #[{ accessFlags := 26, nameIndex := 178, descriptorIndex := 179, attributes := #[] }, { accessFlags := 26, nameIndex := 44, descriptorIndex := 179, attributes := #[] }, { accessFlags := 26, nameIndex := 23, descriptorIndex := 24, attributes := #[] }, { accessFlags := 26, nameIndex := 183, descriptorIndex := 179, attributes := #[] }, { accessFlags := 26, nameIndex := 184, descriptorIndex := 179, attributes := #[] }, { accessFlags := 26, nameIndex := 187, descriptorIndex := 179, attributes := #[] }])
  fields := #[{ name := "SIGNATURE", type := (.object "java/lang/String"), accessFlags := 26, slot := 0, constantValue := 0 }, { name := "METADATA", type := (.object "java/lang/String"), accessFlags := 26, slot := 1, constantValue := 0 }, { name := "METADATA_FILES", type := (.object "java/util/Set"), accessFlags := 26, slot := 2, constantValue := 0 }, { name := "SNAPSHOT", type := (.object "java/lang/String"), accessFlags := 26, slot := 3, constantValue := 0 }, { name := "TIMESTAMP", type := (.object "java/lang/String"), accessFlags := 26, slot := 4, constantValue := 0 }, { name := "CLASSIFIER_AND_EXTENSION", type := (.object "java/lang/String"), accessFlags := 26, slot := 5, constantValue := 0 }]
  methods := #[k20m0, k20m1]
  instanceTypes := #[]
  staticTypes := #[(.object "java/lang/String"), (.object "java/lang/String"), (.object "java/util/Set"), (.object "java/lang/String"), (.object "java/lang/String"), (.object "java/lang/String")]
  resolved := Array.replicate 249 none
  statics := none }

def pool21 : Array CpInfo := pool [(2, .class_ 4), (1, u "java/lang/Object"), (0, u "<init>"), (0, u "()V"), (35, .class_ 44), (1, u "java/util/Objects"), (60, .methodref 106 107), (0, .class_ 108), (0, .nameAndType 109 110), (0, u "jdk/internal/util/Preconditions"), (0, u "checkIndex"), (0, u "(IILjava/util/function/BiFunction;)I"), (60, u "(II)I")] 12

def k21m0 : Method := { name := "<init>", desc := "()V", sig := { parameters := [], returnType := none }, accessFlags := 2, code := none }
def k21c1 : Code := { maxStack := 3, maxLocals := 2, code := jdk_31_method_17_code, exceptionTable := #[], attributes := #[] }
def k21m1 : Method := { name := "checkIndex", desc := "(II)I", sig := { parameters := [.int, .int], returnType := some .int }, accessFlags := 9, code := some k21c1 }
/-- java/util/Objects -/
def k21 : Class := { plain "java/util/Objects" (some 0) with
  accessFlags := 49
  interfaces := #[]
  cf := some (fileOf pool21 42 #[] #[{ accessFlags := 2, nameIndex := 5, descriptorIndex := 6, attributes := #[] }, { accessFlags := 9, nameIndex := 109, descriptorIndex := 171, attributes := #[] }] 49 2 #[] #[])
  fields := #[]
  methods := #[k21m0, k21m1]
  instanceTypes := #[]
  staticTypes := #[]
  resolved := Array.replicate 184 none
  statics := none }

def pool22 : Array CpInfo := pool [(2, .class_ 4), (1, u "java/lang/Object"), (0, u "<init>"), (0, u "()V"), (17, .class_ 26), (1, u "jdk/internal/util/Preconditions"), (6, u "checkIndex"), (21, .class_ 56), (0, u "jdk/internal/util/Preconditions$4"), (57, .class_ 115), (0, u "jdk/internal/util/Preconditions$1"), (7, u "SIOOBE_FORMATTER"), (0, u "Ljava/util/function/BiFunction;"), (0, .class_ 126), (0, u "jdk/internal/util/Preconditions$2"), (3, u "AIOOBE_FORMATTER"), (0, .class_ 132), (0, u "jdk/internal/util/Preconditions$3"), (3, u "IOOBE_FORMATTER"), (41, u "(IILjava/util/function/BiFunction;)I")] 15

def k22m0 : Method := { name := "<init>", desc := "()V", sig := { parameters := [], returnType := none }, accessFlags := 1, code := none }
def k22c1 : Code := { maxStack := 3, maxLocals := 3, code := jdk_41_method_11_code, exceptionTable := #[], attributes := #[] }
def k22m1 : Method := { name := "checkIndex", desc := "(IILjava/util/function/BiFunction;)I", sig := { parameters := [.int, .int, (.object "java/util/function/BiFunction")], returnType := some .int }, accessFlags := 9, code := some k22c1 }
/-- jdk/internal/util/Preconditions -/
def k22 : Class := { plain "jdk/internal/util/Preconditions" (some 0) with
  accessFlags := 33
  interfaces := #[]
  cf := some (fileOf pool22 24 #[.nestMembers #[55, 131, 125, 114]] #[{ accessFlags := 1, nameIndex := 5, descriptorIndex := 6, attributes := #[] }, { accessFlags := 9, nameIndex := 33, descriptorIndex := 178, attributes := #[] }] 33 2 #[] #[{ accessFlags := 25, nameIndex := 123, descriptorIndex := 124, attributes := #[] }, { accessFlags := 25, nameIndex := 130, descriptorIndex := 124, attributes := #[] }, { accessFlags := 25, nameIndex := 136, descriptorIndex := 124, attributes := #[] }])
  fields := #[{ name := "SIOOBE_FORMATTER", type := (.object "java/util/function/BiFunction"), accessFlags := 25, slot := 0, constantValue := 0 }, { name := "AIOOBE_FORMATTER", type := (.object "java/util/function/BiFunction"), accessFlags := 25, slot := 1, constantValue := 0 }, { name := "IOOBE_FORMATTER", type := (.object "java/util/function/BiFunction"), accessFlags := 25, slot := 2, constantValue := 0 }]
  methods := #[k22m0, k22m1]
  instanceTypes := #[]
  staticTypes := #[(.object "java/util/function/BiFunction"), (.object "java/util/function/BiFunction"), (.object "java/util/function/BiFunction")]
  resolved := Array.replicate 194 none
  statics := some 2 }

def pool23 : Array CpInfo := pool [(9, u "<init>"), (6, .class_ 18), (1, u "java/lang/Object"), (0, u "()V"), (1, .class_ 23), (1, u "jdk/internal/util/ArraysSupport"), (0, u "LOG2_ARRAY_LONG_INDEX_SCALE"), (0, u "I"), (2, u "U"), (0, u "Ljdk/internal/misc/Unsafe;"), (8, u "BIG_ENDIAN"), (0, u "Z"), (8, u "LOG2_BYTE_BIT_SIZE"), (4, u "LOG2_ARRAY_INT_INDEX_SCALE"), (54, u "JLA"), (0, u "Ljdk/internal/access/JavaLangAccess;"), (11, u "LOG2_ARRAY_BOOLEAN_INDEX_SCALE"), (9, u "LOG2_ARRAY_BYTE_INDEX_SCALE"), (5, u "LOG2_ARRAY_CHAR_INDEX_SCALE"), (5, u "LOG2_ARRAY_SHORT_INDEX_SCALE"), (18, u "LOG2_ARRAY_FLOAT_INDEX_SCALE"), (24, u "LOG2_ARRAY_DOUBLE_INDEX_SCALE"), (89, u "T_BOOLEAN"), (2, u "T_CHAR"), (1, u "T_FLOAT"), (1, u "T_DOUBLE"), (1, u "T_BYTE"), (1, u "T_SHORT"), (1, u "T_INT"), (1, u "T_LONG"), (1, u "SOFT_MAX_ARRAY_LENGTH")] 83

def k23m0 : Method := { name := "<init>", desc := "()V", sig := { parameters := [], returnType := none }, accessFlags := 2, code := none }
/-- jdk/internal/util/ArraysSupport -/
def k23 : Class := { plain "jdk/internal/util/ArraysSupport" (some 0) with
  accessFlags := 33
  interfaces := #[]
  cf := some (fileOf pool23 21 #[] #[{ accessFlags := 2, nameIndex := 9, descriptorIndex := 19, attributes := #[] }] 33 16 #[] #[{ accessFlags := 24, nameIndex := 28, descriptorIndex := 29, attributes := #[] }, { accessFlags := 26, nameIndex := 38, descriptorIndex := 39, attributes := #[] }, { accessFlags := 25, nameIndex := 121, descriptorIndex := 25, attributes := #[] }, { accessFlags := 25, nameIndex := 131, descriptorIndex := 25, attributes := #[] }, { accessFlags := 25, nameIndex := 137, descriptorIndex := 25, attributes := #[] }, { accessFlags := 25, nameIndex := 143, descriptorIndex := 25, attributes := #[] }, { accessFlags := 25, nameIndex := 53, descriptorIndex := 25, attributes := #[] }, { accessFlags := 25, nameIndex := 24, descriptorIndex := 25, attributes := #[] }, { accessFlags := 25, nameIndex := 162, descriptorIndex := 25, attributes := #[] }, { accessFlags := 25, nameIndex := 187, descriptorIndex := 25, attributes := #[] }, { accessFlags := 26, nameIndex := 48, descriptorIndex := 25, attributes := #[] }, { accessFlags := 25, nameIndex := 277, descriptorIndex := 25, attributes := #[] }, { accessFlags := 25, nameIndex := 280, descriptorIndex := 25, attributes := #[] }, { accessFlags := 25, nameIndex := 282, descriptorIndex := 25, attributes := #[] }, { accessFlags := 25, nameIndex := 284, descriptorIndex := 25, attributes := #[] }, { accessFlags := 25, nameIndex := 286, descriptorIndex := 25, attributes := #[] }, { accessFlags := 25, nameIndex := 288, descriptorIndex := 25, attributes := #[] }, { accessFlags := 25, nameIndex := 290, descriptorIndex := 25, attributes := #[] }, { accessFlags := 25, nameIndex := 292, descriptorIndex := 25, attributes := #[] }, { accessFlags := 26, nameIndex := 108, descriptorIndex := 109, attributes := #[] }, { accessFlags := 25, nameIndex := 294, descriptorIndex := 25, attributes := #[] }])
  fields := #[{ name := "U", type := (.object "jdk/internal/misc/Unsafe"), accessFlags := 24, slot := 0, constantValue := 0 }, { name := "BIG_ENDIAN", type := .boolean, accessFlags := 26, slot := 1, constantValue := 0 }, { name := "LOG2_ARRAY_BOOLEAN_INDEX_SCALE", type := .int, accessFlags := 25, slot := 2, constantValue := 0 }, { name := "LOG2_ARRAY_BYTE_INDEX_SCALE", type := .int, accessFlags := 25, slot := 3, constantValue := 0 }, { name := "LOG2_ARRAY_CHAR_INDEX_SCALE", type := .int, accessFlags := 25, slot := 4, constantValue := 0 }, { name := "LOG2_ARRAY_SHORT_INDEX_SCALE", type := .int, accessFlags := 25, slot := 5, constantValue := 0 }, { name := "LOG2_ARRAY_INT_INDEX_SCALE", type := .int, accessFlags := 25, slot := 6, constantValue := 0 }, { name := "LOG2_ARRAY_LONG_INDEX_SCALE", type := .int, accessFlags := 25, slot := 7, constantValue := 0 }, { name := "LOG2_ARRAY_FLOAT_INDEX_SCALE", type := .int, accessFlags := 25, slot := 8, constantValue := 0 }, { name := "LOG2_ARRAY_DOUBLE_INDEX_SCALE", type := .int, accessFlags := 25, slot := 9, constantValue := 0 }, { name := "LOG2_BYTE_BIT_SIZE", type := .int, accessFlags := 26, slot := 10, constantValue := 0 }, { name := "T_BOOLEAN", type := .int, accessFlags := 25, slot := 11, constantValue := 0 }, { name := "T_CHAR", type := .int, accessFlags := 25, slot := 12, constantValue := 0 }, { name := "T_FLOAT", type := .int, accessFlags := 25, slot := 13, constantValue := 0 }, { name := "T_DOUBLE", type := .int, accessFlags := 25, slot := 14, constantValue := 0 }, { name := "T_BYTE", type := .int, accessFlags := 25, slot := 15, constantValue := 0 }, { name := "T_SHORT", type := .int, accessFlags := 25, slot := 16, constantValue := 0 }, { name := "T_INT", type := .int, accessFlags := 25, slot := 17, constantValue := 0 }, { name := "T_LONG", type := .int, accessFlags := 25, slot := 18, constantValue := 0 }, { name := "JLA", type := (.object "jdk/internal/access/JavaLangAccess"), accessFlags := 26, slot := 19, constantValue := 0 }, { name := "SOFT_MAX_ARRAY_LENGTH", type := .int, accessFlags := 25, slot := 20, constantValue := 0 }]
  methods := #[k23m0]
  instanceTypes := #[]
  staticTypes := #[(.object "jdk/internal/misc/Unsafe"), .boolean, .int, .int, .int, .int, .int, .int, .int, .int, .int, .int, .int, .int, .int, .int, .int, .int, .int, (.object "jdk/internal/access/JavaLangAccess"), .int]
  resolved := Array.replicate 378 none
  statics := none }

/-- the primitive byte -/
def k24 : Class := { plain "byte" none with kind := .primitive 'B', accessFlags := 0x411 }
/-- [B -/
def k25 : Class := { plain "[B" (some 0) with kind := .array 24 .byte, interfaces := #[17, 2], accessFlags := 1041 }

/-- the primitive char -/
def k26 : Class := { plain "char" none with kind := .primitive 'C', accessFlags := 0x411 }
/-- [C -/
def k27 : Class := { plain "[C" (some 0) with kind := .array 26 .char, interfaces := #[17, 2], accessFlags := 1041 }

/-- the primitive int -/
def k28 : Class := { plain "int" none with kind := .primitive 'I', accessFlags := 0x411 }
/-- [I -/
def k29 : Class := { plain "[I" (some 0) with kind := .array 28 .int, interfaces := #[17, 2], accessFlags := 1041 }

/-- [Ljava/lang/Object; -/
def k30 : Class := { plain "[Ljava/lang/Object;" (some 0) with kind := .array 0 (.object "java/lang/Object"), interfaces := #[17, 2], accessFlags := 1041 }

def heap : Heap := #[{ cls := 7, slots := #[.long 0, .int 1, .null, .int 0, .null, .int 0, .int 0], vm := .statics 7 },
  { cls := 18, slots := #[.long 0, .int 0, .ref 3, .ref 4], vm := .statics 18 },
  { cls := 22, slots := #[.null, .null, .null], vm := .statics 22 },
  { cls := 30, slots := #[], vm := .none },
  { cls := 30, slots := #[], vm := .none }]
def classes : Array Class := #[k0, k1, k2, k3, k4, k5, k6, k7, k8, k9, k10, k11, k12, k13, k14, k15, k16, k17, k18, k19, k20, k21, k22, k23, k24, k25, k26, k27, k28, k29, k30]
def interned : List (Array UInt16 × Addr) := []
def slotsUsed : Nat := 14
def theMethod : MethodId := ⟨1, 4⟩
def args0 : Array Value := #[.int 5, .int 7, .int 9, .int 3, .int 4]
def aboutOver (below : List Frame) : State where
  vm := { classes := classes, interned := interned.toArray }
  heap := heap
  slotsUsed := slotsUsed
  threads := #[{ frames := .invoking theMethod args0 :: below }]
def below0 : List Frame := [.native { method := ⟨0, 0⟩, args := #[] }]
def about1 : State := aboutOver below0
def p0 : Program := .bare "" "" ""
def e0 : Env := launch0.env 0 0 0
theorem w_frames : about1.frames = Frame.invoking theMethod args0 :: below0 := rfl
set_option maxRecDepth 65536 in
theorem w_args : argsFit about1.vm theMethod args0 = true := by decide +kernel
set_option maxRecDepth 65536 in
theorem w_heap : heapFits about1 = true := by decide +kernel
set_option maxRecDepth 65536 in
theorem w_runnable : about1.curStatus? = some .runnable := by decide +kernel
set_option maxRecDepth 65536 in
theorem w_alone : about1.alone = true := by decide +kernel
set_option maxRecDepth 65536 in
theorem w_named : about1.methodNamed? x = some theMethod := by decide +kernel
set_option maxRecDepth 65536 in
theorem w_hears : about1.hears theMethod below0 = true := by decide +kernel
set_option maxRecDepth 65536 in
theorem w_ripe : about1.ripe theMethod args0 below0 = true := by decide +kernel
theorem w_running : about1.status = .running := rfl
set_option maxRecDepth 65536 in
theorem w_room : about1.hasRoom e0.platform room_1 = true :=
  launch0.hasRoom_least _ room_1 (by decide +kernel) (by decide +kernel) (by decide +kernel) (by decide +kernel) (by decide +kernel) (by decide +kernel)
theorem allAtoms_all (ts : List Jvm.Cond) (a : Array Jvm.Value) (st : Jvm.State) : (allAtoms ts).before a st = ts.all (fun c => c.before a st) := by
  induction ts with
  | nil => rfl
  | cons c t ih =>
    show (Jvm.Cond.and c (allAtoms t)).before a st = _
    rw [Jvm.Cond.before_and, ih, List.all_cons]
def words1 : List Jvm.Cond := Jvm.Cond.code x code maxLocals ret :: tables_1
/-- a 'code' word, met by the world's own term for the bytes: nothing is compared byte by byte -/
theorem code_word {y : MethodName} {bytes : ByteArray} {mx : Nat} {rt : Option FieldType} {a : Array Value} {s : State} {m : MethodId} {meth : Method} {c : Code} (h1 : s.methodNamed? y = some m) (h2 : s.vm.method? m = some meth) (h3 : meth.code = some c) (h4 : c.code = bytes)
    (h5 : (c.maxLocals == mx && c.exceptionTable.isEmpty && decide (c.maxStack ≤ mostOperands) && decide (meth.sig.returnType = rt) && !meth.locks && decide (parseMethodDescriptor y.desc = some meth.sig)) = true) : (Jvm.Cond.code y bytes mx rt).before a s = true := by
  simp only [Bool.and_eq_true, beq_iff_eq, Bool.not_eq_true', decide_eq_true_eq] at h5
  obtain ⟨⟨⟨⟨⟨g1, g2⟩, g3⟩, g4⟩, g5⟩, g6⟩ := h5
  simp [Cond.before, Cond.holds, Cond.value, h1, h2, h3, h4, g1, g2, g3, g4, g5, g6]
def isCode : Jvm.Cond → Bool
  | .code _ _ _ _ => true
  | _ => false
theorem all_split {L : List Jvm.Cond} {P : Jvm.Cond → Bool} (h1 : L.all (fun c => isCode c || P c) = true) (h2 : ∀ c ∈ L.filter isCode, P c = true) : L.all P = true := by
  refine List.all_eq_true.mpr fun c hc => ?_
  have h := List.all_eq_true.mp h1 c hc
  rcases Bool.eq_false_or_eq_true (isCode c) with hi | hi
  · exact h2 c (List.mem_filter.mpr ⟨hc, hi⟩)
  · simpa [hi] using h
set_option maxRecDepth 65536 in
theorem w_c0 : (Jvm.Cond.code x code maxLocals ret).before args0 about1 = true := code_word (m := ⟨1, 4⟩) (meth := k1m4) (c := k1c4) (by decide +kernel) rfl rfl rfl (by decide +kernel)
set_option maxRecDepth 65536 in
theorem w_c1 : (Jvm.Cond.code method_2 method_2_code (0 : Nat) (Option.some (Jvm.ClassFile.FieldType.array Jvm.ClassFile.FieldType.char))).before args0 about1 = true := code_word (m := ⟨1, 1⟩) (meth := k1m1) (c := k1c1) (by decide +kernel) rfl rfl rfl (by decide +kernel)
set_option maxRecDepth 65536 in
theorem w_c2 : (Jvm.Cond.code ({ cls := "com/example/binhold/binhold/maven/MavenLayoutIsMetadataPinLaw", name := "metaPlus", desc := "(C)[C" } : Jvm.MethodName) method_3_code (1 : Nat) (Option.some (Jvm.ClassFile.FieldType.array Jvm.ClassFile.FieldType.char))).before args0 about1 = true := code_word (m := ⟨1, 2⟩) (meth := k1m2) (c := k1c2) (by decide +kernel) rfl rfl rfl (by decide +kernel)
set_option maxRecDepth 65536 in
theorem w_c3 : (Jvm.Cond.code ({ cls := "java/lang/String", name := "<init>", desc := "([C)V" } : Jvm.MethodName) jdk_42_method_3_code (2 : Nat) (Option.none : Option Jvm.ClassFile.FieldType)).before args0 about1 = true := code_word (m := ⟨7, 1⟩) (meth := k7m1) (c := k7c1) (by decide +kernel) rfl rfl rfl (by decide +kernel)
set_option maxRecDepth 65536 in
theorem w_c4 : (Jvm.Cond.code ({ cls := "java/lang/String", name := "<init>", desc := "([CIILjava/lang/Void;)V" } : Jvm.MethodName) jdk_42_method_149_code (6 : Nat) (Option.none : Option Jvm.ClassFile.FieldType)).before args0 about1 = true := code_word (m := ⟨7, 4⟩) (meth := k7m4) (c := k7c4) (by decide +kernel) rfl rfl rfl (by decide +kernel)
set_option maxRecDepth 65536 in
theorem w_c5 : (Jvm.Cond.code ({ cls := "java/lang/Object", name := "<init>", desc := "()V" } : Jvm.MethodName) object_method_1_code (1 : Nat) (Option.none : Option Jvm.ClassFile.FieldType)).before args0 about1 = true := code_word (m := ⟨0, 0⟩) (meth := k0m0) (c := k0c0) (by decide +kernel) rfl rfl rfl (by decide +kernel)
set_option maxRecDepth 65536 in
theorem w_c6 : (Jvm.Cond.code ({ cls := "java/lang/StringUTF16", name := "compress", desc := "([CII)[B" } : Jvm.MethodName) jdk_52_method_16_code (6 : Nat) (Option.some (Jvm.ClassFile.FieldType.array Jvm.ClassFile.FieldType.byte))).before args0 about1 = true := code_word (m := ⟨8, 2⟩) (meth := k8m2) (c := k8c2) (by decide +kernel) rfl rfl rfl (by decide +kernel)
set_option maxRecDepth 65536 in
theorem w_c7 : (Jvm.Cond.code ({ cls := "java/lang/StringUTF16", name := "compress", desc := "([CI[BII)I" } : Jvm.MethodName) jdk_52_method_21_code (7 : Nat) (Option.some Jvm.ClassFile.FieldType.int)).before args0 about1 = true := code_word (m := ⟨8, 3⟩) (meth := k8m3) (c := k8c3) (by decide +kernel) rfl rfl rfl (by decide +kernel)
set_option maxRecDepth 65536 in
theorem w_c8 : (Jvm.Cond.code ({ cls := "java/lang/StringUTF16", name := "coderFromArrayLen", desc := "([BI)B" } : Jvm.MethodName) jdk_52_method_15_code (2 : Nat) (Option.some Jvm.ClassFile.FieldType.byte)).before args0 about1 = true := code_word (m := ⟨8, 1⟩) (meth := k8m1) (c := k8c1) (by decide +kernel) rfl rfl rfl (by decide +kernel)
set_option maxRecDepth 65536 in
theorem w_c9 : (Jvm.Cond.code ({ cls := "java/lang/String", name := "valueOf", desc := "(C)Ljava/lang/String;" } : Jvm.MethodName) jdk_42_method_139_code (1 : Nat) (Option.some (Jvm.ClassFile.FieldType.object "java/lang/String"))).before args0 about1 = true := code_word (m := ⟨7, 3⟩) (meth := k7m3) (c := k7c3) (by decide +kernel) rfl rfl rfl (by decide +kernel)
set_option maxRecDepth 65536 in
theorem w_c10 : (Jvm.Cond.code ({ cls := "java/lang/StringLatin1", name := "canEncode", desc := "(C)Z" } : Jvm.MethodName) jdk_43_method_3_code (1 : Nat) (Option.some Jvm.ClassFile.FieldType.boolean)).before args0 about1 = true := code_word (m := ⟨9, 1⟩) (meth := k9m1) (c := k9c1) (by decide +kernel) rfl rfl rfl (by decide +kernel)
set_option maxRecDepth 65536 in
theorem w_c11 : (Jvm.Cond.code ({ cls := "java/lang/StringLatin1", name := "toBytes", desc := "(C)[B" } : Jvm.MethodName) jdk_43_method_46_code (1 : Nat) (Option.some (Jvm.ClassFile.FieldType.array Jvm.ClassFile.FieldType.byte))).before args0 about1 = true := code_word (m := ⟨9, 3⟩) (meth := k9m3) (c := k9c3) (by decide +kernel) rfl rfl rfl (by decide +kernel)
set_option maxRecDepth 65536 in
theorem w_c12 : (Jvm.Cond.code ({ cls := "java/lang/String", name := "<init>", desc := "([BB)V" } : Jvm.MethodName) jdk_42_method_151_code (3 : Nat) (Option.none : Option Jvm.ClassFile.FieldType)).before args0 about1 = true := code_word (m := ⟨7, 5⟩) (meth := k7m5) (c := k7c5) (by decide +kernel) rfl rfl rfl (by decide +kernel)
set_option maxRecDepth 65536 in
theorem w_c13 : (Jvm.Cond.code ({ cls := "java/util/ArrayList", name := "<init>", desc := "()V" } : Jvm.MethodName) jdk_38_method_2_code (1 : Nat) (Option.none : Option Jvm.ClassFile.FieldType)).before args0 about1 = true := code_word (m := ⟨18, 0⟩) (meth := k18m0) (c := k18c0) (by decide +kernel) rfl rfl rfl (by decide +kernel)
set_option maxRecDepth 65536 in
theorem w_c14 : (Jvm.Cond.code ({ cls := "java/util/AbstractList", name := "<init>", desc := "()V" } : Jvm.MethodName) jdk_39_method_1_code (1 : Nat) (Option.none : Option Jvm.ClassFile.FieldType)).before args0 about1 = true := code_word (m := ⟨15, 0⟩) (meth := k15m0) (c := k15c0) (by decide +kernel) rfl rfl rfl (by decide +kernel)
set_option maxRecDepth 65536 in
theorem w_c15 : (Jvm.Cond.code ({ cls := "java/util/AbstractCollection", name := "<init>", desc := "()V" } : Jvm.MethodName) jdk_22_method_1_code (1 : Nat) (Option.none : Option Jvm.ClassFile.FieldType)).before args0 about1 = true := code_word (m := ⟨12, 0⟩) (meth := k12m0) (c := k12c0) (by decide +kernel) rfl rfl rfl (by decide +kernel)
set_option maxRecDepth 65536 in
theorem w_c16 : (Jvm.Cond.code ({ cls := "java/util/ArrayList", name := "add", desc := "(Ljava/lang/Object;)Z" } : Jvm.MethodName) jdk_38_method_25_code (2 : Nat) (Option.some Jvm.ClassFile.FieldType.boolean)).before args0 about1 = true := code_word (m := ⟨18, 7⟩) (meth := k18m7) (c := k18c7) (by decide +kernel) rfl rfl rfl (by decide +kernel)
set_option maxRecDepth 65536 in
theorem w_c17 : (Jvm.Cond.code ({ cls := "java/util/ArrayList", name := "add", desc := "(Ljava/lang/Object;[Ljava/lang/Object;I)V" } : Jvm.MethodName) jdk_38_method_24_code (4 : Nat) (Option.none : Option Jvm.ClassFile.FieldType)).before args0 about1 = true := code_word (m := ⟨18, 6⟩) (meth := k18m6) (c := k18c6) (by decide +kernel) rfl rfl rfl (by decide +kernel)
set_option maxRecDepth 65536 in
theorem w_c18 : (Jvm.Cond.code ({ cls := "java/util/ArrayList", name := "grow", desc := "()[Ljava/lang/Object;" } : Jvm.MethodName) jdk_38_method_7_code (1 : Nat) (Option.some (Jvm.ClassFile.FieldType.array (Jvm.ClassFile.FieldType.object "java/lang/Object")))).before args0 about1 = true := code_word (m := ⟨18, 2⟩) (meth := k18m2) (c := k18c2) (by decide +kernel) rfl rfl rfl (by decide +kernel)
set_option maxRecDepth 65536 in
theorem w_c19 : (Jvm.Cond.code ({ cls := "java/util/ArrayList", name := "grow", desc := "(I)[Ljava/lang/Object;" } : Jvm.MethodName) jdk_38_method_6_code (4 : Nat) (Option.some (Jvm.ClassFile.FieldType.array (Jvm.ClassFile.FieldType.object "java/lang/Object")))).before args0 about1 = true := code_word (m := ⟨18, 1⟩) (meth := k18m1) (c := k18c1) (by decide +kernel) rfl rfl rfl (by decide +kernel)
set_option maxRecDepth 65536 in
theorem w_c20 : (Jvm.Cond.code ({ cls := "java/lang/Math", name := "max", desc := "(II)I" } : Jvm.MethodName) jdk_29_method_65_code (2 : Nat) (Option.some Jvm.ClassFile.FieldType.int)).before args0 about1 = true := code_word (m := ⟨19, 1⟩) (meth := k19m1) (c := k19c1) (by decide +kernel) rfl rfl rfl (by decide +kernel)
set_option maxRecDepth 65536 in
theorem w_c21 : (Jvm.Cond.code ({ cls := "com/example/binhold/binhold/maven/MavenLayout", name := "isMetadata", desc := "(Ljava/util/List;)Z" } : Jvm.MethodName) prog_27_method_4_code (1 : Nat) (Option.some Jvm.ClassFile.FieldType.boolean)).before args0 about1 = true := code_word (m := ⟨20, 1⟩) (meth := k20m1) (c := k20c1) (by decide +kernel) rfl rfl rfl (by decide +kernel)
set_option maxRecDepth 65536 in
theorem w_c22 : (Jvm.Cond.code ({ cls := "java/util/ArrayList", name := "size", desc := "()I" } : Jvm.MethodName) jdk_38_method_8_code (1 : Nat) (Option.some Jvm.ClassFile.FieldType.int)).before args0 about1 = true := code_word (m := ⟨18, 3⟩) (meth := k18m3) (c := k18c3) (by decide +kernel) rfl rfl rfl (by decide +kernel)
set_option maxRecDepth 65536 in
theorem w_c23 : (Jvm.Cond.code ({ cls := "java/util/ArrayList", name := "get", desc := "(I)Ljava/lang/Object;" } : Jvm.MethodName) jdk_38_method_20_code (2 : Nat) (Option.some (Jvm.ClassFile.FieldType.object "java/lang/Object"))).before args0 about1 = true := code_word (m := ⟨18, 5⟩) (meth := k18m5) (c := k18c5) (by decide +kernel) rfl rfl rfl (by decide +kernel)
set_option maxRecDepth 65536 in
theorem w_c24 : (Jvm.Cond.code ({ cls := "java/util/Objects", name := "checkIndex", desc := "(II)I" } : Jvm.MethodName) jdk_31_method_17_code (2 : Nat) (Option.some Jvm.ClassFile.FieldType.int)).before args0 about1 = true := code_word (m := ⟨21, 1⟩) (meth := k21m1) (c := k21c1) (by decide +kernel) rfl rfl rfl (by decide +kernel)
set_option maxRecDepth 65536 in
theorem w_c25 : (Jvm.Cond.code ({ cls := "jdk/internal/util/Preconditions", name := "checkIndex", desc := "(IILjava/util/function/BiFunction;)I" } : Jvm.MethodName) jdk_41_method_11_code (3 : Nat) (Option.some Jvm.ClassFile.FieldType.int)).before args0 about1 = true := code_word (m := ⟨22, 1⟩) (meth := k22m1) (c := k22c1) (by decide +kernel) rfl rfl rfl (by decide +kernel)
set_option maxRecDepth 65536 in
theorem w_c26 : (Jvm.Cond.code ({ cls := "java/util/ArrayList", name := "elementData", desc := "(I)Ljava/lang/Object;" } : Jvm.MethodName) jdk_38_method_18_code (2 : Nat) (Option.some (Jvm.ClassFile.FieldType.object "java/lang/Object"))).before args0 about1 = true := code_word (m := ⟨18, 4⟩) (meth := k18m4) (c := k18c4) (by decide +kernel) rfl rfl rfl (by decide +kernel)
set_option maxRecDepth 65536 in
theorem w_c27 : (Jvm.Cond.code ({ cls := "java/lang/String", name := "equals", desc := "(Ljava/lang/Object;)Z" } : Jvm.MethodName) jdk_42_method_66_code (3 : Nat) (Option.some Jvm.ClassFile.FieldType.boolean)).before args0 about1 = true := code_word (m := ⟨7, 2⟩) (meth := k7m2) (c := k7c2) (by decide +kernel) rfl rfl rfl (by decide +kernel)
set_option maxRecDepth 65536 in
theorem w_c28 : (Jvm.Cond.code ({ cls := "java/lang/StringLatin1", name := "equals", desc := "([B[B)Z" } : Jvm.MethodName) jdk_43_method_13_code (3 : Nat) (Option.some Jvm.ClassFile.FieldType.boolean)).before args0 about1 = true := code_word (m := ⟨9, 2⟩) (meth := k9m2) (c := k9c2) (by decide +kernel) rfl rfl rfl (by decide +kernel)
set_option maxRecDepth 65536 in
theorem w_c29 : (Jvm.Cond.code ({ cls := "com/example/binhold/binhold/maven/MavenLayoutIsMetadataPinLaw", name := "metaShort", desc := "()[C" } : Jvm.MethodName) method_4_code (0 : Nat) (Option.some (Jvm.ClassFile.FieldType.array Jvm.ClassFile.FieldType.char))).before args0 about1 = true := code_word (m := ⟨1, 3⟩) (meth := k1m3) (c := k1c3) (by decide +kernel) rfl rfl rfl (by decide +kernel)
def codes1 : List Jvm.Cond := [Jvm.Cond.code x code maxLocals ret, Jvm.Cond.code method_2 method_2_code (0 : Nat) (Option.some (Jvm.ClassFile.FieldType.array Jvm.ClassFile.FieldType.char)), Jvm.Cond.code ({ cls := "com/example/binhold/binhold/maven/MavenLayoutIsMetadataPinLaw", name := "metaPlus", desc := "(C)[C" } : Jvm.MethodName) method_3_code (1 : Nat) (Option.some (Jvm.ClassFile.FieldType.array Jvm.ClassFile.FieldType.char)), Jvm.Cond.code ({ cls := "java/lang/String", name := "<init>", desc := "([C)V" } : Jvm.MethodName) jdk_42_method_3_code (2 : Nat) (Option.none : Option Jvm.ClassFile.FieldType), Jvm.Cond.code ({ cls := "java/lang/String", name := "<init>", desc := "([CIILjava/lang/Void;)V" } : Jvm.MethodName) jdk_42_method_149_code (6 : Nat) (Option.none : Option Jvm.ClassFile.FieldType), Jvm.Cond.code ({ cls := "java/lang/Object", name := "<init>", desc := "()V" } : Jvm.MethodName) object_method_1_code (1 : Nat) (Option.none : Option Jvm.ClassFile.FieldType), Jvm.Cond.code ({ cls := "java/lang/StringUTF16", name := "compress", desc := "([CII)[B" } : Jvm.MethodName) jdk_52_method_16_code (6 : Nat) (Option.some (Jvm.ClassFile.FieldType.array Jvm.ClassFile.FieldType.byte)), Jvm.Cond.code ({ cls := "java/lang/StringUTF16", name := "compress", desc := "([CI[BII)I" } : Jvm.MethodName) jdk_52_method_21_code (7 : Nat) (Option.some Jvm.ClassFile.FieldType.int), Jvm.Cond.code ({ cls := "java/lang/StringUTF16", name := "coderFromArrayLen", desc := "([BI)B" } : Jvm.MethodName) jdk_52_method_15_code (2 : Nat) (Option.some Jvm.ClassFile.FieldType.byte), Jvm.Cond.code ({ cls := "java/lang/String", name := "valueOf", desc := "(C)Ljava/lang/String;" } : Jvm.MethodName) jdk_42_method_139_code (1 : Nat) (Option.some (Jvm.ClassFile.FieldType.object "java/lang/String")), Jvm.Cond.code ({ cls := "java/lang/StringLatin1", name := "canEncode", desc := "(C)Z" } : Jvm.MethodName) jdk_43_method_3_code (1 : Nat) (Option.some Jvm.ClassFile.FieldType.boolean), Jvm.Cond.code ({ cls := "java/lang/StringLatin1", name := "toBytes", desc := "(C)[B" } : Jvm.MethodName) jdk_43_method_46_code (1 : Nat) (Option.some (Jvm.ClassFile.FieldType.array Jvm.ClassFile.FieldType.byte)), Jvm.Cond.code ({ cls := "java/lang/String", name := "<init>", desc := "([BB)V" } : Jvm.MethodName) jdk_42_method_151_code (3 : Nat) (Option.none : Option Jvm.ClassFile.FieldType), Jvm.Cond.code ({ cls := "java/util/ArrayList", name := "<init>", desc := "()V" } : Jvm.MethodName) jdk_38_method_2_code (1 : Nat) (Option.none : Option Jvm.ClassFile.FieldType), Jvm.Cond.code ({ cls := "java/util/AbstractList", name := "<init>", desc := "()V" } : Jvm.MethodName) jdk_39_method_1_code (1 : Nat) (Option.none : Option Jvm.ClassFile.FieldType), Jvm.Cond.code ({ cls := "java/util/AbstractCollection", name := "<init>", desc := "()V" } : Jvm.MethodName) jdk_22_method_1_code (1 : Nat) (Option.none : Option Jvm.ClassFile.FieldType), Jvm.Cond.code ({ cls := "java/util/ArrayList", name := "add", desc := "(Ljava/lang/Object;)Z" } : Jvm.MethodName) jdk_38_method_25_code (2 : Nat) (Option.some Jvm.ClassFile.FieldType.boolean), Jvm.Cond.code ({ cls := "java/util/ArrayList", name := "add", desc := "(Ljava/lang/Object;[Ljava/lang/Object;I)V" } : Jvm.MethodName) jdk_38_method_24_code (4 : Nat) (Option.none : Option Jvm.ClassFile.FieldType), Jvm.Cond.code ({ cls := "java/util/ArrayList", name := "grow", desc := "()[Ljava/lang/Object;" } : Jvm.MethodName) jdk_38_method_7_code (1 : Nat) (Option.some (Jvm.ClassFile.FieldType.array (Jvm.ClassFile.FieldType.object "java/lang/Object"))), Jvm.Cond.code ({ cls := "java/util/ArrayList", name := "grow", desc := "(I)[Ljava/lang/Object;" } : Jvm.MethodName) jdk_38_method_6_code (4 : Nat) (Option.some (Jvm.ClassFile.FieldType.array (Jvm.ClassFile.FieldType.object "java/lang/Object"))), Jvm.Cond.code ({ cls := "java/lang/Math", name := "max", desc := "(II)I" } : Jvm.MethodName) jdk_29_method_65_code (2 : Nat) (Option.some Jvm.ClassFile.FieldType.int), Jvm.Cond.code ({ cls := "com/example/binhold/binhold/maven/MavenLayout", name := "isMetadata", desc := "(Ljava/util/List;)Z" } : Jvm.MethodName) prog_27_method_4_code (1 : Nat) (Option.some Jvm.ClassFile.FieldType.boolean), Jvm.Cond.code ({ cls := "java/util/ArrayList", name := "size", desc := "()I" } : Jvm.MethodName) jdk_38_method_8_code (1 : Nat) (Option.some Jvm.ClassFile.FieldType.int), Jvm.Cond.code ({ cls := "java/util/ArrayList", name := "get", desc := "(I)Ljava/lang/Object;" } : Jvm.MethodName) jdk_38_method_20_code (2 : Nat) (Option.some (Jvm.ClassFile.FieldType.object "java/lang/Object")), Jvm.Cond.code ({ cls := "java/util/Objects", name := "checkIndex", desc := "(II)I" } : Jvm.MethodName) jdk_31_method_17_code (2 : Nat) (Option.some Jvm.ClassFile.FieldType.int), Jvm.Cond.code ({ cls := "jdk/internal/util/Preconditions", name := "checkIndex", desc := "(IILjava/util/function/BiFunction;)I" } : Jvm.MethodName) jdk_41_method_11_code (3 : Nat) (Option.some Jvm.ClassFile.FieldType.int), Jvm.Cond.code ({ cls := "java/util/ArrayList", name := "elementData", desc := "(I)Ljava/lang/Object;" } : Jvm.MethodName) jdk_38_method_18_code (2 : Nat) (Option.some (Jvm.ClassFile.FieldType.object "java/lang/Object")), Jvm.Cond.code ({ cls := "java/lang/String", name := "equals", desc := "(Ljava/lang/Object;)Z" } : Jvm.MethodName) jdk_42_method_66_code (3 : Nat) (Option.some Jvm.ClassFile.FieldType.boolean), Jvm.Cond.code ({ cls := "java/lang/StringLatin1", name := "equals", desc := "([B[B)Z" } : Jvm.MethodName) jdk_43_method_13_code (3 : Nat) (Option.some Jvm.ClassFile.FieldType.boolean), Jvm.Cond.code ({ cls := "com/example/binhold/binhold/maven/MavenLayoutIsMetadataPinLaw", name := "metaShort", desc := "()[C" } : Jvm.MethodName) method_4_code (0 : Nat) (Option.some (Jvm.ClassFile.FieldType.array Jvm.ClassFile.FieldType.char))]
set_option maxRecDepth 65536 in
theorem codes_eq : words1.filter isCode = codes1 := rfl
theorem w_codes : ∀ c ∈ words1.filter isCode, c.before args0 about1 = true := by
  rw [codes_eq]
  intro c hc
  simp only [codes1, List.mem_cons, List.not_mem_nil, or_false] at hc
  rcases hc with rfl | rfl | rfl | rfl | rfl | rfl | rfl | rfl | rfl | rfl | rfl | rfl | rfl | rfl | rfl | rfl | rfl | rfl | rfl | rfl | rfl | rfl | rfl | rfl | rfl | rfl | rfl | rfl | rfl | rfl
  · exact w_c0
  · exact w_c1
  · exact w_c2
  · exact w_c3
  · exact w_c4
  · exact w_c5
  · exact w_c6
  · exact w_c7
  · exact w_c8
  · exact w_c9
  · exact w_c10
  · exact w_c11
  · exact w_c12
  · exact w_c13
  · exact w_c14
  · exact w_c15
  · exact w_c16
  · exact w_c17
  · exact w_c18
  · exact w_c19
  · exact w_c20
  · exact w_c21
  · exact w_c22
  · exact w_c23
  · exact w_c24
  · exact w_c25
  · exact w_c26
  · exact w_c27
  · exact w_c28
  · exact w_c29
set_option maxRecDepth 65536 in
theorem w_t1 : (words1.take 24).all (fun c => isCode c || c.before args0 about1) = true := by decide +kernel
set_option maxRecDepth 65536 in
theorem w_t2 : ((words1.drop 24).take 24).all (fun c => isCode c || c.before args0 about1) = true := by decide +kernel
set_option maxRecDepth 65536 in
theorem w_t3 : (((words1.drop 24).drop 24).take 24).all (fun c => isCode c || c.before args0 about1) = true := by decide +kernel
set_option maxRecDepth 65536 in
theorem w_t4 : ((((words1.drop 24).drop 24).drop 24).take 24).all (fun c => isCode c || c.before args0 about1) = true := by decide +kernel
set_option maxRecDepth 65536 in
theorem w_t5 : (((((words1.drop 24).drop 24).drop 24).drop 24).take 24).all (fun c => isCode c || c.before args0 about1) = true := by decide +kernel
set_option maxRecDepth 65536 in
theorem w_t6 : ((((((words1.drop 24).drop 24).drop 24).drop 24).drop 24).take 24).all (fun c => isCode c || c.before args0 about1) = true := by decide +kernel
set_option maxRecDepth 65536 in
theorem w_t7 : ((((((words1.drop 24).drop 24).drop 24).drop 24).drop 24).drop 24).all (fun c => isCode c || c.before args0 about1) = true := by decide +kernel
theorem w_tables : (allAtoms (Jvm.Cond.code x code maxLocals ret :: tables_1)).before args0 about1 = true := by
  rw [allAtoms_all]
  show words1.all (fun c => c.before args0 about1) = true
  refine all_split ?_ w_codes
  rw [← List.take_append_drop 24 words1, List.all_append, w_t1, ← List.take_append_drop 24 (words1.drop 24), List.all_append, w_t2, ← List.take_append_drop 24 ((words1.drop 24).drop 24), List.all_append, w_t3, ← List.take_append_drop 24 (((words1.drop 24).drop 24).drop 24), List.all_append, w_t4, ← List.take_append_drop 24 ((((words1.drop 24).drop 24).drop 24).drop 24), List.all_append, w_t5, ← List.take_append_drop 24 (((((words1.drop 24).drop 24).drop 24).drop 24).drop 24), List.all_append, w_t6, w_t7]
  rfl
set_option maxRecDepth 65536 in
theorem w_rest : rest_1_c.before args0 about1 = true := by decide +kernel
set_option maxRecDepth 65536 in
theorem w_case : (Jvm.Cond.and given_1 narrow_1).before args0 about1 = true := by decide +kernel
set_option maxRecDepth 65536 in
theorem w_consts : constsHeld consts_1 about1 := Jvm.Lit.constsHeldB_iff.mp (by decide +kernel)
theorem w_applies : (headSpec (Jvm.Cond.code x code maxLocals ret :: tables_1) room_1).applies x e0.platform about1 = true :=
  (Spec.applies_iff w_frames).mpr ⟨w_running, w_runnable, w_alone, w_named, w_hears, w_ripe, w_room, w_tables⟩
theorem atStart : AtStart classFile x code maxLocals ret World_1 tables_1 room_1 Calls_1 rest_1 Pre_1 launch0 p0 e0 about1 theMethod args0 below0 :=
  ⟨lists_1, trivial, launch0.admits_env _ _ _, launch0.least_env, fairChoices_fair.cas, fairChoices_fair.clock, w_frames, w_args, w_heap, w_applies, ⟨w_consts, trivial⟩, w_rest, w_case⟩
end start1
theorem witness_1 : WitnessClaimed_1 := ⟨start1.p0, start1.e0, start1.about1, start1.theMethod, start1.args0, start1.below0, start1.atStart⟩
end Jvm.Pilot.@@N@@
