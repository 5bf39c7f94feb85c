import JvmDerived
import JvmDerived.Pilot.@@N@@Statement
import JvmDerived.Pilot.@@N@@Code
set_option linter.unusedVariables false
set_option linter.unusedSimpArgs false
namespace Jvm.Pilot.@@N@@
open Jvm Jvm.ClassFile Sem Op Lib Jvm.Free Jvm.Stand Jvm.LawKit Jvm.RoadKit Bundle Jvm.Pilot.@@N@@.Jvm.D
/-! own layer: a small logic of triples over the library's Stand. Fd: a field's owner, name, descriptor, value; Ds: an object (class, fields) or an array (type, is its class known, is it over its component's class, values); En: an address, may it be written, what lies there. -/
abbrev Fd : Type := String × String × String × Value
abbrev Ds : Type := (String × List Fd) ⊕ (FieldType × Bool × Bool × List Value)
abbrev En : Type := Addr × Bool × Ds
abbrev eB (a : Addr) (vs : List Value) : En := (a, true, .inr (.byte, true, false, vs))
abbrev eC (a : Addr) (vs : List Value) : En := (a, true, .inr (.char, true, false, vs))
abbrev eI (a : Addr) (vs : List Value) : En := (a, true, .inr (.int, true, false, vs))
abbrev eJ (a : Addr) (vs : List Value) : En := (a, true, .inr (.long, true, false, vs))
abbrev eO (a : Addr) (vs : List Value) : En := (a, true, .inr (.object "java/lang/Object", true, true, vs))
abbrev Wd : Type := Launch × State × Array Value × Nat × (Addr → Prop)
abbrev Mt : Type := MethodName × ByteArray × Nat × Option FieldType × Room
abbrev Kx : Type := Program × Env × State × MethodId × Array Value × List Frame × Method × Code × Option (State × List (String × Nat))
def wL (W : Wd) : Launch := W.1
def wZ (W : Wd) : State := W.2.1
def wA (W : Wd) : Array Value := W.2.2.1
def wN (W : Wd) : Nat := W.2.2.2.1
def wP (W : Wd) : Addr → Prop := W.2.2.2.2
def wSet (W : Wd) (P : Addr → Prop) : Wd := (W.1, W.2.1, W.2.2.1, W.2.2.2.1, P)
def mN (M : Mt) : MethodName := M.1
def mC (M : Mt) : ByteArray := M.2.1
def mL (M : Mt) : Nat := M.2.2.1
def mT (M : Mt) : Option FieldType := M.2.2.2.1
def mR (M : Mt) : Room := M.2.2.2.2
def kP (K : Kx) : Program := K.1
def kE (K : Kx) : Env := K.2.1
def kS (K : Kx) : State := K.2.2.1
def kM (K : Kx) : MethodId := K.2.2.2.1
def kA (K : Kx) : Array Value := K.2.2.2.2.1
def kB (K : Kx) : List Frame := K.2.2.2.2.2.1
def kH (K : Kx) : Method := K.2.2.2.2.2.2.1
def kC (K : Kx) : Code := K.2.2.2.2.2.2.2.1
def kW (K : Kx) : Option (State × List (String × Nat)) := K.2.2.2.2.2.2.2.2
def fSl (Z : State) (f : Fd) : Nat := Jvm.RoadKit.slotOf Z f.1 f.2.1 f.2.2.1
def FdOk (Z : State) (h : Heap) (a : Addr) (f : Fd) : Prop := Fld Z h a f.1 f.2.1 f.2.2.1 f.2.2.2
def ArOk (Z : State) (h : Heap) (a : Addr) (ty : FieldType) (ex ov : Bool) (vs : List Value) : Prop := ∃ c : Cell, Arr Z h a c ty ∧ c.slots.toList = vs ∧ vs.length < 2 ^ 31 ∧ (∀ v ∈ vs, fits ty v = true) ∧ (ex = true → Exa Z h a ("[" ++ ty.toString)) ∧ (ov = true → ∀ C, ty = .object C → Ovr Z c.cls C)
def ObOk (Z : State) (h : Heap) (a : Addr) (C : String) (fs : List Fd) : Prop := Exa Z h a C ∧ (∀ f ∈ fs, FdOk Z h a f) ∧ (fs.map (fSl Z)).Nodup
def DsOk (Z : State) (h : Heap) (a : Addr) (D : Ds) : Prop := match D with
  | .inl (C, fs) => ObOk Z h a C fs
  | .inr (ty, ex, ov, vs) => ArOk Z h a ty ex ov vs
def Apart (x y : En) : Prop := (x.2.1 = false ∧ y.2.1 = false) ∨ x.1 ≠ y.1
def Ol (W : Wd) (h : Heap) : Prop := Old (wZ W) (wN W) h ∧ ∀ a, h.size ≤ a → wP W a
theorem Ol.ext {W : Wd} {h h' : Heap} (X : Ol W h) (E : Ext h h') : Ol W h' := ⟨X.1.ext E, fun a q => X.2 a (Nat.le_trans E.1 q)⟩
theorem Ol.keep {W : Wd} {h h' : Heap} {ws : List Addr} (X : Ol W h) (K : Keep h h' ws) (q : ∀ x ∈ ws, wN W ≤ x) : Ol W h' := ⟨X.1.keep K q, fun a q => X.2 a (Nat.le_trans K.1 q)⟩
theorem Ol.wr {W : Wd} {h h' : Heap} {a : Addr} {sl : Nat} {v : Value} (X : Ol W h) (E : Wr h h' a sl v) (q : wN W ≤ a) : Ol W h' := ⟨X.1.wr E q, fun b r => X.2 b (by obtain ⟨c, -, -, -, rfl⟩ := E; simpa using r)⟩
def Hp (W : Wd) (h : Heap) (H : List En) : Prop := Ol W h ∧ (∀ x ∈ H, (x.2.1 = true → wN W ≤ x.1 ∧ wP W x.1) ∧ DsOk (wZ W) h x.1 x.2.2) ∧ H.Pairwise Apart
section HeapLaws
variable {Z : State} {h h' : Heap} {a b : Addr} {W : Wd} {H : List En} {D : Ds} {sl : Nat} {v : Value}
theorem DsOk.lt (F : DsOk Z h a D) : a < h.size := by
  match D, F with
  | .inl _, F => exact F.1.lt
  | .inr _, F => exact F.choose_spec.1.lt
theorem DsOk.ext (F : DsOk Z h a D) (E : Ext h h') : DsOk Z h' a D := by
  match D, F with
  | .inl _, F => exact ⟨F.1.ext E, fun f hf => Fld.ext E (F.2.1 f hf), F.2.2⟩
  | .inr _, ⟨c, h1, h2, h3, h4, h5, h6⟩ => exact ⟨c, h1.ext E, h2, h3, h4, fun q => (h5 q).ext E, h6⟩
theorem DsOk.other (F : DsOk Z h b D) (E : Wr h h' a sl v) (q : b ≠ a) : DsOk Z h' b D := by
  match D, F with
  | .inl _, F => exact ⟨F.1.wr E, fun f hf => Fld.other E (F.2.1 f hf) (Or.inl q), F.2.2⟩
  | .inr _, ⟨c, h1, h2, h3, h4, h5, h6⟩ => exact ⟨c, h1.other E q, h2, h3, h4, fun q => (h5 q).wr E, h6⟩
theorem DsOk.keep {ws : List Addr} (F : DsOk Z h b D) (E : Keep h h' ws) (q : b ∉ ws) : DsOk Z h' b D := by
  match D, F with
  | .inl _, F => exact ⟨F.1.keep E, fun f hf => Fld.keep (F.2.1 f hf) E q, F.2.2⟩
  | .inr _, ⟨c, h1, h2, h3, h4, h5, h6⟩ => exact ⟨c, ⟨E.2.1 _ _ h1.1 q, h1.2⟩, h2, h3, h4, fun q => (h5 q).keep E, h6⟩
theorem Hp.size (P : Hp W h H) : wN W ≤ h.size := by
  obtain ⟨⟨⟨e1, e2⟩, -⟩, -⟩ := P
  rw [← e1]; exact e2.1
theorem Hp.new (P : Hp W h H) (E : Ext h h') (F : DsOk (wZ W) h' h.size D) : Hp W h' ((h.size, true, D) :: H) := by
  refine ⟨P.1.ext E, fun x hx => ?_, List.pairwise_cons.mpr ⟨fun y hy => Or.inr ?_, P.2.2⟩⟩
  · rcases List.mem_cons.mp hx with rfl | hx
    · exact ⟨fun _ => ⟨P.size, P.1.2 _ (Nat.le_refl _)⟩, F⟩
    · exact ⟨(P.2.1 x hx).1, (P.2.1 x hx).2.ext E⟩
  · have := (P.2.1 y hy).2.lt
    exact fun (e : h.size = y.1) => Nat.lt_irrefl y.1 (Nat.lt_of_lt_of_le this (Nat.le_of_eq e))
theorem Hp.apart (P : Hp W h H) {i j : Nat} {x y : En} (hi : H[i]? = some x) (hj : H[j]? = some y) (hne : i ≠ j) (hw : x.2.1 = true) : y.1 ≠ x.1 := by
  obtain ⟨li, rfl⟩ := List.getElem?_eq_some_iff.mp hi
  obtain ⟨lj, rfl⟩ := List.getElem?_eq_some_iff.mp hj
  have q := List.pairwise_iff_getElem.mp P.2.2
  rcases Nat.lt_or_gt_of_ne hne with g | g
  · rcases q i j li lj g with u | u
    · rw [hw] at u; exact absurd u.1 (by decide)
    · exact fun e => u e.symm
  · rcases q j i lj li g with u | u
    · rw [hw] at u; exact absurd u.2 (by decide)
    · exact u
/-- one entry is written: what else is known stays -/
theorem Hp.put (P : Hp W h H) {i : Nat} {D' : Ds} (hi : H[i]? = some (a, true, D)) (E : Wr h h' a sl v) (F : DsOk (wZ W) h' a D') : Hp W h' (H.set i (a, true, D')) := by
  have hm := List.mem_of_getElem? hi
  have hn := (P.2.1 _ hm).1 rfl
  refine ⟨P.1.wr E hn.1, fun x hx => ?_, ?_⟩
  · obtain ⟨j, hj⟩ := List.getElem?_of_mem hx
    by_cases e : i = j
    · subst e
      rw [List.getElem?_set_self (List.getElem?_eq_some_iff.mp hi).1] at hj
      cases hj
      exact ⟨fun _ => hn, F⟩
    · rw [List.getElem?_set_ne e] at hj
      have hx' := P.2.1 x (List.mem_of_getElem? hj)
      exact ⟨hx'.1, hx'.2.other E (P.apart hi hj e rfl)⟩
  · rw [List.pairwise_iff_getElem]
    intro j k hj hk hjk
    rw [List.length_set] at hj hk
    have q := (List.pairwise_iff_getElem.mp P.2.2) j k hj hk hjk
    obtain ⟨li, e⟩ := List.getElem?_eq_some_iff.mp hi
    rw [List.getElem_set, List.getElem_set]
    have fix : ∀ x : En, x = (a, true, D) → x.2.1 = true ∧ x.1 = a := fun x e => by subst e; exact ⟨rfl, rfl⟩
    obtain ⟨f1, f2⟩ := fix _ e
    split
    · rename_i e1
      subst e1
      split
      · rename_i e2; omega
      · rcases q with u | u
        · exact absurd (f1.symm.trans u.1) (by decide)
        · exact Or.inr (fun w => u (f2.trans w))
    · split
      · rename_i e2
        subst e2
        rcases q with u | u
        · exact absurd (f1.symm.trans u.2) (by decide)
        · exact Or.inr (fun w => u (w.trans f2.symm))
      · exact q
theorem Hp.sub (P : Hp W h H) {H' : List En} (q : H'.Sublist H) : Hp W h H' := ⟨P.1, fun x hx => P.2.1 x (q.subset hx), P.2.2.sublist q⟩
theorem Apart.symm {x y : En} (q : Apart x y) : Apart y x := q.elim (fun u => Or.inl ⟨u.2, u.1⟩) fun u => Or.inr fun e => u e.symm
theorem Hp.perm (P : Hp W h H) {H' : List En} (q : H.Perm H') : Hp W h H' := ⟨P.1, fun x hx => P.2.1 x (q.mem_iff.mpr hx), (List.Perm.pairwise_iff (fun {x y} (u : Apart x y) => u.symm) q).mp P.2.2⟩
theorem Hp.at (P : Hp W h H) {i : Nat} {w : Bool} (hi : H[i]? = some (a, w, D)) : DsOk (wZ W) h a D := (P.2.1 _ (List.mem_of_getElem? hi)).2
theorem nodup_slot {Z : State} {fs : List Fd} {i j : Nat} {f g : Fd} (P : (fs.map (fSl Z)).Nodup) (hi : fs[i]? = some f) (hj : fs[j]? = some g) (hne : i ≠ j) : fSl Z g ≠ fSl Z f := fun e => by
  obtain ⟨li, rfl⟩ := List.getElem?_eq_some_iff.mp hi
  obtain ⟨lj, rfl⟩ := List.getElem?_eq_some_iff.mp hj
  have q := List.pairwise_iff_getElem.mp P
  rcases Nat.lt_or_gt_of_ne hne with u | u
  · exact q i j (by simpa using li) (by simpa using lj) u (by simpa using e.symm)
  · exact q j i (by simpa using lj) (by simpa using li) u (by simpa using e)
theorem map_set_same {Z : State} {fs : List Fd} {j : Nat} {O n d : String} {old w : Value} (hj : fs[j]? = some (O, n, d, old)) : (fs.set j (O, n, d, w)).map (fSl Z) = fs.map (fSl Z) := by
  apply List.ext_getElem? 
  intro k
  rw [List.getElem?_map, List.getElem?_map]
  by_cases e : j = k
  · subst e
    rw [List.getElem?_set_self (List.getElem?_eq_some_iff.mp hj).1, hj]
    rfl
  · rw [List.getElem?_set_ne e]
theorem ObOk.put {C O n d : String} {fs : List Fd} {j : Nat} {old : Value} (F : ObOk Z h a C fs) (hj : fs[j]? = some (O, n, d, old)) (E : Wr h h' a (Jvm.RoadKit.slotOf Z O n d) v) : ObOk Z h' a C (fs.set j (O, n, d, v)) := by
  refine ⟨F.1.wr E, fun f hf => ?_, by rw [map_set_same hj]; exact F.2.2⟩
  obtain ⟨k, hk⟩ := List.getElem?_of_mem hf
  by_cases e : j = k
  · subst e
    rw [List.getElem?_set_self (List.getElem?_eq_some_iff.mp hj).1] at hk
    cases hk
    exact Fld.same E (show Fld Z h a O n d old from F.2.1 _ (List.mem_of_getElem? hj))
  · rw [List.getElem?_set_ne e] at hk
    exact Fld.other E (show Fld Z h a f.1 f.2.1 f.2.2.1 f.2.2.2 from F.2.1 _ (List.mem_of_getElem? hk)) (Or.inr (show fSl Z f ≠ fSl Z (O, n, d, old) from nodup_slot F.2.2 hj hk e))
theorem ArOk.put {ty : FieldType} {ex ov : Bool} {vs : List Value} {j : Int32} {k : Nat} (F : ArOk Z h a ty ex ov vs) (hk : j.toNatClampNeg = k) (hf : fits ty v = true) (E : Wr h h' a j.toNatClampNeg v) : ArOk Z h' a ty ex ov (vs.set k v) := by
  obtain ⟨c, h1, h2, h3, h4, h5, h6⟩ := F
  subst hk
  refine ⟨c.setSlot j.toNatClampNeg v, h1.same E, ?_, by rw [List.length_set]; exact h3, fun u hu => ?_, fun q => (h5 q).wr E, h6⟩
  · rw [← h2]; simp [Cell.setSlot]
  · rcases List.mem_or_eq_of_mem_set hu with q | q
    · exact h4 u q
    · rw [q]; exact hf
end HeapLaws
/-- how the heap goes on: only what H says may be written has been; what H' says may be written is of H, or new -/
def Nx (h : Heap) (H : List En) (h' : Heap) (H' : List En) : Prop := h.size ≤ h'.size ∧ (∀ (x : Addr) (c : Cell), h[x]? = some c → (∀ y ∈ H, y.2.1 = true → y.1 ≠ x) → h'[x]? = some c) ∧ ∀ y ∈ H', y.2.1 = true → h.size ≤ y.1 ∨ ∃ z ∈ H, z.2.1 = true ∧ z.1 = y.1
theorem Nx.sub {h : Heap} {H H' : List En} (q : ∀ y ∈ H', y ∈ H) : Nx h H h H' := ⟨Nat.le_refl _, fun _ _ q _ => q, fun y hy r => Or.inr ⟨y, q y hy, r, rfl⟩⟩
theorem Nx.refl (h : Heap) (H : List En) : Nx h H h H := Nx.sub fun _ q => q
theorem Nx.keepAt {h h' : Heap} {H : List En} {i : Nat} {a : Addr} {D D' : Ds} (hi : H[i]? = some (a, true, D)) (E : Keep h h' [a]) : Nx h H h' (H.set i (a, true, D')) := by
  refine ⟨E.1, fun x c q r => E.2.1 x c q fun hm => r _ (List.mem_of_getElem? hi) rfl (List.mem_singleton.mp hm).symm, fun y hy r => Or.inr ?_⟩
  rcases List.mem_or_eq_of_mem_set hy with q | q
  · exact ⟨y, q, r, rfl⟩
  · exact ⟨_, List.mem_of_getElem? hi, rfl, by rw [q]⟩
theorem Nx.put {h h' : Heap} {H : List En} {i : Nat} {a : Addr} {D D' : Ds} {sl : Nat} {v : Value} (hi : H[i]? = some (a, true, D)) (E : Wr h h' a sl v) : Nx h H h' (H.set i (a, true, D')) := Nx.keepAt hi (Keep.of_wr E)
theorem Nx.new {h h' : Heap} {H : List En} {D : Ds} (E : Ext h h') : Nx h H h' ((h.size, true, D) :: H) := ⟨E.1, fun x c q _ => E.2 x c q, fun y hy r => by
  rcases List.mem_cons.mp hy with rfl | hy
  · exact Or.inl (Nat.le_refl _)
  · exact Or.inr ⟨y, hy, r, rfl⟩⟩
/-- since the body began nothing has been written but what wP says -/
def Ko (W : Wd) (K : Kx) (h : Heap) : Prop := (kS K).heap.size ≤ h.size ∧ ∀ (x : Addr) (c : Cell), (kS K).heap[x]? = some c → ¬ wP W x → h[x]? = some c
/-- what may be written is none of the constants' cells -/
def Sf (Z : State) (EL : List (String × Nat)) (vm : Vm) (h : Heap) (H : List En) : Prop := ∀ y ∈ H, y.2.1 = true → Safe Z EL vm h y.1
/-- the ghost: where the run may have interned: the true start, and the constants whose text is known -/
def Gw (W : Wd) (K : Kx) (h : Heap) (H : List En) : Prop := match kW K with
  | none => True
  | some (s0, EL) => kS K = s0.setVm (kS K).vm ∧ (∃ k0, s0.Since (kS K).vm k0 ∧ k0 ≤ h.size) ∧ EW (wZ W) (wA W) EL ∧ CHr (wZ W) EL s0.vm s0.heap (kS K).vm h ∧ Sf (wZ W) EL (kS K).vm h H
theorem Gw.get {W : Wd} {K : Kx} {h : Heap} {H : List En} {s0 : State} {EL : List (String × Nat)} (G : Gw W K h H) (e : kW K = some (s0, EL)) : kS K = s0.setVm (kS K).vm ∧ (∃ k0, s0.Since (kS K).vm k0 ∧ k0 ≤ h.size) ∧ EW (wZ W) (wA W) EL ∧ CHr (wZ W) EL s0.vm s0.heap (kS K).vm h ∧ Sf (wZ W) EL (kS K).vm h H := by
  unfold Gw at G
  rw [e] at G
  exact G
theorem Gw.mk {W : Wd} {K : Kx} {h : Heap} {H : List En} {s0 : State} {EL : List (String × Nat)} (e : kW K = some (s0, EL)) (G : kS K = s0.setVm (kS K).vm ∧ (∃ k0, s0.Since (kS K).vm k0 ∧ k0 ≤ h.size) ∧ EW (wZ W) (wA W) EL ∧ CHr (wZ W) EL s0.vm s0.heap (kS K).vm h ∧ Sf (wZ W) EL (kS K).vm h H) : Gw W K h H := by
  unfold Gw
  rw [e]
  exact G
def Gs (W : Wd) (K : Kx) (h : Heap) (H : List En) : Prop := Ko W K h ∧ Gw W K h H
theorem Gs.nx {W : Wd} {K : Kx} {h h' : Heap} {H H' : List En} (G : Gs W K h H) (P : Hp W h H) (N : Nx h H h' H') : Gs W K h' H' := by
  obtain ⟨⟨G1, G2⟩, G⟩ := G
  refine ⟨⟨Nat.le_trans G1 N.1, fun x c q r => N.2.1 x c (G2 x c q r) fun y hy hr e => r (e ▸ ((P.2.1 y hy).1 hr).2)⟩, ?_⟩
  rcases e : kW K with _ | ⟨s0, EL⟩
  · unfold Gw; rw [e]; trivial
  · obtain ⟨a, ⟨k0, b, d⟩, e1, f, g⟩ := G.get e
    have st := f.1.step (h' := h') (fun y B cell q => N.2.1 y cell q (fun z hz hr e => g z hz hr (e ▸ B)))
    refine Gw.mk e ⟨a, ⟨k0, b, Nat.le_trans d N.1⟩, e1, f.trans ⟨st.1, N.1, fun y q => Or.inl (st.2 y q)⟩, fun y hy hr B => ?_⟩
    rcases N.2.2 y hy hr with q | ⟨z, hz, hr', e2⟩
    · exact Safe.new q (st.2 _ B)
    · exact g z hz hr' (e2 ▸ st.2 _ B)
/-- how a body ends: narrow, or seen from the true start -/
def EndK (W : Wd) (K : Kx) (o : Outcome) (U : State) (L : List Loc) (H' : List En) (k n : Nat) : Prop := Ko W K U.heap ∧ match kW K with
  | none => FrameEnd (kS K) o U L k n
  | some (s0, EL) => ReturnedEndW s0 o U L k n ∧ CHr (wZ W) EL s0.vm s0.heap U.vm U.heap ∧ Sf (wZ W) EL U.vm U.heap H'
theorem EndK.shift {W : Wd} {K K' : Kx} {o : Outcome} {U : State} {L : List Loc} {H' : List En} {k n : Nat} {s0 : State} {EL : List (String × Nat)} (e' : kW K' = some (s0, EL)) (e : kW K = some (s0, EL)) (eh : (kS K').heap = (kS K).heap) (X : EndK W K' o U L H' k n) : EndK W K o U L H' k n := by
  unfold EndK Ko at *
  rw [e', eh] at X
  rw [e]
  exact X
/-- the run stands in K's body, over the heap that H tells -/
def Std (W : Wd) (K : Kx) (M : Mt) (T : State) (H : List En) (c n : Nat) : Prop :=
  (kP K).tables.exec = Jvm.exec ∧ (wZ W).Warmed39 (kS K).vm ∧ (kS K).vm.findClass (mN M).cls = some (kM K).cls ∧ (kC K).code = mC M ∧ (kC K).maxLocals = mL M ∧ (kH K).sig.returnType = mT M ∧ (kH K).name = (mN M).name ∧ (kH K).locks = false ∧ Gs W K T.heap H ∧
  ∃ locs, Stand (kP K) (wL W) (kE K) (mR M) (kS K) (kM K) (kA K) (kB K) (kH K) (kC K) T locs c n ∧ Fr (wN W) locs ∧ Hp W T.heap H
def Fini (W : Wd) (K : Kx) (M : Mt) (Q : Option Value → List En → Prop) (U : State) : Prop :=
  ∃ o, U.status = .running ∧ Ended U (kB K) o ∧ ∃ v L, o = .returned v ∧ Fr (wN W) L ∧ ∃ H', Hp W U.heap H' ∧ Q v H' ∧ EndK W K o U L H' (mR M).cells (mR M).slots
def Wp (W : Wd) (K : Kx) (M : Mt) (Q : Option Value → List En → Prop) (H : List En) (c n pc : Nat) (L : List Slot) (S : List Value) : Prop :=
  ∀ T, Std W K M T H c n → ∃ U, Steps (kP K).tables (kE K) (kB K) (T.setTop (mkF (kM K) pc L.toArray S)) U ∧ Fini W K M Q U
/-- from a call's start to its end nothing has been written but what wP says -/
def Kl (W : Wd) (h h' : Heap) : Prop := h.size ≤ h'.size ∧ ∀ (x : Addr) (c : Cell), h[x]? = some c → ¬ wP W x → h'[x]? = some c
/-- what a method does, called with 'as' over the heap that H tells -/
def Ct (W : Wd) (M : Mt) (as : List Value) (H : List En) (Q : Option Value → List En → Prop) : Prop :=
  ∀ (ws : List Cond) (h0 : Heap), Hp W h0 H → MetFree (wL W) (mN M) (head1 (Cond.code (mN M) (mC M) (mL M) (mT M) :: ws) (mR M)) (fun a U => a = as.toArray ∧ (wZ W).Warmed39 U.vm ∧ U.heap = h0) (fun _ _ _ _ _ => True)
    (fun _ U o U' => ∃ v L, o = .returned v ∧ ((Fr (wN W) L ∧ Kl W h0 U'.heap) ∧ ∃ H', Hp W U'.heap H' ∧ Q v H') ∧ FrameEnd U o U' L (mR M).cells (mR M).slots)
def Dc (C : ByteArray) (pc : Nat) (i : Instr) (len pc' : Nat) : Prop := decode C pc = .ok (i, len) ∧ pc + len = pc'
def Bj (C : ByteArray) (pc : Nat) (i : Instr) (o : Int) (pc' pt : Nat) : Prop := decode C pc = .ok (i, 3) ∧ pc + 3 = pc' ∧ 0 ≤ (pc : Int) + o ∧ ((pc : Int) + o).toNat = pt
def Wok (W : Wd) (d : Cond) : Prop := d.before (wA W) (wZ W) = true
section Logic
variable {W : Wd} {K : Kx} {M : Mt} {Q : Option Value → List En → Prop} {H H' : List En} {c n pc pc' pt len : Nat} {L L' : List Slot} {S : List Value}
def slotsOf : List Value → List Slot
  | [] => []
  | v :: vs => if v.category = 2 then .val v :: .second :: slotsOf vs else .val v :: slotsOf vs
theorem slots_fold : ∀ (as : List Value) (acc : Array Slot), as.foldl (fun acc v => if v.category = 2 then (acc.push (.val v)).push .second else acc.push (.val v)) acc = acc ++ (slotsOf as).toArray
  | [], acc => by simp [slotsOf]
  | v :: vs, acc => by
    rw [List.foldl_cons, slots_fold vs]
    by_cases h : v.category = 2
    · simp [slotsOf, h]
    · simp [slotsOf, h]
theorem entry_eq (m : MethodId) (as : List Value) (ml : Nat) : entryFrame m as.toArray ml = mkF m 0 (slotsOf as ++ List.replicate (ml - (slotsOf as).length) Slot.unset).toArray [] := by
  have h : argsToLocals as.toArray ml = (slotsOf as ++ List.replicate (ml - (slotsOf as).length) Slot.unset).toArray := by
    simp [argsToLocals, slots_fold]
  unfold entryFrame
  rw [h]
theorem Ct.intro {as : List Value} {L0 : List Slot} (hp : plainFor (mN M) = true) (he : slotsOf as ++ List.replicate (mL M - (slotsOf as).length) Slot.unset = L0) (body : ∀ K, Wp W K M Q H 0 0 0 L0 []) : Ct W M as H Q := by
  intro ws h0 P
  refine MetFree.of_bodySF hp hisR ?_
  intro p e s m args below meth c s₁ Bd hml0 hP hK
  obtain ⟨rfl, hZ, hh⟩ := hP
  have e0 : s₁.heap = h0 := by rw [← hh, Bd.state]; rfl
  obtain ⟨U, st, o, h1, h2, h3⟩ := body (p, e, s, m, as.toArray, below, meth, c, none) s₁ ⟨Bd.exec, hZ, findClass_of_methodNamed Bd.named, Bd.bytes, hml0, Bd.returns, (name_of_methodNamed Bd.named Bd.method).1, Bd.notSynchronized, ⟨⟨Nat.le_of_eq (by rw [e0, ← hh]; first | done | rfl), fun x c q _ => by rw [e0, ← hh]; exact q⟩, trivial⟩, [], Stand.of_body Bd, Fr.nil _, by rw [e0]; exact P⟩
  obtain ⟨v, L, e1, e2, H', e3, e4, e5⟩ := h3
  exact ⟨U, o, castTop ((entry_eq m as (mL M)).trans (by rw [he]; rfl)) st, h1, h2, v, L, e1, ⟨⟨e2, by rw [← hh]; exact e5.1⟩, H', e3, e4⟩, e5.2⟩
theorem Ct.mono {as : List Value} {Q' : Option Value → List En → Prop} (C : Ct W M as H Q) (q : ∀ v H', Q v H' → Q' v H') : Ct W M as H Q' := fun ws h0 P =>
  (C ws h0 P).mono (fun _ _ u => u) (fun _ _ _ _ _ u => u) (fun _ _ _ _ _ ⟨v, L, e1, ⟨e2, H', e3, e4⟩, e5⟩ => ⟨v, L, e1, ⟨e2, H', e3, q v H' e4⟩, e5⟩)
theorem Wp.mono {Q' : Option Value → List En → Prop} (k : Wp W K M Q H c n pc L S) (q : ∀ v H', Q v H' → Q' v H') : Wp W K M Q' H c n pc L S := fun T X => by
  obtain ⟨U, st, o, h1, h2, v, L, e1, e2, H', e3, e4, e5⟩ := k T X
  exact ⟨U, st, o, h1, h2, v, L, e1, e2, H', e3, q v H' e4, e5⟩
/-- a step that leaves the state -/
theorem Wp.go {S' : List Value} (st : ∀ T locs, Stand (kP K) (wL W) (kE K) (mR M) (kS K) (kM K) (kA K) (kB K) (kH K) (kC K) T locs c n → (kP K).tables.exec = Jvm.exec → (wZ W).Warmed39 (kS K).vm → (kS K).vm.findClass (mN M).cls = some (kM K).cls → (kC K).code = mC M → (kC K).maxLocals = mL M → Hp W T.heap H →
    ∀ t, Steps (kP K).tables (kE K) (kB K) (T.setTop (mkF (kM K) pc' L'.toArray S')) t → Steps (kP K).tables (kE K) (kB K) (T.setTop (mkF (kM K) pc L.toArray S)) t) (k : Wp W K M Q H c n pc' L' S') : Wp W K M Q H c n pc L S := fun T X => by
  obtain ⟨hx, hZ, ho, hb, hm, hr, hn, hl, gs, locs, X, N, P⟩ := X
  obtain ⟨U, s1, s2⟩ := k T ⟨hx, hZ, ho, hb, hm, hr, hn, hl, gs, locs, X, N, P⟩
  exact ⟨U, st T locs X hx hZ ho hb hm P _ s1, s2⟩
/-- a step that comes to another state -/
theorem Wp.to {S' : List Value} {c' n' : Nat} (st : ∀ T locs, Stand (kP K) (wL W) (kE K) (mR M) (kS K) (kM K) (kA K) (kB K) (kH K) (kC K) T locs c n → (kP K).tables.exec = Jvm.exec → (wZ W).Warmed39 (kS K).vm → (kS K).vm.findClass (mN M).cls = some (kM K).cls → (kC K).code = mC M → (kC K).maxLocals = mL M → (kH K).name = (mN M).name → Hp W T.heap H → Fr (wN W) locs →
    ∃ T' locs', Stand (kP K) (wL W) (kE K) (mR M) (kS K) (kM K) (kA K) (kB K) (kH K) (kC K) T' locs' c' n' ∧ Fr (wN W) locs' ∧ Hp W T'.heap H' ∧ Nx T.heap H T'.heap H' ∧ ∀ t, Steps (kP K).tables (kE K) (kB K) (T'.setTop (mkF (kM K) pc' L'.toArray S')) t → Steps (kP K).tables (kE K) (kB K) (T.setTop (mkF (kM K) pc L.toArray S)) t) (k : Wp W K M Q H' c' n' pc' L' S') : Wp W K M Q H c n pc L S := fun T X => by
  obtain ⟨hx, hZ, ho, hb, hm, hr, hn, hl, gs, locs, X, N, P⟩ := X
  obtain ⟨T', locs', X', N', P', le, s0⟩ := st T locs X hx hZ ho hb hm hn P N
  obtain ⟨U, s1, s2⟩ := k T' ⟨hx, hZ, ho, hb, hm, hr, hn, hl, gs.nx P le, locs', X', N', P'⟩
  exact ⟨U, s0 _ s1, s2⟩
theorem Wp.heap (q : H.Perm H') (k : Wp W K M Q H' c n pc L S) : Wp W K M Q H c n pc L S := fun T X => by
  obtain ⟨hx, hZ, ho, hb, hm, hr, hn, hl, gs, locs, X, N, P⟩ := X
  exact k T ⟨hx, hZ, ho, hb, hm, hr, hn, hl, gs.nx P (Nx.sub (fun y hy => q.mem_iff.mpr hy)), locs, X, N, P.perm q⟩
theorem Wp.less (q : H'.Sublist H) (k : Wp W K M Q H' c n pc L S) : Wp W K M Q H c n pc L S := fun T X => by
  obtain ⟨hx, hZ, ho, hb, hm, hr, hn, hl, gs, locs, X, N, P⟩ := X
  exact k T ⟨hx, hZ, ho, hb, hm, hr, hn, hl, gs.nx P (Nx.sub (fun y hy => q.subset hy)), locs, X, N, P.sub q⟩
theorem Wp.room {c' n' : Nat} (q1 : c ≤ c') (q2 : n ≤ n') (k : Wp W K M Q H c' n' pc L S) : Wp W K M Q H c n pc L S := fun T X => by
  obtain ⟨hx, hZ, ho, hb, hm, hr, hn, hl, gs, locs, X, N, P⟩ := X
  exact k T ⟨hx, hZ, ho, hb, hm, hr, hn, hl, gs, locs, X.mono q1 q2, N, P⟩
theorem hbM {M : Mt} {c : Code} (h : c.code = mC M) {r : Except DecodeError (Instr × Nat)} (h2 : decode (mC M) pc = r) : decode c.code pc = r := by rw [h]; exact h2
theorem Wp.aloadN {k : Fin 4} {v : Value} (hl : L[k.val]? = some (.val v)) (hv : v.isRef = true) (hd : Dc (mC M) pc (.aload_n k) 1 pc') (k : Wp W K M Q H c n pc' L (v :: S)) : Wp W K M Q H c n pc L (S) := by
  obtain ⟨hd, rfl⟩ := hd
  exact Wp.go (fun T locs X hx _ ho hc _ _ t r => XS.aloadN X.here hx rfl (hbM hc hd) (by simpa using hl) hv r) k
theorem Wp.aload {k : Nat} {v : Value} (hl : L[k]? = some (.val v)) (hv : v.isRef = true) (hd : Dc (mC M) pc (.aload k) 2 pc') (k : Wp W K M Q H c n pc' L (v :: S)) : Wp W K M Q H c n pc L (S) := by
  obtain ⟨hd, rfl⟩ := hd
  exact Wp.go (fun T locs X hx _ ho hc _ _ t r => XS.aload X.here hx rfl (hbM hc hd) (by simpa using hl) hv r) k
theorem Wp.iloadN {k : Fin 4} {v : Int32} (hl : L[k.val]? = some (.val (.int v))) (hd : Dc (mC M) pc (.iload_n k) 1 pc') (k : Wp W K M Q H c n pc' L (.int v :: S)) : Wp W K M Q H c n pc L (S) := by
  obtain ⟨hd, rfl⟩ := hd
  exact Wp.go (fun T locs X hx _ ho hc _ _ t r => XS.iloadN X.here hx rfl (hbM hc hd) (by simpa using hl) r) k
theorem Wp.iload {k : Nat} {v : Int32} (hl : L[k]? = some (.val (.int v))) (hd : Dc (mC M) pc (.iload k) 2 pc') (k : Wp W K M Q H c n pc' L (.int v :: S)) : Wp W K M Q H c n pc L (S) := by
  obtain ⟨hd, rfl⟩ := hd
  exact Wp.go (fun T locs X hx _ ho hc _ _ t r => XS.iload X.here hx rfl (hbM hc hd) (by simpa using hl) r) k
theorem Wp.lloadN {k : Fin 4} {v : Int64} (hl : L[k.val]? = some (.val (.long v))) (hd : Dc (mC M) pc (.lload_n k) 1 pc') (k : Wp W K M Q H c n pc' L (.long v :: S)) : Wp W K M Q H c n pc L (S) := by
  obtain ⟨hd, rfl⟩ := hd
  exact Wp.go (fun T locs X hx _ ho hc _ _ t r => XT.lloadN X.here hx rfl (hbM hc hd) (by simpa using hl) r) k
theorem Wp.lload {k : Nat} {v : Int64} (hl : L[k]? = some (.val (.long v))) (hd : Dc (mC M) pc (.lload k) 2 pc') (k : Wp W K M Q H c n pc' L (.long v :: S)) : Wp W K M Q H c n pc L (S) := by
  obtain ⟨hd, rfl⟩ := hd
  exact Wp.go (fun T locs X hx _ ho hc _ _ t r => XT.lload X.here hx rfl (hbM hc hd) (by simpa using hl) r) k
theorem Wp.astoreN {k : Fin 4} {v : Value} (hv : v.isRef = true) (hl : storeLocals L.toArray k.val (v) = some L'.toArray) (hd : Dc (mC M) pc (.astore_n k) 1 pc') (k : Wp W K M Q H c n pc' L' (S)) : Wp W K M Q H c n pc L (v :: S) := by
  obtain ⟨hd, rfl⟩ := hd
  exact Wp.go (fun T locs X hx _ ho hc _ _ t r => XS.astoreN X.here hx rfl (hbM hc hd) rfl hv hl r) k
theorem Wp.astore {k : Nat} {v : Value} (hv : v.isRef = true) (hl : storeLocals L.toArray k (v) = some L'.toArray) (hd : Dc (mC M) pc (.astore k) 2 pc') (k : Wp W K M Q H c n pc' L' (S)) : Wp W K M Q H c n pc L (v :: S) := by
  obtain ⟨hd, rfl⟩ := hd
  exact Wp.go (fun T locs X hx _ ho hc _ _ t r => XS.astore X.here hx rfl (hbM hc hd) rfl hv hl r) k
theorem Wp.istoreN {k : Fin 4} {v : Int32} (hl : storeLocals L.toArray k.val (.int v) = some L'.toArray) (hd : Dc (mC M) pc (.istore_n k) 1 pc') (k : Wp W K M Q H c n pc' L' (S)) : Wp W K M Q H c n pc L (.int v :: S) := by
  obtain ⟨hd, rfl⟩ := hd
  exact Wp.go (fun T locs X hx _ ho hc _ _ t r => XS.istoreN X.here hx rfl (hbM hc hd) rfl hl r) k
theorem Wp.istore {k : Nat} {v : Int32} (hl : storeLocals L.toArray k (.int v) = some L'.toArray) (hd : Dc (mC M) pc (.istore k) 2 pc') (k : Wp W K M Q H c n pc' L' (S)) : Wp W K M Q H c n pc L (.int v :: S) := by
  obtain ⟨hd, rfl⟩ := hd
  exact Wp.go (fun T locs X hx _ ho hc _ _ t r => XS.istore X.here hx rfl (hbM hc hd) rfl hl r) k
theorem Wp.lstoreN {k : Fin 4} {v : Int64} (hl : storeLocals L.toArray k.val (.long v) = some L'.toArray) (hd : Dc (mC M) pc (.lstore_n k) 1 pc') (k : Wp W K M Q H c n pc' L' (S)) : Wp W K M Q H c n pc L (.long v :: S) := by
  obtain ⟨hd, rfl⟩ := hd
  exact Wp.go (fun T locs X hx _ ho hc _ _ t r => XT.lstoreN X.here hx rfl (hbM hc hd) rfl hl r) k
theorem Wp.lstore {k : Nat} {v : Int64} (hl : storeLocals L.toArray k (.long v) = some L'.toArray) (hd : Dc (mC M) pc (.lstore k) 2 pc') (k : Wp W K M Q H c n pc' L' (S)) : Wp W K M Q H c n pc L (.long v :: S) := by
  obtain ⟨hd, rfl⟩ := hd
  exact Wp.go (fun T locs X hx _ ho hc _ _ t r => XT.lstore X.here hx rfl (hbM hc hd) rfl hl r) k
theorem Wp.iinc {k : Nat} {i : Int} {x z : Int32} (hl : L[k]? = some (.val (.int x))) (hz : x + Int32.ofInt i = z) (hs : storeLocals L.toArray k (.int z) = some L'.toArray) (hd : Dc (mC M) pc (.iinc k i) 3 pc') (k : Wp W K M Q H c n pc' L' (S)) : Wp W K M Q H c n pc L (S) := by
  obtain ⟨hd, rfl⟩ := hd
  exact Wp.go (fun T locs X hx _ ho hc _ _ t r => XS.iinc X.here hx rfl (hbM hc hd) (by simpa using hl) (hz ▸ hs) r) k
theorem Wp.iconst {i : Int} {z : Int32} (hz : Int32.ofInt i = z) (hd : Dc (mC M) pc (.iconst i) 1 pc') (k : Wp W K M Q H c n pc' L (.int z :: S)) : Wp W K M Q H c n pc L (S) := by
  obtain ⟨hd, rfl⟩ := hd
  exact Wp.go (fun T locs X hx _ ho hc _ _ t r => XS.iconst X.here hx rfl (hbM hc hd) (hz ▸ r)) k
theorem Wp.bipush {i : Int} {z : Int32} (hz : (Int8.ofInt i).toInt32 = z) (hd : Dc (mC M) pc (.bipush i) 2 pc') (k : Wp W K M Q H c n pc' L (.int z :: S)) : Wp W K M Q H c n pc L (S) := by
  obtain ⟨hd, rfl⟩ := hd
  exact Wp.go (fun T locs X hx _ ho hc _ _ t r => XS.bipush X.here hx rfl (hbM hc hd) (hz ▸ r)) k
theorem Wp.sipush {i : Int} {z : Int32} (hz : (Int16.ofInt i).toInt32 = z) (hd : Dc (mC M) pc (.sipush i) 3 pc') (k : Wp W K M Q H c n pc' L (.int z :: S)) : Wp W K M Q H c n pc L (S) := by
  obtain ⟨hd, rfl⟩ := hd
  exact Wp.go (fun T locs X hx _ ho hc _ _ t r => XS.sipush X.here hx rfl (hbM hc hd) (hz ▸ r)) k
theorem Wp.aconstNull  (hd : Dc (mC M) pc .aconst_null 1 pc') (k : Wp W K M Q H c n pc' L (.null :: S)) : Wp W K M Q H c n pc L (S) := by
  obtain ⟨hd, rfl⟩ := hd
  exact Wp.go (fun T locs X hx _ ho hc _ _ t r => XS.aconstNull X.here hx rfl (hbM hc hd) r) k
theorem Wp.lconst {k : Fin 2} {z : Int64} (hz : Int64.ofNat k = z) (hd : Dc (mC M) pc (.lconst k) 1 pc') (k : Wp W K M Q H c n pc' L (.long z :: S)) : Wp W K M Q H c n pc L (S) := by
  obtain ⟨hd, rfl⟩ := hd
  exact Wp.go (fun T locs X hx _ ho hc _ _ t r => XT.lconst X.here hx rfl (hbM hc hd) (hz ▸ r)) k
theorem Wp.ldcI {y0 : MethodName} (hM : mN M = y0) {i : Nat} {z : Int32} (w : Wok W (.constant y0.cls i z)) (hd : Dc (mC M) pc (.ldc i) 2 pc') (k : Wp W K M Q H c n pc' L (.int z :: S)) : Wp W K M Q H c n pc L (S) := by
  subst hM
  obtain ⟨hd, rfl⟩ := hd
  exact Wp.go (fun T locs X hx h0 ho hc _ _ t r => ldcI X hx ho (mvT h0 w) rfl (hbM hc hd) r) k
theorem Wp.ldcWI {y0 : MethodName} (hM : mN M = y0) {i : Nat} {z : Int32} (w : Wok W (.constant y0.cls i z)) (hd : Dc (mC M) pc (.ldc_w i) 3 pc') (k : Wp W K M Q H c n pc' L (.int z :: S)) : Wp W K M Q H c n pc L (S) := by
  subst hM
  obtain ⟨hd, rfl⟩ := hd
  exact Wp.go (fun T locs X hx h0 ho hc _ _ t r => ldcWI X hx ho (mvT h0 w) rfl (hbM hc hd) r) k
theorem Wp.ldc2J {y0 : MethodName} (hM : mN M = y0) {i : Nat} {z : Int64} (w : Wok W (.constantLong y0.cls i z)) (hd : Dc (mC M) pc (.ldc2_w i) 3 pc') (k : Wp W K M Q H c n pc' L (.long z :: S)) : Wp W K M Q H c n pc L (S) := by
  subst hM
  obtain ⟨hd, rfl⟩ := hd
  exact Wp.go (fun T locs X hx h0 ho hc _ _ t r => ldc2J X hx ho (mvT h0 w) rfl (hbM hc hd) r) k
theorem Wp.iadd {x y z : Int32} (hz : x + y = z) (hd : Dc (mC M) pc .iadd 1 pc') (k : Wp W K M Q H c n pc' L (.int z :: S)) : Wp W K M Q H c n pc L (.int y :: .int x :: S) := by
  obtain ⟨hd, rfl⟩ := hd
  exact Wp.go (fun T locs X hx _ ho hc _ _ t r => XS.iadd X.here hx rfl (hbM hc hd) rfl (hz ▸ r)) k
theorem Wp.isub {x y z : Int32} (hz : x - y = z) (hd : Dc (mC M) pc .isub 1 pc') (k : Wp W K M Q H c n pc' L (.int z :: S)) : Wp W K M Q H c n pc L (.int y :: .int x :: S) := by
  obtain ⟨hd, rfl⟩ := hd
  exact Wp.go (fun T locs X hx _ ho hc _ _ t r => XS.isub X.here hx rfl (hbM hc hd) rfl (hz ▸ r)) k
theorem Wp.imul {x y z : Int32} (hz : x * y = z) (hd : Dc (mC M) pc .imul 1 pc') (k : Wp W K M Q H c n pc' L (.int z :: S)) : Wp W K M Q H c n pc L (.int y :: .int x :: S) := by
  obtain ⟨hd, rfl⟩ := hd
  exact Wp.go (fun T locs X hx _ ho hc _ _ t r => XS.imul X.here hx rfl (hbM hc hd) rfl (hz ▸ r)) k
theorem Wp.iand {x y z : Int32} (hz : x &&& y = z) (hd : Dc (mC M) pc .iand 1 pc') (k : Wp W K M Q H c n pc' L (.int z :: S)) : Wp W K M Q H c n pc L (.int y :: .int x :: S) := by
  obtain ⟨hd, rfl⟩ := hd
  exact Wp.go (fun T locs X hx _ ho hc _ _ t r => XS.iand X.here hx rfl (hbM hc hd) rfl (hz ▸ r)) k
theorem Wp.ior {x y z : Int32} (hz : x ||| y = z) (hd : Dc (mC M) pc .ior 1 pc') (k : Wp W K M Q H c n pc' L (.int z :: S)) : Wp W K M Q H c n pc L (.int y :: .int x :: S) := by
  obtain ⟨hd, rfl⟩ := hd
  exact Wp.go (fun T locs X hx _ ho hc _ _ t r => XT.ior X.here hx rfl (hbM hc hd) rfl (hz ▸ r)) k
theorem Wp.ixor {x y z : Int32} (hz : x ^^^ y = z) (hd : Dc (mC M) pc .ixor 1 pc') (k : Wp W K M Q H c n pc' L (.int z :: S)) : Wp W K M Q H c n pc L (.int y :: .int x :: S) := by
  obtain ⟨hd, rfl⟩ := hd
  exact Wp.go (fun T locs X hx _ ho hc _ _ t r => XT.ixor X.here hx rfl (hbM hc hd) rfl (hz ▸ r)) k
theorem Wp.ishl {x y z : Int32} (hz : x <<< (y &&& 31) = z) (hd : Dc (mC M) pc .ishl 1 pc') (k : Wp W K M Q H c n pc' L (.int z :: S)) : Wp W K M Q H c n pc L (.int y :: .int x :: S) := by
  obtain ⟨hd, rfl⟩ := hd
  exact Wp.go (fun T locs X hx _ ho hc _ _ t r => XT.ishl X.here hx rfl (hbM hc hd) rfl (hz ▸ r)) k
theorem Wp.ishr {x y z : Int32} (hz : x >>> (y &&& 31) = z) (hd : Dc (mC M) pc .ishr 1 pc') (k : Wp W K M Q H c n pc' L (.int z :: S)) : Wp W K M Q H c n pc L (.int y :: .int x :: S) := by
  obtain ⟨hd, rfl⟩ := hd
  exact Wp.go (fun T locs X hx _ ho hc _ _ t r => XT.ishr X.here hx rfl (hbM hc hd) rfl (hz ▸ r)) k
theorem Wp.iushr {x y z : Int32} (hz : Jvm.Free.XT.ushr x y = z) (hd : Dc (mC M) pc .iushr 1 pc') (k : Wp W K M Q H c n pc' L (.int z :: S)) : Wp W K M Q H c n pc L (.int y :: .int x :: S) := by
  obtain ⟨hd, rfl⟩ := hd
  exact Wp.go (fun T locs X hx _ ho hc _ _ t r => XT.iushr X.here hx rfl (hbM hc hd) rfl (hz ▸ r)) k
theorem Wp.idiv {x y z : Int32} (hy : y ≠ 0) (hz : x / y = z) (hd : Dc (mC M) pc .idiv 1 pc') (k : Wp W K M Q H c n pc' L (.int z :: S)) : Wp W K M Q H c n pc L (.int y :: .int x :: S) := by
  obtain ⟨hd, rfl⟩ := hd
  exact Wp.go (fun T locs X hx _ ho hc _ _ t r => XS.idiv X.here hx rfl (hbM hc hd) rfl hy (hz ▸ r)) k
theorem Wp.irem {x y z : Int32} (hy : y ≠ 0) (hz : x % y = z) (hd : Dc (mC M) pc .irem 1 pc') (k : Wp W K M Q H c n pc' L (.int z :: S)) : Wp W K M Q H c n pc L (.int y :: .int x :: S) := by
  obtain ⟨hd, rfl⟩ := hd
  exact Wp.go (fun T locs X hx _ ho hc _ _ t r => iremM X hx rfl (hbM hc hd) rfl hy (hz ▸ r)) k
theorem Wp.ineg {x z : Int32} (hz : -x = z) (hd : Dc (mC M) pc .ineg 1 pc') (k : Wp W K M Q H c n pc' L (.int z :: S)) : Wp W K M Q H c n pc L (.int x :: S) := by
  obtain ⟨hd, rfl⟩ := hd
  exact Wp.go (fun T locs X hx _ ho hc _ _ t r => XS.ineg X.here hx rfl (hbM hc hd) rfl (hz ▸ r)) k
theorem Wp.i2b {x z : Int32} (hz : x.toInt8.toInt32 = z) (hd : Dc (mC M) pc .i2b 1 pc') (k : Wp W K M Q H c n pc' L (.int z :: S)) : Wp W K M Q H c n pc L (.int x :: S) := by
  obtain ⟨hd, rfl⟩ := hd
  exact Wp.go (fun T locs X hx _ ho hc _ _ t r => XT.i2b X.here hx rfl (hbM hc hd) rfl (hz ▸ r)) k
theorem Wp.i2c {x z : Int32} (hz : x.toUInt32.toUInt16.toUInt32.toInt32 = z) (hd : Dc (mC M) pc .i2c 1 pc') (k : Wp W K M Q H c n pc' L (.int z :: S)) : Wp W K M Q H c n pc L (.int x :: S) := by
  obtain ⟨hd, rfl⟩ := hd
  exact Wp.go (fun T locs X hx _ ho hc _ _ t r => XT.i2c X.here hx rfl (hbM hc hd) rfl (hz ▸ r)) k
theorem Wp.i2s {x z : Int32} (hz : x.toInt16.toInt32 = z) (hd : Dc (mC M) pc .i2s 1 pc') (k : Wp W K M Q H c n pc' L (.int z :: S)) : Wp W K M Q H c n pc L (.int x :: S) := by
  obtain ⟨hd, rfl⟩ := hd
  exact Wp.go (fun T locs X hx _ ho hc _ _ t r => XT.i2s X.here hx rfl (hbM hc hd) rfl (hz ▸ r)) k
theorem Wp.i2l {x : Int32} {z : Int64} (hz : x.toInt64 = z) (hd : Dc (mC M) pc .i2l 1 pc') (k : Wp W K M Q H c n pc' L (.long z :: S)) : Wp W K M Q H c n pc L (.int x :: S) := by
  obtain ⟨hd, rfl⟩ := hd
  exact Wp.go (fun T locs X hx _ ho hc _ _ t r => XT.i2l X.here hx rfl (hbM hc hd) rfl (hz ▸ r)) k
theorem Wp.l2i {x : Int64} {z : Int32} (hz : x.toInt32 = z) (hd : Dc (mC M) pc .l2i 1 pc') (k : Wp W K M Q H c n pc' L (.int z :: S)) : Wp W K M Q H c n pc L (.long x :: S) := by
  obtain ⟨hd, rfl⟩ := hd
  exact Wp.go (fun T locs X hx _ ho hc _ _ t r => XT.l2i X.here hx rfl (hbM hc hd) rfl (hz ▸ r)) k
theorem Wp.ladd {x y z : Int64} (hz : x + y = z) (hd : Dc (mC M) pc .ladd 1 pc') (k : Wp W K M Q H c n pc' L (.long z :: S)) : Wp W K M Q H c n pc L (.long y :: .long x :: S) := by
  obtain ⟨hd, rfl⟩ := hd
  exact Wp.go (fun T locs X hx _ ho hc _ _ t r => XT.ladd X.here hx rfl (hbM hc hd) rfl (hz ▸ r)) k
theorem Wp.lsub {x y z : Int64} (hz : x - y = z) (hd : Dc (mC M) pc .lsub 1 pc') (k : Wp W K M Q H c n pc' L (.long z :: S)) : Wp W K M Q H c n pc L (.long y :: .long x :: S) := by
  obtain ⟨hd, rfl⟩ := hd
  exact Wp.go (fun T locs X hx _ ho hc _ _ t r => XT.lsub X.here hx rfl (hbM hc hd) rfl (hz ▸ r)) k
theorem Wp.lmul {x y z : Int64} (hz : x * y = z) (hd : Dc (mC M) pc .lmul 1 pc') (k : Wp W K M Q H c n pc' L (.long z :: S)) : Wp W K M Q H c n pc L (.long y :: .long x :: S) := by
  obtain ⟨hd, rfl⟩ := hd
  exact Wp.go (fun T locs X hx _ ho hc _ _ t r => XT.lmul X.here hx rfl (hbM hc hd) rfl (hz ▸ r)) k
theorem Wp.land {x y z : Int64} (hz : x &&& y = z) (hd : Dc (mC M) pc .land 1 pc') (k : Wp W K M Q H c n pc' L (.long z :: S)) : Wp W K M Q H c n pc L (.long y :: .long x :: S) := by
  obtain ⟨hd, rfl⟩ := hd
  exact Wp.go (fun T locs X hx _ ho hc _ _ t r => XT.land X.here hx rfl (hbM hc hd) rfl (hz ▸ r)) k
theorem Wp.lor {x y z : Int64} (hz : x ||| y = z) (hd : Dc (mC M) pc .lor 1 pc') (k : Wp W K M Q H c n pc' L (.long z :: S)) : Wp W K M Q H c n pc L (.long y :: .long x :: S) := by
  obtain ⟨hd, rfl⟩ := hd
  exact Wp.go (fun T locs X hx _ ho hc _ _ t r => XT.lor X.here hx rfl (hbM hc hd) rfl (hz ▸ r)) k
theorem Wp.lxor {x y z : Int64} (hz : x ^^^ y = z) (hd : Dc (mC M) pc .lxor 1 pc') (k : Wp W K M Q H c n pc' L (.long z :: S)) : Wp W K M Q H c n pc L (.long y :: .long x :: S) := by
  obtain ⟨hd, rfl⟩ := hd
  exact Wp.go (fun T locs X hx _ ho hc _ _ t r => XT.lxor X.here hx rfl (hbM hc hd) rfl (hz ▸ r)) k
theorem Wp.ldiv {x y z : Int64} (hy : y ≠ 0) (hz : x / y = z) (hd : Dc (mC M) pc .ldiv 1 pc') (k : Wp W K M Q H c n pc' L (.long z :: S)) : Wp W K M Q H c n pc L (.long y :: .long x :: S) := by
  obtain ⟨hd, rfl⟩ := hd
  exact Wp.go (fun T locs X hx _ ho hc _ _ t r => XT.ldiv X.here hx rfl (hbM hc hd) rfl hy (hz ▸ r)) k
theorem Wp.lrem {x y z : Int64} (hy : y ≠ 0) (hz : x - (x / y) * y = z) (hd : Dc (mC M) pc .lrem 1 pc') (k : Wp W K M Q H c n pc' L (.long z :: S)) : Wp W K M Q H c n pc L (.long y :: .long x :: S) := by
  obtain ⟨hd, rfl⟩ := hd
  exact Wp.go (fun T locs X hx _ ho hc _ _ t r => XT.lrem X.here hx rfl (hbM hc hd) rfl hy (hz ▸ r)) k
theorem Wp.lneg {x z : Int64} (hz : -x = z) (hd : Dc (mC M) pc .lneg 1 pc') (k : Wp W K M Q H c n pc' L (.long z :: S)) : Wp W K M Q H c n pc L (.long x :: S) := by
  obtain ⟨hd, rfl⟩ := hd
  exact Wp.go (fun T locs X hx _ ho hc _ _ t r => XT.lneg X.here hx rfl (hbM hc hd) rfl (hz ▸ r)) k
theorem Wp.lshl {x : Int64} {y : Int32} {z : Int64} (hz : x <<< (y.toInt64 &&& 63) = z) (hd : Dc (mC M) pc .lshl 1 pc') (k : Wp W K M Q H c n pc' L (.long z :: S)) : Wp W K M Q H c n pc L (.int y :: .long x :: S) := by
  obtain ⟨hd, rfl⟩ := hd
  exact Wp.go (fun T locs X hx _ ho hc _ _ t r => XT.lshl X.here hx rfl (hbM hc hd) rfl (hz ▸ r)) k
theorem Wp.lshr {x : Int64} {y : Int32} {z : Int64} (hz : x >>> (y.toInt64 &&& 63) = z) (hd : Dc (mC M) pc .lshr 1 pc') (k : Wp W K M Q H c n pc' L (.long z :: S)) : Wp W K M Q H c n pc L (.int y :: .long x :: S) := by
  obtain ⟨hd, rfl⟩ := hd
  exact Wp.go (fun T locs X hx _ ho hc _ _ t r => XT.lshr X.here hx rfl (hbM hc hd) rfl (hz ▸ r)) k
theorem Wp.lushr {x : Int64} {y : Int32} {z : Int64} (hz : Jvm.Free.XT.ushrL x y = z) (hd : Dc (mC M) pc .lushr 1 pc') (k : Wp W K M Q H c n pc' L (.long z :: S)) : Wp W K M Q H c n pc L (.int y :: .long x :: S) := by
  obtain ⟨hd, rfl⟩ := hd
  exact Wp.go (fun T locs X hx _ ho hc _ _ t r => XT.lushr X.here hx rfl (hbM hc hd) rfl (hz ▸ r)) k
theorem Wp.lcmp {x y : Int64} {z : Int32} (hz : Jvm.Free.XT.cmpL x y = z) (hd : Dc (mC M) pc .lcmp 1 pc') (k : Wp W K M Q H c n pc' L (.int z :: S)) : Wp W K M Q H c n pc L (.long y :: .long x :: S) := by
  obtain ⟨hd, rfl⟩ := hd
  exact Wp.go (fun T locs X hx _ ho hc _ _ t r => XT.lcmp X.here hx rfl (hbM hc hd) rfl (hz ▸ r)) k
theorem Wp.pop {x : Value} (hc1 : x.category = 1) (hd : Dc (mC M) pc .pop 1 pc') (k : Wp W K M Q H c n pc' L (S)) : Wp W K M Q H c n pc L (x :: S) := by
  obtain ⟨hd, rfl⟩ := hd
  exact Wp.go (fun T locs X hx _ ho hc _ _ t r => XT.pop X.here hx rfl (hbM hc hd) rfl hc1 r) k
theorem Wp.dup {x : Value} (hc1 : x.category = 1) (hd : Dc (mC M) pc .dup 1 pc') (k : Wp W K M Q H c n pc' L (x :: x :: S)) : Wp W K M Q H c n pc L (x :: S) := by
  obtain ⟨hd, rfl⟩ := hd
  exact Wp.go (fun T locs X hx _ ho hc _ _ t r => XS.dup X.here hx rfl (hbM hc hd) rfl hc1 r) k
theorem Wp.dupX1 {x y : Value} (hc1 : x.category = 1) (hc2 : y.category = 1) (hd : Dc (mC M) pc .dup_x1 1 pc') (k : Wp W K M Q H c n pc' L (x :: y :: x :: S)) : Wp W K M Q H c n pc L (x :: y :: S) := by
  obtain ⟨hd, rfl⟩ := hd
  exact Wp.go (fun T locs X hx _ ho hc _ _ t r => XT.dupX1 X.here hx rfl (hbM hc hd) rfl hc1 hc2 r) k
theorem Wp.dup2 {x y : Value} (hc1 : x.category = 1) (hc2 : y.category = 1) (hd : Dc (mC M) pc .dup2 1 pc') (k : Wp W K M Q H c n pc' L (x :: y :: x :: y :: S)) : Wp W K M Q H c n pc L (x :: y :: S) := by
  obtain ⟨hd, rfl⟩ := hd
  exact Wp.go (fun T locs X hx _ ho hc _ _ t r => XT.dup2 X.here hx rfl (hbM hc hd) rfl hc1 hc2 r) k
theorem Wp.dup2L {x : Int64} (hd : Dc (mC M) pc .dup2 1 pc') (k : Wp W K M Q H c n pc' L (.long x :: .long x :: S)) : Wp W K M Q H c n pc L (.long x :: S) := by
  obtain ⟨hd, rfl⟩ := hd
  exact Wp.go (fun T locs X hx _ ho hc _ _ t r => XT.dup2L X.here hx rfl (hbM hc hd) rfl r) k
theorem Wp.icT {cd : ClassFile.Cond} {x y : Int32} (hq : if_icmp.holds cd x y = true) {o : Int} (hd : Bj (mC M) pc (.if_icmp cd o) o pc' pt) (k : Wp W K M Q H c n pt L S) : Wp W K M Q H c n pc L (.int y :: .int x :: S) := by
  obtain ⟨hd, -, h1, h2⟩ := hd
  exact Wp.go (fun T locs X hx _ ho hc _ _ t r => XS.icmpYes X.here hx rfl rfl (hbM hc hd) rfl hq h1 h2 r) k
theorem Wp.icF {cd : ClassFile.Cond} {x y : Int32} (hq : if_icmp.holds cd x y = false) {o : Int} (hd : Bj (mC M) pc (.if_icmp cd o) o pc' pt) (k : Wp W K M Q H c n pc' L S) : Wp W K M Q H c n pc L (.int y :: .int x :: S) := by
  obtain ⟨hd, rfl, -, -⟩ := hd
  exact Wp.go (fun T locs X hx _ ho hc _ _ t r => XS.icmpNo X.here hx rfl (hbM hc hd) rfl hq r) k
theorem Wp.ifT {cd : ClassFile.Cond} {x : Int32} (hq : if_icmp.holds cd x 0 = true) {o : Int} (hd : Bj (mC M) pc (.ifCond cd o) o pc' pt) (k : Wp W K M Q H c n pt L S) : Wp W K M Q H c n pc L (.int x :: S) := by
  obtain ⟨hd, -, h1, h2⟩ := hd
  exact Wp.go (fun T locs X hx _ ho hc _ _ t r => XS.ifYes X.here hx rfl rfl (hbM hc hd) rfl ((if0 _ _).trans hq) h1 h2 r) k
theorem Wp.ifF {cd : ClassFile.Cond} {x : Int32} (hq : if_icmp.holds cd x 0 = false) {o : Int} (hd : Bj (mC M) pc (.ifCond cd o) o pc' pt) (k : Wp W K M Q H c n pc' L S) : Wp W K M Q H c n pc L (.int x :: S) := by
  obtain ⟨hd, rfl, -, -⟩ := hd
  exact Wp.go (fun T locs X hx _ ho hc _ _ t r => XS.ifNo X.here hx rfl (hbM hc hd) rfl ((if0 _ _).trans hq) r) k
theorem Wp.acT {cd : ACond} {x y : Value} (hx1 : x.isRef = true) (hy1 : y.isRef = true) (hq : Jvm.Free.XT.acmp cd x y = true) {o : Int} (hd : Bj (mC M) pc (.if_acmp cd o) o pc' pt) (k : Wp W K M Q H c n pt L S) : Wp W K M Q H c n pc L (y :: x :: S) := by
  obtain ⟨hd, -, h1, h2⟩ := hd
  exact Wp.go (fun T locs X hx _ ho hc _ _ t r => XT.acmpYes X.here hx rfl rfl (hbM hc hd) rfl hx1 hy1 hq h1 h2 r) k
theorem Wp.acF {cd : ACond} {x y : Value} (hx1 : x.isRef = true) (hy1 : y.isRef = true) (hq : Jvm.Free.XT.acmp cd x y = false) {o : Int} (hd : Bj (mC M) pc (.if_acmp cd o) o pc' pt) (k : Wp W K M Q H c n pc' L S) : Wp W K M Q H c n pc L (y :: x :: S) := by
  obtain ⟨hd, rfl, -, -⟩ := hd
  exact Wp.go (fun T locs X hx _ ho hc _ _ t r => XT.acmpNo X.here hx rfl (hbM hc hd) rfl hx1 hy1 hq r) k
theorem Wp.ifnullT  {o : Int} (hd : Bj (mC M) pc (.ifnull o) o pc' pt) (k : Wp W K M Q H c n pt L S) : Wp W K M Q H c n pc L (.null :: S) := by
  obtain ⟨hd, -, h1, h2⟩ := hd
  exact Wp.go (fun T locs X hx _ ho hc _ _ t r => XS.ifnullYes X.here hx rfl rfl (hbM hc hd) rfl h1 h2 r) k
theorem Wp.ifnullF {b : Addr} {o : Int} (hd : Bj (mC M) pc (.ifnull o) o pc' pt) (k : Wp W K M Q H c n pc' L S) : Wp W K M Q H c n pc L (.ref b :: S) := by
  obtain ⟨hd, rfl, -, -⟩ := hd
  exact Wp.go (fun T locs X hx _ ho hc _ _ t r => XS.ifnullNo X.here hx rfl (hbM hc hd) rfl r) k
theorem Wp.ifnonnullT {b : Addr} {o : Int} (hd : Bj (mC M) pc (.ifnonnull o) o pc' pt) (k : Wp W K M Q H c n pt L S) : Wp W K M Q H c n pc L (.ref b :: S) := by
  obtain ⟨hd, -, h1, h2⟩ := hd
  exact Wp.go (fun T locs X hx _ ho hc _ _ t r => XT.ifnonnullYes X.here hx rfl rfl (hbM hc hd) rfl h1 h2 r) k
theorem Wp.ifnonnullF  {o : Int} (hd : Bj (mC M) pc (.ifnonnull o) o pc' pt) (k : Wp W K M Q H c n pc' L S) : Wp W K M Q H c n pc L (.null :: S) := by
  obtain ⟨hd, rfl, -, -⟩ := hd
  exact Wp.go (fun T locs X hx _ ho hc _ _ t r => XT.ifnonnullNo X.here hx rfl (hbM hc hd) rfl r) k
theorem Wp.goto {o : Int} (hd : Bj (mC M) pc (.goto o) o pc' pt) (k : Wp W K M Q H c n pt L S) : Wp W K M Q H c n pc L S := by
  obtain ⟨hd, -, h1, h2⟩ := hd
  exact Wp.go (fun T locs X hx _ ho hc _ _ t r => XS.goto X.here hx rfl rfl (hbM hc hd) h1 h2 r) k
-- heap reads
theorem Wp.getF {y0 : MethodName} (hM : mN M = y0) {R0 O nm d host : String} {idx : Nat} (w : Wok W (.fieldLink y0.cls idx R0 nm d) ∨ Wok W (.fieldLinkNest y0.cls idx R0 nm d host)) (via : Via (wZ W) R0 O nm d) {a : Addr} {rw : Bool} {C : String} {fs : List Fd} {v : Value} (i j : Nat) (hi : H[i]? = some (a, rw, .inl (C, fs))) (hj : fs[j]? = some (O, nm, d, v))
    (hd : Dc (mC M) pc (.getfield idx) 3 pc') (k : Wp W K M Q H c n pc' L (v :: S)) : Wp W K M Q H c n pc L (.ref a :: S) := by
  subst hM
  obtain ⟨hd, rfl⟩ := hd
  exact Wp.to (fun T locs X hx hZ ho hc _ _ P N => by
    have F : ObOk (wZ W) T.heap a C fs := P.at hi
    obtain ⟨T', X', e', st⟩ := Jvm.RoadKit.getF X hx hZ ho w via rfl (F.2.1 _ (List.mem_of_getElem? hj)) (g := mkF (kM K) pc L.toArray (.ref a :: S)) rfl rfl (hbM hc hd)
    exact ⟨T', locs, X', N, by rw [e']; exact P, by rw [e']; exact Nx.refl _ _, st⟩) k
theorem Wp.putF {y0 : MethodName} (hM : mN M = y0) {R0 O nm d host : String} {idx kk : Nat} {ty : FieldType} (w : Wok W (.fieldLink y0.cls idx R0 nm d) ∨ Wok W (.fieldLinkNest y0.cls idx R0 nm d host)) (via : Via (wZ W) R0 O nm d) {a : Addr} {C : String} {fs : List Fd} {v old : Value} (i j : Nat) (hi : H[i]? = some (a, true, .inl (C, fs))) (hj : fs[j]? = some (O, nm, d, old))
    (la : Wok W (.lays C O nm d) ∨ (Wok W (.laysFinal C O nm d) ∧ y0.cls = O ∧ y0.name = "<init>")) (wi : Wok W (.instantiable C kk)) (hty : parseFieldDescriptor d = some ty) (hn : narrow ty v = v) (hf : fits ty v = true)
    (hd : Dc (mC M) pc (.putfield idx) 3 pc') (hH : H.set i (a, true, .inl (C, fs.set j (O, nm, d, v))) = H') (k : Wp W K M Q H' c n pc' L S) : Wp W K M Q H c n pc L (v :: .ref a :: S) := by
  subst hM
  obtain ⟨hd, rfl⟩ := hd
  subst hH
  exact Wp.to (fun T locs X hx hZ ho hc _ hnm P N => by
    have F : ObOk (wZ W) T.heap a C fs := P.at hi
    obtain ⟨T', h', X', e', E, st⟩ := Jvm.RoadKit.putF X hx hZ ho w via rfl (F.2.1 _ (List.mem_of_getElem? hj)) F.1 (la.imp id fun u => ⟨u.1, u.2.1, hnm.trans u.2.2⟩) wi hty hn hf (g := mkF (kM K) pc L.toArray (v :: .ref a :: S)) rfl rfl (hbM hc hd)
    exact ⟨T', _, X', Fr.snoc X' N ((P.2.1 _ (List.mem_of_getElem? hi)).1 rfl).1, by rw [e']; exact P.put hi E (F.put hj E), by rw [e']; exact Nx.put hi E, st⟩) k
theorem Wp.putFN {y0 : MethodName} (hM : mN M = y0) {R0 O nm d : String} {idx kk : Nat} {ty : FieldType} (w : Wok W (.fieldLink y0.cls idx R0 nm d)) (via : Via (wZ W) R0 O nm d) {a : Addr} {C : String} {fs : List Fd} {v v' old : Value} (i j : Nat) (hi : H[i]? = some (a, true, .inl (C, fs))) (hj : fs[j]? = some (O, nm, d, old))
    (la : Wok W (.lays C O nm d) ∨ (Wok W (.laysFinal C O nm d) ∧ y0.cls = O ∧ y0.name = "<init>")) (wi : Wok W (.instantiable C kk)) (hty : parseFieldDescriptor d = some ty) (hn : narrow ty v = v') (hf : fits ty v' = true)
    (hd : Dc (mC M) pc (.putfield idx) 3 pc') (hH : H.set i (a, true, .inl (C, fs.set j (O, nm, d, v'))) = H') (k : Wp W K M Q H' c n pc' L S) : Wp W K M Q H c n pc L (v :: .ref a :: S) := by
  subst hM
  obtain ⟨hd, rfl⟩ := hd
  subst hH
  exact Wp.to (fun T locs X hx hZ ho hc _ hnm P N => by
    have F : ObOk (wZ W) T.heap a C fs := P.at hi
    obtain ⟨T', h', X', e', E, st⟩ := Jvm.RoadKit.putFN X hx hZ ho w via rfl (F.2.1 _ (List.mem_of_getElem? hj)) F.1 (la.imp id fun u => ⟨u.1, u.2.1, hnm.trans u.2.2⟩) wi hty hn hf (g := mkF (kM K) pc L.toArray (v :: .ref a :: S)) rfl rfl (hbM hc hd)
    exact ⟨T', _, X', Fr.snoc X' N ((P.2.1 _ (List.mem_of_getElem? hi)).1 rfl).1, by rw [e']; exact P.put hi E (F.put hj E), by rw [e']; exact Nx.put hi E, st⟩) k
theorem Wp.getS {y0 : MethodName} (hM : mN M = y0) {R0 O nm d host : String} {idx : Nat} (w : Wok W (.fieldLink y0.cls idx R0 nm d) ∨ Wok W (.fieldLinkNest y0.cls idx R0 nm d host)) (via : Via (wZ W) R0 O nm d) {v : Value} (F : Sta (wZ W) (wZ W).heap O nm d v) (hd : Dc (mC M) pc (.getstatic idx) 3 pc') (k : Wp W K M Q H c n pc' L (v :: S)) : Wp W K M Q H c n pc L S := by
  subst hM
  obtain ⟨hd, rfl⟩ := hd
  exact Wp.to (fun T locs X hx hZ ho hc _ _ P N => by
    obtain ⟨T', X', e', st⟩ := Jvm.RoadKit.getS2 X hx hZ ho w via rfl (F.ext P.1.1.2) (g := mkF (kM K) pc L.toArray S) rfl (hbM hc hd)
    exact ⟨T', locs, X', N, by rw [e']; exact P, by rw [e']; exact Nx.refl _ _, st⟩) k
-- new objects and arrays
def NewFs (W : Wd) (C : String) (fs : List Fd) : Prop := (∀ f ∈ fs, ∃ ty, Laid (wZ W) (wA W) C f.1 f.2.1 f.2.2.1 ∧ parseFieldDescriptor f.2.2.1 = some ty ∧ f.2.2.2 = defaultValue ty) ∧ (fs.map fun f => f.2.1).Nodup
theorem NewFs.nil {C : String} : NewFs W C [] := ⟨fun _ q => (nomatch q), List.nodup_nil⟩
theorem NewFs.cons {C O nm d : String} {ty : FieldType} {v : Value} {fs : List Fd} (la : Laid (wZ W) (wA W) C O nm d) (ht : parseFieldDescriptor d = some ty) (hv : v = defaultValue ty) (hn : nm ∉ fs.map fun f => f.2.1) (r : NewFs W C fs) : NewFs W C ((O, nm, d, v) :: fs) :=
  ⟨fun f hf => (List.mem_cons.mp hf).elim (fun e => e ▸ ⟨ty, la, ht, hv⟩) (r.1 f), List.nodup_cons.mpr ⟨hn, r.2⟩⟩
theorem NewFs.slots {C : String} : ∀ {fs : List Fd}, NewFs W C fs → (fs.map (fSl (wZ W))).Nodup
  | [], _ => List.nodup_nil
  | f :: fs, r => by
    have hn := List.nodup_cons.mp (show (f.2.1 :: fs.map fun f => f.2.1).Nodup from r.2)
    refine List.nodup_cons.mpr ⟨fun q => ?_, NewFs.slots ⟨fun g hg => r.1 g (List.mem_cons_of_mem _ hg), hn.2⟩⟩
    obtain ⟨g, hg, e⟩ := List.mem_map.mp q
    obtain ⟨t1, l1, p1, -⟩ := r.1 f List.mem_cons_self
    obtain ⟨t2, l2, p2, -⟩ := r.1 g (List.mem_cons_of_mem _ hg)
    have ne : f.2.1 ≠ g.2.1 := fun e => hn.1 (e ▸ List.mem_map.mpr ⟨g, hg, rfl⟩)
    exact Jvm.RoadKit.slot_ne l1 l2 ne p1 p2 e.symm
theorem Wp.newO {y0 : MethodName} (hM : mN M = y0) {C : String} {idx kk : Nat} {fs : List Fd} (w : Wok W (.classLink y0.cls idx C)) (wi : Wok W (.instantiable C kk)) (wz : Wok W (.initialized C)) (hfs : NewFs W C fs) (hc1 : c + 1 ≤ (mR M).cells) (hl1 : n + kk ≤ (mR M).slots)
    (hd : Dc (mC M) pc (.new idx) 3 pc') (k : ∀ a : Addr, Wp W K M Q ((a, true, .inl (C, fs)) :: H) (c + 1) (n + kk) pc' L (.ref a :: S)) : Wp W K M Q H c n pc L S := by
  subst hM
  obtain ⟨hd, rfl⟩ := hd
  exact fun T X => by
    obtain ⟨hx, hZ, ho, hb, hm, hr, hn, hl, gs, locs, X, N, P⟩ := X
    obtain ⟨T', h', X', e', E, A, D, -, st⟩ := Jvm.RoadKit.newO X hx hZ ho w wi wz rfl (g := mkF (kM K) pc L.toArray S) rfl (hbM hb hd) hc1 hl1
    have F : DsOk (wZ W) h' T.heap.size (.inl (C, fs)) := ⟨A, fun f hf => by
      obtain ⟨ty, l1, l2, l3⟩ := hfs.1 f hf
      show Fld (wZ W) h' T.heap.size f.1 f.2.1 f.2.2.1 f.2.2.2
      rw [l3]; exact D l1 l2, hfs.slots⟩
    obtain ⟨U, s1, s2⟩ := k T.heap.size T' ⟨hx, hZ, ho, hb, hm, hr, hn, hl, gs.nx P (by rw [e']; exact Nx.new E), locs, X', N, by rw [e']; exact P.new E F⟩
    exact ⟨U, st _ s1, s2⟩
theorem def_fits (ty : FieldType) : fits ty (defaultValue ty) = true := by cases ty <;> first | decide | rfl
theorem arNew {Z : State} {h : Heap} {a : Addr} {cA : ClassId} {ty : FieldType} {z : Int32} {kk : Nat} (A : Arr Z h a (newA cA ty z) ty) (hz : z.toNatClampNeg = kk) (ex ov : Bool) (h1 : ex = true → Exa Z h a ("[" ++ ty.toString)) (h2 : ov = true → ∀ C, ty = .object C → Ovr Z cA C) : ArOk Z h a ty ex ov (List.replicate kk (defaultValue ty)) := by
  subst hz
  refine ⟨_, A, by simp [newA], ?_, fun v hv => by rw [List.eq_of_mem_replicate hv]; exact def_fits ty, h1, h2⟩
  rw [List.length_replicate]
  have := Int32.toNatClampNeg_lt z
  omega
theorem Wp.newP {aty : ArrayType} {z : Int32} {kk : Nat} {vs : List Value} (hd : Dc (mC M) pc (.newarray aty) 2 pc') (w : Wok W (.arrayClass (newarray.typeOf aty))) (hz : z.toNatClampNeg = kk) (h0 : ¬ z < 0) (hb8 : kk * 8 ≤ 536870912) (hc1 : c + 1 ≤ (mR M).cells) (hl1 : n + kk ≤ (mR M).slots) (hv : List.replicate kk (defaultValue (newarray.typeOf aty)) = vs)
    (k : ∀ a : Addr, Wp W K M Q ((a, true, .inr (newarray.typeOf aty, true, false, vs)) :: H) (c + 1) (n + kk) pc' L (.ref a :: S)) : Wp W K M Q H c n pc L (.int z :: S) := by
  obtain ⟨hd, rfl⟩ := hd
  subst hv
  exact fun T X => by
    obtain ⟨hx, hZ, ho, hb, hm, hr, hn, hl, gs, locs, X, N, P⟩ := X
    obtain ⟨T', h', cA, X', e', E, A, B, st⟩ := Jvm.RoadKit.newPE X hx hZ w rfl (g := mkF (kM K) pc L.toArray (.int z :: S)) rfl (hbM hb hd) rfl h0 (Nat.le_of_eq hz) hb8 hc1 hl1 (ad := _) rfl
    obtain ⟨U, s1, s2⟩ := k T.heap.size T' ⟨hx, hZ, ho, hb, hm, hr, hn, hl, gs.nx P (by rw [e']; exact Nx.new E), locs, X', N, by rw [e']; exact P.new E (arNew A hz true false (fun _ => B) (fun q => nomatch q))⟩
    exact ⟨U, st _ s1, s2⟩
theorem Wp.newR {y0 : MethodName} (hM : mN M = y0) {C : String} {idx : Nat} {z : Int32} {kk : Nat} {vs : List Value} (w : Wok W (.classLink y0.cls idx C)) (w2 : Wok W (.arrayOver (.object C))) (hz : z.toNatClampNeg = kk) (h0 : ¬ z < 0) (hb8 : kk * 8 ≤ 536870912) (hc1 : c + 1 ≤ (mR M).cells) (hl1 : n + kk ≤ (mR M).slots) (hv : List.replicate kk Value.null = vs)
    (hd : Dc (mC M) pc (.anewarray idx) 3 pc') (k : ∀ a : Addr, Wp W K M Q ((a, true, .inr (.object C, true, true, vs)) :: H) (c + 1) (n + kk) pc' L (.ref a :: S)) : Wp W K M Q H c n pc L (.int z :: S) := by
  subst hM
  obtain ⟨hd, rfl⟩ := hd
  subst hv
  exact fun T X => by
    obtain ⟨hx, hZ, ho, hb, hm, hr, hn, hl, gs, locs, X, N, P⟩ := X
    obtain ⟨T', h', cA, X', e', E, A, B, O, st⟩ := Jvm.RoadKit.newRE X hx hZ ho w w2 rfl (g := mkF (kM K) pc L.toArray (.int z :: S)) rfl (hbM hb hd) rfl h0 (Nat.le_of_eq hz) hb8 hc1 hl1 (ad := _) rfl
    obtain ⟨U, s1, s2⟩ := k T.heap.size T' ⟨hx, hZ, ho, hb, hm, hr, hn, hl, gs.nx P (by rw [e']; exact Nx.new E), locs, X', N, by rw [e']; exact P.new E (arNew A hz true true (fun _ => B) (fun _ C' e => by cases e; exact O))⟩
    exact ⟨U, st _ s1, s2⟩
-- arrays read and written
theorem ArOk.inb {Z : State} {c : Cell} {vs : List Value} {j : Int32} {k : Nat} {v : Value} (e : c.slots.toList = vs) (hj : ¬ j < 0) (hk : j.toNatClampNeg = k) (hv : vs[k]? = some v) : ¬ (j < 0 ∨ c.slots.size ≤ j.toNatClampNeg) ∧ c.slots[j.toNatClampNeg]? = some v := by
  subst hk e
  rw [Array.getElem?_toList] at hv
  refine ⟨fun q => q.elim hj fun q => ?_, hv⟩
  rw [Array.getElem?_eq_none q] at hv
  cases hv
theorem Wp.alen {a : Addr} {rw ex ov : Bool} {ty : FieldType} {vs : List Value} {z : Int32} (i : Nat) (hi : H[i]? = some (a, rw, .inr (ty, ex, ov, vs))) (hz : vs.length.toInt32 = z) (hd : Dc (mC M) pc .arraylength 1 pc') (k : Wp W K M Q H c n pc' L (.int z :: S)) : Wp W K M Q H c n pc L (.ref a :: S) := by
  obtain ⟨hd, rfl⟩ := hd
  exact Wp.go (fun T locs X hx hZ ho hc _ P t r => by
    obtain ⟨cl, h1, h2, -⟩ : ArOk (wZ W) T.heap a ty ex ov vs := P.at hi
    refine X.arraylength hx h1.1 (State.isArrayOf_alike hZ.alike h1.2.1) (g := mkF (kM K) pc L.toArray (.ref a :: S)) rfl rfl (hbM hc hd) _ ?_
    have e : cl.slots.size.toInt32 = z := by rw [← hz, ← h2]; rfl
    rw [e]; exact r) k
theorem Wp.iaload {a : Addr} {rw ex ov : Bool} {vs : List Value} {j : Int32} {v : Value} (i kk : Nat) (hi : H[i]? = some (a, rw, .inr (.int, ex, ov, vs))) (hj : ¬ j < 0) (hk : j.toNatClampNeg = kk) (hv : vs[kk]? = some v) (hd : Dc (mC M) pc .iaload 1 pc') (k : Wp W K M Q H c n pc' L (v :: S)) : Wp W K M Q H c n pc L (.int j :: .ref a :: S) := by
  obtain ⟨hd, rfl⟩ := hd
  exact Wp.go (fun T locs X hx hZ ho hc _ P t r => by
    obtain ⟨cl, h1, h2, -⟩ : ArOk (wZ W) T.heap a .int ex ov vs := P.at hi
    obtain ⟨g1, g2⟩ := ArOk.inb (Z := wZ W) h2 hj hk hv
    exact X.iaload hx h1.1 (State.isArrayOf_alike hZ.alike h1.2.1) h1.2.2 g1 g2 (g := mkF (kM K) pc L.toArray (.int j :: .ref a :: S)) rfl rfl (hbM hc hd) _ r) k
theorem Wp.laload {a : Addr} {rw ex ov : Bool} {vs : List Value} {j : Int32} {v : Value} (i kk : Nat) (hi : H[i]? = some (a, rw, .inr (.long, ex, ov, vs))) (hj : ¬ j < 0) (hk : j.toNatClampNeg = kk) (hv : vs[kk]? = some v) (hd : Dc (mC M) pc .laload 1 pc') (k : Wp W K M Q H c n pc' L (v :: S)) : Wp W K M Q H c n pc L (.int j :: .ref a :: S) := by
  obtain ⟨hd, rfl⟩ := hd
  exact Wp.go (fun T locs X hx hZ ho hc _ P t r => by
    obtain ⟨cl, h1, h2, -⟩ : ArOk (wZ W) T.heap a .long ex ov vs := P.at hi
    obtain ⟨g1, g2⟩ := ArOk.inb (Z := wZ W) h2 hj hk hv
    exact X.laload hx h1.1 (State.isArrayOf_alike hZ.alike h1.2.1) h1.2.2 g1 g2 (g := mkF (kM K) pc L.toArray (.int j :: .ref a :: S)) rfl rfl (hbM hc hd) _ r) k
theorem Wp.caload {a : Addr} {rw ex ov : Bool} {vs : List Value} {j : Int32} {v : Value} (i kk : Nat) (hi : H[i]? = some (a, rw, .inr (.char, ex, ov, vs))) (hj : ¬ j < 0) (hk : j.toNatClampNeg = kk) (hv : vs[kk]? = some v) (hd : Dc (mC M) pc .caload 1 pc') (k : Wp W K M Q H c n pc' L (v :: S)) : Wp W K M Q H c n pc L (.int j :: .ref a :: S) := by
  obtain ⟨hd, rfl⟩ := hd
  exact Wp.go (fun T locs X hx hZ ho hc _ P t r => by
    obtain ⟨cl, h1, h2, -⟩ : ArOk (wZ W) T.heap a .char ex ov vs := P.at hi
    obtain ⟨g1, g2⟩ := ArOk.inb (Z := wZ W) h2 hj hk hv
    exact X.caload hx h1.1 (State.isArrayOf_alike hZ.alike h1.2.1) h1.2.2 g1 g2 (g := mkF (kM K) pc L.toArray (.int j :: .ref a :: S)) rfl rfl (hbM hc hd) _ r) k
theorem Wp.saload {a : Addr} {rw ex ov : Bool} {vs : List Value} {j : Int32} {v : Value} (i kk : Nat) (hi : H[i]? = some (a, rw, .inr (.short, ex, ov, vs))) (hj : ¬ j < 0) (hk : j.toNatClampNeg = kk) (hv : vs[kk]? = some v) (hd : Dc (mC M) pc .saload 1 pc') (k : Wp W K M Q H c n pc' L (v :: S)) : Wp W K M Q H c n pc L (.int j :: .ref a :: S) := by
  obtain ⟨hd, rfl⟩ := hd
  exact Wp.go (fun T locs X hx hZ ho hc _ P t r => by
    obtain ⟨cl, h1, h2, -⟩ : ArOk (wZ W) T.heap a .short ex ov vs := P.at hi
    obtain ⟨g1, g2⟩ := ArOk.inb (Z := wZ W) h2 hj hk hv
    exact X.saload hx h1.1 (State.isArrayOf_alike hZ.alike h1.2.1) h1.2.2 g1 g2 (g := mkF (kM K) pc L.toArray (.int j :: .ref a :: S)) rfl rfl (hbM hc hd) _ r) k
theorem Wp.baload {a : Addr} {rw ex ov : Bool} {vs : List Value} {j : Int32} {v : Value} (i kk : Nat) (hi : H[i]? = some (a, rw, .inr (.byte, ex, ov, vs))) (hj : ¬ j < 0) (hk : j.toNatClampNeg = kk) (hv : vs[kk]? = some v) (hd : Dc (mC M) pc .baload 1 pc') (k : Wp W K M Q H c n pc' L (v :: S)) : Wp W K M Q H c n pc L (.int j :: .ref a :: S) := by
  obtain ⟨hd, rfl⟩ := hd
  exact Wp.go (fun T locs X hx hZ ho hc _ P t r => by
    obtain ⟨cl, h1, h2, -⟩ : ArOk (wZ W) T.heap a .byte ex ov vs := P.at hi
    obtain ⟨g1, g2⟩ := ArOk.inb (Z := wZ W) h2 hj hk hv
    exact X.baloadBytes hx h1.1 (State.isArrayOf_alike hZ.alike h1.2.1) h1.2.2 g1 g2 (g := mkF (kM K) pc L.toArray (.int j :: .ref a :: S)) rfl rfl (hbM hc hd) _ r) k
theorem Wp.baloadZ {a : Addr} {rw ex ov : Bool} {vs : List Value} {j : Int32} {v : Value} (i kk : Nat) (hi : H[i]? = some (a, rw, .inr (.boolean, ex, ov, vs))) (hj : ¬ j < 0) (hk : j.toNatClampNeg = kk) (hv : vs[kk]? = some v) (hd : Dc (mC M) pc .baload 1 pc') (k : Wp W K M Q H c n pc' L (v :: S)) : Wp W K M Q H c n pc L (.int j :: .ref a :: S) := by
  obtain ⟨hd, rfl⟩ := hd
  exact Wp.go (fun T locs X hx hZ ho hc _ P t r => by
    obtain ⟨cl, h1, h2, -⟩ : ArOk (wZ W) T.heap a .boolean ex ov vs := P.at hi
    obtain ⟨g1, g2⟩ := ArOk.inb (Z := wZ W) h2 hj hk hv
    exact X.baloadBooleans hx h1.1 (State.isArrayOf_alike hZ.alike h1.2.1) h1.2.2 g1 g2 (g := mkF (kM K) pc L.toArray (.int j :: .ref a :: S)) rfl rfl (hbM hc hd) _ r) k
theorem Wp.aaload {a : Addr} {rw ex ov : Bool} {ty : FieldType} {vs : List Value} {j : Int32} {v : Value} (i kk : Nat) (hi : H[i]? = some (a, rw, .inr (ty, ex, ov, vs))) (hty : ty.isReference = true) (hj : ¬ j < 0) (hk : j.toNatClampNeg = kk) (hv : vs[kk]? = some v) (hd : Dc (mC M) pc .aaload 1 pc') (k : Wp W K M Q H c n pc' L (v :: S)) : Wp W K M Q H c n pc L (.int j :: .ref a :: S) := by
  obtain ⟨hd, rfl⟩ := hd
  exact Wp.go (fun T locs X hx hZ ho hc _ P t r => by
    obtain ⟨cl, h1, h2, -⟩ : ArOk (wZ W) T.heap a ty ex ov vs := P.at hi
    obtain ⟨g1, g2⟩ := ArOk.inb (Z := wZ W) h2 hj hk hv
    exact X.aaload hx h1.1 (State.isArrayOf_alike hZ.alike h1.2.1) hty h1.2.2 g1 g2 (g := mkF (kM K) pc L.toArray (.int j :: .ref a :: S)) rfl rfl (hbM hc hd) _ r) k
theorem Wp.castore {a : Addr} {ex ov : Bool} {vs : List Value} {j : Int32} {x : Int32} {z : Int32} (i kk : Nat) (hi : H[i]? = some (a, true, .inr (.char, ex, ov, vs))) (hj : ¬ j < 0) (hk : j.toNatClampNeg = kk) (hl : kk < vs.length) (hz : nar .char x = z) (hd : Dc (mC M) pc .castore 1 pc') (hH : H.set i (a, true, .inr (.char, ex, ov, vs.set kk (.int z))) = H') (k : Wp W K M Q H' c n pc' L S) : Wp W K M Q H c n pc L (.int x :: .int j :: .ref a :: S) := by
  obtain ⟨hd, rfl⟩ := hd
  subst hH hz
  exact Wp.to (fun T locs X hx hZ ho hc _ hnm P N => by
    have F : ArOk (wZ W) T.heap a .char ex ov vs := P.at hi
    obtain ⟨cl, h1, h2, -⟩ := id F
    obtain ⟨g1, -⟩ := ArOk.inb (Z := wZ W) h2 hj hk (List.getElem?_eq_getElem hl)
    obtain ⟨T', h', X', e', E, st⟩ := Jvm.RoadKit.stC X hx hZ rfl h1 g1 (g := mkF (kM K) pc L.toArray (.int x :: .int j :: .ref a :: S)) rfl rfl (hbM hc hd)
    exact ⟨T', _, X', Fr.snoc X' N ((P.2.1 _ (List.mem_of_getElem? hi)).1 rfl).1, by rw [e']; exact P.put hi E (F.put hk (fits_nar_char x) E), by rw [e']; exact Nx.put hi E, st⟩) k
theorem Wp.sastore {a : Addr} {ex ov : Bool} {vs : List Value} {j : Int32} {x : Int32} {z : Int32} (i kk : Nat) (hi : H[i]? = some (a, true, .inr (.short, ex, ov, vs))) (hj : ¬ j < 0) (hk : j.toNatClampNeg = kk) (hl : kk < vs.length) (hz : nar .short x = z) (hd : Dc (mC M) pc .sastore 1 pc') (hH : H.set i (a, true, .inr (.short, ex, ov, vs.set kk (.int z))) = H') (k : Wp W K M Q H' c n pc' L S) : Wp W K M Q H c n pc L (.int x :: .int j :: .ref a :: S) := by
  obtain ⟨hd, rfl⟩ := hd
  subst hH hz
  exact Wp.to (fun T locs X hx hZ ho hc _ hnm P N => by
    have F : ArOk (wZ W) T.heap a .short ex ov vs := P.at hi
    obtain ⟨cl, h1, h2, -⟩ := id F
    obtain ⟨g1, -⟩ := ArOk.inb (Z := wZ W) h2 hj hk (List.getElem?_eq_getElem hl)
    obtain ⟨T', h', X', e', E, st⟩ := Jvm.RoadKit.stS X hx hZ rfl h1 g1 (g := mkF (kM K) pc L.toArray (.int x :: .int j :: .ref a :: S)) rfl rfl (hbM hc hd)
    exact ⟨T', _, X', Fr.snoc X' N ((P.2.1 _ (List.mem_of_getElem? hi)).1 rfl).1, by rw [e']; exact P.put hi E (F.put hk (fits_nar_short x) E), by rw [e']; exact Nx.put hi E, st⟩) k
theorem Wp.bastore {a : Addr} {ex ov : Bool} {vs : List Value} {j : Int32} {x : Int32} {z : Int32} (i kk : Nat) (hi : H[i]? = some (a, true, .inr (.byte, ex, ov, vs))) (hj : ¬ j < 0) (hk : j.toNatClampNeg = kk) (hl : kk < vs.length) (hz : nar .byte x = z) (hd : Dc (mC M) pc .bastore 1 pc') (hH : H.set i (a, true, .inr (.byte, ex, ov, vs.set kk (.int z))) = H') (k : Wp W K M Q H' c n pc' L S) : Wp W K M Q H c n pc L (.int x :: .int j :: .ref a :: S) := by
  obtain ⟨hd, rfl⟩ := hd
  subst hH hz
  exact Wp.to (fun T locs X hx hZ ho hc _ hnm P N => by
    have F : ArOk (wZ W) T.heap a .byte ex ov vs := P.at hi
    obtain ⟨cl, h1, h2, -⟩ := id F
    obtain ⟨g1, -⟩ := ArOk.inb (Z := wZ W) h2 hj hk (List.getElem?_eq_getElem hl)
    obtain ⟨T', h', X', e', E, st⟩ := Jvm.RoadKit.stB X hx hZ rfl h1 g1 (g := mkF (kM K) pc L.toArray (.int x :: .int j :: .ref a :: S)) rfl rfl (hbM hc hd)
    exact ⟨T', _, X', Fr.snoc X' N ((P.2.1 _ (List.mem_of_getElem? hi)).1 rfl).1, by rw [e']; exact P.put hi E (F.put hk (fits_nar_byte x) E), by rw [e']; exact Nx.put hi E, st⟩) k
theorem Wp.bastoreZ {a : Addr} {ex ov : Bool} {vs : List Value} {j : Int32} {x : Int32} {z : Int32} (i kk : Nat) (hi : H[i]? = some (a, true, .inr (.boolean, ex, ov, vs))) (hj : ¬ j < 0) (hk : j.toNatClampNeg = kk) (hl : kk < vs.length) (hz : nar .boolean x = z) (hd : Dc (mC M) pc .bastore 1 pc') (hH : H.set i (a, true, .inr (.boolean, ex, ov, vs.set kk (.int z))) = H') (k : Wp W K M Q H' c n pc' L S) : Wp W K M Q H c n pc L (.int x :: .int j :: .ref a :: S) := by
  obtain ⟨hd, rfl⟩ := hd
  subst hH hz
  exact Wp.to (fun T locs X hx hZ ho hc _ hnm P N => by
    have F : ArOk (wZ W) T.heap a .boolean ex ov vs := P.at hi
    obtain ⟨cl, h1, h2, -⟩ := id F
    obtain ⟨g1, -⟩ := ArOk.inb (Z := wZ W) h2 hj hk (List.getElem?_eq_getElem hl)
    obtain ⟨T', h', X', e', E, st⟩ := Jvm.RoadKit.stZ X hx hZ rfl h1 g1 (g := mkF (kM K) pc L.toArray (.int x :: .int j :: .ref a :: S)) rfl rfl (hbM hc hd)
    exact ⟨T', _, X', Fr.snoc X' N ((P.2.1 _ (List.mem_of_getElem? hi)).1 rfl).1, by rw [e']; exact P.put hi E (F.put hk (fits_nar_bool x) E), by rw [e']; exact Nx.put hi E, st⟩) k
theorem Wp.iastore {a : Addr} {ex ov : Bool} {vs : List Value} {j : Int32} {x : Int32} (i kk : Nat) (hi : H[i]? = some (a, true, .inr (.int, ex, ov, vs))) (hj : ¬ j < 0) (hk : j.toNatClampNeg = kk) (hl : kk < vs.length) (hd : Dc (mC M) pc .iastore 1 pc') (hH : H.set i (a, true, .inr (.int, ex, ov, vs.set kk (.int x))) = H') (k : Wp W K M Q H' c n pc' L S) : Wp W K M Q H c n pc L (.int x :: .int j :: .ref a :: S) := by
  obtain ⟨hd, rfl⟩ := hd
  subst hH
  exact Wp.to (fun T locs X hx hZ ho hc _ hnm P N => by
    have F : ArOk (wZ W) T.heap a .int ex ov vs := P.at hi
    obtain ⟨cl, h1, h2, -⟩ := id F
    obtain ⟨g1, -⟩ := ArOk.inb (Z := wZ W) h2 hj hk (List.getElem?_eq_getElem hl)
    obtain ⟨T', h', X', e', E, st⟩ := Jvm.RoadKit.stI X hx hZ rfl h1 g1 (g := mkF (kM K) pc L.toArray (.int x :: .int j :: .ref a :: S)) rfl rfl (hbM hc hd)
    exact ⟨T', _, X', Fr.snoc X' N ((P.2.1 _ (List.mem_of_getElem? hi)).1 rfl).1, by rw [e']; exact P.put hi E (F.put hk (rfl) E), by rw [e']; exact Nx.put hi E, st⟩) k
theorem Wp.lastore {a : Addr} {ex ov : Bool} {vs : List Value} {j : Int32} {x : Int64} (i kk : Nat) (hi : H[i]? = some (a, true, .inr (.long, ex, ov, vs))) (hj : ¬ j < 0) (hk : j.toNatClampNeg = kk) (hl : kk < vs.length) (hd : Dc (mC M) pc .lastore 1 pc') (hH : H.set i (a, true, .inr (.long, ex, ov, vs.set kk (.long x))) = H') (k : Wp W K M Q H' c n pc' L S) : Wp W K M Q H c n pc L (.long x :: .int j :: .ref a :: S) := by
  obtain ⟨hd, rfl⟩ := hd
  subst hH
  exact Wp.to (fun T locs X hx hZ ho hc _ hnm P N => by
    have F : ArOk (wZ W) T.heap a .long ex ov vs := P.at hi
    obtain ⟨cl, h1, h2, -⟩ := id F
    obtain ⟨g1, -⟩ := ArOk.inb (Z := wZ W) h2 hj hk (List.getElem?_eq_getElem hl)
    obtain ⟨T', h', X', e', E, st⟩ := Jvm.RoadKit.stJ X hx hZ rfl h1 g1 (g := mkF (kM K) pc L.toArray (.long x :: .int j :: .ref a :: S)) rfl rfl (hbM hc hd)
    exact ⟨T', _, X', Fr.snoc X' N ((P.2.1 _ (List.mem_of_getElem? hi)).1 rfl).1, by rw [e']; exact P.put hi E (F.put hk (rfl) E), by rw [e']; exact Nx.put hi E, st⟩) k
/-- a reference stored into an array over the class C: null, or an object of exactly the class D that is a C -/
theorem Wp.aastore {a : Addr} {ex : Bool} {C : String} {vs : List Value} {j : Int32} {v : Value} (i kk : Nat) (hi : H[i]? = some (a, true, .inr (.object C, ex, true, vs))) (hj : ¬ j < 0) (hk : j.toNatClampNeg = kk) (hl : kk < vs.length) (hs : v = .null ∨ ∃ y, v = .ref y ∧ ∀ h, Hp W h H → Ins (wZ W) h y C true) (hr : v.isRef = true)
    (hd : Dc (mC M) pc .aastore 1 pc') (hH : H.set i (a, true, .inr (.object C, ex, true, vs.set kk v)) = H') (k : Wp W K M Q H' c n pc' L S) : Wp W K M Q H c n pc L (v :: .int j :: .ref a :: S) := by
  obtain ⟨hd, rfl⟩ := hd
  subst hH
  exact Wp.to (fun T locs X hx hZ ho hc _ hnm P N => by
    have F : ArOk (wZ W) T.heap a (.object C) ex true vs := P.at hi
    obtain ⟨cl, h1, h2, h3, h4, h5, h6⟩ := id F
    obtain ⟨g1, -⟩ := ArOk.inb (Z := wZ W) h2 hj hk (List.getElem?_eq_getElem hl)
    have B : Sto (wZ W) T.heap a v := hs.elim Or.inl fun ⟨y, e, I⟩ => e ▸ Sto.of h1 (h6 rfl C rfl) (I _ P)
    obtain ⟨T', h', X', e', E, st⟩ := Jvm.RoadKit.stR X hx hZ rfl h1 g1 rfl B (g := mkF (kM K) pc L.toArray (v :: .int j :: .ref a :: S)) rfl rfl (hbM hc hd)
    have hf : fits (.object C) v = true := by rcases ref_cases hr with rfl | ⟨_, rfl⟩ <;> rfl
    exact ⟨T', _, X', Fr.snoc X' N ((P.2.1 _ (List.mem_of_getElem? hi)).1 rfl).1, by rw [e']; exact P.put hi E (F.put hk hf E), by rw [e']; exact Nx.put hi E, st⟩) k
-- the ends
theorem Wp.fin {v : Option Value} (q : Q v H) (hc1 : c ≤ (mR M).cells) (hn1 : n ≤ (mR M).slots) (hv : mT M = none → v = none)
    (st : ∀ T locs, Stand (kP K) (wL W) (kE K) (mR M) (kS K) (kM K) (kA K) (kB K) (kH K) (kC K) T locs c n → (kP K).tables.exec = Jvm.exec → (kC K).code = mC M → (kH K).sig.returnType = mT M → ∀ fs, (∀ (f : JFrame) (acts : List Action), f.method = kM K → f.locked = none → f.entered = [] → (doReturn (kE K) (T.setTop f) acts v).1 = T.setFrames fs) → Steps (kP K).tables (kE K) (kB K) (T.setTop (mkF (kM K) pc L.toArray S)) (T.setFrames fs)) : Wp W K M Q H c n pc L S := fun T X => by
  obtain ⟨hx, hZ, ho, hb, hm, hr, hn, hl, gs, locs, X, N, P⟩ := X
  rcases e : kW K with _ | ⟨s0, EL⟩
  · obtain ⟨fs, h1, h2, h3, h4, h5⟩ := X.leave (v := v) (fun u => hv (hr.symm.trans u)) hl
    refine ⟨_, st T locs X hx hb hr fs h1, _, h2, h3, v, locs, rfl, N, H, P, q, gs.1, ?_⟩
    rw [e]
    exact ⟨⟨v, rfl⟩, h4, h5.mono hc1 hn1⟩
  · obtain ⟨g1, ⟨k0, g2, g3⟩, g4, g5, g6⟩ := gs.2.get e
    have X1 := X
    rw [g1] at X1
    have A := CHv.at X1 hZ g4 g5.1
    obtain ⟨fs, h1, h2, h3, h4, h5, h6, h7⟩ := Stand.leaveW X1 g2 g3 (v := v) (fun u => hv (hr.symm.trans u)) hl
    refine ⟨_, st T locs X hx hb hr fs h1, _, h2, h3, v, locs, rfl, N, H, P, q, gs.1, ?_⟩
    rw [e]
    exact ⟨⟨h4, h5, h6, h7.mono hc1 hn1⟩, g5.trans A, fun y hy hr => A.safe (P.2.1 y hy).2.lt (g6 y hy hr)⟩
theorem Wp.ret (hT : mT M = none) (hd : Dc (mC M) pc .return_ 1 pc') (hc1 : c ≤ (mR M).cells) (hn1 : n ≤ (mR M).slots) (q : Q none H) : Wp W K M Q H c n pc L [] := by
  obtain ⟨hd, rfl⟩ := hd
  exact Wp.fin q hc1 hn1 (fun _ => rfl) fun T locs X hx hc hr fs hl => X.returnOut hx (hr.trans hT) (hbM hc hd) hl
theorem Wp.iretN {t : FieldType} {x z : Int32} (ht : t = .boolean ∨ t = .byte ∨ t = .char ∨ t = .short) (hT : mT M = some t) (hz : nar t x = z) (hd : Dc (mC M) pc .ireturn 1 pc') (hc1 : c ≤ (mR M).cells) (hn1 : n ≤ (mR M).slots) (q : Q (some (.int z)) H) : Wp W K M Q H c n pc L (.int x :: S) := by
  obtain ⟨hd, rfl⟩ := hd
  subst hz
  exact Wp.fin q hc1 hn1 (fun u => by rw [hT] at u; cases u) fun T locs X hx hc hr fs hl => retN X hx (hr.trans hT) ht (hbM hc hd) hl
theorem Wp.iret {x : Int32} (hT : mT M = some .int) (hd : Dc (mC M) pc .ireturn 1 pc') (hc1 : c ≤ (mR M).cells) (hn1 : n ≤ (mR M).slots) (q : Q (some (.int x)) H) : Wp W K M Q H c n pc L (.int x :: S) := by
  obtain ⟨hd, rfl⟩ := hd
  exact Wp.fin q hc1 hn1 (fun u => by rw [hT] at u; cases u) fun T locs X hx hc hr fs hl => retOut X hx (hr.trans hT) rfl (Or.inl ⟨rfl, Or.inl rfl, x, rfl⟩) (hbM hc hd) hl
theorem Wp.lret {x : Int64} (hT : mT M = some .long) (hd : Dc (mC M) pc .lreturn 1 pc') (hc1 : c ≤ (mR M).cells) (hn1 : n ≤ (mR M).slots) (q : Q (some (.long x)) H) : Wp W K M Q H c n pc L (.long x :: S) := by
  obtain ⟨hd, rfl⟩ := hd
  exact Wp.fin q hc1 hn1 (fun u => by rw [hT] at u; cases u) fun T locs X hx hc hr fs hl => retOut X hx (hr.trans hT) rfl (Or.inr (Or.inl ⟨rfl, rfl, x, rfl⟩)) (hbM hc hd) hl
theorem Wp.aret {t : FieldType} {v : Value} (hT : mT M = some t) (hr1 : t.isReference = true) (hv : v.isRef = true) (hd : Dc (mC M) pc .areturn 1 pc') (hc1 : c ≤ (mR M).cells) (hn1 : n ≤ (mR M).slots) (q : Q (some v) H) : Wp W K M Q H c n pc L (v :: S) := by
  obtain ⟨hd, rfl⟩ := hd
  have hn2 : narrow t v = v := by rcases ref_cases hv with rfl | ⟨_, rfl⟩ <;> cases t <;> rfl
  exact Wp.fin q hc1 hn1 (fun u => by rw [hT] at u; cases u) fun T locs X hx hc hr fs hl => retOut X hx (hr.trans hT) hn2 (Or.inr (Or.inr (Or.inr (Or.inr ⟨rfl, hr1, hv⟩)))) (hbM hc hd) hl
-- calls
def pushV (v : Option Value) (S : List Value) : List Value := match v with
  | none => S
  | some x => x :: S
theorem pushV_eq (v : Option Value) (S : List Value) : pushV v S = v.toList ++ S := by cases v <;> rfl
theorem mkLen {d : String} {ps : List FieldType} {r : Option FieldType} {np : Nat} (hd : parseMethodDescriptor d = some ⟨ps, r⟩) (hl : np = ps.length) : ∀ sig, parseMethodDescriptor d = some sig → np = sig.parameters.length := fun sig h => by
  rw [hd] at h; cases h; exact hl
theorem Wp.know {P : Prop} (q : ∀ h, Hp W h H → P) (k : P → Wp W K M Q H c n pc L S) : Wp W K M Q H c n pc L S := fun T X => by
  have u := X
  obtain ⟨-, -, -, -, -, -, -, -, -, -, -, -, hp⟩ := u
  exact k (q _ hp) T X
theorem Wp.apart {a b : Addr} {r r' : Bool} {D D' : Ds} (i j : Nat) (hi : H[i]? = some (a, r, D)) (hj : H[j]? = some (b, r', D')) (hne : i ≠ j) (hr : r = true) (k : b ≠ a → Wp W K M Q H c n pc L S) : Wp W K M Q H c n pc L S := Wp.know (fun _ P => P.apart hi hj hne hr) k
theorem acT_eq (a : Value) : Jvm.Free.XT.acmp .eq a a = true := by simp [Jvm.Free.XT.acmp]
theorem acT_ne (a : Value) : Jvm.Free.XT.acmp .ne a a = false := by simp [Jvm.Free.XT.acmp]
theorem acF_eq {a b : Addr} (h : a ≠ b) : Jvm.Free.XT.acmp .eq (.ref a) (.ref b) = false := by simp [Jvm.Free.XT.acmp, h]
theorem acF_ne {a b : Addr} (h : a ≠ b) : Jvm.Free.XT.acmp .ne (.ref a) (.ref b) = true := by simp [Jvm.Free.XT.acmp, h]
theorem acN_eq_l (b : Addr) : Jvm.Free.XT.acmp .eq .null (.ref b) = false := by simp [Jvm.Free.XT.acmp]
theorem acN_eq_r (b : Addr) : Jvm.Free.XT.acmp .eq (.ref b) .null = false := by simp [Jvm.Free.XT.acmp]
theorem acN_ne_l (b : Addr) : Jvm.Free.XT.acmp .ne .null (.ref b) = true := by simp [Jvm.Free.XT.acmp]
theorem acN_ne_r (b : Addr) : Jvm.Free.XT.acmp .ne (.ref b) .null = true := by simp [Jvm.Free.XT.acmp]
theorem insSelf {h : Heap} {a : Addr} {r : Bool} {C : String} {fs : List Fd} (P : Hp W h H) (i : Nat) (hi : H[i]? = some (a, r, .inl (C, fs))) : Ins (wZ W) h a C true := Ins.self (show ObOk (wZ W) h a C fs from P.at hi).1
theorem insCast {h : Heap} {a : Addr} {r : Bool} {C D : String} {fs : List Fd} (P : Hp W h H) (i : Nat) (hi : H[i]? = some (a, r, .inl (C, fs))) (w : Wok W (.castable C D)) : Ins (wZ W) h a D true := Ins.of_exa (show ObOk (wZ W) h a C fs from P.at hi).1 w
/-- what the sheet says of a callee: its code, its class, how many arguments -/
def Mk (W : Wd) (M : Mt) (y : MethodName) (np : Nat) : Prop := mN M = y ∧ Wok W (.code y (mC M) (mL M) (mT M)) ∧ Wok W (.initialized y.cls) ∧ (∀ sig, parseMethodDescriptor y.desc = some sig → np = sig.parameters.length) ∧ (y.cls ≠ "java/lang/invoke/MethodHandle" ∧ y.cls ≠ "java/lang/invoke/VarHandle")
theorem Mk.of {W : Wd} {M : Mt} {y : MethodName} {np ml : Nat} {cd : ByteArray} {rt : Option FieldType} (h1 : mN M = y) (h2 : mC M = cd) (h3 : mL M = ml) (h4 : mT M = rt) (w1 : Wok W (.code y cd ml rt)) (w2 : Wok W (.initialized y.cls)) (h5 : ∀ sig, parseMethodDescriptor y.desc = some sig → np = sig.parameters.length) (h6 : y.cls ≠ "java/lang/invoke/MethodHandle" ∧ y.cls ≠ "java/lang/invoke/VarHandle") : Mk W M y np := by
  subst h1 h2 h3 h4
  exact ⟨rfl, w1, w2, h5, h6⟩
abbrev Fits (M M' : Mt) (c n Wn : Nat) : Prop := (mR M').frames + 1 ≤ (mR M).frames ∧ Wn + (mL M' + 11) + (mR M').locals ≤ (mR M).locals ∧ c + (mR M').cells ≤ (mR M).cells ∧ n + (mR M').slots ≤ (mR M).slots
/-- what a callee may write: what its caller may, or what is new -/
def Pn (H : List En) (h : Heap) : Addr → Prop := fun a => (∃ y ∈ H, y.2.1 = true ∧ y.1 = a) ∨ h.size ≤ a
theorem Hp.pn {h : Heap} (P : Hp W h H) : Hp (wSet W (Pn H h)) h H := ⟨⟨P.1.1, fun a q => Or.inr q⟩, fun x hx => ⟨fun r => ⟨((P.2.1 x hx).1 r).1, Or.inl ⟨x, hx, r, rfl⟩⟩, (P.2.1 x hx).2⟩, P.2.2⟩
theorem pn_wp {h : Heap} (P : Hp W h H) {a : Addr} (q : Pn H h a) : wP W a := q.elim (fun ⟨y, hy, r, e⟩ => e ▸ ((P.2.1 y hy).1 r).2) (fun q => P.1.2 a q)
theorem Hp.widen {h h' : Heap} (Q : Hp (wSet W (Pn H h)) h' H') (P : Hp W h H) (le : h.size ≤ h'.size) : Hp W h' H' := ⟨⟨Q.1.1, fun a q => P.1.2 a (Nat.le_trans le q)⟩, fun x hx => ⟨fun r => ⟨((Q.2.1 x hx).1 r).1, pn_wp P ((Q.2.1 x hx).1 r).2⟩, (Q.2.1 x hx).2⟩, Q.2.2⟩
theorem Nx.call {h h' : Heap} (P : Hp W h H) (k : Kl (wSet W (Pn H h)) h h') (Q : Hp (wSet W (Pn H h)) h' H') : Nx h H h' H' := ⟨k.1, fun x c q r => k.2 x c q (fun u => (show Pn H h x from u).elim (fun ⟨y, hy, r', e⟩ => r y hy r' e) (fun g => absurd (Array.getElem?_eq_some_iff.mp q).1 (Nat.not_lt.mpr g))), fun y hy hr => (show Pn H h y.1 from ((Q.2.1 y hy).1 hr).2).elim (fun u => Or.inr u) Or.inl⟩
theorem Ct.back {M' : Mt} {as : List Value} {Q' : Option Value → List En → Prop} {h : Heap} {p : Program} {e : Env} {s : State} {args : Array Value} {below : List Frame} {ln Wn : Nat} {R : Room} (C : ∀ P', Ct (wSet W P') M' as H Q') (P : Hp W h H) (hZ : (wZ W).Warmed39 s.vm) {np : Nat} (w : Mk W M' (mN M') np) (hf : (mR M').frames + 1 ≤ R.frames) (hl : Wn + (mL M' + 11) + (mR M').locals ≤ R.locals) :
    Back (wL W) R p e below s args (mN M') ln Wn (fun A a => a = as.toArray ∧ A.U.heap = h ∧ A.cells + (mR M').cells ≤ R.cells ∧ A.slots + (mR M').slots ≤ R.slots) (fun A _ v B => ∃ L, (Fr (wN W) L ∧ ∃ H', Hp W B.U.heap H' ∧ Nx h H B.U.heap H' ∧ Q' v H') ∧ B.locs = A.locs ++ L ∧ B.cells = A.cells + (mR M').cells ∧ B.slots = A.slots + (mR M').slots) :=
  backOf (Q := fun v h1 L => Fr (wN W) L ∧ ∃ H', Hp W h1 H' ∧ Nx h H h1 H' ∧ Q' v H') ((C (Pn H h) [] h P.pn).mono (fun _ _ u => u) (fun _ _ _ _ _ u => u) (fun _ _ _ _ _ ⟨v, L, e1, ⟨⟨e2, e6⟩, H', e3, e4⟩, e5⟩ => ⟨v, L, e1, ⟨e2, H', e3.widen P e6.1, Nx.call P e6 e3, e4⟩, e5⟩)) hZ w.2.1 w.2.2.1 hf hl
theorem Wp.callS {y0 : MethodName} (hM : mN M = y0) {M' : Mt} {as : List Value} {idx Wn np : Nat} {S0 : List Value} {Q' : Option Value → List En → Prop} (C : ∀ P', Ct (wSet W P') M' as H Q') {y' : MethodName} (w : Mk W M' y' np) (w1 : Wok W (.methodLink y0.cls idx y')) (w2 : Wok W (.static y')) (hst : S0 = as.reverse ++ S) (hp : as.length = np) (hW : (S.map fun v => v.category).sum = Wn) (hL : L.length = mL M) (hR : Fits M M' c n Wn)
    (hd : Dc (mC M) pc (.invokestatic idx) 3 pc') (k : ∀ v H', Q' v H' → Wp W K M Q H' (c + (mR M').cells) (n + (mR M').slots) pc' L (pushV v S)) : Wp W K M Q H c n pc L S0 := by
  subst hM
  obtain ⟨rfl, w⟩ := w
  obtain ⟨hd, rfl⟩ := hd
  subst hst hp
  exact fun T X => by
    obtain ⟨hx, hZ, ho, hb, hm, hr, hn, hl, gs, locs, X, N, P⟩ := X
    obtain ⟨v, vm1, ⟨T', L', k', n'⟩, -, X', ⟨Lc, ⟨N', H', P', g', q⟩, l1, y1, z1⟩, st⟩ := Jvm.LawKit.callS X hx (y := mN M') ho (mvT hZ w1) (mvT hZ w2) (mvT hZ w.2.1) (mvT hZ w.1) w.2.2.2 (Ct.back C P hZ ⟨rfl, w⟩ hR.1 hR.2.1) (g := mkF (kM K) pc L.toArray (as.reverse ++ S)) rfl (by rw [hm, ← hL]; simp) (argsL := as) (rest := S) w.2.2.1 rfl (by show 2 * 0 + _ ≤ _; omega) (hbM hb hd) (fun _ _ => ⟨rfl, rfl, hR.2.2.1, hR.2.2.2⟩)
    dsimp only [Pt.U, Pt.locs, Pt.cells, Pt.slots] at X' l1 y1 z1 st P'
    subst l1 y1 z1
    obtain ⟨U, s1, s2⟩ := k v H' q T' ⟨hx, hZ, ho, hb, hm, hr, hn, hl, gs.nx P g', _, X', N.app N', P'⟩
    rw [pushV_eq] at s1
    exact ⟨U, st _ s1, s2⟩
/-- a constructor -/
theorem Wp.callC {y0 : MethodName} (hM : mN M = y0) {M' : Mt} {a : Addr} {as : List Value} {idx Wn np : Nat} {S0 : List Value} {Q' : Option Value → List En → Prop} (C : ∀ P', Ct (wSet W P') M' (.ref a :: as) H Q') {y' : MethodName} (w : Mk W M' y' np) (w1 : Wok W (.methodLink y0.cls idx y')) (w2 : Wok W (.instanceMethod y')) (hi : y'.name = "<init>") (hT : mT M' = none) (hst : S0 = as.reverse ++ .ref a :: S) (hp : as.length = np) (hW : (S.map fun v => v.category).sum = Wn) (hL : L.length = mL M) (hR : Fits M M' c n Wn)
    (hd : Dc (mC M) pc (.invokespecial idx) 3 pc') (k : ∀ v H', Q' v H' → Wp W K M Q H' (c + (mR M').cells) (n + (mR M').slots) pc' L (pushV v S)) : Wp W K M Q H c n pc L S0 := by
  subst hM
  obtain ⟨rfl, w⟩ := w
  obtain ⟨hd, rfl⟩ := hd
  subst hst hp
  exact fun T X => by
    obtain ⟨hx, hZ, ho, hb, hm, hr, hn, hl, gs, locs, X, N, P⟩ := X
    obtain ⟨v, vm1, ⟨T', L', k', n'⟩, -, X', ⟨Lc, ⟨N', H', P', g', q⟩, l1, y1, z1⟩, st⟩ := X.specialBack hx (y := mN M') hi ho (mvT hZ w1) (mvT hZ w2) (hT ▸ mvT hZ w.1) w.2.2.2 (Ct.back C P hZ ⟨rfl, w⟩ hR.1 hR.2.1) (g := mkF (kM K) pc L.toArray (as.reverse ++ .ref a :: S)) rfl (by rw [hm, ← hL]; simp) (Steps.refl _) (a := a) (argsL := as) (rest := S) w.2.2.1 rfl (by show 2 * 0 + _ ≤ _; omega) (hbM hb hd) (fun _ _ => ⟨rfl, rfl, hR.2.2.1, hR.2.2.2⟩)
    dsimp only [Pt.U, Pt.locs, Pt.cells, Pt.slots] at X' l1 y1 z1 st P'
    subst l1 y1 z1
    obtain ⟨U, s1, s2⟩ := k v H' q T' ⟨hx, hZ, ho, hb, hm, hr, hn, hl, gs.nx P g', _, X', N.app N', P'⟩
    rw [pushV_eq] at s1
    exact ⟨U, st.trans s1, s2⟩
theorem selP {args : Array Value} {s : State} {C1 : String} {y : MethodName} (hZ : (wZ W).Warmed39 s.vm) (w3 : Wok W (.selects C1 y y)) (w2 : Wok W (.instanceMethod y)) (w4 : Wok W (.privateMethod y)) (hy : y.cls ≠ "java/lang/invoke/MethodHandle" ∧ y.cls ≠ "java/lang/invoke/VarHandle") : (Cond.selects y.cls y y).before args s = true := by
  obtain ⟨c2, r2, m2, q1, q2, q3, q4, kP, hkP, hkPi⟩ := Cond.selects_spec (args := #[]) (mvT hZ w3)
  exact Jvm.Stand.selects_self_of_private (findClass_of_methodNamed q3) hkP hkPi (Cond.privateMethod_at (mvP hZ w4 (args := #[]))) (mvT hZ w2) hy
theorem nf_sel {args : Array Value} {s : State} {C : String} {y y1 z1 : MethodName} (hsel : (Cond.selects C y1 z1).before args s = true) (hc : z1.cls = y.cls) : NotFace s y := fun r0 h0 => by
  obtain ⟨c2, r2, m2, q1, q2, q3, q4, kP, hkP, hkPi⟩ := Cond.selects_spec hsel
  have e1 := findClass_of_methodNamed q3
  rw [hc] at e1
  have e := Option.some.inj (e1.symm.trans (findClass_of_methodNamed h0))
  exact ⟨kP, by rw [← e]; exact hkP, hkPi⟩
theorem sameM {C1 : String} {y y1 z1 : MethodName} (w3 : Wok W (.instanceMethod y)) (w5 : Wok W (.selects C1 y1 z1)) (hc : z1.cls = y.cls) (hy : y.cls ≠ "java/lang/invoke/MethodHandle" ∧ y.cls ≠ "java/lang/invoke/VarHandle") : Wok W (.sameMethod y.cls y.cls y.name y.desc) := by
  obtain ⟨mk, methM, hnamed, hmethM, -, -⟩ := Cond.instanceMethod_spec w3
  have hfound := State.methodFound?_of_named hnamed hy
  obtain ⟨kr, hkr, hni⟩ := nf_sel w5 hc mk hnamed
  have hcl := findClass_of_methodNamed hnamed
  cases y
  show (Cond.sameMethod _ _ _ _).before _ _ = true
  simp_all [Cond.before, Cond.holds, Cond.value]
/-- why the class that an entry names is no interface -/
def NfW (W : Wd) (y y' : MethodName) (S' : String) : Prop := y = y' ∨ Wok W (.superclass y.cls S') ∨ Wok W (.noSuperclass y.cls) ∨ ∃ C1 y1 z1, Wok W (.selects C1 y1 z1) ∧ z1.cls = y.cls
theorem nf_of {s : State} {C0 S' : String} {y y' : MethodName} (hZ : (wZ W).Warmed39 s.vm) (w3 : Wok W (.selects C0 y y')) (nf : NfW W y y' S') : NotFace s y := by
  rcases nf with e | u | u | ⟨C1, y1, z1, u, hc⟩
  · exact notFace_of_selects (args := #[]) (C := C0) (by rw [← e] at w3; exact mvT hZ w3)
  · exact nf_super (args := #[]) (mvT hZ u)
  · exact nf_top (args := #[]) (mvT hZ u)
  · exact nf_sel (args := #[]) (mvT hZ u) hc
theorem Wp.callV {y0 : MethodName} (hM : mN M = y0) {M' : Mt} {y : MethodName} {C0 S' : String} {fs : List Fd} {rw : Bool} {a : Addr} {as : List Value} {idx Wn np : Nat} {S0 : List Value} {Q' : Option Value → List En → Prop} (C : ∀ P', Ct (wSet W P') M' (.ref a :: as) H Q') (i : Nat) (hi : H[i]? = some (a, rw, .inl (C0, fs))) {y' : MethodName} (w : Mk W M' y' np) (w1 : Wok W (.methodLink y0.cls idx y)) (w2 : Wok W (.declares y)) (w3 : Wok W (.selects C0 y y')) (w4 : Wok W (.instanceMethod y'))
    (nf : NfW W y y' S') (hy : y.cls ≠ "java/lang/invoke/MethodHandle" ∧ y.cls ≠ "java/lang/invoke/VarHandle") (hdsc : y.desc = y'.desc) (hst : S0 = as.reverse ++ .ref a :: S) (hp : as.length = np) (hW : (S.map fun v => v.category).sum = Wn) (hL : L.length = mL M) (hR : Fits M M' c n Wn)
    (hd : Dc (mC M) pc (.invokevirtual idx) 3 pc') (k : ∀ v H', Q' v H' → Wp W K M Q H' (c + (mR M').cells) (n + (mR M').slots) pc' L (pushV v S)) : Wp W K M Q H c n pc L S0 := by
  subst hM
  obtain ⟨rfl, w⟩ := w
  obtain ⟨hd, rfl⟩ := hd
  subst hst hp
  exact fun T X => by
    obtain ⟨hx, hZ, ho, hb, hm, hr, hn, hl, gs, locs, X, N, P⟩ := X
    have F : ObOk (wZ W) T.heap a C0 fs := P.at hi
    obtain ⟨cq, kq, q1, q2, q3⟩ := isOf hZ rfl F.1
    have nf' : NotFace (kS K) y := nf_of hZ w3 nf
    obtain ⟨v, vm1, ⟨T', L', k', n'⟩, -, X', ⟨Lc, ⟨N', H', P', g', q⟩, l1, y1, z1⟩, st⟩ := X.virtualBack hx (y := y) (z := mN M') ho (mvT hZ w1) (mvT hZ w2) nf' (mvT hZ w3) (mvT hZ w4) hy (Ct.back C P hZ ⟨rfl, w⟩ hR.1 hR.2.1) q1 q3 (g := mkF (kM K) pc L.toArray (as.reverse ++ .ref a :: S)) rfl (by rw [hm, ← hL]; simp) (Steps.refl _) (argsL := as) (rest := S) (fun sig u => w.2.2.1 sig (hdsc ▸ u)) rfl (by show 2 * 0 + _ ≤ _; omega) (hbM hb hd) (fun _ _ => ⟨rfl, rfl, hR.2.2.1, hR.2.2.2⟩)
    dsimp only [Pt.U, Pt.locs, Pt.cells, Pt.slots] at X' l1 y1 z1 st P'
    subst l1 y1 z1
    obtain ⟨U, s1, s2⟩ := k v H' q T' ⟨hx, hZ, ho, hb, hm, hr, hn, hl, gs.nx P g', _, X', N.app N', P'⟩
    rw [pushV_eq] at s1
    exact ⟨U, st.trans s1, s2⟩
theorem Wp.callI {y0 : MethodName} (hM : mN M = y0) {M' : Mt} {y : MethodName} {C0 : String} {fs : List Fd} {rw : Bool} {a : Addr} {as : List Value} {idx cnt Wn np : Nat} {S0 : List Value} {Q' : Option Value → List En → Prop} (C : ∀ P', Ct (wSet W P') M' (.ref a :: as) H Q') (i : Nat) (hi : H[i]? = some (a, rw, .inl (C0, fs))) {y' : MethodName} (w : Mk W M' y' np) (w1 : Wok W (.methodLink y0.cls idx y)) (w2 : Wok W (.declares y)) (w3 : Wok W (.interfaceMethod y.cls y.cls y.name y.desc)) (w4 : Wok W (.selects C0 y y')) (w5 : Wok W (.instanceMethod y')) (w6 : Wok W (.publicMethod y')) (w7 : Wok W (.unhidden C0 y.name y.desc)) (w8 : Wok W (.castable C0 y.cls))
    (hy : y.cls ≠ "java/lang/invoke/MethodHandle" ∧ y.cls ≠ "java/lang/invoke/VarHandle") (hdsc : y.desc = y'.desc) (hst : S0 = as.reverse ++ .ref a :: S) (hp : as.length = np) (hW : (S.map fun v => v.category).sum = Wn) (hL : L.length = mL M) (hR : Fits M M' c n Wn)
    (hd : Dc (mC M) pc (.invokeinterface idx cnt) 5 pc') (k : ∀ v H', Q' v H' → Wp W K M Q H' (c + (mR M').cells) (n + (mR M').slots) pc' L (pushV v S)) : Wp W K M Q H c n pc L S0 := by
  subst hM
  obtain ⟨rfl, w⟩ := w
  obtain ⟨hd, rfl⟩ := hd
  subst hst hp
  exact fun T X => by
    obtain ⟨hx, hZ, ho, hb, hm, hr, hn, hl, gs, locs, X, N, P⟩ := X
    have F : ObOk (wZ W) T.heap a C0 fs := P.at hi
    obtain ⟨cq, kq, q1, q2, q3⟩ := isOf hZ rfl F.1
    obtain ⟨v, vm1, ⟨T', L', k', n'⟩, -, X', ⟨Lc, ⟨N', H', P', g', q⟩, l1, y1, z1⟩, st⟩ := X.interfaceBack hx (xi := y) (y := mN M') ho (mvT hZ w1) (mvT hZ w2) (mvT hZ w3 (by simp [Cond.onTables, Cond.keepsFace, Cond.faceAtom, hy.1, hy.2])) (mvT hZ w4) (mvT hZ w5) (mvT hZ w6) (mvT hZ w7) (mvT hZ w8) hy (Ct.back C P hZ ⟨rfl, w⟩ hR.1 hR.2.1) q1 q2 q3 (g := mkF (kM K) pc L.toArray (as.reverse ++ .ref a :: S)) rfl (by rw [hm, ← hL]; simp) (Steps.refl _) (argsL := as) (rest := S) (fun sig u => w.2.2.1 sig (hdsc ▸ u)) rfl (by show 2 * 0 + _ ≤ _; omega) (hbM hb hd) (fun _ _ => ⟨rfl, rfl, hR.2.2.1, hR.2.2.2⟩)
    dsimp only [Pt.U, Pt.locs, Pt.cells, Pt.slots] at X' l1 y1 z1 st P'
    subst l1 y1 z1
    obtain ⟨U, s1, s2⟩ := k v H' q T' ⟨hx, hZ, ho, hb, hm, hr, hn, hl, gs.nx P g', _, X', N.app N', P'⟩
    rw [pushV_eq] at s1
    exact ⟨U, st.trans s1, s2⟩
/-- a private instance method -/
theorem Wp.callP {y0 : MethodName} (hM : mN M = y0) {M' : Mt} {rw : Bool} {C0 : String} {fs : List Fd} {a : Addr} {as : List Value} {idx Wn np : Nat} {S0 : List Value} {Q' : Option Value → List En → Prop} (C : ∀ P', Ct (wSet W P') M' (.ref a :: as) H Q') (i : Nat) (hi : H[i]? = some (a, rw, .inl (C0, fs))) {y' : MethodName} (w : Mk W M' y' np) (w1 : Wok W (.methodLink y0.cls idx y')) (w2 : Wok W (.instanceMethod y')) {C1 : String} (w3 : Wok W (.selects C1 y' y')) (w4 : Wok W (.privateMethod y'))
    (hst : S0 = as.reverse ++ .ref a :: S) (hp : as.length = np) (hW : (S.map fun v => v.category).sum = Wn) (hL : L.length = mL M) (hR : Fits M M' c n Wn)
    (hd : Dc (mC M) pc (.invokevirtual idx) 3 pc') (k : ∀ v H', Q' v H' → Wp W K M Q H' (c + (mR M').cells) (n + (mR M').slots) pc' L (pushV v S)) : Wp W K M Q H c n pc L S0 := by
  subst hM
  obtain ⟨rfl, w⟩ := w
  obtain ⟨hd, rfl⟩ := hd
  subst hst hp
  exact fun T X => by
    obtain ⟨hx, hZ, ho, hb, hm, hr, hn, hl, gs, locs, X, N, P⟩ := X
    have F : ObOk (wZ W) T.heap a C0 fs := P.at hi
    obtain ⟨cq, q1, q2⟩ := F.1.cell
    obtain ⟨v, vm1, ⟨T', L', k', n'⟩, -, X', ⟨Lc, ⟨N', H', P', g', q⟩, l1, y1, z1⟩, st⟩ := X.privateBack hx (y := mN M') ho (mvT hZ w1) (mvT hZ w2) (selP hZ w3 w2 w4 w.2.2.2) (Cond.privateMethod_at (mvP hZ w4 (args := #[]))) (mvT hZ w.1) w.2.2.2 (Ct.back C P hZ ⟨rfl, w⟩ hR.1 hR.2.1) (g := mkF (kM K) pc L.toArray (as.reverse ++ .ref a :: S)) rfl (by rw [hm, ← hL]; simp) (Steps.refl _) (a := a) q1 q2 (argsL := as) (rest := S) w.2.2.1 rfl (by show 2 * 0 + _ ≤ _; omega) (hbM hb hd) (fun _ _ => ⟨rfl, rfl, hR.2.2.1, hR.2.2.2⟩)
    dsimp only [Pt.U, Pt.locs, Pt.cells, Pt.slots] at X' l1 y1 z1 st P'
    subst l1 y1 z1
    obtain ⟨U, s1, s2⟩ := k v H' q T' ⟨hx, hZ, ho, hb, hm, hr, hn, hl, gs.nx P g', _, X', N.app N', P'⟩
    rw [pushV_eq] at s1
    exact ⟨U, st.trans s1, s2⟩
/-- super.m(..) -/
theorem Wp.callU {y0 : MethodName} (hM : mN M = y0) {M' : Mt} {rw : Bool} {C0 : String} {fs : List Fd} {a : Addr} {as : List Value} {idx Wn np : Nat} {S0 : List Value} {Q' : Option Value → List En → Prop} (C : ∀ P', Ct (wSet W P') M' (.ref a :: as) H Q') (i : Nat) (hi : H[i]? = some (a, rw, .inl (C0, fs))) {y' : MethodName} (w : Mk W M' y' np) (w1 : Wok W (.methodLink y0.cls idx y')) (w2 : Wok W (.sameMethod y'.cls y'.cls y'.name y'.desc)) (w3 : Wok W (.instanceMethod y')) (w4 : Wok W (.superclass y0.cls y'.cls)) (hni : y'.name ≠ "<init>")
    (hst : S0 = as.reverse ++ .ref a :: S) (hp : as.length = np) (hW : (S.map fun v => v.category).sum = Wn) (hL : L.length = mL M) (hR : Fits M M' c n Wn)
    (hd : Dc (mC M) pc (.invokespecial idx) 3 pc') (k : ∀ v H', Q' v H' → Wp W K M Q H' (c + (mR M').cells) (n + (mR M').slots) pc' L (pushV v S)) : Wp W K M Q H c n pc L S0 := by
  subst hM
  obtain ⟨rfl, w⟩ := w
  obtain ⟨hd, rfl⟩ := hd
  subst hst hp
  exact fun T X => by
    obtain ⟨hx, hZ, ho, hb, hm, hr, hn, hl, gs, locs, X, N, P⟩ := X
    have F : ObOk (wZ W) T.heap a C0 fs := P.at hi
    obtain ⟨v, vm1, ⟨T', L', k', n'⟩, -, X', ⟨Lc, ⟨N', H', P', g', q⟩, l1, y1, z1⟩, st⟩ := superBack X hx hZ (y := mN M') ho w1 w2 w3 w4 hni (Ct.back C P hZ ⟨rfl, w⟩ hR.1 hR.2.1) rfl (Ins.self F.1) (g := mkF (kM K) pc L.toArray (as.reverse ++ .ref a :: S)) rfl (by rw [hm, ← hL]; simp) w.1 (argsL := as) (rest := S) w.2.2.1 rfl (by show 2 * 0 + _ ≤ _; omega) (hbM hb hd) (fun _ _ => ⟨rfl, rfl, hR.2.2.1, hR.2.2.2⟩)
    dsimp only [Pt.U, Pt.locs, Pt.cells, Pt.slots] at X' l1 y1 z1 st P'
    subst l1 y1 z1
    obtain ⟨U, s1, s2⟩ := k v H' q T' ⟨hx, hZ, ho, hb, hm, hr, hn, hl, gs.nx P g', _, X', N.app N', P'⟩
    rw [pushV_eq] at s1
    exact ⟨U, st.trans s1, s2⟩
theorem Wp.initO {y0 : MethodName} (hM : mN M = y0) {a : Addr} {idx Wn : Nat} (w1 : Wok W (.methodLink y0.cls idx Lib.objectInit)) (w2 : Wok W (.instanceMethod Lib.objectInit)) (w3 : Wok W (.code Lib.objectInit ⟨#[0xb1]⟩ 1 none)) (hW : (S.map fun v => v.category).sum = Wn) (hL : L.length = mL M) (hf : 1 ≤ (mR M).frames) (hlo : Wn + 12 ≤ (mR M).locals)
    (hd : Dc (mC M) pc (.invokespecial idx) 3 pc') (k : Wp W K M Q H c n pc' L S) : Wp W K M Q H c n pc L (.ref a :: S) := by
  subst hM
  obtain ⟨hd, rfl⟩ := hd
  exact Wp.to (fun T locs X hx hZ ho hc hm _ P N => by
    obtain ⟨T', X', e', st⟩ := Jvm.RoadKit.initO X hx hZ ho w1 w2 w3 rfl (g := mkF (kM K) pc L.toArray (.ref a :: S)) rfl (by rw [hm, ← hL]; simp) rfl (hbM hc hd) hf (W := Wn) (by show 2 * 0 + _ ≤ _; omega) hlo
    exact ⟨T', locs, X', N, by rw [e']; exact P, by rw [e']; exact Nx.refl _ _, st⟩) k
-- casts
theorem Wp.cast {y0 : MethodName} (hM : mN M = y0) {a : Addr} {Kc : String} {idx : Nat} (w : Wok W (.classLink y0.cls idx Kc)) (I : ∀ h, Hp W h H → Ins (wZ W) h a Kc true) (hd : Dc (mC M) pc (.checkcast idx) 3 pc') (k : Wp W K M Q H c n pc' L (.ref a :: S)) : Wp W K M Q H c n pc L (.ref a :: S) := by
  subst hM
  obtain ⟨hd, rfl⟩ := hd
  exact Wp.to (fun T locs X hx hZ ho hc _ _ P N => by
    obtain ⟨T', X', e', st⟩ := castY X hx hZ ho w rfl (I _ P) (g := mkF (kM K) pc L.toArray (.ref a :: S)) rfl rfl (hbM hc hd)
    exact ⟨T', locs, X', N, by rw [e']; exact P, by rw [e']; exact Nx.refl _ _, st⟩) k
theorem Wp.inst {y0 : MethodName} (hM : mN M = y0) {a : Addr} {Kc : String} {idx : Nat} (w : Wok W (.classLink y0.cls idx Kc)) (I : ∀ h, Hp W h H → Ins (wZ W) h a Kc true) (hd : Dc (mC M) pc (.instanceof idx) 3 pc') (k : Wp W K M Q H c n pc' L (.int 1 :: S)) : Wp W K M Q H c n pc L (.ref a :: S) := by
  subst hM
  obtain ⟨hd, rfl⟩ := hd
  exact Wp.to (fun T locs X hx hZ ho hc _ _ P N => by
    obtain ⟨T', X', e', st⟩ := instY X hx hZ ho w rfl (I _ P) (g := mkF (kM K) pc L.toArray (.ref a :: S)) rfl rfl (hbM hc hd)
    exact ⟨T', locs, X', N, by rw [e']; exact P, by rw [e']; exact Nx.refl _ _, st⟩) k
-- the heap's rows in another order: the first k as 'is' tells
def sel (is : List Nat) (H : List En) : List En := is.filterMap fun i => H[i]?
theorem sel_range : ∀ (k : Nat) (H : List En), sel (List.range k) H = H.take k
  | 0, H => by simp [sel]
  | k + 1, H => by
    have ih := sel_range k H
    unfold sel at ih ⊢
    rw [List.range_succ, List.filterMap_append, ih, List.take_add_one]
    cases h : H[k]? <;> simp [h]
theorem sel_perm {is : List Nat} {k : Nat} (hp : is.isPerm (List.range k) = true) (H : List En) : H.Perm (sel is H ++ H.drop k) := by
  have h1 : (sel is H).Perm (H.take k) := by
    rw [← sel_range]
    exact List.Perm.filterMap _ (List.isPerm_iff.mp hp)
  have h2 : (H.take k ++ H.drop k).Perm (sel is H ++ H.drop k) := List.Perm.append_right _ h1.symm
  rwa [List.take_append_drop] at h2
theorem Wp.perm (is : List Nat) (m : Nat) (hp : is.isPerm (List.range m) = true) (e : sel is H ++ H.drop m = H') (k : Wp W K M Q H' c n pc L S) : Wp W K M Q H c n pc L S := Wp.heap (e ▸ sel_perm hp H) k
end Logic
section Logic2
variable {W : Wd} {K : Kx} {M : Mt} {Q : Option Value → List En → Prop} {H H' : List En} {c n pc pc' pt len : Nat} {L L' : List Slot} {S : List Value}
theorem Wp.castNull {idx : Nat} (hd : Dc (mC M) pc (.checkcast idx) 3 pc') (k : Wp W K M Q H c n pc' L (.null :: S)) : Wp W K M Q H c n pc L (.null :: S) := by
  obtain ⟨hd, rfl⟩ := hd
  exact Wp.go (fun T locs X hx _ ho hc _ _ t r => X.checkcastNull hx (g := mkF (kM K) pc L.toArray (.null :: S)) rfl rfl (hbM hc hd) _ r) k
theorem Wp.instNull {idx : Nat} (hd : Dc (mC M) pc (.instanceof idx) 3 pc') (k : Wp W K M Q H c n pc' L (.int 0 :: S)) : Wp W K M Q H c n pc L (.null :: S) := by
  obtain ⟨hd, rfl⟩ := hd
  exact Wp.go (fun T locs X hx _ ho hc _ _ t r => X.instanceofNull hx (g := mkF (kM K) pc L.toArray (.null :: S)) rfl rfl (hbM hc hd) _ r) k
theorem Wp.tswIn {x : Int32} {dflt low high o : Int} {offs : Array Int} (hin : ¬ (x.toInt < low ∨ x.toInt > high)) (hoff : offs[(x.toInt - low).toNat]? = some o) (h1 : 0 ≤ (pc : Int) + o) (h2 : ((pc : Int) + o).toNat = pt) (hd : Dc (mC M) pc (.tableswitch dflt low high offs) len pc') (k : Wp W K M Q H c n pt L S) : Wp W K M Q H c n pc L (.int x :: S) := by
  obtain ⟨hd, -⟩ := hd
  exact Wp.go (fun T locs X hx _ ho hc _ _ t r => XS.tswIn X.here hx rfl rfl (hbM hc hd) rfl hin hoff h1 h2 r) k
theorem Wp.tswOut {x : Int32} {dflt low high : Int} {offs : Array Int} (hout : x.toInt < low ∨ x.toInt > high) (h1 : 0 ≤ (pc : Int) + dflt) (h2 : ((pc : Int) + dflt).toNat = pt) (hd : Dc (mC M) pc (.tableswitch dflt low high offs) len pc') (k : Wp W K M Q H c n pt L S) : Wp W K M Q H c n pc L (.int x :: S) := by
  obtain ⟨hd, -⟩ := hd
  exact Wp.go (fun T locs X hx _ ho hc _ _ t r => XS.tswOut X.here hx rfl rfl (hbM hc hd) rfl hout h1 h2 r) k
theorem Wp.lswIn {x : Int32} {dflt a o : Int} {prs : Array (Int × Int)} (hs : (prs.toList.zip (prs.toList.drop 1)).all (fun (a, next) => a.1 < next.1) = true) (hf : prs.find? (·.1 == x.toInt) = some (a, o)) (h1 : 0 ≤ (pc : Int) + o) (h2 : ((pc : Int) + o).toNat = pt) (hd : Dc (mC M) pc (.lookupswitch dflt prs) len pc') (k : Wp W K M Q H c n pt L S) : Wp W K M Q H c n pc L (.int x :: S) := by
  obtain ⟨hd, -⟩ := hd
  subst h2
  exact Wp.go (fun T locs X hx _ ho hc _ _ t r => X.lookupswitchHit hx (g := mkF (kM K) pc L.toArray (.int x :: S)) rfl rfl (hbM hc hd) hs hf h1 _ r) k
theorem Wp.lswOut {x : Int32} {dflt : Int} {prs : Array (Int × Int)} (hs : (prs.toList.zip (prs.toList.drop 1)).all (fun (a, next) => a.1 < next.1) = true) (hf : prs.find? (·.1 == x.toInt) = none) (h1 : 0 ≤ (pc : Int) + dflt) (h2 : ((pc : Int) + dflt).toNat = pt) (hd : Dc (mC M) pc (.lookupswitch dflt prs) len pc') (k : Wp W K M Q H c n pt L S) : Wp W K M Q H c n pc L (.int x :: S) := by
  obtain ⟨hd, -⟩ := hd
  subst h2
  exact Wp.go (fun T locs X hx _ ho hc _ _ t r => X.lookupswitchMiss hx (g := mkF (kM K) pc L.toArray (.int x :: S)) rfl rfl (hbM hc hd) hs hf h1 _ r) k
/-- a local that held nothing, or one word of any kind, is written over -/
theorem storeOne {k : Nat} {o : Slot} {v : Value} (hk : L[k]? = some o) (ho : One o) (hv : v.category = 1) (hL : L.set k (.val v) = L') : storeLocals L.toArray k v = some L'.toArray := by
  subst hL
  rw [Jvm.Free.XS.store1 (by simpa using hk) ho hv]
  simp
/-- arraycopy of whole values: primitive arrays -/
theorem hp0 {s : State} {l : Launch} {a : Array Value} : Hp (l, s, a, s.heap.size, fun _ => True) s.heap [] := ⟨⟨Old.start s, fun _ _ => trivial⟩, fun _ q => (nomatch q), List.Pairwise.nil⟩
/-- an old entry, told at the start -/
theorem Hp.old {h : Heap} {a : Addr} {D : Ds} (P : Hp W h H) (F : DsOk (wZ W) (wZ W).heap a D) (hN : wN W = (wZ W).heap.size) : Hp W h ((a, false, D) :: H) := by
  have hlt := F.lt
  refine ⟨P.1, fun x hx => ?_, List.pairwise_cons.mpr ⟨fun y hy => ?_, P.2.2⟩⟩
  · rcases List.mem_cons.mp hx with rfl | hx
    · exact ⟨fun q => (nomatch q), F.ext P.1.1.2⟩
    · exact P.2.1 x hx
  · rcases Bool.eq_false_or_eq_true y.2.1 with q | q
    · exact Or.inr fun (e : a = y.1) => by
        have q1 : (wZ W).heap.size ≤ y.1 := hN ▸ ((P.2.1 y hy).1 q).1
        exact Nat.lt_irrefl _ (Nat.lt_of_lt_of_le hlt (Nat.le_trans q1 (Nat.le_of_eq e.symm)))
    · exact Or.inl ⟨rfl, q⟩
end Logic2
-- ints
def by8 (c : Int32) : Int32 := c.toInt8.toInt32
def csL (cs : List Int32) : List Value := cs.map Value.int
def eqI (xs ys : List Int32) : Int32 := if xs = ys then 1 else 0
abbrev ix (i : Nat) : Int32 := Int32.ofNat i
theorem ix_toInt {i : Nat} (h : i < 2 ^ 31) : (ix i).toInt = (i : Int) := toInt_of rfl h
theorem ix_lt {i j : Nat} (hi : i < 2 ^ 31) (hj : j < 2 ^ 31) : ix i < ix j ↔ i < j := by
  rw [Int32.lt_iff_toInt_lt, ix_toInt hi, ix_toInt hj]; omega
theorem ix_nn {i : Nat} (hi : i < 2 ^ 31) : ¬ ix i < 0 := by
  have := ix_lt (j := 0) hi (by decide)
  exact fun q => by have q' : ix i < ix 0 := q; rw [this] at q'; omega
theorem ix_nat {i : Nat} (hi : i < 2 ^ 31) : (ix i).toNatClampNeg = i := clamp_of rfl hi
theorem ix_inc (i : Nat) : ix i + Int32.ofInt 1 = ix (i + 1) := by rw [lit1]; exact (inc_ofNat i).symm
theorem ix_eq {i j : Nat} (hi : i < 2 ^ 31) (hj : j < 2 ^ 31) (h : ix i = ix j) : i = j := by
  have := congrArg Int32.toInt h
  rw [ix_toInt hi, ix_toInt hj] at this; omega
theorem csL_len (cs : List Int32) : (csL cs).length = cs.length := List.length_map ..
theorem csL_get {cs : List Int32} {i : Nat} {x : Int32} (h : cs[i]? = some x) : (csL cs)[i]? = some (.int x) := by simp [csL, h]
theorem csL_set (cs : List Int32) (i : Nat) (x : Int32) : (csL cs).set i (.int x) = csL (cs.set i x) := by simp [csL, List.map_set]
theorem by8_by8 (c : Int32) : nar .byte (by8 c) = by8 c := by simp [nar, by8]
/-- a copy that has come to i: the first i are f's, the others as they were -/
def part (f : Int32 → Int32) (cs ds : List Int32) (i : Nat) : List Int32 := (cs.take i).map f ++ ds.drop i
theorem part_len {f : Int32 → Int32} {cs ds : List Int32} {i : Nat} (h : cs.length = ds.length) : (part f cs ds i).length = ds.length := by
  simp [part]; omega
theorem part_zero (f : Int32 → Int32) (cs ds : List Int32) : part f cs ds 0 = ds := by simp [part]
theorem part_end {f : Int32 → Int32} {cs ds : List Int32} {i : Nat} (h : cs.length = ds.length) (hi : i = cs.length) : part f cs ds i = cs.map f := by
  subst hi
  rw [part, List.take_length, h, List.drop_length, List.append_nil]
theorem part_set {f : Int32 → Int32} {cs ds : List Int32} {i : Nat} {x : Int32} (h : cs.length = ds.length) (hx : cs[i]? = some x) : (part f cs ds i).set i (f x) = part f cs ds (i + 1) := by
  obtain ⟨hi, rfl⟩ := List.getElem?_eq_some_iff.mp hx
  apply List.ext_getElem?
  intro k
  have hl : ((cs.take i).map f).length = i := by simp; omega
  simp only [part, List.getElem?_set, List.getElem?_append, List.length_map, List.length_take, List.getElem?_map, List.getElem?_take, List.getElem?_drop, List.length_append, List.length_drop]
  by_cases e : i = k
  · subst e
    have h1 : i < min (i + 1) cs.length := by omega
    have h2 : i < min i cs.length + (ds.length - i) := by omega
    simp [h1, h2, hi]
  · simp only [e, if_false]
    by_cases hk : k < min i cs.length
    · have h1 : k < min (i + 1) cs.length := by omega
      have h2 : k < i := by omega
      have h3 : k < i + 1 := by omega
      simp [hk, h1, h2, h3]
    · have h1 : ¬ k < min (i + 1) cs.length := by omega
      have h2 : min i cs.length = i := by omega
      have h3 : min (i + 1) cs.length = i + 1 := by omega
      rw [h2] at hk
      rw [h3] at h1
      simp only [h2, h3, hk, h1, if_false]
      congr 1
      omega
theorem csL_rep (n : Nat) : List.replicate n (Value.int 0) = csL (List.replicate n 0) := by simp [csL]
theorem hpN : ∀ c ∈ ([] : List Int32), ¬ c < 0 ∧ ¬ 255 < c := fun _ q => (nomatch q)
theorem hpC {x : Int32} {xs : List Int32} (h : ¬ x < 0 ∧ ¬ 255 < x) (r : ∀ c ∈ xs, ¬ c < 0 ∧ ¬ 255 < c) : ∀ c ∈ x :: xs, ¬ c < 0 ∧ ¬ 255 < c := fun c hc => (List.mem_cons.mp hc).elim (fun e => e ▸ h) (r c)
theorem eqI_ne {xs ys : List Int32} (h : ¬ xs = ys) : eqI xs ys = 0 := if_neg h
theorem eqI_eq {xs ys : List Int32} (h : xs = ys) : eqI xs ys = 1 := if_pos h
theorem eqI_one {xs ys : List Int32} (h : ¬ eqI xs ys = 0) : eqI xs ys = 1 := by
  by_cases e : xs = ys
  · exact eqI_eq e
  · exact absurd (eqI_ne e) h
theorem csL_inj {xs ys : List Int32} (h : csL xs = csL ys) : xs = ys := by
  refine List.map_inj_right (f := Value.int) ?_ |>.mp h
  intro a b e; cases e; rfl
theorem take_snoc {xs ys : List Int32} {i : Nat} {x y : Int32} (h : xs.take i = ys.take i) (hx : xs[i]? = some x) (hy : ys[i]? = some y) (e : x = y) : xs.take (i + 1) = ys.take (i + 1) := by
  rw [List.take_add_one, List.take_add_one, h, hx, hy, e]
theorem take_all {xs ys : List Int32} {i : Nat} (h : xs.take i = ys.take i) (h1 : i = xs.length) (h2 : xs.length = ys.length) : xs = ys := by
  rw [h1, List.take_length, h2, List.take_length] at h; exact h
theorem get_ne {xs ys : List Int32} {i : Nat} {x y : Int32} (hx : xs[i]? = some x) (hy : ys[i]? = some y) (e : ¬ x = y) : ¬ xs = ys := fun q => by
  rw [q, hy] at hx; exact e (Option.some.inj hx).symm
theorem Fld.uniq {Z : State} {h : Heap} {a : Addr} {C n d : String} {v w : Value} (F : Fld Z h a C n d v) (G : Fld Z h a C n d w) : v = w := by
  obtain ⟨c1, cf, k, i, f, h1, h2, -, -, -, -, h7⟩ := F
  obtain ⟨c2, cf', k', i', f', g1, g2, -, -, -, -, g7⟩ := G
  cases h1.symm.trans g1
  cases h2.symm.trans g2
  exact Option.some.inj (h7.symm.trans g7)
theorem ArOk.uniq {Z : State} {h : Heap} {a : Addr} {ty ty' : FieldType} {ex ov ex' ov' : Bool} {vs ws : List Value} (F : ArOk Z h a ty ex ov vs) (G : ArOk Z h a ty' ex' ov' ws) : vs = ws := by
  obtain ⟨c1, h1, h2, -⟩ := F
  obtain ⟨c2, g1, g2, -⟩ := G
  cases h1.1.symm.trans g1.1
  exact h2.symm.trans g2
theorem arh_of {Z : State} {h : Heap} {a : Addr} {ty : FieldType} {ex ov : Bool} {vs : List Value} (F : ArOk Z h a ty ex ov vs) (dv : Value) : ∃ k, Arh Z h a k ty (ix vs.length) [] vs dv := by
  obtain ⟨c, h1, h2, h3, h4, -⟩ := F
  have hs : c.slots.size = vs.length := by rw [← h2]; simp
  refine ⟨c.cls, c, h1, rfl, by rw [hs, ix_nat h3], ix_nn h3, fun i hi => ?_, fun i hi => ?_⟩
  · show c.slots[i]? = some (vs.getD i dv)
    rw [← Array.getElem?_toList, h2, List.getD_eq_getElem?_getD, List.getElem?_eq_getElem (by omega)]; rfl
  · show fits ty (vs.getD i dv) = true
    rw [List.getD_eq_getElem?_getD, List.getElem?_eq_getElem (by omega)]
    exact h4 _ (List.getElem_mem _)
theorem of_arh {Z : State} {h : Heap} {a : Addr} {ty : FieldType} {k : ClassId} {z : Int32} {vs : List Value} {dv : Value} (F : Arh Z h a k ty z [] vs dv) (hz : z.toNatClampNeg = vs.length) (h3 : vs.length < 2 ^ 31) {ex ov : Bool} (h5 : ex = true → Exa Z h a ("[" ++ ty.toString)) (h6 : ov = true → ∀ C, ty = .object C → Ovr Z k C) : ArOk Z h a ty ex ov vs := by
  obtain ⟨c, h1, h2, g3, -, g5, g6⟩ := F
  have hs : c.slots.size = vs.length := g3.trans hz
  refine ⟨c, h1, ?_, h3, fun v hv => ?_, h5, fun q C e => h2 ▸ h6 q C e⟩
  · apply List.ext_getElem?
    intro i
    by_cases hi : i < c.slots.size
    · rw [Array.getElem?_toList, g5 i hi]
      show some (vs.getD i dv) = _
      rw [List.getD_eq_getElem?_getD, List.getElem?_eq_getElem (by omega)]; rfl
    · rw [List.getElem?_eq_none (by simpa using hi), List.getElem?_eq_none (by omega)]
  · obtain ⟨i, hi⟩ := List.getElem?_of_mem hv
    obtain ⟨li, e⟩ := List.getElem?_eq_some_iff.mp hi
    have := g6 i (by omega)
    show fits ty v = true
    have e2 : vs.getD i dv = v := by rw [List.getD_eq_getElem?_getD, hi]; rfl
    exact e2 ▸ this
section Logic3
variable {W : Wd} {K : Kx} {M : Mt} {Q : Option Value → List En → Prop} {H H' : List En} {c n pc pc' pt len : Nat} {L L' : List Slot} {S : List Value}
/-- an array's clone() -/
theorem Wp.clone {y0 : MethodName} (hM : mN M = y0) {ad : String} {a : Addr} {rw ov : Bool} {ty : FieldType} {vs : List Value} {idx Wn kk : Nat} (i : Nat) (hi : H[i]? = some (a, rw, .inr (ty, true, ov, vs))) (hkk : vs.length = kk) (had : "[" ++ ty.toString = ad) (w1 : Wok W (.methodLink y0.cls idx ⟨ad, "clone", "()Ljava/lang/Object;"⟩)) (w2 : Wok W (.sameMethod ad "java/lang/Object" "clone" "()Ljava/lang/Object;")) (w3 : Wok W (.native ⟨"java/lang/Object", "clone", "()Ljava/lang/Object;"⟩))
    (w4 : Wok W (.instanceMethod ⟨"java/lang/Object", "clone", "()Ljava/lang/Object;"⟩)) (w5 : Wok W (.selects ad ⟨ad, "clone", "()Ljava/lang/Object;"⟩ ⟨"java/lang/Object", "clone", "()Ljava/lang/Object;"⟩)) (w6 : Wok W (.castable ad "java/lang/Cloneable")) (hW : (S.map fun v => v.category).sum = Wn) (hL : L.length = mL M) (hf : 1 ≤ (mR M).frames) (hlo : Wn + 14 ≤ (mR M).locals) (hc1 : c + 1 ≤ (mR M).cells) (hl1 : n + kk ≤ (mR M).slots)
    (hd : Dc (mC M) pc (.invokevirtual idx) 3 pc') (k : ∀ b : Addr, Wp W K M Q ((b, true, .inr (ty, true, false, vs)) :: H) (c + 1) (n + kk) pc' L (.ref b :: S)) : Wp W K M Q H c n pc L (.ref a :: S) := by
  subst hM
  subst hkk
  obtain ⟨hd, rfl⟩ := hd
  subst had
  exact fun T X => by
    obtain ⟨hx, hZ, ho, hb, hm, hr, hn, hl, gs, locs, X, N, P⟩ := X
    have F : ArOk (wZ W) T.heap a ty true ov vs := P.at hi
    have h3 : vs.length < 2 ^ 31 := F.choose_spec.2.2.1
    have hE := F.choose_spec.2.2.2.2.1 rfl
    obtain ⟨kk, F'⟩ := arh_of F (.int 0)
    obtain ⟨T', h', X', e', E, A, B, st⟩ := cloneH X hx hZ ho w1 w2 w3 w4 w5 w6 rfl F' hE (g := mkF (kM K) pc L.toArray (.ref a :: S)) rfl (by rw [hm, ← hL]; simp) rfl (hbM hb hd) hf (W := Wn) (cap := vs.length) (by show 2 * 0 + _ ≤ _; omega) hlo (Nat.le_of_eq (ix_nat h3)) hc1 hl1
    obtain ⟨U, s1, s2⟩ := k T.heap.size T' ⟨hx, hZ, ho, hb, hm, hr, hn, hl, gs.nx P (by rw [e']; exact Nx.new E), locs, X', N, by rw [e']; exact P.new E (of_arh A (ix_nat h3) h3 (fun _ => B) (fun q => nomatch q))⟩
    exact ⟨U, st _ s1, s2⟩
theorem insArr {h : Heap} {a : Addr} {r ov : Bool} {ty : FieldType} {vs : List Value} {ad : String} (P : Hp W h H) (i : Nat) (hi : H[i]? = some (a, r, .inr (ty, true, ov, vs))) (had : "[" ++ ty.toString = ad) : Ins (wZ W) h a ad true := had ▸ Ins.self ((show ArOk (wZ W) h a ty true ov vs from P.at hi).choose_spec.2.2.2.2.1 rfl)
end Logic3
theorem rngC (x : Int32) : ¬ nar .char x < 0 ∧ ¬ 65535 < nar .char x := rng_char (fits_nar_char x)
theorem i2c_int (x : Int32) (h1 : ¬ x < 0) (h2 : ¬ 65535 < x) : x.toUInt32.toUInt16.toUInt32.toInt32 = x := by
  have a := c_i2c x
  rw [Int32.lt_iff_toInt_lt] at h1 h2
  rw [← Int32.toInt_inj]
  have e0 : (0 : Int32).toInt = 0 := rfl
  have e1 : (65535 : Int32).toInt = 65535 := rfl
  rw [e0] at h1
  rw [e1] at h2
  omega
theorem i2cC_id {x : Int32} (h1 : ¬ x < 0) (h2 : ¬ 65535 < x) : x.toUInt32.toUInt16.toUInt32.toInt32 = x := i2c_int x h1 h2
theorem narC_id {x : Int32} (h1 : ¬ x < 0) (h2 : ¬ 65535 < x) : nar .char x = x := i2c_int x h1 h2
theorem le8 {x : Int32} (h : ¬ 255 < x) : ¬ 65535 < x := fun q => h (by
  rw [Int32.lt_iff_toInt_lt] at q ⊢
  have e0 : (255 : Int32).toInt = 255 := rfl
  have e1 : (65535 : Int32).toInt = 65535 := rfl
  omega)
theorem i2cC_id8 {x : Int32} (h1 : ¬ x < 0) (h2 : ¬ 255 < x) : x.toUInt32.toUInt16.toUInt32.toInt32 = x := i2c_int x h1 (le8 h2)
theorem narC_id8 {x : Int32} (h1 : ¬ x < 0) (h2 : ¬ 255 < x) : nar .char x = x := i2c_int x h1 (le8 h2)
/-- a byte read back as a char -/
theorem by8_back {x : Int32} (h1 : ¬ x < 0) (h2 : ¬ 255 < x) : by8 x &&& 255 = x := by
  have a := c_i2b x
  have b := c_mask (by8 x) 255 8 (by decide) (by decide)
  rw [Int32.lt_iff_toInt_lt] at h1 h2
  rw [← Int32.toInt_inj, b]
  have e0 : (0 : Int32).toInt = 0 := rfl
  have e1 : (255 : Int32).toInt = 255 := rfl
  rw [e0] at h1
  rw [e1] at h2
  show (x.toInt8.toInt32.toInt) % 256 = x.toInt
  omega
def lob (c : Int32) : Int32 := by8 (c >>> (0 &&& 31))
def hib (c : Int32) : Int32 := by8 (c >>> (8 &&& 31))
theorem u16_back {x : Int32} (h1 : ¬ x < 0) (h2 : ¬ 65535 < x) : (((lob x &&& 255) <<< (0 &&& 31)) ||| ((hib x &&& 255) <<< (8 &&& 31))) = x := by
  have s0 := c_ishr x 0 0 (by decide)
  have s8 := c_ishr x 8 8 (by decide)
  have a0 := c_i2b (x >>> (0 &&& 31))
  have a8 := c_i2b (x >>> (8 &&& 31))
  have m0 := c_mask (lob x) 255 8 (by decide) (by decide)
  have m8 := c_mask (hib x) 255 8 (by decide) (by decide)
  have t0 := c_ishl (lob x &&& 255) 0 0 (by decide)
  have t8 := c_ishl (hib x &&& 255) 8 8 (by decide)
  have r0 := rng32 ((lob x &&& 255) <<< (0 &&& 31))
  have r8 := rng32 ((hib x &&& 255) <<< (8 &&& 31))
  rw [Int32.lt_iff_toInt_lt] at h1 h2
  have e0 : (0 : Int32).toInt = 0 := rfl
  have e1 : (65535 : Int32).toInt = 65535 := rfl
  rw [e0] at h1
  rw [e1] at h2
  have l0 : (lob x).toInt = (x >>> (0 &&& 31)).toInt8.toInt32.toInt := rfl
  have l8 : (hib x).toInt = (x >>> (8 &&& 31)).toInt8.toInt32.toInt := rfl
  simp only [Nat.reducePow] at *
  have v0 : ((lob x &&& 255) <<< (0 &&& 31)).toInt = x.toInt % 256 := by omega
  have v8 : ((hib x &&& 255) <<< (8 &&& 31)).toInt = x.toInt / 256 * 256 := by omega
  have o := c_or' ((lob x &&& 255) <<< (0 &&& 31)) ((hib x &&& 255) <<< (8 &&& 31)) 8 (by decide) 256 rfl (by omega) (by omega) (by omega)
  have ro := rng32 (((lob x &&& 255) <<< (0 &&& 31)) ||| ((hib x &&& 255) <<< (8 &&& 31)))
  rw [← Int32.toInt_inj]
  omega
theorem ix_shl1 {k : Nat} (h : 2 * k + 1 < 2 ^ 31) : ix k <<< ((1 : Int32) &&& 31) = ix (2 * k) := by
  have a := c_ishl (ix k) 1 1 (by decide)
  have r := rng32 (ix k <<< ((1 : Int32) &&& 31))
  rw [ix_toInt (by omega)] at a
  rw [← Int32.toInt_inj, ix_toInt (by omega)]
  simp only [Nat.reducePow] at *
  omega
theorem ix_shr1 {k : Nat} (h : k < 2 ^ 31) : ix k >>> ((1 : Int32) &&& 31) = ix (k / 2) := by
  have a := c_ishr (ix k) 1 1 (by decide)
  rw [ix_toInt h] at a
  rw [← Int32.toInt_inj, ix_toInt (by omega), a]
  simp only [Nat.reducePow]
  omega
theorem catR {v : Value} (h : v.isRef = true) : v.category = 1 := by rcases ref_cases h with rfl | ⟨_, rfl⟩ <;> rfl
section Start
variable {args : Array Value} {s : State} {t u : Term}
theorem eqv_int {z : Int32} (h : (Cond.eq t (.int z)).value args s none s [] = some true) : t.eval args s none [] s = some (.int z) := by
  obtain ⟨x, y, h1, h2, -, k2⟩ := cmp_v (Or.inl h)
  obtain rfl : y = .int z := Option.some.inj (h2.symm.trans (Term.int_eval z))
  obtain ⟨z', rfl⟩ := k2
  rw [h1, gotT (Cond.eq_ints h1 h2) h]
theorem eqv_ref {y : Addr} (h : (Cond.eq t u).value args s none s [] = some true) (hu : u.eval args s none [] s = some (.ref y)) : t.eval args s none [] s = some (.ref y) := by
  obtain ⟨x, y', h1, h2, -, k2⟩ := cmp_v (Or.inl h)
  obtain rfl : y' = .ref y := Option.some.inj (h2.symm.trans hu)
  rw [h1, gotT (eq_R h1 h2 k2.2 rfl) h]
/-- an array of the start: its length and its members told by the sheet -/
theorem arStart {a : Addr} {ty : FieldType} {z : Int32} {vs : List Value} {ex : Bool} (hf : Fit s) (ev : t.eval args s none [] s = some (.ref a)) (hx : (Cond.arrayOf t ty).value args s none s [] = some true) (hl : (Cond.eq (.length t) (.int z)).value args s none s [] = some true) (hz : z = ix vs.length) (hn : vs.length < 2 ^ 31) (he : ∀ i v, vs[i]? = some v → (Term.elem t (.int (ix i))).eval args s none [] s = some v)
    (hex : ex = true → Exa s s.heap a ("[" ++ ty.toString)) : ArOk s s.heap a ty ex false vs := by
  obtain ⟨c, A⟩ := Arr.start ev hx
  have e1 := eqv_int hl
  have ha : s.arrayAt? a = some c := Arr.fin (Vm.Alike.refl _) A
  have h31 : c.slots.size < 2 ^ 31 := by
    simp only [Term.eval, ev, ha, Option.bind_eq_bind, Option.bind_some] at e1
    by_cases q : c.slots.size < 2 ^ 31
    · exact q
    · simp [q] at e1
  rw [len_f ev ha h31] at e1
  have hs : c.slots.size = vs.length := by
    have e2 : c.slots.size.toInt32 = z := by injection (Option.some.inj e1)
    exact ix_eq h31 hn (e2.trans hz)
  have hel : ∀ i v, vs[i]? = some v → c.slots[i]? = some v := fun i v hv => by
    have li : i < vs.length := (List.getElem?_eq_some_iff.mp hv).1
    have q := (elem_in (he i v hv) ev (Term.int_eval _) A.1).2
    rwa [ix_nat (by omega)] at q
  refine ⟨c, A, ?_, hn, fun v hv => ?_, hex, fun q => nomatch q⟩
  · apply List.ext_getElem?
    intro i
    by_cases li : i < vs.length
    · rw [Array.getElem?_toList, List.getElem?_eq_getElem li]
      exact hel i _ (List.getElem?_eq_getElem li)
    · rw [List.getElem?_eq_none (by simp; omega), List.getElem?_eq_none (by omega)]
  · obtain ⟨i, hi⟩ := List.getElem?_of_mem hv
    have li : i < vs.length := (List.getElem?_eq_some_iff.mp hi).1
    have q := elem_fits (j := ix i) hf A (by rw [ix_nat (by omega)]; rintro (u | u); exact ix_nn (by omega) u; omega) (by rw [ix_nat (by omega)]; exact hel i v hi)
    exact q
end Start

-- lists: instanceof that says no; a nest mate's constructor; Class objects; arraycopy
def NoSub (W : Wd) (C D : String) : Prop := ∃ c t, (wZ W).vm.findClass C = some c ∧ (wZ W).vm.findClass D = some t ∧ (wZ W).vm.assignable c t = false
theorem nsRoot {W : Wd} {O D : String} {kk : Nat} (w : Wok W (.noSuperclass O)) (wk : Wok W (.instantiable D kk)) (hn : O ≠ D) : NS (wZ W) O D := by
  obtain ⟨c, k, h1, h2, h3, -, -⟩ := Cond.noSuperclass_spec w
  obtain ⟨t, kt, g1, -⟩ := Cond.instantiable_spec wk
  have ne := ids_ne h1 g1 hn
  refine ⟨c, t, h1, g1, fun fuel => ?_⟩
  cases fuel with
  | zero => rfl
  | succ f => simp [Vm.isSubclassAux, ne, h2, h3]
theorem nsNo {W : Wd} {C S D : String} {kk : Nat} (w : Wok W (.superclass C S)) (wk : Wok W (.instantiable D kk)) (n : NS (wZ W) C D) (hn : C ≠ D) : NoSub W C D := by
  obtain ⟨c, t, h0, g0, n3⟩ := n
  obtain ⟨p, k, kp, h1, h2, h3, h4, h5, -, h7⟩ := Cond.superclass_spec h0 w
  obtain ⟨t', kt, g1, g2, g3, g4, -⟩ := Cond.instantiable_spec wk
  cases g0.symm.trans g1
  have gi : kt.isInterface = false := by
    cases q : kt.isInterface
    · rfl
    · rw [q] at g4; cases g4
  have ne := ids_ne h0 g0 hn
  refine ⟨c, t, h0, g0, ?_⟩
  show (wZ W).vm.assignableAux (255 + 1) c t = false
  simp [Vm.assignableAux, ne, h2, g2, h5, g3, gi, Vm.isSubclass, n3]
section Logic4
variable {W : Wd} {K : Kx} {M : Mt} {Q : Option Value → List En → Prop} {H H' : List En} {c n pc pc' pt len : Nat} {L L' : List Slot} {S : List Value}
theorem Wp.instNo {y0 : MethodName} (hM : mN M = y0) {a : Addr} {r : Bool} {C D : String} {fs : List Fd} {idx : Nat} (w : Wok W (.classLink y0.cls idx D)) (i : Nat) (hi : H[i]? = some (a, r, .inl (C, fs))) (F : NoSub W C D) (hd : Dc (mC M) pc (.instanceof idx) 3 pc') (k : Wp W K M Q H c n pc' L (.int 0 :: S)) : Wp W K M Q H c n pc L (.ref a :: S) := by
  subst hM
  obtain ⟨hd, rfl⟩ := hd
  exact Wp.to (fun T locs X hx hZ ho hc _ _ P N => by
    have E : ObOk (wZ W) T.heap a C fs := P.at hi
    obtain ⟨T', X', e', st⟩ := Jvm.RoadKit.instNo X hx hZ ho w rfl E.1 F (g := mkF (kM K) pc L.toArray (.ref a :: S)) rfl rfl (hbM hc hd)
    exact ⟨T', locs, X', N, by rw [e']; exact P, by rw [e']; exact Nx.refl _ _, st⟩) k
theorem Wp.callCN {y0 : MethodName} (hM : mN M = y0) {M' : Mt} {host : String} {a : Addr} {as : List Value} {idx Wn np : Nat} {S0 : List Value} {Q' : Option Value → List En → Prop} (C : ∀ P', Ct (wSet W P') M' (.ref a :: as) H Q') {y' : MethodName} (w : Mk W M' y' np) (w1 : Wok W (.methodLinkNest y0.cls idx y' host)) (w2 : Wok W (.instanceMethod y')) (hi : y'.name = "<init>") (hT : mT M' = none) (hst : S0 = as.reverse ++ .ref a :: S) (hp : as.length = np) (hW : (S.map fun v => v.category).sum = Wn) (hL : L.length = mL M) (hR : Fits M M' c n Wn)
    (hd : Dc (mC M) pc (.invokespecial idx) 3 pc') (k : ∀ v H', Q' v H' → Wp W K M Q H' (c + (mR M').cells) (n + (mR M').slots) pc' L (pushV v S)) : Wp W K M Q H c n pc L S0 := by
  subst hM
  obtain ⟨rfl, w⟩ := w
  obtain ⟨hd, rfl⟩ := hd
  subst hst hp
  exact fun T X => by
    obtain ⟨hx, hZ, ho, hb, hm, hr, hn, hl, gs, locs, X, N, P⟩ := X
    obtain ⟨v, vm1, ⟨T', L', k', n'⟩, -, X', ⟨Lc, ⟨N', H', P', g', q⟩, l1, y1, z1⟩, st⟩ := X.specialBackNest hx (y := mN M') hi ho (Cond.methodLinkNest_wide hZ w1 :) (mvT hZ w2) (hT ▸ mvT hZ w.1) w.2.2.2 (Ct.back C P hZ ⟨rfl, w⟩ hR.1 hR.2.1) (g := mkF (kM K) pc L.toArray (as.reverse ++ .ref a :: S)) rfl (by rw [hm, ← hL]; simp) (Steps.refl _) (a := a) (argsL := as) (rest := S) w.2.2.1 rfl (by show 2 * 0 + _ ≤ _; omega) (hbM hb hd) (fun _ _ => ⟨rfl, rfl, hR.2.2.1, hR.2.2.2⟩)
    dsimp only [Pt.U, Pt.locs, Pt.cells, Pt.slots] at X' l1 y1 z1 st P'
    subst l1 y1 z1
    obtain ⟨U, s1, s2⟩ := k v H' q T' ⟨hx, hZ, ho, hb, hm, hr, hn, hl, gs.nx P g', _, X', N.app N', P'⟩
    rw [pushV_eq] at s1
    exact ⟨U, st.trans s1, s2⟩
/-- a class constant whose Class object has been made -/
theorem Wp.ldcM {y0 : MethodName} (hM : mN M = y0) {C : String} {mr : Addr} {idx : Nat} (w : Wok W (.classLink y0.cls idx C)) (F : Mir (wZ W) C mr) (hd : Dc (mC M) pc (.ldc idx) 2 pc') (k : Wp W K M Q H c n pc' L (.ref mr :: S)) : Wp W K M Q H c n pc L S := by
  subst hM
  obtain ⟨hd, rfl⟩ := hd
  exact Wp.to (fun T locs X hx hZ ho hc _ _ P N => by
    obtain ⟨cc, kc, m1, m2, m3, -⟩ := F
    obtain ⟨k', q, ek⟩ := hZ.alike.2.2 _ _ m2
    have ev : (Term.mirror C).eval (kA K) (kS K) none [] (kS K) = some (.ref mr) := by
      have f : (kS K).vm.findClass C = some cc := by rw [hZ.alike.findClass]; exact m1
      have mm : k'.mirror = some mr := by rw [ek]; exact m3
      simp [Term.eval, f, q, mm]
    obtain ⟨vm', X', st⟩ := X.ldcMirror hx ho (mvT hZ w) ev (g := mkF (kM K) pc L.toArray S) rfl (hbM hc hd)
    exact ⟨_, locs, X', N, P, Nx.refl _ _, st⟩) k
theorem Wp.gcls {y0 : MethodName} (hM : mN M = y0) {C : String} {a mr : Addr} {r ov : Bool} {ty : FieldType} {vs : List Value} {idx Wn : Nat} (i : Nat) (hi : H[i]? = some (a, r, .inr (ty, true, ov, vs))) (had : "[" ++ ty.toString = C) (w1 : Wok W (.methodLink y0.cls idx ⟨"java/lang/Object", "getClass", "()Ljava/lang/Class;"⟩)) (w2 : Wok W (.declares ⟨"java/lang/Object", "getClass", "()Ljava/lang/Class;"⟩)) (w3 : Wok W (.noSuperclass "java/lang/Object")) (w4 : Wok W (.selects C ⟨"java/lang/Object", "getClass", "()Ljava/lang/Class;"⟩ ⟨"java/lang/Object", "getClass", "()Ljava/lang/Class;"⟩))
    (w5 : Wok W (.instanceMethod ⟨"java/lang/Object", "getClass", "()Ljava/lang/Class;"⟩)) (w6 : Wok W (.native ⟨"java/lang/Object", "getClass", "()Ljava/lang/Class;"⟩)) (F : Mir (wZ W) C mr) (hW : (S.map fun v => v.category).sum = Wn) (hL : L.length = mL M) (hf : 1 ≤ (mR M).frames) (hlo : Wn + (nativeFrameWords "java/lang/Object" "getClass" 1 + 11) ≤ (mR M).locals)
    (hd : Dc (mC M) pc (.invokevirtual idx) 3 pc') (k : Wp W K M Q H c n pc' L (.ref mr :: S)) : Wp W K M Q H c n pc L (.ref a :: S) := by
  subst hM
  obtain ⟨hd, rfl⟩ := hd
  exact Wp.to (fun T locs X hx hZ ho hc hm _ P N => by
    have E : ArOk (wZ W) T.heap a ty true ov vs := P.at hi
    obtain ⟨T', X', e', st⟩ := Jvm.RoadKit.gcls X hx hZ ho w1 w2 w3 w4 w5 w6 rfl (had ▸ E.choose_spec.2.2.2.2.1 rfl) F (g := mkF (kM K) pc L.toArray (.ref a :: S)) rfl (by rw [hm, ← hL]; simp) rfl (hbM hc hd) hf (W := Wn) (by show 2 * 0 + _ ≤ _; omega) hlo
    exact ⟨T', locs, X', N, by rw [e']; exact P, by rw [e']; exact Nx.refl _ _, st⟩) k
theorem ArOk.arv {Z : State} {h : Heap} {a : Addr} {ty : FieldType} {ex ov : Bool} {vs : List Value} (F : ArOk Z h a ty ex ov vs) (dv : Value) : ∃ k, Arv Z h a k ty (ix vs.length) vs dv ∧ (ov = true → ∀ C, ty = .object C → Ovr Z k C) := by
  obtain ⟨c, h1, h2, h3, h4, h5, h6⟩ := F
  have hs : c.slots.size = vs.length := by rw [← h2]; simp
  refine ⟨c.cls, ⟨c, h1, rfl, by rw [hs, ix_nat h3], ix_nn h3, fun i hi => ?_, fun i hi => ?_⟩, h6⟩
  · rw [← Array.getElem?_toList, h2, List.getD_eq_getElem?_getD, List.getElem?_eq_getElem (by omega)]; rfl
  · rw [List.getD_eq_getElem?_getD, List.getElem?_eq_getElem (by omega)]
    exact h4 _ (List.getElem_mem _)
theorem ArOk.of_arv {Z : State} {h : Heap} {a : Addr} {ty : FieldType} {k : ClassId} {z : Int32} {vs : List Value} {dv : Value} (F : Arv Z h a k ty z vs dv) (hz : z.toNatClampNeg = vs.length) (h3 : vs.length < 2 ^ 31) {ex ov : Bool} (h5 : ex = true → Exa Z h a ("[" ++ ty.toString)) (h6 : ov = true → ∀ C, ty = .object C → Ovr Z k C) : ArOk Z h a ty ex ov vs :=
  of_arh (Arv.arh F) hz h3 h5 h6
/-- one entry is written by a callee or a native: what else is known stays -/
theorem Hp.keepAt {h h' : Heap} {a : Addr} {D D' : Ds} (P : Hp W h H) {i : Nat} (hi : H[i]? = some (a, true, D)) (E : Keep h h' [a]) (F : DsOk (wZ W) h' a D') : Hp W h' (H.set i (a, true, D')) := by
  have hm := List.mem_of_getElem? hi
  have hn := (P.2.1 _ hm).1 rfl
  refine ⟨P.1.keep E (fun x hx => by rw [List.mem_singleton.mp hx]; exact hn.1), fun x hx => ?_, ?_⟩
  · obtain ⟨j, hj⟩ := List.getElem?_of_mem hx
    by_cases e : i = j
    · subst e
      rw [List.getElem?_set_self (List.getElem?_eq_some_iff.mp hi).1] at hj
      cases hj
      exact ⟨fun _ => hn, F⟩
    · rw [List.getElem?_set_ne e] at hj
      have hx' := P.2.1 x (List.mem_of_getElem? hj)
      exact ⟨hx'.1, hx'.2.keep E (fun q => P.apart hi hj e rfl (List.mem_singleton.mp q))⟩
  · rw [List.pairwise_iff_getElem]
    intro j k hj hk hjk
    rw [List.length_set] at hj hk
    have q := (List.pairwise_iff_getElem.mp P.2.2) j k hj hk hjk
    obtain ⟨li, e⟩ := List.getElem?_eq_some_iff.mp hi
    rw [List.getElem_set, List.getElem_set]
    have fix : ∀ x : En, x = (a, true, D) → x.2.1 = true ∧ x.1 = a := fun x e => by subst e; exact ⟨rfl, rfl⟩
    obtain ⟨f1, f2⟩ := fix _ e
    split
    · rename_i e1
      subst e1
      split
      · rename_i e2; omega
      · rcases q with u | u
        · exact absurd (f1.symm.trans u.1) (by decide)
        · exact Or.inr (fun w => u (f2.trans w))
    · split
      · rename_i e2
        subst e2
        rcases q with u | u
        · exact absurd (f1.symm.trans u.2) (by decide)
        · exact Or.inr (fun w => u (w.trans f2.symm))
      · exact q
theorem us_eq (vs : List Value) (dv : Value) {s m : Nat} (h : s + m ≤ vs.length) : (vs.drop s).take m = (List.range m).map fun i => vs.getD (s + i) dv := by
  apply List.ext_getElem?
  intro i
  by_cases hi : i < m
  · rw [List.getElem?_take_of_lt hi, List.getElem?_drop, List.getElem?_map, List.getElem?_range hi]
    show vs[s + i]? = some (vs.getD (s + i) dv)
    rw [List.getD_eq_getElem?_getD, List.getElem?_eq_getElem (by omega)]
    rfl
  · rw [List.getElem?_eq_none (by simp; omega), List.getElem?_eq_none (by simp; omega)]
/-- System.arraycopy between two known arrays -/
theorem Wp.acopy {y0 : MethodName} (hM : mN M = y0) {a b : Addr} {r ex ov ex' ov' : Bool} {ty ty' : FieldType} {vs vd us : List Value} {idx Wn s d m : Nat} {sp dp nn : Int32} (i j : Nat) (hi : H[i]? = some (a, r, .inr (ty, ex, ov, vs))) (hj : H[j]? = some (b, true, .inr (ty', ex', ov', vd))) (w1 : Wok W (.methodLink y0.cls idx Jvm.Stand.acN)) (w2 : Wok W (.native Jvm.Stand.acN)) (w3 : Wok W (.static Jvm.Stand.acN)) (w4 : Wok W (.initialized "java/lang/System"))
    (hty : (ty = ty' ∧ refKind ty = false) ∨ (refKind ty = true ∧ refKind ty' = true ∧ ∀ h, Hp W h H → StoL (wZ W) h b us)) (h1 : sp = ix s) (h2 : dp = ix d) (h3 : nn = ix m) (hus : (vs.drop s).take m = us) (h4 : s + m ≤ vs.length) (h5 : d + m ≤ vd.length)
    (hW : (S.map fun v => v.category).sum = Wn) (hL : L.length = mL M) (hf : 1 ≤ (mR M).frames) (hlo : Wn + (nativeFrameWords "java/lang/System" "arraycopy" 5 + 11) ≤ (mR M).locals)
    (hd : Dc (mC M) pc (.invokestatic idx) 3 pc') (hH : H.set j (b, true, .inr (ty', ex', ov', vd.take d ++ us ++ vd.drop (d + m))) = H') (k : Wp W K M Q H' c n pc' L S) : Wp W K M Q H c n pc L (.int nn :: .int dp :: .ref b :: .int sp :: .ref a :: S) := by
  subst hM
  obtain ⟨hd, rfl⟩ := hd
  subst hH h1 h2 h3
  exact Wp.to (fun T locs X hx hZ ho hc hm _ P N => by
    have A : ArOk (wZ W) T.heap a ty ex ov vs := P.at hi
    have B : ArOk (wZ W) T.heap b ty' ex' ov' vd := P.at hj
    have la : vs.length < 2 ^ 31 := A.choose_spec.2.2.1
    have lb : vd.length < 2 ^ 31 := B.choose_spec.2.2.1
    obtain ⟨ka, A', -⟩ := A.arv (.int 0)
    obtain ⟨kb, B', ob⟩ := B.arv (.int 0)
    have ge := ((P.2.1 _ (List.mem_of_getElem? hj)).1 rfl).1
    have bex := B.choose_spec.2.2.2.2.1
    have es : (ix s).toNatClampNeg = s := ix_nat (by omega)
    have ed : (ix d).toNatClampNeg = d := ix_nat (by omega)
    have em : (ix m).toNatClampNeg = m := ix_nat (by omega)
    have lu : us.length = m := by rw [← hus]; simp; omega
    obtain ⟨T', h', L2, X', e', N', Kp, R', st⟩ := cpA X hx hZ ho w1 w2 w3 w4 rfl A' B' (us := us) (sp := ix s) (dp := ix d) (nn := ix m) (hty.imp id fun u => ⟨u.1, u.2.1, u.2.2 _ P⟩) (ix_nn (by omega)) (ix_nn (by omega)) (ix_nn (by omega)) (by rw [es, em, ix_nat la]; exact h4) (by rw [ed, em, ix_nat lb]; exact h5) (by rw [es, em, ← hus]; exact us_eq vs _ h4) (by rw [ed, em]; exact h5) N ge (g := mkF (kM K) pc L.toArray _) rfl (by rw [hm, ← hL]; simp) (rest := S) rfl (hbM hc hd) hf (W := Wn) (by show 2 * 0 + _ ≤ _; omega) hlo
    have ln : (vd.take d ++ us ++ vd.drop (d + m)).length = vd.length := by simp; omega
    rw [ed, em] at R'
    refine ⟨T', L2, X', N', ?_, by rw [e']; exact Nx.keepAt hj Kp, st⟩
    rw [e']
    exact P.keepAt hj Kp (ArOk.of_arv R' (by rw [ix_nat lb, ln]) (by rw [ln]; exact lb) (fun q => (bex q).keep Kp) ob)) k
end Logic4
theorem stoOf {W : Wd} {H : List En} {h : Heap} {a y : Addr} {r ex : Bool} {C : String} {vs : List Value} (P : Hp W h H) (i : Nat) (hi : H[i]? = some (a, r, .inr (.object C, ex, true, vs))) (I : Ins (wZ W) h y C true) : Sto (wZ W) h a (.ref y) := by
  obtain ⟨c, h1, -, -, -, -, h6⟩ : ArOk (wZ W) h a (.object C) ex true vs := P.at hi
  exact Sto.of h1 (h6 rfl C rfl) I
theorem narRef {ty : FieldType} {v : Value} (hv : v.isRef = true) : narrow ty v = v := by rcases ref_cases hv with rfl | ⟨_, rfl⟩ <;> cases ty <;> rfl
theorem fitRef {ty : FieldType} {v : Value} (hv : v.isRef = true) (hr : ty.isReference = true) : fits ty v = true := by rcases ref_cases hv with rfl | ⟨_, rfl⟩ <;> cases ty <;> first | rfl | cases hr
theorem mask255 (x : Int32) : ¬ x &&& 255 < 0 ∧ ¬ 255 < x &&& 255 := by
  have a := c_and x 255 (by decide)
  rw [Int32.lt_iff_toInt_lt, Int32.lt_iff_toInt_lt]
  have e0 : (0 : Int32).toInt = 0 := rfl
  have e1 : (255 : Int32).toInt = 255 := rfl
  omega
theorem and3 (x : Int32) : x &&& 3 = 0 ∨ x &&& 3 = 1 ∨ x &&& 3 = 2 ∨ x &&& 3 = 3 := by
  have a := c_and x 3 (by decide)
  have e3 : (3 : Int32).toInt = 3 := rfl
  have e2 : (2 : Int32).toInt = 2 := rfl
  have e1 : (1 : Int32).toInt = 1 := rfl
  have e0 : (0 : Int32).toInt = 0 := rfl
  rw [← Int32.toInt_inj, ← Int32.toInt_inj, ← Int32.toInt_inj, ← Int32.toInt_inj, e0, e1, e2, e3]
  omega
section Wide
variable {W : Wd} {K : Kx} {M : Mt} {Q : Option Value → List En → Prop} {H H' : List En} {c n pc pc' pt len : Nat} {L L' : List Slot} {S : List Value} {s0 : State} {EL : List (String × Nat)}
/-- K, seen behind a step that has interned -/
def kN (K : Kx) (s : State) : Kx := (kP K, kE K, s, kM K, kA K, kB K, kH K, kC K, kW K)
/-- from the ghost's end back -/
theorem Fini.back {s : State} {U : State} (hk : kW K = some (s0, EL)) (eh : s.heap = (kS K).heap) (F : Fini W (kN K s) M Q U) : Fini W K M Q U := by
  obtain ⟨o, h1, h2, v, L2, h3, h4, H', h5, h6, h7⟩ := F
  exact ⟨o, h1, h2, v, L2, h3, h4, H', h5, h6, EndK.shift (K' := kN K s) hk hk eh h7⟩
/-- a String constant, of which nothing is told -/
theorem Wp.ldcO {y0 : MethodName} (hM : mN M = y0) {text : String} {idx n1 : Nat} (hk : kW K = some (s0, EL)) (w : Wok W (.stringLink y0.cls idx text)) (wS : ∀ a ∈ Bundle.stringAtoms, Wok W a) (hn1 : 4 * text.toList.length ≤ n1) (hbig : n1 ≤ 536870912) (hc1 : c + 2 ≤ (mR M).cells) (hl1 : n + (n1 + 4) ≤ (mR M).slots)
    (hd : Dc (mC M) pc (.ldc idx) 2 pc') (k : ∀ (K' : Kx) (a : Addr), kW K' = some (s0, EL) → Wp W K' M Q H (c + 2) (n + (n1 + 4)) pc' L (.ref a :: S)) : Wp W K M Q H c n pc L S := by
  subst hM
  obtain ⟨hd, rfl⟩ := hd
  exact fun T X => by
    obtain ⟨hx, hZ, ho, hb, hm, hr, hn, hl, gs, locs, X, N, P⟩ := X
    obtain ⟨g1, ⟨k0, g2, g3⟩, g4, g5, g6⟩ := gs.2.get hk
    have eh : (kS K).heap = s0.heap := by rw [g1]; rfl
    have X1 := X
    rw [g1] at X1
    obtain ⟨a, T', h', k1, X', e', E, hS, hk1, hW, hf, hC, -, st⟩ := ldcOH X1 hx hZ ho w wS rfl g2 g3 g4 g5.1 (g := mkF (kM K) pc L.toArray S) rfl (hbM hb hd) hn1 hbig hc1 hl1
    obtain ⟨U, s1, F⟩ := k (kN K (s0.setVm T'.vm)) a hk T' ⟨hx, hW, hf, hb, hm, hr, hn, hl, ⟨⟨by rw [e']; exact Nat.le_trans (eh ▸ gs.1.1) E.1, fun x c q r => by rw [e']; exact E.2 x c (gs.1.2 x c (by rw [eh]; exact q) r)⟩, Gw.mk hk ⟨rfl, ⟨k1, hS, by rw [e']; exact hk1⟩, g4, by rw [e']; exact g5.trans hC, fun y hy hr => by rw [e']; exact hC.safe (P.2.1 y hy).2.lt (g6 y hy hr)⟩⟩, locs, X', N, by rw [e']; exact ⟨P.1.ext E, fun x hx => ⟨(P.2.1 x hx).1, (P.2.1 x hx).2.ext E⟩, P.2.2⟩⟩
    exact ⟨U, st _ s1, Fini.back (s := s0.setVm T'.vm) hk eh.symm F⟩
/-- a String constant whose text is known: its two cells, that nothing writes -/
theorem Wp.ldcK {y0 : MethodName} (hM : mN M = y0) {text : String} {idx n1 : Nat} {vs : List Value} (hk : kW K = some (s0, EL)) (w : Wok W (.stringLink y0.cls idx text)) (wS : ∀ a ∈ Bundle.stringAtoms, Wok W a) (hmem : (y0.cls, idx) ∈ EL) (ht : (∀ c ∈ text.toList, c.toNat < 256) ∧ text.toList.map (fun c => Value.int (Jvm.Lit.byteI c.toNat.toUInt16)) = vs) (hl0 : vs.length < 2 ^ 31) (hfs : NewFs W "java/lang/String" [("java/lang/String", "value", "[B", .null), ("java/lang/String", "coder", "B", .int 0)])
    (hn1 : 4 * text.toList.length ≤ n1) (hbig : n1 ≤ 536870912) (hc1 : c + 2 ≤ (mR M).cells) (hl1 : n + (n1 + 4) ≤ (mR M).slots)
    (hd : Dc (mC M) pc (.ldc idx) 2 pc') (k : ∀ (K' : Kx) (a b : Addr), kW K' = some (s0, EL) → Wp W K' M Q ((a, false, .inl ("java/lang/String", [("java/lang/String", "value", "[B", .ref b), ("java/lang/String", "coder", "B", .int 0)])) :: (b, false, .inr (.byte, false, false, vs)) :: H) (c + 2) (n + (n1 + 4)) pc' L (.ref a :: S)) : Wp W K M Q H c n pc L S := by
  subst hM
  obtain ⟨hd, rfl⟩ := hd
  exact fun T X => by
    obtain ⟨hx, hZ, ho, hb, hm, hr, hn, hl, gs, locs, X, N, P⟩ := X
    obtain ⟨g1, ⟨k0, g2, g3⟩, g4, g5, g6⟩ := gs.2.get hk
    have eh : (kS K).heap = s0.heap := by rw [g1]; rfl
    have X1 := X
    rw [g1] at X1
    obtain ⟨a, T', h', k1, b, kb, X', e', E, hS, hk1, hW, hf, F1, F2, F3, F4, -, -, hC, -, hne, st⟩ := ldcCH X1 hx hZ ho w wS rfl g2 g3 g4 hmem g5.1 ht (ix_nn hl0) (ix_nat hl0) (g := mkF (kM K) pc L.toArray S) rfl (hbM hb hd) hn1 hbig hc1 hl1
    have sf : Sf (wZ W) EL T'.vm h' H := fun y hy hr => hC.safe (P.2.1 y hy).2.lt (g6 y hy hr)
    have O : DsOk (wZ W) h' a (.inl ("java/lang/String", [("java/lang/String", "value", "[B", .ref b), ("java/lang/String", "coder", "B", .int 0)])) := ⟨F1, fun f hf => by
      rcases List.mem_cons.mp hf with rfl | hf
      · exact F3
      · cases List.mem_singleton.mp hf; exact F2, hfs.slots⟩
    have A : DsOk (wZ W) h' b (.inr (.byte, false, false, vs)) := ArOk.of_arv F4 (ix_nat hl0) hl0 (fun q => nomatch q) (fun q => nomatch q)
    have P1 : Hp W h' H := ⟨P.1.ext E, fun x hx => ⟨(P.2.1 x hx).1, (P.2.1 x hx).2.ext E⟩, P.2.2⟩
    have ap : ∀ (x : Addr) (D : Ds) (y : En), y ∈ H → (∀ z, Safe (wZ W) EL T'.vm h' z → z ≠ x) → Apart (x, false, D) y := fun x D y hy q => by
      rcases Bool.eq_false_or_eq_true y.2.1 with r | r
      · exact Or.inr fun e => q _ (sf y hy r) e.symm
      · exact Or.inl ⟨rfl, r⟩
    have P2 : Hp W h' ((a, false, .inl ("java/lang/String", [("java/lang/String", "value", "[B", .ref b), ("java/lang/String", "coder", "B", .int 0)])) :: (b, false, .inr (.byte, false, false, vs)) :: H) := ⟨P1.1, fun x hx => by
      rcases List.mem_cons.mp hx with rfl | hx
      · exact ⟨fun q => (nomatch q), O⟩
      · rcases List.mem_cons.mp hx with rfl | hx
        · exact ⟨fun q => (nomatch q), A⟩
        · exact P1.2.1 x hx, List.pairwise_cons.mpr ⟨fun y hy => by
            rcases List.mem_cons.mp hy with rfl | hy
            · exact Or.inl ⟨rfl, rfl⟩
            · exact ap a _ y hy fun z q => (hne z q).1, List.pairwise_cons.mpr ⟨fun y hy => ap b _ y hy fun z q => (hne z q).2, P1.2.2⟩⟩⟩
    obtain ⟨U, s1, F⟩ := k (kN K (s0.setVm T'.vm)) a b hk T' ⟨hx, hW, hf, hb, hm, hr, hn, hl, ⟨⟨by rw [e']; exact Nat.le_trans (eh ▸ gs.1.1) E.1, fun x c q r => by rw [e']; exact E.2 x c (gs.1.2 x c (by rw [eh]; exact q) r)⟩, Gw.mk hk ⟨rfl, ⟨k1, hS, by rw [e']; exact hk1⟩, g4, by rw [e']; exact g5.trans hC, fun y hy hr => by
      rw [e']
      rcases List.mem_cons.mp hy with rfl | hy
      · cases hr
      · rcases List.mem_cons.mp hy with rfl | hy
        · cases hr
        · exact sf y hy hr⟩⟩, locs, X', N, by rw [e']; exact P2⟩
    exact ⟨U, st _ s1, Fini.back (s := s0.setVm T'.vm) hk eh.symm F⟩
/-- a contract, seen wide: the method, or what it calls, may load String constants -/
def CtW (EL : List (String × Nat)) (W : Wd) (M : Mt) (as : List Value) (H : List En) (Q : Option Value → List En → Prop) : Prop :=
  ∀ (ws : List Cond) (h0 : Heap), Hp W h0 H → MetFree (wL W) (mN M) (head1 (Cond.code (mN M) (mC M) (mL M) (mT M) :: ws) (mR M)) (fun a U => a = as.toArray ∧ (wZ W).Warmed39 U.vm ∧ U.heap = h0 ∧ CHv (wZ W) EL U.vm h0 ∧ Sf (wZ W) EL U.vm h0 H) (fun _ _ _ _ _ => True)
    (fun _ U o U' => ∃ v L, o = .returned v ∧ (Fr (wN W) L ∧ Kl W h0 U'.heap ∧ ∃ H', Hp W U'.heap H' ∧ Q v H' ∧ Sf (wZ W) EL U'.vm U'.heap H') ∧ CHr (wZ W) EL U.vm U.heap U'.vm U'.heap ∧ ReturnedEndW U o U' L (mR M).cells (mR M).slots)
theorem CtW.intro {as : List Value} {L0 : List Slot} (hE : EW (wZ W) (wA W) EL) (hp : plainFor (mN M) = true) (he : slotsOf as ++ List.replicate (mL M - (slotsOf as).length) Slot.unset = L0) (body : ∀ K s0, kW K = some (s0, EL) → Wp W K M Q H 0 0 0 L0 []) : CtW EL W M as H Q := by
  intro ws h0 P
  refine MetFree.of_bodySF hp hisR ?_
  intro p e s m args below meth c s₁ Bd hml0 hP hK
  obtain ⟨rfl, hZ, hh, hC, hS⟩ := hP
  have e0 : s₁.heap = h0 := by rw [← hh, Bd.state]; rfl
  obtain ⟨U, st, o, h1, h2, v, L, e1, e2, H', e3, e4, e5⟩ := body (p, e, s, m, as.toArray, below, meth, c, some (s, EL)) s rfl s₁ ⟨Bd.exec, hZ, findClass_of_methodNamed Bd.named, Bd.bytes, hml0, Bd.returns, (name_of_methodNamed Bd.named Bd.method).1, Bd.notSynchronized, ⟨⟨Nat.le_of_eq (by rw [e0, ← hh]; first | done | rfl), fun x c q _ => by rw [e0, ← hh]; exact q⟩, Gw.mk (EL := EL) (s0 := s) rfl ⟨rfl, ⟨0, (State.WarmedH.refl s).since 0, Nat.zero_le _⟩, hE, by rw [e0, ← hh]; exact CHr.refl (hh ▸ hC), by rw [e0]; exact hS⟩⟩, [], Stand.of_body Bd, Fr.nil _, by rw [e0]; exact P⟩
  have e6 : ReturnedEndW s o U L (mR M).cells (mR M).slots ∧ CHr (wZ W) EL s.vm s.heap U.vm U.heap ∧ Sf (wZ W) EL U.vm U.heap H' := e5.2
  exact ⟨U, o, castTop ((entry_eq m as (mL M)).trans (by rw [he]; rfl)) st, h1, h2, v, L, e1, ⟨e2, by rw [← hh]; exact e5.1, H', e3, e4, e6.2.2⟩, e6.2.1, e6.1⟩
theorem CtW.back {M' : Mt} {as : List Value} {Q' : Option Value → List En → Prop} {h : Heap} {p : Program} {e : Env} {s : State} {vm0 : Vm} {args : Array Value} {below : List Frame} {ln Wn : Nat} {R : Room} (C : CtW EL W M' as H Q') (P : Hp W h H) (hZ : (wZ W).Warmed39 vm0) {np : Nat} (w : Mk W M' (mN M') np) (hf : (mR M').frames + 1 ≤ R.frames) (hl : Wn + (mL M' + 11) + (mR M').locals ≤ R.locals) (hE : EW (wZ W) (wA W) EL) (hC : CHv (wZ W) EL vm0 h) (hS : Sf (wZ W) EL vm0 h H) :
    BackS (wL W) R p e below (s.setVm vm0) args (mN M') ln Wn (fun A a => a = as.toArray ∧ A.U.heap = h ∧ A.cells + (mR M').cells ≤ R.cells ∧ A.slots + (mR M').slots ≤ R.slots) (fun A _ v B => ∃ L, (Fr (wN W) L ∧ Kl W h B.U.heap ∧ ∃ H', Hp W B.U.heap H' ∧ Q' v H' ∧ Sf (wZ W) EL B.U.vm B.U.heap H') ∧ CHr (wZ W) EL vm0 h B.U.vm B.U.heap ∧ B.locs = A.locs ++ L ∧ B.cells = A.cells + (mR M').cells ∧ B.slots = A.slots + (mR M').slots) :=
  BackS.of_freeW (bytes := mC M') (maxL := mL M') (ret := mT M') (E := fun _ U o t L k n => k = (mR M').cells ∧ n = (mR M').slots ∧ (∃ v, o = .returned v ∧ (Fr (wN W) L ∧ Kl W h t.heap ∧ ∃ H', Hp W t.heap H' ∧ Q' v H' ∧ Sf (wZ W) EL t.vm t.heap H')) ∧ CHr (wZ W) EL U.vm U.heap t.vm t.heap) (C [] h P) hf hl
    (fun m meth c A a Y hp => have hU : (wZ W).Warmed39 A.U.vm := wtrans (s := s.setVm vm0) hZ Y.warmed
      ⟨by show (Cond.and _ .tt).before a A.U = true; rw [Cond.before_and, mv hU w.2.1]; rfl, mv hU w.2.1, mv hU w.2.2.1, hp.2.2.1, hp.2.2.2⟩)
    (fun m meth c A a g mk Y hp => have D := CHv.at Y hZ hE hC
      ⟨hp.1, wtrans (s := s.setVm vm0) hZ Y.warmed, hp.2.1, D.1, fun y hy hr => D.safe (P.2.1 y hy).2.lt (hS y hy hr)⟩) (fun _ _ _ _ _ _ _ _ _ => trivial)
    (fun _ _ _ _ ⟨v, L, h1, h2, h3, h4⟩ => ⟨L, _, _, h4, rfl, rfl, ⟨v, h1, h2⟩, h3⟩)
    (fun m meth c A a g mk v t L k n Y hp _ _ ⟨e1, e2, ⟨v', e3, e4⟩, e5⟩ => by
      cases e3; subst e1 e2
      refine ⟨L, e4, (CHv.at Y hZ hE hC).trans ?_, rfl, rfl, rfl⟩
      rw [← hp.2.1]; exact e5)
/-- invokestatic of a method that may load constants -/
theorem Wp.callSW {y0 : MethodName} (hM : mN M = y0) {M' : Mt} {as : List Value} {idx Wn np : Nat} {S0 : List Value} {Q' : Option Value → List En → Prop} (hk : kW K = some (s0, EL)) (C : CtW EL W M' as H Q') {y' : MethodName} (w : Mk W M' y' np) (w1 : Wok W (.methodLink y0.cls idx y')) (w2 : Wok W (.static y')) (hst : S0 = as.reverse ++ S) (hp : as.length = np) (hW : (S.map fun v => v.category).sum = Wn) (hL : L.length = mL M) (hR : Fits M M' c n Wn)
    (hd : Dc (mC M) pc (.invokestatic idx) 3 pc') (k : ∀ K' v H', kW K' = some (s0, EL) → Q' v H' → Wp W K' M Q H' (c + (mR M').cells) (n + (mR M').slots) pc' L (pushV v S)) : Wp W K M Q H c n pc L S0 := by
  subst hM
  obtain ⟨rfl, w⟩ := w
  obtain ⟨hd, rfl⟩ := hd
  subst hst hp
  exact fun T X => by
    obtain ⟨hx, hZ, ho, hb, hm, hr, hn, hl, gs, locs, X, N, P⟩ := X
    obtain ⟨g1, ⟨k0, g2, g3⟩, g4, g5, g6⟩ := gs.2.get hk
    have eh : (kS K).heap = s0.heap := by rw [g1]; rfl
    have X1 := X
    rw [g1] at X1
    obtain ⟨v, vm1, ⟨T', L', k', n'⟩, -, X', hS, hle, ⟨Lc, ⟨N', kl, H', P', q, sf⟩, hC, l1, y1, z1⟩, st⟩ := Jvm.RoadKit.callSS X1 hx (y := mN M') ho (mvT (s := s0.setVm (kS K).vm) hZ w1) (mvT (s := s0.setVm (kS K).vm) hZ w2) (mvT (s := s0.setVm (kS K).vm) hZ w.2.1) (mvT (s := s0.setVm (kS K).vm) hZ w.1) w.2.2.2 (CtW.back C P hZ ⟨rfl, w⟩ hR.1 hR.2.1 g4 g5.1 g6) (g := mkF (kM K) pc L.toArray (as.reverse ++ S)) rfl (by rw [hm, ← hL]; simp) (argsL := as) (rest := S) w.2.2.1 rfl (by show 2 * 0 + _ ≤ _; omega) (hbM hb hd) (fun _ _ => ⟨rfl, rfl, hR.2.2.1, hR.2.2.2⟩)
    dsimp only [Pt.U, Pt.locs, Pt.cells, Pt.slots] at X' l1 y1 z1 st P' hS hle kl sf hC
    subst l1 y1 z1
    obtain ⟨U, s1, F⟩ := k (kN K (s0.setVm T'.vm)) v H' hk q T' ⟨hx, State.Warmed39.trans (t := s0.setVm (kS K).vm) hZ hS.1, by show T'.vm.findClass _ = _; rw [hS.1.alike.findClass]; exact ho, hb, hm, hr, hn, hl, ⟨⟨Nat.le_trans (eh ▸ gs.1.1) kl.1, fun x c q r => kl.2 x c (gs.1.2 x c (by rw [eh]; exact q) r) r⟩, Gw.mk hk ⟨rfl, ⟨_, g2.trans hS (Nat.le_trans g3 hle), Nat.le_refl _⟩, g4, g5.trans hC, sf⟩⟩, _, X', N.app N', P'⟩
    rw [pushV_eq] at s1
    exact ⟨U, st.trans s1, Fini.back (s := s0.setVm T'.vm) hk eh.symm F⟩
/-- a constructor that may load constants -/
theorem Wp.callCW {y0 : MethodName} (hM : mN M = y0) {M' : Mt} {a : Addr} {as : List Value} {idx Wn np : Nat} {S0 : List Value} {Q' : Option Value → List En → Prop} (hk : kW K = some (s0, EL)) (C : CtW EL W M' (.ref a :: as) H Q') {y' : MethodName} (w : Mk W M' y' np) (w1 : Wok W (.methodLink y0.cls idx y')) (w2 : Wok W (.instanceMethod y')) (hi : y'.name = "<init>") (hT : mT M' = none) (hst : S0 = as.reverse ++ .ref a :: S) (hp : as.length = np) (hW : (S.map fun v => v.category).sum = Wn) (hL : L.length = mL M) (hR : Fits M M' c n Wn)
    (hd : Dc (mC M) pc (.invokespecial idx) 3 pc') (k : ∀ K' v H', kW K' = some (s0, EL) → Q' v H' → Wp W K' M Q H' (c + (mR M').cells) (n + (mR M').slots) pc' L (pushV v S)) : Wp W K M Q H c n pc L S0 := by
  subst hM
  obtain ⟨rfl, w⟩ := w
  obtain ⟨hd, rfl⟩ := hd
  subst hst hp
  exact fun T X => by
    obtain ⟨hx, hZ, ho, hb, hm, hr, hn, hl, gs, locs, X, N, P⟩ := X
    obtain ⟨g1, ⟨k0, g2, g3⟩, g4, g5, g6⟩ := gs.2.get hk
    have eh : (kS K).heap = s0.heap := by rw [g1]; rfl
    have X1 := X
    rw [g1] at X1
    obtain ⟨v, vm1, ⟨T', L', k', n'⟩, -, X', hS, hle, ⟨Lc, ⟨N', kl, H', P', q, sf⟩, hC, l1, y1, z1⟩, st⟩ := X1.specialBackS hx (y := mN M') hi ho (mvT (s := s0.setVm (kS K).vm) hZ w1) (mvT (s := s0.setVm (kS K).vm) hZ w2) (hT ▸ mvT (s := s0.setVm (kS K).vm) hZ w.1) w.2.2.2 (CtW.back C P hZ ⟨rfl, w⟩ hR.1 hR.2.1 g4 g5.1 g6) (g := mkF (kM K) pc L.toArray (as.reverse ++ .ref a :: S)) rfl (by rw [hm, ← hL]; simp) (Steps.refl _) (a := a) (argsL := as) (rest := S) w.2.2.1 rfl (by show 2 * 0 + _ ≤ _; omega) (hbM hb hd) (fun _ _ => ⟨rfl, rfl, hR.2.2.1, hR.2.2.2⟩)
    dsimp only [Pt.U, Pt.locs, Pt.cells, Pt.slots] at X' l1 y1 z1 st P' hS hle kl sf hC
    subst l1 y1 z1
    obtain ⟨U, s1, F⟩ := k (kN K (s0.setVm T'.vm)) v H' hk q T' ⟨hx, State.Warmed39.trans (t := s0.setVm (kS K).vm) hZ hS.1, by show T'.vm.findClass _ = _; rw [hS.1.alike.findClass]; exact ho, hb, hm, hr, hn, hl, ⟨⟨Nat.le_trans (eh ▸ gs.1.1) kl.1, fun x c q r => kl.2 x c (gs.1.2 x c (by rw [eh]; exact q) r) r⟩, Gw.mk hk ⟨rfl, ⟨_, g2.trans hS (Nat.le_trans g3 hle), Nat.le_refl _⟩, g4, g5.trans hC, sf⟩⟩, _, X', N.app N', P'⟩
    rw [pushV_eq] at s1
    exact ⟨U, st.trans s1, Fini.back (s := s0.setVm T'.vm) hk eh.symm F⟩
/-- invokevirtual of a method that may load constants -/
theorem Wp.callVW {y0 : MethodName} (hM : mN M = y0) {M' : Mt} {y : MethodName} {C0 S' : String} {fs : List Fd} {rw : Bool} {a : Addr} {as : List Value} {idx Wn np : Nat} {S0 : List Value} {Q' : Option Value → List En → Prop} (hk : kW K = some (s0, EL)) (C : CtW EL W M' (.ref a :: as) H Q') (i : Nat) (hi : H[i]? = some (a, rw, .inl (C0, fs))) {y' : MethodName} (w : Mk W M' y' np) (w1 : Wok W (.methodLink y0.cls idx y)) (w2 : Wok W (.declares y)) (w3 : Wok W (.selects C0 y y')) (w4 : Wok W (.instanceMethod y'))
    (nf : NfW W y y' S') (hy : y.cls ≠ "java/lang/invoke/MethodHandle" ∧ y.cls ≠ "java/lang/invoke/VarHandle") (hdsc : y.desc = y'.desc) (hst : S0 = as.reverse ++ .ref a :: S) (hp : as.length = np) (hW : (S.map fun v => v.category).sum = Wn) (hL : L.length = mL M) (hR : Fits M M' c n Wn)
    (hd : Dc (mC M) pc (.invokevirtual idx) 3 pc') (k : ∀ K' v H', kW K' = some (s0, EL) → Q' v H' → Wp W K' M Q H' (c + (mR M').cells) (n + (mR M').slots) pc' L (pushV v S)) : Wp W K M Q H c n pc L S0 := by
  subst hM
  obtain ⟨rfl, w⟩ := w
  obtain ⟨hd, rfl⟩ := hd
  subst hst hp
  exact fun T X => by
    obtain ⟨hx, hZ, ho, hb, hm, hr, hn, hl, gs, locs, X, N, P⟩ := X
    obtain ⟨g1, ⟨k0, g2, g3⟩, g4, g5, g6⟩ := gs.2.get hk
    have eh : (kS K).heap = s0.heap := by rw [g1]; rfl
    have X1 := X
    rw [g1] at X1
    have F : ObOk (wZ W) T.heap a C0 fs := P.at hi
    obtain ⟨cq, kq, q1, q2, q3⟩ := isOf (s := s0.setVm (kS K).vm) hZ rfl F.1
    obtain ⟨v, vm1, ⟨T', L', k', n'⟩, -, X', hS, hle, ⟨Lc, ⟨N', kl, H', P', q, sf⟩, hC, l1, y1, z1⟩, st⟩ := X1.virtualBackS hx (y := y) (z := mN M') ho (mvT (s := s0.setVm (kS K).vm) hZ w1) (mvT (s := s0.setVm (kS K).vm) hZ w2) (nf_of (s := s0.setVm (kS K).vm) hZ w3 nf) (mvT (s := s0.setVm (kS K).vm) hZ w3) (mvT (s := s0.setVm (kS K).vm) hZ w4) hy (CtW.back C P hZ ⟨rfl, w⟩ hR.1 hR.2.1 g4 g5.1 g6) q1 q3 (g := mkF (kM K) pc L.toArray (as.reverse ++ .ref a :: S)) rfl (by rw [hm, ← hL]; simp) (Steps.refl _) (argsL := as) (rest := S) (fun sig u => w.2.2.1 sig (hdsc ▸ u)) rfl (by show 2 * 0 + _ ≤ _; omega) (hbM hb hd) (fun _ _ => ⟨rfl, rfl, hR.2.2.1, hR.2.2.2⟩)
    dsimp only [Pt.U, Pt.locs, Pt.cells, Pt.slots] at X' l1 y1 z1 st P' hS hle kl sf hC
    subst l1 y1 z1
    obtain ⟨U, s1, F⟩ := k (kN K (s0.setVm T'.vm)) v H' hk q T' ⟨hx, State.Warmed39.trans (t := s0.setVm (kS K).vm) hZ hS.1, by show T'.vm.findClass _ = _; rw [hS.1.alike.findClass]; exact ho, hb, hm, hr, hn, hl, ⟨⟨Nat.le_trans (eh ▸ gs.1.1) kl.1, fun x c q r => kl.2 x c (gs.1.2 x c (by rw [eh]; exact q) r) r⟩, Gw.mk hk ⟨rfl, ⟨_, g2.trans hS (Nat.le_trans g3 hle), Nat.le_refl _⟩, g4, g5.trans hC, sf⟩⟩, _, X', N.app N', P'⟩
    rw [pushV_eq] at s1
    exact ⟨U, st.trans s1, Fini.back (s := s0.setVm T'.vm) hk eh.symm F⟩
end Wide
section Own143
theorem and255 (x : Int32) : ∃ n : Nat, n < 256 ∧ x &&& 255 = ix n := by
  refine ⟨(x.toBitVec &&& 255#32).toNat, ?_, ?_⟩
  · rw [BitVec.toNat_and]
    exact Nat.lt_of_le_of_lt Nat.and_le_right (by decide)
  · apply Int32.toBitVec_inj.mp
    simp [ix, Int32.toBitVec_and]
theorem ix_add (a b : Nat) : ix a + ix b = ix (a + b) := (Int32.ofNat_add a b).symm
theorem ix_sub {a b : Nat} (h : b ≤ a) : ix a - ix b = ix (a - b) := (Int32.ofNat_sub a b h).symm
theorem ix_c {a : Nat} (h : a < 65536) : (ix a).toUInt32.toUInt16.toUInt32.toInt32 = ix a :=
  i2c_int _ (ix_nn (by omega)) (fun q => by have := (ix_lt (i := 65535) (j := a) (by omega) (by omega)).mp q; omega)
theorem ix_by8 {z : Nat} (h : z < 256) : by8 (ix z) &&& 255 = ix z := by8_back (ix_nn (by omega)) (fun q => by have := (ix_lt (i := 255) (j := z) (by omega) (by omega)).mp q; omega)
theorem ix_shr0 (n : Nat) : ix n >>> ((0 : Int32) &&& 31) = ix n := by
  apply Int32.toBitVec_inj.mp
  simp
theorem ix_shl0 (n : Nat) : ix n <<< ((0 : Int32) &&& 31) = ix n := by
  apply Int32.toBitVec_inj.mp
  simp
theorem rem6 (x : Int32) : ∃ k : Nat, k < 6 ∧ (x &&& 2147483647) % 6 = ix k := by
  have a := c_and x 2147483647 (by decide)
  have e : ((x &&& 2147483647) % 6).toInt = (x &&& 2147483647).toInt.tmod 6 := by rw [Int32.toInt_mod]; rfl
  have e2 : (2147483647 : Int32).toInt = 2147483647 := rfl
  refine ⟨((x &&& 2147483647) % 6).toInt.toNat, ?_, ?_⟩
  · rw [e]; rw [Int.tmod_eq_emod_of_nonneg (by omega)]; omega
  · rw [← Int32.toInt_inj, ix_toInt (by rw [e, Int.tmod_eq_emod_of_nonneg (by omega)]; omega)]
    rw [e, Int.tmod_eq_emod_of_nonneg (by omega)]; omega
theorem by8_eqN {z c : Nat} (h : z < 256) (hc : c < 128) (q : by8 (ix z) = ix c) : z = c := by
  have e := ix_by8 h
  rw [q] at e
  have e2 : ix c &&& 255 = ix c := by
    clear q e
    revert c
    decide
  exact (ix_eq (i := c) (j := z) (by omega) (by omega) (e2.symm.trans e)).symm
theorem by8_low {c : Nat} (hc : c < 128) : by8 (ix c) = ix c := by
  revert c
  decide
/-- a String's bytes: its chars, each below 256 -/
def zb (zs : List Nat) : List Value := csL ((zs.map ix).map by8)
theorem zb_len (zs : List Nat) : (zb zs).length = zs.length := by simp [zb, csL]
theorem zb_lenI (zs : List Nat) : Nat.toInt32 (zb zs).length = ix zs.length := by rw [zb_len]
theorem zb_get {zs : List Nat} {i : Nat} (h : i < zs.length) : (zb zs)[i]? = some (.int (by8 (ix (zs.getD i 0)))) := by
  simp [zb, csL, h]
theorem zb_set (zs : List Nat) (i z : Nat) : (zb zs).set i (.int (by8 (ix z))) = zb (zs.set i z) := by simp [zb, csL, List.map_set]
theorem zb_rep (n : Nat) : List.replicate n (Value.int 0) = zb (List.replicate n 0) := by
  simp [zb, csL]
  exact Or.inr (by decide)
theorem zb_app (xs ys : List Nat) : zb (xs ++ ys) = zb xs ++ zb ys := by simp [zb, csL]
theorem zb_take (zs : List Nat) (k : Nat) : (zb zs).take k = zb (zs.take k) := by simp [zb, csL, List.map_take]
theorem zb_drop (zs : List Nat) (k : Nat) : (zb zs).drop k = zb (zs.drop k) := by simp [zb, csL, List.map_drop]
theorem zs_lt {zs : List Nat} (hz : ∀ z ∈ zs, z < 256) (i : Nat) : zs.getD i 0 < 256 := by
  rw [List.getD_eq_getElem?_getD]
  cases e : zs[i]? with
  | none => simp
  | some z => exact hz z (List.mem_of_getElem? e)
theorem lt_take {zs : List Nat} (hz : ∀ z ∈ zs, z < 256) (k : Nat) : ∀ z ∈ zs.take k, z < 256 := fun z q => hz z (List.mem_of_mem_take q)
theorem lt_drop {zs : List Nat} (hz : ∀ z ∈ zs, z < 256) (k : Nat) : ∀ z ∈ zs.drop k, z < 256 := fun z q => hz z (List.mem_of_mem_drop q)
/-- no c from k up to j -/
def Nc (c : Nat) (zs : List Nat) (k j : Nat) : Prop := ∀ m, k ≤ m → m < j → ¬ zs.getD m 0 = c
theorem Nc.nil (c : Nat) (zs : List Nat) (k : Nat) : Nc c zs k k := fun m h1 h2 => by omega
theorem Nc.snoc {c : Nat} {zs : List Nat} {k j : Nat} (h : Nc c zs k j) (hj : ¬ zs.getD j 0 = c) : Nc c zs k (j + 1) := fun m h1 h2 => by
  rcases Nat.lt_or_ge m j with q | q
  · exact h m h1 q
  · obtain rfl : m = j := by omega
    exact hj
theorem Nc.cons {c : Nat} {zs : List Nat} {k j : Nat} (h : Nc c zs (k + 1) j) (hk : ¬ zs.getD k 0 = c) : Nc c zs k j := fun m h1 h2 => by
  rcases Nat.eq_or_lt_of_le h1 with q | q
  · exact q ▸ hk
  · exact h m q h2
/-- the chars, but for the first h and the last t each a star -/
def star (h t : Nat) (zs : List Nat) : List Nat := (List.range zs.length).map fun i => if i < h ∨ zs.length ≤ i + t then zs.getD i 0 else 42
theorem star_len (h t : Nat) (zs : List Nat) : (star h t zs).length = zs.length := by simp [star]
theorem star_lt {zs : List Nat} (hz : ∀ z ∈ zs, z < 256) (h t : Nat) : ∀ z ∈ star h t zs, z < 256 := fun z q => by
  obtain ⟨i, -, rfl⟩ := List.mem_map.mp q
  split
  · exact zs_lt hz i
  · decide
theorem star_get {h t : Nat} {zs : List Nat} {i : Nat} (hi : i < zs.length) : (star h t zs)[i]? = some (if i < h ∨ zs.length ≤ i + t then zs.getD i 0 else 42) := by
  simp [star, hi]
theorem take_set {as ss : List Nat} {i z : Nat} (h : as.take i = ss.take i) (hi : i < as.length) (hz : ss[i]? = some z) : (as.set i z).take (i + 1) = ss.take (i + 1) := by
  apply List.ext_getElem?
  intro j
  by_cases hj : j < i
  · rw [List.getElem?_take_of_lt (by omega), List.getElem?_take_of_lt (by omega), List.getElem?_set_ne (by omega)]
    have := congrArg (fun l => l[j]?) h
    simpa [List.getElem?_take_of_lt hj] using this
  · by_cases e : j = i
    · subst e
      rw [List.getElem?_take_of_lt (by omega), List.getElem?_take_of_lt (by omega), List.getElem?_set_self hi, hz]
    · rw [List.getElem?_eq_none (by simp; omega), List.getElem?_eq_none (by simp; omega)]
end Own143
section Own143b
theorem ix_dec {i : Nat} (h : 0 < i) : ix i + Int32.ofInt (-1) = ix (i - 1) := by
  obtain ⟨k, rfl⟩ : ∃ k, i = k + 1 := ⟨i - 1, by omega⟩
  apply Int32.toBitVec_inj.mp
  simp [ix, BitVec.ofNat_add]
  rw [BitVec.add_assoc]
  have : (1#32 + BitVec.ofInt 32 (-1)) = 0#32 := by decide
  first | rw [this]; simp | simp [this]
theorem ix_sub_np {m n : Nat} (h : m ≤ n) (hn : n < 2 ^ 31) : ¬ 0 < ix m - ix n := fun q => by
  rcases Nat.eq_or_lt_of_le h with e | e
  · subst e
    rw [Int32.sub_self] at q
    exact absurd q (by decide)
  · have e1 : ix m - ix n = -ix (n - m) := by
      rw [← Int32.neg_sub, ix_sub h]
    rw [e1, Int32.lt_iff_toInt_lt, Int32.toInt_neg, ix_toInt (by omega)] at q
    have : (0 : Int32).toInt = 0 := rfl
    rw [this, Int.bmod_eq_of_le (by omega) (by omega)] at q
    omega
theorem ushr16 {z : Nat} (h : z < 65536) : Jvm.Free.XT.ushr (ix z) 16 = 0 := by
  unfold Jvm.Free.XT.ushr
  apply Int32.toBitVec_inj.mp
  apply BitVec.eq_of_toNat_eq
  simp [ix]
  omega
theorem cp_end (m : Nat) : (zb (List.replicate m 0)).drop m = [] := by
  apply List.drop_eq_nil_of_le
  rw [zb_len, List.length_replicate]
  exact Nat.le_refl _
/-- zs laid into as, from k on -/
def ins (as : List Nat) (k : Nat) (zs : List Nat) : List Nat := as.take k ++ zs ++ as.drop (k + zs.length)
theorem ins_len {as zs : List Nat} {k : Nat} (h : k + zs.length ≤ as.length) : (ins as k zs).length = as.length := by
  simp [ins]; omega
theorem ins_take {as zs : List Nat} {k : Nat} (h : k + zs.length ≤ as.length) : (ins as k zs).take (k + zs.length) = as.take k ++ zs := by
  unfold ins
  rw [List.take_append_of_le_length (by simp; omega), List.take_of_length_le (by simp; omega)]
theorem take_drop_all (zs : List Nat) (a : Nat) : (zs.drop a).take (zs.length - a) = zs.drop a := List.take_of_length_le (by simp)
theorem eq_star {as zs : List Nat} {h t : Nat} (h1 : as.length = zs.length) (h2 : as.take zs.length = (star h t zs).take zs.length) : as = star h t zs := by
  rw [List.take_of_length_le (by omega), List.take_of_length_le (by rw [star_len]; omega)] at h2
  exact h2
/-- what email says -/
def emF (zs : List Nat) : List Nat :=
  let a := zs.findIdx (· == 64)
  let dom := zs.drop (a + 1)
  let d := dom.findIdx (· == 46)
  if 0 < a ∧ a + 1 < zs.length ∧ 64 ∉ dom then star 1 0 (zs.take a) ++ [64] ++ star 1 1 (dom.take d) ++ dom.drop d else star 0 0 zs
end Own143b
section Own143c
theorem fi_of {c j : Nat} {zs : List Nat} (h1 : Nc c zs 0 j) (h2 : j < zs.length) (h3 : zs.getD j 0 = c) : zs.findIdx (· == c) = j := by
  have e : zs[j] = c := by rw [List.getD_eq_getElem?_getD, List.getElem?_eq_getElem h2] at h3; exact h3
  rw [List.findIdx_eq h2]
  refine ⟨by simp [e], fun k hk => ?_⟩
  have := h1 k (Nat.zero_le _) hk
  rw [List.getD_eq_getElem?_getD, List.getElem?_eq_getElem (by omega)] at this
  simpa using this
theorem not_in {c k : Nat} {zs : List Nat} (h : Nc c zs k zs.length) : c ∉ zs.drop k := fun q => by
  obtain ⟨i, hi, e⟩ := List.getElem_of_mem q
  rw [List.length_drop] at hi
  refine h (k + i) (by omega) (by omega) ?_
  rw [List.getElem_drop] at e
  rw [List.getD_eq_getElem?_getD, List.getElem?_eq_getElem (by omega), e]
  rfl
theorem fi_none {c : Nat} {zs : List Nat} (h : Nc c zs 0 zs.length) : zs.findIdx (· == c) = zs.length := by
  apply List.findIdx_eq_length_of_false
  intro x hx
  have := not_in h
  rw [List.drop_zero] at this
  have hne : x ≠ c := fun e => this (e ▸ hx)
  simpa using hne
theorem emF_none {zs : List Nat} (h : Nc 64 zs 0 zs.length) : emF zs = star 0 0 zs := by
  unfold emF
  rw [fi_none h]
  simp only []
  rw [if_neg (by omega)]
theorem emF_zero {zs : List Nat} {j : Nat} (h1 : Nc 64 zs 0 j) (h2 : j < zs.length) (h3 : zs.getD j 0 = 64) (h0 : ¬ 0 < j) : emF zs = star 0 0 zs := by
  unfold emF
  rw [fi_of h1 h2 h3]
  simp only []
  rw [if_neg (fun q => h0 q.1)]
theorem emF_end {zs : List Nat} {j : Nat} (h1 : Nc 64 zs 0 j) (h2 : j < zs.length) (h3 : zs.getD j 0 = 64) (h0 : ¬ j < zs.length - 1) : emF zs = star 0 0 zs := by
  unfold emF
  rw [fi_of h1 h2 h3]
  simp only []
  rw [if_neg (fun q => by have := q.2.1; omega)]
theorem emF_ne {zs : List Nat} {j l : Nat} (h1 : Nc 64 zs 0 j) (h2 : j < zs.length) (h3 : zs.getD j 0 = 64) (h4 : l < zs.length) (h5 : Nc 64 zs (l + 1) zs.length) (h6 : zs.getD l 0 = 64) (hn : ¬ j = l) : emF zs = star 0 0 zs := by
  unfold emF
  rw [fi_of h1 h2 h3]
  simp only []
  refine if_neg (fun q => q.2.2 ?_)
  have hlt : j < l := by
    rcases Nat.lt_or_ge l j with g | g
    · exact absurd h6 (h1 l (Nat.zero_le _) g)
    · omega
  have e : zs[l] = 64 := by rw [List.getD_eq_getElem?_getD, List.getElem?_eq_getElem h4] at h6; exact h6
  have : (zs.drop (j + 1))[l - (j + 1)]'(by rw [List.length_drop]; omega) = 64 := by
    rw [List.getElem_drop]
    rw [← e]
    congr 1
    omega
  exact this ▸ List.getElem_mem _
theorem emF_B {zs : List Nat} {j d : Nat} (h0 : 0 < j) (h1 : Nc 64 zs 0 j) (h2 : j < zs.length) (h3 : zs.getD j 0 = 64) (h4 : j < zs.length - 1) (h5 : Nc 64 zs (j + 1) zs.length) (hd : (zs.drop (j + 1)).findIdx (· == 46) = d) : emF zs = star 1 0 (zs.take j) ++ [64] ++ star 1 1 ((zs.drop (j + 1)).take d) ++ (zs.drop (j + 1)).drop d := by
  unfold emF
  rw [fi_of h1 h2 h3]
  simp only []
  rw [if_pos ⟨h0, by omega, not_in h5⟩, hd]
theorem emF_Bn {zs : List Nat} {j : Nat} (h0 : 0 < j) (h1 : Nc 64 zs 0 j) (h2 : j < zs.length) (h3 : zs.getD j 0 = 64) (h4 : j < zs.length - 1) (h5 : Nc 64 zs (j + 1) zs.length) (hd : Nc 46 (zs.drop (j + 1)) 0 (zs.drop (j + 1)).length) : emF zs = star 1 0 (zs.take j) ++ [64] ++ star 1 1 (zs.drop (j + 1)) ++ [] := by
  rw [emF_B h0 h1 h2 h3 h4 h5 (fi_none hd), List.take_length, List.drop_length]
theorem emF_B0 {zs : List Nat} {j : Nat} (h0 : 0 < j) (h1 : Nc 64 zs 0 j) (h2 : j < zs.length) (h3 : zs.getD j 0 = 64) (h4 : j < zs.length - 1) (h5 : Nc 64 zs (j + 1) zs.length) (q1 : 0 < (zs.drop (j + 1)).length) (q3 : (zs.drop (j + 1)).getD 0 0 = 46) : emF zs = star 1 0 (zs.take j) ++ [64] ++ star 1 1 [] ++ zs.drop (j + 1) := by
  rw [emF_B h0 h1 h2 h3 h4 h5 (fi_of (Nc.nil _ _ _) q1 q3), List.take_zero, List.drop_zero]
theorem join4 {x1 x2 x3 x4 x5 l1 l2 l3 l4 : List Nat} (f2 : x2 = x1 ++ l1) (f3 : x3 = x2 ++ l2) (f4 : x4 = x3 ++ l3) (f5 : x5 = x4 ++ l4) (h1 : x1 = []) : x5 = l1 ++ l2 ++ l3 ++ l4 := by
  subst h1 f2 f3 f4 f5
  simp
end Own143c
section Own143d
theorem ixB {m : Nat} (h : m < 256) : ¬ ix m < 0 ∧ ¬ 255 < ix m := ⟨ix_nn (by omega), fun q => by have := (ix_lt (i := 255) (j := m) (by omega) (by omega)).mp q; omega⟩
/-- is there an at-sign at place i of the first n? -/
def aN (n i m : Nat) : Nat := if i < n ∧ m = 64 then 1 else 0
theorem aN_1 {n i m : Nat} (h1 : i < n) (h2 : m = 64) : aN n i m = 1 := if_pos ⟨h1, h2⟩
theorem aN_0 {n i m : Nat} (h : ¬ i < n) : aN n i m = 0 := if_neg fun q => h q.1
theorem aN_00 {n i m : Nat} (h : ¬ m = 64) : aN n i m = 0 := if_neg fun q => h q.2
theorem aN_le (n i m : Nat) : aN n i m ≤ 1 := by unfold aN; split <;> omega
theorem aN_pos {n i m : Nat} (h : ¬ aN n i m = 0) : i < n := by
  unfold aN at h
  split at h
  · rename_i q; exact q.1
  · exact absurd rfl h
def pick (b k : Nat) (z : Int32) : Int32 := if b = 1 then ix k else z
theorem pick_1 {b k : Nat} {z : Int32} (h : b = 1) : pick b k z = ix k := if_pos h
theorem pick_0 {b k : Nat} {z : Int32} (h : ¬ b = 1) : pick b k z = z := if_neg h
def cnt (n m0 m1 m2 m3 m4 : Nat) : Nat := aN n 0 m0 + aN n 1 m1 + aN n 2 m2 + aN n 3 m3 + aN n 4 m4
theorem cnt_pos {n m0 m1 m2 m3 m4 : Nat} (h : aN n 0 m0 + aN n 1 m1 + aN n 2 m2 + aN n 3 m3 + aN n 4 m4 = 1) : 0 < n := by
  rcases Nat.eq_zero_or_pos n with e | e
  · subst e
    simp [aN] at h
  · exact e
def atF (n m0 m1 m2 m3 m4 : Nat) : Int32 := pick (aN n 0 m0) 0 (pick (aN n 1 m1) 1 (pick (aN n 2 m2) 2 (pick (aN n 3 m3) 3 (pick (aN n 4 m4) 4 (-1)))))
def exF (a d i m : Nat) : Nat := if i < a then (if i = 0 then m else 42) else if i = a then 64 else if i < d then (if i = a + 1 ∨ i + 1 = d then m else 42) else m
/-- the first dot behind a, or z -/
def dk (n a k m z : Nat) : Nat := if k < n ∧ a < k ∧ m = 46 then k else z
theorem dk_1 {n a k m z : Nat} (h1 : k < n) (h2 : a < k) (h3 : m = 46) : dk n a k m z = k := if_pos ⟨h1, h2, h3⟩
theorem dk_0 {n a k m z : Nat} (h : ¬ (k < n ∧ a < k ∧ m = 46)) : dk n a k m z = z := if_neg h
def dF (n a m1 m2 m3 m4 : Nat) : Nat := dk n a 1 m1 (dk n a 2 m2 (dk n a 3 m3 (dk n a 4 m4 n)))
theorem star00 {zs : List Nat} {i : Nat} (h : i < zs.length) : (star 0 0 zs).getD i 0 = 42 := by
  rw [List.getD_eq_getElem?_getD, star_get h, if_neg (by omega)]
  rfl
theorem getD5 {m0 m1 m2 m3 m4 n i : Nat} (h : i < n) : ([m0, m1, m2, m3, m4].take n).getD i 0 = [m0, m1, m2, m3, m4].getD i 0 := by
  rw [List.getD_eq_getElem?_getD, List.getElem?_take_of_lt h, ← List.getD_eq_getElem?_getD]
theorem len5 {m0 m1 m2 m3 m4 n : Nat} (h : n ≤ 5) : ([m0, m1, m2, m3, m4].take n).length = n := by simp; omega
/-- one at-sign, inside: where it is -/
theorem one_at {n m0 m1 m2 m3 m4 : Nat} (hn : n ≤ 5) (hc : aN n 0 m0 + aN n 1 m1 + aN n 2 m2 + aN n 3 m3 + aN n 4 m4 = 1) (h1 : 0 < atF n m0 m1 m2 m3 m4) : ∃ a, atF n m0 m1 m2 m3 m4 = ix a ∧ 0 < a ∧ a < n ∧ a < 5 ∧ [m0, m1, m2, m3, m4].getD a 0 = 64 ∧ ∀ m, m < n → ¬ m = a → ¬ [m0, m1, m2, m3, m4].getD m 0 = 64 := by
  have key : ∀ i m, i < n → (aN n i m = 0 ↔ ¬ m = 64) := fun i m hi => by unfold aN; split <;> simp_all
  have k1 : ∀ i m, aN n i m = 1 → i < n ∧ m = 64 := fun i m h => by unfold aN at h; split at h <;> simp_all
  have l0 := aN_le n 0 m0; have l1 := aN_le n 1 m1; have l2 := aN_le n 2 m2; have l3 := aN_le n 3 m3; have l4 := aN_le n 4 m4
  have fin : ∀ a, a < 5 → 0 < a → (∀ m, m < 5 → ¬ m = a → aN n m ([m0, m1, m2, m3, m4].getD m 0) = 0) → aN n a ([m0, m1, m2, m3, m4].getD a 0) = 1 → atF n m0 m1 m2 m3 m4 = ix a → ∃ a, atF n m0 m1 m2 m3 m4 = ix a ∧ 0 < a ∧ a < n ∧ a < 5 ∧ [m0, m1, m2, m3, m4].getD a 0 = 64 ∧ ∀ m, m < n → ¬ m = a → ¬ [m0, m1, m2, m3, m4].getD m 0 = 64 := fun a h5 h0 ho hA e => ⟨a, e, h0, (k1 _ _ hA).1, h5, (k1 _ _ hA).2, fun m hm hne => (key m _ hm).mp (ho m (by omega) hne)⟩
  by_cases b0 : aN n 0 m0 = 1
  · unfold atF at h1
    rw [pick_1 b0] at h1
    exact absurd h1 (by decide)
  have e0 : atF n m0 m1 m2 m3 m4 = pick (aN n 1 m1) 1 (pick (aN n 2 m2) 2 (pick (aN n 3 m3) 3 (pick (aN n 4 m4) 4 (-1)))) := pick_0 b0
  by_cases b1 : aN n 1 m1 = 1
  · refine fin 1 (by decide) (by decide) (fun m hm hne => ?_) b1 (by rw [e0, pick_1 b1])
    have : m = 0 ∨ m = 2 ∨ m = 3 ∨ m = 4 := by omega
    rcases this with rfl | rfl | rfl | rfl <;> simp only [List.getD_cons_zero, List.getD_cons_succ] <;> omega
  rw [pick_0 b1] at e0
  by_cases b2 : aN n 2 m2 = 1
  · refine fin 2 (by decide) (by decide) (fun m hm hne => ?_) b2 (by rw [e0, pick_1 b2])
    have : m = 0 ∨ m = 1 ∨ m = 3 ∨ m = 4 := by omega
    rcases this with rfl | rfl | rfl | rfl <;> simp only [List.getD_cons_zero, List.getD_cons_succ] <;> omega
  rw [pick_0 b2] at e0
  by_cases b3 : aN n 3 m3 = 1
  · refine fin 3 (by decide) (by decide) (fun m hm hne => ?_) b3 (by rw [e0, pick_1 b3])
    have : m = 0 ∨ m = 1 ∨ m = 2 ∨ m = 4 := by omega
    rcases this with rfl | rfl | rfl | rfl <;> simp only [List.getD_cons_zero, List.getD_cons_succ] <;> omega
  rw [pick_0 b3] at e0
  by_cases b4 : aN n 4 m4 = 1
  · refine fin 4 (by decide) (by decide) (fun m hm hne => ?_) b4 (by rw [e0, pick_1 b4])
    have : m = 0 ∨ m = 1 ∨ m = 2 ∨ m = 3 := by omega
    rcases this with rfl | rfl | rfl | rfl <;> simp only [List.getD_cons_zero, List.getD_cons_succ] <;> omega
  omega
end Own143d
section Own143e
/-- what the text says at each place -/
def HX (n a d m0 m1 m2 m3 m4 : Nat) (zs : List Nat) : Prop := d ≤ 5 ∧ ∀ i, i < n → (emF zs).getD i 0 = exF a d i ([m0, m1, m2, m3, m4].getD i 0)
theorem HX.at {n a d m0 m1 m2 m3 m4 : Nat} {zs : List Nat} (h : HX n a d m0 m1 m2 m3 m4 zs) (i m : Nat) (e : [m0, m1, m2, m3, m4].getD i 0 = m) : i < n → (emF zs).getD i 0 = exF a d i m := fun q => e ▸ h.2 i q
theorem emF_len {zs : List Nat} (hz : ∀ z ∈ zs, z < 256) : (emF zs).length = zs.length := by
  unfold emF
  simp only []
  split
  · rename_i q
    have h1 : (zs.drop (zs.findIdx (· == 64) + 1)).findIdx (· == 46) ≤ (zs.drop (zs.findIdx (· == 64) + 1)).length := List.findIdx_le_length
    rw [List.length_drop] at h1
    simp only [List.length_append, star_len, List.length_take, List.length_drop, List.length_cons, List.length_nil]
    omega
  · rw [star_len]
theorem emF_lt {zs : List Nat} (hz : ∀ z ∈ zs, z < 256) : ∀ z ∈ emF zs, z < 256 := by
  unfold emF
  simp only []
  split
  · intro z q
    rcases List.mem_append.mp q with q | q
    · rcases List.mem_append.mp q with q | q
      · rcases List.mem_append.mp q with q | q
        · exact star_lt (lt_take hz _) 1 0 z q
        · cases List.mem_singleton.mp q
          decide
      · exact star_lt (lt_take (lt_drop hz _) _) 1 1 z q
    · exact lt_drop (lt_drop hz _) _ z q
  · exact star_lt hz 0 0
theorem drop_getD (zs : List Nat) (k i : Nat) : (zs.drop k).getD i 0 = zs.getD (k + i) 0 := by
  simp [List.getD_eq_getElem?_getD, List.getElem?_drop]
theorem take_getD {zs : List Nat} {k i : Nat} (h : i < k) : (zs.take k).getD i 0 = zs.getD i 0 := by
  simp [List.getD_eq_getElem?_getD, List.getElem?_take_of_lt h]
theorem star_getD {h t : Nat} {zs : List Nat} {i : Nat} (hi : i < zs.length) : (star h t zs).getD i 0 = if i < h ∨ zs.length ≤ i + t then zs.getD i 0 else 42 := by
  rw [List.getD_eq_getElem?_getD, star_get hi]
  rfl
theorem app_l {xs ys : List Nat} {i : Nat} (h : i < xs.length) : (xs ++ ys).getD i 0 = xs.getD i 0 := by
  simp [List.getD_eq_getElem?_getD, List.getElem?_append_left h]
theorem app_r {xs ys : List Nat} {i : Nat} (h : xs.length ≤ i) : (xs ++ ys).getD i 0 = ys.getD (i - xs.length) 0 := by
  simp [List.getD_eq_getElem?_getD, List.getElem?_append_right h]
theorem fin_no {n m0 m1 m2 m3 m4 : Nat} {zs : List Nat} {z : Int32} (hn : n ≤ 5) (hzs : zs = [m0, m1, m2, m3, m4].take n) (hat : z = atF n m0 m1 m2 m3 m4) (hno : ¬ (aN n 0 m0 + aN n 1 m1 + aN n 2 m2 + aN n 3 m3 + aN n 4 m4 = 1 ∧ 0 < z ∧ z < ix (n - 1))) : ∀ i, i < n → (emF zs).getD i 0 = 42 := by
  intro i hi
  have hl : zs.length = n := by rw [hzs]; exact len5 hn
  unfold emF
  simp only []
  split
  · rename_i q
    exfalso
    obtain ⟨q0, q1, q2⟩ := q
    have hlt : zs.findIdx (· == 64) < zs.length := by omega
    have hA := List.findIdx_getElem (w := hlt)
    have hB : ∀ m, (h : m < zs.findIdx (· == 64)) → ¬ zs.getD m 0 = 64 := fun m h e => by
      have := List.not_of_lt_findIdx h
      rw [List.getD_eq_getElem?_getD, List.getElem?_eq_getElem (by omega)] at e
      simp_all
    generalize hA0 : zs.findIdx (· == 64) = a at *
    have hA' : zs.getD a 0 = 64 := by
      rw [List.getD_eq_getElem?_getD, List.getElem?_eq_getElem hlt]
      simpa using hA
    have hC : ∀ m, a < m → m < n → ¬ zs.getD m 0 = 64 := fun m h1 h2 e => q2 (by
      rw [List.getD_eq_getElem?_getD, List.getElem?_eq_getElem (by omega)] at e
      have e2 : (zs.drop (a + 1))[m - (a + 1)]'(by rw [List.length_drop]; omega) = 64 := by
        rw [List.getElem_drop]
        rw [← (show zs[m] = 64 from e)]
        congr 1
        omega
      exact e2 ▸ List.getElem_mem _)
    have hD : ∀ m, m < n → zs.getD m 0 = [m0, m1, m2, m3, m4].getD m 0 := fun m h => by rw [hzs]; exact getD5 h
    have h64 : ∀ m, m < n → ¬ m = a → ¬ [m0, m1, m2, m3, m4].getD m 0 = 64 := fun m h1 h2 => by
      rw [← hD m h1]
      rcases Nat.lt_or_gt_of_ne h2 with g | g
      · exact hB m g
      · exact hC m g h1
    have ha : [m0, m1, m2, m3, m4].getD a 0 = 64 := by rw [← hD a (by omega)]; exact hA'
    have hz0 : ∀ m x, [m0, m1, m2, m3, m4].getD m 0 = x → ¬ m = a → aN n m x = 0 := fun m x e h => by
      by_cases g : m < n
      · exact aN_00 (by rw [← e]; exact h64 m g h)
      · exact aN_0 g
    have hone : ∀ x, [m0, m1, m2, m3, m4].getD a 0 = x → aN n a x = 1 := fun x e => aN_1 (by omega) (by rw [← e]; exact ha)
    have hlt2 : ix a < ix (n - 1) := (ix_lt (i := a) (j := n - 1) (by omega) (by omega)).mpr (by omega)
    have hpos : 0 < ix a := (ix_lt (i := 0) (j := a) (by omega) (by omega)).mpr q0
    have : a = 1 ∨ a = 2 ∨ a = 3 := by omega
    rcases this with rfl | rfl | rfl
    · have e0 := hz0 0 m0 rfl (by decide); have e2 := hz0 2 m2 rfl (by decide); have e3 := hz0 3 m3 rfl (by decide); have e4 := hz0 4 m4 rfl (by decide); have e1 := hone m1 rfl
      have e : z = ix 1 := by rw [hat]; unfold atF; rw [pick_0 (by omega), pick_1 e1]
      exact hno ⟨by omega, by rw [e]; exact hpos, by rw [e]; exact hlt2⟩
    · have e0 := hz0 0 m0 rfl (by decide); have e1 := hz0 1 m1 rfl (by decide); have e3 := hz0 3 m3 rfl (by decide); have e4 := hz0 4 m4 rfl (by decide); have e2 := hone m2 rfl
      have e : z = ix 2 := by rw [hat]; unfold atF; rw [pick_0 (by omega), pick_0 (by omega), pick_1 e2]
      exact hno ⟨by omega, by rw [e]; exact hpos, by rw [e]; exact hlt2⟩
    · have e0 := hz0 0 m0 rfl (by decide); have e1 := hz0 1 m1 rfl (by decide); have e2 := hz0 2 m2 rfl (by decide); have e4 := hz0 4 m4 rfl (by decide); have e3 := hone m3 rfl
      have e : z = ix 3 := by rw [hat]; unfold atF; rw [pick_0 (by omega), pick_0 (by omega), pick_0 (by omega), pick_1 e3]
      exact hno ⟨by omega, by rw [e]; exact hpos, by rw [e]; exact hlt2⟩
  · exact star00 (by omega)
theorem dk_facts {n a m0 m1 m2 m3 m4 D : Nat} (hn : n ≤ 5) (ha0 : 0 < a) (hb : a < n - 1) (hD : dk n a 1 m1 (dk n a 2 m2 (dk n a 3 m3 (dk n a 4 m4 n))) = D) : a + 1 ≤ D ∧ D ≤ n ∧ (∀ m, a < m → m < D → ¬ [m0, m1, m2, m3, m4].getD m 0 = 46) ∧ (D < n → [m0, m1, m2, m3, m4].getD D 0 = 46) := by
  unfold dk at hD
  have g1 : [m0, m1, m2, m3, m4].getD 1 0 = m1 := rfl
  have g2 : [m0, m1, m2, m3, m4].getD 2 0 = m2 := rfl
  have g3 : [m0, m1, m2, m3, m4].getD 3 0 = m3 := rfl
  have g4 : [m0, m1, m2, m3, m4].getD 4 0 = m4 := rfl
  have fin : ∀ E, E ≤ n → a + 1 ≤ E → (∀ m, a < m → m < E → m = 1 ∧ ¬ m1 = 46 ∨ m = 2 ∧ ¬ m2 = 46 ∨ m = 3 ∧ ¬ m3 = 46 ∨ m = 4 ∧ ¬ m4 = 46) → (E < n → E = 1 ∧ m1 = 46 ∨ E = 2 ∧ m2 = 46 ∨ E = 3 ∧ m3 = 46 ∨ E = 4 ∧ m4 = 46) → a + 1 ≤ E ∧ E ≤ n ∧ (∀ m, a < m → m < E → ¬ [m0, m1, m2, m3, m4].getD m 0 = 46) ∧ (E < n → [m0, m1, m2, m3, m4].getD E 0 = 46) := fun E h1 h2 h3 h4 => by
    refine ⟨h2, h1, fun m q1 q2 => ?_, fun q => ?_⟩
    · rcases h3 m q1 q2 with ⟨rfl, q⟩ | ⟨rfl, q⟩ | ⟨rfl, q⟩ | ⟨rfl, q⟩
      · exact q
      · exact q
      · exact q
      · exact q
    · rcases h4 q with ⟨rfl, q'⟩ | ⟨rfl, q'⟩ | ⟨rfl, q'⟩ | ⟨rfl, q'⟩
      · exact q'
      · exact q'
      · exact q'
      · exact q'
  subst hD
  refine fin _ ?_ ?_ (fun m q1 q2 => ?_) (fun q => ?_)
  · (repeat' split) <;> omega
  · (repeat' split) <;> omega
  · revert q2
    (repeat' split) <;> intro q2 <;> omega
  · revert q
    (repeat' split) <;> intro q <;> omega
theorem fin_one {n m0 m1 m2 m3 m4 a : Nat} {zs : List Nat} (hn : n ≤ 5) (hzs : zs = [m0, m1, m2, m3, m4].take n) (ha0 : 0 < a) (hb : a < n - 1) (hg : [m0, m1, m2, m3, m4].getD a 0 = 64) (ho : ∀ m, m < n → ¬ m = a → ¬ [m0, m1, m2, m3, m4].getD m 0 = 64) : HX n a (dk n a 1 m1 (dk n a 2 m2 (dk n a 3 m3 (dk n a 4 m4 n)))) m0 m1 m2 m3 m4 zs := by
  have hl : zs.length = n := by rw [hzs]; exact len5 hn
  have hG : ∀ m, m < n → zs.getD m 0 = [m0, m1, m2, m3, m4].getD m 0 := fun m h => by rw [hzs]; exact getD5 h
  obtain ⟨D, hD⟩ : ∃ D, dk n a 1 m1 (dk n a 2 m2 (dk n a 3 m3 (dk n a 4 m4 n))) = D := ⟨_, rfl⟩
  obtain ⟨d1, d2, d3, d4⟩ := dk_facts (m0 := m0) hn ha0 hb hD
  rw [hD]
  clear hD
  have ld : (zs.drop (a + 1)).length = n - (a + 1) := by rw [List.length_drop, hl]
  have hd : (zs.drop (a + 1)).findIdx (· == 46) = D - (a + 1) := by
    have nc : Nc 46 (zs.drop (a + 1)) 0 (D - (a + 1)) := fun m _ h2 => by
      rw [drop_getD, hG _ (by omega)]
      exact d3 _ (by omega) (by omega)
    rcases Nat.lt_or_ge D n with g | g
    · refine fi_of nc (by omega) ?_
      rw [drop_getD, hG _ (by omega), show a + 1 + (D - (a + 1)) = D by omega]
      exact d4 g
    · have e : D - (a + 1) = (zs.drop (a + 1)).length := by omega
      rw [e] at nc ⊢
      exact fi_none nc
  have e := emF_B ha0 (fun m _ h2 => by rw [hG m (by omega)]; exact ho m (by omega) (by omega)) (by omega) (by rw [hG a (by omega)]; exact hg) (by omega) (fun m h1 h2 => by rw [hG m (by omega)]; exact ho m (by omega) (by omega)) hd
  refine ⟨by omega, fun i hi => ?_⟩
  rw [e]
  have lA : (star 1 0 (zs.take a)).length = a := by rw [star_len, List.length_take]; omega
  have lC : (star 1 1 ((zs.drop (a + 1)).take (D - (a + 1)))).length = D - (a + 1) := by rw [star_len, List.length_take, ld]; omega
  have lT : ((zs.drop (a + 1)).take (D - (a + 1))).length = D - (a + 1) := by rw [List.length_take, ld]; omega
  have lT2 : (zs.take a).length = a := by rw [List.length_take]; omega
  unfold exF
  rcases Nat.lt_or_ge i a with g | g
  · rw [if_pos g, app_l (by simp only [List.length_append, lA]; omega), app_l (by simp only [List.length_append, lA]; omega), app_l (by omega), star_getD (by omega), take_getD g, hG i hi]
    by_cases z : i = 0
    · rw [if_pos z, if_pos (by omega)]
    · rw [if_neg z, if_neg (by omega)]
  · rw [if_neg (by omega)]
    rcases Nat.eq_or_lt_of_le g with g2 | g2
    · subst g2
      rw [if_pos rfl, app_l (by simp only [List.length_append, lA, List.length_cons, List.length_nil]; omega), app_l (by simp only [List.length_append, lA, List.length_cons, List.length_nil]; omega), app_r (by omega), lA, Nat.sub_self]
      rfl
    · rw [if_neg (by omega)]
      have lAB : (star 1 0 (zs.take a) ++ [64]).length = a + 1 := by simp only [List.length_append, lA, List.length_cons, List.length_nil]
      rcases Nat.lt_or_ge i D with g3 | g3
      · rw [if_pos g3, app_l (by rw [List.length_append, lAB, lC]; omega), app_r (by omega), lAB, star_getD (by omega), take_getD (by omega), drop_getD, show a + 1 + (i - (a + 1)) = i by omega, hG i hi, lT]
        by_cases z : i = a + 1 ∨ i + 1 = D
        · rw [if_pos z, if_pos (by omega)]
        · rw [if_neg z, if_neg (by omega)]
      · rw [if_neg (by omega), app_r (by rw [List.length_append, lAB, lC]; omega), List.length_append, lAB, lC, drop_getD, drop_getD, show a + 1 + (D - (a + 1) + (i - (a + 1 + (D - (a + 1))))) = i by omega, hG i hi]
end Own143e

def Ws (W : Wd) : Prop := (∀ d ∈ tables_1, d.before (wA W) (wZ W) = true) ∧ (∃ cs : Int32, Sta (wZ W) (wZ W).heap "java/lang/String" "COMPACT_STRINGS" "Z" (.int cs) ∧ ¬ cs = 0) ∧ (∃ v : Value, Sta (wZ W) (wZ W).heap "jdk/internal/util/Preconditions" "SIOOBE_FORMATTER" "Ljava/util/function/BiFunction;" v ∧ v.isRef = true)
theorem st_compact {W : Wd} (hw : Ws W) : ∃ cs : Int32, Sta (wZ W) (wZ W).heap "java/lang/String" "COMPACT_STRINGS" "Z" (.int cs) ∧ ¬ cs = 0 := hw.2.1
abbrev oStr (r : Bool) (a : Addr) (f0 : Value) (f1 : Value) : En := (a, r, .inl ("java/lang/String", [("java/lang/String", "value", "[B", f0), ("java/lang/String", "coder", "B", f1)]))
abbrev oSB (r : Bool) (a : Addr) (f0 : Value) (f1 : Value) (f2 : Value) : En := (a, r, .inl ("java/lang/StringBuilder", [("java/lang/AbstractStringBuilder", "value", "[B", f0), ("java/lang/AbstractStringBuilder", "coder", "B", f1), ("java/lang/AbstractStringBuilder", "count", "I", f2)]))
theorem Ws.set {W : Wd} {P : Addr → Prop} (hw : Ws W) : Ws (wSet W P) := hw
theorem w_317 {W : Wd} (hw : Ws W) : Wok W (Jvm.Cond.stringLink "java/lang/StringLatin1" (151 : Nat) "") := hw.1 _ (List.mem_of_getElem? (i := 317) rfl)
theorem tx_0 : (∀ c ∈ ("" : String).toList, c.toNat < 256) ∧ ("" : String).toList.map (fun c => Value.int (Jvm.Lit.byteI c.toNat.toUInt16)) = zb [] := ⟨by decide +kernel, by rfl⟩
theorem ln_0 : 4 * ("" : String).toList.length ≤ 0 := by decide +kernel
theorem w_22 {W : Wd} (hw : Ws W) : Wok W (Jvm.Cond.stringLink "java/lang/String" (7 : Nat) "") := hw.1 _ (List.mem_of_getElem? (i := 22) rfl)
theorem w_316 {W : Wd} (hw : Ws W) : Wok W (Jvm.Cond.stringLink "com/example/polje/polje/Obfuscators" (42 : Nat) "@") := hw.1 _ (List.mem_of_getElem? (i := 316) rfl)
theorem tx_1 : (∀ c ∈ ("@" : String).toList, c.toNat < 256) ∧ ("@" : String).toList.map (fun c => Value.int (Jvm.Lit.byteI c.toNat.toUInt16)) = zb [64] := ⟨by decide +kernel, by rfl⟩
theorem ln_1 : 4 * ("@" : String).toList.length ≤ 4 := by decide +kernel
theorem w_285 {W : Wd} (hw : Ws W) : Wok W (Jvm.Cond.stringLink "com/example/polje/polje/Obfuscators" (33 : Nat) "") := hw.1 _ (List.mem_of_getElem? (i := 285) rfl)
theorem ew_1 {W : Wd} (hw : Ws W) : EW (wZ W) (wA W) consts_1 := (EW.cons (w_285 hw) tx_0.1 (EW.cons (w_316 hw) tx_1.1 (EW.cons (w_22 hw) tx_0.1 (EW.cons (w_317 hw) tx_0.1 EW.nil))))
theorem w_11 {W : Wd} (hw : Ws W) : Wok W (Jvm.Cond.initialized "java/lang/String") := hw.1 _ (List.mem_of_getElem? (i := 11) rfl)
theorem w_10 {W : Wd} (hw : Ws W) : Wok W (Jvm.Cond.instantiable "java/lang/String" (4 : Nat)) := hw.1 _ (List.mem_of_getElem? (i := 10) rfl)
theorem w_23 {W : Wd} (hw : Ws W) : Wok W (Jvm.Cond.arrayClass Jvm.ClassFile.FieldType.byte) := hw.1 _ (List.mem_of_getElem? (i := 23) rfl)
theorem w_24 {W : Wd} (hw : Ws W) : Wok W (Jvm.Cond.laysFinal "java/lang/String" "java/lang/String" "value" "[B") := hw.1 _ (List.mem_of_getElem? (i := 24) rfl)
theorem w_25 {W : Wd} (hw : Ws W) : Wok W (Jvm.Cond.laysFinal "java/lang/String" "java/lang/String" "coder" "B") := hw.1 _ (List.mem_of_getElem? (i := 25) rfl)
theorem w_26 {W : Wd} (hw : Ws W) : Wok W (Jvm.Cond.soleField "java/lang/String" "value") := hw.1 _ (List.mem_of_getElem? (i := 26) rfl)
theorem w_27 {W : Wd} (hw : Ws W) : Wok W (Jvm.Cond.soleField "java/lang/String" "coder") := hw.1 _ (List.mem_of_getElem? (i := 27) rfl)
theorem sa_1 {W : Wd} (hw : Ws W) : ∀ a ∈ Bundle.stringAtoms, Wok W a := by
  intro a ha
  simp only [Bundle.stringAtoms, Bundle.sN, List.mem_cons, List.not_mem_nil, or_false] at ha
  rcases ha with rfl | rfl | rfl | rfl | rfl | rfl | rfl
  · exact (w_11 hw)
  · exact (w_10 hw)
  · exact (w_23 hw)
  · exact (w_24 hw)
  · exact (w_25 hw)
  · exact (w_26 hw)
  · exact (w_27 hw)
theorem d_jdk_42_152_0 : Dc jdk_42_method_152_code 0 (.getstatic 38) 3 3 := ⟨by decide +kernel, rfl⟩
theorem w_52 {W : Wd} (hw : Ws W) : Wok W (Jvm.Cond.fieldLink "java/lang/String" (38 : Nat) "java/lang/String" "COMPACT_STRINGS" "Z") := hw.1 _ (List.mem_of_getElem? (i := 52) rfl)
theorem d_jdk_42_152_3 : Bj jdk_42_method_152_code 3 (.ifCond .eq 10) 10 6 13 := ⟨by decide +kernel, rfl, by decide, rfl⟩
theorem d_jdk_42_152_6 : Dc jdk_42_method_152_code 6 (.aload_n 0) 1 7 := ⟨by decide +kernel, rfl⟩
theorem d_jdk_42_152_7 : Dc jdk_42_method_152_code 7 (.getfield 15) 3 10 := ⟨by decide +kernel, rfl⟩
theorem w_29 {W : Wd} (hw : Ws W) : Wok W (Jvm.Cond.fieldLink "java/lang/String" (15 : Nat) "java/lang/String" "coder" "B") := hw.1 _ (List.mem_of_getElem? (i := 29) rfl)
theorem d_jdk_42_152_10 : Bj jdk_42_method_152_code 10 (.goto 4) 4 13 14 := ⟨by decide +kernel, rfl, by decide, rfl⟩
theorem d_jdk_42_152_14 : Dc jdk_42_method_152_code 14 (.ireturn) 1 15 := ⟨by decide +kernel, rfl⟩
def M_cod : Mt := (⟨"java/lang/String", "coder", "()B"⟩, jdk_42_method_152_code, 1, some .byte, ⟨0, 0, 0, 0⟩)
theorem nm_M_cod : mN M_cod = ⟨"java/lang/String", "coder", "()B"⟩ := by delta mN M_cod; rfl
theorem pf_java_lang_String : plainName "java/lang/String" = true := by first | (simp [plainName, overriddenIn]; done) | decide +kernel
set_option maxRecDepth 65536 in
set_option maxHeartbeats 40000000 in
theorem rm_cod {W : Wd} (hw : Ws W) (s : Addr) (b : Addr) (rs : Bool) (F : List En) : Ct W M_cod [.ref s] ((oStr rs s (.ref b) (.int 0)) :: F) (fun v H' => v = some (.int 0) ∧ H' = ((oStr rs s (.ref b) (.int 0)) :: F)) := by
  refine Ct.intro (L0 := [.val (.ref s)]) (plainFor_of_name pf_java_lang_String) rfl (fun K => ?_)
  obtain ⟨cs1, Fcs1, ncs1⟩ := st_compact hw
  refine Wp.getS nm_M_cod (host := "") (Or.inl (w_52 hw)) Via.refl Fcs1 d_jdk_42_152_0 ?_
  refine Wp.ifF (feq ncs1).1 d_jdk_42_152_3 ?_
  refine Wp.aloadN rfl rfl d_jdk_42_152_6 ?_
  refine Wp.getF nm_M_cod (host := "") (Or.inl (w_29 hw)) Via.refl 0 1 rfl rfl d_jdk_42_152_7 ?_
  refine Wp.goto d_jdk_42_152_10 ?_
  refine Wp.iretN (z := 0) (by simp) rfl (by decide) d_jdk_42_152_14 (by decide) (by decide) ?_
  exact ⟨rfl, rfl⟩
theorem d_jdk_42_154_0 : Dc jdk_42_method_154_code 0 (.getstatic 38) 3 3 := ⟨by decide +kernel, rfl⟩
theorem d_jdk_42_154_3 : Bj jdk_42_method_154_code 3 (.ifCond .eq 14) 14 6 17 := ⟨by decide +kernel, rfl, by decide, rfl⟩
theorem d_jdk_42_154_6 : Dc jdk_42_method_154_code 6 (.aload_n 0) 1 7 := ⟨by decide +kernel, rfl⟩
theorem d_jdk_42_154_7 : Dc jdk_42_method_154_code 7 (.getfield 15) 3 10 := ⟨by decide +kernel, rfl⟩
theorem d_jdk_42_154_10 : Bj jdk_42_method_154_code 10 (.ifCond .ne 7) 7 13 17 := ⟨by decide +kernel, rfl, by decide, rfl⟩
theorem d_jdk_42_154_13 : Dc jdk_42_method_154_code 13 (.iconst 1) 1 14 := ⟨by decide +kernel, rfl⟩
theorem lc_1 : Int32.ofInt 1 = 1 := by decide
theorem d_jdk_42_154_14 : Bj jdk_42_method_154_code 14 (.goto 4) 4 17 18 := ⟨by decide +kernel, rfl, by decide, rfl⟩
theorem d_jdk_42_154_18 : Dc jdk_42_method_154_code 18 (.ireturn) 1 19 := ⟨by decide +kernel, rfl⟩
def M_il1 : Mt := (⟨"java/lang/String", "isLatin1", "()Z"⟩, jdk_42_method_154_code, 1, some .boolean, ⟨0, 0, 0, 0⟩)
theorem nm_M_il1 : mN M_il1 = ⟨"java/lang/String", "isLatin1", "()Z"⟩ := by delta mN M_il1; rfl
set_option maxRecDepth 65536 in
set_option maxHeartbeats 40000000 in
theorem rm_il1 {W : Wd} (hw : Ws W) (s : Addr) (b : Addr) (rs : Bool) (F : List En) : Ct W M_il1 [.ref s] ((oStr rs s (.ref b) (.int 0)) :: F) (fun v H' => v = some (.int 1) ∧ H' = ((oStr rs s (.ref b) (.int 0)) :: F)) := by
  refine Ct.intro (L0 := [.val (.ref s)]) (plainFor_of_name pf_java_lang_String) rfl (fun K => ?_)
  obtain ⟨cs1, Fcs1, ncs1⟩ := st_compact hw
  refine Wp.getS nm_M_il1 (host := "") (Or.inl (w_52 hw)) Via.refl Fcs1 d_jdk_42_154_0 ?_
  refine Wp.ifF (feq ncs1).1 d_jdk_42_154_3 ?_
  refine Wp.aloadN rfl rfl d_jdk_42_154_6 ?_
  refine Wp.getF nm_M_il1 (host := "") (Or.inl (w_29 hw)) Via.refl 0 1 rfl rfl d_jdk_42_154_7 ?_
  refine Wp.ifF (by decide) d_jdk_42_154_10 ?_
  refine Wp.iconst lc_1 d_jdk_42_154_13 ?_
  refine Wp.goto d_jdk_42_154_14 ?_
  refine Wp.iretN (z := 1) (by simp) rfl (by decide) d_jdk_42_154_18 (by decide) (by decide) ?_
  exact ⟨rfl, rfl⟩
theorem d_jdk_42_54_0 : Dc jdk_42_method_54_code 0 (.aload_n 0) 1 1 := ⟨by decide +kernel, rfl⟩
theorem d_jdk_42_54_1 : Dc jdk_42_method_54_code 1 (.getfield 9) 3 4 := ⟨by decide +kernel, rfl⟩
theorem w_28 {W : Wd} (hw : Ws W) : Wok W (Jvm.Cond.fieldLink "java/lang/String" (9 : Nat) "java/lang/String" "value" "[B") := hw.1 _ (List.mem_of_getElem? (i := 28) rfl)
theorem d_jdk_42_54_4 : Dc jdk_42_method_54_code 4 (.arraylength) 1 5 := ⟨by decide +kernel, rfl⟩
theorem d_jdk_42_54_5 : Dc jdk_42_method_54_code 5 (.aload_n 0) 1 6 := ⟨by decide +kernel, rfl⟩
theorem d_jdk_42_54_6 : Dc jdk_42_method_54_code 6 (.invokevirtual 335) 3 9 := ⟨by decide +kernel, rfl⟩
theorem w_61 {W : Wd} (hw : Ws W) : Wok W (Jvm.Cond.selects "java/lang/String" ({ cls := "java/lang/String", name := "coder", desc := "()B" } : Jvm.MethodName) ({ cls := "java/lang/String", name := "coder", desc := "()B" } : Jvm.MethodName)) := hw.1 _ (List.mem_of_getElem? (i := 61) rfl)
theorem w_62 {W : Wd} (hw : Ws W) : Wok W (Jvm.Cond.code ({ cls := "java/lang/String", name := "coder", desc := "()B" } : Jvm.MethodName) jdk_42_method_152_code (1 : Nat) (Option.some Jvm.ClassFile.FieldType.byte)) := hw.1 _ (List.mem_of_getElem? (i := 62) rfl)
theorem pd___B : parseMethodDescriptor "()B" = some ⟨[], some .byte⟩ := by decide +kernel
theorem mk_M_cod {W : Wd} (hw : Ws W) : Mk W M_cod ⟨"java/lang/String", "coder", "()B"⟩ 0 := Mk.of nm_M_cod rfl rfl rfl (w_62 hw) (w_11 hw) (mkLen pd___B rfl) (by decide)
theorem w_58 {W : Wd} (hw : Ws W) : Wok W (Jvm.Cond.methodLink "java/lang/String" (335 : Nat) ({ cls := "java/lang/String", name := "coder", desc := "()B" } : Jvm.MethodName)) := hw.1 _ (List.mem_of_getElem? (i := 58) rfl)
theorem w_59 {W : Wd} (hw : Ws W) : Wok W (Jvm.Cond.declares ({ cls := "java/lang/String", name := "coder", desc := "()B" } : Jvm.MethodName)) := hw.1 _ (List.mem_of_getElem? (i := 59) rfl)
theorem w_60 {W : Wd} (hw : Ws W) : Wok W (Jvm.Cond.instanceMethod ({ cls := "java/lang/String", name := "coder", desc := "()B" } : Jvm.MethodName)) := hw.1 _ (List.mem_of_getElem? (i := 60) rfl)
theorem d_jdk_42_54_9 : Dc jdk_42_method_54_code 9 (.ishr) 1 10 := ⟨by decide +kernel, rfl⟩
theorem d_jdk_42_54_10 : Dc jdk_42_method_54_code 10 (.ireturn) 1 11 := ⟨by decide +kernel, rfl⟩
def M_len : Mt := (⟨"java/lang/String", "length", "()I"⟩, jdk_42_method_54_code, 1, some .int, ⟨1, 0, 0, 13⟩)
theorem nm_M_len : mN M_len = ⟨"java/lang/String", "length", "()I"⟩ := by delta mN M_len; rfl
set_option maxRecDepth 65536 in
set_option maxHeartbeats 40000000 in
theorem rm_len {W : Wd} (hw : Ws W) (s : Addr) (b : Addr) (rs : Bool) (rb : Bool) (xb : Bool) (ob : Bool) (zs : List Nat) (F : List En) : Ct W M_len [.ref s] ((oStr rs s (.ref b) (.int 0)) :: (b, rb, .inr (.byte, xb, ob, zb zs)) :: F) (fun v H' => v = some (.int (ix zs.length)) ∧ H' = ((oStr rs s (.ref b) (.int 0)) :: (b, rb, .inr (.byte, xb, ob, zb zs)) :: F)) := by
  refine Ct.intro (L0 := [.val (.ref s)]) (plainFor_of_name pf_java_lang_String) rfl (fun K => ?_)
  refine Wp.aloadN rfl rfl d_jdk_42_54_0 ?_
  refine Wp.getF nm_M_len (host := "") (Or.inl (w_28 hw)) Via.refl 0 0 rfl rfl d_jdk_42_54_1 ?_
  refine Wp.alen (z := (ix zs.length)) 1 rfl (zb_lenI _) d_jdk_42_54_4 ?_
  refine Wp.aloadN rfl rfl d_jdk_42_54_5 ?_
  refine Wp.callV nm_M_len (fun _ => rm_cod hw.set s b rs _ ) 0 rfl (mk_M_cod hw) (w_58 hw) (w_59 hw) (w_61 hw) (w_60 hw) (S' := "") (Or.inl rfl) (by decide) rfl rfl rfl (Wn := 1) rfl rfl (by decide) d_jdk_42_54_6 ?_
  rintro _ _ ⟨rfl, rfl⟩
  refine Wp.ishr (z := (ix zs.length)) (ix_shr0 _) d_jdk_42_54_9 ?_
  refine Wp.iret rfl d_jdk_42_54_10 (by decide) (by decide) ?_
  exact ⟨rfl, rfl⟩
theorem d_jdk_41_11_0 : Dc jdk_41_method_11_code 0 (.iload_n 0) 1 1 := ⟨by decide +kernel, rfl⟩
theorem d_jdk_41_11_1 : Bj jdk_41_method_11_code 1 (.ifCond .lt 8) 8 4 9 := ⟨by decide +kernel, rfl, by decide, rfl⟩
theorem d_jdk_41_11_4 : Dc jdk_41_method_11_code 4 (.iload_n 0) 1 5 := ⟨by decide +kernel, rfl⟩
theorem d_jdk_41_11_5 : Dc jdk_41_method_11_code 5 (.iload_n 1) 1 6 := ⟨by decide +kernel, rfl⟩
theorem d_jdk_41_11_6 : Bj jdk_41_method_11_code 6 (.if_icmp .lt 10) 10 9 16 := ⟨by decide +kernel, rfl, by decide, rfl⟩
theorem d_jdk_41_11_16 : Dc jdk_41_method_11_code 16 (.iload_n 0) 1 17 := ⟨by decide +kernel, rfl⟩
theorem d_jdk_41_11_17 : Dc jdk_41_method_11_code 17 (.ireturn) 1 18 := ⟨by decide +kernel, rfl⟩
def M_pci : Mt := (⟨"jdk/internal/util/Preconditions", "checkIndex", "(IILjava/util/function/BiFunction;)I"⟩, jdk_41_method_11_code, 3, some .int, ⟨0, 0, 0, 0⟩)
theorem nm_M_pci : mN M_pci = ⟨"jdk/internal/util/Preconditions", "checkIndex", "(IILjava/util/function/BiFunction;)I"⟩ := by delta mN M_pci; rfl
theorem pf_jdk_internal_util_Preconditions : plainName "jdk/internal/util/Preconditions" = true := by first | (simp [plainName, overriddenIn]; done) | decide +kernel
set_option maxRecDepth 65536 in
set_option maxHeartbeats 40000000 in
theorem rm_pci {W : Wd} (hw : Ws W) (i : Nat) (n : Nat) (fm : Value) (F : List En) (hi : i < n) (hn : n < 2 ^ 31) (hr : fm.isRef = true) : Ct W M_pci [.int (ix i), .int (ix n), fm] F (fun v H' => v = some (.int (ix i)) ∧ H' = F) := by
  refine Ct.intro (L0 := [.val (.int (ix i)), .val (.int (ix n)), .val (fm)]) (plainFor_of_name pf_jdk_internal_util_Preconditions) (by simp only [slotsOf, catR hr]; rfl) (fun K => ?_)
  refine Wp.iloadN rfl d_jdk_41_11_0 ?_
  refine Wp.ifF (flt (fun q => (Nat.not_lt_zero _) ((ix_lt (i := i) (j := 0) (by omega) (by omega)).mp q))).1 d_jdk_41_11_1 ?_
  refine Wp.iloadN rfl d_jdk_41_11_4 ?_
  refine Wp.iloadN rfl d_jdk_41_11_5 ?_
  refine Wp.icT (tlt ((ix_lt (i := i) (j := n) (by omega) (by omega)).mpr hi)).1 d_jdk_41_11_6 ?_
  refine Wp.iloadN rfl d_jdk_41_11_16 ?_
  refine Wp.iret rfl d_jdk_41_11_17 (by decide) (by decide) ?_
  exact ⟨rfl, rfl⟩
theorem d_jdk_42_155_0 : Dc jdk_42_method_155_code 0 (.iload_n 0) 1 1 := ⟨by decide +kernel, rfl⟩
theorem d_jdk_42_155_1 : Dc jdk_42_method_155_code 1 (.iload_n 1) 1 2 := ⟨by decide +kernel, rfl⟩
theorem d_jdk_42_155_2 : Dc jdk_42_method_155_code 2 (.getstatic 1053) 3 5 := ⟨by decide +kernel, rfl⟩
theorem w_196 {W : Wd} (hw : Ws W) : Wok W (Jvm.Cond.fieldLink "java/lang/String" (1053 : Nat) "jdk/internal/util/Preconditions" "SIOOBE_FORMATTER" "Ljava/util/function/BiFunction;") := hw.1 _ (List.mem_of_getElem? (i := 196) rfl)
theorem d_jdk_42_155_5 : Dc jdk_42_method_155_code 5 (.invokestatic 1059) 3 8 := ⟨by decide +kernel, rfl⟩
theorem w_199 {W : Wd} (hw : Ws W) : Wok W (Jvm.Cond.code ({ cls := "jdk/internal/util/Preconditions", name := "checkIndex", desc := "(IILjava/util/function/BiFunction;)I" } : Jvm.MethodName) jdk_41_method_11_code (3 : Nat) (Option.some Jvm.ClassFile.FieldType.int)) := hw.1 _ (List.mem_of_getElem? (i := 199) rfl)
theorem w_92 {W : Wd} (hw : Ws W) : Wok W (Jvm.Cond.initialized "jdk/internal/util/Preconditions") := hw.1 _ (List.mem_of_getElem? (i := 92) rfl)
theorem pd__IILjava_util_function_BiFunction__I : parseMethodDescriptor "(IILjava/util/function/BiFunction;)I" = some ⟨[.int, .int, (.object "java/util/function/BiFunction")], some .int⟩ := by decide +kernel
theorem mk_M_pci {W : Wd} (hw : Ws W) : Mk W M_pci ⟨"jdk/internal/util/Preconditions", "checkIndex", "(IILjava/util/function/BiFunction;)I"⟩ 3 := Mk.of nm_M_pci rfl rfl rfl (w_199 hw) (w_92 hw) (mkLen pd__IILjava_util_function_BiFunction__I rfl) (by decide)
theorem w_197 {W : Wd} (hw : Ws W) : Wok W (Jvm.Cond.methodLink "java/lang/String" (1059 : Nat) ({ cls := "jdk/internal/util/Preconditions", name := "checkIndex", desc := "(IILjava/util/function/BiFunction;)I" } : Jvm.MethodName)) := hw.1 _ (List.mem_of_getElem? (i := 197) rfl)
theorem w_198 {W : Wd} (hw : Ws W) : Wok W (Jvm.Cond.static ({ cls := "jdk/internal/util/Preconditions", name := "checkIndex", desc := "(IILjava/util/function/BiFunction;)I" } : Jvm.MethodName)) := hw.1 _ (List.mem_of_getElem? (i := 198) rfl)
theorem d_jdk_42_155_8 : Dc jdk_42_method_155_code 8 (.pop) 1 9 := ⟨by decide +kernel, rfl⟩
theorem d_jdk_42_155_9 : Dc jdk_42_method_155_code 9 (.return_) 1 10 := ⟨by decide +kernel, rfl⟩
def M_sci : Mt := (⟨"java/lang/String", "checkIndex", "(II)V"⟩, jdk_42_method_155_code, 2, none, ⟨1, 0, 0, 14⟩)
theorem nm_M_sci : mN M_sci = ⟨"java/lang/String", "checkIndex", "(II)V"⟩ := by delta mN M_sci; rfl
set_option maxRecDepth 65536 in
set_option maxHeartbeats 40000000 in
theorem rm_sci {W : Wd} (hw : Ws W) (i : Nat) (n : Nat) (F : List En) (hi : i < n) (hn : n < 2 ^ 31) : Ct W M_sci [.int (ix i), .int (ix n)] F (fun v H' => v = none ∧ H' = F) := by
  refine Ct.intro (L0 := [.val (.int (ix i)), .val (.int (ix n))]) (plainFor_of_name pf_java_lang_String) rfl (fun K => ?_)
  refine Wp.iloadN rfl d_jdk_42_155_0 ?_
  refine Wp.iloadN rfl d_jdk_42_155_1 ?_
  obtain ⟨fm1, Ffm1, rfm1⟩ := hw.2.2
  refine Wp.getS nm_M_sci (host := "") (Or.inl (w_196 hw)) Via.refl Ffm1 d_jdk_42_155_2 ?_
  refine Wp.callS nm_M_sci (fun _ => rm_pci hw.set i n fm1 _ (by omega) (by omega) rfm1) (mk_M_pci hw) (w_197 hw) (w_198 hw) rfl rfl (Wn := 0) rfl rfl (by decide) d_jdk_42_155_5 ?_
  rintro _ _ ⟨rfl, eH2⟩
  rw [eH2]
  refine Wp.pop rfl d_jdk_42_155_8 ?_
  refine Wp.ret rfl d_jdk_42_155_9 (by decide) (by decide) ?_
  exact ⟨rfl, rfl⟩
theorem d_jdk_41_12_0 : Dc jdk_41_method_12_code 0 (.iload_n 0) 1 1 := ⟨by decide +kernel, rfl⟩
theorem d_jdk_41_12_1 : Bj jdk_41_method_12_code 1 (.ifCond .lt 13) 13 4 14 := ⟨by decide +kernel, rfl, by decide, rfl⟩
theorem d_jdk_41_12_4 : Dc jdk_41_method_12_code 4 (.iload_n 0) 1 5 := ⟨by decide +kernel, rfl⟩
theorem d_jdk_41_12_5 : Dc jdk_41_method_12_code 5 (.iload_n 1) 1 6 := ⟨by decide +kernel, rfl⟩
theorem d_jdk_41_12_6 : Bj jdk_41_method_12_code 6 (.if_icmp .gt 8) 8 9 14 := ⟨by decide +kernel, rfl, by decide, rfl⟩
theorem d_jdk_41_12_9 : Dc jdk_41_method_12_code 9 (.iload_n 1) 1 10 := ⟨by decide +kernel, rfl⟩
theorem d_jdk_41_12_10 : Dc jdk_41_method_12_code 10 (.iload_n 2) 1 11 := ⟨by decide +kernel, rfl⟩
theorem d_jdk_41_12_11 : Bj jdk_41_method_12_code 11 (.if_icmp .le 11) 11 14 22 := ⟨by decide +kernel, rfl, by decide, rfl⟩
theorem d_jdk_41_12_22 : Dc jdk_41_method_12_code 22 (.iload_n 0) 1 23 := ⟨by decide +kernel, rfl⟩
theorem d_jdk_41_12_23 : Dc jdk_41_method_12_code 23 (.ireturn) 1 24 := ⟨by decide +kernel, rfl⟩
def M_pcf : Mt := (⟨"jdk/internal/util/Preconditions", "checkFromToIndex", "(IIILjava/util/function/BiFunction;)I"⟩, jdk_41_method_12_code, 4, some .int, ⟨0, 0, 0, 0⟩)
theorem nm_M_pcf : mN M_pcf = ⟨"jdk/internal/util/Preconditions", "checkFromToIndex", "(IIILjava/util/function/BiFunction;)I"⟩ := by delta mN M_pcf; rfl
set_option maxRecDepth 65536 in
set_option maxHeartbeats 40000000 in
theorem rm_pcf {W : Wd} (hw : Ws W) (a : Nat) (e : Nat) (n : Nat) (fm : Value) (F : List En) (h1 : a ≤ e) (h2 : e ≤ n) (hn : n < 2 ^ 31) (hr : fm.isRef = true) : Ct W M_pcf [.int (ix a), .int (ix e), .int (ix n), fm] F (fun v H' => v = some (.int (ix a)) ∧ H' = F) := by
  refine Ct.intro (L0 := [.val (.int (ix a)), .val (.int (ix e)), .val (.int (ix n)), .val (fm)]) (plainFor_of_name pf_jdk_internal_util_Preconditions) (by simp only [slotsOf, catR hr]; rfl) (fun K => ?_)
  refine Wp.iloadN rfl d_jdk_41_12_0 ?_
  refine Wp.ifF (flt (fun q => (Nat.not_lt_zero _) ((ix_lt (i := a) (j := 0) (by omega) (by omega)).mp q))).1 d_jdk_41_12_1 ?_
  refine Wp.iloadN rfl d_jdk_41_12_4 ?_
  refine Wp.iloadN rfl d_jdk_41_12_5 ?_
  refine Wp.icF (flt (fun q => by have := (ix_lt (i := e) (j := a) (by omega) (by omega)).mp q; omega)).2.2.1 d_jdk_41_12_6 ?_
  refine Wp.iloadN rfl d_jdk_41_12_9 ?_
  refine Wp.iloadN rfl d_jdk_41_12_10 ?_
  refine Wp.icT (flt (fun q => by have := (ix_lt (i := n) (j := e) (by omega) (by omega)).mp q; omega)).2.2.2 d_jdk_41_12_11 ?_
  refine Wp.iloadN rfl d_jdk_41_12_22 ?_
  refine Wp.iret rfl d_jdk_41_12_23 (by decide) (by decide) ?_
  exact ⟨rfl, rfl⟩
theorem d_jdk_31_18_0 : Dc jdk_31_method_18_code 0 (.iload_n 0) 1 1 := ⟨by decide +kernel, rfl⟩
theorem d_jdk_31_18_1 : Dc jdk_31_method_18_code 1 (.iload_n 1) 1 2 := ⟨by decide +kernel, rfl⟩
theorem d_jdk_31_18_2 : Dc jdk_31_method_18_code 2 (.iload_n 2) 1 3 := ⟨by decide +kernel, rfl⟩
theorem d_jdk_31_18_3 : Dc jdk_31_method_18_code 3 (.aconst_null) 1 4 := ⟨by decide +kernel, rfl⟩
theorem d_jdk_31_18_4 : Dc jdk_31_method_18_code 4 (.invokestatic 111) 3 7 := ⟨by decide +kernel, rfl⟩
theorem w_93 {W : Wd} (hw : Ws W) : Wok W (Jvm.Cond.code ({ cls := "jdk/internal/util/Preconditions", name := "checkFromToIndex", desc := "(IIILjava/util/function/BiFunction;)I" } : Jvm.MethodName) jdk_41_method_12_code (4 : Nat) (Option.some Jvm.ClassFile.FieldType.int)) := hw.1 _ (List.mem_of_getElem? (i := 93) rfl)
theorem pd__IIILjava_util_function_BiFunction__I : parseMethodDescriptor "(IIILjava/util/function/BiFunction;)I" = some ⟨[.int, .int, .int, (.object "java/util/function/BiFunction")], some .int⟩ := by decide +kernel
theorem mk_M_pcf {W : Wd} (hw : Ws W) : Mk W M_pcf ⟨"jdk/internal/util/Preconditions", "checkFromToIndex", "(IIILjava/util/function/BiFunction;)I"⟩ 4 := Mk.of nm_M_pcf rfl rfl rfl (w_93 hw) (w_92 hw) (mkLen pd__IIILjava_util_function_BiFunction__I rfl) (by decide)
theorem w_90 {W : Wd} (hw : Ws W) : Wok W (Jvm.Cond.methodLink "java/util/Objects" (111 : Nat) ({ cls := "jdk/internal/util/Preconditions", name := "checkFromToIndex", desc := "(IIILjava/util/function/BiFunction;)I" } : Jvm.MethodName)) := hw.1 _ (List.mem_of_getElem? (i := 90) rfl)
theorem w_91 {W : Wd} (hw : Ws W) : Wok W (Jvm.Cond.static ({ cls := "jdk/internal/util/Preconditions", name := "checkFromToIndex", desc := "(IIILjava/util/function/BiFunction;)I" } : Jvm.MethodName)) := hw.1 _ (List.mem_of_getElem? (i := 91) rfl)
theorem d_jdk_31_18_7 : Dc jdk_31_method_18_code 7 (.ireturn) 1 8 := ⟨by decide +kernel, rfl⟩
def M_ocf : Mt := (⟨"java/util/Objects", "checkFromToIndex", "(III)I"⟩, jdk_31_method_18_code, 3, some .int, ⟨1, 0, 0, 15⟩)
theorem nm_M_ocf : mN M_ocf = ⟨"java/util/Objects", "checkFromToIndex", "(III)I"⟩ := by delta mN M_ocf; rfl
theorem pf_java_util_Objects : plainName "java/util/Objects" = true := by first | (simp [plainName, overriddenIn]; done) | decide +kernel
set_option maxRecDepth 65536 in
set_option maxHeartbeats 40000000 in
theorem rm_ocf {W : Wd} (hw : Ws W) (a : Nat) (e : Nat) (n : Nat) (F : List En) (h1 : a ≤ e) (h2 : e ≤ n) (hn : n < 2 ^ 31) : Ct W M_ocf [.int (ix a), .int (ix e), .int (ix n)] F (fun v H' => v = some (.int (ix a)) ∧ H' = F) := by
  refine Ct.intro (L0 := [.val (.int (ix a)), .val (.int (ix e)), .val (.int (ix n))]) (plainFor_of_name pf_java_util_Objects) rfl (fun K => ?_)
  refine Wp.iloadN rfl d_jdk_31_18_0 ?_
  refine Wp.iloadN rfl d_jdk_31_18_1 ?_
  refine Wp.iloadN rfl d_jdk_31_18_2 ?_
  refine Wp.aconstNull d_jdk_31_18_3 ?_
  refine Wp.callS nm_M_ocf (fun _ => rm_pcf hw.set a e n .null _ (by omega) (by omega) (by omega) rfl) (mk_M_pcf hw) (w_90 hw) (w_91 hw) rfl rfl (Wn := 0) rfl rfl (by decide) d_jdk_31_18_4 ?_
  rintro _ _ ⟨rfl, eH1⟩
  rw [eH1]
  refine Wp.iret rfl d_jdk_31_18_7 (by decide) (by decide) ?_
  exact ⟨rfl, rfl⟩
theorem d_jdk_42_158_0 : Dc jdk_42_method_158_code 0 (.iload_n 0) 1 1 := ⟨by decide +kernel, rfl⟩
theorem d_jdk_42_158_1 : Dc jdk_42_method_158_code 1 (.iload_n 1) 1 2 := ⟨by decide +kernel, rfl⟩
theorem d_jdk_42_158_2 : Dc jdk_42_method_158_code 2 (.iload_n 2) 1 3 := ⟨by decide +kernel, rfl⟩
theorem d_jdk_42_158_3 : Dc jdk_42_method_158_code 3 (.getstatic 1053) 3 6 := ⟨by decide +kernel, rfl⟩
theorem d_jdk_42_158_6 : Dc jdk_42_method_158_code 6 (.invokestatic 1062) 3 9 := ⟨by decide +kernel, rfl⟩
theorem w_259 {W : Wd} (hw : Ws W) : Wok W (Jvm.Cond.methodLink "java/lang/String" (1062 : Nat) ({ cls := "jdk/internal/util/Preconditions", name := "checkFromToIndex", desc := "(IIILjava/util/function/BiFunction;)I" } : Jvm.MethodName)) := hw.1 _ (List.mem_of_getElem? (i := 259) rfl)
theorem d_jdk_42_158_9 : Dc jdk_42_method_158_code 9 (.pop) 1 10 := ⟨by decide +kernel, rfl⟩
theorem d_jdk_42_158_10 : Dc jdk_42_method_158_code 10 (.return_) 1 11 := ⟨by decide +kernel, rfl⟩
def M_cbe : Mt := (⟨"java/lang/String", "checkBoundsBeginEnd", "(III)V"⟩, jdk_42_method_158_code, 3, none, ⟨1, 0, 0, 15⟩)
theorem nm_M_cbe : mN M_cbe = ⟨"java/lang/String", "checkBoundsBeginEnd", "(III)V"⟩ := by delta mN M_cbe; rfl
set_option maxRecDepth 65536 in
set_option maxHeartbeats 40000000 in
theorem rm_cbe {W : Wd} (hw : Ws W) (a : Nat) (e : Nat) (n : Nat) (F : List En) (h1 : a ≤ e) (h2 : e ≤ n) (hn : n < 2 ^ 31) : Ct W M_cbe [.int (ix a), .int (ix e), .int (ix n)] F (fun v H' => v = none ∧ H' = F) := by
  refine Ct.intro (L0 := [.val (.int (ix a)), .val (.int (ix e)), .val (.int (ix n))]) (plainFor_of_name pf_java_lang_String) rfl (fun K => ?_)
  refine Wp.iloadN rfl d_jdk_42_158_0 ?_
  refine Wp.iloadN rfl d_jdk_42_158_1 ?_
  refine Wp.iloadN rfl d_jdk_42_158_2 ?_
  obtain ⟨fm1, Ffm1, rfm1⟩ := hw.2.2
  refine Wp.getS nm_M_cbe (host := "") (Or.inl (w_196 hw)) Via.refl Ffm1 d_jdk_42_158_3 ?_
  refine Wp.callS nm_M_cbe (fun _ => rm_pcf hw.set a e n fm1 _ (by omega) (by omega) (by omega) rfm1) (mk_M_pcf hw) (w_259 hw) (w_91 hw) rfl rfl (Wn := 0) rfl rfl (by decide) d_jdk_42_158_6 ?_
  rintro _ _ ⟨rfl, eH2⟩
  rw [eH2]
  refine Wp.pop rfl d_jdk_42_158_9 ?_
  refine Wp.ret rfl d_jdk_42_158_10 (by decide) (by decide) ?_
  exact ⟨rfl, rfl⟩
theorem d_jdk_42_59_0 : Dc jdk_42_method_59_code 0 (.iload_n 1) 1 1 := ⟨by decide +kernel, rfl⟩
theorem d_jdk_42_59_1 : Dc jdk_42_method_59_code 1 (.iload_n 2) 1 2 := ⟨by decide +kernel, rfl⟩
theorem d_jdk_42_59_2 : Dc jdk_42_method_59_code 2 (.aload_n 0) 1 3 := ⟨by decide +kernel, rfl⟩
theorem d_jdk_42_59_3 : Dc jdk_42_method_59_code 3 (.invokevirtual 505) 3 6 := ⟨by decide +kernel, rfl⟩
theorem w_56 {W : Wd} (hw : Ws W) : Wok W (Jvm.Cond.selects "java/lang/String" ({ cls := "java/lang/String", name := "length", desc := "()I" } : Jvm.MethodName) ({ cls := "java/lang/String", name := "length", desc := "()I" } : Jvm.MethodName)) := hw.1 _ (List.mem_of_getElem? (i := 56) rfl)
theorem w_57 {W : Wd} (hw : Ws W) : Wok W (Jvm.Cond.code ({ cls := "java/lang/String", name := "length", desc := "()I" } : Jvm.MethodName) jdk_42_method_54_code (1 : Nat) (Option.some Jvm.ClassFile.FieldType.int)) := hw.1 _ (List.mem_of_getElem? (i := 57) rfl)
theorem pd___I : parseMethodDescriptor "()I" = some ⟨[], some .int⟩ := by decide +kernel
theorem mk_M_len {W : Wd} (hw : Ws W) : Mk W M_len ⟨"java/lang/String", "length", "()I"⟩ 0 := Mk.of nm_M_len rfl rfl rfl (w_57 hw) (w_11 hw) (mkLen pd___I rfl) (by decide)
theorem w_53 {W : Wd} (hw : Ws W) : Wok W (Jvm.Cond.methodLink "java/lang/String" (505 : Nat) ({ cls := "java/lang/String", name := "length", desc := "()I" } : Jvm.MethodName)) := hw.1 _ (List.mem_of_getElem? (i := 53) rfl)
theorem w_54 {W : Wd} (hw : Ws W) : Wok W (Jvm.Cond.declares ({ cls := "java/lang/String", name := "length", desc := "()I" } : Jvm.MethodName)) := hw.1 _ (List.mem_of_getElem? (i := 54) rfl)
theorem w_55 {W : Wd} (hw : Ws W) : Wok W (Jvm.Cond.instanceMethod ({ cls := "java/lang/String", name := "length", desc := "()I" } : Jvm.MethodName)) := hw.1 _ (List.mem_of_getElem? (i := 55) rfl)
theorem d_jdk_42_59_6 : Dc jdk_42_method_59_code 6 (.invokestatic 511) 3 9 := ⟨by decide +kernel, rfl⟩
theorem w_89 {W : Wd} (hw : Ws W) : Wok W (Jvm.Cond.code ({ cls := "java/util/Objects", name := "checkFromToIndex", desc := "(III)I" } : Jvm.MethodName) jdk_31_method_18_code (3 : Nat) (Option.some Jvm.ClassFile.FieldType.int)) := hw.1 _ (List.mem_of_getElem? (i := 89) rfl)
theorem w_88 {W : Wd} (hw : Ws W) : Wok W (Jvm.Cond.initialized "java/util/Objects") := hw.1 _ (List.mem_of_getElem? (i := 88) rfl)
theorem pd__III_I : parseMethodDescriptor "(III)I" = some ⟨[.int, .int, .int], some .int⟩ := by decide +kernel
theorem mk_M_ocf {W : Wd} (hw : Ws W) : Mk W M_ocf ⟨"java/util/Objects", "checkFromToIndex", "(III)I"⟩ 3 := Mk.of nm_M_ocf rfl rfl rfl (w_89 hw) (w_88 hw) (mkLen pd__III_I rfl) (by decide)
theorem w_86 {W : Wd} (hw : Ws W) : Wok W (Jvm.Cond.methodLink "java/lang/String" (511 : Nat) ({ cls := "java/util/Objects", name := "checkFromToIndex", desc := "(III)I" } : Jvm.MethodName)) := hw.1 _ (List.mem_of_getElem? (i := 86) rfl)
theorem w_87 {W : Wd} (hw : Ws W) : Wok W (Jvm.Cond.static ({ cls := "java/util/Objects", name := "checkFromToIndex", desc := "(III)I" } : Jvm.MethodName)) := hw.1 _ (List.mem_of_getElem? (i := 87) rfl)
theorem d_jdk_42_59_9 : Dc jdk_42_method_59_code 9 (.pop) 1 10 := ⟨by decide +kernel, rfl⟩
theorem d_jdk_42_59_10 : Dc jdk_42_method_59_code 10 (.aload_n 0) 1 11 := ⟨by decide +kernel, rfl⟩
theorem d_jdk_42_59_11 : Dc jdk_42_method_59_code 11 (.invokevirtual 492) 3 14 := ⟨by decide +kernel, rfl⟩
theorem w_50 {W : Wd} (hw : Ws W) : Wok W (Jvm.Cond.selects "java/lang/String" ({ cls := "java/lang/String", name := "isLatin1", desc := "()Z" } : Jvm.MethodName) ({ cls := "java/lang/String", name := "isLatin1", desc := "()Z" } : Jvm.MethodName)) := hw.1 _ (List.mem_of_getElem? (i := 50) rfl)
theorem w_51 {W : Wd} (hw : Ws W) : Wok W (Jvm.Cond.code ({ cls := "java/lang/String", name := "isLatin1", desc := "()Z" } : Jvm.MethodName) jdk_42_method_154_code (1 : Nat) (Option.some Jvm.ClassFile.FieldType.boolean)) := hw.1 _ (List.mem_of_getElem? (i := 51) rfl)
theorem pd___Z : parseMethodDescriptor "()Z" = some ⟨[], some .boolean⟩ := by decide +kernel
theorem mk_M_il1 {W : Wd} (hw : Ws W) : Mk W M_il1 ⟨"java/lang/String", "isLatin1", "()Z"⟩ 0 := Mk.of nm_M_il1 rfl rfl rfl (w_51 hw) (w_11 hw) (mkLen pd___Z rfl) (by decide)
theorem w_47 {W : Wd} (hw : Ws W) : Wok W (Jvm.Cond.methodLink "java/lang/String" (492 : Nat) ({ cls := "java/lang/String", name := "isLatin1", desc := "()Z" } : Jvm.MethodName)) := hw.1 _ (List.mem_of_getElem? (i := 47) rfl)
theorem w_48 {W : Wd} (hw : Ws W) : Wok W (Jvm.Cond.declares ({ cls := "java/lang/String", name := "isLatin1", desc := "()Z" } : Jvm.MethodName)) := hw.1 _ (List.mem_of_getElem? (i := 48) rfl)
theorem w_49 {W : Wd} (hw : Ws W) : Wok W (Jvm.Cond.instanceMethod ({ cls := "java/lang/String", name := "isLatin1", desc := "()Z" } : Jvm.MethodName)) := hw.1 _ (List.mem_of_getElem? (i := 49) rfl)
theorem d_jdk_42_59_14 : Bj jdk_42_method_59_code 14 (.ifCond .eq 7) 7 17 21 := ⟨by decide +kernel, rfl, by decide, rfl⟩
theorem d_jdk_42_59_17 : Dc jdk_42_method_59_code 17 (.iload_n 2) 1 18 := ⟨by decide +kernel, rfl⟩
theorem d_jdk_42_59_18 : Dc jdk_42_method_59_code 18 (.iload_n 1) 1 19 := ⟨by decide +kernel, rfl⟩
theorem d_jdk_42_59_19 : Dc jdk_42_method_59_code 19 (.isub) 1 20 := ⟨by decide +kernel, rfl⟩
theorem d_jdk_42_59_20 : Dc jdk_42_method_59_code 20 (.ireturn) 1 21 := ⟨by decide +kernel, rfl⟩
def M_cpc : Mt := (⟨"java/lang/String", "codePointCount", "(II)I"⟩, jdk_42_method_59_code, 3, some .int, ⟨2, 0, 0, 29⟩)
theorem nm_M_cpc : mN M_cpc = ⟨"java/lang/String", "codePointCount", "(II)I"⟩ := by delta mN M_cpc; rfl
set_option maxRecDepth 65536 in
set_option maxHeartbeats 40000000 in
theorem rm_cpc {W : Wd} (hw : Ws W) (s : Addr) (b : Addr) (rs : Bool) (rb : Bool) (xb : Bool) (ob : Bool) (zs : List Nat) (F : List En) (hl : zs.length ≤ 64) : Ct W M_cpc [.ref s, .int 0, .int (ix zs.length)] ((oStr rs s (.ref b) (.int 0)) :: (b, rb, .inr (.byte, xb, ob, zb zs)) :: F) (fun v H' => v = some (.int (ix (zs.length - 0))) ∧ H' = ((oStr rs s (.ref b) (.int 0)) :: (b, rb, .inr (.byte, xb, ob, zb zs)) :: F)) := by
  refine Ct.intro (L0 := [.val (.ref s), .val (.int 0), .val (.int (ix zs.length))]) (plainFor_of_name pf_java_lang_String) rfl (fun K => ?_)
  refine Wp.iloadN rfl d_jdk_42_59_0 ?_
  refine Wp.iloadN rfl d_jdk_42_59_1 ?_
  refine Wp.aloadN rfl rfl d_jdk_42_59_2 ?_
  refine Wp.callV nm_M_cpc (fun _ => rm_len hw.set s b rs rb xb ob zs _ ) 0 rfl (mk_M_len hw) (w_53 hw) (w_54 hw) (w_56 hw) (w_55 hw) (S' := "") (Or.inl rfl) (by decide) rfl rfl rfl (Wn := 2) rfl rfl (by decide) d_jdk_42_59_3 ?_
  rintro _ _ ⟨rfl, rfl⟩
  refine Wp.callS nm_M_cpc (fun _ => rm_ocf hw.set 0 zs.length zs.length _ (by omega) (by omega) (by omega)) (mk_M_ocf hw) (w_86 hw) (w_87 hw) rfl rfl (Wn := 0) rfl rfl (by decide) d_jdk_42_59_6 ?_
  rintro _ _ ⟨rfl, rfl⟩
  refine Wp.pop rfl d_jdk_42_59_9 ?_
  refine Wp.aloadN rfl rfl d_jdk_42_59_10 ?_
  refine Wp.callV nm_M_cpc (fun _ => rm_il1 hw.set s b rs _ ) 0 rfl (mk_M_il1 hw) (w_47 hw) (w_48 hw) (w_50 hw) (w_49 hw) (S' := "") (Or.inl rfl) (by decide) rfl rfl rfl (Wn := 0) rfl rfl (by decide) d_jdk_42_59_11 ?_
  rintro _ _ ⟨rfl, rfl⟩
  refine Wp.ifF (by decide) d_jdk_42_59_14 ?_
  refine Wp.iloadN rfl d_jdk_42_59_17 ?_
  refine Wp.iloadN rfl d_jdk_42_59_18 ?_
  refine Wp.isub (z := (ix (zs.length - 0))) (ix_sub (a := zs.length) (b := 0) (by omega)) d_jdk_42_59_19 ?_
  refine Wp.iret rfl d_jdk_42_59_20 (by decide) (by decide) ?_
  exact ⟨rfl, rfl⟩
theorem d_jdk_43_2_0 : Dc jdk_43_method_2_code 0 (.iload_n 1) 1 1 := ⟨by decide +kernel, rfl⟩
theorem d_jdk_43_2_1 : Dc jdk_43_method_2_code 1 (.aload_n 0) 1 2 := ⟨by decide +kernel, rfl⟩
theorem d_jdk_43_2_2 : Dc jdk_43_method_2_code 2 (.arraylength) 1 3 := ⟨by decide +kernel, rfl⟩
theorem d_jdk_43_2_3 : Dc jdk_43_method_2_code 3 (.invokestatic 9) 3 6 := ⟨by decide +kernel, rfl⟩
theorem w_195 {W : Wd} (hw : Ws W) : Wok W (Jvm.Cond.code ({ cls := "java/lang/String", name := "checkIndex", desc := "(II)V" } : Jvm.MethodName) jdk_42_method_155_code (2 : Nat) (Option.none : Option Jvm.ClassFile.FieldType)) := hw.1 _ (List.mem_of_getElem? (i := 195) rfl)
theorem pd__II_V : parseMethodDescriptor "(II)V" = some ⟨[.int, .int], none⟩ := by decide +kernel
theorem mk_M_sci {W : Wd} (hw : Ws W) : Mk W M_sci ⟨"java/lang/String", "checkIndex", "(II)V"⟩ 2 := Mk.of nm_M_sci rfl rfl rfl (w_195 hw) (w_11 hw) (mkLen pd__II_V rfl) (by decide)
theorem w_247 {W : Wd} (hw : Ws W) : Wok W (Jvm.Cond.methodLink "java/lang/StringLatin1" (9 : Nat) ({ cls := "java/lang/String", name := "checkIndex", desc := "(II)V" } : Jvm.MethodName)) := hw.1 _ (List.mem_of_getElem? (i := 247) rfl)
theorem w_194 {W : Wd} (hw : Ws W) : Wok W (Jvm.Cond.static ({ cls := "java/lang/String", name := "checkIndex", desc := "(II)V" } : Jvm.MethodName)) := hw.1 _ (List.mem_of_getElem? (i := 194) rfl)
theorem d_jdk_43_2_6 : Dc jdk_43_method_2_code 6 (.aload_n 0) 1 7 := ⟨by decide +kernel, rfl⟩
theorem d_jdk_43_2_7 : Dc jdk_43_method_2_code 7 (.iload_n 1) 1 8 := ⟨by decide +kernel, rfl⟩
theorem d_jdk_43_2_8 : Dc jdk_43_method_2_code 8 (.baload) 1 9 := ⟨by decide +kernel, rfl⟩
theorem d_jdk_43_2_9 : Dc jdk_43_method_2_code 9 (.sipush 255) 3 12 := ⟨by decide +kernel, rfl⟩
theorem ls_255 : (Int16.ofInt 255).toInt32 = 255 := by decide
theorem d_jdk_43_2_12 : Dc jdk_43_method_2_code 12 (.iand) 1 13 := ⟨by decide +kernel, rfl⟩
theorem d_jdk_43_2_13 : Dc jdk_43_method_2_code 13 (.i2c) 1 14 := ⟨by decide +kernel, rfl⟩
theorem d_jdk_43_2_14 : Dc jdk_43_method_2_code 14 (.ireturn) 1 15 := ⟨by decide +kernel, rfl⟩
def M_lca : Mt := (⟨"java/lang/StringLatin1", "charAt", "([BI)C"⟩, jdk_43_method_2_code, 2, some .char, ⟨2, 0, 0, 27⟩)
theorem nm_M_lca : mN M_lca = ⟨"java/lang/StringLatin1", "charAt", "([BI)C"⟩ := by delta mN M_lca; rfl
theorem pf_java_lang_StringLatin1 : plainName "java/lang/StringLatin1" = true := by first | (simp [plainName, overriddenIn]; done) | decide +kernel
set_option maxRecDepth 65536 in
set_option maxHeartbeats 40000000 in
theorem rm_lca {W : Wd} (hw : Ws W) (b : Addr) (rb : Bool) (xb : Bool) (ob : Bool) (zs : List Nat) (i : Nat) (F : List En) (hz : ∀ z ∈ zs, z < 256) (hi : i < zs.length) (hl : zs.length ≤ 64) : Ct W M_lca [.ref b, .int (ix i)] ((b, rb, .inr (.byte, xb, ob, zb zs)) :: F) (fun v H' => v = some (.int (ix (zs.getD i 0))) ∧ H' = ((b, rb, .inr (.byte, xb, ob, zb zs)) :: F)) := by
  refine Ct.intro (L0 := [.val (.ref b), .val (.int (ix i))]) (plainFor_of_name pf_java_lang_StringLatin1) rfl (fun K => ?_)
  refine Wp.iloadN rfl d_jdk_43_2_0 ?_
  refine Wp.aloadN rfl rfl d_jdk_43_2_1 ?_
  refine Wp.alen (z := (ix zs.length)) 0 rfl (zb_lenI _) d_jdk_43_2_2 ?_
  refine Wp.callS nm_M_lca (fun _ => rm_sci hw.set i zs.length _ (by omega) (by omega)) (mk_M_sci hw) (w_247 hw) (w_194 hw) rfl rfl (Wn := 0) rfl rfl (by decide) d_jdk_43_2_3 ?_
  rintro _ _ ⟨rfl, rfl⟩
  refine Wp.aloadN rfl rfl d_jdk_43_2_6 ?_
  refine Wp.iloadN rfl d_jdk_43_2_7 ?_
  refine Wp.baload 0 i rfl (ix_nn (by omega)) (ix_nat (by omega)) (zb_get hi) d_jdk_43_2_8 ?_
  refine Wp.sipush ls_255 d_jdk_43_2_9 ?_
  refine Wp.iand (z := (ix (zs.getD i 0))) (ix_by8 (zs_lt hz i)) d_jdk_43_2_12 ?_
  refine Wp.i2c (z := (ix (zs.getD i 0))) (ix_c (by have := zs_lt hz i; omega)) d_jdk_43_2_13 ?_
  refine Wp.iretN (z := (ix (zs.getD i 0))) (by simp) rfl (ix_c (by have := zs_lt hz i; omega)) d_jdk_43_2_14 (by decide) (by decide) ?_
  exact ⟨rfl, rfl⟩
theorem d_jdk_42_56_0 : Dc jdk_42_method_56_code 0 (.aload_n 0) 1 1 := ⟨by decide +kernel, rfl⟩
theorem d_jdk_42_56_1 : Dc jdk_42_method_56_code 1 (.invokevirtual 492) 3 4 := ⟨by decide +kernel, rfl⟩
theorem d_jdk_42_56_4 : Bj jdk_42_method_56_code 4 (.ifCond .eq 12) 12 7 16 := ⟨by decide +kernel, rfl, by decide, rfl⟩
theorem d_jdk_42_56_7 : Dc jdk_42_method_56_code 7 (.aload_n 0) 1 8 := ⟨by decide +kernel, rfl⟩
theorem d_jdk_42_56_8 : Dc jdk_42_method_56_code 8 (.getfield 9) 3 11 := ⟨by decide +kernel, rfl⟩
theorem d_jdk_42_56_11 : Dc jdk_42_method_56_code 11 (.iload_n 1) 1 12 := ⟨by decide +kernel, rfl⟩
theorem d_jdk_42_56_12 : Dc jdk_42_method_56_code 12 (.invokestatic 495) 3 15 := ⟨by decide +kernel, rfl⟩
theorem pp_1_0 : [1, 0].isPerm (List.range 2) = true := by decide +kernel
theorem w_246 {W : Wd} (hw : Ws W) : Wok W (Jvm.Cond.code ({ cls := "java/lang/StringLatin1", name := "charAt", desc := "([BI)C" } : Jvm.MethodName) jdk_43_method_2_code (2 : Nat) (Option.some Jvm.ClassFile.FieldType.char)) := hw.1 _ (List.mem_of_getElem? (i := 246) rfl)
theorem w_65 {W : Wd} (hw : Ws W) : Wok W (Jvm.Cond.initialized "java/lang/StringLatin1") := hw.1 _ (List.mem_of_getElem? (i := 65) rfl)
theorem pd___BI_C : parseMethodDescriptor "([BI)C" = some ⟨[(.array .byte), .int], some .char⟩ := by decide +kernel
theorem mk_M_lca {W : Wd} (hw : Ws W) : Mk W M_lca ⟨"java/lang/StringLatin1", "charAt", "([BI)C"⟩ 2 := Mk.of nm_M_lca rfl rfl rfl (w_246 hw) (w_65 hw) (mkLen pd___BI_C rfl) (by decide)
theorem w_244 {W : Wd} (hw : Ws W) : Wok W (Jvm.Cond.methodLink "java/lang/String" (495 : Nat) ({ cls := "java/lang/StringLatin1", name := "charAt", desc := "([BI)C" } : Jvm.MethodName)) := hw.1 _ (List.mem_of_getElem? (i := 244) rfl)
theorem w_245 {W : Wd} (hw : Ws W) : Wok W (Jvm.Cond.static ({ cls := "java/lang/StringLatin1", name := "charAt", desc := "([BI)C" } : Jvm.MethodName)) := hw.1 _ (List.mem_of_getElem? (i := 245) rfl)
theorem d_jdk_42_56_15 : Dc jdk_42_method_56_code 15 (.ireturn) 1 16 := ⟨by decide +kernel, rfl⟩
def M_ca : Mt := (⟨"java/lang/String", "charAt", "(I)C"⟩, jdk_42_method_56_code, 2, some .char, ⟨3, 0, 0, 40⟩)
theorem nm_M_ca : mN M_ca = ⟨"java/lang/String", "charAt", "(I)C"⟩ := by delta mN M_ca; rfl
set_option maxRecDepth 65536 in
set_option maxHeartbeats 40000000 in
theorem rm_ca {W : Wd} (hw : Ws W) (s : Addr) (b : Addr) (rs : Bool) (rb : Bool) (xb : Bool) (ob : Bool) (zs : List Nat) (i : Nat) (F : List En) (hz : ∀ z ∈ zs, z < 256) (hi : i < zs.length) (hl : zs.length ≤ 64) : Ct W M_ca [.ref s, .int (ix i)] ((oStr rs s (.ref b) (.int 0)) :: (b, rb, .inr (.byte, xb, ob, zb zs)) :: F) (fun v H' => v = some (.int (ix (zs.getD i 0))) ∧ H' = ((oStr rs s (.ref b) (.int 0)) :: (b, rb, .inr (.byte, xb, ob, zb zs)) :: F)) := by
  refine Ct.intro (L0 := [.val (.ref s), .val (.int (ix i))]) (plainFor_of_name pf_java_lang_String) rfl (fun K => ?_)
  refine Wp.aloadN rfl rfl d_jdk_42_56_0 ?_
  refine Wp.callV nm_M_ca (fun _ => rm_il1 hw.set s b rs _ ) 0 rfl (mk_M_il1 hw) (w_47 hw) (w_48 hw) (w_50 hw) (w_49 hw) (S' := "") (Or.inl rfl) (by decide) rfl rfl rfl (Wn := 0) rfl rfl (by decide) d_jdk_42_56_1 ?_
  rintro _ _ ⟨rfl, rfl⟩
  refine Wp.ifF (by decide) d_jdk_42_56_4 ?_
  refine Wp.aloadN rfl rfl d_jdk_42_56_7 ?_
  refine Wp.getF nm_M_ca (host := "") (Or.inl (w_28 hw)) Via.refl 0 0 rfl rfl d_jdk_42_56_8 ?_
  refine Wp.iloadN rfl d_jdk_42_56_11 ?_
  refine Wp.perm [1, 0] 2 pp_1_0 (H' := ((b, rb, .inr (.byte, xb, ob, zb zs)) :: (oStr rs s (.ref b) (.int 0)) :: F)) rfl ?_
  refine Wp.callS nm_M_ca (fun _ => rm_lca hw.set b rb xb ob zs i _ hz (by omega) (by omega)) (mk_M_lca hw) (w_244 hw) (w_245 hw) rfl rfl (Wn := 0) rfl rfl (by decide) d_jdk_42_56_12 ?_
  rintro _ _ ⟨rfl, rfl⟩
  refine Wp.perm [1, 0] 2 pp_1_0 (H' := ((oStr rs s (.ref b) (.int 0)) :: (b, rb, .inr (.byte, xb, ob, zb zs)) :: F)) rfl ?_
  refine Wp.iretN (z := (ix (zs.getD i 0))) (by simp) rfl (ix_c (by have := zs_lt hz i; omega)) d_jdk_42_56_15 (by decide) (by decide) ?_
  exact ⟨rfl, rfl⟩
theorem d_jdk_42_57_0 : Dc jdk_42_method_57_code 0 (.aload_n 0) 1 1 := ⟨by decide +kernel, rfl⟩
theorem d_jdk_42_57_1 : Dc jdk_42_method_57_code 1 (.invokevirtual 492) 3 4 := ⟨by decide +kernel, rfl⟩
theorem d_jdk_42_57_4 : Bj jdk_42_method_57_code 4 (.ifCond .eq 23) 23 7 27 := ⟨by decide +kernel, rfl, by decide, rfl⟩
theorem d_jdk_42_57_7 : Dc jdk_42_method_57_code 7 (.iload_n 1) 1 8 := ⟨by decide +kernel, rfl⟩
theorem d_jdk_42_57_8 : Dc jdk_42_method_57_code 8 (.aload_n 0) 1 9 := ⟨by decide +kernel, rfl⟩
theorem d_jdk_42_57_9 : Dc jdk_42_method_57_code 9 (.getfield 9) 3 12 := ⟨by decide +kernel, rfl⟩
theorem d_jdk_42_57_12 : Dc jdk_42_method_57_code 12 (.arraylength) 1 13 := ⟨by decide +kernel, rfl⟩
theorem d_jdk_42_57_13 : Dc jdk_42_method_57_code 13 (.invokestatic 499) 3 16 := ⟨by decide +kernel, rfl⟩
theorem w_193 {W : Wd} (hw : Ws W) : Wok W (Jvm.Cond.methodLink "java/lang/String" (499 : Nat) ({ cls := "java/lang/String", name := "checkIndex", desc := "(II)V" } : Jvm.MethodName)) := hw.1 _ (List.mem_of_getElem? (i := 193) rfl)
theorem d_jdk_42_57_16 : Dc jdk_42_method_57_code 16 (.aload_n 0) 1 17 := ⟨by decide +kernel, rfl⟩
theorem d_jdk_42_57_17 : Dc jdk_42_method_57_code 17 (.getfield 9) 3 20 := ⟨by decide +kernel, rfl⟩
theorem d_jdk_42_57_20 : Dc jdk_42_method_57_code 20 (.iload_n 1) 1 21 := ⟨by decide +kernel, rfl⟩
theorem d_jdk_42_57_21 : Dc jdk_42_method_57_code 21 (.baload) 1 22 := ⟨by decide +kernel, rfl⟩
theorem d_jdk_42_57_22 : Dc jdk_42_method_57_code 22 (.sipush 255) 3 25 := ⟨by decide +kernel, rfl⟩
theorem d_jdk_42_57_25 : Dc jdk_42_method_57_code 25 (.iand) 1 26 := ⟨by decide +kernel, rfl⟩
theorem d_jdk_42_57_26 : Dc jdk_42_method_57_code 26 (.ireturn) 1 27 := ⟨by decide +kernel, rfl⟩
def M_cpa : Mt := (⟨"java/lang/String", "codePointAt", "(I)I"⟩, jdk_42_method_57_code, 3, some .int, ⟨2, 0, 0, 27⟩)
theorem nm_M_cpa : mN M_cpa = ⟨"java/lang/String", "codePointAt", "(I)I"⟩ := by delta mN M_cpa; rfl
set_option maxRecDepth 65536 in
set_option maxHeartbeats 40000000 in
theorem rm_cpa {W : Wd} (hw : Ws W) (s : Addr) (b : Addr) (rs : Bool) (rb : Bool) (xb : Bool) (ob : Bool) (zs : List Nat) (i : Nat) (F : List En) (hz : ∀ z ∈ zs, z < 256) (hi : i < zs.length) (hl : zs.length ≤ 64) : Ct W M_cpa [.ref s, .int (ix i)] ((oStr rs s (.ref b) (.int 0)) :: (b, rb, .inr (.byte, xb, ob, zb zs)) :: F) (fun v H' => v = some (.int (ix (zs.getD i 0))) ∧ H' = ((oStr rs s (.ref b) (.int 0)) :: (b, rb, .inr (.byte, xb, ob, zb zs)) :: F)) := by
  refine Ct.intro (L0 := [.val (.ref s), .val (.int (ix i)), .unset]) (plainFor_of_name pf_java_lang_String) rfl (fun K => ?_)
  refine Wp.aloadN rfl rfl d_jdk_42_57_0 ?_
  refine Wp.callV nm_M_cpa (fun _ => rm_il1 hw.set s b rs _ ) 0 rfl (mk_M_il1 hw) (w_47 hw) (w_48 hw) (w_50 hw) (w_49 hw) (S' := "") (Or.inl rfl) (by decide) rfl rfl rfl (Wn := 0) rfl rfl (by decide) d_jdk_42_57_1 ?_
  rintro _ _ ⟨rfl, rfl⟩
  refine Wp.ifF (by decide) d_jdk_42_57_4 ?_
  refine Wp.iloadN rfl d_jdk_42_57_7 ?_
  refine Wp.aloadN rfl rfl d_jdk_42_57_8 ?_
  refine Wp.getF nm_M_cpa (host := "") (Or.inl (w_28 hw)) Via.refl 0 0 rfl rfl d_jdk_42_57_9 ?_
  refine Wp.alen (z := (ix zs.length)) 1 rfl (zb_lenI _) d_jdk_42_57_12 ?_
  refine Wp.callS nm_M_cpa (fun _ => rm_sci hw.set i zs.length _ (by omega) (by omega)) (mk_M_sci hw) (w_193 hw) (w_194 hw) rfl rfl (Wn := 0) rfl rfl (by decide) d_jdk_42_57_13 ?_
  rintro _ _ ⟨rfl, rfl⟩
  refine Wp.aloadN rfl rfl d_jdk_42_57_16 ?_
  refine Wp.getF nm_M_cpa (host := "") (Or.inl (w_28 hw)) Via.refl 0 0 rfl rfl d_jdk_42_57_17 ?_
  refine Wp.iloadN rfl d_jdk_42_57_20 ?_
  refine Wp.baload 1 i rfl (ix_nn (by omega)) (ix_nat (by omega)) (zb_get hi) d_jdk_42_57_21 ?_
  refine Wp.sipush ls_255 d_jdk_42_57_22 ?_
  refine Wp.iand (z := (ix (zs.getD i 0))) (ix_by8 (zs_lt hz i)) d_jdk_42_57_25 ?_
  refine Wp.iret rfl d_jdk_42_57_26 (by decide) (by decide) ?_
  exact ⟨rfl, rfl⟩
theorem d_jdk_29_65_0 : Dc jdk_29_method_65_code 0 (.iload_n 0) 1 1 := ⟨by decide +kernel, rfl⟩
theorem d_jdk_29_65_1 : Dc jdk_29_method_65_code 1 (.iload_n 1) 1 2 := ⟨by decide +kernel, rfl⟩
theorem d_jdk_29_65_2 : Bj jdk_29_method_65_code 2 (.if_icmp .lt 7) 7 5 9 := ⟨by decide +kernel, rfl, by decide, rfl⟩
theorem d_jdk_29_65_5 : Dc jdk_29_method_65_code 5 (.iload_n 0) 1 6 := ⟨by decide +kernel, rfl⟩
theorem d_jdk_29_65_6 : Bj jdk_29_method_65_code 6 (.goto 4) 4 9 10 := ⟨by decide +kernel, rfl, by decide, rfl⟩
theorem d_jdk_29_65_10 : Dc jdk_29_method_65_code 10 (.ireturn) 1 11 := ⟨by decide +kernel, rfl⟩
def M_mx : Mt := (⟨"java/lang/Math", "max", "(II)I"⟩, jdk_29_method_65_code, 2, some .int, ⟨0, 0, 0, 0⟩)
theorem nm_M_mx : mN M_mx = ⟨"java/lang/Math", "max", "(II)I"⟩ := by delta mN M_mx; rfl
theorem pf_java_lang_Math_max_II_I : plainFor (⟨"java/lang/Math", "max", "(II)I"⟩ : MethodName) = true := Jvm.Free.JP.mathPlain rfl (by decide +kernel)
set_option maxRecDepth 65536 in
set_option maxHeartbeats 40000000 in
theorem rm_mx {W : Wd} (hw : Ws W) (F : List En) : Ct W M_mx [.int 0, .int 0] F (fun v H' => v = some (.int 0) ∧ H' = F) := by
  refine Ct.intro (L0 := [.val (.int 0), .val (.int 0)]) pf_java_lang_Math_max_II_I rfl (fun K => ?_)
  refine Wp.iloadN rfl d_jdk_29_65_0 ?_
  refine Wp.iloadN rfl d_jdk_29_65_1 ?_
  refine Wp.icF (by decide) d_jdk_29_65_2 ?_
  refine Wp.iloadN rfl d_jdk_29_65_5 ?_
  refine Wp.goto d_jdk_29_65_6 ?_
  refine Wp.iret rfl d_jdk_29_65_10 (by decide) (by decide) ?_
  exact ⟨rfl, rfl⟩
theorem d_jdk_29_69_0 : Dc jdk_29_method_69_code 0 (.iload_n 0) 1 1 := ⟨by decide +kernel, rfl⟩
theorem d_jdk_29_69_1 : Dc jdk_29_method_69_code 1 (.iload_n 1) 1 2 := ⟨by decide +kernel, rfl⟩
theorem d_jdk_29_69_2 : Bj jdk_29_method_69_code 2 (.if_icmp .gt 7) 7 5 9 := ⟨by decide +kernel, rfl, by decide, rfl⟩
theorem d_jdk_29_69_5 : Dc jdk_29_method_69_code 5 (.iload_n 0) 1 6 := ⟨by decide +kernel, rfl⟩
theorem d_jdk_29_69_6 : Bj jdk_29_method_69_code 6 (.goto 4) 4 9 10 := ⟨by decide +kernel, rfl, by decide, rfl⟩
theorem d_jdk_29_69_10 : Dc jdk_29_method_69_code 10 (.ireturn) 1 11 := ⟨by decide +kernel, rfl⟩
def M_mn : Mt := (⟨"java/lang/Math", "min", "(II)I"⟩, jdk_29_method_69_code, 2, some .int, ⟨0, 0, 0, 0⟩)
theorem nm_M_mn : mN M_mn = ⟨"java/lang/Math", "min", "(II)I"⟩ := by delta mN M_mn; rfl
theorem pf_java_lang_Math_min_II_I : plainFor (⟨"java/lang/Math", "min", "(II)I"⟩ : MethodName) = true := Jvm.Free.JP.mathPlain rfl (by decide +kernel)
set_option maxRecDepth 65536 in
set_option maxHeartbeats 40000000 in
theorem rm_mn {W : Wd} (hw : Ws W) (k : Nat) (F : List En) : Ct W M_mn [.int (ix k), .int (ix k)] F (fun v H' => v = some (.int (ix k)) ∧ H' = F) := by
  refine Ct.intro (L0 := [.val (.int (ix k)), .val (.int (ix k))]) pf_java_lang_Math_min_II_I rfl (fun K => ?_)
  refine Wp.iloadN rfl d_jdk_29_69_0 ?_
  refine Wp.iloadN rfl d_jdk_29_69_1 ?_
  refine Wp.icF (flt (fun q => Int32.lt_irrefl q)).2.2.1 d_jdk_29_69_2 ?_
  refine Wp.iloadN rfl d_jdk_29_69_5 ?_
  refine Wp.goto d_jdk_29_69_6 ?_
  refine Wp.iret rfl d_jdk_29_69_10 (by decide) (by decide) ?_
  exact ⟨rfl, rfl⟩
theorem d_jdk_43_4_0 : Dc jdk_43_method_4_code 0 (.iload_n 0) 1 1 := ⟨by decide +kernel, rfl⟩
theorem d_jdk_43_4_1 : Bj jdk_43_method_4_code 1 (.ifCond .lt 14) 14 4 15 := ⟨by decide +kernel, rfl, by decide, rfl⟩
theorem d_jdk_43_4_4 : Dc jdk_43_method_4_code 4 (.iload_n 0) 1 5 := ⟨by decide +kernel, rfl⟩
theorem d_jdk_43_4_5 : Dc jdk_43_method_4_code 5 (.sipush 255) 3 8 := ⟨by decide +kernel, rfl⟩
theorem d_jdk_43_4_8 : Bj jdk_43_method_4_code 8 (.if_icmp .gt 7) 7 11 15 := ⟨by decide +kernel, rfl, by decide, rfl⟩
theorem d_jdk_43_4_11 : Dc jdk_43_method_4_code 11 (.iconst 1) 1 12 := ⟨by decide +kernel, rfl⟩
theorem d_jdk_43_4_12 : Bj jdk_43_method_4_code 12 (.goto 4) 4 15 16 := ⟨by decide +kernel, rfl, by decide, rfl⟩
theorem d_jdk_43_4_16 : Dc jdk_43_method_4_code 16 (.ireturn) 1 17 := ⟨by decide +kernel, rfl⟩
def M_ce64 : Mt := (⟨"java/lang/StringLatin1", "canEncode", "(I)Z"⟩, jdk_43_method_4_code, 1, some .boolean, ⟨0, 0, 0, 0⟩)
theorem nm_M_ce64 : mN M_ce64 = ⟨"java/lang/StringLatin1", "canEncode", "(I)Z"⟩ := by delta mN M_ce64; rfl
set_option maxRecDepth 65536 in
set_option maxHeartbeats 40000000 in
theorem rm_ce64 {W : Wd} (hw : Ws W) (F : List En) : Ct W M_ce64 [.int 64] F (fun v H' => v = some (.int 1) ∧ H' = F) := by
  refine Ct.intro (L0 := [.val (.int 64)]) (plainFor_of_name pf_java_lang_StringLatin1) rfl (fun K => ?_)
  refine Wp.iloadN rfl d_jdk_43_4_0 ?_
  refine Wp.ifF (by decide) d_jdk_43_4_1 ?_
  refine Wp.iloadN rfl d_jdk_43_4_4 ?_
  refine Wp.sipush ls_255 d_jdk_43_4_5 ?_
  refine Wp.icF (by decide) d_jdk_43_4_8 ?_
  refine Wp.iconst lc_1 d_jdk_43_4_11 ?_
  refine Wp.goto d_jdk_43_4_12 ?_
  refine Wp.iretN (z := 1) (by simp) rfl (by decide) d_jdk_43_4_16 (by decide) (by decide) ?_
  exact ⟨rfl, rfl⟩
def M_ioc64 : Mt := (⟨"java/lang/StringLatin1", "indexOfChar", "([BIII)I"⟩, jdk_43_method_23_code, 6, some .int, ⟨0, 0, 0, 0⟩)
theorem nm_M_ioc64 : mN M_ioc64 = ⟨"java/lang/StringLatin1", "indexOfChar", "([BIII)I"⟩ := by delta mN M_ioc64; rfl
theorem d_jdk_43_23_7 : Dc jdk_43_method_23_code 7 (.iload 5) 2 9 := ⟨by decide +kernel, rfl⟩
theorem d_jdk_43_23_9 : Dc jdk_43_method_23_code 9 (.iload_n 3) 1 10 := ⟨by decide +kernel, rfl⟩
theorem d_jdk_43_23_10 : Bj jdk_43_method_23_code 10 (.if_icmp .ge 21) 21 13 31 := ⟨by decide +kernel, rfl, by decide, rfl⟩
theorem d_jdk_43_23_13 : Dc jdk_43_method_23_code 13 (.aload_n 0) 1 14 := ⟨by decide +kernel, rfl⟩
theorem d_jdk_43_23_14 : Dc jdk_43_method_23_code 14 (.iload 5) 2 16 := ⟨by decide +kernel, rfl⟩
theorem d_jdk_43_23_16 : Dc jdk_43_method_23_code 16 (.baload) 1 17 := ⟨by decide +kernel, rfl⟩
theorem d_jdk_43_23_17 : Dc jdk_43_method_23_code 17 (.iload 4) 2 19 := ⟨by decide +kernel, rfl⟩
theorem d_jdk_43_23_19 : Bj jdk_43_method_23_code 19 (.if_icmp .ne 6) 6 22 25 := ⟨by decide +kernel, rfl, by decide, rfl⟩
theorem d_jdk_43_23_22 : Dc jdk_43_method_23_code 22 (.iload 5) 2 24 := ⟨by decide +kernel, rfl⟩
theorem d_jdk_43_23_24 : Dc jdk_43_method_23_code 24 (.ireturn) 1 25 := ⟨by decide +kernel, rfl⟩
theorem d_jdk_43_23_25 : Dc jdk_43_method_23_code 25 (.iinc 5 1) 3 28 := ⟨by decide +kernel, rfl⟩
theorem d_jdk_43_23_28 : Bj jdk_43_method_23_code 28 (.goto (-21)) (-21) 31 7 := ⟨by decide +kernel, rfl, by decide, rfl⟩
theorem d_jdk_43_23_31 : Dc jdk_43_method_23_code 31 (.iconst (-1)) 1 32 := ⟨by decide +kernel, rfl⟩
theorem lc_m1 : Int32.ofInt (-1) = (-1) := by decide
theorem d_jdk_43_23_32 : Dc jdk_43_method_23_code 32 (.ireturn) 1 33 := ⟨by decide +kernel, rfl⟩
set_option maxRecDepth 65536 in
set_option maxHeartbeats 40000000 in
theorem lp_ioc64 {W : Wd} {K : Kx} (hw : Ws W) (b : Addr) (rb xb ob : Bool) (zs : List Nat) (F : List En) (hz : ∀ z ∈ zs, z < 256) (hl : zs.length ≤ 64) (Q : Option Value → List En → Prop) (hQ1 : ∀ j, j < zs.length → Nc 64 zs 0 j → zs.getD j 0 = 64 → Q (some (.int (ix j))) ((b, rb, .inr (.byte, xb, ob, zb zs)) :: F)) (hQ0 : Nc 64 zs 0 zs.length → Q (some (.int (-1))) ((b, rb, .inr (.byte, xb, ob, zb zs)) :: F)) :
    ∀ (t i : Nat), i + t = zs.length → Nc 64 zs 0 i → Wp W K M_ioc64 Q ((b, rb, .inr (.byte, xb, ob, zb zs)) :: F) 0 0 7 [.val (.ref b), .val (.int 64), .val (.int 0), .val (.int (ix zs.length)), .val (.int 64), .val (.int (ix i))] []
  | 0, i, hi, hs => by
    refine Wp.iload rfl d_jdk_43_23_7 ?_
    refine Wp.iloadN rfl d_jdk_43_23_9 ?_
    refine Wp.icT (flt (fun q => by have := (ix_lt (i := i) (j := zs.length) (by omega) (by omega)).mp q; omega)).2.1 d_jdk_43_23_10 ?_
    refine Wp.iconst lc_m1 d_jdk_43_23_31 ?_
    refine Wp.iret rfl d_jdk_43_23_32 (by decide) (by decide) ?_
    exact hQ0 (by have e : i = zs.length := by omega
                  exact e ▸ hs)
  | t + 1, i, hi, hs => by
    have hi2 : i < zs.length := by omega
    refine Wp.iload rfl d_jdk_43_23_7 ?_
    refine Wp.iloadN rfl d_jdk_43_23_9 ?_
    refine Wp.icF (tlt ((ix_lt (i := i) (j := zs.length) (by omega) (by omega)).mpr hi2)).2.1 d_jdk_43_23_10 ?_
    refine Wp.aloadN rfl rfl d_jdk_43_23_13 ?_
    refine Wp.iload rfl d_jdk_43_23_14 ?_
    refine Wp.baload 0 i rfl (ix_nn (by omega)) (ix_nat (by omega)) (zb_get hi2) d_jdk_43_23_16 ?_
    refine Wp.iload rfl d_jdk_43_23_17 ?_
    by_cases b19_1 : (by8 (ix (zs.getD i 0))) = 64
    · refine Wp.icF (teq b19_1).2 d_jdk_43_23_19 ?_
      refine Wp.iload rfl d_jdk_43_23_22 ?_
      refine Wp.iret rfl d_jdk_43_23_24 (by decide) (by decide) ?_
      exact hQ1 i hi2 hs (by8_eqN (zs_lt hz i) (by decide) b19_1)
    · refine Wp.icT (feq b19_1).2 d_jdk_43_23_19 ?_
      refine Wp.iinc (z := (ix (i + 1))) (L' := [.val (.ref b), .val (.int 64), .val (.int 0), .val (.int (ix zs.length)), .val (.int 64), .val (.int (ix (i + 1)))]) rfl (ix_inc _) rfl d_jdk_43_23_25 ?_
      refine Wp.goto d_jdk_43_23_28 ?_
      exact lp_ioc64 hw b rb xb ob zs F hz hl Q hQ1 hQ0 t (i + 1) (by omega) (hs.snoc (fun q => b19_1 (by rw [q]; decide)))
theorem d_jdk_43_23_0 : Dc jdk_43_method_23_code 0 (.iload_n 1) 1 1 := ⟨by decide +kernel, rfl⟩
theorem d_jdk_43_23_1 : Dc jdk_43_method_23_code 1 (.i2b) 1 2 := ⟨by decide +kernel, rfl⟩
theorem d_jdk_43_23_2 : Dc jdk_43_method_23_code 2 (.istore 4) 2 4 := ⟨by decide +kernel, rfl⟩
theorem d_jdk_43_23_4 : Dc jdk_43_method_23_code 4 (.iload_n 2) 1 5 := ⟨by decide +kernel, rfl⟩
theorem d_jdk_43_23_5 : Dc jdk_43_method_23_code 5 (.istore 5) 2 7 := ⟨by decide +kernel, rfl⟩
set_option maxRecDepth 65536 in
set_option maxHeartbeats 40000000 in
theorem rm_ioc64 {W : Wd} (hw : Ws W) (b : Addr) (rb : Bool) (xb : Bool) (ob : Bool) (zs : List Nat) (F : List En) (hz : ∀ z ∈ zs, z < 256) (hl : zs.length ≤ 64) : Ct W M_ioc64 [.ref b, .int 64, .int 0, .int (ix zs.length)] ((b, rb, .inr (.byte, xb, ob, zb zs)) :: F) (fun v H' => (∃ j : Nat, v = some (.int (ix j)) ∧ H' = ((b, rb, .inr (.byte, xb, ob, zb zs)) :: F) ∧ j < zs.length ∧ Nc 64 zs 0 j ∧ zs.getD j 0 = 64) ∨ (v = some (.int (-1)) ∧ H' = ((b, rb, .inr (.byte, xb, ob, zb zs)) :: F) ∧ Nc 64 zs 0 zs.length)) := by
  refine Ct.intro (L0 := [.val (.ref b), .val (.int 64), .val (.int 0), .val (.int (ix zs.length)), .unset, .unset]) (plainFor_of_name pf_java_lang_StringLatin1) rfl (fun K => ?_)
  refine Wp.iloadN rfl d_jdk_43_23_0 ?_
  refine Wp.i2b (z := 64) (by decide) d_jdk_43_23_1 ?_
  refine Wp.istore (L' := [.val (.ref b), .val (.int 64), .val (.int 0), .val (.int (ix zs.length)), .val (.int 64), .unset]) rfl d_jdk_43_23_2 ?_
  refine Wp.iloadN rfl d_jdk_43_23_4 ?_
  refine Wp.istore (L' := [.val (.ref b), .val (.int 64), .val (.int 0), .val (.int (ix zs.length)), .val (.int 64), .val (.int 0)]) rfl d_jdk_43_23_5 ?_
  exact lp_ioc64 hw b rb xb ob zs F hz hl _ (fun j q1 q2 q3 => Or.inl ⟨j, rfl, rfl, q1, q2, q3⟩) (fun q => Or.inr ⟨rfl, rfl, q⟩) zs.length 0 (by omega) (Nc.nil _ _ _)
theorem d_jdk_43_22_0 : Dc jdk_43_method_22_code 0 (.iload_n 1) 1 1 := ⟨by decide +kernel, rfl⟩
theorem d_jdk_43_22_1 : Dc jdk_43_method_22_code 1 (.invokestatic 88) 3 4 := ⟨by decide +kernel, rfl⟩
theorem w_69 {W : Wd} (hw : Ws W) : Wok W (Jvm.Cond.code ({ cls := "java/lang/StringLatin1", name := "canEncode", desc := "(I)Z" } : Jvm.MethodName) jdk_43_method_4_code (1 : Nat) (Option.some Jvm.ClassFile.FieldType.boolean)) := hw.1 _ (List.mem_of_getElem? (i := 69) rfl)
theorem pd__I_Z : parseMethodDescriptor "(I)Z" = some ⟨[.int], some .boolean⟩ := by decide +kernel
theorem mk_M_ce64 {W : Wd} (hw : Ws W) : Mk W M_ce64 ⟨"java/lang/StringLatin1", "canEncode", "(I)Z"⟩ 1 := Mk.of nm_M_ce64 rfl rfl rfl (w_69 hw) (w_65 hw) (mkLen pd__I_Z rfl) (by decide)
theorem w_67 {W : Wd} (hw : Ws W) : Wok W (Jvm.Cond.methodLink "java/lang/StringLatin1" (88 : Nat) ({ cls := "java/lang/StringLatin1", name := "canEncode", desc := "(I)Z" } : Jvm.MethodName)) := hw.1 _ (List.mem_of_getElem? (i := 67) rfl)
theorem w_68 {W : Wd} (hw : Ws W) : Wok W (Jvm.Cond.static ({ cls := "java/lang/StringLatin1", name := "canEncode", desc := "(I)Z" } : Jvm.MethodName)) := hw.1 _ (List.mem_of_getElem? (i := 68) rfl)
theorem d_jdk_43_22_4 : Bj jdk_43_method_22_code 4 (.ifCond .ne 5) 5 7 9 := ⟨by decide +kernel, rfl, by decide, rfl⟩
theorem d_jdk_43_22_9 : Dc jdk_43_method_22_code 9 (.iload_n 2) 1 10 := ⟨by decide +kernel, rfl⟩
theorem d_jdk_43_22_10 : Dc jdk_43_method_22_code 10 (.iconst 0) 1 11 := ⟨by decide +kernel, rfl⟩
theorem lc_0 : Int32.ofInt 0 = 0 := by decide
theorem d_jdk_43_22_11 : Dc jdk_43_method_22_code 11 (.invokestatic 92) 3 14 := ⟨by decide +kernel, rfl⟩
theorem w_73 {W : Wd} (hw : Ws W) : Wok W (Jvm.Cond.code ({ cls := "java/lang/Math", name := "max", desc := "(II)I" } : Jvm.MethodName) jdk_29_method_65_code (2 : Nat) (Option.some Jvm.ClassFile.FieldType.int)) := hw.1 _ (List.mem_of_getElem? (i := 73) rfl)
theorem w_72 {W : Wd} (hw : Ws W) : Wok W (Jvm.Cond.initialized "java/lang/Math") := hw.1 _ (List.mem_of_getElem? (i := 72) rfl)
theorem pd__II_I : parseMethodDescriptor "(II)I" = some ⟨[.int, .int], some .int⟩ := by decide +kernel
theorem mk_M_mx {W : Wd} (hw : Ws W) : Mk W M_mx ⟨"java/lang/Math", "max", "(II)I"⟩ 2 := Mk.of nm_M_mx rfl rfl rfl (w_73 hw) (w_72 hw) (mkLen pd__II_I rfl) (by decide)
theorem w_70 {W : Wd} (hw : Ws W) : Wok W (Jvm.Cond.methodLink "java/lang/StringLatin1" (92 : Nat) ({ cls := "java/lang/Math", name := "max", desc := "(II)I" } : Jvm.MethodName)) := hw.1 _ (List.mem_of_getElem? (i := 70) rfl)
theorem w_71 {W : Wd} (hw : Ws W) : Wok W (Jvm.Cond.static ({ cls := "java/lang/Math", name := "max", desc := "(II)I" } : Jvm.MethodName)) := hw.1 _ (List.mem_of_getElem? (i := 71) rfl)
theorem d_jdk_43_22_14 : Dc jdk_43_method_22_code 14 (.istore_n 2) 1 15 := ⟨by decide +kernel, rfl⟩
theorem d_jdk_43_22_15 : Dc jdk_43_method_22_code 15 (.iload_n 3) 1 16 := ⟨by decide +kernel, rfl⟩
theorem d_jdk_43_22_16 : Dc jdk_43_method_22_code 16 (.aload_n 0) 1 17 := ⟨by decide +kernel, rfl⟩
theorem d_jdk_43_22_17 : Dc jdk_43_method_22_code 17 (.arraylength) 1 18 := ⟨by decide +kernel, rfl⟩
theorem d_jdk_43_22_18 : Dc jdk_43_method_22_code 18 (.invokestatic 38) 3 21 := ⟨by decide +kernel, rfl⟩
theorem w_76 {W : Wd} (hw : Ws W) : Wok W (Jvm.Cond.code ({ cls := "java/lang/Math", name := "min", desc := "(II)I" } : Jvm.MethodName) jdk_29_method_69_code (2 : Nat) (Option.some Jvm.ClassFile.FieldType.int)) := hw.1 _ (List.mem_of_getElem? (i := 76) rfl)
theorem mk_M_mn {W : Wd} (hw : Ws W) : Mk W M_mn ⟨"java/lang/Math", "min", "(II)I"⟩ 2 := Mk.of nm_M_mn rfl rfl rfl (w_76 hw) (w_72 hw) (mkLen pd__II_I rfl) (by decide)
theorem w_74 {W : Wd} (hw : Ws W) : Wok W (Jvm.Cond.methodLink "java/lang/StringLatin1" (38 : Nat) ({ cls := "java/lang/Math", name := "min", desc := "(II)I" } : Jvm.MethodName)) := hw.1 _ (List.mem_of_getElem? (i := 74) rfl)
theorem w_75 {W : Wd} (hw : Ws W) : Wok W (Jvm.Cond.static ({ cls := "java/lang/Math", name := "min", desc := "(II)I" } : Jvm.MethodName)) := hw.1 _ (List.mem_of_getElem? (i := 75) rfl)
theorem d_jdk_43_22_21 : Dc jdk_43_method_22_code 21 (.istore_n 3) 1 22 := ⟨by decide +kernel, rfl⟩
theorem d_jdk_43_22_22 : Dc jdk_43_method_22_code 22 (.iload_n 2) 1 23 := ⟨by decide +kernel, rfl⟩
theorem d_jdk_43_22_23 : Dc jdk_43_method_22_code 23 (.iload_n 3) 1 24 := ⟨by decide +kernel, rfl⟩
theorem d_jdk_43_22_24 : Bj jdk_43_method_22_code 24 (.if_icmp .lt 5) 5 27 29 := ⟨by decide +kernel, rfl, by decide, rfl⟩
theorem d_jdk_43_22_29 : Dc jdk_43_method_22_code 29 (.aload_n 0) 1 30 := ⟨by decide +kernel, rfl⟩
theorem d_jdk_43_22_30 : Dc jdk_43_method_22_code 30 (.iload_n 1) 1 31 := ⟨by decide +kernel, rfl⟩
theorem d_jdk_43_22_31 : Dc jdk_43_method_22_code 31 (.iload_n 2) 1 32 := ⟨by decide +kernel, rfl⟩
theorem d_jdk_43_22_32 : Dc jdk_43_method_22_code 32 (.iload_n 3) 1 33 := ⟨by decide +kernel, rfl⟩
theorem d_jdk_43_22_33 : Dc jdk_43_method_22_code 33 (.invokestatic 95) 3 36 := ⟨by decide +kernel, rfl⟩
theorem w_174 {W : Wd} (hw : Ws W) : Wok W (Jvm.Cond.code ({ cls := "java/lang/StringLatin1", name := "indexOfChar", desc := "([BIII)I" } : Jvm.MethodName) jdk_43_method_23_code (6 : Nat) (Option.some Jvm.ClassFile.FieldType.int)) := hw.1 _ (List.mem_of_getElem? (i := 174) rfl)
theorem pd___BIII_I : parseMethodDescriptor "([BIII)I" = some ⟨[(.array .byte), .int, .int, .int], some .int⟩ := by decide +kernel
theorem mk_M_ioc64 {W : Wd} (hw : Ws W) : Mk W M_ioc64 ⟨"java/lang/StringLatin1", "indexOfChar", "([BIII)I"⟩ 4 := Mk.of nm_M_ioc64 rfl rfl rfl (w_174 hw) (w_65 hw) (mkLen pd___BIII_I rfl) (by decide)
theorem w_172 {W : Wd} (hw : Ws W) : Wok W (Jvm.Cond.methodLink "java/lang/StringLatin1" (95 : Nat) ({ cls := "java/lang/StringLatin1", name := "indexOfChar", desc := "([BIII)I" } : Jvm.MethodName)) := hw.1 _ (List.mem_of_getElem? (i := 172) rfl)
theorem w_173 {W : Wd} (hw : Ws W) : Wok W (Jvm.Cond.static ({ cls := "java/lang/StringLatin1", name := "indexOfChar", desc := "([BIII)I" } : Jvm.MethodName)) := hw.1 _ (List.mem_of_getElem? (i := 173) rfl)
theorem d_jdk_43_22_36 : Dc jdk_43_method_22_code 36 (.ireturn) 1 37 := ⟨by decide +kernel, rfl⟩
theorem d_jdk_43_22_27 : Dc jdk_43_method_22_code 27 (.iconst (-1)) 1 28 := ⟨by decide +kernel, rfl⟩
theorem d_jdk_43_22_28 : Dc jdk_43_method_22_code 28 (.ireturn) 1 29 := ⟨by decide +kernel, rfl⟩
def M_lio64 : Mt := (⟨"java/lang/StringLatin1", "indexOf", "([BIII)I"⟩, jdk_43_method_22_code, 4, some .int, ⟨1, 0, 0, 17⟩)
theorem nm_M_lio64 : mN M_lio64 = ⟨"java/lang/StringLatin1", "indexOf", "([BIII)I"⟩ := by delta mN M_lio64; rfl
set_option maxRecDepth 65536 in
set_option maxHeartbeats 40000000 in
theorem rm_lio64 {W : Wd} (hw : Ws W) (b : Addr) (rb : Bool) (xb : Bool) (ob : Bool) (zs : List Nat) (F : List En) (hz : ∀ z ∈ zs, z < 256) (hl : zs.length ≤ 64) : Ct W M_lio64 [.ref b, .int 64, .int 0, .int (ix zs.length)] ((b, rb, .inr (.byte, xb, ob, zb zs)) :: F) (fun v H' => (∃ j : Nat, v = some (.int (ix j)) ∧ H' = ((b, rb, .inr (.byte, xb, ob, zb zs)) :: F) ∧ j < zs.length ∧ Nc 64 zs 0 j ∧ zs.getD j 0 = 64) ∨ (v = some (.int (-1)) ∧ H' = ((b, rb, .inr (.byte, xb, ob, zb zs)) :: F) ∧ Nc 64 zs 0 zs.length)) := by
  refine Ct.intro (L0 := [.val (.ref b), .val (.int 64), .val (.int 0), .val (.int (ix zs.length))]) (plainFor_of_name pf_java_lang_StringLatin1) rfl (fun K => ?_)
  refine Wp.iloadN rfl d_jdk_43_22_0 ?_
  refine Wp.callS nm_M_lio64 (fun _ => rm_ce64 hw.set  _ ) (mk_M_ce64 hw) (w_67 hw) (w_68 hw) rfl rfl (Wn := 0) rfl rfl (by decide) d_jdk_43_22_1 ?_
  rintro _ _ ⟨rfl, rfl⟩
  refine Wp.ifT (by decide) d_jdk_43_22_4 ?_
  refine Wp.iloadN rfl d_jdk_43_22_9 ?_
  refine Wp.iconst lc_0 d_jdk_43_22_10 ?_
  refine Wp.callS nm_M_lio64 (fun _ => rm_mx hw.set  _ ) (mk_M_mx hw) (w_70 hw) (w_71 hw) rfl rfl (Wn := 0) rfl rfl (by decide) d_jdk_43_22_11 ?_
  rintro _ _ ⟨rfl, rfl⟩
  refine Wp.istoreN (L' := [.val (.ref b), .val (.int 64), .val (.int 0), .val (.int (ix zs.length))]) rfl d_jdk_43_22_14 ?_
  refine Wp.iloadN rfl d_jdk_43_22_15 ?_
  refine Wp.aloadN rfl rfl d_jdk_43_22_16 ?_
  refine Wp.alen (z := (ix zs.length)) 0 rfl (zb_lenI _) d_jdk_43_22_17 ?_
  refine Wp.callS nm_M_lio64 (fun _ => rm_mn hw.set zs.length _ ) (mk_M_mn hw) (w_74 hw) (w_75 hw) rfl rfl (Wn := 0) rfl rfl (by decide) d_jdk_43_22_18 ?_
  rintro _ _ ⟨rfl, rfl⟩
  refine Wp.istoreN (L' := [.val (.ref b), .val (.int 64), .val (.int 0), .val (.int (ix zs.length))]) rfl d_jdk_43_22_21 ?_
  refine Wp.iloadN rfl d_jdk_43_22_22 ?_
  refine Wp.iloadN rfl d_jdk_43_22_23 ?_
  by_cases b24_1 : 0 < zs.length
  · refine Wp.icT (tlt ((ix_lt (i := 0) (j := zs.length) (by omega) (by omega)).mpr b24_1)).1 d_jdk_43_22_24 ?_
    refine Wp.aloadN rfl rfl d_jdk_43_22_29 ?_
    refine Wp.iloadN rfl d_jdk_43_22_30 ?_
    refine Wp.iloadN rfl d_jdk_43_22_31 ?_
    refine Wp.iloadN rfl d_jdk_43_22_32 ?_
    refine Wp.callS nm_M_lio64 (fun _ => rm_ioc64 hw.set b rb xb ob zs _ hz (by omega)) (mk_M_ioc64 hw) (w_172 hw) (w_173 hw) rfl rfl (Wn := 0) rfl rfl (by decide) d_jdk_43_22_33 ?_
    rintro _ _ (⟨j_2, rfl, rfl, hf3, hf4, hf5⟩ | ⟨rfl, rfl, hf6⟩)
    · refine Wp.iret rfl d_jdk_43_22_36 (by decide) (by decide) ?_
      exact Or.inl ⟨j_2, rfl, rfl, hf3, hf4, hf5⟩
    · refine Wp.iret rfl d_jdk_43_22_36 (by decide) (by decide) ?_
      exact Or.inr (⟨rfl, rfl, hf6⟩)
  · refine Wp.icF (flt (fun q => b24_1 ((ix_lt (i := 0) (j := zs.length) (by omega) (by omega)).mp q))).1 d_jdk_43_22_24 ?_
    refine Wp.iconst lc_m1 d_jdk_43_22_27 ?_
    refine Wp.iret rfl d_jdk_43_22_28 (by decide) (by decide) ?_
    exact Or.inr (⟨rfl, rfl, (fun m h1 h2 => by omega)⟩)
theorem d_jdk_42_80_0 : Dc jdk_42_method_80_code 0 (.aload_n 0) 1 1 := ⟨by decide +kernel, rfl⟩
theorem d_jdk_42_80_1 : Dc jdk_42_method_80_code 1 (.invokevirtual 492) 3 4 := ⟨by decide +kernel, rfl⟩
theorem d_jdk_42_80_4 : Bj jdk_42_method_80_code 4 (.ifCond .eq 19) 19 7 23 := ⟨by decide +kernel, rfl, by decide, rfl⟩
theorem d_jdk_42_80_7 : Dc jdk_42_method_80_code 7 (.aload_n 0) 1 8 := ⟨by decide +kernel, rfl⟩
theorem d_jdk_42_80_8 : Dc jdk_42_method_80_code 8 (.getfield 9) 3 11 := ⟨by decide +kernel, rfl⟩
theorem d_jdk_42_80_11 : Dc jdk_42_method_80_code 11 (.iload_n 1) 1 12 := ⟨by decide +kernel, rfl⟩
theorem d_jdk_42_80_12 : Dc jdk_42_method_80_code 12 (.iload_n 2) 1 13 := ⟨by decide +kernel, rfl⟩
theorem d_jdk_42_80_13 : Dc jdk_42_method_80_code 13 (.aload_n 0) 1 14 := ⟨by decide +kernel, rfl⟩
theorem d_jdk_42_80_14 : Dc jdk_42_method_80_code 14 (.invokevirtual 505) 3 17 := ⟨by decide +kernel, rfl⟩
theorem d_jdk_42_80_17 : Dc jdk_42_method_80_code 17 (.invokestatic 637) 3 20 := ⟨by decide +kernel, rfl⟩
theorem w_66 {W : Wd} (hw : Ws W) : Wok W (Jvm.Cond.code ({ cls := "java/lang/StringLatin1", name := "indexOf", desc := "([BIII)I" } : Jvm.MethodName) jdk_43_method_22_code (4 : Nat) (Option.some Jvm.ClassFile.FieldType.int)) := hw.1 _ (List.mem_of_getElem? (i := 66) rfl)
theorem mk_M_lio64 {W : Wd} (hw : Ws W) : Mk W M_lio64 ⟨"java/lang/StringLatin1", "indexOf", "([BIII)I"⟩ 4 := Mk.of nm_M_lio64 rfl rfl rfl (w_66 hw) (w_65 hw) (mkLen pd___BIII_I rfl) (by decide)
theorem w_63 {W : Wd} (hw : Ws W) : Wok W (Jvm.Cond.methodLink "java/lang/String" (637 : Nat) ({ cls := "java/lang/StringLatin1", name := "indexOf", desc := "([BIII)I" } : Jvm.MethodName)) := hw.1 _ (List.mem_of_getElem? (i := 63) rfl)
theorem w_64 {W : Wd} (hw : Ws W) : Wok W (Jvm.Cond.static ({ cls := "java/lang/StringLatin1", name := "indexOf", desc := "([BIII)I" } : Jvm.MethodName)) := hw.1 _ (List.mem_of_getElem? (i := 64) rfl)
theorem d_jdk_42_80_20 : Bj jdk_42_method_80_code 20 (.goto 16) 16 23 36 := ⟨by decide +kernel, rfl, by decide, rfl⟩
theorem d_jdk_42_80_36 : Dc jdk_42_method_80_code 36 (.ireturn) 1 37 := ⟨by decide +kernel, rfl⟩
def M_sio64 : Mt := (⟨"java/lang/String", "indexOf", "(II)I"⟩, jdk_42_method_80_code, 3, some .int, ⟨2, 0, 0, 32⟩)
theorem nm_M_sio64 : mN M_sio64 = ⟨"java/lang/String", "indexOf", "(II)I"⟩ := by delta mN M_sio64; rfl
set_option maxRecDepth 65536 in
set_option maxHeartbeats 40000000 in
theorem rm_sio64 {W : Wd} (hw : Ws W) (s : Addr) (b : Addr) (rs : Bool) (rb : Bool) (xb : Bool) (ob : Bool) (zs : List Nat) (F : List En) (hz : ∀ z ∈ zs, z < 256) (hl : zs.length ≤ 64) : Ct W M_sio64 [.ref s, .int 64, .int 0] ((oStr rs s (.ref b) (.int 0)) :: (b, rb, .inr (.byte, xb, ob, zb zs)) :: F) (fun v H' => (∃ j : Nat, v = some (.int (ix j)) ∧ H' = ((oStr rs s (.ref b) (.int 0)) :: (b, rb, .inr (.byte, xb, ob, zb zs)) :: F) ∧ j < zs.length ∧ Nc 64 zs 0 j ∧ zs.getD j 0 = 64) ∨ (v = some (.int (-1)) ∧ H' = ((oStr rs s (.ref b) (.int 0)) :: (b, rb, .inr (.byte, xb, ob, zb zs)) :: F) ∧ Nc 64 zs 0 zs.length)) := by
  refine Ct.intro (L0 := [.val (.ref s), .val (.int 64), .val (.int 0)]) (plainFor_of_name pf_java_lang_String) rfl (fun K => ?_)
  refine Wp.aloadN rfl rfl d_jdk_42_80_0 ?_
  refine Wp.callV nm_M_sio64 (fun _ => rm_il1 hw.set s b rs _ ) 0 rfl (mk_M_il1 hw) (w_47 hw) (w_48 hw) (w_50 hw) (w_49 hw) (S' := "") (Or.inl rfl) (by decide) rfl rfl rfl (Wn := 0) rfl rfl (by decide) d_jdk_42_80_1 ?_
  rintro _ _ ⟨rfl, rfl⟩
  refine Wp.ifF (by decide) d_jdk_42_80_4 ?_
  refine Wp.aloadN rfl rfl d_jdk_42_80_7 ?_
  refine Wp.getF nm_M_sio64 (host := "") (Or.inl (w_28 hw)) Via.refl 0 0 rfl rfl d_jdk_42_80_8 ?_
  refine Wp.iloadN rfl d_jdk_42_80_11 ?_
  refine Wp.iloadN rfl d_jdk_42_80_12 ?_
  refine Wp.aloadN rfl rfl d_jdk_42_80_13 ?_
  refine Wp.callV nm_M_sio64 (fun _ => rm_len hw.set s b rs rb xb ob zs _ ) 0 rfl (mk_M_len hw) (w_53 hw) (w_54 hw) (w_56 hw) (w_55 hw) (S' := "") (Or.inl rfl) (by decide) rfl rfl rfl (Wn := 3) rfl rfl (by decide) d_jdk_42_80_14 ?_
  rintro _ _ ⟨rfl, rfl⟩
  refine Wp.perm [1, 0] 2 pp_1_0 (H' := ((b, rb, .inr (.byte, xb, ob, zb zs)) :: (oStr rs s (.ref b) (.int 0)) :: F)) rfl ?_
  refine Wp.callS nm_M_sio64 (fun _ => rm_lio64 hw.set b rb xb ob zs _ hz (by omega)) (mk_M_lio64 hw) (w_63 hw) (w_64 hw) rfl rfl (Wn := 0) rfl rfl (by decide) d_jdk_42_80_17 ?_
  rintro _ _ (⟨j_1, rfl, rfl, hf2, hf3, hf4⟩ | ⟨rfl, rfl, hf5⟩)
  · refine Wp.goto d_jdk_42_80_20 ?_
    refine Wp.perm [1, 0] 2 pp_1_0 (H' := ((oStr rs s (.ref b) (.int 0)) :: (b, rb, .inr (.byte, xb, ob, zb zs)) :: F)) rfl ?_
    refine Wp.iret rfl d_jdk_42_80_36 (by decide) (by decide) ?_
    exact Or.inl ⟨j_1, rfl, rfl, hf2, hf3, hf4⟩
  · refine Wp.goto d_jdk_42_80_20 ?_
    refine Wp.perm [1, 0] 2 pp_1_0 (H' := ((oStr rs s (.ref b) (.int 0)) :: (b, rb, .inr (.byte, xb, ob, zb zs)) :: F)) rfl ?_
    refine Wp.iret rfl d_jdk_42_80_36 (by decide) (by decide) ?_
    exact Or.inr (⟨rfl, rfl, hf5⟩)
theorem d_jdk_42_79_0 : Dc jdk_42_method_79_code 0 (.aload_n 0) 1 1 := ⟨by decide +kernel, rfl⟩
theorem d_jdk_42_79_1 : Dc jdk_42_method_79_code 1 (.iload_n 1) 1 2 := ⟨by decide +kernel, rfl⟩
theorem d_jdk_42_79_2 : Dc jdk_42_method_79_code 2 (.iconst 0) 1 3 := ⟨by decide +kernel, rfl⟩
theorem d_jdk_42_79_3 : Dc jdk_42_method_79_code 3 (.invokevirtual 633) 3 6 := ⟨by decide +kernel, rfl⟩
theorem w_45 {W : Wd} (hw : Ws W) : Wok W (Jvm.Cond.selects "java/lang/String" ({ cls := "java/lang/String", name := "indexOf", desc := "(II)I" } : Jvm.MethodName) ({ cls := "java/lang/String", name := "indexOf", desc := "(II)I" } : Jvm.MethodName)) := hw.1 _ (List.mem_of_getElem? (i := 45) rfl)
theorem w_46 {W : Wd} (hw : Ws W) : Wok W (Jvm.Cond.code ({ cls := "java/lang/String", name := "indexOf", desc := "(II)I" } : Jvm.MethodName) jdk_42_method_80_code (3 : Nat) (Option.some Jvm.ClassFile.FieldType.int)) := hw.1 _ (List.mem_of_getElem? (i := 46) rfl)
theorem mk_M_sio64 {W : Wd} (hw : Ws W) : Mk W M_sio64 ⟨"java/lang/String", "indexOf", "(II)I"⟩ 2 := Mk.of nm_M_sio64 rfl rfl rfl (w_46 hw) (w_11 hw) (mkLen pd__II_I rfl) (by decide)
theorem w_42 {W : Wd} (hw : Ws W) : Wok W (Jvm.Cond.methodLink "java/lang/String" (633 : Nat) ({ cls := "java/lang/String", name := "indexOf", desc := "(II)I" } : Jvm.MethodName)) := hw.1 _ (List.mem_of_getElem? (i := 42) rfl)
theorem w_43 {W : Wd} (hw : Ws W) : Wok W (Jvm.Cond.declares ({ cls := "java/lang/String", name := "indexOf", desc := "(II)I" } : Jvm.MethodName)) := hw.1 _ (List.mem_of_getElem? (i := 43) rfl)
theorem w_44 {W : Wd} (hw : Ws W) : Wok W (Jvm.Cond.instanceMethod ({ cls := "java/lang/String", name := "indexOf", desc := "(II)I" } : Jvm.MethodName)) := hw.1 _ (List.mem_of_getElem? (i := 44) rfl)
theorem d_jdk_42_79_6 : Dc jdk_42_method_79_code 6 (.ireturn) 1 7 := ⟨by decide +kernel, rfl⟩
def M_si064 : Mt := (⟨"java/lang/String", "indexOf", "(I)I"⟩, jdk_42_method_79_code, 2, some .int, ⟨3, 0, 0, 46⟩)
theorem nm_M_si064 : mN M_si064 = ⟨"java/lang/String", "indexOf", "(I)I"⟩ := by delta mN M_si064; rfl
set_option maxRecDepth 65536 in
set_option maxHeartbeats 40000000 in
theorem rm_si064 {W : Wd} (hw : Ws W) (s : Addr) (b : Addr) (rs : Bool) (rb : Bool) (xb : Bool) (ob : Bool) (zs : List Nat) (F : List En) (hz : ∀ z ∈ zs, z < 256) (hl : zs.length ≤ 64) : Ct W M_si064 [.ref s, .int 64] ((oStr rs s (.ref b) (.int 0)) :: (b, rb, .inr (.byte, xb, ob, zb zs)) :: F) (fun v H' => (∃ j : Nat, v = some (.int (ix j)) ∧ H' = ((oStr rs s (.ref b) (.int 0)) :: (b, rb, .inr (.byte, xb, ob, zb zs)) :: F) ∧ j < zs.length ∧ Nc 64 zs 0 j ∧ zs.getD j 0 = 64) ∨ (v = some (.int (-1)) ∧ H' = ((oStr rs s (.ref b) (.int 0)) :: (b, rb, .inr (.byte, xb, ob, zb zs)) :: F) ∧ Nc 64 zs 0 zs.length)) := by
  refine Ct.intro (L0 := [.val (.ref s), .val (.int 64)]) (plainFor_of_name pf_java_lang_String) rfl (fun K => ?_)
  refine Wp.aloadN rfl rfl d_jdk_42_79_0 ?_
  refine Wp.iloadN rfl d_jdk_42_79_1 ?_
  refine Wp.iconst lc_0 d_jdk_42_79_2 ?_
  refine Wp.callV nm_M_si064 (fun _ => rm_sio64 hw.set s b rs rb xb ob zs _ hz (by omega)) 0 rfl (mk_M_sio64 hw) (w_42 hw) (w_43 hw) (w_45 hw) (w_44 hw) (S' := "") (Or.inl rfl) (by decide) rfl rfl rfl (Wn := 0) rfl rfl (by decide) d_jdk_42_79_3 ?_
  rintro _ _ (⟨j_1, rfl, rfl, hf2, hf3, hf4⟩ | ⟨rfl, rfl, hf5⟩)
  · refine Wp.iret rfl d_jdk_42_79_6 (by decide) (by decide) ?_
    exact Or.inl ⟨j_1, rfl, rfl, hf2, hf3, hf4⟩
  · refine Wp.iret rfl d_jdk_42_79_6 (by decide) (by decide) ?_
    exact Or.inr (⟨rfl, rfl, hf5⟩)
def M_ce46 : Mt := (⟨"java/lang/StringLatin1", "canEncode", "(I)Z"⟩, jdk_43_method_4_code, 1, some .boolean, ⟨0, 0, 0, 0⟩)
theorem nm_M_ce46 : mN M_ce46 = ⟨"java/lang/StringLatin1", "canEncode", "(I)Z"⟩ := by delta mN M_ce46; rfl
set_option maxRecDepth 65536 in
set_option maxHeartbeats 40000000 in
theorem rm_ce46 {W : Wd} (hw : Ws W) (F : List En) : Ct W M_ce46 [.int 46] F (fun v H' => v = some (.int 1) ∧ H' = F) := by
  refine Ct.intro (L0 := [.val (.int 46)]) (plainFor_of_name pf_java_lang_StringLatin1) rfl (fun K => ?_)
  refine Wp.iloadN rfl d_jdk_43_4_0 ?_
  refine Wp.ifF (by decide) d_jdk_43_4_1 ?_
  refine Wp.iloadN rfl d_jdk_43_4_4 ?_
  refine Wp.sipush ls_255 d_jdk_43_4_5 ?_
  refine Wp.icF (by decide) d_jdk_43_4_8 ?_
  refine Wp.iconst lc_1 d_jdk_43_4_11 ?_
  refine Wp.goto d_jdk_43_4_12 ?_
  refine Wp.iretN (z := 1) (by simp) rfl (by decide) d_jdk_43_4_16 (by decide) (by decide) ?_
  exact ⟨rfl, rfl⟩
def M_ioc46 : Mt := (⟨"java/lang/StringLatin1", "indexOfChar", "([BIII)I"⟩, jdk_43_method_23_code, 6, some .int, ⟨0, 0, 0, 0⟩)
theorem nm_M_ioc46 : mN M_ioc46 = ⟨"java/lang/StringLatin1", "indexOfChar", "([BIII)I"⟩ := by delta mN M_ioc46; rfl
set_option maxRecDepth 65536 in
set_option maxHeartbeats 40000000 in
theorem lp_ioc46 {W : Wd} {K : Kx} (hw : Ws W) (b : Addr) (rb xb ob : Bool) (zs : List Nat) (F : List En) (hz : ∀ z ∈ zs, z < 256) (hl : zs.length ≤ 64) (Q : Option Value → List En → Prop) (hQ1 : ∀ j, j < zs.length → Nc 46 zs 0 j → zs.getD j 0 = 46 → Q (some (.int (ix j))) ((b, rb, .inr (.byte, xb, ob, zb zs)) :: F)) (hQ0 : Nc 46 zs 0 zs.length → Q (some (.int (-1))) ((b, rb, .inr (.byte, xb, ob, zb zs)) :: F)) :
    ∀ (t i : Nat), i + t = zs.length → Nc 46 zs 0 i → Wp W K M_ioc46 Q ((b, rb, .inr (.byte, xb, ob, zb zs)) :: F) 0 0 7 [.val (.ref b), .val (.int 46), .val (.int 0), .val (.int (ix zs.length)), .val (.int 46), .val (.int (ix i))] []
  | 0, i, hi, hs => by
    refine Wp.iload rfl d_jdk_43_23_7 ?_
    refine Wp.iloadN rfl d_jdk_43_23_9 ?_
    refine Wp.icT (flt (fun q => by have := (ix_lt (i := i) (j := zs.length) (by omega) (by omega)).mp q; omega)).2.1 d_jdk_43_23_10 ?_
    refine Wp.iconst lc_m1 d_jdk_43_23_31 ?_
    refine Wp.iret rfl d_jdk_43_23_32 (by decide) (by decide) ?_
    exact hQ0 (by have e : i = zs.length := by omega
                  exact e ▸ hs)
  | t + 1, i, hi, hs => by
    have hi2 : i < zs.length := by omega
    refine Wp.iload rfl d_jdk_43_23_7 ?_
    refine Wp.iloadN rfl d_jdk_43_23_9 ?_
    refine Wp.icF (tlt ((ix_lt (i := i) (j := zs.length) (by omega) (by omega)).mpr hi2)).2.1 d_jdk_43_23_10 ?_
    refine Wp.aloadN rfl rfl d_jdk_43_23_13 ?_
    refine Wp.iload rfl d_jdk_43_23_14 ?_
    refine Wp.baload 0 i rfl (ix_nn (by omega)) (ix_nat (by omega)) (zb_get hi2) d_jdk_43_23_16 ?_
    refine Wp.iload rfl d_jdk_43_23_17 ?_
    by_cases b19_1 : (by8 (ix (zs.getD i 0))) = 46
    · refine Wp.icF (teq b19_1).2 d_jdk_43_23_19 ?_
      refine Wp.iload rfl d_jdk_43_23_22 ?_
      refine Wp.iret rfl d_jdk_43_23_24 (by decide) (by decide) ?_
      exact hQ1 i hi2 hs (by8_eqN (zs_lt hz i) (by decide) b19_1)
    · refine Wp.icT (feq b19_1).2 d_jdk_43_23_19 ?_
      refine Wp.iinc (z := (ix (i + 1))) (L' := [.val (.ref b), .val (.int 46), .val (.int 0), .val (.int (ix zs.length)), .val (.int 46), .val (.int (ix (i + 1)))]) rfl (ix_inc _) rfl d_jdk_43_23_25 ?_
      refine Wp.goto d_jdk_43_23_28 ?_
      exact lp_ioc46 hw b rb xb ob zs F hz hl Q hQ1 hQ0 t (i + 1) (by omega) (hs.snoc (fun q => b19_1 (by rw [q]; decide)))
set_option maxRecDepth 65536 in
set_option maxHeartbeats 40000000 in
theorem rm_ioc46 {W : Wd} (hw : Ws W) (b : Addr) (rb : Bool) (xb : Bool) (ob : Bool) (zs : List Nat) (F : List En) (hz : ∀ z ∈ zs, z < 256) (hl : zs.length ≤ 64) : Ct W M_ioc46 [.ref b, .int 46, .int 0, .int (ix zs.length)] ((b, rb, .inr (.byte, xb, ob, zb zs)) :: F) (fun v H' => (∃ j : Nat, v = some (.int (ix j)) ∧ H' = ((b, rb, .inr (.byte, xb, ob, zb zs)) :: F) ∧ j < zs.length ∧ Nc 46 zs 0 j ∧ zs.getD j 0 = 46) ∨ (v = some (.int (-1)) ∧ H' = ((b, rb, .inr (.byte, xb, ob, zb zs)) :: F) ∧ Nc 46 zs 0 zs.length)) := by
  refine Ct.intro (L0 := [.val (.ref b), .val (.int 46), .val (.int 0), .val (.int (ix zs.length)), .unset, .unset]) (plainFor_of_name pf_java_lang_StringLatin1) rfl (fun K => ?_)
  refine Wp.iloadN rfl d_jdk_43_23_0 ?_
  refine Wp.i2b (z := 46) (by decide) d_jdk_43_23_1 ?_
  refine Wp.istore (L' := [.val (.ref b), .val (.int 46), .val (.int 0), .val (.int (ix zs.length)), .val (.int 46), .unset]) rfl d_jdk_43_23_2 ?_
  refine Wp.iloadN rfl d_jdk_43_23_4 ?_
  refine Wp.istore (L' := [.val (.ref b), .val (.int 46), .val (.int 0), .val (.int (ix zs.length)), .val (.int 46), .val (.int 0)]) rfl d_jdk_43_23_5 ?_
  exact lp_ioc46 hw b rb xb ob zs F hz hl _ (fun j q1 q2 q3 => Or.inl ⟨j, rfl, rfl, q1, q2, q3⟩) (fun q => Or.inr ⟨rfl, rfl, q⟩) zs.length 0 (by omega) (Nc.nil _ _ _)
theorem mk_M_ce46 {W : Wd} (hw : Ws W) : Mk W M_ce46 ⟨"java/lang/StringLatin1", "canEncode", "(I)Z"⟩ 1 := Mk.of nm_M_ce46 rfl rfl rfl (w_69 hw) (w_65 hw) (mkLen pd__I_Z rfl) (by decide)
theorem mk_M_ioc46 {W : Wd} (hw : Ws W) : Mk W M_ioc46 ⟨"java/lang/StringLatin1", "indexOfChar", "([BIII)I"⟩ 4 := Mk.of nm_M_ioc46 rfl rfl rfl (w_174 hw) (w_65 hw) (mkLen pd___BIII_I rfl) (by decide)
def M_lio46 : Mt := (⟨"java/lang/StringLatin1", "indexOf", "([BIII)I"⟩, jdk_43_method_22_code, 4, some .int, ⟨1, 0, 0, 17⟩)
theorem nm_M_lio46 : mN M_lio46 = ⟨"java/lang/StringLatin1", "indexOf", "([BIII)I"⟩ := by delta mN M_lio46; rfl
set_option maxRecDepth 65536 in
set_option maxHeartbeats 40000000 in
theorem rm_lio46 {W : Wd} (hw : Ws W) (b : Addr) (rb : Bool) (xb : Bool) (ob : Bool) (zs : List Nat) (F : List En) (hz : ∀ z ∈ zs, z < 256) (hl : zs.length ≤ 64) : Ct W M_lio46 [.ref b, .int 46, .int 0, .int (ix zs.length)] ((b, rb, .inr (.byte, xb, ob, zb zs)) :: F) (fun v H' => (∃ j : Nat, v = some (.int (ix j)) ∧ H' = ((b, rb, .inr (.byte, xb, ob, zb zs)) :: F) ∧ j < zs.length ∧ Nc 46 zs 0 j ∧ zs.getD j 0 = 46) ∨ (v = some (.int (-1)) ∧ H' = ((b, rb, .inr (.byte, xb, ob, zb zs)) :: F) ∧ Nc 46 zs 0 zs.length)) := by
  refine Ct.intro (L0 := [.val (.ref b), .val (.int 46), .val (.int 0), .val (.int (ix zs.length))]) (plainFor_of_name pf_java_lang_StringLatin1) rfl (fun K => ?_)
  refine Wp.iloadN rfl d_jdk_43_22_0 ?_
  refine Wp.callS nm_M_lio46 (fun _ => rm_ce46 hw.set  _ ) (mk_M_ce46 hw) (w_67 hw) (w_68 hw) rfl rfl (Wn := 0) rfl rfl (by decide) d_jdk_43_22_1 ?_
  rintro _ _ ⟨rfl, rfl⟩
  refine Wp.ifT (by decide) d_jdk_43_22_4 ?_
  refine Wp.iloadN rfl d_jdk_43_22_9 ?_
  refine Wp.iconst lc_0 d_jdk_43_22_10 ?_
  refine Wp.callS nm_M_lio46 (fun _ => rm_mx hw.set  _ ) (mk_M_mx hw) (w_70 hw) (w_71 hw) rfl rfl (Wn := 0) rfl rfl (by decide) d_jdk_43_22_11 ?_
  rintro _ _ ⟨rfl, rfl⟩
  refine Wp.istoreN (L' := [.val (.ref b), .val (.int 46), .val (.int 0), .val (.int (ix zs.length))]) rfl d_jdk_43_22_14 ?_
  refine Wp.iloadN rfl d_jdk_43_22_15 ?_
  refine Wp.aloadN rfl rfl d_jdk_43_22_16 ?_
  refine Wp.alen (z := (ix zs.length)) 0 rfl (zb_lenI _) d_jdk_43_22_17 ?_
  refine Wp.callS nm_M_lio46 (fun _ => rm_mn hw.set zs.length _ ) (mk_M_mn hw) (w_74 hw) (w_75 hw) rfl rfl (Wn := 0) rfl rfl (by decide) d_jdk_43_22_18 ?_
  rintro _ _ ⟨rfl, rfl⟩
  refine Wp.istoreN (L' := [.val (.ref b), .val (.int 46), .val (.int 0), .val (.int (ix zs.length))]) rfl d_jdk_43_22_21 ?_
  refine Wp.iloadN rfl d_jdk_43_22_22 ?_
  refine Wp.iloadN rfl d_jdk_43_22_23 ?_
  by_cases b24_1 : 0 < zs.length
  · refine Wp.icT (tlt ((ix_lt (i := 0) (j := zs.length) (by omega) (by omega)).mpr b24_1)).1 d_jdk_43_22_24 ?_
    refine Wp.aloadN rfl rfl d_jdk_43_22_29 ?_
    refine Wp.iloadN rfl d_jdk_43_22_30 ?_
    refine Wp.iloadN rfl d_jdk_43_22_31 ?_
    refine Wp.iloadN rfl d_jdk_43_22_32 ?_
    refine Wp.callS nm_M_lio46 (fun _ => rm_ioc46 hw.set b rb xb ob zs _ hz (by omega)) (mk_M_ioc46 hw) (w_172 hw) (w_173 hw) rfl rfl (Wn := 0) rfl rfl (by decide) d_jdk_43_22_33 ?_
    rintro _ _ (⟨j_2, rfl, rfl, hf3, hf4, hf5⟩ | ⟨rfl, rfl, hf6⟩)
    · refine Wp.iret rfl d_jdk_43_22_36 (by decide) (by decide) ?_
      exact Or.inl ⟨j_2, rfl, rfl, hf3, hf4, hf5⟩
    · refine Wp.iret rfl d_jdk_43_22_36 (by decide) (by decide) ?_
      exact Or.inr (⟨rfl, rfl, hf6⟩)
  · refine Wp.icF (flt (fun q => b24_1 ((ix_lt (i := 0) (j := zs.length) (by omega) (by omega)).mp q))).1 d_jdk_43_22_24 ?_
    refine Wp.iconst lc_m1 d_jdk_43_22_27 ?_
    refine Wp.iret rfl d_jdk_43_22_28 (by decide) (by decide) ?_
    exact Or.inr (⟨rfl, rfl, (fun m h1 h2 => by omega)⟩)
theorem mk_M_lio46 {W : Wd} (hw : Ws W) : Mk W M_lio46 ⟨"java/lang/StringLatin1", "indexOf", "([BIII)I"⟩ 4 := Mk.of nm_M_lio46 rfl rfl rfl (w_66 hw) (w_65 hw) (mkLen pd___BIII_I rfl) (by decide)
def M_sio46 : Mt := (⟨"java/lang/String", "indexOf", "(II)I"⟩, jdk_42_method_80_code, 3, some .int, ⟨2, 0, 0, 32⟩)
theorem nm_M_sio46 : mN M_sio46 = ⟨"java/lang/String", "indexOf", "(II)I"⟩ := by delta mN M_sio46; rfl
set_option maxRecDepth 65536 in
set_option maxHeartbeats 40000000 in
theorem rm_sio46 {W : Wd} (hw : Ws W) (s : Addr) (b : Addr) (rs : Bool) (rb : Bool) (xb : Bool) (ob : Bool) (zs : List Nat) (F : List En) (hz : ∀ z ∈ zs, z < 256) (hl : zs.length ≤ 64) : Ct W M_sio46 [.ref s, .int 46, .int 0] ((oStr rs s (.ref b) (.int 0)) :: (b, rb, .inr (.byte, xb, ob, zb zs)) :: F) (fun v H' => (∃ j : Nat, v = some (.int (ix j)) ∧ H' = ((oStr rs s (.ref b) (.int 0)) :: (b, rb, .inr (.byte, xb, ob, zb zs)) :: F) ∧ j < zs.length ∧ Nc 46 zs 0 j ∧ zs.getD j 0 = 46) ∨ (v = some (.int (-1)) ∧ H' = ((oStr rs s (.ref b) (.int 0)) :: (b, rb, .inr (.byte, xb, ob, zb zs)) :: F) ∧ Nc 46 zs 0 zs.length)) := by
  refine Ct.intro (L0 := [.val (.ref s), .val (.int 46), .val (.int 0)]) (plainFor_of_name pf_java_lang_String) rfl (fun K => ?_)
  refine Wp.aloadN rfl rfl d_jdk_42_80_0 ?_
  refine Wp.callV nm_M_sio46 (fun _ => rm_il1 hw.set s b rs _ ) 0 rfl (mk_M_il1 hw) (w_47 hw) (w_48 hw) (w_50 hw) (w_49 hw) (S' := "") (Or.inl rfl) (by decide) rfl rfl rfl (Wn := 0) rfl rfl (by decide) d_jdk_42_80_1 ?_
  rintro _ _ ⟨rfl, rfl⟩
  refine Wp.ifF (by decide) d_jdk_42_80_4 ?_
  refine Wp.aloadN rfl rfl d_jdk_42_80_7 ?_
  refine Wp.getF nm_M_sio46 (host := "") (Or.inl (w_28 hw)) Via.refl 0 0 rfl rfl d_jdk_42_80_8 ?_
  refine Wp.iloadN rfl d_jdk_42_80_11 ?_
  refine Wp.iloadN rfl d_jdk_42_80_12 ?_
  refine Wp.aloadN rfl rfl d_jdk_42_80_13 ?_
  refine Wp.callV nm_M_sio46 (fun _ => rm_len hw.set s b rs rb xb ob zs _ ) 0 rfl (mk_M_len hw) (w_53 hw) (w_54 hw) (w_56 hw) (w_55 hw) (S' := "") (Or.inl rfl) (by decide) rfl rfl rfl (Wn := 3) rfl rfl (by decide) d_jdk_42_80_14 ?_
  rintro _ _ ⟨rfl, rfl⟩
  refine Wp.perm [1, 0] 2 pp_1_0 (H' := ((b, rb, .inr (.byte, xb, ob, zb zs)) :: (oStr rs s (.ref b) (.int 0)) :: F)) rfl ?_
  refine Wp.callS nm_M_sio46 (fun _ => rm_lio46 hw.set b rb xb ob zs _ hz (by omega)) (mk_M_lio46 hw) (w_63 hw) (w_64 hw) rfl rfl (Wn := 0) rfl rfl (by decide) d_jdk_42_80_17 ?_
  rintro _ _ (⟨j_1, rfl, rfl, hf2, hf3, hf4⟩ | ⟨rfl, rfl, hf5⟩)
  · refine Wp.goto d_jdk_42_80_20 ?_
    refine Wp.perm [1, 0] 2 pp_1_0 (H' := ((oStr rs s (.ref b) (.int 0)) :: (b, rb, .inr (.byte, xb, ob, zb zs)) :: F)) rfl ?_
    refine Wp.iret rfl d_jdk_42_80_36 (by decide) (by decide) ?_
    exact Or.inl ⟨j_1, rfl, rfl, hf2, hf3, hf4⟩
  · refine Wp.goto d_jdk_42_80_20 ?_
    refine Wp.perm [1, 0] 2 pp_1_0 (H' := ((oStr rs s (.ref b) (.int 0)) :: (b, rb, .inr (.byte, xb, ob, zb zs)) :: F)) rfl ?_
    refine Wp.iret rfl d_jdk_42_80_36 (by decide) (by decide) ?_
    exact Or.inr (⟨rfl, rfl, hf5⟩)
theorem mk_M_sio46 {W : Wd} (hw : Ws W) : Mk W M_sio46 ⟨"java/lang/String", "indexOf", "(II)I"⟩ 2 := Mk.of nm_M_sio46 rfl rfl rfl (w_46 hw) (w_11 hw) (mkLen pd__II_I rfl) (by decide)
def M_si046 : Mt := (⟨"java/lang/String", "indexOf", "(I)I"⟩, jdk_42_method_79_code, 2, some .int, ⟨3, 0, 0, 46⟩)
theorem nm_M_si046 : mN M_si046 = ⟨"java/lang/String", "indexOf", "(I)I"⟩ := by delta mN M_si046; rfl
set_option maxRecDepth 65536 in
set_option maxHeartbeats 40000000 in
theorem rm_si046 {W : Wd} (hw : Ws W) (s : Addr) (b : Addr) (rs : Bool) (rb : Bool) (xb : Bool) (ob : Bool) (zs : List Nat) (F : List En) (hz : ∀ z ∈ zs, z < 256) (hl : zs.length ≤ 64) : Ct W M_si046 [.ref s, .int 46] ((oStr rs s (.ref b) (.int 0)) :: (b, rb, .inr (.byte, xb, ob, zb zs)) :: F) (fun v H' => (∃ j : Nat, v = some (.int (ix j)) ∧ H' = ((oStr rs s (.ref b) (.int 0)) :: (b, rb, .inr (.byte, xb, ob, zb zs)) :: F) ∧ j < zs.length ∧ Nc 46 zs 0 j ∧ zs.getD j 0 = 46) ∨ (v = some (.int (-1)) ∧ H' = ((oStr rs s (.ref b) (.int 0)) :: (b, rb, .inr (.byte, xb, ob, zb zs)) :: F) ∧ Nc 46 zs 0 zs.length)) := by
  refine Ct.intro (L0 := [.val (.ref s), .val (.int 46)]) (plainFor_of_name pf_java_lang_String) rfl (fun K => ?_)
  refine Wp.aloadN rfl rfl d_jdk_42_79_0 ?_
  refine Wp.iloadN rfl d_jdk_42_79_1 ?_
  refine Wp.iconst lc_0 d_jdk_42_79_2 ?_
  refine Wp.callV nm_M_si046 (fun _ => rm_sio46 hw.set s b rs rb xb ob zs _ hz (by omega)) 0 rfl (mk_M_sio46 hw) (w_42 hw) (w_43 hw) (w_45 hw) (w_44 hw) (S' := "") (Or.inl rfl) (by decide) rfl rfl rfl (Wn := 0) rfl rfl (by decide) d_jdk_42_79_3 ?_
  rintro _ _ (⟨j_1, rfl, rfl, hf2, hf3, hf4⟩ | ⟨rfl, rfl, hf5⟩)
  · refine Wp.iret rfl d_jdk_42_79_6 (by decide) (by decide) ?_
    exact Or.inl ⟨j_1, rfl, rfl, hf2, hf3, hf4⟩
  · refine Wp.iret rfl d_jdk_42_79_6 (by decide) (by decide) ?_
    exact Or.inr (⟨rfl, rfl, hf5⟩)
def M_lio : Mt := (⟨"java/lang/StringLatin1", "lastIndexOf", "([BII)I"⟩, jdk_43_method_27_code, 4, some .int, ⟨1, 0, 0, 15⟩)
theorem nm_M_lio : mN M_lio = ⟨"java/lang/StringLatin1", "lastIndexOf", "([BII)I"⟩ := by delta mN M_lio; rfl
theorem d_jdk_43_27_18 : Dc jdk_43_method_27_code 18 (.iload_n 3) 1 19 := ⟨by decide +kernel, rfl⟩
theorem d_jdk_43_27_19 : Bj jdk_43_method_27_code 19 (.ifCond .lt 19) 19 22 38 := ⟨by decide +kernel, rfl, by decide, rfl⟩
theorem d_jdk_43_27_22 : Dc jdk_43_method_27_code 22 (.aload_n 0) 1 23 := ⟨by decide +kernel, rfl⟩
theorem d_jdk_43_27_23 : Dc jdk_43_method_27_code 23 (.iload_n 3) 1 24 := ⟨by decide +kernel, rfl⟩
theorem d_jdk_43_27_24 : Dc jdk_43_method_27_code 24 (.baload) 1 25 := ⟨by decide +kernel, rfl⟩
theorem d_jdk_43_27_25 : Dc jdk_43_method_27_code 25 (.iload_n 1) 1 26 := ⟨by decide +kernel, rfl⟩
theorem d_jdk_43_27_26 : Dc jdk_43_method_27_code 26 (.i2b) 1 27 := ⟨by decide +kernel, rfl⟩
theorem d_jdk_43_27_27 : Bj jdk_43_method_27_code 27 (.if_icmp .ne 5) 5 30 32 := ⟨by decide +kernel, rfl, by decide, rfl⟩
theorem d_jdk_43_27_30 : Dc jdk_43_method_27_code 30 (.iload_n 3) 1 31 := ⟨by decide +kernel, rfl⟩
theorem d_jdk_43_27_31 : Dc jdk_43_method_27_code 31 (.ireturn) 1 32 := ⟨by decide +kernel, rfl⟩
theorem d_jdk_43_27_32 : Dc jdk_43_method_27_code 32 (.iinc 3 (-1)) 3 35 := ⟨by decide +kernel, rfl⟩
theorem d_jdk_43_27_35 : Bj jdk_43_method_27_code 35 (.goto (-17)) (-17) 38 18 := ⟨by decide +kernel, rfl, by decide, rfl⟩
set_option maxRecDepth 65536 in
set_option maxHeartbeats 40000000 in
theorem lp_lio {W : Wd} {K : Kx} (hw : Ws W) (b : Addr) (rb xb ob : Bool) (zs : List Nat) (j : Nat) (F : List En) (hz : ∀ z ∈ zs, z < 256) (hl : zs.length ≤ 64) (hj1 : j < zs.length) (hj2 : zs.getD j 0 = 64) (Q : Option Value → List En → Prop) (hQ : ∀ l, j ≤ l → l < zs.length → Nc 64 zs (l + 1) zs.length → zs.getD l 0 = 64 → Q (some (.int (ix l))) ((b, rb, .inr (.byte, xb, ob, zb zs)) :: F)) :
    ∀ (t i : Nat), i ≤ t → j ≤ i → i < zs.length → Nc 64 zs (i + 1) zs.length → Wp W K M_lio Q ((b, rb, .inr (.byte, xb, ob, zb zs)) :: F) 0 0 18 [.val (.ref b), .val (.int 64), .val (.int (ix (zs.length - 1))), .val (.int (ix i))] []
  | 0, i, hi0, hi1, hi2, hs => by
    have e0 : i = 0 := by omega
    have e1 : j = 0 := by omega
    subst e0 e1
    refine Wp.iloadN rfl d_jdk_43_27_18 ?_
    refine Wp.ifF (flt (fun q => (Nat.not_lt_zero _) ((ix_lt (i := 0) (j := 0) (by omega) (by omega)).mp q))).1 d_jdk_43_27_19 ?_
    refine Wp.aloadN rfl rfl d_jdk_43_27_22 ?_
    refine Wp.iloadN rfl d_jdk_43_27_23 ?_
    refine Wp.baload 0 0 rfl (by decide) (by decide) (zb_get hi2) d_jdk_43_27_24 ?_
    refine Wp.iloadN rfl d_jdk_43_27_25 ?_
    refine Wp.i2b (z := 64) (by decide) d_jdk_43_27_26 ?_
    refine Wp.icF (teq (by rw [hj2]; decide)).2 d_jdk_43_27_27 ?_
    refine Wp.iloadN rfl d_jdk_43_27_30 ?_
    refine Wp.iret rfl d_jdk_43_27_31 (by decide) (by decide) ?_
    exact hQ 0 hi1 hi2 hs hj2
  | t + 1, i, hi0, hi1, hi2, hs => by
    refine Wp.iloadN rfl d_jdk_43_27_18 ?_
    refine Wp.ifF (flt (fun q => (Nat.not_lt_zero _) ((ix_lt (i := i) (j := 0) (by omega) (by omega)).mp q))).1 d_jdk_43_27_19 ?_
    refine Wp.aloadN rfl rfl d_jdk_43_27_22 ?_
    refine Wp.iloadN rfl d_jdk_43_27_23 ?_
    refine Wp.baload 0 i rfl (ix_nn (by omega)) (ix_nat (by omega)) (zb_get hi2) d_jdk_43_27_24 ?_
    refine Wp.iloadN rfl d_jdk_43_27_25 ?_
    refine Wp.i2b (z := 64) (by decide) d_jdk_43_27_26 ?_
    by_cases b27_1 : (by8 (ix (zs.getD i 0))) = 64
    · refine Wp.icF (teq b27_1).2 d_jdk_43_27_27 ?_
      refine Wp.iloadN rfl d_jdk_43_27_30 ?_
      refine Wp.iret rfl d_jdk_43_27_31 (by decide) (by decide) ?_
      exact hQ i hi1 hi2 hs (by8_eqN (zs_lt hz i) (by decide) b27_1)
    · refine Wp.icT (feq b27_1).2 d_jdk_43_27_27 ?_
      have hne : ¬ i = j := fun q => b27_1 (by rw [q, hj2]; decide)
      refine Wp.iinc (z := (ix (i - 1))) (L' := [.val (.ref b), .val (.int 64), .val (.int (ix (zs.length - 1))), .val (.int (ix (i - 1)))]) rfl (ix_dec (by omega)) rfl d_jdk_43_27_32 ?_
      refine Wp.goto d_jdk_43_27_35 ?_
      exact lp_lio hw b rb xb ob zs j F hz hl hj1 hj2 Q hQ t (i - 1) (by omega) (by omega) (by omega) (by rw [show i - 1 + 1 = i by omega]; exact hs.cons (fun q => b27_1 (by rw [q]; decide)))
theorem d_jdk_43_27_0 : Dc jdk_43_method_27_code 0 (.iload_n 1) 1 1 := ⟨by decide +kernel, rfl⟩
theorem d_jdk_43_27_1 : Dc jdk_43_method_27_code 1 (.invokestatic 88) 3 4 := ⟨by decide +kernel, rfl⟩
theorem d_jdk_43_27_4 : Bj jdk_43_method_27_code 4 (.ifCond .ne 5) 5 7 9 := ⟨by decide +kernel, rfl, by decide, rfl⟩
theorem d_jdk_43_27_9 : Dc jdk_43_method_27_code 9 (.iload_n 2) 1 10 := ⟨by decide +kernel, rfl⟩
theorem d_jdk_43_27_10 : Dc jdk_43_method_27_code 10 (.aload_n 0) 1 11 := ⟨by decide +kernel, rfl⟩
theorem d_jdk_43_27_11 : Dc jdk_43_method_27_code 11 (.arraylength) 1 12 := ⟨by decide +kernel, rfl⟩
theorem d_jdk_43_27_12 : Dc jdk_43_method_27_code 12 (.iconst 1) 1 13 := ⟨by decide +kernel, rfl⟩
theorem d_jdk_43_27_13 : Dc jdk_43_method_27_code 13 (.isub) 1 14 := ⟨by decide +kernel, rfl⟩
theorem d_jdk_43_27_14 : Dc jdk_43_method_27_code 14 (.invokestatic 38) 3 17 := ⟨by decide +kernel, rfl⟩
theorem d_jdk_43_27_17 : Dc jdk_43_method_27_code 17 (.istore_n 3) 1 18 := ⟨by decide +kernel, rfl⟩
set_option maxRecDepth 65536 in
set_option maxHeartbeats 40000000 in
theorem rm_lio {W : Wd} (hw : Ws W) (b : Addr) (rb : Bool) (xb : Bool) (ob : Bool) (zs : List Nat) (F : List En) (hz : ∀ z ∈ zs, z < 256) (hl : zs.length ≤ 64) (hj : ∃ j, j < zs.length ∧ zs.getD j 0 = 64) : Ct W M_lio [.ref b, .int 64, .int (ix (zs.length - 1))] ((b, rb, .inr (.byte, xb, ob, zb zs)) :: F) (fun v H' => (∃ l : Nat, v = some (.int (ix l)) ∧ H' = ((b, rb, .inr (.byte, xb, ob, zb zs)) :: F) ∧ l < zs.length ∧ Nc 64 zs (l + 1) zs.length ∧ zs.getD l 0 = 64)) := by
  refine Ct.intro (L0 := [.val (.ref b), .val (.int 64), .val (.int (ix (zs.length - 1))), .unset]) (plainFor_of_name pf_java_lang_StringLatin1) rfl (fun K => ?_)
  obtain ⟨j, hj1, hj2⟩ := hj
  refine Wp.iloadN rfl d_jdk_43_27_0 ?_
  refine Wp.callS nm_M_lio (fun _ => rm_ce64 hw.set  _ ) (mk_M_ce64 hw) (w_67 hw) (w_68 hw) rfl rfl (Wn := 0) rfl rfl (by decide) d_jdk_43_27_1 ?_
  rintro _ _ ⟨rfl, rfl⟩
  refine Wp.ifT (by decide) d_jdk_43_27_4 ?_
  refine Wp.iloadN rfl d_jdk_43_27_9 ?_
  refine Wp.aloadN rfl rfl d_jdk_43_27_10 ?_
  refine Wp.alen (z := (ix zs.length)) 0 rfl (zb_lenI _) d_jdk_43_27_11 ?_
  refine Wp.iconst lc_1 d_jdk_43_27_12 ?_
  refine Wp.isub (z := (ix (zs.length - 1))) (ix_sub (a := zs.length) (b := 1) (by omega)) d_jdk_43_27_13 ?_
  refine Wp.callS nm_M_lio (fun _ => rm_mn hw.set (zs.length - 1) _ ) (mk_M_mn hw) (w_74 hw) (w_75 hw) rfl rfl (Wn := 0) rfl rfl (by decide) d_jdk_43_27_14 ?_
  rintro _ _ ⟨rfl, rfl⟩
  refine Wp.istoreN (L' := [.val (.ref b), .val (.int 64), .val (.int (ix (zs.length - 1))), .val (.int (ix (zs.length - 1)))]) rfl d_jdk_43_27_17 ?_
  exact lp_lio hw b rb xb ob zs j F hz hl hj1 hj2 _ (fun l q1 q2 q3 q4 => ⟨l, rfl, rfl, q2, q3, q4⟩) (zs.length - 1) (zs.length - 1) (Nat.le_refl _) (by omega) (by omega) (fun m h1 h2 => by omega)
theorem d_jdk_42_83_0 : Dc jdk_42_method_83_code 0 (.aload_n 0) 1 1 := ⟨by decide +kernel, rfl⟩
theorem d_jdk_42_83_1 : Dc jdk_42_method_83_code 1 (.invokevirtual 492) 3 4 := ⟨by decide +kernel, rfl⟩
theorem d_jdk_42_83_4 : Bj jdk_42_method_83_code 4 (.ifCond .eq 15) 15 7 19 := ⟨by decide +kernel, rfl, by decide, rfl⟩
theorem d_jdk_42_83_7 : Dc jdk_42_method_83_code 7 (.aload_n 0) 1 8 := ⟨by decide +kernel, rfl⟩
theorem d_jdk_42_83_8 : Dc jdk_42_method_83_code 8 (.getfield 9) 3 11 := ⟨by decide +kernel, rfl⟩
theorem d_jdk_42_83_11 : Dc jdk_42_method_83_code 11 (.iload_n 1) 1 12 := ⟨by decide +kernel, rfl⟩
theorem d_jdk_42_83_12 : Dc jdk_42_method_83_code 12 (.iload_n 2) 1 13 := ⟨by decide +kernel, rfl⟩
theorem d_jdk_42_83_13 : Dc jdk_42_method_83_code 13 (.invokestatic 644) 3 16 := ⟨by decide +kernel, rfl⟩
theorem w_187 {W : Wd} (hw : Ws W) : Wok W (Jvm.Cond.code ({ cls := "java/lang/StringLatin1", name := "lastIndexOf", desc := "([BII)I" } : Jvm.MethodName) jdk_43_method_27_code (4 : Nat) (Option.some Jvm.ClassFile.FieldType.int)) := hw.1 _ (List.mem_of_getElem? (i := 187) rfl)
theorem pd___BII_I : parseMethodDescriptor "([BII)I" = some ⟨[(.array .byte), .int, .int], some .int⟩ := by decide +kernel
theorem mk_M_lio {W : Wd} (hw : Ws W) : Mk W M_lio ⟨"java/lang/StringLatin1", "lastIndexOf", "([BII)I"⟩ 3 := Mk.of nm_M_lio rfl rfl rfl (w_187 hw) (w_65 hw) (mkLen pd___BII_I rfl) (by decide)
theorem w_185 {W : Wd} (hw : Ws W) : Wok W (Jvm.Cond.methodLink "java/lang/String" (644 : Nat) ({ cls := "java/lang/StringLatin1", name := "lastIndexOf", desc := "([BII)I" } : Jvm.MethodName)) := hw.1 _ (List.mem_of_getElem? (i := 185) rfl)
theorem w_186 {W : Wd} (hw : Ws W) : Wok W (Jvm.Cond.static ({ cls := "java/lang/StringLatin1", name := "lastIndexOf", desc := "([BII)I" } : Jvm.MethodName)) := hw.1 _ (List.mem_of_getElem? (i := 186) rfl)
theorem d_jdk_42_83_16 : Bj jdk_42_method_83_code 16 (.goto 12) 12 19 28 := ⟨by decide +kernel, rfl, by decide, rfl⟩
theorem d_jdk_42_83_28 : Dc jdk_42_method_83_code 28 (.ireturn) 1 29 := ⟨by decide +kernel, rfl⟩
def M_sl2 : Mt := (⟨"java/lang/String", "lastIndexOf", "(II)I"⟩, jdk_42_method_83_code, 3, some .int, ⟨2, 0, 0, 30⟩)
theorem nm_M_sl2 : mN M_sl2 = ⟨"java/lang/String", "lastIndexOf", "(II)I"⟩ := by delta mN M_sl2; rfl
set_option maxRecDepth 65536 in
set_option maxHeartbeats 40000000 in
theorem rm_sl2 {W : Wd} (hw : Ws W) (s : Addr) (b : Addr) (rs : Bool) (rb : Bool) (xb : Bool) (ob : Bool) (zs : List Nat) (F : List En) (hz : ∀ z ∈ zs, z < 256) (hl : zs.length ≤ 64) (hj : ∃ j, j < zs.length ∧ zs.getD j 0 = 64) : Ct W M_sl2 [.ref s, .int 64, .int (ix (zs.length - 1))] ((oStr rs s (.ref b) (.int 0)) :: (b, rb, .inr (.byte, xb, ob, zb zs)) :: F) (fun v H' => (∃ l : Nat, v = some (.int (ix l)) ∧ H' = ((oStr rs s (.ref b) (.int 0)) :: (b, rb, .inr (.byte, xb, ob, zb zs)) :: F) ∧ l < zs.length ∧ Nc 64 zs (l + 1) zs.length ∧ zs.getD l 0 = 64)) := by
  refine Ct.intro (L0 := [.val (.ref s), .val (.int 64), .val (.int (ix (zs.length - 1)))]) (plainFor_of_name pf_java_lang_String) rfl (fun K => ?_)
  refine Wp.aloadN rfl rfl d_jdk_42_83_0 ?_
  refine Wp.callV nm_M_sl2 (fun _ => rm_il1 hw.set s b rs _ ) 0 rfl (mk_M_il1 hw) (w_47 hw) (w_48 hw) (w_50 hw) (w_49 hw) (S' := "") (Or.inl rfl) (by decide) rfl rfl rfl (Wn := 0) rfl rfl (by decide) d_jdk_42_83_1 ?_
  rintro _ _ ⟨rfl, rfl⟩
  refine Wp.ifF (by decide) d_jdk_42_83_4 ?_
  refine Wp.aloadN rfl rfl d_jdk_42_83_7 ?_
  refine Wp.getF nm_M_sl2 (host := "") (Or.inl (w_28 hw)) Via.refl 0 0 rfl rfl d_jdk_42_83_8 ?_
  refine Wp.iloadN rfl d_jdk_42_83_11 ?_
  refine Wp.iloadN rfl d_jdk_42_83_12 ?_
  refine Wp.perm [1, 0] 2 pp_1_0 (H' := ((b, rb, .inr (.byte, xb, ob, zb zs)) :: (oStr rs s (.ref b) (.int 0)) :: F)) rfl ?_
  refine Wp.callS nm_M_sl2 (fun _ => rm_lio hw.set b rb xb ob zs _ hz (by omega) hj) (mk_M_lio hw) (w_185 hw) (w_186 hw) rfl rfl (Wn := 0) rfl rfl (by decide) d_jdk_42_83_13 ?_
  rintro _ _ ⟨l_1, rfl, rfl, hf2, hf3, hf4⟩
  refine Wp.goto d_jdk_42_83_16 ?_
  refine Wp.perm [1, 0] 2 pp_1_0 (H' := ((oStr rs s (.ref b) (.int 0)) :: (b, rb, .inr (.byte, xb, ob, zb zs)) :: F)) rfl ?_
  refine Wp.iret rfl d_jdk_42_83_28 (by decide) (by decide) ?_
  exact ⟨l_1, rfl, rfl, hf2, hf3, hf4⟩
theorem d_jdk_42_82_0 : Dc jdk_42_method_82_code 0 (.aload_n 0) 1 1 := ⟨by decide +kernel, rfl⟩
theorem d_jdk_42_82_1 : Dc jdk_42_method_82_code 1 (.iload_n 1) 1 2 := ⟨by decide +kernel, rfl⟩
theorem d_jdk_42_82_2 : Dc jdk_42_method_82_code 2 (.aload_n 0) 1 3 := ⟨by decide +kernel, rfl⟩
theorem d_jdk_42_82_3 : Dc jdk_42_method_82_code 3 (.invokevirtual 505) 3 6 := ⟨by decide +kernel, rfl⟩
theorem d_jdk_42_82_6 : Dc jdk_42_method_82_code 6 (.iconst 1) 1 7 := ⟨by decide +kernel, rfl⟩
theorem d_jdk_42_82_7 : Dc jdk_42_method_82_code 7 (.isub) 1 8 := ⟨by decide +kernel, rfl⟩
theorem d_jdk_42_82_8 : Dc jdk_42_method_82_code 8 (.invokevirtual 641) 3 11 := ⟨by decide +kernel, rfl⟩
theorem w_183 {W : Wd} (hw : Ws W) : Wok W (Jvm.Cond.selects "java/lang/String" ({ cls := "java/lang/String", name := "lastIndexOf", desc := "(II)I" } : Jvm.MethodName) ({ cls := "java/lang/String", name := "lastIndexOf", desc := "(II)I" } : Jvm.MethodName)) := hw.1 _ (List.mem_of_getElem? (i := 183) rfl)
theorem w_184 {W : Wd} (hw : Ws W) : Wok W (Jvm.Cond.code ({ cls := "java/lang/String", name := "lastIndexOf", desc := "(II)I" } : Jvm.MethodName) jdk_42_method_83_code (3 : Nat) (Option.some Jvm.ClassFile.FieldType.int)) := hw.1 _ (List.mem_of_getElem? (i := 184) rfl)
theorem mk_M_sl2 {W : Wd} (hw : Ws W) : Mk W M_sl2 ⟨"java/lang/String", "lastIndexOf", "(II)I"⟩ 2 := Mk.of nm_M_sl2 rfl rfl rfl (w_184 hw) (w_11 hw) (mkLen pd__II_I rfl) (by decide)
theorem w_180 {W : Wd} (hw : Ws W) : Wok W (Jvm.Cond.methodLink "java/lang/String" (641 : Nat) ({ cls := "java/lang/String", name := "lastIndexOf", desc := "(II)I" } : Jvm.MethodName)) := hw.1 _ (List.mem_of_getElem? (i := 180) rfl)
theorem w_181 {W : Wd} (hw : Ws W) : Wok W (Jvm.Cond.declares ({ cls := "java/lang/String", name := "lastIndexOf", desc := "(II)I" } : Jvm.MethodName)) := hw.1 _ (List.mem_of_getElem? (i := 181) rfl)
theorem w_182 {W : Wd} (hw : Ws W) : Wok W (Jvm.Cond.instanceMethod ({ cls := "java/lang/String", name := "lastIndexOf", desc := "(II)I" } : Jvm.MethodName)) := hw.1 _ (List.mem_of_getElem? (i := 182) rfl)
theorem d_jdk_42_82_11 : Dc jdk_42_method_82_code 11 (.ireturn) 1 12 := ⟨by decide +kernel, rfl⟩
def M_sl1 : Mt := (⟨"java/lang/String", "lastIndexOf", "(I)I"⟩, jdk_42_method_82_code, 2, some .int, ⟨3, 0, 0, 44⟩)
theorem nm_M_sl1 : mN M_sl1 = ⟨"java/lang/String", "lastIndexOf", "(I)I"⟩ := by delta mN M_sl1; rfl
set_option maxRecDepth 65536 in
set_option maxHeartbeats 40000000 in
theorem rm_sl1 {W : Wd} (hw : Ws W) (s : Addr) (b : Addr) (rs : Bool) (rb : Bool) (xb : Bool) (ob : Bool) (zs : List Nat) (F : List En) (hz : ∀ z ∈ zs, z < 256) (hl : zs.length ≤ 64) (hj : ∃ j, j < zs.length ∧ zs.getD j 0 = 64) : Ct W M_sl1 [.ref s, .int 64] ((oStr rs s (.ref b) (.int 0)) :: (b, rb, .inr (.byte, xb, ob, zb zs)) :: F) (fun v H' => (∃ l : Nat, v = some (.int (ix l)) ∧ H' = ((oStr rs s (.ref b) (.int 0)) :: (b, rb, .inr (.byte, xb, ob, zb zs)) :: F) ∧ l < zs.length ∧ Nc 64 zs (l + 1) zs.length ∧ zs.getD l 0 = 64)) := by
  refine Ct.intro (L0 := [.val (.ref s), .val (.int 64)]) (plainFor_of_name pf_java_lang_String) rfl (fun K => ?_)
  have hj0 : 0 < zs.length := by obtain ⟨j, hj1, -⟩ := hj; omega
  refine Wp.aloadN rfl rfl d_jdk_42_82_0 ?_
  refine Wp.iloadN rfl d_jdk_42_82_1 ?_
  refine Wp.aloadN rfl rfl d_jdk_42_82_2 ?_
  refine Wp.callV nm_M_sl1 (fun _ => rm_len hw.set s b rs rb xb ob zs _ ) 0 rfl (mk_M_len hw) (w_53 hw) (w_54 hw) (w_56 hw) (w_55 hw) (S' := "") (Or.inl rfl) (by decide) rfl rfl rfl (Wn := 2) rfl rfl (by decide) d_jdk_42_82_3 ?_
  rintro _ _ ⟨rfl, rfl⟩
  refine Wp.iconst lc_1 d_jdk_42_82_6 ?_
  refine Wp.isub (z := (ix (zs.length - 1))) (ix_sub (a := zs.length) (b := 1) (by omega)) d_jdk_42_82_7 ?_
  refine Wp.callV nm_M_sl1 (fun _ => rm_sl2 hw.set s b rs rb xb ob zs _ hz (by omega) hj) 0 rfl (mk_M_sl2 hw) (w_180 hw) (w_181 hw) (w_183 hw) (w_182 hw) (S' := "") (Or.inl rfl) (by decide) rfl rfl rfl (Wn := 0) rfl rfl (by decide) d_jdk_42_82_8 ?_
  rintro _ _ ⟨l_1, rfl, rfl, hf2, hf3, hf4⟩
  refine Wp.iret rfl d_jdk_42_82_11 (by decide) (by decide) ?_
  exact ⟨l_1, rfl, rfl, hf2, hf3, hf4⟩
theorem d_jdk_29_69_9 : Dc jdk_29_method_69_code 9 (.iload_n 1) 1 10 := ⟨by decide +kernel, rfl⟩
def M_mn2 : Mt := (⟨"java/lang/Math", "min", "(II)I"⟩, jdk_29_method_69_code, 2, some .int, ⟨0, 0, 0, 0⟩)
theorem nm_M_mn2 : mN M_mn2 = ⟨"java/lang/Math", "min", "(II)I"⟩ := by delta mN M_mn2; rfl
set_option maxRecDepth 65536 in
set_option maxHeartbeats 40000000 in
theorem rm_mn2 {W : Wd} (hw : Ws W) (p : Nat) (r2 : Nat) (F : List En) (h1 : r2 ≤ p) (h2 : p < 2 ^ 31) : Ct W M_mn2 [.int (ix p), .int (ix r2)] F (fun v H' => v = some (.int (ix r2)) ∧ H' = F) := by
  refine Ct.intro (L0 := [.val (.int (ix p)), .val (.int (ix r2))]) pf_java_lang_Math_min_II_I rfl (fun K => ?_)
  refine Wp.iloadN rfl d_jdk_29_69_0 ?_
  refine Wp.iloadN rfl d_jdk_29_69_1 ?_
  by_cases b2_1 : r2 < p
  · refine Wp.icT (tlt ((ix_lt (i := r2) (j := p) (by omega) (by omega)).mpr b2_1)).2.2.1 d_jdk_29_69_2 ?_
    refine Wp.iloadN rfl d_jdk_29_69_9 ?_
    refine Wp.iret rfl d_jdk_29_69_10 (by decide) (by decide) ?_
    exact ⟨rfl, rfl⟩
  · refine Wp.icF (flt (fun q => b2_1 ((ix_lt (i := r2) (j := p) (by omega) (by omega)).mp q))).2.2.1 d_jdk_29_69_2 ?_
    refine Wp.iloadN rfl d_jdk_29_69_5 ?_
    refine Wp.goto d_jdk_29_69_6 ?_
    refine Wp.iret rfl d_jdk_29_69_10 (by decide) (by decide) ?_
    exact ⟨congrArg (fun z => some (Value.int (ix z))) (by omega), rfl⟩
theorem d_jdk_65_131_0 : Dc jdk_65_method_131_code 0 (.iload_n 1) 1 1 := ⟨by decide +kernel, rfl⟩
theorem d_jdk_65_131_1 : Dc jdk_65_method_131_code 1 (.iload_n 0) 1 2 := ⟨by decide +kernel, rfl⟩
theorem d_jdk_65_131_2 : Bj jdk_65_method_131_code 2 (.if_icmp .ge 35) 35 5 37 := ⟨by decide +kernel, rfl, by decide, rfl⟩
theorem d_jdk_65_131_37 : Dc jdk_65_method_131_code 37 (.return_) 1 38 := ⟨by decide +kernel, rfl⟩
def M_cl : Mt := (⟨"java/util/Arrays", "checkLength", "(II)V"⟩, jdk_65_method_131_code, 2, none, ⟨0, 0, 0, 0⟩)
theorem nm_M_cl : mN M_cl = ⟨"java/util/Arrays", "checkLength", "(II)V"⟩ := by delta mN M_cl; rfl
theorem pf_java_util_Arrays : plainName "java/util/Arrays" = true := by first | (simp [plainName, overriddenIn]; done) | decide +kernel
set_option maxRecDepth 65536 in
set_option maxHeartbeats 40000000 in
theorem rm_cl {W : Wd} (hw : Ws W) (a : Nat) (e : Nat) (F : List En) (h1 : a ≤ e) (h2 : e < 2 ^ 31) : Ct W M_cl [.int (ix a), .int (ix e)] F (fun v H' => v = none ∧ H' = F) := by
  refine Ct.intro (L0 := [.val (.int (ix a)), .val (.int (ix e))]) (plainFor_of_name pf_java_util_Arrays) rfl (fun K => ?_)
  refine Wp.iloadN rfl d_jdk_65_131_0 ?_
  refine Wp.iloadN rfl d_jdk_65_131_1 ?_
  refine Wp.icT (flt (fun q => by have := (ix_lt (i := e) (j := a) (by omega) (by omega)).mp q; omega)).2.1 d_jdk_65_131_2 ?_
  refine Wp.ret rfl d_jdk_65_131_37 (by decide) (by decide) ?_
  exact ⟨rfl, rfl⟩
theorem d_jdk_65_133_0 : Dc jdk_65_method_133_code 0 (.iload_n 1) 1 1 := ⟨by decide +kernel, rfl⟩
theorem d_jdk_65_133_1 : Dc jdk_65_method_133_code 1 (.iload_n 2) 1 2 := ⟨by decide +kernel, rfl⟩
theorem d_jdk_65_133_2 : Dc jdk_65_method_133_code 2 (.invokestatic 343) 3 5 := ⟨by decide +kernel, rfl⟩
theorem w_270 {W : Wd} (hw : Ws W) : Wok W (Jvm.Cond.code ({ cls := "java/util/Arrays", name := "checkLength", desc := "(II)V" } : Jvm.MethodName) jdk_65_method_131_code (2 : Nat) (Option.none : Option Jvm.ClassFile.FieldType)) := hw.1 _ (List.mem_of_getElem? (i := 270) rfl)
theorem w_147 {W : Wd} (hw : Ws W) : Wok W (Jvm.Cond.initialized "java/util/Arrays") := hw.1 _ (List.mem_of_getElem? (i := 147) rfl)
theorem mk_M_cl {W : Wd} (hw : Ws W) : Mk W M_cl ⟨"java/util/Arrays", "checkLength", "(II)V"⟩ 2 := Mk.of nm_M_cl rfl rfl rfl (w_270 hw) (w_147 hw) (mkLen pd__II_V rfl) (by decide)
theorem w_268 {W : Wd} (hw : Ws W) : Wok W (Jvm.Cond.methodLink "java/util/Arrays" (343 : Nat) ({ cls := "java/util/Arrays", name := "checkLength", desc := "(II)V" } : Jvm.MethodName)) := hw.1 _ (List.mem_of_getElem? (i := 268) rfl)
theorem w_269 {W : Wd} (hw : Ws W) : Wok W (Jvm.Cond.static ({ cls := "java/util/Arrays", name := "checkLength", desc := "(II)V" } : Jvm.MethodName)) := hw.1 _ (List.mem_of_getElem? (i := 269) rfl)
theorem d_jdk_65_133_5 : Dc jdk_65_method_133_code 5 (.iload_n 2) 1 6 := ⟨by decide +kernel, rfl⟩
theorem d_jdk_65_133_6 : Dc jdk_65_method_133_code 6 (.iload_n 1) 1 7 := ⟨by decide +kernel, rfl⟩
theorem d_jdk_65_133_7 : Dc jdk_65_method_133_code 7 (.isub) 1 8 := ⟨by decide +kernel, rfl⟩
theorem d_jdk_65_133_8 : Dc jdk_65_method_133_code 8 (.istore_n 3) 1 9 := ⟨by decide +kernel, rfl⟩
theorem d_jdk_65_133_9 : Dc jdk_65_method_133_code 9 (.iload_n 3) 1 10 := ⟨by decide +kernel, rfl⟩
theorem d_jdk_65_133_10 : Dc jdk_65_method_133_code 10 (.newarray .byte) 2 12 := ⟨by decide +kernel, rfl⟩
theorem d_jdk_65_133_12 : Dc jdk_65_method_133_code 12 (.astore 4) 2 14 := ⟨by decide +kernel, rfl⟩
theorem d_jdk_65_133_14 : Dc jdk_65_method_133_code 14 (.aload_n 0) 1 15 := ⟨by decide +kernel, rfl⟩
theorem d_jdk_65_133_15 : Dc jdk_65_method_133_code 15 (.iload_n 1) 1 16 := ⟨by decide +kernel, rfl⟩
theorem d_jdk_65_133_16 : Dc jdk_65_method_133_code 16 (.aload 4) 2 18 := ⟨by decide +kernel, rfl⟩
theorem d_jdk_65_133_18 : Dc jdk_65_method_133_code 18 (.iconst 0) 1 19 := ⟨by decide +kernel, rfl⟩
theorem d_jdk_65_133_19 : Dc jdk_65_method_133_code 19 (.aload_n 0) 1 20 := ⟨by decide +kernel, rfl⟩
theorem d_jdk_65_133_20 : Dc jdk_65_method_133_code 20 (.arraylength) 1 21 := ⟨by decide +kernel, rfl⟩
theorem d_jdk_65_133_21 : Dc jdk_65_method_133_code 21 (.iload_n 1) 1 22 := ⟨by decide +kernel, rfl⟩
theorem d_jdk_65_133_22 : Dc jdk_65_method_133_code 22 (.isub) 1 23 := ⟨by decide +kernel, rfl⟩
theorem d_jdk_65_133_23 : Dc jdk_65_method_133_code 23 (.iload_n 3) 1 24 := ⟨by decide +kernel, rfl⟩
theorem d_jdk_65_133_24 : Dc jdk_65_method_133_code 24 (.invokestatic 304) 3 27 := ⟨by decide +kernel, rfl⟩
theorem mk_M_mn2 {W : Wd} (hw : Ws W) : Mk W M_mn2 ⟨"java/lang/Math", "min", "(II)I"⟩ 2 := Mk.of nm_M_mn2 rfl rfl rfl (w_76 hw) (w_72 hw) (mkLen pd__II_I rfl) (by decide)
theorem w_271 {W : Wd} (hw : Ws W) : Wok W (Jvm.Cond.methodLink "java/util/Arrays" (304 : Nat) ({ cls := "java/lang/Math", name := "min", desc := "(II)I" } : Jvm.MethodName)) := hw.1 _ (List.mem_of_getElem? (i := 271) rfl)
theorem d_jdk_65_133_27 : Dc jdk_65_method_133_code 27 (.invokestatic 150) 3 30 := ⟨by decide +kernel, rfl⟩
theorem w_272 {W : Wd} (hw : Ws W) : Wok W (Jvm.Cond.methodLink "java/util/Arrays" (150 : Nat) ({ cls := "java/lang/System", name := "arraycopy", desc := "(Ljava/lang/Object;ILjava/lang/Object;II)V" } : Jvm.MethodName)) := hw.1 _ (List.mem_of_getElem? (i := 272) rfl)
theorem w_275 {W : Wd} (hw : Ws W) : Wok W (Jvm.Cond.native ({ cls := "java/lang/System", name := "arraycopy", desc := "(Ljava/lang/Object;ILjava/lang/Object;II)V" } : Jvm.MethodName)) := hw.1 _ (List.mem_of_getElem? (i := 275) rfl)
theorem w_273 {W : Wd} (hw : Ws W) : Wok W (Jvm.Cond.static ({ cls := "java/lang/System", name := "arraycopy", desc := "(Ljava/lang/Object;ILjava/lang/Object;II)V" } : Jvm.MethodName)) := hw.1 _ (List.mem_of_getElem? (i := 273) rfl)
theorem w_274 {W : Wd} (hw : Ws W) : Wok W (Jvm.Cond.initialized "java/lang/System") := hw.1 _ (List.mem_of_getElem? (i := 274) rfl)
theorem d_jdk_65_133_30 : Dc jdk_65_method_133_code 30 (.aload 4) 2 32 := ⟨by decide +kernel, rfl⟩
theorem d_jdk_65_133_32 : Dc jdk_65_method_133_code 32 (.areturn) 1 33 := ⟨by decide +kernel, rfl⟩
def M_crb : Mt := (⟨"java/util/Arrays", "copyOfRangeByte", "([BII)[B"⟩, jdk_65_method_133_code, 5, some (.array .byte), ⟨1, 1, 64, 18⟩)
theorem nm_M_crb : mN M_crb = ⟨"java/util/Arrays", "copyOfRangeByte", "([BII)[B"⟩ := by delta mN M_crb; rfl
set_option maxRecDepth 65536 in
set_option maxHeartbeats 40000000 in
theorem rm_crb {W : Wd} (hw : Ws W) (b : Addr) (rb : Bool) (xb : Bool) (ob : Bool) (zs : List Nat) (a : Nat) (e : Nat) (F : List En) (h1 : a ≤ e) (h2 : e ≤ zs.length) (hl : zs.length ≤ 64) : Ct W M_crb [.ref b, .int (ix a), .int (ix e)] ((b, rb, .inr (.byte, xb, ob, zb zs)) :: F) (fun v H' => ∃ q, v = some (.ref q) ∧ H' = ((eB q (zb ((zs.drop a).take (e - a)))) :: (b, rb, .inr (.byte, xb, ob, zb zs)) :: F)) := by
  refine Ct.intro (L0 := [.val (.ref b), .val (.int (ix a)), .val (.int (ix e)), .unset, .unset]) (plainFor_of_name pf_java_util_Arrays) rfl (fun K => ?_)
  refine Wp.iloadN rfl d_jdk_65_133_0 ?_
  refine Wp.iloadN rfl d_jdk_65_133_1 ?_
  refine Wp.callS nm_M_crb (fun _ => rm_cl hw.set a e _ (by omega) (by omega)) (mk_M_cl hw) (w_268 hw) (w_269 hw) rfl rfl (Wn := 0) rfl rfl (by decide) d_jdk_65_133_2 ?_
  rintro _ _ ⟨rfl, rfl⟩
  refine Wp.iloadN rfl d_jdk_65_133_5 ?_
  refine Wp.iloadN rfl d_jdk_65_133_6 ?_
  refine Wp.isub (z := (ix (e - a))) (ix_sub (a := e) (b := a) (by omega)) d_jdk_65_133_7 ?_
  refine Wp.istoreN (L' := [.val (.ref b), .val (.int (ix a)), .val (.int (ix e)), .val (.int (ix (e - a))), .unset]) rfl d_jdk_65_133_8 ?_
  refine Wp.iloadN rfl d_jdk_65_133_9 ?_
  refine Wp.room (c' := 0) (n' := 0) (by decide) (by decide) ?_
  refine Wp.newP (kk := (e - a)) (vs := zb (List.replicate (e - a) 0)) d_jdk_65_133_10 (w_23 hw) (ix_nat (by omega)) (ix_nn (by omega)) (by omega) (by decide) (by show _ ≤ 64; omega) (zb_rep _) (fun a1 => ?_)
  refine Wp.room (c' := 1) (n' := 64) (by decide) (by omega) ?_
  refine Wp.astore (L' := [.val (.ref b), .val (.int (ix a)), .val (.int (ix e)), .val (.int (ix (e - a))), .val (.ref a1)]) rfl rfl d_jdk_65_133_12 ?_
  refine Wp.aloadN rfl rfl d_jdk_65_133_14 ?_
  refine Wp.iloadN rfl d_jdk_65_133_15 ?_
  refine Wp.aload rfl rfl d_jdk_65_133_16 ?_
  refine Wp.iconst lc_0 d_jdk_65_133_18 ?_
  refine Wp.aloadN rfl rfl d_jdk_65_133_19 ?_
  refine Wp.alen (z := (ix zs.length)) 1 rfl (zb_lenI _) d_jdk_65_133_20 ?_
  refine Wp.iloadN rfl d_jdk_65_133_21 ?_
  refine Wp.isub (z := (ix (zs.length - a))) (ix_sub (a := zs.length) (b := a) (by omega)) d_jdk_65_133_22 ?_
  refine Wp.iloadN rfl d_jdk_65_133_23 ?_
  refine Wp.callS nm_M_crb (fun _ => rm_mn2 hw.set (zs.length - a) (e - a) _ (by omega) (by omega)) (mk_M_mn2 hw) (w_271 hw) (w_75 hw) rfl rfl (Wn := 4) rfl rfl (by decide) d_jdk_65_133_24 ?_
  rintro _ _ ⟨rfl, rfl⟩
  refine Wp.acopy nm_M_crb (us := (zb ((zs.drop a).take (e - a)))) (s := a) (d := 0) (m := (e - a)) 1 0 rfl rfl (w_272 hw) (w_275 hw) (w_273 hw) (w_274 hw) (Or.inl ⟨rfl, rfl⟩) rfl rfl rfl (by rw [zb_drop, zb_take]) (by rw [zb_len]; omega) (by rw [zb_len, List.length_replicate]; omega) (Wn := 0) rfl rfl (by decide) (by decide) d_jdk_65_133_27 (H' := ((eB a1 (zb ((zs.drop a).take (e - a)))) :: (b, rb, .inr (.byte, xb, ob, zb zs)) :: F)) (by simp only [List.take_zero, List.nil_append, Nat.zero_add, cp_end, List.append_nil]; rfl) ?_
  refine Wp.aload rfl rfl d_jdk_65_133_30 ?_
  refine Wp.aret rfl rfl rfl d_jdk_65_133_32 (by decide) (by decide) ?_
  exact ⟨a1, rfl, rfl⟩
theorem d_jdk_65_132_0 : Dc jdk_65_method_132_code 0 (.iload_n 1) 1 1 := ⟨by decide +kernel, rfl⟩
theorem d_jdk_65_132_1 : Bj jdk_65_method_132_code 1 (.ifCond .ne 9) 9 4 10 := ⟨by decide +kernel, rfl, by decide, rfl⟩
theorem d_jdk_65_132_4 : Dc jdk_65_method_132_code 4 (.iload_n 2) 1 5 := ⟨by decide +kernel, rfl⟩
theorem d_jdk_65_132_5 : Dc jdk_65_method_132_code 5 (.aload_n 0) 1 6 := ⟨by decide +kernel, rfl⟩
theorem d_jdk_65_132_6 : Dc jdk_65_method_132_code 6 (.arraylength) 1 7 := ⟨by decide +kernel, rfl⟩
theorem d_jdk_65_132_7 : Bj jdk_65_method_132_code 7 (.if_icmp .eq 10) 10 10 17 := ⟨by decide +kernel, rfl, by decide, rfl⟩
theorem d_jdk_65_132_17 : Dc jdk_65_method_132_code 17 (.aload_n 0) 1 18 := ⟨by decide +kernel, rfl⟩
theorem d_jdk_65_132_18 : Dc jdk_65_method_132_code 18 (.invokevirtual 310) 3 21 := ⟨by decide +kernel, rfl⟩
theorem w_149 {W : Wd} (hw : Ws W) : Wok W (Jvm.Cond.methodLink "java/util/Arrays" (310 : Nat) ({ cls := "[B", name := "clone", desc := "()Ljava/lang/Object;" } : Jvm.MethodName)) := hw.1 _ (List.mem_of_getElem? (i := 149) rfl)
theorem w_150 {W : Wd} (hw : Ws W) : Wok W (Jvm.Cond.sameMethod "[B" "java/lang/Object" "clone" "()Ljava/lang/Object;") := hw.1 _ (List.mem_of_getElem? (i := 150) rfl)
theorem w_154 {W : Wd} (hw : Ws W) : Wok W (Jvm.Cond.native ({ cls := "java/lang/Object", name := "clone", desc := "()Ljava/lang/Object;" } : Jvm.MethodName)) := hw.1 _ (List.mem_of_getElem? (i := 154) rfl)
theorem w_152 {W : Wd} (hw : Ws W) : Wok W (Jvm.Cond.instanceMethod ({ cls := "java/lang/Object", name := "clone", desc := "()Ljava/lang/Object;" } : Jvm.MethodName)) := hw.1 _ (List.mem_of_getElem? (i := 152) rfl)
theorem w_153 {W : Wd} (hw : Ws W) : Wok W (Jvm.Cond.selects "[B" ({ cls := "[B", name := "clone", desc := "()Ljava/lang/Object;" } : Jvm.MethodName) ({ cls := "java/lang/Object", name := "clone", desc := "()Ljava/lang/Object;" } : Jvm.MethodName)) := hw.1 _ (List.mem_of_getElem? (i := 153) rfl)
theorem w_155 {W : Wd} (hw : Ws W) : Wok W (Jvm.Cond.castable "[B" "java/lang/Cloneable") := hw.1 _ (List.mem_of_getElem? (i := 155) rfl)
theorem d_jdk_65_132_21 : Dc jdk_65_method_132_code 21 (.checkcast 311) 3 24 := ⟨by decide +kernel, rfl⟩
theorem w_156 {W : Wd} (hw : Ws W) : Wok W (Jvm.Cond.classLink "java/util/Arrays" (311 : Nat) "[B") := hw.1 _ (List.mem_of_getElem? (i := 156) rfl)
theorem d_jdk_65_132_24 : Dc jdk_65_method_132_code 24 (.areturn) 1 25 := ⟨by decide +kernel, rfl⟩
def M_crC : Mt := (⟨"java/util/Arrays", "copyOfRange", "([BII)[B"⟩, jdk_65_method_132_code, 3, some (.array .byte), ⟨1, 1, 64, 14⟩)
theorem nm_M_crC : mN M_crC = ⟨"java/util/Arrays", "copyOfRange", "([BII)[B"⟩ := by delta mN M_crC; rfl
set_option maxRecDepth 65536 in
set_option maxHeartbeats 40000000 in
theorem rm_crC {W : Wd} (hw : Ws W) (b : Addr) (rb : Bool) (ob : Bool) (zs : List Nat) (k : Nat) (F : List En) (hk : k = zs.length) (hl : zs.length ≤ 64) : Ct W M_crC [.ref b, .int 0, .int (ix k)] ((b, rb, .inr (.byte, true, ob, zb zs)) :: F) (fun v H' => ∃ q, v = some (.ref q) ∧ H' = ((eB q (zb zs)) :: (b, rb, .inr (.byte, true, ob, zb zs)) :: F)) := by
  refine Ct.intro (L0 := [.val (.ref b), .val (.int 0), .val (.int (ix k))]) (plainFor_of_name pf_java_util_Arrays) rfl (fun K => ?_)
  refine Wp.iloadN rfl d_jdk_65_132_0 ?_
  refine Wp.ifF (by decide) d_jdk_65_132_1 ?_
  refine Wp.iloadN rfl d_jdk_65_132_4 ?_
  refine Wp.aloadN rfl rfl d_jdk_65_132_5 ?_
  refine Wp.alen (z := (ix zs.length)) 0 rfl (zb_lenI _) d_jdk_65_132_6 ?_
  refine Wp.icT (teq (congrArg ix hk)).1 d_jdk_65_132_7 ?_
  refine Wp.aloadN rfl rfl d_jdk_65_132_17 ?_
  refine Wp.room (c' := 0) (n' := 0) (by decide) (by decide) ?_
  refine Wp.clone nm_M_crC (kk := zs.length) 0 rfl (zb_len _) (by decide) (w_149 hw) (w_150 hw) (w_154 hw) (w_152 hw) (w_153 hw) (w_155 hw) (Wn := 0) rfl rfl (by decide) (by decide) (by decide) (by show _ ≤ 64; omega) d_jdk_65_132_18 (fun a1 => ?_)
  refine Wp.room (c' := 1) (n' := 64) (by decide) (by omega) ?_
  refine Wp.cast nm_M_crC (w_156 hw) (fun _ P => insArr P 0 rfl (by decide)) d_jdk_65_132_21 ?_
  refine Wp.aret rfl rfl rfl d_jdk_65_132_24 (by decide) (by decide) ?_
  exact ⟨a1, rfl, rfl⟩
theorem d_jdk_65_132_10 : Dc jdk_65_method_132_code 10 (.aload_n 0) 1 11 := ⟨by decide +kernel, rfl⟩
theorem d_jdk_65_132_11 : Dc jdk_65_method_132_code 11 (.iload_n 1) 1 12 := ⟨by decide +kernel, rfl⟩
theorem d_jdk_65_132_12 : Dc jdk_65_method_132_code 12 (.iload_n 2) 1 13 := ⟨by decide +kernel, rfl⟩
theorem d_jdk_65_132_13 : Dc jdk_65_method_132_code 13 (.invokestatic 339) 3 16 := ⟨by decide +kernel, rfl⟩
theorem w_267 {W : Wd} (hw : Ws W) : Wok W (Jvm.Cond.code ({ cls := "java/util/Arrays", name := "copyOfRangeByte", desc := "([BII)[B" } : Jvm.MethodName) jdk_65_method_133_code (5 : Nat) (Option.some (Jvm.ClassFile.FieldType.array Jvm.ClassFile.FieldType.byte))) := hw.1 _ (List.mem_of_getElem? (i := 267) rfl)
theorem pd___BII__B : parseMethodDescriptor "([BII)[B" = some ⟨[(.array .byte), .int, .int], some (.array .byte)⟩ := by decide +kernel
theorem mk_M_crb {W : Wd} (hw : Ws W) : Mk W M_crb ⟨"java/util/Arrays", "copyOfRangeByte", "([BII)[B"⟩ 3 := Mk.of nm_M_crb rfl rfl rfl (w_267 hw) (w_147 hw) (mkLen pd___BII__B rfl) (by decide)
theorem w_265 {W : Wd} (hw : Ws W) : Wok W (Jvm.Cond.methodLink "java/util/Arrays" (339 : Nat) ({ cls := "java/util/Arrays", name := "copyOfRangeByte", desc := "([BII)[B" } : Jvm.MethodName)) := hw.1 _ (List.mem_of_getElem? (i := 265) rfl)
theorem w_266 {W : Wd} (hw : Ws W) : Wok W (Jvm.Cond.static ({ cls := "java/util/Arrays", name := "copyOfRangeByte", desc := "([BII)[B" } : Jvm.MethodName)) := hw.1 _ (List.mem_of_getElem? (i := 266) rfl)
theorem d_jdk_65_132_16 : Dc jdk_65_method_132_code 16 (.areturn) 1 17 := ⟨by decide +kernel, rfl⟩
def M_crA : Mt := (⟨"java/util/Arrays", "copyOfRange", "([BII)[B"⟩, jdk_65_method_132_code, 3, some (.array .byte), ⟨2, 1, 64, 34⟩)
theorem nm_M_crA : mN M_crA = ⟨"java/util/Arrays", "copyOfRange", "([BII)[B"⟩ := by delta mN M_crA; rfl
set_option maxRecDepth 65536 in
set_option maxHeartbeats 40000000 in
theorem rm_crA {W : Wd} (hw : Ws W) (b : Addr) (rb : Bool) (xb : Bool) (ob : Bool) (zs : List Nat) (a : Nat) (e : Nat) (F : List En) (h0 : 0 < a) (h1 : a ≤ e) (h2 : e ≤ zs.length) (hl : zs.length ≤ 64) : Ct W M_crA [.ref b, .int (ix a), .int (ix e)] ((b, rb, .inr (.byte, xb, ob, zb zs)) :: F) (fun v H' => ∃ q, v = some (.ref q) ∧ H' = ((eB q (zb ((zs.drop a).take (e - a)))) :: (b, rb, .inr (.byte, xb, ob, zb zs)) :: F)) := by
  refine Ct.intro (L0 := [.val (.ref b), .val (.int (ix a)), .val (.int (ix e))]) (plainFor_of_name pf_java_util_Arrays) rfl (fun K => ?_)
  refine Wp.iloadN rfl d_jdk_65_132_0 ?_
  refine Wp.ifT (feq (fun q => by have := ix_eq (i := a) (j := 0) (by omega) (by omega) q; omega)).2 d_jdk_65_132_1 ?_
  refine Wp.aloadN rfl rfl d_jdk_65_132_10 ?_
  refine Wp.iloadN rfl d_jdk_65_132_11 ?_
  refine Wp.iloadN rfl d_jdk_65_132_12 ?_
  refine Wp.callS nm_M_crA (fun _ => rm_crb hw.set b rb xb ob zs a e _ (by omega) (by omega) (by omega)) (mk_M_crb hw) (w_265 hw) (w_266 hw) rfl rfl (Wn := 0) rfl rfl (by decide) d_jdk_65_132_13 ?_
  rintro _ _ ⟨q_1, rfl, rfl⟩
  refine Wp.aret rfl rfl rfl d_jdk_65_132_16 (by decide) (by decide) ?_
  exact ⟨q_1, rfl, rfl⟩
def M_crB : Mt := (⟨"java/util/Arrays", "copyOfRange", "([BII)[B"⟩, jdk_65_method_132_code, 3, some (.array .byte), ⟨2, 1, 64, 34⟩)
theorem nm_M_crB : mN M_crB = ⟨"java/util/Arrays", "copyOfRange", "([BII)[B"⟩ := by delta mN M_crB; rfl
set_option maxRecDepth 65536 in
set_option maxHeartbeats 40000000 in
theorem rm_crB {W : Wd} (hw : Ws W) (b : Addr) (rb : Bool) (xb : Bool) (ob : Bool) (zs : List Nat) (e : Nat) (F : List En) (h2 : e < zs.length) (hl : zs.length ≤ 64) : Ct W M_crB [.ref b, .int 0, .int (ix e)] ((b, rb, .inr (.byte, xb, ob, zb zs)) :: F) (fun v H' => ∃ q, v = some (.ref q) ∧ H' = ((eB q (zb ((zs.drop 0).take (e - 0)))) :: (b, rb, .inr (.byte, xb, ob, zb zs)) :: F)) := by
  refine Ct.intro (L0 := [.val (.ref b), .val (.int 0), .val (.int (ix e))]) (plainFor_of_name pf_java_util_Arrays) rfl (fun K => ?_)
  refine Wp.iloadN rfl d_jdk_65_132_0 ?_
  refine Wp.ifF (by decide) d_jdk_65_132_1 ?_
  refine Wp.iloadN rfl d_jdk_65_132_4 ?_
  refine Wp.aloadN rfl rfl d_jdk_65_132_5 ?_
  refine Wp.alen (z := (ix zs.length)) 0 rfl (zb_lenI _) d_jdk_65_132_6 ?_
  refine Wp.icF (feq (fun q => by have := ix_eq (i := e) (j := zs.length) (by omega) (by omega) q; omega)).1 d_jdk_65_132_7 ?_
  refine Wp.aloadN rfl rfl d_jdk_65_132_10 ?_
  refine Wp.iloadN rfl d_jdk_65_132_11 ?_
  refine Wp.iloadN rfl d_jdk_65_132_12 ?_
  refine Wp.callS nm_M_crB (fun _ => rm_crb hw.set b rb xb ob zs 0 e _ (by omega) (by omega) (by omega)) (mk_M_crb hw) (w_265 hw) (w_266 hw) rfl rfl (Wn := 0) rfl rfl (by decide) d_jdk_65_132_13 ?_
  rintro _ _ ⟨q_1, rfl, rfl⟩
  refine Wp.aret rfl rfl rfl d_jdk_65_132_16 (by decide) (by decide) ?_
  exact ⟨q_1, rfl, rfl⟩
theorem d_jdk_42_151_0 : Dc jdk_42_method_151_code 0 (.aload_n 0) 1 1 := ⟨by decide +kernel, rfl⟩
theorem d_jdk_42_151_1 : Dc jdk_42_method_151_code 1 (.invokespecial 1) 3 4 := ⟨by decide +kernel, rfl⟩
theorem w_19 {W : Wd} (hw : Ws W) : Wok W (Jvm.Cond.methodLink "java/lang/String" (1 : Nat) ({ cls := "java/lang/Object", name := "<init>", desc := "()V" } : Jvm.MethodName)) := hw.1 _ (List.mem_of_getElem? (i := 19) rfl)
theorem w_20 {W : Wd} (hw : Ws W) : Wok W (Jvm.Cond.instanceMethod ({ cls := "java/lang/Object", name := "<init>", desc := "()V" } : Jvm.MethodName)) := hw.1 _ (List.mem_of_getElem? (i := 20) rfl)
theorem w_21 {W : Wd} (hw : Ws W) : Wok W (Jvm.Cond.code ({ cls := "java/lang/Object", name := "<init>", desc := "()V" } : Jvm.MethodName) object_method_1_code (1 : Nat) (Option.none : Option Jvm.ClassFile.FieldType)) := hw.1 _ (List.mem_of_getElem? (i := 21) rfl)
theorem d_jdk_42_151_4 : Dc jdk_42_method_151_code 4 (.aload_n 0) 1 5 := ⟨by decide +kernel, rfl⟩
theorem d_jdk_42_151_5 : Dc jdk_42_method_151_code 5 (.aload_n 1) 1 6 := ⟨by decide +kernel, rfl⟩
theorem d_jdk_42_151_6 : Dc jdk_42_method_151_code 6 (.putfield 9) 3 9 := ⟨by decide +kernel, rfl⟩
theorem d_jdk_42_151_9 : Dc jdk_42_method_151_code 9 (.aload_n 0) 1 10 := ⟨by decide +kernel, rfl⟩
theorem d_jdk_42_151_10 : Dc jdk_42_method_151_code 10 (.iload_n 2) 1 11 := ⟨by decide +kernel, rfl⟩
theorem d_jdk_42_151_11 : Dc jdk_42_method_151_code 11 (.putfield 15) 3 14 := ⟨by decide +kernel, rfl⟩
theorem d_jdk_42_151_14 : Dc jdk_42_method_151_code 14 (.return_) 1 15 := ⟨by decide +kernel, rfl⟩
def M_sbb : Mt := (⟨"java/lang/String", "<init>", "([BB)V"⟩, jdk_42_method_151_code, 3, none, ⟨1, 0, 0, 12⟩)
theorem nm_M_sbb : mN M_sbb = ⟨"java/lang/String", "<init>", "([BB)V"⟩ := by delta mN M_sbb; rfl
set_option maxRecDepth 65536 in
set_option maxHeartbeats 40000000 in
theorem rm_sbb {W : Wd} (hw : Ws W) (s : Addr) (b : Addr) (F : List En) : Ct W M_sbb [.ref s, .ref b, .int 0] ((oStr true s (.null) (.int 0)) :: F) (fun v H' => v = none ∧ H' = ((oStr true s (.ref b) (.int 0)) :: F)) := by
  refine Ct.intro (L0 := [.val (.ref s), .val (.ref b), .val (.int 0)]) (plainFor_of_name pf_java_lang_String) rfl (fun K => ?_)
  refine Wp.aloadN rfl rfl d_jdk_42_151_0 ?_
  refine Wp.initO nm_M_sbb (w_19 hw) (w_20 hw) (w_21 hw) (Wn := 0) rfl rfl (by decide) (by decide) d_jdk_42_151_1 ?_
  refine Wp.aloadN rfl rfl d_jdk_42_151_4 ?_
  refine Wp.aloadN rfl rfl d_jdk_42_151_5 ?_
  refine Wp.putF nm_M_sbb (host := "") (Or.inl (w_28 hw)) Via.refl 0 0 rfl rfl (Or.inr ⟨(w_24 hw), rfl, rfl⟩) (w_10 hw) (ty := (.array .byte)) (by decide) rfl rfl d_jdk_42_151_6 (H' := ((oStr true s (.ref b) (.int 0)) :: F)) rfl ?_
  refine Wp.aloadN rfl rfl d_jdk_42_151_9 ?_
  refine Wp.iloadN rfl d_jdk_42_151_10 ?_
  refine Wp.putF nm_M_sbb (host := "") (Or.inl (w_29 hw)) Via.refl 0 1 rfl rfl (Or.inr ⟨(w_25 hw), rfl, rfl⟩) (w_10 hw) (ty := .byte) (by decide) rfl rfl d_jdk_42_151_11 (H' := ((oStr true s (.ref b) (.int 0)) :: F)) rfl ?_
  refine Wp.ret rfl d_jdk_42_151_14 (by decide) (by decide) ?_
  exact ⟨rfl, rfl⟩
theorem d_jdk_43_47_0 : Dc jdk_43_method_47_code 0 (.iload_n 2) 1 1 := ⟨by decide +kernel, rfl⟩
theorem d_jdk_43_47_1 : Bj jdk_43_method_47_code 1 (.ifCond .ne 6) 6 4 7 := ⟨by decide +kernel, rfl, by decide, rfl⟩
theorem d_jdk_43_47_7 : Dc jdk_43_method_47_code 7 (.new 1) 3 10 := ⟨by decide +kernel, rfl⟩
theorem w_263 {W : Wd} (hw : Ws W) : Wok W (Jvm.Cond.classLink "java/lang/StringLatin1" (1 : Nat) "java/lang/String") := hw.1 _ (List.mem_of_getElem? (i := 263) rfl)
theorem nf_oStr {W : Wd} (hw : Ws W) : NewFs W "java/lang/String" [("java/lang/String", "value", "[B", .null), ("java/lang/String", "coder", "B", .int 0)] := NewFs.cons (Or.inr (w_24 hw)) (ty := (.array .byte)) (by decide) rfl (by decide) (NewFs.cons (Or.inr (w_25 hw)) (ty := .byte) (by decide) rfl (by decide) (NewFs.nil))
theorem d_jdk_43_47_10 : Dc jdk_43_method_47_code 10 (.dup) 1 11 := ⟨by decide +kernel, rfl⟩
theorem d_jdk_43_47_11 : Dc jdk_43_method_47_code 11 (.aload_n 0) 1 12 := ⟨by decide +kernel, rfl⟩
theorem d_jdk_43_47_12 : Dc jdk_43_method_47_code 12 (.iload_n 1) 1 13 := ⟨by decide +kernel, rfl⟩
theorem d_jdk_43_47_13 : Dc jdk_43_method_47_code 13 (.iload_n 1) 1 14 := ⟨by decide +kernel, rfl⟩
theorem d_jdk_43_47_14 : Dc jdk_43_method_47_code 14 (.iload_n 2) 1 15 := ⟨by decide +kernel, rfl⟩
theorem d_jdk_43_47_15 : Dc jdk_43_method_47_code 15 (.iadd) 1 16 := ⟨by decide +kernel, rfl⟩
theorem d_jdk_43_47_16 : Dc jdk_43_method_47_code 16 (.invokestatic 232) 3 19 := ⟨by decide +kernel, rfl⟩
theorem w_148 {W : Wd} (hw : Ws W) : Wok W (Jvm.Cond.code ({ cls := "java/util/Arrays", name := "copyOfRange", desc := "([BII)[B" } : Jvm.MethodName) jdk_65_method_132_code (3 : Nat) (Option.some (Jvm.ClassFile.FieldType.array Jvm.ClassFile.FieldType.byte))) := hw.1 _ (List.mem_of_getElem? (i := 148) rfl)
theorem mk_M_crA {W : Wd} (hw : Ws W) : Mk W M_crA ⟨"java/util/Arrays", "copyOfRange", "([BII)[B"⟩ 3 := Mk.of nm_M_crA rfl rfl rfl (w_148 hw) (w_147 hw) (mkLen pd___BII__B rfl) (by decide)
theorem w_264 {W : Wd} (hw : Ws W) : Wok W (Jvm.Cond.methodLink "java/lang/StringLatin1" (232 : Nat) ({ cls := "java/util/Arrays", name := "copyOfRange", desc := "([BII)[B" } : Jvm.MethodName)) := hw.1 _ (List.mem_of_getElem? (i := 264) rfl)
theorem w_146 {W : Wd} (hw : Ws W) : Wok W (Jvm.Cond.static ({ cls := "java/util/Arrays", name := "copyOfRange", desc := "([BII)[B" } : Jvm.MethodName)) := hw.1 _ (List.mem_of_getElem? (i := 146) rfl)
theorem d_jdk_43_47_19 : Dc jdk_43_method_47_code 19 (.iconst 0) 1 20 := ⟨by decide +kernel, rfl⟩
theorem d_jdk_43_47_20 : Dc jdk_43_method_47_code 20 (.invokespecial 112) 3 23 := ⟨by decide +kernel, rfl⟩
theorem pp_2_0_1 : [2, 0, 1].isPerm (List.range 3) = true := by decide +kernel
theorem w_278 {W : Wd} (hw : Ws W) : Wok W (Jvm.Cond.code ({ cls := "java/lang/String", name := "<init>", desc := "([BB)V" } : Jvm.MethodName) jdk_42_method_151_code (3 : Nat) (Option.none : Option Jvm.ClassFile.FieldType)) := hw.1 _ (List.mem_of_getElem? (i := 278) rfl)
theorem pd___BB_V : parseMethodDescriptor "([BB)V" = some ⟨[(.array .byte), .byte], none⟩ := by decide +kernel
theorem mk_M_sbb {W : Wd} (hw : Ws W) : Mk W M_sbb ⟨"java/lang/String", "<init>", "([BB)V"⟩ 2 := Mk.of nm_M_sbb rfl rfl rfl (w_278 hw) (w_11 hw) (mkLen pd___BB_V rfl) (by decide)
theorem w_276 {W : Wd} (hw : Ws W) : Wok W (Jvm.Cond.methodLink "java/lang/StringLatin1" (112 : Nat) ({ cls := "java/lang/String", name := "<init>", desc := "([BB)V" } : Jvm.MethodName)) := hw.1 _ (List.mem_of_getElem? (i := 276) rfl)
theorem w_277 {W : Wd} (hw : Ws W) : Wok W (Jvm.Cond.instanceMethod ({ cls := "java/lang/String", name := "<init>", desc := "([BB)V" } : Jvm.MethodName)) := hw.1 _ (List.mem_of_getElem? (i := 277) rfl)
theorem d_jdk_43_47_23 : Dc jdk_43_method_47_code 23 (.areturn) 1 24 := ⟨by decide +kernel, rfl⟩
def M_nsA : Mt := (⟨"java/lang/StringLatin1", "newString", "([BII)Ljava/lang/String;"⟩, jdk_43_method_47_code, 3, some (.object "java/lang/String"), ⟨3, 2, 68, 50⟩)
theorem nm_M_nsA : mN M_nsA = ⟨"java/lang/StringLatin1", "newString", "([BII)Ljava/lang/String;"⟩ := by delta mN M_nsA; rfl
set_option maxRecDepth 65536 in
set_option maxHeartbeats 40000000 in
theorem rm_nsA {W : Wd} (hw : Ws W) (b : Addr) (rb : Bool) (xb : Bool) (ob : Bool) (zs : List Nat) (a : Nat) (m : Nat) (F : List En) (h0 : 0 < a) (h3 : 0 < m) (h2 : a + m ≤ zs.length) (hl : zs.length ≤ 64) : Ct W M_nsA [.ref b, .int (ix a), .int (ix m)] ((b, rb, .inr (.byte, xb, ob, zb zs)) :: F) (fun v H' => ∃ q r, v = some (.ref q) ∧ H' = ((oStr true q (.ref r) (.int 0)) :: (eB r (zb ((zs.drop a).take m))) :: (b, rb, .inr (.byte, xb, ob, zb zs)) :: F)) := by
  refine Ct.intro (L0 := [.val (.ref b), .val (.int (ix a)), .val (.int (ix m))]) (plainFor_of_name pf_java_lang_StringLatin1) rfl (fun K => ?_)
  refine Wp.iloadN rfl d_jdk_43_47_0 ?_
  refine Wp.ifT (feq (fun q => by have := ix_eq (i := m) (j := 0) (by omega) (by omega) q; omega)).2 d_jdk_43_47_1 ?_
  refine Wp.newO nm_M_nsA (w_263 hw) (w_10 hw) (w_11 hw) (nf_oStr hw) (by decide) (by decide) d_jdk_43_47_7 (fun a1 => ?_)
  refine Wp.dup rfl d_jdk_43_47_10 ?_
  refine Wp.aloadN rfl rfl d_jdk_43_47_11 ?_
  refine Wp.iloadN rfl d_jdk_43_47_12 ?_
  refine Wp.iloadN rfl d_jdk_43_47_13 ?_
  refine Wp.iloadN rfl d_jdk_43_47_14 ?_
  refine Wp.iadd (z := (ix (a + m))) (ix_add _ _) d_jdk_43_47_15 ?_
  refine Wp.perm [1, 0] 2 pp_1_0 (H' := ((b, rb, .inr (.byte, xb, ob, zb zs)) :: (oStr true a1 (.null) (.int 0)) :: F)) rfl ?_
  refine Wp.callS nm_M_nsA (fun _ => rm_crA hw.set b rb xb ob zs a (a + m) _ (by omega) (by omega) (by omega) (by omega)) (mk_M_crA hw) (w_264 hw) (w_146 hw) rfl rfl (Wn := 2) rfl rfl (by decide) d_jdk_43_47_16 ?_
  rintro _ _ ⟨q_2, rfl, rfl⟩
  refine Wp.iconst lc_0 d_jdk_43_47_19 ?_
  refine Wp.perm [2, 0, 1] 3 pp_2_0_1 (H' := ((oStr true a1 (.null) (.int 0)) :: (eB q_2 (zb ((zs.drop a).take ((a + m) - a)))) :: (b, rb, .inr (.byte, xb, ob, zb zs)) :: F)) rfl ?_
  refine Wp.callC nm_M_nsA (fun _ => rm_sbb hw.set a1 q_2 _ ) (mk_M_sbb hw) (w_276 hw) (w_277 hw) rfl rfl rfl rfl (Wn := 1) rfl rfl (by decide) d_jdk_43_47_20 ?_
  rintro _ _ ⟨rfl, rfl⟩
  refine Wp.aret rfl rfl rfl d_jdk_43_47_23 (by decide) (by decide) ?_
  exact ⟨a1, q_2, rfl, by rw [show a + m - a = m by omega]⟩
theorem mk_M_crB {W : Wd} (hw : Ws W) : Mk W M_crB ⟨"java/util/Arrays", "copyOfRange", "([BII)[B"⟩ 3 := Mk.of nm_M_crB rfl rfl rfl (w_148 hw) (w_147 hw) (mkLen pd___BII__B rfl) (by decide)
def M_nsB : Mt := (⟨"java/lang/StringLatin1", "newString", "([BII)Ljava/lang/String;"⟩, jdk_43_method_47_code, 3, some (.object "java/lang/String"), ⟨3, 2, 68, 50⟩)
theorem nm_M_nsB : mN M_nsB = ⟨"java/lang/StringLatin1", "newString", "([BII)Ljava/lang/String;"⟩ := by delta mN M_nsB; rfl
set_option maxRecDepth 65536 in
set_option maxHeartbeats 40000000 in
theorem rm_nsB {W : Wd} (hw : Ws W) (b : Addr) (rb : Bool) (xb : Bool) (ob : Bool) (zs : List Nat) (m : Nat) (F : List En) (h3 : 0 < m) (h2 : m < zs.length) (hl : zs.length ≤ 64) : Ct W M_nsB [.ref b, .int 0, .int (ix m)] ((b, rb, .inr (.byte, xb, ob, zb zs)) :: F) (fun v H' => ∃ q r, v = some (.ref q) ∧ H' = ((oStr true q (.ref r) (.int 0)) :: (eB r (zb (zs.take m))) :: (b, rb, .inr (.byte, xb, ob, zb zs)) :: F)) := by
  refine Ct.intro (L0 := [.val (.ref b), .val (.int 0), .val (.int (ix m))]) (plainFor_of_name pf_java_lang_StringLatin1) rfl (fun K => ?_)
  refine Wp.iloadN rfl d_jdk_43_47_0 ?_
  refine Wp.ifT (feq (fun q => by have := ix_eq (i := m) (j := 0) (by omega) (by omega) q; omega)).2 d_jdk_43_47_1 ?_
  refine Wp.newO nm_M_nsB (w_263 hw) (w_10 hw) (w_11 hw) (nf_oStr hw) (by decide) (by decide) d_jdk_43_47_7 (fun a1 => ?_)
  refine Wp.dup rfl d_jdk_43_47_10 ?_
  refine Wp.aloadN rfl rfl d_jdk_43_47_11 ?_
  refine Wp.iloadN rfl d_jdk_43_47_12 ?_
  refine Wp.iloadN rfl d_jdk_43_47_13 ?_
  refine Wp.iloadN rfl d_jdk_43_47_14 ?_
  refine Wp.iadd (z := (ix (0 + m))) (ix_add _ _) d_jdk_43_47_15 ?_
  refine Wp.perm [1, 0] 2 pp_1_0 (H' := ((b, rb, .inr (.byte, xb, ob, zb zs)) :: (oStr true a1 (.null) (.int 0)) :: F)) rfl ?_
  refine Wp.callS nm_M_nsB (fun _ => rm_crB hw.set b rb xb ob zs (0 + m) _ (by omega) (by omega)) (mk_M_crB hw) (w_264 hw) (w_146 hw) rfl rfl (Wn := 2) rfl rfl (by decide) d_jdk_43_47_16 ?_
  rintro _ _ ⟨q_2, rfl, rfl⟩
  refine Wp.iconst lc_0 d_jdk_43_47_19 ?_
  refine Wp.perm [2, 0, 1] 3 pp_2_0_1 (H' := ((oStr true a1 (.null) (.int 0)) :: (eB q_2 (zb ((zs.drop 0).take ((0 + m) - 0)))) :: (b, rb, .inr (.byte, xb, ob, zb zs)) :: F)) rfl ?_
  refine Wp.callC nm_M_nsB (fun _ => rm_sbb hw.set a1 q_2 _ ) (mk_M_sbb hw) (w_276 hw) (w_277 hw) rfl rfl rfl rfl (Wn := 1) rfl rfl (by decide) d_jdk_43_47_20 ?_
  rintro _ _ ⟨rfl, rfl⟩
  refine Wp.aret rfl rfl rfl d_jdk_43_47_23 (by decide) (by decide) ?_
  exact ⟨a1, q_2, rfl, by rw [show 0 + m - 0 = m by omega, List.drop_zero]⟩
theorem d_jdk_43_47_4 : Dc jdk_43_method_47_code 4 (.ldc 151) 2 6 := ⟨by decide +kernel, rfl⟩
theorem d_jdk_43_47_6 : Dc jdk_43_method_47_code 6 (.areturn) 1 7 := ⟨by decide +kernel, rfl⟩
def M_ns0 : Mt := (⟨"java/lang/StringLatin1", "newString", "([BII)Ljava/lang/String;"⟩, jdk_43_method_47_code, 3, some (.object "java/lang/String"), ⟨0, 2, 4, 0⟩)
theorem nm_M_ns0 : mN M_ns0 = ⟨"java/lang/StringLatin1", "newString", "([BII)Ljava/lang/String;"⟩ := by delta mN M_ns0; rfl
set_option maxRecDepth 65536 in
set_option maxHeartbeats 40000000 in
theorem rm_ns0 {W : Wd} (hw : Ws W) (b : Addr) (F : List En) : CtW consts_1 W M_ns0 [.ref b, .int 0, .int 0] F (fun v H' => ∃ q r, v = some (.ref q) ∧ H' = ((oStr false q (.ref r) (.int 0)) :: (r, false, .inr (.byte, false, false, zb [])) :: F)) := by
  refine CtW.intro (ew_1 hw) (L0 := [.val (.ref b), .val (.int 0), .val (.int 0)]) (plainFor_of_name pf_java_lang_StringLatin1) rfl (fun K s0 hk => ?_)
  refine Wp.iloadN rfl d_jdk_43_47_0 ?_
  refine Wp.ifF (by decide) d_jdk_43_47_1 ?_
  refine Wp.ldcK nm_M_ns0 (n1 := 0) hk (w_317 hw) (sa_1 hw) (List.mem_of_getElem? (i := 3) rfl) tx_0 (by decide) (nf_oStr hw) ln_0 (by decide) (by decide) (by decide) d_jdk_43_47_4 (fun _ a1 b2 hk => ?_)
  refine Wp.aret rfl rfl rfl d_jdk_43_47_6 (by decide) (by decide) ?_
  exact ⟨a1, b2, rfl, rfl⟩
theorem d_jdk_42_92_0 : Dc jdk_42_method_92_code 0 (.aload_n 0) 1 1 := ⟨by decide +kernel, rfl⟩
theorem d_jdk_42_92_1 : Dc jdk_42_method_92_code 1 (.invokevirtual 505) 3 4 := ⟨by decide +kernel, rfl⟩
theorem d_jdk_42_92_4 : Dc jdk_42_method_92_code 4 (.istore_n 3) 1 5 := ⟨by decide +kernel, rfl⟩
theorem d_jdk_42_92_5 : Dc jdk_42_method_92_code 5 (.iload_n 1) 1 6 := ⟨by decide +kernel, rfl⟩
theorem d_jdk_42_92_6 : Dc jdk_42_method_92_code 6 (.iload_n 2) 1 7 := ⟨by decide +kernel, rfl⟩
theorem d_jdk_42_92_7 : Dc jdk_42_method_92_code 7 (.iload_n 3) 1 8 := ⟨by decide +kernel, rfl⟩
theorem d_jdk_42_92_8 : Dc jdk_42_method_92_code 8 (.invokestatic 521) 3 11 := ⟨by decide +kernel, rfl⟩
theorem w_258 {W : Wd} (hw : Ws W) : Wok W (Jvm.Cond.code ({ cls := "java/lang/String", name := "checkBoundsBeginEnd", desc := "(III)V" } : Jvm.MethodName) jdk_42_method_158_code (3 : Nat) (Option.none : Option Jvm.ClassFile.FieldType)) := hw.1 _ (List.mem_of_getElem? (i := 258) rfl)
theorem pd__III_V : parseMethodDescriptor "(III)V" = some ⟨[.int, .int, .int], none⟩ := by decide +kernel
theorem mk_M_cbe {W : Wd} (hw : Ws W) : Mk W M_cbe ⟨"java/lang/String", "checkBoundsBeginEnd", "(III)V"⟩ 3 := Mk.of nm_M_cbe rfl rfl rfl (w_258 hw) (w_11 hw) (mkLen pd__III_V rfl) (by decide)
theorem w_256 {W : Wd} (hw : Ws W) : Wok W (Jvm.Cond.methodLink "java/lang/String" (521 : Nat) ({ cls := "java/lang/String", name := "checkBoundsBeginEnd", desc := "(III)V" } : Jvm.MethodName)) := hw.1 _ (List.mem_of_getElem? (i := 256) rfl)
theorem w_257 {W : Wd} (hw : Ws W) : Wok W (Jvm.Cond.static ({ cls := "java/lang/String", name := "checkBoundsBeginEnd", desc := "(III)V" } : Jvm.MethodName)) := hw.1 _ (List.mem_of_getElem? (i := 257) rfl)
theorem d_jdk_42_92_11 : Dc jdk_42_method_92_code 11 (.iload_n 1) 1 12 := ⟨by decide +kernel, rfl⟩
theorem d_jdk_42_92_12 : Bj jdk_42_method_92_code 12 (.ifCond .ne 10) 10 15 22 := ⟨by decide +kernel, rfl, by decide, rfl⟩
theorem d_jdk_42_92_22 : Dc jdk_42_method_92_code 22 (.iload_n 2) 1 23 := ⟨by decide +kernel, rfl⟩
theorem d_jdk_42_92_23 : Dc jdk_42_method_92_code 23 (.iload_n 1) 1 24 := ⟨by decide +kernel, rfl⟩
theorem d_jdk_42_92_24 : Dc jdk_42_method_92_code 24 (.isub) 1 25 := ⟨by decide +kernel, rfl⟩
theorem d_jdk_42_92_25 : Dc jdk_42_method_92_code 25 (.istore 4) 2 27 := ⟨by decide +kernel, rfl⟩
theorem d_jdk_42_92_27 : Dc jdk_42_method_92_code 27 (.aload_n 0) 1 28 := ⟨by decide +kernel, rfl⟩
theorem d_jdk_42_92_28 : Dc jdk_42_method_92_code 28 (.invokevirtual 492) 3 31 := ⟨by decide +kernel, rfl⟩
theorem d_jdk_42_92_31 : Bj jdk_42_method_92_code 31 (.ifCond .eq 16) 16 34 47 := ⟨by decide +kernel, rfl, by decide, rfl⟩
theorem d_jdk_42_92_34 : Dc jdk_42_method_92_code 34 (.aload_n 0) 1 35 := ⟨by decide +kernel, rfl⟩
theorem d_jdk_42_92_35 : Dc jdk_42_method_92_code 35 (.getfield 9) 3 38 := ⟨by decide +kernel, rfl⟩
theorem d_jdk_42_92_38 : Dc jdk_42_method_92_code 38 (.iload_n 1) 1 39 := ⟨by decide +kernel, rfl⟩
theorem d_jdk_42_92_39 : Dc jdk_42_method_92_code 39 (.iload 4) 2 41 := ⟨by decide +kernel, rfl⟩
theorem d_jdk_42_92_41 : Dc jdk_42_method_92_code 41 (.invokestatic 685) 3 44 := ⟨by decide +kernel, rfl⟩
theorem w_262 {W : Wd} (hw : Ws W) : Wok W (Jvm.Cond.code ({ cls := "java/lang/StringLatin1", name := "newString", desc := "([BII)Ljava/lang/String;" } : Jvm.MethodName) jdk_43_method_47_code (3 : Nat) (Option.some (Jvm.ClassFile.FieldType.object "java/lang/String"))) := hw.1 _ (List.mem_of_getElem? (i := 262) rfl)
theorem pd___BII_Ljava_lang_String_ : parseMethodDescriptor "([BII)Ljava/lang/String;" = some ⟨[(.array .byte), .int, .int], some (.object "java/lang/String")⟩ := by decide +kernel
theorem mk_M_nsA {W : Wd} (hw : Ws W) : Mk W M_nsA ⟨"java/lang/StringLatin1", "newString", "([BII)Ljava/lang/String;"⟩ 3 := Mk.of nm_M_nsA rfl rfl rfl (w_262 hw) (w_65 hw) (mkLen pd___BII_Ljava_lang_String_ rfl) (by decide)
theorem w_260 {W : Wd} (hw : Ws W) : Wok W (Jvm.Cond.methodLink "java/lang/String" (685 : Nat) ({ cls := "java/lang/StringLatin1", name := "newString", desc := "([BII)Ljava/lang/String;" } : Jvm.MethodName)) := hw.1 _ (List.mem_of_getElem? (i := 260) rfl)
theorem w_261 {W : Wd} (hw : Ws W) : Wok W (Jvm.Cond.static ({ cls := "java/lang/StringLatin1", name := "newString", desc := "([BII)Ljava/lang/String;" } : Jvm.MethodName)) := hw.1 _ (List.mem_of_getElem? (i := 261) rfl)
theorem d_jdk_42_92_44 : Bj jdk_42_method_92_code 44 (.goto 13) 13 47 57 := ⟨by decide +kernel, rfl, by decide, rfl⟩
theorem d_jdk_42_92_57 : Dc jdk_42_method_92_code 57 (.areturn) 1 58 := ⟨by decide +kernel, rfl⟩
theorem pp_0_1_3_2 : [0, 1, 3, 2].isPerm (List.range 4) = true := by decide +kernel
def M_suA : Mt := (⟨"java/lang/String", "substring", "(II)Ljava/lang/String;"⟩, jdk_42_method_92_code, 5, some (.object "java/lang/String"), ⟨4, 2, 68, 64⟩)
theorem nm_M_suA : mN M_suA = ⟨"java/lang/String", "substring", "(II)Ljava/lang/String;"⟩ := by delta mN M_suA; rfl
set_option maxRecDepth 65536 in
set_option maxHeartbeats 40000000 in
theorem rm_suA {W : Wd} (hw : Ws W) (s : Addr) (b : Addr) (rs : Bool) (rb : Bool) (xb : Bool) (ob : Bool) (zs : List Nat) (a : Nat) (e : Nat) (F : List En) (h0 : 0 < a) (h1 : a < e) (h2 : e ≤ zs.length) (hl : zs.length ≤ 64) : Ct W M_suA [.ref s, .int (ix a), .int (ix e)] ((oStr rs s (.ref b) (.int 0)) :: (b, rb, .inr (.byte, xb, ob, zb zs)) :: F) (fun v H' => ∃ q r, v = some (.ref q) ∧ H' = ((oStr true q (.ref r) (.int 0)) :: (eB r (zb ((zs.drop a).take (e - a)))) :: (oStr rs s (.ref b) (.int 0)) :: (b, rb, .inr (.byte, xb, ob, zb zs)) :: F)) := by
  refine Ct.intro (L0 := [.val (.ref s), .val (.int (ix a)), .val (.int (ix e)), .unset, .unset]) (plainFor_of_name pf_java_lang_String) rfl (fun K => ?_)
  refine Wp.aloadN rfl rfl d_jdk_42_92_0 ?_
  refine Wp.callV nm_M_suA (fun _ => rm_len hw.set s b rs rb xb ob zs _ ) 0 rfl (mk_M_len hw) (w_53 hw) (w_54 hw) (w_56 hw) (w_55 hw) (S' := "") (Or.inl rfl) (by decide) rfl rfl rfl (Wn := 0) rfl rfl (by decide) d_jdk_42_92_1 ?_
  rintro _ _ ⟨rfl, rfl⟩
  refine Wp.istoreN (L' := [.val (.ref s), .val (.int (ix a)), .val (.int (ix e)), .val (.int (ix zs.length)), .unset]) rfl d_jdk_42_92_4 ?_
  refine Wp.iloadN rfl d_jdk_42_92_5 ?_
  refine Wp.iloadN rfl d_jdk_42_92_6 ?_
  refine Wp.iloadN rfl d_jdk_42_92_7 ?_
  refine Wp.callS nm_M_suA (fun _ => rm_cbe hw.set a e zs.length _ (by omega) (by omega) (by omega)) (mk_M_cbe hw) (w_256 hw) (w_257 hw) rfl rfl (Wn := 0) rfl rfl (by decide) d_jdk_42_92_8 ?_
  rintro _ _ ⟨rfl, rfl⟩
  refine Wp.iloadN rfl d_jdk_42_92_11 ?_
  refine Wp.ifT (feq (fun q => by have := ix_eq (i := a) (j := 0) (by omega) (by omega) q; omega)).2 d_jdk_42_92_12 ?_
  refine Wp.iloadN rfl d_jdk_42_92_22 ?_
  refine Wp.iloadN rfl d_jdk_42_92_23 ?_
  refine Wp.isub (z := (ix (e - a))) (ix_sub (a := e) (b := a) (by omega)) d_jdk_42_92_24 ?_
  refine Wp.istore (L' := [.val (.ref s), .val (.int (ix a)), .val (.int (ix e)), .val (.int (ix zs.length)), .val (.int (ix (e - a)))]) rfl d_jdk_42_92_25 ?_
  refine Wp.aloadN rfl rfl d_jdk_42_92_27 ?_
  refine Wp.callV nm_M_suA (fun _ => rm_il1 hw.set s b rs _ ) 0 rfl (mk_M_il1 hw) (w_47 hw) (w_48 hw) (w_50 hw) (w_49 hw) (S' := "") (Or.inl rfl) (by decide) rfl rfl rfl (Wn := 0) rfl rfl (by decide) d_jdk_42_92_28 ?_
  rintro _ _ ⟨rfl, rfl⟩
  refine Wp.ifF (by decide) d_jdk_42_92_31 ?_
  refine Wp.aloadN rfl rfl d_jdk_42_92_34 ?_
  refine Wp.getF nm_M_suA (host := "") (Or.inl (w_28 hw)) Via.refl 0 0 rfl rfl d_jdk_42_92_35 ?_
  refine Wp.iloadN rfl d_jdk_42_92_38 ?_
  refine Wp.iload rfl d_jdk_42_92_39 ?_
  refine Wp.perm [1, 0] 2 pp_1_0 (H' := ((b, rb, .inr (.byte, xb, ob, zb zs)) :: (oStr rs s (.ref b) (.int 0)) :: F)) rfl ?_
  refine Wp.callS nm_M_suA (fun _ => rm_nsA hw.set b rb xb ob zs a (e - a) _ (by omega) (by omega) (by omega) (by omega)) (mk_M_nsA hw) (w_260 hw) (w_261 hw) rfl rfl (Wn := 0) rfl rfl (by decide) d_jdk_42_92_41 ?_
  rintro _ _ ⟨q_1, r_2, rfl, rfl⟩
  refine Wp.goto d_jdk_42_92_44 ?_
  refine Wp.perm [0, 1, 3, 2] 4 pp_0_1_3_2 (H' := ((oStr true q_1 (.ref r_2) (.int 0)) :: (eB r_2 (zb ((zs.drop a).take (e - a)))) :: (oStr rs s (.ref b) (.int 0)) :: (b, rb, .inr (.byte, xb, ob, zb zs)) :: F)) rfl ?_
  refine Wp.aret rfl rfl rfl d_jdk_42_92_57 (by decide) (by decide) ?_
  exact ⟨q_1, r_2, rfl, rfl⟩
theorem d_jdk_42_92_15 : Dc jdk_42_method_92_code 15 (.iload_n 2) 1 16 := ⟨by decide +kernel, rfl⟩
theorem d_jdk_42_92_16 : Dc jdk_42_method_92_code 16 (.iload_n 3) 1 17 := ⟨by decide +kernel, rfl⟩
theorem d_jdk_42_92_17 : Bj jdk_42_method_92_code 17 (.if_icmp .ne 5) 5 20 22 := ⟨by decide +kernel, rfl, by decide, rfl⟩
theorem mk_M_ns0 {W : Wd} (hw : Ws W) : Mk W M_ns0 ⟨"java/lang/StringLatin1", "newString", "([BII)Ljava/lang/String;"⟩ 3 := Mk.of nm_M_ns0 rfl rfl rfl (w_262 hw) (w_65 hw) (mkLen pd___BII_Ljava_lang_String_ rfl) (by decide)
def M_su0 : Mt := (⟨"java/lang/String", "substring", "(II)Ljava/lang/String;"⟩, jdk_42_method_92_code, 5, some (.object "java/lang/String"), ⟨2, 2, 4, 29⟩)
theorem nm_M_su0 : mN M_su0 = ⟨"java/lang/String", "substring", "(II)Ljava/lang/String;"⟩ := by delta mN M_su0; rfl
set_option maxRecDepth 65536 in
set_option maxHeartbeats 40000000 in
theorem rm_su0 {W : Wd} (hw : Ws W) (s : Addr) (b : Addr) (rs : Bool) (rb : Bool) (xb : Bool) (ob : Bool) (zs : List Nat) (F : List En) (h0 : 0 < zs.length) (hl : zs.length ≤ 64) : CtW consts_1 W M_su0 [.ref s, .int 0, .int 0] ((oStr rs s (.ref b) (.int 0)) :: (b, rb, .inr (.byte, xb, ob, zb zs)) :: F) (fun v H' => ∃ q r, v = some (.ref q) ∧ H' = ((oStr false q (.ref r) (.int 0)) :: (r, false, .inr (.byte, false, false, zb [])) :: (oStr rs s (.ref b) (.int 0)) :: (b, rb, .inr (.byte, xb, ob, zb zs)) :: F)) := by
  refine CtW.intro (ew_1 hw) (L0 := [.val (.ref s), .val (.int 0), .val (.int 0), .unset, .unset]) (plainFor_of_name pf_java_lang_String) rfl (fun K s0 hk => ?_)
  refine Wp.aloadN rfl rfl d_jdk_42_92_0 ?_
  refine Wp.callV nm_M_su0 (fun _ => rm_len hw.set s b rs rb xb ob zs _ ) 0 rfl (mk_M_len hw) (w_53 hw) (w_54 hw) (w_56 hw) (w_55 hw) (S' := "") (Or.inl rfl) (by decide) rfl rfl rfl (Wn := 0) rfl rfl (by decide) d_jdk_42_92_1 ?_
  rintro _ _ ⟨rfl, rfl⟩
  refine Wp.istoreN (L' := [.val (.ref s), .val (.int 0), .val (.int 0), .val (.int (ix zs.length)), .unset]) rfl d_jdk_42_92_4 ?_
  refine Wp.iloadN rfl d_jdk_42_92_5 ?_
  refine Wp.iloadN rfl d_jdk_42_92_6 ?_
  refine Wp.iloadN rfl d_jdk_42_92_7 ?_
  refine Wp.callS nm_M_su0 (fun _ => rm_cbe hw.set 0 0 zs.length _ (by omega) (by omega) (by omega)) (mk_M_cbe hw) (w_256 hw) (w_257 hw) rfl rfl (Wn := 0) rfl rfl (by decide) d_jdk_42_92_8 ?_
  rintro _ _ ⟨rfl, rfl⟩
  refine Wp.iloadN rfl d_jdk_42_92_11 ?_
  refine Wp.ifF (by decide) d_jdk_42_92_12 ?_
  refine Wp.iloadN rfl d_jdk_42_92_15 ?_
  refine Wp.iloadN rfl d_jdk_42_92_16 ?_
  refine Wp.icT (feq (fun q => by have := ix_eq (i := 0) (j := zs.length) (by omega) (by omega) q; omega)).2 d_jdk_42_92_17 ?_
  refine Wp.iloadN rfl d_jdk_42_92_22 ?_
  refine Wp.iloadN rfl d_jdk_42_92_23 ?_
  refine Wp.isub (z := 0) (by decide) d_jdk_42_92_24 ?_
  refine Wp.istore (L' := [.val (.ref s), .val (.int 0), .val (.int 0), .val (.int (ix zs.length)), .val (.int 0)]) rfl d_jdk_42_92_25 ?_
  refine Wp.aloadN rfl rfl d_jdk_42_92_27 ?_
  refine Wp.callV nm_M_su0 (fun _ => rm_il1 hw.set s b rs _ ) 0 rfl (mk_M_il1 hw) (w_47 hw) (w_48 hw) (w_50 hw) (w_49 hw) (S' := "") (Or.inl rfl) (by decide) rfl rfl rfl (Wn := 0) rfl rfl (by decide) d_jdk_42_92_28 ?_
  rintro _ _ ⟨rfl, rfl⟩
  refine Wp.ifF (by decide) d_jdk_42_92_31 ?_
  refine Wp.aloadN rfl rfl d_jdk_42_92_34 ?_
  refine Wp.getF nm_M_su0 (host := "") (Or.inl (w_28 hw)) Via.refl 0 0 rfl rfl d_jdk_42_92_35 ?_
  refine Wp.iloadN rfl d_jdk_42_92_38 ?_
  refine Wp.iload rfl d_jdk_42_92_39 ?_
  refine Wp.callSW nm_M_su0 hk (rm_ns0 hw b _ ) (mk_M_ns0 hw) (w_260 hw) (w_261 hw) rfl rfl (Wn := 0) rfl rfl (by decide) d_jdk_42_92_41 ?_
  rintro _ _ _ hk ⟨q_1, r_2, rfl, rfl⟩
  refine Wp.goto d_jdk_42_92_44 ?_
  refine Wp.aret rfl rfl rfl d_jdk_42_92_57 (by decide) (by decide) ?_
  exact ⟨q_1, r_2, rfl, rfl⟩
theorem mk_M_nsB {W : Wd} (hw : Ws W) : Mk W M_nsB ⟨"java/lang/StringLatin1", "newString", "([BII)Ljava/lang/String;"⟩ 3 := Mk.of nm_M_nsB rfl rfl rfl (w_262 hw) (w_65 hw) (mkLen pd___BII_Ljava_lang_String_ rfl) (by decide)
def M_suB : Mt := (⟨"java/lang/String", "substring", "(II)Ljava/lang/String;"⟩, jdk_42_method_92_code, 5, some (.object "java/lang/String"), ⟨4, 2, 68, 64⟩)
theorem nm_M_suB : mN M_suB = ⟨"java/lang/String", "substring", "(II)Ljava/lang/String;"⟩ := by delta mN M_suB; rfl
set_option maxRecDepth 65536 in
set_option maxHeartbeats 40000000 in
theorem rm_suB {W : Wd} (hw : Ws W) (s : Addr) (b : Addr) (rs : Bool) (rb : Bool) (xb : Bool) (ob : Bool) (zs : List Nat) (e : Nat) (F : List En) (h0 : 0 < e) (h1 : e < zs.length) (hl : zs.length ≤ 64) : Ct W M_suB [.ref s, .int 0, .int (ix e)] ((oStr rs s (.ref b) (.int 0)) :: (b, rb, .inr (.byte, xb, ob, zb zs)) :: F) (fun v H' => ∃ q r, v = some (.ref q) ∧ H' = ((oStr true q (.ref r) (.int 0)) :: (eB r (zb (zs.take (e - 0)))) :: (oStr rs s (.ref b) (.int 0)) :: (b, rb, .inr (.byte, xb, ob, zb zs)) :: F)) := by
  refine Ct.intro (L0 := [.val (.ref s), .val (.int 0), .val (.int (ix e)), .unset, .unset]) (plainFor_of_name pf_java_lang_String) rfl (fun K => ?_)
  refine Wp.aloadN rfl rfl d_jdk_42_92_0 ?_
  refine Wp.callV nm_M_suB (fun _ => rm_len hw.set s b rs rb xb ob zs _ ) 0 rfl (mk_M_len hw) (w_53 hw) (w_54 hw) (w_56 hw) (w_55 hw) (S' := "") (Or.inl rfl) (by decide) rfl rfl rfl (Wn := 0) rfl rfl (by decide) d_jdk_42_92_1 ?_
  rintro _ _ ⟨rfl, rfl⟩
  refine Wp.istoreN (L' := [.val (.ref s), .val (.int 0), .val (.int (ix e)), .val (.int (ix zs.length)), .unset]) rfl d_jdk_42_92_4 ?_
  refine Wp.iloadN rfl d_jdk_42_92_5 ?_
  refine Wp.iloadN rfl d_jdk_42_92_6 ?_
  refine Wp.iloadN rfl d_jdk_42_92_7 ?_
  refine Wp.callS nm_M_suB (fun _ => rm_cbe hw.set 0 e zs.length _ (by omega) (by omega) (by omega)) (mk_M_cbe hw) (w_256 hw) (w_257 hw) rfl rfl (Wn := 0) rfl rfl (by decide) d_jdk_42_92_8 ?_
  rintro _ _ ⟨rfl, rfl⟩
  refine Wp.iloadN rfl d_jdk_42_92_11 ?_
  refine Wp.ifF (by decide) d_jdk_42_92_12 ?_
  refine Wp.iloadN rfl d_jdk_42_92_15 ?_
  refine Wp.iloadN rfl d_jdk_42_92_16 ?_
  refine Wp.icT (feq (fun q => by have := ix_eq (i := e) (j := zs.length) (by omega) (by omega) q; omega)).2 d_jdk_42_92_17 ?_
  refine Wp.iloadN rfl d_jdk_42_92_22 ?_
  refine Wp.iloadN rfl d_jdk_42_92_23 ?_
  refine Wp.isub (z := (ix (e - 0))) (ix_sub (a := e) (b := 0) (by omega)) d_jdk_42_92_24 ?_
  refine Wp.istore (L' := [.val (.ref s), .val (.int 0), .val (.int (ix e)), .val (.int (ix zs.length)), .val (.int (ix (e - 0)))]) rfl d_jdk_42_92_25 ?_
  refine Wp.aloadN rfl rfl d_jdk_42_92_27 ?_
  refine Wp.callV nm_M_suB (fun _ => rm_il1 hw.set s b rs _ ) 0 rfl (mk_M_il1 hw) (w_47 hw) (w_48 hw) (w_50 hw) (w_49 hw) (S' := "") (Or.inl rfl) (by decide) rfl rfl rfl (Wn := 0) rfl rfl (by decide) d_jdk_42_92_28 ?_
  rintro _ _ ⟨rfl, rfl⟩
  refine Wp.ifF (by decide) d_jdk_42_92_31 ?_
  refine Wp.aloadN rfl rfl d_jdk_42_92_34 ?_
  refine Wp.getF nm_M_suB (host := "") (Or.inl (w_28 hw)) Via.refl 0 0 rfl rfl d_jdk_42_92_35 ?_
  refine Wp.iloadN rfl d_jdk_42_92_38 ?_
  refine Wp.iload rfl d_jdk_42_92_39 ?_
  refine Wp.perm [1, 0] 2 pp_1_0 (H' := ((b, rb, .inr (.byte, xb, ob, zb zs)) :: (oStr rs s (.ref b) (.int 0)) :: F)) rfl ?_
  refine Wp.callS nm_M_suB (fun _ => rm_nsB hw.set b rb xb ob zs (e - 0) _ (by omega) (by omega) (by omega)) (mk_M_nsB hw) (w_260 hw) (w_261 hw) rfl rfl (Wn := 0) rfl rfl (by decide) d_jdk_42_92_41 ?_
  rintro _ _ ⟨q_1, r_2, rfl, rfl⟩
  refine Wp.goto d_jdk_42_92_44 ?_
  refine Wp.perm [0, 1, 3, 2] 4 pp_0_1_3_2 (H' := ((oStr true q_1 (.ref r_2) (.int 0)) :: (eB r_2 (zb (zs.take (e - 0)))) :: (oStr rs s (.ref b) (.int 0)) :: (b, rb, .inr (.byte, xb, ob, zb zs)) :: F)) rfl ?_
  refine Wp.aret rfl rfl rfl d_jdk_42_92_57 (by decide) (by decide) ?_
  exact ⟨q_1, r_2, rfl, rfl⟩
theorem d_jdk_42_92_20 : Dc jdk_42_method_92_code 20 (.aload_n 0) 1 21 := ⟨by decide +kernel, rfl⟩
theorem d_jdk_42_92_21 : Dc jdk_42_method_92_code 21 (.areturn) 1 22 := ⟨by decide +kernel, rfl⟩
def M_suW : Mt := (⟨"java/lang/String", "substring", "(II)Ljava/lang/String;"⟩, jdk_42_method_92_code, 5, some (.object "java/lang/String"), ⟨2, 0, 0, 29⟩)
theorem nm_M_suW : mN M_suW = ⟨"java/lang/String", "substring", "(II)Ljava/lang/String;"⟩ := by delta mN M_suW; rfl
set_option maxRecDepth 65536 in
set_option maxHeartbeats 40000000 in
theorem rm_suW {W : Wd} (hw : Ws W) (s : Addr) (b : Addr) (rs : Bool) (rb : Bool) (xb : Bool) (ob : Bool) (zs : List Nat) (F : List En) (hl : zs.length ≤ 64) : Ct W M_suW [.ref s, .int 0, .int (ix zs.length)] ((oStr rs s (.ref b) (.int 0)) :: (b, rb, .inr (.byte, xb, ob, zb zs)) :: F) (fun v H' => v = some (.ref s) ∧ H' = ((oStr rs s (.ref b) (.int 0)) :: (b, rb, .inr (.byte, xb, ob, zb zs)) :: F)) := by
  refine Ct.intro (L0 := [.val (.ref s), .val (.int 0), .val (.int (ix zs.length)), .unset, .unset]) (plainFor_of_name pf_java_lang_String) rfl (fun K => ?_)
  refine Wp.aloadN rfl rfl d_jdk_42_92_0 ?_
  refine Wp.callV nm_M_suW (fun _ => rm_len hw.set s b rs rb xb ob zs _ ) 0 rfl (mk_M_len hw) (w_53 hw) (w_54 hw) (w_56 hw) (w_55 hw) (S' := "") (Or.inl rfl) (by decide) rfl rfl rfl (Wn := 0) rfl rfl (by decide) d_jdk_42_92_1 ?_
  rintro _ _ ⟨rfl, rfl⟩
  refine Wp.istoreN (L' := [.val (.ref s), .val (.int 0), .val (.int (ix zs.length)), .val (.int (ix zs.length)), .unset]) rfl d_jdk_42_92_4 ?_
  refine Wp.iloadN rfl d_jdk_42_92_5 ?_
  refine Wp.iloadN rfl d_jdk_42_92_6 ?_
  refine Wp.iloadN rfl d_jdk_42_92_7 ?_
  refine Wp.callS nm_M_suW (fun _ => rm_cbe hw.set 0 zs.length zs.length _ (by omega) (by omega) (by omega)) (mk_M_cbe hw) (w_256 hw) (w_257 hw) rfl rfl (Wn := 0) rfl rfl (by decide) d_jdk_42_92_8 ?_
  rintro _ _ ⟨rfl, rfl⟩
  refine Wp.iloadN rfl d_jdk_42_92_11 ?_
  refine Wp.ifF (by decide) d_jdk_42_92_12 ?_
  refine Wp.iloadN rfl d_jdk_42_92_15 ?_
  refine Wp.iloadN rfl d_jdk_42_92_16 ?_
  refine Wp.icF (teq rfl).2 d_jdk_42_92_17 ?_
  refine Wp.aloadN rfl rfl d_jdk_42_92_20 ?_
  refine Wp.aret rfl rfl rfl d_jdk_42_92_21 (by decide) (by decide) ?_
  exact ⟨rfl, rfl⟩
theorem d_jdk_42_91_0 : Dc jdk_42_method_91_code 0 (.aload_n 0) 1 1 := ⟨by decide +kernel, rfl⟩
theorem d_jdk_42_91_1 : Dc jdk_42_method_91_code 1 (.iload_n 1) 1 2 := ⟨by decide +kernel, rfl⟩
theorem d_jdk_42_91_2 : Dc jdk_42_method_91_code 2 (.aload_n 0) 1 3 := ⟨by decide +kernel, rfl⟩
theorem d_jdk_42_91_3 : Dc jdk_42_method_91_code 3 (.invokevirtual 505) 3 6 := ⟨by decide +kernel, rfl⟩
theorem d_jdk_42_91_6 : Dc jdk_42_method_91_code 6 (.invokevirtual 681) 3 9 := ⟨by decide +kernel, rfl⟩
theorem w_254 {W : Wd} (hw : Ws W) : Wok W (Jvm.Cond.selects "java/lang/String" ({ cls := "java/lang/String", name := "substring", desc := "(II)Ljava/lang/String;" } : Jvm.MethodName) ({ cls := "java/lang/String", name := "substring", desc := "(II)Ljava/lang/String;" } : Jvm.MethodName)) := hw.1 _ (List.mem_of_getElem? (i := 254) rfl)
theorem w_255 {W : Wd} (hw : Ws W) : Wok W (Jvm.Cond.code ({ cls := "java/lang/String", name := "substring", desc := "(II)Ljava/lang/String;" } : Jvm.MethodName) jdk_42_method_92_code (5 : Nat) (Option.some (Jvm.ClassFile.FieldType.object "java/lang/String"))) := hw.1 _ (List.mem_of_getElem? (i := 255) rfl)
theorem pd__II_Ljava_lang_String_ : parseMethodDescriptor "(II)Ljava/lang/String;" = some ⟨[.int, .int], some (.object "java/lang/String")⟩ := by decide +kernel
theorem mk_M_suA {W : Wd} (hw : Ws W) : Mk W M_suA ⟨"java/lang/String", "substring", "(II)Ljava/lang/String;"⟩ 2 := Mk.of nm_M_suA rfl rfl rfl (w_255 hw) (w_11 hw) (mkLen pd__II_Ljava_lang_String_ rfl) (by decide)
theorem w_284 {W : Wd} (hw : Ws W) : Wok W (Jvm.Cond.methodLink "java/lang/String" (681 : Nat) ({ cls := "java/lang/String", name := "substring", desc := "(II)Ljava/lang/String;" } : Jvm.MethodName)) := hw.1 _ (List.mem_of_getElem? (i := 284) rfl)
theorem w_252 {W : Wd} (hw : Ws W) : Wok W (Jvm.Cond.declares ({ cls := "java/lang/String", name := "substring", desc := "(II)Ljava/lang/String;" } : Jvm.MethodName)) := hw.1 _ (List.mem_of_getElem? (i := 252) rfl)
theorem w_253 {W : Wd} (hw : Ws W) : Wok W (Jvm.Cond.instanceMethod ({ cls := "java/lang/String", name := "substring", desc := "(II)Ljava/lang/String;" } : Jvm.MethodName)) := hw.1 _ (List.mem_of_getElem? (i := 253) rfl)
theorem d_jdk_42_91_9 : Dc jdk_42_method_91_code 9 (.areturn) 1 10 := ⟨by decide +kernel, rfl⟩
def M_s1A : Mt := (⟨"java/lang/String", "substring", "(I)Ljava/lang/String;"⟩, jdk_42_method_91_code, 2, some (.object "java/lang/String"), ⟨5, 2, 68, 80⟩)
theorem nm_M_s1A : mN M_s1A = ⟨"java/lang/String", "substring", "(I)Ljava/lang/String;"⟩ := by delta mN M_s1A; rfl
set_option maxRecDepth 65536 in
set_option maxHeartbeats 40000000 in
theorem rm_s1A {W : Wd} (hw : Ws W) (s : Addr) (b : Addr) (rs : Bool) (rb : Bool) (xb : Bool) (ob : Bool) (zs : List Nat) (a : Nat) (F : List En) (h0 : 0 < a) (h1 : a < zs.length) (hl : zs.length ≤ 64) : Ct W M_s1A [.ref s, .int (ix a)] ((oStr rs s (.ref b) (.int 0)) :: (b, rb, .inr (.byte, xb, ob, zb zs)) :: F) (fun v H' => ∃ q r, v = some (.ref q) ∧ H' = ((oStr true q (.ref r) (.int 0)) :: (eB r (zb (zs.drop a))) :: (oStr rs s (.ref b) (.int 0)) :: (b, rb, .inr (.byte, xb, ob, zb zs)) :: F)) := by
  refine Ct.intro (L0 := [.val (.ref s), .val (.int (ix a))]) (plainFor_of_name pf_java_lang_String) rfl (fun K => ?_)
  refine Wp.aloadN rfl rfl d_jdk_42_91_0 ?_
  refine Wp.iloadN rfl d_jdk_42_91_1 ?_
  refine Wp.aloadN rfl rfl d_jdk_42_91_2 ?_
  refine Wp.callV nm_M_s1A (fun _ => rm_len hw.set s b rs rb xb ob zs _ ) 0 rfl (mk_M_len hw) (w_53 hw) (w_54 hw) (w_56 hw) (w_55 hw) (S' := "") (Or.inl rfl) (by decide) rfl rfl rfl (Wn := 2) rfl rfl (by decide) d_jdk_42_91_3 ?_
  rintro _ _ ⟨rfl, rfl⟩
  refine Wp.callV nm_M_s1A (fun _ => rm_suA hw.set s b rs rb xb ob zs a zs.length _ (by omega) (by omega) (by omega) (by omega)) 0 rfl (mk_M_suA hw) (w_284 hw) (w_252 hw) (w_254 hw) (w_253 hw) (S' := "") (Or.inl rfl) (by decide) rfl rfl rfl (Wn := 0) rfl rfl (by decide) d_jdk_42_91_6 ?_
  rintro _ _ ⟨q_1, r_2, rfl, rfl⟩
  refine Wp.aret rfl rfl rfl d_jdk_42_91_9 (by decide) (by decide) ?_
  exact ⟨q_1, r_2, rfl, by rw [take_drop_all]⟩
theorem mk_M_suW {W : Wd} (hw : Ws W) : Mk W M_suW ⟨"java/lang/String", "substring", "(II)Ljava/lang/String;"⟩ 2 := Mk.of nm_M_suW rfl rfl rfl (w_255 hw) (w_11 hw) (mkLen pd__II_Ljava_lang_String_ rfl) (by decide)
def M_s1W : Mt := (⟨"java/lang/String", "substring", "(I)Ljava/lang/String;"⟩, jdk_42_method_91_code, 2, some (.object "java/lang/String"), ⟨3, 0, 0, 45⟩)
theorem nm_M_s1W : mN M_s1W = ⟨"java/lang/String", "substring", "(I)Ljava/lang/String;"⟩ := by delta mN M_s1W; rfl
set_option maxRecDepth 65536 in
set_option maxHeartbeats 40000000 in
theorem rm_s1W {W : Wd} (hw : Ws W) (s : Addr) (b : Addr) (rs : Bool) (rb : Bool) (xb : Bool) (ob : Bool) (zs : List Nat) (F : List En) (hl : zs.length ≤ 64) : Ct W M_s1W [.ref s, .int 0] ((oStr rs s (.ref b) (.int 0)) :: (b, rb, .inr (.byte, xb, ob, zb zs)) :: F) (fun v H' => v = some (.ref s) ∧ H' = ((oStr rs s (.ref b) (.int 0)) :: (b, rb, .inr (.byte, xb, ob, zb zs)) :: F)) := by
  refine Ct.intro (L0 := [.val (.ref s), .val (.int 0)]) (plainFor_of_name pf_java_lang_String) rfl (fun K => ?_)
  refine Wp.aloadN rfl rfl d_jdk_42_91_0 ?_
  refine Wp.iloadN rfl d_jdk_42_91_1 ?_
  refine Wp.aloadN rfl rfl d_jdk_42_91_2 ?_
  refine Wp.callV nm_M_s1W (fun _ => rm_len hw.set s b rs rb xb ob zs _ ) 0 rfl (mk_M_len hw) (w_53 hw) (w_54 hw) (w_56 hw) (w_55 hw) (S' := "") (Or.inl rfl) (by decide) rfl rfl rfl (Wn := 2) rfl rfl (by decide) d_jdk_42_91_3 ?_
  rintro _ _ ⟨rfl, rfl⟩
  refine Wp.callV nm_M_s1W (fun _ => rm_suW hw.set s b rs rb xb ob zs _ (by omega)) 0 rfl (mk_M_suW hw) (w_284 hw) (w_252 hw) (w_254 hw) (w_253 hw) (S' := "") (Or.inl rfl) (by decide) rfl rfl rfl (Wn := 0) rfl rfl (by decide) d_jdk_42_91_6 ?_
  rintro _ _ ⟨rfl, rfl⟩
  refine Wp.aret rfl rfl rfl d_jdk_42_91_9 (by decide) (by decide) ?_
  exact ⟨rfl, rfl⟩
theorem d_jdk_68_2_0 : Dc jdk_68_method_2_code 0 (.aload_n 0) 1 1 := ⟨by decide +kernel, rfl⟩
theorem d_jdk_68_2_1 : Dc jdk_68_method_2_code 1 (.invokespecial 3) 3 4 := ⟨by decide +kernel, rfl⟩
theorem w_106 {W : Wd} (hw : Ws W) : Wok W (Jvm.Cond.methodLink "java/lang/AbstractStringBuilder" (3 : Nat) ({ cls := "java/lang/Object", name := "<init>", desc := "()V" } : Jvm.MethodName)) := hw.1 _ (List.mem_of_getElem? (i := 106) rfl)
theorem d_jdk_68_2_4 : Dc jdk_68_method_2_code 4 (.getstatic 18) 3 7 := ⟨by decide +kernel, rfl⟩
theorem w_107 {W : Wd} (hw : Ws W) : Wok W (Jvm.Cond.fieldLink "java/lang/AbstractStringBuilder" (18 : Nat) "java/lang/String" "COMPACT_STRINGS" "Z") := hw.1 _ (List.mem_of_getElem? (i := 107) rfl)
theorem d_jdk_68_2_7 : Bj jdk_68_method_2_code 7 (.ifCond .eq 18) 18 10 25 := ⟨by decide +kernel, rfl, by decide, rfl⟩
theorem d_jdk_68_2_10 : Dc jdk_68_method_2_code 10 (.aload_n 0) 1 11 := ⟨by decide +kernel, rfl⟩
theorem d_jdk_68_2_11 : Dc jdk_68_method_2_code 11 (.iload_n 1) 1 12 := ⟨by decide +kernel, rfl⟩
theorem d_jdk_68_2_12 : Dc jdk_68_method_2_code 12 (.newarray .byte) 2 14 := ⟨by decide +kernel, rfl⟩
theorem d_jdk_68_2_14 : Dc jdk_68_method_2_code 14 (.putfield 15) 3 17 := ⟨by decide +kernel, rfl⟩
theorem w_109 {W : Wd} (hw : Ws W) : Wok W (Jvm.Cond.lays "java/lang/StringBuilder" "java/lang/AbstractStringBuilder" "value" "[B") := hw.1 _ (List.mem_of_getElem? (i := 109) rfl)
theorem w_108 {W : Wd} (hw : Ws W) : Wok W (Jvm.Cond.fieldLink "java/lang/AbstractStringBuilder" (15 : Nat) "java/lang/AbstractStringBuilder" "value" "[B") := hw.1 _ (List.mem_of_getElem? (i := 108) rfl)
theorem w_95 {W : Wd} (hw : Ws W) : Wok W (Jvm.Cond.instantiable "java/lang/StringBuilder" (4 : Nat)) := hw.1 _ (List.mem_of_getElem? (i := 95) rfl)
theorem d_jdk_68_2_17 : Dc jdk_68_method_2_code 17 (.aload_n 0) 1 18 := ⟨by decide +kernel, rfl⟩
theorem d_jdk_68_2_18 : Dc jdk_68_method_2_code 18 (.iconst 0) 1 19 := ⟨by decide +kernel, rfl⟩
theorem d_jdk_68_2_19 : Dc jdk_68_method_2_code 19 (.putfield 22) 3 22 := ⟨by decide +kernel, rfl⟩
theorem w_111 {W : Wd} (hw : Ws W) : Wok W (Jvm.Cond.lays "java/lang/StringBuilder" "java/lang/AbstractStringBuilder" "coder" "B") := hw.1 _ (List.mem_of_getElem? (i := 111) rfl)
theorem w_110 {W : Wd} (hw : Ws W) : Wok W (Jvm.Cond.fieldLink "java/lang/AbstractStringBuilder" (22 : Nat) "java/lang/AbstractStringBuilder" "coder" "B") := hw.1 _ (List.mem_of_getElem? (i := 110) rfl)
theorem d_jdk_68_2_22 : Bj jdk_68_method_2_code 22 (.goto 16) 16 25 38 := ⟨by decide +kernel, rfl, by decide, rfl⟩
theorem d_jdk_68_2_38 : Dc jdk_68_method_2_code 38 (.return_) 1 39 := ⟨by decide +kernel, rfl⟩
def M_abi : Mt := (⟨"java/lang/AbstractStringBuilder", "<init>", "(I)V"⟩, jdk_68_method_2_code, 2, none, ⟨1, 1, 64, 12⟩)
theorem nm_M_abi : mN M_abi = ⟨"java/lang/AbstractStringBuilder", "<init>", "(I)V"⟩ := by delta mN M_abi; rfl
theorem pf_java_lang_AbstractStringBuilder : plainName "java/lang/AbstractStringBuilder" = true := by first | (simp [plainName, overriddenIn]; done) | decide +kernel
set_option maxRecDepth 65536 in
set_option maxHeartbeats 40000000 in
theorem rm_abi {W : Wd} (hw : Ws W) (q : Addr) (m : Nat) (F : List En) (hm : m ≤ 64) : Ct W M_abi [.ref q, .int (ix m)] ((oSB true q (.null) (.int 0) (.int 0)) :: F) (fun v H' => ∃ vv, v = none ∧ H' = ((oSB true q (.ref vv) (.int 0) (.int 0)) :: (eB vv (zb (List.replicate m 0))) :: F)) := by
  refine Ct.intro (L0 := [.val (.ref q), .val (.int (ix m))]) (plainFor_of_name pf_java_lang_AbstractStringBuilder) rfl (fun K => ?_)
  refine Wp.aloadN rfl rfl d_jdk_68_2_0 ?_
  refine Wp.initO nm_M_abi (w_106 hw) (w_20 hw) (w_21 hw) (Wn := 0) rfl rfl (by decide) (by decide) d_jdk_68_2_1 ?_
  obtain ⟨cs1, Fcs1, ncs1⟩ := st_compact hw
  refine Wp.getS nm_M_abi (host := "") (Or.inl (w_107 hw)) Via.refl Fcs1 d_jdk_68_2_4 ?_
  refine Wp.ifF (feq ncs1).1 d_jdk_68_2_7 ?_
  refine Wp.aloadN rfl rfl d_jdk_68_2_10 ?_
  refine Wp.iloadN rfl d_jdk_68_2_11 ?_
  refine Wp.room (c' := 0) (n' := 0) (by decide) (by decide) ?_
  refine Wp.newP (kk := m) (vs := zb (List.replicate m 0)) d_jdk_68_2_12 (w_23 hw) (ix_nat (by omega)) (ix_nn (by omega)) (by omega) (by decide) (by show _ ≤ 64; omega) (zb_rep _) (fun a2 => ?_)
  refine Wp.room (c' := 1) (n' := 64) (by decide) (by omega) ?_
  refine Wp.putF nm_M_abi (host := "") (Or.inl (w_108 hw)) Via.refl 1 0 rfl rfl (Or.inl (w_109 hw)) (w_95 hw) (ty := (.array .byte)) (by decide) rfl rfl d_jdk_68_2_14 (H' := ((eB a2 (zb (List.replicate m 0))) :: (oSB true q (.ref a2) (.int 0) (.int 0)) :: F)) rfl ?_
  refine Wp.aloadN rfl rfl d_jdk_68_2_17 ?_
  refine Wp.iconst lc_0 d_jdk_68_2_18 ?_
  refine Wp.putF nm_M_abi (host := "") (Or.inl (w_110 hw)) Via.refl 1 1 rfl rfl (Or.inl (w_111 hw)) (w_95 hw) (ty := .byte) (by decide) rfl rfl d_jdk_68_2_19 (H' := ((eB a2 (zb (List.replicate m 0))) :: (oSB true q (.ref a2) (.int 0) (.int 0)) :: F)) rfl ?_
  refine Wp.goto d_jdk_68_2_22 ?_
  refine Wp.perm [1, 0] 2 pp_1_0 (H' := ((oSB true q (.ref a2) (.int 0) (.int 0)) :: (eB a2 (zb (List.replicate m 0))) :: F)) rfl ?_
  refine Wp.ret rfl d_jdk_68_2_38 (by decide) (by decide) ?_
  exact ⟨a2, rfl, rfl⟩
theorem d_jdk_67_2_0 : Dc jdk_67_method_2_code 0 (.aload_n 0) 1 1 := ⟨by decide +kernel, rfl⟩
theorem d_jdk_67_2_1 : Dc jdk_67_method_2_code 1 (.iload_n 1) 1 2 := ⟨by decide +kernel, rfl⟩
theorem d_jdk_67_2_2 : Dc jdk_67_method_2_code 2 (.invokespecial 1) 3 5 := ⟨by decide +kernel, rfl⟩
theorem w_105 {W : Wd} (hw : Ws W) : Wok W (Jvm.Cond.code ({ cls := "java/lang/AbstractStringBuilder", name := "<init>", desc := "(I)V" } : Jvm.MethodName) jdk_68_method_2_code (2 : Nat) (Option.none : Option Jvm.ClassFile.FieldType)) := hw.1 _ (List.mem_of_getElem? (i := 105) rfl)
theorem w_104 {W : Wd} (hw : Ws W) : Wok W (Jvm.Cond.initialized "java/lang/AbstractStringBuilder") := hw.1 _ (List.mem_of_getElem? (i := 104) rfl)
theorem pd__I_V : parseMethodDescriptor "(I)V" = some ⟨[.int], none⟩ := by decide +kernel
theorem mk_M_abi {W : Wd} (hw : Ws W) : Mk W M_abi ⟨"java/lang/AbstractStringBuilder", "<init>", "(I)V"⟩ 1 := Mk.of nm_M_abi rfl rfl rfl (w_105 hw) (w_104 hw) (mkLen pd__I_V rfl) (by decide)
theorem w_100 {W : Wd} (hw : Ws W) : Wok W (Jvm.Cond.methodLink "java/lang/StringBuilder" (1 : Nat) ({ cls := "java/lang/AbstractStringBuilder", name := "<init>", desc := "(I)V" } : Jvm.MethodName)) := hw.1 _ (List.mem_of_getElem? (i := 100) rfl)
theorem w_101 {W : Wd} (hw : Ws W) : Wok W (Jvm.Cond.instanceMethod ({ cls := "java/lang/AbstractStringBuilder", name := "<init>", desc := "(I)V" } : Jvm.MethodName)) := hw.1 _ (List.mem_of_getElem? (i := 101) rfl)
theorem d_jdk_67_2_5 : Dc jdk_67_method_2_code 5 (.return_) 1 6 := ⟨by decide +kernel, rfl⟩
def M_sbi : Mt := (⟨"java/lang/StringBuilder", "<init>", "(I)V"⟩, jdk_67_method_2_code, 2, none, ⟨2, 1, 64, 25⟩)
theorem nm_M_sbi : mN M_sbi = ⟨"java/lang/StringBuilder", "<init>", "(I)V"⟩ := by delta mN M_sbi; rfl
theorem pf_java_lang_StringBuilder : plainName "java/lang/StringBuilder" = true := by first | (simp [plainName, overriddenIn]; done) | decide +kernel
set_option maxRecDepth 65536 in
set_option maxHeartbeats 40000000 in
theorem rm_sbi {W : Wd} (hw : Ws W) (q : Addr) (m : Nat) (F : List En) (hm : m ≤ 64) : Ct W M_sbi [.ref q, .int (ix m)] ((oSB true q (.null) (.int 0) (.int 0)) :: F) (fun v H' => ∃ vv, v = none ∧ H' = ((oSB true q (.ref vv) (.int 0) (.int 0)) :: (eB vv (zb (List.replicate m 0))) :: F)) := by
  refine Ct.intro (L0 := [.val (.ref q), .val (.int (ix m))]) (plainFor_of_name pf_java_lang_StringBuilder) rfl (fun K => ?_)
  refine Wp.aloadN rfl rfl d_jdk_67_2_0 ?_
  refine Wp.iloadN rfl d_jdk_67_2_1 ?_
  refine Wp.callC nm_M_sbi (fun _ => rm_abi hw.set q m _ (by omega)) (mk_M_abi hw) (w_100 hw) (w_101 hw) rfl rfl rfl rfl (Wn := 0) rfl rfl (by decide) d_jdk_67_2_2 ?_
  rintro _ _ ⟨vv_1, rfl, rfl⟩
  refine Wp.ret rfl d_jdk_67_2_5 (by decide) (by decide) ?_
  exact ⟨vv_1, rfl, rfl⟩
theorem d_jdk_67_1_0 : Dc jdk_67_method_1_code 0 (.aload_n 0) 1 1 := ⟨by decide +kernel, rfl⟩
theorem d_jdk_67_1_1 : Dc jdk_67_method_1_code 1 (.bipush 16) 2 3 := ⟨by decide +kernel, rfl⟩
theorem lb_16 : (Int8.ofInt 16).toInt32 = 16 := by decide
theorem d_jdk_67_1_3 : Dc jdk_67_method_1_code 3 (.invokespecial 1) 3 6 := ⟨by decide +kernel, rfl⟩
theorem d_jdk_67_1_6 : Dc jdk_67_method_1_code 6 (.return_) 1 7 := ⟨by decide +kernel, rfl⟩
def M_sb0 : Mt := (⟨"java/lang/StringBuilder", "<init>", "()V"⟩, jdk_67_method_1_code, 1, none, ⟨2, 1, 64, 25⟩)
theorem nm_M_sb0 : mN M_sb0 = ⟨"java/lang/StringBuilder", "<init>", "()V"⟩ := by delta mN M_sb0; rfl
set_option maxRecDepth 65536 in
set_option maxHeartbeats 40000000 in
theorem rm_sb0 {W : Wd} (hw : Ws W) (q : Addr) (F : List En) : Ct W M_sb0 [.ref q] ((oSB true q (.null) (.int 0) (.int 0)) :: F) (fun v H' => (∃ vv : Addr, ∃ a2 : List Nat, v = none ∧ H' = ((oSB true q (.ref vv) (.int 0) (.int 0)) :: (eB vv (zb a2)) :: F) ∧ a2.length = 16)) := by
  refine Ct.intro (L0 := [.val (.ref q)]) (plainFor_of_name pf_java_lang_StringBuilder) rfl (fun K => ?_)
  refine Wp.aloadN rfl rfl d_jdk_67_1_0 ?_
  refine Wp.bipush lb_16 d_jdk_67_1_1 ?_
  refine Wp.callC nm_M_sb0 (fun _ => rm_abi hw.set q 16 _ (by omega)) (mk_M_abi hw) (w_100 hw) (w_101 hw) rfl rfl rfl rfl (Wn := 0) rfl rfl (by decide) d_jdk_67_1_3 ?_
  rintro _ _ ⟨vv_1, rfl, rfl⟩
  refine Wp.ret rfl d_jdk_67_1_6 (by decide) (by decide) ?_
  exact ⟨vv_1, (List.replicate 16 0), rfl, rfl, (List.length_replicate ..)⟩
theorem d_jdk_68_9_0 : Dc jdk_68_method_9_code 0 (.aload_n 0) 1 1 := ⟨by decide +kernel, rfl⟩
theorem d_jdk_68_9_1 : Dc jdk_68_method_9_code 1 (.getfield 15) 3 4 := ⟨by decide +kernel, rfl⟩
theorem d_jdk_68_9_4 : Dc jdk_68_method_9_code 4 (.arraylength) 1 5 := ⟨by decide +kernel, rfl⟩
theorem d_jdk_68_9_5 : Dc jdk_68_method_9_code 5 (.aload_n 0) 1 6 := ⟨by decide +kernel, rfl⟩
theorem d_jdk_68_9_6 : Dc jdk_68_method_9_code 6 (.getfield 22) 3 9 := ⟨by decide +kernel, rfl⟩
theorem d_jdk_68_9_9 : Dc jdk_68_method_9_code 9 (.ishr) 1 10 := ⟨by decide +kernel, rfl⟩
theorem d_jdk_68_9_10 : Dc jdk_68_method_9_code 10 (.istore_n 2) 1 11 := ⟨by decide +kernel, rfl⟩
theorem d_jdk_68_9_11 : Dc jdk_68_method_9_code 11 (.iload_n 1) 1 12 := ⟨by decide +kernel, rfl⟩
theorem d_jdk_68_9_12 : Dc jdk_68_method_9_code 12 (.iload_n 2) 1 13 := ⟨by decide +kernel, rfl⟩
theorem d_jdk_68_9_13 : Dc jdk_68_method_9_code 13 (.isub) 1 14 := ⟨by decide +kernel, rfl⟩
theorem d_jdk_68_9_14 : Bj jdk_68_method_9_code 14 (.ifCond .le 24) 24 17 38 := ⟨by decide +kernel, rfl, by decide, rfl⟩
theorem d_jdk_68_9_38 : Dc jdk_68_method_9_code 38 (.return_) 1 39 := ⟨by decide +kernel, rfl⟩
def M_eci : Mt := (⟨"java/lang/AbstractStringBuilder", "ensureCapacityInternal", "(I)V"⟩, jdk_68_method_9_code, 3, none, ⟨0, 0, 0, 0⟩)
theorem nm_M_eci : mN M_eci = ⟨"java/lang/AbstractStringBuilder", "ensureCapacityInternal", "(I)V"⟩ := by delta mN M_eci; rfl
set_option maxRecDepth 65536 in
set_option maxHeartbeats 40000000 in
theorem rm_eci {W : Wd} (hw : Ws W) (q : Addr) (vv : Addr) (as : List Nat) (k : Nat) (m : Nat) (F : List En) (hm : m ≤ as.length) (ha : as.length ≤ 64) : Ct W M_eci [.ref q, .int (ix m)] ((oSB true q (.ref vv) (.int 0) (.int (ix k))) :: (eB vv (zb as)) :: F) (fun v H' => v = none ∧ H' = ((oSB true q (.ref vv) (.int 0) (.int (ix k))) :: (eB vv (zb as)) :: F)) := by
  refine Ct.intro (L0 := [.val (.ref q), .val (.int (ix m)), .unset]) (plainFor_of_name pf_java_lang_AbstractStringBuilder) rfl (fun K => ?_)
  refine Wp.aloadN rfl rfl d_jdk_68_9_0 ?_
  refine Wp.getF nm_M_eci (host := "") (Or.inl (w_108 hw)) Via.refl 0 0 rfl rfl d_jdk_68_9_1 ?_
  refine Wp.alen (z := (ix as.length)) 1 rfl (zb_lenI _) d_jdk_68_9_4 ?_
  refine Wp.aloadN rfl rfl d_jdk_68_9_5 ?_
  refine Wp.getF nm_M_eci (host := "") (Or.inl (w_110 hw)) Via.refl 0 1 rfl rfl d_jdk_68_9_6 ?_
  refine Wp.ishr (z := (ix as.length)) (ix_shr0 _) d_jdk_68_9_9 ?_
  refine Wp.istoreN (L' := [.val (.ref q), .val (.int (ix m)), .val (.int (ix as.length))]) rfl d_jdk_68_9_10 ?_
  refine Wp.iloadN rfl d_jdk_68_9_11 ?_
  refine Wp.iloadN rfl d_jdk_68_9_12 ?_
  refine Wp.isub (z := ((ix m) - (ix as.length))) rfl d_jdk_68_9_13 ?_
  refine Wp.ifT (flt (ix_sub_np (by omega) (by omega))).2.2.2 d_jdk_68_9_14 ?_
  refine Wp.ret rfl d_jdk_68_9_38 (by decide) (by decide) ?_
  exact ⟨rfl, rfl⟩
theorem d_jdk_68_68_0 : Dc jdk_68_method_68_code 0 (.getstatic 18) 3 3 := ⟨by decide +kernel, rfl⟩
theorem d_jdk_68_68_3 : Bj jdk_68_method_68_code 3 (.ifCond .eq 14) 14 6 17 := ⟨by decide +kernel, rfl, by decide, rfl⟩
theorem d_jdk_68_68_6 : Dc jdk_68_method_68_code 6 (.aload_n 0) 1 7 := ⟨by decide +kernel, rfl⟩
theorem d_jdk_68_68_7 : Dc jdk_68_method_68_code 7 (.getfield 22) 3 10 := ⟨by decide +kernel, rfl⟩
theorem d_jdk_68_68_10 : Bj jdk_68_method_68_code 10 (.ifCond .ne 7) 7 13 17 := ⟨by decide +kernel, rfl, by decide, rfl⟩
theorem d_jdk_68_68_13 : Dc jdk_68_method_68_code 13 (.iconst 1) 1 14 := ⟨by decide +kernel, rfl⟩
theorem d_jdk_68_68_14 : Bj jdk_68_method_68_code 14 (.goto 4) 4 17 18 := ⟨by decide +kernel, rfl, by decide, rfl⟩
theorem d_jdk_68_68_18 : Dc jdk_68_method_68_code 18 (.ireturn) 1 19 := ⟨by decide +kernel, rfl⟩
def M_bl1 : Mt := (⟨"java/lang/AbstractStringBuilder", "isLatin1", "()Z"⟩, jdk_68_method_68_code, 1, some .boolean, ⟨0, 0, 0, 0⟩)
theorem nm_M_bl1 : mN M_bl1 = ⟨"java/lang/AbstractStringBuilder", "isLatin1", "()Z"⟩ := by delta mN M_bl1; rfl
set_option maxRecDepth 65536 in
set_option maxHeartbeats 40000000 in
theorem rm_bl1 {W : Wd} (hw : Ws W) (q : Addr) (vv : Addr) (k : Nat) (F : List En) : Ct W M_bl1 [.ref q] ((oSB true q (.ref vv) (.int 0) (.int (ix k))) :: F) (fun v H' => v = some (.int 1) ∧ H' = ((oSB true q (.ref vv) (.int 0) (.int (ix k))) :: F)) := by
  refine Ct.intro (L0 := [.val (.ref q)]) (plainFor_of_name pf_java_lang_AbstractStringBuilder) rfl (fun K => ?_)
  obtain ⟨cs1, Fcs1, ncs1⟩ := st_compact hw
  refine Wp.getS nm_M_bl1 (host := "") (Or.inl (w_107 hw)) Via.refl Fcs1 d_jdk_68_68_0 ?_
  refine Wp.ifF (feq ncs1).1 d_jdk_68_68_3 ?_
  refine Wp.aloadN rfl rfl d_jdk_68_68_6 ?_
  refine Wp.getF nm_M_bl1 (host := "") (Or.inl (w_110 hw)) Via.refl 0 1 rfl rfl d_jdk_68_68_7 ?_
  refine Wp.ifF (by decide) d_jdk_68_68_10 ?_
  refine Wp.iconst lc_1 d_jdk_68_68_13 ?_
  refine Wp.goto d_jdk_68_68_14 ?_
  refine Wp.iretN (z := 1) (by simp) rfl (by decide) d_jdk_68_68_18 (by decide) (by decide) ?_
  exact ⟨rfl, rfl⟩
theorem d_jdk_43_3_0 : Dc jdk_43_method_3_code 0 (.iload_n 0) 1 1 := ⟨by decide +kernel, rfl⟩
theorem d_jdk_43_3_1 : Dc jdk_43_method_3_code 1 (.sipush 255) 3 4 := ⟨by decide +kernel, rfl⟩
theorem d_jdk_43_3_4 : Bj jdk_43_method_3_code 4 (.if_icmp .gt 7) 7 7 11 := ⟨by decide +kernel, rfl, by decide, rfl⟩
theorem d_jdk_43_3_7 : Dc jdk_43_method_3_code 7 (.iconst 1) 1 8 := ⟨by decide +kernel, rfl⟩
theorem d_jdk_43_3_8 : Bj jdk_43_method_3_code 8 (.goto 4) 4 11 12 := ⟨by decide +kernel, rfl, by decide, rfl⟩
theorem d_jdk_43_3_12 : Dc jdk_43_method_3_code 12 (.ireturn) 1 13 := ⟨by decide +kernel, rfl⟩
def M_cec : Mt := (⟨"java/lang/StringLatin1", "canEncode", "(C)Z"⟩, jdk_43_method_3_code, 1, some .boolean, ⟨0, 0, 0, 0⟩)
theorem nm_M_cec : mN M_cec = ⟨"java/lang/StringLatin1", "canEncode", "(C)Z"⟩ := by delta mN M_cec; rfl
set_option maxRecDepth 65536 in
set_option maxHeartbeats 40000000 in
theorem rm_cec {W : Wd} (hw : Ws W) (z : Nat) (F : List En) (h : z < 256) : Ct W M_cec [.int (ix z)] F (fun v H' => v = some (.int 1) ∧ H' = F) := by
  refine Ct.intro (L0 := [.val (.int (ix z))]) (plainFor_of_name pf_java_lang_StringLatin1) rfl (fun K => ?_)
  refine Wp.iloadN rfl d_jdk_43_3_0 ?_
  refine Wp.sipush ls_255 d_jdk_43_3_1 ?_
  refine Wp.icF (flt (fun q => by have := (ix_lt (i := 255) (j := z) (by omega) (by omega)).mp q; omega)).2.2.1 d_jdk_43_3_4 ?_
  refine Wp.iconst lc_1 d_jdk_43_3_7 ?_
  refine Wp.goto d_jdk_43_3_8 ?_
  refine Wp.iretN (z := 1) (by simp) rfl (by decide) d_jdk_43_3_12 (by decide) (by decide) ?_
  exact ⟨rfl, rfl⟩
theorem d_jdk_68_31_0 : Dc jdk_68_method_31_code 0 (.aload_n 0) 1 1 := ⟨by decide +kernel, rfl⟩
theorem d_jdk_68_31_1 : Dc jdk_68_method_31_code 1 (.aload_n 0) 1 2 := ⟨by decide +kernel, rfl⟩
theorem d_jdk_68_31_2 : Dc jdk_68_method_31_code 2 (.getfield 79) 3 5 := ⟨by decide +kernel, rfl⟩
theorem w_138 {W : Wd} (hw : Ws W) : Wok W (Jvm.Cond.fieldLink "java/lang/AbstractStringBuilder" (79 : Nat) "java/lang/AbstractStringBuilder" "count" "I") := hw.1 _ (List.mem_of_getElem? (i := 138) rfl)
theorem d_jdk_68_31_5 : Dc jdk_68_method_31_code 5 (.iconst 1) 1 6 := ⟨by decide +kernel, rfl⟩
theorem d_jdk_68_31_6 : Dc jdk_68_method_31_code 6 (.iadd) 1 7 := ⟨by decide +kernel, rfl⟩
theorem d_jdk_68_31_7 : Dc jdk_68_method_31_code 7 (.invokevirtual 100) 3 10 := ⟨by decide +kernel, rfl⟩
theorem w_230 {W : Wd} (hw : Ws W) : Wok W (Jvm.Cond.code ({ cls := "java/lang/AbstractStringBuilder", name := "ensureCapacityInternal", desc := "(I)V" } : Jvm.MethodName) jdk_68_method_9_code (3 : Nat) (Option.none : Option Jvm.ClassFile.FieldType)) := hw.1 _ (List.mem_of_getElem? (i := 230) rfl)
theorem mk_M_eci {W : Wd} (hw : Ws W) : Mk W M_eci ⟨"java/lang/AbstractStringBuilder", "ensureCapacityInternal", "(I)V"⟩ 1 := Mk.of nm_M_eci rfl rfl rfl (w_230 hw) (w_104 hw) (mkLen pd__I_V rfl) (by decide)
theorem w_226 {W : Wd} (hw : Ws W) : Wok W (Jvm.Cond.methodLink "java/lang/AbstractStringBuilder" (100 : Nat) ({ cls := "java/lang/AbstractStringBuilder", name := "ensureCapacityInternal", desc := "(I)V" } : Jvm.MethodName)) := hw.1 _ (List.mem_of_getElem? (i := 226) rfl)
theorem w_227 {W : Wd} (hw : Ws W) : Wok W (Jvm.Cond.instanceMethod ({ cls := "java/lang/AbstractStringBuilder", name := "ensureCapacityInternal", desc := "(I)V" } : Jvm.MethodName)) := hw.1 _ (List.mem_of_getElem? (i := 227) rfl)
theorem w_229 {W : Wd} (hw : Ws W) : Wok W (Jvm.Cond.selects "java/lang/StringBuilder" ({ cls := "java/lang/AbstractStringBuilder", name := "ensureCapacityInternal", desc := "(I)V" } : Jvm.MethodName) ({ cls := "java/lang/AbstractStringBuilder", name := "ensureCapacityInternal", desc := "(I)V" } : Jvm.MethodName)) := hw.1 _ (List.mem_of_getElem? (i := 229) rfl)
theorem w_228 {W : Wd} (hw : Ws W) : Wok W (Jvm.Cond.privateMethod ({ cls := "java/lang/AbstractStringBuilder", name := "ensureCapacityInternal", desc := "(I)V" } : Jvm.MethodName)) := hw.1 _ (List.mem_of_getElem? (i := 228) rfl)
theorem d_jdk_68_31_10 : Dc jdk_68_method_31_code 10 (.aload_n 0) 1 11 := ⟨by decide +kernel, rfl⟩
theorem d_jdk_68_31_11 : Dc jdk_68_method_31_code 11 (.invokevirtual 83) 3 14 := ⟨by decide +kernel, rfl⟩
theorem w_143 {W : Wd} (hw : Ws W) : Wok W (Jvm.Cond.selects "java/lang/StringBuilder" ({ cls := "java/lang/AbstractStringBuilder", name := "isLatin1", desc := "()Z" } : Jvm.MethodName) ({ cls := "java/lang/AbstractStringBuilder", name := "isLatin1", desc := "()Z" } : Jvm.MethodName)) := hw.1 _ (List.mem_of_getElem? (i := 143) rfl)
theorem w_144 {W : Wd} (hw : Ws W) : Wok W (Jvm.Cond.code ({ cls := "java/lang/AbstractStringBuilder", name := "isLatin1", desc := "()Z" } : Jvm.MethodName) jdk_68_method_68_code (1 : Nat) (Option.some Jvm.ClassFile.FieldType.boolean)) := hw.1 _ (List.mem_of_getElem? (i := 144) rfl)
theorem mk_M_bl1 {W : Wd} (hw : Ws W) : Mk W M_bl1 ⟨"java/lang/AbstractStringBuilder", "isLatin1", "()Z"⟩ 0 := Mk.of nm_M_bl1 rfl rfl rfl (w_144 hw) (w_104 hw) (mkLen pd___Z rfl) (by decide)
theorem w_231 {W : Wd} (hw : Ws W) : Wok W (Jvm.Cond.methodLink "java/lang/AbstractStringBuilder" (83 : Nat) ({ cls := "java/lang/AbstractStringBuilder", name := "isLatin1", desc := "()Z" } : Jvm.MethodName)) := hw.1 _ (List.mem_of_getElem? (i := 231) rfl)
theorem w_141 {W : Wd} (hw : Ws W) : Wok W (Jvm.Cond.declares ({ cls := "java/lang/AbstractStringBuilder", name := "isLatin1", desc := "()Z" } : Jvm.MethodName)) := hw.1 _ (List.mem_of_getElem? (i := 141) rfl)
theorem w_142 {W : Wd} (hw : Ws W) : Wok W (Jvm.Cond.instanceMethod ({ cls := "java/lang/AbstractStringBuilder", name := "isLatin1", desc := "()Z" } : Jvm.MethodName)) := hw.1 _ (List.mem_of_getElem? (i := 142) rfl)
theorem d_jdk_68_31_14 : Bj jdk_68_method_31_code 14 (.ifCond .eq 31) 31 17 45 := ⟨by decide +kernel, rfl, by decide, rfl⟩
theorem d_jdk_68_31_17 : Dc jdk_68_method_31_code 17 (.iload_n 1) 1 18 := ⟨by decide +kernel, rfl⟩
theorem d_jdk_68_31_18 : Dc jdk_68_method_31_code 18 (.invokestatic 191) 3 21 := ⟨by decide +kernel, rfl⟩
theorem w_234 {W : Wd} (hw : Ws W) : Wok W (Jvm.Cond.code ({ cls := "java/lang/StringLatin1", name := "canEncode", desc := "(C)Z" } : Jvm.MethodName) jdk_43_method_3_code (1 : Nat) (Option.some Jvm.ClassFile.FieldType.boolean)) := hw.1 _ (List.mem_of_getElem? (i := 234) rfl)
theorem pd__C_Z : parseMethodDescriptor "(C)Z" = some ⟨[.char], some .boolean⟩ := by decide +kernel
theorem mk_M_cec {W : Wd} (hw : Ws W) : Mk W M_cec ⟨"java/lang/StringLatin1", "canEncode", "(C)Z"⟩ 1 := Mk.of nm_M_cec rfl rfl rfl (w_234 hw) (w_65 hw) (mkLen pd__C_Z rfl) (by decide)
theorem w_232 {W : Wd} (hw : Ws W) : Wok W (Jvm.Cond.methodLink "java/lang/AbstractStringBuilder" (191 : Nat) ({ cls := "java/lang/StringLatin1", name := "canEncode", desc := "(C)Z" } : Jvm.MethodName)) := hw.1 _ (List.mem_of_getElem? (i := 232) rfl)
theorem w_233 {W : Wd} (hw : Ws W) : Wok W (Jvm.Cond.static ({ cls := "java/lang/StringLatin1", name := "canEncode", desc := "(C)Z" } : Jvm.MethodName)) := hw.1 _ (List.mem_of_getElem? (i := 233) rfl)
theorem d_jdk_68_31_21 : Bj jdk_68_method_31_code 21 (.ifCond .eq 24) 24 24 45 := ⟨by decide +kernel, rfl, by decide, rfl⟩
theorem d_jdk_68_31_24 : Dc jdk_68_method_31_code 24 (.aload_n 0) 1 25 := ⟨by decide +kernel, rfl⟩
theorem d_jdk_68_31_25 : Dc jdk_68_method_31_code 25 (.getfield 15) 3 28 := ⟨by decide +kernel, rfl⟩
theorem d_jdk_68_31_28 : Dc jdk_68_method_31_code 28 (.aload_n 0) 1 29 := ⟨by decide +kernel, rfl⟩
theorem d_jdk_68_31_29 : Dc jdk_68_method_31_code 29 (.dup) 1 30 := ⟨by decide +kernel, rfl⟩
theorem d_jdk_68_31_30 : Dc jdk_68_method_31_code 30 (.getfield 79) 3 33 := ⟨by decide +kernel, rfl⟩
theorem d_jdk_68_31_33 : Dc jdk_68_method_31_code 33 (.dup_x1) 1 34 := ⟨by decide +kernel, rfl⟩
theorem d_jdk_68_31_34 : Dc jdk_68_method_31_code 34 (.iconst 1) 1 35 := ⟨by decide +kernel, rfl⟩
theorem d_jdk_68_31_35 : Dc jdk_68_method_31_code 35 (.iadd) 1 36 := ⟨by decide +kernel, rfl⟩
theorem d_jdk_68_31_36 : Dc jdk_68_method_31_code 36 (.putfield 79) 3 39 := ⟨by decide +kernel, rfl⟩
theorem w_139 {W : Wd} (hw : Ws W) : Wok W (Jvm.Cond.lays "java/lang/StringBuilder" "java/lang/AbstractStringBuilder" "count" "I") := hw.1 _ (List.mem_of_getElem? (i := 139) rfl)
theorem d_jdk_68_31_39 : Dc jdk_68_method_31_code 39 (.iload_n 1) 1 40 := ⟨by decide +kernel, rfl⟩
theorem d_jdk_68_31_40 : Dc jdk_68_method_31_code 40 (.i2b) 1 41 := ⟨by decide +kernel, rfl⟩
theorem d_jdk_68_31_41 : Dc jdk_68_method_31_code 41 (.bastore) 1 42 := ⟨by decide +kernel, rfl⟩
theorem d_jdk_68_31_42 : Bj jdk_68_method_31_code 42 (.goto 33) 33 45 75 := ⟨by decide +kernel, rfl, by decide, rfl⟩
theorem d_jdk_68_31_75 : Dc jdk_68_method_31_code 75 (.aload_n 0) 1 76 := ⟨by decide +kernel, rfl⟩
theorem d_jdk_68_31_76 : Dc jdk_68_method_31_code 76 (.areturn) 1 77 := ⟨by decide +kernel, rfl⟩
def M_aac : Mt := (⟨"java/lang/AbstractStringBuilder", "append", "(C)Ljava/lang/AbstractStringBuilder;"⟩, jdk_68_method_31_code, 2, some (.object "java/lang/AbstractStringBuilder"), ⟨1, 0, 0, 14⟩)
theorem nm_M_aac : mN M_aac = ⟨"java/lang/AbstractStringBuilder", "append", "(C)Ljava/lang/AbstractStringBuilder;"⟩ := by delta mN M_aac; rfl
set_option maxRecDepth 65536 in
set_option maxHeartbeats 40000000 in
theorem rm_aac {W : Wd} (hw : Ws W) (q : Addr) (vv : Addr) (as : List Nat) (k : Nat) (z : Nat) (F : List En) (hz1 : z < 256) (hk : k < as.length) (ha : as.length ≤ 64) : Ct W M_aac [.ref q, .int (ix z)] ((oSB true q (.ref vv) (.int 0) (.int (ix k))) :: (eB vv (zb as)) :: F) (fun v H' => v = some (.ref q) ∧ H' = ((oSB true q (.ref vv) (.int 0) (.int (ix (k + 1)))) :: (eB vv (zb (as.set k z))) :: F)) := by
  refine Ct.intro (L0 := [.val (.ref q), .val (.int (ix z))]) (plainFor_of_name pf_java_lang_AbstractStringBuilder) rfl (fun K => ?_)
  refine Wp.aloadN rfl rfl d_jdk_68_31_0 ?_
  refine Wp.aloadN rfl rfl d_jdk_68_31_1 ?_
  refine Wp.getF nm_M_aac (host := "") (Or.inl (w_138 hw)) Via.refl 0 2 rfl rfl d_jdk_68_31_2 ?_
  refine Wp.iconst lc_1 d_jdk_68_31_5 ?_
  refine Wp.iadd (z := (ix (k + 1))) (ix_add _ _) d_jdk_68_31_6 ?_
  refine Wp.callP nm_M_aac (fun _ => rm_eci hw.set q vv as k (k + 1) _ (by omega) (by omega)) 0 rfl (mk_M_eci hw) (w_226 hw) (w_227 hw) (w_229 hw) (w_228 hw) rfl rfl (Wn := 0) rfl rfl (by decide) d_jdk_68_31_7 ?_
  rintro _ _ ⟨rfl, rfl⟩
  refine Wp.aloadN rfl rfl d_jdk_68_31_10 ?_
  refine Wp.callV nm_M_aac (fun _ => rm_bl1 hw.set q vv k _ ) 0 rfl (mk_M_bl1 hw) (w_231 hw) (w_141 hw) (w_143 hw) (w_142 hw) (S' := "") (Or.inl rfl) (by decide) rfl rfl rfl (Wn := 0) rfl rfl (by decide) d_jdk_68_31_11 ?_
  rintro _ _ ⟨rfl, rfl⟩
  refine Wp.ifF (by decide) d_jdk_68_31_14 ?_
  refine Wp.iloadN rfl d_jdk_68_31_17 ?_
  refine Wp.callS nm_M_aac (fun _ => rm_cec hw.set z _ (by omega)) (mk_M_cec hw) (w_232 hw) (w_233 hw) rfl rfl (Wn := 0) rfl rfl (by decide) d_jdk_68_31_18 ?_
  rintro _ _ ⟨rfl, rfl⟩
  refine Wp.ifF (by decide) d_jdk_68_31_21 ?_
  refine Wp.aloadN rfl rfl d_jdk_68_31_24 ?_
  refine Wp.getF nm_M_aac (host := "") (Or.inl (w_108 hw)) Via.refl 0 0 rfl rfl d_jdk_68_31_25 ?_
  refine Wp.aloadN rfl rfl d_jdk_68_31_28 ?_
  refine Wp.dup rfl d_jdk_68_31_29 ?_
  refine Wp.getF nm_M_aac (host := "") (Or.inl (w_138 hw)) Via.refl 0 2 rfl rfl d_jdk_68_31_30 ?_
  refine Wp.dupX1 rfl rfl d_jdk_68_31_33 ?_
  refine Wp.iconst lc_1 d_jdk_68_31_34 ?_
  refine Wp.iadd (z := (ix (k + 1))) (ix_add _ _) d_jdk_68_31_35 ?_
  refine Wp.putF nm_M_aac (host := "") (Or.inl (w_138 hw)) Via.refl 0 2 rfl rfl (Or.inl (w_139 hw)) (w_95 hw) (ty := .int) (by decide) rfl rfl d_jdk_68_31_36 (H' := ((oSB true q (.ref vv) (.int 0) (.int (ix (k + 1)))) :: (eB vv (zb as)) :: F)) rfl ?_
  refine Wp.iloadN rfl d_jdk_68_31_39 ?_
  refine Wp.i2b (z := (by8 (ix z))) rfl d_jdk_68_31_40 ?_
  refine Wp.bastore (z := (by8 (ix z))) 1 k rfl (ix_nn (by omega)) (ix_nat (by omega)) (by rw [zb_len]; omega) (by8_by8 _) d_jdk_68_31_41 (H' := ((oSB true q (.ref vv) (.int 0) (.int (ix (k + 1)))) :: (eB vv (zb (as.set k z))) :: F)) (by simp only [zb_set]; rfl) ?_
  refine Wp.goto d_jdk_68_31_42 ?_
  refine Wp.aloadN rfl rfl d_jdk_68_31_75 ?_
  refine Wp.aret rfl rfl rfl d_jdk_68_31_76 (by decide) (by decide) ?_
  exact ⟨rfl, rfl⟩
theorem d_jdk_67_14_0 : Dc jdk_67_method_14_code 0 (.aload_n 0) 1 1 := ⟨by decide +kernel, rfl⟩
theorem d_jdk_67_14_1 : Dc jdk_67_method_14_code 1 (.iload_n 1) 1 2 := ⟨by decide +kernel, rfl⟩
theorem d_jdk_67_14_2 : Dc jdk_67_method_14_code 2 (.invokespecial 50) 3 5 := ⟨by decide +kernel, rfl⟩
theorem w_225 {W : Wd} (hw : Ws W) : Wok W (Jvm.Cond.code ({ cls := "java/lang/AbstractStringBuilder", name := "append", desc := "(C)Ljava/lang/AbstractStringBuilder;" } : Jvm.MethodName) jdk_68_method_31_code (2 : Nat) (Option.some (Jvm.ClassFile.FieldType.object "java/lang/AbstractStringBuilder"))) := hw.1 _ (List.mem_of_getElem? (i := 225) rfl)
theorem pd__C_Ljava_lang_AbstractStringBuilder_ : parseMethodDescriptor "(C)Ljava/lang/AbstractStringBuilder;" = some ⟨[.char], some (.object "java/lang/AbstractStringBuilder")⟩ := by decide +kernel
theorem mk_M_aac {W : Wd} (hw : Ws W) : Mk W M_aac ⟨"java/lang/AbstractStringBuilder", "append", "(C)Ljava/lang/AbstractStringBuilder;"⟩ 1 := Mk.of nm_M_aac rfl rfl rfl (w_225 hw) (w_104 hw) (mkLen pd__C_Ljava_lang_AbstractStringBuilder_ rfl) (by decide)
theorem w_224 {W : Wd} (hw : Ws W) : Wok W (Jvm.Cond.methodLink "java/lang/StringBuilder" (50 : Nat) ({ cls := "java/lang/AbstractStringBuilder", name := "append", desc := "(C)Ljava/lang/AbstractStringBuilder;" } : Jvm.MethodName)) := hw.1 _ (List.mem_of_getElem? (i := 224) rfl)
theorem w_215 {W : Wd} (hw : Ws W) : Wok W (Jvm.Cond.instanceMethod ({ cls := "java/lang/AbstractStringBuilder", name := "append", desc := "(C)Ljava/lang/AbstractStringBuilder;" } : Jvm.MethodName)) := hw.1 _ (List.mem_of_getElem? (i := 215) rfl)
theorem w_127 {W : Wd} (hw : Ws W) : Wok W (Jvm.Cond.selects "java/lang/StringBuilder" ({ cls := "java/lang/AbstractStringBuilder", name := "getValue", desc := "()[B" } : Jvm.MethodName) ({ cls := "java/lang/AbstractStringBuilder", name := "getValue", desc := "()[B" } : Jvm.MethodName)) := hw.1 _ (List.mem_of_getElem? (i := 127) rfl)
theorem w_136 {W : Wd} (hw : Ws W) : Wok W (Jvm.Cond.superclass "java/lang/StringBuilder" "java/lang/AbstractStringBuilder") := hw.1 _ (List.mem_of_getElem? (i := 136) rfl)
theorem d_jdk_67_14_5 : Dc jdk_67_method_14_code 5 (.pop) 1 6 := ⟨by decide +kernel, rfl⟩
theorem d_jdk_67_14_6 : Dc jdk_67_method_14_code 6 (.aload_n 0) 1 7 := ⟨by decide +kernel, rfl⟩
theorem d_jdk_67_14_7 : Dc jdk_67_method_14_code 7 (.areturn) 1 8 := ⟨by decide +kernel, rfl⟩
def M_sac : Mt := (⟨"java/lang/StringBuilder", "append", "(C)Ljava/lang/StringBuilder;"⟩, jdk_67_method_14_code, 2, some (.object "java/lang/StringBuilder"), ⟨2, 0, 0, 27⟩)
theorem nm_M_sac : mN M_sac = ⟨"java/lang/StringBuilder", "append", "(C)Ljava/lang/StringBuilder;"⟩ := by delta mN M_sac; rfl
set_option maxRecDepth 65536 in
set_option maxHeartbeats 40000000 in
theorem rm_sac {W : Wd} (hw : Ws W) (q : Addr) (vv : Addr) (as : List Nat) (k : Nat) (z : Nat) (F : List En) (hz1 : z < 256) (hk : k < as.length) (ha : as.length ≤ 64) : Ct W M_sac [.ref q, .int (ix z)] ((oSB true q (.ref vv) (.int 0) (.int (ix k))) :: (eB vv (zb as)) :: F) (fun v H' => v = some (.ref q) ∧ H' = ((oSB true q (.ref vv) (.int 0) (.int (ix (k + 1)))) :: (eB vv (zb (as.set k z))) :: F)) := by
  refine Ct.intro (L0 := [.val (.ref q), .val (.int (ix z))]) (plainFor_of_name pf_java_lang_StringBuilder) rfl (fun K => ?_)
  refine Wp.aloadN rfl rfl d_jdk_67_14_0 ?_
  refine Wp.iloadN rfl d_jdk_67_14_1 ?_
  refine Wp.callU nm_M_sac (fun _ => rm_aac hw.set q vv as k z _ (by omega) (by omega) (by omega)) 0 rfl (mk_M_aac hw) (w_224 hw) (sameM (w_215 hw) (w_127 hw) rfl (by decide)) (w_215 hw) (w_136 hw) (by decide) rfl rfl (Wn := 0) rfl rfl (by decide) d_jdk_67_14_2 ?_
  rintro _ _ ⟨rfl, rfl⟩
  refine Wp.pop rfl d_jdk_67_14_5 ?_
  refine Wp.aloadN rfl rfl d_jdk_67_14_6 ?_
  refine Wp.aret rfl rfl rfl d_jdk_67_14_7 (by decide) (by decide) ?_
  exact ⟨rfl, rfl⟩
theorem d_jdk_67_73_0 : Dc jdk_67_method_73_code 0 (.aload_n 0) 1 1 := ⟨by decide +kernel, rfl⟩
theorem d_jdk_67_73_1 : Dc jdk_67_method_73_code 1 (.iload_n 1) 1 2 := ⟨by decide +kernel, rfl⟩
theorem d_jdk_67_73_2 : Dc jdk_67_method_73_code 2 (.invokevirtual 284) 3 5 := ⟨by decide +kernel, rfl⟩
theorem w_222 {W : Wd} (hw : Ws W) : Wok W (Jvm.Cond.selects "java/lang/StringBuilder" ({ cls := "java/lang/StringBuilder", name := "append", desc := "(C)Ljava/lang/StringBuilder;" } : Jvm.MethodName) ({ cls := "java/lang/StringBuilder", name := "append", desc := "(C)Ljava/lang/StringBuilder;" } : Jvm.MethodName)) := hw.1 _ (List.mem_of_getElem? (i := 222) rfl)
theorem w_223 {W : Wd} (hw : Ws W) : Wok W (Jvm.Cond.code ({ cls := "java/lang/StringBuilder", name := "append", desc := "(C)Ljava/lang/StringBuilder;" } : Jvm.MethodName) jdk_67_method_14_code (2 : Nat) (Option.some (Jvm.ClassFile.FieldType.object "java/lang/StringBuilder"))) := hw.1 _ (List.mem_of_getElem? (i := 223) rfl)
theorem w_96 {W : Wd} (hw : Ws W) : Wok W (Jvm.Cond.initialized "java/lang/StringBuilder") := hw.1 _ (List.mem_of_getElem? (i := 96) rfl)
theorem pd__C_Ljava_lang_StringBuilder_ : parseMethodDescriptor "(C)Ljava/lang/StringBuilder;" = some ⟨[.char], some (.object "java/lang/StringBuilder")⟩ := by decide +kernel
theorem mk_M_sac {W : Wd} (hw : Ws W) : Mk W M_sac ⟨"java/lang/StringBuilder", "append", "(C)Ljava/lang/StringBuilder;"⟩ 1 := Mk.of nm_M_sac rfl rfl rfl (w_223 hw) (w_96 hw) (mkLen pd__C_Ljava_lang_StringBuilder_ rfl) (by decide)
theorem w_219 {W : Wd} (hw : Ws W) : Wok W (Jvm.Cond.methodLink "java/lang/StringBuilder" (284 : Nat) ({ cls := "java/lang/StringBuilder", name := "append", desc := "(C)Ljava/lang/StringBuilder;" } : Jvm.MethodName)) := hw.1 _ (List.mem_of_getElem? (i := 219) rfl)
theorem w_220 {W : Wd} (hw : Ws W) : Wok W (Jvm.Cond.declares ({ cls := "java/lang/StringBuilder", name := "append", desc := "(C)Ljava/lang/StringBuilder;" } : Jvm.MethodName)) := hw.1 _ (List.mem_of_getElem? (i := 220) rfl)
theorem w_221 {W : Wd} (hw : Ws W) : Wok W (Jvm.Cond.instanceMethod ({ cls := "java/lang/StringBuilder", name := "append", desc := "(C)Ljava/lang/StringBuilder;" } : Jvm.MethodName)) := hw.1 _ (List.mem_of_getElem? (i := 221) rfl)
theorem d_jdk_67_73_5 : Dc jdk_67_method_73_code 5 (.areturn) 1 6 := ⟨by decide +kernel, rfl⟩
def M_bac : Mt := (⟨"java/lang/StringBuilder", "append", "(C)Ljava/lang/AbstractStringBuilder;"⟩, jdk_67_method_73_code, 2, some (.object "java/lang/AbstractStringBuilder"), ⟨3, 0, 0, 40⟩)
theorem nm_M_bac : mN M_bac = ⟨"java/lang/StringBuilder", "append", "(C)Ljava/lang/AbstractStringBuilder;"⟩ := by delta mN M_bac; rfl
set_option maxRecDepth 65536 in
set_option maxHeartbeats 40000000 in
theorem rm_bac {W : Wd} (hw : Ws W) (q : Addr) (vv : Addr) (as : List Nat) (k : Nat) (z : Nat) (F : List En) (hz1 : z < 256) (hk : k < as.length) (ha : as.length ≤ 64) : Ct W M_bac [.ref q, .int (ix z)] ((oSB true q (.ref vv) (.int 0) (.int (ix k))) :: (eB vv (zb as)) :: F) (fun v H' => v = some (.ref q) ∧ H' = ((oSB true q (.ref vv) (.int 0) (.int (ix (k + 1)))) :: (eB vv (zb (as.set k z))) :: F)) := by
  refine Ct.intro (L0 := [.val (.ref q), .val (.int (ix z))]) (plainFor_of_name pf_java_lang_StringBuilder) rfl (fun K => ?_)
  refine Wp.aloadN rfl rfl d_jdk_67_73_0 ?_
  refine Wp.iloadN rfl d_jdk_67_73_1 ?_
  refine Wp.callV nm_M_bac (fun _ => rm_sac hw.set q vv as k z _ (by omega) (by omega) (by omega)) 0 rfl (mk_M_sac hw) (w_219 hw) (w_220 hw) (w_222 hw) (w_221 hw) (S' := "") (Or.inl rfl) (by decide) rfl rfl rfl (Wn := 0) rfl rfl (by decide) d_jdk_67_73_2 ?_
  rintro _ _ ⟨rfl, rfl⟩
  refine Wp.aret rfl rfl rfl d_jdk_67_73_5 (by decide) (by decide) ?_
  exact ⟨rfl, rfl⟩
theorem d_jdk_89_12_0 : Dc jdk_89_method_12_code 0 (.iload_n 0) 1 1 := ⟨by decide +kernel, rfl⟩
theorem d_jdk_89_12_1 : Dc jdk_89_method_12_code 1 (.bipush 16) 2 3 := ⟨by decide +kernel, rfl⟩
theorem d_jdk_89_12_3 : Dc jdk_89_method_12_code 3 (.iushr) 1 4 := ⟨by decide +kernel, rfl⟩
theorem d_jdk_89_12_4 : Bj jdk_89_method_12_code 4 (.ifCond .ne 7) 7 7 11 := ⟨by decide +kernel, rfl, by decide, rfl⟩
theorem d_jdk_89_12_7 : Dc jdk_89_method_12_code 7 (.iconst 1) 1 8 := ⟨by decide +kernel, rfl⟩
theorem d_jdk_89_12_8 : Bj jdk_89_method_12_code 8 (.goto 4) 4 11 12 := ⟨by decide +kernel, rfl, by decide, rfl⟩
theorem d_jdk_89_12_12 : Dc jdk_89_method_12_code 12 (.ireturn) 1 13 := ⟨by decide +kernel, rfl⟩
def M_bmp : Mt := (⟨"java/lang/Character", "isBmpCodePoint", "(I)Z"⟩, jdk_89_method_12_code, 1, some .boolean, ⟨0, 0, 0, 0⟩)
theorem nm_M_bmp : mN M_bmp = ⟨"java/lang/Character", "isBmpCodePoint", "(I)Z"⟩ := by delta mN M_bmp; rfl
theorem pf_java_lang_Character : plainName "java/lang/Character" = true := by first | (simp [plainName, overriddenIn]; done) | decide +kernel
set_option maxRecDepth 65536 in
set_option maxHeartbeats 40000000 in
theorem rm_bmp {W : Wd} (hw : Ws W) (z : Nat) (F : List En) (hz1 : z < 256) : Ct W M_bmp [.int (ix z)] F (fun v H' => v = some (.int 1) ∧ H' = F) := by
  refine Ct.intro (L0 := [.val (.int (ix z))]) (plainFor_of_name pf_java_lang_Character) rfl (fun K => ?_)
  refine Wp.iloadN rfl d_jdk_89_12_0 ?_
  refine Wp.bipush lb_16 d_jdk_89_12_1 ?_
  refine Wp.iushr (z := 0) (ushr16 (by omega)) d_jdk_89_12_3 ?_
  refine Wp.ifF (by decide) d_jdk_89_12_4 ?_
  refine Wp.iconst lc_1 d_jdk_89_12_7 ?_
  refine Wp.goto d_jdk_89_12_8 ?_
  refine Wp.iretN (z := 1) (by simp) rfl (by decide) d_jdk_89_12_12 (by decide) (by decide) ?_
  exact ⟨rfl, rfl⟩
theorem d_jdk_89_18_0 : Dc jdk_89_method_18_code 0 (.iload_n 0) 1 1 := ⟨by decide +kernel, rfl⟩
theorem d_jdk_89_18_1 : Dc jdk_89_method_18_code 1 (.ldc 73) 2 3 := ⟨by decide +kernel, rfl⟩
theorem w_238 {W : Wd} (hw : Ws W) : Wok W (Jvm.Cond.constant "java/lang/Character" (73 : Nat) (65536 : Int32)) := hw.1 _ (List.mem_of_getElem? (i := 238) rfl)
theorem d_jdk_89_18_3 : Bj jdk_89_method_18_code 3 (.if_icmp .lt 7) 7 6 10 := ⟨by decide +kernel, rfl, by decide, rfl⟩
theorem d_jdk_89_18_10 : Dc jdk_89_method_18_code 10 (.iconst 1) 1 11 := ⟨by decide +kernel, rfl⟩
theorem d_jdk_89_18_11 : Dc jdk_89_method_18_code 11 (.ireturn) 1 12 := ⟨by decide +kernel, rfl⟩
def M_chc : Mt := (⟨"java/lang/Character", "charCount", "(I)I"⟩, jdk_89_method_18_code, 1, some .int, ⟨0, 0, 0, 0⟩)
theorem nm_M_chc : mN M_chc = ⟨"java/lang/Character", "charCount", "(I)I"⟩ := by delta mN M_chc; rfl
set_option maxRecDepth 65536 in
set_option maxHeartbeats 40000000 in
theorem rm_chc {W : Wd} (hw : Ws W) (z : Nat) (F : List En) (hz1 : z < 256) : Ct W M_chc [.int (ix z)] F (fun v H' => v = some (.int 1) ∧ H' = F) := by
  refine Ct.intro (L0 := [.val (.int (ix z))]) (plainFor_of_name pf_java_lang_Character) rfl (fun K => ?_)
  refine Wp.iloadN rfl d_jdk_89_18_0 ?_
  refine Wp.ldcI nm_M_chc (w_238 hw) d_jdk_89_18_1 ?_
  refine Wp.icT (tlt ((ix_lt (i := z) (j := 65536) (by omega) (by omega)).mpr (by omega))).1 d_jdk_89_18_3 ?_
  refine Wp.iconst lc_1 d_jdk_89_18_10 ?_
  refine Wp.iret rfl d_jdk_89_18_11 (by decide) (by decide) ?_
  exact ⟨rfl, rfl⟩
theorem d_jdk_68_37_0 : Dc jdk_68_method_37_code 0 (.iload_n 1) 1 1 := ⟨by decide +kernel, rfl⟩
theorem d_jdk_68_37_1 : Dc jdk_68_method_37_code 1 (.invokestatic 286) 3 4 := ⟨by decide +kernel, rfl⟩
theorem w_212 {W : Wd} (hw : Ws W) : Wok W (Jvm.Cond.code ({ cls := "java/lang/Character", name := "isBmpCodePoint", desc := "(I)Z" } : Jvm.MethodName) jdk_89_method_12_code (1 : Nat) (Option.some Jvm.ClassFile.FieldType.boolean)) := hw.1 _ (List.mem_of_getElem? (i := 212) rfl)
theorem w_211 {W : Wd} (hw : Ws W) : Wok W (Jvm.Cond.initialized "java/lang/Character") := hw.1 _ (List.mem_of_getElem? (i := 211) rfl)
theorem mk_M_bmp {W : Wd} (hw : Ws W) : Mk W M_bmp ⟨"java/lang/Character", "isBmpCodePoint", "(I)Z"⟩ 1 := Mk.of nm_M_bmp rfl rfl rfl (w_212 hw) (w_211 hw) (mkLen pd__I_Z rfl) (by decide)
theorem w_209 {W : Wd} (hw : Ws W) : Wok W (Jvm.Cond.methodLink "java/lang/AbstractStringBuilder" (286 : Nat) ({ cls := "java/lang/Character", name := "isBmpCodePoint", desc := "(I)Z" } : Jvm.MethodName)) := hw.1 _ (List.mem_of_getElem? (i := 209) rfl)
theorem w_210 {W : Wd} (hw : Ws W) : Wok W (Jvm.Cond.static ({ cls := "java/lang/Character", name := "isBmpCodePoint", desc := "(I)Z" } : Jvm.MethodName)) := hw.1 _ (List.mem_of_getElem? (i := 210) rfl)
theorem d_jdk_68_37_4 : Bj jdk_68_method_37_code 4 (.ifCond .eq 10) 10 7 14 := ⟨by decide +kernel, rfl, by decide, rfl⟩
theorem d_jdk_68_37_7 : Dc jdk_68_method_37_code 7 (.aload_n 0) 1 8 := ⟨by decide +kernel, rfl⟩
theorem d_jdk_68_37_8 : Dc jdk_68_method_37_code 8 (.iload_n 1) 1 9 := ⟨by decide +kernel, rfl⟩
theorem d_jdk_68_37_9 : Dc jdk_68_method_37_code 9 (.i2c) 1 10 := ⟨by decide +kernel, rfl⟩
theorem d_jdk_68_37_10 : Dc jdk_68_method_37_code 10 (.invokevirtual 290) 3 13 := ⟨by decide +kernel, rfl⟩
theorem w_216 {W : Wd} (hw : Ws W) : Wok W (Jvm.Cond.selects "java/lang/StringBuilder" ({ cls := "java/lang/AbstractStringBuilder", name := "append", desc := "(C)Ljava/lang/AbstractStringBuilder;" } : Jvm.MethodName) ({ cls := "java/lang/StringBuilder", name := "append", desc := "(C)Ljava/lang/AbstractStringBuilder;" } : Jvm.MethodName)) := hw.1 _ (List.mem_of_getElem? (i := 216) rfl)
theorem w_218 {W : Wd} (hw : Ws W) : Wok W (Jvm.Cond.code ({ cls := "java/lang/StringBuilder", name := "append", desc := "(C)Ljava/lang/AbstractStringBuilder;" } : Jvm.MethodName) jdk_67_method_73_code (2 : Nat) (Option.some (Jvm.ClassFile.FieldType.object "java/lang/AbstractStringBuilder"))) := hw.1 _ (List.mem_of_getElem? (i := 218) rfl)
theorem mk_M_bac {W : Wd} (hw : Ws W) : Mk W M_bac ⟨"java/lang/StringBuilder", "append", "(C)Ljava/lang/AbstractStringBuilder;"⟩ 1 := Mk.of nm_M_bac rfl rfl rfl (w_218 hw) (w_96 hw) (mkLen pd__C_Ljava_lang_AbstractStringBuilder_ rfl) (by decide)
theorem w_213 {W : Wd} (hw : Ws W) : Wok W (Jvm.Cond.methodLink "java/lang/AbstractStringBuilder" (290 : Nat) ({ cls := "java/lang/AbstractStringBuilder", name := "append", desc := "(C)Ljava/lang/AbstractStringBuilder;" } : Jvm.MethodName)) := hw.1 _ (List.mem_of_getElem? (i := 213) rfl)
theorem w_214 {W : Wd} (hw : Ws W) : Wok W (Jvm.Cond.declares ({ cls := "java/lang/AbstractStringBuilder", name := "append", desc := "(C)Ljava/lang/AbstractStringBuilder;" } : Jvm.MethodName)) := hw.1 _ (List.mem_of_getElem? (i := 214) rfl)
theorem w_217 {W : Wd} (hw : Ws W) : Wok W (Jvm.Cond.instanceMethod ({ cls := "java/lang/StringBuilder", name := "append", desc := "(C)Ljava/lang/AbstractStringBuilder;" } : Jvm.MethodName)) := hw.1 _ (List.mem_of_getElem? (i := 217) rfl)
theorem d_jdk_68_37_13 : Dc jdk_68_method_37_code 13 (.areturn) 1 14 := ⟨by decide +kernel, rfl⟩
def M_acp : Mt := (⟨"java/lang/AbstractStringBuilder", "appendCodePoint", "(I)Ljava/lang/AbstractStringBuilder;"⟩, jdk_68_method_37_code, 2, some (.object "java/lang/AbstractStringBuilder"), ⟨4, 0, 0, 53⟩)
theorem nm_M_acp : mN M_acp = ⟨"java/lang/AbstractStringBuilder", "appendCodePoint", "(I)Ljava/lang/AbstractStringBuilder;"⟩ := by delta mN M_acp; rfl
set_option maxRecDepth 65536 in
set_option maxHeartbeats 40000000 in
theorem rm_acp {W : Wd} (hw : Ws W) (q : Addr) (vv : Addr) (as : List Nat) (k : Nat) (z : Nat) (F : List En) (hz1 : z < 256) (hk : k < as.length) (ha : as.length ≤ 64) : Ct W M_acp [.ref q, .int (ix z)] ((oSB true q (.ref vv) (.int 0) (.int (ix k))) :: (eB vv (zb as)) :: F) (fun v H' => v = some (.ref q) ∧ H' = ((oSB true q (.ref vv) (.int 0) (.int (ix (k + 1)))) :: (eB vv (zb (as.set k z))) :: F)) := by
  refine Ct.intro (L0 := [.val (.ref q), .val (.int (ix z))]) (plainFor_of_name pf_java_lang_AbstractStringBuilder) rfl (fun K => ?_)
  refine Wp.iloadN rfl d_jdk_68_37_0 ?_
  refine Wp.callS nm_M_acp (fun _ => rm_bmp hw.set z _ (by omega)) (mk_M_bmp hw) (w_209 hw) (w_210 hw) rfl rfl (Wn := 0) rfl rfl (by decide) d_jdk_68_37_1 ?_
  rintro _ _ ⟨rfl, rfl⟩
  refine Wp.ifF (by decide) d_jdk_68_37_4 ?_
  refine Wp.aloadN rfl rfl d_jdk_68_37_7 ?_
  refine Wp.iloadN rfl d_jdk_68_37_8 ?_
  refine Wp.i2c (z := (ix z)) (ix_c (by omega)) d_jdk_68_37_9 ?_
  refine Wp.callV nm_M_acp (fun _ => rm_bac hw.set q vv as k z _ (by omega) (by omega) (by omega)) 0 rfl (mk_M_bac hw) (w_213 hw) (w_214 hw) (w_216 hw) (w_217 hw) (S' := "") (Or.inr (Or.inr (Or.inr ⟨_, _, _, (w_127 hw), rfl⟩))) (by decide) rfl rfl rfl (Wn := 0) rfl rfl (by decide) d_jdk_68_37_10 ?_
  rintro _ _ ⟨rfl, rfl⟩
  refine Wp.aret rfl rfl rfl d_jdk_68_37_13 (by decide) (by decide) ?_
  exact ⟨rfl, rfl⟩
theorem d_jdk_67_19_0 : Dc jdk_67_method_19_code 0 (.aload_n 0) 1 1 := ⟨by decide +kernel, rfl⟩
theorem d_jdk_67_19_1 : Dc jdk_67_method_19_code 1 (.iload_n 1) 1 2 := ⟨by decide +kernel, rfl⟩
theorem d_jdk_67_19_2 : Dc jdk_67_method_19_code 2 (.invokespecial 65) 3 5 := ⟨by decide +kernel, rfl⟩
theorem w_208 {W : Wd} (hw : Ws W) : Wok W (Jvm.Cond.code ({ cls := "java/lang/AbstractStringBuilder", name := "appendCodePoint", desc := "(I)Ljava/lang/AbstractStringBuilder;" } : Jvm.MethodName) jdk_68_method_37_code (2 : Nat) (Option.some (Jvm.ClassFile.FieldType.object "java/lang/AbstractStringBuilder"))) := hw.1 _ (List.mem_of_getElem? (i := 208) rfl)
theorem pd__I_Ljava_lang_AbstractStringBuilder_ : parseMethodDescriptor "(I)Ljava/lang/AbstractStringBuilder;" = some ⟨[.int], some (.object "java/lang/AbstractStringBuilder")⟩ := by decide +kernel
theorem mk_M_acp {W : Wd} (hw : Ws W) : Mk W M_acp ⟨"java/lang/AbstractStringBuilder", "appendCodePoint", "(I)Ljava/lang/AbstractStringBuilder;"⟩ 1 := Mk.of nm_M_acp rfl rfl rfl (w_208 hw) (w_104 hw) (mkLen pd__I_Ljava_lang_AbstractStringBuilder_ rfl) (by decide)
theorem w_205 {W : Wd} (hw : Ws W) : Wok W (Jvm.Cond.methodLink "java/lang/StringBuilder" (65 : Nat) ({ cls := "java/lang/AbstractStringBuilder", name := "appendCodePoint", desc := "(I)Ljava/lang/AbstractStringBuilder;" } : Jvm.MethodName)) := hw.1 _ (List.mem_of_getElem? (i := 205) rfl)
theorem w_206 {W : Wd} (hw : Ws W) : Wok W (Jvm.Cond.instanceMethod ({ cls := "java/lang/AbstractStringBuilder", name := "appendCodePoint", desc := "(I)Ljava/lang/AbstractStringBuilder;" } : Jvm.MethodName)) := hw.1 _ (List.mem_of_getElem? (i := 206) rfl)
theorem d_jdk_67_19_5 : Dc jdk_67_method_19_code 5 (.pop) 1 6 := ⟨by decide +kernel, rfl⟩
theorem d_jdk_67_19_6 : Dc jdk_67_method_19_code 6 (.aload_n 0) 1 7 := ⟨by decide +kernel, rfl⟩
theorem d_jdk_67_19_7 : Dc jdk_67_method_19_code 7 (.areturn) 1 8 := ⟨by decide +kernel, rfl⟩
def M_scp : Mt := (⟨"java/lang/StringBuilder", "appendCodePoint", "(I)Ljava/lang/StringBuilder;"⟩, jdk_67_method_19_code, 2, some (.object "java/lang/StringBuilder"), ⟨5, 0, 0, 66⟩)
theorem nm_M_scp : mN M_scp = ⟨"java/lang/StringBuilder", "appendCodePoint", "(I)Ljava/lang/StringBuilder;"⟩ := by delta mN M_scp; rfl
set_option maxRecDepth 65536 in
set_option maxHeartbeats 40000000 in
theorem rm_scp {W : Wd} (hw : Ws W) (q : Addr) (vv : Addr) (as : List Nat) (k : Nat) (z : Nat) (F : List En) (hz1 : z < 256) (hk : k < as.length) (ha : as.length ≤ 64) : Ct W M_scp [.ref q, .int (ix z)] ((oSB true q (.ref vv) (.int 0) (.int (ix k))) :: (eB vv (zb as)) :: F) (fun v H' => v = some (.ref q) ∧ H' = ((oSB true q (.ref vv) (.int 0) (.int (ix (k + 1)))) :: (eB vv (zb (as.set k z))) :: F)) := by
  refine Ct.intro (L0 := [.val (.ref q), .val (.int (ix z))]) (plainFor_of_name pf_java_lang_StringBuilder) rfl (fun K => ?_)
  refine Wp.aloadN rfl rfl d_jdk_67_19_0 ?_
  refine Wp.iloadN rfl d_jdk_67_19_1 ?_
  refine Wp.callU nm_M_scp (fun _ => rm_acp hw.set q vv as k z _ (by omega) (by omega) (by omega)) 0 rfl (mk_M_acp hw) (w_205 hw) (sameM (w_206 hw) (w_127 hw) rfl (by decide)) (w_206 hw) (w_136 hw) (by decide) rfl rfl (Wn := 0) rfl rfl (by decide) d_jdk_67_19_2 ?_
  rintro _ _ ⟨rfl, rfl⟩
  refine Wp.pop rfl d_jdk_67_19_5 ?_
  refine Wp.aloadN rfl rfl d_jdk_67_19_6 ?_
  refine Wp.aret rfl rfl rfl d_jdk_67_19_7 (by decide) (by decide) ?_
  exact ⟨rfl, rfl⟩
theorem d_jdk_42_147_0 : Dc jdk_42_method_147_code 0 (.aload_n 0) 1 1 := ⟨by decide +kernel, rfl⟩
theorem d_jdk_42_147_1 : Dc jdk_42_method_147_code 1 (.invokevirtual 335) 3 4 := ⟨by decide +kernel, rfl⟩
theorem d_jdk_42_147_4 : Dc jdk_42_method_147_code 4 (.iload_n 3) 1 5 := ⟨by decide +kernel, rfl⟩
theorem d_jdk_42_147_5 : Bj jdk_42_method_147_code 5 (.if_icmp .ne 23) 23 8 28 := ⟨by decide +kernel, rfl, by decide, rfl⟩
theorem d_jdk_42_147_8 : Dc jdk_42_method_147_code 8 (.aload_n 0) 1 9 := ⟨by decide +kernel, rfl⟩
theorem d_jdk_42_147_9 : Dc jdk_42_method_147_code 9 (.getfield 9) 3 12 := ⟨by decide +kernel, rfl⟩
theorem d_jdk_42_147_12 : Dc jdk_42_method_147_code 12 (.iconst 0) 1 13 := ⟨by decide +kernel, rfl⟩
theorem d_jdk_42_147_13 : Dc jdk_42_method_147_code 13 (.aload_n 1) 1 14 := ⟨by decide +kernel, rfl⟩
theorem d_jdk_42_147_14 : Dc jdk_42_method_147_code 14 (.iload_n 2) 1 15 := ⟨by decide +kernel, rfl⟩
theorem d_jdk_42_147_15 : Dc jdk_42_method_147_code 15 (.iload_n 3) 1 16 := ⟨by decide +kernel, rfl⟩
theorem d_jdk_42_147_16 : Dc jdk_42_method_147_code 16 (.ishl) 1 17 := ⟨by decide +kernel, rfl⟩
theorem d_jdk_42_147_17 : Dc jdk_42_method_147_code 17 (.aload_n 0) 1 18 := ⟨by decide +kernel, rfl⟩
theorem d_jdk_42_147_18 : Dc jdk_42_method_147_code 18 (.getfield 9) 3 21 := ⟨by decide +kernel, rfl⟩
theorem d_jdk_42_147_21 : Dc jdk_42_method_147_code 21 (.arraylength) 1 22 := ⟨by decide +kernel, rfl⟩
theorem d_jdk_42_147_22 : Dc jdk_42_method_147_code 22 (.invokestatic 212) 3 25 := ⟨by decide +kernel, rfl⟩
theorem w_315 {W : Wd} (hw : Ws W) : Wok W (Jvm.Cond.methodLink "java/lang/String" (212 : Nat) ({ cls := "java/lang/System", name := "arraycopy", desc := "(Ljava/lang/Object;ILjava/lang/Object;II)V" } : Jvm.MethodName)) := hw.1 _ (List.mem_of_getElem? (i := 315) rfl)
theorem d_jdk_42_147_25 : Bj jdk_42_method_147_code 25 (.goto 18) 18 28 43 := ⟨by decide +kernel, rfl, by decide, rfl⟩
theorem d_jdk_42_147_43 : Dc jdk_42_method_147_code 43 (.return_) 1 44 := ⟨by decide +kernel, rfl⟩
def M_gb : Mt := (⟨"java/lang/String", "getBytes", "([BIB)V"⟩, jdk_42_method_147_code, 4, none, ⟨1, 0, 0, 18⟩)
theorem nm_M_gb : mN M_gb = ⟨"java/lang/String", "getBytes", "([BIB)V"⟩ := by delta mN M_gb; rfl
set_option maxRecDepth 65536 in
set_option maxHeartbeats 40000000 in
theorem rm_gb {W : Wd} (hw : Ws W) (s : Addr) (b : Addr) (rs : Bool) (rb : Bool) (xb : Bool) (ob : Bool) (zs : List Nat) (vv : Addr) (as : List Nat) (k : Nat) (F : List En) (hk : k + zs.length ≤ as.length) (hl : zs.length ≤ 64) (ha : as.length ≤ 64) : Ct W M_gb [.ref s, .ref vv, .int (ix k), .int 0] ((oStr rs s (.ref b) (.int 0)) :: (b, rb, .inr (.byte, xb, ob, zb zs)) :: (eB vv (zb as)) :: F) (fun v H' => v = none ∧ H' = ((oStr rs s (.ref b) (.int 0)) :: (b, rb, .inr (.byte, xb, ob, zb zs)) :: (eB vv (zb (ins as k zs))) :: F)) := by
  refine Ct.intro (L0 := [.val (.ref s), .val (.ref vv), .val (.int (ix k)), .val (.int 0)]) (plainFor_of_name pf_java_lang_String) rfl (fun K => ?_)
  refine Wp.aloadN rfl rfl d_jdk_42_147_0 ?_
  refine Wp.callV nm_M_gb (fun _ => rm_cod hw.set s b rs _ ) 0 rfl (mk_M_cod hw) (w_58 hw) (w_59 hw) (w_61 hw) (w_60 hw) (S' := "") (Or.inl rfl) (by decide) rfl rfl rfl (Wn := 0) rfl rfl (by decide) d_jdk_42_147_1 ?_
  rintro _ _ ⟨rfl, rfl⟩
  refine Wp.iloadN rfl d_jdk_42_147_4 ?_
  refine Wp.icF (by decide) d_jdk_42_147_5 ?_
  refine Wp.aloadN rfl rfl d_jdk_42_147_8 ?_
  refine Wp.getF nm_M_gb (host := "") (Or.inl (w_28 hw)) Via.refl 0 0 rfl rfl d_jdk_42_147_9 ?_
  refine Wp.iconst lc_0 d_jdk_42_147_12 ?_
  refine Wp.aloadN rfl rfl d_jdk_42_147_13 ?_
  refine Wp.iloadN rfl d_jdk_42_147_14 ?_
  refine Wp.iloadN rfl d_jdk_42_147_15 ?_
  refine Wp.ishl (z := (ix k)) (ix_shl0 _) d_jdk_42_147_16 ?_
  refine Wp.aloadN rfl rfl d_jdk_42_147_17 ?_
  refine Wp.getF nm_M_gb (host := "") (Or.inl (w_28 hw)) Via.refl 0 0 rfl rfl d_jdk_42_147_18 ?_
  refine Wp.alen (z := (ix zs.length)) 1 rfl (zb_lenI _) d_jdk_42_147_21 ?_
  refine Wp.acopy nm_M_gb (us := (zb zs)) (s := 0) (d := k) (m := zs.length) 1 2 rfl rfl (w_315 hw) (w_275 hw) (w_273 hw) (w_274 hw) (Or.inl ⟨rfl, rfl⟩) rfl rfl rfl (by rw [List.drop_zero]; exact List.take_of_length_le (by rw [zb_len]; omega)) (by rw [zb_len]; omega) (by rw [zb_len]; omega) (Wn := 0) rfl rfl (by decide) (by decide) d_jdk_42_147_22 (H' := ((oStr rs s (.ref b) (.int 0)) :: (b, rb, .inr (.byte, xb, ob, zb zs)) :: (eB vv (zb (ins as k zs))) :: F)) (by simp only [ins, zb_take, zb_drop, zb_app]; rfl) ?_
  refine Wp.goto d_jdk_42_147_25 ?_
  refine Wp.ret rfl d_jdk_42_147_43 (by decide) (by decide) ?_
  exact ⟨rfl, rfl⟩
theorem d_jdk_68_71_0 : Dc jdk_68_method_71_code 0 (.getstatic 18) 3 3 := ⟨by decide +kernel, rfl⟩
theorem d_jdk_68_71_3 : Bj jdk_68_method_71_code 3 (.ifCond .eq 18) 18 6 21 := ⟨by decide +kernel, rfl, by decide, rfl⟩
theorem d_jdk_68_71_6 : Dc jdk_68_method_71_code 6 (.aload_n 0) 1 7 := ⟨by decide +kernel, rfl⟩
theorem d_jdk_68_71_7 : Dc jdk_68_method_71_code 7 (.getfield 22) 3 10 := ⟨by decide +kernel, rfl⟩
theorem d_jdk_68_71_10 : Dc jdk_68_method_71_code 10 (.aload_n 1) 1 11 := ⟨by decide +kernel, rfl⟩
theorem d_jdk_68_71_11 : Dc jdk_68_method_71_code 11 (.invokevirtual 40) 3 14 := ⟨by decide +kernel, rfl⟩
theorem w_309 {W : Wd} (hw : Ws W) : Wok W (Jvm.Cond.methodLink "java/lang/AbstractStringBuilder" (40 : Nat) ({ cls := "java/lang/String", name := "coder", desc := "()B" } : Jvm.MethodName)) := hw.1 _ (List.mem_of_getElem? (i := 309) rfl)
theorem d_jdk_68_71_14 : Bj jdk_68_method_71_code 14 (.if_icmp .eq 7) 7 17 21 := ⟨by decide +kernel, rfl, by decide, rfl⟩
theorem d_jdk_68_71_21 : Dc jdk_68_method_71_code 21 (.return_) 1 22 := ⟨by decide +kernel, rfl⟩
def M_ifn : Mt := (⟨"java/lang/AbstractStringBuilder", "inflateIfNeededFor", "(Ljava/lang/String;)V"⟩, jdk_68_method_71_code, 2, none, ⟨1, 0, 0, 13⟩)
theorem nm_M_ifn : mN M_ifn = ⟨"java/lang/AbstractStringBuilder", "inflateIfNeededFor", "(Ljava/lang/String;)V"⟩ := by delta mN M_ifn; rfl
set_option maxRecDepth 65536 in
set_option maxHeartbeats 40000000 in
theorem rm_ifn {W : Wd} (hw : Ws W) (q : Addr) (vv : Addr) (k : Nat) (s : Addr) (b : Addr) (rs : Bool) (F : List En) : Ct W M_ifn [.ref q, .ref s] ((oSB true q (.ref vv) (.int 0) (.int (ix k))) :: (oStr rs s (.ref b) (.int 0)) :: F) (fun v H' => v = none ∧ H' = ((oSB true q (.ref vv) (.int 0) (.int (ix k))) :: (oStr rs s (.ref b) (.int 0)) :: F)) := by
  refine Ct.intro (L0 := [.val (.ref q), .val (.ref s)]) (plainFor_of_name pf_java_lang_AbstractStringBuilder) rfl (fun K => ?_)
  obtain ⟨cs1, Fcs1, ncs1⟩ := st_compact hw
  refine Wp.getS nm_M_ifn (host := "") (Or.inl (w_107 hw)) Via.refl Fcs1 d_jdk_68_71_0 ?_
  refine Wp.ifF (feq ncs1).1 d_jdk_68_71_3 ?_
  refine Wp.aloadN rfl rfl d_jdk_68_71_6 ?_
  refine Wp.getF nm_M_ifn (host := "") (Or.inl (w_110 hw)) Via.refl 0 1 rfl rfl d_jdk_68_71_7 ?_
  refine Wp.aloadN rfl rfl d_jdk_68_71_10 ?_
  refine Wp.perm [1, 0] 2 pp_1_0 (H' := ((oStr rs s (.ref b) (.int 0)) :: (oSB true q (.ref vv) (.int 0) (.int (ix k))) :: F)) rfl ?_
  refine Wp.callV nm_M_ifn (fun _ => rm_cod hw.set s b rs _ ) 0 rfl (mk_M_cod hw) (w_309 hw) (w_59 hw) (w_61 hw) (w_60 hw) (S' := "") (Or.inl rfl) (by decide) rfl rfl rfl (Wn := 1) rfl rfl (by decide) d_jdk_68_71_11 ?_
  rintro _ _ ⟨rfl, rfl⟩
  refine Wp.icT (by decide) d_jdk_68_71_14 ?_
  refine Wp.perm [1, 0] 2 pp_1_0 (H' := ((oSB true q (.ref vv) (.int 0) (.int (ix k))) :: (oStr rs s (.ref b) (.int 0)) :: F)) rfl ?_
  refine Wp.ret rfl d_jdk_68_71_21 (by decide) (by decide) ?_
  exact ⟨rfl, rfl⟩
theorem d_jdk_68_73_0 : Dc jdk_68_method_73_code 0 (.aload_n 0) 1 1 := ⟨by decide +kernel, rfl⟩
theorem d_jdk_68_73_1 : Dc jdk_68_method_73_code 1 (.aload_n 2) 1 2 := ⟨by decide +kernel, rfl⟩
theorem d_jdk_68_73_2 : Dc jdk_68_method_73_code 2 (.invokevirtual 397) 3 5 := ⟨by decide +kernel, rfl⟩
theorem pp_0_2_1 : [0, 2, 1].isPerm (List.range 3) = true := by decide +kernel
theorem w_308 {W : Wd} (hw : Ws W) : Wok W (Jvm.Cond.code ({ cls := "java/lang/AbstractStringBuilder", name := "inflateIfNeededFor", desc := "(Ljava/lang/String;)V" } : Jvm.MethodName) jdk_68_method_71_code (2 : Nat) (Option.none : Option Jvm.ClassFile.FieldType)) := hw.1 _ (List.mem_of_getElem? (i := 308) rfl)
theorem pd__Ljava_lang_String__V : parseMethodDescriptor "(Ljava/lang/String;)V" = some ⟨[(.object "java/lang/String")], none⟩ := by decide +kernel
theorem mk_M_ifn {W : Wd} (hw : Ws W) : Mk W M_ifn ⟨"java/lang/AbstractStringBuilder", "inflateIfNeededFor", "(Ljava/lang/String;)V"⟩ 1 := Mk.of nm_M_ifn rfl rfl rfl (w_308 hw) (w_104 hw) (mkLen pd__Ljava_lang_String__V rfl) (by decide)
theorem w_304 {W : Wd} (hw : Ws W) : Wok W (Jvm.Cond.methodLink "java/lang/AbstractStringBuilder" (397 : Nat) ({ cls := "java/lang/AbstractStringBuilder", name := "inflateIfNeededFor", desc := "(Ljava/lang/String;)V" } : Jvm.MethodName)) := hw.1 _ (List.mem_of_getElem? (i := 304) rfl)
theorem w_305 {W : Wd} (hw : Ws W) : Wok W (Jvm.Cond.instanceMethod ({ cls := "java/lang/AbstractStringBuilder", name := "inflateIfNeededFor", desc := "(Ljava/lang/String;)V" } : Jvm.MethodName)) := hw.1 _ (List.mem_of_getElem? (i := 305) rfl)
theorem w_307 {W : Wd} (hw : Ws W) : Wok W (Jvm.Cond.selects "java/lang/StringBuilder" ({ cls := "java/lang/AbstractStringBuilder", name := "inflateIfNeededFor", desc := "(Ljava/lang/String;)V" } : Jvm.MethodName) ({ cls := "java/lang/AbstractStringBuilder", name := "inflateIfNeededFor", desc := "(Ljava/lang/String;)V" } : Jvm.MethodName)) := hw.1 _ (List.mem_of_getElem? (i := 307) rfl)
theorem w_306 {W : Wd} (hw : Ws W) : Wok W (Jvm.Cond.privateMethod ({ cls := "java/lang/AbstractStringBuilder", name := "inflateIfNeededFor", desc := "(Ljava/lang/String;)V" } : Jvm.MethodName)) := hw.1 _ (List.mem_of_getElem? (i := 306) rfl)
theorem d_jdk_68_73_5 : Dc jdk_68_method_73_code 5 (.aload_n 2) 1 6 := ⟨by decide +kernel, rfl⟩
theorem d_jdk_68_73_6 : Dc jdk_68_method_73_code 6 (.aload_n 0) 1 7 := ⟨by decide +kernel, rfl⟩
theorem d_jdk_68_73_7 : Dc jdk_68_method_73_code 7 (.getfield 15) 3 10 := ⟨by decide +kernel, rfl⟩
theorem d_jdk_68_73_10 : Dc jdk_68_method_73_code 10 (.iload_n 1) 1 11 := ⟨by decide +kernel, rfl⟩
theorem d_jdk_68_73_11 : Dc jdk_68_method_73_code 11 (.aload_n 0) 1 12 := ⟨by decide +kernel, rfl⟩
theorem d_jdk_68_73_12 : Dc jdk_68_method_73_code 12 (.getfield 22) 3 15 := ⟨by decide +kernel, rfl⟩
theorem d_jdk_68_73_15 : Dc jdk_68_method_73_code 15 (.invokevirtual 399) 3 18 := ⟨by decide +kernel, rfl⟩
theorem w_313 {W : Wd} (hw : Ws W) : Wok W (Jvm.Cond.selects "java/lang/String" ({ cls := "java/lang/String", name := "getBytes", desc := "([BIB)V" } : Jvm.MethodName) ({ cls := "java/lang/String", name := "getBytes", desc := "([BIB)V" } : Jvm.MethodName)) := hw.1 _ (List.mem_of_getElem? (i := 313) rfl)
theorem pp_1_3_2_0 : [1, 3, 2, 0].isPerm (List.range 4) = true := by decide +kernel
theorem w_314 {W : Wd} (hw : Ws W) : Wok W (Jvm.Cond.code ({ cls := "java/lang/String", name := "getBytes", desc := "([BIB)V" } : Jvm.MethodName) jdk_42_method_147_code (4 : Nat) (Option.none : Option Jvm.ClassFile.FieldType)) := hw.1 _ (List.mem_of_getElem? (i := 314) rfl)
theorem pd___BIB_V : parseMethodDescriptor "([BIB)V" = some ⟨[(.array .byte), .int, .byte], none⟩ := by decide +kernel
theorem mk_M_gb {W : Wd} (hw : Ws W) : Mk W M_gb ⟨"java/lang/String", "getBytes", "([BIB)V"⟩ 3 := Mk.of nm_M_gb rfl rfl rfl (w_314 hw) (w_11 hw) (mkLen pd___BIB_V rfl) (by decide)
theorem w_310 {W : Wd} (hw : Ws W) : Wok W (Jvm.Cond.methodLink "java/lang/AbstractStringBuilder" (399 : Nat) ({ cls := "java/lang/String", name := "getBytes", desc := "([BIB)V" } : Jvm.MethodName)) := hw.1 _ (List.mem_of_getElem? (i := 310) rfl)
theorem w_311 {W : Wd} (hw : Ws W) : Wok W (Jvm.Cond.declares ({ cls := "java/lang/String", name := "getBytes", desc := "([BIB)V" } : Jvm.MethodName)) := hw.1 _ (List.mem_of_getElem? (i := 311) rfl)
theorem w_312 {W : Wd} (hw : Ws W) : Wok W (Jvm.Cond.instanceMethod ({ cls := "java/lang/String", name := "getBytes", desc := "([BIB)V" } : Jvm.MethodName)) := hw.1 _ (List.mem_of_getElem? (i := 312) rfl)
theorem d_jdk_68_73_18 : Dc jdk_68_method_73_code 18 (.return_) 1 19 := ⟨by decide +kernel, rfl⟩
theorem pp_3_2_0_1 : [3, 2, 0, 1].isPerm (List.range 4) = true := by decide +kernel
def M_psa : Mt := (⟨"java/lang/AbstractStringBuilder", "putStringAt", "(ILjava/lang/String;)V"⟩, jdk_68_method_73_code, 3, none, ⟨2, 0, 0, 33⟩)
theorem nm_M_psa : mN M_psa = ⟨"java/lang/AbstractStringBuilder", "putStringAt", "(ILjava/lang/String;)V"⟩ := by delta mN M_psa; rfl
set_option maxRecDepth 65536 in
set_option maxHeartbeats 40000000 in
theorem rm_psa {W : Wd} (hw : Ws W) (q : Addr) (vv : Addr) (as : List Nat) (k : Nat) (s : Addr) (b : Addr) (rs : Bool) (rb : Bool) (xb : Bool) (ob : Bool) (zs : List Nat) (F : List En) (hk : k + zs.length ≤ as.length) (hl : zs.length ≤ 64) (ha : as.length ≤ 64) : Ct W M_psa [.ref q, .int (ix k), .ref s] ((oSB true q (.ref vv) (.int 0) (.int (ix k))) :: (eB vv (zb as)) :: (oStr rs s (.ref b) (.int 0)) :: (b, rb, .inr (.byte, xb, ob, zb zs)) :: F) (fun v H' => v = none ∧ H' = ((oSB true q (.ref vv) (.int 0) (.int (ix k))) :: (eB vv (zb (ins as k zs))) :: (oStr rs s (.ref b) (.int 0)) :: (b, rb, .inr (.byte, xb, ob, zb zs)) :: F)) := by
  refine Ct.intro (L0 := [.val (.ref q), .val (.int (ix k)), .val (.ref s)]) (plainFor_of_name pf_java_lang_AbstractStringBuilder) rfl (fun K => ?_)
  refine Wp.aloadN rfl rfl d_jdk_68_73_0 ?_
  refine Wp.aloadN rfl rfl d_jdk_68_73_1 ?_
  refine Wp.perm [0, 2, 1] 3 pp_0_2_1 (H' := ((oSB true q (.ref vv) (.int 0) (.int (ix k))) :: (oStr rs s (.ref b) (.int 0)) :: (eB vv (zb as)) :: (b, rb, .inr (.byte, xb, ob, zb zs)) :: F)) rfl ?_
  refine Wp.callP nm_M_psa (fun _ => rm_ifn hw.set q vv k s b rs _ ) 0 rfl (mk_M_ifn hw) (w_304 hw) (w_305 hw) (w_307 hw) (w_306 hw) rfl rfl (Wn := 0) rfl rfl (by decide) d_jdk_68_73_2 ?_
  rintro _ _ ⟨rfl, rfl⟩
  refine Wp.aloadN rfl rfl d_jdk_68_73_5 ?_
  refine Wp.aloadN rfl rfl d_jdk_68_73_6 ?_
  refine Wp.getF nm_M_psa (host := "") (Or.inl (w_108 hw)) Via.refl 0 0 rfl rfl d_jdk_68_73_7 ?_
  refine Wp.iloadN rfl d_jdk_68_73_10 ?_
  refine Wp.aloadN rfl rfl d_jdk_68_73_11 ?_
  refine Wp.getF nm_M_psa (host := "") (Or.inl (w_110 hw)) Via.refl 0 1 rfl rfl d_jdk_68_73_12 ?_
  refine Wp.perm [1, 3, 2, 0] 4 pp_1_3_2_0 (H' := ((oStr rs s (.ref b) (.int 0)) :: (b, rb, .inr (.byte, xb, ob, zb zs)) :: (eB vv (zb as)) :: (oSB true q (.ref vv) (.int 0) (.int (ix k))) :: F)) rfl ?_
  refine Wp.callV nm_M_psa (fun _ => rm_gb hw.set s b rs rb xb ob zs vv as k _ (by omega) (by omega) (by omega)) 0 rfl (mk_M_gb hw) (w_310 hw) (w_311 hw) (w_313 hw) (w_312 hw) (S' := "") (Or.inl rfl) (by decide) rfl rfl rfl (Wn := 0) rfl rfl (by decide) d_jdk_68_73_15 ?_
  rintro _ _ ⟨rfl, rfl⟩
  refine Wp.perm [3, 2, 0, 1] 4 pp_3_2_0_1 (H' := ((oSB true q (.ref vv) (.int 0) (.int (ix k))) :: (eB vv (zb (ins as k zs))) :: (oStr rs s (.ref b) (.int 0)) :: (b, rb, .inr (.byte, xb, ob, zb zs)) :: F)) rfl ?_
  refine Wp.ret rfl d_jdk_68_73_18 (by decide) (by decide) ?_
  exact ⟨rfl, rfl⟩
theorem d_jdk_68_22_0 : Dc jdk_68_method_22_code 0 (.aload_n 1) 1 1 := ⟨by decide +kernel, rfl⟩
theorem d_jdk_68_22_1 : Bj jdk_68_method_22_code 1 (.ifnonnull 8) 8 4 9 := ⟨by decide +kernel, rfl, by decide, rfl⟩
theorem d_jdk_68_22_9 : Dc jdk_68_method_22_code 9 (.aload_n 1) 1 10 := ⟨by decide +kernel, rfl⟩
theorem d_jdk_68_22_10 : Dc jdk_68_method_22_code 10 (.invokevirtual 32) 3 13 := ⟨by decide +kernel, rfl⟩
theorem pp_2_3_0_1 : [2, 3, 0, 1].isPerm (List.range 4) = true := by decide +kernel
theorem w_298 {W : Wd} (hw : Ws W) : Wok W (Jvm.Cond.methodLink "java/lang/AbstractStringBuilder" (32 : Nat) ({ cls := "java/lang/String", name := "length", desc := "()I" } : Jvm.MethodName)) := hw.1 _ (List.mem_of_getElem? (i := 298) rfl)
theorem d_jdk_68_22_13 : Dc jdk_68_method_22_code 13 (.istore_n 2) 1 14 := ⟨by decide +kernel, rfl⟩
theorem d_jdk_68_22_14 : Dc jdk_68_method_22_code 14 (.aload_n 0) 1 15 := ⟨by decide +kernel, rfl⟩
theorem d_jdk_68_22_15 : Dc jdk_68_method_22_code 15 (.aload_n 0) 1 16 := ⟨by decide +kernel, rfl⟩
theorem d_jdk_68_22_16 : Dc jdk_68_method_22_code 16 (.getfield 79) 3 19 := ⟨by decide +kernel, rfl⟩
theorem d_jdk_68_22_19 : Dc jdk_68_method_22_code 19 (.iload_n 2) 1 20 := ⟨by decide +kernel, rfl⟩
theorem d_jdk_68_22_20 : Dc jdk_68_method_22_code 20 (.iadd) 1 21 := ⟨by decide +kernel, rfl⟩
theorem d_jdk_68_22_21 : Dc jdk_68_method_22_code 21 (.invokevirtual 100) 3 24 := ⟨by decide +kernel, rfl⟩
theorem d_jdk_68_22_24 : Dc jdk_68_method_22_code 24 (.aload_n 0) 1 25 := ⟨by decide +kernel, rfl⟩
theorem d_jdk_68_22_25 : Dc jdk_68_method_22_code 25 (.aload_n 0) 1 26 := ⟨by decide +kernel, rfl⟩
theorem d_jdk_68_22_26 : Dc jdk_68_method_22_code 26 (.getfield 79) 3 29 := ⟨by decide +kernel, rfl⟩
theorem d_jdk_68_22_29 : Dc jdk_68_method_22_code 29 (.aload_n 1) 1 30 := ⟨by decide +kernel, rfl⟩
theorem d_jdk_68_22_30 : Dc jdk_68_method_22_code 30 (.invokevirtual 208) 3 33 := ⟨by decide +kernel, rfl⟩
theorem w_303 {W : Wd} (hw : Ws W) : Wok W (Jvm.Cond.code ({ cls := "java/lang/AbstractStringBuilder", name := "putStringAt", desc := "(ILjava/lang/String;)V" } : Jvm.MethodName) jdk_68_method_73_code (3 : Nat) (Option.none : Option Jvm.ClassFile.FieldType)) := hw.1 _ (List.mem_of_getElem? (i := 303) rfl)
theorem pd__ILjava_lang_String__V : parseMethodDescriptor "(ILjava/lang/String;)V" = some ⟨[.int, (.object "java/lang/String")], none⟩ := by decide +kernel
theorem mk_M_psa {W : Wd} (hw : Ws W) : Mk W M_psa ⟨"java/lang/AbstractStringBuilder", "putStringAt", "(ILjava/lang/String;)V"⟩ 2 := Mk.of nm_M_psa rfl rfl rfl (w_303 hw) (w_104 hw) (mkLen pd__ILjava_lang_String__V rfl) (by decide)
theorem w_299 {W : Wd} (hw : Ws W) : Wok W (Jvm.Cond.methodLink "java/lang/AbstractStringBuilder" (208 : Nat) ({ cls := "java/lang/AbstractStringBuilder", name := "putStringAt", desc := "(ILjava/lang/String;)V" } : Jvm.MethodName)) := hw.1 _ (List.mem_of_getElem? (i := 299) rfl)
theorem w_300 {W : Wd} (hw : Ws W) : Wok W (Jvm.Cond.instanceMethod ({ cls := "java/lang/AbstractStringBuilder", name := "putStringAt", desc := "(ILjava/lang/String;)V" } : Jvm.MethodName)) := hw.1 _ (List.mem_of_getElem? (i := 300) rfl)
theorem w_302 {W : Wd} (hw : Ws W) : Wok W (Jvm.Cond.selects "java/lang/StringBuilder" ({ cls := "java/lang/AbstractStringBuilder", name := "putStringAt", desc := "(ILjava/lang/String;)V" } : Jvm.MethodName) ({ cls := "java/lang/AbstractStringBuilder", name := "putStringAt", desc := "(ILjava/lang/String;)V" } : Jvm.MethodName)) := hw.1 _ (List.mem_of_getElem? (i := 302) rfl)
theorem w_301 {W : Wd} (hw : Ws W) : Wok W (Jvm.Cond.privateMethod ({ cls := "java/lang/AbstractStringBuilder", name := "putStringAt", desc := "(ILjava/lang/String;)V" } : Jvm.MethodName)) := hw.1 _ (List.mem_of_getElem? (i := 301) rfl)
theorem d_jdk_68_22_33 : Dc jdk_68_method_22_code 33 (.aload_n 0) 1 34 := ⟨by decide +kernel, rfl⟩
theorem d_jdk_68_22_34 : Dc jdk_68_method_22_code 34 (.dup) 1 35 := ⟨by decide +kernel, rfl⟩
theorem d_jdk_68_22_35 : Dc jdk_68_method_22_code 35 (.getfield 79) 3 38 := ⟨by decide +kernel, rfl⟩
theorem d_jdk_68_22_38 : Dc jdk_68_method_22_code 38 (.iload_n 2) 1 39 := ⟨by decide +kernel, rfl⟩
theorem d_jdk_68_22_39 : Dc jdk_68_method_22_code 39 (.iadd) 1 40 := ⟨by decide +kernel, rfl⟩
theorem d_jdk_68_22_40 : Dc jdk_68_method_22_code 40 (.putfield 79) 3 43 := ⟨by decide +kernel, rfl⟩
theorem d_jdk_68_22_43 : Dc jdk_68_method_22_code 43 (.aload_n 0) 1 44 := ⟨by decide +kernel, rfl⟩
theorem d_jdk_68_22_44 : Dc jdk_68_method_22_code 44 (.areturn) 1 45 := ⟨by decide +kernel, rfl⟩
def M_asa : Mt := (⟨"java/lang/AbstractStringBuilder", "append", "(Ljava/lang/String;)Ljava/lang/AbstractStringBuilder;"⟩, jdk_68_method_22_code, 3, some (.object "java/lang/AbstractStringBuilder"), ⟨3, 0, 0, 47⟩)
theorem nm_M_asa : mN M_asa = ⟨"java/lang/AbstractStringBuilder", "append", "(Ljava/lang/String;)Ljava/lang/AbstractStringBuilder;"⟩ := by delta mN M_asa; rfl
set_option maxRecDepth 65536 in
set_option maxHeartbeats 40000000 in
theorem rm_asa {W : Wd} (hw : Ws W) (q : Addr) (vv : Addr) (as : List Nat) (k : Nat) (s : Addr) (b : Addr) (rs : Bool) (rb : Bool) (xb : Bool) (ob : Bool) (zs : List Nat) (F : List En) (hk : k + zs.length ≤ as.length) (hl : zs.length ≤ 64) (ha : as.length ≤ 64) : Ct W M_asa [.ref q, .ref s] ((oSB true q (.ref vv) (.int 0) (.int (ix k))) :: (eB vv (zb as)) :: (oStr rs s (.ref b) (.int 0)) :: (b, rb, .inr (.byte, xb, ob, zb zs)) :: F) (fun v H' => (∃ a2 : List Nat, v = some (.ref q) ∧ H' = ((oSB true q (.ref vv) (.int 0) (.int (ix (k + zs.length)))) :: (eB vv (zb a2)) :: (oStr rs s (.ref b) (.int 0)) :: (b, rb, .inr (.byte, xb, ob, zb zs)) :: F) ∧ a2.length = as.length ∧ a2.take (k + zs.length) = as.take k ++ zs)) := by
  refine Ct.intro (L0 := [.val (.ref q), .val (.ref s), .unset]) (plainFor_of_name pf_java_lang_AbstractStringBuilder) rfl (fun K => ?_)
  refine Wp.aloadN rfl rfl d_jdk_68_22_0 ?_
  refine Wp.ifnonnullT d_jdk_68_22_1 ?_
  refine Wp.aloadN rfl rfl d_jdk_68_22_9 ?_
  refine Wp.perm [2, 3, 0, 1] 4 pp_2_3_0_1 (H' := ((oStr rs s (.ref b) (.int 0)) :: (b, rb, .inr (.byte, xb, ob, zb zs)) :: (oSB true q (.ref vv) (.int 0) (.int (ix k))) :: (eB vv (zb as)) :: F)) rfl ?_
  refine Wp.callV nm_M_asa (fun _ => rm_len hw.set s b rs rb xb ob zs _ ) 0 rfl (mk_M_len hw) (w_298 hw) (w_54 hw) (w_56 hw) (w_55 hw) (S' := "") (Or.inl rfl) (by decide) rfl rfl rfl (Wn := 0) rfl rfl (by decide) d_jdk_68_22_10 ?_
  rintro _ _ ⟨rfl, rfl⟩
  refine Wp.istoreN (L' := [.val (.ref q), .val (.ref s), .val (.int (ix zs.length))]) rfl d_jdk_68_22_13 ?_
  refine Wp.aloadN rfl rfl d_jdk_68_22_14 ?_
  refine Wp.aloadN rfl rfl d_jdk_68_22_15 ?_
  refine Wp.getF nm_M_asa (host := "") (Or.inl (w_138 hw)) Via.refl 2 2 rfl rfl d_jdk_68_22_16 ?_
  refine Wp.iloadN rfl d_jdk_68_22_19 ?_
  refine Wp.iadd (z := (ix (k + zs.length))) (ix_add _ _) d_jdk_68_22_20 ?_
  refine Wp.perm [2, 3, 0, 1] 4 pp_2_3_0_1 (H' := ((oSB true q (.ref vv) (.int 0) (.int (ix k))) :: (eB vv (zb as)) :: (oStr rs s (.ref b) (.int 0)) :: (b, rb, .inr (.byte, xb, ob, zb zs)) :: F)) rfl ?_
  refine Wp.callP nm_M_asa (fun _ => rm_eci hw.set q vv as k (k + zs.length) _ (by omega) (by omega)) 0 rfl (mk_M_eci hw) (w_226 hw) (w_227 hw) (w_229 hw) (w_228 hw) rfl rfl (Wn := 0) rfl rfl (by decide) d_jdk_68_22_21 ?_
  rintro _ _ ⟨rfl, rfl⟩
  refine Wp.aloadN rfl rfl d_jdk_68_22_24 ?_
  refine Wp.aloadN rfl rfl d_jdk_68_22_25 ?_
  refine Wp.getF nm_M_asa (host := "") (Or.inl (w_138 hw)) Via.refl 0 2 rfl rfl d_jdk_68_22_26 ?_
  refine Wp.aloadN rfl rfl d_jdk_68_22_29 ?_
  refine Wp.callP nm_M_asa (fun _ => rm_psa hw.set q vv as k s b rs rb xb ob zs _ (by omega) (by omega) (by omega)) 0 rfl (mk_M_psa hw) (w_299 hw) (w_300 hw) (w_302 hw) (w_301 hw) rfl rfl (Wn := 0) rfl rfl (by decide) d_jdk_68_22_30 ?_
  rintro _ _ ⟨rfl, rfl⟩
  refine Wp.aloadN rfl rfl d_jdk_68_22_33 ?_
  refine Wp.dup rfl d_jdk_68_22_34 ?_
  refine Wp.getF nm_M_asa (host := "") (Or.inl (w_138 hw)) Via.refl 0 2 rfl rfl d_jdk_68_22_35 ?_
  refine Wp.iloadN rfl d_jdk_68_22_38 ?_
  refine Wp.iadd (z := (ix (k + zs.length))) (ix_add _ _) d_jdk_68_22_39 ?_
  refine Wp.putF nm_M_asa (host := "") (Or.inl (w_138 hw)) Via.refl 0 2 rfl rfl (Or.inl (w_139 hw)) (w_95 hw) (ty := .int) (by decide) rfl rfl d_jdk_68_22_40 (H' := ((oSB true q (.ref vv) (.int 0) (.int (ix (k + zs.length)))) :: (eB vv (zb (ins as k zs))) :: (oStr rs s (.ref b) (.int 0)) :: (b, rb, .inr (.byte, xb, ob, zb zs)) :: F)) rfl ?_
  refine Wp.aloadN rfl rfl d_jdk_68_22_43 ?_
  refine Wp.aret rfl rfl rfl d_jdk_68_22_44 (by decide) (by decide) ?_
  exact ⟨(ins as k zs), rfl, rfl, (ins_len hk), (ins_take hk)⟩
theorem d_jdk_67_7_0 : Dc jdk_67_method_7_code 0 (.aload_n 0) 1 1 := ⟨by decide +kernel, rfl⟩
theorem d_jdk_67_7_1 : Dc jdk_67_method_7_code 1 (.aload_n 1) 1 2 := ⟨by decide +kernel, rfl⟩
theorem d_jdk_67_7_2 : Dc jdk_67_method_7_code 2 (.invokespecial 29) 3 5 := ⟨by decide +kernel, rfl⟩
theorem w_297 {W : Wd} (hw : Ws W) : Wok W (Jvm.Cond.code ({ cls := "java/lang/AbstractStringBuilder", name := "append", desc := "(Ljava/lang/String;)Ljava/lang/AbstractStringBuilder;" } : Jvm.MethodName) jdk_68_method_22_code (3 : Nat) (Option.some (Jvm.ClassFile.FieldType.object "java/lang/AbstractStringBuilder"))) := hw.1 _ (List.mem_of_getElem? (i := 297) rfl)
theorem pd__Ljava_lang_String__Ljava_lang_AbstractStringBuilder_ : parseMethodDescriptor "(Ljava/lang/String;)Ljava/lang/AbstractStringBuilder;" = some ⟨[(.object "java/lang/String")], some (.object "java/lang/AbstractStringBuilder")⟩ := by decide +kernel
theorem mk_M_asa {W : Wd} (hw : Ws W) : Mk W M_asa ⟨"java/lang/AbstractStringBuilder", "append", "(Ljava/lang/String;)Ljava/lang/AbstractStringBuilder;"⟩ 1 := Mk.of nm_M_asa rfl rfl rfl (w_297 hw) (w_104 hw) (mkLen pd__Ljava_lang_String__Ljava_lang_AbstractStringBuilder_ rfl) (by decide)
theorem w_294 {W : Wd} (hw : Ws W) : Wok W (Jvm.Cond.methodLink "java/lang/StringBuilder" (29 : Nat) ({ cls := "java/lang/AbstractStringBuilder", name := "append", desc := "(Ljava/lang/String;)Ljava/lang/AbstractStringBuilder;" } : Jvm.MethodName)) := hw.1 _ (List.mem_of_getElem? (i := 294) rfl)
theorem w_295 {W : Wd} (hw : Ws W) : Wok W (Jvm.Cond.instanceMethod ({ cls := "java/lang/AbstractStringBuilder", name := "append", desc := "(Ljava/lang/String;)Ljava/lang/AbstractStringBuilder;" } : Jvm.MethodName)) := hw.1 _ (List.mem_of_getElem? (i := 295) rfl)
theorem d_jdk_67_7_5 : Dc jdk_67_method_7_code 5 (.pop) 1 6 := ⟨by decide +kernel, rfl⟩
theorem d_jdk_67_7_6 : Dc jdk_67_method_7_code 6 (.aload_n 0) 1 7 := ⟨by decide +kernel, rfl⟩
theorem d_jdk_67_7_7 : Dc jdk_67_method_7_code 7 (.areturn) 1 8 := ⟨by decide +kernel, rfl⟩
def M_ssa : Mt := (⟨"java/lang/StringBuilder", "append", "(Ljava/lang/String;)Ljava/lang/StringBuilder;"⟩, jdk_67_method_7_code, 2, some (.object "java/lang/StringBuilder"), ⟨4, 0, 0, 61⟩)
theorem nm_M_ssa : mN M_ssa = ⟨"java/lang/StringBuilder", "append", "(Ljava/lang/String;)Ljava/lang/StringBuilder;"⟩ := by delta mN M_ssa; rfl
set_option maxRecDepth 65536 in
set_option maxHeartbeats 40000000 in
theorem rm_ssa {W : Wd} (hw : Ws W) (q : Addr) (vv : Addr) (as : List Nat) (k : Nat) (s : Addr) (b : Addr) (rs : Bool) (rb : Bool) (xb : Bool) (ob : Bool) (zs : List Nat) (F : List En) (hk : k + zs.length ≤ as.length) (hl : zs.length ≤ 64) (ha : as.length ≤ 64) : Ct W M_ssa [.ref q, .ref s] ((oSB true q (.ref vv) (.int 0) (.int (ix k))) :: (eB vv (zb as)) :: (oStr rs s (.ref b) (.int 0)) :: (b, rb, .inr (.byte, xb, ob, zb zs)) :: F) (fun v H' => (∃ a2 : List Nat, v = some (.ref q) ∧ H' = ((oSB true q (.ref vv) (.int 0) (.int (ix (k + zs.length)))) :: (eB vv (zb a2)) :: (oStr rs s (.ref b) (.int 0)) :: (b, rb, .inr (.byte, xb, ob, zb zs)) :: F) ∧ a2.length = as.length ∧ a2.take (k + zs.length) = as.take k ++ zs)) := by
  refine Ct.intro (L0 := [.val (.ref q), .val (.ref s)]) (plainFor_of_name pf_java_lang_StringBuilder) rfl (fun K => ?_)
  refine Wp.aloadN rfl rfl d_jdk_67_7_0 ?_
  refine Wp.aloadN rfl rfl d_jdk_67_7_1 ?_
  refine Wp.callU nm_M_ssa (fun _ => rm_asa hw.set q vv as k s b rs rb xb ob zs _ (by omega) (by omega) (by omega)) 0 rfl (mk_M_asa hw) (w_294 hw) (sameM (w_295 hw) (w_127 hw) rfl (by decide)) (w_295 hw) (w_136 hw) (by decide) rfl rfl (Wn := 0) rfl rfl (by decide) d_jdk_67_7_2 ?_
  rintro _ _ ⟨a2_1, rfl, rfl, hf2, hf3⟩
  refine Wp.pop rfl d_jdk_67_7_5 ?_
  refine Wp.aloadN rfl rfl d_jdk_67_7_6 ?_
  refine Wp.aret rfl rfl rfl d_jdk_67_7_7 (by decide) (by decide) ?_
  exact ⟨a2_1, rfl, rfl, hf2, hf3⟩
theorem d_jdk_68_64_0 : Dc jdk_68_method_64_code 0 (.aload_n 0) 1 1 := ⟨by decide +kernel, rfl⟩
theorem d_jdk_68_64_1 : Dc jdk_68_method_64_code 1 (.getfield 15) 3 4 := ⟨by decide +kernel, rfl⟩
theorem d_jdk_68_64_4 : Dc jdk_68_method_64_code 4 (.areturn) 1 5 := ⟨by decide +kernel, rfl⟩
def M_gv : Mt := (⟨"java/lang/AbstractStringBuilder", "getValue", "()[B"⟩, jdk_68_method_64_code, 1, some (.array .byte), ⟨0, 0, 0, 0⟩)
theorem nm_M_gv : mN M_gv = ⟨"java/lang/AbstractStringBuilder", "getValue", "()[B"⟩ := by delta mN M_gv; rfl
set_option maxRecDepth 65536 in
set_option maxHeartbeats 40000000 in
theorem rm_gv {W : Wd} (hw : Ws W) (q : Addr) (vv : Addr) (k : Nat) (F : List En) : Ct W M_gv [.ref q] ((oSB true q (.ref vv) (.int 0) (.int (ix k))) :: F) (fun v H' => v = some (.ref vv) ∧ H' = ((oSB true q (.ref vv) (.int 0) (.int (ix k))) :: F)) := by
  refine Ct.intro (L0 := [.val (.ref q)]) (plainFor_of_name pf_java_lang_AbstractStringBuilder) rfl (fun K => ?_)
  refine Wp.aloadN rfl rfl d_jdk_68_64_0 ?_
  refine Wp.getF nm_M_gv (host := "") (Or.inl (w_108 hw)) Via.refl 0 0 rfl rfl d_jdk_68_64_1 ?_
  refine Wp.aret rfl rfl rfl d_jdk_68_64_4 (by decide) (by decide) ?_
  exact ⟨rfl, rfl⟩
theorem d_jdk_68_6_0 : Dc jdk_68_method_6_code 0 (.aload_n 0) 1 1 := ⟨by decide +kernel, rfl⟩
theorem d_jdk_68_6_1 : Dc jdk_68_method_6_code 1 (.getfield 79) 3 4 := ⟨by decide +kernel, rfl⟩
theorem d_jdk_68_6_4 : Dc jdk_68_method_6_code 4 (.ireturn) 1 5 := ⟨by decide +kernel, rfl⟩
def M_abl : Mt := (⟨"java/lang/AbstractStringBuilder", "length", "()I"⟩, jdk_68_method_6_code, 1, some .int, ⟨0, 0, 0, 0⟩)
theorem nm_M_abl : mN M_abl = ⟨"java/lang/AbstractStringBuilder", "length", "()I"⟩ := by delta mN M_abl; rfl
set_option maxRecDepth 65536 in
set_option maxHeartbeats 40000000 in
theorem rm_abl {W : Wd} (hw : Ws W) (q : Addr) (vv : Addr) (k : Nat) (F : List En) : Ct W M_abl [.ref q] ((oSB true q (.ref vv) (.int 0) (.int (ix k))) :: F) (fun v H' => v = some (.int (ix k)) ∧ H' = ((oSB true q (.ref vv) (.int 0) (.int (ix k))) :: F)) := by
  refine Ct.intro (L0 := [.val (.ref q)]) (plainFor_of_name pf_java_lang_AbstractStringBuilder) rfl (fun K => ?_)
  refine Wp.aloadN rfl rfl d_jdk_68_6_0 ?_
  refine Wp.getF nm_M_abl (host := "") (Or.inl (w_138 hw)) Via.refl 0 2 rfl rfl d_jdk_68_6_1 ?_
  refine Wp.iret rfl d_jdk_68_6_4 (by decide) (by decide) ?_
  exact ⟨rfl, rfl⟩
theorem d_jdk_67_93_0 : Dc jdk_67_method_93_code 0 (.aload_n 0) 1 1 := ⟨by decide +kernel, rfl⟩
theorem d_jdk_67_93_1 : Dc jdk_67_method_93_code 1 (.invokespecial 343) 3 4 := ⟨by decide +kernel, rfl⟩
theorem w_137 {W : Wd} (hw : Ws W) : Wok W (Jvm.Cond.code ({ cls := "java/lang/AbstractStringBuilder", name := "length", desc := "()I" } : Jvm.MethodName) jdk_68_method_6_code (1 : Nat) (Option.some Jvm.ClassFile.FieldType.int)) := hw.1 _ (List.mem_of_getElem? (i := 137) rfl)
theorem mk_M_abl {W : Wd} (hw : Ws W) : Mk W M_abl ⟨"java/lang/AbstractStringBuilder", "length", "()I"⟩ 0 := Mk.of nm_M_abl rfl rfl rfl (w_137 hw) (w_104 hw) (mkLen pd___I rfl) (by decide)
theorem w_135 {W : Wd} (hw : Ws W) : Wok W (Jvm.Cond.methodLink "java/lang/StringBuilder" (343 : Nat) ({ cls := "java/lang/AbstractStringBuilder", name := "length", desc := "()I" } : Jvm.MethodName)) := hw.1 _ (List.mem_of_getElem? (i := 135) rfl)
theorem w_131 {W : Wd} (hw : Ws W) : Wok W (Jvm.Cond.instanceMethod ({ cls := "java/lang/AbstractStringBuilder", name := "length", desc := "()I" } : Jvm.MethodName)) := hw.1 _ (List.mem_of_getElem? (i := 131) rfl)
theorem d_jdk_67_93_4 : Dc jdk_67_method_93_code 4 (.ireturn) 1 5 := ⟨by decide +kernel, rfl⟩
def M_sbl : Mt := (⟨"java/lang/StringBuilder", "length", "()I"⟩, jdk_67_method_93_code, 1, some .int, ⟨1, 0, 0, 12⟩)
theorem nm_M_sbl : mN M_sbl = ⟨"java/lang/StringBuilder", "length", "()I"⟩ := by delta mN M_sbl; rfl
set_option maxRecDepth 65536 in
set_option maxHeartbeats 40000000 in
theorem rm_sbl {W : Wd} (hw : Ws W) (q : Addr) (vv : Addr) (k : Nat) (F : List En) : Ct W M_sbl [.ref q] ((oSB true q (.ref vv) (.int 0) (.int (ix k))) :: F) (fun v H' => v = some (.int (ix k)) ∧ H' = ((oSB true q (.ref vv) (.int 0) (.int (ix k))) :: F)) := by
  refine Ct.intro (L0 := [.val (.ref q)]) (plainFor_of_name pf_java_lang_StringBuilder) rfl (fun K => ?_)
  refine Wp.aloadN rfl rfl d_jdk_67_93_0 ?_
  refine Wp.callU nm_M_sbl (fun _ => rm_abl hw.set q vv k _ ) 0 rfl (mk_M_abl hw) (w_135 hw) (sameM (w_131 hw) (w_127 hw) rfl (by decide)) (w_131 hw) (w_136 hw) (by decide) rfl rfl (Wn := 0) rfl rfl (by decide) d_jdk_67_93_1 ?_
  rintro _ _ ⟨rfl, rfl⟩
  refine Wp.iret rfl d_jdk_67_93_4 (by decide) (by decide) ?_
  exact ⟨rfl, rfl⟩
theorem d_jdk_42_150_0 : Dc jdk_42_method_150_code 0 (.aload_n 0) 1 1 := ⟨by decide +kernel, rfl⟩
theorem d_jdk_42_150_1 : Dc jdk_42_method_150_code 1 (.invokespecial 1) 3 4 := ⟨by decide +kernel, rfl⟩
theorem d_jdk_42_150_4 : Dc jdk_42_method_150_code 4 (.aload_n 1) 1 5 := ⟨by decide +kernel, rfl⟩
theorem d_jdk_42_150_5 : Dc jdk_42_method_150_code 5 (.invokevirtual 552) 3 8 := ⟨by decide +kernel, rfl⟩
theorem w_128 {W : Wd} (hw : Ws W) : Wok W (Jvm.Cond.code ({ cls := "java/lang/AbstractStringBuilder", name := "getValue", desc := "()[B" } : Jvm.MethodName) jdk_68_method_64_code (1 : Nat) (Option.some (Jvm.ClassFile.FieldType.array Jvm.ClassFile.FieldType.byte))) := hw.1 _ (List.mem_of_getElem? (i := 128) rfl)
theorem pd____B : parseMethodDescriptor "()[B" = some ⟨[], some (.array .byte)⟩ := by decide +kernel
theorem mk_M_gv {W : Wd} (hw : Ws W) : Mk W M_gv ⟨"java/lang/AbstractStringBuilder", "getValue", "()[B"⟩ 0 := Mk.of nm_M_gv rfl rfl rfl (w_128 hw) (w_104 hw) (mkLen pd____B rfl) (by decide)
theorem w_124 {W : Wd} (hw : Ws W) : Wok W (Jvm.Cond.methodLink "java/lang/String" (552 : Nat) ({ cls := "java/lang/AbstractStringBuilder", name := "getValue", desc := "()[B" } : Jvm.MethodName)) := hw.1 _ (List.mem_of_getElem? (i := 124) rfl)
theorem w_125 {W : Wd} (hw : Ws W) : Wok W (Jvm.Cond.declares ({ cls := "java/lang/AbstractStringBuilder", name := "getValue", desc := "()[B" } : Jvm.MethodName)) := hw.1 _ (List.mem_of_getElem? (i := 125) rfl)
theorem w_126 {W : Wd} (hw : Ws W) : Wok W (Jvm.Cond.instanceMethod ({ cls := "java/lang/AbstractStringBuilder", name := "getValue", desc := "()[B" } : Jvm.MethodName)) := hw.1 _ (List.mem_of_getElem? (i := 126) rfl)
theorem d_jdk_42_150_8 : Dc jdk_42_method_150_code 8 (.astore_n 3) 1 9 := ⟨by decide +kernel, rfl⟩
theorem d_jdk_42_150_9 : Dc jdk_42_method_150_code 9 (.aload_n 1) 1 10 := ⟨by decide +kernel, rfl⟩
theorem d_jdk_42_150_10 : Dc jdk_42_method_150_code 10 (.invokevirtual 549) 3 13 := ⟨by decide +kernel, rfl⟩
theorem w_132 {W : Wd} (hw : Ws W) : Wok W (Jvm.Cond.selects "java/lang/StringBuilder" ({ cls := "java/lang/AbstractStringBuilder", name := "length", desc := "()I" } : Jvm.MethodName) ({ cls := "java/lang/StringBuilder", name := "length", desc := "()I" } : Jvm.MethodName)) := hw.1 _ (List.mem_of_getElem? (i := 132) rfl)
theorem w_134 {W : Wd} (hw : Ws W) : Wok W (Jvm.Cond.code ({ cls := "java/lang/StringBuilder", name := "length", desc := "()I" } : Jvm.MethodName) jdk_67_method_93_code (1 : Nat) (Option.some Jvm.ClassFile.FieldType.int)) := hw.1 _ (List.mem_of_getElem? (i := 134) rfl)
theorem mk_M_sbl {W : Wd} (hw : Ws W) : Mk W M_sbl ⟨"java/lang/StringBuilder", "length", "()I"⟩ 0 := Mk.of nm_M_sbl rfl rfl rfl (w_134 hw) (w_96 hw) (mkLen pd___I rfl) (by decide)
theorem w_129 {W : Wd} (hw : Ws W) : Wok W (Jvm.Cond.methodLink "java/lang/String" (549 : Nat) ({ cls := "java/lang/AbstractStringBuilder", name := "length", desc := "()I" } : Jvm.MethodName)) := hw.1 _ (List.mem_of_getElem? (i := 129) rfl)
theorem w_130 {W : Wd} (hw : Ws W) : Wok W (Jvm.Cond.declares ({ cls := "java/lang/AbstractStringBuilder", name := "length", desc := "()I" } : Jvm.MethodName)) := hw.1 _ (List.mem_of_getElem? (i := 130) rfl)
theorem w_133 {W : Wd} (hw : Ws W) : Wok W (Jvm.Cond.instanceMethod ({ cls := "java/lang/StringBuilder", name := "length", desc := "()I" } : Jvm.MethodName)) := hw.1 _ (List.mem_of_getElem? (i := 133) rfl)
theorem d_jdk_42_150_13 : Dc jdk_42_method_150_code 13 (.istore 4) 2 15 := ⟨by decide +kernel, rfl⟩
theorem d_jdk_42_150_15 : Dc jdk_42_method_150_code 15 (.aload_n 1) 1 16 := ⟨by decide +kernel, rfl⟩
theorem d_jdk_42_150_16 : Dc jdk_42_method_150_code 16 (.invokevirtual 1047) 3 19 := ⟨by decide +kernel, rfl⟩
theorem w_140 {W : Wd} (hw : Ws W) : Wok W (Jvm.Cond.methodLink "java/lang/String" (1047 : Nat) ({ cls := "java/lang/AbstractStringBuilder", name := "isLatin1", desc := "()Z" } : Jvm.MethodName)) := hw.1 _ (List.mem_of_getElem? (i := 140) rfl)
theorem d_jdk_42_150_19 : Bj jdk_42_method_150_code 19 (.ifCond .eq 22) 22 22 41 := ⟨by decide +kernel, rfl, by decide, rfl⟩
theorem d_jdk_42_150_22 : Dc jdk_42_method_150_code 22 (.aload_n 0) 1 23 := ⟨by decide +kernel, rfl⟩
theorem d_jdk_42_150_23 : Dc jdk_42_method_150_code 23 (.iconst 0) 1 24 := ⟨by decide +kernel, rfl⟩
theorem d_jdk_42_150_24 : Dc jdk_42_method_150_code 24 (.putfield 15) 3 27 := ⟨by decide +kernel, rfl⟩
theorem d_jdk_42_150_27 : Dc jdk_42_method_150_code 27 (.aload_n 0) 1 28 := ⟨by decide +kernel, rfl⟩
theorem d_jdk_42_150_28 : Dc jdk_42_method_150_code 28 (.aload_n 3) 1 29 := ⟨by decide +kernel, rfl⟩
theorem d_jdk_42_150_29 : Dc jdk_42_method_150_code 29 (.iconst 0) 1 30 := ⟨by decide +kernel, rfl⟩
theorem d_jdk_42_150_30 : Dc jdk_42_method_150_code 30 (.iload 4) 2 32 := ⟨by decide +kernel, rfl⟩
theorem d_jdk_42_150_32 : Dc jdk_42_method_150_code 32 (.invokestatic 54) 3 35 := ⟨by decide +kernel, rfl⟩
theorem mk_M_crC {W : Wd} (hw : Ws W) : Mk W M_crC ⟨"java/util/Arrays", "copyOfRange", "([BII)[B"⟩ 3 := Mk.of nm_M_crC rfl rfl rfl (w_148 hw) (w_147 hw) (mkLen pd___BII__B rfl) (by decide)
theorem w_145 {W : Wd} (hw : Ws W) : Wok W (Jvm.Cond.methodLink "java/lang/String" (54 : Nat) ({ cls := "java/util/Arrays", name := "copyOfRange", desc := "([BII)[B" } : Jvm.MethodName)) := hw.1 _ (List.mem_of_getElem? (i := 145) rfl)
theorem d_jdk_42_150_35 : Dc jdk_42_method_150_code 35 (.putfield 9) 3 38 := ⟨by decide +kernel, rfl⟩
theorem d_jdk_42_150_38 : Bj jdk_42_method_150_code 38 (.goto 59) 59 41 97 := ⟨by decide +kernel, rfl, by decide, rfl⟩
theorem d_jdk_42_150_97 : Dc jdk_42_method_150_code 97 (.return_) 1 98 := ⟨by decide +kernel, rfl⟩
theorem pp_3_0_2_1 : [3, 0, 2, 1].isPerm (List.range 4) = true := by decide +kernel
def M_saiF : Mt := (⟨"java/lang/String", "<init>", "(Ljava/lang/AbstractStringBuilder;Ljava/lang/Void;)V"⟩, jdk_42_method_150_code, 5, none, ⟨2, 1, 64, 29⟩)
theorem nm_M_saiF : mN M_saiF = ⟨"java/lang/String", "<init>", "(Ljava/lang/AbstractStringBuilder;Ljava/lang/Void;)V"⟩ := by delta mN M_saiF; rfl
set_option maxRecDepth 65536 in
set_option maxHeartbeats 40000000 in
theorem rm_saiF {W : Wd} (hw : Ws W) (s : Addr) (q : Addr) (vv : Addr) (as : List Nat) (k : Nat) (F : List En) (hk : k = as.length) (ha : as.length ≤ 64) : Ct W M_saiF [.ref s, .ref q, .null] ((oStr true s (.null) (.int 0)) :: (oSB true q (.ref vv) (.int 0) (.int (ix k))) :: (eB vv (zb as)) :: F) (fun v H' => ∃ r, v = none ∧ H' = ((oStr true s (.ref r) (.int 0)) :: (eB r (zb (as.take k))) :: (oSB true q (.ref vv) (.int 0) (.int (ix k))) :: (eB vv (zb as)) :: F)) := by
  refine Ct.intro (L0 := [.val (.ref s), .val (.ref q), .val (.null), .unset, .unset]) (plainFor_of_name pf_java_lang_String) rfl (fun K => ?_)
  refine Wp.aloadN rfl rfl d_jdk_42_150_0 ?_
  refine Wp.initO nm_M_saiF (w_19 hw) (w_20 hw) (w_21 hw) (Wn := 0) rfl rfl (by decide) (by decide) d_jdk_42_150_1 ?_
  refine Wp.aloadN rfl rfl d_jdk_42_150_4 ?_
  refine Wp.perm [1, 0] 2 pp_1_0 (H' := ((oSB true q (.ref vv) (.int 0) (.int (ix k))) :: (oStr true s (.null) (.int 0)) :: (eB vv (zb as)) :: F)) rfl ?_
  refine Wp.callV nm_M_saiF (fun _ => rm_gv hw.set q vv k _ ) 0 rfl (mk_M_gv hw) (w_124 hw) (w_125 hw) (w_127 hw) (w_126 hw) (S' := "") (Or.inl rfl) (by decide) rfl rfl rfl (Wn := 0) rfl rfl (by decide) d_jdk_42_150_5 ?_
  rintro _ _ ⟨rfl, rfl⟩
  refine Wp.astoreN (L' := [.val (.ref s), .val (.ref q), .val (.null), .val (.ref vv), .unset]) rfl rfl d_jdk_42_150_8 ?_
  refine Wp.aloadN rfl rfl d_jdk_42_150_9 ?_
  refine Wp.callV nm_M_saiF (fun _ => rm_sbl hw.set q vv k _ ) 0 rfl (mk_M_sbl hw) (w_129 hw) (w_130 hw) (w_132 hw) (w_133 hw) (S' := "") (Or.inr (Or.inr (Or.inr ⟨_, _, _, (w_127 hw), rfl⟩))) (by decide) rfl rfl rfl (Wn := 0) rfl rfl (by decide) d_jdk_42_150_10 ?_
  rintro _ _ ⟨rfl, rfl⟩
  refine Wp.istore (L' := [.val (.ref s), .val (.ref q), .val (.null), .val (.ref vv), .val (.int (ix k))]) rfl d_jdk_42_150_13 ?_
  refine Wp.aloadN rfl rfl d_jdk_42_150_15 ?_
  refine Wp.callV nm_M_saiF (fun _ => rm_bl1 hw.set q vv k _ ) 0 rfl (mk_M_bl1 hw) (w_140 hw) (w_141 hw) (w_143 hw) (w_142 hw) (S' := "") (Or.inl rfl) (by decide) rfl rfl rfl (Wn := 0) rfl rfl (by decide) d_jdk_42_150_16 ?_
  rintro _ _ ⟨rfl, rfl⟩
  refine Wp.ifF (by decide) d_jdk_42_150_19 ?_
  refine Wp.aloadN rfl rfl d_jdk_42_150_22 ?_
  refine Wp.iconst lc_0 d_jdk_42_150_23 ?_
  refine Wp.putF nm_M_saiF (host := "") (Or.inl (w_29 hw)) Via.refl 1 1 rfl rfl (Or.inr ⟨(w_25 hw), rfl, rfl⟩) (w_10 hw) (ty := .byte) (by decide) rfl rfl d_jdk_42_150_24 (H' := ((oSB true q (.ref vv) (.int 0) (.int (ix k))) :: (oStr true s (.null) (.int 0)) :: (eB vv (zb as)) :: F)) rfl ?_
  refine Wp.aloadN rfl rfl d_jdk_42_150_27 ?_
  refine Wp.aloadN rfl rfl d_jdk_42_150_28 ?_
  refine Wp.iconst lc_0 d_jdk_42_150_29 ?_
  refine Wp.iload rfl d_jdk_42_150_30 ?_
  refine Wp.perm [2, 0, 1] 3 pp_2_0_1 (H' := ((eB vv (zb as)) :: (oSB true q (.ref vv) (.int 0) (.int (ix k))) :: (oStr true s (.null) (.int 0)) :: F)) rfl ?_
  refine Wp.callS nm_M_saiF (fun _ => rm_crC hw.set vv true false as k _ (by omega) (by omega)) (mk_M_crC hw) (w_145 hw) (w_146 hw) rfl rfl (Wn := 1) rfl rfl (by decide) d_jdk_42_150_32 ?_
  rintro _ _ ⟨q_1, rfl, rfl⟩
  refine Wp.putF nm_M_saiF (host := "") (Or.inl (w_28 hw)) Via.refl 3 0 rfl rfl (Or.inr ⟨(w_24 hw), rfl, rfl⟩) (w_10 hw) (ty := (.array .byte)) (by decide) rfl rfl d_jdk_42_150_35 (H' := ((eB q_1 (zb as)) :: (eB vv (zb as)) :: (oSB true q (.ref vv) (.int 0) (.int (ix k))) :: (oStr true s (.ref q_1) (.int 0)) :: F)) rfl ?_
  refine Wp.goto d_jdk_42_150_38 ?_
  refine Wp.perm [3, 0, 2, 1] 4 pp_3_0_2_1 (H' := ((oStr true s (.ref q_1) (.int 0)) :: (eB q_1 (zb as)) :: (oSB true q (.ref vv) (.int 0) (.int (ix k))) :: (eB vv (zb as)) :: F)) rfl ?_
  refine Wp.ret rfl d_jdk_42_150_97 (by decide) (by decide) ?_
  exact ⟨q_1, rfl, by rw [List.take_of_length_le (by omega)]⟩
theorem d_jdk_42_53_0 : Dc jdk_42_method_53_code 0 (.aload_n 0) 1 1 := ⟨by decide +kernel, rfl⟩
theorem d_jdk_42_53_1 : Dc jdk_42_method_53_code 1 (.aload_n 1) 1 2 := ⟨by decide +kernel, rfl⟩
theorem d_jdk_42_53_2 : Dc jdk_42_method_53_code 2 (.aconst_null) 1 3 := ⟨by decide +kernel, rfl⟩
theorem d_jdk_42_53_3 : Dc jdk_42_method_53_code 3 (.invokespecial 489) 3 6 := ⟨by decide +kernel, rfl⟩
theorem w_123 {W : Wd} (hw : Ws W) : Wok W (Jvm.Cond.code ({ cls := "java/lang/String", name := "<init>", desc := "(Ljava/lang/AbstractStringBuilder;Ljava/lang/Void;)V" } : Jvm.MethodName) jdk_42_method_150_code (5 : Nat) (Option.none : Option Jvm.ClassFile.FieldType)) := hw.1 _ (List.mem_of_getElem? (i := 123) rfl)
theorem pd__Ljava_lang_AbstractStringBuilder_Ljava_lang_Void__V : parseMethodDescriptor "(Ljava/lang/AbstractStringBuilder;Ljava/lang/Void;)V" = some ⟨[(.object "java/lang/AbstractStringBuilder"), (.object "java/lang/Void")], none⟩ := by decide +kernel
theorem mk_M_saiF {W : Wd} (hw : Ws W) : Mk W M_saiF ⟨"java/lang/String", "<init>", "(Ljava/lang/AbstractStringBuilder;Ljava/lang/Void;)V"⟩ 2 := Mk.of nm_M_saiF rfl rfl rfl (w_123 hw) (w_11 hw) (mkLen pd__Ljava_lang_AbstractStringBuilder_Ljava_lang_Void__V rfl) (by decide)
theorem w_121 {W : Wd} (hw : Ws W) : Wok W (Jvm.Cond.methodLink "java/lang/String" (489 : Nat) ({ cls := "java/lang/String", name := "<init>", desc := "(Ljava/lang/AbstractStringBuilder;Ljava/lang/Void;)V" } : Jvm.MethodName)) := hw.1 _ (List.mem_of_getElem? (i := 121) rfl)
theorem w_122 {W : Wd} (hw : Ws W) : Wok W (Jvm.Cond.instanceMethod ({ cls := "java/lang/String", name := "<init>", desc := "(Ljava/lang/AbstractStringBuilder;Ljava/lang/Void;)V" } : Jvm.MethodName)) := hw.1 _ (List.mem_of_getElem? (i := 122) rfl)
theorem d_jdk_42_53_6 : Dc jdk_42_method_53_code 6 (.return_) 1 7 := ⟨by decide +kernel, rfl⟩
def M_ssiF : Mt := (⟨"java/lang/String", "<init>", "(Ljava/lang/StringBuilder;)V"⟩, jdk_42_method_53_code, 2, none, ⟨3, 1, 64, 45⟩)
theorem nm_M_ssiF : mN M_ssiF = ⟨"java/lang/String", "<init>", "(Ljava/lang/StringBuilder;)V"⟩ := by delta mN M_ssiF; rfl
set_option maxRecDepth 65536 in
set_option maxHeartbeats 40000000 in
theorem rm_ssiF {W : Wd} (hw : Ws W) (s : Addr) (q : Addr) (vv : Addr) (as : List Nat) (k : Nat) (F : List En) (hk : k = as.length) (ha : as.length ≤ 64) : Ct W M_ssiF [.ref s, .ref q] ((oStr true s (.null) (.int 0)) :: (oSB true q (.ref vv) (.int 0) (.int (ix k))) :: (eB vv (zb as)) :: F) (fun v H' => ∃ r, v = none ∧ H' = ((oStr true s (.ref r) (.int 0)) :: (eB r (zb (as.take k))) :: (oSB true q (.ref vv) (.int 0) (.int (ix k))) :: (eB vv (zb as)) :: F)) := by
  refine Ct.intro (L0 := [.val (.ref s), .val (.ref q)]) (plainFor_of_name pf_java_lang_String) rfl (fun K => ?_)
  refine Wp.aloadN rfl rfl d_jdk_42_53_0 ?_
  refine Wp.aloadN rfl rfl d_jdk_42_53_1 ?_
  refine Wp.aconstNull d_jdk_42_53_2 ?_
  refine Wp.callC nm_M_ssiF (fun _ => rm_saiF hw.set s q vv as k _ (by omega) (by omega)) (mk_M_saiF hw) (w_121 hw) (w_122 hw) rfl rfl rfl rfl (Wn := 0) rfl rfl (by decide) d_jdk_42_53_3 ?_
  rintro _ _ ⟨r_1, rfl, rfl⟩
  refine Wp.ret rfl d_jdk_42_53_6 (by decide) (by decide) ?_
  exact ⟨r_1, rfl, rfl⟩
theorem d_jdk_67_42_0 : Dc jdk_67_method_42_code 0 (.new 18) 3 3 := ⟨by decide +kernel, rfl⟩
theorem w_117 {W : Wd} (hw : Ws W) : Wok W (Jvm.Cond.classLink "java/lang/StringBuilder" (18 : Nat) "java/lang/String") := hw.1 _ (List.mem_of_getElem? (i := 117) rfl)
theorem d_jdk_67_42_3 : Dc jdk_67_method_42_code 3 (.dup) 1 4 := ⟨by decide +kernel, rfl⟩
theorem d_jdk_67_42_4 : Dc jdk_67_method_42_code 4 (.aload_n 0) 1 5 := ⟨by decide +kernel, rfl⟩
theorem d_jdk_67_42_5 : Dc jdk_67_method_42_code 5 (.invokespecial 137) 3 8 := ⟨by decide +kernel, rfl⟩
theorem w_120 {W : Wd} (hw : Ws W) : Wok W (Jvm.Cond.code ({ cls := "java/lang/String", name := "<init>", desc := "(Ljava/lang/StringBuilder;)V" } : Jvm.MethodName) jdk_42_method_53_code (2 : Nat) (Option.none : Option Jvm.ClassFile.FieldType)) := hw.1 _ (List.mem_of_getElem? (i := 120) rfl)
theorem pd__Ljava_lang_StringBuilder__V : parseMethodDescriptor "(Ljava/lang/StringBuilder;)V" = some ⟨[(.object "java/lang/StringBuilder")], none⟩ := by decide +kernel
theorem mk_M_ssiF {W : Wd} (hw : Ws W) : Mk W M_ssiF ⟨"java/lang/String", "<init>", "(Ljava/lang/StringBuilder;)V"⟩ 1 := Mk.of nm_M_ssiF rfl rfl rfl (w_120 hw) (w_11 hw) (mkLen pd__Ljava_lang_StringBuilder__V rfl) (by decide)
theorem w_118 {W : Wd} (hw : Ws W) : Wok W (Jvm.Cond.methodLink "java/lang/StringBuilder" (137 : Nat) ({ cls := "java/lang/String", name := "<init>", desc := "(Ljava/lang/StringBuilder;)V" } : Jvm.MethodName)) := hw.1 _ (List.mem_of_getElem? (i := 118) rfl)
theorem w_119 {W : Wd} (hw : Ws W) : Wok W (Jvm.Cond.instanceMethod ({ cls := "java/lang/String", name := "<init>", desc := "(Ljava/lang/StringBuilder;)V" } : Jvm.MethodName)) := hw.1 _ (List.mem_of_getElem? (i := 119) rfl)
theorem d_jdk_67_42_8 : Dc jdk_67_method_42_code 8 (.areturn) 1 9 := ⟨by decide +kernel, rfl⟩
def M_tosF : Mt := (⟨"java/lang/StringBuilder", "toString", "()Ljava/lang/String;"⟩, jdk_67_method_42_code, 1, some (.object "java/lang/String"), ⟨4, 2, 68, 59⟩)
theorem nm_M_tosF : mN M_tosF = ⟨"java/lang/StringBuilder", "toString", "()Ljava/lang/String;"⟩ := by delta mN M_tosF; rfl
set_option maxRecDepth 65536 in
set_option maxHeartbeats 40000000 in
theorem rm_tosF {W : Wd} (hw : Ws W) (q : Addr) (vv : Addr) (as : List Nat) (k : Nat) (F : List En) (hk : k = as.length) (ha : as.length ≤ 64) : Ct W M_tosF [.ref q] ((oSB true q (.ref vv) (.int 0) (.int (ix k))) :: (eB vv (zb as)) :: F) (fun v H' => ∃ s r, v = some (.ref s) ∧ H' = ((oStr true s (.ref r) (.int 0)) :: (eB r (zb (as.take k))) :: (oSB true q (.ref vv) (.int 0) (.int (ix k))) :: (eB vv (zb as)) :: F)) := by
  refine Ct.intro (L0 := [.val (.ref q)]) (plainFor_of_name pf_java_lang_StringBuilder) rfl (fun K => ?_)
  refine Wp.newO nm_M_tosF (w_117 hw) (w_10 hw) (w_11 hw) (nf_oStr hw) (by decide) (by decide) d_jdk_67_42_0 (fun a1 => ?_)
  refine Wp.dup rfl d_jdk_67_42_3 ?_
  refine Wp.aloadN rfl rfl d_jdk_67_42_4 ?_
  refine Wp.callC nm_M_tosF (fun _ => rm_ssiF hw.set a1 q vv as k _ (by omega) (by omega)) (mk_M_ssiF hw) (w_118 hw) (w_119 hw) rfl rfl rfl rfl (Wn := 1) rfl rfl (by decide) d_jdk_67_42_5 ?_
  rintro _ _ ⟨r_2, rfl, rfl⟩
  refine Wp.aret rfl rfl rfl d_jdk_67_42_8 (by decide) (by decide) ?_
  exact ⟨a1, r_2, rfl, rfl⟩
def M_saiP : Mt := (⟨"java/lang/String", "<init>", "(Ljava/lang/AbstractStringBuilder;Ljava/lang/Void;)V"⟩, jdk_42_method_150_code, 5, none, ⟨3, 1, 64, 49⟩)
theorem nm_M_saiP : mN M_saiP = ⟨"java/lang/String", "<init>", "(Ljava/lang/AbstractStringBuilder;Ljava/lang/Void;)V"⟩ := by delta mN M_saiP; rfl
set_option maxRecDepth 65536 in
set_option maxHeartbeats 40000000 in
theorem rm_saiP {W : Wd} (hw : Ws W) (s : Addr) (q : Addr) (vv : Addr) (as : List Nat) (k : Nat) (F : List En) (hk : k < as.length) (ha : as.length ≤ 64) : Ct W M_saiP [.ref s, .ref q, .null] ((oStr true s (.null) (.int 0)) :: (oSB true q (.ref vv) (.int 0) (.int (ix k))) :: (eB vv (zb as)) :: F) (fun v H' => ∃ r, v = none ∧ H' = ((oStr true s (.ref r) (.int 0)) :: (eB r (zb (as.take k))) :: (oSB true q (.ref vv) (.int 0) (.int (ix k))) :: (eB vv (zb as)) :: F)) := by
  refine Ct.intro (L0 := [.val (.ref s), .val (.ref q), .val (.null), .unset, .unset]) (plainFor_of_name pf_java_lang_String) rfl (fun K => ?_)
  refine Wp.aloadN rfl rfl d_jdk_42_150_0 ?_
  refine Wp.initO nm_M_saiP (w_19 hw) (w_20 hw) (w_21 hw) (Wn := 0) rfl rfl (by decide) (by decide) d_jdk_42_150_1 ?_
  refine Wp.aloadN rfl rfl d_jdk_42_150_4 ?_
  refine Wp.perm [1, 0] 2 pp_1_0 (H' := ((oSB true q (.ref vv) (.int 0) (.int (ix k))) :: (oStr true s (.null) (.int 0)) :: (eB vv (zb as)) :: F)) rfl ?_
  refine Wp.callV nm_M_saiP (fun _ => rm_gv hw.set q vv k _ ) 0 rfl (mk_M_gv hw) (w_124 hw) (w_125 hw) (w_127 hw) (w_126 hw) (S' := "") (Or.inl rfl) (by decide) rfl rfl rfl (Wn := 0) rfl rfl (by decide) d_jdk_42_150_5 ?_
  rintro _ _ ⟨rfl, rfl⟩
  refine Wp.astoreN (L' := [.val (.ref s), .val (.ref q), .val (.null), .val (.ref vv), .unset]) rfl rfl d_jdk_42_150_8 ?_
  refine Wp.aloadN rfl rfl d_jdk_42_150_9 ?_
  refine Wp.callV nm_M_saiP (fun _ => rm_sbl hw.set q vv k _ ) 0 rfl (mk_M_sbl hw) (w_129 hw) (w_130 hw) (w_132 hw) (w_133 hw) (S' := "") (Or.inr (Or.inr (Or.inr ⟨_, _, _, (w_127 hw), rfl⟩))) (by decide) rfl rfl rfl (Wn := 0) rfl rfl (by decide) d_jdk_42_150_10 ?_
  rintro _ _ ⟨rfl, rfl⟩
  refine Wp.istore (L' := [.val (.ref s), .val (.ref q), .val (.null), .val (.ref vv), .val (.int (ix k))]) rfl d_jdk_42_150_13 ?_
  refine Wp.aloadN rfl rfl d_jdk_42_150_15 ?_
  refine Wp.callV nm_M_saiP (fun _ => rm_bl1 hw.set q vv k _ ) 0 rfl (mk_M_bl1 hw) (w_140 hw) (w_141 hw) (w_143 hw) (w_142 hw) (S' := "") (Or.inl rfl) (by decide) rfl rfl rfl (Wn := 0) rfl rfl (by decide) d_jdk_42_150_16 ?_
  rintro _ _ ⟨rfl, rfl⟩
  refine Wp.ifF (by decide) d_jdk_42_150_19 ?_
  refine Wp.aloadN rfl rfl d_jdk_42_150_22 ?_
  refine Wp.iconst lc_0 d_jdk_42_150_23 ?_
  refine Wp.putF nm_M_saiP (host := "") (Or.inl (w_29 hw)) Via.refl 1 1 rfl rfl (Or.inr ⟨(w_25 hw), rfl, rfl⟩) (w_10 hw) (ty := .byte) (by decide) rfl rfl d_jdk_42_150_24 (H' := ((oSB true q (.ref vv) (.int 0) (.int (ix k))) :: (oStr true s (.null) (.int 0)) :: (eB vv (zb as)) :: F)) rfl ?_
  refine Wp.aloadN rfl rfl d_jdk_42_150_27 ?_
  refine Wp.aloadN rfl rfl d_jdk_42_150_28 ?_
  refine Wp.iconst lc_0 d_jdk_42_150_29 ?_
  refine Wp.iload rfl d_jdk_42_150_30 ?_
  refine Wp.perm [2, 0, 1] 3 pp_2_0_1 (H' := ((eB vv (zb as)) :: (oSB true q (.ref vv) (.int 0) (.int (ix k))) :: (oStr true s (.null) (.int 0)) :: F)) rfl ?_
  refine Wp.callS nm_M_saiP (fun _ => rm_crB hw.set vv true true false as k _ (by omega) (by omega)) (mk_M_crB hw) (w_145 hw) (w_146 hw) rfl rfl (Wn := 1) rfl rfl (by decide) d_jdk_42_150_32 ?_
  rintro _ _ ⟨q_1, rfl, rfl⟩
  refine Wp.putF nm_M_saiP (host := "") (Or.inl (w_28 hw)) Via.refl 3 0 rfl rfl (Or.inr ⟨(w_24 hw), rfl, rfl⟩) (w_10 hw) (ty := (.array .byte)) (by decide) rfl rfl d_jdk_42_150_35 (H' := ((eB q_1 (zb ((as.drop 0).take (k - 0)))) :: (eB vv (zb as)) :: (oSB true q (.ref vv) (.int 0) (.int (ix k))) :: (oStr true s (.ref q_1) (.int 0)) :: F)) rfl ?_
  refine Wp.goto d_jdk_42_150_38 ?_
  refine Wp.perm [3, 0, 2, 1] 4 pp_3_0_2_1 (H' := ((oStr true s (.ref q_1) (.int 0)) :: (eB q_1 (zb ((as.drop 0).take (k - 0)))) :: (oSB true q (.ref vv) (.int 0) (.int (ix k))) :: (eB vv (zb as)) :: F)) rfl ?_
  refine Wp.ret rfl d_jdk_42_150_97 (by decide) (by decide) ?_
  exact ⟨q_1, rfl, rfl⟩
theorem mk_M_saiP {W : Wd} (hw : Ws W) : Mk W M_saiP ⟨"java/lang/String", "<init>", "(Ljava/lang/AbstractStringBuilder;Ljava/lang/Void;)V"⟩ 2 := Mk.of nm_M_saiP rfl rfl rfl (w_123 hw) (w_11 hw) (mkLen pd__Ljava_lang_AbstractStringBuilder_Ljava_lang_Void__V rfl) (by decide)
def M_ssiP : Mt := (⟨"java/lang/String", "<init>", "(Ljava/lang/StringBuilder;)V"⟩, jdk_42_method_53_code, 2, none, ⟨4, 1, 64, 65⟩)
theorem nm_M_ssiP : mN M_ssiP = ⟨"java/lang/String", "<init>", "(Ljava/lang/StringBuilder;)V"⟩ := by delta mN M_ssiP; rfl
set_option maxRecDepth 65536 in
set_option maxHeartbeats 40000000 in
theorem rm_ssiP {W : Wd} (hw : Ws W) (s : Addr) (q : Addr) (vv : Addr) (as : List Nat) (k : Nat) (F : List En) (hk : k < as.length) (ha : as.length ≤ 64) : Ct W M_ssiP [.ref s, .ref q] ((oStr true s (.null) (.int 0)) :: (oSB true q (.ref vv) (.int 0) (.int (ix k))) :: (eB vv (zb as)) :: F) (fun v H' => ∃ r, v = none ∧ H' = ((oStr true s (.ref r) (.int 0)) :: (eB r (zb (as.take k))) :: (oSB true q (.ref vv) (.int 0) (.int (ix k))) :: (eB vv (zb as)) :: F)) := by
  refine Ct.intro (L0 := [.val (.ref s), .val (.ref q)]) (plainFor_of_name pf_java_lang_String) rfl (fun K => ?_)
  refine Wp.aloadN rfl rfl d_jdk_42_53_0 ?_
  refine Wp.aloadN rfl rfl d_jdk_42_53_1 ?_
  refine Wp.aconstNull d_jdk_42_53_2 ?_
  refine Wp.callC nm_M_ssiP (fun _ => rm_saiP hw.set s q vv as k _ (by omega) (by omega)) (mk_M_saiP hw) (w_121 hw) (w_122 hw) rfl rfl rfl rfl (Wn := 0) rfl rfl (by decide) d_jdk_42_53_3 ?_
  rintro _ _ ⟨r_1, rfl, rfl⟩
  refine Wp.ret rfl d_jdk_42_53_6 (by decide) (by decide) ?_
  exact ⟨r_1, rfl, rfl⟩
theorem mk_M_ssiP {W : Wd} (hw : Ws W) : Mk W M_ssiP ⟨"java/lang/String", "<init>", "(Ljava/lang/StringBuilder;)V"⟩ 1 := Mk.of nm_M_ssiP rfl rfl rfl (w_120 hw) (w_11 hw) (mkLen pd__Ljava_lang_StringBuilder__V rfl) (by decide)
def M_tosP : Mt := (⟨"java/lang/StringBuilder", "toString", "()Ljava/lang/String;"⟩, jdk_67_method_42_code, 1, some (.object "java/lang/String"), ⟨5, 2, 68, 79⟩)
theorem nm_M_tosP : mN M_tosP = ⟨"java/lang/StringBuilder", "toString", "()Ljava/lang/String;"⟩ := by delta mN M_tosP; rfl
set_option maxRecDepth 65536 in
set_option maxHeartbeats 40000000 in
theorem rm_tosP {W : Wd} (hw : Ws W) (q : Addr) (vv : Addr) (as : List Nat) (k : Nat) (F : List En) (hk : k < as.length) (ha : as.length ≤ 64) : Ct W M_tosP [.ref q] ((oSB true q (.ref vv) (.int 0) (.int (ix k))) :: (eB vv (zb as)) :: F) (fun v H' => ∃ s r, v = some (.ref s) ∧ H' = ((oStr true s (.ref r) (.int 0)) :: (eB r (zb (as.take k))) :: (oSB true q (.ref vv) (.int 0) (.int (ix k))) :: (eB vv (zb as)) :: F)) := by
  refine Ct.intro (L0 := [.val (.ref q)]) (plainFor_of_name pf_java_lang_StringBuilder) rfl (fun K => ?_)
  refine Wp.newO nm_M_tosP (w_117 hw) (w_10 hw) (w_11 hw) (nf_oStr hw) (by decide) (by decide) d_jdk_67_42_0 (fun a1 => ?_)
  refine Wp.dup rfl d_jdk_67_42_3 ?_
  refine Wp.aloadN rfl rfl d_jdk_67_42_4 ?_
  refine Wp.callC nm_M_tosP (fun _ => rm_ssiP hw.set a1 q vv as k _ (by omega) (by omega)) (mk_M_ssiP hw) (w_118 hw) (w_119 hw) rfl rfl rfl rfl (Wn := 1) rfl rfl (by decide) d_jdk_67_42_5 ?_
  rintro _ _ ⟨r_2, rfl, rfl⟩
  refine Wp.aret rfl rfl rfl d_jdk_67_42_8 (by decide) (by decide) ?_
  exact ⟨a1, r_2, rfl, rfl⟩
theorem d_prog_5_3_29 : Dc prog_5_method_3_code 29 (.iload 6) 2 31 := ⟨by decide +kernel, rfl⟩
theorem d_prog_5_3_31 : Dc prog_5_method_3_code 31 (.iload_n 3) 1 32 := ⟨by decide +kernel, rfl⟩
theorem d_prog_5_3_32 : Bj prog_5_method_3_code 32 (.if_icmp .ge 66) 66 35 98 := ⟨by decide +kernel, rfl, by decide, rfl⟩
theorem d_prog_5_3_35 : Dc prog_5_method_3_code 35 (.aload_n 0) 1 36 := ⟨by decide +kernel, rfl⟩
theorem d_prog_5_3_36 : Dc prog_5_method_3_code 36 (.iload 5) 2 38 := ⟨by decide +kernel, rfl⟩
theorem d_prog_5_3_38 : Dc prog_5_method_3_code 38 (.invokevirtual 55) 3 41 := ⟨by decide +kernel, rfl⟩
theorem w_191 {W : Wd} (hw : Ws W) : Wok W (Jvm.Cond.selects "java/lang/String" ({ cls := "java/lang/String", name := "codePointAt", desc := "(I)I" } : Jvm.MethodName) ({ cls := "java/lang/String", name := "codePointAt", desc := "(I)I" } : Jvm.MethodName)) := hw.1 _ (List.mem_of_getElem? (i := 191) rfl)
theorem w_192 {W : Wd} (hw : Ws W) : Wok W (Jvm.Cond.code ({ cls := "java/lang/String", name := "codePointAt", desc := "(I)I" } : Jvm.MethodName) jdk_42_method_57_code (3 : Nat) (Option.some Jvm.ClassFile.FieldType.int)) := hw.1 _ (List.mem_of_getElem? (i := 192) rfl)
theorem pd__I_I : parseMethodDescriptor "(I)I" = some ⟨[.int], some .int⟩ := by decide +kernel
theorem mk_M_cpa {W : Wd} (hw : Ws W) : Mk W M_cpa ⟨"java/lang/String", "codePointAt", "(I)I"⟩ 1 := Mk.of nm_M_cpa rfl rfl rfl (w_192 hw) (w_11 hw) (mkLen pd__I_I rfl) (by decide)
theorem w_188 {W : Wd} (hw : Ws W) : Wok W (Jvm.Cond.methodLink "com/example/polje/polje/Obfuscators" (55 : Nat) ({ cls := "java/lang/String", name := "codePointAt", desc := "(I)I" } : Jvm.MethodName)) := hw.1 _ (List.mem_of_getElem? (i := 188) rfl)
theorem w_189 {W : Wd} (hw : Ws W) : Wok W (Jvm.Cond.declares ({ cls := "java/lang/String", name := "codePointAt", desc := "(I)I" } : Jvm.MethodName)) := hw.1 _ (List.mem_of_getElem? (i := 189) rfl)
theorem w_190 {W : Wd} (hw : Ws W) : Wok W (Jvm.Cond.instanceMethod ({ cls := "java/lang/String", name := "codePointAt", desc := "(I)I" } : Jvm.MethodName)) := hw.1 _ (List.mem_of_getElem? (i := 190) rfl)
theorem d_prog_5_3_41 : Dc prog_5_method_3_code 41 (.istore 7) 2 43 := ⟨by decide +kernel, rfl⟩
theorem d_prog_5_3_43 : Dc prog_5_method_3_code 43 (.iload 6) 2 45 := ⟨by decide +kernel, rfl⟩
theorem d_prog_5_3_45 : Dc prog_5_method_3_code 45 (.iload_n 1) 1 46 := ⟨by decide +kernel, rfl⟩
theorem d_prog_5_3_46 : Bj prog_5_method_3_code 46 (.if_icmp .lt 11) 11 49 57 := ⟨by decide +kernel, rfl, by decide, rfl⟩
theorem d_prog_5_3_49 : Dc prog_5_method_3_code 49 (.iload 6) 2 51 := ⟨by decide +kernel, rfl⟩
theorem d_prog_5_3_51 : Dc prog_5_method_3_code 51 (.iload_n 3) 1 52 := ⟨by decide +kernel, rfl⟩
theorem d_prog_5_3_52 : Dc prog_5_method_3_code 52 (.iload_n 2) 1 53 := ⟨by decide +kernel, rfl⟩
theorem d_prog_5_3_53 : Dc prog_5_method_3_code 53 (.isub) 1 54 := ⟨by decide +kernel, rfl⟩
theorem d_prog_5_3_54 : Bj prog_5_method_3_code 54 (.if_icmp .lt 7) 7 57 61 := ⟨by decide +kernel, rfl, by decide, rfl⟩
theorem d_prog_5_3_61 : Dc prog_5_method_3_code 61 (.iconst 0) 1 62 := ⟨by decide +kernel, rfl⟩
theorem d_prog_5_3_62 : Dc prog_5_method_3_code 62 (.istore 8) 2 64 := ⟨by decide +kernel, rfl⟩
theorem d_prog_5_3_64 : Dc prog_5_method_3_code 64 (.aload 4) 2 66 := ⟨by decide +kernel, rfl⟩
theorem d_prog_5_3_66 : Dc prog_5_method_3_code 66 (.iload 8) 2 68 := ⟨by decide +kernel, rfl⟩
theorem d_prog_5_3_68 : Bj prog_5_method_3_code 68 (.ifCond .eq 8) 8 71 76 := ⟨by decide +kernel, rfl, by decide, rfl⟩
theorem d_prog_5_3_76 : Dc prog_5_method_3_code 76 (.bipush 42) 2 78 := ⟨by decide +kernel, rfl⟩
theorem lb_42 : (Int8.ofInt 42).toInt32 = 42 := by decide
theorem d_prog_5_3_78 : Dc prog_5_method_3_code 78 (.invokevirtual 58) 3 81 := ⟨by decide +kernel, rfl⟩
theorem w_203 {W : Wd} (hw : Ws W) : Wok W (Jvm.Cond.selects "java/lang/StringBuilder" ({ cls := "java/lang/StringBuilder", name := "appendCodePoint", desc := "(I)Ljava/lang/StringBuilder;" } : Jvm.MethodName) ({ cls := "java/lang/StringBuilder", name := "appendCodePoint", desc := "(I)Ljava/lang/StringBuilder;" } : Jvm.MethodName)) := hw.1 _ (List.mem_of_getElem? (i := 203) rfl)
theorem w_204 {W : Wd} (hw : Ws W) : Wok W (Jvm.Cond.code ({ cls := "java/lang/StringBuilder", name := "appendCodePoint", desc := "(I)Ljava/lang/StringBuilder;" } : Jvm.MethodName) jdk_67_method_19_code (2 : Nat) (Option.some (Jvm.ClassFile.FieldType.object "java/lang/StringBuilder"))) := hw.1 _ (List.mem_of_getElem? (i := 204) rfl)
theorem pd__I_Ljava_lang_StringBuilder_ : parseMethodDescriptor "(I)Ljava/lang/StringBuilder;" = some ⟨[.int], some (.object "java/lang/StringBuilder")⟩ := by decide +kernel
theorem mk_M_scp {W : Wd} (hw : Ws W) : Mk W M_scp ⟨"java/lang/StringBuilder", "appendCodePoint", "(I)Ljava/lang/StringBuilder;"⟩ 1 := Mk.of nm_M_scp rfl rfl rfl (w_204 hw) (w_96 hw) (mkLen pd__I_Ljava_lang_StringBuilder_ rfl) (by decide)
theorem w_200 {W : Wd} (hw : Ws W) : Wok W (Jvm.Cond.methodLink "com/example/polje/polje/Obfuscators" (58 : Nat) ({ cls := "java/lang/StringBuilder", name := "appendCodePoint", desc := "(I)Ljava/lang/StringBuilder;" } : Jvm.MethodName)) := hw.1 _ (List.mem_of_getElem? (i := 200) rfl)
theorem w_201 {W : Wd} (hw : Ws W) : Wok W (Jvm.Cond.declares ({ cls := "java/lang/StringBuilder", name := "appendCodePoint", desc := "(I)Ljava/lang/StringBuilder;" } : Jvm.MethodName)) := hw.1 _ (List.mem_of_getElem? (i := 201) rfl)
theorem w_202 {W : Wd} (hw : Ws W) : Wok W (Jvm.Cond.instanceMethod ({ cls := "java/lang/StringBuilder", name := "appendCodePoint", desc := "(I)Ljava/lang/StringBuilder;" } : Jvm.MethodName)) := hw.1 _ (List.mem_of_getElem? (i := 202) rfl)
theorem d_prog_5_3_81 : Dc prog_5_method_3_code 81 (.pop) 1 82 := ⟨by decide +kernel, rfl⟩
theorem d_prog_5_3_82 : Dc prog_5_method_3_code 82 (.iload 5) 2 84 := ⟨by decide +kernel, rfl⟩
theorem d_prog_5_3_84 : Dc prog_5_method_3_code 84 (.iload 7) 2 86 := ⟨by decide +kernel, rfl⟩
theorem d_prog_5_3_86 : Dc prog_5_method_3_code 86 (.invokestatic 62) 3 89 := ⟨by decide +kernel, rfl⟩
theorem w_237 {W : Wd} (hw : Ws W) : Wok W (Jvm.Cond.code ({ cls := "java/lang/Character", name := "charCount", desc := "(I)I" } : Jvm.MethodName) jdk_89_method_18_code (1 : Nat) (Option.some Jvm.ClassFile.FieldType.int)) := hw.1 _ (List.mem_of_getElem? (i := 237) rfl)
theorem mk_M_chc {W : Wd} (hw : Ws W) : Mk W M_chc ⟨"java/lang/Character", "charCount", "(I)I"⟩ 1 := Mk.of nm_M_chc rfl rfl rfl (w_237 hw) (w_211 hw) (mkLen pd__I_I rfl) (by decide)
theorem w_235 {W : Wd} (hw : Ws W) : Wok W (Jvm.Cond.methodLink "com/example/polje/polje/Obfuscators" (62 : Nat) ({ cls := "java/lang/Character", name := "charCount", desc := "(I)I" } : Jvm.MethodName)) := hw.1 _ (List.mem_of_getElem? (i := 235) rfl)
theorem w_236 {W : Wd} (hw : Ws W) : Wok W (Jvm.Cond.static ({ cls := "java/lang/Character", name := "charCount", desc := "(I)I" } : Jvm.MethodName)) := hw.1 _ (List.mem_of_getElem? (i := 236) rfl)
theorem d_prog_5_3_89 : Dc prog_5_method_3_code 89 (.iadd) 1 90 := ⟨by decide +kernel, rfl⟩
theorem d_prog_5_3_90 : Dc prog_5_method_3_code 90 (.istore 5) 2 92 := ⟨by decide +kernel, rfl⟩
theorem d_prog_5_3_92 : Dc prog_5_method_3_code 92 (.iinc 6 1) 3 95 := ⟨by decide +kernel, rfl⟩
theorem d_prog_5_3_95 : Bj prog_5_method_3_code 95 (.goto (-66)) (-66) 98 29 := ⟨by decide +kernel, rfl, by decide, rfl⟩
theorem d_prog_5_3_57 : Dc prog_5_method_3_code 57 (.iconst 1) 1 58 := ⟨by decide +kernel, rfl⟩
theorem d_prog_5_3_58 : Bj prog_5_method_3_code 58 (.goto 4) 4 61 62 := ⟨by decide +kernel, rfl, by decide, rfl⟩
theorem d_prog_5_3_71 : Dc prog_5_method_3_code 71 (.iload 7) 2 73 := ⟨by decide +kernel, rfl⟩
theorem d_prog_5_3_73 : Bj prog_5_method_3_code 73 (.goto 5) 5 76 78 := ⟨by decide +kernel, rfl, by decide, rfl⟩
theorem d_prog_5_3_98 : Dc prog_5_method_3_code 98 (.aload 4) 2 100 := ⟨by decide +kernel, rfl⟩
theorem d_prog_5_3_100 : Dc prog_5_method_3_code 100 (.invokevirtual 44) 3 103 := ⟨by decide +kernel, rfl⟩
theorem w_115 {W : Wd} (hw : Ws W) : Wok W (Jvm.Cond.selects "java/lang/StringBuilder" ({ cls := "java/lang/StringBuilder", name := "toString", desc := "()Ljava/lang/String;" } : Jvm.MethodName) ({ cls := "java/lang/StringBuilder", name := "toString", desc := "()Ljava/lang/String;" } : Jvm.MethodName)) := hw.1 _ (List.mem_of_getElem? (i := 115) rfl)
theorem w_116 {W : Wd} (hw : Ws W) : Wok W (Jvm.Cond.code ({ cls := "java/lang/StringBuilder", name := "toString", desc := "()Ljava/lang/String;" } : Jvm.MethodName) jdk_67_method_42_code (1 : Nat) (Option.some (Jvm.ClassFile.FieldType.object "java/lang/String"))) := hw.1 _ (List.mem_of_getElem? (i := 116) rfl)
theorem pd___Ljava_lang_String_ : parseMethodDescriptor "()Ljava/lang/String;" = some ⟨[], some (.object "java/lang/String")⟩ := by decide +kernel
theorem mk_M_tosF {W : Wd} (hw : Ws W) : Mk W M_tosF ⟨"java/lang/StringBuilder", "toString", "()Ljava/lang/String;"⟩ 0 := Mk.of nm_M_tosF rfl rfl rfl (w_116 hw) (w_96 hw) (mkLen pd___Ljava_lang_String_ rfl) (by decide)
theorem w_112 {W : Wd} (hw : Ws W) : Wok W (Jvm.Cond.methodLink "com/example/polje/polje/Obfuscators" (44 : Nat) ({ cls := "java/lang/StringBuilder", name := "toString", desc := "()Ljava/lang/String;" } : Jvm.MethodName)) := hw.1 _ (List.mem_of_getElem? (i := 112) rfl)
theorem w_113 {W : Wd} (hw : Ws W) : Wok W (Jvm.Cond.declares ({ cls := "java/lang/StringBuilder", name := "toString", desc := "()Ljava/lang/String;" } : Jvm.MethodName)) := hw.1 _ (List.mem_of_getElem? (i := 113) rfl)
theorem w_114 {W : Wd} (hw : Ws W) : Wok W (Jvm.Cond.instanceMethod ({ cls := "java/lang/StringBuilder", name := "toString", desc := "()Ljava/lang/String;" } : Jvm.MethodName)) := hw.1 _ (List.mem_of_getElem? (i := 114) rfl)
theorem d_prog_5_3_103 : Dc prog_5_method_3_code 103 (.areturn) 1 104 := ⟨by decide +kernel, rfl⟩
theorem pp_0_1_4_5_2_3 : [0, 1, 4, 5, 2, 3].isPerm (List.range 6) = true := by decide +kernel
theorem d_prog_5_3_0 : Dc prog_5_method_3_code 0 (.aload_n 0) 1 1 := ⟨by decide +kernel, rfl⟩
theorem d_prog_5_3_1 : Dc prog_5_method_3_code 1 (.iconst 0) 1 2 := ⟨by decide +kernel, rfl⟩
theorem d_prog_5_3_2 : Dc prog_5_method_3_code 2 (.aload_n 0) 1 3 := ⟨by decide +kernel, rfl⟩
theorem d_prog_5_3_3 : Dc prog_5_method_3_code 3 (.invokevirtual 16) 3 6 := ⟨by decide +kernel, rfl⟩
theorem w_80 {W : Wd} (hw : Ws W) : Wok W (Jvm.Cond.methodLink "com/example/polje/polje/Obfuscators" (16 : Nat) ({ cls := "java/lang/String", name := "length", desc := "()I" } : Jvm.MethodName)) := hw.1 _ (List.mem_of_getElem? (i := 80) rfl)
theorem d_prog_5_3_6 : Dc prog_5_method_3_code 6 (.invokevirtual 48) 3 9 := ⟨by decide +kernel, rfl⟩
theorem w_84 {W : Wd} (hw : Ws W) : Wok W (Jvm.Cond.selects "java/lang/String" ({ cls := "java/lang/String", name := "codePointCount", desc := "(II)I" } : Jvm.MethodName) ({ cls := "java/lang/String", name := "codePointCount", desc := "(II)I" } : Jvm.MethodName)) := hw.1 _ (List.mem_of_getElem? (i := 84) rfl)
theorem w_85 {W : Wd} (hw : Ws W) : Wok W (Jvm.Cond.code ({ cls := "java/lang/String", name := "codePointCount", desc := "(II)I" } : Jvm.MethodName) jdk_42_method_59_code (3 : Nat) (Option.some Jvm.ClassFile.FieldType.int)) := hw.1 _ (List.mem_of_getElem? (i := 85) rfl)
theorem mk_M_cpc {W : Wd} (hw : Ws W) : Mk W M_cpc ⟨"java/lang/String", "codePointCount", "(II)I"⟩ 2 := Mk.of nm_M_cpc rfl rfl rfl (w_85 hw) (w_11 hw) (mkLen pd__II_I rfl) (by decide)
theorem w_81 {W : Wd} (hw : Ws W) : Wok W (Jvm.Cond.methodLink "com/example/polje/polje/Obfuscators" (48 : Nat) ({ cls := "java/lang/String", name := "codePointCount", desc := "(II)I" } : Jvm.MethodName)) := hw.1 _ (List.mem_of_getElem? (i := 81) rfl)
theorem w_82 {W : Wd} (hw : Ws W) : Wok W (Jvm.Cond.declares ({ cls := "java/lang/String", name := "codePointCount", desc := "(II)I" } : Jvm.MethodName)) := hw.1 _ (List.mem_of_getElem? (i := 82) rfl)
theorem w_83 {W : Wd} (hw : Ws W) : Wok W (Jvm.Cond.instanceMethod ({ cls := "java/lang/String", name := "codePointCount", desc := "(II)I" } : Jvm.MethodName)) := hw.1 _ (List.mem_of_getElem? (i := 83) rfl)
theorem d_prog_5_3_9 : Dc prog_5_method_3_code 9 (.istore_n 3) 1 10 := ⟨by decide +kernel, rfl⟩
theorem d_prog_5_3_10 : Dc prog_5_method_3_code 10 (.new 35) 3 13 := ⟨by decide +kernel, rfl⟩
theorem w_94 {W : Wd} (hw : Ws W) : Wok W (Jvm.Cond.classLink "com/example/polje/polje/Obfuscators" (35 : Nat) "java/lang/StringBuilder") := hw.1 _ (List.mem_of_getElem? (i := 94) rfl)
theorem nf_oSB {W : Wd} (hw : Ws W) : NewFs W "java/lang/StringBuilder" [("java/lang/AbstractStringBuilder", "value", "[B", .null), ("java/lang/AbstractStringBuilder", "coder", "B", .int 0), ("java/lang/AbstractStringBuilder", "count", "I", .int 0)] := NewFs.cons (Or.inl (w_109 hw)) (ty := (.array .byte)) (by decide) rfl (by decide) (NewFs.cons (Or.inl (w_111 hw)) (ty := .byte) (by decide) rfl (by decide) (NewFs.cons (Or.inl (w_139 hw)) (ty := .int) (by decide) rfl (by decide) (NewFs.nil)))
theorem d_prog_5_3_13 : Dc prog_5_method_3_code 13 (.dup) 1 14 := ⟨by decide +kernel, rfl⟩
theorem d_prog_5_3_14 : Dc prog_5_method_3_code 14 (.aload_n 0) 1 15 := ⟨by decide +kernel, rfl⟩
theorem d_prog_5_3_15 : Dc prog_5_method_3_code 15 (.invokevirtual 16) 3 18 := ⟨by decide +kernel, rfl⟩
theorem pp_1_2_0 : [1, 2, 0].isPerm (List.range 3) = true := by decide +kernel
theorem d_prog_5_3_18 : Dc prog_5_method_3_code 18 (.invokespecial 52) 3 21 := ⟨by decide +kernel, rfl⟩
theorem w_99 {W : Wd} (hw : Ws W) : Wok W (Jvm.Cond.code ({ cls := "java/lang/StringBuilder", name := "<init>", desc := "(I)V" } : Jvm.MethodName) jdk_67_method_2_code (2 : Nat) (Option.none : Option Jvm.ClassFile.FieldType)) := hw.1 _ (List.mem_of_getElem? (i := 99) rfl)
theorem mk_M_sbi {W : Wd} (hw : Ws W) : Mk W M_sbi ⟨"java/lang/StringBuilder", "<init>", "(I)V"⟩ 1 := Mk.of nm_M_sbi rfl rfl rfl (w_99 hw) (w_96 hw) (mkLen pd__I_V rfl) (by decide)
theorem w_97 {W : Wd} (hw : Ws W) : Wok W (Jvm.Cond.methodLink "com/example/polje/polje/Obfuscators" (52 : Nat) ({ cls := "java/lang/StringBuilder", name := "<init>", desc := "(I)V" } : Jvm.MethodName)) := hw.1 _ (List.mem_of_getElem? (i := 97) rfl)
theorem w_98 {W : Wd} (hw : Ws W) : Wok W (Jvm.Cond.instanceMethod ({ cls := "java/lang/StringBuilder", name := "<init>", desc := "(I)V" } : Jvm.MethodName)) := hw.1 _ (List.mem_of_getElem? (i := 98) rfl)
theorem d_prog_5_3_21 : Dc prog_5_method_3_code 21 (.astore 4) 2 23 := ⟨by decide +kernel, rfl⟩
theorem d_prog_5_3_23 : Dc prog_5_method_3_code 23 (.iconst 0) 1 24 := ⟨by decide +kernel, rfl⟩
theorem d_prog_5_3_24 : Dc prog_5_method_3_code 24 (.istore 5) 2 26 := ⟨by decide +kernel, rfl⟩
theorem d_prog_5_3_26 : Dc prog_5_method_3_code 26 (.iconst 0) 1 27 := ⟨by decide +kernel, rfl⟩
theorem d_prog_5_3_27 : Dc prog_5_method_3_code 27 (.istore 6) 2 29 := ⟨by decide +kernel, rfl⟩
def M_st00 : Mt := (⟨"com/example/polje/polje/Obfuscators", "starred", "(Ljava/lang/String;II)Ljava/lang/String;"⟩, prog_5_method_3_code, 9, some (.object "java/lang/String"), ⟨6, 4, 136, 79⟩)
theorem nm_M_st00 : mN M_st00 = ⟨"com/example/polje/polje/Obfuscators", "starred", "(Ljava/lang/String;II)Ljava/lang/String;"⟩ := by delta mN M_st00; rfl
set_option maxRecDepth 65536 in
set_option maxHeartbeats 40000000 in
theorem lp_st00 {W : Wd} {K : Kx} (hw : Ws W) (s b : Addr) (rs rb xb ob : Bool) (zs : List Nat) (q vv : Addr) (F : List En) (hz : ∀ z ∈ zs, z < 256) (hl : zs.length ≤ 64) (Q : Option Value → List En → Prop) (hQ : ∀ (q2 r2 : Addr) (as : List Nat), as = (star 0 0 zs) → Q (some (.ref q2)) ((oStr true q2 (.ref r2) (.int 0)) :: (eB r2 (zb as)) :: (oStr rs s (.ref b) (.int 0)) :: (b, rb, .inr (.byte, xb, ob, zb zs)) :: F)) :
    ∀ (t i : Nat) (as : List Nat) (o7 o8 : Slot), i + t = zs.length → as.length = zs.length → as.take i = (star 0 0 zs).take i → One o7 → One o8 → Wp W K M_st00 Q ((oStr rs s (.ref b) (.int 0)) :: (b, rb, .inr (.byte, xb, ob, zb zs)) :: (oSB true q (.ref vv) (.int 0) (.int (ix i))) :: (eB vv (zb as)) :: F) 2 68 29 [.val (.ref s), .val (.int 0), .val (.int 0), .val (.int (ix zs.length)), .val (.ref q), .val (.int (ix i)), .val (.int (ix i)), o7, o8] []
  | 0, i, as, o7, o8, hi, hla, hs, ho_o7, ho_o8 => by
    refine Wp.iload rfl d_prog_5_3_29 ?_
    refine Wp.iloadN rfl d_prog_5_3_31 ?_
    refine Wp.icT (flt (fun q => by have := (ix_lt (i := i) (j := zs.length) (by omega) (by omega)).mp q; omega)).2.1 d_prog_5_3_32 ?_
    refine Wp.aload rfl rfl d_prog_5_3_98 ?_
    refine Wp.perm [2, 3, 0, 1] 4 pp_2_3_0_1 (H' := ((oSB true q (.ref vv) (.int 0) (.int (ix i))) :: (eB vv (zb as)) :: (oStr rs s (.ref b) (.int 0)) :: (b, rb, .inr (.byte, xb, ob, zb zs)) :: F)) rfl ?_
    refine Wp.callV nm_M_st00 (fun _ => rm_tosF hw.set q vv as i _ (by omega) (by omega)) 0 rfl (mk_M_tosF hw) (w_112 hw) (w_113 hw) (w_115 hw) (w_114 hw) (S' := "") (Or.inl rfl) (by decide) rfl rfl rfl (Wn := 0) rfl rfl (by decide) d_prog_5_3_100 ?_
    rintro _ _ ⟨s_1, r_2, rfl, rfl⟩
    refine Wp.perm [0, 1, 4, 5, 2, 3] 6 pp_0_1_4_5_2_3 (H' := ((oStr true s_1 (.ref r_2) (.int 0)) :: (eB r_2 (zb (as.take i))) :: (oStr rs s (.ref b) (.int 0)) :: (b, rb, .inr (.byte, xb, ob, zb zs)) :: (oSB true q (.ref vv) (.int 0) (.int (ix i))) :: (eB vv (zb as)) :: F)) rfl ?_
    refine Wp.less (((((((List.Sublist.refl _).cons _).cons _).cons_cons _).cons_cons _).cons_cons _).cons_cons _) ?_
    refine Wp.aret rfl rfl rfl d_prog_5_3_103 (by decide) (by decide) ?_
    exact hQ s_1 r_2 _ (by have e : i = zs.length := (by omega); subst e; rw [List.take_of_length_le (by omega)]; exact eq_star hla hs)
  | t + 1, i, as, o7, o8, hi, hla, hs, ho_o7, ho_o8 => by
    have hi2 : i < zs.length := by omega
    have hzi := zs_lt hz i
    refine Wp.iload rfl d_prog_5_3_29 ?_
    refine Wp.iloadN rfl d_prog_5_3_31 ?_
    refine Wp.icF (tlt ((ix_lt (i := i) (j := zs.length) (by omega) (by omega)).mpr hi2)).2.1 d_prog_5_3_32 ?_
    refine Wp.aloadN rfl rfl d_prog_5_3_35 ?_
    refine Wp.iload rfl d_prog_5_3_36 ?_
    refine Wp.callV nm_M_st00 (fun _ => rm_cpa hw.set s b rs rb xb ob zs i _ hz (by omega) (by omega)) 0 rfl (mk_M_cpa hw) (w_188 hw) (w_189 hw) (w_191 hw) (w_190 hw) (S' := "") (Or.inl rfl) (by decide) rfl rfl rfl (Wn := 0) rfl rfl (by decide) d_prog_5_3_38 ?_
    rintro _ _ ⟨rfl, rfl⟩
    refine Wp.istore (L' := [.val (.ref s), .val (.int 0), .val (.int 0), .val (.int (ix zs.length)), .val (.ref q), .val (.int (ix i)), .val (.int (ix i)), .val (.int (ix (zs.getD i 0))), o8]) (storeOne rfl ho_o7 rfl rfl) d_prog_5_3_41 ?_
    refine Wp.iload rfl d_prog_5_3_43 ?_
    refine Wp.iloadN rfl d_prog_5_3_45 ?_
    refine Wp.icF (flt (fun q => (Nat.not_lt_zero _) ((ix_lt (i := i) (j := 0) (by omega) (by omega)).mp q))).1 d_prog_5_3_46 ?_
    refine Wp.iload rfl d_prog_5_3_49 ?_
    refine Wp.iloadN rfl d_prog_5_3_51 ?_
    refine Wp.iloadN rfl d_prog_5_3_52 ?_
    refine Wp.isub (z := (ix (zs.length - 0))) (ix_sub (a := zs.length) (b := 0) (by omega)) d_prog_5_3_53 ?_
    by_cases b54_1 : i < (zs.length - 0)
    · refine Wp.icT (tlt ((ix_lt (i := i) (j := (zs.length - 0)) (by omega) (by omega)).mpr b54_1)).1 d_prog_5_3_54 ?_
      refine Wp.iconst lc_0 d_prog_5_3_61 ?_
      refine Wp.istore (L' := [.val (.ref s), .val (.int 0), .val (.int 0), .val (.int (ix zs.length)), .val (.ref q), .val (.int (ix i)), .val (.int (ix i)), .val (.int (ix (zs.getD i 0))), .val (.int 0)]) (storeOne rfl ho_o8 rfl rfl) d_prog_5_3_62 ?_
      refine Wp.aload rfl rfl d_prog_5_3_64 ?_
      refine Wp.iload rfl d_prog_5_3_66 ?_
      refine Wp.ifT (by decide) d_prog_5_3_68 ?_
      refine Wp.bipush lb_42 d_prog_5_3_76 ?_
      refine Wp.perm [2, 3, 0, 1] 4 pp_2_3_0_1 (H' := ((oSB true q (.ref vv) (.int 0) (.int (ix i))) :: (eB vv (zb as)) :: (oStr rs s (.ref b) (.int 0)) :: (b, rb, .inr (.byte, xb, ob, zb zs)) :: F)) rfl ?_
      refine Wp.callV nm_M_st00 (fun _ => rm_scp hw.set q vv as i 42 _ (by omega) (by omega) (by omega)) 0 rfl (mk_M_scp hw) (w_200 hw) (w_201 hw) (w_203 hw) (w_202 hw) (S' := "") (Or.inl rfl) (by decide) rfl rfl rfl (Wn := 0) rfl rfl (by decide) d_prog_5_3_78 ?_
      rintro _ _ ⟨rfl, rfl⟩
      refine Wp.pop rfl d_prog_5_3_81 ?_
      refine Wp.iload rfl d_prog_5_3_82 ?_
      refine Wp.iload rfl d_prog_5_3_84 ?_
      refine Wp.callS nm_M_st00 (fun _ => rm_chc hw.set (zs.getD i 0) _ (zs_lt hz i)) (mk_M_chc hw) (w_235 hw) (w_236 hw) rfl rfl (Wn := 1) rfl rfl (by decide) d_prog_5_3_86 ?_
      rintro _ _ ⟨rfl, rfl⟩
      refine Wp.iadd (z := (ix (i + 1))) (ix_add _ _) d_prog_5_3_89 ?_
      refine Wp.istore (L' := [.val (.ref s), .val (.int 0), .val (.int 0), .val (.int (ix zs.length)), .val (.ref q), .val (.int (ix (i + 1))), .val (.int (ix i)), .val (.int (ix (zs.getD i 0))), .val (.int 0)]) rfl d_prog_5_3_90 ?_
      refine Wp.iinc (z := (ix (i + 1))) (L' := [.val (.ref s), .val (.int 0), .val (.int 0), .val (.int (ix zs.length)), .val (.ref q), .val (.int (ix (i + 1))), .val (.int (ix (i + 1))), .val (.int (ix (zs.getD i 0))), .val (.int 0)]) rfl (ix_inc _) rfl d_prog_5_3_92 ?_
      refine Wp.goto d_prog_5_3_95 ?_
      refine Wp.perm [2, 3, 0, 1] 4 pp_2_3_0_1 (H' := ((oStr rs s (.ref b) (.int 0)) :: (b, rb, .inr (.byte, xb, ob, zb zs)) :: (oSB true q (.ref vv) (.int 0) (.int (ix (i + 1)))) :: (eB vv (zb (as.set i 42))) :: F)) rfl ?_
      refine Wp.room (c' := 2) (n' := 68) (by decide) (by decide) ?_
      exact lp_st00 hw s b rs rb xb ob zs q vv F hz hl Q hQ t (i + 1) (as.set i 42) (.val (.int (ix (zs.getD i 0)))) (.val (.int 0)) (by omega) (by rw [List.length_set]; omega) (take_set hs (by omega) (by rw [star_get hi2, if_neg (by omega)])) (One.val rfl) (One.val rfl)
    · refine Wp.icF (flt (fun q => b54_1 ((ix_lt (i := i) (j := (zs.length - 0)) (by omega) (by omega)).mp q))).1 d_prog_5_3_54 ?_
      refine Wp.iconst lc_1 d_prog_5_3_57 ?_
      refine Wp.goto d_prog_5_3_58 ?_
      refine Wp.istore (L' := [.val (.ref s), .val (.int 0), .val (.int 0), .val (.int (ix zs.length)), .val (.ref q), .val (.int (ix i)), .val (.int (ix i)), .val (.int (ix (zs.getD i 0))), .val (.int 1)]) (storeOne rfl ho_o8 rfl rfl) d_prog_5_3_62 ?_
      refine Wp.aload rfl rfl d_prog_5_3_64 ?_
      refine Wp.iload rfl d_prog_5_3_66 ?_
      refine Wp.ifF (by decide) d_prog_5_3_68 ?_
      refine Wp.iload rfl d_prog_5_3_71 ?_
      refine Wp.goto d_prog_5_3_73 ?_
      refine Wp.perm [2, 3, 0, 1] 4 pp_2_3_0_1 (H' := ((oSB true q (.ref vv) (.int 0) (.int (ix i))) :: (eB vv (zb as)) :: (oStr rs s (.ref b) (.int 0)) :: (b, rb, .inr (.byte, xb, ob, zb zs)) :: F)) rfl ?_
      refine Wp.callV nm_M_st00 (fun _ => rm_scp hw.set q vv as i (zs.getD i 0) _ (zs_lt hz i) (by omega) (by omega)) 0 rfl (mk_M_scp hw) (w_200 hw) (w_201 hw) (w_203 hw) (w_202 hw) (S' := "") (Or.inl rfl) (by decide) rfl rfl rfl (Wn := 0) rfl rfl (by decide) d_prog_5_3_78 ?_
      rintro _ _ ⟨rfl, rfl⟩
      refine Wp.pop rfl d_prog_5_3_81 ?_
      refine Wp.iload rfl d_prog_5_3_82 ?_
      refine Wp.iload rfl d_prog_5_3_84 ?_
      refine Wp.callS nm_M_st00 (fun _ => rm_chc hw.set (zs.getD i 0) _ (zs_lt hz i)) (mk_M_chc hw) (w_235 hw) (w_236 hw) rfl rfl (Wn := 1) rfl rfl (by decide) d_prog_5_3_86 ?_
      rintro _ _ ⟨rfl, rfl⟩
      refine Wp.iadd (z := (ix (i + 1))) (ix_add _ _) d_prog_5_3_89 ?_
      refine Wp.istore (L' := [.val (.ref s), .val (.int 0), .val (.int 0), .val (.int (ix zs.length)), .val (.ref q), .val (.int (ix (i + 1))), .val (.int (ix i)), .val (.int (ix (zs.getD i 0))), .val (.int 1)]) rfl d_prog_5_3_90 ?_
      refine Wp.iinc (z := (ix (i + 1))) (L' := [.val (.ref s), .val (.int 0), .val (.int 0), .val (.int (ix zs.length)), .val (.ref q), .val (.int (ix (i + 1))), .val (.int (ix (i + 1))), .val (.int (ix (zs.getD i 0))), .val (.int 1)]) rfl (ix_inc _) rfl d_prog_5_3_92 ?_
      refine Wp.goto d_prog_5_3_95 ?_
      refine Wp.perm [2, 3, 0, 1] 4 pp_2_3_0_1 (H' := ((oStr rs s (.ref b) (.int 0)) :: (b, rb, .inr (.byte, xb, ob, zb zs)) :: (oSB true q (.ref vv) (.int 0) (.int (ix (i + 1)))) :: (eB vv (zb (as.set i (zs.getD i 0)))) :: F)) rfl ?_
      refine Wp.room (c' := 2) (n' := 68) (by decide) (by decide) ?_
      exact lp_st00 hw s b rs rb xb ob zs q vv F hz hl Q hQ t (i + 1) (as.set i (zs.getD i 0)) (.val (.int (ix (zs.getD i 0)))) (.val (.int 1)) (by omega) (by rw [List.length_set]; omega) (take_set hs (by omega) (by rw [star_get hi2, if_pos (by omega)])) (One.val rfl) (One.val rfl)
theorem pf_com_example_polje_polje_Obfuscators : plainName "com/example/polje/polje/Obfuscators" = true := by first | (simp [plainName, overriddenIn]; done) | decide +kernel
set_option maxRecDepth 65536 in
set_option maxHeartbeats 40000000 in
theorem rm_st00 {W : Wd} (hw : Ws W) (s : Addr) (b : Addr) (rs : Bool) (rb : Bool) (xb : Bool) (ob : Bool) (zs : List Nat) (F : List En) (hz : ∀ z ∈ zs, z < 256) (hl : zs.length ≤ 64) : Ct W M_st00 [.ref s, .int 0, .int 0] ((oStr rs s (.ref b) (.int 0)) :: (b, rb, .inr (.byte, xb, ob, zb zs)) :: F) (fun v H' => ∃ q r, v = some (.ref q) ∧ H' = ((oStr true q (.ref r) (.int 0)) :: (eB r (zb (star 0 0 zs))) :: (oStr rs s (.ref b) (.int 0)) :: (b, rb, .inr (.byte, xb, ob, zb zs)) :: F)) := by
  refine Ct.intro (L0 := [.val (.ref s), .val (.int 0), .val (.int 0), .unset, .unset, .unset, .unset, .unset, .unset]) (plainFor_of_name pf_com_example_polje_polje_Obfuscators) rfl (fun K => ?_)
  refine Wp.aloadN rfl rfl d_prog_5_3_0 ?_
  refine Wp.iconst lc_0 d_prog_5_3_1 ?_
  refine Wp.aloadN rfl rfl d_prog_5_3_2 ?_
  refine Wp.callV nm_M_st00 (fun _ => rm_len hw.set s b rs rb xb ob zs _ ) 0 rfl (mk_M_len hw) (w_80 hw) (w_54 hw) (w_56 hw) (w_55 hw) (S' := "") (Or.inl rfl) (by decide) rfl rfl rfl (Wn := 2) rfl rfl (by decide) d_prog_5_3_3 ?_
  rintro _ _ ⟨rfl, rfl⟩
  refine Wp.callV nm_M_st00 (fun _ => rm_cpc hw.set s b rs rb xb ob zs _ (by omega)) 0 rfl (mk_M_cpc hw) (w_81 hw) (w_82 hw) (w_84 hw) (w_83 hw) (S' := "") (Or.inl rfl) (by decide) rfl rfl rfl (Wn := 0) rfl rfl (by decide) d_prog_5_3_6 ?_
  rintro _ _ ⟨rfl, rfl⟩
  refine Wp.istoreN (L' := [.val (.ref s), .val (.int 0), .val (.int 0), .val (.int (ix (zs.length - 0))), .unset, .unset, .unset, .unset, .unset]) rfl d_prog_5_3_9 ?_
  refine Wp.newO nm_M_st00 (w_94 hw) (w_95 hw) (w_96 hw) (nf_oSB hw) (by decide) (by decide) d_prog_5_3_10 (fun a1 => ?_)
  refine Wp.dup rfl d_prog_5_3_13 ?_
  refine Wp.aloadN rfl rfl d_prog_5_3_14 ?_
  refine Wp.perm [1, 2, 0] 3 pp_1_2_0 (H' := ((oStr rs s (.ref b) (.int 0)) :: (b, rb, .inr (.byte, xb, ob, zb zs)) :: (oSB true a1 (.null) (.int 0) (.int 0)) :: F)) rfl ?_
  refine Wp.callV nm_M_st00 (fun _ => rm_len hw.set s b rs rb xb ob zs _ ) 0 rfl (mk_M_len hw) (w_80 hw) (w_54 hw) (w_56 hw) (w_55 hw) (S' := "") (Or.inl rfl) (by decide) rfl rfl rfl (Wn := 2) rfl rfl (by decide) d_prog_5_3_15 ?_
  rintro _ _ ⟨rfl, rfl⟩
  refine Wp.perm [2, 0, 1] 3 pp_2_0_1 (H' := ((oSB true a1 (.null) (.int 0) (.int 0)) :: (oStr rs s (.ref b) (.int 0)) :: (b, rb, .inr (.byte, xb, ob, zb zs)) :: F)) rfl ?_
  refine Wp.callC nm_M_st00 (fun _ => rm_sbi hw.set a1 zs.length _ (by omega)) (mk_M_sbi hw) (w_97 hw) (w_98 hw) rfl rfl rfl rfl (Wn := 1) rfl rfl (by decide) d_prog_5_3_18 ?_
  rintro _ _ ⟨vv_2, rfl, rfl⟩
  refine Wp.astore (L' := [.val (.ref s), .val (.int 0), .val (.int 0), .val (.int (ix (zs.length - 0))), .val (.ref a1), .unset, .unset, .unset, .unset]) rfl rfl d_prog_5_3_21 ?_
  refine Wp.iconst lc_0 d_prog_5_3_23 ?_
  refine Wp.istore (L' := [.val (.ref s), .val (.int 0), .val (.int 0), .val (.int (ix (zs.length - 0))), .val (.ref a1), .val (.int 0), .unset, .unset, .unset]) rfl d_prog_5_3_24 ?_
  refine Wp.iconst lc_0 d_prog_5_3_26 ?_
  refine Wp.istore (L' := [.val (.ref s), .val (.int 0), .val (.int 0), .val (.int (ix (zs.length - 0))), .val (.ref a1), .val (.int 0), .val (.int 0), .unset, .unset]) rfl d_prog_5_3_27 ?_
  refine Wp.perm [2, 3, 0, 1] 4 pp_2_3_0_1 (H' := ((oStr rs s (.ref b) (.int 0)) :: (b, rb, .inr (.byte, xb, ob, zb zs)) :: (oSB true a1 (.ref vv_2) (.int 0) (.int 0)) :: (eB vv_2 (zb (List.replicate zs.length 0))) :: F)) rfl ?_
  refine Wp.room (c' := 2) (n' := 68) (by decide) (by decide) ?_
  exact lp_st00 hw s b rs rb xb ob zs a1 vv_2 F hz hl _ (fun q2 r2 as e => ⟨q2, r2, rfl, by rw [e]⟩) zs.length 0 (List.replicate zs.length 0) _ _ (by omega) (List.length_replicate ..) rfl One.u One.u
def M_st10 : Mt := (⟨"com/example/polje/polje/Obfuscators", "starred", "(Ljava/lang/String;II)Ljava/lang/String;"⟩, prog_5_method_3_code, 9, some (.object "java/lang/String"), ⟨6, 4, 136, 79⟩)
theorem nm_M_st10 : mN M_st10 = ⟨"com/example/polje/polje/Obfuscators", "starred", "(Ljava/lang/String;II)Ljava/lang/String;"⟩ := by delta mN M_st10; rfl
set_option maxRecDepth 65536 in
set_option maxHeartbeats 40000000 in
theorem lp_st10 {W : Wd} {K : Kx} (hw : Ws W) (s b : Addr) (rs rb xb ob : Bool) (zs : List Nat) (q vv : Addr) (F : List En) (hz : ∀ z ∈ zs, z < 256) (hl : zs.length ≤ 64) (Q : Option Value → List En → Prop) (hQ : ∀ (q2 r2 : Addr) (as : List Nat), as = (star 1 0 zs) → Q (some (.ref q2)) ((oStr true q2 (.ref r2) (.int 0)) :: (eB r2 (zb as)) :: (oStr rs s (.ref b) (.int 0)) :: (b, rb, .inr (.byte, xb, ob, zb zs)) :: F)) :
    ∀ (t i : Nat) (as : List Nat) (o7 o8 : Slot), i + t = zs.length → as.length = zs.length → as.take i = (star 1 0 zs).take i → One o7 → One o8 → Wp W K M_st10 Q ((oStr rs s (.ref b) (.int 0)) :: (b, rb, .inr (.byte, xb, ob, zb zs)) :: (oSB true q (.ref vv) (.int 0) (.int (ix i))) :: (eB vv (zb as)) :: F) 2 68 29 [.val (.ref s), .val (.int 1), .val (.int 0), .val (.int (ix zs.length)), .val (.ref q), .val (.int (ix i)), .val (.int (ix i)), o7, o8] []
  | 0, i, as, o7, o8, hi, hla, hs, ho_o7, ho_o8 => by
    refine Wp.iload rfl d_prog_5_3_29 ?_
    refine Wp.iloadN rfl d_prog_5_3_31 ?_
    refine Wp.icT (flt (fun q => by have := (ix_lt (i := i) (j := zs.length) (by omega) (by omega)).mp q; omega)).2.1 d_prog_5_3_32 ?_
    refine Wp.aload rfl rfl d_prog_5_3_98 ?_
    refine Wp.perm [2, 3, 0, 1] 4 pp_2_3_0_1 (H' := ((oSB true q (.ref vv) (.int 0) (.int (ix i))) :: (eB vv (zb as)) :: (oStr rs s (.ref b) (.int 0)) :: (b, rb, .inr (.byte, xb, ob, zb zs)) :: F)) rfl ?_
    refine Wp.callV nm_M_st10 (fun _ => rm_tosF hw.set q vv as i _ (by omega) (by omega)) 0 rfl (mk_M_tosF hw) (w_112 hw) (w_113 hw) (w_115 hw) (w_114 hw) (S' := "") (Or.inl rfl) (by decide) rfl rfl rfl (Wn := 0) rfl rfl (by decide) d_prog_5_3_100 ?_
    rintro _ _ ⟨s_1, r_2, rfl, rfl⟩
    refine Wp.perm [0, 1, 4, 5, 2, 3] 6 pp_0_1_4_5_2_3 (H' := ((oStr true s_1 (.ref r_2) (.int 0)) :: (eB r_2 (zb (as.take i))) :: (oStr rs s (.ref b) (.int 0)) :: (b, rb, .inr (.byte, xb, ob, zb zs)) :: (oSB true q (.ref vv) (.int 0) (.int (ix i))) :: (eB vv (zb as)) :: F)) rfl ?_
    refine Wp.less (((((((List.Sublist.refl _).cons _).cons _).cons_cons _).cons_cons _).cons_cons _).cons_cons _) ?_
    refine Wp.aret rfl rfl rfl d_prog_5_3_103 (by decide) (by decide) ?_
    exact hQ s_1 r_2 _ (by have e : i = zs.length := (by omega); subst e; rw [List.take_of_length_le (by omega)]; exact eq_star hla hs)
  | t + 1, i, as, o7, o8, hi, hla, hs, ho_o7, ho_o8 => by
    have hi2 : i < zs.length := by omega
    have hzi := zs_lt hz i
    refine Wp.iload rfl d_prog_5_3_29 ?_
    refine Wp.iloadN rfl d_prog_5_3_31 ?_
    refine Wp.icF (tlt ((ix_lt (i := i) (j := zs.length) (by omega) (by omega)).mpr hi2)).2.1 d_prog_5_3_32 ?_
    refine Wp.aloadN rfl rfl d_prog_5_3_35 ?_
    refine Wp.iload rfl d_prog_5_3_36 ?_
    refine Wp.callV nm_M_st10 (fun _ => rm_cpa hw.set s b rs rb xb ob zs i _ hz (by omega) (by omega)) 0 rfl (mk_M_cpa hw) (w_188 hw) (w_189 hw) (w_191 hw) (w_190 hw) (S' := "") (Or.inl rfl) (by decide) rfl rfl rfl (Wn := 0) rfl rfl (by decide) d_prog_5_3_38 ?_
    rintro _ _ ⟨rfl, rfl⟩
    refine Wp.istore (L' := [.val (.ref s), .val (.int 1), .val (.int 0), .val (.int (ix zs.length)), .val (.ref q), .val (.int (ix i)), .val (.int (ix i)), .val (.int (ix (zs.getD i 0))), o8]) (storeOne rfl ho_o7 rfl rfl) d_prog_5_3_41 ?_
    refine Wp.iload rfl d_prog_5_3_43 ?_
    refine Wp.iloadN rfl d_prog_5_3_45 ?_
    by_cases b46_1 : i < 1
    · refine Wp.icT (tlt ((ix_lt (i := i) (j := 1) (by omega) (by omega)).mpr b46_1)).1 d_prog_5_3_46 ?_
      refine Wp.iconst lc_1 d_prog_5_3_57 ?_
      refine Wp.goto d_prog_5_3_58 ?_
      refine Wp.istore (L' := [.val (.ref s), .val (.int 1), .val (.int 0), .val (.int (ix zs.length)), .val (.ref q), .val (.int (ix i)), .val (.int (ix i)), .val (.int (ix (zs.getD i 0))), .val (.int 1)]) (storeOne rfl ho_o8 rfl rfl) d_prog_5_3_62 ?_
      refine Wp.aload rfl rfl d_prog_5_3_64 ?_
      refine Wp.iload rfl d_prog_5_3_66 ?_
      refine Wp.ifF (by decide) d_prog_5_3_68 ?_
      refine Wp.iload rfl d_prog_5_3_71 ?_
      refine Wp.goto d_prog_5_3_73 ?_
      refine Wp.perm [2, 3, 0, 1] 4 pp_2_3_0_1 (H' := ((oSB true q (.ref vv) (.int 0) (.int (ix i))) :: (eB vv (zb as)) :: (oStr rs s (.ref b) (.int 0)) :: (b, rb, .inr (.byte, xb, ob, zb zs)) :: F)) rfl ?_
      refine Wp.callV nm_M_st10 (fun _ => rm_scp hw.set q vv as i (zs.getD i 0) _ (zs_lt hz i) (by omega) (by omega)) 0 rfl (mk_M_scp hw) (w_200 hw) (w_201 hw) (w_203 hw) (w_202 hw) (S' := "") (Or.inl rfl) (by decide) rfl rfl rfl (Wn := 0) rfl rfl (by decide) d_prog_5_3_78 ?_
      rintro _ _ ⟨rfl, rfl⟩
      refine Wp.pop rfl d_prog_5_3_81 ?_
      refine Wp.iload rfl d_prog_5_3_82 ?_
      refine Wp.iload rfl d_prog_5_3_84 ?_
      refine Wp.callS nm_M_st10 (fun _ => rm_chc hw.set (zs.getD i 0) _ (zs_lt hz i)) (mk_M_chc hw) (w_235 hw) (w_236 hw) rfl rfl (Wn := 1) rfl rfl (by decide) d_prog_5_3_86 ?_
      rintro _ _ ⟨rfl, rfl⟩
      refine Wp.iadd (z := (ix (i + 1))) (ix_add _ _) d_prog_5_3_89 ?_
      refine Wp.istore (L' := [.val (.ref s), .val (.int 1), .val (.int 0), .val (.int (ix zs.length)), .val (.ref q), .val (.int (ix (i + 1))), .val (.int (ix i)), .val (.int (ix (zs.getD i 0))), .val (.int 1)]) rfl d_prog_5_3_90 ?_
      refine Wp.iinc (z := (ix (i + 1))) (L' := [.val (.ref s), .val (.int 1), .val (.int 0), .val (.int (ix zs.length)), .val (.ref q), .val (.int (ix (i + 1))), .val (.int (ix (i + 1))), .val (.int (ix (zs.getD i 0))), .val (.int 1)]) rfl (ix_inc _) rfl d_prog_5_3_92 ?_
      refine Wp.goto d_prog_5_3_95 ?_
      refine Wp.perm [2, 3, 0, 1] 4 pp_2_3_0_1 (H' := ((oStr rs s (.ref b) (.int 0)) :: (b, rb, .inr (.byte, xb, ob, zb zs)) :: (oSB true q (.ref vv) (.int 0) (.int (ix (i + 1)))) :: (eB vv (zb (as.set i (zs.getD i 0)))) :: F)) rfl ?_
      refine Wp.room (c' := 2) (n' := 68) (by decide) (by decide) ?_
      exact lp_st10 hw s b rs rb xb ob zs q vv F hz hl Q hQ t (i + 1) (as.set i (zs.getD i 0)) (.val (.int (ix (zs.getD i 0)))) (.val (.int 1)) (by omega) (by rw [List.length_set]; omega) (take_set hs (by omega) (by rw [star_get hi2, if_pos (by omega)])) (One.val rfl) (One.val rfl)
    · refine Wp.icF (flt (fun q => b46_1 ((ix_lt (i := i) (j := 1) (by omega) (by omega)).mp q))).1 d_prog_5_3_46 ?_
      refine Wp.iload rfl d_prog_5_3_49 ?_
      refine Wp.iloadN rfl d_prog_5_3_51 ?_
      refine Wp.iloadN rfl d_prog_5_3_52 ?_
      refine Wp.isub (z := (ix (zs.length - 0))) (ix_sub (a := zs.length) (b := 0) (by omega)) d_prog_5_3_53 ?_
      by_cases b54_2 : i < (zs.length - 0)
      · refine Wp.icT (tlt ((ix_lt (i := i) (j := (zs.length - 0)) (by omega) (by omega)).mpr b54_2)).1 d_prog_5_3_54 ?_
        refine Wp.iconst lc_0 d_prog_5_3_61 ?_
        refine Wp.istore (L' := [.val (.ref s), .val (.int 1), .val (.int 0), .val (.int (ix zs.length)), .val (.ref q), .val (.int (ix i)), .val (.int (ix i)), .val (.int (ix (zs.getD i 0))), .val (.int 0)]) (storeOne rfl ho_o8 rfl rfl) d_prog_5_3_62 ?_
        refine Wp.aload rfl rfl d_prog_5_3_64 ?_
        refine Wp.iload rfl d_prog_5_3_66 ?_
        refine Wp.ifT (by decide) d_prog_5_3_68 ?_
        refine Wp.bipush lb_42 d_prog_5_3_76 ?_
        refine Wp.perm [2, 3, 0, 1] 4 pp_2_3_0_1 (H' := ((oSB true q (.ref vv) (.int 0) (.int (ix i))) :: (eB vv (zb as)) :: (oStr rs s (.ref b) (.int 0)) :: (b, rb, .inr (.byte, xb, ob, zb zs)) :: F)) rfl ?_
        refine Wp.callV nm_M_st10 (fun _ => rm_scp hw.set q vv as i 42 _ (by omega) (by omega) (by omega)) 0 rfl (mk_M_scp hw) (w_200 hw) (w_201 hw) (w_203 hw) (w_202 hw) (S' := "") (Or.inl rfl) (by decide) rfl rfl rfl (Wn := 0) rfl rfl (by decide) d_prog_5_3_78 ?_
        rintro _ _ ⟨rfl, rfl⟩
        refine Wp.pop rfl d_prog_5_3_81 ?_
        refine Wp.iload rfl d_prog_5_3_82 ?_
        refine Wp.iload rfl d_prog_5_3_84 ?_
        refine Wp.callS nm_M_st10 (fun _ => rm_chc hw.set (zs.getD i 0) _ (zs_lt hz i)) (mk_M_chc hw) (w_235 hw) (w_236 hw) rfl rfl (Wn := 1) rfl rfl (by decide) d_prog_5_3_86 ?_
        rintro _ _ ⟨rfl, rfl⟩
        refine Wp.iadd (z := (ix (i + 1))) (ix_add _ _) d_prog_5_3_89 ?_
        refine Wp.istore (L' := [.val (.ref s), .val (.int 1), .val (.int 0), .val (.int (ix zs.length)), .val (.ref q), .val (.int (ix (i + 1))), .val (.int (ix i)), .val (.int (ix (zs.getD i 0))), .val (.int 0)]) rfl d_prog_5_3_90 ?_
        refine Wp.iinc (z := (ix (i + 1))) (L' := [.val (.ref s), .val (.int 1), .val (.int 0), .val (.int (ix zs.length)), .val (.ref q), .val (.int (ix (i + 1))), .val (.int (ix (i + 1))), .val (.int (ix (zs.getD i 0))), .val (.int 0)]) rfl (ix_inc _) rfl d_prog_5_3_92 ?_
        refine Wp.goto d_prog_5_3_95 ?_
        refine Wp.perm [2, 3, 0, 1] 4 pp_2_3_0_1 (H' := ((oStr rs s (.ref b) (.int 0)) :: (b, rb, .inr (.byte, xb, ob, zb zs)) :: (oSB true q (.ref vv) (.int 0) (.int (ix (i + 1)))) :: (eB vv (zb (as.set i 42))) :: F)) rfl ?_
        refine Wp.room (c' := 2) (n' := 68) (by decide) (by decide) ?_
        exact lp_st10 hw s b rs rb xb ob zs q vv F hz hl Q hQ t (i + 1) (as.set i 42) (.val (.int (ix (zs.getD i 0)))) (.val (.int 0)) (by omega) (by rw [List.length_set]; omega) (take_set hs (by omega) (by rw [star_get hi2, if_neg (by omega)])) (One.val rfl) (One.val rfl)
      · refine Wp.icF (flt (fun q => b54_2 ((ix_lt (i := i) (j := (zs.length - 0)) (by omega) (by omega)).mp q))).1 d_prog_5_3_54 ?_
        refine Wp.iconst lc_1 d_prog_5_3_57 ?_
        refine Wp.goto d_prog_5_3_58 ?_
        refine Wp.istore (L' := [.val (.ref s), .val (.int 1), .val (.int 0), .val (.int (ix zs.length)), .val (.ref q), .val (.int (ix i)), .val (.int (ix i)), .val (.int (ix (zs.getD i 0))), .val (.int 1)]) (storeOne rfl ho_o8 rfl rfl) d_prog_5_3_62 ?_
        refine Wp.aload rfl rfl d_prog_5_3_64 ?_
        refine Wp.iload rfl d_prog_5_3_66 ?_
        refine Wp.ifF (by decide) d_prog_5_3_68 ?_
        refine Wp.iload rfl d_prog_5_3_71 ?_
        refine Wp.goto d_prog_5_3_73 ?_
        refine Wp.perm [2, 3, 0, 1] 4 pp_2_3_0_1 (H' := ((oSB true q (.ref vv) (.int 0) (.int (ix i))) :: (eB vv (zb as)) :: (oStr rs s (.ref b) (.int 0)) :: (b, rb, .inr (.byte, xb, ob, zb zs)) :: F)) rfl ?_
        refine Wp.callV nm_M_st10 (fun _ => rm_scp hw.set q vv as i (zs.getD i 0) _ (zs_lt hz i) (by omega) (by omega)) 0 rfl (mk_M_scp hw) (w_200 hw) (w_201 hw) (w_203 hw) (w_202 hw) (S' := "") (Or.inl rfl) (by decide) rfl rfl rfl (Wn := 0) rfl rfl (by decide) d_prog_5_3_78 ?_
        rintro _ _ ⟨rfl, rfl⟩
        refine Wp.pop rfl d_prog_5_3_81 ?_
        refine Wp.iload rfl d_prog_5_3_82 ?_
        refine Wp.iload rfl d_prog_5_3_84 ?_
        refine Wp.callS nm_M_st10 (fun _ => rm_chc hw.set (zs.getD i 0) _ (zs_lt hz i)) (mk_M_chc hw) (w_235 hw) (w_236 hw) rfl rfl (Wn := 1) rfl rfl (by decide) d_prog_5_3_86 ?_
        rintro _ _ ⟨rfl, rfl⟩
        refine Wp.iadd (z := (ix (i + 1))) (ix_add _ _) d_prog_5_3_89 ?_
        refine Wp.istore (L' := [.val (.ref s), .val (.int 1), .val (.int 0), .val (.int (ix zs.length)), .val (.ref q), .val (.int (ix (i + 1))), .val (.int (ix i)), .val (.int (ix (zs.getD i 0))), .val (.int 1)]) rfl d_prog_5_3_90 ?_
        refine Wp.iinc (z := (ix (i + 1))) (L' := [.val (.ref s), .val (.int 1), .val (.int 0), .val (.int (ix zs.length)), .val (.ref q), .val (.int (ix (i + 1))), .val (.int (ix (i + 1))), .val (.int (ix (zs.getD i 0))), .val (.int 1)]) rfl (ix_inc _) rfl d_prog_5_3_92 ?_
        refine Wp.goto d_prog_5_3_95 ?_
        refine Wp.perm [2, 3, 0, 1] 4 pp_2_3_0_1 (H' := ((oStr rs s (.ref b) (.int 0)) :: (b, rb, .inr (.byte, xb, ob, zb zs)) :: (oSB true q (.ref vv) (.int 0) (.int (ix (i + 1)))) :: (eB vv (zb (as.set i (zs.getD i 0)))) :: F)) rfl ?_
        refine Wp.room (c' := 2) (n' := 68) (by decide) (by decide) ?_
        exact lp_st10 hw s b rs rb xb ob zs q vv F hz hl Q hQ t (i + 1) (as.set i (zs.getD i 0)) (.val (.int (ix (zs.getD i 0)))) (.val (.int 1)) (by omega) (by rw [List.length_set]; omega) (take_set hs (by omega) (by rw [star_get hi2, if_pos (by omega)])) (One.val rfl) (One.val rfl)
set_option maxRecDepth 65536 in
set_option maxHeartbeats 40000000 in
theorem rm_st10 {W : Wd} (hw : Ws W) (s : Addr) (b : Addr) (rs : Bool) (rb : Bool) (xb : Bool) (ob : Bool) (zs : List Nat) (F : List En) (hz : ∀ z ∈ zs, z < 256) (hl : zs.length ≤ 64) : Ct W M_st10 [.ref s, .int 1, .int 0] ((oStr rs s (.ref b) (.int 0)) :: (b, rb, .inr (.byte, xb, ob, zb zs)) :: F) (fun v H' => ∃ q r, v = some (.ref q) ∧ H' = ((oStr true q (.ref r) (.int 0)) :: (eB r (zb (star 1 0 zs))) :: (oStr rs s (.ref b) (.int 0)) :: (b, rb, .inr (.byte, xb, ob, zb zs)) :: F)) := by
  refine Ct.intro (L0 := [.val (.ref s), .val (.int 1), .val (.int 0), .unset, .unset, .unset, .unset, .unset, .unset]) (plainFor_of_name pf_com_example_polje_polje_Obfuscators) rfl (fun K => ?_)
  refine Wp.aloadN rfl rfl d_prog_5_3_0 ?_
  refine Wp.iconst lc_0 d_prog_5_3_1 ?_
  refine Wp.aloadN rfl rfl d_prog_5_3_2 ?_
  refine Wp.callV nm_M_st10 (fun _ => rm_len hw.set s b rs rb xb ob zs _ ) 0 rfl (mk_M_len hw) (w_80 hw) (w_54 hw) (w_56 hw) (w_55 hw) (S' := "") (Or.inl rfl) (by decide) rfl rfl rfl (Wn := 2) rfl rfl (by decide) d_prog_5_3_3 ?_
  rintro _ _ ⟨rfl, rfl⟩
  refine Wp.callV nm_M_st10 (fun _ => rm_cpc hw.set s b rs rb xb ob zs _ (by omega)) 0 rfl (mk_M_cpc hw) (w_81 hw) (w_82 hw) (w_84 hw) (w_83 hw) (S' := "") (Or.inl rfl) (by decide) rfl rfl rfl (Wn := 0) rfl rfl (by decide) d_prog_5_3_6 ?_
  rintro _ _ ⟨rfl, rfl⟩
  refine Wp.istoreN (L' := [.val (.ref s), .val (.int 1), .val (.int 0), .val (.int (ix (zs.length - 0))), .unset, .unset, .unset, .unset, .unset]) rfl d_prog_5_3_9 ?_
  refine Wp.newO nm_M_st10 (w_94 hw) (w_95 hw) (w_96 hw) (nf_oSB hw) (by decide) (by decide) d_prog_5_3_10 (fun a1 => ?_)
  refine Wp.dup rfl d_prog_5_3_13 ?_
  refine Wp.aloadN rfl rfl d_prog_5_3_14 ?_
  refine Wp.perm [1, 2, 0] 3 pp_1_2_0 (H' := ((oStr rs s (.ref b) (.int 0)) :: (b, rb, .inr (.byte, xb, ob, zb zs)) :: (oSB true a1 (.null) (.int 0) (.int 0)) :: F)) rfl ?_
  refine Wp.callV nm_M_st10 (fun _ => rm_len hw.set s b rs rb xb ob zs _ ) 0 rfl (mk_M_len hw) (w_80 hw) (w_54 hw) (w_56 hw) (w_55 hw) (S' := "") (Or.inl rfl) (by decide) rfl rfl rfl (Wn := 2) rfl rfl (by decide) d_prog_5_3_15 ?_
  rintro _ _ ⟨rfl, rfl⟩
  refine Wp.perm [2, 0, 1] 3 pp_2_0_1 (H' := ((oSB true a1 (.null) (.int 0) (.int 0)) :: (oStr rs s (.ref b) (.int 0)) :: (b, rb, .inr (.byte, xb, ob, zb zs)) :: F)) rfl ?_
  refine Wp.callC nm_M_st10 (fun _ => rm_sbi hw.set a1 zs.length _ (by omega)) (mk_M_sbi hw) (w_97 hw) (w_98 hw) rfl rfl rfl rfl (Wn := 1) rfl rfl (by decide) d_prog_5_3_18 ?_
  rintro _ _ ⟨vv_2, rfl, rfl⟩
  refine Wp.astore (L' := [.val (.ref s), .val (.int 1), .val (.int 0), .val (.int (ix (zs.length - 0))), .val (.ref a1), .unset, .unset, .unset, .unset]) rfl rfl d_prog_5_3_21 ?_
  refine Wp.iconst lc_0 d_prog_5_3_23 ?_
  refine Wp.istore (L' := [.val (.ref s), .val (.int 1), .val (.int 0), .val (.int (ix (zs.length - 0))), .val (.ref a1), .val (.int 0), .unset, .unset, .unset]) rfl d_prog_5_3_24 ?_
  refine Wp.iconst lc_0 d_prog_5_3_26 ?_
  refine Wp.istore (L' := [.val (.ref s), .val (.int 1), .val (.int 0), .val (.int (ix (zs.length - 0))), .val (.ref a1), .val (.int 0), .val (.int 0), .unset, .unset]) rfl d_prog_5_3_27 ?_
  refine Wp.perm [2, 3, 0, 1] 4 pp_2_3_0_1 (H' := ((oStr rs s (.ref b) (.int 0)) :: (b, rb, .inr (.byte, xb, ob, zb zs)) :: (oSB true a1 (.ref vv_2) (.int 0) (.int 0)) :: (eB vv_2 (zb (List.replicate zs.length 0))) :: F)) rfl ?_
  refine Wp.room (c' := 2) (n' := 68) (by decide) (by decide) ?_
  exact lp_st10 hw s b rs rb xb ob zs a1 vv_2 F hz hl _ (fun q2 r2 as e => ⟨q2, r2, rfl, by rw [e]⟩) zs.length 0 (List.replicate zs.length 0) _ _ (by omega) (List.length_replicate ..) rfl One.u One.u
def M_st11 : Mt := (⟨"com/example/polje/polje/Obfuscators", "starred", "(Ljava/lang/String;II)Ljava/lang/String;"⟩, prog_5_method_3_code, 9, some (.object "java/lang/String"), ⟨6, 4, 136, 79⟩)
theorem nm_M_st11 : mN M_st11 = ⟨"com/example/polje/polje/Obfuscators", "starred", "(Ljava/lang/String;II)Ljava/lang/String;"⟩ := by delta mN M_st11; rfl
set_option maxRecDepth 65536 in
set_option maxHeartbeats 40000000 in
theorem lp_st11 {W : Wd} {K : Kx} (hw : Ws W) (s b : Addr) (rs rb xb ob : Bool) (zs : List Nat) (q vv : Addr) (F : List En) (hz : ∀ z ∈ zs, z < 256) (hl : zs.length ≤ 64) (Q : Option Value → List En → Prop) (hQ : ∀ (q2 r2 : Addr) (as : List Nat), as = (star 1 1 zs) → Q (some (.ref q2)) ((oStr true q2 (.ref r2) (.int 0)) :: (eB r2 (zb as)) :: (oStr rs s (.ref b) (.int 0)) :: (b, rb, .inr (.byte, xb, ob, zb zs)) :: F)) :
    ∀ (t i : Nat) (as : List Nat) (o7 o8 : Slot), i + t = zs.length → as.length = zs.length → as.take i = (star 1 1 zs).take i → One o7 → One o8 → Wp W K M_st11 Q ((oStr rs s (.ref b) (.int 0)) :: (b, rb, .inr (.byte, xb, ob, zb zs)) :: (oSB true q (.ref vv) (.int 0) (.int (ix i))) :: (eB vv (zb as)) :: F) 2 68 29 [.val (.ref s), .val (.int 1), .val (.int 1), .val (.int (ix zs.length)), .val (.ref q), .val (.int (ix i)), .val (.int (ix i)), o7, o8] []
  | 0, i, as, o7, o8, hi, hla, hs, ho_o7, ho_o8 => by
    refine Wp.iload rfl d_prog_5_3_29 ?_
    refine Wp.iloadN rfl d_prog_5_3_31 ?_
    refine Wp.icT (flt (fun q => by have := (ix_lt (i := i) (j := zs.length) (by omega) (by omega)).mp q; omega)).2.1 d_prog_5_3_32 ?_
    refine Wp.aload rfl rfl d_prog_5_3_98 ?_
    refine Wp.perm [2, 3, 0, 1] 4 pp_2_3_0_1 (H' := ((oSB true q (.ref vv) (.int 0) (.int (ix i))) :: (eB vv (zb as)) :: (oStr rs s (.ref b) (.int 0)) :: (b, rb, .inr (.byte, xb, ob, zb zs)) :: F)) rfl ?_
    refine Wp.callV nm_M_st11 (fun _ => rm_tosF hw.set q vv as i _ (by omega) (by omega)) 0 rfl (mk_M_tosF hw) (w_112 hw) (w_113 hw) (w_115 hw) (w_114 hw) (S' := "") (Or.inl rfl) (by decide) rfl rfl rfl (Wn := 0) rfl rfl (by decide) d_prog_5_3_100 ?_
    rintro _ _ ⟨s_1, r_2, rfl, rfl⟩
    refine Wp.perm [0, 1, 4, 5, 2, 3] 6 pp_0_1_4_5_2_3 (H' := ((oStr true s_1 (.ref r_2) (.int 0)) :: (eB r_2 (zb (as.take i))) :: (oStr rs s (.ref b) (.int 0)) :: (b, rb, .inr (.byte, xb, ob, zb zs)) :: (oSB true q (.ref vv) (.int 0) (.int (ix i))) :: (eB vv (zb as)) :: F)) rfl ?_
    refine Wp.less (((((((List.Sublist.refl _).cons _).cons _).cons_cons _).cons_cons _).cons_cons _).cons_cons _) ?_
    refine Wp.aret rfl rfl rfl d_prog_5_3_103 (by decide) (by decide) ?_
    exact hQ s_1 r_2 _ (by have e : i = zs.length := (by omega); subst e; rw [List.take_of_length_le (by omega)]; exact eq_star hla hs)
  | t + 1, i, as, o7, o8, hi, hla, hs, ho_o7, ho_o8 => by
    have hi2 : i < zs.length := by omega
    have hzi := zs_lt hz i
    refine Wp.iload rfl d_prog_5_3_29 ?_
    refine Wp.iloadN rfl d_prog_5_3_31 ?_
    refine Wp.icF (tlt ((ix_lt (i := i) (j := zs.length) (by omega) (by omega)).mpr hi2)).2.1 d_prog_5_3_32 ?_
    refine Wp.aloadN rfl rfl d_prog_5_3_35 ?_
    refine Wp.iload rfl d_prog_5_3_36 ?_
    refine Wp.callV nm_M_st11 (fun _ => rm_cpa hw.set s b rs rb xb ob zs i _ hz (by omega) (by omega)) 0 rfl (mk_M_cpa hw) (w_188 hw) (w_189 hw) (w_191 hw) (w_190 hw) (S' := "") (Or.inl rfl) (by decide) rfl rfl rfl (Wn := 0) rfl rfl (by decide) d_prog_5_3_38 ?_
    rintro _ _ ⟨rfl, rfl⟩
    refine Wp.istore (L' := [.val (.ref s), .val (.int 1), .val (.int 1), .val (.int (ix zs.length)), .val (.ref q), .val (.int (ix i)), .val (.int (ix i)), .val (.int (ix (zs.getD i 0))), o8]) (storeOne rfl ho_o7 rfl rfl) d_prog_5_3_41 ?_
    refine Wp.iload rfl d_prog_5_3_43 ?_
    refine Wp.iloadN rfl d_prog_5_3_45 ?_
    by_cases b46_1 : i < 1
    · refine Wp.icT (tlt ((ix_lt (i := i) (j := 1) (by omega) (by omega)).mpr b46_1)).1 d_prog_5_3_46 ?_
      refine Wp.iconst lc_1 d_prog_5_3_57 ?_
      refine Wp.goto d_prog_5_3_58 ?_
      refine Wp.istore (L' := [.val (.ref s), .val (.int 1), .val (.int 1), .val (.int (ix zs.length)), .val (.ref q), .val (.int (ix i)), .val (.int (ix i)), .val (.int (ix (zs.getD i 0))), .val (.int 1)]) (storeOne rfl ho_o8 rfl rfl) d_prog_5_3_62 ?_
      refine Wp.aload rfl rfl d_prog_5_3_64 ?_
      refine Wp.iload rfl d_prog_5_3_66 ?_
      refine Wp.ifF (by decide) d_prog_5_3_68 ?_
      refine Wp.iload rfl d_prog_5_3_71 ?_
      refine Wp.goto d_prog_5_3_73 ?_
      refine Wp.perm [2, 3, 0, 1] 4 pp_2_3_0_1 (H' := ((oSB true q (.ref vv) (.int 0) (.int (ix i))) :: (eB vv (zb as)) :: (oStr rs s (.ref b) (.int 0)) :: (b, rb, .inr (.byte, xb, ob, zb zs)) :: F)) rfl ?_
      refine Wp.callV nm_M_st11 (fun _ => rm_scp hw.set q vv as i (zs.getD i 0) _ (zs_lt hz i) (by omega) (by omega)) 0 rfl (mk_M_scp hw) (w_200 hw) (w_201 hw) (w_203 hw) (w_202 hw) (S' := "") (Or.inl rfl) (by decide) rfl rfl rfl (Wn := 0) rfl rfl (by decide) d_prog_5_3_78 ?_
      rintro _ _ ⟨rfl, rfl⟩
      refine Wp.pop rfl d_prog_5_3_81 ?_
      refine Wp.iload rfl d_prog_5_3_82 ?_
      refine Wp.iload rfl d_prog_5_3_84 ?_
      refine Wp.callS nm_M_st11 (fun _ => rm_chc hw.set (zs.getD i 0) _ (zs_lt hz i)) (mk_M_chc hw) (w_235 hw) (w_236 hw) rfl rfl (Wn := 1) rfl rfl (by decide) d_prog_5_3_86 ?_
      rintro _ _ ⟨rfl, rfl⟩
      refine Wp.iadd (z := (ix (i + 1))) (ix_add _ _) d_prog_5_3_89 ?_
      refine Wp.istore (L' := [.val (.ref s), .val (.int 1), .val (.int 1), .val (.int (ix zs.length)), .val (.ref q), .val (.int (ix (i + 1))), .val (.int (ix i)), .val (.int (ix (zs.getD i 0))), .val (.int 1)]) rfl d_prog_5_3_90 ?_
      refine Wp.iinc (z := (ix (i + 1))) (L' := [.val (.ref s), .val (.int 1), .val (.int 1), .val (.int (ix zs.length)), .val (.ref q), .val (.int (ix (i + 1))), .val (.int (ix (i + 1))), .val (.int (ix (zs.getD i 0))), .val (.int 1)]) rfl (ix_inc _) rfl d_prog_5_3_92 ?_
      refine Wp.goto d_prog_5_3_95 ?_
      refine Wp.perm [2, 3, 0, 1] 4 pp_2_3_0_1 (H' := ((oStr rs s (.ref b) (.int 0)) :: (b, rb, .inr (.byte, xb, ob, zb zs)) :: (oSB true q (.ref vv) (.int 0) (.int (ix (i + 1)))) :: (eB vv (zb (as.set i (zs.getD i 0)))) :: F)) rfl ?_
      refine Wp.room (c' := 2) (n' := 68) (by decide) (by decide) ?_
      exact lp_st11 hw s b rs rb xb ob zs q vv F hz hl Q hQ t (i + 1) (as.set i (zs.getD i 0)) (.val (.int (ix (zs.getD i 0)))) (.val (.int 1)) (by omega) (by rw [List.length_set]; omega) (take_set hs (by omega) (by rw [star_get hi2, if_pos (by omega)])) (One.val rfl) (One.val rfl)
    · refine Wp.icF (flt (fun q => b46_1 ((ix_lt (i := i) (j := 1) (by omega) (by omega)).mp q))).1 d_prog_5_3_46 ?_
      refine Wp.iload rfl d_prog_5_3_49 ?_
      refine Wp.iloadN rfl d_prog_5_3_51 ?_
      refine Wp.iloadN rfl d_prog_5_3_52 ?_
      refine Wp.isub (z := (ix (zs.length - 1))) (ix_sub (a := zs.length) (b := 1) (by omega)) d_prog_5_3_53 ?_
      by_cases b54_2 : i < (zs.length - 1)
      · refine Wp.icT (tlt ((ix_lt (i := i) (j := (zs.length - 1)) (by omega) (by omega)).mpr b54_2)).1 d_prog_5_3_54 ?_
        refine Wp.iconst lc_0 d_prog_5_3_61 ?_
        refine Wp.istore (L' := [.val (.ref s), .val (.int 1), .val (.int 1), .val (.int (ix zs.length)), .val (.ref q), .val (.int (ix i)), .val (.int (ix i)), .val (.int (ix (zs.getD i 0))), .val (.int 0)]) (storeOne rfl ho_o8 rfl rfl) d_prog_5_3_62 ?_
        refine Wp.aload rfl rfl d_prog_5_3_64 ?_
        refine Wp.iload rfl d_prog_5_3_66 ?_
        refine Wp.ifT (by decide) d_prog_5_3_68 ?_
        refine Wp.bipush lb_42 d_prog_5_3_76 ?_
        refine Wp.perm [2, 3, 0, 1] 4 pp_2_3_0_1 (H' := ((oSB true q (.ref vv) (.int 0) (.int (ix i))) :: (eB vv (zb as)) :: (oStr rs s (.ref b) (.int 0)) :: (b, rb, .inr (.byte, xb, ob, zb zs)) :: F)) rfl ?_
        refine Wp.callV nm_M_st11 (fun _ => rm_scp hw.set q vv as i 42 _ (by omega) (by omega) (by omega)) 0 rfl (mk_M_scp hw) (w_200 hw) (w_201 hw) (w_203 hw) (w_202 hw) (S' := "") (Or.inl rfl) (by decide) rfl rfl rfl (Wn := 0) rfl rfl (by decide) d_prog_5_3_78 ?_
        rintro _ _ ⟨rfl, rfl⟩
        refine Wp.pop rfl d_prog_5_3_81 ?_
        refine Wp.iload rfl d_prog_5_3_82 ?_
        refine Wp.iload rfl d_prog_5_3_84 ?_
        refine Wp.callS nm_M_st11 (fun _ => rm_chc hw.set (zs.getD i 0) _ (zs_lt hz i)) (mk_M_chc hw) (w_235 hw) (w_236 hw) rfl rfl (Wn := 1) rfl rfl (by decide) d_prog_5_3_86 ?_
        rintro _ _ ⟨rfl, rfl⟩
        refine Wp.iadd (z := (ix (i + 1))) (ix_add _ _) d_prog_5_3_89 ?_
        refine Wp.istore (L' := [.val (.ref s), .val (.int 1), .val (.int 1), .val (.int (ix zs.length)), .val (.ref q), .val (.int (ix (i + 1))), .val (.int (ix i)), .val (.int (ix (zs.getD i 0))), .val (.int 0)]) rfl d_prog_5_3_90 ?_
        refine Wp.iinc (z := (ix (i + 1))) (L' := [.val (.ref s), .val (.int 1), .val (.int 1), .val (.int (ix zs.length)), .val (.ref q), .val (.int (ix (i + 1))), .val (.int (ix (i + 1))), .val (.int (ix (zs.getD i 0))), .val (.int 0)]) rfl (ix_inc _) rfl d_prog_5_3_92 ?_
        refine Wp.goto d_prog_5_3_95 ?_
        refine Wp.perm [2, 3, 0, 1] 4 pp_2_3_0_1 (H' := ((oStr rs s (.ref b) (.int 0)) :: (b, rb, .inr (.byte, xb, ob, zb zs)) :: (oSB true q (.ref vv) (.int 0) (.int (ix (i + 1)))) :: (eB vv (zb (as.set i 42))) :: F)) rfl ?_
        refine Wp.room (c' := 2) (n' := 68) (by decide) (by decide) ?_
        exact lp_st11 hw s b rs rb xb ob zs q vv F hz hl Q hQ t (i + 1) (as.set i 42) (.val (.int (ix (zs.getD i 0)))) (.val (.int 0)) (by omega) (by rw [List.length_set]; omega) (take_set hs (by omega) (by rw [star_get hi2, if_neg (by omega)])) (One.val rfl) (One.val rfl)
      · refine Wp.icF (flt (fun q => b54_2 ((ix_lt (i := i) (j := (zs.length - 1)) (by omega) (by omega)).mp q))).1 d_prog_5_3_54 ?_
        refine Wp.iconst lc_1 d_prog_5_3_57 ?_
        refine Wp.goto d_prog_5_3_58 ?_
        refine Wp.istore (L' := [.val (.ref s), .val (.int 1), .val (.int 1), .val (.int (ix zs.length)), .val (.ref q), .val (.int (ix i)), .val (.int (ix i)), .val (.int (ix (zs.getD i 0))), .val (.int 1)]) (storeOne rfl ho_o8 rfl rfl) d_prog_5_3_62 ?_
        refine Wp.aload rfl rfl d_prog_5_3_64 ?_
        refine Wp.iload rfl d_prog_5_3_66 ?_
        refine Wp.ifF (by decide) d_prog_5_3_68 ?_
        refine Wp.iload rfl d_prog_5_3_71 ?_
        refine Wp.goto d_prog_5_3_73 ?_
        refine Wp.perm [2, 3, 0, 1] 4 pp_2_3_0_1 (H' := ((oSB true q (.ref vv) (.int 0) (.int (ix i))) :: (eB vv (zb as)) :: (oStr rs s (.ref b) (.int 0)) :: (b, rb, .inr (.byte, xb, ob, zb zs)) :: F)) rfl ?_
        refine Wp.callV nm_M_st11 (fun _ => rm_scp hw.set q vv as i (zs.getD i 0) _ (zs_lt hz i) (by omega) (by omega)) 0 rfl (mk_M_scp hw) (w_200 hw) (w_201 hw) (w_203 hw) (w_202 hw) (S' := "") (Or.inl rfl) (by decide) rfl rfl rfl (Wn := 0) rfl rfl (by decide) d_prog_5_3_78 ?_
        rintro _ _ ⟨rfl, rfl⟩
        refine Wp.pop rfl d_prog_5_3_81 ?_
        refine Wp.iload rfl d_prog_5_3_82 ?_
        refine Wp.iload rfl d_prog_5_3_84 ?_
        refine Wp.callS nm_M_st11 (fun _ => rm_chc hw.set (zs.getD i 0) _ (zs_lt hz i)) (mk_M_chc hw) (w_235 hw) (w_236 hw) rfl rfl (Wn := 1) rfl rfl (by decide) d_prog_5_3_86 ?_
        rintro _ _ ⟨rfl, rfl⟩
        refine Wp.iadd (z := (ix (i + 1))) (ix_add _ _) d_prog_5_3_89 ?_
        refine Wp.istore (L' := [.val (.ref s), .val (.int 1), .val (.int 1), .val (.int (ix zs.length)), .val (.ref q), .val (.int (ix (i + 1))), .val (.int (ix i)), .val (.int (ix (zs.getD i 0))), .val (.int 1)]) rfl d_prog_5_3_90 ?_
        refine Wp.iinc (z := (ix (i + 1))) (L' := [.val (.ref s), .val (.int 1), .val (.int 1), .val (.int (ix zs.length)), .val (.ref q), .val (.int (ix (i + 1))), .val (.int (ix (i + 1))), .val (.int (ix (zs.getD i 0))), .val (.int 1)]) rfl (ix_inc _) rfl d_prog_5_3_92 ?_
        refine Wp.goto d_prog_5_3_95 ?_
        refine Wp.perm [2, 3, 0, 1] 4 pp_2_3_0_1 (H' := ((oStr rs s (.ref b) (.int 0)) :: (b, rb, .inr (.byte, xb, ob, zb zs)) :: (oSB true q (.ref vv) (.int 0) (.int (ix (i + 1)))) :: (eB vv (zb (as.set i (zs.getD i 0)))) :: F)) rfl ?_
        refine Wp.room (c' := 2) (n' := 68) (by decide) (by decide) ?_
        exact lp_st11 hw s b rs rb xb ob zs q vv F hz hl Q hQ t (i + 1) (as.set i (zs.getD i 0)) (.val (.int (ix (zs.getD i 0)))) (.val (.int 1)) (by omega) (by rw [List.length_set]; omega) (take_set hs (by omega) (by rw [star_get hi2, if_pos (by omega)])) (One.val rfl) (One.val rfl)
set_option maxRecDepth 65536 in
set_option maxHeartbeats 40000000 in
theorem rm_st11 {W : Wd} (hw : Ws W) (s : Addr) (b : Addr) (rs : Bool) (rb : Bool) (xb : Bool) (ob : Bool) (zs : List Nat) (F : List En) (hz : ∀ z ∈ zs, z < 256) (hl : zs.length ≤ 64) : Ct W M_st11 [.ref s, .int 1, .int 1] ((oStr rs s (.ref b) (.int 0)) :: (b, rb, .inr (.byte, xb, ob, zb zs)) :: F) (fun v H' => ∃ q r, v = some (.ref q) ∧ H' = ((oStr true q (.ref r) (.int 0)) :: (eB r (zb (star 1 1 zs))) :: (oStr rs s (.ref b) (.int 0)) :: (b, rb, .inr (.byte, xb, ob, zb zs)) :: F)) := by
  refine Ct.intro (L0 := [.val (.ref s), .val (.int 1), .val (.int 1), .unset, .unset, .unset, .unset, .unset, .unset]) (plainFor_of_name pf_com_example_polje_polje_Obfuscators) rfl (fun K => ?_)
  refine Wp.aloadN rfl rfl d_prog_5_3_0 ?_
  refine Wp.iconst lc_0 d_prog_5_3_1 ?_
  refine Wp.aloadN rfl rfl d_prog_5_3_2 ?_
  refine Wp.callV nm_M_st11 (fun _ => rm_len hw.set s b rs rb xb ob zs _ ) 0 rfl (mk_M_len hw) (w_80 hw) (w_54 hw) (w_56 hw) (w_55 hw) (S' := "") (Or.inl rfl) (by decide) rfl rfl rfl (Wn := 2) rfl rfl (by decide) d_prog_5_3_3 ?_
  rintro _ _ ⟨rfl, rfl⟩
  refine Wp.callV nm_M_st11 (fun _ => rm_cpc hw.set s b rs rb xb ob zs _ (by omega)) 0 rfl (mk_M_cpc hw) (w_81 hw) (w_82 hw) (w_84 hw) (w_83 hw) (S' := "") (Or.inl rfl) (by decide) rfl rfl rfl (Wn := 0) rfl rfl (by decide) d_prog_5_3_6 ?_
  rintro _ _ ⟨rfl, rfl⟩
  refine Wp.istoreN (L' := [.val (.ref s), .val (.int 1), .val (.int 1), .val (.int (ix (zs.length - 0))), .unset, .unset, .unset, .unset, .unset]) rfl d_prog_5_3_9 ?_
  refine Wp.newO nm_M_st11 (w_94 hw) (w_95 hw) (w_96 hw) (nf_oSB hw) (by decide) (by decide) d_prog_5_3_10 (fun a1 => ?_)
  refine Wp.dup rfl d_prog_5_3_13 ?_
  refine Wp.aloadN rfl rfl d_prog_5_3_14 ?_
  refine Wp.perm [1, 2, 0] 3 pp_1_2_0 (H' := ((oStr rs s (.ref b) (.int 0)) :: (b, rb, .inr (.byte, xb, ob, zb zs)) :: (oSB true a1 (.null) (.int 0) (.int 0)) :: F)) rfl ?_
  refine Wp.callV nm_M_st11 (fun _ => rm_len hw.set s b rs rb xb ob zs _ ) 0 rfl (mk_M_len hw) (w_80 hw) (w_54 hw) (w_56 hw) (w_55 hw) (S' := "") (Or.inl rfl) (by decide) rfl rfl rfl (Wn := 2) rfl rfl (by decide) d_prog_5_3_15 ?_
  rintro _ _ ⟨rfl, rfl⟩
  refine Wp.perm [2, 0, 1] 3 pp_2_0_1 (H' := ((oSB true a1 (.null) (.int 0) (.int 0)) :: (oStr rs s (.ref b) (.int 0)) :: (b, rb, .inr (.byte, xb, ob, zb zs)) :: F)) rfl ?_
  refine Wp.callC nm_M_st11 (fun _ => rm_sbi hw.set a1 zs.length _ (by omega)) (mk_M_sbi hw) (w_97 hw) (w_98 hw) rfl rfl rfl rfl (Wn := 1) rfl rfl (by decide) d_prog_5_3_18 ?_
  rintro _ _ ⟨vv_2, rfl, rfl⟩
  refine Wp.astore (L' := [.val (.ref s), .val (.int 1), .val (.int 1), .val (.int (ix (zs.length - 0))), .val (.ref a1), .unset, .unset, .unset, .unset]) rfl rfl d_prog_5_3_21 ?_
  refine Wp.iconst lc_0 d_prog_5_3_23 ?_
  refine Wp.istore (L' := [.val (.ref s), .val (.int 1), .val (.int 1), .val (.int (ix (zs.length - 0))), .val (.ref a1), .val (.int 0), .unset, .unset, .unset]) rfl d_prog_5_3_24 ?_
  refine Wp.iconst lc_0 d_prog_5_3_26 ?_
  refine Wp.istore (L' := [.val (.ref s), .val (.int 1), .val (.int 1), .val (.int (ix (zs.length - 0))), .val (.ref a1), .val (.int 0), .val (.int 0), .unset, .unset]) rfl d_prog_5_3_27 ?_
  refine Wp.perm [2, 3, 0, 1] 4 pp_2_3_0_1 (H' := ((oStr rs s (.ref b) (.int 0)) :: (b, rb, .inr (.byte, xb, ob, zb zs)) :: (oSB true a1 (.ref vv_2) (.int 0) (.int 0)) :: (eB vv_2 (zb (List.replicate zs.length 0))) :: F)) rfl ?_
  refine Wp.room (c' := 2) (n' := 68) (by decide) (by decide) ?_
  exact lp_st11 hw s b rs rb xb ob zs a1 vv_2 F hz hl _ (fun q2 r2 as e => ⟨q2, r2, rfl, by rw [e]⟩) zs.length 0 (List.replicate zs.length 0) _ _ (by omega) (List.length_replicate ..) rfl One.u One.u
theorem d_prog_5_2_0 : Dc prog_5_method_2_code 0 (.aload_n 0) 1 1 := ⟨by decide +kernel, rfl⟩
theorem d_prog_5_2_1 : Dc prog_5_method_2_code 1 (.bipush 64) 2 3 := ⟨by decide +kernel, rfl⟩
theorem lb_64 : (Int8.ofInt 64).toInt32 = 64 := by decide
theorem d_prog_5_2_3 : Dc prog_5_method_2_code 3 (.invokevirtual 7) 3 6 := ⟨by decide +kernel, rfl⟩
theorem w_40 {W : Wd} (hw : Ws W) : Wok W (Jvm.Cond.selects "java/lang/String" ({ cls := "java/lang/String", name := "indexOf", desc := "(I)I" } : Jvm.MethodName) ({ cls := "java/lang/String", name := "indexOf", desc := "(I)I" } : Jvm.MethodName)) := hw.1 _ (List.mem_of_getElem? (i := 40) rfl)
theorem w_41 {W : Wd} (hw : Ws W) : Wok W (Jvm.Cond.code ({ cls := "java/lang/String", name := "indexOf", desc := "(I)I" } : Jvm.MethodName) jdk_42_method_79_code (2 : Nat) (Option.some Jvm.ClassFile.FieldType.int)) := hw.1 _ (List.mem_of_getElem? (i := 41) rfl)
theorem mk_M_si064 {W : Wd} (hw : Ws W) : Mk W M_si064 ⟨"java/lang/String", "indexOf", "(I)I"⟩ 1 := Mk.of nm_M_si064 rfl rfl rfl (w_41 hw) (w_11 hw) (mkLen pd__I_I rfl) (by decide)
theorem w_37 {W : Wd} (hw : Ws W) : Wok W (Jvm.Cond.methodLink "com/example/polje/polje/Obfuscators" (7 : Nat) ({ cls := "java/lang/String", name := "indexOf", desc := "(I)I" } : Jvm.MethodName)) := hw.1 _ (List.mem_of_getElem? (i := 37) rfl)
theorem w_38 {W : Wd} (hw : Ws W) : Wok W (Jvm.Cond.declares ({ cls := "java/lang/String", name := "indexOf", desc := "(I)I" } : Jvm.MethodName)) := hw.1 _ (List.mem_of_getElem? (i := 38) rfl)
theorem w_39 {W : Wd} (hw : Ws W) : Wok W (Jvm.Cond.instanceMethod ({ cls := "java/lang/String", name := "indexOf", desc := "(I)I" } : Jvm.MethodName)) := hw.1 _ (List.mem_of_getElem? (i := 39) rfl)
theorem d_prog_5_2_6 : Dc prog_5_method_2_code 6 (.istore_n 1) 1 7 := ⟨by decide +kernel, rfl⟩
theorem d_prog_5_2_7 : Dc prog_5_method_2_code 7 (.iload_n 1) 1 8 := ⟨by decide +kernel, rfl⟩
theorem d_prog_5_2_8 : Bj prog_5_method_2_code 8 (.ifCond .le 27) 27 11 35 := ⟨by decide +kernel, rfl, by decide, rfl⟩
theorem d_prog_5_2_11 : Dc prog_5_method_2_code 11 (.iload_n 1) 1 12 := ⟨by decide +kernel, rfl⟩
theorem d_prog_5_2_12 : Dc prog_5_method_2_code 12 (.aload_n 0) 1 13 := ⟨by decide +kernel, rfl⟩
theorem d_prog_5_2_13 : Dc prog_5_method_2_code 13 (.bipush 64) 2 15 := ⟨by decide +kernel, rfl⟩
theorem d_prog_5_2_15 : Dc prog_5_method_2_code 15 (.invokevirtual 13) 3 18 := ⟨by decide +kernel, rfl⟩
theorem w_178 {W : Wd} (hw : Ws W) : Wok W (Jvm.Cond.selects "java/lang/String" ({ cls := "java/lang/String", name := "lastIndexOf", desc := "(I)I" } : Jvm.MethodName) ({ cls := "java/lang/String", name := "lastIndexOf", desc := "(I)I" } : Jvm.MethodName)) := hw.1 _ (List.mem_of_getElem? (i := 178) rfl)
theorem w_179 {W : Wd} (hw : Ws W) : Wok W (Jvm.Cond.code ({ cls := "java/lang/String", name := "lastIndexOf", desc := "(I)I" } : Jvm.MethodName) jdk_42_method_82_code (2 : Nat) (Option.some Jvm.ClassFile.FieldType.int)) := hw.1 _ (List.mem_of_getElem? (i := 179) rfl)
theorem mk_M_sl1 {W : Wd} (hw : Ws W) : Mk W M_sl1 ⟨"java/lang/String", "lastIndexOf", "(I)I"⟩ 1 := Mk.of nm_M_sl1 rfl rfl rfl (w_179 hw) (w_11 hw) (mkLen pd__I_I rfl) (by decide)
theorem w_175 {W : Wd} (hw : Ws W) : Wok W (Jvm.Cond.methodLink "com/example/polje/polje/Obfuscators" (13 : Nat) ({ cls := "java/lang/String", name := "lastIndexOf", desc := "(I)I" } : Jvm.MethodName)) := hw.1 _ (List.mem_of_getElem? (i := 175) rfl)
theorem w_176 {W : Wd} (hw : Ws W) : Wok W (Jvm.Cond.declares ({ cls := "java/lang/String", name := "lastIndexOf", desc := "(I)I" } : Jvm.MethodName)) := hw.1 _ (List.mem_of_getElem? (i := 176) rfl)
theorem w_177 {W : Wd} (hw : Ws W) : Wok W (Jvm.Cond.instanceMethod ({ cls := "java/lang/String", name := "lastIndexOf", desc := "(I)I" } : Jvm.MethodName)) := hw.1 _ (List.mem_of_getElem? (i := 177) rfl)
theorem d_prog_5_2_18 : Bj prog_5_method_2_code 18 (.if_icmp .ne 17) 17 21 35 := ⟨by decide +kernel, rfl, by decide, rfl⟩
theorem d_prog_5_2_21 : Dc prog_5_method_2_code 21 (.iload_n 1) 1 22 := ⟨by decide +kernel, rfl⟩
theorem d_prog_5_2_22 : Dc prog_5_method_2_code 22 (.aload_n 0) 1 23 := ⟨by decide +kernel, rfl⟩
theorem d_prog_5_2_23 : Dc prog_5_method_2_code 23 (.invokevirtual 16) 3 26 := ⟨by decide +kernel, rfl⟩
theorem d_prog_5_2_26 : Dc prog_5_method_2_code 26 (.iconst 1) 1 27 := ⟨by decide +kernel, rfl⟩
theorem d_prog_5_2_27 : Dc prog_5_method_2_code 27 (.isub) 1 28 := ⟨by decide +kernel, rfl⟩
theorem d_prog_5_2_28 : Bj prog_5_method_2_code 28 (.if_icmp .ge 7) 7 31 35 := ⟨by decide +kernel, rfl, by decide, rfl⟩
theorem d_prog_5_2_31 : Dc prog_5_method_2_code 31 (.iconst 1) 1 32 := ⟨by decide +kernel, rfl⟩
theorem d_prog_5_2_32 : Bj prog_5_method_2_code 32 (.goto 4) 4 35 36 := ⟨by decide +kernel, rfl, by decide, rfl⟩
theorem d_prog_5_2_36 : Dc prog_5_method_2_code 36 (.istore_n 2) 1 37 := ⟨by decide +kernel, rfl⟩
theorem d_prog_5_2_37 : Dc prog_5_method_2_code 37 (.iload_n 2) 1 38 := ⟨by decide +kernel, rfl⟩
theorem d_prog_5_2_38 : Bj prog_5_method_2_code 38 (.ifCond .ne 10) 10 41 48 := ⟨by decide +kernel, rfl, by decide, rfl⟩
theorem d_prog_5_2_48 : Dc prog_5_method_2_code 48 (.aload_n 0) 1 49 := ⟨by decide +kernel, rfl⟩
theorem d_prog_5_2_49 : Dc prog_5_method_2_code 49 (.iconst 0) 1 50 := ⟨by decide +kernel, rfl⟩
theorem d_prog_5_2_50 : Dc prog_5_method_2_code 50 (.iload_n 1) 1 51 := ⟨by decide +kernel, rfl⟩
theorem d_prog_5_2_51 : Dc prog_5_method_2_code 51 (.invokevirtual 26) 3 54 := ⟨by decide +kernel, rfl⟩
theorem mk_M_suB {W : Wd} (hw : Ws W) : Mk W M_suB ⟨"java/lang/String", "substring", "(II)Ljava/lang/String;"⟩ 2 := Mk.of nm_M_suB rfl rfl rfl (w_255 hw) (w_11 hw) (mkLen pd__II_Ljava_lang_String_ rfl) (by decide)
theorem w_251 {W : Wd} (hw : Ws W) : Wok W (Jvm.Cond.methodLink "com/example/polje/polje/Obfuscators" (26 : Nat) ({ cls := "java/lang/String", name := "substring", desc := "(II)Ljava/lang/String;" } : Jvm.MethodName)) := hw.1 _ (List.mem_of_getElem? (i := 251) rfl)
theorem d_prog_5_2_54 : Dc prog_5_method_2_code 54 (.astore_n 3) 1 55 := ⟨by decide +kernel, rfl⟩
theorem d_prog_5_2_55 : Dc prog_5_method_2_code 55 (.aload_n 0) 1 56 := ⟨by decide +kernel, rfl⟩
theorem d_prog_5_2_56 : Dc prog_5_method_2_code 56 (.iload_n 1) 1 57 := ⟨by decide +kernel, rfl⟩
theorem d_prog_5_2_57 : Dc prog_5_method_2_code 57 (.iconst 1) 1 58 := ⟨by decide +kernel, rfl⟩
theorem d_prog_5_2_58 : Dc prog_5_method_2_code 58 (.iadd) 1 59 := ⟨by decide +kernel, rfl⟩
theorem d_prog_5_2_59 : Dc prog_5_method_2_code 59 (.invokevirtual 30) 3 62 := ⟨by decide +kernel, rfl⟩
theorem w_282 {W : Wd} (hw : Ws W) : Wok W (Jvm.Cond.selects "java/lang/String" ({ cls := "java/lang/String", name := "substring", desc := "(I)Ljava/lang/String;" } : Jvm.MethodName) ({ cls := "java/lang/String", name := "substring", desc := "(I)Ljava/lang/String;" } : Jvm.MethodName)) := hw.1 _ (List.mem_of_getElem? (i := 282) rfl)
theorem w_283 {W : Wd} (hw : Ws W) : Wok W (Jvm.Cond.code ({ cls := "java/lang/String", name := "substring", desc := "(I)Ljava/lang/String;" } : Jvm.MethodName) jdk_42_method_91_code (2 : Nat) (Option.some (Jvm.ClassFile.FieldType.object "java/lang/String"))) := hw.1 _ (List.mem_of_getElem? (i := 283) rfl)
theorem pd__I_Ljava_lang_String_ : parseMethodDescriptor "(I)Ljava/lang/String;" = some ⟨[.int], some (.object "java/lang/String")⟩ := by decide +kernel
theorem mk_M_s1A {W : Wd} (hw : Ws W) : Mk W M_s1A ⟨"java/lang/String", "substring", "(I)Ljava/lang/String;"⟩ 1 := Mk.of nm_M_s1A rfl rfl rfl (w_283 hw) (w_11 hw) (mkLen pd__I_Ljava_lang_String_ rfl) (by decide)
theorem w_279 {W : Wd} (hw : Ws W) : Wok W (Jvm.Cond.methodLink "com/example/polje/polje/Obfuscators" (30 : Nat) ({ cls := "java/lang/String", name := "substring", desc := "(I)Ljava/lang/String;" } : Jvm.MethodName)) := hw.1 _ (List.mem_of_getElem? (i := 279) rfl)
theorem w_280 {W : Wd} (hw : Ws W) : Wok W (Jvm.Cond.declares ({ cls := "java/lang/String", name := "substring", desc := "(I)Ljava/lang/String;" } : Jvm.MethodName)) := hw.1 _ (List.mem_of_getElem? (i := 280) rfl)
theorem w_281 {W : Wd} (hw : Ws W) : Wok W (Jvm.Cond.instanceMethod ({ cls := "java/lang/String", name := "substring", desc := "(I)Ljava/lang/String;" } : Jvm.MethodName)) := hw.1 _ (List.mem_of_getElem? (i := 281) rfl)
theorem d_prog_5_2_62 : Dc prog_5_method_2_code 62 (.astore 4) 2 64 := ⟨by decide +kernel, rfl⟩
theorem d_prog_5_2_64 : Dc prog_5_method_2_code 64 (.aload 4) 2 66 := ⟨by decide +kernel, rfl⟩
theorem d_prog_5_2_66 : Dc prog_5_method_2_code 66 (.bipush 46) 2 68 := ⟨by decide +kernel, rfl⟩
theorem lb_46 : (Int8.ofInt 46).toInt32 = 46 := by decide
theorem d_prog_5_2_68 : Dc prog_5_method_2_code 68 (.invokevirtual 7) 3 71 := ⟨by decide +kernel, rfl⟩
theorem mk_M_si046 {W : Wd} (hw : Ws W) : Mk W M_si046 ⟨"java/lang/String", "indexOf", "(I)I"⟩ 1 := Mk.of nm_M_si046 rfl rfl rfl (w_41 hw) (w_11 hw) (mkLen pd__I_I rfl) (by decide)
theorem d_prog_5_2_71 : Dc prog_5_method_2_code 71 (.istore 5) 2 73 := ⟨by decide +kernel, rfl⟩
theorem d_prog_5_2_73 : Dc prog_5_method_2_code 73 (.iload 5) 2 75 := ⟨by decide +kernel, rfl⟩
theorem d_prog_5_2_75 : Bj prog_5_method_2_code 75 (.ifCond .ge 8) 8 78 83 := ⟨by decide +kernel, rfl, by decide, rfl⟩
theorem d_prog_5_2_83 : Dc prog_5_method_2_code 83 (.aload 4) 2 85 := ⟨by decide +kernel, rfl⟩
theorem d_prog_5_2_85 : Dc prog_5_method_2_code 85 (.iconst 0) 1 86 := ⟨by decide +kernel, rfl⟩
theorem d_prog_5_2_86 : Dc prog_5_method_2_code 86 (.iload 5) 2 88 := ⟨by decide +kernel, rfl⟩
theorem d_prog_5_2_88 : Dc prog_5_method_2_code 88 (.invokevirtual 26) 3 91 := ⟨by decide +kernel, rfl⟩
theorem mk_M_su0 {W : Wd} (hw : Ws W) : Mk W M_su0 ⟨"java/lang/String", "substring", "(II)Ljava/lang/String;"⟩ 2 := Mk.of nm_M_su0 rfl rfl rfl (w_255 hw) (w_11 hw) (mkLen pd__II_Ljava_lang_String_ rfl) (by decide)
theorem d_prog_5_2_91 : Dc prog_5_method_2_code 91 (.astore 6) 2 93 := ⟨by decide +kernel, rfl⟩
theorem d_prog_5_2_93 : Dc prog_5_method_2_code 93 (.iload 5) 2 95 := ⟨by decide +kernel, rfl⟩
theorem d_prog_5_2_95 : Bj prog_5_method_2_code 95 (.ifCond .ge 8) 8 98 103 := ⟨by decide +kernel, rfl, by decide, rfl⟩
theorem d_prog_5_2_103 : Dc prog_5_method_2_code 103 (.aload 4) 2 105 := ⟨by decide +kernel, rfl⟩
theorem d_prog_5_2_105 : Dc prog_5_method_2_code 105 (.iload 5) 2 107 := ⟨by decide +kernel, rfl⟩
theorem d_prog_5_2_107 : Dc prog_5_method_2_code 107 (.invokevirtual 30) 3 110 := ⟨by decide +kernel, rfl⟩
theorem mk_M_s1W {W : Wd} (hw : Ws W) : Mk W M_s1W ⟨"java/lang/String", "substring", "(I)Ljava/lang/String;"⟩ 1 := Mk.of nm_M_s1W rfl rfl rfl (w_283 hw) (w_11 hw) (mkLen pd__I_Ljava_lang_String_ rfl) (by decide)
theorem d_prog_5_2_110 : Dc prog_5_method_2_code 110 (.astore 7) 2 112 := ⟨by decide +kernel, rfl⟩
theorem d_prog_5_2_112 : Dc prog_5_method_2_code 112 (.new 35) 3 115 := ⟨by decide +kernel, rfl⟩
theorem d_prog_5_2_115 : Dc prog_5_method_2_code 115 (.dup) 1 116 := ⟨by decide +kernel, rfl⟩
theorem d_prog_5_2_116 : Dc prog_5_method_2_code 116 (.invokespecial 37) 3 119 := ⟨by decide +kernel, rfl⟩
theorem w_288 {W : Wd} (hw : Ws W) : Wok W (Jvm.Cond.code ({ cls := "java/lang/StringBuilder", name := "<init>", desc := "()V" } : Jvm.MethodName) jdk_67_method_1_code (1 : Nat) (Option.none : Option Jvm.ClassFile.FieldType)) := hw.1 _ (List.mem_of_getElem? (i := 288) rfl)
theorem pd___V : parseMethodDescriptor "()V" = some ⟨[], none⟩ := by decide +kernel
theorem mk_M_sb0 {W : Wd} (hw : Ws W) : Mk W M_sb0 ⟨"java/lang/StringBuilder", "<init>", "()V"⟩ 0 := Mk.of nm_M_sb0 rfl rfl rfl (w_288 hw) (w_96 hw) (mkLen pd___V rfl) (by decide)
theorem w_286 {W : Wd} (hw : Ws W) : Wok W (Jvm.Cond.methodLink "com/example/polje/polje/Obfuscators" (37 : Nat) ({ cls := "java/lang/StringBuilder", name := "<init>", desc := "()V" } : Jvm.MethodName)) := hw.1 _ (List.mem_of_getElem? (i := 286) rfl)
theorem w_287 {W : Wd} (hw : Ws W) : Wok W (Jvm.Cond.instanceMethod ({ cls := "java/lang/StringBuilder", name := "<init>", desc := "()V" } : Jvm.MethodName)) := hw.1 _ (List.mem_of_getElem? (i := 287) rfl)
theorem d_prog_5_2_119 : Dc prog_5_method_2_code 119 (.aload_n 3) 1 120 := ⟨by decide +kernel, rfl⟩
theorem d_prog_5_2_120 : Dc prog_5_method_2_code 120 (.iconst 1) 1 121 := ⟨by decide +kernel, rfl⟩
theorem d_prog_5_2_121 : Dc prog_5_method_2_code 121 (.iconst 0) 1 122 := ⟨by decide +kernel, rfl⟩
theorem d_prog_5_2_122 : Dc prog_5_method_2_code 122 (.invokestatic 20) 3 125 := ⟨by decide +kernel, rfl⟩
theorem pp_8_9_0_1_2_3_4_5_6_7 : [8, 9, 0, 1, 2, 3, 4, 5, 6, 7].isPerm (List.range 10) = true := by decide +kernel
theorem w_79 {W : Wd} (hw : Ws W) : Wok W (Jvm.Cond.code ({ cls := "com/example/polje/polje/Obfuscators", name := "starred", desc := "(Ljava/lang/String;II)Ljava/lang/String;" } : Jvm.MethodName) prog_5_method_3_code (9 : Nat) (Option.some (Jvm.ClassFile.FieldType.object "java/lang/String"))) := hw.1 _ (List.mem_of_getElem? (i := 79) rfl)
theorem w_35 {W : Wd} (hw : Ws W) : Wok W (Jvm.Cond.initialized "com/example/polje/polje/Obfuscators") := hw.1 _ (List.mem_of_getElem? (i := 35) rfl)
theorem pd__Ljava_lang_String_II_Ljava_lang_String_ : parseMethodDescriptor "(Ljava/lang/String;II)Ljava/lang/String;" = some ⟨[(.object "java/lang/String"), .int, .int], some (.object "java/lang/String")⟩ := by decide +kernel
theorem mk_M_st10 {W : Wd} (hw : Ws W) : Mk W M_st10 ⟨"com/example/polje/polje/Obfuscators", "starred", "(Ljava/lang/String;II)Ljava/lang/String;"⟩ 3 := Mk.of nm_M_st10 rfl rfl rfl (w_79 hw) (w_35 hw) (mkLen pd__Ljava_lang_String_II_Ljava_lang_String_ rfl) (by decide)
theorem w_77 {W : Wd} (hw : Ws W) : Wok W (Jvm.Cond.methodLink "com/example/polje/polje/Obfuscators" (20 : Nat) ({ cls := "com/example/polje/polje/Obfuscators", name := "starred", desc := "(Ljava/lang/String;II)Ljava/lang/String;" } : Jvm.MethodName)) := hw.1 _ (List.mem_of_getElem? (i := 77) rfl)
theorem w_78 {W : Wd} (hw : Ws W) : Wok W (Jvm.Cond.static ({ cls := "com/example/polje/polje/Obfuscators", name := "starred", desc := "(Ljava/lang/String;II)Ljava/lang/String;" } : Jvm.MethodName)) := hw.1 _ (List.mem_of_getElem? (i := 78) rfl)
theorem d_prog_5_2_125 : Dc prog_5_method_2_code 125 (.invokevirtual 38) 3 128 := ⟨by decide +kernel, rfl⟩
theorem w_292 {W : Wd} (hw : Ws W) : Wok W (Jvm.Cond.selects "java/lang/StringBuilder" ({ cls := "java/lang/StringBuilder", name := "append", desc := "(Ljava/lang/String;)Ljava/lang/StringBuilder;" } : Jvm.MethodName) ({ cls := "java/lang/StringBuilder", name := "append", desc := "(Ljava/lang/String;)Ljava/lang/StringBuilder;" } : Jvm.MethodName)) := hw.1 _ (List.mem_of_getElem? (i := 292) rfl)
theorem pp_4_5_0_1_2_3 : [4, 5, 0, 1, 2, 3].isPerm (List.range 6) = true := by decide +kernel
theorem w_293 {W : Wd} (hw : Ws W) : Wok W (Jvm.Cond.code ({ cls := "java/lang/StringBuilder", name := "append", desc := "(Ljava/lang/String;)Ljava/lang/StringBuilder;" } : Jvm.MethodName) jdk_67_method_7_code (2 : Nat) (Option.some (Jvm.ClassFile.FieldType.object "java/lang/StringBuilder"))) := hw.1 _ (List.mem_of_getElem? (i := 293) rfl)
theorem pd__Ljava_lang_String__Ljava_lang_StringBuilder_ : parseMethodDescriptor "(Ljava/lang/String;)Ljava/lang/StringBuilder;" = some ⟨[(.object "java/lang/String")], some (.object "java/lang/StringBuilder")⟩ := by decide +kernel
theorem mk_M_ssa {W : Wd} (hw : Ws W) : Mk W M_ssa ⟨"java/lang/StringBuilder", "append", "(Ljava/lang/String;)Ljava/lang/StringBuilder;"⟩ 1 := Mk.of nm_M_ssa rfl rfl rfl (w_293 hw) (w_96 hw) (mkLen pd__Ljava_lang_String__Ljava_lang_StringBuilder_ rfl) (by decide)
theorem w_289 {W : Wd} (hw : Ws W) : Wok W (Jvm.Cond.methodLink "com/example/polje/polje/Obfuscators" (38 : Nat) ({ cls := "java/lang/StringBuilder", name := "append", desc := "(Ljava/lang/String;)Ljava/lang/StringBuilder;" } : Jvm.MethodName)) := hw.1 _ (List.mem_of_getElem? (i := 289) rfl)
theorem w_290 {W : Wd} (hw : Ws W) : Wok W (Jvm.Cond.declares ({ cls := "java/lang/StringBuilder", name := "append", desc := "(Ljava/lang/String;)Ljava/lang/StringBuilder;" } : Jvm.MethodName)) := hw.1 _ (List.mem_of_getElem? (i := 290) rfl)
theorem w_291 {W : Wd} (hw : Ws W) : Wok W (Jvm.Cond.instanceMethod ({ cls := "java/lang/StringBuilder", name := "append", desc := "(Ljava/lang/String;)Ljava/lang/StringBuilder;" } : Jvm.MethodName)) := hw.1 _ (List.mem_of_getElem? (i := 291) rfl)
theorem d_prog_5_2_128 : Dc prog_5_method_2_code 128 (.ldc 42) 2 130 := ⟨by decide +kernel, rfl⟩
theorem d_prog_5_2_130 : Dc prog_5_method_2_code 130 (.invokevirtual 38) 3 133 := ⟨by decide +kernel, rfl⟩
theorem d_prog_5_2_133 : Dc prog_5_method_2_code 133 (.aload 6) 2 135 := ⟨by decide +kernel, rfl⟩
theorem d_prog_5_2_135 : Dc prog_5_method_2_code 135 (.iconst 1) 1 136 := ⟨by decide +kernel, rfl⟩
theorem d_prog_5_2_136 : Dc prog_5_method_2_code 136 (.iconst 1) 1 137 := ⟨by decide +kernel, rfl⟩
theorem d_prog_5_2_137 : Dc prog_5_method_2_code 137 (.invokestatic 20) 3 140 := ⟨by decide +kernel, rfl⟩
theorem pp_10_11_0_1_2_3_4_5_6_7_8_9 : [10, 11, 0, 1, 2, 3, 4, 5, 6, 7, 8, 9].isPerm (List.range 12) = true := by decide +kernel
theorem mk_M_st11 {W : Wd} (hw : Ws W) : Mk W M_st11 ⟨"com/example/polje/polje/Obfuscators", "starred", "(Ljava/lang/String;II)Ljava/lang/String;"⟩ 3 := Mk.of nm_M_st11 rfl rfl rfl (w_79 hw) (w_35 hw) (mkLen pd__Ljava_lang_String_II_Ljava_lang_String_ rfl) (by decide)
theorem d_prog_5_2_140 : Dc prog_5_method_2_code 140 (.invokevirtual 38) 3 143 := ⟨by decide +kernel, rfl⟩
theorem d_prog_5_2_143 : Dc prog_5_method_2_code 143 (.aload 7) 2 145 := ⟨by decide +kernel, rfl⟩
theorem d_prog_5_2_145 : Dc prog_5_method_2_code 145 (.invokevirtual 38) 3 148 := ⟨by decide +kernel, rfl⟩
theorem pp_0_1_12_13_2_3_4_5_6_7_8_9_10_11 : [0, 1, 12, 13, 2, 3, 4, 5, 6, 7, 8, 9, 10, 11].isPerm (List.range 14) = true := by decide +kernel
theorem d_prog_5_2_148 : Dc prog_5_method_2_code 148 (.invokevirtual 44) 3 151 := ⟨by decide +kernel, rfl⟩
theorem mk_M_tosP {W : Wd} (hw : Ws W) : Mk W M_tosP ⟨"java/lang/StringBuilder", "toString", "()Ljava/lang/String;"⟩ 0 := Mk.of nm_M_tosP rfl rfl rfl (w_116 hw) (w_96 hw) (mkLen pd___Ljava_lang_String_ rfl) (by decide)
theorem d_prog_5_2_151 : Dc prog_5_method_2_code 151 (.areturn) 1 152 := ⟨by decide +kernel, rfl⟩
theorem pp_0_1_16_17_2_3_4_5_6_7_8_9_10_11_12_13_14_15 : [0, 1, 16, 17, 2, 3, 4, 5, 6, 7, 8, 9, 10, 11, 12, 13, 14, 15].isPerm (List.range 18) = true := by decide +kernel
theorem pp_12_13_0_1_2_3_4_5_6_7_8_9_10_11 : [12, 13, 0, 1, 2, 3, 4, 5, 6, 7, 8, 9, 10, 11].isPerm (List.range 14) = true := by decide +kernel
theorem pp_0_1_18_19_2_3_4_5_6_7_8_9_10_11_12_13_14_15_16_17 : [0, 1, 18, 19, 2, 3, 4, 5, 6, 7, 8, 9, 10, 11, 12, 13, 14, 15, 16, 17].isPerm (List.range 20) = true := by decide +kernel
theorem d_prog_5_2_78 : Dc prog_5_method_2_code 78 (.aload 4) 2 80 := ⟨by decide +kernel, rfl⟩
theorem d_prog_5_2_80 : Bj prog_5_method_2_code 80 (.goto 11) 11 83 91 := ⟨by decide +kernel, rfl, by decide, rfl⟩
theorem d_prog_5_2_98 : Dc prog_5_method_2_code 98 (.ldc 33) 2 100 := ⟨by decide +kernel, rfl⟩
theorem d_prog_5_2_100 : Bj prog_5_method_2_code 100 (.goto 10) 10 103 110 := ⟨by decide +kernel, rfl, by decide, rfl⟩
theorem d_prog_5_2_35 : Dc prog_5_method_2_code 35 (.iconst 0) 1 36 := ⟨by decide +kernel, rfl⟩
theorem d_prog_5_2_41 : Dc prog_5_method_2_code 41 (.aload_n 0) 1 42 := ⟨by decide +kernel, rfl⟩
theorem d_prog_5_2_42 : Dc prog_5_method_2_code 42 (.iconst 0) 1 43 := ⟨by decide +kernel, rfl⟩
theorem d_prog_5_2_43 : Dc prog_5_method_2_code 43 (.iconst 0) 1 44 := ⟨by decide +kernel, rfl⟩
theorem d_prog_5_2_44 : Dc prog_5_method_2_code 44 (.invokestatic 20) 3 47 := ⟨by decide +kernel, rfl⟩
theorem mk_M_st00 {W : Wd} (hw : Ws W) : Mk W M_st00 ⟨"com/example/polje/polje/Obfuscators", "starred", "(Ljava/lang/String;II)Ljava/lang/String;"⟩ 3 := Mk.of nm_M_st00 rfl rfl rfl (w_79 hw) (w_35 hw) (mkLen pd__Ljava_lang_String_II_Ljava_lang_String_ rfl) (by decide)
theorem d_prog_5_2_47 : Dc prog_5_method_2_code 47 (.areturn) 1 48 := ⟨by decide +kernel, rfl⟩
def M_em : Mt := (⟨"com/example/polje/polje/Obfuscators", "email", "(Ljava/lang/String;)Ljava/lang/String;"⟩, prog_5_method_2_code, 8, some (.object "java/lang/String"), ⟨7, 22, 688, 100⟩)
theorem nm_M_em : mN M_em = ⟨"com/example/polje/polje/Obfuscators", "email", "(Ljava/lang/String;)Ljava/lang/String;"⟩ := by delta mN M_em; rfl
set_option maxRecDepth 65536 in
set_option maxHeartbeats 40000000 in
theorem rm_em {W : Wd} (hw : Ws W) (s : Addr) (b : Addr) (rs : Bool) (rb : Bool) (xb : Bool) (ob : Bool) (zs : List Nat) (F : List En) (hz : ∀ z ∈ zs, z < 256) (hl : zs.length ≤ 64) (h16 : zs.length ≤ 15) : CtW consts_1 W M_em [.ref s] ((oStr rs s (.ref b) (.int 0)) :: (b, rb, .inr (.byte, xb, ob, zb zs)) :: F) (fun v H' => ∃ q r, v = some (.ref q) ∧ H' = ((oStr true q (.ref r) (.int 0)) :: (eB r (zb (emF zs))) :: (oStr rs s (.ref b) (.int 0)) :: (b, rb, .inr (.byte, xb, ob, zb zs)) :: F)) := by
  refine CtW.intro (ew_1 hw) (L0 := [.val (.ref s), .unset, .unset, .unset, .unset, .unset, .unset, .unset]) (plainFor_of_name pf_com_example_polje_polje_Obfuscators) rfl (fun K s0 hk => ?_)
  refine Wp.aloadN rfl rfl d_prog_5_2_0 ?_
  refine Wp.bipush lb_64 d_prog_5_2_1 ?_
  refine Wp.callV nm_M_em (fun _ => rm_si064 hw.set s b rs rb xb ob zs _ hz (by omega)) 0 rfl (mk_M_si064 hw) (w_37 hw) (w_38 hw) (w_40 hw) (w_39 hw) (S' := "") (Or.inl rfl) (by decide) rfl rfl rfl (Wn := 0) rfl rfl (by decide) d_prog_5_2_3 ?_
  rintro _ _ (⟨j_1, rfl, rfl, hf2, hf3, hf4⟩ | ⟨rfl, rfl, hf5⟩)
  · refine Wp.istoreN (L' := [.val (.ref s), .val (.int (ix j_1)), .unset, .unset, .unset, .unset, .unset, .unset]) rfl d_prog_5_2_6 ?_
    refine Wp.iloadN rfl d_prog_5_2_7 ?_
    by_cases b8_6 : 0 < j_1
    · refine Wp.ifF (tlt ((ix_lt (i := 0) (j := j_1) (by omega) (by omega)).mpr b8_6)).2.2.2 d_prog_5_2_8 ?_
      refine Wp.iloadN rfl d_prog_5_2_11 ?_
      refine Wp.aloadN rfl rfl d_prog_5_2_12 ?_
      refine Wp.bipush lb_64 d_prog_5_2_13 ?_
      refine Wp.callV nm_M_em (fun _ => rm_sl1 hw.set s b rs rb xb ob zs _ hz (by omega) ⟨_, hf2, hf4⟩) 0 rfl (mk_M_sl1 hw) (w_175 hw) (w_176 hw) (w_178 hw) (w_177 hw) (S' := "") (Or.inl rfl) (by decide) rfl rfl rfl (Wn := 1) rfl rfl (by decide) d_prog_5_2_15 ?_
      rintro _ _ ⟨l_7, rfl, rfl, hf8, hf9, hf10⟩
      by_cases b18_11 : j_1 = l_7
      · refine Wp.icF (teq (congrArg ix b18_11)).2 d_prog_5_2_18 ?_
        refine Wp.iloadN rfl d_prog_5_2_21 ?_
        refine Wp.aloadN rfl rfl d_prog_5_2_22 ?_
        refine Wp.callV nm_M_em (fun _ => rm_len hw.set s b rs rb xb ob zs _ ) 0 rfl (mk_M_len hw) (w_80 hw) (w_54 hw) (w_56 hw) (w_55 hw) (S' := "") (Or.inl rfl) (by decide) rfl rfl rfl (Wn := 1) rfl rfl (by decide) d_prog_5_2_23 ?_
        rintro _ _ ⟨rfl, rfl⟩
        refine Wp.iconst lc_1 d_prog_5_2_26 ?_
        refine Wp.isub (z := (ix (zs.length - 1))) (ix_sub (a := zs.length) (b := 1) (by omega)) d_prog_5_2_27 ?_
        by_cases b28_12 : j_1 < (zs.length - 1)
        · refine Wp.icF (tlt ((ix_lt (i := j_1) (j := (zs.length - 1)) (by omega) (by omega)).mpr b28_12)).2.1 d_prog_5_2_28 ?_
          refine Wp.iconst lc_1 d_prog_5_2_31 ?_
          refine Wp.goto d_prog_5_2_32 ?_
          refine Wp.istoreN (L' := [.val (.ref s), .val (.int (ix j_1)), .val (.int 1), .unset, .unset, .unset, .unset, .unset]) rfl d_prog_5_2_36 ?_
          refine Wp.iloadN rfl d_prog_5_2_37 ?_
          refine Wp.ifT (by decide) d_prog_5_2_38 ?_
          refine Wp.aloadN rfl rfl d_prog_5_2_48 ?_
          refine Wp.iconst lc_0 d_prog_5_2_49 ?_
          refine Wp.iloadN rfl d_prog_5_2_50 ?_
          refine Wp.callV nm_M_em (fun _ => rm_suB hw.set s b rs rb xb ob zs j_1 _ (by omega) (by omega) (by omega)) 0 rfl (mk_M_suB hw) (w_251 hw) (w_252 hw) (w_254 hw) (w_253 hw) (S' := "") (Or.inl rfl) (by decide) rfl rfl rfl (Wn := 0) rfl rfl (by decide) d_prog_5_2_51 ?_
          rintro _ _ ⟨q_13, r_14, rfl, rfl⟩
          refine Wp.astoreN (L' := [.val (.ref s), .val (.int (ix j_1)), .val (.int 1), .val (.ref q_13), .unset, .unset, .unset, .unset]) rfl rfl d_prog_5_2_54 ?_
          refine Wp.aloadN rfl rfl d_prog_5_2_55 ?_
          refine Wp.iloadN rfl d_prog_5_2_56 ?_
          refine Wp.iconst lc_1 d_prog_5_2_57 ?_
          refine Wp.iadd (z := (ix (j_1 + 1))) (ix_add _ _) d_prog_5_2_58 ?_
          refine Wp.perm [2, 3, 0, 1] 4 pp_2_3_0_1 (H' := ((oStr rs s (.ref b) (.int 0)) :: (b, rb, .inr (.byte, xb, ob, zb zs)) :: (oStr true q_13 (.ref r_14) (.int 0)) :: (eB r_14 (zb (zs.take (j_1 - 0)))) :: F)) rfl ?_
          refine Wp.callV nm_M_em (fun _ => rm_s1A hw.set s b rs rb xb ob zs (j_1 + 1) _ (by omega) (by omega) (by omega)) 0 rfl (mk_M_s1A hw) (w_279 hw) (w_280 hw) (w_282 hw) (w_281 hw) (S' := "") (Or.inl rfl) (by decide) rfl rfl rfl (Wn := 0) rfl rfl (by decide) d_prog_5_2_59 ?_
          rintro _ _ ⟨q_15, r_16, rfl, rfl⟩
          refine Wp.astore (L' := [.val (.ref s), .val (.int (ix j_1)), .val (.int 1), .val (.ref q_13), .val (.ref q_15), .unset, .unset, .unset]) rfl rfl d_prog_5_2_62 ?_
          have hD : (zs.drop (j_1 + 1)).length = zs.length - (j_1 + 1) := List.length_drop
          refine Wp.aload rfl rfl d_prog_5_2_64 ?_
          refine Wp.bipush lb_46 d_prog_5_2_66 ?_
          refine Wp.callV nm_M_em (fun _ => rm_si046 hw.set q_15 r_16 true true true false (zs.drop (j_1 + 1)) _ (lt_drop hz (j_1 + 1)) (by simp only [star_len, List.length_take, List.length_drop, List.length_cons, List.length_nil]; omega)) 0 rfl (mk_M_si046 hw) (w_37 hw) (w_38 hw) (w_40 hw) (w_39 hw) (S' := "") (Or.inl rfl) (by decide) rfl rfl rfl (Wn := 0) rfl rfl (by decide) d_prog_5_2_68 ?_
          rintro _ _ (⟨j_17, rfl, rfl, hf18, hf19, hf20⟩ | ⟨rfl, rfl, hf21⟩)
          · refine Wp.istore (L' := [.val (.ref s), .val (.int (ix j_1)), .val (.int 1), .val (.ref q_13), .val (.ref q_15), .val (.int (ix j_17)), .unset, .unset]) rfl d_prog_5_2_71 ?_
            refine Wp.iload rfl d_prog_5_2_73 ?_
            refine Wp.ifT (flt (fun q => (Nat.not_lt_zero _) ((ix_lt (i := j_17) (j := 0) (by omega) (by omega)).mp q))).2.1 d_prog_5_2_75 ?_
            rcases Nat.eq_zero_or_pos j_17 with hd0 | hd0
            · subst hd0
              refine Wp.aload rfl rfl d_prog_5_2_83 ?_
              refine Wp.iconst lc_0 d_prog_5_2_85 ?_
              refine Wp.iload rfl d_prog_5_2_86 ?_
              refine Wp.callVW nm_M_em hk (rm_su0 hw q_15 r_16 true true true false (zs.drop (j_1 + 1)) _ (by first | omega | (simp only [star_len, List.length_take, List.length_drop, List.length_cons, List.length_nil]; omega)) (by simp only [star_len, List.length_take, List.length_drop, List.length_cons, List.length_nil]; omega)) 0 rfl (mk_M_su0 hw) (w_251 hw) (w_252 hw) (w_254 hw) (w_253 hw) (S' := "") (Or.inl rfl) (by decide) rfl rfl rfl (Wn := 0) rfl rfl (by decide) d_prog_5_2_88 ?_
              rintro _ _ _ hk ⟨q_22, r_23, rfl, rfl⟩
              refine Wp.astore (L' := [.val (.ref s), .val (.int (ix j_1)), .val (.int 1), .val (.ref q_13), .val (.ref q_15), .val (.int 0), .val (.ref q_22), .unset]) rfl rfl d_prog_5_2_91 ?_
              refine Wp.iload rfl d_prog_5_2_93 ?_
              refine Wp.ifT (by decide) d_prog_5_2_95 ?_
              refine Wp.aload rfl rfl d_prog_5_2_103 ?_
              refine Wp.iload rfl d_prog_5_2_105 ?_
              refine Wp.perm [2, 3, 0, 1] 4 pp_2_3_0_1 (H' := ((oStr true q_15 (.ref r_16) (.int 0)) :: (eB r_16 (zb (zs.drop (j_1 + 1)))) :: (oStr false q_22 (.ref r_23) (.int 0)) :: (r_23, false, .inr (.byte, false, false, zb [])) :: (oStr rs s (.ref b) (.int 0)) :: (b, rb, .inr (.byte, xb, ob, zb zs)) :: (oStr true q_13 (.ref r_14) (.int 0)) :: (eB r_14 (zb (zs.take (j_1 - 0)))) :: F)) rfl ?_
              refine Wp.callV nm_M_em (fun _ => rm_s1W hw.set q_15 r_16 true true true false (zs.drop (j_1 + 1)) _ (by simp only [star_len, List.length_take, List.length_drop, List.length_cons, List.length_nil]; omega)) 0 rfl (mk_M_s1W hw) (w_279 hw) (w_280 hw) (w_282 hw) (w_281 hw) (S' := "") (Or.inl rfl) (by decide) rfl rfl rfl (Wn := 0) rfl rfl (by decide) d_prog_5_2_107 ?_
              rintro _ _ ⟨rfl, rfl⟩
              refine Wp.astore (L' := [.val (.ref s), .val (.int (ix j_1)), .val (.int 1), .val (.ref q_13), .val (.ref q_15), .val (.int 0), .val (.ref q_22), .val (.ref q_15)]) rfl rfl d_prog_5_2_110 ?_
              refine Wp.newO nm_M_em (w_94 hw) (w_95 hw) (w_96 hw) (nf_oSB hw) (by decide) (by decide) d_prog_5_2_112 (fun a24 => ?_)
              refine Wp.dup rfl d_prog_5_2_115 ?_
              refine Wp.callC nm_M_em (fun _ => rm_sb0 hw.set a24 _ ) (mk_M_sb0 hw) (w_286 hw) (w_287 hw) rfl rfl rfl rfl (Wn := 1) rfl rfl (by decide) d_prog_5_2_116 ?_
              rintro _ _ ⟨vv_25, a2_26, rfl, rfl, hf27⟩
              refine Wp.aloadN rfl rfl d_prog_5_2_119 ?_
              refine Wp.iconst lc_1 d_prog_5_2_120 ?_
              refine Wp.iconst lc_0 d_prog_5_2_121 ?_
              refine Wp.perm [8, 9, 0, 1, 2, 3, 4, 5, 6, 7] 10 pp_8_9_0_1_2_3_4_5_6_7 (H' := ((oStr true q_13 (.ref r_14) (.int 0)) :: (eB r_14 (zb (zs.take (j_1 - 0)))) :: (oSB true a24 (.ref vv_25) (.int 0) (.int 0)) :: (eB vv_25 (zb a2_26)) :: (oStr true q_15 (.ref r_16) (.int 0)) :: (eB r_16 (zb (zs.drop (j_1 + 1)))) :: (oStr false q_22 (.ref r_23) (.int 0)) :: (r_23, false, .inr (.byte, false, false, zb [])) :: (oStr rs s (.ref b) (.int 0)) :: (b, rb, .inr (.byte, xb, ob, zb zs)) :: F)) rfl ?_
              refine Wp.callS nm_M_em (fun _ => rm_st10 hw.set q_13 r_14 true true true false (zs.take (j_1 - 0)) _ (lt_take hz (j_1 - 0)) (by simp only [star_len, List.length_take, List.length_drop, List.length_cons, List.length_nil]; omega)) (mk_M_st10 hw) (w_77 hw) (w_78 hw) rfl rfl (Wn := 1) rfl rfl (by decide) d_prog_5_2_122 ?_
              rintro _ _ ⟨q_28, r_29, rfl, rfl⟩
              refine Wp.perm [4, 5, 0, 1, 2, 3] 6 pp_4_5_0_1_2_3 (H' := ((oSB true a24 (.ref vv_25) (.int 0) (.int 0)) :: (eB vv_25 (zb a2_26)) :: (oStr true q_28 (.ref r_29) (.int 0)) :: (eB r_29 (zb (star 1 0 (zs.take (j_1 - 0))))) :: (oStr true q_13 (.ref r_14) (.int 0)) :: (eB r_14 (zb (zs.take (j_1 - 0)))) :: (oStr true q_15 (.ref r_16) (.int 0)) :: (eB r_16 (zb (zs.drop (j_1 + 1)))) :: (oStr false q_22 (.ref r_23) (.int 0)) :: (r_23, false, .inr (.byte, false, false, zb [])) :: (oStr rs s (.ref b) (.int 0)) :: (b, rb, .inr (.byte, xb, ob, zb zs)) :: F)) rfl ?_
              refine Wp.callV nm_M_em (fun _ => rm_ssa hw.set a24 vv_25 a2_26 0 q_28 r_29 true true true false (star 1 0 (zs.take (j_1 - 0))) _ (by first | omega | (simp only [star_len, List.length_take, List.length_drop, List.length_cons, List.length_nil]; omega)) (by simp only [star_len, List.length_take, List.length_drop, List.length_cons, List.length_nil]; omega) (by omega)) 0 rfl (mk_M_ssa hw) (w_289 hw) (w_290 hw) (w_292 hw) (w_291 hw) (S' := "") (Or.inl rfl) (by decide) rfl rfl rfl (Wn := 0) rfl rfl (by decide) d_prog_5_2_125 ?_
              rintro _ _ ⟨a2_30, rfl, rfl, hf31, hf32⟩
              refine Wp.ldcK nm_M_em (n1 := 4) hk (w_316 hw) (sa_1 hw) (List.mem_of_getElem? (i := 1) rfl) tx_1 (by decide) (nf_oStr hw) ln_1 (by decide) (by decide) (by decide) d_prog_5_2_128 (fun _ a33 b34 hk => ?_)
              refine Wp.perm [2, 3, 0, 1] 4 pp_2_3_0_1 (H' := ((oSB true a24 (.ref vv_25) (.int 0) (.int (ix (0 + (star 1 0 (zs.take (j_1 - 0))).length)))) :: (eB vv_25 (zb a2_30)) :: (oStr false a33 (.ref b34) (.int 0)) :: (b34, false, .inr (.byte, false, false, zb [64])) :: (oStr true q_28 (.ref r_29) (.int 0)) :: (eB r_29 (zb (star 1 0 (zs.take (j_1 - 0))))) :: (oStr true q_13 (.ref r_14) (.int 0)) :: (eB r_14 (zb (zs.take (j_1 - 0)))) :: (oStr true q_15 (.ref r_16) (.int 0)) :: (eB r_16 (zb (zs.drop (j_1 + 1)))) :: (oStr false q_22 (.ref r_23) (.int 0)) :: (r_23, false, .inr (.byte, false, false, zb [])) :: (oStr rs s (.ref b) (.int 0)) :: (b, rb, .inr (.byte, xb, ob, zb zs)) :: F)) rfl ?_
              refine Wp.callV nm_M_em (fun _ => rm_ssa hw.set a24 vv_25 a2_30 (0 + (star 1 0 (zs.take (j_1 - 0))).length) a33 b34 false false false false [64] _ (by first | omega | (simp only [star_len, List.length_take, List.length_drop, List.length_cons, List.length_nil]; omega)) (by decide) (by omega)) 0 rfl (mk_M_ssa hw) (w_289 hw) (w_290 hw) (w_292 hw) (w_291 hw) (S' := "") (Or.inl rfl) (by decide) rfl rfl rfl (Wn := 0) rfl rfl (by decide) d_prog_5_2_130 ?_
              rintro _ _ ⟨a2_35, rfl, rfl, hf36, hf37⟩
              refine Wp.aload rfl rfl d_prog_5_2_133 ?_
              refine Wp.iconst lc_1 d_prog_5_2_135 ?_
              refine Wp.iconst lc_1 d_prog_5_2_136 ?_
              refine Wp.perm [10, 11, 0, 1, 2, 3, 4, 5, 6, 7, 8, 9] 12 pp_10_11_0_1_2_3_4_5_6_7_8_9 (H' := ((oStr false q_22 (.ref r_23) (.int 0)) :: (r_23, false, .inr (.byte, false, false, zb [])) :: (oSB true a24 (.ref vv_25) (.int 0) (.int (ix ((0 + (star 1 0 (zs.take (j_1 - 0))).length) + [64].length)))) :: (eB vv_25 (zb a2_35)) :: (oStr false a33 (.ref b34) (.int 0)) :: (b34, false, .inr (.byte, false, false, zb [64])) :: (oStr true q_28 (.ref r_29) (.int 0)) :: (eB r_29 (zb (star 1 0 (zs.take (j_1 - 0))))) :: (oStr true q_13 (.ref r_14) (.int 0)) :: (eB r_14 (zb (zs.take (j_1 - 0)))) :: (oStr true q_15 (.ref r_16) (.int 0)) :: (eB r_16 (zb (zs.drop (j_1 + 1)))) :: (oStr rs s (.ref b) (.int 0)) :: (b, rb, .inr (.byte, xb, ob, zb zs)) :: F)) rfl ?_
              refine Wp.callS nm_M_em (fun _ => rm_st11 hw.set q_22 r_23 false false false false [] _ (by decide) (by decide)) (mk_M_st11 hw) (w_77 hw) (w_78 hw) rfl rfl (Wn := 1) rfl rfl (by decide) d_prog_5_2_137 ?_
              rintro _ _ ⟨q_38, r_39, rfl, rfl⟩
              refine Wp.perm [4, 5, 0, 1, 2, 3] 6 pp_4_5_0_1_2_3 (H' := ((oSB true a24 (.ref vv_25) (.int 0) (.int (ix ((0 + (star 1 0 (zs.take (j_1 - 0))).length) + [64].length)))) :: (eB vv_25 (zb a2_35)) :: (oStr true q_38 (.ref r_39) (.int 0)) :: (eB r_39 (zb (star 1 1 []))) :: (oStr false q_22 (.ref r_23) (.int 0)) :: (r_23, false, .inr (.byte, false, false, zb [])) :: (oStr false a33 (.ref b34) (.int 0)) :: (b34, false, .inr (.byte, false, false, zb [64])) :: (oStr true q_28 (.ref r_29) (.int 0)) :: (eB r_29 (zb (star 1 0 (zs.take (j_1 - 0))))) :: (oStr true q_13 (.ref r_14) (.int 0)) :: (eB r_14 (zb (zs.take (j_1 - 0)))) :: (oStr true q_15 (.ref r_16) (.int 0)) :: (eB r_16 (zb (zs.drop (j_1 + 1)))) :: (oStr rs s (.ref b) (.int 0)) :: (b, rb, .inr (.byte, xb, ob, zb zs)) :: F)) rfl ?_
              refine Wp.callV nm_M_em (fun _ => rm_ssa hw.set a24 vv_25 a2_35 ((0 + (star 1 0 (zs.take (j_1 - 0))).length) + [64].length) q_38 r_39 true true true false (star 1 1 []) _ (by first | omega | (simp only [star_len, List.length_take, List.length_drop, List.length_cons, List.length_nil]; omega)) (by simp only [star_len, List.length_take, List.length_drop, List.length_cons, List.length_nil]; omega) (by omega)) 0 rfl (mk_M_ssa hw) (w_289 hw) (w_290 hw) (w_292 hw) (w_291 hw) (S' := "") (Or.inl rfl) (by decide) rfl rfl rfl (Wn := 0) rfl rfl (by decide) d_prog_5_2_140 ?_
              rintro _ _ ⟨a2_40, rfl, rfl, hf41, hf42⟩
              refine Wp.aload rfl rfl d_prog_5_2_143 ?_
              refine Wp.perm [0, 1, 12, 13, 2, 3, 4, 5, 6, 7, 8, 9, 10, 11] 14 pp_0_1_12_13_2_3_4_5_6_7_8_9_10_11 (H' := ((oSB true a24 (.ref vv_25) (.int 0) (.int (ix (((0 + (star 1 0 (zs.take (j_1 - 0))).length) + [64].length) + (star 1 1 []).length)))) :: (eB vv_25 (zb a2_40)) :: (oStr true q_15 (.ref r_16) (.int 0)) :: (eB r_16 (zb (zs.drop (j_1 + 1)))) :: (oStr true q_38 (.ref r_39) (.int 0)) :: (eB r_39 (zb (star 1 1 []))) :: (oStr false q_22 (.ref r_23) (.int 0)) :: (r_23, false, .inr (.byte, false, false, zb [])) :: (oStr false a33 (.ref b34) (.int 0)) :: (b34, false, .inr (.byte, false, false, zb [64])) :: (oStr true q_28 (.ref r_29) (.int 0)) :: (eB r_29 (zb (star 1 0 (zs.take (j_1 - 0))))) :: (oStr true q_13 (.ref r_14) (.int 0)) :: (eB r_14 (zb (zs.take (j_1 - 0)))) :: (oStr rs s (.ref b) (.int 0)) :: (b, rb, .inr (.byte, xb, ob, zb zs)) :: F)) rfl ?_
              refine Wp.callV nm_M_em (fun _ => rm_ssa hw.set a24 vv_25 a2_40 (((0 + (star 1 0 (zs.take (j_1 - 0))).length) + [64].length) + (star 1 1 []).length) q_15 r_16 true true true false (zs.drop (j_1 + 1)) _ (by first | omega | (simp only [star_len, List.length_take, List.length_drop, List.length_cons, List.length_nil]; omega)) (by simp only [star_len, List.length_take, List.length_drop, List.length_cons, List.length_nil]; omega) (by omega)) 0 rfl (mk_M_ssa hw) (w_289 hw) (w_290 hw) (w_292 hw) (w_291 hw) (S' := "") (Or.inl rfl) (by decide) rfl rfl rfl (Wn := 0) rfl rfl (by decide) d_prog_5_2_145 ?_
              rintro _ _ ⟨a2_43, rfl, rfl, hf44, hf45⟩
              refine Wp.callV nm_M_em (fun _ => rm_tosP hw.set a24 vv_25 a2_43 ((((0 + (star 1 0 (zs.take (j_1 - 0))).length) + [64].length) + (star 1 1 []).length) + (zs.drop (j_1 + 1)).length) _ (by first | omega | (simp only [star_len, List.length_take, List.length_drop, List.length_cons, List.length_nil]; omega)) (by omega)) 0 rfl (mk_M_tosP hw) (w_112 hw) (w_113 hw) (w_115 hw) (w_114 hw) (S' := "") (Or.inl rfl) (by decide) rfl rfl rfl (Wn := 0) rfl rfl (by decide) d_prog_5_2_148 ?_
              rintro _ _ ⟨s_46, r_47, rfl, rfl⟩
              refine Wp.perm [0, 1, 16, 17, 2, 3, 4, 5, 6, 7, 8, 9, 10, 11, 12, 13, 14, 15] 18 pp_0_1_16_17_2_3_4_5_6_7_8_9_10_11_12_13_14_15 (H' := ((oStr true s_46 (.ref r_47) (.int 0)) :: (eB r_47 (zb (a2_43.take ((((0 + (star 1 0 (zs.take (j_1 - 0))).length) + [64].length) + (star 1 1 []).length) + (zs.drop (j_1 + 1)).length)))) :: (oStr rs s (.ref b) (.int 0)) :: (b, rb, .inr (.byte, xb, ob, zb zs)) :: (oSB true a24 (.ref vv_25) (.int 0) (.int (ix ((((0 + (star 1 0 (zs.take (j_1 - 0))).length) + [64].length) + (star 1 1 []).length) + (zs.drop (j_1 + 1)).length)))) :: (eB vv_25 (zb a2_43)) :: (oStr true q_15 (.ref r_16) (.int 0)) :: (eB r_16 (zb (zs.drop (j_1 + 1)))) :: (oStr true q_38 (.ref r_39) (.int 0)) :: (eB r_39 (zb (star 1 1 []))) :: (oStr false q_22 (.ref r_23) (.int 0)) :: (r_23, false, .inr (.byte, false, false, zb [])) :: (oStr false a33 (.ref b34) (.int 0)) :: (b34, false, .inr (.byte, false, false, zb [64])) :: (oStr true q_28 (.ref r_29) (.int 0)) :: (eB r_29 (zb (star 1 0 (zs.take (j_1 - 0))))) :: (oStr true q_13 (.ref r_14) (.int 0)) :: (eB r_14 (zb (zs.take (j_1 - 0)))) :: F)) rfl ?_
              refine Wp.less (((((((((((((((((((List.Sublist.refl _).cons _).cons _).cons _).cons _).cons _).cons _).cons _).cons _).cons _).cons _).cons _).cons _).cons _).cons _).cons_cons _).cons_cons _).cons_cons _).cons_cons _) ?_
              refine Wp.aret rfl rfl rfl d_prog_5_2_151 (by decide) (by decide) ?_
              have eb := (join4 hf32 hf37 hf42 hf45 rfl).trans (emF_B0 b8_6 hf3 hf2 hf4 b28_12 (by rw [b18_11]; exact hf9) hf18 hf20).symm
              exact ⟨s_46, r_47, rfl, by rw [eb]⟩
            · refine Wp.aload rfl rfl d_prog_5_2_83 ?_
              refine Wp.iconst lc_0 d_prog_5_2_85 ?_
              refine Wp.iload rfl d_prog_5_2_86 ?_
              refine Wp.callV nm_M_em (fun _ => rm_suB hw.set q_15 r_16 true true true false (zs.drop (j_1 + 1)) j_17 _ (by first | omega | (simp only [star_len, List.length_take, List.length_drop, List.length_cons, List.length_nil]; omega)) (by first | omega | (simp only [star_len, List.length_take, List.length_drop, List.length_cons, List.length_nil]; omega)) (by simp only [star_len, List.length_take, List.length_drop, List.length_cons, List.length_nil]; omega)) 0 rfl (mk_M_suB hw) (w_251 hw) (w_252 hw) (w_254 hw) (w_253 hw) (S' := "") (Or.inl rfl) (by decide) rfl rfl rfl (Wn := 0) rfl rfl (by decide) d_prog_5_2_88 ?_
              rintro _ _ ⟨q_48, r_49, rfl, rfl⟩
              refine Wp.astore (L' := [.val (.ref s), .val (.int (ix j_1)), .val (.int 1), .val (.ref q_13), .val (.ref q_15), .val (.int (ix j_17)), .val (.ref q_48), .unset]) rfl rfl d_prog_5_2_91 ?_
              refine Wp.iload rfl d_prog_5_2_93 ?_
              refine Wp.ifT (flt (fun q => (Nat.not_lt_zero _) ((ix_lt (i := j_17) (j := 0) (by omega) (by omega)).mp q))).2.1 d_prog_5_2_95 ?_
              refine Wp.aload rfl rfl d_prog_5_2_103 ?_
              refine Wp.iload rfl d_prog_5_2_105 ?_
              refine Wp.perm [2, 3, 0, 1] 4 pp_2_3_0_1 (H' := ((oStr true q_15 (.ref r_16) (.int 0)) :: (eB r_16 (zb (zs.drop (j_1 + 1)))) :: (oStr true q_48 (.ref r_49) (.int 0)) :: (eB r_49 (zb ((zs.drop (j_1 + 1)).take (j_17 - 0)))) :: (oStr rs s (.ref b) (.int 0)) :: (b, rb, .inr (.byte, xb, ob, zb zs)) :: (oStr true q_13 (.ref r_14) (.int 0)) :: (eB r_14 (zb (zs.take (j_1 - 0)))) :: F)) rfl ?_
              refine Wp.callV nm_M_em (fun _ => rm_s1A hw.set q_15 r_16 true true true false (zs.drop (j_1 + 1)) j_17 _ (by first | omega | (simp only [star_len, List.length_take, List.length_drop, List.length_cons, List.length_nil]; omega)) (by first | omega | (simp only [star_len, List.length_take, List.length_drop, List.length_cons, List.length_nil]; omega)) (by simp only [star_len, List.length_take, List.length_drop, List.length_cons, List.length_nil]; omega)) 0 rfl (mk_M_s1A hw) (w_279 hw) (w_280 hw) (w_282 hw) (w_281 hw) (S' := "") (Or.inl rfl) (by decide) rfl rfl rfl (Wn := 0) rfl rfl (by decide) d_prog_5_2_107 ?_
              rintro _ _ ⟨q_50, r_51, rfl, rfl⟩
              refine Wp.astore (L' := [.val (.ref s), .val (.int (ix j_1)), .val (.int 1), .val (.ref q_13), .val (.ref q_15), .val (.int (ix j_17)), .val (.ref q_48), .val (.ref q_50)]) rfl rfl d_prog_5_2_110 ?_
              refine Wp.newO nm_M_em (w_94 hw) (w_95 hw) (w_96 hw) (nf_oSB hw) (by decide) (by decide) d_prog_5_2_112 (fun a52 => ?_)
              refine Wp.dup rfl d_prog_5_2_115 ?_
              refine Wp.callC nm_M_em (fun _ => rm_sb0 hw.set a52 _ ) (mk_M_sb0 hw) (w_286 hw) (w_287 hw) rfl rfl rfl rfl (Wn := 1) rfl rfl (by decide) d_prog_5_2_116 ?_
              rintro _ _ ⟨vv_53, a2_54, rfl, rfl, hf55⟩
              refine Wp.aloadN rfl rfl d_prog_5_2_119 ?_
              refine Wp.iconst lc_1 d_prog_5_2_120 ?_
              refine Wp.iconst lc_0 d_prog_5_2_121 ?_
              refine Wp.perm [10, 11, 0, 1, 2, 3, 4, 5, 6, 7, 8, 9] 12 pp_10_11_0_1_2_3_4_5_6_7_8_9 (H' := ((oStr true q_13 (.ref r_14) (.int 0)) :: (eB r_14 (zb (zs.take (j_1 - 0)))) :: (oSB true a52 (.ref vv_53) (.int 0) (.int 0)) :: (eB vv_53 (zb a2_54)) :: (oStr true q_50 (.ref r_51) (.int 0)) :: (eB r_51 (zb ((zs.drop (j_1 + 1)).drop j_17))) :: (oStr true q_15 (.ref r_16) (.int 0)) :: (eB r_16 (zb (zs.drop (j_1 + 1)))) :: (oStr true q_48 (.ref r_49) (.int 0)) :: (eB r_49 (zb ((zs.drop (j_1 + 1)).take (j_17 - 0)))) :: (oStr rs s (.ref b) (.int 0)) :: (b, rb, .inr (.byte, xb, ob, zb zs)) :: F)) rfl ?_
              refine Wp.callS nm_M_em (fun _ => rm_st10 hw.set q_13 r_14 true true true false (zs.take (j_1 - 0)) _ (lt_take hz (j_1 - 0)) (by simp only [star_len, List.length_take, List.length_drop, List.length_cons, List.length_nil]; omega)) (mk_M_st10 hw) (w_77 hw) (w_78 hw) rfl rfl (Wn := 1) rfl rfl (by decide) d_prog_5_2_122 ?_
              rintro _ _ ⟨q_56, r_57, rfl, rfl⟩
              refine Wp.perm [4, 5, 0, 1, 2, 3] 6 pp_4_5_0_1_2_3 (H' := ((oSB true a52 (.ref vv_53) (.int 0) (.int 0)) :: (eB vv_53 (zb a2_54)) :: (oStr true q_56 (.ref r_57) (.int 0)) :: (eB r_57 (zb (star 1 0 (zs.take (j_1 - 0))))) :: (oStr true q_13 (.ref r_14) (.int 0)) :: (eB r_14 (zb (zs.take (j_1 - 0)))) :: (oStr true q_50 (.ref r_51) (.int 0)) :: (eB r_51 (zb ((zs.drop (j_1 + 1)).drop j_17))) :: (oStr true q_15 (.ref r_16) (.int 0)) :: (eB r_16 (zb (zs.drop (j_1 + 1)))) :: (oStr true q_48 (.ref r_49) (.int 0)) :: (eB r_49 (zb ((zs.drop (j_1 + 1)).take (j_17 - 0)))) :: (oStr rs s (.ref b) (.int 0)) :: (b, rb, .inr (.byte, xb, ob, zb zs)) :: F)) rfl ?_
              refine Wp.callV nm_M_em (fun _ => rm_ssa hw.set a52 vv_53 a2_54 0 q_56 r_57 true true true false (star 1 0 (zs.take (j_1 - 0))) _ (by first | omega | (simp only [star_len, List.length_take, List.length_drop, List.length_cons, List.length_nil]; omega)) (by simp only [star_len, List.length_take, List.length_drop, List.length_cons, List.length_nil]; omega) (by omega)) 0 rfl (mk_M_ssa hw) (w_289 hw) (w_290 hw) (w_292 hw) (w_291 hw) (S' := "") (Or.inl rfl) (by decide) rfl rfl rfl (Wn := 0) rfl rfl (by decide) d_prog_5_2_125 ?_
              rintro _ _ ⟨a2_58, rfl, rfl, hf59, hf60⟩
              refine Wp.ldcK nm_M_em (n1 := 4) hk (w_316 hw) (sa_1 hw) (List.mem_of_getElem? (i := 1) rfl) tx_1 (by decide) (nf_oStr hw) ln_1 (by decide) (by decide) (by decide) d_prog_5_2_128 (fun _ a61 b62 hk => ?_)
              refine Wp.perm [2, 3, 0, 1] 4 pp_2_3_0_1 (H' := ((oSB true a52 (.ref vv_53) (.int 0) (.int (ix (0 + (star 1 0 (zs.take (j_1 - 0))).length)))) :: (eB vv_53 (zb a2_58)) :: (oStr false a61 (.ref b62) (.int 0)) :: (b62, false, .inr (.byte, false, false, zb [64])) :: (oStr true q_56 (.ref r_57) (.int 0)) :: (eB r_57 (zb (star 1 0 (zs.take (j_1 - 0))))) :: (oStr true q_13 (.ref r_14) (.int 0)) :: (eB r_14 (zb (zs.take (j_1 - 0)))) :: (oStr true q_50 (.ref r_51) (.int 0)) :: (eB r_51 (zb ((zs.drop (j_1 + 1)).drop j_17))) :: (oStr true q_15 (.ref r_16) (.int 0)) :: (eB r_16 (zb (zs.drop (j_1 + 1)))) :: (oStr true q_48 (.ref r_49) (.int 0)) :: (eB r_49 (zb ((zs.drop (j_1 + 1)).take (j_17 - 0)))) :: (oStr rs s (.ref b) (.int 0)) :: (b, rb, .inr (.byte, xb, ob, zb zs)) :: F)) rfl ?_
              refine Wp.callV nm_M_em (fun _ => rm_ssa hw.set a52 vv_53 a2_58 (0 + (star 1 0 (zs.take (j_1 - 0))).length) a61 b62 false false false false [64] _ (by first | omega | (simp only [star_len, List.length_take, List.length_drop, List.length_cons, List.length_nil]; omega)) (by decide) (by omega)) 0 rfl (mk_M_ssa hw) (w_289 hw) (w_290 hw) (w_292 hw) (w_291 hw) (S' := "") (Or.inl rfl) (by decide) rfl rfl rfl (Wn := 0) rfl rfl (by decide) d_prog_5_2_130 ?_
              rintro _ _ ⟨a2_63, rfl, rfl, hf64, hf65⟩
              refine Wp.aload rfl rfl d_prog_5_2_133 ?_
              refine Wp.iconst lc_1 d_prog_5_2_135 ?_
              refine Wp.iconst lc_1 d_prog_5_2_136 ?_
              refine Wp.perm [12, 13, 0, 1, 2, 3, 4, 5, 6, 7, 8, 9, 10, 11] 14 pp_12_13_0_1_2_3_4_5_6_7_8_9_10_11 (H' := ((oStr true q_48 (.ref r_49) (.int 0)) :: (eB r_49 (zb ((zs.drop (j_1 + 1)).take (j_17 - 0)))) :: (oSB true a52 (.ref vv_53) (.int 0) (.int (ix ((0 + (star 1 0 (zs.take (j_1 - 0))).length) + [64].length)))) :: (eB vv_53 (zb a2_63)) :: (oStr false a61 (.ref b62) (.int 0)) :: (b62, false, .inr (.byte, false, false, zb [64])) :: (oStr true q_56 (.ref r_57) (.int 0)) :: (eB r_57 (zb (star 1 0 (zs.take (j_1 - 0))))) :: (oStr true q_13 (.ref r_14) (.int 0)) :: (eB r_14 (zb (zs.take (j_1 - 0)))) :: (oStr true q_50 (.ref r_51) (.int 0)) :: (eB r_51 (zb ((zs.drop (j_1 + 1)).drop j_17))) :: (oStr true q_15 (.ref r_16) (.int 0)) :: (eB r_16 (zb (zs.drop (j_1 + 1)))) :: (oStr rs s (.ref b) (.int 0)) :: (b, rb, .inr (.byte, xb, ob, zb zs)) :: F)) rfl ?_
              refine Wp.callS nm_M_em (fun _ => rm_st11 hw.set q_48 r_49 true true true false ((zs.drop (j_1 + 1)).take (j_17 - 0)) _ (lt_take (lt_drop hz (j_1 + 1)) (j_17 - 0)) (by simp only [star_len, List.length_take, List.length_drop, List.length_cons, List.length_nil]; omega)) (mk_M_st11 hw) (w_77 hw) (w_78 hw) rfl rfl (Wn := 1) rfl rfl (by decide) d_prog_5_2_137 ?_
              rintro _ _ ⟨q_66, r_67, rfl, rfl⟩
              refine Wp.perm [4, 5, 0, 1, 2, 3] 6 pp_4_5_0_1_2_3 (H' := ((oSB true a52 (.ref vv_53) (.int 0) (.int (ix ((0 + (star 1 0 (zs.take (j_1 - 0))).length) + [64].length)))) :: (eB vv_53 (zb a2_63)) :: (oStr true q_66 (.ref r_67) (.int 0)) :: (eB r_67 (zb (star 1 1 ((zs.drop (j_1 + 1)).take (j_17 - 0))))) :: (oStr true q_48 (.ref r_49) (.int 0)) :: (eB r_49 (zb ((zs.drop (j_1 + 1)).take (j_17 - 0)))) :: (oStr false a61 (.ref b62) (.int 0)) :: (b62, false, .inr (.byte, false, false, zb [64])) :: (oStr true q_56 (.ref r_57) (.int 0)) :: (eB r_57 (zb (star 1 0 (zs.take (j_1 - 0))))) :: (oStr true q_13 (.ref r_14) (.int 0)) :: (eB r_14 (zb (zs.take (j_1 - 0)))) :: (oStr true q_50 (.ref r_51) (.int 0)) :: (eB r_51 (zb ((zs.drop (j_1 + 1)).drop j_17))) :: (oStr true q_15 (.ref r_16) (.int 0)) :: (eB r_16 (zb (zs.drop (j_1 + 1)))) :: (oStr rs s (.ref b) (.int 0)) :: (b, rb, .inr (.byte, xb, ob, zb zs)) :: F)) rfl ?_
              refine Wp.callV nm_M_em (fun _ => rm_ssa hw.set a52 vv_53 a2_63 ((0 + (star 1 0 (zs.take (j_1 - 0))).length) + [64].length) q_66 r_67 true true true false (star 1 1 ((zs.drop (j_1 + 1)).take (j_17 - 0))) _ (by first | omega | (simp only [star_len, List.length_take, List.length_drop, List.length_cons, List.length_nil]; omega)) (by simp only [star_len, List.length_take, List.length_drop, List.length_cons, List.length_nil]; omega) (by omega)) 0 rfl (mk_M_ssa hw) (w_289 hw) (w_290 hw) (w_292 hw) (w_291 hw) (S' := "") (Or.inl rfl) (by decide) rfl rfl rfl (Wn := 0) rfl rfl (by decide) d_prog_5_2_140 ?_
              rintro _ _ ⟨a2_68, rfl, rfl, hf69, hf70⟩
              refine Wp.aload rfl rfl d_prog_5_2_143 ?_
              refine Wp.perm [0, 1, 12, 13, 2, 3, 4, 5, 6, 7, 8, 9, 10, 11] 14 pp_0_1_12_13_2_3_4_5_6_7_8_9_10_11 (H' := ((oSB true a52 (.ref vv_53) (.int 0) (.int (ix (((0 + (star 1 0 (zs.take (j_1 - 0))).length) + [64].length) + (star 1 1 ((zs.drop (j_1 + 1)).take (j_17 - 0))).length)))) :: (eB vv_53 (zb a2_68)) :: (oStr true q_50 (.ref r_51) (.int 0)) :: (eB r_51 (zb ((zs.drop (j_1 + 1)).drop j_17))) :: (oStr true q_66 (.ref r_67) (.int 0)) :: (eB r_67 (zb (star 1 1 ((zs.drop (j_1 + 1)).take (j_17 - 0))))) :: (oStr true q_48 (.ref r_49) (.int 0)) :: (eB r_49 (zb ((zs.drop (j_1 + 1)).take (j_17 - 0)))) :: (oStr false a61 (.ref b62) (.int 0)) :: (b62, false, .inr (.byte, false, false, zb [64])) :: (oStr true q_56 (.ref r_57) (.int 0)) :: (eB r_57 (zb (star 1 0 (zs.take (j_1 - 0))))) :: (oStr true q_13 (.ref r_14) (.int 0)) :: (eB r_14 (zb (zs.take (j_1 - 0)))) :: (oStr true q_15 (.ref r_16) (.int 0)) :: (eB r_16 (zb (zs.drop (j_1 + 1)))) :: (oStr rs s (.ref b) (.int 0)) :: (b, rb, .inr (.byte, xb, ob, zb zs)) :: F)) rfl ?_
              refine Wp.callV nm_M_em (fun _ => rm_ssa hw.set a52 vv_53 a2_68 (((0 + (star 1 0 (zs.take (j_1 - 0))).length) + [64].length) + (star 1 1 ((zs.drop (j_1 + 1)).take (j_17 - 0))).length) q_50 r_51 true true true false ((zs.drop (j_1 + 1)).drop j_17) _ (by first | omega | (simp only [star_len, List.length_take, List.length_drop, List.length_cons, List.length_nil]; omega)) (by simp only [star_len, List.length_take, List.length_drop, List.length_cons, List.length_nil]; omega) (by omega)) 0 rfl (mk_M_ssa hw) (w_289 hw) (w_290 hw) (w_292 hw) (w_291 hw) (S' := "") (Or.inl rfl) (by decide) rfl rfl rfl (Wn := 0) rfl rfl (by decide) d_prog_5_2_145 ?_
              rintro _ _ ⟨a2_71, rfl, rfl, hf72, hf73⟩
              refine Wp.callV nm_M_em (fun _ => rm_tosP hw.set a52 vv_53 a2_71 ((((0 + (star 1 0 (zs.take (j_1 - 0))).length) + [64].length) + (star 1 1 ((zs.drop (j_1 + 1)).take (j_17 - 0))).length) + ((zs.drop (j_1 + 1)).drop j_17).length) _ (by first | omega | (simp only [star_len, List.length_take, List.length_drop, List.length_cons, List.length_nil]; omega)) (by omega)) 0 rfl (mk_M_tosP hw) (w_112 hw) (w_113 hw) (w_115 hw) (w_114 hw) (S' := "") (Or.inl rfl) (by decide) rfl rfl rfl (Wn := 0) rfl rfl (by decide) d_prog_5_2_148 ?_
              rintro _ _ ⟨s_74, r_75, rfl, rfl⟩
              refine Wp.perm [0, 1, 18, 19, 2, 3, 4, 5, 6, 7, 8, 9, 10, 11, 12, 13, 14, 15, 16, 17] 20 pp_0_1_18_19_2_3_4_5_6_7_8_9_10_11_12_13_14_15_16_17 (H' := ((oStr true s_74 (.ref r_75) (.int 0)) :: (eB r_75 (zb (a2_71.take ((((0 + (star 1 0 (zs.take (j_1 - 0))).length) + [64].length) + (star 1 1 ((zs.drop (j_1 + 1)).take (j_17 - 0))).length) + ((zs.drop (j_1 + 1)).drop j_17).length)))) :: (oStr rs s (.ref b) (.int 0)) :: (b, rb, .inr (.byte, xb, ob, zb zs)) :: (oSB true a52 (.ref vv_53) (.int 0) (.int (ix ((((0 + (star 1 0 (zs.take (j_1 - 0))).length) + [64].length) + (star 1 1 ((zs.drop (j_1 + 1)).take (j_17 - 0))).length) + ((zs.drop (j_1 + 1)).drop j_17).length)))) :: (eB vv_53 (zb a2_71)) :: (oStr true q_50 (.ref r_51) (.int 0)) :: (eB r_51 (zb ((zs.drop (j_1 + 1)).drop j_17))) :: (oStr true q_66 (.ref r_67) (.int 0)) :: (eB r_67 (zb (star 1 1 ((zs.drop (j_1 + 1)).take (j_17 - 0))))) :: (oStr true q_48 (.ref r_49) (.int 0)) :: (eB r_49 (zb ((zs.drop (j_1 + 1)).take (j_17 - 0)))) :: (oStr false a61 (.ref b62) (.int 0)) :: (b62, false, .inr (.byte, false, false, zb [64])) :: (oStr true q_56 (.ref r_57) (.int 0)) :: (eB r_57 (zb (star 1 0 (zs.take (j_1 - 0))))) :: (oStr true q_13 (.ref r_14) (.int 0)) :: (eB r_14 (zb (zs.take (j_1 - 0)))) :: (oStr true q_15 (.ref r_16) (.int 0)) :: (eB r_16 (zb (zs.drop (j_1 + 1)))) :: F)) rfl ?_
              refine Wp.less (((((((((((((((((((((List.Sublist.refl _).cons _).cons _).cons _).cons _).cons _).cons _).cons _).cons _).cons _).cons _).cons _).cons _).cons _).cons _).cons _).cons _).cons_cons _).cons_cons _).cons_cons _).cons_cons _) ?_
              refine Wp.aret rfl rfl rfl d_prog_5_2_151 (by decide) (by decide) ?_
              have eb := (join4 hf60 hf65 hf70 hf73 rfl).trans (emF_B b8_6 hf3 hf2 hf4 b28_12 (by rw [b18_11]; exact hf9) (fi_of hf19 hf18 hf20)).symm
              exact ⟨s_74, r_75, rfl, by rw [eb]⟩
          · refine Wp.istore (L' := [.val (.ref s), .val (.int (ix j_1)), .val (.int 1), .val (.ref q_13), .val (.ref q_15), .val (.int (-1)), .unset, .unset]) rfl d_prog_5_2_71 ?_
            refine Wp.iload rfl d_prog_5_2_73 ?_
            refine Wp.ifF (by decide) d_prog_5_2_75 ?_
            refine Wp.aload rfl rfl d_prog_5_2_78 ?_
            refine Wp.goto d_prog_5_2_80 ?_
            refine Wp.astore (L' := [.val (.ref s), .val (.int (ix j_1)), .val (.int 1), .val (.ref q_13), .val (.ref q_15), .val (.int (-1)), .val (.ref q_15), .unset]) rfl rfl d_prog_5_2_91 ?_
            refine Wp.iload rfl d_prog_5_2_93 ?_
            refine Wp.ifF (by decide) d_prog_5_2_95 ?_
            refine Wp.ldcK nm_M_em (n1 := 0) hk (w_285 hw) (sa_1 hw) (List.mem_of_getElem? (i := 0) rfl) tx_0 (by decide) (nf_oStr hw) ln_0 (by decide) (by decide) (by decide) d_prog_5_2_98 (fun _ a76 b77 hk => ?_)
            refine Wp.goto d_prog_5_2_100 ?_
            refine Wp.astore (L' := [.val (.ref s), .val (.int (ix j_1)), .val (.int 1), .val (.ref q_13), .val (.ref q_15), .val (.int (-1)), .val (.ref q_15), .val (.ref a76)]) rfl rfl d_prog_5_2_110 ?_
            refine Wp.newO nm_M_em (w_94 hw) (w_95 hw) (w_96 hw) (nf_oSB hw) (by decide) (by decide) d_prog_5_2_112 (fun a78 => ?_)
            refine Wp.dup rfl d_prog_5_2_115 ?_
            refine Wp.callC nm_M_em (fun _ => rm_sb0 hw.set a78 _ ) (mk_M_sb0 hw) (w_286 hw) (w_287 hw) rfl rfl rfl rfl (Wn := 1) rfl rfl (by decide) d_prog_5_2_116 ?_
            rintro _ _ ⟨vv_79, a2_80, rfl, rfl, hf81⟩
            refine Wp.aloadN rfl rfl d_prog_5_2_119 ?_
            refine Wp.iconst lc_1 d_prog_5_2_120 ?_
            refine Wp.iconst lc_0 d_prog_5_2_121 ?_
            refine Wp.perm [8, 9, 0, 1, 2, 3, 4, 5, 6, 7] 10 pp_8_9_0_1_2_3_4_5_6_7 (H' := ((oStr true q_13 (.ref r_14) (.int 0)) :: (eB r_14 (zb (zs.take (j_1 - 0)))) :: (oSB true a78 (.ref vv_79) (.int 0) (.int 0)) :: (eB vv_79 (zb a2_80)) :: (oStr false a76 (.ref b77) (.int 0)) :: (b77, false, .inr (.byte, false, false, zb [])) :: (oStr true q_15 (.ref r_16) (.int 0)) :: (eB r_16 (zb (zs.drop (j_1 + 1)))) :: (oStr rs s (.ref b) (.int 0)) :: (b, rb, .inr (.byte, xb, ob, zb zs)) :: F)) rfl ?_
            refine Wp.callS nm_M_em (fun _ => rm_st10 hw.set q_13 r_14 true true true false (zs.take (j_1 - 0)) _ (lt_take hz (j_1 - 0)) (by simp only [star_len, List.length_take, List.length_drop, List.length_cons, List.length_nil]; omega)) (mk_M_st10 hw) (w_77 hw) (w_78 hw) rfl rfl (Wn := 1) rfl rfl (by decide) d_prog_5_2_122 ?_
            rintro _ _ ⟨q_82, r_83, rfl, rfl⟩
            refine Wp.perm [4, 5, 0, 1, 2, 3] 6 pp_4_5_0_1_2_3 (H' := ((oSB true a78 (.ref vv_79) (.int 0) (.int 0)) :: (eB vv_79 (zb a2_80)) :: (oStr true q_82 (.ref r_83) (.int 0)) :: (eB r_83 (zb (star 1 0 (zs.take (j_1 - 0))))) :: (oStr true q_13 (.ref r_14) (.int 0)) :: (eB r_14 (zb (zs.take (j_1 - 0)))) :: (oStr false a76 (.ref b77) (.int 0)) :: (b77, false, .inr (.byte, false, false, zb [])) :: (oStr true q_15 (.ref r_16) (.int 0)) :: (eB r_16 (zb (zs.drop (j_1 + 1)))) :: (oStr rs s (.ref b) (.int 0)) :: (b, rb, .inr (.byte, xb, ob, zb zs)) :: F)) rfl ?_
            refine Wp.callV nm_M_em (fun _ => rm_ssa hw.set a78 vv_79 a2_80 0 q_82 r_83 true true true false (star 1 0 (zs.take (j_1 - 0))) _ (by first | omega | (simp only [star_len, List.length_take, List.length_drop, List.length_cons, List.length_nil]; omega)) (by simp only [star_len, List.length_take, List.length_drop, List.length_cons, List.length_nil]; omega) (by omega)) 0 rfl (mk_M_ssa hw) (w_289 hw) (w_290 hw) (w_292 hw) (w_291 hw) (S' := "") (Or.inl rfl) (by decide) rfl rfl rfl (Wn := 0) rfl rfl (by decide) d_prog_5_2_125 ?_
            rintro _ _ ⟨a2_84, rfl, rfl, hf85, hf86⟩
            refine Wp.ldcK nm_M_em (n1 := 4) hk (w_316 hw) (sa_1 hw) (List.mem_of_getElem? (i := 1) rfl) tx_1 (by decide) (nf_oStr hw) ln_1 (by decide) (by decide) (by decide) d_prog_5_2_128 (fun _ a87 b88 hk => ?_)
            refine Wp.perm [2, 3, 0, 1] 4 pp_2_3_0_1 (H' := ((oSB true a78 (.ref vv_79) (.int 0) (.int (ix (0 + (star 1 0 (zs.take (j_1 - 0))).length)))) :: (eB vv_79 (zb a2_84)) :: (oStr false a87 (.ref b88) (.int 0)) :: (b88, false, .inr (.byte, false, false, zb [64])) :: (oStr true q_82 (.ref r_83) (.int 0)) :: (eB r_83 (zb (star 1 0 (zs.take (j_1 - 0))))) :: (oStr true q_13 (.ref r_14) (.int 0)) :: (eB r_14 (zb (zs.take (j_1 - 0)))) :: (oStr false a76 (.ref b77) (.int 0)) :: (b77, false, .inr (.byte, false, false, zb [])) :: (oStr true q_15 (.ref r_16) (.int 0)) :: (eB r_16 (zb (zs.drop (j_1 + 1)))) :: (oStr rs s (.ref b) (.int 0)) :: (b, rb, .inr (.byte, xb, ob, zb zs)) :: F)) rfl ?_
            refine Wp.callV nm_M_em (fun _ => rm_ssa hw.set a78 vv_79 a2_84 (0 + (star 1 0 (zs.take (j_1 - 0))).length) a87 b88 false false false false [64] _ (by first | omega | (simp only [star_len, List.length_take, List.length_drop, List.length_cons, List.length_nil]; omega)) (by decide) (by omega)) 0 rfl (mk_M_ssa hw) (w_289 hw) (w_290 hw) (w_292 hw) (w_291 hw) (S' := "") (Or.inl rfl) (by decide) rfl rfl rfl (Wn := 0) rfl rfl (by decide) d_prog_5_2_130 ?_
            rintro _ _ ⟨a2_89, rfl, rfl, hf90, hf91⟩
            refine Wp.aload rfl rfl d_prog_5_2_133 ?_
            refine Wp.iconst lc_1 d_prog_5_2_135 ?_
            refine Wp.iconst lc_1 d_prog_5_2_136 ?_
            refine Wp.perm [10, 11, 0, 1, 2, 3, 4, 5, 6, 7, 8, 9] 12 pp_10_11_0_1_2_3_4_5_6_7_8_9 (H' := ((oStr true q_15 (.ref r_16) (.int 0)) :: (eB r_16 (zb (zs.drop (j_1 + 1)))) :: (oSB true a78 (.ref vv_79) (.int 0) (.int (ix ((0 + (star 1 0 (zs.take (j_1 - 0))).length) + [64].length)))) :: (eB vv_79 (zb a2_89)) :: (oStr false a87 (.ref b88) (.int 0)) :: (b88, false, .inr (.byte, false, false, zb [64])) :: (oStr true q_82 (.ref r_83) (.int 0)) :: (eB r_83 (zb (star 1 0 (zs.take (j_1 - 0))))) :: (oStr true q_13 (.ref r_14) (.int 0)) :: (eB r_14 (zb (zs.take (j_1 - 0)))) :: (oStr false a76 (.ref b77) (.int 0)) :: (b77, false, .inr (.byte, false, false, zb [])) :: (oStr rs s (.ref b) (.int 0)) :: (b, rb, .inr (.byte, xb, ob, zb zs)) :: F)) rfl ?_
            refine Wp.callS nm_M_em (fun _ => rm_st11 hw.set q_15 r_16 true true true false (zs.drop (j_1 + 1)) _ (lt_drop hz (j_1 + 1)) (by simp only [star_len, List.length_take, List.length_drop, List.length_cons, List.length_nil]; omega)) (mk_M_st11 hw) (w_77 hw) (w_78 hw) rfl rfl (Wn := 1) rfl rfl (by decide) d_prog_5_2_137 ?_
            rintro _ _ ⟨q_92, r_93, rfl, rfl⟩
            refine Wp.perm [4, 5, 0, 1, 2, 3] 6 pp_4_5_0_1_2_3 (H' := ((oSB true a78 (.ref vv_79) (.int 0) (.int (ix ((0 + (star 1 0 (zs.take (j_1 - 0))).length) + [64].length)))) :: (eB vv_79 (zb a2_89)) :: (oStr true q_92 (.ref r_93) (.int 0)) :: (eB r_93 (zb (star 1 1 (zs.drop (j_1 + 1))))) :: (oStr true q_15 (.ref r_16) (.int 0)) :: (eB r_16 (zb (zs.drop (j_1 + 1)))) :: (oStr false a87 (.ref b88) (.int 0)) :: (b88, false, .inr (.byte, false, false, zb [64])) :: (oStr true q_82 (.ref r_83) (.int 0)) :: (eB r_83 (zb (star 1 0 (zs.take (j_1 - 0))))) :: (oStr true q_13 (.ref r_14) (.int 0)) :: (eB r_14 (zb (zs.take (j_1 - 0)))) :: (oStr false a76 (.ref b77) (.int 0)) :: (b77, false, .inr (.byte, false, false, zb [])) :: (oStr rs s (.ref b) (.int 0)) :: (b, rb, .inr (.byte, xb, ob, zb zs)) :: F)) rfl ?_
            refine Wp.callV nm_M_em (fun _ => rm_ssa hw.set a78 vv_79 a2_89 ((0 + (star 1 0 (zs.take (j_1 - 0))).length) + [64].length) q_92 r_93 true true true false (star 1 1 (zs.drop (j_1 + 1))) _ (by first | omega | (simp only [star_len, List.length_take, List.length_drop, List.length_cons, List.length_nil]; omega)) (by simp only [star_len, List.length_take, List.length_drop, List.length_cons, List.length_nil]; omega) (by omega)) 0 rfl (mk_M_ssa hw) (w_289 hw) (w_290 hw) (w_292 hw) (w_291 hw) (S' := "") (Or.inl rfl) (by decide) rfl rfl rfl (Wn := 0) rfl rfl (by decide) d_prog_5_2_140 ?_
            rintro _ _ ⟨a2_94, rfl, rfl, hf95, hf96⟩
            refine Wp.aload rfl rfl d_prog_5_2_143 ?_
            refine Wp.perm [0, 1, 12, 13, 2, 3, 4, 5, 6, 7, 8, 9, 10, 11] 14 pp_0_1_12_13_2_3_4_5_6_7_8_9_10_11 (H' := ((oSB true a78 (.ref vv_79) (.int 0) (.int (ix (((0 + (star 1 0 (zs.take (j_1 - 0))).length) + [64].length) + (star 1 1 (zs.drop (j_1 + 1))).length)))) :: (eB vv_79 (zb a2_94)) :: (oStr false a76 (.ref b77) (.int 0)) :: (b77, false, .inr (.byte, false, false, zb [])) :: (oStr true q_92 (.ref r_93) (.int 0)) :: (eB r_93 (zb (star 1 1 (zs.drop (j_1 + 1))))) :: (oStr true q_15 (.ref r_16) (.int 0)) :: (eB r_16 (zb (zs.drop (j_1 + 1)))) :: (oStr false a87 (.ref b88) (.int 0)) :: (b88, false, .inr (.byte, false, false, zb [64])) :: (oStr true q_82 (.ref r_83) (.int 0)) :: (eB r_83 (zb (star 1 0 (zs.take (j_1 - 0))))) :: (oStr true q_13 (.ref r_14) (.int 0)) :: (eB r_14 (zb (zs.take (j_1 - 0)))) :: (oStr rs s (.ref b) (.int 0)) :: (b, rb, .inr (.byte, xb, ob, zb zs)) :: F)) rfl ?_
            refine Wp.callV nm_M_em (fun _ => rm_ssa hw.set a78 vv_79 a2_94 (((0 + (star 1 0 (zs.take (j_1 - 0))).length) + [64].length) + (star 1 1 (zs.drop (j_1 + 1))).length) a76 b77 false false false false [] _ (by first | omega | (simp only [star_len, List.length_take, List.length_drop, List.length_cons, List.length_nil]; omega)) (by decide) (by omega)) 0 rfl (mk_M_ssa hw) (w_289 hw) (w_290 hw) (w_292 hw) (w_291 hw) (S' := "") (Or.inl rfl) (by decide) rfl rfl rfl (Wn := 0) rfl rfl (by decide) d_prog_5_2_145 ?_
            rintro _ _ ⟨a2_97, rfl, rfl, hf98, hf99⟩
            refine Wp.callV nm_M_em (fun _ => rm_tosP hw.set a78 vv_79 a2_97 ((((0 + (star 1 0 (zs.take (j_1 - 0))).length) + [64].length) + (star 1 1 (zs.drop (j_1 + 1))).length) + [].length) _ (by first | omega | (simp only [star_len, List.length_take, List.length_drop, List.length_cons, List.length_nil]; omega)) (by omega)) 0 rfl (mk_M_tosP hw) (w_112 hw) (w_113 hw) (w_115 hw) (w_114 hw) (S' := "") (Or.inl rfl) (by decide) rfl rfl rfl (Wn := 0) rfl rfl (by decide) d_prog_5_2_148 ?_
            rintro _ _ ⟨s_100, r_101, rfl, rfl⟩
            refine Wp.perm [0, 1, 16, 17, 2, 3, 4, 5, 6, 7, 8, 9, 10, 11, 12, 13, 14, 15] 18 pp_0_1_16_17_2_3_4_5_6_7_8_9_10_11_12_13_14_15 (H' := ((oStr true s_100 (.ref r_101) (.int 0)) :: (eB r_101 (zb (a2_97.take ((((0 + (star 1 0 (zs.take (j_1 - 0))).length) + [64].length) + (star 1 1 (zs.drop (j_1 + 1))).length) + [].length)))) :: (oStr rs s (.ref b) (.int 0)) :: (b, rb, .inr (.byte, xb, ob, zb zs)) :: (oSB true a78 (.ref vv_79) (.int 0) (.int (ix ((((0 + (star 1 0 (zs.take (j_1 - 0))).length) + [64].length) + (star 1 1 (zs.drop (j_1 + 1))).length) + [].length)))) :: (eB vv_79 (zb a2_97)) :: (oStr false a76 (.ref b77) (.int 0)) :: (b77, false, .inr (.byte, false, false, zb [])) :: (oStr true q_92 (.ref r_93) (.int 0)) :: (eB r_93 (zb (star 1 1 (zs.drop (j_1 + 1))))) :: (oStr true q_15 (.ref r_16) (.int 0)) :: (eB r_16 (zb (zs.drop (j_1 + 1)))) :: (oStr false a87 (.ref b88) (.int 0)) :: (b88, false, .inr (.byte, false, false, zb [64])) :: (oStr true q_82 (.ref r_83) (.int 0)) :: (eB r_83 (zb (star 1 0 (zs.take (j_1 - 0))))) :: (oStr true q_13 (.ref r_14) (.int 0)) :: (eB r_14 (zb (zs.take (j_1 - 0)))) :: F)) rfl ?_
            refine Wp.less (((((((((((((((((((List.Sublist.refl _).cons _).cons _).cons _).cons _).cons _).cons _).cons _).cons _).cons _).cons _).cons _).cons _).cons _).cons _).cons_cons _).cons_cons _).cons_cons _).cons_cons _) ?_
            refine Wp.aret rfl rfl rfl d_prog_5_2_151 (by decide) (by decide) ?_
            have eb := (join4 hf86 hf91 hf96 hf99 rfl).trans (emF_Bn b8_6 hf3 hf2 hf4 b28_12 (by rw [b18_11]; exact hf9) hf21).symm
            exact ⟨s_100, r_101, rfl, by rw [eb]⟩
        · refine Wp.icT (flt (fun q => b28_12 ((ix_lt (i := j_1) (j := (zs.length - 1)) (by omega) (by omega)).mp q))).2.1 d_prog_5_2_28 ?_
          refine Wp.iconst lc_0 d_prog_5_2_35 ?_
          refine Wp.istoreN (L' := [.val (.ref s), .val (.int (ix j_1)), .val (.int 0), .unset, .unset, .unset, .unset, .unset]) rfl d_prog_5_2_36 ?_
          refine Wp.iloadN rfl d_prog_5_2_37 ?_
          refine Wp.ifF (by decide) d_prog_5_2_38 ?_
          refine Wp.aloadN rfl rfl d_prog_5_2_41 ?_
          refine Wp.iconst lc_0 d_prog_5_2_42 ?_
          refine Wp.iconst lc_0 d_prog_5_2_43 ?_
          refine Wp.callS nm_M_em (fun _ => rm_st00 hw.set s b rs rb xb ob zs _ hz (by omega)) (mk_M_st00 hw) (w_77 hw) (w_78 hw) rfl rfl (Wn := 0) rfl rfl (by decide) d_prog_5_2_44 ?_
          rintro _ _ ⟨q_102, r_103, rfl, rfl⟩
          refine Wp.aret rfl rfl rfl d_prog_5_2_47 (by decide) (by decide) ?_
          exact ⟨q_102, r_103, rfl, by rw [emF_end hf3 hf2 hf4 b28_12]⟩
      · refine Wp.icT (feq (fun q => b18_11 (ix_eq (by omega) (by omega) q))).2 d_prog_5_2_18 ?_
        refine Wp.iconst lc_0 d_prog_5_2_35 ?_
        refine Wp.istoreN (L' := [.val (.ref s), .val (.int (ix j_1)), .val (.int 0), .unset, .unset, .unset, .unset, .unset]) rfl d_prog_5_2_36 ?_
        refine Wp.iloadN rfl d_prog_5_2_37 ?_
        refine Wp.ifF (by decide) d_prog_5_2_38 ?_
        refine Wp.aloadN rfl rfl d_prog_5_2_41 ?_
        refine Wp.iconst lc_0 d_prog_5_2_42 ?_
        refine Wp.iconst lc_0 d_prog_5_2_43 ?_
        refine Wp.callS nm_M_em (fun _ => rm_st00 hw.set s b rs rb xb ob zs _ hz (by omega)) (mk_M_st00 hw) (w_77 hw) (w_78 hw) rfl rfl (Wn := 0) rfl rfl (by decide) d_prog_5_2_44 ?_
        rintro _ _ ⟨q_104, r_105, rfl, rfl⟩
        refine Wp.aret rfl rfl rfl d_prog_5_2_47 (by decide) (by decide) ?_
        exact ⟨q_104, r_105, rfl, by rw [emF_ne hf3 hf2 hf4 hf8 hf9 hf10 b18_11]⟩
    · refine Wp.ifT (flt (fun q => b8_6 ((ix_lt (i := 0) (j := j_1) (by omega) (by omega)).mp q))).2.2.2 d_prog_5_2_8 ?_
      refine Wp.iconst lc_0 d_prog_5_2_35 ?_
      refine Wp.istoreN (L' := [.val (.ref s), .val (.int (ix j_1)), .val (.int 0), .unset, .unset, .unset, .unset, .unset]) rfl d_prog_5_2_36 ?_
      refine Wp.iloadN rfl d_prog_5_2_37 ?_
      refine Wp.ifF (by decide) d_prog_5_2_38 ?_
      refine Wp.aloadN rfl rfl d_prog_5_2_41 ?_
      refine Wp.iconst lc_0 d_prog_5_2_42 ?_
      refine Wp.iconst lc_0 d_prog_5_2_43 ?_
      refine Wp.callS nm_M_em (fun _ => rm_st00 hw.set s b rs rb xb ob zs _ hz (by omega)) (mk_M_st00 hw) (w_77 hw) (w_78 hw) rfl rfl (Wn := 0) rfl rfl (by decide) d_prog_5_2_44 ?_
      rintro _ _ ⟨q_106, r_107, rfl, rfl⟩
      refine Wp.aret rfl rfl rfl d_prog_5_2_47 (by decide) (by decide) ?_
      exact ⟨q_106, r_107, rfl, by rw [emF_zero hf3 hf2 hf4 b8_6]⟩
  · refine Wp.istoreN (L' := [.val (.ref s), .val (.int (-1)), .unset, .unset, .unset, .unset, .unset, .unset]) rfl d_prog_5_2_6 ?_
    refine Wp.iloadN rfl d_prog_5_2_7 ?_
    refine Wp.ifT (by decide) d_prog_5_2_8 ?_
    refine Wp.iconst lc_0 d_prog_5_2_35 ?_
    refine Wp.istoreN (L' := [.val (.ref s), .val (.int (-1)), .val (.int 0), .unset, .unset, .unset, .unset, .unset]) rfl d_prog_5_2_36 ?_
    refine Wp.iloadN rfl d_prog_5_2_37 ?_
    refine Wp.ifF (by decide) d_prog_5_2_38 ?_
    refine Wp.aloadN rfl rfl d_prog_5_2_41 ?_
    refine Wp.iconst lc_0 d_prog_5_2_42 ?_
    refine Wp.iconst lc_0 d_prog_5_2_43 ?_
    refine Wp.callS nm_M_em (fun _ => rm_st00 hw.set s b rs rb xb ob zs _ hz (by omega)) (mk_M_st00 hw) (w_77 hw) (w_78 hw) rfl rfl (Wn := 0) rfl rfl (by decide) d_prog_5_2_44 ?_
    rintro _ _ ⟨q_108, r_109, rfl, rfl⟩
    refine Wp.aret rfl rfl rfl d_prog_5_2_47 (by decide) (by decide) ?_
    exact ⟨q_108, r_109, rfl, by rw [emF_none hf5]⟩
theorem d_method_2_0 : Dc method_2_code 0 (.iload_n 0) 1 1 := ⟨by decide +kernel, rfl⟩
theorem d_method_2_1 : Dc method_2_code 1 (.iconst 3) 1 2 := ⟨by decide +kernel, rfl⟩
theorem lc_3 : Int32.ofInt 3 = 3 := by decide
theorem d_method_2_2 : Dc method_2_code 2 (.iand) 1 3 := ⟨by decide +kernel, rfl⟩
theorem d_method_2_3 : Dc method_2_code 3 (.istore_n 1) 1 4 := ⟨by decide +kernel, rfl⟩
theorem d_method_2_4 : Dc method_2_code 4 (.iload_n 1) 1 5 := ⟨by decide +kernel, rfl⟩
theorem d_method_2_5 : Bj method_2_code 5 (.ifCond .ne 6) 6 8 11 := ⟨by decide +kernel, rfl, by decide, rfl⟩
theorem d_method_2_8 : Dc method_2_code 8 (.bipush 64) 2 10 := ⟨by decide +kernel, rfl⟩
theorem d_method_2_10 : Dc method_2_code 10 (.ireturn) 1 11 := ⟨by decide +kernel, rfl⟩
theorem d_method_2_11 : Dc method_2_code 11 (.iload_n 1) 1 12 := ⟨by decide +kernel, rfl⟩
theorem d_method_2_12 : Dc method_2_code 12 (.iconst 1) 1 13 := ⟨by decide +kernel, rfl⟩
theorem d_method_2_13 : Bj method_2_code 13 (.if_icmp .ne 6) 6 16 19 := ⟨by decide +kernel, rfl, by decide, rfl⟩
theorem d_method_2_16 : Dc method_2_code 16 (.bipush 46) 2 18 := ⟨by decide +kernel, rfl⟩
theorem d_method_2_18 : Dc method_2_code 18 (.ireturn) 1 19 := ⟨by decide +kernel, rfl⟩
theorem d_method_2_19 : Dc method_2_code 19 (.iload_n 0) 1 20 := ⟨by decide +kernel, rfl⟩
theorem d_method_2_20 : Dc method_2_code 20 (.iconst 2) 1 21 := ⟨by decide +kernel, rfl⟩
theorem lc_2 : Int32.ofInt 2 = 2 := by decide
theorem d_method_2_21 : Dc method_2_code 21 (.iushr) 1 22 := ⟨by decide +kernel, rfl⟩
theorem d_method_2_22 : Dc method_2_code 22 (.sipush 255) 3 25 := ⟨by decide +kernel, rfl⟩
theorem d_method_2_25 : Dc method_2_code 25 (.iand) 1 26 := ⟨by decide +kernel, rfl⟩
theorem d_method_2_26 : Dc method_2_code 26 (.i2c) 1 27 := ⟨by decide +kernel, rfl⟩
theorem d_method_2_27 : Dc method_2_code 27 (.ireturn) 1 28 := ⟨by decide +kernel, rfl⟩
def M_dr : Mt := (⟨"com/example/polje/polje/ObfuscatorsEmailPinLaw", "draw", "(I)C"⟩, method_2_code, 2, some .char, ⟨0, 0, 0, 0⟩)
theorem nm_M_dr : mN M_dr = ⟨"com/example/polje/polje/ObfuscatorsEmailPinLaw", "draw", "(I)C"⟩ := by delta mN M_dr; rfl
theorem pf_com_example_polje_polje_ObfuscatorsEmailPinLaw : plainName "com/example/polje/polje/ObfuscatorsEmailPinLaw" = true := by first | (simp [plainName, overriddenIn]; done) | decide +kernel
set_option maxRecDepth 65536 in
set_option maxHeartbeats 40000000 in
theorem rm_dr {W : Wd} (hw : Ws W) (x : Int32) (F : List En) : Ct W M_dr [.int x] F (fun v H' => (∃ z : Nat, v = some (.int (ix z)) ∧ H' = F ∧ z < 256)) := by
  refine Ct.intro (L0 := [.val (.int x), .unset]) (plainFor_of_name pf_com_example_polje_polje_ObfuscatorsEmailPinLaw) rfl (fun K => ?_)
  refine Wp.iloadN rfl d_method_2_0 ?_
  refine Wp.iconst lc_3 d_method_2_1 ?_
  refine Wp.iand (z := (x &&& 3)) rfl d_method_2_2 ?_
  refine Wp.istoreN (L' := [.val (.int x), .val (.int (x &&& 3))]) rfl d_method_2_3 ?_
  refine Wp.iloadN rfl d_method_2_4 ?_
  by_cases b5_1 : (x &&& 3) = 0
  · refine Wp.ifF (teq b5_1).2 d_method_2_5 ?_
    refine Wp.bipush lb_64 d_method_2_8 ?_
    refine Wp.iretN (z := 64) (by simp) rfl (by decide) d_method_2_10 (by decide) (by decide) ?_
    exact ⟨64, rfl, rfl, (by decide)⟩
  · refine Wp.ifT (feq b5_1).2 d_method_2_5 ?_
    refine Wp.iloadN rfl d_method_2_11 ?_
    refine Wp.iconst lc_1 d_method_2_12 ?_
    by_cases b13_2 : (x &&& 3) = 1
    · refine Wp.icF (teq b13_2).2 d_method_2_13 ?_
      refine Wp.bipush lb_46 d_method_2_16 ?_
      refine Wp.iretN (z := 46) (by simp) rfl (by decide) d_method_2_18 (by decide) (by decide) ?_
      exact ⟨46, rfl, rfl, (by decide)⟩
    · refine Wp.icT (feq b13_2).2 d_method_2_13 ?_
      refine Wp.iloadN rfl d_method_2_19 ?_
      refine Wp.iconst lc_2 d_method_2_20 ?_
      refine Wp.iushr (z := (Jvm.Free.XT.ushr x 2)) rfl d_method_2_21 ?_
      refine Wp.sipush ls_255 d_method_2_22 ?_
      obtain ⟨z3, hz3, ez3⟩ := and255 (Jvm.Free.XT.ushr x 2)
      refine Wp.iand (z := (ix z3)) ez3 d_method_2_25 ?_
      refine Wp.i2c (z := (ix z3)) (ix_c (by omega)) d_method_2_26 ?_
      refine Wp.iretN (z := (ix z3)) (by simp) rfl (ix_c (by omega)) d_method_2_27 (by decide) (by decide) ?_
      exact ⟨z3, rfl, rfl, hz3⟩
def Mcp2 : Mt := (⟨"java/lang/StringUTF16", "compress", "([CI[BII)I"⟩, jdk_52_method_21_code, 7, some .int, ⟨0, 0, 0, 0⟩)
theorem nm_Mcp2 : mN Mcp2 = ⟨"java/lang/StringUTF16", "compress", "([CI[BII)I"⟩ := by delta mN Mcp2; rfl
theorem d_jdk_52_21_3 : Dc jdk_52_method_21_code 3 (.iload 5) 2 5 := ⟨by decide +kernel, rfl⟩
theorem d_jdk_52_21_5 : Dc jdk_52_method_21_code 5 (.iload 4) 2 7 := ⟨by decide +kernel, rfl⟩
theorem d_jdk_52_21_7 : Bj jdk_52_method_21_code 7 (.if_icmp .ge 37) 37 10 44 := ⟨by decide +kernel, rfl, by decide, rfl⟩
theorem d_jdk_52_21_10 : Dc jdk_52_method_21_code 10 (.aload_n 0) 1 11 := ⟨by decide +kernel, rfl⟩
theorem d_jdk_52_21_11 : Dc jdk_52_method_21_code 11 (.iload_n 1) 1 12 := ⟨by decide +kernel, rfl⟩
theorem d_jdk_52_21_12 : Dc jdk_52_method_21_code 12 (.caload) 1 13 := ⟨by decide +kernel, rfl⟩
theorem d_jdk_52_21_13 : Dc jdk_52_method_21_code 13 (.istore 6) 2 15 := ⟨by decide +kernel, rfl⟩
theorem d_jdk_52_21_15 : Dc jdk_52_method_21_code 15 (.iload 6) 2 17 := ⟨by decide +kernel, rfl⟩
theorem d_jdk_52_21_17 : Dc jdk_52_method_21_code 17 (.sipush 255) 3 20 := ⟨by decide +kernel, rfl⟩
theorem d_jdk_52_21_20 : Bj jdk_52_method_21_code 20 (.if_icmp .le 6) 6 23 26 := ⟨by decide +kernel, rfl, by decide, rfl⟩
theorem d_jdk_52_21_26 : Dc jdk_52_method_21_code 26 (.aload_n 2) 1 27 := ⟨by decide +kernel, rfl⟩
theorem d_jdk_52_21_27 : Dc jdk_52_method_21_code 27 (.iload_n 3) 1 28 := ⟨by decide +kernel, rfl⟩
theorem d_jdk_52_21_28 : Dc jdk_52_method_21_code 28 (.iload 6) 2 30 := ⟨by decide +kernel, rfl⟩
theorem d_jdk_52_21_30 : Dc jdk_52_method_21_code 30 (.i2b) 1 31 := ⟨by decide +kernel, rfl⟩
theorem d_jdk_52_21_31 : Dc jdk_52_method_21_code 31 (.bastore) 1 32 := ⟨by decide +kernel, rfl⟩
theorem d_jdk_52_21_32 : Dc jdk_52_method_21_code 32 (.iinc 1 1) 3 35 := ⟨by decide +kernel, rfl⟩
theorem d_jdk_52_21_35 : Dc jdk_52_method_21_code 35 (.iinc 3 1) 3 38 := ⟨by decide +kernel, rfl⟩
theorem d_jdk_52_21_38 : Dc jdk_52_method_21_code 38 (.iinc 5 1) 3 41 := ⟨by decide +kernel, rfl⟩
theorem d_jdk_52_21_41 : Bj jdk_52_method_21_code 41 (.goto (-38)) (-38) 44 3 := ⟨by decide +kernel, rfl, by decide, rfl⟩
theorem d_jdk_52_21_44 : Dc jdk_52_method_21_code 44 (.iload 4) 2 46 := ⟨by decide +kernel, rfl⟩
theorem d_jdk_52_21_46 : Dc jdk_52_method_21_code 46 (.ireturn) 1 47 := ⟨by decide +kernel, rfl⟩
set_option maxRecDepth 65536 in
set_option maxHeartbeats 40000000 in
theorem lp_cp2 {W : Wd} {K : Kx} (hw : Ws W) (a b : Addr) (r ex ov : Bool) (cs ds : List Int32) (F : List En) (hp : ∀ c ∈ cs, ¬ c < 0 ∧ ¬ 255 < c) (hd : cs.length = ds.length) (hn : cs.length < 2 ^ 31) (Q : Option Value → List En → Prop) (hQ : Q (some (.int (ix cs.length))) ((a, r, .inr (.char, ex, ov, csL cs)) :: (eB b (csL (cs.map by8))) :: F)) :
    ∀ (k i : Nat) (o : Slot), i + k = cs.length → One o → Wp W K Mcp2 Q ((a, r, .inr (.char, ex, ov, csL cs)) :: (eB b (csL (part by8 cs ds i))) :: F) 0 0 3 [.val (.ref a), .val (.int (ix i)), .val (.ref b), .val (.int (ix i)), .val (.int (ix cs.length)), .val (.int (ix i)), o] []
  | 0, i, o, hi, ho_o => by
    have hi1 : i < 2 ^ 31 := by omega
    have e : part by8 cs ds i = cs.map by8 := part_end hd (by omega)
    rw [e]
    refine Wp.iload rfl d_jdk_52_21_3 ?_
    refine Wp.iload rfl d_jdk_52_21_5 ?_
    refine Wp.icT (flt (fun q => by rw [ix_lt hi1 hn] at q; omega)).2.1 d_jdk_52_21_7 ?_
    refine Wp.iload rfl d_jdk_52_21_44 ?_
    refine Wp.iret rfl d_jdk_52_21_46 (by decide) (by decide) ?_
    exact hQ
  | k + 1, i, o, hi, ho_o => by
    have hi1 : i < 2 ^ 31 := by omega
    have hi2 : i < cs.length := by omega
    obtain ⟨x, hx⟩ : ∃ x, cs[i]? = some x := ⟨_, List.getElem?_eq_getElem hi2⟩
    refine Wp.iload rfl d_jdk_52_21_3 ?_
    refine Wp.iload rfl d_jdk_52_21_5 ?_
    refine Wp.icF (tlt ((ix_lt hi1 hn).mpr hi2)).2.1 d_jdk_52_21_7 ?_
    refine Wp.aloadN rfl rfl d_jdk_52_21_10 ?_
    refine Wp.iloadN rfl d_jdk_52_21_11 ?_
    refine Wp.caload 0 i rfl (ix_nn hi1) (ix_nat hi1) (csL_get hx) d_jdk_52_21_12 ?_
    refine Wp.istore (L' := [.val (.ref a), .val (.int (ix i)), .val (.ref b), .val (.int (ix i)), .val (.int (ix cs.length)), .val (.int (ix i)), .val (.int x)]) (storeOne rfl ho_o rfl rfl) d_jdk_52_21_13 ?_
    refine Wp.iload rfl d_jdk_52_21_15 ?_
    refine Wp.sipush ls_255 d_jdk_52_21_17 ?_
    refine Wp.icT (flt (hp x (List.mem_of_getElem? hx)).2).2.2.2 d_jdk_52_21_20 ?_
    refine Wp.aloadN rfl rfl d_jdk_52_21_26 ?_
    refine Wp.iloadN rfl d_jdk_52_21_27 ?_
    refine Wp.iload rfl d_jdk_52_21_28 ?_
    refine Wp.i2b (z := (by8 x)) rfl d_jdk_52_21_30 ?_
    refine Wp.bastore (z := (by8 x)) 1 i rfl (ix_nn hi1) (ix_nat hi1) (by rw [csL_len, part_len hd]; omega) (by8_by8 _) d_jdk_52_21_31 (H' := ((a, r, .inr (.char, ex, ov, csL cs)) :: (eB b (csL (part by8 cs ds (i + 1)))) :: F)) (by rw [csL_set, part_set hd hx]; rfl) ?_
    refine Wp.iinc (z := (ix (i + 1))) (L' := [.val (.ref a), .val (.int (ix (i + 1))), .val (.ref b), .val (.int (ix i)), .val (.int (ix cs.length)), .val (.int (ix i)), .val (.int x)]) rfl (ix_inc _) rfl d_jdk_52_21_32 ?_
    refine Wp.iinc (z := (ix (i + 1))) (L' := [.val (.ref a), .val (.int (ix (i + 1))), .val (.ref b), .val (.int (ix (i + 1))), .val (.int (ix cs.length)), .val (.int (ix i)), .val (.int x)]) rfl (ix_inc _) rfl d_jdk_52_21_35 ?_
    refine Wp.iinc (z := (ix (i + 1))) (L' := [.val (.ref a), .val (.int (ix (i + 1))), .val (.ref b), .val (.int (ix (i + 1))), .val (.int (ix cs.length)), .val (.int (ix (i + 1))), .val (.int x)]) rfl (ix_inc _) rfl d_jdk_52_21_38 ?_
    refine Wp.goto d_jdk_52_21_41 ?_
    exact lp_cp2 hw a b r ex ov cs ds F hp hd hn Q hQ k (i + 1) _ (by omega) (One.val rfl)
theorem d_jdk_52_21_0 : Dc jdk_52_method_21_code 0 (.iconst 0) 1 1 := ⟨by decide +kernel, rfl⟩
theorem d_jdk_52_21_1 : Dc jdk_52_method_21_code 1 (.istore 5) 2 3 := ⟨by decide +kernel, rfl⟩
theorem pf_java_lang_StringUTF16 : plainName "java/lang/StringUTF16" = true := by first | (simp [plainName, overriddenIn]; done) | decide +kernel
set_option maxRecDepth 65536 in
set_option maxHeartbeats 40000000 in
theorem rm_cp2 {W : Wd} (hw : Ws W) (a : Addr) (b : Addr) (r : Bool) (ex : Bool) (ov : Bool) (cs : List Int32) (ds : List Int32) (F : List En) (hp : ∀ c ∈ cs, ¬ c < 0 ∧ ¬ 255 < c) (hd : cs.length = ds.length) (hn : cs.length < 2 ^ 31) : Ct W Mcp2 [.ref a, .int 0, .ref b, .int 0, .int (ix cs.length)] ((a, r, .inr (.char, ex, ov, csL cs)) :: (eB b (csL ds)) :: F) (fun v H' => v = some (.int (ix cs.length)) ∧ H' = ((a, r, .inr (.char, ex, ov, csL cs)) :: (eB b (csL (cs.map by8))) :: F)) := by
  refine Ct.intro (L0 := [.val (.ref a), .val (.int 0), .val (.ref b), .val (.int 0), .val (.int (ix cs.length)), .unset, .unset]) (plainFor_of_name pf_java_lang_StringUTF16) rfl (fun K => ?_)
  refine Wp.iconst lc_0 d_jdk_52_21_0 ?_
  refine Wp.istore (L' := [.val (.ref a), .val (.int 0), .val (.ref b), .val (.int 0), .val (.int (ix cs.length)), .val (.int 0), .unset]) rfl d_jdk_52_21_1 ?_
  have q := lp_cp2 (K := K) hw a b r ex ov cs ds F hp hd hn (fun v H' => v = some (.int (ix cs.length)) ∧ H' = ((a, r, .inr (.char, ex, ov, csL cs)) :: (eB b (csL (cs.map by8))) :: F)) ⟨rfl, rfl⟩ cs.length 0 .unset (by omega) One.u
  rw [part_zero] at q
  exact q
theorem d_jdk_52_16_0 : Dc jdk_52_method_16_code 0 (.iload_n 2) 1 1 := ⟨by decide +kernel, rfl⟩
theorem d_jdk_52_16_1 : Dc jdk_52_method_16_code 1 (.newarray .byte) 2 3 := ⟨by decide +kernel, rfl⟩
theorem d_jdk_52_16_3 : Dc jdk_52_method_16_code 3 (.astore_n 3) 1 4 := ⟨by decide +kernel, rfl⟩
theorem d_jdk_52_16_4 : Dc jdk_52_method_16_code 4 (.aload_n 0) 1 5 := ⟨by decide +kernel, rfl⟩
theorem d_jdk_52_16_5 : Dc jdk_52_method_16_code 5 (.iload_n 1) 1 6 := ⟨by decide +kernel, rfl⟩
theorem d_jdk_52_16_6 : Dc jdk_52_method_16_code 6 (.aload_n 3) 1 7 := ⟨by decide +kernel, rfl⟩
theorem d_jdk_52_16_7 : Dc jdk_52_method_16_code 7 (.iconst 0) 1 8 := ⟨by decide +kernel, rfl⟩
theorem d_jdk_52_16_8 : Dc jdk_52_method_16_code 8 (.iload_n 2) 1 9 := ⟨by decide +kernel, rfl⟩
theorem d_jdk_52_16_9 : Dc jdk_52_method_16_code 9 (.invokestatic 115) 3 12 := ⟨by decide +kernel, rfl⟩
theorem w_168 {W : Wd} (hw : Ws W) : Wok W (Jvm.Cond.code ({ cls := "java/lang/StringUTF16", name := "compress", desc := "([CI[BII)I" } : Jvm.MethodName) jdk_52_method_21_code (7 : Nat) (Option.some Jvm.ClassFile.FieldType.int)) := hw.1 _ (List.mem_of_getElem? (i := 168) rfl)
theorem w_164 {W : Wd} (hw : Ws W) : Wok W (Jvm.Cond.initialized "java/lang/StringUTF16") := hw.1 _ (List.mem_of_getElem? (i := 164) rfl)
theorem pd___CI_BII_I : parseMethodDescriptor "([CI[BII)I" = some ⟨[(.array .char), .int, (.array .byte), .int, .int], some .int⟩ := by decide +kernel
theorem mk_Mcp2 {W : Wd} (hw : Ws W) : Mk W Mcp2 ⟨"java/lang/StringUTF16", "compress", "([CI[BII)I"⟩ 5 := Mk.of nm_Mcp2 rfl rfl rfl (w_168 hw) (w_164 hw) (mkLen pd___CI_BII_I rfl) (by decide)
theorem w_166 {W : Wd} (hw : Ws W) : Wok W (Jvm.Cond.methodLink "java/lang/StringUTF16" (115 : Nat) ({ cls := "java/lang/StringUTF16", name := "compress", desc := "([CI[BII)I" } : Jvm.MethodName)) := hw.1 _ (List.mem_of_getElem? (i := 166) rfl)
theorem w_167 {W : Wd} (hw : Ws W) : Wok W (Jvm.Cond.static ({ cls := "java/lang/StringUTF16", name := "compress", desc := "([CI[BII)I" } : Jvm.MethodName)) := hw.1 _ (List.mem_of_getElem? (i := 167) rfl)
theorem d_jdk_52_16_12 : Dc jdk_52_method_16_code 12 (.istore 4) 2 14 := ⟨by decide +kernel, rfl⟩
theorem d_jdk_52_16_14 : Dc jdk_52_method_16_code 14 (.iload 4) 2 16 := ⟨by decide +kernel, rfl⟩
theorem d_jdk_52_16_16 : Dc jdk_52_method_16_code 16 (.iload_n 2) 1 17 := ⟨by decide +kernel, rfl⟩
theorem d_jdk_52_16_17 : Bj jdk_52_method_16_code 17 (.if_icmp .eq 40) 40 20 57 := ⟨by decide +kernel, rfl, by decide, rfl⟩
theorem d_jdk_52_16_57 : Dc jdk_52_method_16_code 57 (.aload_n 3) 1 58 := ⟨by decide +kernel, rfl⟩
theorem d_jdk_52_16_58 : Dc jdk_52_method_16_code 58 (.areturn) 1 59 := ⟨by decide +kernel, rfl⟩
def M_cp1 (n : Nat) : Mt := (⟨"java/lang/StringUTF16", "compress", "([CII)[B"⟩, jdk_52_method_16_code, 6, some (.array .byte), ⟨1, 1, n, 18⟩)
theorem nm_M_cp1 {n : Nat} : mN (M_cp1 n) = ⟨"java/lang/StringUTF16", "compress", "([CII)[B"⟩ := by delta mN M_cp1; rfl
set_option maxRecDepth 65536 in
set_option maxHeartbeats 40000000 in
theorem rm_cp1 {W : Wd} (hw : Ws W) (a : Addr) (r : Bool) (ex : Bool) (ov : Bool) (cs : List Int32) (F : List En) (hp : ∀ c ∈ cs, ¬ c < 0 ∧ ¬ 255 < c) (hn : cs.length ≤ 4000) : Ct W (M_cp1 cs.length) [.ref a, .int 0, .int (ix cs.length)] ((a, r, .inr (.char, ex, ov, csL cs)) :: F) (fun v H' => ∃ b, v = some (.ref b) ∧ H' = ((eB b (csL (cs.map by8))) :: (a, r, .inr (.char, ex, ov, csL cs)) :: F)) := by
  refine Ct.intro (L0 := [.val (.ref a), .val (.int 0), .val (.int (ix cs.length)), .unset, .unset, .unset]) (plainFor_of_name pf_java_lang_StringUTF16) rfl (fun K => ?_)
  refine Wp.iloadN rfl d_jdk_52_16_0 ?_
  refine Wp.newP (kk := cs.length) (vs := csL (List.replicate cs.length 0)) d_jdk_52_16_1 (w_23 hw) (ix_nat (by omega)) (ix_nn (by omega)) (by omega) (Nat.le_refl _) (Nat.le_of_eq (Nat.zero_add _)) (csL_rep _) (fun a1 => ?_)
  refine Wp.astoreN (L' := [.val (.ref a), .val (.int 0), .val (.int (ix cs.length)), .val (.ref a1), .unset, .unset]) rfl rfl d_jdk_52_16_3 ?_
  refine Wp.aloadN rfl rfl d_jdk_52_16_4 ?_
  refine Wp.iloadN rfl d_jdk_52_16_5 ?_
  refine Wp.aloadN rfl rfl d_jdk_52_16_6 ?_
  refine Wp.iconst lc_0 d_jdk_52_16_7 ?_
  refine Wp.iloadN rfl d_jdk_52_16_8 ?_
  refine Wp.perm [1, 0] 2 pp_1_0 (H' := ((a, r, .inr (.char, ex, ov, csL cs)) :: (eB a1 (csL (List.replicate cs.length 0))) :: F)) rfl ?_
  refine Wp.callS nm_M_cp1 (fun _ => rm_cp2 hw.set a a1 r ex ov cs (List.replicate cs.length 0) _ hp (by simp) (by omega)) (mk_Mcp2 hw) (w_166 hw) (w_167 hw) rfl rfl (Wn := 0) rfl rfl (by simp [Fits, mR, mL, M_cp1, Mcp2]) d_jdk_52_16_9 ?_
  rintro _ _ ⟨rfl, rfl⟩
  refine Wp.istore (L' := [.val (.ref a), .val (.int 0), .val (.int (ix cs.length)), .val (.ref a1), .val (.int (ix cs.length)), .unset]) rfl d_jdk_52_16_12 ?_
  refine Wp.iload rfl d_jdk_52_16_14 ?_
  refine Wp.iloadN rfl d_jdk_52_16_16 ?_
  refine Wp.icT (teq rfl).1 d_jdk_52_16_17 ?_
  refine Wp.aloadN rfl rfl d_jdk_52_16_57 ?_
  refine Wp.perm [1, 0] 2 pp_1_0 (H' := ((eB a1 (csL (cs.map by8))) :: (a, r, .inr (.char, ex, ov, csL cs)) :: F)) rfl ?_
  refine Wp.aret rfl rfl rfl d_jdk_52_16_58 (by simp [mR, M_cp1, Mcp2]) (by simp [mR, M_cp1, Mcp2]) ?_
  exact ⟨a1, rfl, rfl⟩
theorem d_jdk_52_15_0 : Dc jdk_52_method_15_code 0 (.iload_n 1) 1 1 := ⟨by decide +kernel, rfl⟩
theorem d_jdk_52_15_1 : Dc jdk_52_method_15_code 1 (.aload_n 0) 1 2 := ⟨by decide +kernel, rfl⟩
theorem d_jdk_52_15_2 : Dc jdk_52_method_15_code 2 (.arraylength) 1 3 := ⟨by decide +kernel, rfl⟩
theorem d_jdk_52_15_3 : Dc jdk_52_method_15_code 3 (.isub) 1 4 := ⟨by decide +kernel, rfl⟩
theorem d_jdk_52_15_4 : Dc jdk_52_method_15_code 4 (.bipush 31) 2 6 := ⟨by decide +kernel, rfl⟩
theorem lb_31 : (Int8.ofInt 31).toInt32 = 31 := by decide
theorem d_jdk_52_15_6 : Dc jdk_52_method_15_code 6 (.iushr) 1 7 := ⟨by decide +kernel, rfl⟩
theorem d_jdk_52_15_7 : Dc jdk_52_method_15_code 7 (.i2b) 1 8 := ⟨by decide +kernel, rfl⟩
theorem d_jdk_52_15_8 : Dc jdk_52_method_15_code 8 (.ireturn) 1 9 := ⟨by decide +kernel, rfl⟩
def M_cfl : Mt := (⟨"java/lang/StringUTF16", "coderFromArrayLen", "([BI)B"⟩, jdk_52_method_15_code, 2, some .byte, ⟨0, 0, 0, 0⟩)
theorem nm_M_cfl : mN M_cfl = ⟨"java/lang/StringUTF16", "coderFromArrayLen", "([BI)B"⟩ := by delta mN M_cfl; rfl
set_option maxRecDepth 65536 in
set_option maxHeartbeats 40000000 in
theorem rm_cfl {W : Wd} (hw : Ws W) (b : Addr) (r : Bool) (ex : Bool) (ov : Bool) (bs : List Int32) (n : Nat) (F : List En) (hb : bs.length = n) : Ct W M_cfl [.ref b, .int (ix n)] ((b, r, .inr (.byte, ex, ov, csL bs)) :: F) (fun v H' => v = some (.int 0) ∧ H' = ((b, r, .inr (.byte, ex, ov, csL bs)) :: F)) := by
  refine Ct.intro (L0 := [.val (.ref b), .val (.int (ix n))]) (plainFor_of_name pf_java_lang_StringUTF16) rfl (fun K => ?_)
  refine Wp.iloadN rfl d_jdk_52_15_0 ?_
  refine Wp.aloadN rfl rfl d_jdk_52_15_1 ?_
  refine Wp.alen (z := (ix n)) 0 rfl (congrArg Nat.toInt32 ((csL_len _).trans hb)) d_jdk_52_15_2 ?_
  refine Wp.isub (z := 0) (Int32.sub_self _) d_jdk_52_15_3 ?_
  refine Wp.bipush lb_31 d_jdk_52_15_4 ?_
  refine Wp.iushr (z := 0) (by decide) d_jdk_52_15_6 ?_
  refine Wp.i2b (z := 0) (by decide) d_jdk_52_15_7 ?_
  refine Wp.iretN (z := 0) (by simp) rfl (by decide) d_jdk_52_15_8 (by decide) (by decide) ?_
  exact ⟨rfl, rfl⟩
theorem d_jdk_42_149_0 : Dc jdk_42_method_149_code 0 (.aload_n 0) 1 1 := ⟨by decide +kernel, rfl⟩
theorem d_jdk_42_149_1 : Dc jdk_42_method_149_code 1 (.invokespecial 1) 3 4 := ⟨by decide +kernel, rfl⟩
theorem d_jdk_42_149_4 : Dc jdk_42_method_149_code 4 (.iload_n 3) 1 5 := ⟨by decide +kernel, rfl⟩
theorem d_jdk_42_149_5 : Bj jdk_42_method_149_code 5 (.ifCond .ne 22) 22 8 27 := ⟨by decide +kernel, rfl, by decide, rfl⟩
theorem d_jdk_42_149_27 : Dc jdk_42_method_149_code 27 (.getstatic 38) 3 30 := ⟨by decide +kernel, rfl⟩
theorem d_jdk_42_149_30 : Bj jdk_42_method_149_code 30 (.ifCond .eq 28) 28 33 58 := ⟨by decide +kernel, rfl, by decide, rfl⟩
theorem d_jdk_42_149_33 : Dc jdk_42_method_149_code 33 (.aload_n 1) 1 34 := ⟨by decide +kernel, rfl⟩
theorem d_jdk_42_149_34 : Dc jdk_42_method_149_code 34 (.iload_n 2) 1 35 := ⟨by decide +kernel, rfl⟩
theorem d_jdk_42_149_35 : Dc jdk_42_method_149_code 35 (.iload_n 3) 1 36 := ⟨by decide +kernel, rfl⟩
theorem d_jdk_42_149_36 : Dc jdk_42_method_149_code 36 (.invokestatic 177) 3 39 := ⟨by decide +kernel, rfl⟩
theorem w_165 {W : Wd} (hw : Ws W) : Wok W (Jvm.Cond.code ({ cls := "java/lang/StringUTF16", name := "compress", desc := "([CII)[B" } : Jvm.MethodName) jdk_52_method_16_code (6 : Nat) (Option.some (Jvm.ClassFile.FieldType.array Jvm.ClassFile.FieldType.byte))) := hw.1 _ (List.mem_of_getElem? (i := 165) rfl)
theorem pd___CII__B : parseMethodDescriptor "([CII)[B" = some ⟨[(.array .char), .int, .int], some (.array .byte)⟩ := by decide +kernel
theorem mk_M_cp1 {W : Wd} (hw : Ws W) (n : Nat) : Mk W (M_cp1 n) ⟨"java/lang/StringUTF16", "compress", "([CII)[B"⟩ 3 := Mk.of nm_M_cp1 rfl rfl rfl (w_165 hw) (w_164 hw) (mkLen pd___CII__B rfl) (by decide)
theorem w_162 {W : Wd} (hw : Ws W) : Wok W (Jvm.Cond.methodLink "java/lang/String" (177 : Nat) ({ cls := "java/lang/StringUTF16", name := "compress", desc := "([CII)[B" } : Jvm.MethodName)) := hw.1 _ (List.mem_of_getElem? (i := 162) rfl)
theorem w_163 {W : Wd} (hw : Ws W) : Wok W (Jvm.Cond.static ({ cls := "java/lang/StringUTF16", name := "compress", desc := "([CII)[B" } : Jvm.MethodName)) := hw.1 _ (List.mem_of_getElem? (i := 163) rfl)
theorem d_jdk_42_149_39 : Dc jdk_42_method_149_code 39 (.astore 5) 2 41 := ⟨by decide +kernel, rfl⟩
theorem d_jdk_42_149_41 : Dc jdk_42_method_149_code 41 (.aload_n 0) 1 42 := ⟨by decide +kernel, rfl⟩
theorem d_jdk_42_149_42 : Dc jdk_42_method_149_code 42 (.aload 5) 2 44 := ⟨by decide +kernel, rfl⟩
theorem d_jdk_42_149_44 : Dc jdk_42_method_149_code 44 (.iload_n 3) 1 45 := ⟨by decide +kernel, rfl⟩
theorem d_jdk_42_149_45 : Dc jdk_42_method_149_code 45 (.invokestatic 47) 3 48 := ⟨by decide +kernel, rfl⟩
theorem w_171 {W : Wd} (hw : Ws W) : Wok W (Jvm.Cond.code ({ cls := "java/lang/StringUTF16", name := "coderFromArrayLen", desc := "([BI)B" } : Jvm.MethodName) jdk_52_method_15_code (2 : Nat) (Option.some Jvm.ClassFile.FieldType.byte)) := hw.1 _ (List.mem_of_getElem? (i := 171) rfl)
theorem pd___BI_B : parseMethodDescriptor "([BI)B" = some ⟨[(.array .byte), .int], some .byte⟩ := by decide +kernel
theorem mk_M_cfl {W : Wd} (hw : Ws W) : Mk W M_cfl ⟨"java/lang/StringUTF16", "coderFromArrayLen", "([BI)B"⟩ 2 := Mk.of nm_M_cfl rfl rfl rfl (w_171 hw) (w_164 hw) (mkLen pd___BI_B rfl) (by decide)
theorem w_169 {W : Wd} (hw : Ws W) : Wok W (Jvm.Cond.methodLink "java/lang/String" (47 : Nat) ({ cls := "java/lang/StringUTF16", name := "coderFromArrayLen", desc := "([BI)B" } : Jvm.MethodName)) := hw.1 _ (List.mem_of_getElem? (i := 169) rfl)
theorem w_170 {W : Wd} (hw : Ws W) : Wok W (Jvm.Cond.static ({ cls := "java/lang/StringUTF16", name := "coderFromArrayLen", desc := "([BI)B" } : Jvm.MethodName)) := hw.1 _ (List.mem_of_getElem? (i := 170) rfl)
theorem d_jdk_42_149_48 : Dc jdk_42_method_149_code 48 (.putfield 15) 3 51 := ⟨by decide +kernel, rfl⟩
theorem d_jdk_42_149_51 : Dc jdk_42_method_149_code 51 (.aload_n 0) 1 52 := ⟨by decide +kernel, rfl⟩
theorem d_jdk_42_149_52 : Dc jdk_42_method_149_code 52 (.aload 5) 2 54 := ⟨by decide +kernel, rfl⟩
theorem d_jdk_42_149_54 : Dc jdk_42_method_149_code 54 (.putfield 9) 3 57 := ⟨by decide +kernel, rfl⟩
theorem d_jdk_42_149_57 : Dc jdk_42_method_149_code 57 (.return_) 1 58 := ⟨by decide +kernel, rfl⟩
def M_si2 (n : Nat) : Mt := (⟨"java/lang/String", "<init>", "([CIILjava/lang/Void;)V"⟩, jdk_42_method_149_code, 6, none, ⟨2, 1, n, 35⟩)
theorem nm_M_si2 {n : Nat} : mN (M_si2 n) = ⟨"java/lang/String", "<init>", "([CIILjava/lang/Void;)V"⟩ := by delta mN M_si2; rfl
set_option maxRecDepth 65536 in
set_option maxHeartbeats 40000000 in
theorem rm_si2 {W : Wd} (hw : Ws W) (s : Addr) (a : Addr) (r : Bool) (ex : Bool) (ov : Bool) (cs : List Int32) (F : List En) (hp : ∀ c ∈ cs, ¬ c < 0 ∧ ¬ 255 < c) (hn : cs.length ≤ 4000) (h1 : 0 < cs.length) : Ct W (M_si2 cs.length) [.ref s, .ref a, .int 0, .int (ix cs.length), .null] ((oStr true s (.null) (.int 0)) :: (a, r, .inr (.char, ex, ov, csL cs)) :: F) (fun v H' => ∃ b, v = none ∧ H' = ((oStr true s (.ref b) (.int 0)) :: (eB b (csL (cs.map by8))) :: (a, r, .inr (.char, ex, ov, csL cs)) :: F)) := by
  refine Ct.intro (L0 := [.val (.ref s), .val (.ref a), .val (.int 0), .val (.int (ix cs.length)), .val (.null), .unset]) (plainFor_of_name pf_java_lang_String) rfl (fun K => ?_)
  refine Wp.aloadN rfl rfl d_jdk_42_149_0 ?_
  refine Wp.initO nm_M_si2 (w_19 hw) (w_20 hw) (w_21 hw) (Wn := 0) rfl rfl (by simp [mR, M_si2, M_cp1, M_cfl]) (by simp [mR, M_si2, M_cp1, M_cfl]) d_jdk_42_149_1 ?_
  refine Wp.iloadN rfl d_jdk_42_149_4 ?_
  refine Wp.ifT (feq (fun q => by have := ix_eq (j := 0) (by omega) (by decide) q; omega)).2 d_jdk_42_149_5 ?_
  obtain ⟨cs1, Fcs1, ncs1⟩ := st_compact hw
  refine Wp.getS nm_M_si2 (host := "") (Or.inl (w_52 hw)) Via.refl Fcs1 d_jdk_42_149_27 ?_
  refine Wp.ifF (feq ncs1).1 d_jdk_42_149_30 ?_
  refine Wp.aloadN rfl rfl d_jdk_42_149_33 ?_
  refine Wp.iloadN rfl d_jdk_42_149_34 ?_
  refine Wp.iloadN rfl d_jdk_42_149_35 ?_
  refine Wp.perm [1, 0] 2 pp_1_0 (H' := ((a, r, .inr (.char, ex, ov, csL cs)) :: (oStr true s (.null) (.int 0)) :: F)) rfl ?_
  refine Wp.callS nm_M_si2 (M' := M_cp1 cs.length) (fun _ => rm_cp1 hw.set a r ex ov cs _ hp hn) (mk_M_cp1 hw cs.length) (w_162 hw) (w_163 hw) rfl rfl (Wn := 0) rfl rfl (by simp [Fits, mR, mL, M_si2, M_cp1, M_cfl]) d_jdk_42_149_36 ?_
  rintro _ _ ⟨b_2, rfl, rfl⟩
  refine Wp.astore (L' := [.val (.ref s), .val (.ref a), .val (.int 0), .val (.int (ix cs.length)), .val (.null), .val (.ref b_2)]) rfl rfl d_jdk_42_149_39 ?_
  refine Wp.aloadN rfl rfl d_jdk_42_149_41 ?_
  refine Wp.aload rfl rfl d_jdk_42_149_42 ?_
  refine Wp.iloadN rfl d_jdk_42_149_44 ?_
  refine Wp.callS nm_M_si2 (fun _ => rm_cfl hw.set b_2 true true false (cs.map by8) cs.length _ (by simp)) (mk_M_cfl hw) (w_169 hw) (w_170 hw) rfl rfl (Wn := 1) rfl rfl (by simp [Fits, mR, mL, M_si2, M_cp1, M_cfl]) d_jdk_42_149_45 ?_
  rintro _ _ ⟨rfl, rfl⟩
  refine Wp.putF nm_M_si2 (host := "") (Or.inl (w_29 hw)) Via.refl 2 1 rfl rfl (Or.inr ⟨(w_25 hw), rfl, rfl⟩) (w_10 hw) (ty := .byte) (by decide) rfl rfl d_jdk_42_149_48 (H' := ((eB b_2 (csL (cs.map by8))) :: (a, r, .inr (.char, ex, ov, csL cs)) :: (oStr true s (.null) (.int 0)) :: F)) rfl ?_
  refine Wp.aloadN rfl rfl d_jdk_42_149_51 ?_
  refine Wp.aload rfl rfl d_jdk_42_149_52 ?_
  refine Wp.putF nm_M_si2 (host := "") (Or.inl (w_28 hw)) Via.refl 2 0 rfl rfl (Or.inr ⟨(w_24 hw), rfl, rfl⟩) (w_10 hw) (ty := (.array .byte)) (by decide) rfl rfl d_jdk_42_149_54 (H' := ((eB b_2 (csL (cs.map by8))) :: (a, r, .inr (.char, ex, ov, csL cs)) :: (oStr true s (.ref b_2) (.int 0)) :: F)) rfl ?_
  refine Wp.perm [2, 0, 1] 3 pp_2_0_1 (H' := ((oStr true s (.ref b_2) (.int 0)) :: (eB b_2 (csL (cs.map by8))) :: (a, r, .inr (.char, ex, ov, csL cs)) :: F)) rfl ?_
  refine Wp.ret rfl d_jdk_42_149_57 (by simp [mR, M_si2, M_cp1, M_cfl]) (by simp [mR, M_si2, M_cp1, M_cfl]) ?_
  exact ⟨b_2, rfl, rfl⟩
theorem d_jdk_42_3_0 : Dc jdk_42_method_3_code 0 (.aload_n 0) 1 1 := ⟨by decide +kernel, rfl⟩
theorem d_jdk_42_3_1 : Dc jdk_42_method_3_code 1 (.aload_n 1) 1 2 := ⟨by decide +kernel, rfl⟩
theorem d_jdk_42_3_2 : Dc jdk_42_method_3_code 2 (.iconst 0) 1 3 := ⟨by decide +kernel, rfl⟩
theorem d_jdk_42_3_3 : Dc jdk_42_method_3_code 3 (.aload_n 1) 1 4 := ⟨by decide +kernel, rfl⟩
theorem d_jdk_42_3_4 : Dc jdk_42_method_3_code 4 (.arraylength) 1 5 := ⟨by decide +kernel, rfl⟩
theorem d_jdk_42_3_5 : Dc jdk_42_method_3_code 5 (.aconst_null) 1 6 := ⟨by decide +kernel, rfl⟩
theorem d_jdk_42_3_6 : Dc jdk_42_method_3_code 6 (.invokespecial 27) 3 9 := ⟨by decide +kernel, rfl⟩
theorem w_18 {W : Wd} (hw : Ws W) : Wok W (Jvm.Cond.code ({ cls := "java/lang/String", name := "<init>", desc := "([CIILjava/lang/Void;)V" } : Jvm.MethodName) jdk_42_method_149_code (6 : Nat) (Option.none : Option Jvm.ClassFile.FieldType)) := hw.1 _ (List.mem_of_getElem? (i := 18) rfl)
theorem pd___CIILjava_lang_Void__V : parseMethodDescriptor "([CIILjava/lang/Void;)V" = some ⟨[(.array .char), .int, .int, (.object "java/lang/Void")], none⟩ := by decide +kernel
theorem mk_M_si2 {W : Wd} (hw : Ws W) (n : Nat) : Mk W (M_si2 n) ⟨"java/lang/String", "<init>", "([CIILjava/lang/Void;)V"⟩ 4 := Mk.of nm_M_si2 rfl rfl rfl (w_18 hw) (w_11 hw) (mkLen pd___CIILjava_lang_Void__V rfl) (by decide)
theorem w_15 {W : Wd} (hw : Ws W) : Wok W (Jvm.Cond.methodLink "java/lang/String" (27 : Nat) ({ cls := "java/lang/String", name := "<init>", desc := "([CIILjava/lang/Void;)V" } : Jvm.MethodName)) := hw.1 _ (List.mem_of_getElem? (i := 15) rfl)
theorem w_16 {W : Wd} (hw : Ws W) : Wok W (Jvm.Cond.instanceMethod ({ cls := "java/lang/String", name := "<init>", desc := "([CIILjava/lang/Void;)V" } : Jvm.MethodName)) := hw.1 _ (List.mem_of_getElem? (i := 16) rfl)
theorem d_jdk_42_3_9 : Dc jdk_42_method_3_code 9 (.return_) 1 10 := ⟨by decide +kernel, rfl⟩
def M_si (n : Nat) : Mt := (⟨"java/lang/String", "<init>", "([C)V"⟩, jdk_42_method_3_code, 2, none, ⟨3, 1, n, 52⟩)
theorem nm_M_si {n : Nat} : mN (M_si n) = ⟨"java/lang/String", "<init>", "([C)V"⟩ := by delta mN M_si; rfl
set_option maxRecDepth 65536 in
set_option maxHeartbeats 40000000 in
theorem rm_si {W : Wd} (hw : Ws W) (s : Addr) (a : Addr) (r : Bool) (ex : Bool) (ov : Bool) (cs : List Int32) (F : List En) (hp : ∀ c ∈ cs, ¬ c < 0 ∧ ¬ 255 < c) (hn : cs.length ≤ 4000) (h1 : 0 < cs.length) : Ct W (M_si cs.length) [.ref s, .ref a] ((oStr true s (.null) (.int 0)) :: (a, r, .inr (.char, ex, ov, csL cs)) :: F) (fun v H' => ∃ b, v = none ∧ H' = ((oStr true s (.ref b) (.int 0)) :: (eB b (csL (cs.map by8))) :: (a, r, .inr (.char, ex, ov, csL cs)) :: F)) := by
  refine Ct.intro (L0 := [.val (.ref s), .val (.ref a)]) (plainFor_of_name pf_java_lang_String) rfl (fun K => ?_)
  refine Wp.aloadN rfl rfl d_jdk_42_3_0 ?_
  refine Wp.aloadN rfl rfl d_jdk_42_3_1 ?_
  refine Wp.iconst lc_0 d_jdk_42_3_2 ?_
  refine Wp.aloadN rfl rfl d_jdk_42_3_3 ?_
  refine Wp.alen (z := (ix cs.length)) 1 rfl (congrArg Nat.toInt32 (csL_len _)) d_jdk_42_3_4 ?_
  refine Wp.aconstNull d_jdk_42_3_5 ?_
  refine Wp.callC nm_M_si (M' := M_si2 cs.length) (fun _ => rm_si2 hw.set s a r ex ov cs _ hp hn h1) (mk_M_si2 hw cs.length) (w_15 hw) (w_16 hw) rfl rfl rfl rfl (Wn := 0) rfl rfl (by simp [Fits, mR, mL, M_si, M_si2]) d_jdk_42_3_6 ?_
  rintro _ _ ⟨b_1, rfl, rfl⟩
  refine Wp.ret rfl d_jdk_42_3_9 (by simp [mR, M_si, M_si2]) (by simp [mR, M_si, M_si2]) ?_
  exact ⟨b_1, rfl, rfl⟩
theorem d_jdk_42_149_8 : Dc jdk_42_method_149_code 8 (.aload_n 0) 1 9 := ⟨by decide +kernel, rfl⟩
theorem d_jdk_42_149_9 : Dc jdk_42_method_149_code 9 (.ldc 7) 2 11 := ⟨by decide +kernel, rfl⟩
theorem d_jdk_42_149_11 : Dc jdk_42_method_149_code 11 (.getfield 9) 3 14 := ⟨by decide +kernel, rfl⟩
theorem d_jdk_42_149_14 : Dc jdk_42_method_149_code 14 (.putfield 9) 3 17 := ⟨by decide +kernel, rfl⟩
theorem d_jdk_42_149_17 : Dc jdk_42_method_149_code 17 (.aload_n 0) 1 18 := ⟨by decide +kernel, rfl⟩
theorem d_jdk_42_149_18 : Dc jdk_42_method_149_code 18 (.ldc 7) 2 20 := ⟨by decide +kernel, rfl⟩
theorem d_jdk_42_149_20 : Dc jdk_42_method_149_code 20 (.getfield 15) 3 23 := ⟨by decide +kernel, rfl⟩
theorem d_jdk_42_149_23 : Dc jdk_42_method_149_code 23 (.putfield 15) 3 26 := ⟨by decide +kernel, rfl⟩
theorem d_jdk_42_149_26 : Dc jdk_42_method_149_code 26 (.return_) 1 27 := ⟨by decide +kernel, rfl⟩
theorem pp_4_3_0_1_2 : [4, 3, 0, 1, 2].isPerm (List.range 5) = true := by decide +kernel
def M_si20 : Mt := (⟨"java/lang/String", "<init>", "([CIILjava/lang/Void;)V"⟩, jdk_42_method_149_code, 6, none, ⟨1, 4, 8, 12⟩)
theorem nm_M_si20 : mN M_si20 = ⟨"java/lang/String", "<init>", "([CIILjava/lang/Void;)V"⟩ := by delta mN M_si20; rfl
set_option maxRecDepth 65536 in
set_option maxHeartbeats 40000000 in
theorem rm_si20 {W : Wd} (hw : Ws W) (s : Addr) (a : Addr) (F : List En) : CtW consts_1 W M_si20 [.ref s, .ref a, .int 0, .int 0, .null] ((oStr true s (.null) (.int 0)) :: F) (fun v H' => ∃ r, v = none ∧ H' = ((oStr true s (.ref r) (.int 0)) :: (r, false, .inr (.byte, false, false, zb [])) :: F)) := by
  refine CtW.intro (ew_1 hw) (L0 := [.val (.ref s), .val (.ref a), .val (.int 0), .val (.int 0), .val (.null), .unset]) (plainFor_of_name pf_java_lang_String) rfl (fun K s0 hk => ?_)
  refine Wp.aloadN rfl rfl d_jdk_42_149_0 ?_
  refine Wp.initO nm_M_si20 (w_19 hw) (w_20 hw) (w_21 hw) (Wn := 0) rfl rfl (by decide) (by decide) d_jdk_42_149_1 ?_
  refine Wp.iloadN rfl d_jdk_42_149_4 ?_
  refine Wp.ifF (by decide) d_jdk_42_149_5 ?_
  refine Wp.aloadN rfl rfl d_jdk_42_149_8 ?_
  refine Wp.ldcK nm_M_si20 (n1 := 0) hk (w_22 hw) (sa_1 hw) (List.mem_of_getElem? (i := 2) rfl) tx_0 (by decide) (nf_oStr hw) ln_0 (by decide) (by decide) (by decide) d_jdk_42_149_9 (fun _ a1 b2 hk => ?_)
  refine Wp.getF nm_M_si20 (host := "") (Or.inl (w_28 hw)) Via.refl 0 0 rfl rfl d_jdk_42_149_11 ?_
  refine Wp.putF nm_M_si20 (host := "") (Or.inl (w_28 hw)) Via.refl 2 0 rfl rfl (Or.inr ⟨(w_24 hw), rfl, rfl⟩) (w_10 hw) (ty := (.array .byte)) (by decide) rfl rfl d_jdk_42_149_14 (H' := ((oStr false a1 (.ref b2) (.int 0)) :: (b2, false, .inr (.byte, false, false, zb [])) :: (oStr true s (.ref b2) (.int 0)) :: F)) rfl ?_
  refine Wp.aloadN rfl rfl d_jdk_42_149_17 ?_
  refine Wp.ldcK nm_M_si20 (n1 := 0) hk (w_22 hw) (sa_1 hw) (List.mem_of_getElem? (i := 2) rfl) tx_0 (by decide) (nf_oStr hw) ln_0 (by decide) (by decide) (by decide) d_jdk_42_149_18 (fun _ a3 b4 hk => ?_)
  refine Wp.getF nm_M_si20 (host := "") (Or.inl (w_29 hw)) Via.refl 0 1 rfl rfl d_jdk_42_149_20 ?_
  refine Wp.putF nm_M_si20 (host := "") (Or.inl (w_29 hw)) Via.refl 4 1 rfl rfl (Or.inr ⟨(w_25 hw), rfl, rfl⟩) (w_10 hw) (ty := .byte) (by decide) rfl rfl d_jdk_42_149_23 (H' := ((oStr false a3 (.ref b4) (.int 0)) :: (b4, false, .inr (.byte, false, false, zb [])) :: (oStr false a1 (.ref b2) (.int 0)) :: (b2, false, .inr (.byte, false, false, zb [])) :: (oStr true s (.ref b2) (.int 0)) :: F)) rfl ?_
  refine Wp.perm [4, 3, 0, 1, 2] 5 pp_4_3_0_1_2 (H' := ((oStr true s (.ref b2) (.int 0)) :: (b2, false, .inr (.byte, false, false, zb [])) :: (oStr false a3 (.ref b4) (.int 0)) :: (b4, false, .inr (.byte, false, false, zb [])) :: (oStr false a1 (.ref b2) (.int 0)) :: F)) rfl ?_
  refine Wp.less ((((((List.Sublist.refl _).cons _).cons _).cons _).cons_cons _).cons_cons _) ?_
  refine Wp.ret rfl d_jdk_42_149_26 (by decide) (by decide) ?_
  exact ⟨b2, rfl, rfl⟩
theorem mk_M_si20 {W : Wd} (hw : Ws W) : Mk W M_si20 ⟨"java/lang/String", "<init>", "([CIILjava/lang/Void;)V"⟩ 4 := Mk.of nm_M_si20 rfl rfl rfl (w_18 hw) (w_11 hw) (mkLen pd___CIILjava_lang_Void__V rfl) (by decide)
def M_si10 : Mt := (⟨"java/lang/String", "<init>", "([C)V"⟩, jdk_42_method_3_code, 2, none, ⟨2, 4, 8, 29⟩)
theorem nm_M_si10 : mN M_si10 = ⟨"java/lang/String", "<init>", "([C)V"⟩ := by delta mN M_si10; rfl
set_option maxRecDepth 65536 in
set_option maxHeartbeats 40000000 in
theorem rm_si10 {W : Wd} (hw : Ws W) (s : Addr) (a : Addr) (F : List En) : CtW consts_1 W M_si10 [.ref s, .ref a] ((oStr true s (.null) (.int 0)) :: (eC a []) :: F) (fun v H' => ∃ r, v = none ∧ H' = ((oStr true s (.ref r) (.int 0)) :: (r, false, .inr (.byte, false, false, zb [])) :: (eC a []) :: F)) := by
  refine CtW.intro (ew_1 hw) (L0 := [.val (.ref s), .val (.ref a)]) (plainFor_of_name pf_java_lang_String) rfl (fun K s0 hk => ?_)
  refine Wp.aloadN rfl rfl d_jdk_42_3_0 ?_
  refine Wp.aloadN rfl rfl d_jdk_42_3_1 ?_
  refine Wp.iconst lc_0 d_jdk_42_3_2 ?_
  refine Wp.aloadN rfl rfl d_jdk_42_3_3 ?_
  refine Wp.alen (z := 0) 1 rfl (by decide) d_jdk_42_3_4 ?_
  refine Wp.aconstNull d_jdk_42_3_5 ?_
  refine Wp.callCW nm_M_si10 hk (rm_si20 hw s a _ ) (mk_M_si20 hw) (w_15 hw) (w_16 hw) rfl rfl rfl rfl (Wn := 0) rfl rfl (by decide) d_jdk_42_3_6 ?_
  rintro _ _ _ hk ⟨r_1, rfl, rfl⟩
  refine Wp.ret rfl d_jdk_42_3_9 (by decide) (by decide) ?_
  exact ⟨r_1, rfl, rfl⟩
theorem d_method_3_0 : Dc method_3_code 0 (.iload_n 1) 1 1 := ⟨by decide +kernel, rfl⟩
theorem d_method_3_1 : Bj method_3_code 1 (.ifCond .ne 14) 14 4 15 := ⟨by decide +kernel, rfl, by decide, rfl⟩
theorem d_method_3_4 : Dc method_3_code 4 (.new 7) 3 7 := ⟨by decide +kernel, rfl⟩
theorem w_9 {W : Wd} (hw : Ws W) : Wok W (Jvm.Cond.classLink "com/example/polje/polje/ObfuscatorsEmailPinLaw" (7 : Nat) "java/lang/String") := hw.1 _ (List.mem_of_getElem? (i := 9) rfl)
theorem d_method_3_7 : Dc method_3_code 7 (.dup) 1 8 := ⟨by decide +kernel, rfl⟩
theorem d_method_3_8 : Dc method_3_code 8 (.iconst 0) 1 9 := ⟨by decide +kernel, rfl⟩
theorem d_method_3_9 : Dc method_3_code 9 (.newarray .char) 2 11 := ⟨by decide +kernel, rfl⟩
theorem w_1 {W : Wd} (hw : Ws W) : Wok W (Jvm.Cond.arrayClass Jvm.ClassFile.FieldType.char) := hw.1 _ (List.mem_of_getElem? (i := 1) rfl)
theorem d_method_3_11 : Dc method_3_code 11 (.invokespecial 9) 3 14 := ⟨by decide +kernel, rfl⟩
theorem w_14 {W : Wd} (hw : Ws W) : Wok W (Jvm.Cond.code ({ cls := "java/lang/String", name := "<init>", desc := "([C)V" } : Jvm.MethodName) jdk_42_method_3_code (2 : Nat) (Option.none : Option Jvm.ClassFile.FieldType)) := hw.1 _ (List.mem_of_getElem? (i := 14) rfl)
theorem pd___C_V : parseMethodDescriptor "([C)V" = some ⟨[(.array .char)], none⟩ := by decide +kernel
theorem mk_M_si10 {W : Wd} (hw : Ws W) : Mk W M_si10 ⟨"java/lang/String", "<init>", "([C)V"⟩ 1 := Mk.of nm_M_si10 rfl rfl rfl (w_14 hw) (w_11 hw) (mkLen pd___C_V rfl) (by decide)
theorem w_12 {W : Wd} (hw : Ws W) : Wok W (Jvm.Cond.methodLink "com/example/polje/polje/ObfuscatorsEmailPinLaw" (9 : Nat) ({ cls := "java/lang/String", name := "<init>", desc := "([C)V" } : Jvm.MethodName)) := hw.1 _ (List.mem_of_getElem? (i := 12) rfl)
theorem w_13 {W : Wd} (hw : Ws W) : Wok W (Jvm.Cond.instanceMethod ({ cls := "java/lang/String", name := "<init>", desc := "([C)V" } : Jvm.MethodName)) := hw.1 _ (List.mem_of_getElem? (i := 13) rfl)
theorem d_method_3_14 : Dc method_3_code 14 (.areturn) 1 15 := ⟨by decide +kernel, rfl⟩
def M_mk0 : Mt := (⟨"com/example/polje/polje/ObfuscatorsEmailPinLaw", "make", "([CI)Ljava/lang/String;"⟩, method_3_code, 2, some (.object "java/lang/String"), ⟨3, 6, 12, 43⟩)
theorem nm_M_mk0 : mN M_mk0 = ⟨"com/example/polje/polje/ObfuscatorsEmailPinLaw", "make", "([CI)Ljava/lang/String;"⟩ := by delta mN M_mk0; rfl
set_option maxRecDepth 65536 in
set_option maxHeartbeats 40000000 in
theorem rm_mk0 {W : Wd} (hw : Ws W) (c : Addr) (rc : Bool) (xc : Bool) (oc : Bool) (m0 : Nat) (m1 : Nat) (m2 : Nat) (m3 : Nat) (m4 : Nat) (F : List En) (hm0 : m0 < 256) (hm1 : m1 < 256) (hm2 : m2 < 256) (hm3 : m3 < 256) (hm4 : m4 < 256) : CtW consts_1 W M_mk0 [.ref c, .int 0] ((c, rc, .inr (.char, xc, oc, [.int (ix m0), .int (ix m1), .int (ix m2), .int (ix m3), .int (ix m4)])) :: F) (fun v H' => ∃ q r, v = some (.ref q) ∧ H' = ((oStr true q (.ref r) (.int 0)) :: (r, false, .inr (.byte, false, false, zb [])) :: (c, rc, .inr (.char, xc, oc, [.int (ix m0), .int (ix m1), .int (ix m2), .int (ix m3), .int (ix m4)])) :: F)) := by
  refine CtW.intro (ew_1 hw) (L0 := [.val (.ref c), .val (.int 0)]) (plainFor_of_name pf_com_example_polje_polje_ObfuscatorsEmailPinLaw) rfl (fun K s0 hk => ?_)
  refine Wp.iloadN rfl d_method_3_0 ?_
  refine Wp.ifF (by decide) d_method_3_1 ?_
  refine Wp.newO nm_M_mk0 (w_9 hw) (w_10 hw) (w_11 hw) (nf_oStr hw) (by decide) (by decide) d_method_3_4 (fun a1 => ?_)
  refine Wp.dup rfl d_method_3_7 ?_
  refine Wp.iconst lc_0 d_method_3_8 ?_
  refine Wp.newP (kk := 0) (vs := []) d_method_3_9 (w_1 hw) (by decide) (by decide) (by decide) (by decide) (by decide) rfl (fun a2 => ?_)
  refine Wp.perm [1, 0] 2 pp_1_0 (H' := ((oStr true a1 (.null) (.int 0)) :: (eC a2 []) :: (c, rc, .inr (.char, xc, oc, [.int (ix m0), .int (ix m1), .int (ix m2), .int (ix m3), .int (ix m4)])) :: F)) rfl ?_
  refine Wp.callCW nm_M_mk0 hk (rm_si10 hw a1 a2 _ ) (mk_M_si10 hw) (w_12 hw) (w_13 hw) rfl rfl rfl rfl (Wn := 1) rfl rfl (by decide) d_method_3_11 ?_
  rintro _ _ _ hk ⟨r_3, rfl, rfl⟩
  refine Wp.perm [0, 1, 3, 2] 4 pp_0_1_3_2 (H' := ((oStr true a1 (.ref r_3) (.int 0)) :: (r_3, false, .inr (.byte, false, false, zb [])) :: (c, rc, .inr (.char, xc, oc, [.int (ix m0), .int (ix m1), .int (ix m2), .int (ix m3), .int (ix m4)])) :: (eC a2 []) :: F)) rfl ?_
  refine Wp.less (((((List.Sublist.refl _).cons _).cons_cons _).cons_cons _).cons_cons _) ?_
  refine Wp.aret rfl rfl rfl d_method_3_14 (by decide) (by decide) ?_
  exact ⟨a1, r_3, rfl, rfl⟩
theorem d_method_3_15 : Dc method_3_code 15 (.iload_n 1) 1 16 := ⟨by decide +kernel, rfl⟩
theorem d_method_3_16 : Dc method_3_code 16 (.iconst 1) 1 17 := ⟨by decide +kernel, rfl⟩
theorem d_method_3_17 : Bj method_3_code 17 (.if_icmp .ne 20) 20 20 37 := ⟨by decide +kernel, rfl, by decide, rfl⟩
theorem d_method_3_20 : Dc method_3_code 20 (.new 7) 3 23 := ⟨by decide +kernel, rfl⟩
theorem d_method_3_23 : Dc method_3_code 23 (.dup) 1 24 := ⟨by decide +kernel, rfl⟩
theorem d_method_3_24 : Dc method_3_code 24 (.iconst 1) 1 25 := ⟨by decide +kernel, rfl⟩
theorem d_method_3_25 : Dc method_3_code 25 (.newarray .char) 2 27 := ⟨by decide +kernel, rfl⟩
theorem d_method_3_27 : Dc method_3_code 27 (.dup) 1 28 := ⟨by decide +kernel, rfl⟩
theorem d_method_3_28 : Dc method_3_code 28 (.iconst 0) 1 29 := ⟨by decide +kernel, rfl⟩
theorem d_method_3_29 : Dc method_3_code 29 (.aload_n 0) 1 30 := ⟨by decide +kernel, rfl⟩
theorem d_method_3_30 : Dc method_3_code 30 (.iconst 0) 1 31 := ⟨by decide +kernel, rfl⟩
theorem d_method_3_31 : Dc method_3_code 31 (.caload) 1 32 := ⟨by decide +kernel, rfl⟩
theorem d_method_3_32 : Dc method_3_code 32 (.castore) 1 33 := ⟨by decide +kernel, rfl⟩
theorem d_method_3_33 : Dc method_3_code 33 (.invokespecial 9) 3 36 := ⟨by decide +kernel, rfl⟩
theorem mk_M_si {W : Wd} (hw : Ws W) (n : Nat) : Mk W (M_si n) ⟨"java/lang/String", "<init>", "([C)V"⟩ 1 := Mk.of nm_M_si rfl rfl rfl (w_14 hw) (w_11 hw) (mkLen pd___C_V rfl) (by decide)
theorem d_method_3_36 : Dc method_3_code 36 (.areturn) 1 37 := ⟨by decide +kernel, rfl⟩
def M_mk1 : Mt := (⟨"com/example/polje/polje/ObfuscatorsEmailPinLaw", "make", "([CI)Ljava/lang/String;"⟩, method_3_code, 2, some (.object "java/lang/String"), ⟨4, 3, 6, 66⟩)
theorem nm_M_mk1 : mN M_mk1 = ⟨"com/example/polje/polje/ObfuscatorsEmailPinLaw", "make", "([CI)Ljava/lang/String;"⟩ := by delta mN M_mk1; rfl
set_option maxRecDepth 65536 in
set_option maxHeartbeats 40000000 in
theorem rm_mk1 {W : Wd} (hw : Ws W) (c : Addr) (rc : Bool) (xc : Bool) (oc : Bool) (m0 : Nat) (m1 : Nat) (m2 : Nat) (m3 : Nat) (m4 : Nat) (F : List En) (hm0 : m0 < 256) (hm1 : m1 < 256) (hm2 : m2 < 256) (hm3 : m3 < 256) (hm4 : m4 < 256) : Ct W M_mk1 [.ref c, .int 1] ((c, rc, .inr (.char, xc, oc, [.int (ix m0), .int (ix m1), .int (ix m2), .int (ix m3), .int (ix m4)])) :: F) (fun v H' => ∃ q r, v = some (.ref q) ∧ H' = ((oStr true q (.ref r) (.int 0)) :: (eB r (zb [m0])) :: (c, rc, .inr (.char, xc, oc, [.int (ix m0), .int (ix m1), .int (ix m2), .int (ix m3), .int (ix m4)])) :: F)) := by
  refine Ct.intro (L0 := [.val (.ref c), .val (.int 1)]) (plainFor_of_name pf_com_example_polje_polje_ObfuscatorsEmailPinLaw) rfl (fun K => ?_)
  refine Wp.iloadN rfl d_method_3_0 ?_
  refine Wp.ifT (by decide) d_method_3_1 ?_
  refine Wp.iloadN rfl d_method_3_15 ?_
  refine Wp.iconst lc_1 d_method_3_16 ?_
  refine Wp.icF (by decide) d_method_3_17 ?_
  refine Wp.newO nm_M_mk1 (w_9 hw) (w_10 hw) (w_11 hw) (nf_oStr hw) (by decide) (by decide) d_method_3_20 (fun a1 => ?_)
  refine Wp.dup rfl d_method_3_23 ?_
  refine Wp.iconst lc_1 d_method_3_24 ?_
  refine Wp.newP (kk := 1) (vs := [.int 0]) d_method_3_25 (w_1 hw) (by decide) (by decide) (by decide) (by decide) (by decide) rfl (fun a2 => ?_)
  refine Wp.dup rfl d_method_3_27 ?_
  refine Wp.iconst lc_0 d_method_3_28 ?_
  refine Wp.aloadN rfl rfl d_method_3_29 ?_
  refine Wp.iconst lc_0 d_method_3_30 ?_
  refine Wp.caload 2 0 rfl (by decide) (by decide) rfl d_method_3_31 ?_
  refine Wp.castore (z := (ix m0)) 0 0 rfl (by decide) (by decide) (show 0 < 1 by decide) (ix_c (by omega)) d_method_3_32 (H' := ((eC a2 [.int (ix m0)]) :: (oStr true a1 (.null) (.int 0)) :: (c, rc, .inr (.char, xc, oc, [.int (ix m0), .int (ix m1), .int (ix m2), .int (ix m3), .int (ix m4)])) :: F)) rfl ?_
  refine Wp.perm [1, 0] 2 pp_1_0 (H' := ((oStr true a1 (.null) (.int 0)) :: (eC a2 [.int (ix m0)]) :: (c, rc, .inr (.char, xc, oc, [.int (ix m0), .int (ix m1), .int (ix m2), .int (ix m3), .int (ix m4)])) :: F)) rfl ?_
  refine Wp.callC nm_M_mk1 (M' := M_si 1) (fun _ => rm_si hw.set a1 a2 true true false [(ix m0)] _ (hpC (ixB (by omega)) hpN) (show 1 ≤ 4000 by decide) (show 0 < 1 by decide)) (mk_M_si hw 1) (w_12 hw) (w_13 hw) rfl rfl rfl rfl (Wn := 1) rfl rfl (by decide) d_method_3_33 ?_
  rintro _ _ ⟨b_3, rfl, rfl⟩
  refine Wp.perm [0, 1, 3, 2] 4 pp_0_1_3_2 (H' := ((oStr true a1 (.ref b_3) (.int 0)) :: (eB b_3 [.int (by8 (ix m0))]) :: (c, rc, .inr (.char, xc, oc, [.int (ix m0), .int (ix m1), .int (ix m2), .int (ix m3), .int (ix m4)])) :: (eC a2 [.int (ix m0)]) :: F)) rfl ?_
  refine Wp.less (((((List.Sublist.refl _).cons _).cons_cons _).cons_cons _).cons_cons _) ?_
  refine Wp.aret rfl rfl rfl d_method_3_36 (by decide) (by decide) ?_
  exact ⟨a1, b_3, rfl, rfl⟩
theorem d_method_3_37 : Dc method_3_code 37 (.iload_n 1) 1 38 := ⟨by decide +kernel, rfl⟩
theorem d_method_3_38 : Dc method_3_code 38 (.iconst 2) 1 39 := ⟨by decide +kernel, rfl⟩
theorem d_method_3_39 : Bj method_3_code 39 (.if_icmp .ne 26) 26 42 65 := ⟨by decide +kernel, rfl, by decide, rfl⟩
theorem d_method_3_42 : Dc method_3_code 42 (.new 7) 3 45 := ⟨by decide +kernel, rfl⟩
theorem d_method_3_45 : Dc method_3_code 45 (.dup) 1 46 := ⟨by decide +kernel, rfl⟩
theorem d_method_3_46 : Dc method_3_code 46 (.iconst 2) 1 47 := ⟨by decide +kernel, rfl⟩
theorem d_method_3_47 : Dc method_3_code 47 (.newarray .char) 2 49 := ⟨by decide +kernel, rfl⟩
theorem d_method_3_49 : Dc method_3_code 49 (.dup) 1 50 := ⟨by decide +kernel, rfl⟩
theorem d_method_3_50 : Dc method_3_code 50 (.iconst 0) 1 51 := ⟨by decide +kernel, rfl⟩
theorem d_method_3_51 : Dc method_3_code 51 (.aload_n 0) 1 52 := ⟨by decide +kernel, rfl⟩
theorem d_method_3_52 : Dc method_3_code 52 (.iconst 0) 1 53 := ⟨by decide +kernel, rfl⟩
theorem d_method_3_53 : Dc method_3_code 53 (.caload) 1 54 := ⟨by decide +kernel, rfl⟩
theorem d_method_3_54 : Dc method_3_code 54 (.castore) 1 55 := ⟨by decide +kernel, rfl⟩
theorem d_method_3_55 : Dc method_3_code 55 (.dup) 1 56 := ⟨by decide +kernel, rfl⟩
theorem d_method_3_56 : Dc method_3_code 56 (.iconst 1) 1 57 := ⟨by decide +kernel, rfl⟩
theorem d_method_3_57 : Dc method_3_code 57 (.aload_n 0) 1 58 := ⟨by decide +kernel, rfl⟩
theorem d_method_3_58 : Dc method_3_code 58 (.iconst 1) 1 59 := ⟨by decide +kernel, rfl⟩
theorem d_method_3_59 : Dc method_3_code 59 (.caload) 1 60 := ⟨by decide +kernel, rfl⟩
theorem d_method_3_60 : Dc method_3_code 60 (.castore) 1 61 := ⟨by decide +kernel, rfl⟩
theorem d_method_3_61 : Dc method_3_code 61 (.invokespecial 9) 3 64 := ⟨by decide +kernel, rfl⟩
theorem d_method_3_64 : Dc method_3_code 64 (.areturn) 1 65 := ⟨by decide +kernel, rfl⟩
def M_mk2 : Mt := (⟨"com/example/polje/polje/ObfuscatorsEmailPinLaw", "make", "([CI)Ljava/lang/String;"⟩, method_3_code, 2, some (.object "java/lang/String"), ⟨4, 3, 8, 66⟩)
theorem nm_M_mk2 : mN M_mk2 = ⟨"com/example/polje/polje/ObfuscatorsEmailPinLaw", "make", "([CI)Ljava/lang/String;"⟩ := by delta mN M_mk2; rfl
set_option maxRecDepth 65536 in
set_option maxHeartbeats 40000000 in
theorem rm_mk2 {W : Wd} (hw : Ws W) (c : Addr) (rc : Bool) (xc : Bool) (oc : Bool) (m0 : Nat) (m1 : Nat) (m2 : Nat) (m3 : Nat) (m4 : Nat) (F : List En) (hm0 : m0 < 256) (hm1 : m1 < 256) (hm2 : m2 < 256) (hm3 : m3 < 256) (hm4 : m4 < 256) : Ct W M_mk2 [.ref c, .int 2] ((c, rc, .inr (.char, xc, oc, [.int (ix m0), .int (ix m1), .int (ix m2), .int (ix m3), .int (ix m4)])) :: F) (fun v H' => ∃ q r, v = some (.ref q) ∧ H' = ((oStr true q (.ref r) (.int 0)) :: (eB r (zb [m0, m1])) :: (c, rc, .inr (.char, xc, oc, [.int (ix m0), .int (ix m1), .int (ix m2), .int (ix m3), .int (ix m4)])) :: F)) := by
  refine Ct.intro (L0 := [.val (.ref c), .val (.int 2)]) (plainFor_of_name pf_com_example_polje_polje_ObfuscatorsEmailPinLaw) rfl (fun K => ?_)
  refine Wp.iloadN rfl d_method_3_0 ?_
  refine Wp.ifT (by decide) d_method_3_1 ?_
  refine Wp.iloadN rfl d_method_3_15 ?_
  refine Wp.iconst lc_1 d_method_3_16 ?_
  refine Wp.icT (by decide) d_method_3_17 ?_
  refine Wp.iloadN rfl d_method_3_37 ?_
  refine Wp.iconst lc_2 d_method_3_38 ?_
  refine Wp.icF (by decide) d_method_3_39 ?_
  refine Wp.newO nm_M_mk2 (w_9 hw) (w_10 hw) (w_11 hw) (nf_oStr hw) (by decide) (by decide) d_method_3_42 (fun a1 => ?_)
  refine Wp.dup rfl d_method_3_45 ?_
  refine Wp.iconst lc_2 d_method_3_46 ?_
  refine Wp.newP (kk := 2) (vs := [.int 0, .int 0]) d_method_3_47 (w_1 hw) (by decide) (by decide) (by decide) (by decide) (by decide) rfl (fun a2 => ?_)
  refine Wp.dup rfl d_method_3_49 ?_
  refine Wp.iconst lc_0 d_method_3_50 ?_
  refine Wp.aloadN rfl rfl d_method_3_51 ?_
  refine Wp.iconst lc_0 d_method_3_52 ?_
  refine Wp.caload 2 0 rfl (by decide) (by decide) rfl d_method_3_53 ?_
  refine Wp.castore (z := (ix m0)) 0 0 rfl (by decide) (by decide) (show 0 < 2 by decide) (ix_c (by omega)) d_method_3_54 (H' := ((eC a2 [.int (ix m0), .int 0]) :: (oStr true a1 (.null) (.int 0)) :: (c, rc, .inr (.char, xc, oc, [.int (ix m0), .int (ix m1), .int (ix m2), .int (ix m3), .int (ix m4)])) :: F)) rfl ?_
  refine Wp.dup rfl d_method_3_55 ?_
  refine Wp.iconst lc_1 d_method_3_56 ?_
  refine Wp.aloadN rfl rfl d_method_3_57 ?_
  refine Wp.iconst lc_1 d_method_3_58 ?_
  refine Wp.caload 2 1 rfl (by decide) (by decide) rfl d_method_3_59 ?_
  refine Wp.castore (z := (ix m1)) 0 1 rfl (by decide) (by decide) (show 1 < 2 by decide) (ix_c (by omega)) d_method_3_60 (H' := ((eC a2 [.int (ix m0), .int (ix m1)]) :: (oStr true a1 (.null) (.int 0)) :: (c, rc, .inr (.char, xc, oc, [.int (ix m0), .int (ix m1), .int (ix m2), .int (ix m3), .int (ix m4)])) :: F)) rfl ?_
  refine Wp.perm [1, 0] 2 pp_1_0 (H' := ((oStr true a1 (.null) (.int 0)) :: (eC a2 [.int (ix m0), .int (ix m1)]) :: (c, rc, .inr (.char, xc, oc, [.int (ix m0), .int (ix m1), .int (ix m2), .int (ix m3), .int (ix m4)])) :: F)) rfl ?_
  refine Wp.callC nm_M_mk2 (M' := M_si 2) (fun _ => rm_si hw.set a1 a2 true true false [(ix m0), (ix m1)] _ (hpC (ixB (by omega)) (hpC (ixB (by omega)) hpN)) (show 2 ≤ 4000 by decide) (show 0 < 2 by decide)) (mk_M_si hw 2) (w_12 hw) (w_13 hw) rfl rfl rfl rfl (Wn := 1) rfl rfl (by decide) d_method_3_61 ?_
  rintro _ _ ⟨b_3, rfl, rfl⟩
  refine Wp.perm [0, 1, 3, 2] 4 pp_0_1_3_2 (H' := ((oStr true a1 (.ref b_3) (.int 0)) :: (eB b_3 [.int (by8 (ix m0)), .int (by8 (ix m1))]) :: (c, rc, .inr (.char, xc, oc, [.int (ix m0), .int (ix m1), .int (ix m2), .int (ix m3), .int (ix m4)])) :: (eC a2 [.int (ix m0), .int (ix m1)]) :: F)) rfl ?_
  refine Wp.less (((((List.Sublist.refl _).cons _).cons_cons _).cons_cons _).cons_cons _) ?_
  refine Wp.aret rfl rfl rfl d_method_3_64 (by decide) (by decide) ?_
  exact ⟨a1, b_3, rfl, rfl⟩
theorem d_method_3_65 : Dc method_3_code 65 (.iload_n 1) 1 66 := ⟨by decide +kernel, rfl⟩
theorem d_method_3_66 : Dc method_3_code 66 (.iconst 3) 1 67 := ⟨by decide +kernel, rfl⟩
theorem d_method_3_67 : Bj method_3_code 67 (.if_icmp .ne 32) 32 70 99 := ⟨by decide +kernel, rfl, by decide, rfl⟩
theorem d_method_3_70 : Dc method_3_code 70 (.new 7) 3 73 := ⟨by decide +kernel, rfl⟩
theorem d_method_3_73 : Dc method_3_code 73 (.dup) 1 74 := ⟨by decide +kernel, rfl⟩
theorem d_method_3_74 : Dc method_3_code 74 (.iconst 3) 1 75 := ⟨by decide +kernel, rfl⟩
theorem d_method_3_75 : Dc method_3_code 75 (.newarray .char) 2 77 := ⟨by decide +kernel, rfl⟩
theorem d_method_3_77 : Dc method_3_code 77 (.dup) 1 78 := ⟨by decide +kernel, rfl⟩
theorem d_method_3_78 : Dc method_3_code 78 (.iconst 0) 1 79 := ⟨by decide +kernel, rfl⟩
theorem d_method_3_79 : Dc method_3_code 79 (.aload_n 0) 1 80 := ⟨by decide +kernel, rfl⟩
theorem d_method_3_80 : Dc method_3_code 80 (.iconst 0) 1 81 := ⟨by decide +kernel, rfl⟩
theorem d_method_3_81 : Dc method_3_code 81 (.caload) 1 82 := ⟨by decide +kernel, rfl⟩
theorem d_method_3_82 : Dc method_3_code 82 (.castore) 1 83 := ⟨by decide +kernel, rfl⟩
theorem d_method_3_83 : Dc method_3_code 83 (.dup) 1 84 := ⟨by decide +kernel, rfl⟩
theorem d_method_3_84 : Dc method_3_code 84 (.iconst 1) 1 85 := ⟨by decide +kernel, rfl⟩
theorem d_method_3_85 : Dc method_3_code 85 (.aload_n 0) 1 86 := ⟨by decide +kernel, rfl⟩
theorem d_method_3_86 : Dc method_3_code 86 (.iconst 1) 1 87 := ⟨by decide +kernel, rfl⟩
theorem d_method_3_87 : Dc method_3_code 87 (.caload) 1 88 := ⟨by decide +kernel, rfl⟩
theorem d_method_3_88 : Dc method_3_code 88 (.castore) 1 89 := ⟨by decide +kernel, rfl⟩
theorem d_method_3_89 : Dc method_3_code 89 (.dup) 1 90 := ⟨by decide +kernel, rfl⟩
theorem d_method_3_90 : Dc method_3_code 90 (.iconst 2) 1 91 := ⟨by decide +kernel, rfl⟩
theorem d_method_3_91 : Dc method_3_code 91 (.aload_n 0) 1 92 := ⟨by decide +kernel, rfl⟩
theorem d_method_3_92 : Dc method_3_code 92 (.iconst 2) 1 93 := ⟨by decide +kernel, rfl⟩
theorem d_method_3_93 : Dc method_3_code 93 (.caload) 1 94 := ⟨by decide +kernel, rfl⟩
theorem d_method_3_94 : Dc method_3_code 94 (.castore) 1 95 := ⟨by decide +kernel, rfl⟩
theorem d_method_3_95 : Dc method_3_code 95 (.invokespecial 9) 3 98 := ⟨by decide +kernel, rfl⟩
theorem d_method_3_98 : Dc method_3_code 98 (.areturn) 1 99 := ⟨by decide +kernel, rfl⟩
def M_mk3 : Mt := (⟨"com/example/polje/polje/ObfuscatorsEmailPinLaw", "make", "([CI)Ljava/lang/String;"⟩, method_3_code, 2, some (.object "java/lang/String"), ⟨4, 3, 10, 66⟩)
theorem nm_M_mk3 : mN M_mk3 = ⟨"com/example/polje/polje/ObfuscatorsEmailPinLaw", "make", "([CI)Ljava/lang/String;"⟩ := by delta mN M_mk3; rfl
set_option maxRecDepth 65536 in
set_option maxHeartbeats 40000000 in
theorem rm_mk3 {W : Wd} (hw : Ws W) (c : Addr) (rc : Bool) (xc : Bool) (oc : Bool) (m0 : Nat) (m1 : Nat) (m2 : Nat) (m3 : Nat) (m4 : Nat) (F : List En) (hm0 : m0 < 256) (hm1 : m1 < 256) (hm2 : m2 < 256) (hm3 : m3 < 256) (hm4 : m4 < 256) : Ct W M_mk3 [.ref c, .int 3] ((c, rc, .inr (.char, xc, oc, [.int (ix m0), .int (ix m1), .int (ix m2), .int (ix m3), .int (ix m4)])) :: F) (fun v H' => ∃ q r, v = some (.ref q) ∧ H' = ((oStr true q (.ref r) (.int 0)) :: (eB r (zb [m0, m1, m2])) :: (c, rc, .inr (.char, xc, oc, [.int (ix m0), .int (ix m1), .int (ix m2), .int (ix m3), .int (ix m4)])) :: F)) := by
  refine Ct.intro (L0 := [.val (.ref c), .val (.int 3)]) (plainFor_of_name pf_com_example_polje_polje_ObfuscatorsEmailPinLaw) rfl (fun K => ?_)
  refine Wp.iloadN rfl d_method_3_0 ?_
  refine Wp.ifT (by decide) d_method_3_1 ?_
  refine Wp.iloadN rfl d_method_3_15 ?_
  refine Wp.iconst lc_1 d_method_3_16 ?_
  refine Wp.icT (by decide) d_method_3_17 ?_
  refine Wp.iloadN rfl d_method_3_37 ?_
  refine Wp.iconst lc_2 d_method_3_38 ?_
  refine Wp.icT (by decide) d_method_3_39 ?_
  refine Wp.iloadN rfl d_method_3_65 ?_
  refine Wp.iconst lc_3 d_method_3_66 ?_
  refine Wp.icF (by decide) d_method_3_67 ?_
  refine Wp.newO nm_M_mk3 (w_9 hw) (w_10 hw) (w_11 hw) (nf_oStr hw) (by decide) (by decide) d_method_3_70 (fun a1 => ?_)
  refine Wp.dup rfl d_method_3_73 ?_
  refine Wp.iconst lc_3 d_method_3_74 ?_
  refine Wp.newP (kk := 3) (vs := [.int 0, .int 0, .int 0]) d_method_3_75 (w_1 hw) (by decide) (by decide) (by decide) (by decide) (by decide) rfl (fun a2 => ?_)
  refine Wp.dup rfl d_method_3_77 ?_
  refine Wp.iconst lc_0 d_method_3_78 ?_
  refine Wp.aloadN rfl rfl d_method_3_79 ?_
  refine Wp.iconst lc_0 d_method_3_80 ?_
  refine Wp.caload 2 0 rfl (by decide) (by decide) rfl d_method_3_81 ?_
  refine Wp.castore (z := (ix m0)) 0 0 rfl (by decide) (by decide) (show 0 < 3 by decide) (ix_c (by omega)) d_method_3_82 (H' := ((eC a2 [.int (ix m0), .int 0, .int 0]) :: (oStr true a1 (.null) (.int 0)) :: (c, rc, .inr (.char, xc, oc, [.int (ix m0), .int (ix m1), .int (ix m2), .int (ix m3), .int (ix m4)])) :: F)) rfl ?_
  refine Wp.dup rfl d_method_3_83 ?_
  refine Wp.iconst lc_1 d_method_3_84 ?_
  refine Wp.aloadN rfl rfl d_method_3_85 ?_
  refine Wp.iconst lc_1 d_method_3_86 ?_
  refine Wp.caload 2 1 rfl (by decide) (by decide) rfl d_method_3_87 ?_
  refine Wp.castore (z := (ix m1)) 0 1 rfl (by decide) (by decide) (show 1 < 3 by decide) (ix_c (by omega)) d_method_3_88 (H' := ((eC a2 [.int (ix m0), .int (ix m1), .int 0]) :: (oStr true a1 (.null) (.int 0)) :: (c, rc, .inr (.char, xc, oc, [.int (ix m0), .int (ix m1), .int (ix m2), .int (ix m3), .int (ix m4)])) :: F)) rfl ?_
  refine Wp.dup rfl d_method_3_89 ?_
  refine Wp.iconst lc_2 d_method_3_90 ?_
  refine Wp.aloadN rfl rfl d_method_3_91 ?_
  refine Wp.iconst lc_2 d_method_3_92 ?_
  refine Wp.caload 2 2 rfl (by decide) (by decide) rfl d_method_3_93 ?_
  refine Wp.castore (z := (ix m2)) 0 2 rfl (by decide) (by decide) (show 2 < 3 by decide) (ix_c (by omega)) d_method_3_94 (H' := ((eC a2 [.int (ix m0), .int (ix m1), .int (ix m2)]) :: (oStr true a1 (.null) (.int 0)) :: (c, rc, .inr (.char, xc, oc, [.int (ix m0), .int (ix m1), .int (ix m2), .int (ix m3), .int (ix m4)])) :: F)) rfl ?_
  refine Wp.perm [1, 0] 2 pp_1_0 (H' := ((oStr true a1 (.null) (.int 0)) :: (eC a2 [.int (ix m0), .int (ix m1), .int (ix m2)]) :: (c, rc, .inr (.char, xc, oc, [.int (ix m0), .int (ix m1), .int (ix m2), .int (ix m3), .int (ix m4)])) :: F)) rfl ?_
  refine Wp.callC nm_M_mk3 (M' := M_si 3) (fun _ => rm_si hw.set a1 a2 true true false [(ix m0), (ix m1), (ix m2)] _ (hpC (ixB (by omega)) (hpC (ixB (by omega)) (hpC (ixB (by omega)) hpN))) (show 3 ≤ 4000 by decide) (show 0 < 3 by decide)) (mk_M_si hw 3) (w_12 hw) (w_13 hw) rfl rfl rfl rfl (Wn := 1) rfl rfl (by decide) d_method_3_95 ?_
  rintro _ _ ⟨b_3, rfl, rfl⟩
  refine Wp.perm [0, 1, 3, 2] 4 pp_0_1_3_2 (H' := ((oStr true a1 (.ref b_3) (.int 0)) :: (eB b_3 [.int (by8 (ix m0)), .int (by8 (ix m1)), .int (by8 (ix m2))]) :: (c, rc, .inr (.char, xc, oc, [.int (ix m0), .int (ix m1), .int (ix m2), .int (ix m3), .int (ix m4)])) :: (eC a2 [.int (ix m0), .int (ix m1), .int (ix m2)]) :: F)) rfl ?_
  refine Wp.less (((((List.Sublist.refl _).cons _).cons_cons _).cons_cons _).cons_cons _) ?_
  refine Wp.aret rfl rfl rfl d_method_3_98 (by decide) (by decide) ?_
  exact ⟨a1, b_3, rfl, rfl⟩
theorem d_method_3_99 : Dc method_3_code 99 (.iload_n 1) 1 100 := ⟨by decide +kernel, rfl⟩
theorem d_method_3_100 : Dc method_3_code 100 (.iconst 4) 1 101 := ⟨by decide +kernel, rfl⟩
theorem lc_4 : Int32.ofInt 4 = 4 := by decide
theorem d_method_3_101 : Bj method_3_code 101 (.if_icmp .ne 38) 38 104 139 := ⟨by decide +kernel, rfl, by decide, rfl⟩
theorem d_method_3_104 : Dc method_3_code 104 (.new 7) 3 107 := ⟨by decide +kernel, rfl⟩
theorem d_method_3_107 : Dc method_3_code 107 (.dup) 1 108 := ⟨by decide +kernel, rfl⟩
theorem d_method_3_108 : Dc method_3_code 108 (.iconst 4) 1 109 := ⟨by decide +kernel, rfl⟩
theorem d_method_3_109 : Dc method_3_code 109 (.newarray .char) 2 111 := ⟨by decide +kernel, rfl⟩
theorem d_method_3_111 : Dc method_3_code 111 (.dup) 1 112 := ⟨by decide +kernel, rfl⟩
theorem d_method_3_112 : Dc method_3_code 112 (.iconst 0) 1 113 := ⟨by decide +kernel, rfl⟩
theorem d_method_3_113 : Dc method_3_code 113 (.aload_n 0) 1 114 := ⟨by decide +kernel, rfl⟩
theorem d_method_3_114 : Dc method_3_code 114 (.iconst 0) 1 115 := ⟨by decide +kernel, rfl⟩
theorem d_method_3_115 : Dc method_3_code 115 (.caload) 1 116 := ⟨by decide +kernel, rfl⟩
theorem d_method_3_116 : Dc method_3_code 116 (.castore) 1 117 := ⟨by decide +kernel, rfl⟩
theorem d_method_3_117 : Dc method_3_code 117 (.dup) 1 118 := ⟨by decide +kernel, rfl⟩
theorem d_method_3_118 : Dc method_3_code 118 (.iconst 1) 1 119 := ⟨by decide +kernel, rfl⟩
theorem d_method_3_119 : Dc method_3_code 119 (.aload_n 0) 1 120 := ⟨by decide +kernel, rfl⟩
theorem d_method_3_120 : Dc method_3_code 120 (.iconst 1) 1 121 := ⟨by decide +kernel, rfl⟩
theorem d_method_3_121 : Dc method_3_code 121 (.caload) 1 122 := ⟨by decide +kernel, rfl⟩
theorem d_method_3_122 : Dc method_3_code 122 (.castore) 1 123 := ⟨by decide +kernel, rfl⟩
theorem d_method_3_123 : Dc method_3_code 123 (.dup) 1 124 := ⟨by decide +kernel, rfl⟩
theorem d_method_3_124 : Dc method_3_code 124 (.iconst 2) 1 125 := ⟨by decide +kernel, rfl⟩
theorem d_method_3_125 : Dc method_3_code 125 (.aload_n 0) 1 126 := ⟨by decide +kernel, rfl⟩
theorem d_method_3_126 : Dc method_3_code 126 (.iconst 2) 1 127 := ⟨by decide +kernel, rfl⟩
theorem d_method_3_127 : Dc method_3_code 127 (.caload) 1 128 := ⟨by decide +kernel, rfl⟩
theorem d_method_3_128 : Dc method_3_code 128 (.castore) 1 129 := ⟨by decide +kernel, rfl⟩
theorem d_method_3_129 : Dc method_3_code 129 (.dup) 1 130 := ⟨by decide +kernel, rfl⟩
theorem d_method_3_130 : Dc method_3_code 130 (.iconst 3) 1 131 := ⟨by decide +kernel, rfl⟩
theorem d_method_3_131 : Dc method_3_code 131 (.aload_n 0) 1 132 := ⟨by decide +kernel, rfl⟩
theorem d_method_3_132 : Dc method_3_code 132 (.iconst 3) 1 133 := ⟨by decide +kernel, rfl⟩
theorem d_method_3_133 : Dc method_3_code 133 (.caload) 1 134 := ⟨by decide +kernel, rfl⟩
theorem d_method_3_134 : Dc method_3_code 134 (.castore) 1 135 := ⟨by decide +kernel, rfl⟩
theorem d_method_3_135 : Dc method_3_code 135 (.invokespecial 9) 3 138 := ⟨by decide +kernel, rfl⟩
theorem d_method_3_138 : Dc method_3_code 138 (.areturn) 1 139 := ⟨by decide +kernel, rfl⟩
def M_mk4 : Mt := (⟨"com/example/polje/polje/ObfuscatorsEmailPinLaw", "make", "([CI)Ljava/lang/String;"⟩, method_3_code, 2, some (.object "java/lang/String"), ⟨4, 3, 12, 66⟩)
theorem nm_M_mk4 : mN M_mk4 = ⟨"com/example/polje/polje/ObfuscatorsEmailPinLaw", "make", "([CI)Ljava/lang/String;"⟩ := by delta mN M_mk4; rfl
set_option maxRecDepth 65536 in
set_option maxHeartbeats 40000000 in
theorem rm_mk4 {W : Wd} (hw : Ws W) (c : Addr) (rc : Bool) (xc : Bool) (oc : Bool) (m0 : Nat) (m1 : Nat) (m2 : Nat) (m3 : Nat) (m4 : Nat) (F : List En) (hm0 : m0 < 256) (hm1 : m1 < 256) (hm2 : m2 < 256) (hm3 : m3 < 256) (hm4 : m4 < 256) : Ct W M_mk4 [.ref c, .int 4] ((c, rc, .inr (.char, xc, oc, [.int (ix m0), .int (ix m1), .int (ix m2), .int (ix m3), .int (ix m4)])) :: F) (fun v H' => ∃ q r, v = some (.ref q) ∧ H' = ((oStr true q (.ref r) (.int 0)) :: (eB r (zb [m0, m1, m2, m3])) :: (c, rc, .inr (.char, xc, oc, [.int (ix m0), .int (ix m1), .int (ix m2), .int (ix m3), .int (ix m4)])) :: F)) := by
  refine Ct.intro (L0 := [.val (.ref c), .val (.int 4)]) (plainFor_of_name pf_com_example_polje_polje_ObfuscatorsEmailPinLaw) rfl (fun K => ?_)
  refine Wp.iloadN rfl d_method_3_0 ?_
  refine Wp.ifT (by decide) d_method_3_1 ?_
  refine Wp.iloadN rfl d_method_3_15 ?_
  refine Wp.iconst lc_1 d_method_3_16 ?_
  refine Wp.icT (by decide) d_method_3_17 ?_
  refine Wp.iloadN rfl d_method_3_37 ?_
  refine Wp.iconst lc_2 d_method_3_38 ?_
  refine Wp.icT (by decide) d_method_3_39 ?_
  refine Wp.iloadN rfl d_method_3_65 ?_
  refine Wp.iconst lc_3 d_method_3_66 ?_
  refine Wp.icT (by decide) d_method_3_67 ?_
  refine Wp.iloadN rfl d_method_3_99 ?_
  refine Wp.iconst lc_4 d_method_3_100 ?_
  refine Wp.icF (by decide) d_method_3_101 ?_
  refine Wp.newO nm_M_mk4 (w_9 hw) (w_10 hw) (w_11 hw) (nf_oStr hw) (by decide) (by decide) d_method_3_104 (fun a1 => ?_)
  refine Wp.dup rfl d_method_3_107 ?_
  refine Wp.iconst lc_4 d_method_3_108 ?_
  refine Wp.newP (kk := 4) (vs := [.int 0, .int 0, .int 0, .int 0]) d_method_3_109 (w_1 hw) (by decide) (by decide) (by decide) (by decide) (by decide) rfl (fun a2 => ?_)
  refine Wp.dup rfl d_method_3_111 ?_
  refine Wp.iconst lc_0 d_method_3_112 ?_
  refine Wp.aloadN rfl rfl d_method_3_113 ?_
  refine Wp.iconst lc_0 d_method_3_114 ?_
  refine Wp.caload 2 0 rfl (by decide) (by decide) rfl d_method_3_115 ?_
  refine Wp.castore (z := (ix m0)) 0 0 rfl (by decide) (by decide) (show 0 < 4 by decide) (ix_c (by omega)) d_method_3_116 (H' := ((eC a2 [.int (ix m0), .int 0, .int 0, .int 0]) :: (oStr true a1 (.null) (.int 0)) :: (c, rc, .inr (.char, xc, oc, [.int (ix m0), .int (ix m1), .int (ix m2), .int (ix m3), .int (ix m4)])) :: F)) rfl ?_
  refine Wp.dup rfl d_method_3_117 ?_
  refine Wp.iconst lc_1 d_method_3_118 ?_
  refine Wp.aloadN rfl rfl d_method_3_119 ?_
  refine Wp.iconst lc_1 d_method_3_120 ?_
  refine Wp.caload 2 1 rfl (by decide) (by decide) rfl d_method_3_121 ?_
  refine Wp.castore (z := (ix m1)) 0 1 rfl (by decide) (by decide) (show 1 < 4 by decide) (ix_c (by omega)) d_method_3_122 (H' := ((eC a2 [.int (ix m0), .int (ix m1), .int 0, .int 0]) :: (oStr true a1 (.null) (.int 0)) :: (c, rc, .inr (.char, xc, oc, [.int (ix m0), .int (ix m1), .int (ix m2), .int (ix m3), .int (ix m4)])) :: F)) rfl ?_
  refine Wp.dup rfl d_method_3_123 ?_
  refine Wp.iconst lc_2 d_method_3_124 ?_
  refine Wp.aloadN rfl rfl d_method_3_125 ?_
  refine Wp.iconst lc_2 d_method_3_126 ?_
  refine Wp.caload 2 2 rfl (by decide) (by decide) rfl d_method_3_127 ?_
  refine Wp.castore (z := (ix m2)) 0 2 rfl (by decide) (by decide) (show 2 < 4 by decide) (ix_c (by omega)) d_method_3_128 (H' := ((eC a2 [.int (ix m0), .int (ix m1), .int (ix m2), .int 0]) :: (oStr true a1 (.null) (.int 0)) :: (c, rc, .inr (.char, xc, oc, [.int (ix m0), .int (ix m1), .int (ix m2), .int (ix m3), .int (ix m4)])) :: F)) rfl ?_
  refine Wp.dup rfl d_method_3_129 ?_
  refine Wp.iconst lc_3 d_method_3_130 ?_
  refine Wp.aloadN rfl rfl d_method_3_131 ?_
  refine Wp.iconst lc_3 d_method_3_132 ?_
  refine Wp.caload 2 3 rfl (by decide) (by decide) rfl d_method_3_133 ?_
  refine Wp.castore (z := (ix m3)) 0 3 rfl (by decide) (by decide) (show 3 < 4 by decide) (ix_c (by omega)) d_method_3_134 (H' := ((eC a2 [.int (ix m0), .int (ix m1), .int (ix m2), .int (ix m3)]) :: (oStr true a1 (.null) (.int 0)) :: (c, rc, .inr (.char, xc, oc, [.int (ix m0), .int (ix m1), .int (ix m2), .int (ix m3), .int (ix m4)])) :: F)) rfl ?_
  refine Wp.perm [1, 0] 2 pp_1_0 (H' := ((oStr true a1 (.null) (.int 0)) :: (eC a2 [.int (ix m0), .int (ix m1), .int (ix m2), .int (ix m3)]) :: (c, rc, .inr (.char, xc, oc, [.int (ix m0), .int (ix m1), .int (ix m2), .int (ix m3), .int (ix m4)])) :: F)) rfl ?_
  refine Wp.callC nm_M_mk4 (M' := M_si 4) (fun _ => rm_si hw.set a1 a2 true true false [(ix m0), (ix m1), (ix m2), (ix m3)] _ (hpC (ixB (by omega)) (hpC (ixB (by omega)) (hpC (ixB (by omega)) (hpC (ixB (by omega)) hpN)))) (show 4 ≤ 4000 by decide) (show 0 < 4 by decide)) (mk_M_si hw 4) (w_12 hw) (w_13 hw) rfl rfl rfl rfl (Wn := 1) rfl rfl (by decide) d_method_3_135 ?_
  rintro _ _ ⟨b_3, rfl, rfl⟩
  refine Wp.perm [0, 1, 3, 2] 4 pp_0_1_3_2 (H' := ((oStr true a1 (.ref b_3) (.int 0)) :: (eB b_3 [.int (by8 (ix m0)), .int (by8 (ix m1)), .int (by8 (ix m2)), .int (by8 (ix m3))]) :: (c, rc, .inr (.char, xc, oc, [.int (ix m0), .int (ix m1), .int (ix m2), .int (ix m3), .int (ix m4)])) :: (eC a2 [.int (ix m0), .int (ix m1), .int (ix m2), .int (ix m3)]) :: F)) rfl ?_
  refine Wp.less (((((List.Sublist.refl _).cons _).cons_cons _).cons_cons _).cons_cons _) ?_
  refine Wp.aret rfl rfl rfl d_method_3_138 (by decide) (by decide) ?_
  exact ⟨a1, b_3, rfl, rfl⟩
theorem d_method_3_139 : Dc method_3_code 139 (.new 7) 3 142 := ⟨by decide +kernel, rfl⟩
theorem d_method_3_142 : Dc method_3_code 142 (.dup) 1 143 := ⟨by decide +kernel, rfl⟩
theorem d_method_3_143 : Dc method_3_code 143 (.iconst 5) 1 144 := ⟨by decide +kernel, rfl⟩
theorem lc_5 : Int32.ofInt 5 = 5 := by decide
theorem d_method_3_144 : Dc method_3_code 144 (.newarray .char) 2 146 := ⟨by decide +kernel, rfl⟩
theorem d_method_3_146 : Dc method_3_code 146 (.dup) 1 147 := ⟨by decide +kernel, rfl⟩
theorem d_method_3_147 : Dc method_3_code 147 (.iconst 0) 1 148 := ⟨by decide +kernel, rfl⟩
theorem d_method_3_148 : Dc method_3_code 148 (.aload_n 0) 1 149 := ⟨by decide +kernel, rfl⟩
theorem d_method_3_149 : Dc method_3_code 149 (.iconst 0) 1 150 := ⟨by decide +kernel, rfl⟩
theorem d_method_3_150 : Dc method_3_code 150 (.caload) 1 151 := ⟨by decide +kernel, rfl⟩
theorem d_method_3_151 : Dc method_3_code 151 (.castore) 1 152 := ⟨by decide +kernel, rfl⟩
theorem d_method_3_152 : Dc method_3_code 152 (.dup) 1 153 := ⟨by decide +kernel, rfl⟩
theorem d_method_3_153 : Dc method_3_code 153 (.iconst 1) 1 154 := ⟨by decide +kernel, rfl⟩
theorem d_method_3_154 : Dc method_3_code 154 (.aload_n 0) 1 155 := ⟨by decide +kernel, rfl⟩
theorem d_method_3_155 : Dc method_3_code 155 (.iconst 1) 1 156 := ⟨by decide +kernel, rfl⟩
theorem d_method_3_156 : Dc method_3_code 156 (.caload) 1 157 := ⟨by decide +kernel, rfl⟩
theorem d_method_3_157 : Dc method_3_code 157 (.castore) 1 158 := ⟨by decide +kernel, rfl⟩
theorem d_method_3_158 : Dc method_3_code 158 (.dup) 1 159 := ⟨by decide +kernel, rfl⟩
theorem d_method_3_159 : Dc method_3_code 159 (.iconst 2) 1 160 := ⟨by decide +kernel, rfl⟩
theorem d_method_3_160 : Dc method_3_code 160 (.aload_n 0) 1 161 := ⟨by decide +kernel, rfl⟩
theorem d_method_3_161 : Dc method_3_code 161 (.iconst 2) 1 162 := ⟨by decide +kernel, rfl⟩
theorem d_method_3_162 : Dc method_3_code 162 (.caload) 1 163 := ⟨by decide +kernel, rfl⟩
theorem d_method_3_163 : Dc method_3_code 163 (.castore) 1 164 := ⟨by decide +kernel, rfl⟩
theorem d_method_3_164 : Dc method_3_code 164 (.dup) 1 165 := ⟨by decide +kernel, rfl⟩
theorem d_method_3_165 : Dc method_3_code 165 (.iconst 3) 1 166 := ⟨by decide +kernel, rfl⟩
theorem d_method_3_166 : Dc method_3_code 166 (.aload_n 0) 1 167 := ⟨by decide +kernel, rfl⟩
theorem d_method_3_167 : Dc method_3_code 167 (.iconst 3) 1 168 := ⟨by decide +kernel, rfl⟩
theorem d_method_3_168 : Dc method_3_code 168 (.caload) 1 169 := ⟨by decide +kernel, rfl⟩
theorem d_method_3_169 : Dc method_3_code 169 (.castore) 1 170 := ⟨by decide +kernel, rfl⟩
theorem d_method_3_170 : Dc method_3_code 170 (.dup) 1 171 := ⟨by decide +kernel, rfl⟩
theorem d_method_3_171 : Dc method_3_code 171 (.iconst 4) 1 172 := ⟨by decide +kernel, rfl⟩
theorem d_method_3_172 : Dc method_3_code 172 (.aload_n 0) 1 173 := ⟨by decide +kernel, rfl⟩
theorem d_method_3_173 : Dc method_3_code 173 (.iconst 4) 1 174 := ⟨by decide +kernel, rfl⟩
theorem d_method_3_174 : Dc method_3_code 174 (.caload) 1 175 := ⟨by decide +kernel, rfl⟩
theorem d_method_3_175 : Dc method_3_code 175 (.castore) 1 176 := ⟨by decide +kernel, rfl⟩
theorem d_method_3_176 : Dc method_3_code 176 (.invokespecial 9) 3 179 := ⟨by decide +kernel, rfl⟩
theorem d_method_3_179 : Dc method_3_code 179 (.areturn) 1 180 := ⟨by decide +kernel, rfl⟩
def M_mk5 : Mt := (⟨"com/example/polje/polje/ObfuscatorsEmailPinLaw", "make", "([CI)Ljava/lang/String;"⟩, method_3_code, 2, some (.object "java/lang/String"), ⟨4, 3, 14, 66⟩)
theorem nm_M_mk5 : mN M_mk5 = ⟨"com/example/polje/polje/ObfuscatorsEmailPinLaw", "make", "([CI)Ljava/lang/String;"⟩ := by delta mN M_mk5; rfl
set_option maxRecDepth 65536 in
set_option maxHeartbeats 40000000 in
theorem rm_mk5 {W : Wd} (hw : Ws W) (c : Addr) (rc : Bool) (xc : Bool) (oc : Bool) (m0 : Nat) (m1 : Nat) (m2 : Nat) (m3 : Nat) (m4 : Nat) (F : List En) (hm0 : m0 < 256) (hm1 : m1 < 256) (hm2 : m2 < 256) (hm3 : m3 < 256) (hm4 : m4 < 256) : Ct W M_mk5 [.ref c, .int 5] ((c, rc, .inr (.char, xc, oc, [.int (ix m0), .int (ix m1), .int (ix m2), .int (ix m3), .int (ix m4)])) :: F) (fun v H' => ∃ q r, v = some (.ref q) ∧ H' = ((oStr true q (.ref r) (.int 0)) :: (eB r (zb [m0, m1, m2, m3, m4])) :: (c, rc, .inr (.char, xc, oc, [.int (ix m0), .int (ix m1), .int (ix m2), .int (ix m3), .int (ix m4)])) :: F)) := by
  refine Ct.intro (L0 := [.val (.ref c), .val (.int 5)]) (plainFor_of_name pf_com_example_polje_polje_ObfuscatorsEmailPinLaw) rfl (fun K => ?_)
  refine Wp.iloadN rfl d_method_3_0 ?_
  refine Wp.ifT (by decide) d_method_3_1 ?_
  refine Wp.iloadN rfl d_method_3_15 ?_
  refine Wp.iconst lc_1 d_method_3_16 ?_
  refine Wp.icT (by decide) d_method_3_17 ?_
  refine Wp.iloadN rfl d_method_3_37 ?_
  refine Wp.iconst lc_2 d_method_3_38 ?_
  refine Wp.icT (by decide) d_method_3_39 ?_
  refine Wp.iloadN rfl d_method_3_65 ?_
  refine Wp.iconst lc_3 d_method_3_66 ?_
  refine Wp.icT (by decide) d_method_3_67 ?_
  refine Wp.iloadN rfl d_method_3_99 ?_
  refine Wp.iconst lc_4 d_method_3_100 ?_
  refine Wp.icT (by decide) d_method_3_101 ?_
  refine Wp.newO nm_M_mk5 (w_9 hw) (w_10 hw) (w_11 hw) (nf_oStr hw) (by decide) (by decide) d_method_3_139 (fun a1 => ?_)
  refine Wp.dup rfl d_method_3_142 ?_
  refine Wp.iconst lc_5 d_method_3_143 ?_
  refine Wp.newP (kk := 5) (vs := [.int 0, .int 0, .int 0, .int 0, .int 0]) d_method_3_144 (w_1 hw) (by decide) (by decide) (by decide) (by decide) (by decide) rfl (fun a2 => ?_)
  refine Wp.dup rfl d_method_3_146 ?_
  refine Wp.iconst lc_0 d_method_3_147 ?_
  refine Wp.aloadN rfl rfl d_method_3_148 ?_
  refine Wp.iconst lc_0 d_method_3_149 ?_
  refine Wp.caload 2 0 rfl (by decide) (by decide) rfl d_method_3_150 ?_
  refine Wp.castore (z := (ix m0)) 0 0 rfl (by decide) (by decide) (show 0 < 5 by decide) (ix_c (by omega)) d_method_3_151 (H' := ((eC a2 [.int (ix m0), .int 0, .int 0, .int 0, .int 0]) :: (oStr true a1 (.null) (.int 0)) :: (c, rc, .inr (.char, xc, oc, [.int (ix m0), .int (ix m1), .int (ix m2), .int (ix m3), .int (ix m4)])) :: F)) rfl ?_
  refine Wp.dup rfl d_method_3_152 ?_
  refine Wp.iconst lc_1 d_method_3_153 ?_
  refine Wp.aloadN rfl rfl d_method_3_154 ?_
  refine Wp.iconst lc_1 d_method_3_155 ?_
  refine Wp.caload 2 1 rfl (by decide) (by decide) rfl d_method_3_156 ?_
  refine Wp.castore (z := (ix m1)) 0 1 rfl (by decide) (by decide) (show 1 < 5 by decide) (ix_c (by omega)) d_method_3_157 (H' := ((eC a2 [.int (ix m0), .int (ix m1), .int 0, .int 0, .int 0]) :: (oStr true a1 (.null) (.int 0)) :: (c, rc, .inr (.char, xc, oc, [.int (ix m0), .int (ix m1), .int (ix m2), .int (ix m3), .int (ix m4)])) :: F)) rfl ?_
  refine Wp.dup rfl d_method_3_158 ?_
  refine Wp.iconst lc_2 d_method_3_159 ?_
  refine Wp.aloadN rfl rfl d_method_3_160 ?_
  refine Wp.iconst lc_2 d_method_3_161 ?_
  refine Wp.caload 2 2 rfl (by decide) (by decide) rfl d_method_3_162 ?_
  refine Wp.castore (z := (ix m2)) 0 2 rfl (by decide) (by decide) (show 2 < 5 by decide) (ix_c (by omega)) d_method_3_163 (H' := ((eC a2 [.int (ix m0), .int (ix m1), .int (ix m2), .int 0, .int 0]) :: (oStr true a1 (.null) (.int 0)) :: (c, rc, .inr (.char, xc, oc, [.int (ix m0), .int (ix m1), .int (ix m2), .int (ix m3), .int (ix m4)])) :: F)) rfl ?_
  refine Wp.dup rfl d_method_3_164 ?_
  refine Wp.iconst lc_3 d_method_3_165 ?_
  refine Wp.aloadN rfl rfl d_method_3_166 ?_
  refine Wp.iconst lc_3 d_method_3_167 ?_
  refine Wp.caload 2 3 rfl (by decide) (by decide) rfl d_method_3_168 ?_
  refine Wp.castore (z := (ix m3)) 0 3 rfl (by decide) (by decide) (show 3 < 5 by decide) (ix_c (by omega)) d_method_3_169 (H' := ((eC a2 [.int (ix m0), .int (ix m1), .int (ix m2), .int (ix m3), .int 0]) :: (oStr true a1 (.null) (.int 0)) :: (c, rc, .inr (.char, xc, oc, [.int (ix m0), .int (ix m1), .int (ix m2), .int (ix m3), .int (ix m4)])) :: F)) rfl ?_
  refine Wp.dup rfl d_method_3_170 ?_
  refine Wp.iconst lc_4 d_method_3_171 ?_
  refine Wp.aloadN rfl rfl d_method_3_172 ?_
  refine Wp.iconst lc_4 d_method_3_173 ?_
  refine Wp.caload 2 4 rfl (by decide) (by decide) rfl d_method_3_174 ?_
  refine Wp.castore (z := (ix m4)) 0 4 rfl (by decide) (by decide) (show 4 < 5 by decide) (ix_c (by omega)) d_method_3_175 (H' := ((eC a2 [.int (ix m0), .int (ix m1), .int (ix m2), .int (ix m3), .int (ix m4)]) :: (oStr true a1 (.null) (.int 0)) :: (c, rc, .inr (.char, xc, oc, [.int (ix m0), .int (ix m1), .int (ix m2), .int (ix m3), .int (ix m4)])) :: F)) rfl ?_
  refine Wp.perm [1, 0] 2 pp_1_0 (H' := ((oStr true a1 (.null) (.int 0)) :: (eC a2 [.int (ix m0), .int (ix m1), .int (ix m2), .int (ix m3), .int (ix m4)]) :: (c, rc, .inr (.char, xc, oc, [.int (ix m0), .int (ix m1), .int (ix m2), .int (ix m3), .int (ix m4)])) :: F)) rfl ?_
  refine Wp.callC nm_M_mk5 (M' := M_si 5) (fun _ => rm_si hw.set a1 a2 true true false [(ix m0), (ix m1), (ix m2), (ix m3), (ix m4)] _ (hpC (ixB (by omega)) (hpC (ixB (by omega)) (hpC (ixB (by omega)) (hpC (ixB (by omega)) (hpC (ixB (by omega)) hpN))))) (show 5 ≤ 4000 by decide) (show 0 < 5 by decide)) (mk_M_si hw 5) (w_12 hw) (w_13 hw) rfl rfl rfl rfl (Wn := 1) rfl rfl (by decide) d_method_3_176 ?_
  rintro _ _ ⟨b_3, rfl, rfl⟩
  refine Wp.perm [0, 1, 3, 2] 4 pp_0_1_3_2 (H' := ((oStr true a1 (.ref b_3) (.int 0)) :: (eB b_3 [.int (by8 (ix m0)), .int (by8 (ix m1)), .int (by8 (ix m2)), .int (by8 (ix m3)), .int (by8 (ix m4))]) :: (c, rc, .inr (.char, xc, oc, [.int (ix m0), .int (ix m1), .int (ix m2), .int (ix m3), .int (ix m4)])) :: (eC a2 [.int (ix m0), .int (ix m1), .int (ix m2), .int (ix m3), .int (ix m4)]) :: F)) rfl ?_
  refine Wp.less (((((List.Sublist.refl _).cons _).cons_cons _).cons_cons _).cons_cons _) ?_
  refine Wp.aret rfl rfl rfl d_method_3_179 (by decide) (by decide) ?_
  exact ⟨a1, b_3, rfl, rfl⟩
theorem d_method_4_0 : Dc method_4_code 0 (.iload_n 2) 1 1 := ⟨by decide +kernel, rfl⟩
theorem d_method_4_1 : Dc method_4_code 1 (.iload_n 1) 1 2 := ⟨by decide +kernel, rfl⟩
theorem d_method_4_2 : Bj method_4_code 2 (.if_icmp .ge 15) 15 5 17 := ⟨by decide +kernel, rfl, by decide, rfl⟩
theorem d_method_4_5 : Dc method_4_code 5 (.aload_n 0) 1 6 := ⟨by decide +kernel, rfl⟩
theorem d_method_4_6 : Dc method_4_code 6 (.iload_n 2) 1 7 := ⟨by decide +kernel, rfl⟩
theorem d_method_4_7 : Dc method_4_code 7 (.caload) 1 8 := ⟨by decide +kernel, rfl⟩
theorem d_method_4_8 : Dc method_4_code 8 (.bipush 64) 2 10 := ⟨by decide +kernel, rfl⟩
theorem d_method_4_10 : Bj method_4_code 10 (.if_icmp .ne 7) 7 13 17 := ⟨by decide +kernel, rfl, by decide, rfl⟩
theorem d_method_4_13 : Dc method_4_code 13 (.iconst 1) 1 14 := ⟨by decide +kernel, rfl⟩
theorem d_method_4_14 : Bj method_4_code 14 (.goto 4) 4 17 18 := ⟨by decide +kernel, rfl, by decide, rfl⟩
theorem d_method_4_18 : Dc method_4_code 18 (.ireturn) 1 19 := ⟨by decide +kernel, rfl⟩
theorem d_method_4_17 : Dc method_4_code 17 (.iconst 0) 1 18 := ⟨by decide +kernel, rfl⟩
def M_ia0 : Mt := (⟨"com/example/polje/polje/ObfuscatorsEmailPinLaw", "isAt", "([CII)I"⟩, method_4_code, 3, some .int, ⟨0, 0, 0, 0⟩)
theorem nm_M_ia0 : mN M_ia0 = ⟨"com/example/polje/polje/ObfuscatorsEmailPinLaw", "isAt", "([CII)I"⟩ := by delta mN M_ia0; rfl
set_option maxRecDepth 65536 in
set_option maxHeartbeats 40000000 in
theorem rm_ia0 {W : Wd} (hw : Ws W) (c : Addr) (rc : Bool) (xc : Bool) (oc : Bool) (m0 : Nat) (m1 : Nat) (m2 : Nat) (m3 : Nat) (m4 : Nat) (n : Nat) (F : List En) (hn : n ≤ 5) (hm0 : m0 < 256) (hm1 : m1 < 256) (hm2 : m2 < 256) (hm3 : m3 < 256) (hm4 : m4 < 256) : Ct W M_ia0 [.ref c, .int (ix n), .int 0] ((c, rc, .inr (.char, xc, oc, [.int (ix m0), .int (ix m1), .int (ix m2), .int (ix m3), .int (ix m4)])) :: F) (fun v H' => v = some (.int (ix (aN n 0 m0))) ∧ H' = ((c, rc, .inr (.char, xc, oc, [.int (ix m0), .int (ix m1), .int (ix m2), .int (ix m3), .int (ix m4)])) :: F)) := by
  refine Ct.intro (L0 := [.val (.ref c), .val (.int (ix n)), .val (.int 0)]) (plainFor_of_name pf_com_example_polje_polje_ObfuscatorsEmailPinLaw) rfl (fun K => ?_)
  refine Wp.iloadN rfl d_method_4_0 ?_
  refine Wp.iloadN rfl d_method_4_1 ?_
  by_cases b2_1 : 0 < n
  · refine Wp.icF (tlt ((ix_lt (i := 0) (j := n) (by omega) (by omega)).mpr b2_1)).2.1 d_method_4_2 ?_
    refine Wp.aloadN rfl rfl d_method_4_5 ?_
    refine Wp.iloadN rfl d_method_4_6 ?_
    refine Wp.caload 0 0 rfl (by decide) (by decide) rfl d_method_4_7 ?_
    refine Wp.bipush lb_64 d_method_4_8 ?_
    by_cases b10_2 : m0 = 64
    · refine Wp.icF (teq (congrArg ix b10_2)).2 d_method_4_10 ?_
      refine Wp.iconst lc_1 d_method_4_13 ?_
      refine Wp.goto d_method_4_14 ?_
      refine Wp.iret rfl d_method_4_18 (by decide) (by decide) ?_
      exact ⟨congrArg (fun z => some (Value.int (ix z))) (aN_1 b2_1 b10_2).symm, rfl⟩
    · refine Wp.icT (feq (fun q => b10_2 (ix_eq (by omega) (by omega) q))).2 d_method_4_10 ?_
      refine Wp.iconst lc_0 d_method_4_17 ?_
      refine Wp.iret rfl d_method_4_18 (by decide) (by decide) ?_
      exact ⟨congrArg (fun z => some (Value.int (ix z))) (aN_00 b10_2).symm, rfl⟩
  · refine Wp.icT (flt (fun q => b2_1 ((ix_lt (i := 0) (j := n) (by omega) (by omega)).mp q))).2.1 d_method_4_2 ?_
    refine Wp.iconst lc_0 d_method_4_17 ?_
    refine Wp.iret rfl d_method_4_18 (by decide) (by decide) ?_
    exact ⟨congrArg (fun z => some (Value.int (ix z))) (aN_0 b2_1).symm, rfl⟩
theorem d_method_5_0 : Dc method_5_code 0 (.iload_n 2) 1 1 := ⟨by decide +kernel, rfl⟩
theorem d_method_5_1 : Bj method_5_code 1 (.ifCond .ne 6) 6 4 7 := ⟨by decide +kernel, rfl, by decide, rfl⟩
theorem d_method_5_4 : Dc method_5_code 4 (.bipush 42) 2 6 := ⟨by decide +kernel, rfl⟩
theorem d_method_5_6 : Dc method_5_code 6 (.ireturn) 1 7 := ⟨by decide +kernel, rfl⟩
def M_ex00 : Mt := (⟨"com/example/polje/polje/ObfuscatorsEmailPinLaw", "expected", "([CIZII)C"⟩, method_5_code, 5, some .char, ⟨0, 0, 0, 0⟩)
theorem nm_M_ex00 : mN M_ex00 = ⟨"com/example/polje/polje/ObfuscatorsEmailPinLaw", "expected", "([CIZII)C"⟩ := by delta mN M_ex00; rfl
set_option maxRecDepth 65536 in
set_option maxHeartbeats 40000000 in
theorem rm_ex00 {W : Wd} (hw : Ws W) (c : Addr) (rc : Bool) (xc : Bool) (oc : Bool) (m0 : Nat) (m1 : Nat) (m2 : Nat) (m3 : Nat) (m4 : Nat) (at_ : Int32) (d : Int32) (F : List En) : Ct W M_ex00 [.ref c, .int 0, .int 0, .int at_, .int d] ((c, rc, .inr (.char, xc, oc, [.int (ix m0), .int (ix m1), .int (ix m2), .int (ix m3), .int (ix m4)])) :: F) (fun v H' => v = some (.int 42) ∧ H' = ((c, rc, .inr (.char, xc, oc, [.int (ix m0), .int (ix m1), .int (ix m2), .int (ix m3), .int (ix m4)])) :: F)) := by
  refine Ct.intro (L0 := [.val (.ref c), .val (.int 0), .val (.int 0), .val (.int at_), .val (.int d)]) (plainFor_of_name pf_com_example_polje_polje_ObfuscatorsEmailPinLaw) rfl (fun K => ?_)
  refine Wp.iloadN rfl d_method_5_0 ?_
  refine Wp.ifF (by decide) d_method_5_1 ?_
  refine Wp.bipush lb_42 d_method_5_4 ?_
  refine Wp.iretN (z := 42) (by simp) rfl (by decide) d_method_5_6 (by decide) (by decide) ?_
  exact ⟨rfl, rfl⟩
theorem d_method_5_7 : Dc method_5_code 7 (.iload_n 1) 1 8 := ⟨by decide +kernel, rfl⟩
theorem d_method_5_8 : Dc method_5_code 8 (.iload_n 3) 1 9 := ⟨by decide +kernel, rfl⟩
theorem d_method_5_9 : Bj method_5_code 9 (.if_icmp .ge 16) 16 12 25 := ⟨by decide +kernel, rfl, by decide, rfl⟩
theorem d_method_5_12 : Dc method_5_code 12 (.iload_n 1) 1 13 := ⟨by decide +kernel, rfl⟩
theorem d_method_5_13 : Bj method_5_code 13 (.ifCond .ne 9) 9 16 22 := ⟨by decide +kernel, rfl, by decide, rfl⟩
theorem d_method_5_16 : Dc method_5_code 16 (.aload_n 0) 1 17 := ⟨by decide +kernel, rfl⟩
theorem d_method_5_17 : Dc method_5_code 17 (.iload_n 1) 1 18 := ⟨by decide +kernel, rfl⟩
theorem d_method_5_18 : Dc method_5_code 18 (.caload) 1 19 := ⟨by decide +kernel, rfl⟩
theorem d_method_5_19 : Bj method_5_code 19 (.goto 5) 5 22 24 := ⟨by decide +kernel, rfl, by decide, rfl⟩
theorem d_method_5_24 : Dc method_5_code 24 (.ireturn) 1 25 := ⟨by decide +kernel, rfl⟩
theorem d_method_5_25 : Dc method_5_code 25 (.iload_n 1) 1 26 := ⟨by decide +kernel, rfl⟩
theorem d_method_5_26 : Dc method_5_code 26 (.iload_n 3) 1 27 := ⟨by decide +kernel, rfl⟩
theorem d_method_5_27 : Bj method_5_code 27 (.if_icmp .ne 6) 6 30 33 := ⟨by decide +kernel, rfl, by decide, rfl⟩
theorem d_method_5_30 : Dc method_5_code 30 (.bipush 64) 2 32 := ⟨by decide +kernel, rfl⟩
theorem d_method_5_32 : Dc method_5_code 32 (.ireturn) 1 33 := ⟨by decide +kernel, rfl⟩
theorem d_method_5_33 : Dc method_5_code 33 (.iload_n 1) 1 34 := ⟨by decide +kernel, rfl⟩
theorem d_method_5_34 : Dc method_5_code 34 (.iload 4) 2 36 := ⟨by decide +kernel, rfl⟩
theorem d_method_5_36 : Bj method_5_code 36 (.if_icmp .ge 27) 27 39 63 := ⟨by decide +kernel, rfl, by decide, rfl⟩
theorem d_method_5_39 : Dc method_5_code 39 (.iload_n 1) 1 40 := ⟨by decide +kernel, rfl⟩
theorem d_method_5_40 : Dc method_5_code 40 (.iload_n 3) 1 41 := ⟨by decide +kernel, rfl⟩
theorem d_method_5_41 : Dc method_5_code 41 (.iconst 1) 1 42 := ⟨by decide +kernel, rfl⟩
theorem d_method_5_42 : Dc method_5_code 42 (.iadd) 1 43 := ⟨by decide +kernel, rfl⟩
theorem d_method_5_43 : Bj method_5_code 43 (.if_icmp .eq 11) 11 46 54 := ⟨by decide +kernel, rfl, by decide, rfl⟩
theorem d_method_5_54 : Dc method_5_code 54 (.aload_n 0) 1 55 := ⟨by decide +kernel, rfl⟩
theorem d_method_5_55 : Dc method_5_code 55 (.iload_n 1) 1 56 := ⟨by decide +kernel, rfl⟩
theorem d_method_5_56 : Dc method_5_code 56 (.caload) 1 57 := ⟨by decide +kernel, rfl⟩
theorem d_method_5_57 : Bj method_5_code 57 (.goto 5) 5 60 62 := ⟨by decide +kernel, rfl, by decide, rfl⟩
theorem d_method_5_62 : Dc method_5_code 62 (.ireturn) 1 63 := ⟨by decide +kernel, rfl⟩
theorem d_method_5_46 : Dc method_5_code 46 (.iload_n 1) 1 47 := ⟨by decide +kernel, rfl⟩
theorem d_method_5_47 : Dc method_5_code 47 (.iload 4) 2 49 := ⟨by decide +kernel, rfl⟩
theorem d_method_5_49 : Dc method_5_code 49 (.iconst 1) 1 50 := ⟨by decide +kernel, rfl⟩
theorem d_method_5_50 : Dc method_5_code 50 (.isub) 1 51 := ⟨by decide +kernel, rfl⟩
theorem d_method_5_51 : Bj method_5_code 51 (.if_icmp .ne 9) 9 54 60 := ⟨by decide +kernel, rfl, by decide, rfl⟩
theorem d_method_5_60 : Dc method_5_code 60 (.bipush 42) 2 62 := ⟨by decide +kernel, rfl⟩
theorem d_method_5_63 : Dc method_5_code 63 (.aload_n 0) 1 64 := ⟨by decide +kernel, rfl⟩
theorem d_method_5_64 : Dc method_5_code 64 (.iload_n 1) 1 65 := ⟨by decide +kernel, rfl⟩
theorem d_method_5_65 : Dc method_5_code 65 (.caload) 1 66 := ⟨by decide +kernel, rfl⟩
theorem d_method_5_66 : Dc method_5_code 66 (.ireturn) 1 67 := ⟨by decide +kernel, rfl⟩
def M_ex10 : Mt := (⟨"com/example/polje/polje/ObfuscatorsEmailPinLaw", "expected", "([CIZII)C"⟩, method_5_code, 5, some .char, ⟨0, 0, 0, 0⟩)
theorem nm_M_ex10 : mN M_ex10 = ⟨"com/example/polje/polje/ObfuscatorsEmailPinLaw", "expected", "([CIZII)C"⟩ := by delta mN M_ex10; rfl
set_option maxRecDepth 65536 in
set_option maxHeartbeats 40000000 in
theorem rm_ex10 {W : Wd} (hw : Ws W) (c : Addr) (rc : Bool) (xc : Bool) (oc : Bool) (m0 : Nat) (m1 : Nat) (m2 : Nat) (m3 : Nat) (m4 : Nat) (a : Nat) (d : Nat) (F : List En) (ha : a ≤ 5) (hd : d ≤ 5) (hm0 : m0 < 256) (hm1 : m1 < 256) (hm2 : m2 < 256) (hm3 : m3 < 256) (hm4 : m4 < 256) : Ct W M_ex10 [.ref c, .int 0, .int 1, .int (ix a), .int (ix d)] ((c, rc, .inr (.char, xc, oc, [.int (ix m0), .int (ix m1), .int (ix m2), .int (ix m3), .int (ix m4)])) :: F) (fun v H' => v = some (.int (ix (exF a d 0 m0))) ∧ H' = ((c, rc, .inr (.char, xc, oc, [.int (ix m0), .int (ix m1), .int (ix m2), .int (ix m3), .int (ix m4)])) :: F)) := by
  refine Ct.intro (L0 := [.val (.ref c), .val (.int 0), .val (.int 1), .val (.int (ix a)), .val (.int (ix d))]) (plainFor_of_name pf_com_example_polje_polje_ObfuscatorsEmailPinLaw) rfl (fun K => ?_)
  refine Wp.iloadN rfl d_method_5_0 ?_
  refine Wp.ifT (by decide) d_method_5_1 ?_
  refine Wp.iloadN rfl d_method_5_7 ?_
  refine Wp.iloadN rfl d_method_5_8 ?_
  by_cases b9_1 : 0 < a
  · refine Wp.icF (tlt ((ix_lt (i := 0) (j := a) (by omega) (by omega)).mpr b9_1)).2.1 d_method_5_9 ?_
    refine Wp.iloadN rfl d_method_5_12 ?_
    refine Wp.ifF (by decide) d_method_5_13 ?_
    refine Wp.aloadN rfl rfl d_method_5_16 ?_
    refine Wp.iloadN rfl d_method_5_17 ?_
    refine Wp.caload 0 0 rfl (by decide) (by decide) rfl d_method_5_18 ?_
    refine Wp.goto d_method_5_19 ?_
    refine Wp.iretN (z := (ix m0)) (by simp) rfl (ix_c (by omega)) d_method_5_24 (by decide) (by decide) ?_
    exact ⟨congrArg (fun z => some (Value.int (ix z))) (by unfold exF; (repeat' split) <;> first | rfl | omega), rfl⟩
  · refine Wp.icT (flt (fun q => b9_1 ((ix_lt (i := 0) (j := a) (by omega) (by omega)).mp q))).2.1 d_method_5_9 ?_
    refine Wp.iloadN rfl d_method_5_25 ?_
    refine Wp.iloadN rfl d_method_5_26 ?_
    by_cases b27_2 : 0 = a
    · refine Wp.icF (teq (congrArg ix b27_2)).2 d_method_5_27 ?_
      refine Wp.bipush lb_64 d_method_5_30 ?_
      refine Wp.iretN (z := 64) (by simp) rfl (by decide) d_method_5_32 (by decide) (by decide) ?_
      exact ⟨congrArg (fun z => some (Value.int (ix z))) (by unfold exF; (repeat' split) <;> first | rfl | omega), rfl⟩
    · refine Wp.icT (feq (fun q => b27_2 (ix_eq (by omega) (by omega) q))).2 d_method_5_27 ?_
      refine Wp.iloadN rfl d_method_5_33 ?_
      refine Wp.iload rfl d_method_5_34 ?_
      by_cases b36_3 : 0 < d
      · refine Wp.icF (tlt ((ix_lt (i := 0) (j := d) (by omega) (by omega)).mpr b36_3)).2.1 d_method_5_36 ?_
        refine Wp.iloadN rfl d_method_5_39 ?_
        refine Wp.iloadN rfl d_method_5_40 ?_
        refine Wp.iconst lc_1 d_method_5_41 ?_
        refine Wp.iadd (z := (ix (a + 1))) (ix_add _ _) d_method_5_42 ?_
        by_cases b43_4 : 0 = (a + 1)
        · refine Wp.icT (teq (congrArg ix b43_4)).1 d_method_5_43 ?_
          refine Wp.aloadN rfl rfl d_method_5_54 ?_
          refine Wp.iloadN rfl d_method_5_55 ?_
          refine Wp.caload 0 0 rfl (by decide) (by decide) rfl d_method_5_56 ?_
          refine Wp.goto d_method_5_57 ?_
          refine Wp.iretN (z := (ix m0)) (by simp) rfl (ix_c (by omega)) d_method_5_62 (by decide) (by decide) ?_
          exact ⟨congrArg (fun z => some (Value.int (ix z))) (by unfold exF; (repeat' split) <;> first | rfl | omega), rfl⟩
        · refine Wp.icF (feq (fun q => b43_4 (ix_eq (by omega) (by omega) q))).1 d_method_5_43 ?_
          refine Wp.iloadN rfl d_method_5_46 ?_
          refine Wp.iload rfl d_method_5_47 ?_
          refine Wp.iconst lc_1 d_method_5_49 ?_
          refine Wp.isub (z := (ix (d - 1))) (ix_sub (a := d) (b := 1) (by omega)) d_method_5_50 ?_
          by_cases b51_5 : 0 = (d - 1)
          · refine Wp.icF (teq (congrArg ix b51_5)).2 d_method_5_51 ?_
            refine Wp.aloadN rfl rfl d_method_5_54 ?_
            refine Wp.iloadN rfl d_method_5_55 ?_
            refine Wp.caload 0 0 rfl (by decide) (by decide) rfl d_method_5_56 ?_
            refine Wp.goto d_method_5_57 ?_
            refine Wp.iretN (z := (ix m0)) (by simp) rfl (ix_c (by omega)) d_method_5_62 (by decide) (by decide) ?_
            exact ⟨congrArg (fun z => some (Value.int (ix z))) (by unfold exF; (repeat' split) <;> first | rfl | omega), rfl⟩
          · refine Wp.icT (feq (fun q => b51_5 (ix_eq (by omega) (by omega) q))).2 d_method_5_51 ?_
            refine Wp.bipush lb_42 d_method_5_60 ?_
            refine Wp.iretN (z := 42) (by simp) rfl (by decide) d_method_5_62 (by decide) (by decide) ?_
            exact ⟨congrArg (fun z => some (Value.int (ix z))) (by unfold exF; (repeat' split) <;> first | rfl | omega), rfl⟩
      · refine Wp.icT (flt (fun q => b36_3 ((ix_lt (i := 0) (j := d) (by omega) (by omega)).mp q))).2.1 d_method_5_36 ?_
        refine Wp.aloadN rfl rfl d_method_5_63 ?_
        refine Wp.iloadN rfl d_method_5_64 ?_
        refine Wp.caload 0 0 rfl (by decide) (by decide) rfl d_method_5_65 ?_
        refine Wp.iretN (z := (ix m0)) (by simp) rfl (ix_c (by omega)) d_method_5_66 (by decide) (by decide) ?_
        exact ⟨congrArg (fun z => some (Value.int (ix z))) (by unfold exF; (repeat' split) <;> first | rfl | omega), rfl⟩
theorem d_method_6_0 : Dc method_6_code 0 (.iload_n 3) 1 1 := ⟨by decide +kernel, rfl⟩
theorem d_method_6_1 : Dc method_6_code 1 (.iload_n 2) 1 2 := ⟨by decide +kernel, rfl⟩
theorem d_method_6_2 : Bj method_6_code 2 (.if_icmp .ge 22) 22 5 24 := ⟨by decide +kernel, rfl, by decide, rfl⟩
theorem d_method_6_5 : Dc method_6_code 5 (.aload_n 0) 1 6 := ⟨by decide +kernel, rfl⟩
theorem d_method_6_6 : Dc method_6_code 6 (.iload_n 3) 1 7 := ⟨by decide +kernel, rfl⟩
theorem d_method_6_7 : Dc method_6_code 7 (.invokevirtual 12) 3 10 := ⟨by decide +kernel, rfl⟩
theorem w_242 {W : Wd} (hw : Ws W) : Wok W (Jvm.Cond.selects "java/lang/String" ({ cls := "java/lang/String", name := "charAt", desc := "(I)C" } : Jvm.MethodName) ({ cls := "java/lang/String", name := "charAt", desc := "(I)C" } : Jvm.MethodName)) := hw.1 _ (List.mem_of_getElem? (i := 242) rfl)
theorem w_243 {W : Wd} (hw : Ws W) : Wok W (Jvm.Cond.code ({ cls := "java/lang/String", name := "charAt", desc := "(I)C" } : Jvm.MethodName) jdk_42_method_56_code (2 : Nat) (Option.some Jvm.ClassFile.FieldType.char)) := hw.1 _ (List.mem_of_getElem? (i := 243) rfl)
theorem pd__I_C : parseMethodDescriptor "(I)C" = some ⟨[.int], some .char⟩ := by decide +kernel
theorem mk_M_ca {W : Wd} (hw : Ws W) : Mk W M_ca ⟨"java/lang/String", "charAt", "(I)C"⟩ 1 := Mk.of nm_M_ca rfl rfl rfl (w_243 hw) (w_11 hw) (mkLen pd__I_C rfl) (by decide)
theorem w_239 {W : Wd} (hw : Ws W) : Wok W (Jvm.Cond.methodLink "com/example/polje/polje/ObfuscatorsEmailPinLaw" (12 : Nat) ({ cls := "java/lang/String", name := "charAt", desc := "(I)C" } : Jvm.MethodName)) := hw.1 _ (List.mem_of_getElem? (i := 239) rfl)
theorem w_240 {W : Wd} (hw : Ws W) : Wok W (Jvm.Cond.declares ({ cls := "java/lang/String", name := "charAt", desc := "(I)C" } : Jvm.MethodName)) := hw.1 _ (List.mem_of_getElem? (i := 240) rfl)
theorem w_241 {W : Wd} (hw : Ws W) : Wok W (Jvm.Cond.instanceMethod ({ cls := "java/lang/String", name := "charAt", desc := "(I)C" } : Jvm.MethodName)) := hw.1 _ (List.mem_of_getElem? (i := 241) rfl)
theorem d_method_6_10 : Dc method_6_code 10 (.aload_n 1) 1 11 := ⟨by decide +kernel, rfl⟩
theorem d_method_6_11 : Dc method_6_code 11 (.iload_n 3) 1 12 := ⟨by decide +kernel, rfl⟩
theorem d_method_6_12 : Dc method_6_code 12 (.iload 4) 2 14 := ⟨by decide +kernel, rfl⟩
theorem d_method_6_14 : Dc method_6_code 14 (.iload 5) 2 16 := ⟨by decide +kernel, rfl⟩
theorem d_method_6_16 : Dc method_6_code 16 (.iload 6) 2 18 := ⟨by decide +kernel, rfl⟩
theorem d_method_6_18 : Dc method_6_code 18 (.invokestatic 16) 3 21 := ⟨by decide +kernel, rfl⟩
theorem w_250 {W : Wd} (hw : Ws W) : Wok W (Jvm.Cond.code ({ cls := "com/example/polje/polje/ObfuscatorsEmailPinLaw", name := "expected", desc := "([CIZII)C" } : Jvm.MethodName) method_5_code (5 : Nat) (Option.some Jvm.ClassFile.FieldType.char)) := hw.1 _ (List.mem_of_getElem? (i := 250) rfl)
theorem w_4 {W : Wd} (hw : Ws W) : Wok W (Jvm.Cond.initialized "com/example/polje/polje/ObfuscatorsEmailPinLaw") := hw.1 _ (List.mem_of_getElem? (i := 4) rfl)
theorem pd___CIZII_C : parseMethodDescriptor "([CIZII)C" = some ⟨[(.array .char), .int, .boolean, .int, .int], some .char⟩ := by decide +kernel
theorem mk_M_ex00 {W : Wd} (hw : Ws W) : Mk W M_ex00 ⟨"com/example/polje/polje/ObfuscatorsEmailPinLaw", "expected", "([CIZII)C"⟩ 5 := Mk.of nm_M_ex00 rfl rfl rfl (w_250 hw) (w_4 hw) (mkLen pd___CIZII_C rfl) (by decide)
theorem w_248 {W : Wd} (hw : Ws W) : Wok W (Jvm.Cond.methodLink "com/example/polje/polje/ObfuscatorsEmailPinLaw" (16 : Nat) ({ cls := "com/example/polje/polje/ObfuscatorsEmailPinLaw", name := "expected", desc := "([CIZII)C" } : Jvm.MethodName)) := hw.1 _ (List.mem_of_getElem? (i := 248) rfl)
theorem w_249 {W : Wd} (hw : Ws W) : Wok W (Jvm.Cond.static ({ cls := "com/example/polje/polje/ObfuscatorsEmailPinLaw", name := "expected", desc := "([CIZII)C" } : Jvm.MethodName)) := hw.1 _ (List.mem_of_getElem? (i := 249) rfl)
theorem d_method_6_21 : Bj method_6_code 21 (.if_icmp .ne 7) 7 24 28 := ⟨by decide +kernel, rfl, by decide, rfl⟩
theorem d_method_6_24 : Dc method_6_code 24 (.iconst 1) 1 25 := ⟨by decide +kernel, rfl⟩
theorem d_method_6_25 : Bj method_6_code 25 (.goto 4) 4 28 29 := ⟨by decide +kernel, rfl, by decide, rfl⟩
theorem d_method_6_29 : Dc method_6_code 29 (.ireturn) 1 30 := ⟨by decide +kernel, rfl⟩
def M_po00 : Mt := (⟨"com/example/polje/polje/ObfuscatorsEmailPinLaw", "pos", "(Ljava/lang/String;[CIIZII)Z"⟩, method_6_code, 7, some .boolean, ⟨4, 0, 0, 53⟩)
theorem nm_M_po00 : mN M_po00 = ⟨"com/example/polje/polje/ObfuscatorsEmailPinLaw", "pos", "(Ljava/lang/String;[CIIZII)Z"⟩ := by delta mN M_po00; rfl
set_option maxRecDepth 65536 in
set_option maxHeartbeats 40000000 in
theorem rm_po00 {W : Wd} (hw : Ws W) (s : Addr) (b : Addr) (rs : Bool) (rb : Bool) (xb : Bool) (ob : Bool) (zs : List Nat) (c : Addr) (rc : Bool) (xc : Bool) (oc : Bool) (m0 : Nat) (m1 : Nat) (m2 : Nat) (m3 : Nat) (m4 : Nat) (n : Nat) (at_ : Int32) (d : Int32) (F : List En) (hz : ∀ z ∈ zs, z < 256) (hl : zs.length ≤ 64) (hn : n ≤ 5) (hln : zs.length = n) (hx : 0 < n → zs.getD 0 0 = 42) (hm0 : m0 < 256) (hm1 : m1 < 256) (hm2 : m2 < 256) (hm3 : m3 < 256) (hm4 : m4 < 256) : Ct W M_po00 [.ref s, .ref c, .int (ix n), .int 0, .int 0, .int at_, .int d] ((oStr rs s (.ref b) (.int 0)) :: (b, rb, .inr (.byte, xb, ob, zb zs)) :: (c, rc, .inr (.char, xc, oc, [.int (ix m0), .int (ix m1), .int (ix m2), .int (ix m3), .int (ix m4)])) :: F) (fun v H' => v = some (.int 1) ∧ H' = ((oStr rs s (.ref b) (.int 0)) :: (b, rb, .inr (.byte, xb, ob, zb zs)) :: (c, rc, .inr (.char, xc, oc, [.int (ix m0), .int (ix m1), .int (ix m2), .int (ix m3), .int (ix m4)])) :: F)) := by
  refine Ct.intro (L0 := [.val (.ref s), .val (.ref c), .val (.int (ix n)), .val (.int 0), .val (.int 0), .val (.int at_), .val (.int d)]) (plainFor_of_name pf_com_example_polje_polje_ObfuscatorsEmailPinLaw) rfl (fun K => ?_)
  refine Wp.iloadN rfl d_method_6_0 ?_
  refine Wp.iloadN rfl d_method_6_1 ?_
  by_cases b2_1 : 0 < n
  · refine Wp.icF (tlt ((ix_lt (i := 0) (j := n) (by omega) (by omega)).mpr b2_1)).2.1 d_method_6_2 ?_
    refine Wp.aloadN rfl rfl d_method_6_5 ?_
    refine Wp.iloadN rfl d_method_6_6 ?_
    refine Wp.callV nm_M_po00 (fun _ => rm_ca hw.set s b rs rb xb ob zs 0 _ hz (by omega) (by omega)) 0 rfl (mk_M_ca hw) (w_239 hw) (w_240 hw) (w_242 hw) (w_241 hw) (S' := "") (Or.inl rfl) (by decide) rfl rfl rfl (Wn := 0) rfl rfl (by decide) d_method_6_7 ?_
    rintro _ _ ⟨rfl, rfl⟩
    refine Wp.aloadN rfl rfl d_method_6_10 ?_
    refine Wp.iloadN rfl d_method_6_11 ?_
    refine Wp.iload rfl d_method_6_12 ?_
    refine Wp.iload rfl d_method_6_14 ?_
    refine Wp.iload rfl d_method_6_16 ?_
    refine Wp.perm [2, 0, 1] 3 pp_2_0_1 (H' := ((c, rc, .inr (.char, xc, oc, [.int (ix m0), .int (ix m1), .int (ix m2), .int (ix m3), .int (ix m4)])) :: (oStr rs s (.ref b) (.int 0)) :: (b, rb, .inr (.byte, xb, ob, zb zs)) :: F)) rfl ?_
    refine Wp.callS nm_M_po00 (fun _ => rm_ex00 hw.set c rc xc oc m0 m1 m2 m3 m4 at_ d _ ) (mk_M_ex00 hw) (w_248 hw) (w_249 hw) rfl rfl (Wn := 1) rfl rfl (by decide) d_method_6_18 ?_
    rintro _ _ ⟨rfl, rfl⟩
    refine Wp.icF (teq (congrArg ix (hx b2_1))).2 d_method_6_21 ?_
    refine Wp.iconst lc_1 d_method_6_24 ?_
    refine Wp.goto d_method_6_25 ?_
    refine Wp.perm [1, 2, 0] 3 pp_1_2_0 (H' := ((oStr rs s (.ref b) (.int 0)) :: (b, rb, .inr (.byte, xb, ob, zb zs)) :: (c, rc, .inr (.char, xc, oc, [.int (ix m0), .int (ix m1), .int (ix m2), .int (ix m3), .int (ix m4)])) :: F)) rfl ?_
    refine Wp.iretN (z := 1) (by simp) rfl (by decide) d_method_6_29 (by decide) (by decide) ?_
    exact ⟨rfl, rfl⟩
  · refine Wp.icT (flt (fun q => b2_1 ((ix_lt (i := 0) (j := n) (by omega) (by omega)).mp q))).2.1 d_method_6_2 ?_
    refine Wp.iconst lc_1 d_method_6_24 ?_
    refine Wp.goto d_method_6_25 ?_
    refine Wp.iretN (z := 1) (by simp) rfl (by decide) d_method_6_29 (by decide) (by decide) ?_
    exact ⟨rfl, rfl⟩
theorem mk_M_ex10 {W : Wd} (hw : Ws W) : Mk W M_ex10 ⟨"com/example/polje/polje/ObfuscatorsEmailPinLaw", "expected", "([CIZII)C"⟩ 5 := Mk.of nm_M_ex10 rfl rfl rfl (w_250 hw) (w_4 hw) (mkLen pd___CIZII_C rfl) (by decide)
def M_po10 : Mt := (⟨"com/example/polje/polje/ObfuscatorsEmailPinLaw", "pos", "(Ljava/lang/String;[CIIZII)Z"⟩, method_6_code, 7, some .boolean, ⟨4, 0, 0, 53⟩)
theorem nm_M_po10 : mN M_po10 = ⟨"com/example/polje/polje/ObfuscatorsEmailPinLaw", "pos", "(Ljava/lang/String;[CIIZII)Z"⟩ := by delta mN M_po10; rfl
set_option maxRecDepth 65536 in
set_option maxHeartbeats 40000000 in
theorem rm_po10 {W : Wd} (hw : Ws W) (s : Addr) (b : Addr) (rs : Bool) (rb : Bool) (xb : Bool) (ob : Bool) (zs : List Nat) (c : Addr) (rc : Bool) (xc : Bool) (oc : Bool) (m0 : Nat) (m1 : Nat) (m2 : Nat) (m3 : Nat) (m4 : Nat) (n : Nat) (a : Nat) (d : Nat) (F : List En) (hz : ∀ z ∈ zs, z < 256) (hl : zs.length ≤ 64) (hn : n ≤ 5) (hln : zs.length = n) (hx : 0 < n → zs.getD 0 0 = exF a d 0 m0) (ha : a ≤ 5) (hd : d ≤ 5) (hm0 : m0 < 256) (hm1 : m1 < 256) (hm2 : m2 < 256) (hm3 : m3 < 256) (hm4 : m4 < 256) : Ct W M_po10 [.ref s, .ref c, .int (ix n), .int 0, .int 1, .int (ix a), .int (ix d)] ((oStr rs s (.ref b) (.int 0)) :: (b, rb, .inr (.byte, xb, ob, zb zs)) :: (c, rc, .inr (.char, xc, oc, [.int (ix m0), .int (ix m1), .int (ix m2), .int (ix m3), .int (ix m4)])) :: F) (fun v H' => v = some (.int 1) ∧ H' = ((oStr rs s (.ref b) (.int 0)) :: (b, rb, .inr (.byte, xb, ob, zb zs)) :: (c, rc, .inr (.char, xc, oc, [.int (ix m0), .int (ix m1), .int (ix m2), .int (ix m3), .int (ix m4)])) :: F)) := by
  refine Ct.intro (L0 := [.val (.ref s), .val (.ref c), .val (.int (ix n)), .val (.int 0), .val (.int 1), .val (.int (ix a)), .val (.int (ix d))]) (plainFor_of_name pf_com_example_polje_polje_ObfuscatorsEmailPinLaw) rfl (fun K => ?_)
  refine Wp.iloadN rfl d_method_6_0 ?_
  refine Wp.iloadN rfl d_method_6_1 ?_
  by_cases b2_1 : 0 < n
  · refine Wp.icF (tlt ((ix_lt (i := 0) (j := n) (by omega) (by omega)).mpr b2_1)).2.1 d_method_6_2 ?_
    refine Wp.aloadN rfl rfl d_method_6_5 ?_
    refine Wp.iloadN rfl d_method_6_6 ?_
    refine Wp.callV nm_M_po10 (fun _ => rm_ca hw.set s b rs rb xb ob zs 0 _ hz (by omega) (by omega)) 0 rfl (mk_M_ca hw) (w_239 hw) (w_240 hw) (w_242 hw) (w_241 hw) (S' := "") (Or.inl rfl) (by decide) rfl rfl rfl (Wn := 0) rfl rfl (by decide) d_method_6_7 ?_
    rintro _ _ ⟨rfl, rfl⟩
    refine Wp.aloadN rfl rfl d_method_6_10 ?_
    refine Wp.iloadN rfl d_method_6_11 ?_
    refine Wp.iload rfl d_method_6_12 ?_
    refine Wp.iload rfl d_method_6_14 ?_
    refine Wp.iload rfl d_method_6_16 ?_
    refine Wp.perm [2, 0, 1] 3 pp_2_0_1 (H' := ((c, rc, .inr (.char, xc, oc, [.int (ix m0), .int (ix m1), .int (ix m2), .int (ix m3), .int (ix m4)])) :: (oStr rs s (.ref b) (.int 0)) :: (b, rb, .inr (.byte, xb, ob, zb zs)) :: F)) rfl ?_
    refine Wp.callS nm_M_po10 (fun _ => rm_ex10 hw.set c rc xc oc m0 m1 m2 m3 m4 a d _ (by omega) (by omega) (by omega) (by omega) (by omega) (by omega) (by omega)) (mk_M_ex10 hw) (w_248 hw) (w_249 hw) rfl rfl (Wn := 1) rfl rfl (by decide) d_method_6_18 ?_
    rintro _ _ ⟨rfl, rfl⟩
    refine Wp.icF (teq (congrArg ix (hx b2_1))).2 d_method_6_21 ?_
    refine Wp.iconst lc_1 d_method_6_24 ?_
    refine Wp.goto d_method_6_25 ?_
    refine Wp.perm [1, 2, 0] 3 pp_1_2_0 (H' := ((oStr rs s (.ref b) (.int 0)) :: (b, rb, .inr (.byte, xb, ob, zb zs)) :: (c, rc, .inr (.char, xc, oc, [.int (ix m0), .int (ix m1), .int (ix m2), .int (ix m3), .int (ix m4)])) :: F)) rfl ?_
    refine Wp.iretN (z := 1) (by simp) rfl (by decide) d_method_6_29 (by decide) (by decide) ?_
    exact ⟨rfl, rfl⟩
  · refine Wp.icT (flt (fun q => b2_1 ((ix_lt (i := 0) (j := n) (by omega) (by omega)).mp q))).2.1 d_method_6_2 ?_
    refine Wp.iconst lc_1 d_method_6_24 ?_
    refine Wp.goto d_method_6_25 ?_
    refine Wp.iretN (z := 1) (by simp) rfl (by decide) d_method_6_29 (by decide) (by decide) ?_
    exact ⟨rfl, rfl⟩
def M_ia1 : Mt := (⟨"com/example/polje/polje/ObfuscatorsEmailPinLaw", "isAt", "([CII)I"⟩, method_4_code, 3, some .int, ⟨0, 0, 0, 0⟩)
theorem nm_M_ia1 : mN M_ia1 = ⟨"com/example/polje/polje/ObfuscatorsEmailPinLaw", "isAt", "([CII)I"⟩ := by delta mN M_ia1; rfl
set_option maxRecDepth 65536 in
set_option maxHeartbeats 40000000 in
theorem rm_ia1 {W : Wd} (hw : Ws W) (c : Addr) (rc : Bool) (xc : Bool) (oc : Bool) (m0 : Nat) (m1 : Nat) (m2 : Nat) (m3 : Nat) (m4 : Nat) (n : Nat) (F : List En) (hn : n ≤ 5) (hm0 : m0 < 256) (hm1 : m1 < 256) (hm2 : m2 < 256) (hm3 : m3 < 256) (hm4 : m4 < 256) : Ct W M_ia1 [.ref c, .int (ix n), .int 1] ((c, rc, .inr (.char, xc, oc, [.int (ix m0), .int (ix m1), .int (ix m2), .int (ix m3), .int (ix m4)])) :: F) (fun v H' => v = some (.int (ix (aN n 1 m1))) ∧ H' = ((c, rc, .inr (.char, xc, oc, [.int (ix m0), .int (ix m1), .int (ix m2), .int (ix m3), .int (ix m4)])) :: F)) := by
  refine Ct.intro (L0 := [.val (.ref c), .val (.int (ix n)), .val (.int 1)]) (plainFor_of_name pf_com_example_polje_polje_ObfuscatorsEmailPinLaw) rfl (fun K => ?_)
  refine Wp.iloadN rfl d_method_4_0 ?_
  refine Wp.iloadN rfl d_method_4_1 ?_
  by_cases b2_1 : 1 < n
  · refine Wp.icF (tlt ((ix_lt (i := 1) (j := n) (by omega) (by omega)).mpr b2_1)).2.1 d_method_4_2 ?_
    refine Wp.aloadN rfl rfl d_method_4_5 ?_
    refine Wp.iloadN rfl d_method_4_6 ?_
    refine Wp.caload 0 1 rfl (by decide) (by decide) rfl d_method_4_7 ?_
    refine Wp.bipush lb_64 d_method_4_8 ?_
    by_cases b10_2 : m1 = 64
    · refine Wp.icF (teq (congrArg ix b10_2)).2 d_method_4_10 ?_
      refine Wp.iconst lc_1 d_method_4_13 ?_
      refine Wp.goto d_method_4_14 ?_
      refine Wp.iret rfl d_method_4_18 (by decide) (by decide) ?_
      exact ⟨congrArg (fun z => some (Value.int (ix z))) (aN_1 b2_1 b10_2).symm, rfl⟩
    · refine Wp.icT (feq (fun q => b10_2 (ix_eq (by omega) (by omega) q))).2 d_method_4_10 ?_
      refine Wp.iconst lc_0 d_method_4_17 ?_
      refine Wp.iret rfl d_method_4_18 (by decide) (by decide) ?_
      exact ⟨congrArg (fun z => some (Value.int (ix z))) (aN_00 b10_2).symm, rfl⟩
  · refine Wp.icT (flt (fun q => b2_1 ((ix_lt (i := 1) (j := n) (by omega) (by omega)).mp q))).2.1 d_method_4_2 ?_
    refine Wp.iconst lc_0 d_method_4_17 ?_
    refine Wp.iret rfl d_method_4_18 (by decide) (by decide) ?_
    exact ⟨congrArg (fun z => some (Value.int (ix z))) (aN_0 b2_1).symm, rfl⟩
def M_ex01 : Mt := (⟨"com/example/polje/polje/ObfuscatorsEmailPinLaw", "expected", "([CIZII)C"⟩, method_5_code, 5, some .char, ⟨0, 0, 0, 0⟩)
theorem nm_M_ex01 : mN M_ex01 = ⟨"com/example/polje/polje/ObfuscatorsEmailPinLaw", "expected", "([CIZII)C"⟩ := by delta mN M_ex01; rfl
set_option maxRecDepth 65536 in
set_option maxHeartbeats 40000000 in
theorem rm_ex01 {W : Wd} (hw : Ws W) (c : Addr) (rc : Bool) (xc : Bool) (oc : Bool) (m0 : Nat) (m1 : Nat) (m2 : Nat) (m3 : Nat) (m4 : Nat) (at_ : Int32) (d : Int32) (F : List En) : Ct W M_ex01 [.ref c, .int 1, .int 0, .int at_, .int d] ((c, rc, .inr (.char, xc, oc, [.int (ix m0), .int (ix m1), .int (ix m2), .int (ix m3), .int (ix m4)])) :: F) (fun v H' => v = some (.int 42) ∧ H' = ((c, rc, .inr (.char, xc, oc, [.int (ix m0), .int (ix m1), .int (ix m2), .int (ix m3), .int (ix m4)])) :: F)) := by
  refine Ct.intro (L0 := [.val (.ref c), .val (.int 1), .val (.int 0), .val (.int at_), .val (.int d)]) (plainFor_of_name pf_com_example_polje_polje_ObfuscatorsEmailPinLaw) rfl (fun K => ?_)
  refine Wp.iloadN rfl d_method_5_0 ?_
  refine Wp.ifF (by decide) d_method_5_1 ?_
  refine Wp.bipush lb_42 d_method_5_4 ?_
  refine Wp.iretN (z := 42) (by simp) rfl (by decide) d_method_5_6 (by decide) (by decide) ?_
  exact ⟨rfl, rfl⟩
theorem d_method_5_22 : Dc method_5_code 22 (.bipush 42) 2 24 := ⟨by decide +kernel, rfl⟩
def M_ex11 : Mt := (⟨"com/example/polje/polje/ObfuscatorsEmailPinLaw", "expected", "([CIZII)C"⟩, method_5_code, 5, some .char, ⟨0, 0, 0, 0⟩)
theorem nm_M_ex11 : mN M_ex11 = ⟨"com/example/polje/polje/ObfuscatorsEmailPinLaw", "expected", "([CIZII)C"⟩ := by delta mN M_ex11; rfl
set_option maxRecDepth 65536 in
set_option maxHeartbeats 40000000 in
theorem rm_ex11 {W : Wd} (hw : Ws W) (c : Addr) (rc : Bool) (xc : Bool) (oc : Bool) (m0 : Nat) (m1 : Nat) (m2 : Nat) (m3 : Nat) (m4 : Nat) (a : Nat) (d : Nat) (F : List En) (ha : a ≤ 5) (hd : d ≤ 5) (hm0 : m0 < 256) (hm1 : m1 < 256) (hm2 : m2 < 256) (hm3 : m3 < 256) (hm4 : m4 < 256) : Ct W M_ex11 [.ref c, .int 1, .int 1, .int (ix a), .int (ix d)] ((c, rc, .inr (.char, xc, oc, [.int (ix m0), .int (ix m1), .int (ix m2), .int (ix m3), .int (ix m4)])) :: F) (fun v H' => v = some (.int (ix (exF a d 1 m1))) ∧ H' = ((c, rc, .inr (.char, xc, oc, [.int (ix m0), .int (ix m1), .int (ix m2), .int (ix m3), .int (ix m4)])) :: F)) := by
  refine Ct.intro (L0 := [.val (.ref c), .val (.int 1), .val (.int 1), .val (.int (ix a)), .val (.int (ix d))]) (plainFor_of_name pf_com_example_polje_polje_ObfuscatorsEmailPinLaw) rfl (fun K => ?_)
  refine Wp.iloadN rfl d_method_5_0 ?_
  refine Wp.ifT (by decide) d_method_5_1 ?_
  refine Wp.iloadN rfl d_method_5_7 ?_
  refine Wp.iloadN rfl d_method_5_8 ?_
  by_cases b9_1 : 1 < a
  · refine Wp.icF (tlt ((ix_lt (i := 1) (j := a) (by omega) (by omega)).mpr b9_1)).2.1 d_method_5_9 ?_
    refine Wp.iloadN rfl d_method_5_12 ?_
    refine Wp.ifT (by decide) d_method_5_13 ?_
    refine Wp.bipush lb_42 d_method_5_22 ?_
    refine Wp.iretN (z := 42) (by simp) rfl (by decide) d_method_5_24 (by decide) (by decide) ?_
    exact ⟨congrArg (fun z => some (Value.int (ix z))) (by unfold exF; (repeat' split) <;> first | rfl | omega), rfl⟩
  · refine Wp.icT (flt (fun q => b9_1 ((ix_lt (i := 1) (j := a) (by omega) (by omega)).mp q))).2.1 d_method_5_9 ?_
    refine Wp.iloadN rfl d_method_5_25 ?_
    refine Wp.iloadN rfl d_method_5_26 ?_
    by_cases b27_2 : 1 = a
    · refine Wp.icF (teq (congrArg ix b27_2)).2 d_method_5_27 ?_
      refine Wp.bipush lb_64 d_method_5_30 ?_
      refine Wp.iretN (z := 64) (by simp) rfl (by decide) d_method_5_32 (by decide) (by decide) ?_
      exact ⟨congrArg (fun z => some (Value.int (ix z))) (by unfold exF; (repeat' split) <;> first | rfl | omega), rfl⟩
    · refine Wp.icT (feq (fun q => b27_2 (ix_eq (by omega) (by omega) q))).2 d_method_5_27 ?_
      refine Wp.iloadN rfl d_method_5_33 ?_
      refine Wp.iload rfl d_method_5_34 ?_
      by_cases b36_3 : 1 < d
      · refine Wp.icF (tlt ((ix_lt (i := 1) (j := d) (by omega) (by omega)).mpr b36_3)).2.1 d_method_5_36 ?_
        refine Wp.iloadN rfl d_method_5_39 ?_
        refine Wp.iloadN rfl d_method_5_40 ?_
        refine Wp.iconst lc_1 d_method_5_41 ?_
        refine Wp.iadd (z := (ix (a + 1))) (ix_add _ _) d_method_5_42 ?_
        by_cases b43_4 : 1 = (a + 1)
        · refine Wp.icT (teq (congrArg ix b43_4)).1 d_method_5_43 ?_
          refine Wp.aloadN rfl rfl d_method_5_54 ?_
          refine Wp.iloadN rfl d_method_5_55 ?_
          refine Wp.caload 0 1 rfl (by decide) (by decide) rfl d_method_5_56 ?_
          refine Wp.goto d_method_5_57 ?_
          refine Wp.iretN (z := (ix m1)) (by simp) rfl (ix_c (by omega)) d_method_5_62 (by decide) (by decide) ?_
          exact ⟨congrArg (fun z => some (Value.int (ix z))) (by unfold exF; (repeat' split) <;> first | rfl | omega), rfl⟩
        · refine Wp.icF (feq (fun q => b43_4 (ix_eq (by omega) (by omega) q))).1 d_method_5_43 ?_
          refine Wp.iloadN rfl d_method_5_46 ?_
          refine Wp.iload rfl d_method_5_47 ?_
          refine Wp.iconst lc_1 d_method_5_49 ?_
          refine Wp.isub (z := (ix (d - 1))) (ix_sub (a := d) (b := 1) (by omega)) d_method_5_50 ?_
          by_cases b51_5 : 1 = (d - 1)
          · refine Wp.icF (teq (congrArg ix b51_5)).2 d_method_5_51 ?_
            refine Wp.aloadN rfl rfl d_method_5_54 ?_
            refine Wp.iloadN rfl d_method_5_55 ?_
            refine Wp.caload 0 1 rfl (by decide) (by decide) rfl d_method_5_56 ?_
            refine Wp.goto d_method_5_57 ?_
            refine Wp.iretN (z := (ix m1)) (by simp) rfl (ix_c (by omega)) d_method_5_62 (by decide) (by decide) ?_
            exact ⟨congrArg (fun z => some (Value.int (ix z))) (by unfold exF; (repeat' split) <;> first | rfl | omega), rfl⟩
          · refine Wp.icT (feq (fun q => b51_5 (ix_eq (by omega) (by omega) q))).2 d_method_5_51 ?_
            refine Wp.bipush lb_42 d_method_5_60 ?_
            refine Wp.iretN (z := 42) (by simp) rfl (by decide) d_method_5_62 (by decide) (by decide) ?_
            exact ⟨congrArg (fun z => some (Value.int (ix z))) (by unfold exF; (repeat' split) <;> first | rfl | omega), rfl⟩
      · refine Wp.icT (flt (fun q => b36_3 ((ix_lt (i := 1) (j := d) (by omega) (by omega)).mp q))).2.1 d_method_5_36 ?_
        refine Wp.aloadN rfl rfl d_method_5_63 ?_
        refine Wp.iloadN rfl d_method_5_64 ?_
        refine Wp.caload 0 1 rfl (by decide) (by decide) rfl d_method_5_65 ?_
        refine Wp.iretN (z := (ix m1)) (by simp) rfl (ix_c (by omega)) d_method_5_66 (by decide) (by decide) ?_
        exact ⟨congrArg (fun z => some (Value.int (ix z))) (by unfold exF; (repeat' split) <;> first | rfl | omega), rfl⟩
theorem mk_M_ex01 {W : Wd} (hw : Ws W) : Mk W M_ex01 ⟨"com/example/polje/polje/ObfuscatorsEmailPinLaw", "expected", "([CIZII)C"⟩ 5 := Mk.of nm_M_ex01 rfl rfl rfl (w_250 hw) (w_4 hw) (mkLen pd___CIZII_C rfl) (by decide)
def M_po01 : Mt := (⟨"com/example/polje/polje/ObfuscatorsEmailPinLaw", "pos", "(Ljava/lang/String;[CIIZII)Z"⟩, method_6_code, 7, some .boolean, ⟨4, 0, 0, 53⟩)
theorem nm_M_po01 : mN M_po01 = ⟨"com/example/polje/polje/ObfuscatorsEmailPinLaw", "pos", "(Ljava/lang/String;[CIIZII)Z"⟩ := by delta mN M_po01; rfl
set_option maxRecDepth 65536 in
set_option maxHeartbeats 40000000 in
theorem rm_po01 {W : Wd} (hw : Ws W) (s : Addr) (b : Addr) (rs : Bool) (rb : Bool) (xb : Bool) (ob : Bool) (zs : List Nat) (c : Addr) (rc : Bool) (xc : Bool) (oc : Bool) (m0 : Nat) (m1 : Nat) (m2 : Nat) (m3 : Nat) (m4 : Nat) (n : Nat) (at_ : Int32) (d : Int32) (F : List En) (hz : ∀ z ∈ zs, z < 256) (hl : zs.length ≤ 64) (hn : n ≤ 5) (hln : zs.length = n) (hx : 1 < n → zs.getD 1 0 = 42) (hm0 : m0 < 256) (hm1 : m1 < 256) (hm2 : m2 < 256) (hm3 : m3 < 256) (hm4 : m4 < 256) : Ct W M_po01 [.ref s, .ref c, .int (ix n), .int 1, .int 0, .int at_, .int d] ((oStr rs s (.ref b) (.int 0)) :: (b, rb, .inr (.byte, xb, ob, zb zs)) :: (c, rc, .inr (.char, xc, oc, [.int (ix m0), .int (ix m1), .int (ix m2), .int (ix m3), .int (ix m4)])) :: F) (fun v H' => v = some (.int 1) ∧ H' = ((oStr rs s (.ref b) (.int 0)) :: (b, rb, .inr (.byte, xb, ob, zb zs)) :: (c, rc, .inr (.char, xc, oc, [.int (ix m0), .int (ix m1), .int (ix m2), .int (ix m3), .int (ix m4)])) :: F)) := by
  refine Ct.intro (L0 := [.val (.ref s), .val (.ref c), .val (.int (ix n)), .val (.int 1), .val (.int 0), .val (.int at_), .val (.int d)]) (plainFor_of_name pf_com_example_polje_polje_ObfuscatorsEmailPinLaw) rfl (fun K => ?_)
  refine Wp.iloadN rfl d_method_6_0 ?_
  refine Wp.iloadN rfl d_method_6_1 ?_
  by_cases b2_1 : 1 < n
  · refine Wp.icF (tlt ((ix_lt (i := 1) (j := n) (by omega) (by omega)).mpr b2_1)).2.1 d_method_6_2 ?_
    refine Wp.aloadN rfl rfl d_method_6_5 ?_
    refine Wp.iloadN rfl d_method_6_6 ?_
    refine Wp.callV nm_M_po01 (fun _ => rm_ca hw.set s b rs rb xb ob zs 1 _ hz (by omega) (by omega)) 0 rfl (mk_M_ca hw) (w_239 hw) (w_240 hw) (w_242 hw) (w_241 hw) (S' := "") (Or.inl rfl) (by decide) rfl rfl rfl (Wn := 0) rfl rfl (by decide) d_method_6_7 ?_
    rintro _ _ ⟨rfl, rfl⟩
    refine Wp.aloadN rfl rfl d_method_6_10 ?_
    refine Wp.iloadN rfl d_method_6_11 ?_
    refine Wp.iload rfl d_method_6_12 ?_
    refine Wp.iload rfl d_method_6_14 ?_
    refine Wp.iload rfl d_method_6_16 ?_
    refine Wp.perm [2, 0, 1] 3 pp_2_0_1 (H' := ((c, rc, .inr (.char, xc, oc, [.int (ix m0), .int (ix m1), .int (ix m2), .int (ix m3), .int (ix m4)])) :: (oStr rs s (.ref b) (.int 0)) :: (b, rb, .inr (.byte, xb, ob, zb zs)) :: F)) rfl ?_
    refine Wp.callS nm_M_po01 (fun _ => rm_ex01 hw.set c rc xc oc m0 m1 m2 m3 m4 at_ d _ ) (mk_M_ex01 hw) (w_248 hw) (w_249 hw) rfl rfl (Wn := 1) rfl rfl (by decide) d_method_6_18 ?_
    rintro _ _ ⟨rfl, rfl⟩
    refine Wp.icF (teq (congrArg ix (hx b2_1))).2 d_method_6_21 ?_
    refine Wp.iconst lc_1 d_method_6_24 ?_
    refine Wp.goto d_method_6_25 ?_
    refine Wp.perm [1, 2, 0] 3 pp_1_2_0 (H' := ((oStr rs s (.ref b) (.int 0)) :: (b, rb, .inr (.byte, xb, ob, zb zs)) :: (c, rc, .inr (.char, xc, oc, [.int (ix m0), .int (ix m1), .int (ix m2), .int (ix m3), .int (ix m4)])) :: F)) rfl ?_
    refine Wp.iretN (z := 1) (by simp) rfl (by decide) d_method_6_29 (by decide) (by decide) ?_
    exact ⟨rfl, rfl⟩
  · refine Wp.icT (flt (fun q => b2_1 ((ix_lt (i := 1) (j := n) (by omega) (by omega)).mp q))).2.1 d_method_6_2 ?_
    refine Wp.iconst lc_1 d_method_6_24 ?_
    refine Wp.goto d_method_6_25 ?_
    refine Wp.iretN (z := 1) (by simp) rfl (by decide) d_method_6_29 (by decide) (by decide) ?_
    exact ⟨rfl, rfl⟩
theorem mk_M_ex11 {W : Wd} (hw : Ws W) : Mk W M_ex11 ⟨"com/example/polje/polje/ObfuscatorsEmailPinLaw", "expected", "([CIZII)C"⟩ 5 := Mk.of nm_M_ex11 rfl rfl rfl (w_250 hw) (w_4 hw) (mkLen pd___CIZII_C rfl) (by decide)
def M_po11 : Mt := (⟨"com/example/polje/polje/ObfuscatorsEmailPinLaw", "pos", "(Ljava/lang/String;[CIIZII)Z"⟩, method_6_code, 7, some .boolean, ⟨4, 0, 0, 53⟩)
theorem nm_M_po11 : mN M_po11 = ⟨"com/example/polje/polje/ObfuscatorsEmailPinLaw", "pos", "(Ljava/lang/String;[CIIZII)Z"⟩ := by delta mN M_po11; rfl
set_option maxRecDepth 65536 in
set_option maxHeartbeats 40000000 in
theorem rm_po11 {W : Wd} (hw : Ws W) (s : Addr) (b : Addr) (rs : Bool) (rb : Bool) (xb : Bool) (ob : Bool) (zs : List Nat) (c : Addr) (rc : Bool) (xc : Bool) (oc : Bool) (m0 : Nat) (m1 : Nat) (m2 : Nat) (m3 : Nat) (m4 : Nat) (n : Nat) (a : Nat) (d : Nat) (F : List En) (hz : ∀ z ∈ zs, z < 256) (hl : zs.length ≤ 64) (hn : n ≤ 5) (hln : zs.length = n) (hx : 1 < n → zs.getD 1 0 = exF a d 1 m1) (ha : a ≤ 5) (hd : d ≤ 5) (hm0 : m0 < 256) (hm1 : m1 < 256) (hm2 : m2 < 256) (hm3 : m3 < 256) (hm4 : m4 < 256) : Ct W M_po11 [.ref s, .ref c, .int (ix n), .int 1, .int 1, .int (ix a), .int (ix d)] ((oStr rs s (.ref b) (.int 0)) :: (b, rb, .inr (.byte, xb, ob, zb zs)) :: (c, rc, .inr (.char, xc, oc, [.int (ix m0), .int (ix m1), .int (ix m2), .int (ix m3), .int (ix m4)])) :: F) (fun v H' => v = some (.int 1) ∧ H' = ((oStr rs s (.ref b) (.int 0)) :: (b, rb, .inr (.byte, xb, ob, zb zs)) :: (c, rc, .inr (.char, xc, oc, [.int (ix m0), .int (ix m1), .int (ix m2), .int (ix m3), .int (ix m4)])) :: F)) := by
  refine Ct.intro (L0 := [.val (.ref s), .val (.ref c), .val (.int (ix n)), .val (.int 1), .val (.int 1), .val (.int (ix a)), .val (.int (ix d))]) (plainFor_of_name pf_com_example_polje_polje_ObfuscatorsEmailPinLaw) rfl (fun K => ?_)
  refine Wp.iloadN rfl d_method_6_0 ?_
  refine Wp.iloadN rfl d_method_6_1 ?_
  by_cases b2_1 : 1 < n
  · refine Wp.icF (tlt ((ix_lt (i := 1) (j := n) (by omega) (by omega)).mpr b2_1)).2.1 d_method_6_2 ?_
    refine Wp.aloadN rfl rfl d_method_6_5 ?_
    refine Wp.iloadN rfl d_method_6_6 ?_
    refine Wp.callV nm_M_po11 (fun _ => rm_ca hw.set s b rs rb xb ob zs 1 _ hz (by omega) (by omega)) 0 rfl (mk_M_ca hw) (w_239 hw) (w_240 hw) (w_242 hw) (w_241 hw) (S' := "") (Or.inl rfl) (by decide) rfl rfl rfl (Wn := 0) rfl rfl (by decide) d_method_6_7 ?_
    rintro _ _ ⟨rfl, rfl⟩
    refine Wp.aloadN rfl rfl d_method_6_10 ?_
    refine Wp.iloadN rfl d_method_6_11 ?_
    refine Wp.iload rfl d_method_6_12 ?_
    refine Wp.iload rfl d_method_6_14 ?_
    refine Wp.iload rfl d_method_6_16 ?_
    refine Wp.perm [2, 0, 1] 3 pp_2_0_1 (H' := ((c, rc, .inr (.char, xc, oc, [.int (ix m0), .int (ix m1), .int (ix m2), .int (ix m3), .int (ix m4)])) :: (oStr rs s (.ref b) (.int 0)) :: (b, rb, .inr (.byte, xb, ob, zb zs)) :: F)) rfl ?_
    refine Wp.callS nm_M_po11 (fun _ => rm_ex11 hw.set c rc xc oc m0 m1 m2 m3 m4 a d _ (by omega) (by omega) (by omega) (by omega) (by omega) (by omega) (by omega)) (mk_M_ex11 hw) (w_248 hw) (w_249 hw) rfl rfl (Wn := 1) rfl rfl (by decide) d_method_6_18 ?_
    rintro _ _ ⟨rfl, rfl⟩
    refine Wp.icF (teq (congrArg ix (hx b2_1))).2 d_method_6_21 ?_
    refine Wp.iconst lc_1 d_method_6_24 ?_
    refine Wp.goto d_method_6_25 ?_
    refine Wp.perm [1, 2, 0] 3 pp_1_2_0 (H' := ((oStr rs s (.ref b) (.int 0)) :: (b, rb, .inr (.byte, xb, ob, zb zs)) :: (c, rc, .inr (.char, xc, oc, [.int (ix m0), .int (ix m1), .int (ix m2), .int (ix m3), .int (ix m4)])) :: F)) rfl ?_
    refine Wp.iretN (z := 1) (by simp) rfl (by decide) d_method_6_29 (by decide) (by decide) ?_
    exact ⟨rfl, rfl⟩
  · refine Wp.icT (flt (fun q => b2_1 ((ix_lt (i := 1) (j := n) (by omega) (by omega)).mp q))).2.1 d_method_6_2 ?_
    refine Wp.iconst lc_1 d_method_6_24 ?_
    refine Wp.goto d_method_6_25 ?_
    refine Wp.iretN (z := 1) (by simp) rfl (by decide) d_method_6_29 (by decide) (by decide) ?_
    exact ⟨rfl, rfl⟩
def M_ia2 : Mt := (⟨"com/example/polje/polje/ObfuscatorsEmailPinLaw", "isAt", "([CII)I"⟩, method_4_code, 3, some .int, ⟨0, 0, 0, 0⟩)
theorem nm_M_ia2 : mN M_ia2 = ⟨"com/example/polje/polje/ObfuscatorsEmailPinLaw", "isAt", "([CII)I"⟩ := by delta mN M_ia2; rfl
set_option maxRecDepth 65536 in
set_option maxHeartbeats 40000000 in
theorem rm_ia2 {W : Wd} (hw : Ws W) (c : Addr) (rc : Bool) (xc : Bool) (oc : Bool) (m0 : Nat) (m1 : Nat) (m2 : Nat) (m3 : Nat) (m4 : Nat) (n : Nat) (F : List En) (hn : n ≤ 5) (hm0 : m0 < 256) (hm1 : m1 < 256) (hm2 : m2 < 256) (hm3 : m3 < 256) (hm4 : m4 < 256) : Ct W M_ia2 [.ref c, .int (ix n), .int 2] ((c, rc, .inr (.char, xc, oc, [.int (ix m0), .int (ix m1), .int (ix m2), .int (ix m3), .int (ix m4)])) :: F) (fun v H' => v = some (.int (ix (aN n 2 m2))) ∧ H' = ((c, rc, .inr (.char, xc, oc, [.int (ix m0), .int (ix m1), .int (ix m2), .int (ix m3), .int (ix m4)])) :: F)) := by
  refine Ct.intro (L0 := [.val (.ref c), .val (.int (ix n)), .val (.int 2)]) (plainFor_of_name pf_com_example_polje_polje_ObfuscatorsEmailPinLaw) rfl (fun K => ?_)
  refine Wp.iloadN rfl d_method_4_0 ?_
  refine Wp.iloadN rfl d_method_4_1 ?_
  by_cases b2_1 : 2 < n
  · refine Wp.icF (tlt ((ix_lt (i := 2) (j := n) (by omega) (by omega)).mpr b2_1)).2.1 d_method_4_2 ?_
    refine Wp.aloadN rfl rfl d_method_4_5 ?_
    refine Wp.iloadN rfl d_method_4_6 ?_
    refine Wp.caload 0 2 rfl (by decide) (by decide) rfl d_method_4_7 ?_
    refine Wp.bipush lb_64 d_method_4_8 ?_
    by_cases b10_2 : m2 = 64
    · refine Wp.icF (teq (congrArg ix b10_2)).2 d_method_4_10 ?_
      refine Wp.iconst lc_1 d_method_4_13 ?_
      refine Wp.goto d_method_4_14 ?_
      refine Wp.iret rfl d_method_4_18 (by decide) (by decide) ?_
      exact ⟨congrArg (fun z => some (Value.int (ix z))) (aN_1 b2_1 b10_2).symm, rfl⟩
    · refine Wp.icT (feq (fun q => b10_2 (ix_eq (by omega) (by omega) q))).2 d_method_4_10 ?_
      refine Wp.iconst lc_0 d_method_4_17 ?_
      refine Wp.iret rfl d_method_4_18 (by decide) (by decide) ?_
      exact ⟨congrArg (fun z => some (Value.int (ix z))) (aN_00 b10_2).symm, rfl⟩
  · refine Wp.icT (flt (fun q => b2_1 ((ix_lt (i := 2) (j := n) (by omega) (by omega)).mp q))).2.1 d_method_4_2 ?_
    refine Wp.iconst lc_0 d_method_4_17 ?_
    refine Wp.iret rfl d_method_4_18 (by decide) (by decide) ?_
    exact ⟨congrArg (fun z => some (Value.int (ix z))) (aN_0 b2_1).symm, rfl⟩
def M_ex02 : Mt := (⟨"com/example/polje/polje/ObfuscatorsEmailPinLaw", "expected", "([CIZII)C"⟩, method_5_code, 5, some .char, ⟨0, 0, 0, 0⟩)
theorem nm_M_ex02 : mN M_ex02 = ⟨"com/example/polje/polje/ObfuscatorsEmailPinLaw", "expected", "([CIZII)C"⟩ := by delta mN M_ex02; rfl
set_option maxRecDepth 65536 in
set_option maxHeartbeats 40000000 in
theorem rm_ex02 {W : Wd} (hw : Ws W) (c : Addr) (rc : Bool) (xc : Bool) (oc : Bool) (m0 : Nat) (m1 : Nat) (m2 : Nat) (m3 : Nat) (m4 : Nat) (at_ : Int32) (d : Int32) (F : List En) : Ct W M_ex02 [.ref c, .int 2, .int 0, .int at_, .int d] ((c, rc, .inr (.char, xc, oc, [.int (ix m0), .int (ix m1), .int (ix m2), .int (ix m3), .int (ix m4)])) :: F) (fun v H' => v = some (.int 42) ∧ H' = ((c, rc, .inr (.char, xc, oc, [.int (ix m0), .int (ix m1), .int (ix m2), .int (ix m3), .int (ix m4)])) :: F)) := by
  refine Ct.intro (L0 := [.val (.ref c), .val (.int 2), .val (.int 0), .val (.int at_), .val (.int d)]) (plainFor_of_name pf_com_example_polje_polje_ObfuscatorsEmailPinLaw) rfl (fun K => ?_)
  refine Wp.iloadN rfl d_method_5_0 ?_
  refine Wp.ifF (by decide) d_method_5_1 ?_
  refine Wp.bipush lb_42 d_method_5_4 ?_
  refine Wp.iretN (z := 42) (by simp) rfl (by decide) d_method_5_6 (by decide) (by decide) ?_
  exact ⟨rfl, rfl⟩
def M_ex12 : Mt := (⟨"com/example/polje/polje/ObfuscatorsEmailPinLaw", "expected", "([CIZII)C"⟩, method_5_code, 5, some .char, ⟨0, 0, 0, 0⟩)
theorem nm_M_ex12 : mN M_ex12 = ⟨"com/example/polje/polje/ObfuscatorsEmailPinLaw", "expected", "([CIZII)C"⟩ := by delta mN M_ex12; rfl
set_option maxRecDepth 65536 in
set_option maxHeartbeats 40000000 in
theorem rm_ex12 {W : Wd} (hw : Ws W) (c : Addr) (rc : Bool) (xc : Bool) (oc : Bool) (m0 : Nat) (m1 : Nat) (m2 : Nat) (m3 : Nat) (m4 : Nat) (a : Nat) (d : Nat) (F : List En) (ha : a ≤ 5) (hd : d ≤ 5) (hm0 : m0 < 256) (hm1 : m1 < 256) (hm2 : m2 < 256) (hm3 : m3 < 256) (hm4 : m4 < 256) : Ct W M_ex12 [.ref c, .int 2, .int 1, .int (ix a), .int (ix d)] ((c, rc, .inr (.char, xc, oc, [.int (ix m0), .int (ix m1), .int (ix m2), .int (ix m3), .int (ix m4)])) :: F) (fun v H' => v = some (.int (ix (exF a d 2 m2))) ∧ H' = ((c, rc, .inr (.char, xc, oc, [.int (ix m0), .int (ix m1), .int (ix m2), .int (ix m3), .int (ix m4)])) :: F)) := by
  refine Ct.intro (L0 := [.val (.ref c), .val (.int 2), .val (.int 1), .val (.int (ix a)), .val (.int (ix d))]) (plainFor_of_name pf_com_example_polje_polje_ObfuscatorsEmailPinLaw) rfl (fun K => ?_)
  refine Wp.iloadN rfl d_method_5_0 ?_
  refine Wp.ifT (by decide) d_method_5_1 ?_
  refine Wp.iloadN rfl d_method_5_7 ?_
  refine Wp.iloadN rfl d_method_5_8 ?_
  by_cases b9_1 : 2 < a
  · refine Wp.icF (tlt ((ix_lt (i := 2) (j := a) (by omega) (by omega)).mpr b9_1)).2.1 d_method_5_9 ?_
    refine Wp.iloadN rfl d_method_5_12 ?_
    refine Wp.ifT (by decide) d_method_5_13 ?_
    refine Wp.bipush lb_42 d_method_5_22 ?_
    refine Wp.iretN (z := 42) (by simp) rfl (by decide) d_method_5_24 (by decide) (by decide) ?_
    exact ⟨congrArg (fun z => some (Value.int (ix z))) (by unfold exF; (repeat' split) <;> first | rfl | omega), rfl⟩
  · refine Wp.icT (flt (fun q => b9_1 ((ix_lt (i := 2) (j := a) (by omega) (by omega)).mp q))).2.1 d_method_5_9 ?_
    refine Wp.iloadN rfl d_method_5_25 ?_
    refine Wp.iloadN rfl d_method_5_26 ?_
    by_cases b27_2 : 2 = a
    · refine Wp.icF (teq (congrArg ix b27_2)).2 d_method_5_27 ?_
      refine Wp.bipush lb_64 d_method_5_30 ?_
      refine Wp.iretN (z := 64) (by simp) rfl (by decide) d_method_5_32 (by decide) (by decide) ?_
      exact ⟨congrArg (fun z => some (Value.int (ix z))) (by unfold exF; (repeat' split) <;> first | rfl | omega), rfl⟩
    · refine Wp.icT (feq (fun q => b27_2 (ix_eq (by omega) (by omega) q))).2 d_method_5_27 ?_
      refine Wp.iloadN rfl d_method_5_33 ?_
      refine Wp.iload rfl d_method_5_34 ?_
      by_cases b36_3 : 2 < d
      · refine Wp.icF (tlt ((ix_lt (i := 2) (j := d) (by omega) (by omega)).mpr b36_3)).2.1 d_method_5_36 ?_
        refine Wp.iloadN rfl d_method_5_39 ?_
        refine Wp.iloadN rfl d_method_5_40 ?_
        refine Wp.iconst lc_1 d_method_5_41 ?_
        refine Wp.iadd (z := (ix (a + 1))) (ix_add _ _) d_method_5_42 ?_
        by_cases b43_4 : 2 = (a + 1)
        · refine Wp.icT (teq (congrArg ix b43_4)).1 d_method_5_43 ?_
          refine Wp.aloadN rfl rfl d_method_5_54 ?_
          refine Wp.iloadN rfl d_method_5_55 ?_
          refine Wp.caload 0 2 rfl (by decide) (by decide) rfl d_method_5_56 ?_
          refine Wp.goto d_method_5_57 ?_
          refine Wp.iretN (z := (ix m2)) (by simp) rfl (ix_c (by omega)) d_method_5_62 (by decide) (by decide) ?_
          exact ⟨congrArg (fun z => some (Value.int (ix z))) (by unfold exF; (repeat' split) <;> first | rfl | omega), rfl⟩
        · refine Wp.icF (feq (fun q => b43_4 (ix_eq (by omega) (by omega) q))).1 d_method_5_43 ?_
          refine Wp.iloadN rfl d_method_5_46 ?_
          refine Wp.iload rfl d_method_5_47 ?_
          refine Wp.iconst lc_1 d_method_5_49 ?_
          refine Wp.isub (z := (ix (d - 1))) (ix_sub (a := d) (b := 1) (by omega)) d_method_5_50 ?_
          by_cases b51_5 : 2 = (d - 1)
          · refine Wp.icF (teq (congrArg ix b51_5)).2 d_method_5_51 ?_
            refine Wp.aloadN rfl rfl d_method_5_54 ?_
            refine Wp.iloadN rfl d_method_5_55 ?_
            refine Wp.caload 0 2 rfl (by decide) (by decide) rfl d_method_5_56 ?_
            refine Wp.goto d_method_5_57 ?_
            refine Wp.iretN (z := (ix m2)) (by simp) rfl (ix_c (by omega)) d_method_5_62 (by decide) (by decide) ?_
            exact ⟨congrArg (fun z => some (Value.int (ix z))) (by unfold exF; (repeat' split) <;> first | rfl | omega), rfl⟩
          · refine Wp.icT (feq (fun q => b51_5 (ix_eq (by omega) (by omega) q))).2 d_method_5_51 ?_
            refine Wp.bipush lb_42 d_method_5_60 ?_
            refine Wp.iretN (z := 42) (by simp) rfl (by decide) d_method_5_62 (by decide) (by decide) ?_
            exact ⟨congrArg (fun z => some (Value.int (ix z))) (by unfold exF; (repeat' split) <;> first | rfl | omega), rfl⟩
      · refine Wp.icT (flt (fun q => b36_3 ((ix_lt (i := 2) (j := d) (by omega) (by omega)).mp q))).2.1 d_method_5_36 ?_
        refine Wp.aloadN rfl rfl d_method_5_63 ?_
        refine Wp.iloadN rfl d_method_5_64 ?_
        refine Wp.caload 0 2 rfl (by decide) (by decide) rfl d_method_5_65 ?_
        refine Wp.iretN (z := (ix m2)) (by simp) rfl (ix_c (by omega)) d_method_5_66 (by decide) (by decide) ?_
        exact ⟨congrArg (fun z => some (Value.int (ix z))) (by unfold exF; (repeat' split) <;> first | rfl | omega), rfl⟩
theorem mk_M_ex02 {W : Wd} (hw : Ws W) : Mk W M_ex02 ⟨"com/example/polje/polje/ObfuscatorsEmailPinLaw", "expected", "([CIZII)C"⟩ 5 := Mk.of nm_M_ex02 rfl rfl rfl (w_250 hw) (w_4 hw) (mkLen pd___CIZII_C rfl) (by decide)
def M_po02 : Mt := (⟨"com/example/polje/polje/ObfuscatorsEmailPinLaw", "pos", "(Ljava/lang/String;[CIIZII)Z"⟩, method_6_code, 7, some .boolean, ⟨4, 0, 0, 53⟩)
theorem nm_M_po02 : mN M_po02 = ⟨"com/example/polje/polje/ObfuscatorsEmailPinLaw", "pos", "(Ljava/lang/String;[CIIZII)Z"⟩ := by delta mN M_po02; rfl
set_option maxRecDepth 65536 in
set_option maxHeartbeats 40000000 in
theorem rm_po02 {W : Wd} (hw : Ws W) (s : Addr) (b : Addr) (rs : Bool) (rb : Bool) (xb : Bool) (ob : Bool) (zs : List Nat) (c : Addr) (rc : Bool) (xc : Bool) (oc : Bool) (m0 : Nat) (m1 : Nat) (m2 : Nat) (m3 : Nat) (m4 : Nat) (n : Nat) (at_ : Int32) (d : Int32) (F : List En) (hz : ∀ z ∈ zs, z < 256) (hl : zs.length ≤ 64) (hn : n ≤ 5) (hln : zs.length = n) (hx : 2 < n → zs.getD 2 0 = 42) (hm0 : m0 < 256) (hm1 : m1 < 256) (hm2 : m2 < 256) (hm3 : m3 < 256) (hm4 : m4 < 256) : Ct W M_po02 [.ref s, .ref c, .int (ix n), .int 2, .int 0, .int at_, .int d] ((oStr rs s (.ref b) (.int 0)) :: (b, rb, .inr (.byte, xb, ob, zb zs)) :: (c, rc, .inr (.char, xc, oc, [.int (ix m0), .int (ix m1), .int (ix m2), .int (ix m3), .int (ix m4)])) :: F) (fun v H' => v = some (.int 1) ∧ H' = ((oStr rs s (.ref b) (.int 0)) :: (b, rb, .inr (.byte, xb, ob, zb zs)) :: (c, rc, .inr (.char, xc, oc, [.int (ix m0), .int (ix m1), .int (ix m2), .int (ix m3), .int (ix m4)])) :: F)) := by
  refine Ct.intro (L0 := [.val (.ref s), .val (.ref c), .val (.int (ix n)), .val (.int 2), .val (.int 0), .val (.int at_), .val (.int d)]) (plainFor_of_name pf_com_example_polje_polje_ObfuscatorsEmailPinLaw) rfl (fun K => ?_)
  refine Wp.iloadN rfl d_method_6_0 ?_
  refine Wp.iloadN rfl d_method_6_1 ?_
  by_cases b2_1 : 2 < n
  · refine Wp.icF (tlt ((ix_lt (i := 2) (j := n) (by omega) (by omega)).mpr b2_1)).2.1 d_method_6_2 ?_
    refine Wp.aloadN rfl rfl d_method_6_5 ?_
    refine Wp.iloadN rfl d_method_6_6 ?_
    refine Wp.callV nm_M_po02 (fun _ => rm_ca hw.set s b rs rb xb ob zs 2 _ hz (by omega) (by omega)) 0 rfl (mk_M_ca hw) (w_239 hw) (w_240 hw) (w_242 hw) (w_241 hw) (S' := "") (Or.inl rfl) (by decide) rfl rfl rfl (Wn := 0) rfl rfl (by decide) d_method_6_7 ?_
    rintro _ _ ⟨rfl, rfl⟩
    refine Wp.aloadN rfl rfl d_method_6_10 ?_
    refine Wp.iloadN rfl d_method_6_11 ?_
    refine Wp.iload rfl d_method_6_12 ?_
    refine Wp.iload rfl d_method_6_14 ?_
    refine Wp.iload rfl d_method_6_16 ?_
    refine Wp.perm [2, 0, 1] 3 pp_2_0_1 (H' := ((c, rc, .inr (.char, xc, oc, [.int (ix m0), .int (ix m1), .int (ix m2), .int (ix m3), .int (ix m4)])) :: (oStr rs s (.ref b) (.int 0)) :: (b, rb, .inr (.byte, xb, ob, zb zs)) :: F)) rfl ?_
    refine Wp.callS nm_M_po02 (fun _ => rm_ex02 hw.set c rc xc oc m0 m1 m2 m3 m4 at_ d _ ) (mk_M_ex02 hw) (w_248 hw) (w_249 hw) rfl rfl (Wn := 1) rfl rfl (by decide) d_method_6_18 ?_
    rintro _ _ ⟨rfl, rfl⟩
    refine Wp.icF (teq (congrArg ix (hx b2_1))).2 d_method_6_21 ?_
    refine Wp.iconst lc_1 d_method_6_24 ?_
    refine Wp.goto d_method_6_25 ?_
    refine Wp.perm [1, 2, 0] 3 pp_1_2_0 (H' := ((oStr rs s (.ref b) (.int 0)) :: (b, rb, .inr (.byte, xb, ob, zb zs)) :: (c, rc, .inr (.char, xc, oc, [.int (ix m0), .int (ix m1), .int (ix m2), .int (ix m3), .int (ix m4)])) :: F)) rfl ?_
    refine Wp.iretN (z := 1) (by simp) rfl (by decide) d_method_6_29 (by decide) (by decide) ?_
    exact ⟨rfl, rfl⟩
  · refine Wp.icT (flt (fun q => b2_1 ((ix_lt (i := 2) (j := n) (by omega) (by omega)).mp q))).2.1 d_method_6_2 ?_
    refine Wp.iconst lc_1 d_method_6_24 ?_
    refine Wp.goto d_method_6_25 ?_
    refine Wp.iretN (z := 1) (by simp) rfl (by decide) d_method_6_29 (by decide) (by decide) ?_
    exact ⟨rfl, rfl⟩
theorem mk_M_ex12 {W : Wd} (hw : Ws W) : Mk W M_ex12 ⟨"com/example/polje/polje/ObfuscatorsEmailPinLaw", "expected", "([CIZII)C"⟩ 5 := Mk.of nm_M_ex12 rfl rfl rfl (w_250 hw) (w_4 hw) (mkLen pd___CIZII_C rfl) (by decide)
def M_po12 : Mt := (⟨"com/example/polje/polje/ObfuscatorsEmailPinLaw", "pos", "(Ljava/lang/String;[CIIZII)Z"⟩, method_6_code, 7, some .boolean, ⟨4, 0, 0, 53⟩)
theorem nm_M_po12 : mN M_po12 = ⟨"com/example/polje/polje/ObfuscatorsEmailPinLaw", "pos", "(Ljava/lang/String;[CIIZII)Z"⟩ := by delta mN M_po12; rfl
set_option maxRecDepth 65536 in
set_option maxHeartbeats 40000000 in
theorem rm_po12 {W : Wd} (hw : Ws W) (s : Addr) (b : Addr) (rs : Bool) (rb : Bool) (xb : Bool) (ob : Bool) (zs : List Nat) (c : Addr) (rc : Bool) (xc : Bool) (oc : Bool) (m0 : Nat) (m1 : Nat) (m2 : Nat) (m3 : Nat) (m4 : Nat) (n : Nat) (a : Nat) (d : Nat) (F : List En) (hz : ∀ z ∈ zs, z < 256) (hl : zs.length ≤ 64) (hn : n ≤ 5) (hln : zs.length = n) (hx : 2 < n → zs.getD 2 0 = exF a d 2 m2) (ha : a ≤ 5) (hd : d ≤ 5) (hm0 : m0 < 256) (hm1 : m1 < 256) (hm2 : m2 < 256) (hm3 : m3 < 256) (hm4 : m4 < 256) : Ct W M_po12 [.ref s, .ref c, .int (ix n), .int 2, .int 1, .int (ix a), .int (ix d)] ((oStr rs s (.ref b) (.int 0)) :: (b, rb, .inr (.byte, xb, ob, zb zs)) :: (c, rc, .inr (.char, xc, oc, [.int (ix m0), .int (ix m1), .int (ix m2), .int (ix m3), .int (ix m4)])) :: F) (fun v H' => v = some (.int 1) ∧ H' = ((oStr rs s (.ref b) (.int 0)) :: (b, rb, .inr (.byte, xb, ob, zb zs)) :: (c, rc, .inr (.char, xc, oc, [.int (ix m0), .int (ix m1), .int (ix m2), .int (ix m3), .int (ix m4)])) :: F)) := by
  refine Ct.intro (L0 := [.val (.ref s), .val (.ref c), .val (.int (ix n)), .val (.int 2), .val (.int 1), .val (.int (ix a)), .val (.int (ix d))]) (plainFor_of_name pf_com_example_polje_polje_ObfuscatorsEmailPinLaw) rfl (fun K => ?_)
  refine Wp.iloadN rfl d_method_6_0 ?_
  refine Wp.iloadN rfl d_method_6_1 ?_
  by_cases b2_1 : 2 < n
  · refine Wp.icF (tlt ((ix_lt (i := 2) (j := n) (by omega) (by omega)).mpr b2_1)).2.1 d_method_6_2 ?_
    refine Wp.aloadN rfl rfl d_method_6_5 ?_
    refine Wp.iloadN rfl d_method_6_6 ?_
    refine Wp.callV nm_M_po12 (fun _ => rm_ca hw.set s b rs rb xb ob zs 2 _ hz (by omega) (by omega)) 0 rfl (mk_M_ca hw) (w_239 hw) (w_240 hw) (w_242 hw) (w_241 hw) (S' := "") (Or.inl rfl) (by decide) rfl rfl rfl (Wn := 0) rfl rfl (by decide) d_method_6_7 ?_
    rintro _ _ ⟨rfl, rfl⟩
    refine Wp.aloadN rfl rfl d_method_6_10 ?_
    refine Wp.iloadN rfl d_method_6_11 ?_
    refine Wp.iload rfl d_method_6_12 ?_
    refine Wp.iload rfl d_method_6_14 ?_
    refine Wp.iload rfl d_method_6_16 ?_
    refine Wp.perm [2, 0, 1] 3 pp_2_0_1 (H' := ((c, rc, .inr (.char, xc, oc, [.int (ix m0), .int (ix m1), .int (ix m2), .int (ix m3), .int (ix m4)])) :: (oStr rs s (.ref b) (.int 0)) :: (b, rb, .inr (.byte, xb, ob, zb zs)) :: F)) rfl ?_
    refine Wp.callS nm_M_po12 (fun _ => rm_ex12 hw.set c rc xc oc m0 m1 m2 m3 m4 a d _ (by omega) (by omega) (by omega) (by omega) (by omega) (by omega) (by omega)) (mk_M_ex12 hw) (w_248 hw) (w_249 hw) rfl rfl (Wn := 1) rfl rfl (by decide) d_method_6_18 ?_
    rintro _ _ ⟨rfl, rfl⟩
    refine Wp.icF (teq (congrArg ix (hx b2_1))).2 d_method_6_21 ?_
    refine Wp.iconst lc_1 d_method_6_24 ?_
    refine Wp.goto d_method_6_25 ?_
    refine Wp.perm [1, 2, 0] 3 pp_1_2_0 (H' := ((oStr rs s (.ref b) (.int 0)) :: (b, rb, .inr (.byte, xb, ob, zb zs)) :: (c, rc, .inr (.char, xc, oc, [.int (ix m0), .int (ix m1), .int (ix m2), .int (ix m3), .int (ix m4)])) :: F)) rfl ?_
    refine Wp.iretN (z := 1) (by simp) rfl (by decide) d_method_6_29 (by decide) (by decide) ?_
    exact ⟨rfl, rfl⟩
  · refine Wp.icT (flt (fun q => b2_1 ((ix_lt (i := 2) (j := n) (by omega) (by omega)).mp q))).2.1 d_method_6_2 ?_
    refine Wp.iconst lc_1 d_method_6_24 ?_
    refine Wp.goto d_method_6_25 ?_
    refine Wp.iretN (z := 1) (by simp) rfl (by decide) d_method_6_29 (by decide) (by decide) ?_
    exact ⟨rfl, rfl⟩
def M_ia3 : Mt := (⟨"com/example/polje/polje/ObfuscatorsEmailPinLaw", "isAt", "([CII)I"⟩, method_4_code, 3, some .int, ⟨0, 0, 0, 0⟩)
theorem nm_M_ia3 : mN M_ia3 = ⟨"com/example/polje/polje/ObfuscatorsEmailPinLaw", "isAt", "([CII)I"⟩ := by delta mN M_ia3; rfl
set_option maxRecDepth 65536 in
set_option maxHeartbeats 40000000 in
theorem rm_ia3 {W : Wd} (hw : Ws W) (c : Addr) (rc : Bool) (xc : Bool) (oc : Bool) (m0 : Nat) (m1 : Nat) (m2 : Nat) (m3 : Nat) (m4 : Nat) (n : Nat) (F : List En) (hn : n ≤ 5) (hm0 : m0 < 256) (hm1 : m1 < 256) (hm2 : m2 < 256) (hm3 : m3 < 256) (hm4 : m4 < 256) : Ct W M_ia3 [.ref c, .int (ix n), .int 3] ((c, rc, .inr (.char, xc, oc, [.int (ix m0), .int (ix m1), .int (ix m2), .int (ix m3), .int (ix m4)])) :: F) (fun v H' => v = some (.int (ix (aN n 3 m3))) ∧ H' = ((c, rc, .inr (.char, xc, oc, [.int (ix m0), .int (ix m1), .int (ix m2), .int (ix m3), .int (ix m4)])) :: F)) := by
  refine Ct.intro (L0 := [.val (.ref c), .val (.int (ix n)), .val (.int 3)]) (plainFor_of_name pf_com_example_polje_polje_ObfuscatorsEmailPinLaw) rfl (fun K => ?_)
  refine Wp.iloadN rfl d_method_4_0 ?_
  refine Wp.iloadN rfl d_method_4_1 ?_
  by_cases b2_1 : 3 < n
  · refine Wp.icF (tlt ((ix_lt (i := 3) (j := n) (by omega) (by omega)).mpr b2_1)).2.1 d_method_4_2 ?_
    refine Wp.aloadN rfl rfl d_method_4_5 ?_
    refine Wp.iloadN rfl d_method_4_6 ?_
    refine Wp.caload 0 3 rfl (by decide) (by decide) rfl d_method_4_7 ?_
    refine Wp.bipush lb_64 d_method_4_8 ?_
    by_cases b10_2 : m3 = 64
    · refine Wp.icF (teq (congrArg ix b10_2)).2 d_method_4_10 ?_
      refine Wp.iconst lc_1 d_method_4_13 ?_
      refine Wp.goto d_method_4_14 ?_
      refine Wp.iret rfl d_method_4_18 (by decide) (by decide) ?_
      exact ⟨congrArg (fun z => some (Value.int (ix z))) (aN_1 b2_1 b10_2).symm, rfl⟩
    · refine Wp.icT (feq (fun q => b10_2 (ix_eq (by omega) (by omega) q))).2 d_method_4_10 ?_
      refine Wp.iconst lc_0 d_method_4_17 ?_
      refine Wp.iret rfl d_method_4_18 (by decide) (by decide) ?_
      exact ⟨congrArg (fun z => some (Value.int (ix z))) (aN_00 b10_2).symm, rfl⟩
  · refine Wp.icT (flt (fun q => b2_1 ((ix_lt (i := 3) (j := n) (by omega) (by omega)).mp q))).2.1 d_method_4_2 ?_
    refine Wp.iconst lc_0 d_method_4_17 ?_
    refine Wp.iret rfl d_method_4_18 (by decide) (by decide) ?_
    exact ⟨congrArg (fun z => some (Value.int (ix z))) (aN_0 b2_1).symm, rfl⟩
def M_ex03 : Mt := (⟨"com/example/polje/polje/ObfuscatorsEmailPinLaw", "expected", "([CIZII)C"⟩, method_5_code, 5, some .char, ⟨0, 0, 0, 0⟩)
theorem nm_M_ex03 : mN M_ex03 = ⟨"com/example/polje/polje/ObfuscatorsEmailPinLaw", "expected", "([CIZII)C"⟩ := by delta mN M_ex03; rfl
set_option maxRecDepth 65536 in
set_option maxHeartbeats 40000000 in
theorem rm_ex03 {W : Wd} (hw : Ws W) (c : Addr) (rc : Bool) (xc : Bool) (oc : Bool) (m0 : Nat) (m1 : Nat) (m2 : Nat) (m3 : Nat) (m4 : Nat) (at_ : Int32) (d : Int32) (F : List En) : Ct W M_ex03 [.ref c, .int 3, .int 0, .int at_, .int d] ((c, rc, .inr (.char, xc, oc, [.int (ix m0), .int (ix m1), .int (ix m2), .int (ix m3), .int (ix m4)])) :: F) (fun v H' => v = some (.int 42) ∧ H' = ((c, rc, .inr (.char, xc, oc, [.int (ix m0), .int (ix m1), .int (ix m2), .int (ix m3), .int (ix m4)])) :: F)) := by
  refine Ct.intro (L0 := [.val (.ref c), .val (.int 3), .val (.int 0), .val (.int at_), .val (.int d)]) (plainFor_of_name pf_com_example_polje_polje_ObfuscatorsEmailPinLaw) rfl (fun K => ?_)
  refine Wp.iloadN rfl d_method_5_0 ?_
  refine Wp.ifF (by decide) d_method_5_1 ?_
  refine Wp.bipush lb_42 d_method_5_4 ?_
  refine Wp.iretN (z := 42) (by simp) rfl (by decide) d_method_5_6 (by decide) (by decide) ?_
  exact ⟨rfl, rfl⟩
def M_ex13 : Mt := (⟨"com/example/polje/polje/ObfuscatorsEmailPinLaw", "expected", "([CIZII)C"⟩, method_5_code, 5, some .char, ⟨0, 0, 0, 0⟩)
theorem nm_M_ex13 : mN M_ex13 = ⟨"com/example/polje/polje/ObfuscatorsEmailPinLaw", "expected", "([CIZII)C"⟩ := by delta mN M_ex13; rfl
set_option maxRecDepth 65536 in
set_option maxHeartbeats 40000000 in
theorem rm_ex13 {W : Wd} (hw : Ws W) (c : Addr) (rc : Bool) (xc : Bool) (oc : Bool) (m0 : Nat) (m1 : Nat) (m2 : Nat) (m3 : Nat) (m4 : Nat) (a : Nat) (d : Nat) (F : List En) (ha : a ≤ 5) (hd : d ≤ 5) (hm0 : m0 < 256) (hm1 : m1 < 256) (hm2 : m2 < 256) (hm3 : m3 < 256) (hm4 : m4 < 256) : Ct W M_ex13 [.ref c, .int 3, .int 1, .int (ix a), .int (ix d)] ((c, rc, .inr (.char, xc, oc, [.int (ix m0), .int (ix m1), .int (ix m2), .int (ix m3), .int (ix m4)])) :: F) (fun v H' => v = some (.int (ix (exF a d 3 m3))) ∧ H' = ((c, rc, .inr (.char, xc, oc, [.int (ix m0), .int (ix m1), .int (ix m2), .int (ix m3), .int (ix m4)])) :: F)) := by
  refine Ct.intro (L0 := [.val (.ref c), .val (.int 3), .val (.int 1), .val (.int (ix a)), .val (.int (ix d))]) (plainFor_of_name pf_com_example_polje_polje_ObfuscatorsEmailPinLaw) rfl (fun K => ?_)
  refine Wp.iloadN rfl d_method_5_0 ?_
  refine Wp.ifT (by decide) d_method_5_1 ?_
  refine Wp.iloadN rfl d_method_5_7 ?_
  refine Wp.iloadN rfl d_method_5_8 ?_
  by_cases b9_1 : 3 < a
  · refine Wp.icF (tlt ((ix_lt (i := 3) (j := a) (by omega) (by omega)).mpr b9_1)).2.1 d_method_5_9 ?_
    refine Wp.iloadN rfl d_method_5_12 ?_
    refine Wp.ifT (by decide) d_method_5_13 ?_
    refine Wp.bipush lb_42 d_method_5_22 ?_
    refine Wp.iretN (z := 42) (by simp) rfl (by decide) d_method_5_24 (by decide) (by decide) ?_
    exact ⟨congrArg (fun z => some (Value.int (ix z))) (by unfold exF; (repeat' split) <;> first | rfl | omega), rfl⟩
  · refine Wp.icT (flt (fun q => b9_1 ((ix_lt (i := 3) (j := a) (by omega) (by omega)).mp q))).2.1 d_method_5_9 ?_
    refine Wp.iloadN rfl d_method_5_25 ?_
    refine Wp.iloadN rfl d_method_5_26 ?_
    by_cases b27_2 : 3 = a
    · refine Wp.icF (teq (congrArg ix b27_2)).2 d_method_5_27 ?_
      refine Wp.bipush lb_64 d_method_5_30 ?_
      refine Wp.iretN (z := 64) (by simp) rfl (by decide) d_method_5_32 (by decide) (by decide) ?_
      exact ⟨congrArg (fun z => some (Value.int (ix z))) (by unfold exF; (repeat' split) <;> first | rfl | omega), rfl⟩
    · refine Wp.icT (feq (fun q => b27_2 (ix_eq (by omega) (by omega) q))).2 d_method_5_27 ?_
      refine Wp.iloadN rfl d_method_5_33 ?_
      refine Wp.iload rfl d_method_5_34 ?_
      by_cases b36_3 : 3 < d
      · refine Wp.icF (tlt ((ix_lt (i := 3) (j := d) (by omega) (by omega)).mpr b36_3)).2.1 d_method_5_36 ?_
        refine Wp.iloadN rfl d_method_5_39 ?_
        refine Wp.iloadN rfl d_method_5_40 ?_
        refine Wp.iconst lc_1 d_method_5_41 ?_
        refine Wp.iadd (z := (ix (a + 1))) (ix_add _ _) d_method_5_42 ?_
        by_cases b43_4 : 3 = (a + 1)
        · refine Wp.icT (teq (congrArg ix b43_4)).1 d_method_5_43 ?_
          refine Wp.aloadN rfl rfl d_method_5_54 ?_
          refine Wp.iloadN rfl d_method_5_55 ?_
          refine Wp.caload 0 3 rfl (by decide) (by decide) rfl d_method_5_56 ?_
          refine Wp.goto d_method_5_57 ?_
          refine Wp.iretN (z := (ix m3)) (by simp) rfl (ix_c (by omega)) d_method_5_62 (by decide) (by decide) ?_
          exact ⟨congrArg (fun z => some (Value.int (ix z))) (by unfold exF; (repeat' split) <;> first | rfl | omega), rfl⟩
        · refine Wp.icF (feq (fun q => b43_4 (ix_eq (by omega) (by omega) q))).1 d_method_5_43 ?_
          refine Wp.iloadN rfl d_method_5_46 ?_
          refine Wp.iload rfl d_method_5_47 ?_
          refine Wp.iconst lc_1 d_method_5_49 ?_
          refine Wp.isub (z := (ix (d - 1))) (ix_sub (a := d) (b := 1) (by omega)) d_method_5_50 ?_
          by_cases b51_5 : 3 = (d - 1)
          · refine Wp.icF (teq (congrArg ix b51_5)).2 d_method_5_51 ?_
            refine Wp.aloadN rfl rfl d_method_5_54 ?_
            refine Wp.iloadN rfl d_method_5_55 ?_
            refine Wp.caload 0 3 rfl (by decide) (by decide) rfl d_method_5_56 ?_
            refine Wp.goto d_method_5_57 ?_
            refine Wp.iretN (z := (ix m3)) (by simp) rfl (ix_c (by omega)) d_method_5_62 (by decide) (by decide) ?_
            exact ⟨congrArg (fun z => some (Value.int (ix z))) (by unfold exF; (repeat' split) <;> first | rfl | omega), rfl⟩
          · refine Wp.icT (feq (fun q => b51_5 (ix_eq (by omega) (by omega) q))).2 d_method_5_51 ?_
            refine Wp.bipush lb_42 d_method_5_60 ?_
            refine Wp.iretN (z := 42) (by simp) rfl (by decide) d_method_5_62 (by decide) (by decide) ?_
            exact ⟨congrArg (fun z => some (Value.int (ix z))) (by unfold exF; (repeat' split) <;> first | rfl | omega), rfl⟩
      · refine Wp.icT (flt (fun q => b36_3 ((ix_lt (i := 3) (j := d) (by omega) (by omega)).mp q))).2.1 d_method_5_36 ?_
        refine Wp.aloadN rfl rfl d_method_5_63 ?_
        refine Wp.iloadN rfl d_method_5_64 ?_
        refine Wp.caload 0 3 rfl (by decide) (by decide) rfl d_method_5_65 ?_
        refine Wp.iretN (z := (ix m3)) (by simp) rfl (ix_c (by omega)) d_method_5_66 (by decide) (by decide) ?_
        exact ⟨congrArg (fun z => some (Value.int (ix z))) (by unfold exF; (repeat' split) <;> first | rfl | omega), rfl⟩
theorem mk_M_ex03 {W : Wd} (hw : Ws W) : Mk W M_ex03 ⟨"com/example/polje/polje/ObfuscatorsEmailPinLaw", "expected", "([CIZII)C"⟩ 5 := Mk.of nm_M_ex03 rfl rfl rfl (w_250 hw) (w_4 hw) (mkLen pd___CIZII_C rfl) (by decide)
def M_po03 : Mt := (⟨"com/example/polje/polje/ObfuscatorsEmailPinLaw", "pos", "(Ljava/lang/String;[CIIZII)Z"⟩, method_6_code, 7, some .boolean, ⟨4, 0, 0, 53⟩)
theorem nm_M_po03 : mN M_po03 = ⟨"com/example/polje/polje/ObfuscatorsEmailPinLaw", "pos", "(Ljava/lang/String;[CIIZII)Z"⟩ := by delta mN M_po03; rfl
set_option maxRecDepth 65536 in
set_option maxHeartbeats 40000000 in
theorem rm_po03 {W : Wd} (hw : Ws W) (s : Addr) (b : Addr) (rs : Bool) (rb : Bool) (xb : Bool) (ob : Bool) (zs : List Nat) (c : Addr) (rc : Bool) (xc : Bool) (oc : Bool) (m0 : Nat) (m1 : Nat) (m2 : Nat) (m3 : Nat) (m4 : Nat) (n : Nat) (at_ : Int32) (d : Int32) (F : List En) (hz : ∀ z ∈ zs, z < 256) (hl : zs.length ≤ 64) (hn : n ≤ 5) (hln : zs.length = n) (hx : 3 < n → zs.getD 3 0 = 42) (hm0 : m0 < 256) (hm1 : m1 < 256) (hm2 : m2 < 256) (hm3 : m3 < 256) (hm4 : m4 < 256) : Ct W M_po03 [.ref s, .ref c, .int (ix n), .int 3, .int 0, .int at_, .int d] ((oStr rs s (.ref b) (.int 0)) :: (b, rb, .inr (.byte, xb, ob, zb zs)) :: (c, rc, .inr (.char, xc, oc, [.int (ix m0), .int (ix m1), .int (ix m2), .int (ix m3), .int (ix m4)])) :: F) (fun v H' => v = some (.int 1) ∧ H' = ((oStr rs s (.ref b) (.int 0)) :: (b, rb, .inr (.byte, xb, ob, zb zs)) :: (c, rc, .inr (.char, xc, oc, [.int (ix m0), .int (ix m1), .int (ix m2), .int (ix m3), .int (ix m4)])) :: F)) := by
  refine Ct.intro (L0 := [.val (.ref s), .val (.ref c), .val (.int (ix n)), .val (.int 3), .val (.int 0), .val (.int at_), .val (.int d)]) (plainFor_of_name pf_com_example_polje_polje_ObfuscatorsEmailPinLaw) rfl (fun K => ?_)
  refine Wp.iloadN rfl d_method_6_0 ?_
  refine Wp.iloadN rfl d_method_6_1 ?_
  by_cases b2_1 : 3 < n
  · refine Wp.icF (tlt ((ix_lt (i := 3) (j := n) (by omega) (by omega)).mpr b2_1)).2.1 d_method_6_2 ?_
    refine Wp.aloadN rfl rfl d_method_6_5 ?_
    refine Wp.iloadN rfl d_method_6_6 ?_
    refine Wp.callV nm_M_po03 (fun _ => rm_ca hw.set s b rs rb xb ob zs 3 _ hz (by omega) (by omega)) 0 rfl (mk_M_ca hw) (w_239 hw) (w_240 hw) (w_242 hw) (w_241 hw) (S' := "") (Or.inl rfl) (by decide) rfl rfl rfl (Wn := 0) rfl rfl (by decide) d_method_6_7 ?_
    rintro _ _ ⟨rfl, rfl⟩
    refine Wp.aloadN rfl rfl d_method_6_10 ?_
    refine Wp.iloadN rfl d_method_6_11 ?_
    refine Wp.iload rfl d_method_6_12 ?_
    refine Wp.iload rfl d_method_6_14 ?_
    refine Wp.iload rfl d_method_6_16 ?_
    refine Wp.perm [2, 0, 1] 3 pp_2_0_1 (H' := ((c, rc, .inr (.char, xc, oc, [.int (ix m0), .int (ix m1), .int (ix m2), .int (ix m3), .int (ix m4)])) :: (oStr rs s (.ref b) (.int 0)) :: (b, rb, .inr (.byte, xb, ob, zb zs)) :: F)) rfl ?_
    refine Wp.callS nm_M_po03 (fun _ => rm_ex03 hw.set c rc xc oc m0 m1 m2 m3 m4 at_ d _ ) (mk_M_ex03 hw) (w_248 hw) (w_249 hw) rfl rfl (Wn := 1) rfl rfl (by decide) d_method_6_18 ?_
    rintro _ _ ⟨rfl, rfl⟩
    refine Wp.icF (teq (congrArg ix (hx b2_1))).2 d_method_6_21 ?_
    refine Wp.iconst lc_1 d_method_6_24 ?_
    refine Wp.goto d_method_6_25 ?_
    refine Wp.perm [1, 2, 0] 3 pp_1_2_0 (H' := ((oStr rs s (.ref b) (.int 0)) :: (b, rb, .inr (.byte, xb, ob, zb zs)) :: (c, rc, .inr (.char, xc, oc, [.int (ix m0), .int (ix m1), .int (ix m2), .int (ix m3), .int (ix m4)])) :: F)) rfl ?_
    refine Wp.iretN (z := 1) (by simp) rfl (by decide) d_method_6_29 (by decide) (by decide) ?_
    exact ⟨rfl, rfl⟩
  · refine Wp.icT (flt (fun q => b2_1 ((ix_lt (i := 3) (j := n) (by omega) (by omega)).mp q))).2.1 d_method_6_2 ?_
    refine Wp.iconst lc_1 d_method_6_24 ?_
    refine Wp.goto d_method_6_25 ?_
    refine Wp.iretN (z := 1) (by simp) rfl (by decide) d_method_6_29 (by decide) (by decide) ?_
    exact ⟨rfl, rfl⟩
theorem mk_M_ex13 {W : Wd} (hw : Ws W) : Mk W M_ex13 ⟨"com/example/polje/polje/ObfuscatorsEmailPinLaw", "expected", "([CIZII)C"⟩ 5 := Mk.of nm_M_ex13 rfl rfl rfl (w_250 hw) (w_4 hw) (mkLen pd___CIZII_C rfl) (by decide)
def M_po13 : Mt := (⟨"com/example/polje/polje/ObfuscatorsEmailPinLaw", "pos", "(Ljava/lang/String;[CIIZII)Z"⟩, method_6_code, 7, some .boolean, ⟨4, 0, 0, 53⟩)
theorem nm_M_po13 : mN M_po13 = ⟨"com/example/polje/polje/ObfuscatorsEmailPinLaw", "pos", "(Ljava/lang/String;[CIIZII)Z"⟩ := by delta mN M_po13; rfl
set_option maxRecDepth 65536 in
set_option maxHeartbeats 40000000 in
theorem rm_po13 {W : Wd} (hw : Ws W) (s : Addr) (b : Addr) (rs : Bool) (rb : Bool) (xb : Bool) (ob : Bool) (zs : List Nat) (c : Addr) (rc : Bool) (xc : Bool) (oc : Bool) (m0 : Nat) (m1 : Nat) (m2 : Nat) (m3 : Nat) (m4 : Nat) (n : Nat) (a : Nat) (d : Nat) (F : List En) (hz : ∀ z ∈ zs, z < 256) (hl : zs.length ≤ 64) (hn : n ≤ 5) (hln : zs.length = n) (hx : 3 < n → zs.getD 3 0 = exF a d 3 m3) (ha : a ≤ 5) (hd : d ≤ 5) (hm0 : m0 < 256) (hm1 : m1 < 256) (hm2 : m2 < 256) (hm3 : m3 < 256) (hm4 : m4 < 256) : Ct W M_po13 [.ref s, .ref c, .int (ix n), .int 3, .int 1, .int (ix a), .int (ix d)] ((oStr rs s (.ref b) (.int 0)) :: (b, rb, .inr (.byte, xb, ob, zb zs)) :: (c, rc, .inr (.char, xc, oc, [.int (ix m0), .int (ix m1), .int (ix m2), .int (ix m3), .int (ix m4)])) :: F) (fun v H' => v = some (.int 1) ∧ H' = ((oStr rs s (.ref b) (.int 0)) :: (b, rb, .inr (.byte, xb, ob, zb zs)) :: (c, rc, .inr (.char, xc, oc, [.int (ix m0), .int (ix m1), .int (ix m2), .int (ix m3), .int (ix m4)])) :: F)) := by
  refine Ct.intro (L0 := [.val (.ref s), .val (.ref c), .val (.int (ix n)), .val (.int 3), .val (.int 1), .val (.int (ix a)), .val (.int (ix d))]) (plainFor_of_name pf_com_example_polje_polje_ObfuscatorsEmailPinLaw) rfl (fun K => ?_)
  refine Wp.iloadN rfl d_method_6_0 ?_
  refine Wp.iloadN rfl d_method_6_1 ?_
  by_cases b2_1 : 3 < n
  · refine Wp.icF (tlt ((ix_lt (i := 3) (j := n) (by omega) (by omega)).mpr b2_1)).2.1 d_method_6_2 ?_
    refine Wp.aloadN rfl rfl d_method_6_5 ?_
    refine Wp.iloadN rfl d_method_6_6 ?_
    refine Wp.callV nm_M_po13 (fun _ => rm_ca hw.set s b rs rb xb ob zs 3 _ hz (by omega) (by omega)) 0 rfl (mk_M_ca hw) (w_239 hw) (w_240 hw) (w_242 hw) (w_241 hw) (S' := "") (Or.inl rfl) (by decide) rfl rfl rfl (Wn := 0) rfl rfl (by decide) d_method_6_7 ?_
    rintro _ _ ⟨rfl, rfl⟩
    refine Wp.aloadN rfl rfl d_method_6_10 ?_
    refine Wp.iloadN rfl d_method_6_11 ?_
    refine Wp.iload rfl d_method_6_12 ?_
    refine Wp.iload rfl d_method_6_14 ?_
    refine Wp.iload rfl d_method_6_16 ?_
    refine Wp.perm [2, 0, 1] 3 pp_2_0_1 (H' := ((c, rc, .inr (.char, xc, oc, [.int (ix m0), .int (ix m1), .int (ix m2), .int (ix m3), .int (ix m4)])) :: (oStr rs s (.ref b) (.int 0)) :: (b, rb, .inr (.byte, xb, ob, zb zs)) :: F)) rfl ?_
    refine Wp.callS nm_M_po13 (fun _ => rm_ex13 hw.set c rc xc oc m0 m1 m2 m3 m4 a d _ (by omega) (by omega) (by omega) (by omega) (by omega) (by omega) (by omega)) (mk_M_ex13 hw) (w_248 hw) (w_249 hw) rfl rfl (Wn := 1) rfl rfl (by decide) d_method_6_18 ?_
    rintro _ _ ⟨rfl, rfl⟩
    refine Wp.icF (teq (congrArg ix (hx b2_1))).2 d_method_6_21 ?_
    refine Wp.iconst lc_1 d_method_6_24 ?_
    refine Wp.goto d_method_6_25 ?_
    refine Wp.perm [1, 2, 0] 3 pp_1_2_0 (H' := ((oStr rs s (.ref b) (.int 0)) :: (b, rb, .inr (.byte, xb, ob, zb zs)) :: (c, rc, .inr (.char, xc, oc, [.int (ix m0), .int (ix m1), .int (ix m2), .int (ix m3), .int (ix m4)])) :: F)) rfl ?_
    refine Wp.iretN (z := 1) (by simp) rfl (by decide) d_method_6_29 (by decide) (by decide) ?_
    exact ⟨rfl, rfl⟩
  · refine Wp.icT (flt (fun q => b2_1 ((ix_lt (i := 3) (j := n) (by omega) (by omega)).mp q))).2.1 d_method_6_2 ?_
    refine Wp.iconst lc_1 d_method_6_24 ?_
    refine Wp.goto d_method_6_25 ?_
    refine Wp.iretN (z := 1) (by simp) rfl (by decide) d_method_6_29 (by decide) (by decide) ?_
    exact ⟨rfl, rfl⟩
def M_ia4 : Mt := (⟨"com/example/polje/polje/ObfuscatorsEmailPinLaw", "isAt", "([CII)I"⟩, method_4_code, 3, some .int, ⟨0, 0, 0, 0⟩)
theorem nm_M_ia4 : mN M_ia4 = ⟨"com/example/polje/polje/ObfuscatorsEmailPinLaw", "isAt", "([CII)I"⟩ := by delta mN M_ia4; rfl
set_option maxRecDepth 65536 in
set_option maxHeartbeats 40000000 in
theorem rm_ia4 {W : Wd} (hw : Ws W) (c : Addr) (rc : Bool) (xc : Bool) (oc : Bool) (m0 : Nat) (m1 : Nat) (m2 : Nat) (m3 : Nat) (m4 : Nat) (n : Nat) (F : List En) (hn : n ≤ 5) (hm0 : m0 < 256) (hm1 : m1 < 256) (hm2 : m2 < 256) (hm3 : m3 < 256) (hm4 : m4 < 256) : Ct W M_ia4 [.ref c, .int (ix n), .int 4] ((c, rc, .inr (.char, xc, oc, [.int (ix m0), .int (ix m1), .int (ix m2), .int (ix m3), .int (ix m4)])) :: F) (fun v H' => v = some (.int (ix (aN n 4 m4))) ∧ H' = ((c, rc, .inr (.char, xc, oc, [.int (ix m0), .int (ix m1), .int (ix m2), .int (ix m3), .int (ix m4)])) :: F)) := by
  refine Ct.intro (L0 := [.val (.ref c), .val (.int (ix n)), .val (.int 4)]) (plainFor_of_name pf_com_example_polje_polje_ObfuscatorsEmailPinLaw) rfl (fun K => ?_)
  refine Wp.iloadN rfl d_method_4_0 ?_
  refine Wp.iloadN rfl d_method_4_1 ?_
  by_cases b2_1 : 4 < n
  · refine Wp.icF (tlt ((ix_lt (i := 4) (j := n) (by omega) (by omega)).mpr b2_1)).2.1 d_method_4_2 ?_
    refine Wp.aloadN rfl rfl d_method_4_5 ?_
    refine Wp.iloadN rfl d_method_4_6 ?_
    refine Wp.caload 0 4 rfl (by decide) (by decide) rfl d_method_4_7 ?_
    refine Wp.bipush lb_64 d_method_4_8 ?_
    by_cases b10_2 : m4 = 64
    · refine Wp.icF (teq (congrArg ix b10_2)).2 d_method_4_10 ?_
      refine Wp.iconst lc_1 d_method_4_13 ?_
      refine Wp.goto d_method_4_14 ?_
      refine Wp.iret rfl d_method_4_18 (by decide) (by decide) ?_
      exact ⟨congrArg (fun z => some (Value.int (ix z))) (aN_1 b2_1 b10_2).symm, rfl⟩
    · refine Wp.icT (feq (fun q => b10_2 (ix_eq (by omega) (by omega) q))).2 d_method_4_10 ?_
      refine Wp.iconst lc_0 d_method_4_17 ?_
      refine Wp.iret rfl d_method_4_18 (by decide) (by decide) ?_
      exact ⟨congrArg (fun z => some (Value.int (ix z))) (aN_00 b10_2).symm, rfl⟩
  · refine Wp.icT (flt (fun q => b2_1 ((ix_lt (i := 4) (j := n) (by omega) (by omega)).mp q))).2.1 d_method_4_2 ?_
    refine Wp.iconst lc_0 d_method_4_17 ?_
    refine Wp.iret rfl d_method_4_18 (by decide) (by decide) ?_
    exact ⟨congrArg (fun z => some (Value.int (ix z))) (aN_0 b2_1).symm, rfl⟩
def M_ex04 : Mt := (⟨"com/example/polje/polje/ObfuscatorsEmailPinLaw", "expected", "([CIZII)C"⟩, method_5_code, 5, some .char, ⟨0, 0, 0, 0⟩)
theorem nm_M_ex04 : mN M_ex04 = ⟨"com/example/polje/polje/ObfuscatorsEmailPinLaw", "expected", "([CIZII)C"⟩ := by delta mN M_ex04; rfl
set_option maxRecDepth 65536 in
set_option maxHeartbeats 40000000 in
theorem rm_ex04 {W : Wd} (hw : Ws W) (c : Addr) (rc : Bool) (xc : Bool) (oc : Bool) (m0 : Nat) (m1 : Nat) (m2 : Nat) (m3 : Nat) (m4 : Nat) (at_ : Int32) (d : Int32) (F : List En) : Ct W M_ex04 [.ref c, .int 4, .int 0, .int at_, .int d] ((c, rc, .inr (.char, xc, oc, [.int (ix m0), .int (ix m1), .int (ix m2), .int (ix m3), .int (ix m4)])) :: F) (fun v H' => v = some (.int 42) ∧ H' = ((c, rc, .inr (.char, xc, oc, [.int (ix m0), .int (ix m1), .int (ix m2), .int (ix m3), .int (ix m4)])) :: F)) := by
  refine Ct.intro (L0 := [.val (.ref c), .val (.int 4), .val (.int 0), .val (.int at_), .val (.int d)]) (plainFor_of_name pf_com_example_polje_polje_ObfuscatorsEmailPinLaw) rfl (fun K => ?_)
  refine Wp.iloadN rfl d_method_5_0 ?_
  refine Wp.ifF (by decide) d_method_5_1 ?_
  refine Wp.bipush lb_42 d_method_5_4 ?_
  refine Wp.iretN (z := 42) (by simp) rfl (by decide) d_method_5_6 (by decide) (by decide) ?_
  exact ⟨rfl, rfl⟩
def M_ex14 : Mt := (⟨"com/example/polje/polje/ObfuscatorsEmailPinLaw", "expected", "([CIZII)C"⟩, method_5_code, 5, some .char, ⟨0, 0, 0, 0⟩)
theorem nm_M_ex14 : mN M_ex14 = ⟨"com/example/polje/polje/ObfuscatorsEmailPinLaw", "expected", "([CIZII)C"⟩ := by delta mN M_ex14; rfl
set_option maxRecDepth 65536 in
set_option maxHeartbeats 40000000 in
theorem rm_ex14 {W : Wd} (hw : Ws W) (c : Addr) (rc : Bool) (xc : Bool) (oc : Bool) (m0 : Nat) (m1 : Nat) (m2 : Nat) (m3 : Nat) (m4 : Nat) (a : Nat) (d : Nat) (F : List En) (ha : a ≤ 5) (hd : d ≤ 5) (hm0 : m0 < 256) (hm1 : m1 < 256) (hm2 : m2 < 256) (hm3 : m3 < 256) (hm4 : m4 < 256) : Ct W M_ex14 [.ref c, .int 4, .int 1, .int (ix a), .int (ix d)] ((c, rc, .inr (.char, xc, oc, [.int (ix m0), .int (ix m1), .int (ix m2), .int (ix m3), .int (ix m4)])) :: F) (fun v H' => v = some (.int (ix (exF a d 4 m4))) ∧ H' = ((c, rc, .inr (.char, xc, oc, [.int (ix m0), .int (ix m1), .int (ix m2), .int (ix m3), .int (ix m4)])) :: F)) := by
  refine Ct.intro (L0 := [.val (.ref c), .val (.int 4), .val (.int 1), .val (.int (ix a)), .val (.int (ix d))]) (plainFor_of_name pf_com_example_polje_polje_ObfuscatorsEmailPinLaw) rfl (fun K => ?_)
  refine Wp.iloadN rfl d_method_5_0 ?_
  refine Wp.ifT (by decide) d_method_5_1 ?_
  refine Wp.iloadN rfl d_method_5_7 ?_
  refine Wp.iloadN rfl d_method_5_8 ?_
  by_cases b9_1 : 4 < a
  · refine Wp.icF (tlt ((ix_lt (i := 4) (j := a) (by omega) (by omega)).mpr b9_1)).2.1 d_method_5_9 ?_
    refine Wp.iloadN rfl d_method_5_12 ?_
    refine Wp.ifT (by decide) d_method_5_13 ?_
    refine Wp.bipush lb_42 d_method_5_22 ?_
    refine Wp.iretN (z := 42) (by simp) rfl (by decide) d_method_5_24 (by decide) (by decide) ?_
    exact ⟨congrArg (fun z => some (Value.int (ix z))) (by unfold exF; (repeat' split) <;> first | rfl | omega), rfl⟩
  · refine Wp.icT (flt (fun q => b9_1 ((ix_lt (i := 4) (j := a) (by omega) (by omega)).mp q))).2.1 d_method_5_9 ?_
    refine Wp.iloadN rfl d_method_5_25 ?_
    refine Wp.iloadN rfl d_method_5_26 ?_
    by_cases b27_2 : 4 = a
    · refine Wp.icF (teq (congrArg ix b27_2)).2 d_method_5_27 ?_
      refine Wp.bipush lb_64 d_method_5_30 ?_
      refine Wp.iretN (z := 64) (by simp) rfl (by decide) d_method_5_32 (by decide) (by decide) ?_
      exact ⟨congrArg (fun z => some (Value.int (ix z))) (by unfold exF; (repeat' split) <;> first | rfl | omega), rfl⟩
    · refine Wp.icT (feq (fun q => b27_2 (ix_eq (by omega) (by omega) q))).2 d_method_5_27 ?_
      refine Wp.iloadN rfl d_method_5_33 ?_
      refine Wp.iload rfl d_method_5_34 ?_
      by_cases b36_3 : 4 < d
      · refine Wp.icF (tlt ((ix_lt (i := 4) (j := d) (by omega) (by omega)).mpr b36_3)).2.1 d_method_5_36 ?_
        refine Wp.iloadN rfl d_method_5_39 ?_
        refine Wp.iloadN rfl d_method_5_40 ?_
        refine Wp.iconst lc_1 d_method_5_41 ?_
        refine Wp.iadd (z := (ix (a + 1))) (ix_add _ _) d_method_5_42 ?_
        by_cases b43_4 : 4 = (a + 1)
        · refine Wp.icT (teq (congrArg ix b43_4)).1 d_method_5_43 ?_
          refine Wp.aloadN rfl rfl d_method_5_54 ?_
          refine Wp.iloadN rfl d_method_5_55 ?_
          refine Wp.caload 0 4 rfl (by decide) (by decide) rfl d_method_5_56 ?_
          refine Wp.goto d_method_5_57 ?_
          refine Wp.iretN (z := (ix m4)) (by simp) rfl (ix_c (by omega)) d_method_5_62 (by decide) (by decide) ?_
          exact ⟨congrArg (fun z => some (Value.int (ix z))) (by unfold exF; (repeat' split) <;> first | rfl | omega), rfl⟩
        · refine Wp.icF (feq (fun q => b43_4 (ix_eq (by omega) (by omega) q))).1 d_method_5_43 ?_
          refine Wp.iloadN rfl d_method_5_46 ?_
          refine Wp.iload rfl d_method_5_47 ?_
          refine Wp.iconst lc_1 d_method_5_49 ?_
          refine Wp.isub (z := (ix (d - 1))) (ix_sub (a := d) (b := 1) (by omega)) d_method_5_50 ?_
          by_cases b51_5 : 4 = (d - 1)
          · refine Wp.icF (teq (congrArg ix b51_5)).2 d_method_5_51 ?_
            refine Wp.aloadN rfl rfl d_method_5_54 ?_
            refine Wp.iloadN rfl d_method_5_55 ?_
            refine Wp.caload 0 4 rfl (by decide) (by decide) rfl d_method_5_56 ?_
            refine Wp.goto d_method_5_57 ?_
            refine Wp.iretN (z := (ix m4)) (by simp) rfl (ix_c (by omega)) d_method_5_62 (by decide) (by decide) ?_
            exact ⟨congrArg (fun z => some (Value.int (ix z))) (by unfold exF; (repeat' split) <;> first | rfl | omega), rfl⟩
          · refine Wp.icT (feq (fun q => b51_5 (ix_eq (by omega) (by omega) q))).2 d_method_5_51 ?_
            refine Wp.bipush lb_42 d_method_5_60 ?_
            refine Wp.iretN (z := 42) (by simp) rfl (by decide) d_method_5_62 (by decide) (by decide) ?_
            exact ⟨congrArg (fun z => some (Value.int (ix z))) (by unfold exF; (repeat' split) <;> first | rfl | omega), rfl⟩
      · refine Wp.icT (flt (fun q => b36_3 ((ix_lt (i := 4) (j := d) (by omega) (by omega)).mp q))).2.1 d_method_5_36 ?_
        refine Wp.aloadN rfl rfl d_method_5_63 ?_
        refine Wp.iloadN rfl d_method_5_64 ?_
        refine Wp.caload 0 4 rfl (by decide) (by decide) rfl d_method_5_65 ?_
        refine Wp.iretN (z := (ix m4)) (by simp) rfl (ix_c (by omega)) d_method_5_66 (by decide) (by decide) ?_
        exact ⟨congrArg (fun z => some (Value.int (ix z))) (by unfold exF; (repeat' split) <;> first | rfl | omega), rfl⟩
theorem mk_M_ex04 {W : Wd} (hw : Ws W) : Mk W M_ex04 ⟨"com/example/polje/polje/ObfuscatorsEmailPinLaw", "expected", "([CIZII)C"⟩ 5 := Mk.of nm_M_ex04 rfl rfl rfl (w_250 hw) (w_4 hw) (mkLen pd___CIZII_C rfl) (by decide)
def M_po04 : Mt := (⟨"com/example/polje/polje/ObfuscatorsEmailPinLaw", "pos", "(Ljava/lang/String;[CIIZII)Z"⟩, method_6_code, 7, some .boolean, ⟨4, 0, 0, 53⟩)
theorem nm_M_po04 : mN M_po04 = ⟨"com/example/polje/polje/ObfuscatorsEmailPinLaw", "pos", "(Ljava/lang/String;[CIIZII)Z"⟩ := by delta mN M_po04; rfl
set_option maxRecDepth 65536 in
set_option maxHeartbeats 40000000 in
theorem rm_po04 {W : Wd} (hw : Ws W) (s : Addr) (b : Addr) (rs : Bool) (rb : Bool) (xb : Bool) (ob : Bool) (zs : List Nat) (c : Addr) (rc : Bool) (xc : Bool) (oc : Bool) (m0 : Nat) (m1 : Nat) (m2 : Nat) (m3 : Nat) (m4 : Nat) (n : Nat) (at_ : Int32) (d : Int32) (F : List En) (hz : ∀ z ∈ zs, z < 256) (hl : zs.length ≤ 64) (hn : n ≤ 5) (hln : zs.length = n) (hx : 4 < n → zs.getD 4 0 = 42) (hm0 : m0 < 256) (hm1 : m1 < 256) (hm2 : m2 < 256) (hm3 : m3 < 256) (hm4 : m4 < 256) : Ct W M_po04 [.ref s, .ref c, .int (ix n), .int 4, .int 0, .int at_, .int d] ((oStr rs s (.ref b) (.int 0)) :: (b, rb, .inr (.byte, xb, ob, zb zs)) :: (c, rc, .inr (.char, xc, oc, [.int (ix m0), .int (ix m1), .int (ix m2), .int (ix m3), .int (ix m4)])) :: F) (fun v H' => v = some (.int 1) ∧ H' = ((oStr rs s (.ref b) (.int 0)) :: (b, rb, .inr (.byte, xb, ob, zb zs)) :: (c, rc, .inr (.char, xc, oc, [.int (ix m0), .int (ix m1), .int (ix m2), .int (ix m3), .int (ix m4)])) :: F)) := by
  refine Ct.intro (L0 := [.val (.ref s), .val (.ref c), .val (.int (ix n)), .val (.int 4), .val (.int 0), .val (.int at_), .val (.int d)]) (plainFor_of_name pf_com_example_polje_polje_ObfuscatorsEmailPinLaw) rfl (fun K => ?_)
  refine Wp.iloadN rfl d_method_6_0 ?_
  refine Wp.iloadN rfl d_method_6_1 ?_
  by_cases b2_1 : 4 < n
  · refine Wp.icF (tlt ((ix_lt (i := 4) (j := n) (by omega) (by omega)).mpr b2_1)).2.1 d_method_6_2 ?_
    refine Wp.aloadN rfl rfl d_method_6_5 ?_
    refine Wp.iloadN rfl d_method_6_6 ?_
    refine Wp.callV nm_M_po04 (fun _ => rm_ca hw.set s b rs rb xb ob zs 4 _ hz (by omega) (by omega)) 0 rfl (mk_M_ca hw) (w_239 hw) (w_240 hw) (w_242 hw) (w_241 hw) (S' := "") (Or.inl rfl) (by decide) rfl rfl rfl (Wn := 0) rfl rfl (by decide) d_method_6_7 ?_
    rintro _ _ ⟨rfl, rfl⟩
    refine Wp.aloadN rfl rfl d_method_6_10 ?_
    refine Wp.iloadN rfl d_method_6_11 ?_
    refine Wp.iload rfl d_method_6_12 ?_
    refine Wp.iload rfl d_method_6_14 ?_
    refine Wp.iload rfl d_method_6_16 ?_
    refine Wp.perm [2, 0, 1] 3 pp_2_0_1 (H' := ((c, rc, .inr (.char, xc, oc, [.int (ix m0), .int (ix m1), .int (ix m2), .int (ix m3), .int (ix m4)])) :: (oStr rs s (.ref b) (.int 0)) :: (b, rb, .inr (.byte, xb, ob, zb zs)) :: F)) rfl ?_
    refine Wp.callS nm_M_po04 (fun _ => rm_ex04 hw.set c rc xc oc m0 m1 m2 m3 m4 at_ d _ ) (mk_M_ex04 hw) (w_248 hw) (w_249 hw) rfl rfl (Wn := 1) rfl rfl (by decide) d_method_6_18 ?_
    rintro _ _ ⟨rfl, rfl⟩
    refine Wp.icF (teq (congrArg ix (hx b2_1))).2 d_method_6_21 ?_
    refine Wp.iconst lc_1 d_method_6_24 ?_
    refine Wp.goto d_method_6_25 ?_
    refine Wp.perm [1, 2, 0] 3 pp_1_2_0 (H' := ((oStr rs s (.ref b) (.int 0)) :: (b, rb, .inr (.byte, xb, ob, zb zs)) :: (c, rc, .inr (.char, xc, oc, [.int (ix m0), .int (ix m1), .int (ix m2), .int (ix m3), .int (ix m4)])) :: F)) rfl ?_
    refine Wp.iretN (z := 1) (by simp) rfl (by decide) d_method_6_29 (by decide) (by decide) ?_
    exact ⟨rfl, rfl⟩
  · refine Wp.icT (flt (fun q => b2_1 ((ix_lt (i := 4) (j := n) (by omega) (by omega)).mp q))).2.1 d_method_6_2 ?_
    refine Wp.iconst lc_1 d_method_6_24 ?_
    refine Wp.goto d_method_6_25 ?_
    refine Wp.iretN (z := 1) (by simp) rfl (by decide) d_method_6_29 (by decide) (by decide) ?_
    exact ⟨rfl, rfl⟩
theorem mk_M_ex14 {W : Wd} (hw : Ws W) : Mk W M_ex14 ⟨"com/example/polje/polje/ObfuscatorsEmailPinLaw", "expected", "([CIZII)C"⟩ 5 := Mk.of nm_M_ex14 rfl rfl rfl (w_250 hw) (w_4 hw) (mkLen pd___CIZII_C rfl) (by decide)
def M_po14 : Mt := (⟨"com/example/polje/polje/ObfuscatorsEmailPinLaw", "pos", "(Ljava/lang/String;[CIIZII)Z"⟩, method_6_code, 7, some .boolean, ⟨4, 0, 0, 53⟩)
theorem nm_M_po14 : mN M_po14 = ⟨"com/example/polje/polje/ObfuscatorsEmailPinLaw", "pos", "(Ljava/lang/String;[CIIZII)Z"⟩ := by delta mN M_po14; rfl
set_option maxRecDepth 65536 in
set_option maxHeartbeats 40000000 in
theorem rm_po14 {W : Wd} (hw : Ws W) (s : Addr) (b : Addr) (rs : Bool) (rb : Bool) (xb : Bool) (ob : Bool) (zs : List Nat) (c : Addr) (rc : Bool) (xc : Bool) (oc : Bool) (m0 : Nat) (m1 : Nat) (m2 : Nat) (m3 : Nat) (m4 : Nat) (n : Nat) (a : Nat) (d : Nat) (F : List En) (hz : ∀ z ∈ zs, z < 256) (hl : zs.length ≤ 64) (hn : n ≤ 5) (hln : zs.length = n) (hx : 4 < n → zs.getD 4 0 = exF a d 4 m4) (ha : a ≤ 5) (hd : d ≤ 5) (hm0 : m0 < 256) (hm1 : m1 < 256) (hm2 : m2 < 256) (hm3 : m3 < 256) (hm4 : m4 < 256) : Ct W M_po14 [.ref s, .ref c, .int (ix n), .int 4, .int 1, .int (ix a), .int (ix d)] ((oStr rs s (.ref b) (.int 0)) :: (b, rb, .inr (.byte, xb, ob, zb zs)) :: (c, rc, .inr (.char, xc, oc, [.int (ix m0), .int (ix m1), .int (ix m2), .int (ix m3), .int (ix m4)])) :: F) (fun v H' => v = some (.int 1) ∧ H' = ((oStr rs s (.ref b) (.int 0)) :: (b, rb, .inr (.byte, xb, ob, zb zs)) :: (c, rc, .inr (.char, xc, oc, [.int (ix m0), .int (ix m1), .int (ix m2), .int (ix m3), .int (ix m4)])) :: F)) := by
  refine Ct.intro (L0 := [.val (.ref s), .val (.ref c), .val (.int (ix n)), .val (.int 4), .val (.int 1), .val (.int (ix a)), .val (.int (ix d))]) (plainFor_of_name pf_com_example_polje_polje_ObfuscatorsEmailPinLaw) rfl (fun K => ?_)
  refine Wp.iloadN rfl d_method_6_0 ?_
  refine Wp.iloadN rfl d_method_6_1 ?_
  by_cases b2_1 : 4 < n
  · refine Wp.icF (tlt ((ix_lt (i := 4) (j := n) (by omega) (by omega)).mpr b2_1)).2.1 d_method_6_2 ?_
    refine Wp.aloadN rfl rfl d_method_6_5 ?_
    refine Wp.iloadN rfl d_method_6_6 ?_
    refine Wp.callV nm_M_po14 (fun _ => rm_ca hw.set s b rs rb xb ob zs 4 _ hz (by omega) (by omega)) 0 rfl (mk_M_ca hw) (w_239 hw) (w_240 hw) (w_242 hw) (w_241 hw) (S' := "") (Or.inl rfl) (by decide) rfl rfl rfl (Wn := 0) rfl rfl (by decide) d_method_6_7 ?_
    rintro _ _ ⟨rfl, rfl⟩
    refine Wp.aloadN rfl rfl d_method_6_10 ?_
    refine Wp.iloadN rfl d_method_6_11 ?_
    refine Wp.iload rfl d_method_6_12 ?_
    refine Wp.iload rfl d_method_6_14 ?_
    refine Wp.iload rfl d_method_6_16 ?_
    refine Wp.perm [2, 0, 1] 3 pp_2_0_1 (H' := ((c, rc, .inr (.char, xc, oc, [.int (ix m0), .int (ix m1), .int (ix m2), .int (ix m3), .int (ix m4)])) :: (oStr rs s (.ref b) (.int 0)) :: (b, rb, .inr (.byte, xb, ob, zb zs)) :: F)) rfl ?_
    refine Wp.callS nm_M_po14 (fun _ => rm_ex14 hw.set c rc xc oc m0 m1 m2 m3 m4 a d _ (by omega) (by omega) (by omega) (by omega) (by omega) (by omega) (by omega)) (mk_M_ex14 hw) (w_248 hw) (w_249 hw) rfl rfl (Wn := 1) rfl rfl (by decide) d_method_6_18 ?_
    rintro _ _ ⟨rfl, rfl⟩
    refine Wp.icF (teq (congrArg ix (hx b2_1))).2 d_method_6_21 ?_
    refine Wp.iconst lc_1 d_method_6_24 ?_
    refine Wp.goto d_method_6_25 ?_
    refine Wp.perm [1, 2, 0] 3 pp_1_2_0 (H' := ((oStr rs s (.ref b) (.int 0)) :: (b, rb, .inr (.byte, xb, ob, zb zs)) :: (c, rc, .inr (.char, xc, oc, [.int (ix m0), .int (ix m1), .int (ix m2), .int (ix m3), .int (ix m4)])) :: F)) rfl ?_
    refine Wp.iretN (z := 1) (by simp) rfl (by decide) d_method_6_29 (by decide) (by decide) ?_
    exact ⟨rfl, rfl⟩
  · refine Wp.icT (flt (fun q => b2_1 ((ix_lt (i := 4) (j := n) (by omega) (by omega)).mp q))).2.1 d_method_6_2 ?_
    refine Wp.iconst lc_1 d_method_6_24 ?_
    refine Wp.goto d_method_6_25 ?_
    refine Wp.iretN (z := 1) (by simp) rfl (by decide) d_method_6_29 (by decide) (by decide) ?_
    exact ⟨rfl, rfl⟩
def M0 : Mt := (x, code, maxLocals, ret, room_1)
theorem nm_M0 : mN M0 = ⟨"com/example/polje/polje/ObfuscatorsEmailPinLaw", "law", "(IIIIII)Z"⟩ := by delta M0; delta mN x; rfl
theorem d_law_316 : Dc code 316 (.aload 8) 2 318 := ⟨by decide +kernel, rfl⟩
theorem d_law_318 : Dc code 318 (.invokestatic 34) 3 321 := ⟨by decide +kernel, rfl⟩
theorem w_36 {W : Wd} (hw : Ws W) : Wok W (Jvm.Cond.code ({ cls := "com/example/polje/polje/Obfuscators", name := "email", desc := "(Ljava/lang/String;)Ljava/lang/String;" } : Jvm.MethodName) prog_5_method_2_code (8 : Nat) (Option.some (Jvm.ClassFile.FieldType.object "java/lang/String"))) := hw.1 _ (List.mem_of_getElem? (i := 36) rfl)
theorem pd__Ljava_lang_String__Ljava_lang_String_ : parseMethodDescriptor "(Ljava/lang/String;)Ljava/lang/String;" = some ⟨[(.object "java/lang/String")], some (.object "java/lang/String")⟩ := by decide +kernel
theorem mk_M_em {W : Wd} (hw : Ws W) : Mk W M_em ⟨"com/example/polje/polje/Obfuscators", "email", "(Ljava/lang/String;)Ljava/lang/String;"⟩ 1 := Mk.of nm_M_em rfl rfl rfl (w_36 hw) (w_35 hw) (mkLen pd__Ljava_lang_String__Ljava_lang_String_ rfl) (by decide)
theorem w_33 {W : Wd} (hw : Ws W) : Wok W (Jvm.Cond.methodLink "com/example/polje/polje/ObfuscatorsEmailPinLaw" (34 : Nat) ({ cls := "com/example/polje/polje/Obfuscators", name := "email", desc := "(Ljava/lang/String;)Ljava/lang/String;" } : Jvm.MethodName)) := hw.1 _ (List.mem_of_getElem? (i := 33) rfl)
theorem w_34 {W : Wd} (hw : Ws W) : Wok W (Jvm.Cond.static ({ cls := "com/example/polje/polje/Obfuscators", name := "email", desc := "(Ljava/lang/String;)Ljava/lang/String;" } : Jvm.MethodName)) := hw.1 _ (List.mem_of_getElem? (i := 34) rfl)
theorem d_law_321 : Dc code 321 (.astore 13) 2 323 := ⟨by decide +kernel, rfl⟩
theorem d_law_323 : Dc code 323 (.aload 13) 2 325 := ⟨by decide +kernel, rfl⟩
theorem d_law_325 : Dc code 325 (.invokevirtual 40) 3 328 := ⟨by decide +kernel, rfl⟩
theorem w_158 {W : Wd} (hw : Ws W) : Wok W (Jvm.Cond.methodLink "com/example/polje/polje/ObfuscatorsEmailPinLaw" (40 : Nat) ({ cls := "java/lang/String", name := "length", desc := "()I" } : Jvm.MethodName)) := hw.1 _ (List.mem_of_getElem? (i := 158) rfl)
theorem d_law_328 : Dc code 328 (.iload 6) 2 330 := ⟨by decide +kernel, rfl⟩
theorem d_law_330 : Bj code 330 (.if_icmp .eq 5) 5 333 335 := ⟨by decide +kernel, rfl, by decide, rfl⟩
theorem d_law_335 : Dc code 335 (.aload 13) 2 337 := ⟨by decide +kernel, rfl⟩
theorem d_law_337 : Dc code 337 (.aload 7) 2 339 := ⟨by decide +kernel, rfl⟩
theorem d_law_339 : Dc code 339 (.iload 6) 2 341 := ⟨by decide +kernel, rfl⟩
theorem d_law_341 : Dc code 341 (.iconst 0) 1 342 := ⟨by decide +kernel, rfl⟩
theorem d_law_342 : Dc code 342 (.iload 11) 2 344 := ⟨by decide +kernel, rfl⟩
theorem d_law_344 : Dc code 344 (.iload 10) 2 346 := ⟨by decide +kernel, rfl⟩
theorem d_law_346 : Dc code 346 (.iload 12) 2 348 := ⟨by decide +kernel, rfl⟩
theorem d_law_348 : Dc code 348 (.invokestatic 44) 3 351 := ⟨by decide +kernel, rfl⟩
theorem pp_0_1_4_2_3 : [0, 1, 4, 2, 3].isPerm (List.range 5) = true := by decide +kernel
theorem w_161 {W : Wd} (hw : Ws W) : Wok W (Jvm.Cond.code ({ cls := "com/example/polje/polje/ObfuscatorsEmailPinLaw", name := "pos", desc := "(Ljava/lang/String;[CIIZII)Z" } : Jvm.MethodName) method_6_code (7 : Nat) (Option.some Jvm.ClassFile.FieldType.boolean)) := hw.1 _ (List.mem_of_getElem? (i := 161) rfl)
theorem pd__Ljava_lang_String__CIIZII_Z : parseMethodDescriptor "(Ljava/lang/String;[CIIZII)Z" = some ⟨[(.object "java/lang/String"), (.array .char), .int, .int, .boolean, .int, .int], some .boolean⟩ := by decide +kernel
theorem mk_M_po00 {W : Wd} (hw : Ws W) : Mk W M_po00 ⟨"com/example/polje/polje/ObfuscatorsEmailPinLaw", "pos", "(Ljava/lang/String;[CIIZII)Z"⟩ 7 := Mk.of nm_M_po00 rfl rfl rfl (w_161 hw) (w_4 hw) (mkLen pd__Ljava_lang_String__CIIZII_Z rfl) (by decide)
theorem w_159 {W : Wd} (hw : Ws W) : Wok W (Jvm.Cond.methodLink "com/example/polje/polje/ObfuscatorsEmailPinLaw" (44 : Nat) ({ cls := "com/example/polje/polje/ObfuscatorsEmailPinLaw", name := "pos", desc := "(Ljava/lang/String;[CIIZII)Z" } : Jvm.MethodName)) := hw.1 _ (List.mem_of_getElem? (i := 159) rfl)
theorem w_160 {W : Wd} (hw : Ws W) : Wok W (Jvm.Cond.static ({ cls := "com/example/polje/polje/ObfuscatorsEmailPinLaw", name := "pos", desc := "(Ljava/lang/String;[CIIZII)Z" } : Jvm.MethodName)) := hw.1 _ (List.mem_of_getElem? (i := 160) rfl)
theorem d_law_351 : Bj code 351 (.ifCond .eq 83) 83 354 434 := ⟨by decide +kernel, rfl, by decide, rfl⟩
theorem d_law_354 : Dc code 354 (.aload 13) 2 356 := ⟨by decide +kernel, rfl⟩
theorem d_law_356 : Dc code 356 (.aload 7) 2 358 := ⟨by decide +kernel, rfl⟩
theorem d_law_358 : Dc code 358 (.iload 6) 2 360 := ⟨by decide +kernel, rfl⟩
theorem d_law_360 : Dc code 360 (.iconst 1) 1 361 := ⟨by decide +kernel, rfl⟩
theorem d_law_361 : Dc code 361 (.iload 11) 2 363 := ⟨by decide +kernel, rfl⟩
theorem d_law_363 : Dc code 363 (.iload 10) 2 365 := ⟨by decide +kernel, rfl⟩
theorem d_law_365 : Dc code 365 (.iload 12) 2 367 := ⟨by decide +kernel, rfl⟩
theorem d_law_367 : Dc code 367 (.invokestatic 44) 3 370 := ⟨by decide +kernel, rfl⟩
theorem mk_M_po01 {W : Wd} (hw : Ws W) : Mk W M_po01 ⟨"com/example/polje/polje/ObfuscatorsEmailPinLaw", "pos", "(Ljava/lang/String;[CIIZII)Z"⟩ 7 := Mk.of nm_M_po01 rfl rfl rfl (w_161 hw) (w_4 hw) (mkLen pd__Ljava_lang_String__CIIZII_Z rfl) (by decide)
theorem d_law_370 : Bj code 370 (.ifCond .eq 64) 64 373 434 := ⟨by decide +kernel, rfl, by decide, rfl⟩
theorem d_law_373 : Dc code 373 (.aload 13) 2 375 := ⟨by decide +kernel, rfl⟩
theorem d_law_375 : Dc code 375 (.aload 7) 2 377 := ⟨by decide +kernel, rfl⟩
theorem d_law_377 : Dc code 377 (.iload 6) 2 379 := ⟨by decide +kernel, rfl⟩
theorem d_law_379 : Dc code 379 (.iconst 2) 1 380 := ⟨by decide +kernel, rfl⟩
theorem d_law_380 : Dc code 380 (.iload 11) 2 382 := ⟨by decide +kernel, rfl⟩
theorem d_law_382 : Dc code 382 (.iload 10) 2 384 := ⟨by decide +kernel, rfl⟩
theorem d_law_384 : Dc code 384 (.iload 12) 2 386 := ⟨by decide +kernel, rfl⟩
theorem d_law_386 : Dc code 386 (.invokestatic 44) 3 389 := ⟨by decide +kernel, rfl⟩
theorem mk_M_po02 {W : Wd} (hw : Ws W) : Mk W M_po02 ⟨"com/example/polje/polje/ObfuscatorsEmailPinLaw", "pos", "(Ljava/lang/String;[CIIZII)Z"⟩ 7 := Mk.of nm_M_po02 rfl rfl rfl (w_161 hw) (w_4 hw) (mkLen pd__Ljava_lang_String__CIIZII_Z rfl) (by decide)
theorem d_law_389 : Bj code 389 (.ifCond .eq 45) 45 392 434 := ⟨by decide +kernel, rfl, by decide, rfl⟩
theorem d_law_392 : Dc code 392 (.aload 13) 2 394 := ⟨by decide +kernel, rfl⟩
theorem d_law_394 : Dc code 394 (.aload 7) 2 396 := ⟨by decide +kernel, rfl⟩
theorem d_law_396 : Dc code 396 (.iload 6) 2 398 := ⟨by decide +kernel, rfl⟩
theorem d_law_398 : Dc code 398 (.iconst 3) 1 399 := ⟨by decide +kernel, rfl⟩
theorem d_law_399 : Dc code 399 (.iload 11) 2 401 := ⟨by decide +kernel, rfl⟩
theorem d_law_401 : Dc code 401 (.iload 10) 2 403 := ⟨by decide +kernel, rfl⟩
theorem d_law_403 : Dc code 403 (.iload 12) 2 405 := ⟨by decide +kernel, rfl⟩
theorem d_law_405 : Dc code 405 (.invokestatic 44) 3 408 := ⟨by decide +kernel, rfl⟩
theorem mk_M_po03 {W : Wd} (hw : Ws W) : Mk W M_po03 ⟨"com/example/polje/polje/ObfuscatorsEmailPinLaw", "pos", "(Ljava/lang/String;[CIIZII)Z"⟩ 7 := Mk.of nm_M_po03 rfl rfl rfl (w_161 hw) (w_4 hw) (mkLen pd__Ljava_lang_String__CIIZII_Z rfl) (by decide)
theorem d_law_408 : Bj code 408 (.ifCond .eq 26) 26 411 434 := ⟨by decide +kernel, rfl, by decide, rfl⟩
theorem d_law_411 : Dc code 411 (.aload 13) 2 413 := ⟨by decide +kernel, rfl⟩
theorem d_law_413 : Dc code 413 (.aload 7) 2 415 := ⟨by decide +kernel, rfl⟩
theorem d_law_415 : Dc code 415 (.iload 6) 2 417 := ⟨by decide +kernel, rfl⟩
theorem d_law_417 : Dc code 417 (.iconst 4) 1 418 := ⟨by decide +kernel, rfl⟩
theorem d_law_418 : Dc code 418 (.iload 11) 2 420 := ⟨by decide +kernel, rfl⟩
theorem d_law_420 : Dc code 420 (.iload 10) 2 422 := ⟨by decide +kernel, rfl⟩
theorem d_law_422 : Dc code 422 (.iload 12) 2 424 := ⟨by decide +kernel, rfl⟩
theorem d_law_424 : Dc code 424 (.invokestatic 44) 3 427 := ⟨by decide +kernel, rfl⟩
theorem mk_M_po04 {W : Wd} (hw : Ws W) : Mk W M_po04 ⟨"com/example/polje/polje/ObfuscatorsEmailPinLaw", "pos", "(Ljava/lang/String;[CIIZII)Z"⟩ 7 := Mk.of nm_M_po04 rfl rfl rfl (w_161 hw) (w_4 hw) (mkLen pd__Ljava_lang_String__CIIZII_Z rfl) (by decide)
theorem d_law_427 : Bj code 427 (.ifCond .eq 7) 7 430 434 := ⟨by decide +kernel, rfl, by decide, rfl⟩
theorem d_law_430 : Dc code 430 (.iconst 1) 1 431 := ⟨by decide +kernel, rfl⟩
theorem d_law_431 : Bj code 431 (.goto 4) 4 434 435 := ⟨by decide +kernel, rfl, by decide, rfl⟩
theorem d_law_435 : Dc code 435 (.ireturn) 1 436 := ⟨by decide +kernel, rfl⟩
set_option maxRecDepth 65536 in
set_option maxHeartbeats 40000000 in
theorem lp_316_0 {W : Wd} {K : Kx} (hw : Ws W) {s0 : State} (hk : kW K = some (s0, consts_1)) (p0 p1 p2 p3 p4 p5 : Int32) (n m0 m1 m2 m3 m4 : Nat) (s b c : Addr) (rs rb xb ob rc xc oc : Bool) (zs : List Nat) (hn : n ≤ 5) (hz : ∀ z ∈ zs, z < 256) (hzs : zs = [m0, m1, m2, m3, m4].take n) (hm0 : m0 < 256) (hm1 : m1 < 256) (hm2 : m2 < 256) (hm3 : m3 < 256) (hm4 : m4 < 256) (cn at_ d : Int32) (hel : (emF zs).length = n) (hze : ∀ z ∈ emF zs, z < 256) (hX : ∀ i, i < n → (emF zs).getD i 0 = 42) : Wp W K M0 (fun v _ => v = some (.int 1)) [oStr rs s (.ref b) (.int 0), (b, rb, .inr (.byte, xb, ob, zb zs)), (c, rc, .inr (.char, xc, oc, [.int (ix m0), .int (ix m1), .int (ix m2), .int (ix m3), .int (ix m4)]))] 12 400 316 [.val (.int p0), .val (.int p1), .val (.int p2), .val (.int p3), .val (.int p4), .val (.int p5), .val (.int (ix n)), .val (.ref c), .val (.ref s), .val (.int cn), .val (.int at_), .val (.int 0), .val (.int d), .unset] [] := by
  have hzl : zs.length = n := by rw [hzs]; exact len5 hn
  have hb0 := aN_le n 0 m0
  have hb1 := aN_le n 1 m1
  have hb2 := aN_le n 2 m2
  have hb3 := aN_le n 3 m3
  have hb4 := aN_le n 4 m4
  refine Wp.aload rfl rfl d_law_316 ?_
  refine Wp.callSW nm_M0 hk (rm_em hw s b rs rb xb ob zs _ hz (by omega) (by omega)) (mk_M_em hw) (w_33 hw) (w_34 hw) rfl rfl (Wn := 0) rfl rfl (by decide) d_law_318 ?_
  rintro _ _ _ hk ⟨q_1, r_2, rfl, rfl⟩
  refine Wp.astore (L' := [.val (.int p0), .val (.int p1), .val (.int p2), .val (.int p3), .val (.int p4), .val (.int p5), .val (.int (ix n)), .val (.ref c), .val (.ref s), .val (.int cn), .val (.int at_), .val (.int 0), .val (.int d), .val (.ref q_1)]) rfl rfl d_law_321 ?_
  refine Wp.aload rfl rfl d_law_323 ?_
  refine Wp.callV nm_M0 (fun _ => rm_len hw.set q_1 r_2 true true true false (emF zs) _ ) 0 rfl (mk_M_len hw) (w_158 hw) (w_54 hw) (w_56 hw) (w_55 hw) (S' := "") (Or.inl rfl) (by decide) rfl rfl rfl (Wn := 0) rfl rfl (by decide) d_law_325 ?_
  rintro _ _ ⟨rfl, rfl⟩
  refine Wp.iload rfl d_law_328 ?_
  refine Wp.icT (teq (congrArg ix hel)).1 d_law_330 ?_
  refine Wp.aload rfl rfl d_law_335 ?_
  refine Wp.aload rfl rfl d_law_337 ?_
  refine Wp.iload rfl d_law_339 ?_
  refine Wp.iconst lc_0 d_law_341 ?_
  refine Wp.iload rfl d_law_342 ?_
  refine Wp.iload rfl d_law_344 ?_
  refine Wp.iload rfl d_law_346 ?_
  refine Wp.perm [0, 1, 4, 2, 3] 5 pp_0_1_4_2_3 (H' := [oStr true q_1 (.ref r_2) (.int 0), eB r_2 (zb (emF zs)), (c, rc, .inr (.char, xc, oc, [.int (ix m0), .int (ix m1), .int (ix m2), .int (ix m3), .int (ix m4)])), oStr rs s (.ref b) (.int 0), (b, rb, .inr (.byte, xb, ob, zb zs))]) rfl ?_
  refine Wp.callS nm_M0 (fun _ => rm_po00 hw.set q_1 r_2 true true true false (emF zs) c rc xc oc m0 m1 m2 m3 m4 n at_ d _ hze (by omega) (by omega) hel (hX 0) (by omega) (by omega) (by omega) (by omega) (by omega)) (mk_M_po00 hw) (w_159 hw) (w_160 hw) rfl rfl (Wn := 0) rfl rfl (by decide) d_law_348 ?_
  rintro _ _ ⟨rfl, rfl⟩
  refine Wp.ifF (by decide) d_law_351 ?_
  refine Wp.aload rfl rfl d_law_354 ?_
  refine Wp.aload rfl rfl d_law_356 ?_
  refine Wp.iload rfl d_law_358 ?_
  refine Wp.iconst lc_1 d_law_360 ?_
  refine Wp.iload rfl d_law_361 ?_
  refine Wp.iload rfl d_law_363 ?_
  refine Wp.iload rfl d_law_365 ?_
  refine Wp.callS nm_M0 (fun _ => rm_po01 hw.set q_1 r_2 true true true false (emF zs) c rc xc oc m0 m1 m2 m3 m4 n at_ d _ hze (by omega) (by omega) hel (hX 1) (by omega) (by omega) (by omega) (by omega) (by omega)) (mk_M_po01 hw) (w_159 hw) (w_160 hw) rfl rfl (Wn := 0) rfl rfl (by decide) d_law_367 ?_
  rintro _ _ ⟨rfl, rfl⟩
  refine Wp.ifF (by decide) d_law_370 ?_
  refine Wp.aload rfl rfl d_law_373 ?_
  refine Wp.aload rfl rfl d_law_375 ?_
  refine Wp.iload rfl d_law_377 ?_
  refine Wp.iconst lc_2 d_law_379 ?_
  refine Wp.iload rfl d_law_380 ?_
  refine Wp.iload rfl d_law_382 ?_
  refine Wp.iload rfl d_law_384 ?_
  refine Wp.callS nm_M0 (fun _ => rm_po02 hw.set q_1 r_2 true true true false (emF zs) c rc xc oc m0 m1 m2 m3 m4 n at_ d _ hze (by omega) (by omega) hel (hX 2) (by omega) (by omega) (by omega) (by omega) (by omega)) (mk_M_po02 hw) (w_159 hw) (w_160 hw) rfl rfl (Wn := 0) rfl rfl (by decide) d_law_386 ?_
  rintro _ _ ⟨rfl, rfl⟩
  refine Wp.ifF (by decide) d_law_389 ?_
  refine Wp.aload rfl rfl d_law_392 ?_
  refine Wp.aload rfl rfl d_law_394 ?_
  refine Wp.iload rfl d_law_396 ?_
  refine Wp.iconst lc_3 d_law_398 ?_
  refine Wp.iload rfl d_law_399 ?_
  refine Wp.iload rfl d_law_401 ?_
  refine Wp.iload rfl d_law_403 ?_
  refine Wp.callS nm_M0 (fun _ => rm_po03 hw.set q_1 r_2 true true true false (emF zs) c rc xc oc m0 m1 m2 m3 m4 n at_ d _ hze (by omega) (by omega) hel (hX 3) (by omega) (by omega) (by omega) (by omega) (by omega)) (mk_M_po03 hw) (w_159 hw) (w_160 hw) rfl rfl (Wn := 0) rfl rfl (by decide) d_law_405 ?_
  rintro _ _ ⟨rfl, rfl⟩
  refine Wp.ifF (by decide) d_law_408 ?_
  refine Wp.aload rfl rfl d_law_411 ?_
  refine Wp.aload rfl rfl d_law_413 ?_
  refine Wp.iload rfl d_law_415 ?_
  refine Wp.iconst lc_4 d_law_417 ?_
  refine Wp.iload rfl d_law_418 ?_
  refine Wp.iload rfl d_law_420 ?_
  refine Wp.iload rfl d_law_422 ?_
  refine Wp.callS nm_M0 (fun _ => rm_po04 hw.set q_1 r_2 true true true false (emF zs) c rc xc oc m0 m1 m2 m3 m4 n at_ d _ hze (by omega) (by omega) hel (hX 4) (by omega) (by omega) (by omega) (by omega) (by omega)) (mk_M_po04 hw) (w_159 hw) (w_160 hw) rfl rfl (Wn := 0) rfl rfl (by decide) d_law_424 ?_
  rintro _ _ ⟨rfl, rfl⟩
  refine Wp.ifF (by decide) d_law_427 ?_
  refine Wp.iconst lc_1 d_law_430 ?_
  refine Wp.goto d_law_431 ?_
  refine Wp.iretN (z := 1) (by simp) rfl (by decide) d_law_435 (by decide) (by decide) ?_
  exact rfl
theorem mk_M_po10 {W : Wd} (hw : Ws W) : Mk W M_po10 ⟨"com/example/polje/polje/ObfuscatorsEmailPinLaw", "pos", "(Ljava/lang/String;[CIIZII)Z"⟩ 7 := Mk.of nm_M_po10 rfl rfl rfl (w_161 hw) (w_4 hw) (mkLen pd__Ljava_lang_String__CIIZII_Z rfl) (by decide)
theorem mk_M_po11 {W : Wd} (hw : Ws W) : Mk W M_po11 ⟨"com/example/polje/polje/ObfuscatorsEmailPinLaw", "pos", "(Ljava/lang/String;[CIIZII)Z"⟩ 7 := Mk.of nm_M_po11 rfl rfl rfl (w_161 hw) (w_4 hw) (mkLen pd__Ljava_lang_String__CIIZII_Z rfl) (by decide)
theorem mk_M_po12 {W : Wd} (hw : Ws W) : Mk W M_po12 ⟨"com/example/polje/polje/ObfuscatorsEmailPinLaw", "pos", "(Ljava/lang/String;[CIIZII)Z"⟩ 7 := Mk.of nm_M_po12 rfl rfl rfl (w_161 hw) (w_4 hw) (mkLen pd__Ljava_lang_String__CIIZII_Z rfl) (by decide)
theorem mk_M_po13 {W : Wd} (hw : Ws W) : Mk W M_po13 ⟨"com/example/polje/polje/ObfuscatorsEmailPinLaw", "pos", "(Ljava/lang/String;[CIIZII)Z"⟩ 7 := Mk.of nm_M_po13 rfl rfl rfl (w_161 hw) (w_4 hw) (mkLen pd__Ljava_lang_String__CIIZII_Z rfl) (by decide)
theorem mk_M_po14 {W : Wd} (hw : Ws W) : Mk W M_po14 ⟨"com/example/polje/polje/ObfuscatorsEmailPinLaw", "pos", "(Ljava/lang/String;[CIIZII)Z"⟩ 7 := Mk.of nm_M_po14 rfl rfl rfl (w_161 hw) (w_4 hw) (mkLen pd__Ljava_lang_String__CIIZII_Z rfl) (by decide)
set_option maxRecDepth 65536 in
set_option maxHeartbeats 40000000 in
theorem lp_316_1 {W : Wd} {K : Kx} (hw : Ws W) {s0 : State} (hk : kW K = some (s0, consts_1)) (p0 p1 p2 p3 p4 p5 : Int32) (n m0 m1 m2 m3 m4 : Nat) (s b c : Addr) (rs rb xb ob rc xc oc : Bool) (zs : List Nat) (hn : n ≤ 5) (hz : ∀ z ∈ zs, z < 256) (hzs : zs = [m0, m1, m2, m3, m4].take n) (hm0 : m0 < 256) (hm1 : m1 < 256) (hm2 : m2 < 256) (hm3 : m3 < 256) (hm4 : m4 < 256) (cn : Int32) (a d : Nat) (hel : (emF zs).length = n) (hze : ∀ z ∈ emF zs, z < 256) (ha : a < 5) (hX : HX n a d m0 m1 m2 m3 m4 zs) : Wp W K M0 (fun v _ => v = some (.int 1)) [oStr rs s (.ref b) (.int 0), (b, rb, .inr (.byte, xb, ob, zb zs)), (c, rc, .inr (.char, xc, oc, [.int (ix m0), .int (ix m1), .int (ix m2), .int (ix m3), .int (ix m4)]))] 12 400 316 [.val (.int p0), .val (.int p1), .val (.int p2), .val (.int p3), .val (.int p4), .val (.int p5), .val (.int (ix n)), .val (.ref c), .val (.ref s), .val (.int cn), .val (.int (ix a)), .val (.int 1), .val (.int (ix d)), .unset] [] := by
  have hzl : zs.length = n := by rw [hzs]; exact len5 hn
  have hb0 := aN_le n 0 m0
  have hb1 := aN_le n 1 m1
  have hb2 := aN_le n 2 m2
  have hb3 := aN_le n 3 m3
  have hb4 := aN_le n 4 m4
  have hd5 := hX.1
  refine Wp.aload rfl rfl d_law_316 ?_
  refine Wp.callSW nm_M0 hk (rm_em hw s b rs rb xb ob zs _ hz (by omega) (by omega)) (mk_M_em hw) (w_33 hw) (w_34 hw) rfl rfl (Wn := 0) rfl rfl (by decide) d_law_318 ?_
  rintro _ _ _ hk ⟨q_1, r_2, rfl, rfl⟩
  refine Wp.astore (L' := [.val (.int p0), .val (.int p1), .val (.int p2), .val (.int p3), .val (.int p4), .val (.int p5), .val (.int (ix n)), .val (.ref c), .val (.ref s), .val (.int cn), .val (.int (ix a)), .val (.int 1), .val (.int (ix d)), .val (.ref q_1)]) rfl rfl d_law_321 ?_
  refine Wp.aload rfl rfl d_law_323 ?_
  refine Wp.callV nm_M0 (fun _ => rm_len hw.set q_1 r_2 true true true false (emF zs) _ ) 0 rfl (mk_M_len hw) (w_158 hw) (w_54 hw) (w_56 hw) (w_55 hw) (S' := "") (Or.inl rfl) (by decide) rfl rfl rfl (Wn := 0) rfl rfl (by decide) d_law_325 ?_
  rintro _ _ ⟨rfl, rfl⟩
  refine Wp.iload rfl d_law_328 ?_
  refine Wp.icT (teq (congrArg ix hel)).1 d_law_330 ?_
  refine Wp.aload rfl rfl d_law_335 ?_
  refine Wp.aload rfl rfl d_law_337 ?_
  refine Wp.iload rfl d_law_339 ?_
  refine Wp.iconst lc_0 d_law_341 ?_
  refine Wp.iload rfl d_law_342 ?_
  refine Wp.iload rfl d_law_344 ?_
  refine Wp.iload rfl d_law_346 ?_
  refine Wp.perm [0, 1, 4, 2, 3] 5 pp_0_1_4_2_3 (H' := [oStr true q_1 (.ref r_2) (.int 0), eB r_2 (zb (emF zs)), (c, rc, .inr (.char, xc, oc, [.int (ix m0), .int (ix m1), .int (ix m2), .int (ix m3), .int (ix m4)])), oStr rs s (.ref b) (.int 0), (b, rb, .inr (.byte, xb, ob, zb zs))]) rfl ?_
  refine Wp.callS nm_M0 (fun _ => rm_po10 hw.set q_1 r_2 true true true false (emF zs) c rc xc oc m0 m1 m2 m3 m4 n a d _ hze (by omega) (by omega) hel (hX.at 0 m0 rfl) (by omega) (by omega) (by omega) (by omega) (by omega) (by omega) (by omega)) (mk_M_po10 hw) (w_159 hw) (w_160 hw) rfl rfl (Wn := 0) rfl rfl (by decide) d_law_348 ?_
  rintro _ _ ⟨rfl, rfl⟩
  refine Wp.ifF (by decide) d_law_351 ?_
  refine Wp.aload rfl rfl d_law_354 ?_
  refine Wp.aload rfl rfl d_law_356 ?_
  refine Wp.iload rfl d_law_358 ?_
  refine Wp.iconst lc_1 d_law_360 ?_
  refine Wp.iload rfl d_law_361 ?_
  refine Wp.iload rfl d_law_363 ?_
  refine Wp.iload rfl d_law_365 ?_
  refine Wp.callS nm_M0 (fun _ => rm_po11 hw.set q_1 r_2 true true true false (emF zs) c rc xc oc m0 m1 m2 m3 m4 n a d _ hze (by omega) (by omega) hel (hX.at 1 m1 rfl) (by omega) (by omega) (by omega) (by omega) (by omega) (by omega) (by omega)) (mk_M_po11 hw) (w_159 hw) (w_160 hw) rfl rfl (Wn := 0) rfl rfl (by decide) d_law_367 ?_
  rintro _ _ ⟨rfl, rfl⟩
  refine Wp.ifF (by decide) d_law_370 ?_
  refine Wp.aload rfl rfl d_law_373 ?_
  refine Wp.aload rfl rfl d_law_375 ?_
  refine Wp.iload rfl d_law_377 ?_
  refine Wp.iconst lc_2 d_law_379 ?_
  refine Wp.iload rfl d_law_380 ?_
  refine Wp.iload rfl d_law_382 ?_
  refine Wp.iload rfl d_law_384 ?_
  refine Wp.callS nm_M0 (fun _ => rm_po12 hw.set q_1 r_2 true true true false (emF zs) c rc xc oc m0 m1 m2 m3 m4 n a d _ hze (by omega) (by omega) hel (hX.at 2 m2 rfl) (by omega) (by omega) (by omega) (by omega) (by omega) (by omega) (by omega)) (mk_M_po12 hw) (w_159 hw) (w_160 hw) rfl rfl (Wn := 0) rfl rfl (by decide) d_law_386 ?_
  rintro _ _ ⟨rfl, rfl⟩
  refine Wp.ifF (by decide) d_law_389 ?_
  refine Wp.aload rfl rfl d_law_392 ?_
  refine Wp.aload rfl rfl d_law_394 ?_
  refine Wp.iload rfl d_law_396 ?_
  refine Wp.iconst lc_3 d_law_398 ?_
  refine Wp.iload rfl d_law_399 ?_
  refine Wp.iload rfl d_law_401 ?_
  refine Wp.iload rfl d_law_403 ?_
  refine Wp.callS nm_M0 (fun _ => rm_po13 hw.set q_1 r_2 true true true false (emF zs) c rc xc oc m0 m1 m2 m3 m4 n a d _ hze (by omega) (by omega) hel (hX.at 3 m3 rfl) (by omega) (by omega) (by omega) (by omega) (by omega) (by omega) (by omega)) (mk_M_po13 hw) (w_159 hw) (w_160 hw) rfl rfl (Wn := 0) rfl rfl (by decide) d_law_405 ?_
  rintro _ _ ⟨rfl, rfl⟩
  refine Wp.ifF (by decide) d_law_408 ?_
  refine Wp.aload rfl rfl d_law_411 ?_
  refine Wp.aload rfl rfl d_law_413 ?_
  refine Wp.iload rfl d_law_415 ?_
  refine Wp.iconst lc_4 d_law_417 ?_
  refine Wp.iload rfl d_law_418 ?_
  refine Wp.iload rfl d_law_420 ?_
  refine Wp.iload rfl d_law_422 ?_
  refine Wp.callS nm_M0 (fun _ => rm_po14 hw.set q_1 r_2 true true true false (emF zs) c rc xc oc m0 m1 m2 m3 m4 n a d _ hze (by omega) (by omega) hel (hX.at 4 m4 rfl) (by omega) (by omega) (by omega) (by omega) (by omega) (by omega) (by omega)) (mk_M_po14 hw) (w_159 hw) (w_160 hw) rfl rfl (Wn := 0) rfl rfl (by decide) d_law_424 ?_
  rintro _ _ ⟨rfl, rfl⟩
  refine Wp.ifF (by decide) d_law_427 ?_
  refine Wp.iconst lc_1 d_law_430 ?_
  refine Wp.goto d_law_431 ?_
  refine Wp.iretN (z := 1) (by simp) rfl (by decide) d_law_435 (by decide) (by decide) ?_
  exact rfl
theorem d_law_292 : Dc code 292 (.iconst 1) 1 293 := ⟨by decide +kernel, rfl⟩
theorem d_law_293 : Dc code 293 (.iload 6) 2 295 := ⟨by decide +kernel, rfl⟩
theorem d_law_295 : Bj code 295 (.if_icmp .ge 21) 21 298 316 := ⟨by decide +kernel, rfl, by decide, rfl⟩
theorem d_law_298 : Dc code 298 (.iconst 1) 1 299 := ⟨by decide +kernel, rfl⟩
theorem d_law_299 : Dc code 299 (.iload 10) 2 301 := ⟨by decide +kernel, rfl⟩
theorem d_law_301 : Bj code 301 (.if_icmp .le 15) 15 304 316 := ⟨by decide +kernel, rfl, by decide, rfl⟩
theorem d_law_304 : Dc code 304 (.aload 7) 2 306 := ⟨by decide +kernel, rfl⟩
theorem d_law_306 : Dc code 306 (.iconst 1) 1 307 := ⟨by decide +kernel, rfl⟩
theorem d_law_307 : Dc code 307 (.caload) 1 308 := ⟨by decide +kernel, rfl⟩
theorem d_law_308 : Dc code 308 (.bipush 46) 2 310 := ⟨by decide +kernel, rfl⟩
theorem d_law_310 : Bj code 310 (.if_icmp .ne 6) 6 313 316 := ⟨by decide +kernel, rfl, by decide, rfl⟩
theorem d_law_313 : Dc code 313 (.iconst 1) 1 314 := ⟨by decide +kernel, rfl⟩
theorem d_law_314 : Dc code 314 (.istore 12) 2 316 := ⟨by decide +kernel, rfl⟩
set_option maxRecDepth 65536 in
set_option maxHeartbeats 40000000 in
theorem lp_292 {W : Wd} {K : Kx} (hw : Ws W) {s0 : State} (hk : kW K = some (s0, consts_1)) (p0 p1 p2 p3 p4 p5 : Int32) (n m0 m1 m2 m3 m4 : Nat) (s b c : Addr) (rs rb xb ob rc xc oc : Bool) (zs : List Nat) (hn : n ≤ 5) (hz : ∀ z ∈ zs, z < 256) (hzs : zs = [m0, m1, m2, m3, m4].take n) (hm0 : m0 < 256) (hm1 : m1 < 256) (hm2 : m2 < 256) (hm3 : m3 < 256) (hm4 : m4 < 256) (cn : Int32) (a d : Nat) (hel : (emF zs).length = n) (hze : ∀ z ∈ emF zs, z < 256) (ha : a < 5) (hd : d ≤ 5) (hX : HX n a (dk n a 1 m1 d) m0 m1 m2 m3 m4 zs) : Wp W K M0 (fun v _ => v = some (.int 1)) [oStr rs s (.ref b) (.int 0), (b, rb, .inr (.byte, xb, ob, zb zs)), (c, rc, .inr (.char, xc, oc, [.int (ix m0), .int (ix m1), .int (ix m2), .int (ix m3), .int (ix m4)]))] 12 400 292 [.val (.int p0), .val (.int p1), .val (.int p2), .val (.int p3), .val (.int p4), .val (.int p5), .val (.int (ix n)), .val (.ref c), .val (.ref s), .val (.int cn), .val (.int (ix a)), .val (.int 1), .val (.int (ix d)), .unset] [] := by
  have hzl : zs.length = n := by rw [hzs]; exact len5 hn
  have hb0 := aN_le n 0 m0
  have hb1 := aN_le n 1 m1
  have hb2 := aN_le n 2 m2
  have hb3 := aN_le n 3 m3
  have hb4 := aN_le n 4 m4
  refine Wp.iconst lc_1 d_law_292 ?_
  refine Wp.iload rfl d_law_293 ?_
  by_cases b295_1 : 1 < n
  · refine Wp.icF (tlt ((ix_lt (i := 1) (j := n) (by omega) (by omega)).mpr b295_1)).2.1 d_law_295 ?_
    refine Wp.iconst lc_1 d_law_298 ?_
    refine Wp.iload rfl d_law_299 ?_
    by_cases b301_2 : a < 1
    · refine Wp.icF (tlt ((ix_lt (i := a) (j := 1) (by omega) (by omega)).mpr b301_2)).2.2.2 d_law_301 ?_
      refine Wp.aload rfl rfl d_law_304 ?_
      refine Wp.iconst lc_1 d_law_306 ?_
      refine Wp.caload 2 1 rfl (by decide) (by decide) rfl d_law_307 ?_
      refine Wp.bipush lb_46 d_law_308 ?_
      by_cases b310_3 : m1 = 46
      · refine Wp.icF (teq (congrArg ix b310_3)).2 d_law_310 ?_
        refine Wp.iconst lc_1 d_law_313 ?_
        refine Wp.istore (L' := [.val (.int p0), .val (.int p1), .val (.int p2), .val (.int p3), .val (.int p4), .val (.int p5), .val (.int (ix n)), .val (.ref c), .val (.ref s), .val (.int cn), .val (.int (ix a)), .val (.int 1), .val (.int 1), .unset]) rfl d_law_314 ?_
        exact lp_316_1 hw hk p0 p1 p2 p3 p4 p5 n m0 m1 m2 m3 m4 s b c rs rb xb ob rc xc oc zs hn hz hzs hm0 hm1 hm2 hm3 hm4 cn a 1 hel hze ha (by rw [dk_1 b295_1 b301_2 b310_3] at hX; exact hX)
      · refine Wp.icT (feq (fun q => b310_3 (ix_eq (by omega) (by omega) q))).2 d_law_310 ?_
        exact lp_316_1 hw hk p0 p1 p2 p3 p4 p5 n m0 m1 m2 m3 m4 s b c rs rb xb ob rc xc oc zs hn hz hzs hm0 hm1 hm2 hm3 hm4 cn a d hel hze ha (by rw [dk_0 (n := n) (a := a) (k := 1) (m := m1) (z := d) (fun q => by omega)] at hX; exact hX)
    · refine Wp.icT (flt (fun q => b301_2 ((ix_lt (i := a) (j := 1) (by omega) (by omega)).mp q))).2.2.2 d_law_301 ?_
      exact lp_316_1 hw hk p0 p1 p2 p3 p4 p5 n m0 m1 m2 m3 m4 s b c rs rb xb ob rc xc oc zs hn hz hzs hm0 hm1 hm2 hm3 hm4 cn a d hel hze ha (by rw [dk_0 (n := n) (a := a) (k := 1) (m := m1) (z := d) (fun q => by omega)] at hX; exact hX)
  · refine Wp.icT (flt (fun q => b295_1 ((ix_lt (i := 1) (j := n) (by omega) (by omega)).mp q))).2.1 d_law_295 ?_
    exact lp_316_1 hw hk p0 p1 p2 p3 p4 p5 n m0 m1 m2 m3 m4 s b c rs rb xb ob rc xc oc zs hn hz hzs hm0 hm1 hm2 hm3 hm4 cn a d hel hze ha (by rw [dk_0 (n := n) (a := a) (k := 1) (m := m1) (z := d) (fun q => by omega)] at hX; exact hX)
theorem d_law_268 : Dc code 268 (.iconst 2) 1 269 := ⟨by decide +kernel, rfl⟩
theorem d_law_269 : Dc code 269 (.iload 6) 2 271 := ⟨by decide +kernel, rfl⟩
theorem d_law_271 : Bj code 271 (.if_icmp .ge 21) 21 274 292 := ⟨by decide +kernel, rfl, by decide, rfl⟩
theorem d_law_274 : Dc code 274 (.iconst 2) 1 275 := ⟨by decide +kernel, rfl⟩
theorem d_law_275 : Dc code 275 (.iload 10) 2 277 := ⟨by decide +kernel, rfl⟩
theorem d_law_277 : Bj code 277 (.if_icmp .le 15) 15 280 292 := ⟨by decide +kernel, rfl, by decide, rfl⟩
theorem d_law_280 : Dc code 280 (.aload 7) 2 282 := ⟨by decide +kernel, rfl⟩
theorem d_law_282 : Dc code 282 (.iconst 2) 1 283 := ⟨by decide +kernel, rfl⟩
theorem d_law_283 : Dc code 283 (.caload) 1 284 := ⟨by decide +kernel, rfl⟩
theorem d_law_284 : Dc code 284 (.bipush 46) 2 286 := ⟨by decide +kernel, rfl⟩
theorem d_law_286 : Bj code 286 (.if_icmp .ne 6) 6 289 292 := ⟨by decide +kernel, rfl, by decide, rfl⟩
theorem d_law_289 : Dc code 289 (.iconst 2) 1 290 := ⟨by decide +kernel, rfl⟩
theorem d_law_290 : Dc code 290 (.istore 12) 2 292 := ⟨by decide +kernel, rfl⟩
set_option maxRecDepth 65536 in
set_option maxHeartbeats 40000000 in
theorem lp_268 {W : Wd} {K : Kx} (hw : Ws W) {s0 : State} (hk : kW K = some (s0, consts_1)) (p0 p1 p2 p3 p4 p5 : Int32) (n m0 m1 m2 m3 m4 : Nat) (s b c : Addr) (rs rb xb ob rc xc oc : Bool) (zs : List Nat) (hn : n ≤ 5) (hz : ∀ z ∈ zs, z < 256) (hzs : zs = [m0, m1, m2, m3, m4].take n) (hm0 : m0 < 256) (hm1 : m1 < 256) (hm2 : m2 < 256) (hm3 : m3 < 256) (hm4 : m4 < 256) (cn : Int32) (a d : Nat) (hel : (emF zs).length = n) (hze : ∀ z ∈ emF zs, z < 256) (ha : a < 5) (hd : d ≤ 5) (hX : HX n a (dk n a 1 m1 (dk n a 2 m2 d)) m0 m1 m2 m3 m4 zs) : Wp W K M0 (fun v _ => v = some (.int 1)) [oStr rs s (.ref b) (.int 0), (b, rb, .inr (.byte, xb, ob, zb zs)), (c, rc, .inr (.char, xc, oc, [.int (ix m0), .int (ix m1), .int (ix m2), .int (ix m3), .int (ix m4)]))] 12 400 268 [.val (.int p0), .val (.int p1), .val (.int p2), .val (.int p3), .val (.int p4), .val (.int p5), .val (.int (ix n)), .val (.ref c), .val (.ref s), .val (.int cn), .val (.int (ix a)), .val (.int 1), .val (.int (ix d)), .unset] [] := by
  have hzl : zs.length = n := by rw [hzs]; exact len5 hn
  have hb0 := aN_le n 0 m0
  have hb1 := aN_le n 1 m1
  have hb2 := aN_le n 2 m2
  have hb3 := aN_le n 3 m3
  have hb4 := aN_le n 4 m4
  refine Wp.iconst lc_2 d_law_268 ?_
  refine Wp.iload rfl d_law_269 ?_
  by_cases b271_1 : 2 < n
  · refine Wp.icF (tlt ((ix_lt (i := 2) (j := n) (by omega) (by omega)).mpr b271_1)).2.1 d_law_271 ?_
    refine Wp.iconst lc_2 d_law_274 ?_
    refine Wp.iload rfl d_law_275 ?_
    by_cases b277_2 : a < 2
    · refine Wp.icF (tlt ((ix_lt (i := a) (j := 2) (by omega) (by omega)).mpr b277_2)).2.2.2 d_law_277 ?_
      refine Wp.aload rfl rfl d_law_280 ?_
      refine Wp.iconst lc_2 d_law_282 ?_
      refine Wp.caload 2 2 rfl (by decide) (by decide) rfl d_law_283 ?_
      refine Wp.bipush lb_46 d_law_284 ?_
      by_cases b286_3 : m2 = 46
      · refine Wp.icF (teq (congrArg ix b286_3)).2 d_law_286 ?_
        refine Wp.iconst lc_2 d_law_289 ?_
        refine Wp.istore (L' := [.val (.int p0), .val (.int p1), .val (.int p2), .val (.int p3), .val (.int p4), .val (.int p5), .val (.int (ix n)), .val (.ref c), .val (.ref s), .val (.int cn), .val (.int (ix a)), .val (.int 1), .val (.int 2), .unset]) rfl d_law_290 ?_
        exact lp_292 hw hk p0 p1 p2 p3 p4 p5 n m0 m1 m2 m3 m4 s b c rs rb xb ob rc xc oc zs hn hz hzs hm0 hm1 hm2 hm3 hm4 cn a 2 hel hze ha (by omega) (by rw [dk_1 b271_1 b277_2 b286_3] at hX; exact hX)
      · refine Wp.icT (feq (fun q => b286_3 (ix_eq (by omega) (by omega) q))).2 d_law_286 ?_
        exact lp_292 hw hk p0 p1 p2 p3 p4 p5 n m0 m1 m2 m3 m4 s b c rs rb xb ob rc xc oc zs hn hz hzs hm0 hm1 hm2 hm3 hm4 cn a d hel hze ha (by omega) (by rw [dk_0 (n := n) (a := a) (k := 2) (m := m2) (z := d) (fun q => by omega)] at hX; exact hX)
    · refine Wp.icT (flt (fun q => b277_2 ((ix_lt (i := a) (j := 2) (by omega) (by omega)).mp q))).2.2.2 d_law_277 ?_
      exact lp_292 hw hk p0 p1 p2 p3 p4 p5 n m0 m1 m2 m3 m4 s b c rs rb xb ob rc xc oc zs hn hz hzs hm0 hm1 hm2 hm3 hm4 cn a d hel hze ha (by omega) (by rw [dk_0 (n := n) (a := a) (k := 2) (m := m2) (z := d) (fun q => by omega)] at hX; exact hX)
  · refine Wp.icT (flt (fun q => b271_1 ((ix_lt (i := 2) (j := n) (by omega) (by omega)).mp q))).2.1 d_law_271 ?_
    exact lp_292 hw hk p0 p1 p2 p3 p4 p5 n m0 m1 m2 m3 m4 s b c rs rb xb ob rc xc oc zs hn hz hzs hm0 hm1 hm2 hm3 hm4 cn a d hel hze ha (by omega) (by rw [dk_0 (n := n) (a := a) (k := 2) (m := m2) (z := d) (fun q => by omega)] at hX; exact hX)
theorem d_law_244 : Dc code 244 (.iconst 3) 1 245 := ⟨by decide +kernel, rfl⟩
theorem d_law_245 : Dc code 245 (.iload 6) 2 247 := ⟨by decide +kernel, rfl⟩
theorem d_law_247 : Bj code 247 (.if_icmp .ge 21) 21 250 268 := ⟨by decide +kernel, rfl, by decide, rfl⟩
theorem d_law_250 : Dc code 250 (.iconst 3) 1 251 := ⟨by decide +kernel, rfl⟩
theorem d_law_251 : Dc code 251 (.iload 10) 2 253 := ⟨by decide +kernel, rfl⟩
theorem d_law_253 : Bj code 253 (.if_icmp .le 15) 15 256 268 := ⟨by decide +kernel, rfl, by decide, rfl⟩
theorem d_law_256 : Dc code 256 (.aload 7) 2 258 := ⟨by decide +kernel, rfl⟩
theorem d_law_258 : Dc code 258 (.iconst 3) 1 259 := ⟨by decide +kernel, rfl⟩
theorem d_law_259 : Dc code 259 (.caload) 1 260 := ⟨by decide +kernel, rfl⟩
theorem d_law_260 : Dc code 260 (.bipush 46) 2 262 := ⟨by decide +kernel, rfl⟩
theorem d_law_262 : Bj code 262 (.if_icmp .ne 6) 6 265 268 := ⟨by decide +kernel, rfl, by decide, rfl⟩
theorem d_law_265 : Dc code 265 (.iconst 3) 1 266 := ⟨by decide +kernel, rfl⟩
theorem d_law_266 : Dc code 266 (.istore 12) 2 268 := ⟨by decide +kernel, rfl⟩
set_option maxRecDepth 65536 in
set_option maxHeartbeats 40000000 in
theorem lp_244 {W : Wd} {K : Kx} (hw : Ws W) {s0 : State} (hk : kW K = some (s0, consts_1)) (p0 p1 p2 p3 p4 p5 : Int32) (n m0 m1 m2 m3 m4 : Nat) (s b c : Addr) (rs rb xb ob rc xc oc : Bool) (zs : List Nat) (hn : n ≤ 5) (hz : ∀ z ∈ zs, z < 256) (hzs : zs = [m0, m1, m2, m3, m4].take n) (hm0 : m0 < 256) (hm1 : m1 < 256) (hm2 : m2 < 256) (hm3 : m3 < 256) (hm4 : m4 < 256) (cn : Int32) (a d : Nat) (hel : (emF zs).length = n) (hze : ∀ z ∈ emF zs, z < 256) (ha : a < 5) (hd : d ≤ 5) (hX : HX n a (dk n a 1 m1 (dk n a 2 m2 (dk n a 3 m3 d))) m0 m1 m2 m3 m4 zs) : Wp W K M0 (fun v _ => v = some (.int 1)) [oStr rs s (.ref b) (.int 0), (b, rb, .inr (.byte, xb, ob, zb zs)), (c, rc, .inr (.char, xc, oc, [.int (ix m0), .int (ix m1), .int (ix m2), .int (ix m3), .int (ix m4)]))] 12 400 244 [.val (.int p0), .val (.int p1), .val (.int p2), .val (.int p3), .val (.int p4), .val (.int p5), .val (.int (ix n)), .val (.ref c), .val (.ref s), .val (.int cn), .val (.int (ix a)), .val (.int 1), .val (.int (ix d)), .unset] [] := by
  have hzl : zs.length = n := by rw [hzs]; exact len5 hn
  have hb0 := aN_le n 0 m0
  have hb1 := aN_le n 1 m1
  have hb2 := aN_le n 2 m2
  have hb3 := aN_le n 3 m3
  have hb4 := aN_le n 4 m4
  refine Wp.iconst lc_3 d_law_244 ?_
  refine Wp.iload rfl d_law_245 ?_
  by_cases b247_1 : 3 < n
  · refine Wp.icF (tlt ((ix_lt (i := 3) (j := n) (by omega) (by omega)).mpr b247_1)).2.1 d_law_247 ?_
    refine Wp.iconst lc_3 d_law_250 ?_
    refine Wp.iload rfl d_law_251 ?_
    by_cases b253_2 : a < 3
    · refine Wp.icF (tlt ((ix_lt (i := a) (j := 3) (by omega) (by omega)).mpr b253_2)).2.2.2 d_law_253 ?_
      refine Wp.aload rfl rfl d_law_256 ?_
      refine Wp.iconst lc_3 d_law_258 ?_
      refine Wp.caload 2 3 rfl (by decide) (by decide) rfl d_law_259 ?_
      refine Wp.bipush lb_46 d_law_260 ?_
      by_cases b262_3 : m3 = 46
      · refine Wp.icF (teq (congrArg ix b262_3)).2 d_law_262 ?_
        refine Wp.iconst lc_3 d_law_265 ?_
        refine Wp.istore (L' := [.val (.int p0), .val (.int p1), .val (.int p2), .val (.int p3), .val (.int p4), .val (.int p5), .val (.int (ix n)), .val (.ref c), .val (.ref s), .val (.int cn), .val (.int (ix a)), .val (.int 1), .val (.int 3), .unset]) rfl d_law_266 ?_
        exact lp_268 hw hk p0 p1 p2 p3 p4 p5 n m0 m1 m2 m3 m4 s b c rs rb xb ob rc xc oc zs hn hz hzs hm0 hm1 hm2 hm3 hm4 cn a 3 hel hze ha (by omega) (by rw [dk_1 b247_1 b253_2 b262_3] at hX; exact hX)
      · refine Wp.icT (feq (fun q => b262_3 (ix_eq (by omega) (by omega) q))).2 d_law_262 ?_
        exact lp_268 hw hk p0 p1 p2 p3 p4 p5 n m0 m1 m2 m3 m4 s b c rs rb xb ob rc xc oc zs hn hz hzs hm0 hm1 hm2 hm3 hm4 cn a d hel hze ha (by omega) (by rw [dk_0 (n := n) (a := a) (k := 3) (m := m3) (z := d) (fun q => by omega)] at hX; exact hX)
    · refine Wp.icT (flt (fun q => b253_2 ((ix_lt (i := a) (j := 3) (by omega) (by omega)).mp q))).2.2.2 d_law_253 ?_
      exact lp_268 hw hk p0 p1 p2 p3 p4 p5 n m0 m1 m2 m3 m4 s b c rs rb xb ob rc xc oc zs hn hz hzs hm0 hm1 hm2 hm3 hm4 cn a d hel hze ha (by omega) (by rw [dk_0 (n := n) (a := a) (k := 3) (m := m3) (z := d) (fun q => by omega)] at hX; exact hX)
  · refine Wp.icT (flt (fun q => b247_1 ((ix_lt (i := 3) (j := n) (by omega) (by omega)).mp q))).2.1 d_law_247 ?_
    exact lp_268 hw hk p0 p1 p2 p3 p4 p5 n m0 m1 m2 m3 m4 s b c rs rb xb ob rc xc oc zs hn hz hzs hm0 hm1 hm2 hm3 hm4 cn a d hel hze ha (by omega) (by rw [dk_0 (n := n) (a := a) (k := 3) (m := m3) (z := d) (fun q => by omega)] at hX; exact hX)
theorem d_law_220 : Dc code 220 (.iconst 4) 1 221 := ⟨by decide +kernel, rfl⟩
theorem d_law_221 : Dc code 221 (.iload 6) 2 223 := ⟨by decide +kernel, rfl⟩
theorem d_law_223 : Bj code 223 (.if_icmp .ge 21) 21 226 244 := ⟨by decide +kernel, rfl, by decide, rfl⟩
theorem d_law_226 : Dc code 226 (.iconst 4) 1 227 := ⟨by decide +kernel, rfl⟩
theorem d_law_227 : Dc code 227 (.iload 10) 2 229 := ⟨by decide +kernel, rfl⟩
theorem d_law_229 : Bj code 229 (.if_icmp .le 15) 15 232 244 := ⟨by decide +kernel, rfl, by decide, rfl⟩
theorem d_law_232 : Dc code 232 (.aload 7) 2 234 := ⟨by decide +kernel, rfl⟩
theorem d_law_234 : Dc code 234 (.iconst 4) 1 235 := ⟨by decide +kernel, rfl⟩
theorem d_law_235 : Dc code 235 (.caload) 1 236 := ⟨by decide +kernel, rfl⟩
theorem d_law_236 : Dc code 236 (.bipush 46) 2 238 := ⟨by decide +kernel, rfl⟩
theorem d_law_238 : Bj code 238 (.if_icmp .ne 6) 6 241 244 := ⟨by decide +kernel, rfl, by decide, rfl⟩
theorem d_law_241 : Dc code 241 (.iconst 4) 1 242 := ⟨by decide +kernel, rfl⟩
theorem d_law_242 : Dc code 242 (.istore 12) 2 244 := ⟨by decide +kernel, rfl⟩
set_option maxRecDepth 65536 in
set_option maxHeartbeats 40000000 in
theorem lp_220 {W : Wd} {K : Kx} (hw : Ws W) {s0 : State} (hk : kW K = some (s0, consts_1)) (p0 p1 p2 p3 p4 p5 : Int32) (n m0 m1 m2 m3 m4 : Nat) (s b c : Addr) (rs rb xb ob rc xc oc : Bool) (zs : List Nat) (hn : n ≤ 5) (hz : ∀ z ∈ zs, z < 256) (hzs : zs = [m0, m1, m2, m3, m4].take n) (hm0 : m0 < 256) (hm1 : m1 < 256) (hm2 : m2 < 256) (hm3 : m3 < 256) (hm4 : m4 < 256) (cn : Int32) (a d : Nat) (hel : (emF zs).length = n) (hze : ∀ z ∈ emF zs, z < 256) (ha : a < 5) (hd : d ≤ 5) (hX : HX n a (dk n a 1 m1 (dk n a 2 m2 (dk n a 3 m3 (dk n a 4 m4 d)))) m0 m1 m2 m3 m4 zs) : Wp W K M0 (fun v _ => v = some (.int 1)) [oStr rs s (.ref b) (.int 0), (b, rb, .inr (.byte, xb, ob, zb zs)), (c, rc, .inr (.char, xc, oc, [.int (ix m0), .int (ix m1), .int (ix m2), .int (ix m3), .int (ix m4)]))] 12 400 220 [.val (.int p0), .val (.int p1), .val (.int p2), .val (.int p3), .val (.int p4), .val (.int p5), .val (.int (ix n)), .val (.ref c), .val (.ref s), .val (.int cn), .val (.int (ix a)), .val (.int 1), .val (.int (ix d)), .unset] [] := by
  have hzl : zs.length = n := by rw [hzs]; exact len5 hn
  have hb0 := aN_le n 0 m0
  have hb1 := aN_le n 1 m1
  have hb2 := aN_le n 2 m2
  have hb3 := aN_le n 3 m3
  have hb4 := aN_le n 4 m4
  refine Wp.iconst lc_4 d_law_220 ?_
  refine Wp.iload rfl d_law_221 ?_
  by_cases b223_1 : 4 < n
  · refine Wp.icF (tlt ((ix_lt (i := 4) (j := n) (by omega) (by omega)).mpr b223_1)).2.1 d_law_223 ?_
    refine Wp.iconst lc_4 d_law_226 ?_
    refine Wp.iload rfl d_law_227 ?_
    by_cases b229_2 : a < 4
    · refine Wp.icF (tlt ((ix_lt (i := a) (j := 4) (by omega) (by omega)).mpr b229_2)).2.2.2 d_law_229 ?_
      refine Wp.aload rfl rfl d_law_232 ?_
      refine Wp.iconst lc_4 d_law_234 ?_
      refine Wp.caload 2 4 rfl (by decide) (by decide) rfl d_law_235 ?_
      refine Wp.bipush lb_46 d_law_236 ?_
      by_cases b238_3 : m4 = 46
      · refine Wp.icF (teq (congrArg ix b238_3)).2 d_law_238 ?_
        refine Wp.iconst lc_4 d_law_241 ?_
        refine Wp.istore (L' := [.val (.int p0), .val (.int p1), .val (.int p2), .val (.int p3), .val (.int p4), .val (.int p5), .val (.int (ix n)), .val (.ref c), .val (.ref s), .val (.int cn), .val (.int (ix a)), .val (.int 1), .val (.int 4), .unset]) rfl d_law_242 ?_
        exact lp_244 hw hk p0 p1 p2 p3 p4 p5 n m0 m1 m2 m3 m4 s b c rs rb xb ob rc xc oc zs hn hz hzs hm0 hm1 hm2 hm3 hm4 cn a 4 hel hze ha (by omega) (by rw [dk_1 b223_1 b229_2 b238_3] at hX; exact hX)
      · refine Wp.icT (feq (fun q => b238_3 (ix_eq (by omega) (by omega) q))).2 d_law_238 ?_
        exact lp_244 hw hk p0 p1 p2 p3 p4 p5 n m0 m1 m2 m3 m4 s b c rs rb xb ob rc xc oc zs hn hz hzs hm0 hm1 hm2 hm3 hm4 cn a d hel hze ha (by omega) (by rw [dk_0 (n := n) (a := a) (k := 4) (m := m4) (z := d) (fun q => by omega)] at hX; exact hX)
    · refine Wp.icT (flt (fun q => b229_2 ((ix_lt (i := a) (j := 4) (by omega) (by omega)).mp q))).2.2.2 d_law_229 ?_
      exact lp_244 hw hk p0 p1 p2 p3 p4 p5 n m0 m1 m2 m3 m4 s b c rs rb xb ob rc xc oc zs hn hz hzs hm0 hm1 hm2 hm3 hm4 cn a d hel hze ha (by omega) (by rw [dk_0 (n := n) (a := a) (k := 4) (m := m4) (z := d) (fun q => by omega)] at hX; exact hX)
  · refine Wp.icT (flt (fun q => b223_1 ((ix_lt (i := 4) (j := n) (by omega) (by omega)).mp q))).2.1 d_law_223 ?_
    exact lp_244 hw hk p0 p1 p2 p3 p4 p5 n m0 m1 m2 m3 m4 s b c rs rb xb ob rc xc oc zs hn hz hzs hm0 hm1 hm2 hm3 hm4 cn a d hel hze ha (by omega) (by rw [dk_0 (n := n) (a := a) (k := 4) (m := m4) (z := d) (fun q => by omega)] at hX; exact hX)
theorem d_law_211 : Dc code 211 (.iload 6) 2 213 := ⟨by decide +kernel, rfl⟩
theorem d_law_213 : Dc code 213 (.istore 12) 2 215 := ⟨by decide +kernel, rfl⟩
theorem d_law_215 : Dc code 215 (.iload 11) 2 217 := ⟨by decide +kernel, rfl⟩
theorem d_law_217 : Bj code 217 (.ifCond .eq 99) 99 220 316 := ⟨by decide +kernel, rfl, by decide, rfl⟩
set_option maxRecDepth 65536 in
set_option maxHeartbeats 40000000 in
theorem lp_211_1 {W : Wd} {K : Kx} (hw : Ws W) {s0 : State} (hk : kW K = some (s0, consts_1)) (p0 p1 p2 p3 p4 p5 : Int32) (n m0 m1 m2 m3 m4 : Nat) (s b c : Addr) (rs rb xb ob rc xc oc : Bool) (zs : List Nat) (hn : n ≤ 5) (hz : ∀ z ∈ zs, z < 256) (hzs : zs = [m0, m1, m2, m3, m4].take n) (hm0 : m0 < 256) (hm1 : m1 < 256) (hm2 : m2 < 256) (hm3 : m3 < 256) (hm4 : m4 < 256) (cn : Int32) (a : Nat) (hel : (emF zs).length = n) (hze : ∀ z ∈ emF zs, z < 256) (ha : a < 5) (hX : HX n a (dk n a 1 m1 (dk n a 2 m2 (dk n a 3 m3 (dk n a 4 m4 n)))) m0 m1 m2 m3 m4 zs) : Wp W K M0 (fun v _ => v = some (.int 1)) [oStr rs s (.ref b) (.int 0), (b, rb, .inr (.byte, xb, ob, zb zs)), (c, rc, .inr (.char, xc, oc, [.int (ix m0), .int (ix m1), .int (ix m2), .int (ix m3), .int (ix m4)]))] 12 400 211 [.val (.int p0), .val (.int p1), .val (.int p2), .val (.int p3), .val (.int p4), .val (.int p5), .val (.int (ix n)), .val (.ref c), .val (.ref s), .val (.int cn), .val (.int (ix a)), .val (.int 1), .unset, .unset] [] := by
  have hzl : zs.length = n := by rw [hzs]; exact len5 hn
  have hb0 := aN_le n 0 m0
  have hb1 := aN_le n 1 m1
  have hb2 := aN_le n 2 m2
  have hb3 := aN_le n 3 m3
  have hb4 := aN_le n 4 m4
  refine Wp.iload rfl d_law_211 ?_
  refine Wp.istore (L' := [.val (.int p0), .val (.int p1), .val (.int p2), .val (.int p3), .val (.int p4), .val (.int p5), .val (.int (ix n)), .val (.ref c), .val (.ref s), .val (.int cn), .val (.int (ix a)), .val (.int 1), .val (.int (ix n)), .unset]) rfl d_law_213 ?_
  refine Wp.iload rfl d_law_215 ?_
  refine Wp.ifF (by decide) d_law_217 ?_
  exact lp_220 hw hk p0 p1 p2 p3 p4 p5 n m0 m1 m2 m3 m4 s b c rs rb xb ob rc xc oc zs hn hz hzs hm0 hm1 hm2 hm3 hm4 cn a n hel hze ha hn hX
set_option maxRecDepth 65536 in
set_option maxHeartbeats 40000000 in
theorem lp_211_0 {W : Wd} {K : Kx} (hw : Ws W) {s0 : State} (hk : kW K = some (s0, consts_1)) (p0 p1 p2 p3 p4 p5 : Int32) (n m0 m1 m2 m3 m4 : Nat) (s b c : Addr) (rs rb xb ob rc xc oc : Bool) (zs : List Nat) (hn : n ≤ 5) (hz : ∀ z ∈ zs, z < 256) (hzs : zs = [m0, m1, m2, m3, m4].take n) (hm0 : m0 < 256) (hm1 : m1 < 256) (hm2 : m2 < 256) (hm3 : m3 < 256) (hm4 : m4 < 256) (cn at_ : Int32) (hel : (emF zs).length = n) (hze : ∀ z ∈ emF zs, z < 256) (hX : ∀ i, i < n → (emF zs).getD i 0 = 42) : Wp W K M0 (fun v _ => v = some (.int 1)) [oStr rs s (.ref b) (.int 0), (b, rb, .inr (.byte, xb, ob, zb zs)), (c, rc, .inr (.char, xc, oc, [.int (ix m0), .int (ix m1), .int (ix m2), .int (ix m3), .int (ix m4)]))] 12 400 211 [.val (.int p0), .val (.int p1), .val (.int p2), .val (.int p3), .val (.int p4), .val (.int p5), .val (.int (ix n)), .val (.ref c), .val (.ref s), .val (.int cn), .val (.int at_), .val (.int 0), .unset, .unset] [] := by
  have hzl : zs.length = n := by rw [hzs]; exact len5 hn
  have hb0 := aN_le n 0 m0
  have hb1 := aN_le n 1 m1
  have hb2 := aN_le n 2 m2
  have hb3 := aN_le n 3 m3
  have hb4 := aN_le n 4 m4
  refine Wp.iload rfl d_law_211 ?_
  refine Wp.istore (L' := [.val (.int p0), .val (.int p1), .val (.int p2), .val (.int p3), .val (.int p4), .val (.int p5), .val (.int (ix n)), .val (.ref c), .val (.ref s), .val (.int cn), .val (.int at_), .val (.int 0), .val (.int (ix n)), .unset]) rfl d_law_213 ?_
  refine Wp.iload rfl d_law_215 ?_
  refine Wp.ifT (by decide) d_law_217 ?_
  exact lp_316_0 hw hk p0 p1 p2 p3 p4 p5 n m0 m1 m2 m3 m4 s b c rs rb xb ob rc xc oc zs hn hz hzs hm0 hm1 hm2 hm3 hm4 cn at_ _ hel hze hX
theorem d_law_184 : Dc code 184 (.iload 9) 2 186 := ⟨by decide +kernel, rfl⟩
theorem d_law_186 : Dc code 186 (.iconst 1) 1 187 := ⟨by decide +kernel, rfl⟩
theorem d_law_187 : Bj code 187 (.if_icmp .ne 21) 21 190 208 := ⟨by decide +kernel, rfl, by decide, rfl⟩
theorem d_law_190 : Dc code 190 (.iload 10) 2 192 := ⟨by decide +kernel, rfl⟩
theorem d_law_192 : Bj code 192 (.ifCond .le 16) 16 195 208 := ⟨by decide +kernel, rfl, by decide, rfl⟩
theorem d_law_195 : Dc code 195 (.iload 10) 2 197 := ⟨by decide +kernel, rfl⟩
theorem d_law_197 : Dc code 197 (.iload 6) 2 199 := ⟨by decide +kernel, rfl⟩
theorem d_law_199 : Dc code 199 (.iconst 1) 1 200 := ⟨by decide +kernel, rfl⟩
theorem d_law_200 : Dc code 200 (.isub) 1 201 := ⟨by decide +kernel, rfl⟩
theorem d_law_201 : Bj code 201 (.if_icmp .ge 7) 7 204 208 := ⟨by decide +kernel, rfl, by decide, rfl⟩
theorem d_law_204 : Dc code 204 (.iconst 1) 1 205 := ⟨by decide +kernel, rfl⟩
theorem d_law_205 : Bj code 205 (.goto 4) 4 208 209 := ⟨by decide +kernel, rfl, by decide, rfl⟩
theorem d_law_209 : Dc code 209 (.istore 11) 2 211 := ⟨by decide +kernel, rfl⟩
theorem d_law_208 : Dc code 208 (.iconst 0) 1 209 := ⟨by decide +kernel, rfl⟩
set_option maxRecDepth 65536 in
set_option maxHeartbeats 40000000 in
theorem lp_184 {W : Wd} {K : Kx} (hw : Ws W) {s0 : State} (hk : kW K = some (s0, consts_1)) (p0 p1 p2 p3 p4 p5 : Int32) (n m0 m1 m2 m3 m4 : Nat) (s b c : Addr) (rs rb xb ob rc xc oc : Bool) (zs : List Nat) (hn : n ≤ 5) (hz : ∀ z ∈ zs, z < 256) (hzs : zs = [m0, m1, m2, m3, m4].take n) (hm0 : m0 < 256) (hm1 : m1 < 256) (hm2 : m2 < 256) (hm3 : m3 < 256) (hm4 : m4 < 256) (at_ : Int32) (hel : (emF zs).length = n) (hze : ∀ z ∈ emF zs, z < 256) (hat : at_ = atF n m0 m1 m2 m3 m4) : Wp W K M0 (fun v _ => v = some (.int 1)) [oStr rs s (.ref b) (.int 0), (b, rb, .inr (.byte, xb, ob, zb zs)), (c, rc, .inr (.char, xc, oc, [.int (ix m0), .int (ix m1), .int (ix m2), .int (ix m3), .int (ix m4)]))] 12 400 184 [.val (.int p0), .val (.int p1), .val (.int p2), .val (.int p3), .val (.int p4), .val (.int p5), .val (.int (ix n)), .val (.ref c), .val (.ref s), .val (.int (ix (aN n 0 m0 + aN n 1 m1 + aN n 2 m2 + aN n 3 m3 + aN n 4 m4))), .val (.int at_), .unset, .unset, .unset] [] := by
  have hzl : zs.length = n := by rw [hzs]; exact len5 hn
  have hb0 := aN_le n 0 m0
  have hb1 := aN_le n 1 m1
  have hb2 := aN_le n 2 m2
  have hb3 := aN_le n 3 m3
  have hb4 := aN_le n 4 m4
  refine Wp.iload rfl d_law_184 ?_
  refine Wp.iconst lc_1 d_law_186 ?_
  by_cases b187_1 : (aN n 0 m0 + aN n 1 m1 + aN n 2 m2 + aN n 3 m3 + aN n 4 m4) = 1
  · refine Wp.icF (teq (congrArg ix b187_1)).2 d_law_187 ?_
    have hn1 := cnt_pos b187_1
    refine Wp.iload rfl d_law_190 ?_
    by_cases b192_2 : 0 < at_
    · refine Wp.ifF (tlt b192_2).2.2.2 d_law_192 ?_
      refine Wp.iload rfl d_law_195 ?_
      refine Wp.iload rfl d_law_197 ?_
      refine Wp.iconst lc_1 d_law_199 ?_
      refine Wp.isub (z := (ix (n - 1))) (ix_sub (a := n) (b := 1) (by omega)) d_law_200 ?_
      by_cases b201_3 : at_ < (ix (n - 1))
      · refine Wp.icF (tlt b201_3).2.1 d_law_201 ?_
        refine Wp.iconst lc_1 d_law_204 ?_
        refine Wp.goto d_law_205 ?_
        refine Wp.istore (L' := [.val (.int p0), .val (.int p1), .val (.int p2), .val (.int p3), .val (.int p4), .val (.int p5), .val (.int (ix n)), .val (.ref c), .val (.ref s), .val (.int (ix (aN n 0 m0 + aN n 1 m1 + aN n 2 m2 + aN n 3 m3 + aN n 4 m4))), .val (.int at_), .val (.int 1), .unset, .unset]) rfl d_law_209 ?_
        obtain ⟨a, ea, ha0, han, ha5, hg, ho⟩ := one_at hn b187_1 (hat ▸ b192_2)
        obtain rfl : at_ = ix a := hat.trans ea
        have hb : a < n - 1 := (ix_lt (i := a) (j := n - 1) (by omega) (by omega)).mp b201_3
        exact lp_211_1 hw hk p0 p1 p2 p3 p4 p5 n m0 m1 m2 m3 m4 s b c rs rb xb ob rc xc oc zs hn hz hzs hm0 hm1 hm2 hm3 hm4 _ a hel hze ha5 (fin_one hn hzs ha0 hb hg ho)
      · refine Wp.icT (flt b201_3).2.1 d_law_201 ?_
        refine Wp.iconst lc_0 d_law_208 ?_
        refine Wp.istore (L' := [.val (.int p0), .val (.int p1), .val (.int p2), .val (.int p3), .val (.int p4), .val (.int p5), .val (.int (ix n)), .val (.ref c), .val (.ref s), .val (.int (ix (aN n 0 m0 + aN n 1 m1 + aN n 2 m2 + aN n 3 m3 + aN n 4 m4))), .val (.int at_), .val (.int 0), .unset, .unset]) rfl d_law_209 ?_
        exact lp_211_0 hw hk p0 p1 p2 p3 p4 p5 n m0 m1 m2 m3 m4 s b c rs rb xb ob rc xc oc zs hn hz hzs hm0 hm1 hm2 hm3 hm4 _ at_ hel hze (fin_no hn hzs hat (fun q => b201_3 q.2.2))
    · refine Wp.ifT (flt b192_2).2.2.2 d_law_192 ?_
      refine Wp.iconst lc_0 d_law_208 ?_
      refine Wp.istore (L' := [.val (.int p0), .val (.int p1), .val (.int p2), .val (.int p3), .val (.int p4), .val (.int p5), .val (.int (ix n)), .val (.ref c), .val (.ref s), .val (.int (ix (aN n 0 m0 + aN n 1 m1 + aN n 2 m2 + aN n 3 m3 + aN n 4 m4))), .val (.int at_), .val (.int 0), .unset, .unset]) rfl d_law_209 ?_
      exact lp_211_0 hw hk p0 p1 p2 p3 p4 p5 n m0 m1 m2 m3 m4 s b c rs rb xb ob rc xc oc zs hn hz hzs hm0 hm1 hm2 hm3 hm4 _ at_ hel hze (fin_no hn hzs hat (fun q => b192_2 q.2.1))
  · refine Wp.icT (feq (fun q => b187_1 (ix_eq (by omega) (by omega) q))).2 d_law_187 ?_
    refine Wp.iconst lc_0 d_law_208 ?_
    refine Wp.istore (L' := [.val (.int p0), .val (.int p1), .val (.int p2), .val (.int p3), .val (.int p4), .val (.int p5), .val (.int (ix n)), .val (.ref c), .val (.ref s), .val (.int (ix (aN n 0 m0 + aN n 1 m1 + aN n 2 m2 + aN n 3 m3 + aN n 4 m4))), .val (.int at_), .val (.int 0), .unset, .unset]) rfl d_law_209 ?_
    exact lp_211_0 hw hk p0 p1 p2 p3 p4 p5 n m0 m1 m2 m3 m4 s b c rs rb xb ob rc xc oc zs hn hz hzs hm0 hm1 hm2 hm3 hm4 _ at_ hel hze (fin_no hn hzs hat (fun q => b187_1 q.1))
theorem d_law_169 : Dc code 169 (.aload 7) 2 171 := ⟨by decide +kernel, rfl⟩
theorem d_law_171 : Dc code 171 (.iload 6) 2 173 := ⟨by decide +kernel, rfl⟩
theorem d_law_173 : Dc code 173 (.iconst 0) 1 174 := ⟨by decide +kernel, rfl⟩
theorem d_law_174 : Dc code 174 (.invokestatic 30) 3 177 := ⟨by decide +kernel, rfl⟩
theorem w_32 {W : Wd} (hw : Ws W) : Wok W (Jvm.Cond.code ({ cls := "com/example/polje/polje/ObfuscatorsEmailPinLaw", name := "isAt", desc := "([CII)I" } : Jvm.MethodName) method_4_code (3 : Nat) (Option.some Jvm.ClassFile.FieldType.int)) := hw.1 _ (List.mem_of_getElem? (i := 32) rfl)
theorem pd___CII_I : parseMethodDescriptor "([CII)I" = some ⟨[(.array .char), .int, .int], some .int⟩ := by decide +kernel
theorem mk_M_ia0 {W : Wd} (hw : Ws W) : Mk W M_ia0 ⟨"com/example/polje/polje/ObfuscatorsEmailPinLaw", "isAt", "([CII)I"⟩ 3 := Mk.of nm_M_ia0 rfl rfl rfl (w_32 hw) (w_4 hw) (mkLen pd___CII_I rfl) (by decide)
theorem w_30 {W : Wd} (hw : Ws W) : Wok W (Jvm.Cond.methodLink "com/example/polje/polje/ObfuscatorsEmailPinLaw" (30 : Nat) ({ cls := "com/example/polje/polje/ObfuscatorsEmailPinLaw", name := "isAt", desc := "([CII)I" } : Jvm.MethodName)) := hw.1 _ (List.mem_of_getElem? (i := 30) rfl)
theorem w_31 {W : Wd} (hw : Ws W) : Wok W (Jvm.Cond.static ({ cls := "com/example/polje/polje/ObfuscatorsEmailPinLaw", name := "isAt", desc := "([CII)I" } : Jvm.MethodName)) := hw.1 _ (List.mem_of_getElem? (i := 31) rfl)
theorem d_law_177 : Dc code 177 (.iconst 1) 1 178 := ⟨by decide +kernel, rfl⟩
theorem d_law_178 : Bj code 178 (.if_icmp .ne 6) 6 181 184 := ⟨by decide +kernel, rfl, by decide, rfl⟩
theorem d_law_181 : Dc code 181 (.iconst 0) 1 182 := ⟨by decide +kernel, rfl⟩
theorem d_law_182 : Dc code 182 (.istore 10) 2 184 := ⟨by decide +kernel, rfl⟩
set_option maxRecDepth 65536 in
set_option maxHeartbeats 40000000 in
theorem lp_169 {W : Wd} {K : Kx} (hw : Ws W) {s0 : State} (hk : kW K = some (s0, consts_1)) (p0 p1 p2 p3 p4 p5 : Int32) (n m0 m1 m2 m3 m4 : Nat) (s b c : Addr) (rs rb xb ob rc xc oc : Bool) (zs : List Nat) (hn : n ≤ 5) (hz : ∀ z ∈ zs, z < 256) (hzs : zs = [m0, m1, m2, m3, m4].take n) (hm0 : m0 < 256) (hm1 : m1 < 256) (hm2 : m2 < 256) (hm3 : m3 < 256) (hm4 : m4 < 256) (z : Int32) (hel : (emF zs).length = n) (hze : ∀ z ∈ emF zs, z < 256) (hA : pick (aN n 0 m0) 0 z = atF n m0 m1 m2 m3 m4) : Wp W K M0 (fun v _ => v = some (.int 1)) [oStr rs s (.ref b) (.int 0), (b, rb, .inr (.byte, xb, ob, zb zs)), (c, rc, .inr (.char, xc, oc, [.int (ix m0), .int (ix m1), .int (ix m2), .int (ix m3), .int (ix m4)]))] 12 400 169 [.val (.int p0), .val (.int p1), .val (.int p2), .val (.int p3), .val (.int p4), .val (.int p5), .val (.int (ix n)), .val (.ref c), .val (.ref s), .val (.int (ix (aN n 0 m0 + aN n 1 m1 + aN n 2 m2 + aN n 3 m3 + aN n 4 m4))), .val (.int z), .unset, .unset, .unset] [] := by
  have hzl : zs.length = n := by rw [hzs]; exact len5 hn
  have hb0 := aN_le n 0 m0
  have hb1 := aN_le n 1 m1
  have hb2 := aN_le n 2 m2
  have hb3 := aN_le n 3 m3
  have hb4 := aN_le n 4 m4
  refine Wp.aload rfl rfl d_law_169 ?_
  refine Wp.iload rfl d_law_171 ?_
  refine Wp.iconst lc_0 d_law_173 ?_
  refine Wp.perm [2, 0, 1] 3 pp_2_0_1 (H' := [(c, rc, .inr (.char, xc, oc, [.int (ix m0), .int (ix m1), .int (ix m2), .int (ix m3), .int (ix m4)])), oStr rs s (.ref b) (.int 0), (b, rb, .inr (.byte, xb, ob, zb zs))]) rfl ?_
  refine Wp.callS nm_M0 (fun _ => rm_ia0 hw.set c rc xc oc m0 m1 m2 m3 m4 n _ (by omega) (by omega) (by omega) (by omega) (by omega) (by omega)) (mk_M_ia0 hw) (w_30 hw) (w_31 hw) rfl rfl (Wn := 0) rfl rfl (by decide) d_law_174 ?_
  rintro _ _ ⟨rfl, rfl⟩
  refine Wp.iconst lc_1 d_law_177 ?_
  by_cases b178_1 : (aN n 0 m0) = 1
  · refine Wp.icF (teq (congrArg ix b178_1)).2 d_law_178 ?_
    refine Wp.iconst lc_0 d_law_181 ?_
    refine Wp.istore (L' := [.val (.int p0), .val (.int p1), .val (.int p2), .val (.int p3), .val (.int p4), .val (.int p5), .val (.int (ix n)), .val (.ref c), .val (.ref s), .val (.int (ix (aN n 0 m0 + aN n 1 m1 + aN n 2 m2 + aN n 3 m3 + aN n 4 m4))), .val (.int 0), .unset, .unset, .unset]) rfl d_law_182 ?_
    refine Wp.perm [1, 2, 0] 3 pp_1_2_0 (H' := [oStr rs s (.ref b) (.int 0), (b, rb, .inr (.byte, xb, ob, zb zs)), (c, rc, .inr (.char, xc, oc, [.int (ix m0), .int (ix m1), .int (ix m2), .int (ix m3), .int (ix m4)]))]) rfl ?_
    refine Wp.room (c' := 12) (n' := 400) (by decide) (by decide) ?_
    exact lp_184 hw hk p0 p1 p2 p3 p4 p5 n m0 m1 m2 m3 m4 s b c rs rb xb ob rc xc oc zs hn hz hzs hm0 hm1 hm2 hm3 hm4 0 hel hze (by rw [← hA, pick_1 b178_1]; rfl)
  · refine Wp.icT (feq (fun q => b178_1 (ix_eq (by omega) (by omega) q))).2 d_law_178 ?_
    refine Wp.perm [1, 2, 0] 3 pp_1_2_0 (H' := [oStr rs s (.ref b) (.int 0), (b, rb, .inr (.byte, xb, ob, zb zs)), (c, rc, .inr (.char, xc, oc, [.int (ix m0), .int (ix m1), .int (ix m2), .int (ix m3), .int (ix m4)]))]) rfl ?_
    refine Wp.room (c' := 12) (n' := 400) (by decide) (by decide) ?_
    exact lp_184 hw hk p0 p1 p2 p3 p4 p5 n m0 m1 m2 m3 m4 s b c rs rb xb ob rc xc oc zs hn hz hzs hm0 hm1 hm2 hm3 hm4 z hel hze (by rw [← hA, pick_0 b178_1])
theorem d_law_154 : Dc code 154 (.aload 7) 2 156 := ⟨by decide +kernel, rfl⟩
theorem d_law_156 : Dc code 156 (.iload 6) 2 158 := ⟨by decide +kernel, rfl⟩
theorem d_law_158 : Dc code 158 (.iconst 1) 1 159 := ⟨by decide +kernel, rfl⟩
theorem d_law_159 : Dc code 159 (.invokestatic 30) 3 162 := ⟨by decide +kernel, rfl⟩
theorem mk_M_ia1 {W : Wd} (hw : Ws W) : Mk W M_ia1 ⟨"com/example/polje/polje/ObfuscatorsEmailPinLaw", "isAt", "([CII)I"⟩ 3 := Mk.of nm_M_ia1 rfl rfl rfl (w_32 hw) (w_4 hw) (mkLen pd___CII_I rfl) (by decide)
theorem d_law_162 : Dc code 162 (.iconst 1) 1 163 := ⟨by decide +kernel, rfl⟩
theorem d_law_163 : Bj code 163 (.if_icmp .ne 6) 6 166 169 := ⟨by decide +kernel, rfl, by decide, rfl⟩
theorem d_law_166 : Dc code 166 (.iconst 1) 1 167 := ⟨by decide +kernel, rfl⟩
theorem d_law_167 : Dc code 167 (.istore 10) 2 169 := ⟨by decide +kernel, rfl⟩
set_option maxRecDepth 65536 in
set_option maxHeartbeats 40000000 in
theorem lp_154 {W : Wd} {K : Kx} (hw : Ws W) {s0 : State} (hk : kW K = some (s0, consts_1)) (p0 p1 p2 p3 p4 p5 : Int32) (n m0 m1 m2 m3 m4 : Nat) (s b c : Addr) (rs rb xb ob rc xc oc : Bool) (zs : List Nat) (hn : n ≤ 5) (hz : ∀ z ∈ zs, z < 256) (hzs : zs = [m0, m1, m2, m3, m4].take n) (hm0 : m0 < 256) (hm1 : m1 < 256) (hm2 : m2 < 256) (hm3 : m3 < 256) (hm4 : m4 < 256) (z : Int32) (hel : (emF zs).length = n) (hze : ∀ z ∈ emF zs, z < 256) (hA : pick (aN n 0 m0) 0 (pick (aN n 1 m1) 1 z) = atF n m0 m1 m2 m3 m4) : Wp W K M0 (fun v _ => v = some (.int 1)) [oStr rs s (.ref b) (.int 0), (b, rb, .inr (.byte, xb, ob, zb zs)), (c, rc, .inr (.char, xc, oc, [.int (ix m0), .int (ix m1), .int (ix m2), .int (ix m3), .int (ix m4)]))] 12 400 154 [.val (.int p0), .val (.int p1), .val (.int p2), .val (.int p3), .val (.int p4), .val (.int p5), .val (.int (ix n)), .val (.ref c), .val (.ref s), .val (.int (ix (aN n 0 m0 + aN n 1 m1 + aN n 2 m2 + aN n 3 m3 + aN n 4 m4))), .val (.int z), .unset, .unset, .unset] [] := by
  have hzl : zs.length = n := by rw [hzs]; exact len5 hn
  have hb0 := aN_le n 0 m0
  have hb1 := aN_le n 1 m1
  have hb2 := aN_le n 2 m2
  have hb3 := aN_le n 3 m3
  have hb4 := aN_le n 4 m4
  refine Wp.aload rfl rfl d_law_154 ?_
  refine Wp.iload rfl d_law_156 ?_
  refine Wp.iconst lc_1 d_law_158 ?_
  refine Wp.perm [2, 0, 1] 3 pp_2_0_1 (H' := [(c, rc, .inr (.char, xc, oc, [.int (ix m0), .int (ix m1), .int (ix m2), .int (ix m3), .int (ix m4)])), oStr rs s (.ref b) (.int 0), (b, rb, .inr (.byte, xb, ob, zb zs))]) rfl ?_
  refine Wp.callS nm_M0 (fun _ => rm_ia1 hw.set c rc xc oc m0 m1 m2 m3 m4 n _ (by omega) (by omega) (by omega) (by omega) (by omega) (by omega)) (mk_M_ia1 hw) (w_30 hw) (w_31 hw) rfl rfl (Wn := 0) rfl rfl (by decide) d_law_159 ?_
  rintro _ _ ⟨rfl, rfl⟩
  refine Wp.iconst lc_1 d_law_162 ?_
  by_cases b163_1 : (aN n 1 m1) = 1
  · refine Wp.icF (teq (congrArg ix b163_1)).2 d_law_163 ?_
    refine Wp.iconst lc_1 d_law_166 ?_
    refine Wp.istore (L' := [.val (.int p0), .val (.int p1), .val (.int p2), .val (.int p3), .val (.int p4), .val (.int p5), .val (.int (ix n)), .val (.ref c), .val (.ref s), .val (.int (ix (aN n 0 m0 + aN n 1 m1 + aN n 2 m2 + aN n 3 m3 + aN n 4 m4))), .val (.int 1), .unset, .unset, .unset]) rfl d_law_167 ?_
    refine Wp.perm [1, 2, 0] 3 pp_1_2_0 (H' := [oStr rs s (.ref b) (.int 0), (b, rb, .inr (.byte, xb, ob, zb zs)), (c, rc, .inr (.char, xc, oc, [.int (ix m0), .int (ix m1), .int (ix m2), .int (ix m3), .int (ix m4)]))]) rfl ?_
    refine Wp.room (c' := 12) (n' := 400) (by decide) (by decide) ?_
    exact lp_169 hw hk p0 p1 p2 p3 p4 p5 n m0 m1 m2 m3 m4 s b c rs rb xb ob rc xc oc zs hn hz hzs hm0 hm1 hm2 hm3 hm4 1 hel hze (by rw [pick_1 b163_1] at hA; exact hA)
  · refine Wp.icT (feq (fun q => b163_1 (ix_eq (by omega) (by omega) q))).2 d_law_163 ?_
    refine Wp.perm [1, 2, 0] 3 pp_1_2_0 (H' := [oStr rs s (.ref b) (.int 0), (b, rb, .inr (.byte, xb, ob, zb zs)), (c, rc, .inr (.char, xc, oc, [.int (ix m0), .int (ix m1), .int (ix m2), .int (ix m3), .int (ix m4)]))]) rfl ?_
    refine Wp.room (c' := 12) (n' := 400) (by decide) (by decide) ?_
    exact lp_169 hw hk p0 p1 p2 p3 p4 p5 n m0 m1 m2 m3 m4 s b c rs rb xb ob rc xc oc zs hn hz hzs hm0 hm1 hm2 hm3 hm4 z hel hze (by rw [pick_0 b163_1] at hA; exact hA)
theorem d_law_139 : Dc code 139 (.aload 7) 2 141 := ⟨by decide +kernel, rfl⟩
theorem d_law_141 : Dc code 141 (.iload 6) 2 143 := ⟨by decide +kernel, rfl⟩
theorem d_law_143 : Dc code 143 (.iconst 2) 1 144 := ⟨by decide +kernel, rfl⟩
theorem d_law_144 : Dc code 144 (.invokestatic 30) 3 147 := ⟨by decide +kernel, rfl⟩
theorem mk_M_ia2 {W : Wd} (hw : Ws W) : Mk W M_ia2 ⟨"com/example/polje/polje/ObfuscatorsEmailPinLaw", "isAt", "([CII)I"⟩ 3 := Mk.of nm_M_ia2 rfl rfl rfl (w_32 hw) (w_4 hw) (mkLen pd___CII_I rfl) (by decide)
theorem d_law_147 : Dc code 147 (.iconst 1) 1 148 := ⟨by decide +kernel, rfl⟩
theorem d_law_148 : Bj code 148 (.if_icmp .ne 6) 6 151 154 := ⟨by decide +kernel, rfl, by decide, rfl⟩
theorem d_law_151 : Dc code 151 (.iconst 2) 1 152 := ⟨by decide +kernel, rfl⟩
theorem d_law_152 : Dc code 152 (.istore 10) 2 154 := ⟨by decide +kernel, rfl⟩
set_option maxRecDepth 65536 in
set_option maxHeartbeats 40000000 in
theorem lp_139 {W : Wd} {K : Kx} (hw : Ws W) {s0 : State} (hk : kW K = some (s0, consts_1)) (p0 p1 p2 p3 p4 p5 : Int32) (n m0 m1 m2 m3 m4 : Nat) (s b c : Addr) (rs rb xb ob rc xc oc : Bool) (zs : List Nat) (hn : n ≤ 5) (hz : ∀ z ∈ zs, z < 256) (hzs : zs = [m0, m1, m2, m3, m4].take n) (hm0 : m0 < 256) (hm1 : m1 < 256) (hm2 : m2 < 256) (hm3 : m3 < 256) (hm4 : m4 < 256) (z : Int32) (hel : (emF zs).length = n) (hze : ∀ z ∈ emF zs, z < 256) (hA : pick (aN n 0 m0) 0 (pick (aN n 1 m1) 1 (pick (aN n 2 m2) 2 z)) = atF n m0 m1 m2 m3 m4) : Wp W K M0 (fun v _ => v = some (.int 1)) [oStr rs s (.ref b) (.int 0), (b, rb, .inr (.byte, xb, ob, zb zs)), (c, rc, .inr (.char, xc, oc, [.int (ix m0), .int (ix m1), .int (ix m2), .int (ix m3), .int (ix m4)]))] 12 400 139 [.val (.int p0), .val (.int p1), .val (.int p2), .val (.int p3), .val (.int p4), .val (.int p5), .val (.int (ix n)), .val (.ref c), .val (.ref s), .val (.int (ix (aN n 0 m0 + aN n 1 m1 + aN n 2 m2 + aN n 3 m3 + aN n 4 m4))), .val (.int z), .unset, .unset, .unset] [] := by
  have hzl : zs.length = n := by rw [hzs]; exact len5 hn
  have hb0 := aN_le n 0 m0
  have hb1 := aN_le n 1 m1
  have hb2 := aN_le n 2 m2
  have hb3 := aN_le n 3 m3
  have hb4 := aN_le n 4 m4
  refine Wp.aload rfl rfl d_law_139 ?_
  refine Wp.iload rfl d_law_141 ?_
  refine Wp.iconst lc_2 d_law_143 ?_
  refine Wp.perm [2, 0, 1] 3 pp_2_0_1 (H' := [(c, rc, .inr (.char, xc, oc, [.int (ix m0), .int (ix m1), .int (ix m2), .int (ix m3), .int (ix m4)])), oStr rs s (.ref b) (.int 0), (b, rb, .inr (.byte, xb, ob, zb zs))]) rfl ?_
  refine Wp.callS nm_M0 (fun _ => rm_ia2 hw.set c rc xc oc m0 m1 m2 m3 m4 n _ (by omega) (by omega) (by omega) (by omega) (by omega) (by omega)) (mk_M_ia2 hw) (w_30 hw) (w_31 hw) rfl rfl (Wn := 0) rfl rfl (by decide) d_law_144 ?_
  rintro _ _ ⟨rfl, rfl⟩
  refine Wp.iconst lc_1 d_law_147 ?_
  by_cases b148_1 : (aN n 2 m2) = 1
  · refine Wp.icF (teq (congrArg ix b148_1)).2 d_law_148 ?_
    refine Wp.iconst lc_2 d_law_151 ?_
    refine Wp.istore (L' := [.val (.int p0), .val (.int p1), .val (.int p2), .val (.int p3), .val (.int p4), .val (.int p5), .val (.int (ix n)), .val (.ref c), .val (.ref s), .val (.int (ix (aN n 0 m0 + aN n 1 m1 + aN n 2 m2 + aN n 3 m3 + aN n 4 m4))), .val (.int 2), .unset, .unset, .unset]) rfl d_law_152 ?_
    refine Wp.perm [1, 2, 0] 3 pp_1_2_0 (H' := [oStr rs s (.ref b) (.int 0), (b, rb, .inr (.byte, xb, ob, zb zs)), (c, rc, .inr (.char, xc, oc, [.int (ix m0), .int (ix m1), .int (ix m2), .int (ix m3), .int (ix m4)]))]) rfl ?_
    refine Wp.room (c' := 12) (n' := 400) (by decide) (by decide) ?_
    exact lp_154 hw hk p0 p1 p2 p3 p4 p5 n m0 m1 m2 m3 m4 s b c rs rb xb ob rc xc oc zs hn hz hzs hm0 hm1 hm2 hm3 hm4 2 hel hze (by rw [pick_1 b148_1] at hA; exact hA)
  · refine Wp.icT (feq (fun q => b148_1 (ix_eq (by omega) (by omega) q))).2 d_law_148 ?_
    refine Wp.perm [1, 2, 0] 3 pp_1_2_0 (H' := [oStr rs s (.ref b) (.int 0), (b, rb, .inr (.byte, xb, ob, zb zs)), (c, rc, .inr (.char, xc, oc, [.int (ix m0), .int (ix m1), .int (ix m2), .int (ix m3), .int (ix m4)]))]) rfl ?_
    refine Wp.room (c' := 12) (n' := 400) (by decide) (by decide) ?_
    exact lp_154 hw hk p0 p1 p2 p3 p4 p5 n m0 m1 m2 m3 m4 s b c rs rb xb ob rc xc oc zs hn hz hzs hm0 hm1 hm2 hm3 hm4 z hel hze (by rw [pick_0 b148_1] at hA; exact hA)
theorem d_law_124 : Dc code 124 (.aload 7) 2 126 := ⟨by decide +kernel, rfl⟩
theorem d_law_126 : Dc code 126 (.iload 6) 2 128 := ⟨by decide +kernel, rfl⟩
theorem d_law_128 : Dc code 128 (.iconst 3) 1 129 := ⟨by decide +kernel, rfl⟩
theorem d_law_129 : Dc code 129 (.invokestatic 30) 3 132 := ⟨by decide +kernel, rfl⟩
theorem mk_M_ia3 {W : Wd} (hw : Ws W) : Mk W M_ia3 ⟨"com/example/polje/polje/ObfuscatorsEmailPinLaw", "isAt", "([CII)I"⟩ 3 := Mk.of nm_M_ia3 rfl rfl rfl (w_32 hw) (w_4 hw) (mkLen pd___CII_I rfl) (by decide)
theorem d_law_132 : Dc code 132 (.iconst 1) 1 133 := ⟨by decide +kernel, rfl⟩
theorem d_law_133 : Bj code 133 (.if_icmp .ne 6) 6 136 139 := ⟨by decide +kernel, rfl, by decide, rfl⟩
theorem d_law_136 : Dc code 136 (.iconst 3) 1 137 := ⟨by decide +kernel, rfl⟩
theorem d_law_137 : Dc code 137 (.istore 10) 2 139 := ⟨by decide +kernel, rfl⟩
set_option maxRecDepth 65536 in
set_option maxHeartbeats 40000000 in
theorem lp_124 {W : Wd} {K : Kx} (hw : Ws W) {s0 : State} (hk : kW K = some (s0, consts_1)) (p0 p1 p2 p3 p4 p5 : Int32) (n m0 m1 m2 m3 m4 : Nat) (s b c : Addr) (rs rb xb ob rc xc oc : Bool) (zs : List Nat) (hn : n ≤ 5) (hz : ∀ z ∈ zs, z < 256) (hzs : zs = [m0, m1, m2, m3, m4].take n) (hm0 : m0 < 256) (hm1 : m1 < 256) (hm2 : m2 < 256) (hm3 : m3 < 256) (hm4 : m4 < 256) (z : Int32) (hel : (emF zs).length = n) (hze : ∀ z ∈ emF zs, z < 256) (hA : pick (aN n 0 m0) 0 (pick (aN n 1 m1) 1 (pick (aN n 2 m2) 2 (pick (aN n 3 m3) 3 z))) = atF n m0 m1 m2 m3 m4) : Wp W K M0 (fun v _ => v = some (.int 1)) [oStr rs s (.ref b) (.int 0), (b, rb, .inr (.byte, xb, ob, zb zs)), (c, rc, .inr (.char, xc, oc, [.int (ix m0), .int (ix m1), .int (ix m2), .int (ix m3), .int (ix m4)]))] 12 400 124 [.val (.int p0), .val (.int p1), .val (.int p2), .val (.int p3), .val (.int p4), .val (.int p5), .val (.int (ix n)), .val (.ref c), .val (.ref s), .val (.int (ix (aN n 0 m0 + aN n 1 m1 + aN n 2 m2 + aN n 3 m3 + aN n 4 m4))), .val (.int z), .unset, .unset, .unset] [] := by
  have hzl : zs.length = n := by rw [hzs]; exact len5 hn
  have hb0 := aN_le n 0 m0
  have hb1 := aN_le n 1 m1
  have hb2 := aN_le n 2 m2
  have hb3 := aN_le n 3 m3
  have hb4 := aN_le n 4 m4
  refine Wp.aload rfl rfl d_law_124 ?_
  refine Wp.iload rfl d_law_126 ?_
  refine Wp.iconst lc_3 d_law_128 ?_
  refine Wp.perm [2, 0, 1] 3 pp_2_0_1 (H' := [(c, rc, .inr (.char, xc, oc, [.int (ix m0), .int (ix m1), .int (ix m2), .int (ix m3), .int (ix m4)])), oStr rs s (.ref b) (.int 0), (b, rb, .inr (.byte, xb, ob, zb zs))]) rfl ?_
  refine Wp.callS nm_M0 (fun _ => rm_ia3 hw.set c rc xc oc m0 m1 m2 m3 m4 n _ (by omega) (by omega) (by omega) (by omega) (by omega) (by omega)) (mk_M_ia3 hw) (w_30 hw) (w_31 hw) rfl rfl (Wn := 0) rfl rfl (by decide) d_law_129 ?_
  rintro _ _ ⟨rfl, rfl⟩
  refine Wp.iconst lc_1 d_law_132 ?_
  by_cases b133_1 : (aN n 3 m3) = 1
  · refine Wp.icF (teq (congrArg ix b133_1)).2 d_law_133 ?_
    refine Wp.iconst lc_3 d_law_136 ?_
    refine Wp.istore (L' := [.val (.int p0), .val (.int p1), .val (.int p2), .val (.int p3), .val (.int p4), .val (.int p5), .val (.int (ix n)), .val (.ref c), .val (.ref s), .val (.int (ix (aN n 0 m0 + aN n 1 m1 + aN n 2 m2 + aN n 3 m3 + aN n 4 m4))), .val (.int 3), .unset, .unset, .unset]) rfl d_law_137 ?_
    refine Wp.perm [1, 2, 0] 3 pp_1_2_0 (H' := [oStr rs s (.ref b) (.int 0), (b, rb, .inr (.byte, xb, ob, zb zs)), (c, rc, .inr (.char, xc, oc, [.int (ix m0), .int (ix m1), .int (ix m2), .int (ix m3), .int (ix m4)]))]) rfl ?_
    refine Wp.room (c' := 12) (n' := 400) (by decide) (by decide) ?_
    exact lp_139 hw hk p0 p1 p2 p3 p4 p5 n m0 m1 m2 m3 m4 s b c rs rb xb ob rc xc oc zs hn hz hzs hm0 hm1 hm2 hm3 hm4 3 hel hze (by rw [pick_1 b133_1] at hA; exact hA)
  · refine Wp.icT (feq (fun q => b133_1 (ix_eq (by omega) (by omega) q))).2 d_law_133 ?_
    refine Wp.perm [1, 2, 0] 3 pp_1_2_0 (H' := [oStr rs s (.ref b) (.int 0), (b, rb, .inr (.byte, xb, ob, zb zs)), (c, rc, .inr (.char, xc, oc, [.int (ix m0), .int (ix m1), .int (ix m2), .int (ix m3), .int (ix m4)]))]) rfl ?_
    refine Wp.room (c' := 12) (n' := 400) (by decide) (by decide) ?_
    exact lp_139 hw hk p0 p1 p2 p3 p4 p5 n m0 m1 m2 m3 m4 s b c rs rb xb ob rc xc oc zs hn hz hzs hm0 hm1 hm2 hm3 hm4 z hel hze (by rw [pick_0 b133_1] at hA; exact hA)
theorem d_law_60 : Dc code 60 (.aload 7) 2 62 := ⟨by decide +kernel, rfl⟩
theorem d_law_62 : Dc code 62 (.iload 6) 2 64 := ⟨by decide +kernel, rfl⟩
theorem d_law_64 : Dc code 64 (.iconst 0) 1 65 := ⟨by decide +kernel, rfl⟩
theorem d_law_65 : Dc code 65 (.invokestatic 30) 3 68 := ⟨by decide +kernel, rfl⟩
theorem d_law_68 : Dc code 68 (.aload 7) 2 70 := ⟨by decide +kernel, rfl⟩
theorem d_law_70 : Dc code 70 (.iload 6) 2 72 := ⟨by decide +kernel, rfl⟩
theorem d_law_72 : Dc code 72 (.iconst 1) 1 73 := ⟨by decide +kernel, rfl⟩
theorem d_law_73 : Dc code 73 (.invokestatic 30) 3 76 := ⟨by decide +kernel, rfl⟩
theorem d_law_76 : Dc code 76 (.iadd) 1 77 := ⟨by decide +kernel, rfl⟩
theorem d_law_77 : Dc code 77 (.aload 7) 2 79 := ⟨by decide +kernel, rfl⟩
theorem d_law_79 : Dc code 79 (.iload 6) 2 81 := ⟨by decide +kernel, rfl⟩
theorem d_law_81 : Dc code 81 (.iconst 2) 1 82 := ⟨by decide +kernel, rfl⟩
theorem d_law_82 : Dc code 82 (.invokestatic 30) 3 85 := ⟨by decide +kernel, rfl⟩
theorem d_law_85 : Dc code 85 (.iadd) 1 86 := ⟨by decide +kernel, rfl⟩
theorem d_law_86 : Dc code 86 (.aload 7) 2 88 := ⟨by decide +kernel, rfl⟩
theorem d_law_88 : Dc code 88 (.iload 6) 2 90 := ⟨by decide +kernel, rfl⟩
theorem d_law_90 : Dc code 90 (.iconst 3) 1 91 := ⟨by decide +kernel, rfl⟩
theorem d_law_91 : Dc code 91 (.invokestatic 30) 3 94 := ⟨by decide +kernel, rfl⟩
theorem d_law_94 : Dc code 94 (.iadd) 1 95 := ⟨by decide +kernel, rfl⟩
theorem d_law_95 : Dc code 95 (.aload 7) 2 97 := ⟨by decide +kernel, rfl⟩
theorem d_law_97 : Dc code 97 (.iload 6) 2 99 := ⟨by decide +kernel, rfl⟩
theorem d_law_99 : Dc code 99 (.iconst 4) 1 100 := ⟨by decide +kernel, rfl⟩
theorem d_law_100 : Dc code 100 (.invokestatic 30) 3 103 := ⟨by decide +kernel, rfl⟩
theorem mk_M_ia4 {W : Wd} (hw : Ws W) : Mk W M_ia4 ⟨"com/example/polje/polje/ObfuscatorsEmailPinLaw", "isAt", "([CII)I"⟩ 3 := Mk.of nm_M_ia4 rfl rfl rfl (w_32 hw) (w_4 hw) (mkLen pd___CII_I rfl) (by decide)
theorem d_law_103 : Dc code 103 (.iadd) 1 104 := ⟨by decide +kernel, rfl⟩
theorem d_law_104 : Dc code 104 (.istore 9) 2 106 := ⟨by decide +kernel, rfl⟩
theorem d_law_106 : Dc code 106 (.iconst (-1)) 1 107 := ⟨by decide +kernel, rfl⟩
theorem d_law_107 : Dc code 107 (.istore 10) 2 109 := ⟨by decide +kernel, rfl⟩
theorem d_law_109 : Dc code 109 (.aload 7) 2 111 := ⟨by decide +kernel, rfl⟩
theorem d_law_111 : Dc code 111 (.iload 6) 2 113 := ⟨by decide +kernel, rfl⟩
theorem d_law_113 : Dc code 113 (.iconst 4) 1 114 := ⟨by decide +kernel, rfl⟩
theorem d_law_114 : Dc code 114 (.invokestatic 30) 3 117 := ⟨by decide +kernel, rfl⟩
theorem d_law_117 : Dc code 117 (.iconst 1) 1 118 := ⟨by decide +kernel, rfl⟩
theorem d_law_118 : Bj code 118 (.if_icmp .ne 6) 6 121 124 := ⟨by decide +kernel, rfl, by decide, rfl⟩
theorem d_law_121 : Dc code 121 (.iconst 4) 1 122 := ⟨by decide +kernel, rfl⟩
theorem d_law_122 : Dc code 122 (.istore 10) 2 124 := ⟨by decide +kernel, rfl⟩
set_option maxRecDepth 65536 in
set_option maxHeartbeats 40000000 in
theorem lp_60 {W : Wd} {K : Kx} (hw : Ws W) {s0 : State} (hk : kW K = some (s0, consts_1)) (p0 p1 p2 p3 p4 p5 : Int32) (n m0 m1 m2 m3 m4 : Nat) (s b c : Addr) (rs rb xb ob rc xc oc : Bool) (zs : List Nat) (hn : n ≤ 5) (hz : ∀ z ∈ zs, z < 256) (hzs : zs = [m0, m1, m2, m3, m4].take n) (hm0 : m0 < 256) (hm1 : m1 < 256) (hm2 : m2 < 256) (hm3 : m3 < 256) (hm4 : m4 < 256)  (hel : (emF zs).length = n) (hze : ∀ z ∈ emF zs, z < 256) : Wp W K M0 (fun v _ => v = some (.int 1)) [oStr rs s (.ref b) (.int 0), (b, rb, .inr (.byte, xb, ob, zb zs)), (c, rc, .inr (.char, xc, oc, [.int (ix m0), .int (ix m1), .int (ix m2), .int (ix m3), .int (ix m4)]))] 12 400 60 [.val (.int p0), .val (.int p1), .val (.int p2), .val (.int p3), .val (.int p4), .val (.int p5), .val (.int (ix n)), .val (.ref c), .val (.ref s), .unset, .unset, .unset, .unset, .unset] [] := by
  have hzl : zs.length = n := by rw [hzs]; exact len5 hn
  have hb0 := aN_le n 0 m0
  have hb1 := aN_le n 1 m1
  have hb2 := aN_le n 2 m2
  have hb3 := aN_le n 3 m3
  have hb4 := aN_le n 4 m4
  refine Wp.aload rfl rfl d_law_60 ?_
  refine Wp.iload rfl d_law_62 ?_
  refine Wp.iconst lc_0 d_law_64 ?_
  refine Wp.perm [2, 0, 1] 3 pp_2_0_1 (H' := [(c, rc, .inr (.char, xc, oc, [.int (ix m0), .int (ix m1), .int (ix m2), .int (ix m3), .int (ix m4)])), oStr rs s (.ref b) (.int 0), (b, rb, .inr (.byte, xb, ob, zb zs))]) rfl ?_
  refine Wp.callS nm_M0 (fun _ => rm_ia0 hw.set c rc xc oc m0 m1 m2 m3 m4 n _ (by omega) (by omega) (by omega) (by omega) (by omega) (by omega)) (mk_M_ia0 hw) (w_30 hw) (w_31 hw) rfl rfl (Wn := 0) rfl rfl (by decide) d_law_65 ?_
  rintro _ _ ⟨rfl, rfl⟩
  refine Wp.aload rfl rfl d_law_68 ?_
  refine Wp.iload rfl d_law_70 ?_
  refine Wp.iconst lc_1 d_law_72 ?_
  refine Wp.callS nm_M0 (fun _ => rm_ia1 hw.set c rc xc oc m0 m1 m2 m3 m4 n _ (by omega) (by omega) (by omega) (by omega) (by omega) (by omega)) (mk_M_ia1 hw) (w_30 hw) (w_31 hw) rfl rfl (Wn := 1) rfl rfl (by decide) d_law_73 ?_
  rintro _ _ ⟨rfl, rfl⟩
  refine Wp.iadd (z := (ix ((aN n 0 m0) + (aN n 1 m1)))) (ix_add _ _) d_law_76 ?_
  refine Wp.aload rfl rfl d_law_77 ?_
  refine Wp.iload rfl d_law_79 ?_
  refine Wp.iconst lc_2 d_law_81 ?_
  refine Wp.callS nm_M0 (fun _ => rm_ia2 hw.set c rc xc oc m0 m1 m2 m3 m4 n _ (by omega) (by omega) (by omega) (by omega) (by omega) (by omega)) (mk_M_ia2 hw) (w_30 hw) (w_31 hw) rfl rfl (Wn := 1) rfl rfl (by decide) d_law_82 ?_
  rintro _ _ ⟨rfl, rfl⟩
  refine Wp.iadd (z := (ix (((aN n 0 m0) + (aN n 1 m1)) + (aN n 2 m2)))) (ix_add _ _) d_law_85 ?_
  refine Wp.aload rfl rfl d_law_86 ?_
  refine Wp.iload rfl d_law_88 ?_
  refine Wp.iconst lc_3 d_law_90 ?_
  refine Wp.callS nm_M0 (fun _ => rm_ia3 hw.set c rc xc oc m0 m1 m2 m3 m4 n _ (by omega) (by omega) (by omega) (by omega) (by omega) (by omega)) (mk_M_ia3 hw) (w_30 hw) (w_31 hw) rfl rfl (Wn := 1) rfl rfl (by decide) d_law_91 ?_
  rintro _ _ ⟨rfl, rfl⟩
  refine Wp.iadd (z := (ix ((((aN n 0 m0) + (aN n 1 m1)) + (aN n 2 m2)) + (aN n 3 m3)))) (ix_add _ _) d_law_94 ?_
  refine Wp.aload rfl rfl d_law_95 ?_
  refine Wp.iload rfl d_law_97 ?_
  refine Wp.iconst lc_4 d_law_99 ?_
  refine Wp.callS nm_M0 (fun _ => rm_ia4 hw.set c rc xc oc m0 m1 m2 m3 m4 n _ (by omega) (by omega) (by omega) (by omega) (by omega) (by omega)) (mk_M_ia4 hw) (w_30 hw) (w_31 hw) rfl rfl (Wn := 1) rfl rfl (by decide) d_law_100 ?_
  rintro _ _ ⟨rfl, rfl⟩
  refine Wp.iadd (z := (ix (((((aN n 0 m0) + (aN n 1 m1)) + (aN n 2 m2)) + (aN n 3 m3)) + (aN n 4 m4)))) (ix_add _ _) d_law_103 ?_
  refine Wp.istore (L' := [.val (.int p0), .val (.int p1), .val (.int p2), .val (.int p3), .val (.int p4), .val (.int p5), .val (.int (ix n)), .val (.ref c), .val (.ref s), .val (.int (ix (((((aN n 0 m0) + (aN n 1 m1)) + (aN n 2 m2)) + (aN n 3 m3)) + (aN n 4 m4)))), .unset, .unset, .unset, .unset]) rfl d_law_104 ?_
  refine Wp.iconst lc_m1 d_law_106 ?_
  refine Wp.istore (L' := [.val (.int p0), .val (.int p1), .val (.int p2), .val (.int p3), .val (.int p4), .val (.int p5), .val (.int (ix n)), .val (.ref c), .val (.ref s), .val (.int (ix (((((aN n 0 m0) + (aN n 1 m1)) + (aN n 2 m2)) + (aN n 3 m3)) + (aN n 4 m4)))), .val (.int (-1)), .unset, .unset, .unset]) rfl d_law_107 ?_
  refine Wp.aload rfl rfl d_law_109 ?_
  refine Wp.iload rfl d_law_111 ?_
  refine Wp.iconst lc_4 d_law_113 ?_
  refine Wp.callS nm_M0 (fun _ => rm_ia4 hw.set c rc xc oc m0 m1 m2 m3 m4 n _ (by omega) (by omega) (by omega) (by omega) (by omega) (by omega)) (mk_M_ia4 hw) (w_30 hw) (w_31 hw) rfl rfl (Wn := 0) rfl rfl (by decide) d_law_114 ?_
  rintro _ _ ⟨rfl, rfl⟩
  refine Wp.iconst lc_1 d_law_117 ?_
  by_cases b118_1 : (aN n 4 m4) = 1
  · refine Wp.icF (teq (congrArg ix b118_1)).2 d_law_118 ?_
    refine Wp.iconst lc_4 d_law_121 ?_
    refine Wp.istore (L' := [.val (.int p0), .val (.int p1), .val (.int p2), .val (.int p3), .val (.int p4), .val (.int p5), .val (.int (ix n)), .val (.ref c), .val (.ref s), .val (.int (ix (((((aN n 0 m0) + (aN n 1 m1)) + (aN n 2 m2)) + (aN n 3 m3)) + (aN n 4 m4)))), .val (.int 4), .unset, .unset, .unset]) rfl d_law_122 ?_
    refine Wp.perm [1, 2, 0] 3 pp_1_2_0 (H' := [oStr rs s (.ref b) (.int 0), (b, rb, .inr (.byte, xb, ob, zb zs)), (c, rc, .inr (.char, xc, oc, [.int (ix m0), .int (ix m1), .int (ix m2), .int (ix m3), .int (ix m4)]))]) rfl ?_
    refine Wp.room (c' := 12) (n' := 400) (by decide) (by decide) ?_
    exact lp_124 hw hk p0 p1 p2 p3 p4 p5 n m0 m1 m2 m3 m4 s b c rs rb xb ob rc xc oc zs hn hz hzs hm0 hm1 hm2 hm3 hm4 4 hel hze (by unfold atF; rw [pick_1 b118_1]; rfl)
  · refine Wp.icT (feq (fun q => b118_1 (ix_eq (by omega) (by omega) q))).2 d_law_118 ?_
    refine Wp.perm [1, 2, 0] 3 pp_1_2_0 (H' := [oStr rs s (.ref b) (.int 0), (b, rb, .inr (.byte, xb, ob, zb zs)), (c, rc, .inr (.char, xc, oc, [.int (ix m0), .int (ix m1), .int (ix m2), .int (ix m3), .int (ix m4)]))]) rfl ?_
    refine Wp.room (c' := 12) (n' := 400) (by decide) (by decide) ?_
    exact lp_124 hw hk p0 p1 p2 p3 p4 p5 n m0 m1 m2 m3 m4 s b c rs rb xb ob rc xc oc zs hn hz hzs hm0 hm1 hm2 hm3 hm4 (-1) hel hze (by unfold atF; rw [pick_0 b118_1])
theorem d_law_0 : Dc code 0 (.iload_n 0) 1 1 := ⟨by decide +kernel, rfl⟩
theorem d_law_1 : Dc code 1 (.ldc 22) 2 3 := ⟨by decide +kernel, rfl⟩
theorem w_0 {W : Wd} (hw : Ws W) : Wok W (Jvm.Cond.constant "com/example/polje/polje/ObfuscatorsEmailPinLaw" (22 : Nat) (2147483647 : Int32)) := hw.1 _ (List.mem_of_getElem? (i := 0) rfl)
theorem d_law_3 : Dc code 3 (.iand) 1 4 := ⟨by decide +kernel, rfl⟩
theorem d_law_4 : Dc code 4 (.bipush 6) 2 6 := ⟨by decide +kernel, rfl⟩
theorem lb_6 : (Int8.ofInt 6).toInt32 = 6 := by decide
theorem d_law_6 : Dc code 6 (.irem) 1 7 := ⟨by decide +kernel, rfl⟩
theorem d_law_7 : Dc code 7 (.istore 6) 2 9 := ⟨by decide +kernel, rfl⟩
theorem d_law_9 : Dc code 9 (.iconst 5) 1 10 := ⟨by decide +kernel, rfl⟩
theorem d_law_10 : Dc code 10 (.newarray .char) 2 12 := ⟨by decide +kernel, rfl⟩
theorem d_law_12 : Dc code 12 (.dup) 1 13 := ⟨by decide +kernel, rfl⟩
theorem d_law_13 : Dc code 13 (.iconst 0) 1 14 := ⟨by decide +kernel, rfl⟩
theorem d_law_14 : Dc code 14 (.iload_n 1) 1 15 := ⟨by decide +kernel, rfl⟩
theorem d_law_15 : Dc code 15 (.invokestatic 23) 3 18 := ⟨by decide +kernel, rfl⟩
theorem w_5 {W : Wd} (hw : Ws W) : Wok W (Jvm.Cond.code ({ cls := "com/example/polje/polje/ObfuscatorsEmailPinLaw", name := "draw", desc := "(I)C" } : Jvm.MethodName) method_2_code (2 : Nat) (Option.some Jvm.ClassFile.FieldType.char)) := hw.1 _ (List.mem_of_getElem? (i := 5) rfl)
theorem mk_M_dr {W : Wd} (hw : Ws W) : Mk W M_dr ⟨"com/example/polje/polje/ObfuscatorsEmailPinLaw", "draw", "(I)C"⟩ 1 := Mk.of nm_M_dr rfl rfl rfl (w_5 hw) (w_4 hw) (mkLen pd__I_C rfl) (by decide)
theorem w_2 {W : Wd} (hw : Ws W) : Wok W (Jvm.Cond.methodLink "com/example/polje/polje/ObfuscatorsEmailPinLaw" (23 : Nat) ({ cls := "com/example/polje/polje/ObfuscatorsEmailPinLaw", name := "draw", desc := "(I)C" } : Jvm.MethodName)) := hw.1 _ (List.mem_of_getElem? (i := 2) rfl)
theorem w_3 {W : Wd} (hw : Ws W) : Wok W (Jvm.Cond.static ({ cls := "com/example/polje/polje/ObfuscatorsEmailPinLaw", name := "draw", desc := "(I)C" } : Jvm.MethodName)) := hw.1 _ (List.mem_of_getElem? (i := 3) rfl)
theorem d_law_18 : Dc code 18 (.castore) 1 19 := ⟨by decide +kernel, rfl⟩
theorem d_law_19 : Dc code 19 (.dup) 1 20 := ⟨by decide +kernel, rfl⟩
theorem d_law_20 : Dc code 20 (.iconst 1) 1 21 := ⟨by decide +kernel, rfl⟩
theorem d_law_21 : Dc code 21 (.iload_n 2) 1 22 := ⟨by decide +kernel, rfl⟩
theorem d_law_22 : Dc code 22 (.invokestatic 23) 3 25 := ⟨by decide +kernel, rfl⟩
theorem d_law_25 : Dc code 25 (.castore) 1 26 := ⟨by decide +kernel, rfl⟩
theorem d_law_26 : Dc code 26 (.dup) 1 27 := ⟨by decide +kernel, rfl⟩
theorem d_law_27 : Dc code 27 (.iconst 2) 1 28 := ⟨by decide +kernel, rfl⟩
theorem d_law_28 : Dc code 28 (.iload_n 3) 1 29 := ⟨by decide +kernel, rfl⟩
theorem d_law_29 : Dc code 29 (.invokestatic 23) 3 32 := ⟨by decide +kernel, rfl⟩
theorem d_law_32 : Dc code 32 (.castore) 1 33 := ⟨by decide +kernel, rfl⟩
theorem d_law_33 : Dc code 33 (.dup) 1 34 := ⟨by decide +kernel, rfl⟩
theorem d_law_34 : Dc code 34 (.iconst 3) 1 35 := ⟨by decide +kernel, rfl⟩
theorem d_law_35 : Dc code 35 (.iload 4) 2 37 := ⟨by decide +kernel, rfl⟩
theorem d_law_37 : Dc code 37 (.invokestatic 23) 3 40 := ⟨by decide +kernel, rfl⟩
theorem d_law_40 : Dc code 40 (.castore) 1 41 := ⟨by decide +kernel, rfl⟩
theorem d_law_41 : Dc code 41 (.dup) 1 42 := ⟨by decide +kernel, rfl⟩
theorem d_law_42 : Dc code 42 (.iconst 4) 1 43 := ⟨by decide +kernel, rfl⟩
theorem d_law_43 : Dc code 43 (.iload 5) 2 45 := ⟨by decide +kernel, rfl⟩
theorem d_law_45 : Dc code 45 (.invokestatic 23) 3 48 := ⟨by decide +kernel, rfl⟩
theorem d_law_48 : Dc code 48 (.castore) 1 49 := ⟨by decide +kernel, rfl⟩
theorem d_law_49 : Dc code 49 (.astore 7) 2 51 := ⟨by decide +kernel, rfl⟩
theorem d_law_51 : Dc code 51 (.aload 7) 2 53 := ⟨by decide +kernel, rfl⟩
theorem d_law_53 : Dc code 53 (.iload 6) 2 55 := ⟨by decide +kernel, rfl⟩
theorem d_law_55 : Dc code 55 (.invokestatic 26) 3 58 := ⟨by decide +kernel, rfl⟩
theorem w_8 {W : Wd} (hw : Ws W) : Wok W (Jvm.Cond.code ({ cls := "com/example/polje/polje/ObfuscatorsEmailPinLaw", name := "make", desc := "([CI)Ljava/lang/String;" } : Jvm.MethodName) method_3_code (2 : Nat) (Option.some (Jvm.ClassFile.FieldType.object "java/lang/String"))) := hw.1 _ (List.mem_of_getElem? (i := 8) rfl)
theorem pd___CI_Ljava_lang_String_ : parseMethodDescriptor "([CI)Ljava/lang/String;" = some ⟨[(.array .char), .int], some (.object "java/lang/String")⟩ := by decide +kernel
theorem mk_M_mk0 {W : Wd} (hw : Ws W) : Mk W M_mk0 ⟨"com/example/polje/polje/ObfuscatorsEmailPinLaw", "make", "([CI)Ljava/lang/String;"⟩ 2 := Mk.of nm_M_mk0 rfl rfl rfl (w_8 hw) (w_4 hw) (mkLen pd___CI_Ljava_lang_String_ rfl) (by decide)
theorem w_6 {W : Wd} (hw : Ws W) : Wok W (Jvm.Cond.methodLink "com/example/polje/polje/ObfuscatorsEmailPinLaw" (26 : Nat) ({ cls := "com/example/polje/polje/ObfuscatorsEmailPinLaw", name := "make", desc := "([CI)Ljava/lang/String;" } : Jvm.MethodName)) := hw.1 _ (List.mem_of_getElem? (i := 6) rfl)
theorem w_7 {W : Wd} (hw : Ws W) : Wok W (Jvm.Cond.static ({ cls := "com/example/polje/polje/ObfuscatorsEmailPinLaw", name := "make", desc := "([CI)Ljava/lang/String;" } : Jvm.MethodName)) := hw.1 _ (List.mem_of_getElem? (i := 7) rfl)
theorem d_law_58 : Dc code 58 (.astore 8) 2 60 := ⟨by decide +kernel, rfl⟩
theorem mk_M_mk1 {W : Wd} (hw : Ws W) : Mk W M_mk1 ⟨"com/example/polje/polje/ObfuscatorsEmailPinLaw", "make", "([CI)Ljava/lang/String;"⟩ 2 := Mk.of nm_M_mk1 rfl rfl rfl (w_8 hw) (w_4 hw) (mkLen pd___CI_Ljava_lang_String_ rfl) (by decide)
theorem mk_M_mk2 {W : Wd} (hw : Ws W) : Mk W M_mk2 ⟨"com/example/polje/polje/ObfuscatorsEmailPinLaw", "make", "([CI)Ljava/lang/String;"⟩ 2 := Mk.of nm_M_mk2 rfl rfl rfl (w_8 hw) (w_4 hw) (mkLen pd___CI_Ljava_lang_String_ rfl) (by decide)
theorem mk_M_mk3 {W : Wd} (hw : Ws W) : Mk W M_mk3 ⟨"com/example/polje/polje/ObfuscatorsEmailPinLaw", "make", "([CI)Ljava/lang/String;"⟩ 2 := Mk.of nm_M_mk3 rfl rfl rfl (w_8 hw) (w_4 hw) (mkLen pd___CI_Ljava_lang_String_ rfl) (by decide)
theorem mk_M_mk4 {W : Wd} (hw : Ws W) : Mk W M_mk4 ⟨"com/example/polje/polje/ObfuscatorsEmailPinLaw", "make", "([CI)Ljava/lang/String;"⟩ 2 := Mk.of nm_M_mk4 rfl rfl rfl (w_8 hw) (w_4 hw) (mkLen pd___CI_Ljava_lang_String_ rfl) (by decide)
theorem mk_M_mk5 {W : Wd} (hw : Ws W) : Mk W M_mk5 ⟨"com/example/polje/polje/ObfuscatorsEmailPinLaw", "make", "([CI)Ljava/lang/String;"⟩ 2 := Mk.of nm_M_mk5 rfl rfl rfl (w_8 hw) (w_4 hw) (mkLen pd___CI_Ljava_lang_String_ rfl) (by decide)
set_option maxRecDepth 65536 in
set_option maxHeartbeats 40000000 in
theorem rm_law {W : Wd} (hw : Ws W) (p0 p1 p2 p3 p4 p5 : Int32) : CtW consts_1 W M0 [.int p0, .int p1, .int p2, .int p3, .int p4, .int p5] [] (fun v _ => v = some (.int 1)) := by
  refine CtW.intro (ew_1 hw) (L0 := [.val (.int p0), .val (.int p1), .val (.int p2), .val (.int p3), .val (.int p4), .val (.int p5), .unset, .unset, .unset, .unset, .unset, .unset, .unset, .unset]) (plainFor_of_name pf_com_example_polje_polje_ObfuscatorsEmailPinLaw) rfl (fun K s0 hk => ?_)
  obtain ⟨n, hn6, e_n⟩ := rem6 p0
  refine Wp.iloadN rfl d_law_0 ?_
  refine Wp.ldcI nm_M0 (w_0 hw) d_law_1 ?_
  refine Wp.iand (z := (p0 &&& 2147483647)) rfl d_law_3 ?_
  refine Wp.bipush lb_6 d_law_4 ?_
  refine Wp.irem (z := (ix n)) (by decide) e_n d_law_6 ?_
  refine Wp.istore (L' := [.val (.int p0), .val (.int p1), .val (.int p2), .val (.int p3), .val (.int p4), .val (.int p5), .val (.int (ix n)), .unset, .unset, .unset, .unset, .unset, .unset, .unset]) rfl d_law_7 ?_
  refine Wp.iconst lc_5 d_law_9 ?_
  refine Wp.newP (kk := 5) (vs := [.int 0, .int 0, .int 0, .int 0, .int 0]) d_law_10 (w_1 hw) (by decide) (by decide) (by decide) (by decide) (by decide) rfl (fun a1 => ?_)
  refine Wp.dup rfl d_law_12 ?_
  refine Wp.iconst lc_0 d_law_13 ?_
  refine Wp.iloadN rfl d_law_14 ?_
  refine Wp.callS nm_M0 (fun _ => rm_dr hw.set p1 _ ) (mk_M_dr hw) (w_2 hw) (w_3 hw) rfl rfl (Wn := 3) rfl rfl (by decide) d_law_15 ?_
  rintro _ _ ⟨z_2, rfl, rfl, hf3⟩
  refine Wp.castore (z := (ix z_2)) 0 0 rfl (by decide) (by decide) (show 0 < 5 by decide) (ix_c (by omega)) d_law_18 (H' := [eC a1 [.int (ix z_2), .int 0, .int 0, .int 0, .int 0]]) rfl ?_
  refine Wp.dup rfl d_law_19 ?_
  refine Wp.iconst lc_1 d_law_20 ?_
  refine Wp.iloadN rfl d_law_21 ?_
  refine Wp.callS nm_M0 (fun _ => rm_dr hw.set p2 _ ) (mk_M_dr hw) (w_2 hw) (w_3 hw) rfl rfl (Wn := 3) rfl rfl (by decide) d_law_22 ?_
  rintro _ _ ⟨z_4, rfl, rfl, hf5⟩
  refine Wp.castore (z := (ix z_4)) 0 1 rfl (by decide) (by decide) (show 1 < 5 by decide) (ix_c (by omega)) d_law_25 (H' := [eC a1 [.int (ix z_2), .int (ix z_4), .int 0, .int 0, .int 0]]) rfl ?_
  refine Wp.dup rfl d_law_26 ?_
  refine Wp.iconst lc_2 d_law_27 ?_
  refine Wp.iloadN rfl d_law_28 ?_
  refine Wp.callS nm_M0 (fun _ => rm_dr hw.set p3 _ ) (mk_M_dr hw) (w_2 hw) (w_3 hw) rfl rfl (Wn := 3) rfl rfl (by decide) d_law_29 ?_
  rintro _ _ ⟨z_6, rfl, rfl, hf7⟩
  refine Wp.castore (z := (ix z_6)) 0 2 rfl (by decide) (by decide) (show 2 < 5 by decide) (ix_c (by omega)) d_law_32 (H' := [eC a1 [.int (ix z_2), .int (ix z_4), .int (ix z_6), .int 0, .int 0]]) rfl ?_
  refine Wp.dup rfl d_law_33 ?_
  refine Wp.iconst lc_3 d_law_34 ?_
  refine Wp.iload rfl d_law_35 ?_
  refine Wp.callS nm_M0 (fun _ => rm_dr hw.set p4 _ ) (mk_M_dr hw) (w_2 hw) (w_3 hw) rfl rfl (Wn := 3) rfl rfl (by decide) d_law_37 ?_
  rintro _ _ ⟨z_8, rfl, rfl, hf9⟩
  refine Wp.castore (z := (ix z_8)) 0 3 rfl (by decide) (by decide) (show 3 < 5 by decide) (ix_c (by omega)) d_law_40 (H' := [eC a1 [.int (ix z_2), .int (ix z_4), .int (ix z_6), .int (ix z_8), .int 0]]) rfl ?_
  refine Wp.dup rfl d_law_41 ?_
  refine Wp.iconst lc_4 d_law_42 ?_
  refine Wp.iload rfl d_law_43 ?_
  refine Wp.callS nm_M0 (fun _ => rm_dr hw.set p5 _ ) (mk_M_dr hw) (w_2 hw) (w_3 hw) rfl rfl (Wn := 3) rfl rfl (by decide) d_law_45 ?_
  rintro _ _ ⟨z_10, rfl, rfl, hf11⟩
  refine Wp.castore (z := (ix z_10)) 0 4 rfl (by decide) (by decide) (show 4 < 5 by decide) (ix_c (by omega)) d_law_48 (H' := [eC a1 [.int (ix z_2), .int (ix z_4), .int (ix z_6), .int (ix z_8), .int (ix z_10)]]) rfl ?_
  refine Wp.astore (L' := [.val (.int p0), .val (.int p1), .val (.int p2), .val (.int p3), .val (.int p4), .val (.int p5), .val (.int (ix n)), .val (.ref a1), .unset, .unset, .unset, .unset, .unset, .unset]) rfl rfl d_law_49 ?_
  refine Wp.aload rfl rfl d_law_51 ?_
  refine Wp.iload rfl d_law_53 ?_
  have h6 : n = 0 ∨ n = 1 ∨ n = 2 ∨ n = 3 ∨ n = 4 ∨ n = 5 := by omega
  rcases h6 with rfl | rfl | rfl | rfl | rfl | rfl
  · refine Wp.callSW nm_M0 hk (rm_mk0 hw a1 true true false z_2 z_4 z_6 z_8 z_10 _ (by omega) (by omega) (by omega) (by omega) (by omega)) (mk_M_mk0 hw) (w_6 hw) (w_7 hw) rfl rfl (Wn := 0) rfl rfl (by decide) d_law_55 ?_
    rintro _ _ _ hk ⟨q_12, r_13, rfl, rfl⟩
    refine Wp.astore (L' := [.val (.int p0), .val (.int p1), .val (.int p2), .val (.int p3), .val (.int p4), .val (.int p5), .val (.int 0), .val (.ref a1), .val (.ref q_12), .unset, .unset, .unset, .unset, .unset]) rfl rfl d_law_58 ?_
    refine Wp.room (c' := 12) (n' := 400) (by decide) (by decide) ?_
    have hz0 : ∀ z ∈ ([] : List Nat), z < 256 := (fun z hz => (nomatch hz))
    exact lp_60 hw hk p0 p1 p2 p3 p4 p5 0 z_2 z_4 z_6 z_8 z_10 q_12 r_13 a1 true false false false true true false [] (by decide) hz0 rfl hf3 hf5 hf7 hf9 hf11 (emF_len hz0) (emF_lt hz0)
  · refine Wp.callS nm_M0 (fun _ => rm_mk1 hw.set a1 true true false z_2 z_4 z_6 z_8 z_10 _ (by omega) (by omega) (by omega) (by omega) (by omega)) (mk_M_mk1 hw) (w_6 hw) (w_7 hw) rfl rfl (Wn := 0) rfl rfl (by decide) d_law_55 ?_
    rintro _ _ ⟨q_14, r_15, rfl, rfl⟩
    refine Wp.astore (L' := [.val (.int p0), .val (.int p1), .val (.int p2), .val (.int p3), .val (.int p4), .val (.int p5), .val (.int 1), .val (.ref a1), .val (.ref q_14), .unset, .unset, .unset, .unset, .unset]) rfl rfl d_law_58 ?_
    refine Wp.room (c' := 12) (n' := 400) (by decide) (by decide) ?_
    have hz0 : ∀ z ∈ ([z_2] : List Nat), z < 256 := (fun z hz => by simp only [List.mem_cons, List.not_mem_nil, or_false] at hz; omega)
    exact lp_60 hw hk p0 p1 p2 p3 p4 p5 1 z_2 z_4 z_6 z_8 z_10 q_14 r_15 a1 true true true false true true false [z_2] (by decide) hz0 rfl hf3 hf5 hf7 hf9 hf11 (emF_len hz0) (emF_lt hz0)
  · refine Wp.callS nm_M0 (fun _ => rm_mk2 hw.set a1 true true false z_2 z_4 z_6 z_8 z_10 _ (by omega) (by omega) (by omega) (by omega) (by omega)) (mk_M_mk2 hw) (w_6 hw) (w_7 hw) rfl rfl (Wn := 0) rfl rfl (by decide) d_law_55 ?_
    rintro _ _ ⟨q_16, r_17, rfl, rfl⟩
    refine Wp.astore (L' := [.val (.int p0), .val (.int p1), .val (.int p2), .val (.int p3), .val (.int p4), .val (.int p5), .val (.int 2), .val (.ref a1), .val (.ref q_16), .unset, .unset, .unset, .unset, .unset]) rfl rfl d_law_58 ?_
    refine Wp.room (c' := 12) (n' := 400) (by decide) (by decide) ?_
    have hz0 : ∀ z ∈ ([z_2, z_4] : List Nat), z < 256 := (fun z hz => by simp only [List.mem_cons, List.not_mem_nil, or_false] at hz; omega)
    exact lp_60 hw hk p0 p1 p2 p3 p4 p5 2 z_2 z_4 z_6 z_8 z_10 q_16 r_17 a1 true true true false true true false [z_2, z_4] (by decide) hz0 rfl hf3 hf5 hf7 hf9 hf11 (emF_len hz0) (emF_lt hz0)
  · refine Wp.callS nm_M0 (fun _ => rm_mk3 hw.set a1 true true false z_2 z_4 z_6 z_8 z_10 _ (by omega) (by omega) (by omega) (by omega) (by omega)) (mk_M_mk3 hw) (w_6 hw) (w_7 hw) rfl rfl (Wn := 0) rfl rfl (by decide) d_law_55 ?_
    rintro _ _ ⟨q_18, r_19, rfl, rfl⟩
    refine Wp.astore (L' := [.val (.int p0), .val (.int p1), .val (.int p2), .val (.int p3), .val (.int p4), .val (.int p5), .val (.int 3), .val (.ref a1), .val (.ref q_18), .unset, .unset, .unset, .unset, .unset]) rfl rfl d_law_58 ?_
    refine Wp.room (c' := 12) (n' := 400) (by decide) (by decide) ?_
    have hz0 : ∀ z ∈ ([z_2, z_4, z_6] : List Nat), z < 256 := (fun z hz => by simp only [List.mem_cons, List.not_mem_nil, or_false] at hz; omega)
    exact lp_60 hw hk p0 p1 p2 p3 p4 p5 3 z_2 z_4 z_6 z_8 z_10 q_18 r_19 a1 true true true false true true false [z_2, z_4, z_6] (by decide) hz0 rfl hf3 hf5 hf7 hf9 hf11 (emF_len hz0) (emF_lt hz0)
  · refine Wp.callS nm_M0 (fun _ => rm_mk4 hw.set a1 true true false z_2 z_4 z_6 z_8 z_10 _ (by omega) (by omega) (by omega) (by omega) (by omega)) (mk_M_mk4 hw) (w_6 hw) (w_7 hw) rfl rfl (Wn := 0) rfl rfl (by decide) d_law_55 ?_
    rintro _ _ ⟨q_20, r_21, rfl, rfl⟩
    refine Wp.astore (L' := [.val (.int p0), .val (.int p1), .val (.int p2), .val (.int p3), .val (.int p4), .val (.int p5), .val (.int 4), .val (.ref a1), .val (.ref q_20), .unset, .unset, .unset, .unset, .unset]) rfl rfl d_law_58 ?_
    refine Wp.room (c' := 12) (n' := 400) (by decide) (by decide) ?_
    have hz0 : ∀ z ∈ ([z_2, z_4, z_6, z_8] : List Nat), z < 256 := (fun z hz => by simp only [List.mem_cons, List.not_mem_nil, or_false] at hz; omega)
    exact lp_60 hw hk p0 p1 p2 p3 p4 p5 4 z_2 z_4 z_6 z_8 z_10 q_20 r_21 a1 true true true false true true false [z_2, z_4, z_6, z_8] (by decide) hz0 rfl hf3 hf5 hf7 hf9 hf11 (emF_len hz0) (emF_lt hz0)
  · refine Wp.callS nm_M0 (fun _ => rm_mk5 hw.set a1 true true false z_2 z_4 z_6 z_8 z_10 _ (by omega) (by omega) (by omega) (by omega) (by omega)) (mk_M_mk5 hw) (w_6 hw) (w_7 hw) rfl rfl (Wn := 0) rfl rfl (by decide) d_law_55 ?_
    rintro _ _ ⟨q_22, r_23, rfl, rfl⟩
    refine Wp.astore (L' := [.val (.int p0), .val (.int p1), .val (.int p2), .val (.int p3), .val (.int p4), .val (.int p5), .val (.int 5), .val (.ref a1), .val (.ref q_22), .unset, .unset, .unset, .unset, .unset]) rfl rfl d_law_58 ?_
    refine Wp.room (c' := 12) (n' := 400) (by decide) (by decide) ?_
    have hz0 : ∀ z ∈ ([z_2, z_4, z_6, z_8, z_10] : List Nat), z < 256 := (fun z hz => by simp only [List.mem_cons, List.not_mem_nil, or_false] at hz; omega)
    exact lp_60 hw hk p0 p1 p2 p3 p4 p5 5 z_2 z_4 z_6 z_8 z_10 q_22 r_23 a1 true true true false true true false [z_2, z_4, z_6, z_8, z_10] (by decide) hz0 rfl hf3 hf5 hf7 hf9 hf11 (emF_len hz0) (emF_lt hz0)
set_option maxRecDepth 65536 in
set_option maxHeartbeats 40000000 in
theorem comes_1 {Post : Tables → Env → Array Value → State → Outcome → State → Prop} (hpost : ∀ tb e args s v u, (limb_1_1.after args s (.returned v) u = true ∧ limb_1_2.after args s (.returned v) u = true ∧ True) → FramedW s (.returned v) u (Jvm.fieldLocs frame_1_writes args s ++ Jvm.arrayLocs frame_1_arrays args s ++ Jvm.staticLocs frame_1_statics s) 64 4416 → Post tb e args s (.returned v) u) :
    ArmFor flags0 classFile x code maxLocals ret World_1 tables_1 room_1 Calls_1 rest_1 Pre_1 Post := by
  intro l hfl _ _ p e ha hc hk s m args below hf hA hF happ hP
  obtain ⟨hcalls, hrest, hpre⟩ := hP
  obtain ⟨-, -, -, hnamed, -, -, -, hat⟩ := (Spec.applies_iff hf).mp happ
  obtain ⟨hg, hn⟩ := and_e (Cond.before_iff.mp (show (Jvm.Cond.and given_1 narrow_1).before args s = true from hpre))
  obtain ⟨g1, g2⟩ := and_e hg
  obtain ⟨g3, g4⟩ := and_e g2
  obtain ⟨g5, g6⟩ := and_e g4
  obtain ⟨g7, g8⟩ := and_e g6
  obtain ⟨g9, g10⟩ := and_e g8
  obtain ⟨g11, g12⟩ := and_e g10
  obtain ⟨w0, w1, w2, w3, w4, w5, rfl⟩ : ∃ w0 w1 w2 w3 w4 w5 : Value, args = #[w0, w1, w2, w3, w4, w5] := by
    have hs : args.size = 6 := by simpa [Cond.value, given_1] using g1
    obtain ⟨L⟩ := args
    match L, hs with
    | [w0, w1, w2, w3, w4, w5], _ => exact ⟨w0, w1, w2, w3, w4, w5, rfl⟩
  have hw0 := fun d (hd : d ∈ tables_1) => atoms_spec (ws := Jvm.Cond.code x code maxLocals ret :: tables_1) hat d (List.mem_cons_of_mem _ hd)
  have hfit : Fit s := fun {y c} hc i hi => by
    obtain ⟨ha, rfl⟩ := Array.getElem?_eq_some_iff.mp hc
    have q := List.all_eq_true.mp ((Array.all_eq_true_iff_forall_mem.mp hF) _ (Array.getElem_mem ha)) i (List.mem_range.mpr hi)
    simpa [Array.getElem?_eq_getElem hi] using q
  obtain ⟨hsets, hown0⟩ := atoms_of _ (rest_1_c_eq ▸ (show rest_1_c.before _ s = true from hrest))
  have hr0 := Cond.before_iff.mp hown0
  obtain ⟨i0, ei0⟩ := is_v g3
  obtain rfl : w0 = (.int i0) := Option.some.inj ei0
  obtain ⟨i1, ei1⟩ := is_v g5
  obtain rfl : w1 = (.int i1) := Option.some.inj ei1
  obtain ⟨i2, ei2⟩ := is_v g7
  obtain rfl : w2 = (.int i2) := Option.some.inj ei2
  obtain ⟨i3, ei3⟩ := is_v g9
  obtain rfl : w3 = (.int i3) := Option.some.inj ei3
  obtain ⟨i4, ei4⟩ := is_v g11
  obtain rfl : w4 = (.int i4) := Option.some.inj ei4
  obtain ⟨i5, ei5⟩ := is_v g12
  obtain rfl : w5 = (.int i5) := Option.some.inj ei5
  obtain ⟨vc, ec⟩ := is_v (Cond.before_iff.mp (hsets _ (List.mem_of_getElem? (i := 1) rfl)))
  have Sc := Sta.start ec (Or.inl (hsets _ (List.mem_of_getElem? (i := 0) rfl)))
  have cc : ¬ vc = (0 : Int32) := gotF (Cond.eq_ints ec (Term.int_eval (0))) (not_v (Cond.before_iff.mp (hsets _ (List.mem_of_getElem? (i := 2) rfl))))
  obtain ⟨vf, ef, rf⟩ := isR_v (Cond.before_iff.mp (hsets _ (List.mem_of_getElem? (i := 8) rfl)))
  have Sf := Sta.start ef (Or.inl (hsets _ (List.mem_of_getElem? (i := 7) rfl)))
  have hw : Ws (l, s, #[.int i0, .int i1, .int i2, .int i3, .int i4, .int i5], s.heap.size, fun _ => True) := ⟨hw0, ⟨_, Sc, cc⟩, ⟨_, Sf, rf⟩⟩
  have hCH : CHv s consts_1 s.vm s.heap := CHv.start (a0 := wA (l, s, #[.int i0, .int i1, .int i2, .int i3, .int i4, .int i5], s.heap.size, fun _ => True)) (ew_1 hw) (fun p hp => show Jvm.Lit.constHeld s p.1 p.2 from hcalls.1 p hp) (hsets _ (List.mem_of_getElem? (i := 2) rfl)) (sa_1 hw _ (List.mem_of_getElem? (i := 2) rfl)) (sa_1 hw _ (List.mem_of_getElem? (i := 1) rfl))
  obtain ⟨n, o, h1, h2, h3, v, L, rfl, ⟨N, -, _, -, rfl, -⟩, -, hq⟩ := (rm_law (W := (l, s, #[.int i0, .int i1, .int i2, .int i3, .int i4, .int i5], s.heap.size, fun _ => True)) hw i0 i1 i2 i3 i4 i5) tables_1 s.heap hp0 p e ha hc hk s m _ below hf ((Spec.applies_iff_loose hf).mp happ).1 ⟨rfl, State.Warmed39.refl s, rfl, hCH, fun _ q => (nomatch q)⟩ trivial
  refine ⟨n, _, h1, h2, h3, hpost _ _ _ _ _ _ ⟨Cond.after_iff.mpr rfl, Cond.after_iff.mpr (eq_i res_at (Term.int_eval (1)) rfl), trivial⟩ ⟨hq.1, hq.2.1, hq.2.2.1, (hq.2.2.2.sift fun y hy => Or.inr (N y hy)).mono (by decide) (by decide)⟩⟩
theorem main_1_1 : Claimed_1_1 := comes_1 fun _ _ _ _ _ _ h hF => ⟨h.1, hF⟩
theorem main_1_2 : Claimed_1_2 := comes_1 fun _ _ _ _ _ _ h hF => ⟨h.2.1, hF⟩
end Jvm.Pilot.@@N@@
namespace Jvm.Pilot.@@N@@
open Jvm Jvm.ClassFile Sem Op Lib Jvm.Free Jvm.Stand Jvm.Pilot.@@N@@.Jvm.D
/-! MADE BY PROGRAM (witnessworld.py) out of the Statement's table words and the real class files: 28 classes; the members and pool entries that the words name. The judged class is class 1, her method 6. -/
namespace start1
open Jvm.ClassFile
def u (s : String) : CpInfo := .utf8 (stringToUtf16 s)
/-- a pool by its gaps: so many unusable entries, then the entry; so many at the end -/
def gap : Nat → List CpInfo → List CpInfo
  | 0, r => r
  | n + 1, r => .unusable :: gap n r
def poolList (es : List (Nat × CpInfo)) (last : Nat) : List CpInfo := es.foldr (fun e r => gap e.1 (e.2 :: r)) (gap last [])
def pool (es : List (Nat × CpInfo)) (last : Nat) : Array CpInfo := ⟨poolList es last⟩
def fileOf (pool : Array CpInfo) (this : Nat) (attrs : Array Attribute := #[]) (ms : Array MethodInfo := #[]) (fl : Nat := 33) (sup : Nat := 0) (ifs : Array Nat := #[]) (fds : Array FieldInfo := #[]) : ClassFile where
  minorVersion := 0
  majorVersion := 65
  constantPool := pool
  accessFlags := fl
  thisClass := this
  superClass := sup
  interfaces := ifs
  fields := fds
  methods := ms
  attributes := attrs
def plain (name : String) (sup : Option ClassId) : Class where
  name := name
  kind := .ordinary
  loader := none
  accessFlags := 33
  super := sup
  interfaces := #[]
  cf := none
  fields := #[]
  methods := #[]
  instanceTypes := #[]
  staticTypes := #[]
  resolved := #[]
  callSites := []
  init := .initialized
  statics := none
  mirror := none

def pool0 : Array CpInfo := pool [(5, u "<init>"), (0, u "()V"), (1, .class_ 10), (1, u "java/lang/Object"), (85, u "clone"), (0, u "()Ljava/lang/Object;")] 26

def k0c0 : Code := { maxStack := 0, maxLocals := 1, code := object_method_1_code, exceptionTable := #[], attributes := #[] }
def k0m0 : Method := { name := "<init>", desc := "()V", sig := { parameters := [], returnType := none }, accessFlags := 1, code := some k0c0 }
def k0m1 : Method := { name := "clone", desc := "()Ljava/lang/Object;", sig := { parameters := [], returnType := some (.object "java/lang/Object") }, accessFlags := 260, code := none }
/-- java/lang/Object -/
def k0 : Class := { plain "java/lang/Object" none with
  accessFlags := 33
  interfaces := #[]
  cf := some (fileOf pool0 8 #[] #[{ accessFlags := 1, nameIndex := 5, descriptorIndex := 6, attributes := #[] }, { accessFlags := 260, nameIndex := 96, descriptorIndex := 97, attributes := #[] }] 33 0 #[] #[])
  fields := #[]
  methods := #[k0m0, k0m1]
  instanceTypes := #[]
  staticTypes := #[]
  resolved := Array.replicate 124 none
  statics := none }

def pool1 : Array CpInfo := pool [(2, .class_ 4), (1, u "java/lang/Object"), (0, u "<init>"), (0, u "()V"), (0, .class_ 8), (0, u "java/lang/String"), (0, .methodref 7 10), (0, .nameAndType 5 11), (0, u "([C)V"), (0, .methodref 7 13), (0, .nameAndType 14 15), (0, u "charAt"), (0, u "(I)C"), (0, .methodref 17 18), (0, .class_ 19), (0, .nameAndType 20 21), (0, u "com/example/polje/polje/ObfuscatorsEmailPinLaw"), (0, u "expected"), (0, u "([CIZII)C"), (0, .integer 2147483647), (0, .methodref 17 24), (0, .nameAndType 25 15), (0, u "draw"), (0, .methodref 17 27), (0, .nameAndType 28 29), (0, u "make"), (0, u "([CI)Ljava/lang/String;"), (0, .methodref 17 31), (0, .nameAndType 32 33), (0, u "isAt"), (0, u "([CII)I"), (0, .methodref 35 36), (0, .class_ 37), (0, .nameAndType 38 39), (0, u "com/example/polje/polje/Obfuscators"), (0, u "email"), (0, u "(Ljava/lang/String;)Ljava/lang/String;"), (0, .methodref 7 41), (0, .nameAndType 42 43), (0, u "length"), (0, u "()I"), (0, .methodref 17 45), (0, .nameAndType 46 47), (0, u "pos"), (0, u "(Ljava/lang/String;[CIIZII)Z"), (3, u "law"), (0, u "(IIIIII)Z")] 4

def k1m0 : Method := { name := "<init>", desc := "()V", sig := { parameters := [], returnType := none }, accessFlags := 1, code := none }
def k1c1 : Code := { maxStack := 2, maxLocals := 2, code := method_2_code, exceptionTable := #[], attributes := #[] }
def k1m1 : Method := { name := "draw", desc := "(I)C", sig := { parameters := [.int], returnType := some .char }, accessFlags := 10, code := some k1c1 }
def k1c2 : Code := { maxStack := 7, maxLocals := 2, code := method_3_code, exceptionTable := #[], attributes := #[] }
def k1m2 : Method := { name := "make", desc := "([CI)Ljava/lang/String;", sig := { parameters := [(.array .char), .int], returnType := some (.object "java/lang/String") }, accessFlags := 10, code := some k1c2 }
def k1c3 : Code := { maxStack := 2, maxLocals := 3, code := method_4_code, exceptionTable := #[], attributes := #[] }
def k1m3 : Method := { name := "isAt", desc := "([CII)I", sig := { parameters := [(.array .char), .int, .int], returnType := some .int }, accessFlags := 10, code := some k1c3 }
def k1c4 : Code := { maxStack := 3, maxLocals := 5, code := method_5_code, exceptionTable := #[], attributes := #[] }
def k1m4 : Method := { name := "expected", desc := "([CIZII)C", sig := { parameters := [(.array .char), .int, .boolean, .int, .int], returnType := some .char }, accessFlags := 10, code := some k1c4 }
def k1c5 : Code := { maxStack := 6, maxLocals := 7, code := method_6_code, exceptionTable := #[], attributes := #[] }
def k1m5 : Method := { name := "pos", desc := "(Ljava/lang/String;[CIIZII)Z", sig := { parameters := [(.object "java/lang/String"), (.array .char), .int, .int, .boolean, .int, .int], returnType := some .boolean }, accessFlags := 10, code := some k1c5 }
def k1c6 : Code := { maxStack := 7, maxLocals := 14, code := code, exceptionTable := #[], attributes := #[] }
def k1m6 : Method := { name := "law", desc := "(IIIIII)Z", sig := { parameters := [.int, .int, .int, .int, .int, .int], returnType := some .boolean }, accessFlags := 9, code := some k1c6 }
/-- com/example/polje/polje/ObfuscatorsEmailPinLaw -/
def k1 : Class := { plain "com/example/polje/polje/ObfuscatorsEmailPinLaw" (some 0) with
  accessFlags := 49
  interfaces := #[]
  cf := some (fileOf pool1 17 #[] #[{ accessFlags := 1, nameIndex := 5, descriptorIndex := 6, attributes := #[] }, { accessFlags := 10, nameIndex := 25, descriptorIndex := 15, attributes := #[] }, { accessFlags := 10, nameIndex := 28, descriptorIndex := 29, attributes := #[] }, { accessFlags := 10, nameIndex := 32, descriptorIndex := 33, attributes := #[] }, { accessFlags := 10, nameIndex := 20, descriptorIndex := 21, attributes := #[] }, { accessFlags := 10, nameIndex := 46, descriptorIndex := 47, attributes := #[] }, { accessFlags := 9, nameIndex := 51, descriptorIndex := 52, attributes := #[] }] 49 2 #[] #[])
  fields := #[]
  methods := #[k1m0, k1m1, k1m2, k1m3, k1m4, k1m5, k1m6]
  instanceTypes := #[]
  staticTypes := #[]
  resolved := Array.replicate 57 none
  statics := none }

def pool2 : Array CpInfo := pool [(1, .class_ 2), (0, u "java/io/Serializable"), (0, .class_ 4), (0, u "java/lang/Object")] 2

/-- java/io/Serializable -/
def k2 : Class := { plain "java/io/Serializable" (some 0) with
  accessFlags := 1537
  interfaces := #[]
  cf := some (fileOf pool2 1 #[] #[] 1537 3 #[] #[])
  fields := #[]
  methods := #[]
  instanceTypes := #[]
  staticTypes := #[]
  resolved := Array.replicate 7 none
  statics := none }

def pool3 : Array CpInfo := pool [(1, .class_ 2), (0, u "java/lang/Comparable"), (0, .class_ 4), (0, u "java/lang/Object")] 7

/-- java/lang/Comparable -/
def k3 : Class := { plain "java/lang/Comparable" (some 0) with
  accessFlags := 1537
  interfaces := #[]
  cf := some (fileOf pool3 1 #[] #[] 1537 3 #[] #[])
  fields := #[]
  methods := #[]
  instanceTypes := #[]
  staticTypes := #[]
  resolved := Array.replicate 12 none
  statics := none }

def pool4 : Array CpInfo := pool [(2, .class_ 4), (1, u "java/lang/CharSequence"), (42, .class_ 48), (0, u "java/lang/CharSequence$1CodePointIterator"), (10, .class_ 60), (0, u "java/lang/CharSequence$1CharIterator"), (5, .class_ 67), (0, u "java/lang/Object")] 63

/-- java/lang/CharSequence -/
def k4 : Class := { plain "java/lang/CharSequence" (some 0) with
  accessFlags := 1537
  interfaces := #[]
  cf := some (fileOf pool4 2 #[.nestMembers #[47, 59]] #[] 1537 66 #[] #[])
  fields := #[]
  methods := #[]
  instanceTypes := #[]
  staticTypes := #[]
  resolved := Array.replicate 131 none
  statics := none }

def pool5 : Array CpInfo := pool [(1, .class_ 2), (0, u "java/lang/constant/Constable"), (0, .class_ 4), (0, u "java/lang/Object")] 6

/-- java/lang/constant/Constable -/
def k5 : Class := { plain "java/lang/constant/Constable" (some 0) with
  accessFlags := 1537
  interfaces := #[]
  cf := some (fileOf pool5 1 #[] #[] 1537 3 #[] #[])
  fields := #[]
  methods := #[]
  instanceTypes := #[]
  staticTypes := #[]
  resolved := Array.replicate 11 none
  statics := none }

def pool6 : Array CpInfo := pool [(1, .class_ 2), (0, u "java/lang/constant/ConstantDesc"), (0, .class_ 4), (0, u "java/lang/Object")] 32

/-- java/lang/constant/ConstantDesc -/
def k6 : Class := { plain "java/lang/constant/ConstantDesc" (some 0) with
  accessFlags := 1537
  interfaces := #[]
  cf := some (fileOf pool6 1 #[] #[] 1537 3 #[] #[])
  fields := #[]
  methods := #[]
  instanceTypes := #[]
  staticTypes := #[]
  resolved := Array.replicate 37 none
  statics := none }

def pool7 : Array CpInfo := pool [(1, .methodref 2 3), (0, .class_ 4), (0, .nameAndType 5 6), (0, u "java/lang/Object"), (0, u "<init>"), (0, u "()V"), (0, .string 8), (0, u ""), (0, .fieldref 10 11), (0, .class_ 12), (0, .nameAndType 13 14), (0, u "java/lang/String"), (0, u "value"), (0, u "[B"), (0, .fieldref 10 16), (0, .nameAndType 17 18), (0, u "coder"), (0, u "B"), (2, u "hash"), (0, u "I"), (2, u "hashIsZero"), (0, u "Z"), (0, .methodref 10 28), (0, .nameAndType 5 29), (0, u "([CIILjava/lang/Void;)V"), (7, u "(III)I"), (0, .fieldref 10 39), (0, .nameAndType 40 26), (0, u "COMPACT_STRINGS"), (1, .class_ 44), (1, u "java/lang/StringUTF16"), (0, u "compress"), (1, .methodref 42 48), (0, .nameAndType 49 50), (0, u "coderFromArrayLen"), (0, u "([BI)B"), (3, .methodref 55 56), (0, .class_ 57), (0, .nameAndType 58 59), (0, u "java/util/Arrays"), (0, u "copyOfRange"), (0, u "([BII)[B"), (19, .class_ 81), (1, u "java/util/Objects"), (15, u "([BII)I"), (9, .class_ 109), (1, u "java/lang/StringLatin1"), (32, u "()Z"), (34, .methodref 42 178), (0, .nameAndType 45 179), (0, u "([CII)[B"), (13, .class_ 195), (1, u "java/lang/System"), (15, u "([BB)V"), (0, .methodref 193 213), (0, .nameAndType 214 215), (0, u "arraycopy"), (0, u "(Ljava/lang/Object;ILjava/lang/Object;II)V"), (118, u "()I"), (0, .methodref 10 336), (0, .nameAndType 17 337), (0, u "()B"), (2, u "()[B"), (22, u "([BI)C"), (27, u "(II)V"), (35, u "(I)C"), (61, .methodref 10 490), (0, .nameAndType 5 491), (0, u "(Ljava/lang/AbstractStringBuilder;Ljava/lang/Void;)V"), (0, .methodref 10 493), (0, .nameAndType 494 142), (0, u "isLatin1"), (0, .methodref 107 496), (0, .nameAndType 497 363), (0, u "charAt"), (1, .methodref 10 500), (0, .nameAndType 501 391), (0, u "checkIndex"), (2, u "codePointAt"), (0, .methodref 10 506), (0, .nameAndType 507 334), (0, u "length"), (3, .methodref 79 512), (0, .nameAndType 513 37), (0, u "checkFromToIndex"), (2, u "codePointCount"), (4, .methodref 10 522), (0, .nameAndType 523 524), (0, u "checkBoundsBeginEnd"), (0, u "(III)V"), (7, u "getBytes"), (16, .methodref 550 506), (0, .class_ 551), (0, u "java/lang/AbstractStringBuilder"), (0, .methodref 550 553), (0, .nameAndType 554 340), (0, u "getValue"), (20, .class_ 576), (0, u "java/lang/CharSequence"), (22, u "CASE_INSENSITIVE_ORDER"), (0, u "Ljava/util/Comparator;"), (32, .methodref 10 634), (0, .nameAndType 635 636), (0, u "indexOf"), (0, u "(II)I"), (0, .methodref 107 638), (0, .nameAndType 635 639), (0, u "([BIII)I"), (1, .methodref 10 642), (0, .nameAndType 643 636), (0, u "lastIndexOf"), (0, .methodref 107 645), (0, .nameAndType 643 97), (35, .methodref 10 682), (0, .nameAndType 683 684), (0, u "substring"), (0, u "(II)Ljava/lang/String;"), (0, .methodref 107 686), (0, .nameAndType 687 688), (0, u "newString"), (0, u "([BII)Ljava/lang/String;"), (76, u "(I)I"), (55, u "([BIB)V"), (70, u "(I)Ljava/lang/String;"), (117, u "([C)V"), (36, .methodref 550 493), (5, .fieldref 1054 1055), (0, .class_ 1056), (0, .nameAndType 1057 1058), (0, u "jdk/internal/util/Preconditions"), (0, u "SIOOBE_FORMATTER"), (0, u "Ljava/util/function/BiFunction;"), (0, .methodref 1054 1060), (0, .nameAndType 501 1061), (0, u "(IILjava/util/function/BiFunction;)I"), (0, .methodref 1054 1063), (0, .nameAndType 513 1064), (0, u "(IIILjava/util/function/BiFunction;)I"), (36, u "serialPersistentFields"), (0, u "[Ljava/io/ObjectStreamField;"), (0, .class_ 1104), (0, u "java/lang/String$CaseInsensitiveComparator"), (1, .class_ 1107), (0, u "java/io/Serializable"), (0, .class_ 1109), (0, u "java/lang/Comparable"), (0, .class_ 1111), (0, u "java/lang/constant/Constable"), (0, .class_ 1113), (0, u "java/lang/constant/ConstantDesc"), (2, u "serialVersionUID"), (0, u "J"), (3, u "REPL"), (0, u "C"), (2, u "LATIN1"), (1, u "UTF16"), (105, u "(Ljava/lang/StringBuilder;)V")] 217

def k7m0 : Method := { name := "<init>", desc := "()V", sig := { parameters := [], returnType := none }, accessFlags := 1, code := none }
def k7c1 : Code := { maxStack := 5, maxLocals := 2, code := jdk_42_method_3_code, exceptionTable := #[], attributes := #[] }
def k7m1 : Method := { name := "<init>", desc := "([C)V", sig := { parameters := [(.array .char)], returnType := none }, accessFlags := 1, code := some k7c1 }
def k7c2 : Code := { maxStack := 3, maxLocals := 2, code := jdk_42_method_53_code, exceptionTable := #[], attributes := #[] }
def k7m2 : Method := { name := "<init>", desc := "(Ljava/lang/StringBuilder;)V", sig := { parameters := [(.object "java/lang/StringBuilder")], returnType := none }, accessFlags := 1, code := some k7c2 }
def k7c3 : Code := { maxStack := 2, maxLocals := 1, code := jdk_42_method_54_code, exceptionTable := #[], attributes := #[] }
def k7m3 : Method := { name := "length", desc := "()I", sig := { parameters := [], returnType := some .int }, accessFlags := 1, code := some k7c3 }
def k7c4 : Code := { maxStack := 2, maxLocals := 2, code := jdk_42_method_56_code, exceptionTable := #[], attributes := #[] }
def k7m4 : Method := { name := "charAt", desc := "(I)C", sig := { parameters := [.int], returnType := some .char }, accessFlags := 1, code := some k7c4 }
def k7c5 : Code := { maxStack := 3, maxLocals := 3, code := jdk_42_method_57_code, exceptionTable := #[], attributes := #[] }
def k7m5 : Method := { name := "codePointAt", desc := "(I)I", sig := { parameters := [.int], returnType := some .int }, accessFlags := 1, code := some k7c5 }
def k7c6 : Code := { maxStack := 3, maxLocals := 3, code := jdk_42_method_59_code, exceptionTable := #[], attributes := #[] }
def k7m6 : Method := { name := "codePointCount", desc := "(II)I", sig := { parameters := [.int, .int], returnType := some .int }, accessFlags := 1, code := some k7c6 }
def k7c7 : Code := { maxStack := 3, maxLocals := 2, code := jdk_42_method_79_code, exceptionTable := #[], attributes := #[] }
def k7m7 : Method := { name := "indexOf", desc := "(I)I", sig := { parameters := [.int], returnType := some .int }, accessFlags := 1, code := some k7c7 }
def k7c8 : Code := { maxStack := 4, maxLocals := 3, code := jdk_42_method_80_code, exceptionTable := #[], attributes := #[] }
def k7m8 : Method := { name := "indexOf", desc := "(II)I", sig := { parameters := [.int, .int], returnType := some .int }, accessFlags := 1, code := some k7c8 }
def k7c9 : Code := { maxStack := 4, maxLocals := 2, code := jdk_42_method_82_code, exceptionTable := #[], attributes := #[] }
def k7m9 : Method := { name := "lastIndexOf", desc := "(I)I", sig := { parameters := [.int], returnType := some .int }, accessFlags := 1, code := some k7c9 }
def k7c10 : Code := { maxStack := 3, maxLocals := 3, code := jdk_42_method_83_code, exceptionTable := #[], attributes := #[] }
def k7m10 : Method := { name := "lastIndexOf", desc := "(II)I", sig := { parameters := [.int, .int], returnType := some .int }, accessFlags := 1, code := some k7c10 }
def k7c11 : Code := { maxStack := 3, maxLocals := 2, code := jdk_42_method_91_code, exceptionTable := #[], attributes := #[] }
def k7m11 : Method := { name := "substring", desc := "(I)Ljava/lang/String;", sig := { parameters := [.int], returnType := some (.object "java/lang/String") }, accessFlags := 1, code := some k7c11 }
def k7c12 : Code := { maxStack := 3, maxLocals := 5, code := jdk_42_method_92_code, exceptionTable := #[], attributes := #[] }
def k7m12 : Method := { name := "substring", desc := "(II)Ljava/lang/String;", sig := { parameters := [.int, .int], returnType := some (.object "java/lang/String") }, accessFlags := 1, code := some k7c12 }
def k7c13 : Code := { maxStack := 5, maxLocals := 4, code := jdk_42_method_147_code, exceptionTable := #[], attributes := #[] }
def k7m13 : Method := { name := "getBytes", desc := "([BIB)V", sig := { parameters := [(.array .byte), .int, .byte], returnType := none }, accessFlags := 0, code := some k7c13 }
def k7c14 : Code := { maxStack := 4, maxLocals := 6, code := jdk_42_method_149_code, exceptionTable := #[], attributes := #[] }
def k7m14 : Method := { name := "<init>", desc := "([CIILjava/lang/Void;)V", sig := { parameters := [(.array .char), .int, .int, (.object "java/lang/Void")], returnType := none }, accessFlags := 2, code := some k7c14 }
def k7c15 : Code := { maxStack := 5, maxLocals := 5, code := jdk_42_method_150_code, exceptionTable := #[], attributes := #[] }
def k7m15 : Method := { name := "<init>", desc := "(Ljava/lang/AbstractStringBuilder;Ljava/lang/Void;)V", sig := { parameters := [(.object "java/lang/AbstractStringBuilder"), (.object "java/lang/Void")], returnType := none }, accessFlags := 0, code := some k7c15 }
def k7c16 : Code := { maxStack := 2, maxLocals := 3, code := jdk_42_method_151_code, exceptionTable := #[], attributes := #[] }
def k7m16 : Method := { name := "<init>", desc := "([BB)V", sig := { parameters := [(.array .byte), .byte], returnType := none }, accessFlags := 0, code := some k7c16 }
def k7c17 : Code := { maxStack := 1, maxLocals := 1, code := jdk_42_method_152_code, exceptionTable := #[], attributes := #[] }
def k7m17 : Method := { name := "coder", desc := "()B", sig := { parameters := [], returnType := some .byte }, accessFlags := 0, code := some k7c17 }
def k7c18 : Code := { maxStack := 1, maxLocals := 1, code := jdk_42_method_154_code, exceptionTable := #[], attributes := #[] }
def k7m18 : Method := { name := "isLatin1", desc := "()Z", sig := { parameters := [], returnType := some .boolean }, accessFlags := 0, code := some k7c18 }
def k7c19 : Code := { maxStack := 3, maxLocals := 2, code := jdk_42_method_155_code, exceptionTable := #[], attributes := #[] }
def k7m19 : Method := { name := "checkIndex", desc := "(II)V", sig := { parameters := [.int, .int], returnType := none }, accessFlags := 8, code := some k7c19 }
def k7c20 : Code := { maxStack := 4, maxLocals := 3, code := jdk_42_method_158_code, exceptionTable := #[], attributes := #[] }
def k7m20 : Method := { name := "checkBoundsBeginEnd", desc := "(III)V", sig := { parameters := [.int, .int, .int], returnType := none }, accessFlags := 8, code := some k7c20 }
/-- java/lang/String -/
def k7 : Class := { plain "java/lang/String" (some 0) with
  accessFlags := 49
  interfaces := #[2, 3, 4, 5, 6]
  cf := some (fileOf pool7 10 #[.nestMembers #[1103]] #[{ accessFlags := 1, nameIndex := 5, descriptorIndex := 6, attributes := #[] }, { accessFlags := 1, nameIndex := 5, descriptorIndex := 1010, attributes := #[] }, { accessFlags := 1, nameIndex := 5, descriptorIndex := 1233, attributes := #[] }, { accessFlags := 1, nameIndex := 507, descriptorIndex := 334, attributes := #[] }, { accessFlags := 1, nameIndex := 497, descriptorIndex := 427, attributes := #[] }, { accessFlags := 1, nameIndex := 504, descriptorIndex := 765, attributes := #[] }, { accessFlags := 1, nameIndex := 516, descriptorIndex := 636, attributes := #[] }, { accessFlags := 1, nameIndex := 635, descriptorIndex := 765, attributes := #[] }, { accessFlags := 1, nameIndex := 635, descriptorIndex := 636, attributes := #[] }, { accessFlags := 1, nameIndex := 643, descriptorIndex := 765, attributes := #[] }, { accessFlags := 1, nameIndex := 643, descriptorIndex := 636, attributes := #[] }, { accessFlags := 1, nameIndex := 683, descriptorIndex := 892, attributes := #[] }, { accessFlags := 1, nameIndex := 683, descriptorIndex := 684, attributes := #[] }, { accessFlags := 0, nameIndex := 532, descriptorIndex := 821, attributes := #[] }, { accessFlags := 2, nameIndex := 5, descriptorIndex := 29, attributes := #[] }, { accessFlags := 0, nameIndex := 5, descriptorIndex := 491, attributes := #[] }, { accessFlags := 0, nameIndex := 5, descriptorIndex := 211, attributes := #[] }, { accessFlags := 0, nameIndex := 17, descriptorIndex := 337, attributes := #[] }, { accessFlags := 0, nameIndex := 494, descriptorIndex := 142, attributes := #[] }, { accessFlags := 8, nameIndex := 501, descriptorIndex := 391, attributes := #[] }, { accessFlags := 8, nameIndex := 523, descriptorIndex := 524, attributes := #[] }] 49 2 #[1106, 1108, 575, 1110, 1112] #[{ accessFlags := 18, nameIndex := 13, descriptorIndex := 14, attributes := #[] }, { accessFlags := 18, nameIndex := 17, descriptorIndex := 18, attributes := #[] }, { accessFlags := 2, nameIndex := 21, descriptorIndex := 22, attributes := #[] }, { accessFlags := 2, nameIndex := 25, descriptorIndex := 26, attributes := #[] }, { accessFlags := 26, nameIndex := 1116, descriptorIndex := 1117, attributes := #[] }, { accessFlags := 24, nameIndex := 40, descriptorIndex := 26, attributes := #[] }, { accessFlags := 26, nameIndex := 1101, descriptorIndex := 1102, attributes := #[] }, { accessFlags := 26, nameIndex := 1121, descriptorIndex := 1122, attributes := #[] }, { accessFlags := 25, nameIndex := 599, descriptorIndex := 600, attributes := #[] }, { accessFlags := 24, nameIndex := 1125, descriptorIndex := 18, attributes := #[] }, { accessFlags := 24, nameIndex := 1127, descriptorIndex := 18, attributes := #[] }])
  fields := #[{ name := "value", type := (.array .byte), accessFlags := 18, slot := 0, constantValue := 0 }, { name := "coder", type := .byte, accessFlags := 18, slot := 1, constantValue := 0 }, { name := "hash", type := .int, accessFlags := 2, slot := 2, constantValue := 0 }, { name := "hashIsZero", type := .boolean, accessFlags := 2, slot := 3, constantValue := 0 }, { name := "serialVersionUID", type := .long, accessFlags := 26, slot := 0, constantValue := 0 }, { name := "COMPACT_STRINGS", type := .boolean, accessFlags := 24, slot := 1, constantValue := 0 }, { name := "serialPersistentFields", type := (.array (.object "java/io/ObjectStreamField")), accessFlags := 26, slot := 2, constantValue := 0 }, { name := "REPL", type := .char, accessFlags := 26, slot := 3, constantValue := 0 }, { name := "CASE_INSENSITIVE_ORDER", type := (.object "java/util/Comparator"), accessFlags := 25, slot := 4, constantValue := 0 }, { name := "LATIN1", type := .byte, accessFlags := 24, slot := 5, constantValue := 0 }, { name := "UTF16", type := .byte, accessFlags := 24, slot := 6, constantValue := 0 }]
  methods := #[k7m0, k7m1, k7m2, k7m3, k7m4, k7m5, k7m6, k7m7, k7m8, k7m9, k7m10, k7m11, k7m12, k7m13, k7m14, k7m15, k7m16, k7m17, k7m18, k7m19, k7m20]
  instanceTypes := #[(.array .byte), .byte, .int, .boolean]
  staticTypes := #[.long, .boolean, (.array (.object "java/io/ObjectStreamField")), .char, (.object "java/util/Comparator"), .byte, .byte]
  resolved := Array.replicate 1451 none
  statics := some 0 }

def pool8 : Array CpInfo := pool [(2, .class_ 4), (0, .nameAndType 5 6), (0, u "java/lang/Object"), (0, u "<init>"), (0, u "()V"), (0, .methodref 8 9), (0, .class_ 10), (0, .nameAndType 11 12), (0, u "java/lang/String"), (0, u "indexOf"), (0, u "(I)I"), (0, .methodref 8 14), (0, .nameAndType 15 12), (0, u "lastIndexOf"), (0, .methodref 8 17), (0, .nameAndType 18 19), (0, u "length"), (0, u "()I"), (0, .methodref 21 22), (0, .class_ 23), (0, .nameAndType 24 25), (0, u "com/example/polje/polje/Obfuscators"), (0, u "starred"), (0, u "(Ljava/lang/String;II)Ljava/lang/String;"), (0, .methodref 8 27), (0, .nameAndType 28 29), (0, u "substring"), (0, u "(II)Ljava/lang/String;"), (0, .methodref 8 31), (0, .nameAndType 28 32), (0, u "(I)Ljava/lang/String;"), (0, .string 34), (0, u ""), (0, .class_ 36), (0, u "java/lang/StringBuilder"), (0, .methodref 35 3), (0, .methodref 35 39), (0, .nameAndType 40 41), (0, u "append"), (0, u "(Ljava/lang/String;)Ljava/lang/StringBuilder;"), (0, .string 43), (0, u "@"), (0, .methodref 35 45), (0, .nameAndType 46 47), (0, u "toString"), (0, u "()Ljava/lang/String;"), (0, .methodref 8 49), (0, .nameAndType 50 51), (0, u "codePointCount"), (0, u "(II)I"), (0, .methodref 35 53), (0, .nameAndType 5 54), (0, u "(I)V"), (0, .methodref 8 56), (0, .nameAndType 57 12), (0, u "codePointAt"), (0, .methodref 35 59), (0, .nameAndType 60 61), (0, u "appendCodePoint"), (0, u "(I)Ljava/lang/StringBuilder;"), (0, .methodref 63 64), (0, .class_ 65), (0, .nameAndType 66 12), (0, u "java/lang/Character"), (0, u "charCount"), (0, u "STAR"), (0, u "I"), (4, u "email"), (0, u "(Ljava/lang/String;)Ljava/lang/String;")] 3

def k8m0 : Method := { name := "<init>", desc := "()V", sig := { parameters := [], returnType := none }, accessFlags := 2, code := none }
def k8c1 : Code := { maxStack := 4, maxLocals := 8, code := prog_5_method_2_code, exceptionTable := #[], attributes := #[] }
def k8m1 : Method := { name := "email", desc := "(Ljava/lang/String;)Ljava/lang/String;", sig := { parameters := [(.object "java/lang/String")], returnType := some (.object "java/lang/String") }, accessFlags := 9, code := some k8c1 }
def k8c2 : Code := { maxStack := 3, maxLocals := 9, code := prog_5_method_3_code, exceptionTable := #[], attributes := #[] }
def k8m2 : Method := { name := "starred", desc := "(Ljava/lang/String;II)Ljava/lang/String;", sig := { parameters := [(.object "java/lang/String"), .int, .int], returnType := some (.object "java/lang/String") }, accessFlags := 10, code := some k8c2 }
/-- com/example/polje/polje/Obfuscators -/
def k8 : Class := { plain "com/example/polje/polje/Obfuscators" (some 0) with
  accessFlags := 49
  interfaces := #[]
  cf := some (fileOf pool8 21 #[] #[{ accessFlags := 2, nameIndex := 5, descriptorIndex := 6, attributes := #[] }, { accessFlags := 9, nameIndex := 73, descriptorIndex := 74, attributes := #[] }, { accessFlags := 10, nameIndex := 24, descriptorIndex := 25, attributes := #[] }] 49 2 #[] #[{ accessFlags := 26, nameIndex := 67, descriptorIndex := 68, attributes := #[] }])
  fields := #[{ name := "STAR", type := .int, accessFlags := 26, slot := 0, constantValue := 0 }]
  methods := #[k8m0, k8m1, k8m2]
  instanceTypes := #[]
  staticTypes := #[.int]
  resolved := Array.replicate 78 none
  statics := none }

def pool9 : Array CpInfo := pool [(1, .class_ 2), (0, u "java/lang/String"), (1, .class_ 6), (1, u "java/lang/Object"), (0, u "<init>"), (0, u "()V"), (0, .methodref 1 10), (0, .nameAndType 11 12), (0, u "checkIndex"), (0, u "(II)V"), (1, .class_ 16), (1, u "java/lang/StringLatin1"), (21, .methodref 39 40), (0, .class_ 41), (0, .nameAndType 42 43), (0, u "java/lang/Math"), (0, u "min"), (0, u "(II)I"), (9, u "([BI)C"), (34, .methodref 14 89), (0, .nameAndType 90 91), (0, u "canEncode"), (0, u "(I)Z"), (0, .methodref 39 93), (0, .nameAndType 94 43), (0, u "max"), (0, .methodref 14 96), (0, .nameAndType 97 98), (0, u "indexOfChar"), (0, u "([BIII)I"), (2, u "indexOf"), (3, u "(C)Z"), (6, .methodref 1 113), (0, .nameAndType 7 114), (0, u "([BB)V"), (6, u "$assertionsDisabled"), (0, u "Z"), (8, .class_ 133), (1, u "java/util/Arrays"), (17, .string 152), (0, u ""), (43, u "newString"), (0, u "([BII)Ljava/lang/String;"), (23, .class_ 223), (1, u "java/lang/StringLatin1$LinesSpliterator"), (8, .methodref 131 233), (0, .nameAndType 234 235), (0, u "copyOfRange"), (0, u "([BII)[B"), (16, u "charAt"), (8, u "([BII)I"), (47, u "lastIndexOf"), (80, .class_ 391), (0, u "java/lang/StringLatin1$CharsSpliterator")] 3

def k9m0 : Method := { name := "<init>", desc := "()V", sig := { parameters := [], returnType := none }, accessFlags := 0, code := none }
def k9c1 : Code := { maxStack := 2, maxLocals := 2, code := jdk_43_method_2_code, exceptionTable := #[], attributes := #[] }
def k9m1 : Method := { name := "charAt", desc := "([BI)C", sig := { parameters := [(.array .byte), .int], returnType := some .char }, accessFlags := 9, code := some k9c1 }
def k9c2 : Code := { maxStack := 2, maxLocals := 1, code := jdk_43_method_3_code, exceptionTable := #[], attributes := #[] }
def k9m2 : Method := { name := "canEncode", desc := "(C)Z", sig := { parameters := [.char], returnType := some .boolean }, accessFlags := 9, code := some k9c2 }
def k9c3 : Code := { maxStack := 2, maxLocals := 1, code := jdk_43_method_4_code, exceptionTable := #[], attributes := #[] }
def k9m3 : Method := { name := "canEncode", desc := "(I)Z", sig := { parameters := [.int], returnType := some .boolean }, accessFlags := 9, code := some k9c3 }
def k9c4 : Code := { maxStack := 4, maxLocals := 4, code := jdk_43_method_22_code, exceptionTable := #[], attributes := #[] }
def k9m4 : Method := { name := "indexOf", desc := "([BIII)I", sig := { parameters := [(.array .byte), .int, .int, .int], returnType := some .int }, accessFlags := 9, code := some k9c4 }
def k9c5 : Code := { maxStack := 2, maxLocals := 6, code := jdk_43_method_23_code, exceptionTable := #[], attributes := #[] }
def k9m5 : Method := { name := "indexOfChar", desc := "([BIII)I", sig := { parameters := [(.array .byte), .int, .int, .int], returnType := some .int }, accessFlags := 10, code := some k9c5 }
def k9c6 : Code := { maxStack := 3, maxLocals := 4, code := jdk_43_method_27_code, exceptionTable := #[], attributes := #[] }
def k9m6 : Method := { name := "lastIndexOf", desc := "([BII)I", sig := { parameters := [(.array .byte), .int, .int], returnType := some .int }, accessFlags := 9, code := some k9c6 }
def k9c7 : Code := { maxStack := 6, maxLocals := 3, code := jdk_43_method_47_code, exceptionTable := #[], attributes := #[] }
def k9m7 : Method := { name := "newString", desc := "([BII)Ljava/lang/String;", sig := { parameters := [(.array .byte), .int, .int], returnType := some (.object "java/lang/String") }, accessFlags := 9, code := some k9c7 }
/-- java/lang/StringLatin1 -/
def k9 : Class := { plain "java/lang/StringLatin1" (some 0) with
  accessFlags := 48
  interfaces := #[]
  cf := some (fileOf pool9 14 #[.nestMembers #[390, 221]] #[{ accessFlags := 0, nameIndex := 7, descriptorIndex := 8, attributes := #[] }, { accessFlags := 9, nameIndex := 252, descriptorIndex := 53, attributes := #[] }, { accessFlags := 9, nameIndex := 90, descriptorIndex := 105, attributes := #[] }, { accessFlags := 9, nameIndex := 90, descriptorIndex := 91, attributes := #[] }, { accessFlags := 9, nameIndex := 101, descriptorIndex := 98, attributes := #[] }, { accessFlags := 10, nameIndex := 97, descriptorIndex := 98, attributes := #[] }, { accessFlags := 9, nameIndex := 309, descriptorIndex := 261, attributes := #[] }, { accessFlags := 9, nameIndex := 196, descriptorIndex := 197, attributes := #[] }] 48 4 #[] #[{ accessFlags := 4120, nameIndex := 121, descriptorIndex := 122, attributes := #[] }])
  fields := #[{ name := "$assertionsDisabled", type := .boolean, accessFlags := 4120, slot := 0, constantValue := 0 }]
  methods := #[k9m0, k9m1, k9m2, k9m3, k9m4, k9m5, k9m6, k9m7]
  instanceTypes := #[]
  staticTypes := #[.boolean]
  resolved := Array.replicate 395 none
  statics := none }

def pool10 : Array CpInfo := pool [(1, .class_ 2), (0, u "java/lang/Math"), (1, .class_ 6), (1, u "java/lang/Object"), (0, u "<init>"), (0, u "()V"), (89, .class_ 100), (1, u "java/lang/Math$RandomNumberGeneratorHolder"), (71, u "negativeZeroFloatBits"), (0, u "J"), (2, u "negativeZeroDoubleBits"), (21, u "max"), (2, u "min"), (43, u "$assertionsDisabled"), (0, u "Z"), (88, u "(II)I"), (2, u "twoToTheDoubleScaleDown"), (0, u "D"), (4, u "twoToTheDoubleScaleUp"), (9, u "E"), (3, u "PI"), (2, u "TAU"), (2, u "DEGREES_TO_RADIANS"), (0, u "RADIANS_TO_DEGREES")] 94

def k10m0 : Method := { name := "<init>", desc := "()V", sig := { parameters := [], returnType := none }, accessFlags := 2, code := none }
def k10c1 : Code := { maxStack := 2, maxLocals := 2, code := jdk_29_method_65_code, exceptionTable := #[], attributes := #[] }
def k10m1 : Method := { name := "max", desc := "(II)I", sig := { parameters := [.int, .int], returnType := some .int }, accessFlags := 9, code := some k10c1 }
def k10c2 : Code := { maxStack := 2, maxLocals := 2, code := jdk_29_method_69_code, exceptionTable := #[], attributes := #[] }
def k10m2 : Method := { name := "min", desc := "(II)I", sig := { parameters := [.int, .int], returnType := some .int }, accessFlags := 9, code := some k10c2 }
/-- java/lang/Math -/
def k10 : Class := { plain "java/lang/Math" (some 0) with
  accessFlags := 49
  interfaces := #[]
  cf := some (fileOf pool10 1 #[.nestMembers #[98]] #[{ accessFlags := 2, nameIndex := 7, descriptorIndex := 8, attributes := #[] }, { accessFlags := 9, nameIndex := 198, descriptorIndex := 335, attributes := #[] }, { accessFlags := 9, nameIndex := 201, descriptorIndex := 335, attributes := #[] }] 49 4 #[] #[{ accessFlags := 25, nameIndex := 354, descriptorIndex := 339, attributes := #[] }, { accessFlags := 25, nameIndex := 358, descriptorIndex := 339, attributes := #[] }, { accessFlags := 25, nameIndex := 361, descriptorIndex := 339, attributes := #[] }, { accessFlags := 26, nameIndex := 364, descriptorIndex := 339, attributes := #[] }, { accessFlags := 26, nameIndex := 365, descriptorIndex := 339, attributes := #[] }, { accessFlags := 26, nameIndex := 172, descriptorIndex := 173, attributes := #[] }, { accessFlags := 26, nameIndex := 176, descriptorIndex := 173, attributes := #[] }, { accessFlags := 8, nameIndex := 344, descriptorIndex := 339, attributes := #[] }, { accessFlags := 8, nameIndex := 338, descriptorIndex := 339, attributes := #[] }, { accessFlags := 4120, nameIndex := 245, descriptorIndex := 246, attributes := #[] }])
  fields := #[{ name := "E", type := .double, accessFlags := 25, slot := 0, constantValue := 0 }, { name := "PI", type := .double, accessFlags := 25, slot := 1, constantValue := 0 }, { name := "TAU", type := .double, accessFlags := 25, slot := 2, constantValue := 0 }, { name := "DEGREES_TO_RADIANS", type := .double, accessFlags := 26, slot := 3, constantValue := 0 }, { name := "RADIANS_TO_DEGREES", type := .double, accessFlags := 26, slot := 4, constantValue := 0 }, { name := "negativeZeroFloatBits", type := .long, accessFlags := 26, slot := 5, constantValue := 0 }, { name := "negativeZeroDoubleBits", type := .long, accessFlags := 26, slot := 6, constantValue := 0 }, { name := "twoToTheDoubleScaleUp", type := .double, accessFlags := 8, slot := 7, constantValue := 0 }, { name := "twoToTheDoubleScaleDown", type := .double, accessFlags := 8, slot := 8, constantValue := 0 }, { name := "$assertionsDisabled", type := .boolean, accessFlags := 4120, slot := 9, constantValue := 0 }]
  methods := #[k10m0, k10m1, k10m2]
  instanceTypes := #[]
  staticTypes := #[.double, .double, .double, .double, .double, .long, .long, .double, .double, .boolean]
  resolved := Array.replicate 460 none
  statics := none }

def pool11 : Array CpInfo := pool [(2, .class_ 4), (1, u "java/lang/Object"), (0, u "<init>"), (0, u "()V"), (35, .class_ 44), (1, u "java/util/Objects"), (61, .class_ 108), (1, u "jdk/internal/util/Preconditions"), (2, .methodref 106 112), (0, .nameAndType 113 114), (0, u "checkFromToIndex"), (0, u "(IIILjava/util/function/BiFunction;)I"), (60, u "(III)I")] 8

def k11m0 : Method := { name := "<init>", desc := "()V", sig := { parameters := [], returnType := none }, accessFlags := 2, code := none }
def k11c1 : Code := { maxStack := 4, maxLocals := 3, code := jdk_31_method_18_code, exceptionTable := #[], attributes := #[] }
def k11m1 : Method := { name := "checkFromToIndex", desc := "(III)I", sig := { parameters := [.int, .int, .int], returnType := some .int }, accessFlags := 9, code := some k11c1 }
/-- java/util/Objects -/
def k11 : Class := { plain "java/util/Objects" (some 0) with
  accessFlags := 49
  interfaces := #[]
  cf := some (fileOf pool11 42 #[] #[{ accessFlags := 2, nameIndex := 5, descriptorIndex := 6, attributes := #[] }, { accessFlags := 9, nameIndex := 113, descriptorIndex := 175, attributes := #[] }] 49 2 #[] #[])
  fields := #[]
  methods := #[k11m0, k11m1]
  instanceTypes := #[]
  staticTypes := #[]
  resolved := Array.replicate 184 none
  statics := none }

def pool12 : Array CpInfo := pool [(2, .class_ 4), (1, u "java/lang/Object"), (0, u "<init>"), (0, u "()V"), (17, .class_ 26), (1, u "jdk/internal/util/Preconditions"), (6, u "checkIndex"), (13, u "checkFromToIndex"), (7, .class_ 56), (0, u "jdk/internal/util/Preconditions$4"), (57, .class_ 115), (0, u "jdk/internal/util/Preconditions$1"), (7, u "SIOOBE_FORMATTER"), (0, u "Ljava/util/function/BiFunction;"), (0, .class_ 126), (0, u "jdk/internal/util/Preconditions$2"), (3, u "AIOOBE_FORMATTER"), (0, .class_ 132), (0, u "jdk/internal/util/Preconditions$3"), (3, u "IOOBE_FORMATTER"), (41, u "(IILjava/util/function/BiFunction;)I"), (4, u "(IIILjava/util/function/BiFunction;)I")] 10

def k12m0 : Method := { name := "<init>", desc := "()V", sig := { parameters := [], returnType := none }, accessFlags := 1, code := none }
def k12c1 : Code := { maxStack := 3, maxLocals := 3, code := jdk_41_method_11_code, exceptionTable := #[], attributes := #[] }
def k12m1 : Method := { name := "checkIndex", desc := "(IILjava/util/function/BiFunction;)I", sig := { parameters := [.int, .int, (.object "java/util/function/BiFunction")], returnType := some .int }, accessFlags := 9, code := some k12c1 }
def k12c2 : Code := { maxStack := 4, maxLocals := 4, code := jdk_41_method_12_code, exceptionTable := #[], attributes := #[] }
def k12m2 : Method := { name := "checkFromToIndex", desc := "(IIILjava/util/function/BiFunction;)I", sig := { parameters := [.int, .int, .int, (.object "java/util/function/BiFunction")], returnType := some .int }, accessFlags := 9, code := some k12c2 }
/-- jdk/internal/util/Preconditions -/
def k12 : Class := { plain "jdk/internal/util/Preconditions" (some 0) with
  accessFlags := 33
  interfaces := #[]
  cf := some (fileOf pool12 24 #[.nestMembers #[55, 131, 125, 114]] #[{ accessFlags := 1, nameIndex := 5, descriptorIndex := 6, attributes := #[] }, { accessFlags := 9, nameIndex := 33, descriptorIndex := 178, attributes := #[] }, { accessFlags := 9, nameIndex := 47, descriptorIndex := 183, attributes := #[] }] 33 2 #[] #[{ accessFlags := 25, nameIndex := 123, descriptorIndex := 124, attributes := #[] }, { accessFlags := 25, nameIndex := 130, descriptorIndex := 124, attributes := #[] }, { accessFlags := 25, nameIndex := 136, descriptorIndex := 124, attributes := #[] }])
  fields := #[{ name := "SIOOBE_FORMATTER", type := (.object "java/util/function/BiFunction"), accessFlags := 25, slot := 0, constantValue := 0 }, { name := "AIOOBE_FORMATTER", type := (.object "java/util/function/BiFunction"), accessFlags := 25, slot := 1, constantValue := 0 }, { name := "IOOBE_FORMATTER", type := (.object "java/util/function/BiFunction"), accessFlags := 25, slot := 2, constantValue := 0 }]
  methods := #[k12m0, k12m1, k12m2]
  instanceTypes := #[]
  staticTypes := #[(.object "java/util/function/BiFunction"), (.object "java/util/function/BiFunction"), (.object "java/util/function/BiFunction")]
  resolved := Array.replicate 194 none
  statics := some 1 }

def pool13 : Array CpInfo := pool [(1, .class_ 2), (0, u "java/lang/Appendable"), (0, .class_ 4), (0, u "java/lang/Object")] 9

/-- java/lang/Appendable -/
def k13 : Class := { plain "java/lang/Appendable" (some 0) with
  accessFlags := 1537
  interfaces := #[]
  cf := some (fileOf pool13 1 #[] #[] 1537 3 #[] #[])
  fields := #[]
  methods := #[]
  instanceTypes := #[]
  staticTypes := #[]
  resolved := Array.replicate 14 none
  statics := none }

def pool14 : Array CpInfo := pool [(1, .class_ 2), (0, u "java/lang/String"), (0, .methodref 4 5), (0, .class_ 6), (0, .nameAndType 7 8), (0, u "java/lang/Object"), (0, u "<init>"), (0, u "()V"), (1, .class_ 12), (1, u "java/lang/AbstractStringBuilder"), (0, u "EMPTYVALUE"), (0, u "[B"), (0, .fieldref 10 16), (0, .nameAndType 17 14), (0, u "value"), (0, .fieldref 1 19), (0, .nameAndType 20 21), (0, u "COMPACT_STRINGS"), (0, u "Z"), (0, .fieldref 10 23), (0, .nameAndType 24 25), (0, u "coder"), (0, u "B"), (6, .methodref 1 33), (0, .nameAndType 34 35), (0, u "length"), (0, u "()I"), (4, .methodref 1 41), (0, .nameAndType 24 42), (0, u "()B"), (2, u "append"), (0, u "(Ljava/lang/String;)Ljava/lang/AbstractStringBuilder;"), (1, .class_ 49), (0, u "java/lang/CharSequence"), (19, u "(Ljava/lang/String;)V"), (5, u "maybeLatin1"), (3, .fieldref 10 80), (0, .nameAndType 81 82), (0, u "count"), (0, u "I"), (0, .methodref 10 84), (0, .nameAndType 85 86), (0, u "isLatin1"), (0, u "()Z"), (1, .class_ 90), (1, u "java/lang/StringLatin1"), (9, .methodref 10 101), (0, .nameAndType 102 103), (0, u "ensureCapacityInternal"), (0, u "(I)V"), (70, .class_ 176), (1, u "java/lang/Character"), (14, .methodref 88 192), (0, .nameAndType 193 194), (0, u "canEncode"), (0, u "(C)Z"), (13, .methodref 10 209), (0, .nameAndType 210 211), (0, u "putStringAt"), (0, u "(ILjava/lang/String;)V"), (5, u "inflateIfNeededFor"), (2, .nameAndType 221 222), (0, u "getBytes"), (0, u "([BIB)V"), (63, .methodref 174 287), (0, .nameAndType 288 289), (0, u "isBmpCodePoint"), (0, u "(I)Z"), (0, .methodref 10 291), (0, .nameAndType 45 292), (0, u "(C)Ljava/lang/AbstractStringBuilder;"), (104, .methodref 10 398), (0, .nameAndType 217 69), (0, .methodref 1 220), (3, u "()[B"), (40, .class_ 445), (0, u "java/lang/Appendable"), (65, u "(I)Ljava/lang/AbstractStringBuilder;"), (14, u "appendCodePoint"), (25, u "getValue")] 56

def k14m0 : Method := { name := "<init>", desc := "()V", sig := { parameters := [], returnType := none }, accessFlags := 0, code := none }
def k14c1 : Code := { maxStack := 2, maxLocals := 2, code := jdk_68_method_2_code, exceptionTable := #[], attributes := #[] }
def k14m1 : Method := { name := "<init>", desc := "(I)V", sig := { parameters := [.int], returnType := none }, accessFlags := 0, code := some k14c1 }
def k14c2 : Code := { maxStack := 1, maxLocals := 1, code := jdk_68_method_6_code, exceptionTable := #[], attributes := #[] }
def k14m2 : Method := { name := "length", desc := "()I", sig := { parameters := [], returnType := some .int }, accessFlags := 1, code := some k14c2 }
def k14c3 : Code := { maxStack := 4, maxLocals := 3, code := jdk_68_method_9_code, exceptionTable := #[], attributes := #[] }
def k14m3 : Method := { name := "ensureCapacityInternal", desc := "(I)V", sig := { parameters := [.int], returnType := none }, accessFlags := 2, code := some k14c3 }
def k14c4 : Code := { maxStack := 3, maxLocals := 3, code := jdk_68_method_22_code, exceptionTable := #[], attributes := #[] }
def k14m4 : Method := { name := "append", desc := "(Ljava/lang/String;)Ljava/lang/AbstractStringBuilder;", sig := { parameters := [(.object "java/lang/String")], returnType := some (.object "java/lang/AbstractStringBuilder") }, accessFlags := 1, code := some k14c4 }
def k14c5 : Code := { maxStack := 5, maxLocals := 2, code := jdk_68_method_31_code, exceptionTable := #[], attributes := #[] }
def k14m5 : Method := { name := "append", desc := "(C)Ljava/lang/AbstractStringBuilder;", sig := { parameters := [.char], returnType := some (.object "java/lang/AbstractStringBuilder") }, accessFlags := 1, code := some k14c5 }
def k14c6 : Code := { maxStack := 2, maxLocals := 2, code := jdk_68_method_37_code, exceptionTable := #[], attributes := #[] }
def k14m6 : Method := { name := "appendCodePoint", desc := "(I)Ljava/lang/AbstractStringBuilder;", sig := { parameters := [.int], returnType := some (.object "java/lang/AbstractStringBuilder") }, accessFlags := 1, code := some k14c6 }
def k14c7 : Code := { maxStack := 1, maxLocals := 1, code := jdk_68_method_64_code, exceptionTable := #[], attributes := #[] }
def k14m7 : Method := { name := "getValue", desc := "()[B", sig := { parameters := [], returnType := some (.array .byte) }, accessFlags := 16, code := some k14c7 }
def k14c8 : Code := { maxStack := 1, maxLocals := 1, code := jdk_68_method_68_code, exceptionTable := #[], attributes := #[] }
def k14m8 : Method := { name := "isLatin1", desc := "()Z", sig := { parameters := [], returnType := some .boolean }, accessFlags := 16, code := some k14c8 }
def k14c9 : Code := { maxStack := 2, maxLocals := 2, code := jdk_68_method_71_code, exceptionTable := #[], attributes := #[] }
def k14m9 : Method := { name := "inflateIfNeededFor", desc := "(Ljava/lang/String;)V", sig := { parameters := [(.object "java/lang/String")], returnType := none }, accessFlags := 2, code := some k14c9 }
def k14c10 : Code := { maxStack := 4, maxLocals := 3, code := jdk_68_method_73_code, exceptionTable := #[], attributes := #[] }
def k14m10 : Method := { name := "putStringAt", desc := "(ILjava/lang/String;)V", sig := { parameters := [.int, (.object "java/lang/String")], returnType := none }, accessFlags := 2, code := some k14c10 }
/-- java/lang/AbstractStringBuilder -/
def k14 : Class := { plain "java/lang/AbstractStringBuilder" (some 0) with
  accessFlags := 1056
  interfaces := #[13, 4]
  cf := some (fileOf pool14 10 #[] #[{ accessFlags := 0, nameIndex := 7, descriptorIndex := 8, attributes := #[] }, { accessFlags := 0, nameIndex := 7, descriptorIndex := 103, attributes := #[] }, { accessFlags := 1, nameIndex := 34, descriptorIndex := 35, attributes := #[] }, { accessFlags := 2, nameIndex := 102, descriptorIndex := 103, attributes := #[] }, { accessFlags := 1, nameIndex := 45, descriptorIndex := 46, attributes := #[] }, { accessFlags := 1, nameIndex := 45, descriptorIndex := 292, attributes := #[] }, { accessFlags := 1, nameIndex := 526, descriptorIndex := 511, attributes := #[] }, { accessFlags := 16, nameIndex := 552, descriptorIndex := 403, attributes := #[] }, { accessFlags := 16, nameIndex := 85, descriptorIndex := 86, attributes := #[] }, { accessFlags := 2, nameIndex := 217, descriptorIndex := 69, attributes := #[] }, { accessFlags := 2, nameIndex := 210, descriptorIndex := 211, attributes := #[] }] 1056 4 #[444, 48] #[{ accessFlags := 0, nameIndex := 17, descriptorIndex := 14, attributes := #[] }, { accessFlags := 0, nameIndex := 24, descriptorIndex := 25, attributes := #[] }, { accessFlags := 0, nameIndex := 75, descriptorIndex := 21, attributes := #[] }, { accessFlags := 0, nameIndex := 81, descriptorIndex := 82, attributes := #[] }, { accessFlags := 26, nameIndex := 13, descriptorIndex := 14, attributes := #[] }])
  fields := #[{ name := "value", type := (.array .byte), accessFlags := 0, slot := 0, constantValue := 0 }, { name := "coder", type := .byte, accessFlags := 0, slot := 1, constantValue := 0 }, { name := "maybeLatin1", type := .boolean, accessFlags := 0, slot := 2, constantValue := 0 }, { name := "count", type := .int, accessFlags := 0, slot := 3, constantValue := 0 }, { name := "EMPTYVALUE", type := (.array .byte), accessFlags := 26, slot := 0, constantValue := 0 }]
  methods := #[k14m0, k14m1, k14m2, k14m3, k14m4, k14m5, k14m6, k14m7, k14m8, k14m9, k14m10]
  instanceTypes := #[(.array .byte), .byte, .boolean, .int]
  staticTypes := #[(.array .byte)]
  resolved := Array.replicate 609 none
  statics := none }

def pool15 : Array CpInfo := pool [(1, .methodref 2 3), (0, .class_ 4), (0, .nameAndType 5 6), (0, u "java/lang/AbstractStringBuilder"), (0, u "<init>"), (0, u "(I)V"), (11, .class_ 20), (1, u "java/lang/String"), (3, .class_ 26), (1, u "java/lang/StringBuilder"), (0, u "append"), (0, u "(Ljava/lang/String;)Ljava/lang/StringBuilder;"), (0, .methodref 2 30), (0, .nameAndType 27 31), (0, u "(Ljava/lang/String;)Ljava/lang/AbstractStringBuilder;"), (18, .methodref 2 51), (0, .nameAndType 27 52), (0, u "(C)Ljava/lang/AbstractStringBuilder;"), (2, u "(I)Ljava/lang/AbstractStringBuilder;"), (9, .methodref 2 66), (0, .nameAndType 67 55), (0, u "appendCodePoint"), (69, .methodref 18 138), (0, .nameAndType 5 139), (0, u "(Ljava/lang/StringBuilder;)V"), (5, u "()V"), (10, u "()I"), (111, u "(I)Ljava/lang/StringBuilder;"), (15, .methodref 24 285), (0, .nameAndType 27 286), (0, u "(C)Ljava/lang/StringBuilder;"), (56, .methodref 2 344), (0, .nameAndType 345 156), (0, u "length"), (3, .class_ 350), (0, u "java/lang/Appendable"), (0, .class_ 352), (0, u "java/io/Serializable"), (0, .class_ 354), (0, u "java/lang/Comparable"), (0, .class_ 356), (0, u "java/lang/CharSequence"), (0, u "serialVersionUID"), (0, u "J"), (40, u "toString"), (0, u "()Ljava/lang/String;")] 21

def k15c0 : Code := { maxStack := 2, maxLocals := 1, code := jdk_67_method_1_code, exceptionTable := #[], attributes := #[] }
def k15m0 : Method := { name := "<init>", desc := "()V", sig := { parameters := [], returnType := none }, accessFlags := 1, code := some k15c0 }
def k15c1 : Code := { maxStack := 2, maxLocals := 2, code := jdk_67_method_2_code, exceptionTable := #[], attributes := #[] }
def k15m1 : Method := { name := "<init>", desc := "(I)V", sig := { parameters := [.int], returnType := none }, accessFlags := 1, code := some k15c1 }
def k15c2 : Code := { maxStack := 2, maxLocals := 2, code := jdk_67_method_7_code, exceptionTable := #[], attributes := #[] }
def k15m2 : Method := { name := "append", desc := "(Ljava/lang/String;)Ljava/lang/StringBuilder;", sig := { parameters := [(.object "java/lang/String")], returnType := some (.object "java/lang/StringBuilder") }, accessFlags := 1, code := some k15c2 }
def k15c3 : Code := { maxStack := 2, maxLocals := 2, code := jdk_67_method_14_code, exceptionTable := #[], attributes := #[] }
def k15m3 : Method := { name := "append", desc := "(C)Ljava/lang/StringBuilder;", sig := { parameters := [.char], returnType := some (.object "java/lang/StringBuilder") }, accessFlags := 1, code := some k15c3 }
def k15c4 : Code := { maxStack := 2, maxLocals := 2, code := jdk_67_method_19_code, exceptionTable := #[], attributes := #[] }
def k15m4 : Method := { name := "appendCodePoint", desc := "(I)Ljava/lang/StringBuilder;", sig := { parameters := [.int], returnType := some (.object "java/lang/StringBuilder") }, accessFlags := 1, code := some k15c4 }
def k15c5 : Code := { maxStack := 3, maxLocals := 1, code := jdk_67_method_42_code, exceptionTable := #[], attributes := #[] }
def k15m5 : Method := { name := "toString", desc := "()Ljava/lang/String;", sig := { parameters := [], returnType := some (.object "java/lang/String") }, accessFlags := 1, code := some k15c5 }
def k15c6 : Code := { maxStack := 2, maxLocals := 2, code := jdk_67_method_73_code, exceptionTable := #[], attributes := #[] }
def k15m6 : Method := { name := "append", desc := "(C)Ljava/lang/AbstractStringBuilder;", sig := { parameters := [.char], returnType := some (.object "java/lang/AbstractStringBuilder") }, accessFlags := 4161, code := some k15c6 }
def k15c7 : Code := { maxStack := 1, maxLocals := 1, code := jdk_67_method_93_code, exceptionTable := #[], attributes := #[] }
def k15m7 : Method := { name := "length", desc := "()I", sig := { parameters := [], returnType := some .int }, accessFlags := 4161, code := some k15c7 }
/-- java/lang/StringBuilder -/
def k15 : Class := { plain "java/lang/StringBuilder" (some 14) with
  accessFlags := 49
  interfaces := #[13, 2, 3, 4]
  cf := some (fileOf pool15 24 #[] #[{ accessFlags := 1, nameIndex := 5, descriptorIndex := 145, attributes := #[] }, { accessFlags := 1, nameIndex := 5, descriptorIndex := 6, attributes := #[] }, { accessFlags := 1, nameIndex := 27, descriptorIndex := 28, attributes := #[] }, { accessFlags := 1, nameIndex := 27, descriptorIndex := 286, attributes := #[] }, { accessFlags := 1, nameIndex := 67, descriptorIndex := 268, attributes := #[] }, { accessFlags := 1, nameIndex := 399, descriptorIndex := 400, attributes := #[] }, { accessFlags := 4161, nameIndex := 27, descriptorIndex := 52, attributes := #[] }, { accessFlags := 4161, nameIndex := 345, descriptorIndex := 156, attributes := #[] }] 49 2 #[349, 351, 353, 355] #[{ accessFlags := 24, nameIndex := 357, descriptorIndex := 358, attributes := #[] }])
  fields := #[{ name := "serialVersionUID", type := .long, accessFlags := 24, slot := 0, constantValue := 0 }]
  methods := #[k15m0, k15m1, k15m2, k15m3, k15m4, k15m5, k15m6, k15m7]
  instanceTypes := #[(.array .byte), .byte, .boolean, .int]
  staticTypes := #[.long]
  resolved := Array.replicate 422 none
  statics := none }

def pool16 : Array CpInfo := pool [(2, .class_ 4), (1, u "java/lang/Object"), (0, u "<init>"), (0, u "()V"), (7, .class_ 16), (1, u "java/util/Arrays"), (57, .class_ 76), (1, u "java/util/Arrays$NaturalOrder"), (32, u "()Ljava/lang/Object;"), (3, .class_ 115), (1, u "java/util/Arrays$LegacyMergeSort"), (1, u "Z"), (10, .nameAndType 129 109), (0, u "clone"), (9, u "copyOfRange"), (10, .methodref 151 152), (0, .class_ 153), (0, .nameAndType 154 155), (0, u "java/lang/System"), (0, u "arraycopy"), (0, u "(Ljava/lang/Object;ILjava/lang/Object;II)V"), (148, .methodref 305 306), (0, .class_ 307), (0, .nameAndType 308 309), (0, u "java/lang/Math"), (0, u "min"), (0, u "(II)I"), (0, .methodref 311 128), (0, .class_ 312), (0, u "[B"), (26, .methodref 14 340), (0, .nameAndType 341 342), (0, u "copyOfRangeByte"), (0, u "([BII)[B"), (0, .methodref 14 344), (0, .nameAndType 345 346), (0, u "checkLength"), (0, u "(II)V"), (28, .class_ 376), (0, u "java/util/Arrays$ArrayList"), (68, u "$assertionsDisabled"), (269, u "MIN_ARRAY_SORT_GRAN"), (0, u "I"), (2, u "INSERTIONSORT_THRESHOLD"), (255, .class_ 976), (0, u "java/util/Arrays$ArrayItr")] 52

def k16m0 : Method := { name := "<init>", desc := "()V", sig := { parameters := [], returnType := none }, accessFlags := 2, code := none }
def k16c1 : Code := { maxStack := 4, maxLocals := 2, code := jdk_65_method_131_code, exceptionTable := #[], attributes := #[] }
def k16m1 : Method := { name := "checkLength", desc := "(II)V", sig := { parameters := [.int, .int], returnType := none }, accessFlags := 10, code := some k16c1 }
def k16c2 : Code := { maxStack := 3, maxLocals := 3, code := jdk_65_method_132_code, exceptionTable := #[], attributes := #[] }
def k16m2 : Method := { name := "copyOfRange", desc := "([BII)[B", sig := { parameters := [(.array .byte), .int, .int], returnType := some (.array .byte) }, accessFlags := 9, code := some k16c2 }
def k16c3 : Code := { maxStack := 6, maxLocals := 5, code := jdk_65_method_133_code, exceptionTable := #[], attributes := #[] }
def k16m3 : Method := { name := "copyOfRangeByte", desc := "([BII)[B", sig := { parameters := [(.array .byte), .int, .int], returnType := some (.array .byte) }, accessFlags := 10, code := some k16c3 }
/-- java/util/Arrays -/
def k16 : Class := { plain "java/util/Arrays" (some 0) with
  accessFlags := 49
  interfaces := #[]
  cf := some (fileOf pool16 14 #[.nestMembers #[975, 375, 113, 74]] #[{ accessFlags := 2, nameIndex := 5, descriptorIndex := 6, attributes := #[] }, { accessFlags := 10, nameIndex := 345, descriptorIndex := 346, attributes := #[] }, { accessFlags := 9, nameIndex := 139, descriptorIndex := 342, attributes := #[] }, { accessFlags := 10, nameIndex := 341, descriptorIndex := 342, attributes := #[] }] 49 2 #[] #[{ accessFlags := 26, nameIndex := 715, descriptorIndex := 716, attributes := #[] }, { accessFlags := 26, nameIndex := 719, descriptorIndex := 716, attributes := #[] }, { accessFlags := 4120, nameIndex := 445, descriptorIndex := 117, attributes := #[] }])
  fields := #[{ name := "MIN_ARRAY_SORT_GRAN", type := .int, accessFlags := 26, slot := 0, constantValue := 0 }, { name := "INSERTIONSORT_THRESHOLD", type := .int, accessFlags := 26, slot := 1, constantValue := 0 }, { name := "$assertionsDisabled", type := .boolean, accessFlags := 4120, slot := 2, constantValue := 0 }]
  methods := #[k16m0, k16m1, k16m2, k16m3]
  instanceTypes := #[]
  staticTypes := #[.int, .int, .boolean]
  resolved := Array.replicate 1029 none
  statics := none }

def pool17 : Array CpInfo := pool [(1, .class_ 2), (0, u "java/lang/Cloneable"), (0, .class_ 4), (0, u "java/lang/Object")] 2

/-- java/lang/Cloneable -/
def k17 : Class := { plain "java/lang/Cloneable" (some 0) with
  accessFlags := 1537
  interfaces := #[]
  cf := some (fileOf pool17 1 #[] #[] 1537 3 #[] #[])
  fields := #[]
  methods := #[]
  instanceTypes := #[]
  staticTypes := #[]
  resolved := Array.replicate 7 none
  statics := none }

def pool18 : Array CpInfo := pool [(6, .class_ 8), (1, u "java/lang/Object"), (0, u "<init>"), (0, u "()V"), (1, .class_ 14), (1, u "java/lang/StringUTF16"), (31, u "$assertionsDisabled"), (0, u "Z"), (13, u "HI_BYTE_SHIFT"), (0, u "I"), (2, u "LO_BYTE_SHIFT"), (49, .methodref 12 116), (0, .nameAndType 117 118), (0, u "compress"), (0, u "([CI[BII)I"), (3, u "([CII)[B"), (138, u "coderFromArrayLen"), (0, u "([BI)B"), (106, .class_ 371), (1, u "java/lang/StringUTF16$LinesSpliterator"), (58, u "MAX_LENGTH"), (196, .class_ 628), (0, u "java/lang/StringUTF16$CodePointsSpliterator"), (0, .class_ 630), (0, u "java/lang/StringUTF16$CharsSpliterator")] 4

def k18m0 : Method := { name := "<init>", desc := "()V", sig := { parameters := [], returnType := none }, accessFlags := 0, code := none }
def k18c1 : Code := { maxStack := 2, maxLocals := 2, code := jdk_52_method_15_code, exceptionTable := #[], attributes := #[] }
def k18m1 : Method := { name := "coderFromArrayLen", desc := "([BI)B", sig := { parameters := [(.array .byte), .int], returnType := some .byte }, accessFlags := 8, code := some k18c1 }
def k18c2 : Code := { maxStack := 5, maxLocals := 6, code := jdk_52_method_16_code, exceptionTable := #[], attributes := #[] }
def k18m2 : Method := { name := "compress", desc := "([CII)[B", sig := { parameters := [(.array .char), .int, .int], returnType := some (.array .byte) }, accessFlags := 9, code := some k18c2 }
def k18c3 : Code := { maxStack := 3, maxLocals := 7, code := jdk_52_method_21_code, exceptionTable := #[], attributes := #[] }
def k18m3 : Method := { name := "compress", desc := "([CI[BII)I", sig := { parameters := [(.array .char), .int, (.array .byte), .int, .int], returnType := some .int }, accessFlags := 9, code := some k18c3 }
/-- java/lang/StringUTF16 -/
def k18 : Class := { plain "java/lang/StringUTF16" (some 0) with
  accessFlags := 48
  interfaces := #[]
  cf := some (fileOf pool18 12 #[.nestMembers #[627, 629, 369]] #[{ accessFlags := 0, nameIndex := 9, descriptorIndex := 10, attributes := #[] }, { accessFlags := 8, nameIndex := 261, descriptorIndex := 262, attributes := #[] }, { accessFlags := 9, nameIndex := 117, descriptorIndex := 122, attributes := #[] }, { accessFlags := 9, nameIndex := 117, descriptorIndex := 118, attributes := #[] }] 48 6 #[] #[{ accessFlags := 26, nameIndex := 61, descriptorIndex := 62, attributes := #[] }, { accessFlags := 26, nameIndex := 65, descriptorIndex := 62, attributes := #[] }, { accessFlags := 24, nameIndex := 430, descriptorIndex := 62, attributes := #[] }, { accessFlags := 4120, nameIndex := 46, descriptorIndex := 47, attributes := #[] }])
  fields := #[{ name := "HI_BYTE_SHIFT", type := .int, accessFlags := 26, slot := 0, constantValue := 0 }, { name := "LO_BYTE_SHIFT", type := .int, accessFlags := 26, slot := 1, constantValue := 0 }, { name := "MAX_LENGTH", type := .int, accessFlags := 24, slot := 2, constantValue := 0 }, { name := "$assertionsDisabled", type := .boolean, accessFlags := 4120, slot := 3, constantValue := 0 }]
  methods := #[k18m0, k18m1, k18m2, k18m3]
  instanceTypes := #[]
  staticTypes := #[.int, .int, .int, .boolean]
  resolved := Array.replicate 635 none
  statics := none }

def pool19 : Array CpInfo := pool [(1, .class_ 2), (0, u "java/lang/Character"), (18, u "value"), (0, u "C"), (19, .class_ 44), (1, u "java/lang/Object"), (3, .class_ 50), (1, u "java/lang/Character$CharacterCache"), (22, .integer 65536), (39, u "isBmpCodePoint"), (0, u "(I)Z"), (59, u "(I)I"), (109, u "$assertionsDisabled"), (0, u "Z"), (21, .class_ 309), (1, u "java/lang/Character$UnicodeBlock"), (73, u "TYPE"), (0, u "Ljava/lang/Class;"), (0, .class_ 386), (0, u "java/io/Serializable"), (0, .class_ 388), (0, u "java/lang/Comparable"), (0, .class_ 390), (0, u "java/lang/constant/Constable"), (0, u "MIN_RADIX"), (0, u "I"), (2, u "MAX_RADIX"), (1, u "MIN_VALUE"), (1, u "MAX_VALUE"), (3, u "UNASSIGNED"), (0, u "B"), (0, u "UPPERCASE_LETTER"), (1, u "LOWERCASE_LETTER"), (0, u "TITLECASE_LETTER"), (1, u "MODIFIER_LETTER"), (1, u "OTHER_LETTER"), (1, u "NON_SPACING_MARK"), (1, u "ENCLOSING_MARK"), (1, u "COMBINING_SPACING_MARK"), (1, u "DECIMAL_DIGIT_NUMBER"), (1, u "LETTER_NUMBER"), (1, u "OTHER_NUMBER"), (1, u "SPACE_SEPARATOR"), (1, u "LINE_SEPARATOR"), (1, u "PARAGRAPH_SEPARATOR"), (1, u "CONTROL"), (1, u "FORMAT"), (1, u "PRIVATE_USE"), (1, u "SURROGATE"), (1, u "DASH_PUNCTUATION"), (1, u "START_PUNCTUATION"), (1, u "END_PUNCTUATION"), (1, u "CONNECTOR_PUNCTUATION"), (1, u "OTHER_PUNCTUATION"), (1, u "MATH_SYMBOL"), (1, u "CURRENCY_SYMBOL"), (1, u "MODIFIER_SYMBOL"), (1, u "OTHER_SYMBOL"), (1, u "INITIAL_QUOTE_PUNCTUATION"), (1, u "FINAL_QUOTE_PUNCTUATION"), (1, u "ERROR"), (1, u "DIRECTIONALITY_UNDEFINED"), (0, u "DIRECTIONALITY_LEFT_TO_RIGHT"), (0, u "DIRECTIONALITY_RIGHT_TO_LEFT"), (0, u "DIRECTIONALITY_RIGHT_TO_LEFT_ARABIC"), (0, u "DIRECTIONALITY_EUROPEAN_NUMBER"), (0, u "DIRECTIONALITY_EUROPEAN_NUMBER_SEPARATOR"), (0, u "DIRECTIONALITY_EUROPEAN_NUMBER_TERMINATOR"), (0, u "DIRECTIONALITY_ARABIC_NUMBER"), (0, u "DIRECTIONALITY_COMMON_NUMBER_SEPARATOR"), (0, u "DIRECTIONALITY_NONSPACING_MARK"), (0, u "DIRECTIONALITY_BOUNDARY_NEUTRAL"), (0, u "DIRECTIONALITY_PARAGRAPH_SEPARATOR"), (0, u "DIRECTIONALITY_SEGMENT_SEPARATOR"), (0, u "DIRECTIONALITY_WHITESPACE"), (0, u "DIRECTIONALITY_OTHER_NEUTRALS"), (0, u "DIRECTIONALITY_LEFT_TO_RIGHT_EMBEDDING"), (0, u "DIRECTIONALITY_LEFT_TO_RIGHT_OVERRIDE"), (0, u "DIRECTIONALITY_RIGHT_TO_LEFT_EMBEDDING"), (0, u "DIRECTIONALITY_RIGHT_TO_LEFT_OVERRIDE"), (1, u "DIRECTIONALITY_POP_DIRECTIONAL_FORMAT"), (0, u "DIRECTIONALITY_LEFT_TO_RIGHT_ISOLATE"), (0, u "DIRECTIONALITY_RIGHT_TO_LEFT_ISOLATE"), (0, u "DIRECTIONALITY_FIRST_STRONG_ISOLATE"), (0, u "DIRECTIONALITY_POP_DIRECTIONAL_ISOLATE"), (0, u "MIN_HIGH_SURROGATE"), (0, u "MAX_HIGH_SURROGATE"), (1, u "MIN_LOW_SURROGATE"), (0, u "MAX_LOW_SURROGATE"), (1, u "MIN_SURROGATE"), (0, u "MAX_SURROGATE"), (0, u "MIN_SUPPLEMENTARY_CODE_POINT"), (0, u "MIN_CODE_POINT"), (0, u "MAX_CODE_POINT"), (1, u "serialVersionUID"), (0, u "J"), (2, u "SIZE"), (0, u "BYTES"), (29, u "charCount"), (58, .class_ 596), (0, u "java/lang/Character$UnicodeScript"), (0, .class_ 598), (0, u "java/lang/Character$Subset")] 5

def k19c0 : Code := { maxStack := 2, maxLocals := 1, code := jdk_89_method_12_code, exceptionTable := #[], attributes := #[] }
def k19m0 : Method := { name := "isBmpCodePoint", desc := "(I)Z", sig := { parameters := [.int], returnType := some .boolean }, accessFlags := 9, code := some k19c0 }
def k19c1 : Code := { maxStack := 2, maxLocals := 1, code := jdk_89_method_18_code, exceptionTable := #[], attributes := #[] }
def k19m1 : Method := { name := "charCount", desc := "(I)I", sig := { parameters := [.int], returnType := some .int }, accessFlags := 9, code := some k19c1 }
/-- java/lang/Character -/
def k19 : Class := { plain "java/lang/Character" (some 0) with
  accessFlags := 49
  interfaces := #[2, 3, 5]
  cf := some (fileOf pool19 1 #[.nestMembers #[48, 595, 307, 597]] #[{ accessFlags := 9, nameIndex := 113, descriptorIndex := 114, attributes := #[] }, { accessFlags := 9, nameIndex := 536, descriptorIndex := 174, attributes := #[] }] 49 42 #[385, 387, 389] #[{ accessFlags := 25, nameIndex := 391, descriptorIndex := 392, attributes := #[] }, { accessFlags := 25, nameIndex := 395, descriptorIndex := 392, attributes := #[] }, { accessFlags := 25, nameIndex := 397, descriptorIndex := 22, attributes := #[] }, { accessFlags := 25, nameIndex := 399, descriptorIndex := 22, attributes := #[] }, { accessFlags := 25, nameIndex := 383, descriptorIndex := 384, attributes := #[] }, { accessFlags := 25, nameIndex := 403, descriptorIndex := 404, attributes := #[] }, { accessFlags := 25, nameIndex := 405, descriptorIndex := 404, attributes := #[] }, { accessFlags := 25, nameIndex := 407, descriptorIndex := 404, attributes := #[] }, { accessFlags := 25, nameIndex := 408, descriptorIndex := 404, attributes := #[] }, { accessFlags := 25, nameIndex := 410, descriptorIndex := 404, attributes := #[] }, { accessFlags := 25, nameIndex := 412, descriptorIndex := 404, attributes := #[] }, { accessFlags := 25, nameIndex := 414, descriptorIndex := 404, attributes := #[] }, { accessFlags := 25, nameIndex := 416, descriptorIndex := 404, attributes := #[] }, { accessFlags := 25, nameIndex := 418, descriptorIndex := 404, attributes := #[] }, { accessFlags := 25, nameIndex := 420, descriptorIndex := 404, attributes := #[] }, { accessFlags := 25, nameIndex := 422, descriptorIndex := 404, attributes := #[] }, { accessFlags := 25, nameIndex := 424, descriptorIndex := 404, attributes := #[] }, { accessFlags := 25, nameIndex := 426, descriptorIndex := 404, attributes := #[] }, { accessFlags := 25, nameIndex := 428, descriptorIndex := 404, attributes := #[] }, { accessFlags := 25, nameIndex := 430, descriptorIndex := 404, attributes := #[] }, { accessFlags := 25, nameIndex := 432, descriptorIndex := 404, attributes := #[] }, { accessFlags := 25, nameIndex := 434, descriptorIndex := 404, attributes := #[] }, { accessFlags := 25, nameIndex := 436, descriptorIndex := 404, attributes := #[] }, { accessFlags := 25, nameIndex := 438, descriptorIndex := 404, attributes := #[] }, { accessFlags := 25, nameIndex := 440, descriptorIndex := 404, attributes := #[] }, { accessFlags := 25, nameIndex := 442, descriptorIndex := 404, attributes := #[] }, { accessFlags := 25, nameIndex := 444, descriptorIndex := 404, attributes := #[] }, { accessFlags := 25, nameIndex := 446, descriptorIndex := 404, attributes := #[] }, { accessFlags := 25, nameIndex := 448, descriptorIndex := 404, attributes := #[] }, { accessFlags := 25, nameIndex := 450, descriptorIndex := 404, attributes := #[] }, { accessFlags := 25, nameIndex := 452, descriptorIndex := 404, attributes := #[] }, { accessFlags := 25, nameIndex := 454, descriptorIndex := 404, attributes := #[] }, { accessFlags := 25, nameIndex := 456, descriptorIndex := 404, attributes := #[] }, { accessFlags := 25, nameIndex := 458, descriptorIndex := 404, attributes := #[] }, { accessFlags := 25, nameIndex := 460, descriptorIndex := 404, attributes := #[] }, { accessFlags := 24, nameIndex := 462, descriptorIndex := 392, attributes := #[] }, { accessFlags := 25, nameIndex := 464, descriptorIndex := 404, attributes := #[] }, { accessFlags := 25, nameIndex := 465, descriptorIndex := 404, attributes := #[] }, { accessFlags := 25, nameIndex := 466, descriptorIndex := 404, attributes := #[] }, { accessFlags := 25, nameIndex := 467, descriptorIndex := 404, attributes := #[] }, { accessFlags := 25, nameIndex := 468, descriptorIndex := 404, attributes := #[] }, { accessFlags := 25, nameIndex := 469, descriptorIndex := 404, attributes := #[] }, { accessFlags := 25, nameIndex := 470, descriptorIndex := 404, attributes := #[] }, { accessFlags := 25, nameIndex := 471, descriptorIndex := 404, attributes := #[] }, { accessFlags := 25, nameIndex := 472, descriptorIndex := 404, attributes := #[] }, { accessFlags := 25, nameIndex := 473, descriptorIndex := 404, attributes := #[] }, { accessFlags := 25, nameIndex := 474, descriptorIndex := 404, attributes := #[] }, { accessFlags := 25, nameIndex := 475, descriptorIndex := 404, attributes := #[] }, { accessFlags := 25, nameIndex := 476, descriptorIndex := 404, attributes := #[] }, { accessFlags := 25, nameIndex := 477, descriptorIndex := 404, attributes := #[] }, { accessFlags := 25, nameIndex := 478, descriptorIndex := 404, attributes := #[] }, { accessFlags := 25, nameIndex := 479, descriptorIndex := 404, attributes := #[] }, { accessFlags := 25, nameIndex := 480, descriptorIndex := 404, attributes := #[] }, { accessFlags := 25, nameIndex := 481, descriptorIndex := 404, attributes := #[] }, { accessFlags := 25, nameIndex := 482, descriptorIndex := 404, attributes := #[] }, { accessFlags := 25, nameIndex := 484, descriptorIndex := 404, attributes := #[] }, { accessFlags := 25, nameIndex := 485, descriptorIndex := 404, attributes := #[] }, { accessFlags := 25, nameIndex := 486, descriptorIndex := 404, attributes := #[] }, { accessFlags := 25, nameIndex := 487, descriptorIndex := 404, attributes := #[] }, { accessFlags := 25, nameIndex := 488, descriptorIndex := 404, attributes := #[] }, { accessFlags := 25, nameIndex := 489, descriptorIndex := 22, attributes := #[] }, { accessFlags := 25, nameIndex := 490, descriptorIndex := 22, attributes := #[] }, { accessFlags := 25, nameIndex := 492, descriptorIndex := 22, attributes := #[] }, { accessFlags := 25, nameIndex := 493, descriptorIndex := 22, attributes := #[] }, { accessFlags := 25, nameIndex := 495, descriptorIndex := 22, attributes := #[] }, { accessFlags := 25, nameIndex := 496, descriptorIndex := 22, attributes := #[] }, { accessFlags := 25, nameIndex := 497, descriptorIndex := 392, attributes := #[] }, { accessFlags := 25, nameIndex := 498, descriptorIndex := 392, attributes := #[] }, { accessFlags := 25, nameIndex := 499, descriptorIndex := 392, attributes := #[] }, { accessFlags := 18, nameIndex := 21, descriptorIndex := 22, attributes := #[] }, { accessFlags := 26, nameIndex := 501, descriptorIndex := 502, attributes := #[] }, { accessFlags := 25, nameIndex := 505, descriptorIndex := 392, attributes := #[] }, { accessFlags := 25, nameIndex := 506, descriptorIndex := 392, attributes := #[] }, { accessFlags := 4120, nameIndex := 284, descriptorIndex := 285, attributes := #[] }])
  fields := #[{ name := "MIN_RADIX", type := .int, accessFlags := 25, slot := 0, constantValue := 0 }, { name := "MAX_RADIX", type := .int, accessFlags := 25, slot := 1, constantValue := 0 }, { name := "MIN_VALUE", type := .char, accessFlags := 25, slot := 2, constantValue := 0 }, { name := "MAX_VALUE", type := .char, accessFlags := 25, slot := 3, constantValue := 0 }, { name := "TYPE", type := (.object "java/lang/Class"), accessFlags := 25, slot := 4, constantValue := 0 }, { name := "UNASSIGNED", type := .byte, accessFlags := 25, slot := 5, constantValue := 0 }, { name := "UPPERCASE_LETTER", type := .byte, accessFlags := 25, slot := 6, constantValue := 0 }, { name := "LOWERCASE_LETTER", type := .byte, accessFlags := 25, slot := 7, constantValue := 0 }, { name := "TITLECASE_LETTER", type := .byte, accessFlags := 25, slot := 8, constantValue := 0 }, { name := "MODIFIER_LETTER", type := .byte, accessFlags := 25, slot := 9, constantValue := 0 }, { name := "OTHER_LETTER", type := .byte, accessFlags := 25, slot := 10, constantValue := 0 }, { name := "NON_SPACING_MARK", type := .byte, accessFlags := 25, slot := 11, constantValue := 0 }, { name := "ENCLOSING_MARK", type := .byte, accessFlags := 25, slot := 12, constantValue := 0 }, { name := "COMBINING_SPACING_MARK", type := .byte, accessFlags := 25, slot := 13, constantValue := 0 }, { name := "DECIMAL_DIGIT_NUMBER", type := .byte, accessFlags := 25, slot := 14, constantValue := 0 }, { name := "LETTER_NUMBER", type := .byte, accessFlags := 25, slot := 15, constantValue := 0 }, { name := "OTHER_NUMBER", type := .byte, accessFlags := 25, slot := 16, constantValue := 0 }, { name := "SPACE_SEPARATOR", type := .byte, accessFlags := 25, slot := 17, constantValue := 0 }, { name := "LINE_SEPARATOR", type := .byte, accessFlags := 25, slot := 18, constantValue := 0 }, { name := "PARAGRAPH_SEPARATOR", type := .byte, accessFlags := 25, slot := 19, constantValue := 0 }, { name := "CONTROL", type := .byte, accessFlags := 25, slot := 20, constantValue := 0 }, { name := "FORMAT", type := .byte, accessFlags := 25, slot := 21, constantValue := 0 }, { name := "PRIVATE_USE", type := .byte, accessFlags := 25, slot := 22, constantValue := 0 }, { name := "SURROGATE", type := .byte, accessFlags := 25, slot := 23, constantValue := 0 }, { name := "DASH_PUNCTUATION", type := .byte, accessFlags := 25, slot := 24, constantValue := 0 }, { name := "START_PUNCTUATION", type := .byte, accessFlags := 25, slot := 25, constantValue := 0 }, { name := "END_PUNCTUATION", type := .byte, accessFlags := 25, slot := 26, constantValue := 0 }, { name := "CONNECTOR_PUNCTUATION", type := .byte, accessFlags := 25, slot := 27, constantValue := 0 }, { name := "OTHER_PUNCTUATION", type := .byte, accessFlags := 25, slot := 28, constantValue := 0 }, { name := "MATH_SYMBOL", type := .byte, accessFlags := 25, slot := 29, constantValue := 0 }, { name := "CURRENCY_SYMBOL", type := .byte, accessFlags := 25, slot := 30, constantValue := 0 }, { name := "MODIFIER_SYMBOL", type := .byte, accessFlags := 25, slot := 31, constantValue := 0 }, { name := "OTHER_SYMBOL", type := .byte, accessFlags := 25, slot := 32, constantValue := 0 }, { name := "INITIAL_QUOTE_PUNCTUATION", type := .byte, accessFlags := 25, slot := 33, constantValue := 0 }, { name := "FINAL_QUOTE_PUNCTUATION", type := .byte, accessFlags := 25, slot := 34, constantValue := 0 }, { name := "ERROR", type := .int, accessFlags := 24, slot := 35, constantValue := 0 }, { name := "DIRECTIONALITY_UNDEFINED", type := .byte, accessFlags := 25, slot := 36, constantValue := 0 }, { name := "DIRECTIONALITY_LEFT_TO_RIGHT", type := .byte, accessFlags := 25, slot := 37, constantValue := 0 }, { name := "DIRECTIONALITY_RIGHT_TO_LEFT", type := .byte, accessFlags := 25, slot := 38, constantValue := 0 }, { name := "DIRECTIONALITY_RIGHT_TO_LEFT_ARABIC", type := .byte, accessFlags := 25, slot := 39, constantValue := 0 }, { name := "DIRECTIONALITY_EUROPEAN_NUMBER", type := .byte, accessFlags := 25, slot := 40, constantValue := 0 }, { name := "DIRECTIONALITY_EUROPEAN_NUMBER_SEPARATOR", type := .byte, accessFlags := 25, slot := 41, constantValue := 0 }, { name := "DIRECTIONALITY_EUROPEAN_NUMBER_TERMINATOR", type := .byte, accessFlags := 25, slot := 42, constantValue := 0 }, { name := "DIRECTIONALITY_ARABIC_NUMBER", type := .byte, accessFlags := 25, slot := 43, constantValue := 0 }, { name := "DIRECTIONALITY_COMMON_NUMBER_SEPARATOR", type := .byte, accessFlags := 25, slot := 44, constantValue := 0 }, { name := "DIRECTIONALITY_NONSPACING_MARK", type := .byte, accessFlags := 25, slot := 45, constantValue := 0 }, { name := "DIRECTIONALITY_BOUNDARY_NEUTRAL", type := .byte, accessFlags := 25, slot := 46, constantValue := 0 }, { name := "DIRECTIONALITY_PARAGRAPH_SEPARATOR", type := .byte, accessFlags := 25, slot := 47, constantValue := 0 }, { name := "DIRECTIONALITY_SEGMENT_SEPARATOR", type := .byte, accessFlags := 25, slot := 48, constantValue := 0 }, { name := "DIRECTIONALITY_WHITESPACE", type := .byte, accessFlags := 25, slot := 49, constantValue := 0 }, { name := "DIRECTIONALITY_OTHER_NEUTRALS", type := .byte, accessFlags := 25, slot := 50, constantValue := 0 }, { name := "DIRECTIONALITY_LEFT_TO_RIGHT_EMBEDDING", type := .byte, accessFlags := 25, slot := 51, constantValue := 0 }, { name := "DIRECTIONALITY_LEFT_TO_RIGHT_OVERRIDE", type := .byte, accessFlags := 25, slot := 52, constantValue := 0 }, { name := "DIRECTIONALITY_RIGHT_TO_LEFT_EMBEDDING", type := .byte, accessFlags := 25, slot := 53, constantValue := 0 }, { name := "DIRECTIONALITY_RIGHT_TO_LEFT_OVERRIDE", type := .byte, accessFlags := 25, slot := 54, constantValue := 0 }, { name := "DIRECTIONALITY_POP_DIRECTIONAL_FORMAT", type := .byte, accessFlags := 25, slot := 55, constantValue := 0 }, { name := "DIRECTIONALITY_LEFT_TO_RIGHT_ISOLATE", type := .byte, accessFlags := 25, slot := 56, constantValue := 0 }, { name := "DIRECTIONALITY_RIGHT_TO_LEFT_ISOLATE", type := .byte, accessFlags := 25, slot := 57, constantValue := 0 }, { name := "DIRECTIONALITY_FIRST_STRONG_ISOLATE", type := .byte, accessFlags := 25, slot := 58, constantValue := 0 }, { name := "DIRECTIONALITY_POP_DIRECTIONAL_ISOLATE", type := .byte, accessFlags := 25, slot := 59, constantValue := 0 }, { name := "MIN_HIGH_SURROGATE", type := .char, accessFlags := 25, slot := 60, constantValue := 0 }, { name := "MAX_HIGH_SURROGATE", type := .char, accessFlags := 25, slot := 61, constantValue := 0 }, { name := "MIN_LOW_SURROGATE", type := .char, accessFlags := 25, slot := 62, constantValue := 0 }, { name := "MAX_LOW_SURROGATE", type := .char, accessFlags := 25, slot := 63, constantValue := 0 }, { name := "MIN_SURROGATE", type := .char, accessFlags := 25, slot := 64, constantValue := 0 }, { name := "MAX_SURROGATE", type := .char, accessFlags := 25, slot := 65, constantValue := 0 }, { name := "MIN_SUPPLEMENTARY_CODE_POINT", type := .int, accessFlags := 25, slot := 66, constantValue := 0 }, { name := "MIN_CODE_POINT", type := .int, accessFlags := 25, slot := 67, constantValue := 0 }, { name := "MAX_CODE_POINT", type := .int, accessFlags := 25, slot := 68, constantValue := 0 }, { name := "value", type := .char, accessFlags := 18, slot := 0, constantValue := 0 }, { name := "serialVersionUID", type := .long, accessFlags := 26, slot := 69, constantValue := 0 }, { name := "SIZE", type := .int, accessFlags := 25, slot := 70, constantValue := 0 }, { name := "BYTES", type := .int, accessFlags := 25, slot := 71, constantValue := 0 }, { name := "$assertionsDisabled", type := .boolean, accessFlags := 4120, slot := 72, constantValue := 0 }]
  methods := #[k19m0, k19m1]
  instanceTypes := #[.char]
  staticTypes := #[.int, .int, .char, .char, (.object "java/lang/Class"), .byte, .byte, .byte, .byte, .byte, .byte, .byte, .byte, .byte, .byte, .byte, .byte, .byte, .byte, .byte, .byte, .byte, .byte, .byte, .byte, .byte, .byte, .byte, .byte, .byte, .byte, .byte, .byte, .byte, .byte, .int, .byte, .byte, .byte, .byte, .byte, .byte, .byte, .byte, .byte, .byte, .byte, .byte, .byte, .byte, .byte, .byte, .byte, .byte, .byte, .byte, .byte, .byte, .byte, .byte, .char, .char, .char, .char, .char, .char, .int, .int, .int, .long, .int, .int, .boolean]
  resolved := Array.replicate 604 none
  statics := none }

def pool20 : Array CpInfo := pool [(2, .class_ 4), (1, u "java/lang/Object"), (0, u "<init>"), (0, u "()V"), (1, .class_ 10), (1, u "java/lang/System"), (0, u "allowSecurityManager"), (0, u "I"), (16, u "cons"), (0, u "Ljava/io/Console;"), (77, .class_ 110), (1, u "java/lang/System$CallersHolder"), (43, u "initialErrStream"), (0, u "Ljava/io/PrintStream;"), (19, u "security"), (0, u "Ljava/lang/SecurityManager;"), (31, .class_ 209), (0, u "java/lang/System$1"), (7, u "props"), (0, u "Ljava/util/Properties;"), (2, u "lineSeparator"), (0, u "Ljava/lang/String;"), (96, .class_ 321), (1, u "java/lang/System$LoggerFinder"), (5, .class_ 328), (0, u "java/lang/System$Logger"), (67, u "err"), (2, u "out"), (91, u "notSupportedJnuEncoding"), (15, u "in"), (17, u "initialIn"), (0, u "Ljava/io/InputStream;"), (35, u "bootLayer"), (0, u "Ljava/lang/ModuleLayer;"), (99, .class_ 664), (0, u "java/lang/System$2"), (9, u "NEVER"), (2, u "MAYBE"), (49, u "arraycopy"), (0, u "(Ljava/lang/Object;ILjava/lang/Object;II)V"), (72, .class_ 802), (0, u "java/lang/System$Logger$Level")] 31

def k20m0 : Method := { name := "<init>", desc := "()V", sig := { parameters := [], returnType := none }, accessFlags := 2, code := none }
def k20m1 : Method := { name := "arraycopy", desc := "(Ljava/lang/Object;ILjava/lang/Object;II)V", sig := { parameters := [(.object "java/lang/Object"), .int, (.object "java/lang/Object"), .int, .int], returnType := none }, accessFlags := 265, code := none }
/-- java/lang/System -/
def k20 : Class := { plain "java/lang/System" (some 0) with
  accessFlags := 49
  interfaces := #[]
  cf := some (fileOf pool20 8 #[.nestMembers #[319, 327, 801, 108, 663, 208]] #[{ accessFlags := 2, nameIndex := 5, descriptorIndex := 6, attributes := #[] }, { accessFlags := 265, nameIndex := 727, descriptorIndex := 728, attributes := #[] }] 49 2 #[] #[{ accessFlags := 25, nameIndex := 507, descriptorIndex := 526, attributes := #[] }, { accessFlags := 25, nameIndex := 399, descriptorIndex := 155, attributes := #[] }, { accessFlags := 25, nameIndex := 396, descriptorIndex := 155, attributes := #[] }, { accessFlags := 10, nameIndex := 525, descriptorIndex := 526, attributes := #[] }, { accessFlags := 26, nameIndex := 674, descriptorIndex := 12, attributes := #[] }, { accessFlags := 26, nameIndex := 677, descriptorIndex := 12, attributes := #[] }, { accessFlags := 10, nameIndex := 11, descriptorIndex := 12, attributes := #[] }, { accessFlags := 74, nameIndex := 175, descriptorIndex := 176, attributes := #[] }, { accessFlags := 10, nameIndex := 491, descriptorIndex := 222, attributes := #[] }, { accessFlags := 74, nameIndex := 29, descriptorIndex := 30, attributes := #[] }, { accessFlags := 74, nameIndex := 154, descriptorIndex := 155, attributes := #[] }, { accessFlags := 10, nameIndex := 217, descriptorIndex := 218, attributes := #[] }, { accessFlags := 10, nameIndex := 221, descriptorIndex := 222, attributes := #[] }, { accessFlags := 8, nameIndex := 562, descriptorIndex := 563, attributes := #[] }])
  fields := #[{ name := "in", type := (.object "java/io/InputStream"), accessFlags := 25, slot := 0, constantValue := 0 }, { name := "out", type := (.object "java/io/PrintStream"), accessFlags := 25, slot := 1, constantValue := 0 }, { name := "err", type := (.object "java/io/PrintStream"), accessFlags := 25, slot := 2, constantValue := 0 }, { name := "initialIn", type := (.object "java/io/InputStream"), accessFlags := 10, slot := 3, constantValue := 0 }, { name := "NEVER", type := .int, accessFlags := 26, slot := 4, constantValue := 0 }, { name := "MAYBE", type := .int, accessFlags := 26, slot := 5, constantValue := 0 }, { name := "allowSecurityManager", type := .int, accessFlags := 10, slot := 6, constantValue := 0 }, { name := "security", type := (.object "java/lang/SecurityManager"), accessFlags := 74, slot := 7, constantValue := 0 }, { name := "notSupportedJnuEncoding", type := (.object "java/lang/String"), accessFlags := 10, slot := 8, constantValue := 0 }, { name := "cons", type := (.object "java/io/Console"), accessFlags := 74, slot := 9, constantValue := 0 }, { name := "initialErrStream", type := (.object "java/io/PrintStream"), accessFlags := 74, slot := 10, constantValue := 0 }, { name := "props", type := (.object "java/util/Properties"), accessFlags := 10, slot := 11, constantValue := 0 }, { name := "lineSeparator", type := (.object "java/lang/String"), accessFlags := 10, slot := 12, constantValue := 0 }, { name := "bootLayer", type := (.object "java/lang/ModuleLayer"), accessFlags := 8, slot := 13, constantValue := 0 }]
  methods := #[k20m0, k20m1]
  instanceTypes := #[]
  staticTypes := #[(.object "java/io/InputStream"), (.object "java/io/PrintStream"), (.object "java/io/PrintStream"), (.object "java/io/InputStream"), .int, .int, .int, (.object "java/lang/SecurityManager"), (.object "java/lang/String"), (.object "java/io/Console"), (.object "java/io/PrintStream"), (.object "java/util/Properties"), (.object "java/lang/String"), (.object "java/lang/ModuleLayer")]
  resolved := Array.replicate 834 none
  statics := none }

def pool21 : Array CpInfo := pool [(9, u "<init>"), (6, .class_ 18), (1, u "java/lang/Object"), (0, u "()V"), (1, .class_ 23), (1, u "jdk/internal/util/ArraysSupport"), (0, u "LOG2_ARRAY_LONG_INDEX_SCALE"), (0, u "I"), (2, u "U"), (0, u "Ljdk/internal/misc/Unsafe;"), (8, u "BIG_ENDIAN"), (0, u "Z"), (8, u "LOG2_BYTE_BIT_SIZE"), (4, u "LOG2_ARRAY_INT_INDEX_SCALE"), (54, u "JLA"), (0, u "Ljdk/internal/access/JavaLangAccess;"), (11, u "LOG2_ARRAY_BOOLEAN_INDEX_SCALE"), (9, u "LOG2_ARRAY_BYTE_INDEX_SCALE"), (5, u "LOG2_ARRAY_CHAR_INDEX_SCALE"), (5, u "LOG2_ARRAY_SHORT_INDEX_SCALE"), (18, u "LOG2_ARRAY_FLOAT_INDEX_SCALE"), (24, u "LOG2_ARRAY_DOUBLE_INDEX_SCALE"), (89, u "T_BOOLEAN"), (2, u "T_CHAR"), (1, u "T_FLOAT"), (1, u "T_DOUBLE"), (1, u "T_BYTE"), (1, u "T_SHORT"), (1, u "T_INT"), (1, u "T_LONG"), (1, u "SOFT_MAX_ARRAY_LENGTH")] 83

def k21m0 : Method := { name := "<init>", desc := "()V", sig := { parameters := [], returnType := none }, accessFlags := 2, code := none }
/-- jdk/internal/util/ArraysSupport -/
def k21 : Class := { plain "jdk/internal/util/ArraysSupport" (some 0) with
  accessFlags := 33
  interfaces := #[]
  cf := some (fileOf pool21 21 #[] #[{ accessFlags := 2, nameIndex := 9, descriptorIndex := 19, attributes := #[] }] 33 16 #[] #[{ accessFlags := 24, nameIndex := 28, descriptorIndex := 29, attributes := #[] }, { accessFlags := 26, nameIndex := 38, descriptorIndex := 39, attributes := #[] }, { accessFlags := 25, nameIndex := 121, descriptorIndex := 25, attributes := #[] }, { accessFlags := 25, nameIndex := 131, descriptorIndex := 25, attributes := #[] }, { accessFlags := 25, nameIndex := 137, descriptorIndex := 25, attributes := #[] }, { accessFlags := 25, nameIndex := 143, descriptorIndex := 25, attributes := #[] }, { accessFlags := 25, nameIndex := 53, descriptorIndex := 25, attributes := #[] }, { accessFlags := 25, nameIndex := 24, descriptorIndex := 25, attributes := #[] }, { accessFlags := 25, nameIndex := 162, descriptorIndex := 25, attributes := #[] }, { accessFlags := 25, nameIndex := 187, descriptorIndex := 25, attributes := #[] }, { accessFlags := 26, nameIndex := 48, descriptorIndex := 25, attributes := #[] }, { accessFlags := 25, nameIndex := 277, descriptorIndex := 25, attributes := #[] }, { accessFlags := 25, nameIndex := 280, descriptorIndex := 25, attributes := #[] }, { accessFlags := 25, nameIndex := 282, descriptorIndex := 25, attributes := #[] }, { accessFlags := 25, nameIndex := 284, descriptorIndex := 25, attributes := #[] }, { accessFlags := 25, nameIndex := 286, descriptorIndex := 25, attributes := #[] }, { accessFlags := 25, nameIndex := 288, descriptorIndex := 25, attributes := #[] }, { accessFlags := 25, nameIndex := 290, descriptorIndex := 25, attributes := #[] }, { accessFlags := 25, nameIndex := 292, descriptorIndex := 25, attributes := #[] }, { accessFlags := 26, nameIndex := 108, descriptorIndex := 109, attributes := #[] }, { accessFlags := 25, nameIndex := 294, descriptorIndex := 25, attributes := #[] }])
  fields := #[{ name := "U", type := (.object "jdk/internal/misc/Unsafe"), accessFlags := 24, slot := 0, constantValue := 0 }, { name := "BIG_ENDIAN", type := .boolean, accessFlags := 26, slot := 1, constantValue := 0 }, { name := "LOG2_ARRAY_BOOLEAN_INDEX_SCALE", type := .int, accessFlags := 25, slot := 2, constantValue := 0 }, { name := "LOG2_ARRAY_BYTE_INDEX_SCALE", type := .int, accessFlags := 25, slot := 3, constantValue := 0 }, { name := "LOG2_ARRAY_CHAR_INDEX_SCALE", type := .int, accessFlags := 25, slot := 4, constantValue := 0 }, { name := "LOG2_ARRAY_SHORT_INDEX_SCALE", type := .int, accessFlags := 25, slot := 5, constantValue := 0 }, { name := "LOG2_ARRAY_INT_INDEX_SCALE", type := .int, accessFlags := 25, slot := 6, constantValue := 0 }, { name := "LOG2_ARRAY_LONG_INDEX_SCALE", type := .int, accessFlags := 25, slot := 7, constantValue := 0 }, { name := "LOG2_ARRAY_FLOAT_INDEX_SCALE", type := .int, accessFlags := 25, slot := 8, constantValue := 0 }, { name := "LOG2_ARRAY_DOUBLE_INDEX_SCALE", type := .int, accessFlags := 25, slot := 9, constantValue := 0 }, { name := "LOG2_BYTE_BIT_SIZE", type := .int, accessFlags := 26, slot := 10, constantValue := 0 }, { name := "T_BOOLEAN", type := .int, accessFlags := 25, slot := 11, constantValue := 0 }, { name := "T_CHAR", type := .int, accessFlags := 25, slot := 12, constantValue := 0 }, { name := "T_FLOAT", type := .int, accessFlags := 25, slot := 13, constantValue := 0 }, { name := "T_DOUBLE", type := .int, accessFlags := 25, slot := 14, constantValue := 0 }, { name := "T_BYTE", type := .int, accessFlags := 25, slot := 15, constantValue := 0 }, { name := "T_SHORT", type := .int, accessFlags := 25, slot := 16, constantValue := 0 }, { name := "T_INT", type := .int, accessFlags := 25, slot := 17, constantValue := 0 }, { name := "T_LONG", type := .int, accessFlags := 25, slot := 18, constantValue := 0 }, { name := "JLA", type := (.object "jdk/internal/access/JavaLangAccess"), accessFlags := 26, slot := 19, constantValue := 0 }, { name := "SOFT_MAX_ARRAY_LENGTH", type := .int, accessFlags := 25, slot := 20, constantValue := 0 }]
  methods := #[k21m0]
  instanceTypes := #[]
  staticTypes := #[(.object "jdk/internal/misc/Unsafe"), .boolean, .int, .int, .int, .int, .int, .int, .int, .int, .int, .int, .int, .int, .int, .int, .int, .int, .int, (.object "jdk/internal/access/JavaLangAccess"), .int]
  resolved := Array.replicate 378 none
  statics := none }

/-- the primitive byte -/
def k22 : Class := { plain "byte" none with kind := .primitive 'B', accessFlags := 0x411 }
/-- [B -/
def k23 : Class := { plain "[B" (some 0) with kind := .array 22 .byte, interfaces := #[17, 2], accessFlags := 1041 }

/-- the primitive char -/
def k24 : Class := { plain "char" none with kind := .primitive 'C', accessFlags := 0x411 }
/-- [C -/
def k25 : Class := { plain "[C" (some 0) with kind := .array 24 .char, interfaces := #[17, 2], accessFlags := 1041 }

/-- the primitive int -/
def k26 : Class := { plain "int" none with kind := .primitive 'I', accessFlags := 0x411 }
/-- [I -/
def k27 : Class := { plain "[I" (some 0) with kind := .array 26 .int, interfaces := #[17, 2], accessFlags := 1041 }

def heap : Heap := #[{ cls := 7, slots := #[.long 0, .int 1, .null, .int 0, .null, .int 0, .int 0], vm := .statics 7 },
  { cls := 12, slots := #[.null, .null, .null], vm := .statics 12 }]
def classes : Array Class := #[k0, k1, k2, k3, k4, k5, k6, k7, k8, k9, k10, k11, k12, k13, k14, k15, k16, k17, k18, k19, k20, k21, k22, k23, k24, k25, k26, k27]
def interned : List (Array UInt16 × Addr) := []
def slotsUsed : Nat := 10
def theMethod : MethodId := ⟨1, 6⟩
def args0 : Array Value := #[.int 5, .int 7, .int 9, .int 3, .int 4, .int 6]
def aboutOver (below : List Frame) : State where
  vm := { classes := classes, interned := interned.toArray }
  heap := heap
  slotsUsed := slotsUsed
  threads := #[{ frames := .invoking theMethod args0 :: below }]
def below0 : List Frame := [.native { method := ⟨0, 0⟩, args := #[] }]
def about1 : State := aboutOver below0
def p0 : Program := .bare "" "" ""
def e0 : Env := launch0.env 0 0 0
theorem w_frames : about1.frames = Frame.invoking theMethod args0 :: below0 := rfl
set_option maxRecDepth 65536 in
theorem w_args : argsFit about1.vm theMethod args0 = true := by decide +kernel
set_option maxRecDepth 65536 in
theorem w_heap : heapFits about1 = true := by decide +kernel
set_option maxRecDepth 65536 in
theorem w_runnable : about1.curStatus? = some .runnable := by decide +kernel
set_option maxRecDepth 65536 in
theorem w_alone : about1.alone = true := by decide +kernel
set_option maxRecDepth 65536 in
theorem w_named : about1.methodNamed? x = some theMethod := by decide +kernel
set_option maxRecDepth 65536 in
theorem w_hears : about1.hears theMethod below0 = true := by decide +kernel
set_option maxRecDepth 65536 in
theorem w_ripe : about1.ripe theMethod args0 below0 = true := by decide +kernel
theorem w_running : about1.status = .running := rfl
set_option maxRecDepth 65536 in
theorem w_room : about1.hasRoom e0.platform room_1 = true :=
  launch0.hasRoom_least _ room_1 (by decide +kernel) (by decide +kernel) (by decide +kernel) (by decide +kernel) (by decide +kernel) (by decide +kernel)
theorem allAtoms_all (ts : List Jvm.Cond) (a : Array Jvm.Value) (st : Jvm.State) : (allAtoms ts).before a st = ts.all (fun c => c.before a st) := by
  induction ts with
  | nil => rfl
  | cons c t ih =>
    show (Jvm.Cond.and c (allAtoms t)).before a st = _
    rw [Jvm.Cond.before_and, ih, List.all_cons]
def words1 : List Jvm.Cond := Jvm.Cond.code x code maxLocals ret :: tables_1
/-- a 'code' word, met by the world's own term for the bytes: nothing is compared byte by byte -/
theorem code_word {y : MethodName} {bytes : ByteArray} {mx : Nat} {rt : Option FieldType} {a : Array Value} {s : State} {m : MethodId} {meth : Method} {c : Code} (h1 : s.methodNamed? y = some m) (h2 : s.vm.method? m = some meth) (h3 : meth.code = some c) (h4 : c.code = bytes)
    (h5 : (c.maxLocals == mx && c.exceptionTable.isEmpty && decide (c.maxStack ≤ mostOperands) && decide (meth.sig.returnType = rt) && !meth.locks && decide (parseMethodDescriptor y.desc = some meth.sig)) = true) : (Jvm.Cond.code y bytes mx rt).before a s = true := by
  simp only [Bool.and_eq_true, beq_iff_eq, Bool.not_eq_true', decide_eq_true_eq] at h5
  obtain ⟨⟨⟨⟨⟨g1, g2⟩, g3⟩, g4⟩, g5⟩, g6⟩ := h5
  simp [Cond.before, Cond.holds, Cond.value, h1, h2, h3, h4, g1, g2, g3, g4, g5, g6]
def isCode : Jvm.Cond → Bool
  | .code _ _ _ _ => true
  | _ => false
theorem all_split {L : List Jvm.Cond} {P : Jvm.Cond → Bool} (h1 : L.all (fun c => isCode c || P c) = true) (h2 : ∀ c ∈ L.filter isCode, P c = true) : L.all P = true := by
  refine List.all_eq_true.mpr fun c hc => ?_
  have h := List.all_eq_true.mp h1 c hc
  rcases Bool.eq_false_or_eq_true (isCode c) with hi | hi
  · exact h2 c (List.mem_filter.mpr ⟨hc, hi⟩)
  · simpa [hi] using h
set_option maxRecDepth 65536 in
theorem w_c0 : (Jvm.Cond.code x code maxLocals ret).before args0 about1 = true := code_word (m := ⟨1, 6⟩) (meth := k1m6) (c := k1c6) (by decide +kernel) rfl rfl rfl (by decide +kernel)
set_option maxRecDepth 65536 in
theorem w_c1 : (Jvm.Cond.code ({ cls := "com/example/polje/polje/ObfuscatorsEmailPinLaw", name := "draw", desc := "(I)C" } : Jvm.MethodName) method_2_code (2 : Nat) (Option.some Jvm.ClassFile.FieldType.char)).before args0 about1 = true := code_word (m := ⟨1, 1⟩) (meth := k1m1) (c := k1c1) (by decide +kernel) rfl rfl rfl (by decide +kernel)
set_option maxRecDepth 65536 in
theorem w_c2 : (Jvm.Cond.code ({ cls := "com/example/polje/polje/ObfuscatorsEmailPinLaw", name := "make", desc := "([CI)Ljava/lang/String;" } : Jvm.MethodName) method_3_code (2 : Nat) (Option.some (Jvm.ClassFile.FieldType.object "java/lang/String"))).before args0 about1 = true := code_word (m := ⟨1, 2⟩) (meth := k1m2) (c := k1c2) (by decide +kernel) rfl rfl rfl (by decide +kernel)
set_option maxRecDepth 65536 in
theorem w_c3 : (Jvm.Cond.code ({ cls := "java/lang/String", name := "<init>", desc := "([C)V" } : Jvm.MethodName) jdk_42_method_3_code (2 : Nat) (Option.none : Option Jvm.ClassFile.FieldType)).before args0 about1 = true := code_word (m := ⟨7, 1⟩) (meth := k7m1) (c := k7c1) (by decide +kernel) rfl rfl rfl (by decide +kernel)
set_option maxRecDepth 65536 in
theorem w_c4 : (Jvm.Cond.code ({ cls := "java/lang/String", name := "<init>", desc := "([CIILjava/lang/Void;)V" } : Jvm.MethodName) jdk_42_method_149_code (6 : Nat) (Option.none : Option Jvm.ClassFile.FieldType)).before args0 about1 = true := code_word (m := ⟨7, 14⟩) (meth := k7m14) (c := k7c14) (by decide +kernel) rfl rfl rfl (by decide +kernel)
set_option maxRecDepth 65536 in
theorem w_c5 : (Jvm.Cond.code ({ cls := "java/lang/Object", name := "<init>", desc := "()V" } : Jvm.MethodName) object_method_1_code (1 : Nat) (Option.none : Option Jvm.ClassFile.FieldType)).before args0 about1 = true := code_word (m := ⟨0, 0⟩) (meth := k0m0) (c := k0c0) (by decide +kernel) rfl rfl rfl (by decide +kernel)
set_option maxRecDepth 65536 in
theorem w_c6 : (Jvm.Cond.code ({ cls := "com/example/polje/polje/ObfuscatorsEmailPinLaw", name := "isAt", desc := "([CII)I" } : Jvm.MethodName) method_4_code (3 : Nat) (Option.some Jvm.ClassFile.FieldType.int)).before args0 about1 = true := code_word (m := ⟨1, 3⟩) (meth := k1m3) (c := k1c3) (by decide +kernel) rfl rfl rfl (by decide +kernel)
set_option maxRecDepth 65536 in
theorem w_c7 : (Jvm.Cond.code ({ cls := "com/example/polje/polje/Obfuscators", name := "email", desc := "(Ljava/lang/String;)Ljava/lang/String;" } : Jvm.MethodName) prog_5_method_2_code (8 : Nat) (Option.some (Jvm.ClassFile.FieldType.object "java/lang/String"))).before args0 about1 = true := code_word (m := ⟨8, 1⟩) (meth := k8m1) (c := k8c1) (by decide +kernel) rfl rfl rfl (by decide +kernel)
set_option maxRecDepth 65536 in
theorem w_c8 : (Jvm.Cond.code ({ cls := "java/lang/String", name := "indexOf", desc := "(I)I" } : Jvm.MethodName) jdk_42_method_79_code (2 : Nat) (Option.some Jvm.ClassFile.FieldType.int)).before args0 about1 = true := code_word (m := ⟨7, 7⟩) (meth := k7m7) (c := k7c7) (by decide +kernel) rfl rfl rfl (by decide +kernel)
set_option maxRecDepth 65536 in
theorem w_c9 : (Jvm.Cond.code ({ cls := "java/lang/String", name := "indexOf", desc := "(II)I" } : Jvm.MethodName) jdk_42_method_80_code (3 : Nat) (Option.some Jvm.ClassFile.FieldType.int)).before args0 about1 = true := code_word (m := ⟨7, 8⟩) (meth := k7m8) (c := k7c8) (by decide +kernel) rfl rfl rfl (by decide +kernel)
set_option maxRecDepth 65536 in
theorem w_c10 : (Jvm.Cond.code ({ cls := "java/lang/String", name := "isLatin1", desc := "()Z" } : Jvm.MethodName) jdk_42_method_154_code (1 : Nat) (Option.some Jvm.ClassFile.FieldType.boolean)).before args0 about1 = true := code_word (m := ⟨7, 18⟩) (meth := k7m18) (c := k7c18) (by decide +kernel) rfl rfl rfl (by decide +kernel)
set_option maxRecDepth 65536 in
theorem w_c11 : (Jvm.Cond.code ({ cls := "java/lang/String", name := "length", desc := "()I" } : Jvm.MethodName) jdk_42_method_54_code (1 : Nat) (Option.some Jvm.ClassFile.FieldType.int)).before args0 about1 = true := code_word (m := ⟨7, 3⟩) (meth := k7m3) (c := k7c3) (by decide +kernel) rfl rfl rfl (by decide +kernel)
set_option maxRecDepth 65536 in
theorem w_c12 : (Jvm.Cond.code ({ cls := "java/lang/String", name := "coder", desc := "()B" } : Jvm.MethodName) jdk_42_method_152_code (1 : Nat) (Option.some Jvm.ClassFile.FieldType.byte)).before args0 about1 = true := code_word (m := ⟨7, 17⟩) (meth := k7m17) (c := k7c17) (by decide +kernel) rfl rfl rfl (by decide +kernel)
set_option maxRecDepth 65536 in
theorem w_c13 : (Jvm.Cond.code ({ cls := "java/lang/StringLatin1", name := "indexOf", desc := "([BIII)I" } : Jvm.MethodName) jdk_43_method_22_code (4 : Nat) (Option.some Jvm.ClassFile.FieldType.int)).before args0 about1 = true := code_word (m := ⟨9, 4⟩) (meth := k9m4) (c := k9c4) (by decide +kernel) rfl rfl rfl (by decide +kernel)
set_option maxRecDepth 65536 in
theorem w_c14 : (Jvm.Cond.code ({ cls := "java/lang/StringLatin1", name := "canEncode", desc := "(I)Z" } : Jvm.MethodName) jdk_43_method_4_code (1 : Nat) (Option.some Jvm.ClassFile.FieldType.boolean)).before args0 about1 = true := code_word (m := ⟨9, 3⟩) (meth := k9m3) (c := k9c3) (by decide +kernel) rfl rfl rfl (by decide +kernel)
set_option maxRecDepth 65536 in
theorem w_c15 : (Jvm.Cond.code ({ cls := "java/lang/Math", name := "max", desc := "(II)I" } : Jvm.MethodName) jdk_29_method_65_code (2 : Nat) (Option.some Jvm.ClassFile.FieldType.int)).before args0 about1 = true := code_word (m := ⟨10, 1⟩) (meth := k10m1) (c := k10c1) (by decide +kernel) rfl rfl rfl (by decide +kernel)
set_option maxRecDepth 65536 in
theorem w_c16 : (Jvm.Cond.code ({ cls := "java/lang/Math", name := "min", desc := "(II)I" } : Jvm.MethodName) jdk_29_method_69_code (2 : Nat) (Option.some Jvm.ClassFile.FieldType.int)).before args0 about1 = true := code_word (m := ⟨10, 2⟩) (meth := k10m2) (c := k10c2) (by decide +kernel) rfl rfl rfl (by decide +kernel)
set_option maxRecDepth 65536 in
theorem w_c17 : (Jvm.Cond.code ({ cls := "com/example/polje/polje/Obfuscators", name := "starred", desc := "(Ljava/lang/String;II)Ljava/lang/String;" } : Jvm.MethodName) prog_5_method_3_code (9 : Nat) (Option.some (Jvm.ClassFile.FieldType.object "java/lang/String"))).before args0 about1 = true := code_word (m := ⟨8, 2⟩) (meth := k8m2) (c := k8c2) (by decide +kernel) rfl rfl rfl (by decide +kernel)
set_option maxRecDepth 65536 in
theorem w_c18 : (Jvm.Cond.code ({ cls := "java/lang/String", name := "codePointCount", desc := "(II)I" } : Jvm.MethodName) jdk_42_method_59_code (3 : Nat) (Option.some Jvm.ClassFile.FieldType.int)).before args0 about1 = true := code_word (m := ⟨7, 6⟩) (meth := k7m6) (c := k7c6) (by decide +kernel) rfl rfl rfl (by decide +kernel)
set_option maxRecDepth 65536 in
theorem w_c19 : (Jvm.Cond.code ({ cls := "java/util/Objects", name := "checkFromToIndex", desc := "(III)I" } : Jvm.MethodName) jdk_31_method_18_code (3 : Nat) (Option.some Jvm.ClassFile.FieldType.int)).before args0 about1 = true := code_word (m := ⟨11, 1⟩) (meth := k11m1) (c := k11c1) (by decide +kernel) rfl rfl rfl (by decide +kernel)
set_option maxRecDepth 65536 in
theorem w_c20 : (Jvm.Cond.code ({ cls := "jdk/internal/util/Preconditions", name := "checkFromToIndex", desc := "(IIILjava/util/function/BiFunction;)I" } : Jvm.MethodName) jdk_41_method_12_code (4 : Nat) (Option.some Jvm.ClassFile.FieldType.int)).before args0 about1 = true := code_word (m := ⟨12, 2⟩) (meth := k12m2) (c := k12c2) (by decide +kernel) rfl rfl rfl (by decide +kernel)
set_option maxRecDepth 65536 in
theorem w_c21 : (Jvm.Cond.code ({ cls := "java/lang/StringBuilder", name := "<init>", desc := "(I)V" } : Jvm.MethodName) jdk_67_method_2_code (2 : Nat) (Option.none : Option Jvm.ClassFile.FieldType)).before args0 about1 = true := code_word (m := ⟨15, 1⟩) (meth := k15m1) (c := k15c1) (by decide +kernel) rfl rfl rfl (by decide +kernel)
set_option maxRecDepth 65536 in
theorem w_c22 : (Jvm.Cond.code ({ cls := "java/lang/AbstractStringBuilder", name := "<init>", desc := "(I)V" } : Jvm.MethodName) jdk_68_method_2_code (2 : Nat) (Option.none : Option Jvm.ClassFile.FieldType)).before args0 about1 = true := code_word (m := ⟨14, 1⟩) (meth := k14m1) (c := k14c1) (by decide +kernel) rfl rfl rfl (by decide +kernel)
set_option maxRecDepth 65536 in
theorem w_c23 : (Jvm.Cond.code ({ cls := "java/lang/StringBuilder", name := "toString", desc := "()Ljava/lang/String;" } : Jvm.MethodName) jdk_67_method_42_code (1 : Nat) (Option.some (Jvm.ClassFile.FieldType.object "java/lang/String"))).before args0 about1 = true := code_word (m := ⟨15, 5⟩) (meth := k15m5) (c := k15c5) (by decide +kernel) rfl rfl rfl (by decide +kernel)
set_option maxRecDepth 65536 in
theorem w_c24 : (Jvm.Cond.code ({ cls := "java/lang/String", name := "<init>", desc := "(Ljava/lang/StringBuilder;)V" } : Jvm.MethodName) jdk_42_method_53_code (2 : Nat) (Option.none : Option Jvm.ClassFile.FieldType)).before args0 about1 = true := code_word (m := ⟨7, 2⟩) (meth := k7m2) (c := k7c2) (by decide +kernel) rfl rfl rfl (by decide +kernel)
set_option maxRecDepth 65536 in
theorem w_c25 : (Jvm.Cond.code ({ cls := "java/lang/String", name := "<init>", desc := "(Ljava/lang/AbstractStringBuilder;Ljava/lang/Void;)V" } : Jvm.MethodName) jdk_42_method_150_code (5 : Nat) (Option.none : Option Jvm.ClassFile.FieldType)).before args0 about1 = true := code_word (m := ⟨7, 15⟩) (meth := k7m15) (c := k7c15) (by decide +kernel) rfl rfl rfl (by decide +kernel)
set_option maxRecDepth 65536 in
theorem w_c26 : (Jvm.Cond.code ({ cls := "java/lang/AbstractStringBuilder", name := "getValue", desc := "()[B" } : Jvm.MethodName) jdk_68_method_64_code (1 : Nat) (Option.some (Jvm.ClassFile.FieldType.array Jvm.ClassFile.FieldType.byte))).before args0 about1 = true := code_word (m := ⟨14, 7⟩) (meth := k14m7) (c := k14c7) (by decide +kernel) rfl rfl rfl (by decide +kernel)
set_option maxRecDepth 65536 in
theorem w_c27 : (Jvm.Cond.code ({ cls := "java/lang/StringBuilder", name := "length", desc := "()I" } : Jvm.MethodName) jdk_67_method_93_code (1 : Nat) (Option.some Jvm.ClassFile.FieldType.int)).before args0 about1 = true := code_word (m := ⟨15, 7⟩) (meth := k15m7) (c := k15c7) (by decide +kernel) rfl rfl rfl (by decide +kernel)
set_option maxRecDepth 65536 in
theorem w_c28 : (Jvm.Cond.code ({ cls := "java/lang/AbstractStringBuilder", name := "length", desc := "()I" } : Jvm.MethodName) jdk_68_method_6_code (1 : Nat) (Option.some Jvm.ClassFile.FieldType.int)).before args0 about1 = true := code_word (m := ⟨14, 2⟩) (meth := k14m2) (c := k14c2) (by decide +kernel) rfl rfl rfl (by decide +kernel)
set_option maxRecDepth 65536 in
theorem w_c29 : (Jvm.Cond.code ({ cls := "java/lang/AbstractStringBuilder", name := "isLatin1", desc := "()Z" } : Jvm.MethodName) jdk_68_method_68_code (1 : Nat) (Option.some Jvm.ClassFile.FieldType.boolean)).before args0 about1 = true := code_word (m := ⟨14, 8⟩) (meth := k14m8) (c := k14c8) (by decide +kernel) rfl rfl rfl (by decide +kernel)
set_option maxRecDepth 65536 in
theorem w_c30 : (Jvm.Cond.code ({ cls := "java/util/Arrays", name := "copyOfRange", desc := "([BII)[B" } : Jvm.MethodName) jdk_65_method_132_code (3 : Nat) (Option.some (Jvm.ClassFile.FieldType.array Jvm.ClassFile.FieldType.byte))).before args0 about1 = true := code_word (m := ⟨16, 2⟩) (meth := k16m2) (c := k16c2) (by decide +kernel) rfl rfl rfl (by decide +kernel)
set_option maxRecDepth 65536 in
theorem w_c31 : (Jvm.Cond.code ({ cls := "com/example/polje/polje/ObfuscatorsEmailPinLaw", name := "pos", desc := "(Ljava/lang/String;[CIIZII)Z" } : Jvm.MethodName) method_6_code (7 : Nat) (Option.some Jvm.ClassFile.FieldType.boolean)).before args0 about1 = true := code_word (m := ⟨1, 5⟩) (meth := k1m5) (c := k1c5) (by decide +kernel) rfl rfl rfl (by decide +kernel)
set_option maxRecDepth 65536 in
theorem w_c32 : (Jvm.Cond.code ({ cls := "java/lang/StringUTF16", name := "compress", desc := "([CII)[B" } : Jvm.MethodName) jdk_52_method_16_code (6 : Nat) (Option.some (Jvm.ClassFile.FieldType.array Jvm.ClassFile.FieldType.byte))).before args0 about1 = true := code_word (m := ⟨18, 2⟩) (meth := k18m2) (c := k18c2) (by decide +kernel) rfl rfl rfl (by decide +kernel)
set_option maxRecDepth 65536 in
theorem w_c33 : (Jvm.Cond.code ({ cls := "java/lang/StringUTF16", name := "compress", desc := "([CI[BII)I" } : Jvm.MethodName) jdk_52_method_21_code (7 : Nat) (Option.some Jvm.ClassFile.FieldType.int)).before args0 about1 = true := code_word (m := ⟨18, 3⟩) (meth := k18m3) (c := k18c3) (by decide +kernel) rfl rfl rfl (by decide +kernel)
set_option maxRecDepth 65536 in
theorem w_c34 : (Jvm.Cond.code ({ cls := "java/lang/StringUTF16", name := "coderFromArrayLen", desc := "([BI)B" } : Jvm.MethodName) jdk_52_method_15_code (2 : Nat) (Option.some Jvm.ClassFile.FieldType.byte)).before args0 about1 = true := code_word (m := ⟨18, 1⟩) (meth := k18m1) (c := k18c1) (by decide +kernel) rfl rfl rfl (by decide +kernel)
set_option maxRecDepth 65536 in
theorem w_c35 : (Jvm.Cond.code ({ cls := "java/lang/StringLatin1", name := "indexOfChar", desc := "([BIII)I" } : Jvm.MethodName) jdk_43_method_23_code (6 : Nat) (Option.some Jvm.ClassFile.FieldType.int)).before args0 about1 = true := code_word (m := ⟨9, 5⟩) (meth := k9m5) (c := k9c5) (by decide +kernel) rfl rfl rfl (by decide +kernel)
set_option maxRecDepth 65536 in
theorem w_c36 : (Jvm.Cond.code ({ cls := "java/lang/String", name := "lastIndexOf", desc := "(I)I" } : Jvm.MethodName) jdk_42_method_82_code (2 : Nat) (Option.some Jvm.ClassFile.FieldType.int)).before args0 about1 = true := code_word (m := ⟨7, 9⟩) (meth := k7m9) (c := k7c9) (by decide +kernel) rfl rfl rfl (by decide +kernel)
set_option maxRecDepth 65536 in
theorem w_c37 : (Jvm.Cond.code ({ cls := "java/lang/String", name := "lastIndexOf", desc := "(II)I" } : Jvm.MethodName) jdk_42_method_83_code (3 : Nat) (Option.some Jvm.ClassFile.FieldType.int)).before args0 about1 = true := code_word (m := ⟨7, 10⟩) (meth := k7m10) (c := k7c10) (by decide +kernel) rfl rfl rfl (by decide +kernel)
set_option maxRecDepth 65536 in
theorem w_c38 : (Jvm.Cond.code ({ cls := "java/lang/StringLatin1", name := "lastIndexOf", desc := "([BII)I" } : Jvm.MethodName) jdk_43_method_27_code (4 : Nat) (Option.some Jvm.ClassFile.FieldType.int)).before args0 about1 = true := code_word (m := ⟨9, 6⟩) (meth := k9m6) (c := k9c6) (by decide +kernel) rfl rfl rfl (by decide +kernel)
set_option maxRecDepth 65536 in
theorem w_c39 : (Jvm.Cond.code ({ cls := "java/lang/String", name := "codePointAt", desc := "(I)I" } : Jvm.MethodName) jdk_42_method_57_code (3 : Nat) (Option.some Jvm.ClassFile.FieldType.int)).before args0 about1 = true := code_word (m := ⟨7, 5⟩) (meth := k7m5) (c := k7c5) (by decide +kernel) rfl rfl rfl (by decide +kernel)
set_option maxRecDepth 65536 in
theorem w_c40 : (Jvm.Cond.code ({ cls := "java/lang/String", name := "checkIndex", desc := "(II)V" } : Jvm.MethodName) jdk_42_method_155_code (2 : Nat) (Option.none : Option Jvm.ClassFile.FieldType)).before args0 about1 = true := code_word (m := ⟨7, 19⟩) (meth := k7m19) (c := k7c19) (by decide +kernel) rfl rfl rfl (by decide +kernel)
set_option maxRecDepth 65536 in
theorem w_c41 : (Jvm.Cond.code ({ cls := "jdk/internal/util/Preconditions", name := "checkIndex", desc := "(IILjava/util/function/BiFunction;)I" } : Jvm.MethodName) jdk_41_method_11_code (3 : Nat) (Option.some Jvm.ClassFile.FieldType.int)).before args0 about1 = true := code_word (m := ⟨12, 1⟩) (meth := k12m1) (c := k12c1) (by decide +kernel) rfl rfl rfl (by decide +kernel)
set_option maxRecDepth 65536 in
theorem w_c42 : (Jvm.Cond.code ({ cls := "java/lang/StringBuilder", name := "appendCodePoint", desc := "(I)Ljava/lang/StringBuilder;" } : Jvm.MethodName) jdk_67_method_19_code (2 : Nat) (Option.some (Jvm.ClassFile.FieldType.object "java/lang/StringBuilder"))).before args0 about1 = true := code_word (m := ⟨15, 4⟩) (meth := k15m4) (c := k15c4) (by decide +kernel) rfl rfl rfl (by decide +kernel)
set_option maxRecDepth 65536 in
theorem w_c43 : (Jvm.Cond.code ({ cls := "java/lang/AbstractStringBuilder", name := "appendCodePoint", desc := "(I)Ljava/lang/AbstractStringBuilder;" } : Jvm.MethodName) jdk_68_method_37_code (2 : Nat) (Option.some (Jvm.ClassFile.FieldType.object "java/lang/AbstractStringBuilder"))).before args0 about1 = true := code_word (m := ⟨14, 6⟩) (meth := k14m6) (c := k14c6) (by decide +kernel) rfl rfl rfl (by decide +kernel)
set_option maxRecDepth 65536 in
theorem w_c44 : (Jvm.Cond.code ({ cls := "java/lang/Character", name := "isBmpCodePoint", desc := "(I)Z" } : Jvm.MethodName) jdk_89_method_12_code (1 : Nat) (Option.some Jvm.ClassFile.FieldType.boolean)).before args0 about1 = true := code_word (m := ⟨19, 0⟩) (meth := k19m0) (c := k19c0) (by decide +kernel) rfl rfl rfl (by decide +kernel)
set_option maxRecDepth 65536 in
theorem w_c45 : (Jvm.Cond.code ({ cls := "java/lang/StringBuilder", name := "append", desc := "(C)Ljava/lang/AbstractStringBuilder;" } : Jvm.MethodName) jdk_67_method_73_code (2 : Nat) (Option.some (Jvm.ClassFile.FieldType.object "java/lang/AbstractStringBuilder"))).before args0 about1 = true := code_word (m := ⟨15, 6⟩) (meth := k15m6) (c := k15c6) (by decide +kernel) rfl rfl rfl (by decide +kernel)
set_option maxRecDepth 65536 in
theorem w_c46 : (Jvm.Cond.code ({ cls := "java/lang/StringBuilder", name := "append", desc := "(C)Ljava/lang/StringBuilder;" } : Jvm.MethodName) jdk_67_method_14_code (2 : Nat) (Option.some (Jvm.ClassFile.FieldType.object "java/lang/StringBuilder"))).before args0 about1 = true := code_word (m := ⟨15, 3⟩) (meth := k15m3) (c := k15c3) (by decide +kernel) rfl rfl rfl (by decide +kernel)
set_option maxRecDepth 65536 in
theorem w_c47 : (Jvm.Cond.code ({ cls := "java/lang/AbstractStringBuilder", name := "append", desc := "(C)Ljava/lang/AbstractStringBuilder;" } : Jvm.MethodName) jdk_68_method_31_code (2 : Nat) (Option.some (Jvm.ClassFile.FieldType.object "java/lang/AbstractStringBuilder"))).before args0 about1 = true := code_word (m := ⟨14, 5⟩) (meth := k14m5) (c := k14c5) (by decide +kernel) rfl rfl rfl (by decide +kernel)
set_option maxRecDepth 65536 in
theorem w_c48 : (Jvm.Cond.code ({ cls := "java/lang/AbstractStringBuilder", name := "ensureCapacityInternal", desc := "(I)V" } : Jvm.MethodName) jdk_68_method_9_code (3 : Nat) (Option.none : Option Jvm.ClassFile.FieldType)).before args0 about1 = true := code_word (m := ⟨14, 3⟩) (meth := k14m3) (c := k14c3) (by decide +kernel) rfl rfl rfl (by decide +kernel)
set_option maxRecDepth 65536 in
theorem w_c49 : (Jvm.Cond.code ({ cls := "java/lang/StringLatin1", name := "canEncode", desc := "(C)Z" } : Jvm.MethodName) jdk_43_method_3_code (1 : Nat) (Option.some Jvm.ClassFile.FieldType.boolean)).before args0 about1 = true := code_word (m := ⟨9, 2⟩) (meth := k9m2) (c := k9c2) (by decide +kernel) rfl rfl rfl (by decide +kernel)
set_option maxRecDepth 65536 in
theorem w_c50 : (Jvm.Cond.code ({ cls := "java/lang/Character", name := "charCount", desc := "(I)I" } : Jvm.MethodName) jdk_89_method_18_code (1 : Nat) (Option.some Jvm.ClassFile.FieldType.int)).before args0 about1 = true := code_word (m := ⟨19, 1⟩) (meth := k19m1) (c := k19c1) (by decide +kernel) rfl rfl rfl (by decide +kernel)
set_option maxRecDepth 65536 in
theorem w_c51 : (Jvm.Cond.code ({ cls := "java/lang/String", name := "charAt", desc := "(I)C" } : Jvm.MethodName) jdk_42_method_56_code (2 : Nat) (Option.some Jvm.ClassFile.FieldType.char)).before args0 about1 = true := code_word (m := ⟨7, 4⟩) (meth := k7m4) (c := k7c4) (by decide +kernel) rfl rfl rfl (by decide +kernel)
set_option maxRecDepth 65536 in
theorem w_c52 : (Jvm.Cond.code ({ cls := "java/lang/StringLatin1", name := "charAt", desc := "([BI)C" } : Jvm.MethodName) jdk_43_method_2_code (2 : Nat) (Option.some Jvm.ClassFile.FieldType.char)).before args0 about1 = true := code_word (m := ⟨9, 1⟩) (meth := k9m1) (c := k9c1) (by decide +kernel) rfl rfl rfl (by decide +kernel)
set_option maxRecDepth 65536 in
theorem w_c53 : (Jvm.Cond.code ({ cls := "com/example/polje/polje/ObfuscatorsEmailPinLaw", name := "expected", desc := "([CIZII)C" } : Jvm.MethodName) method_5_code (5 : Nat) (Option.some Jvm.ClassFile.FieldType.char)).before args0 about1 = true := code_word (m := ⟨1, 4⟩) (meth := k1m4) (c := k1c4) (by decide +kernel) rfl rfl rfl (by decide +kernel)
set_option maxRecDepth 65536 in
theorem w_c54 : (Jvm.Cond.code ({ cls := "java/lang/String", name := "substring", desc := "(II)Ljava/lang/String;" } : Jvm.MethodName) jdk_42_method_92_code (5 : Nat) (Option.some (Jvm.ClassFile.FieldType.object "java/lang/String"))).before args0 about1 = true := code_word (m := ⟨7, 12⟩) (meth := k7m12) (c := k7c12) (by decide +kernel) rfl rfl rfl (by decide +kernel)
set_option maxRecDepth 65536 in
theorem w_c55 : (Jvm.Cond.code ({ cls := "java/lang/String", name := "checkBoundsBeginEnd", desc := "(III)V" } : Jvm.MethodName) jdk_42_method_158_code (3 : Nat) (Option.none : Option Jvm.ClassFile.FieldType)).before args0 about1 = true := code_word (m := ⟨7, 20⟩) (meth := k7m20) (c := k7c20) (by decide +kernel) rfl rfl rfl (by decide +kernel)
set_option maxRecDepth 65536 in
theorem w_c56 : (Jvm.Cond.code ({ cls := "java/lang/StringLatin1", name := "newString", desc := "([BII)Ljava/lang/String;" } : Jvm.MethodName) jdk_43_method_47_code (3 : Nat) (Option.some (Jvm.ClassFile.FieldType.object "java/lang/String"))).before args0 about1 = true := code_word (m := ⟨9, 7⟩) (meth := k9m7) (c := k9c7) (by decide +kernel) rfl rfl rfl (by decide +kernel)
set_option maxRecDepth 65536 in
theorem w_c57 : (Jvm.Cond.code ({ cls := "java/util/Arrays", name := "copyOfRangeByte", desc := "([BII)[B" } : Jvm.MethodName) jdk_65_method_133_code (5 : Nat) (Option.some (Jvm.ClassFile.FieldType.array Jvm.ClassFile.FieldType.byte))).before args0 about1 = true := code_word (m := ⟨16, 3⟩) (meth := k16m3) (c := k16c3) (by decide +kernel) rfl rfl rfl (by decide +kernel)
set_option maxRecDepth 65536 in
theorem w_c58 : (Jvm.Cond.code ({ cls := "java/util/Arrays", name := "checkLength", desc := "(II)V" } : Jvm.MethodName) jdk_65_method_131_code (2 : Nat) (Option.none : Option Jvm.ClassFile.FieldType)).before args0 about1 = true := code_word (m := ⟨16, 1⟩) (meth := k16m1) (c := k16c1) (by decide +kernel) rfl rfl rfl (by decide +kernel)
set_option maxRecDepth 65536 in
theorem w_c59 : (Jvm.Cond.code ({ cls := "java/lang/String", name := "<init>", desc := "([BB)V" } : Jvm.MethodName) jdk_42_method_151_code (3 : Nat) (Option.none : Option Jvm.ClassFile.FieldType)).before args0 about1 = true := code_word (m := ⟨7, 16⟩) (meth := k7m16) (c := k7c16) (by decide +kernel) rfl rfl rfl (by decide +kernel)
set_option maxRecDepth 65536 in
theorem w_c60 : (Jvm.Cond.code ({ cls := "java/lang/String", name := "substring", desc := "(I)Ljava/lang/String;" } : Jvm.MethodName) jdk_42_method_91_code (2 : Nat) (Option.some (Jvm.ClassFile.FieldType.object "java/lang/String"))).before args0 about1 = true := code_word (m := ⟨7, 11⟩) (meth := k7m11) (c := k7c11) (by decide +kernel) rfl rfl rfl (by decide +kernel)
set_option maxRecDepth 65536 in
theorem w_c61 : (Jvm.Cond.code ({ cls := "java/lang/StringBuilder", name := "<init>", desc := "()V" } : Jvm.MethodName) jdk_67_method_1_code (1 : Nat) (Option.none : Option Jvm.ClassFile.FieldType)).before args0 about1 = true := code_word (m := ⟨15, 0⟩) (meth := k15m0) (c := k15c0) (by decide +kernel) rfl rfl rfl (by decide +kernel)
set_option maxRecDepth 65536 in
theorem w_c62 : (Jvm.Cond.code ({ cls := "java/lang/StringBuilder", name := "append", desc := "(Ljava/lang/String;)Ljava/lang/StringBuilder;" } : Jvm.MethodName) jdk_67_method_7_code (2 : Nat) (Option.some (Jvm.ClassFile.FieldType.object "java/lang/StringBuilder"))).before args0 about1 = true := code_word (m := ⟨15, 2⟩) (meth := k15m2) (c := k15c2) (by decide +kernel) rfl rfl rfl (by decide +kernel)
set_option maxRecDepth 65536 in
theorem w_c63 : (Jvm.Cond.code ({ cls := "java/lang/AbstractStringBuilder", name := "append", desc := "(Ljava/lang/String;)Ljava/lang/AbstractStringBuilder;" } : Jvm.MethodName) jdk_68_method_22_code (3 : Nat) (Option.some (Jvm.ClassFile.FieldType.object "java/lang/AbstractStringBuilder"))).before args0 about1 = true := code_word (m := ⟨14, 4⟩) (meth := k14m4) (c := k14c4) (by decide +kernel) rfl rfl rfl (by decide +kernel)
set_option maxRecDepth 65536 in
theorem w_c64 : (Jvm.Cond.code ({ cls := "java/lang/AbstractStringBuilder", name := "putStringAt", desc := "(ILjava/lang/String;)V" } : Jvm.MethodName) jdk_68_method_73_code (3 : Nat) (Option.none : Option Jvm.ClassFile.FieldType)).before args0 about1 = true := code_word (m := ⟨14, 10⟩) (meth := k14m10) (c := k14c10) (by decide +kernel) rfl rfl rfl (by decide +kernel)
set_option maxRecDepth 65536 in
theorem w_c65 : (Jvm.Cond.code ({ cls := "java/lang/AbstractStringBuilder", name := "inflateIfNeededFor", desc := "(Ljava/lang/String;)V" } : Jvm.MethodName) jdk_68_method_71_code (2 : Nat) (Option.none : Option Jvm.ClassFile.FieldType)).before args0 about1 = true := code_word (m := ⟨14, 9⟩) (meth := k14m9) (c := k14c9) (by decide +kernel) rfl rfl rfl (by decide +kernel)
set_option maxRecDepth 65536 in
theorem w_c66 : (Jvm.Cond.code ({ cls := "java/lang/String", name := "getBytes", desc := "([BIB)V" } : Jvm.MethodName) jdk_42_method_147_code (4 : Nat) (Option.none : Option Jvm.ClassFile.FieldType)).before args0 about1 = true := code_word (m := ⟨7, 13⟩) (meth := k7m13) (c := k7c13) (by decide +kernel) rfl rfl rfl (by decide +kernel)
def codes1 : List Jvm.Cond := [Jvm.Cond.code x code maxLocals ret, Jvm.Cond.code ({ cls := "com/example/polje/polje/ObfuscatorsEmailPinLaw", name := "draw", desc := "(I)C" } : Jvm.MethodName) method_2_code (2 : Nat) (Option.some Jvm.ClassFile.FieldType.char), Jvm.Cond.code ({ cls := "com/example/polje/polje/ObfuscatorsEmailPinLaw", name := "make", desc := "([CI)Ljava/lang/String;" } : Jvm.MethodName) method_3_code (2 : Nat) (Option.some (Jvm.ClassFile.FieldType.object "java/lang/String")), Jvm.Cond.code ({ cls := "java/lang/String", name := "<init>", desc := "([C)V" } : Jvm.MethodName) jdk_42_method_3_code (2 : Nat) (Option.none : Option Jvm.ClassFile.FieldType), Jvm.Cond.code ({ cls := "java/lang/String", name := "<init>", desc := "([CIILjava/lang/Void;)V" } : Jvm.MethodName) jdk_42_method_149_code (6 : Nat) (Option.none : Option Jvm.ClassFile.FieldType), Jvm.Cond.code ({ cls := "java/lang/Object", name := "<init>", desc := "()V" } : Jvm.MethodName) object_method_1_code (1 : Nat) (Option.none : Option Jvm.ClassFile.FieldType), Jvm.Cond.code ({ cls := "com/example/polje/polje/ObfuscatorsEmailPinLaw", name := "isAt", desc := "([CII)I" } : Jvm.MethodName) method_4_code (3 : Nat) (Option.some Jvm.ClassFile.FieldType.int), Jvm.Cond.code ({ cls := "com/example/polje/polje/Obfuscators", name := "email", desc := "(Ljava/lang/String;)Ljava/lang/String;" } : Jvm.MethodName) prog_5_method_2_code (8 : Nat) (Option.some (Jvm.ClassFile.FieldType.object "java/lang/String")), Jvm.Cond.code ({ cls := "java/lang/String", name := "indexOf", desc := "(I)I" } : Jvm.MethodName) jdk_42_method_79_code (2 : Nat) (Option.some Jvm.ClassFile.FieldType.int), Jvm.Cond.code ({ cls := "java/lang/String", name := "indexOf", desc := "(II)I" } : Jvm.MethodName) jdk_42_method_80_code (3 : Nat) (Option.some Jvm.ClassFile.FieldType.int), Jvm.Cond.code ({ cls := "java/lang/String", name := "isLatin1", desc := "()Z" } : Jvm.MethodName) jdk_42_method_154_code (1 : Nat) (Option.some Jvm.ClassFile.FieldType.boolean), Jvm.Cond.code ({ cls := "java/lang/String", name := "length", desc := "()I" } : Jvm.MethodName) jdk_42_method_54_code (1 : Nat) (Option.some Jvm.ClassFile.FieldType.int), Jvm.Cond.code ({ cls := "java/lang/String", name := "coder", desc := "()B" } : Jvm.MethodName) jdk_42_method_152_code (1 : Nat) (Option.some Jvm.ClassFile.FieldType.byte), Jvm.Cond.code ({ cls := "java/lang/StringLatin1", name := "indexOf", desc := "([BIII)I" } : Jvm.MethodName) jdk_43_method_22_code (4 : Nat) (Option.some Jvm.ClassFile.FieldType.int), Jvm.Cond.code ({ cls := "java/lang/StringLatin1", name := "canEncode", desc := "(I)Z" } : Jvm.MethodName) jdk_43_method_4_code (1 : Nat) (Option.some Jvm.ClassFile.FieldType.boolean), Jvm.Cond.code ({ cls := "java/lang/Math", name := "max", desc := "(II)I" } : Jvm.MethodName) jdk_29_method_65_code (2 : Nat) (Option.some Jvm.ClassFile.FieldType.int), Jvm.Cond.code ({ cls := "java/lang/Math", name := "min", desc := "(II)I" } : Jvm.MethodName) jdk_29_method_69_code (2 : Nat) (Option.some Jvm.ClassFile.FieldType.int), Jvm.Cond.code ({ cls := "com/example/polje/polje/Obfuscators", name := "starred", desc := "(Ljava/lang/String;II)Ljava/lang/String;" } : Jvm.MethodName) prog_5_method_3_code (9 : Nat) (Option.some (Jvm.ClassFile.FieldType.object "java/lang/String")), Jvm.Cond.code ({ cls := "java/lang/String", name := "codePointCount", desc := "(II)I" } : Jvm.MethodName) jdk_42_method_59_code (3 : Nat) (Option.some Jvm.ClassFile.FieldType.int), Jvm.Cond.code ({ cls := "java/util/Objects", name := "checkFromToIndex", desc := "(III)I" } : Jvm.MethodName) jdk_31_method_18_code (3 : Nat) (Option.some Jvm.ClassFile.FieldType.int), Jvm.Cond.code ({ cls := "jdk/internal/util/Preconditions", name := "checkFromToIndex", desc := "(IIILjava/util/function/BiFunction;)I" } : Jvm.MethodName) jdk_41_method_12_code (4 : Nat) (Option.some Jvm.ClassFile.FieldType.int), Jvm.Cond.code ({ cls := "java/lang/StringBuilder", name := "<init>", desc := "(I)V" } : Jvm.MethodName) jdk_67_method_2_code (2 : Nat) (Option.none : Option Jvm.ClassFile.FieldType), Jvm.Cond.code ({ cls := "java/lang/AbstractStringBuilder", name := "<init>", desc := "(I)V" } : Jvm.MethodName) jdk_68_method_2_code (2 : Nat) (Option.none : Option Jvm.ClassFile.FieldType), Jvm.Cond.code ({ cls := "java/lang/StringBuilder", name := "toString", desc := "()Ljava/lang/String;" } : Jvm.MethodName) jdk_67_method_42_code (1 : Nat) (Option.some (Jvm.ClassFile.FieldType.object "java/lang/String")), Jvm.Cond.code ({ cls := "java/lang/String", name := "<init>", desc := "(Ljava/lang/StringBuilder;)V" } : Jvm.MethodName) jdk_42_method_53_code (2 : Nat) (Option.none : Option Jvm.ClassFile.FieldType), Jvm.Cond.code ({ cls := "java/lang/String", name := "<init>", desc := "(Ljava/lang/AbstractStringBuilder;Ljava/lang/Void;)V" } : Jvm.MethodName) jdk_42_method_150_code (5 : Nat) (Option.none : Option Jvm.ClassFile.FieldType), Jvm.Cond.code ({ cls := "java/lang/AbstractStringBuilder", name := "getValue", desc := "()[B" } : Jvm.MethodName) jdk_68_method_64_code (1 : Nat) (Option.some (Jvm.ClassFile.FieldType.array Jvm.ClassFile.FieldType.byte)), Jvm.Cond.code ({ cls := "java/lang/StringBuilder", name := "length", desc := "()I" } : Jvm.MethodName) jdk_67_method_93_code (1 : Nat) (Option.some Jvm.ClassFile.FieldType.int), Jvm.Cond.code ({ cls := "java/lang/AbstractStringBuilder", name := "length", desc := "()I" } : Jvm.MethodName) jdk_68_method_6_code (1 : Nat) (Option.some Jvm.ClassFile.FieldType.int), Jvm.Cond.code ({ cls := "java/lang/AbstractStringBuilder", name := "isLatin1", desc := "()Z" } : Jvm.MethodName) jdk_68_method_68_code (1 : Nat) (Option.some Jvm.ClassFile.FieldType.boolean), Jvm.Cond.code ({ cls := "java/util/Arrays", name := "copyOfRange", desc := "([BII)[B" } : Jvm.MethodName) jdk_65_method_132_code (3 : Nat) (Option.some (Jvm.ClassFile.FieldType.array Jvm.ClassFile.FieldType.byte)), Jvm.Cond.code ({ cls := "com/example/polje/polje/ObfuscatorsEmailPinLaw", name := "pos", desc := "(Ljava/lang/String;[CIIZII)Z" } : Jvm.MethodName) method_6_code (7 : Nat) (Option.some Jvm.ClassFile.FieldType.boolean), Jvm.Cond.code ({ cls := "java/lang/StringUTF16", name := "compress", desc := "([CII)[B" } : Jvm.MethodName) jdk_52_method_16_code (6 : Nat) (Option.some (Jvm.ClassFile.FieldType.array Jvm.ClassFile.FieldType.byte)), Jvm.Cond.code ({ cls := "java/lang/StringUTF16", name := "compress", desc := "([CI[BII)I" } : Jvm.MethodName) jdk_52_method_21_code (7 : Nat) (Option.some Jvm.ClassFile.FieldType.int), Jvm.Cond.code ({ cls := "java/lang/StringUTF16", name := "coderFromArrayLen", desc := "([BI)B" } : Jvm.MethodName) jdk_52_method_15_code (2 : Nat) (Option.some Jvm.ClassFile.FieldType.byte), Jvm.Cond.code ({ cls := "java/lang/StringLatin1", name := "indexOfChar", desc := "([BIII)I" } : Jvm.MethodName) jdk_43_method_23_code (6 : Nat) (Option.some Jvm.ClassFile.FieldType.int), Jvm.Cond.code ({ cls := "java/lang/String", name := "lastIndexOf", desc := "(I)I" } : Jvm.MethodName) jdk_42_method_82_code (2 : Nat) (Option.some Jvm.ClassFile.FieldType.int), Jvm.Cond.code ({ cls := "java/lang/String", name := "lastIndexOf", desc := "(II)I" } : Jvm.MethodName) jdk_42_method_83_code (3 : Nat) (Option.some Jvm.ClassFile.FieldType.int), Jvm.Cond.code ({ cls := "java/lang/StringLatin1", name := "lastIndexOf", desc := "([BII)I" } : Jvm.MethodName) jdk_43_method_27_code (4 : Nat) (Option.some Jvm.ClassFile.FieldType.int), Jvm.Cond.code ({ cls := "java/lang/String", name := "codePointAt", desc := "(I)I" } : Jvm.MethodName) jdk_42_method_57_code (3 : Nat) (Option.some Jvm.ClassFile.FieldType.int), Jvm.Cond.code ({ cls := "java/lang/String", name := "checkIndex", desc := "(II)V" } : Jvm.MethodName) jdk_42_method_155_code (2 : Nat) (Option.none : Option Jvm.ClassFile.FieldType), Jvm.Cond.code ({ cls := "jdk/internal/util/Preconditions", name := "checkIndex", desc := "(IILjava/util/function/BiFunction;)I" } : Jvm.MethodName) jdk_41_method_11_code (3 : Nat) (Option.some Jvm.ClassFile.FieldType.int), Jvm.Cond.code ({ cls := "java/lang/StringBuilder", name := "appendCodePoint", desc := "(I)Ljava/lang/StringBuilder;" } : Jvm.MethodName) jdk_67_method_19_code (2 : Nat) (Option.some (Jvm.ClassFile.FieldType.object "java/lang/StringBuilder")), Jvm.Cond.code ({ cls := "java/lang/AbstractStringBuilder", name := "appendCodePoint", desc := "(I)Ljava/lang/AbstractStringBuilder;" } : Jvm.MethodName) jdk_68_method_37_code (2 : Nat) (Option.some (Jvm.ClassFile.FieldType.object "java/lang/AbstractStringBuilder")), Jvm.Cond.code ({ cls := "java/lang/Character", name := "isBmpCodePoint", desc := "(I)Z" } : Jvm.MethodName) jdk_89_method_12_code (1 : Nat) (Option.some Jvm.ClassFile.FieldType.boolean), Jvm.Cond.code ({ cls := "java/lang/StringBuilder", name := "append", desc := "(C)Ljava/lang/AbstractStringBuilder;" } : Jvm.MethodName) jdk_67_method_73_code (2 : Nat) (Option.some (Jvm.ClassFile.FieldType.object "java/lang/AbstractStringBuilder")), Jvm.Cond.code ({ cls := "java/lang/StringBuilder", name := "append", desc := "(C)Ljava/lang/StringBuilder;" } : Jvm.MethodName) jdk_67_method_14_code (2 : Nat) (Option.some (Jvm.ClassFile.FieldType.object "java/lang/StringBuilder")), Jvm.Cond.code ({ cls := "java/lang/AbstractStringBuilder", name := "append", desc := "(C)Ljava/lang/AbstractStringBuilder;" } : Jvm.MethodName) jdk_68_method_31_code (2 : Nat) (Option.some (Jvm.ClassFile.FieldType.object "java/lang/AbstractStringBuilder")), Jvm.Cond.code ({ cls := "java/lang/AbstractStringBuilder", name := "ensureCapacityInternal", desc := "(I)V" } : Jvm.MethodName) jdk_68_method_9_code (3 : Nat) (Option.none : Option Jvm.ClassFile.FieldType), Jvm.Cond.code ({ cls := "java/lang/StringLatin1", name := "canEncode", desc := "(C)Z" } : Jvm.MethodName) jdk_43_method_3_code (1 : Nat) (Option.some Jvm.ClassFile.FieldType.boolean), Jvm.Cond.code ({ cls := "java/lang/Character", name := "charCount", desc := "(I)I" } : Jvm.MethodName) jdk_89_method_18_code (1 : Nat) (Option.some Jvm.ClassFile.FieldType.int), Jvm.Cond.code ({ cls := "java/lang/String", name := "charAt", desc := "(I)C" } : Jvm.MethodName) jdk_42_method_56_code (2 : Nat) (Option.some Jvm.ClassFile.FieldType.char), Jvm.Cond.code ({ cls := "java/lang/StringLatin1", name := "charAt", desc := "([BI)C" } : Jvm.MethodName) jdk_43_method_2_code (2 : Nat) (Option.some Jvm.ClassFile.FieldType.char), Jvm.Cond.code ({ cls := "com/example/polje/polje/ObfuscatorsEmailPinLaw", name := "expected", desc := "([CIZII)C" } : Jvm.MethodName) method_5_code (5 : Nat) (Option.some Jvm.ClassFile.FieldType.char), Jvm.Cond.code ({ cls := "java/lang/String", name := "substring", desc := "(II)Ljava/lang/String;" } : Jvm.MethodName) jdk_42_method_92_code (5 : Nat) (Option.some (Jvm.ClassFile.FieldType.object "java/lang/String")), Jvm.Cond.code ({ cls := "java/lang/String", name := "checkBoundsBeginEnd", desc := "(III)V" } : Jvm.MethodName) jdk_42_method_158_code (3 : Nat) (Option.none : Option Jvm.ClassFile.FieldType), Jvm.Cond.code ({ cls := "java/lang/StringLatin1", name := "newString", desc := "([BII)Ljava/lang/String;" } : Jvm.MethodName) jdk_43_method_47_code (3 : Nat) (Option.some (Jvm.ClassFile.FieldType.object "java/lang/String")), Jvm.Cond.code ({ cls := "java/util/Arrays", name := "copyOfRangeByte", desc := "([BII)[B" } : Jvm.MethodName) jdk_65_method_133_code (5 : Nat) (Option.some (Jvm.ClassFile.FieldType.array Jvm.ClassFile.FieldType.byte)), Jvm.Cond.code ({ cls := "java/util/Arrays", name := "checkLength", desc := "(II)V" } : Jvm.MethodName) jdk_65_method_131_code (2 : Nat) (Option.none : Option Jvm.ClassFile.FieldType), Jvm.Cond.code ({ cls := "java/lang/String", name := "<init>", desc := "([BB)V" } : Jvm.MethodName) jdk_42_method_151_code (3 : Nat) (Option.none : Option Jvm.ClassFile.FieldType), Jvm.Cond.code ({ cls := "java/lang/String", name := "substring", desc := "(I)Ljava/lang/String;" } : Jvm.MethodName) jdk_42_method_91_code (2 : Nat) (Option.some (Jvm.ClassFile.FieldType.object "java/lang/String")), Jvm.Cond.code ({ cls := "java/lang/StringBuilder", name := "<init>", desc := "()V" } : Jvm.MethodName) jdk_67_method_1_code (1 : Nat) (Option.none : Option Jvm.ClassFile.FieldType), Jvm.Cond.code ({ cls := "java/lang/StringBuilder", name := "append", desc := "(Ljava/lang/String;)Ljava/lang/StringBuilder;" } : Jvm.MethodName) jdk_67_method_7_code (2 : Nat) (Option.some (Jvm.ClassFile.FieldType.object "java/lang/StringBuilder")), Jvm.Cond.code ({ cls := "java/lang/AbstractStringBuilder", name := "append", desc := "(Ljava/lang/String;)Ljava/lang/AbstractStringBuilder;" } : Jvm.MethodName) jdk_68_method_22_code (3 : Nat) (Option.some (Jvm.ClassFile.FieldType.object "java/lang/AbstractStringBuilder")), Jvm.Cond.code ({ cls := "java/lang/AbstractStringBuilder", name := "putStringAt", desc := "(ILjava/lang/String;)V" } : Jvm.MethodName) jdk_68_method_73_code (3 : Nat) (Option.none : Option Jvm.ClassFile.FieldType), Jvm.Cond.code ({ cls := "java/lang/AbstractStringBuilder", name := "inflateIfNeededFor", desc := "(Ljava/lang/String;)V" } : Jvm.MethodName) jdk_68_method_71_code (2 : Nat) (Option.none : Option Jvm.ClassFile.FieldType), Jvm.Cond.code ({ cls := "java/lang/String", name := "getBytes", desc := "([BIB)V" } : Jvm.MethodName) jdk_42_method_147_code (4 : Nat) (Option.none : Option Jvm.ClassFile.FieldType)]
set_option maxRecDepth 65536 in
theorem codes_eq : words1.filter isCode = codes1 := rfl
theorem w_codes : ∀ c ∈ words1.filter isCode, c.before args0 about1 = true := by
  rw [codes_eq]
  intro c hc
  simp only [codes1, List.mem_cons, List.not_mem_nil, or_false] at hc
  rcases hc with rfl | rfl | rfl | rfl | rfl | rfl | rfl | rfl | rfl | rfl | rfl | rfl | rfl | rfl | rfl | rfl | rfl | rfl | rfl | rfl | rfl | rfl | rfl | rfl | rfl | rfl | rfl | rfl | rfl | rfl | rfl | rfl | rfl | rfl | rfl | rfl | rfl | rfl | rfl | rfl | rfl | rfl | rfl | rfl | rfl | rfl | rfl | rfl | rfl | rfl | rfl | rfl | rfl | rfl | rfl | rfl | rfl | rfl | rfl | rfl | rfl | rfl | rfl | rfl | rfl | rfl | rfl
  · exact w_c0
  · exact w_c1
  · exact w_c2
  · exact w_c3
  · exact w_c4
  · exact w_c5
  · exact w_c6
  · exact w_c7
  · exact w_c8
  · exact w_c9
  · exact w_c10
  · exact w_c11
  · exact w_c12
  · exact w_c13
  · exact w_c14
  · exact w_c15
  · exact w_c16
  · exact w_c17
  · exact w_c18
  · exact w_c19
  · exact w_c20
  · exact w_c21
  · exact w_c22
  · exact w_c23
  · exact w_c24
  · exact w_c25
  · exact w_c26
  · exact w_c27
  · exact w_c28
  · exact w_c29
  · exact w_c30
  · exact w_c31
  · exact w_c32
  · exact w_c33
  · exact w_c34
  · exact w_c35
  · exact w_c36
  · exact w_c37
  · exact w_c38
  · exact w_c39
  · exact w_c40
  · exact w_c41
  · exact w_c42
  · exact w_c43
  · exact w_c44
  · exact w_c45
  · exact w_c46
  · exact w_c47
  · exact w_c48
  · exact w_c49
  · exact w_c50
  · exact w_c51
  · exact w_c52
  · exact w_c53
  · exact w_c54
  · exact w_c55
  · exact w_c56
  · exact w_c57
  · exact w_c58
  · exact w_c59
  · exact w_c60
  · exact w_c61
  · exact w_c62
  · exact w_c63
  · exact w_c64
  · exact w_c65
  · exact w_c66
set_option maxRecDepth 65536 in
theorem w_t1 : (words1.take 24).all (fun c => isCode c || c.before args0 about1) = true := by decide +kernel
set_option maxRecDepth 65536 in
theorem w_t2 : ((words1.drop 24).take 24).all (fun c => isCode c || c.before args0 about1) = true := by decide +kernel
set_option maxRecDepth 65536 in
theorem w_t3 : (((words1.drop 24).drop 24).take 24).all (fun c => isCode c || c.before args0 about1) = true := by decide +kernel
set_option maxRecDepth 65536 in
theorem w_t4 : ((((words1.drop 24).drop 24).drop 24).take 24).all (fun c => isCode c || c.before args0 about1) = true := by decide +kernel
set_option maxRecDepth 65536 in
theorem w_t5 : (((((words1.drop 24).drop 24).drop 24).drop 24).take 24).all (fun c => isCode c || c.before args0 about1) = true := by decide +kernel
set_option maxRecDepth 65536 in
theorem w_t6 : ((((((words1.drop 24).drop 24).drop 24).drop 24).drop 24).take 24).all (fun c => isCode c || c.before args0 about1) = true := by decide +kernel
set_option maxRecDepth 65536 in
theorem w_t7 : (((((((words1.drop 24).drop 24).drop 24).drop 24).drop 24).drop 24).take 24).all (fun c => isCode c || c.before args0 about1) = true := by decide +kernel
set_option maxRecDepth 65536 in
theorem w_t8 : ((((((((words1.drop 24).drop 24).drop 24).drop 24).drop 24).drop 24).drop 24).take 24).all (fun c => isCode c || c.before args0 about1) = true := by decide +kernel
set_option maxRecDepth 65536 in
theorem w_t9 : (((((((((words1.drop 24).drop 24).drop 24).drop 24).drop 24).drop 24).drop 24).drop 24).take 24).all (fun c => isCode c || c.before args0 about1) = true := by decide +kernel
set_option maxRecDepth 65536 in
theorem w_t10 : ((((((((((words1.drop 24).drop 24).drop 24).drop 24).drop 24).drop 24).drop 24).drop 24).drop 24).take 24).all (fun c => isCode c || c.before args0 about1) = true := by decide +kernel
set_option maxRecDepth 65536 in
theorem w_t11 : (((((((((((words1.drop 24).drop 24).drop 24).drop 24).drop 24).drop 24).drop 24).drop 24).drop 24).drop 24).take 24).all (fun c => isCode c || c.before args0 about1) = true := by decide +kernel
set_option maxRecDepth 65536 in
theorem w_t12 : ((((((((((((words1.drop 24).drop 24).drop 24).drop 24).drop 24).drop 24).drop 24).drop 24).drop 24).drop 24).drop 24).take 24).all (fun c => isCode c || c.before args0 about1) = true := by decide +kernel
set_option maxRecDepth 65536 in
theorem w_t13 : (((((((((((((words1.drop 24).drop 24).drop 24).drop 24).drop 24).drop 24).drop 24).drop 24).drop 24).drop 24).drop 24).drop 24).take 24).all (fun c => isCode c || c.before args0 about1) = true := by decide +kernel
set_option maxRecDepth 65536 in
theorem w_t14 : (((((((((((((words1.drop 24).drop 24).drop 24).drop 24).drop 24).drop 24).drop 24).drop 24).drop 24).drop 24).drop 24).drop 24).drop 24).all (fun c => isCode c || c.before args0 about1) = true := by decide +kernel
theorem w_tables : (allAtoms (Jvm.Cond.code x code maxLocals ret :: tables_1)).before args0 about1 = true := by
  rw [allAtoms_all]
  show words1.all (fun c => c.before args0 about1) = true
  refine all_split ?_ w_codes
  rw [← List.take_append_drop 24 words1, List.all_append, w_t1, ← List.take_append_drop 24 (words1.drop 24), List.all_append, w_t2, ← List.take_append_drop 24 ((words1.drop 24).drop 24), List.all_append, w_t3, ← List.take_append_drop 24 (((words1.drop 24).drop 24).drop 24), List.all_append, w_t4, ← List.take_append_drop 24 ((((words1.drop 24).drop 24).drop 24).drop 24), List.all_append, w_t5, ← List.take_append_drop 24 (((((words1.drop 24).drop 24).drop 24).drop 24).drop 24), List.all_append, w_t6, ← List.take_append_drop 24 ((((((words1.drop 24).drop 24).drop 24).drop 24).drop 24).drop 24), List.all_append, w_t7, ← List.take_append_drop 24 (((((((words1.drop 24).drop 24).drop 24).drop 24).drop 24).drop 24).drop 24), List.all_append, w_t8, ← List.take_append_drop 24 ((((((((words1.drop 24).drop 24).drop 24).drop 24).drop 24).drop 24).drop 24).drop 24), List.all_append, w_t9, ← List.take_append_drop 24 (((((((((words1.drop 24).drop 24).drop 24).drop 24).drop 24).drop 24).drop 24).drop 24).drop 24), List.all_append, w_t10, ← List.take_append_drop 24 ((((((((((words1.drop 24).drop 24).drop 24).drop 24).drop 24).drop 24).drop 24).drop 24).drop 24).drop 24), List.all_append, w_t11, ← List.take_append_drop 24 (((((((((((words1.drop 24).drop 24).drop 24).drop 24).drop 24).drop 24).drop 24).drop 24).drop 24).drop 24).drop 24), List.all_append, w_t12, ← List.take_append_drop 24 ((((((((((((words1.drop 24).drop 24).drop 24).drop 24).drop 24).drop 24).drop 24).drop 24).drop 24).drop 24).drop 24).drop 24), List.all_append, w_t13, w_t14]
  rfl
set_option maxRecDepth 65536 in
theorem w_rest : rest_1_c.before args0 about1 = true := by decide +kernel
set_option maxRecDepth 65536 in
theorem w_case : (Jvm.Cond.and given_1 narrow_1).before args0 about1 = true := by decide +kernel
set_option maxRecDepth 65536 in
theorem w_consts : constsHeld consts_1 about1 := Jvm.Lit.constsHeldB_iff.mp (by decide +kernel)
theorem w_applies : (headSpec (Jvm.Cond.code x code maxLocals ret :: tables_1) room_1).applies x e0.platform about1 = true :=
  (Spec.applies_iff w_frames).mpr ⟨w_running, w_runnable, w_alone, w_named, w_hears, w_ripe, w_room, w_tables⟩
theorem atStart : AtStart classFile x code maxLocals ret World_1 tables_1 room_1 Calls_1 rest_1 Pre_1 launch0 p0 e0 about1 theMethod args0 below0 :=
  ⟨lists_1, trivial, launch0.admits_env _ _ _, launch0.least_env, fairChoices_fair.cas, fairChoices_fair.clock, w_frames, w_args, w_heap, w_applies, ⟨w_consts, trivial⟩, w_rest, w_case⟩
end start1
theorem witness_1 : WitnessClaimed_1 := ⟨start1.p0, start1.e0, start1.about1, start1.theMethod, start1.args0, start1.below0, start1.atStart⟩
end Jvm.Pilot.@@N@@
