import JvmDerived
import JvmDerived.Pilot.@@N@@Statement
import JvmDerived.Pilot.@@N@@Code
set_option linter.unusedVariables false
set_option linter.unusedSimpArgs false
namespace Jvm.Pilot.@@N@@
open Jvm Jvm.ClassFile Sem Op Lib Jvm.Free Jvm.Stand Jvm.LawKit Jvm.RoadKit Bundle Jvm.Pilot.@@N@@.Jvm.D
/-! own layer: a small logic of triples over the library's Stand. Fd: a field's owner, name, descriptor, value; Ds: an object (class, fields) or an array (type, is its class known, is it over its component's class, values); En: an address, may it be written, what lies there. -/
abbrev Fd : Type := String × String × String × Value
abbrev Ds : Type := (String × List Fd) ⊕ (FieldType × Bool × Bool × List Value)
abbrev En : Type := Addr × Bool × Ds
abbrev eB (a : Addr) (vs : List Value) : En := (a, true, .inr (.byte, true, false, vs))
abbrev eC (a : Addr) (vs : List Value) : En := (a, true, .inr (.char, true, false, vs))
abbrev eI (a : Addr) (vs : List Value) : En := (a, true, .inr (.int, true, false, vs))
abbrev eJ (a : Addr) (vs : List Value) : En := (a, true, .inr (.long, true, false, vs))
abbrev eO (a : Addr) (vs : List Value) : En := (a, true, .inr (.object "java/lang/Object", true, true, vs))
abbrev Wd : Type := Launch × State × Array Value × Nat
abbrev Mt : Type := MethodName × ByteArray × Nat × Option FieldType × Room
abbrev Kx : Type := Program × Env × State × MethodId × Array Value × List Frame × Method × Code
def wL (W : Wd) : Launch := W.1
def wZ (W : Wd) : State := W.2.1
def wA (W : Wd) : Array Value := W.2.2.1
def wN (W : Wd) : Nat := W.2.2.2
def mN (M : Mt) : MethodName := M.1
def mC (M : Mt) : ByteArray := M.2.1
def mL (M : Mt) : Nat := M.2.2.1
def mT (M : Mt) : Option FieldType := M.2.2.2.1
def mR (M : Mt) : Room := M.2.2.2.2
def kP (K : Kx) : Program := K.1
def kE (K : Kx) : Env := K.2.1
def kS (K : Kx) : State := K.2.2.1
def kM (K : Kx) : MethodId := K.2.2.2.1
def kA (K : Kx) : Array Value := K.2.2.2.2.1
def kB (K : Kx) : List Frame := K.2.2.2.2.2.1
def kH (K : Kx) : Method := K.2.2.2.2.2.2.1
def kC (K : Kx) : Code := K.2.2.2.2.2.2.2
def fSl (Z : State) (f : Fd) : Nat := Jvm.RoadKit.slotOf Z f.1 f.2.1 f.2.2.1
def FdOk (Z : State) (h : Heap) (a : Addr) (f : Fd) : Prop := Fld Z h a f.1 f.2.1 f.2.2.1 f.2.2.2
def ArOk (Z : State) (h : Heap) (a : Addr) (ty : FieldType) (ex ov : Bool) (vs : List Value) : Prop := ∃ c : Cell, Arr Z h a c ty ∧ c.slots.toList = vs ∧ vs.length < 2 ^ 31 ∧ (∀ v ∈ vs, fits ty v = true) ∧ (ex = true → Exa Z h a ("[" ++ ty.toString)) ∧ (ov = true → ∀ C, ty = .object C → Ovr Z c.cls C)
def ObOk (Z : State) (h : Heap) (a : Addr) (C : String) (fs : List Fd) : Prop := Exa Z h a C ∧ (∀ f ∈ fs, FdOk Z h a f) ∧ (fs.map (fSl Z)).Nodup
def DsOk (Z : State) (h : Heap) (a : Addr) (D : Ds) : Prop := match D with
  | .inl (C, fs) => ObOk Z h a C fs
  | .inr (ty, ex, ov, vs) => ArOk Z h a ty ex ov vs
def Apart (x y : En) : Prop := (x.2.1 = false ∧ y.2.1 = false) ∨ x.1 ≠ y.1
def Hp (W : Wd) (h : Heap) (H : List En) : Prop := Old (wZ W) (wN W) h ∧ (∀ x ∈ H, (x.2.1 = true → wN W ≤ x.1) ∧ DsOk (wZ W) h x.1 x.2.2) ∧ H.Pairwise Apart
section HeapLaws
variable {Z : State} {h h' : Heap} {a b : Addr} {W : Wd} {H : List En} {D : Ds} {sl : Nat} {v : Value}
theorem DsOk.lt (F : DsOk Z h a D) : a < h.size := by
  match D, F with
  | .inl _, F => exact F.1.lt
  | .inr _, F => exact F.choose_spec.1.lt
theorem DsOk.ext (F : DsOk Z h a D) (E : Ext h h') : DsOk Z h' a D := by
  match D, F with
  | .inl _, F => exact ⟨F.1.ext E, fun f hf => Fld.ext E (F.2.1 f hf), F.2.2⟩
  | .inr _, ⟨c, h1, h2, h3, h4, h5, h6⟩ => exact ⟨c, h1.ext E, h2, h3, h4, fun q => (h5 q).ext E, h6⟩
theorem DsOk.other (F : DsOk Z h b D) (E : Wr h h' a sl v) (q : b ≠ a) : DsOk Z h' b D := by
  match D, F with
  | .inl _, F => exact ⟨F.1.wr E, fun f hf => Fld.other E (F.2.1 f hf) (Or.inl q), F.2.2⟩
  | .inr _, ⟨c, h1, h2, h3, h4, h5, h6⟩ => exact ⟨c, h1.other E q, h2, h3, h4, fun q => (h5 q).wr E, h6⟩
theorem DsOk.keep {ws : List Addr} (F : DsOk Z h b D) (E : Keep h h' ws) (q : b ∉ ws) : DsOk Z h' b D := by
  match D, F with
  | .inl _, F => exact ⟨F.1.keep E, fun f hf => Fld.keep (F.2.1 f hf) E q, F.2.2⟩
  | .inr _, ⟨c, h1, h2, h3, h4, h5, h6⟩ => exact ⟨c, ⟨E.2.1 _ _ h1.1 q, h1.2⟩, h2, h3, h4, fun q => (h5 q).keep E, h6⟩
theorem Hp.size (P : Hp W h H) : wN W ≤ h.size := by
  obtain ⟨⟨e1, e2⟩, -⟩ := P
  rw [← e1]; exact e2.1
theorem Hp.new (P : Hp W h H) (E : Ext h h') (F : DsOk (wZ W) h' h.size D) : Hp W h' ((h.size, true, D) :: H) := by
  refine ⟨P.1.ext E, fun x hx => ?_, List.pairwise_cons.mpr ⟨fun y hy => Or.inr ?_, P.2.2⟩⟩
  · rcases List.mem_cons.mp hx with rfl | hx
    · exact ⟨fun _ => P.size, F⟩
    · exact ⟨(P.2.1 x hx).1, (P.2.1 x hx).2.ext E⟩
  · have := (P.2.1 y hy).2.lt
    exact fun (e : h.size = y.1) => Nat.lt_irrefl y.1 (Nat.lt_of_lt_of_le this (Nat.le_of_eq e))
theorem Hp.apart (P : Hp W h H) {i j : Nat} {x y : En} (hi : H[i]? = some x) (hj : H[j]? = some y) (hne : i ≠ j) (hw : x.2.1 = true) : y.1 ≠ x.1 := by
  obtain ⟨li, rfl⟩ := List.getElem?_eq_some_iff.mp hi
  obtain ⟨lj, rfl⟩ := List.getElem?_eq_some_iff.mp hj
  have q := List.pairwise_iff_getElem.mp P.2.2
  rcases Nat.lt_or_gt_of_ne hne with g | g
  · rcases q i j li lj g with u | u
    · rw [hw] at u; exact absurd u.1 (by decide)
    · exact fun e => u e.symm
  · rcases q j i lj li g with u | u
    · rw [hw] at u; exact absurd u.2 (by decide)
    · exact u
/-- one entry is written: what else is known stays -/
theorem Hp.put (P : Hp W h H) {i : Nat} {D' : Ds} (hi : H[i]? = some (a, true, D)) (E : Wr h h' a sl v) (F : DsOk (wZ W) h' a D') : Hp W h' (H.set i (a, true, D')) := by
  have hm := List.mem_of_getElem? hi
  have hn := (P.2.1 _ hm).1 rfl
  refine ⟨P.1.wr E hn, fun x hx => ?_, ?_⟩
  · obtain ⟨j, hj⟩ := List.getElem?_of_mem hx
    by_cases e : i = j
    · subst e
      rw [List.getElem?_set_self (List.getElem?_eq_some_iff.mp hi).1] at hj
      cases hj
      exact ⟨fun _ => hn, F⟩
    · rw [List.getElem?_set_ne e] at hj
      have hx' := P.2.1 x (List.mem_of_getElem? hj)
      exact ⟨hx'.1, hx'.2.other E (P.apart hi hj e rfl)⟩
  · rw [List.pairwise_iff_getElem]
    intro j k hj hk hjk
    rw [List.length_set] at hj hk
    have q := (List.pairwise_iff_getElem.mp P.2.2) j k hj hk hjk
    obtain ⟨li, e⟩ := List.getElem?_eq_some_iff.mp hi
    rw [List.getElem_set, List.getElem_set]
    have fix : ∀ x : En, x = (a, true, D) → x.2.1 = true ∧ x.1 = a := fun x e => by subst e; exact ⟨rfl, rfl⟩
    obtain ⟨f1, f2⟩ := fix _ e
    split
    · rename_i e1
      subst e1
      split
      · rename_i e2; omega
      · rcases q with u | u
        · exact absurd (f1.symm.trans u.1) (by decide)
        · exact Or.inr (fun w => u (f2.trans w))
    · split
      · rename_i e2
        subst e2
        rcases q with u | u
        · exact absurd (f1.symm.trans u.2) (by decide)
        · exact Or.inr (fun w => u (w.trans f2.symm))
      · exact q
theorem Hp.sub (P : Hp W h H) {H' : List En} (q : H'.Sublist H) : Hp W h H' := ⟨P.1, fun x hx => P.2.1 x (q.subset hx), P.2.2.sublist q⟩
theorem Apart.symm {x y : En} (q : Apart x y) : Apart y x := q.elim (fun u => Or.inl ⟨u.2, u.1⟩) fun u => Or.inr fun e => u e.symm
theorem Hp.perm (P : Hp W h H) {H' : List En} (q : H.Perm H') : Hp W h H' := ⟨P.1, fun x hx => P.2.1 x (q.mem_iff.mpr hx), (List.Perm.pairwise_iff (fun {x y} (u : Apart x y) => u.symm) q).mp P.2.2⟩
theorem Hp.at (P : Hp W h H) {i : Nat} {w : Bool} (hi : H[i]? = some (a, w, D)) : DsOk (wZ W) h a D := (P.2.1 _ (List.mem_of_getElem? hi)).2
theorem nodup_slot {Z : State} {fs : List Fd} {i j : Nat} {f g : Fd} (P : (fs.map (fSl Z)).Nodup) (hi : fs[i]? = some f) (hj : fs[j]? = some g) (hne : i ≠ j) : fSl Z g ≠ fSl Z f := fun e => by
  obtain ⟨li, rfl⟩ := List.getElem?_eq_some_iff.mp hi
  obtain ⟨lj, rfl⟩ := List.getElem?_eq_some_iff.mp hj
  have q := List.pairwise_iff_getElem.mp P
  rcases Nat.lt_or_gt_of_ne hne with u | u
  · exact q i j (by simpa using li) (by simpa using lj) u (by simpa using e.symm)
  · exact q j i (by simpa using lj) (by simpa using li) u (by simpa using e)
theorem map_set_same {Z : State} {fs : List Fd} {j : Nat} {O n d : String} {old w : Value} (hj : fs[j]? = some (O, n, d, old)) : (fs.set j (O, n, d, w)).map (fSl Z) = fs.map (fSl Z) := by
  apply List.ext_getElem? 
  intro k
  rw [List.getElem?_map, List.getElem?_map]
  by_cases e : j = k
  · subst e
    rw [List.getElem?_set_self (List.getElem?_eq_some_iff.mp hj).1, hj]
    rfl
  · rw [List.getElem?_set_ne e]
theorem ObOk.put {C O n d : String} {fs : List Fd} {j : Nat} {old : Value} (F : ObOk Z h a C fs) (hj : fs[j]? = some (O, n, d, old)) (E : Wr h h' a (Jvm.RoadKit.slotOf Z O n d) v) : ObOk Z h' a C (fs.set j (O, n, d, v)) := by
  refine ⟨F.1.wr E, fun f hf => ?_, by rw [map_set_same hj]; exact F.2.2⟩
  obtain ⟨k, hk⟩ := List.getElem?_of_mem hf
  by_cases e : j = k
  · subst e
    rw [List.getElem?_set_self (List.getElem?_eq_some_iff.mp hj).1] at hk
    cases hk
    exact Fld.same E (show Fld Z h a O n d old from F.2.1 _ (List.mem_of_getElem? hj))
  · rw [List.getElem?_set_ne e] at hk
    exact Fld.other E (show Fld Z h a f.1 f.2.1 f.2.2.1 f.2.2.2 from F.2.1 _ (List.mem_of_getElem? hk)) (Or.inr (show fSl Z f ≠ fSl Z (O, n, d, old) from nodup_slot F.2.2 hj hk e))
theorem ArOk.put {ty : FieldType} {ex ov : Bool} {vs : List Value} {j : Int32} {k : Nat} (F : ArOk Z h a ty ex ov vs) (hk : j.toNatClampNeg = k) (hf : fits ty v = true) (E : Wr h h' a j.toNatClampNeg v) : ArOk Z h' a ty ex ov (vs.set k v) := by
  obtain ⟨c, h1, h2, h3, h4, h5, h6⟩ := F
  subst hk
  refine ⟨c.setSlot j.toNatClampNeg v, h1.same E, ?_, by rw [List.length_set]; exact h3, fun u hu => ?_, fun q => (h5 q).wr E, h6⟩
  · rw [← h2]; simp [Cell.setSlot]
  · rcases List.mem_or_eq_of_mem_set hu with q | q
    · exact h4 u q
    · rw [q]; exact hf
end HeapLaws
/-- the run stands in K's body, over the heap that H tells -/
def Std (W : Wd) (K : Kx) (M : Mt) (T : State) (H : List En) (c n : Nat) : Prop :=
  (kP K).tables.exec = Jvm.exec ∧ (wZ W).Warmed39 (kS K).vm ∧ (kS K).vm.findClass (mN M).cls = some (kM K).cls ∧ (kC K).code = mC M ∧ (kC K).maxLocals = mL M ∧ (kH K).sig.returnType = mT M ∧ (kH K).name = (mN M).name ∧ (kH K).locks = false ∧
  ∃ locs, Stand (kP K) (wL W) (kE K) (mR M) (kS K) (kM K) (kA K) (kB K) (kH K) (kC K) T locs c n ∧ Fr (wN W) locs ∧ Hp W T.heap H
def Fini (W : Wd) (K : Kx) (M : Mt) (Q : Option Value → List En → Prop) (U : State) : Prop :=
  ∃ o, U.status = .running ∧ Ended U (kB K) o ∧ ∃ v L, o = .returned v ∧ (Fr (wN W) L ∧ ∃ H', Hp W U.heap H' ∧ Q v H') ∧ FrameEnd (kS K) o U L (mR M).cells (mR M).slots
def Wp (W : Wd) (K : Kx) (M : Mt) (Q : Option Value → List En → Prop) (H : List En) (c n pc : Nat) (L : List Slot) (S : List Value) : Prop :=
  ∀ T, Std W K M T H c n → ∃ U, Steps (kP K).tables (kE K) (kB K) (T.setTop (mkF (kM K) pc L.toArray S)) U ∧ Fini W K M Q U
/-- what a method does, called with 'as' over the heap that H tells -/
def Ct (W : Wd) (M : Mt) (as : List Value) (H : List En) (Q : Option Value → List En → Prop) : Prop :=
  ∀ (ws : List Cond) (h0 : Heap), Hp W h0 H → MetFree (wL W) (mN M) (head1 (Cond.code (mN M) (mC M) (mL M) (mT M) :: ws) (mR M)) (fun a U => a = as.toArray ∧ (wZ W).Warmed39 U.vm ∧ U.heap = h0) (fun _ _ _ _ _ => True)
    (fun _ U o U' => ∃ v L, o = .returned v ∧ (Fr (wN W) L ∧ ∃ H', Hp W U'.heap H' ∧ Q v H') ∧ FrameEnd U o U' L (mR M).cells (mR M).slots)
def Dc (C : ByteArray) (pc : Nat) (i : Instr) (len pc' : Nat) : Prop := decode C pc = .ok (i, len) ∧ pc + len = pc'
def Bj (C : ByteArray) (pc : Nat) (i : Instr) (o : Int) (pc' pt : Nat) : Prop := decode C pc = .ok (i, 3) ∧ pc + 3 = pc' ∧ 0 ≤ (pc : Int) + o ∧ ((pc : Int) + o).toNat = pt
def Wok (W : Wd) (d : Cond) : Prop := d.before (wA W) (wZ W) = true
section Logic
variable {W : Wd} {K : Kx} {M : Mt} {Q : Option Value → List En → Prop} {H H' : List En} {c n pc pc' pt len : Nat} {L L' : List Slot} {S : List Value}
def slotsOf : List Value → List Slot
  | [] => []
  | v :: vs => if v.category = 2 then .val v :: .second :: slotsOf vs else .val v :: slotsOf vs
theorem slots_fold : ∀ (as : List Value) (acc : Array Slot), as.foldl (fun acc v => if v.category = 2 then (acc.push (.val v)).push .second else acc.push (.val v)) acc = acc ++ (slotsOf as).toArray
  | [], acc => by simp [slotsOf]
  | v :: vs, acc => by
    rw [List.foldl_cons, slots_fold vs]
    by_cases h : v.category = 2
    · simp [slotsOf, h]
    · simp [slotsOf, h]
theorem entry_eq (m : MethodId) (as : List Value) (ml : Nat) : entryFrame m as.toArray ml = mkF m 0 (slotsOf as ++ List.replicate (ml - (slotsOf as).length) Slot.unset).toArray [] := by
  have h : argsToLocals as.toArray ml = (slotsOf as ++ List.replicate (ml - (slotsOf as).length) Slot.unset).toArray := by
    simp [argsToLocals, slots_fold]
  unfold entryFrame
  rw [h]
theorem Ct.intro {as : List Value} {L0 : List Slot} (hp : plainFor (mN M) = true) (he : slotsOf as ++ List.replicate (mL M - (slotsOf as).length) Slot.unset = L0) (body : ∀ K, Wp W K M Q H 0 0 0 L0 []) : Ct W M as H Q := by
  intro ws h0 P
  refine MetFree.of_bodySF hp hisR ?_
  intro p e s m args below meth c s₁ Bd hml0 hP hK
  obtain ⟨rfl, hZ, hh⟩ := hP
  have e0 : s₁.heap = h0 := by rw [← hh, Bd.state]; rfl
  obtain ⟨U, st, o, h1, h2, h3⟩ := body (p, e, s, m, as.toArray, below, meth, c) s₁ ⟨Bd.exec, hZ, findClass_of_methodNamed Bd.named, Bd.bytes, hml0, Bd.returns, (name_of_methodNamed Bd.named Bd.method).1, Bd.notSynchronized, [], Stand.of_body Bd, Fr.nil _, by rw [e0]; exact P⟩
  exact ⟨U, o, castTop ((entry_eq m as (mL M)).trans (by rw [he]; rfl)) st, h1, h2, h3⟩
theorem Ct.mono {as : List Value} {Q' : Option Value → List En → Prop} (C : Ct W M as H Q) (q : ∀ v H', Q v H' → Q' v H') : Ct W M as H Q' := fun ws h0 P =>
  (C ws h0 P).mono (fun _ _ u => u) (fun _ _ _ _ _ u => u) (fun _ _ _ _ _ ⟨v, L, e1, ⟨e2, H', e3, e4⟩, e5⟩ => ⟨v, L, e1, ⟨e2, H', e3, q v H' e4⟩, e5⟩)
theorem Wp.mono {Q' : Option Value → List En → Prop} (k : Wp W K M Q H c n pc L S) (q : ∀ v H', Q v H' → Q' v H') : Wp W K M Q' H c n pc L S := fun T X => by
  obtain ⟨U, st, o, h1, h2, v, L, e1, ⟨e2, H', e3, e4⟩, e5⟩ := k T X
  exact ⟨U, st, o, h1, h2, v, L, e1, ⟨e2, H', e3, q v H' e4⟩, e5⟩
/-- a step that leaves the state -/
theorem Wp.go {S' : List Value} (st : ∀ T locs, Stand (kP K) (wL W) (kE K) (mR M) (kS K) (kM K) (kA K) (kB K) (kH K) (kC K) T locs c n → (kP K).tables.exec = Jvm.exec → (wZ W).Warmed39 (kS K).vm → (kS K).vm.findClass (mN M).cls = some (kM K).cls → (kC K).code = mC M → (kC K).maxLocals = mL M → Hp W T.heap H →
    ∀ t, Steps (kP K).tables (kE K) (kB K) (T.setTop (mkF (kM K) pc' L'.toArray S')) t → Steps (kP K).tables (kE K) (kB K) (T.setTop (mkF (kM K) pc L.toArray S)) t) (k : Wp W K M Q H c n pc' L' S') : Wp W K M Q H c n pc L S := fun T X => by
  obtain ⟨hx, hZ, ho, hb, hm, hr, hn, hl, locs, X, N, P⟩ := X
  obtain ⟨U, s1, s2⟩ := k T ⟨hx, hZ, ho, hb, hm, hr, hn, hl, locs, X, N, P⟩
  exact ⟨U, st T locs X hx hZ ho hb hm P _ s1, s2⟩
/-- a step that comes to another state -/
theorem Wp.to {S' : List Value} {c' n' : Nat} (st : ∀ T locs, Stand (kP K) (wL W) (kE K) (mR M) (kS K) (kM K) (kA K) (kB K) (kH K) (kC K) T locs c n → (kP K).tables.exec = Jvm.exec → (wZ W).Warmed39 (kS K).vm → (kS K).vm.findClass (mN M).cls = some (kM K).cls → (kC K).code = mC M → (kC K).maxLocals = mL M → (kH K).name = (mN M).name → Hp W T.heap H → Fr (wN W) locs →
    ∃ T' locs', Stand (kP K) (wL W) (kE K) (mR M) (kS K) (kM K) (kA K) (kB K) (kH K) (kC K) T' locs' c' n' ∧ Fr (wN W) locs' ∧ Hp W T'.heap H' ∧ ∀ t, Steps (kP K).tables (kE K) (kB K) (T'.setTop (mkF (kM K) pc' L'.toArray S')) t → Steps (kP K).tables (kE K) (kB K) (T.setTop (mkF (kM K) pc L.toArray S)) t) (k : Wp W K M Q H' c' n' pc' L' S') : Wp W K M Q H c n pc L S := fun T X => by
  obtain ⟨hx, hZ, ho, hb, hm, hr, hn, hl, locs, X, N, P⟩ := X
  obtain ⟨T', locs', X', N', P', s0⟩ := st T locs X hx hZ ho hb hm hn P N
  obtain ⟨U, s1, s2⟩ := k T' ⟨hx, hZ, ho, hb, hm, hr, hn, hl, locs', X', N', P'⟩
  exact ⟨U, s0 _ s1, s2⟩
theorem Wp.heap (q : H.Perm H') (k : Wp W K M Q H' c n pc L S) : Wp W K M Q H c n pc L S := fun T X => by
  obtain ⟨hx, hZ, ho, hb, hm, hr, hn, hl, locs, X, N, P⟩ := X
  exact k T ⟨hx, hZ, ho, hb, hm, hr, hn, hl, locs, X, N, P.perm q⟩
theorem Wp.less (q : H'.Sublist H) (k : Wp W K M Q H' c n pc L S) : Wp W K M Q H c n pc L S := fun T X => by
  obtain ⟨hx, hZ, ho, hb, hm, hr, hn, hl, locs, X, N, P⟩ := X
  exact k T ⟨hx, hZ, ho, hb, hm, hr, hn, hl, locs, X, N, P.sub q⟩
theorem Wp.room {c' n' : Nat} (q1 : c ≤ c') (q2 : n ≤ n') (k : Wp W K M Q H c' n' pc L S) : Wp W K M Q H c n pc L S := fun T X => by
  obtain ⟨hx, hZ, ho, hb, hm, hr, hn, hl, locs, X, N, P⟩ := X
  exact k T ⟨hx, hZ, ho, hb, hm, hr, hn, hl, locs, X.mono q1 q2, N, P⟩
theorem hbM {M : Mt} {c : Code} (h : c.code = mC M) {r : Except DecodeError (Instr × Nat)} (h2 : decode (mC M) pc = r) : decode c.code pc = r := by rw [h]; exact h2
theorem Wp.aloadN {k : Fin 4} {v : Value} (hl : L[k.val]? = some (.val v)) (hv : v.isRef = true) (hd : Dc (mC M) pc (.aload_n k) 1 pc') (k : Wp W K M Q H c n pc' L (v :: S)) : Wp W K M Q H c n pc L (S) := by
  obtain ⟨hd, rfl⟩ := hd
  exact Wp.go (fun T locs X hx _ ho hc _ _ t r => XS.aloadN X.here hx rfl (hbM hc hd) (by simpa using hl) hv r) k
theorem Wp.aload {k : Nat} {v : Value} (hl : L[k]? = some (.val v)) (hv : v.isRef = true) (hd : Dc (mC M) pc (.aload k) 2 pc') (k : Wp W K M Q H c n pc' L (v :: S)) : Wp W K M Q H c n pc L (S) := by
  obtain ⟨hd, rfl⟩ := hd
  exact Wp.go (fun T locs X hx _ ho hc _ _ t r => XS.aload X.here hx rfl (hbM hc hd) (by simpa using hl) hv r) k
theorem Wp.iloadN {k : Fin 4} {v : Int32} (hl : L[k.val]? = some (.val (.int v))) (hd : Dc (mC M) pc (.iload_n k) 1 pc') (k : Wp W K M Q H c n pc' L (.int v :: S)) : Wp W K M Q H c n pc L (S) := by
  obtain ⟨hd, rfl⟩ := hd
  exact Wp.go (fun T locs X hx _ ho hc _ _ t r => XS.iloadN X.here hx rfl (hbM hc hd) (by simpa using hl) r) k
theorem Wp.iload {k : Nat} {v : Int32} (hl : L[k]? = some (.val (.int v))) (hd : Dc (mC M) pc (.iload k) 2 pc') (k : Wp W K M Q H c n pc' L (.int v :: S)) : Wp W K M Q H c n pc L (S) := by
  obtain ⟨hd, rfl⟩ := hd
  exact Wp.go (fun T locs X hx _ ho hc _ _ t r => XS.iload X.here hx rfl (hbM hc hd) (by simpa using hl) r) k
theorem Wp.lloadN {k : Fin 4} {v : Int64} (hl : L[k.val]? = some (.val (.long v))) (hd : Dc (mC M) pc (.lload_n k) 1 pc') (k : Wp W K M Q H c n pc' L (.long v :: S)) : Wp W K M Q H c n pc L (S) := by
  obtain ⟨hd, rfl⟩ := hd
  exact Wp.go (fun T locs X hx _ ho hc _ _ t r => XT.lloadN X.here hx rfl (hbM hc hd) (by simpa using hl) r) k
theorem Wp.lload {k : Nat} {v : Int64} (hl : L[k]? = some (.val (.long v))) (hd : Dc (mC M) pc (.lload k) 2 pc') (k : Wp W K M Q H c n pc' L (.long v :: S)) : Wp W K M Q H c n pc L (S) := by
  obtain ⟨hd, rfl⟩ := hd
  exact Wp.go (fun T locs X hx _ ho hc _ _ t r => XT.lload X.here hx rfl (hbM hc hd) (by simpa using hl) r) k
theorem Wp.astoreN {k : Fin 4} {v : Value} (hv : v.isRef = true) (hl : storeLocals L.toArray k.val (v) = some L'.toArray) (hd : Dc (mC M) pc (.astore_n k) 1 pc') (k : Wp W K M Q H c n pc' L' (S)) : Wp W K M Q H c n pc L (v :: S) := by
  obtain ⟨hd, rfl⟩ := hd
  exact Wp.go (fun T locs X hx _ ho hc _ _ t r => XS.astoreN X.here hx rfl (hbM hc hd) rfl hv hl r) k
theorem Wp.astore {k : Nat} {v : Value} (hv : v.isRef = true) (hl : storeLocals L.toArray k (v) = some L'.toArray) (hd : Dc (mC M) pc (.astore k) 2 pc') (k : Wp W K M Q H c n pc' L' (S)) : Wp W K M Q H c n pc L (v :: S) := by
  obtain ⟨hd, rfl⟩ := hd
  exact Wp.go (fun T locs X hx _ ho hc _ _ t r => XS.astore X.here hx rfl (hbM hc hd) rfl hv hl r) k
theorem Wp.istoreN {k : Fin 4} {v : Int32} (hl : storeLocals L.toArray k.val (.int v) = some L'.toArray) (hd : Dc (mC M) pc (.istore_n k) 1 pc') (k : Wp W K M Q H c n pc' L' (S)) : Wp W K M Q H c n pc L (.int v :: S) := by
  obtain ⟨hd, rfl⟩ := hd
  exact Wp.go (fun T locs X hx _ ho hc _ _ t r => XS.istoreN X.here hx rfl (hbM hc hd) rfl hl r) k
theorem Wp.istore {k : Nat} {v : Int32} (hl : storeLocals L.toArray k (.int v) = some L'.toArray) (hd : Dc (mC M) pc (.istore k) 2 pc') (k : Wp W K M Q H c n pc' L' (S)) : Wp W K M Q H c n pc L (.int v :: S) := by
  obtain ⟨hd, rfl⟩ := hd
  exact Wp.go (fun T locs X hx _ ho hc _ _ t r => XS.istore X.here hx rfl (hbM hc hd) rfl hl r) k
theorem Wp.lstoreN {k : Fin 4} {v : Int64} (hl : storeLocals L.toArray k.val (.long v) = some L'.toArray) (hd : Dc (mC M) pc (.lstore_n k) 1 pc') (k : Wp W K M Q H c n pc' L' (S)) : Wp W K M Q H c n pc L (.long v :: S) := by
  obtain ⟨hd, rfl⟩ := hd
  exact Wp.go (fun T locs X hx _ ho hc _ _ t r => XT.lstoreN X.here hx rfl (hbM hc hd) rfl hl r) k
theorem Wp.lstore {k : Nat} {v : Int64} (hl : storeLocals L.toArray k (.long v) = some L'.toArray) (hd : Dc (mC M) pc (.lstore k) 2 pc') (k : Wp W K M Q H c n pc' L' (S)) : Wp W K M Q H c n pc L (.long v :: S) := by
  obtain ⟨hd, rfl⟩ := hd
  exact Wp.go (fun T locs X hx _ ho hc _ _ t r => XT.lstore X.here hx rfl (hbM hc hd) rfl hl r) k
theorem Wp.iinc {k : Nat} {i : Int} {x z : Int32} (hl : L[k]? = some (.val (.int x))) (hz : x + Int32.ofInt i = z) (hs : storeLocals L.toArray k (.int z) = some L'.toArray) (hd : Dc (mC M) pc (.iinc k i) 3 pc') (k : Wp W K M Q H c n pc' L' (S)) : Wp W K M Q H c n pc L (S) := by
  obtain ⟨hd, rfl⟩ := hd
  exact Wp.go (fun T locs X hx _ ho hc _ _ t r => XS.iinc X.here hx rfl (hbM hc hd) (by simpa using hl) (hz ▸ hs) r) k
theorem Wp.iconst {i : Int} {z : Int32} (hz : Int32.ofInt i = z) (hd : Dc (mC M) pc (.iconst i) 1 pc') (k : Wp W K M Q H c n pc' L (.int z :: S)) : Wp W K M Q H c n pc L (S) := by
  obtain ⟨hd, rfl⟩ := hd
  exact Wp.go (fun T locs X hx _ ho hc _ _ t r => XS.iconst X.here hx rfl (hbM hc hd) (hz ▸ r)) k
theorem Wp.bipush {i : Int} {z : Int32} (hz : (Int8.ofInt i).toInt32 = z) (hd : Dc (mC M) pc (.bipush i) 2 pc') (k : Wp W K M Q H c n pc' L (.int z :: S)) : Wp W K M Q H c n pc L (S) := by
  obtain ⟨hd, rfl⟩ := hd
  exact Wp.go (fun T locs X hx _ ho hc _ _ t r => XS.bipush X.here hx rfl (hbM hc hd) (hz ▸ r)) k
theorem Wp.sipush {i : Int} {z : Int32} (hz : (Int16.ofInt i).toInt32 = z) (hd : Dc (mC M) pc (.sipush i) 3 pc') (k : Wp W K M Q H c n pc' L (.int z :: S)) : Wp W K M Q H c n pc L (S) := by
  obtain ⟨hd, rfl⟩ := hd
  exact Wp.go (fun T locs X hx _ ho hc _ _ t r => XS.sipush X.here hx rfl (hbM hc hd) (hz ▸ r)) k
theorem Wp.aconstNull  (hd : Dc (mC M) pc .aconst_null 1 pc') (k : Wp W K M Q H c n pc' L (.null :: S)) : Wp W K M Q H c n pc L (S) := by
  obtain ⟨hd, rfl⟩ := hd
  exact Wp.go (fun T locs X hx _ ho hc _ _ t r => XS.aconstNull X.here hx rfl (hbM hc hd) r) k
theorem Wp.lconst {k : Fin 2} {z : Int64} (hz : Int64.ofNat k = z) (hd : Dc (mC M) pc (.lconst k) 1 pc') (k : Wp W K M Q H c n pc' L (.long z :: S)) : Wp W K M Q H c n pc L (S) := by
  obtain ⟨hd, rfl⟩ := hd
  exact Wp.go (fun T locs X hx _ ho hc _ _ t r => XT.lconst X.here hx rfl (hbM hc hd) (hz ▸ r)) k
theorem Wp.ldcI {y0 : MethodName} (hM : mN M = y0) {i : Nat} {z : Int32} (w : Wok W (.constant y0.cls i z)) (hd : Dc (mC M) pc (.ldc i) 2 pc') (k : Wp W K M Q H c n pc' L (.int z :: S)) : Wp W K M Q H c n pc L (S) := by
  subst hM
  obtain ⟨hd, rfl⟩ := hd
  exact Wp.go (fun T locs X hx h0 ho hc _ _ t r => ldcI X hx ho (mvT h0 w) rfl (hbM hc hd) r) k
theorem Wp.ldcWI {y0 : MethodName} (hM : mN M = y0) {i : Nat} {z : Int32} (w : Wok W (.constant y0.cls i z)) (hd : Dc (mC M) pc (.ldc_w i) 3 pc') (k : Wp W K M Q H c n pc' L (.int z :: S)) : Wp W K M Q H c n pc L (S) := by
  subst hM
  obtain ⟨hd, rfl⟩ := hd
  exact Wp.go (fun T locs X hx h0 ho hc _ _ t r => ldcWI X hx ho (mvT h0 w) rfl (hbM hc hd) r) k
theorem Wp.ldc2J {y0 : MethodName} (hM : mN M = y0) {i : Nat} {z : Int64} (w : Wok W (.constantLong y0.cls i z)) (hd : Dc (mC M) pc (.ldc2_w i) 3 pc') (k : Wp W K M Q H c n pc' L (.long z :: S)) : Wp W K M Q H c n pc L (S) := by
  subst hM
  obtain ⟨hd, rfl⟩ := hd
  exact Wp.go (fun T locs X hx h0 ho hc _ _ t r => ldc2J X hx ho (mvT h0 w) rfl (hbM hc hd) r) k
theorem Wp.iadd {x y z : Int32} (hz : x + y = z) (hd : Dc (mC M) pc .iadd 1 pc') (k : Wp W K M Q H c n pc' L (.int z :: S)) : Wp W K M Q H c n pc L (.int y :: .int x :: S) := by
  obtain ⟨hd, rfl⟩ := hd
  exact Wp.go (fun T locs X hx _ ho hc _ _ t r => XS.iadd X.here hx rfl (hbM hc hd) rfl (hz ▸ r)) k
theorem Wp.isub {x y z : Int32} (hz : x - y = z) (hd : Dc (mC M) pc .isub 1 pc') (k : Wp W K M Q H c n pc' L (.int z :: S)) : Wp W K M Q H c n pc L (.int y :: .int x :: S) := by
  obtain ⟨hd, rfl⟩ := hd
  exact Wp.go (fun T locs X hx _ ho hc _ _ t r => XS.isub X.here hx rfl (hbM hc hd) rfl (hz ▸ r)) k
theorem Wp.imul {x y z : Int32} (hz : x * y = z) (hd : Dc (mC M) pc .imul 1 pc') (k : Wp W K M Q H c n pc' L (.int z :: S)) : Wp W K M Q H c n pc L (.int y :: .int x :: S) := by
  obtain ⟨hd, rfl⟩ := hd
  exact Wp.go (fun T locs X hx _ ho hc _ _ t r => XS.imul X.here hx rfl (hbM hc hd) rfl (hz ▸ r)) k
theorem Wp.iand {x y z : Int32} (hz : x &&& y = z) (hd : Dc (mC M) pc .iand 1 pc') (k : Wp W K M Q H c n pc' L (.int z :: S)) : Wp W K M Q H c n pc L (.int y :: .int x :: S) := by
  obtain ⟨hd, rfl⟩ := hd
  exact Wp.go (fun T locs X hx _ ho hc _ _ t r => XS.iand X.here hx rfl (hbM hc hd) rfl (hz ▸ r)) k
theorem Wp.ior {x y z : Int32} (hz : x ||| y = z) (hd : Dc (mC M) pc .ior 1 pc') (k : Wp W K M Q H c n pc' L (.int z :: S)) : Wp W K M Q H c n pc L (.int y :: .int x :: S) := by
  obtain ⟨hd, rfl⟩ := hd
  exact Wp.go (fun T locs X hx _ ho hc _ _ t r => XT.ior X.here hx rfl (hbM hc hd) rfl (hz ▸ r)) k
theorem Wp.ixor {x y z : Int32} (hz : x ^^^ y = z) (hd : Dc (mC M) pc .ixor 1 pc') (k : Wp W K M Q H c n pc' L (.int z :: S)) : Wp W K M Q H c n pc L (.int y :: .int x :: S) := by
  obtain ⟨hd, rfl⟩ := hd
  exact Wp.go (fun T locs X hx _ ho hc _ _ t r => XT.ixor X.here hx rfl (hbM hc hd) rfl (hz ▸ r)) k
theorem Wp.ishl {x y z : Int32} (hz : x <<< (y &&& 31) = z) (hd : Dc (mC M) pc .ishl 1 pc') (k : Wp W K M Q H c n pc' L (.int z :: S)) : Wp W K M Q H c n pc L (.int y :: .int x :: S) := by
  obtain ⟨hd, rfl⟩ := hd
  exact Wp.go (fun T locs X hx _ ho hc _ _ t r => XT.ishl X.here hx rfl (hbM hc hd) rfl (hz ▸ r)) k
theorem Wp.ishr {x y z : Int32} (hz : x >>> (y &&& 31) = z) (hd : Dc (mC M) pc .ishr 1 pc') (k : Wp W K M Q H c n pc' L (.int z :: S)) : Wp W K M Q H c n pc L (.int y :: .int x :: S) := by
  obtain ⟨hd, rfl⟩ := hd
  exact Wp.go (fun T locs X hx _ ho hc _ _ t r => XT.ishr X.here hx rfl (hbM hc hd) rfl (hz ▸ r)) k
theorem Wp.iushr {x y z : Int32} (hz : Jvm.Free.XT.ushr x y = z) (hd : Dc (mC M) pc .iushr 1 pc') (k : Wp W K M Q H c n pc' L (.int z :: S)) : Wp W K M Q H c n pc L (.int y :: .int x :: S) := by
  obtain ⟨hd, rfl⟩ := hd
  exact Wp.go (fun T locs X hx _ ho hc _ _ t r => XT.iushr X.here hx rfl (hbM hc hd) rfl (hz ▸ r)) k
theorem Wp.idiv {x y z : Int32} (hy : y ≠ 0) (hz : x / y = z) (hd : Dc (mC M) pc .idiv 1 pc') (k : Wp W K M Q H c n pc' L (.int z :: S)) : Wp W K M Q H c n pc L (.int y :: .int x :: S) := by
  obtain ⟨hd, rfl⟩ := hd
  exact Wp.go (fun T locs X hx _ ho hc _ _ t r => XS.idiv X.here hx rfl (hbM hc hd) rfl hy (hz ▸ r)) k
theorem Wp.irem {x y z : Int32} (hy : y ≠ 0) (hz : x % y = z) (hd : Dc (mC M) pc .irem 1 pc') (k : Wp W K M Q H c n pc' L (.int z :: S)) : Wp W K M Q H c n pc L (.int y :: .int x :: S) := by
  obtain ⟨hd, rfl⟩ := hd
  exact Wp.go (fun T locs X hx _ ho hc _ _ t r => iremM X hx rfl (hbM hc hd) rfl hy (hz ▸ r)) k
theorem Wp.ineg {x z : Int32} (hz : -x = z) (hd : Dc (mC M) pc .ineg 1 pc') (k : Wp W K M Q H c n pc' L (.int z :: S)) : Wp W K M Q H c n pc L (.int x :: S) := by
  obtain ⟨hd, rfl⟩ := hd
  exact Wp.go (fun T locs X hx _ ho hc _ _ t r => XS.ineg X.here hx rfl (hbM hc hd) rfl (hz ▸ r)) k
theorem Wp.i2b {x z : Int32} (hz : x.toInt8.toInt32 = z) (hd : Dc (mC M) pc .i2b 1 pc') (k : Wp W K M Q H c n pc' L (.int z :: S)) : Wp W K M Q H c n pc L (.int x :: S) := by
  obtain ⟨hd, rfl⟩ := hd
  exact Wp.go (fun T locs X hx _ ho hc _ _ t r => XT.i2b X.here hx rfl (hbM hc hd) rfl (hz ▸ r)) k
theorem Wp.i2c {x z : Int32} (hz : x.toUInt32.toUInt16.toUInt32.toInt32 = z) (hd : Dc (mC M) pc .i2c 1 pc') (k : Wp W K M Q H c n pc' L (.int z :: S)) : Wp W K M Q H c n pc L (.int x :: S) := by
  obtain ⟨hd, rfl⟩ := hd
  exact Wp.go (fun T locs X hx _ ho hc _ _ t r => XT.i2c X.here hx rfl (hbM hc hd) rfl (hz ▸ r)) k
theorem Wp.i2s {x z : Int32} (hz : x.toInt16.toInt32 = z) (hd : Dc (mC M) pc .i2s 1 pc') (k : Wp W K M Q H c n pc' L (.int z :: S)) : Wp W K M Q H c n pc L (.int x :: S) := by
  obtain ⟨hd, rfl⟩ := hd
  exact Wp.go (fun T locs X hx _ ho hc _ _ t r => XT.i2s X.here hx rfl (hbM hc hd) rfl (hz ▸ r)) k
theorem Wp.i2l {x : Int32} {z : Int64} (hz : x.toInt64 = z) (hd : Dc (mC M) pc .i2l 1 pc') (k : Wp W K M Q H c n pc' L (.long z :: S)) : Wp W K M Q H c n pc L (.int x :: S) := by
  obtain ⟨hd, rfl⟩ := hd
  exact Wp.go (fun T locs X hx _ ho hc _ _ t r => XT.i2l X.here hx rfl (hbM hc hd) rfl (hz ▸ r)) k
theorem Wp.l2i {x : Int64} {z : Int32} (hz : x.toInt32 = z) (hd : Dc (mC M) pc .l2i 1 pc') (k : Wp W K M Q H c n pc' L (.int z :: S)) : Wp W K M Q H c n pc L (.long x :: S) := by
  obtain ⟨hd, rfl⟩ := hd
  exact Wp.go (fun T locs X hx _ ho hc _ _ t r => XT.l2i X.here hx rfl (hbM hc hd) rfl (hz ▸ r)) k
theorem Wp.ladd {x y z : Int64} (hz : x + y = z) (hd : Dc (mC M) pc .ladd 1 pc') (k : Wp W K M Q H c n pc' L (.long z :: S)) : Wp W K M Q H c n pc L (.long y :: .long x :: S) := by
  obtain ⟨hd, rfl⟩ := hd
  exact Wp.go (fun T locs X hx _ ho hc _ _ t r => XT.ladd X.here hx rfl (hbM hc hd) rfl (hz ▸ r)) k
theorem Wp.lsub {x y z : Int64} (hz : x - y = z) (hd : Dc (mC M) pc .lsub 1 pc') (k : Wp W K M Q H c n pc' L (.long z :: S)) : Wp W K M Q H c n pc L (.long y :: .long x :: S) := by
  obtain ⟨hd, rfl⟩ := hd
  exact Wp.go (fun T locs X hx _ ho hc _ _ t r => XT.lsub X.here hx rfl (hbM hc hd) rfl (hz ▸ r)) k
theorem Wp.lmul {x y z : Int64} (hz : x * y = z) (hd : Dc (mC M) pc .lmul 1 pc') (k : Wp W K M Q H c n pc' L (.long z :: S)) : Wp W K M Q H c n pc L (.long y :: .long x :: S) := by
  obtain ⟨hd, rfl⟩ := hd
  exact Wp.go (fun T locs X hx _ ho hc _ _ t r => XT.lmul X.here hx rfl (hbM hc hd) rfl (hz ▸ r)) k
theorem Wp.land {x y z : Int64} (hz : x &&& y = z) (hd : Dc (mC M) pc .land 1 pc') (k : Wp W K M Q H c n pc' L (.long z :: S)) : Wp W K M Q H c n pc L (.long y :: .long x :: S) := by
  obtain ⟨hd, rfl⟩ := hd
  exact Wp.go (fun T locs X hx _ ho hc _ _ t r => XT.land X.here hx rfl (hbM hc hd) rfl (hz ▸ r)) k
theorem Wp.lor {x y z : Int64} (hz : x ||| y = z) (hd : Dc (mC M) pc .lor 1 pc') (k : Wp W K M Q H c n pc' L (.long z :: S)) : Wp W K M Q H c n pc L (.long y :: .long x :: S) := by
  obtain ⟨hd, rfl⟩ := hd
  exact Wp.go (fun T locs X hx _ ho hc _ _ t r => XT.lor X.here hx rfl (hbM hc hd) rfl (hz ▸ r)) k
theorem Wp.lxor {x y z : Int64} (hz : x ^^^ y = z) (hd : Dc (mC M) pc .lxor 1 pc') (k : Wp W K M Q H c n pc' L (.long z :: S)) : Wp W K M Q H c n pc L (.long y :: .long x :: S) := by
  obtain ⟨hd, rfl⟩ := hd
  exact Wp.go (fun T locs X hx _ ho hc _ _ t r => XT.lxor X.here hx rfl (hbM hc hd) rfl (hz ▸ r)) k
theorem Wp.ldiv {x y z : Int64} (hy : y ≠ 0) (hz : x / y = z) (hd : Dc (mC M) pc .ldiv 1 pc') (k : Wp W K M Q H c n pc' L (.long z :: S)) : Wp W K M Q H c n pc L (.long y :: .long x :: S) := by
  obtain ⟨hd, rfl⟩ := hd
  exact Wp.go (fun T locs X hx _ ho hc _ _ t r => XT.ldiv X.here hx rfl (hbM hc hd) rfl hy (hz ▸ r)) k
theorem Wp.lrem {x y z : Int64} (hy : y ≠ 0) (hz : x - (x / y) * y = z) (hd : Dc (mC M) pc .lrem 1 pc') (k : Wp W K M Q H c n pc' L (.long z :: S)) : Wp W K M Q H c n pc L (.long y :: .long x :: S) := by
  obtain ⟨hd, rfl⟩ := hd
  exact Wp.go (fun T locs X hx _ ho hc _ _ t r => XT.lrem X.here hx rfl (hbM hc hd) rfl hy (hz ▸ r)) k
theorem Wp.lneg {x z : Int64} (hz : -x = z) (hd : Dc (mC M) pc .lneg 1 pc') (k : Wp W K M Q H c n pc' L (.long z :: S)) : Wp W K M Q H c n pc L (.long x :: S) := by
  obtain ⟨hd, rfl⟩ := hd
  exact Wp.go (fun T locs X hx _ ho hc _ _ t r => XT.lneg X.here hx rfl (hbM hc hd) rfl (hz ▸ r)) k
theorem Wp.lshl {x : Int64} {y : Int32} {z : Int64} (hz : x <<< (y.toInt64 &&& 63) = z) (hd : Dc (mC M) pc .lshl 1 pc') (k : Wp W K M Q H c n pc' L (.long z :: S)) : Wp W K M Q H c n pc L (.int y :: .long x :: S) := by
  obtain ⟨hd, rfl⟩ := hd
  exact Wp.go (fun T locs X hx _ ho hc _ _ t r => XT.lshl X.here hx rfl (hbM hc hd) rfl (hz ▸ r)) k
theorem Wp.lshr {x : Int64} {y : Int32} {z : Int64} (hz : x >>> (y.toInt64 &&& 63) = z) (hd : Dc (mC M) pc .lshr 1 pc') (k : Wp W K M Q H c n pc' L (.long z :: S)) : Wp W K M Q H c n pc L (.int y :: .long x :: S) := by
  obtain ⟨hd, rfl⟩ := hd
  exact Wp.go (fun T locs X hx _ ho hc _ _ t r => XT.lshr X.here hx rfl (hbM hc hd) rfl (hz ▸ r)) k
theorem Wp.lushr {x : Int64} {y : Int32} {z : Int64} (hz : Jvm.Free.XT.ushrL x y = z) (hd : Dc (mC M) pc .lushr 1 pc') (k : Wp W K M Q H c n pc' L (.long z :: S)) : Wp W K M Q H c n pc L (.int y :: .long x :: S) := by
  obtain ⟨hd, rfl⟩ := hd
  exact Wp.go (fun T locs X hx _ ho hc _ _ t r => XT.lushr X.here hx rfl (hbM hc hd) rfl (hz ▸ r)) k
theorem Wp.lcmp {x y : Int64} {z : Int32} (hz : Jvm.Free.XT.cmpL x y = z) (hd : Dc (mC M) pc .lcmp 1 pc') (k : Wp W K M Q H c n pc' L (.int z :: S)) : Wp W K M Q H c n pc L (.long y :: .long x :: S) := by
  obtain ⟨hd, rfl⟩ := hd
  exact Wp.go (fun T locs X hx _ ho hc _ _ t r => XT.lcmp X.here hx rfl (hbM hc hd) rfl (hz ▸ r)) k
theorem Wp.pop {x : Value} (hc1 : x.category = 1) (hd : Dc (mC M) pc .pop 1 pc') (k : Wp W K M Q H c n pc' L (S)) : Wp W K M Q H c n pc L (x :: S) := by
  obtain ⟨hd, rfl⟩ := hd
  exact Wp.go (fun T locs X hx _ ho hc _ _ t r => XT.pop X.here hx rfl (hbM hc hd) rfl hc1 r) k
theorem Wp.dup {x : Value} (hc1 : x.category = 1) (hd : Dc (mC M) pc .dup 1 pc') (k : Wp W K M Q H c n pc' L (x :: x :: S)) : Wp W K M Q H c n pc L (x :: S) := by
  obtain ⟨hd, rfl⟩ := hd
  exact Wp.go (fun T locs X hx _ ho hc _ _ t r => XS.dup X.here hx rfl (hbM hc hd) rfl hc1 r) k
theorem Wp.dupX1 {x y : Value} (hc1 : x.category = 1) (hc2 : y.category = 1) (hd : Dc (mC M) pc .dup_x1 1 pc') (k : Wp W K M Q H c n pc' L (x :: y :: x :: S)) : Wp W K M Q H c n pc L (x :: y :: S) := by
  obtain ⟨hd, rfl⟩ := hd
  exact Wp.go (fun T locs X hx _ ho hc _ _ t r => XT.dupX1 X.here hx rfl (hbM hc hd) rfl hc1 hc2 r) k
theorem Wp.dup2 {x y : Value} (hc1 : x.category = 1) (hc2 : y.category = 1) (hd : Dc (mC M) pc .dup2 1 pc') (k : Wp W K M Q H c n pc' L (x :: y :: x :: y :: S)) : Wp W K M Q H c n pc L (x :: y :: S) := by
  obtain ⟨hd, rfl⟩ := hd
  exact Wp.go (fun T locs X hx _ ho hc _ _ t r => XT.dup2 X.here hx rfl (hbM hc hd) rfl hc1 hc2 r) k
theorem Wp.dup2L {x : Int64} (hd : Dc (mC M) pc .dup2 1 pc') (k : Wp W K M Q H c n pc' L (.long x :: .long x :: S)) : Wp W K M Q H c n pc L (.long x :: S) := by
  obtain ⟨hd, rfl⟩ := hd
  exact Wp.go (fun T locs X hx _ ho hc _ _ t r => XT.dup2L X.here hx rfl (hbM hc hd) rfl r) k
theorem Wp.icT {cd : ClassFile.Cond} {x y : Int32} (hq : if_icmp.holds cd x y = true) {o : Int} (hd : Bj (mC M) pc (.if_icmp cd o) o pc' pt) (k : Wp W K M Q H c n pt L S) : Wp W K M Q H c n pc L (.int y :: .int x :: S) := by
  obtain ⟨hd, -, h1, h2⟩ := hd
  exact Wp.go (fun T locs X hx _ ho hc _ _ t r => XS.icmpYes X.here hx rfl rfl (hbM hc hd) rfl hq h1 h2 r) k
theorem Wp.icF {cd : ClassFile.Cond} {x y : Int32} (hq : if_icmp.holds cd x y = false) {o : Int} (hd : Bj (mC M) pc (.if_icmp cd o) o pc' pt) (k : Wp W K M Q H c n pc' L S) : Wp W K M Q H c n pc L (.int y :: .int x :: S) := by
  obtain ⟨hd, rfl, -, -⟩ := hd
  exact Wp.go (fun T locs X hx _ ho hc _ _ t r => XS.icmpNo X.here hx rfl (hbM hc hd) rfl hq r) k
theorem Wp.ifT {cd : ClassFile.Cond} {x : Int32} (hq : if_icmp.holds cd x 0 = true) {o : Int} (hd : Bj (mC M) pc (.ifCond cd o) o pc' pt) (k : Wp W K M Q H c n pt L S) : Wp W K M Q H c n pc L (.int x :: S) := by
  obtain ⟨hd, -, h1, h2⟩ := hd
  exact Wp.go (fun T locs X hx _ ho hc _ _ t r => XS.ifYes X.here hx rfl rfl (hbM hc hd) rfl ((if0 _ _).trans hq) h1 h2 r) k
theorem Wp.ifF {cd : ClassFile.Cond} {x : Int32} (hq : if_icmp.holds cd x 0 = false) {o : Int} (hd : Bj (mC M) pc (.ifCond cd o) o pc' pt) (k : Wp W K M Q H c n pc' L S) : Wp W K M Q H c n pc L (.int x :: S) := by
  obtain ⟨hd, rfl, -, -⟩ := hd
  exact Wp.go (fun T locs X hx _ ho hc _ _ t r => XS.ifNo X.here hx rfl (hbM hc hd) rfl ((if0 _ _).trans hq) r) k
theorem Wp.acT {cd : ACond} {x y : Value} (hx1 : x.isRef = true) (hy1 : y.isRef = true) (hq : Jvm.Free.XT.acmp cd x y = true) {o : Int} (hd : Bj (mC M) pc (.if_acmp cd o) o pc' pt) (k : Wp W K M Q H c n pt L S) : Wp W K M Q H c n pc L (y :: x :: S) := by
  obtain ⟨hd, -, h1, h2⟩ := hd
  exact Wp.go (fun T locs X hx _ ho hc _ _ t r => XT.acmpYes X.here hx rfl rfl (hbM hc hd) rfl hx1 hy1 hq h1 h2 r) k
theorem Wp.acF {cd : ACond} {x y : Value} (hx1 : x.isRef = true) (hy1 : y.isRef = true) (hq : Jvm.Free.XT.acmp cd x y = false) {o : Int} (hd : Bj (mC M) pc (.if_acmp cd o) o pc' pt) (k : Wp W K M Q H c n pc' L S) : Wp W K M Q H c n pc L (y :: x :: S) := by
  obtain ⟨hd, rfl, -, -⟩ := hd
  exact Wp.go (fun T locs X hx _ ho hc _ _ t r => XT.acmpNo X.here hx rfl (hbM hc hd) rfl hx1 hy1 hq r) k
theorem Wp.ifnullT  {o : Int} (hd : Bj (mC M) pc (.ifnull o) o pc' pt) (k : Wp W K M Q H c n pt L S) : Wp W K M Q H c n pc L (.null :: S) := by
  obtain ⟨hd, -, h1, h2⟩ := hd
  exact Wp.go (fun T locs X hx _ ho hc _ _ t r => XS.ifnullYes X.here hx rfl rfl (hbM hc hd) rfl h1 h2 r) k
theorem Wp.ifnullF {b : Addr} {o : Int} (hd : Bj (mC M) pc (.ifnull o) o pc' pt) (k : Wp W K M Q H c n pc' L S) : Wp W K M Q H c n pc L (.ref b :: S) := by
  obtain ⟨hd, rfl, -, -⟩ := hd
  exact Wp.go (fun T locs X hx _ ho hc _ _ t r => XS.ifnullNo X.here hx rfl (hbM hc hd) rfl r) k
theorem Wp.ifnonnullT {b : Addr} {o : Int} (hd : Bj (mC M) pc (.ifnonnull o) o pc' pt) (k : Wp W K M Q H c n pt L S) : Wp W K M Q H c n pc L (.ref b :: S) := by
  obtain ⟨hd, -, h1, h2⟩ := hd
  exact Wp.go (fun T locs X hx _ ho hc _ _ t r => XT.ifnonnullYes X.here hx rfl rfl (hbM hc hd) rfl h1 h2 r) k
theorem Wp.ifnonnullF  {o : Int} (hd : Bj (mC M) pc (.ifnonnull o) o pc' pt) (k : Wp W K M Q H c n pc' L S) : Wp W K M Q H c n pc L (.null :: S) := by
  obtain ⟨hd, rfl, -, -⟩ := hd
  exact Wp.go (fun T locs X hx _ ho hc _ _ t r => XT.ifnonnullNo X.here hx rfl (hbM hc hd) rfl r) k
theorem Wp.goto {o : Int} (hd : Bj (mC M) pc (.goto o) o pc' pt) (k : Wp W K M Q H c n pt L S) : Wp W K M Q H c n pc L S := by
  obtain ⟨hd, -, h1, h2⟩ := hd
  exact Wp.go (fun T locs X hx _ ho hc _ _ t r => XS.goto X.here hx rfl rfl (hbM hc hd) h1 h2 r) k
-- heap reads
theorem Wp.getF {y0 : MethodName} (hM : mN M = y0) {R0 O nm d host : String} {idx : Nat} (w : Wok W (.fieldLink y0.cls idx R0 nm d) ∨ Wok W (.fieldLinkNest y0.cls idx R0 nm d host)) (via : Via (wZ W) R0 O nm d) {a : Addr} {rw : Bool} {C : String} {fs : List Fd} {v : Value} (i j : Nat) (hi : H[i]? = some (a, rw, .inl (C, fs))) (hj : fs[j]? = some (O, nm, d, v))
    (hd : Dc (mC M) pc (.getfield idx) 3 pc') (k : Wp W K M Q H c n pc' L (v :: S)) : Wp W K M Q H c n pc L (.ref a :: S) := by
  subst hM
  obtain ⟨hd, rfl⟩ := hd
  exact Wp.to (fun T locs X hx hZ ho hc _ _ P N => by
    have F : ObOk (wZ W) T.heap a C fs := P.at hi
    obtain ⟨T', X', e', st⟩ := Jvm.RoadKit.getF X hx hZ ho w via rfl (F.2.1 _ (List.mem_of_getElem? hj)) (g := mkF (kM K) pc L.toArray (.ref a :: S)) rfl rfl (hbM hc hd)
    exact ⟨T', locs, X', N, by rw [e']; exact P, st⟩) k
theorem Wp.putF {y0 : MethodName} (hM : mN M = y0) {R0 O nm d host : String} {idx kk : Nat} {ty : FieldType} (w : Wok W (.fieldLink y0.cls idx R0 nm d) ∨ Wok W (.fieldLinkNest y0.cls idx R0 nm d host)) (via : Via (wZ W) R0 O nm d) {a : Addr} {C : String} {fs : List Fd} {v old : Value} (i j : Nat) (hi : H[i]? = some (a, true, .inl (C, fs))) (hj : fs[j]? = some (O, nm, d, old))
    (la : Wok W (.lays C O nm d) ∨ (Wok W (.laysFinal C O nm d) ∧ y0.cls = O ∧ y0.name = "<init>")) (wi : Wok W (.instantiable C kk)) (hty : parseFieldDescriptor d = some ty) (hn : narrow ty v = v) (hf : fits ty v = true)
    (hd : Dc (mC M) pc (.putfield idx) 3 pc') (hH : H.set i (a, true, .inl (C, fs.set j (O, nm, d, v))) = H') (k : Wp W K M Q H' c n pc' L S) : Wp W K M Q H c n pc L (v :: .ref a :: S) := by
  subst hM
  obtain ⟨hd, rfl⟩ := hd
  subst hH
  exact Wp.to (fun T locs X hx hZ ho hc _ hnm P N => by
    have F : ObOk (wZ W) T.heap a C fs := P.at hi
    obtain ⟨T', h', X', e', E, st⟩ := Jvm.RoadKit.putF X hx hZ ho w via rfl (F.2.1 _ (List.mem_of_getElem? hj)) F.1 (la.imp id fun u => ⟨u.1, u.2.1, hnm.trans u.2.2⟩) wi hty hn hf (g := mkF (kM K) pc L.toArray (v :: .ref a :: S)) rfl rfl (hbM hc hd)
    exact ⟨T', _, X', Fr.snoc X' N ((P.2.1 _ (List.mem_of_getElem? hi)).1 rfl), by rw [e']; exact P.put hi E (F.put hj E), st⟩) k
theorem Wp.putFN {y0 : MethodName} (hM : mN M = y0) {R0 O nm d : String} {idx kk : Nat} {ty : FieldType} (w : Wok W (.fieldLink y0.cls idx R0 nm d)) (via : Via (wZ W) R0 O nm d) {a : Addr} {C : String} {fs : List Fd} {v v' old : Value} (i j : Nat) (hi : H[i]? = some (a, true, .inl (C, fs))) (hj : fs[j]? = some (O, nm, d, old))
    (la : Wok W (.lays C O nm d) ∨ (Wok W (.laysFinal C O nm d) ∧ y0.cls = O ∧ y0.name = "<init>")) (wi : Wok W (.instantiable C kk)) (hty : parseFieldDescriptor d = some ty) (hn : narrow ty v = v') (hf : fits ty v' = true)
    (hd : Dc (mC M) pc (.putfield idx) 3 pc') (hH : H.set i (a, true, .inl (C, fs.set j (O, nm, d, v'))) = H') (k : Wp W K M Q H' c n pc' L S) : Wp W K M Q H c n pc L (v :: .ref a :: S) := by
  subst hM
  obtain ⟨hd, rfl⟩ := hd
  subst hH
  exact Wp.to (fun T locs X hx hZ ho hc _ hnm P N => by
    have F : ObOk (wZ W) T.heap a C fs := P.at hi
    obtain ⟨T', h', X', e', E, st⟩ := Jvm.RoadKit.putFN X hx hZ ho w via rfl (F.2.1 _ (List.mem_of_getElem? hj)) F.1 (la.imp id fun u => ⟨u.1, u.2.1, hnm.trans u.2.2⟩) wi hty hn hf (g := mkF (kM K) pc L.toArray (v :: .ref a :: S)) rfl rfl (hbM hc hd)
    exact ⟨T', _, X', Fr.snoc X' N ((P.2.1 _ (List.mem_of_getElem? hi)).1 rfl), by rw [e']; exact P.put hi E (F.put hj E), st⟩) k
theorem Wp.getS {y0 : MethodName} (hM : mN M = y0) {R0 O nm d : String} {idx : Nat} (w : Wok W (.fieldLink y0.cls idx R0 nm d)) (via : Via (wZ W) R0 O nm d) {v : Value} (F : Sta (wZ W) (wZ W).heap O nm d v) (hd : Dc (mC M) pc (.getstatic idx) 3 pc') (k : Wp W K M Q H c n pc' L (v :: S)) : Wp W K M Q H c n pc L S := by
  subst hM
  obtain ⟨hd, rfl⟩ := hd
  exact Wp.to (fun T locs X hx hZ ho hc _ _ P N => by
    obtain ⟨T', X', e', st⟩ := Jvm.RoadKit.getS X hx hZ (host := "") ho w via rfl (F.ext P.1.2) (g := mkF (kM K) pc L.toArray S) rfl (hbM hc hd)
    exact ⟨T', locs, X', N, by rw [e']; exact P, st⟩) k
-- new objects and arrays
def NewFs (W : Wd) (C : String) (fs : List Fd) : Prop := (∀ f ∈ fs, ∃ ty, Laid (wZ W) (wA W) C f.1 f.2.1 f.2.2.1 ∧ parseFieldDescriptor f.2.2.1 = some ty ∧ f.2.2.2 = defaultValue ty) ∧ (fs.map fun f => f.2.1).Nodup
theorem NewFs.nil {C : String} : NewFs W C [] := ⟨fun _ q => (nomatch q), List.nodup_nil⟩
theorem NewFs.cons {C O nm d : String} {ty : FieldType} {v : Value} {fs : List Fd} (la : Laid (wZ W) (wA W) C O nm d) (ht : parseFieldDescriptor d = some ty) (hv : v = defaultValue ty) (hn : nm ∉ fs.map fun f => f.2.1) (r : NewFs W C fs) : NewFs W C ((O, nm, d, v) :: fs) :=
  ⟨fun f hf => (List.mem_cons.mp hf).elim (fun e => e ▸ ⟨ty, la, ht, hv⟩) (r.1 f), List.nodup_cons.mpr ⟨hn, r.2⟩⟩
theorem NewFs.slots {C : String} : ∀ {fs : List Fd}, NewFs W C fs → (fs.map (fSl (wZ W))).Nodup
  | [], _ => List.nodup_nil
  | f :: fs, r => by
    have hn := List.nodup_cons.mp (show (f.2.1 :: fs.map fun f => f.2.1).Nodup from r.2)
    refine List.nodup_cons.mpr ⟨fun q => ?_, NewFs.slots ⟨fun g hg => r.1 g (List.mem_cons_of_mem _ hg), hn.2⟩⟩
    obtain ⟨g, hg, e⟩ := List.mem_map.mp q
    obtain ⟨t1, l1, p1, -⟩ := r.1 f List.mem_cons_self
    obtain ⟨t2, l2, p2, -⟩ := r.1 g (List.mem_cons_of_mem _ hg)
    have ne : f.2.1 ≠ g.2.1 := fun e => hn.1 (e ▸ List.mem_map.mpr ⟨g, hg, rfl⟩)
    exact Jvm.RoadKit.slot_ne l1 l2 ne p1 p2 e.symm
theorem Wp.newO {y0 : MethodName} (hM : mN M = y0) {C : String} {idx kk : Nat} {fs : List Fd} (w : Wok W (.classLink y0.cls idx C)) (wi : Wok W (.instantiable C kk)) (wz : Wok W (.initialized C)) (hfs : NewFs W C fs) (hc1 : c + 1 ≤ (mR M).cells) (hl1 : n + kk ≤ (mR M).slots)
    (hd : Dc (mC M) pc (.new idx) 3 pc') (k : ∀ a : Addr, Wp W K M Q ((a, true, .inl (C, fs)) :: H) (c + 1) (n + kk) pc' L (.ref a :: S)) : Wp W K M Q H c n pc L S := by
  subst hM
  obtain ⟨hd, rfl⟩ := hd
  exact fun T X => by
    obtain ⟨hx, hZ, ho, hb, hm, hr, hn, hl, locs, X, N, P⟩ := X
    obtain ⟨T', h', X', e', E, A, D, -, st⟩ := Jvm.RoadKit.newO X hx hZ ho w wi wz rfl (g := mkF (kM K) pc L.toArray S) rfl (hbM hb hd) hc1 hl1
    have F : DsOk (wZ W) h' T.heap.size (.inl (C, fs)) := ⟨A, fun f hf => by
      obtain ⟨ty, l1, l2, l3⟩ := hfs.1 f hf
      show Fld (wZ W) h' T.heap.size f.1 f.2.1 f.2.2.1 f.2.2.2
      rw [l3]; exact D l1 l2, hfs.slots⟩
    obtain ⟨U, s1, s2⟩ := k T.heap.size T' ⟨hx, hZ, ho, hb, hm, hr, hn, hl, locs, X', N, by rw [e']; exact P.new E F⟩
    exact ⟨U, st _ s1, s2⟩
theorem def_fits (ty : FieldType) : fits ty (defaultValue ty) = true := by cases ty <;> first | decide | rfl
theorem arNew {Z : State} {h : Heap} {a : Addr} {cA : ClassId} {ty : FieldType} {z : Int32} {kk : Nat} (A : Arr Z h a (newA cA ty z) ty) (hz : z.toNatClampNeg = kk) (ex ov : Bool) (h1 : ex = true → Exa Z h a ("[" ++ ty.toString)) (h2 : ov = true → ∀ C, ty = .object C → Ovr Z cA C) : ArOk Z h a ty ex ov (List.replicate kk (defaultValue ty)) := by
  subst hz
  refine ⟨_, A, by simp [newA], ?_, fun v hv => by rw [List.eq_of_mem_replicate hv]; exact def_fits ty, h1, h2⟩
  rw [List.length_replicate]
  have := Int32.toNatClampNeg_lt z
  omega
theorem Wp.newP {aty : ArrayType} {z : Int32} {kk : Nat} {vs : List Value} (hd : Dc (mC M) pc (.newarray aty) 2 pc') (w : Wok W (.arrayClass (newarray.typeOf aty))) (hz : z.toNatClampNeg = kk) (h0 : ¬ z < 0) (hb8 : kk * 8 ≤ 536870912) (hc1 : c + 1 ≤ (mR M).cells) (hl1 : n + kk ≤ (mR M).slots) (hv : List.replicate kk (defaultValue (newarray.typeOf aty)) = vs)
    (k : ∀ a : Addr, Wp W K M Q ((a, true, .inr (newarray.typeOf aty, true, false, vs)) :: H) (c + 1) (n + kk) pc' L (.ref a :: S)) : Wp W K M Q H c n pc L (.int z :: S) := by
  obtain ⟨hd, rfl⟩ := hd
  subst hv
  exact fun T X => by
    obtain ⟨hx, hZ, ho, hb, hm, hr, hn, hl, locs, X, N, P⟩ := X
    obtain ⟨T', h', cA, X', e', E, A, B, st⟩ := Jvm.RoadKit.newPE X hx hZ w rfl (g := mkF (kM K) pc L.toArray (.int z :: S)) rfl (hbM hb hd) rfl h0 (Nat.le_of_eq hz) hb8 hc1 hl1 (ad := _) rfl
    obtain ⟨U, s1, s2⟩ := k T.heap.size T' ⟨hx, hZ, ho, hb, hm, hr, hn, hl, locs, X', N, by rw [e']; exact P.new E (arNew A hz true false (fun _ => B) (fun q => nomatch q))⟩
    exact ⟨U, st _ s1, s2⟩
theorem Wp.newR {y0 : MethodName} (hM : mN M = y0) {C : String} {idx : Nat} {z : Int32} {kk : Nat} {vs : List Value} (w : Wok W (.classLink y0.cls idx C)) (w2 : Wok W (.arrayOver (.object C))) (hz : z.toNatClampNeg = kk) (h0 : ¬ z < 0) (hb8 : kk * 8 ≤ 536870912) (hc1 : c + 1 ≤ (mR M).cells) (hl1 : n + kk ≤ (mR M).slots) (hv : List.replicate kk Value.null = vs)
    (hd : Dc (mC M) pc (.anewarray idx) 3 pc') (k : ∀ a : Addr, Wp W K M Q ((a, true, .inr (.object C, true, true, vs)) :: H) (c + 1) (n + kk) pc' L (.ref a :: S)) : Wp W K M Q H c n pc L (.int z :: S) := by
  subst hM
  obtain ⟨hd, rfl⟩ := hd
  subst hv
  exact fun T X => by
    obtain ⟨hx, hZ, ho, hb, hm, hr, hn, hl, locs, X, N, P⟩ := X
    obtain ⟨T', h', cA, X', e', E, A, B, O, st⟩ := Jvm.RoadKit.newRE X hx hZ ho w w2 rfl (g := mkF (kM K) pc L.toArray (.int z :: S)) rfl (hbM hb hd) rfl h0 (Nat.le_of_eq hz) hb8 hc1 hl1 (ad := _) rfl
    obtain ⟨U, s1, s2⟩ := k T.heap.size T' ⟨hx, hZ, ho, hb, hm, hr, hn, hl, locs, X', N, by rw [e']; exact P.new E (arNew A hz true true (fun _ => B) (fun _ C' e => by cases e; exact O))⟩
    exact ⟨U, st _ s1, s2⟩
-- arrays read and written
theorem ArOk.inb {Z : State} {c : Cell} {vs : List Value} {j : Int32} {k : Nat} {v : Value} (e : c.slots.toList = vs) (hj : ¬ j < 0) (hk : j.toNatClampNeg = k) (hv : vs[k]? = some v) : ¬ (j < 0 ∨ c.slots.size ≤ j.toNatClampNeg) ∧ c.slots[j.toNatClampNeg]? = some v := by
  subst hk e
  rw [Array.getElem?_toList] at hv
  refine ⟨fun q => q.elim hj fun q => ?_, hv⟩
  rw [Array.getElem?_eq_none q] at hv
  cases hv
theorem Wp.alen {a : Addr} {rw ex ov : Bool} {ty : FieldType} {vs : List Value} {z : Int32} (i : Nat) (hi : H[i]? = some (a, rw, .inr (ty, ex, ov, vs))) (hz : vs.length.toInt32 = z) (hd : Dc (mC M) pc .arraylength 1 pc') (k : Wp W K M Q H c n pc' L (.int z :: S)) : Wp W K M Q H c n pc L (.ref a :: S) := by
  obtain ⟨hd, rfl⟩ := hd
  exact Wp.go (fun T locs X hx hZ ho hc _ P t r => by
    obtain ⟨cl, h1, h2, -⟩ : ArOk (wZ W) T.heap a ty ex ov vs := P.at hi
    refine X.arraylength hx h1.1 (State.isArrayOf_alike hZ.alike h1.2.1) (g := mkF (kM K) pc L.toArray (.ref a :: S)) rfl rfl (hbM hc hd) _ ?_
    have e : cl.slots.size.toInt32 = z := by rw [← hz, ← h2]; rfl
    rw [e]; exact r) k
theorem Wp.iaload {a : Addr} {rw ex ov : Bool} {vs : List Value} {j : Int32} {v : Value} (i kk : Nat) (hi : H[i]? = some (a, rw, .inr (.int, ex, ov, vs))) (hj : ¬ j < 0) (hk : j.toNatClampNeg = kk) (hv : vs[kk]? = some v) (hd : Dc (mC M) pc .iaload 1 pc') (k : Wp W K M Q H c n pc' L (v :: S)) : Wp W K M Q H c n pc L (.int j :: .ref a :: S) := by
  obtain ⟨hd, rfl⟩ := hd
  exact Wp.go (fun T locs X hx hZ ho hc _ P t r => by
    obtain ⟨cl, h1, h2, -⟩ : ArOk (wZ W) T.heap a .int ex ov vs := P.at hi
    obtain ⟨g1, g2⟩ := ArOk.inb (Z := wZ W) h2 hj hk hv
    exact X.iaload hx h1.1 (State.isArrayOf_alike hZ.alike h1.2.1) h1.2.2 g1 g2 (g := mkF (kM K) pc L.toArray (.int j :: .ref a :: S)) rfl rfl (hbM hc hd) _ r) k
theorem Wp.laload {a : Addr} {rw ex ov : Bool} {vs : List Value} {j : Int32} {v : Value} (i kk : Nat) (hi : H[i]? = some (a, rw, .inr (.long, ex, ov, vs))) (hj : ¬ j < 0) (hk : j.toNatClampNeg = kk) (hv : vs[kk]? = some v) (hd : Dc (mC M) pc .laload 1 pc') (k : Wp W K M Q H c n pc' L (v :: S)) : Wp W K M Q H c n pc L (.int j :: .ref a :: S) := by
  obtain ⟨hd, rfl⟩ := hd
  exact Wp.go (fun T locs X hx hZ ho hc _ P t r => by
    obtain ⟨cl, h1, h2, -⟩ : ArOk (wZ W) T.heap a .long ex ov vs := P.at hi
    obtain ⟨g1, g2⟩ := ArOk.inb (Z := wZ W) h2 hj hk hv
    exact X.laload hx h1.1 (State.isArrayOf_alike hZ.alike h1.2.1) h1.2.2 g1 g2 (g := mkF (kM K) pc L.toArray (.int j :: .ref a :: S)) rfl rfl (hbM hc hd) _ r) k
theorem Wp.caload {a : Addr} {rw ex ov : Bool} {vs : List Value} {j : Int32} {v : Value} (i kk : Nat) (hi : H[i]? = some (a, rw, .inr (.char, ex, ov, vs))) (hj : ¬ j < 0) (hk : j.toNatClampNeg = kk) (hv : vs[kk]? = some v) (hd : Dc (mC M) pc .caload 1 pc') (k : Wp W K M Q H c n pc' L (v :: S)) : Wp W K M Q H c n pc L (.int j :: .ref a :: S) := by
  obtain ⟨hd, rfl⟩ := hd
  exact Wp.go (fun T locs X hx hZ ho hc _ P t r => by
    obtain ⟨cl, h1, h2, -⟩ : ArOk (wZ W) T.heap a .char ex ov vs := P.at hi
    obtain ⟨g1, g2⟩ := ArOk.inb (Z := wZ W) h2 hj hk hv
    exact X.caload hx h1.1 (State.isArrayOf_alike hZ.alike h1.2.1) h1.2.2 g1 g2 (g := mkF (kM K) pc L.toArray (.int j :: .ref a :: S)) rfl rfl (hbM hc hd) _ r) k
theorem Wp.saload {a : Addr} {rw ex ov : Bool} {vs : List Value} {j : Int32} {v : Value} (i kk : Nat) (hi : H[i]? = some (a, rw, .inr (.short, ex, ov, vs))) (hj : ¬ j < 0) (hk : j.toNatClampNeg = kk) (hv : vs[kk]? = some v) (hd : Dc (mC M) pc .saload 1 pc') (k : Wp W K M Q H c n pc' L (v :: S)) : Wp W K M Q H c n pc L (.int j :: .ref a :: S) := by
  obtain ⟨hd, rfl⟩ := hd
  exact Wp.go (fun T locs X hx hZ ho hc _ P t r => by
    obtain ⟨cl, h1, h2, -⟩ : ArOk (wZ W) T.heap a .short ex ov vs := P.at hi
    obtain ⟨g1, g2⟩ := ArOk.inb (Z := wZ W) h2 hj hk hv
    exact X.saload hx h1.1 (State.isArrayOf_alike hZ.alike h1.2.1) h1.2.2 g1 g2 (g := mkF (kM K) pc L.toArray (.int j :: .ref a :: S)) rfl rfl (hbM hc hd) _ r) k
theorem Wp.baload {a : Addr} {rw ex ov : Bool} {vs : List Value} {j : Int32} {v : Value} (i kk : Nat) (hi : H[i]? = some (a, rw, .inr (.byte, ex, ov, vs))) (hj : ¬ j < 0) (hk : j.toNatClampNeg = kk) (hv : vs[kk]? = some v) (hd : Dc (mC M) pc .baload 1 pc') (k : Wp W K M Q H c n pc' L (v :: S)) : Wp W K M Q H c n pc L (.int j :: .ref a :: S) := by
  obtain ⟨hd, rfl⟩ := hd
  exact Wp.go (fun T locs X hx hZ ho hc _ P t r => by
    obtain ⟨cl, h1, h2, -⟩ : ArOk (wZ W) T.heap a .byte ex ov vs := P.at hi
    obtain ⟨g1, g2⟩ := ArOk.inb (Z := wZ W) h2 hj hk hv
    exact X.baloadBytes hx h1.1 (State.isArrayOf_alike hZ.alike h1.2.1) h1.2.2 g1 g2 (g := mkF (kM K) pc L.toArray (.int j :: .ref a :: S)) rfl rfl (hbM hc hd) _ r) k
theorem Wp.baloadZ {a : Addr} {rw ex ov : Bool} {vs : List Value} {j : Int32} {v : Value} (i kk : Nat) (hi : H[i]? = some (a, rw, .inr (.boolean, ex, ov, vs))) (hj : ¬ j < 0) (hk : j.toNatClampNeg = kk) (hv : vs[kk]? = some v) (hd : Dc (mC M) pc .baload 1 pc') (k : Wp W K M Q H c n pc' L (v :: S)) : Wp W K M Q H c n pc L (.int j :: .ref a :: S) := by
  obtain ⟨hd, rfl⟩ := hd
  exact Wp.go (fun T locs X hx hZ ho hc _ P t r => by
    obtain ⟨cl, h1, h2, -⟩ : ArOk (wZ W) T.heap a .boolean ex ov vs := P.at hi
    obtain ⟨g1, g2⟩ := ArOk.inb (Z := wZ W) h2 hj hk hv
    exact X.baloadBooleans hx h1.1 (State.isArrayOf_alike hZ.alike h1.2.1) h1.2.2 g1 g2 (g := mkF (kM K) pc L.toArray (.int j :: .ref a :: S)) rfl rfl (hbM hc hd) _ r) k
theorem Wp.aaload {a : Addr} {rw ex ov : Bool} {ty : FieldType} {vs : List Value} {j : Int32} {v : Value} (i kk : Nat) (hi : H[i]? = some (a, rw, .inr (ty, ex, ov, vs))) (hty : ty.isReference = true) (hj : ¬ j < 0) (hk : j.toNatClampNeg = kk) (hv : vs[kk]? = some v) (hd : Dc (mC M) pc .aaload 1 pc') (k : Wp W K M Q H c n pc' L (v :: S)) : Wp W K M Q H c n pc L (.int j :: .ref a :: S) := by
  obtain ⟨hd, rfl⟩ := hd
  exact Wp.go (fun T locs X hx hZ ho hc _ P t r => by
    obtain ⟨cl, h1, h2, -⟩ : ArOk (wZ W) T.heap a ty ex ov vs := P.at hi
    obtain ⟨g1, g2⟩ := ArOk.inb (Z := wZ W) h2 hj hk hv
    exact X.aaload hx h1.1 (State.isArrayOf_alike hZ.alike h1.2.1) hty h1.2.2 g1 g2 (g := mkF (kM K) pc L.toArray (.int j :: .ref a :: S)) rfl rfl (hbM hc hd) _ r) k
theorem Wp.castore {a : Addr} {ex ov : Bool} {vs : List Value} {j : Int32} {x : Int32} {z : Int32} (i kk : Nat) (hi : H[i]? = some (a, true, .inr (.char, ex, ov, vs))) (hj : ¬ j < 0) (hk : j.toNatClampNeg = kk) (hl : kk < vs.length) (hz : nar .char x = z) (hd : Dc (mC M) pc .castore 1 pc') (hH : H.set i (a, true, .inr (.char, ex, ov, vs.set kk (.int z))) = H') (k : Wp W K M Q H' c n pc' L S) : Wp W K M Q H c n pc L (.int x :: .int j :: .ref a :: S) := by
  obtain ⟨hd, rfl⟩ := hd
  subst hH hz
  exact Wp.to (fun T locs X hx hZ ho hc _ hnm P N => by
    have F : ArOk (wZ W) T.heap a .char ex ov vs := P.at hi
    obtain ⟨cl, h1, h2, -⟩ := id F
    obtain ⟨g1, -⟩ := ArOk.inb (Z := wZ W) h2 hj hk (List.getElem?_eq_getElem hl)
    obtain ⟨T', h', X', e', E, st⟩ := Jvm.RoadKit.stC X hx hZ rfl h1 g1 (g := mkF (kM K) pc L.toArray (.int x :: .int j :: .ref a :: S)) rfl rfl (hbM hc hd)
    exact ⟨T', _, X', Fr.snoc X' N ((P.2.1 _ (List.mem_of_getElem? hi)).1 rfl), by rw [e']; exact P.put hi E (F.put hk (fits_nar_char x) E), st⟩) k
theorem Wp.sastore {a : Addr} {ex ov : Bool} {vs : List Value} {j : Int32} {x : Int32} {z : Int32} (i kk : Nat) (hi : H[i]? = some (a, true, .inr (.short, ex, ov, vs))) (hj : ¬ j < 0) (hk : j.toNatClampNeg = kk) (hl : kk < vs.length) (hz : nar .short x = z) (hd : Dc (mC M) pc .sastore 1 pc') (hH : H.set i (a, true, .inr (.short, ex, ov, vs.set kk (.int z))) = H') (k : Wp W K M Q H' c n pc' L S) : Wp W K M Q H c n pc L (.int x :: .int j :: .ref a :: S) := by
  obtain ⟨hd, rfl⟩ := hd
  subst hH hz
  exact Wp.to (fun T locs X hx hZ ho hc _ hnm P N => by
    have F : ArOk (wZ W) T.heap a .short ex ov vs := P.at hi
    obtain ⟨cl, h1, h2, -⟩ := id F
    obtain ⟨g1, -⟩ := ArOk.inb (Z := wZ W) h2 hj hk (List.getElem?_eq_getElem hl)
    obtain ⟨T', h', X', e', E, st⟩ := Jvm.RoadKit.stS X hx hZ rfl h1 g1 (g := mkF (kM K) pc L.toArray (.int x :: .int j :: .ref a :: S)) rfl rfl (hbM hc hd)
    exact ⟨T', _, X', Fr.snoc X' N ((P.2.1 _ (List.mem_of_getElem? hi)).1 rfl), by rw [e']; exact P.put hi E (F.put hk (fits_nar_short x) E), st⟩) k
theorem Wp.bastore {a : Addr} {ex ov : Bool} {vs : List Value} {j : Int32} {x : Int32} {z : Int32} (i kk : Nat) (hi : H[i]? = some (a, true, .inr (.byte, ex, ov, vs))) (hj : ¬ j < 0) (hk : j.toNatClampNeg = kk) (hl : kk < vs.length) (hz : nar .byte x = z) (hd : Dc (mC M) pc .bastore 1 pc') (hH : H.set i (a, true, .inr (.byte, ex, ov, vs.set kk (.int z))) = H') (k : Wp W K M Q H' c n pc' L S) : Wp W K M Q H c n pc L (.int x :: .int j :: .ref a :: S) := by
  obtain ⟨hd, rfl⟩ := hd
  subst hH hz
  exact Wp.to (fun T locs X hx hZ ho hc _ hnm P N => by
    have F : ArOk (wZ W) T.heap a .byte ex ov vs := P.at hi
    obtain ⟨cl, h1, h2, -⟩ := id F
    obtain ⟨g1, -⟩ := ArOk.inb (Z := wZ W) h2 hj hk (List.getElem?_eq_getElem hl)
    obtain ⟨T', h', X', e', E, st⟩ := Jvm.RoadKit.stB X hx hZ rfl h1 g1 (g := mkF (kM K) pc L.toArray (.int x :: .int j :: .ref a :: S)) rfl rfl (hbM hc hd)
    exact ⟨T', _, X', Fr.snoc X' N ((P.2.1 _ (List.mem_of_getElem? hi)).1 rfl), by rw [e']; exact P.put hi E (F.put hk (fits_nar_byte x) E), st⟩) k
theorem Wp.bastoreZ {a : Addr} {ex ov : Bool} {vs : List Value} {j : Int32} {x : Int32} {z : Int32} (i kk : Nat) (hi : H[i]? = some (a, true, .inr (.boolean, ex, ov, vs))) (hj : ¬ j < 0) (hk : j.toNatClampNeg = kk) (hl : kk < vs.length) (hz : nar .boolean x = z) (hd : Dc (mC M) pc .bastore 1 pc') (hH : H.set i (a, true, .inr (.boolean, ex, ov, vs.set kk (.int z))) = H') (k : Wp W K M Q H' c n pc' L S) : Wp W K M Q H c n pc L (.int x :: .int j :: .ref a :: S) := by
  obtain ⟨hd, rfl⟩ := hd
  subst hH hz
  exact Wp.to (fun T locs X hx hZ ho hc _ hnm P N => by
    have F : ArOk (wZ W) T.heap a .boolean ex ov vs := P.at hi
    obtain ⟨cl, h1, h2, -⟩ := id F
    obtain ⟨g1, -⟩ := ArOk.inb (Z := wZ W) h2 hj hk (List.getElem?_eq_getElem hl)
    obtain ⟨T', h', X', e', E, st⟩ := Jvm.RoadKit.stZ X hx hZ rfl h1 g1 (g := mkF (kM K) pc L.toArray (.int x :: .int j :: .ref a :: S)) rfl rfl (hbM hc hd)
    exact ⟨T', _, X', Fr.snoc X' N ((P.2.1 _ (List.mem_of_getElem? hi)).1 rfl), by rw [e']; exact P.put hi E (F.put hk (fits_nar_bool x) E), st⟩) k
theorem Wp.iastore {a : Addr} {ex ov : Bool} {vs : List Value} {j : Int32} {x : Int32} (i kk : Nat) (hi : H[i]? = some (a, true, .inr (.int, ex, ov, vs))) (hj : ¬ j < 0) (hk : j.toNatClampNeg = kk) (hl : kk < vs.length) (hd : Dc (mC M) pc .iastore 1 pc') (hH : H.set i (a, true, .inr (.int, ex, ov, vs.set kk (.int x))) = H') (k : Wp W K M Q H' c n pc' L S) : Wp W K M Q H c n pc L (.int x :: .int j :: .ref a :: S) := by
  obtain ⟨hd, rfl⟩ := hd
  subst hH
  exact Wp.to (fun T locs X hx hZ ho hc _ hnm P N => by
    have F : ArOk (wZ W) T.heap a .int ex ov vs := P.at hi
    obtain ⟨cl, h1, h2, -⟩ := id F
    obtain ⟨g1, -⟩ := ArOk.inb (Z := wZ W) h2 hj hk (List.getElem?_eq_getElem hl)
    obtain ⟨T', h', X', e', E, st⟩ := Jvm.RoadKit.stI X hx hZ rfl h1 g1 (g := mkF (kM K) pc L.toArray (.int x :: .int j :: .ref a :: S)) rfl rfl (hbM hc hd)
    exact ⟨T', _, X', Fr.snoc X' N ((P.2.1 _ (List.mem_of_getElem? hi)).1 rfl), by rw [e']; exact P.put hi E (F.put hk (rfl) E), st⟩) k
theorem Wp.lastore {a : Addr} {ex ov : Bool} {vs : List Value} {j : Int32} {x : Int64} (i kk : Nat) (hi : H[i]? = some (a, true, .inr (.long, ex, ov, vs))) (hj : ¬ j < 0) (hk : j.toNatClampNeg = kk) (hl : kk < vs.length) (hd : Dc (mC M) pc .lastore 1 pc') (hH : H.set i (a, true, .inr (.long, ex, ov, vs.set kk (.long x))) = H') (k : Wp W K M Q H' c n pc' L S) : Wp W K M Q H c n pc L (.long x :: .int j :: .ref a :: S) := by
  obtain ⟨hd, rfl⟩ := hd
  subst hH
  exact Wp.to (fun T locs X hx hZ ho hc _ hnm P N => by
    have F : ArOk (wZ W) T.heap a .long ex ov vs := P.at hi
    obtain ⟨cl, h1, h2, -⟩ := id F
    obtain ⟨g1, -⟩ := ArOk.inb (Z := wZ W) h2 hj hk (List.getElem?_eq_getElem hl)
    obtain ⟨T', h', X', e', E, st⟩ := Jvm.RoadKit.stJ X hx hZ rfl h1 g1 (g := mkF (kM K) pc L.toArray (.long x :: .int j :: .ref a :: S)) rfl rfl (hbM hc hd)
    exact ⟨T', _, X', Fr.snoc X' N ((P.2.1 _ (List.mem_of_getElem? hi)).1 rfl), by rw [e']; exact P.put hi E (F.put hk (rfl) E), st⟩) k
/-- a reference stored into an array over the class C: null, or an object of exactly the class D that is a C -/
theorem Wp.aastore {a : Addr} {ex : Bool} {C : String} {vs : List Value} {j : Int32} {v : Value} (i kk : Nat) (hi : H[i]? = some (a, true, .inr (.object C, ex, true, vs))) (hj : ¬ j < 0) (hk : j.toNatClampNeg = kk) (hl : kk < vs.length) (hs : v = .null ∨ ∃ y, v = .ref y ∧ ∀ h, Hp W h H → Ins (wZ W) h y C true) (hr : v.isRef = true)
    (hd : Dc (mC M) pc .aastore 1 pc') (hH : H.set i (a, true, .inr (.object C, ex, true, vs.set kk v)) = H') (k : Wp W K M Q H' c n pc' L S) : Wp W K M Q H c n pc L (v :: .int j :: .ref a :: S) := by
  obtain ⟨hd, rfl⟩ := hd
  subst hH
  exact Wp.to (fun T locs X hx hZ ho hc _ hnm P N => by
    have F : ArOk (wZ W) T.heap a (.object C) ex true vs := P.at hi
    obtain ⟨cl, h1, h2, h3, h4, h5, h6⟩ := id F
    obtain ⟨g1, -⟩ := ArOk.inb (Z := wZ W) h2 hj hk (List.getElem?_eq_getElem hl)
    have B : Sto (wZ W) T.heap a v := hs.elim Or.inl fun ⟨y, e, I⟩ => e ▸ Sto.of h1 (h6 rfl C rfl) (I _ P)
    obtain ⟨T', h', X', e', E, st⟩ := Jvm.RoadKit.stR X hx hZ rfl h1 g1 rfl B (g := mkF (kM K) pc L.toArray (v :: .int j :: .ref a :: S)) rfl rfl (hbM hc hd)
    have hf : fits (.object C) v = true := by rcases ref_cases hr with rfl | ⟨_, rfl⟩ <;> rfl
    exact ⟨T', _, X', Fr.snoc X' N ((P.2.1 _ (List.mem_of_getElem? hi)).1 rfl), by rw [e']; exact P.put hi E (F.put hk hf E), st⟩) k
-- the ends
theorem Wp.fin {v : Option Value} (q : Q v H) (hc1 : c ≤ (mR M).cells) (hn1 : n ≤ (mR M).slots) (hv : mT M = none → v = none)
    (st : ∀ T locs, Stand (kP K) (wL W) (kE K) (mR M) (kS K) (kM K) (kA K) (kB K) (kH K) (kC K) T locs c n → (kP K).tables.exec = Jvm.exec → (kC K).code = mC M → (kH K).sig.returnType = mT M → ∀ fs, (∀ (f : JFrame) (acts : List Action), f.method = kM K → f.locked = none → f.entered = [] → (doReturn (kE K) (T.setTop f) acts v).1 = T.setFrames fs) → Steps (kP K).tables (kE K) (kB K) (T.setTop (mkF (kM K) pc L.toArray S)) (T.setFrames fs)) : Wp W K M Q H c n pc L S := fun T X => by
  obtain ⟨hx, hZ, ho, hb, hm, hr, hn, hl, locs, X, N, P⟩ := X
  obtain ⟨fs, h1, h2, h3, h4, h5⟩ := X.leave (v := v) (fun u => hv (hr.symm.trans u)) hl
  exact ⟨_, st T locs X hx hb hr fs h1, _, h2, h3, v, locs, rfl, ⟨N, H, P, q⟩, ⟨v, rfl⟩, h4, h5.mono hc1 hn1⟩
theorem Wp.ret (hT : mT M = none) (hd : Dc (mC M) pc .return_ 1 pc') (hc1 : c ≤ (mR M).cells) (hn1 : n ≤ (mR M).slots) (q : Q none H) : Wp W K M Q H c n pc L [] := by
  obtain ⟨hd, rfl⟩ := hd
  exact Wp.fin q hc1 hn1 (fun _ => rfl) fun T locs X hx hc hr fs hl => X.returnOut hx (hr.trans hT) (hbM hc hd) hl
theorem Wp.iretN {t : FieldType} {x z : Int32} (ht : t = .boolean ∨ t = .byte ∨ t = .char ∨ t = .short) (hT : mT M = some t) (hz : nar t x = z) (hd : Dc (mC M) pc .ireturn 1 pc') (hc1 : c ≤ (mR M).cells) (hn1 : n ≤ (mR M).slots) (q : Q (some (.int z)) H) : Wp W K M Q H c n pc L (.int x :: S) := by
  obtain ⟨hd, rfl⟩ := hd
  subst hz
  exact Wp.fin q hc1 hn1 (fun u => by rw [hT] at u; cases u) fun T locs X hx hc hr fs hl => retN X hx (hr.trans hT) ht (hbM hc hd) hl
theorem Wp.iret {x : Int32} (hT : mT M = some .int) (hd : Dc (mC M) pc .ireturn 1 pc') (hc1 : c ≤ (mR M).cells) (hn1 : n ≤ (mR M).slots) (q : Q (some (.int x)) H) : Wp W K M Q H c n pc L (.int x :: S) := by
  obtain ⟨hd, rfl⟩ := hd
  exact Wp.fin q hc1 hn1 (fun u => by rw [hT] at u; cases u) fun T locs X hx hc hr fs hl => retOut X hx (hr.trans hT) rfl (Or.inl ⟨rfl, Or.inl rfl, x, rfl⟩) (hbM hc hd) hl
theorem Wp.lret {x : Int64} (hT : mT M = some .long) (hd : Dc (mC M) pc .lreturn 1 pc') (hc1 : c ≤ (mR M).cells) (hn1 : n ≤ (mR M).slots) (q : Q (some (.long x)) H) : Wp W K M Q H c n pc L (.long x :: S) := by
  obtain ⟨hd, rfl⟩ := hd
  exact Wp.fin q hc1 hn1 (fun u => by rw [hT] at u; cases u) fun T locs X hx hc hr fs hl => retOut X hx (hr.trans hT) rfl (Or.inr (Or.inl ⟨rfl, rfl, x, rfl⟩)) (hbM hc hd) hl
theorem Wp.aret {t : FieldType} {v : Value} (hT : mT M = some t) (hr1 : t.isReference = true) (hv : v.isRef = true) (hd : Dc (mC M) pc .areturn 1 pc') (hc1 : c ≤ (mR M).cells) (hn1 : n ≤ (mR M).slots) (q : Q (some v) H) : Wp W K M Q H c n pc L (v :: S) := by
  obtain ⟨hd, rfl⟩ := hd
  have hn2 : narrow t v = v := by rcases ref_cases hv with rfl | ⟨_, rfl⟩ <;> cases t <;> rfl
  exact Wp.fin q hc1 hn1 (fun u => by rw [hT] at u; cases u) fun T locs X hx hc hr fs hl => retOut X hx (hr.trans hT) hn2 (Or.inr (Or.inr (Or.inr (Or.inr ⟨rfl, hr1, hv⟩)))) (hbM hc hd) hl
-- calls
def pushV (v : Option Value) (S : List Value) : List Value := match v with
  | none => S
  | some x => x :: S
theorem pushV_eq (v : Option Value) (S : List Value) : pushV v S = v.toList ++ S := by cases v <;> rfl
theorem mkLen {d : String} {ps : List FieldType} {r : Option FieldType} {np : Nat} (hd : parseMethodDescriptor d = some ⟨ps, r⟩) (hl : np = ps.length) : ∀ sig, parseMethodDescriptor d = some sig → np = sig.parameters.length := fun sig h => by
  rw [hd] at h; cases h; exact hl
theorem Wp.know {P : Prop} (q : ∀ h, Hp W h H → P) (k : P → Wp W K M Q H c n pc L S) : Wp W K M Q H c n pc L S := fun T X => by
  have u := X
  obtain ⟨-, -, -, -, -, -, -, -, -, -, -, hp⟩ := u
  exact k (q _ hp) T X
theorem Wp.apart {a b : Addr} {r r' : Bool} {D D' : Ds} (i j : Nat) (hi : H[i]? = some (a, r, D)) (hj : H[j]? = some (b, r', D')) (hne : i ≠ j) (hr : r = true) (k : b ≠ a → Wp W K M Q H c n pc L S) : Wp W K M Q H c n pc L S := Wp.know (fun _ P => P.apart hi hj hne hr) k
theorem acT_eq (a : Value) : Jvm.Free.XT.acmp .eq a a = true := by simp [Jvm.Free.XT.acmp]
theorem acT_ne (a : Value) : Jvm.Free.XT.acmp .ne a a = false := by simp [Jvm.Free.XT.acmp]
theorem acF_eq {a b : Addr} (h : a ≠ b) : Jvm.Free.XT.acmp .eq (.ref a) (.ref b) = false := by simp [Jvm.Free.XT.acmp, h]
theorem acF_ne {a b : Addr} (h : a ≠ b) : Jvm.Free.XT.acmp .ne (.ref a) (.ref b) = true := by simp [Jvm.Free.XT.acmp, h]
theorem acN_eq_l (b : Addr) : Jvm.Free.XT.acmp .eq .null (.ref b) = false := by simp [Jvm.Free.XT.acmp]
theorem acN_eq_r (b : Addr) : Jvm.Free.XT.acmp .eq (.ref b) .null = false := by simp [Jvm.Free.XT.acmp]
theorem acN_ne_l (b : Addr) : Jvm.Free.XT.acmp .ne .null (.ref b) = true := by simp [Jvm.Free.XT.acmp]
theorem acN_ne_r (b : Addr) : Jvm.Free.XT.acmp .ne (.ref b) .null = true := by simp [Jvm.Free.XT.acmp]
theorem insSelf {h : Heap} {a : Addr} {r : Bool} {C : String} {fs : List Fd} (P : Hp W h H) (i : Nat) (hi : H[i]? = some (a, r, .inl (C, fs))) : Ins (wZ W) h a C true := Ins.self (show ObOk (wZ W) h a C fs from P.at hi).1
theorem insCast {h : Heap} {a : Addr} {r : Bool} {C D : String} {fs : List Fd} (P : Hp W h H) (i : Nat) (hi : H[i]? = some (a, r, .inl (C, fs))) (w : Wok W (.castable C D)) : Ins (wZ W) h a D true := Ins.of_exa (show ObOk (wZ W) h a C fs from P.at hi).1 w
/-- what the sheet says of a callee: its code, its class, how many arguments -/
def Mk (W : Wd) (M : Mt) (y : MethodName) (np : Nat) : Prop := mN M = y ∧ Wok W (.code y (mC M) (mL M) (mT M)) ∧ Wok W (.initialized y.cls) ∧ (∀ sig, parseMethodDescriptor y.desc = some sig → np = sig.parameters.length) ∧ (y.cls ≠ "java/lang/invoke/MethodHandle" ∧ y.cls ≠ "java/lang/invoke/VarHandle")
theorem Mk.of {W : Wd} {M : Mt} {y : MethodName} {np ml : Nat} {cd : ByteArray} {rt : Option FieldType} (h1 : mN M = y) (h2 : mC M = cd) (h3 : mL M = ml) (h4 : mT M = rt) (w1 : Wok W (.code y cd ml rt)) (w2 : Wok W (.initialized y.cls)) (h5 : ∀ sig, parseMethodDescriptor y.desc = some sig → np = sig.parameters.length) (h6 : y.cls ≠ "java/lang/invoke/MethodHandle" ∧ y.cls ≠ "java/lang/invoke/VarHandle") : Mk W M y np := by
  subst h1 h2 h3 h4
  exact ⟨rfl, w1, w2, h5, h6⟩
abbrev Fits (M M' : Mt) (c n Wn : Nat) : Prop := (mR M').frames + 1 ≤ (mR M).frames ∧ Wn + (mL M' + 11) + (mR M').locals ≤ (mR M).locals ∧ c + (mR M').cells ≤ (mR M).cells ∧ n + (mR M').slots ≤ (mR M).slots
theorem Ct.back {M' : Mt} {as : List Value} {Q' : Option Value → List En → Prop} {h : Heap} {p : Program} {e : Env} {s : State} {args : Array Value} {below : List Frame} {ln Wn : Nat} {R : Room} (C : Ct W M' as H Q') (P : Hp W h H) (hZ : (wZ W).Warmed39 s.vm) {np : Nat} (w : Mk W M' (mN M') np) (hf : (mR M').frames + 1 ≤ R.frames) (hl : Wn + (mL M' + 11) + (mR M').locals ≤ R.locals) :
    Back (wL W) R p e below s args (mN M') ln Wn (fun A a => a = as.toArray ∧ A.U.heap = h ∧ A.cells + (mR M').cells ≤ R.cells ∧ A.slots + (mR M').slots ≤ R.slots) (fun A _ v B => ∃ L, (Fr (wN W) L ∧ ∃ H', Hp W B.U.heap H' ∧ Q' v H') ∧ B.locs = A.locs ++ L ∧ B.cells = A.cells + (mR M').cells ∧ B.slots = A.slots + (mR M').slots) :=
  backOf (Q := fun v h L => Fr (wN W) L ∧ ∃ H', Hp W h H' ∧ Q' v H') (C [] h P) hZ w.2.1 w.2.2.1 hf hl
theorem Wp.callS {y0 : MethodName} (hM : mN M = y0) {M' : Mt} {as : List Value} {idx Wn np : Nat} {S0 : List Value} {Q' : Option Value → List En → Prop} (C : Ct W M' as H Q') {y' : MethodName} (w : Mk W M' y' np) (w1 : Wok W (.methodLink y0.cls idx y')) (w2 : Wok W (.static y')) (hst : S0 = as.reverse ++ S) (hp : as.length = np) (hW : (S.map fun v => v.category).sum = Wn) (hL : L.length = mL M) (hR : Fits M M' c n Wn)
    (hd : Dc (mC M) pc (.invokestatic idx) 3 pc') (k : ∀ v H', Q' v H' → Wp W K M Q H' (c + (mR M').cells) (n + (mR M').slots) pc' L (pushV v S)) : Wp W K M Q H c n pc L S0 := by
  subst hM
  obtain ⟨rfl, w⟩ := w
  obtain ⟨hd, rfl⟩ := hd
  subst hst hp
  exact fun T X => by
    obtain ⟨hx, hZ, ho, hb, hm, hr, hn, hl, locs, X, N, P⟩ := X
    obtain ⟨v, vm1, ⟨T', L', k', n'⟩, -, X', ⟨Lc, ⟨N', H', P', q⟩, l1, y1, z1⟩, st⟩ := Jvm.LawKit.callS X hx (y := mN M') ho (mvT hZ w1) (mvT hZ w2) (mvT hZ w.2.1) (mvT hZ w.1) w.2.2.2 (Ct.back C P hZ ⟨rfl, w⟩ hR.1 hR.2.1) (g := mkF (kM K) pc L.toArray (as.reverse ++ S)) rfl (by rw [hm, ← hL]; simp) (argsL := as) (rest := S) w.2.2.1 rfl (by show 2 * 0 + _ ≤ _; omega) (hbM hb hd) (fun _ _ => ⟨rfl, rfl, hR.2.2.1, hR.2.2.2⟩)
    dsimp only [Pt.U, Pt.locs, Pt.cells, Pt.slots] at X' l1 y1 z1 st P'
    subst l1 y1 z1
    obtain ⟨U, s1, s2⟩ := k v H' q T' ⟨hx, hZ, ho, hb, hm, hr, hn, hl, _, X', N.app N', P'⟩
    rw [pushV_eq] at s1
    exact ⟨U, st _ s1, s2⟩
/-- a constructor -/
theorem Wp.callC {y0 : MethodName} (hM : mN M = y0) {M' : Mt} {a : Addr} {as : List Value} {idx Wn np : Nat} {S0 : List Value} {Q' : Option Value → List En → Prop} (C : Ct W M' (.ref a :: as) H Q') {y' : MethodName} (w : Mk W M' y' np) (w1 : Wok W (.methodLink y0.cls idx y')) (w2 : Wok W (.instanceMethod y')) (hi : y'.name = "<init>") (hT : mT M' = none) (hst : S0 = as.reverse ++ .ref a :: S) (hp : as.length = np) (hW : (S.map fun v => v.category).sum = Wn) (hL : L.length = mL M) (hR : Fits M M' c n Wn)
    (hd : Dc (mC M) pc (.invokespecial idx) 3 pc') (k : ∀ v H', Q' v H' → Wp W K M Q H' (c + (mR M').cells) (n + (mR M').slots) pc' L (pushV v S)) : Wp W K M Q H c n pc L S0 := by
  subst hM
  obtain ⟨rfl, w⟩ := w
  obtain ⟨hd, rfl⟩ := hd
  subst hst hp
  exact fun T X => by
    obtain ⟨hx, hZ, ho, hb, hm, hr, hn, hl, locs, X, N, P⟩ := X
    obtain ⟨v, vm1, ⟨T', L', k', n'⟩, -, X', ⟨Lc, ⟨N', H', P', q⟩, l1, y1, z1⟩, st⟩ := X.specialBack hx (y := mN M') hi ho (mvT hZ w1) (mvT hZ w2) (hT ▸ mvT hZ w.1) w.2.2.2 (Ct.back C P hZ ⟨rfl, w⟩ hR.1 hR.2.1) (g := mkF (kM K) pc L.toArray (as.reverse ++ .ref a :: S)) rfl (by rw [hm, ← hL]; simp) (Steps.refl _) (a := a) (argsL := as) (rest := S) w.2.2.1 rfl (by show 2 * 0 + _ ≤ _; omega) (hbM hb hd) (fun _ _ => ⟨rfl, rfl, hR.2.2.1, hR.2.2.2⟩)
    dsimp only [Pt.U, Pt.locs, Pt.cells, Pt.slots] at X' l1 y1 z1 st P'
    subst l1 y1 z1
    obtain ⟨U, s1, s2⟩ := k v H' q T' ⟨hx, hZ, ho, hb, hm, hr, hn, hl, _, X', N.app N', P'⟩
    rw [pushV_eq] at s1
    exact ⟨U, st.trans s1, s2⟩
theorem Wp.callV {y0 : MethodName} (hM : mN M = y0) {M' : Mt} {y : MethodName} {C0 S' : String} {fs : List Fd} {rw : Bool} {a : Addr} {as : List Value} {idx Wn np : Nat} {S0 : List Value} {Q' : Option Value → List En → Prop} (C : Ct W M' (.ref a :: as) H Q') (i : Nat) (hi : H[i]? = some (a, rw, .inl (C0, fs))) {y' : MethodName} (w : Mk W M' y' np) (w1 : Wok W (.methodLink y0.cls idx y)) (w2 : Wok W (.declares y)) (w3 : Wok W (.selects C0 y y')) (w4 : Wok W (.instanceMethod y'))
    (nf : y = y' ∨ Wok W (.superclass y.cls S') ∨ Wok W (.noSuperclass y.cls)) (hy : y.cls ≠ "java/lang/invoke/MethodHandle" ∧ y.cls ≠ "java/lang/invoke/VarHandle") (hdsc : y.desc = y'.desc) (hst : S0 = as.reverse ++ .ref a :: S) (hp : as.length = np) (hW : (S.map fun v => v.category).sum = Wn) (hL : L.length = mL M) (hR : Fits M M' c n Wn)
    (hd : Dc (mC M) pc (.invokevirtual idx) 3 pc') (k : ∀ v H', Q' v H' → Wp W K M Q H' (c + (mR M').cells) (n + (mR M').slots) pc' L (pushV v S)) : Wp W K M Q H c n pc L S0 := by
  subst hM
  obtain ⟨rfl, w⟩ := w
  obtain ⟨hd, rfl⟩ := hd
  subst hst hp
  exact fun T X => by
    obtain ⟨hx, hZ, ho, hb, hm, hr, hn, hl, locs, X, N, P⟩ := X
    have F : ObOk (wZ W) T.heap a C0 fs := P.at hi
    obtain ⟨cq, kq, q1, q2, q3⟩ := isOf hZ rfl F.1
    have nf' : NotFace (kS K) y := by
      rcases nf with e | u | u
      · exact notFace_of_selects (args := #[]) (C := C0) (by rw [← e] at w3; exact mvT hZ w3)
      · exact nf_super (args := #[]) (mvT hZ u)
      · exact nf_top (args := #[]) (mvT hZ u)
    obtain ⟨v, vm1, ⟨T', L', k', n'⟩, -, X', ⟨Lc, ⟨N', H', P', q⟩, l1, y1, z1⟩, st⟩ := X.virtualBack hx (y := y) (z := mN M') ho (mvT hZ w1) (mvT hZ w2) nf' (mvT hZ w3) (mvT hZ w4) hy (Ct.back C P hZ ⟨rfl, w⟩ hR.1 hR.2.1) q1 q3 (g := mkF (kM K) pc L.toArray (as.reverse ++ .ref a :: S)) rfl (by rw [hm, ← hL]; simp) (Steps.refl _) (argsL := as) (rest := S) (fun sig u => w.2.2.1 sig (hdsc ▸ u)) rfl (by show 2 * 0 + _ ≤ _; omega) (hbM hb hd) (fun _ _ => ⟨rfl, rfl, hR.2.2.1, hR.2.2.2⟩)
    dsimp only [Pt.U, Pt.locs, Pt.cells, Pt.slots] at X' l1 y1 z1 st P'
    subst l1 y1 z1
    obtain ⟨U, s1, s2⟩ := k v H' q T' ⟨hx, hZ, ho, hb, hm, hr, hn, hl, _, X', N.app N', P'⟩
    rw [pushV_eq] at s1
    exact ⟨U, st.trans s1, s2⟩
theorem Wp.callI {y0 : MethodName} (hM : mN M = y0) {M' : Mt} {y : MethodName} {C0 : String} {fs : List Fd} {rw : Bool} {a : Addr} {as : List Value} {idx cnt Wn np : Nat} {S0 : List Value} {Q' : Option Value → List En → Prop} (C : Ct W M' (.ref a :: as) H Q') (i : Nat) (hi : H[i]? = some (a, rw, .inl (C0, fs))) {y' : MethodName} (w : Mk W M' y' np) (w1 : Wok W (.methodLink y0.cls idx y)) (w2 : Wok W (.declares y)) (w3 : Wok W (.interfaceMethod y.cls y.cls y.name y.desc)) (w4 : Wok W (.selects C0 y y')) (w5 : Wok W (.instanceMethod y')) (w6 : Wok W (.publicMethod y')) (w7 : Wok W (.unhidden C0 y.name y.desc)) (w8 : Wok W (.castable C0 y.cls))
    (hy : y.cls ≠ "java/lang/invoke/MethodHandle" ∧ y.cls ≠ "java/lang/invoke/VarHandle") (hdsc : y.desc = y'.desc) (hst : S0 = as.reverse ++ .ref a :: S) (hp : as.length = np) (hW : (S.map fun v => v.category).sum = Wn) (hL : L.length = mL M) (hR : Fits M M' c n Wn)
    (hd : Dc (mC M) pc (.invokeinterface idx cnt) 5 pc') (k : ∀ v H', Q' v H' → Wp W K M Q H' (c + (mR M').cells) (n + (mR M').slots) pc' L (pushV v S)) : Wp W K M Q H c n pc L S0 := by
  subst hM
  obtain ⟨rfl, w⟩ := w
  obtain ⟨hd, rfl⟩ := hd
  subst hst hp
  exact fun T X => by
    obtain ⟨hx, hZ, ho, hb, hm, hr, hn, hl, locs, X, N, P⟩ := X
    have F : ObOk (wZ W) T.heap a C0 fs := P.at hi
    obtain ⟨cq, kq, q1, q2, q3⟩ := isOf hZ rfl F.1
    obtain ⟨v, vm1, ⟨T', L', k', n'⟩, -, X', ⟨Lc, ⟨N', H', P', q⟩, l1, y1, z1⟩, st⟩ := X.interfaceBack hx (xi := y) (y := mN M') ho (mvT hZ w1) (mvT hZ w2) (mvT hZ w3 (by simp [Cond.onTables, Cond.keepsFace, Cond.faceAtom, hy.1, hy.2])) (mvT hZ w4) (mvT hZ w5) (mvT hZ w6) (mvT hZ w7) (mvT hZ w8) hy (Ct.back C P hZ ⟨rfl, w⟩ hR.1 hR.2.1) q1 q2 q3 (g := mkF (kM K) pc L.toArray (as.reverse ++ .ref a :: S)) rfl (by rw [hm, ← hL]; simp) (Steps.refl _) (argsL := as) (rest := S) (fun sig u => w.2.2.1 sig (hdsc ▸ u)) rfl (by show 2 * 0 + _ ≤ _; omega) (hbM hb hd) (fun _ _ => ⟨rfl, rfl, hR.2.2.1, hR.2.2.2⟩)
    dsimp only [Pt.U, Pt.locs, Pt.cells, Pt.slots] at X' l1 y1 z1 st P'
    subst l1 y1 z1
    obtain ⟨U, s1, s2⟩ := k v H' q T' ⟨hx, hZ, ho, hb, hm, hr, hn, hl, _, X', N.app N', P'⟩
    rw [pushV_eq] at s1
    exact ⟨U, st.trans s1, s2⟩
/-- a private instance method -/
theorem Wp.callP {y0 : MethodName} (hM : mN M = y0) {M' : Mt} {D : Ds} {rw : Bool} {C0 : String} {fs : List Fd} {a : Addr} {as : List Value} {idx Wn np : Nat} {S0 : List Value} {Q' : Option Value → List En → Prop} (C : Ct W M' (.ref a :: as) H Q') (i : Nat) (hi : H[i]? = some (a, rw, .inl (C0, fs))) {y' : MethodName} (w : Mk W M' y' np) (w1 : Wok W (.methodLink y0.cls idx y')) (w2 : Wok W (.instanceMethod y')) (w3 : Wok W (.selects y'.cls y' y')) (w4 : Wok W (.privateMethod y'))
    (hst : S0 = as.reverse ++ .ref a :: S) (hp : as.length = np) (hW : (S.map fun v => v.category).sum = Wn) (hL : L.length = mL M) (hR : Fits M M' c n Wn)
    (hd : Dc (mC M) pc (.invokevirtual idx) 3 pc') (k : ∀ v H', Q' v H' → Wp W K M Q H' (c + (mR M').cells) (n + (mR M').slots) pc' L (pushV v S)) : Wp W K M Q H c n pc L S0 := by
  subst hM
  obtain ⟨rfl, w⟩ := w
  obtain ⟨hd, rfl⟩ := hd
  subst hst hp
  exact fun T X => by
    obtain ⟨hx, hZ, ho, hb, hm, hr, hn, hl, locs, X, N, P⟩ := X
    have F : ObOk (wZ W) T.heap a C0 fs := P.at hi
    obtain ⟨cq, q1, q2⟩ := F.1.cell
    obtain ⟨v, vm1, ⟨T', L', k', n'⟩, -, X', ⟨Lc, ⟨N', H', P', q⟩, l1, y1, z1⟩, st⟩ := X.privateBack hx (y := mN M') ho (mvT hZ w1) (mvT hZ w2) (mvT hZ w3) (Cond.privateMethod_at (mvP hZ w4 (args := #[]))) (mvT hZ w.1) w.2.2.2 (Ct.back C P hZ ⟨rfl, w⟩ hR.1 hR.2.1) (g := mkF (kM K) pc L.toArray (as.reverse ++ .ref a :: S)) rfl (by rw [hm, ← hL]; simp) (Steps.refl _) (a := a) q1 q2 (argsL := as) (rest := S) w.2.2.1 rfl (by show 2 * 0 + _ ≤ _; omega) (hbM hb hd) (fun _ _ => ⟨rfl, rfl, hR.2.2.1, hR.2.2.2⟩)
    dsimp only [Pt.U, Pt.locs, Pt.cells, Pt.slots] at X' l1 y1 z1 st P'
    subst l1 y1 z1
    obtain ⟨U, s1, s2⟩ := k v H' q T' ⟨hx, hZ, ho, hb, hm, hr, hn, hl, _, X', N.app N', P'⟩
    rw [pushV_eq] at s1
    exact ⟨U, st.trans s1, s2⟩
/-- super.m(..) -/
theorem Wp.callU {y0 : MethodName} (hM : mN M = y0) {M' : Mt} {rw : Bool} {C0 : String} {fs : List Fd} {a : Addr} {as : List Value} {idx Wn np : Nat} {S0 : List Value} {Q' : Option Value → List En → Prop} (C : Ct W M' (.ref a :: as) H Q') (i : Nat) (hi : H[i]? = some (a, rw, .inl (C0, fs))) {y' : MethodName} (w : Mk W M' y' np) (w1 : Wok W (.methodLink y0.cls idx y')) (w2 : Wok W (.sameMethod y'.cls y'.cls y'.name y'.desc)) (w3 : Wok W (.instanceMethod y')) (w4 : Wok W (.superclass y0.cls y'.cls)) (hni : y'.name ≠ "<init>")
    (hst : S0 = as.reverse ++ .ref a :: S) (hp : as.length = np) (hW : (S.map fun v => v.category).sum = Wn) (hL : L.length = mL M) (hR : Fits M M' c n Wn)
    (hd : Dc (mC M) pc (.invokespecial idx) 3 pc') (k : ∀ v H', Q' v H' → Wp W K M Q H' (c + (mR M').cells) (n + (mR M').slots) pc' L (pushV v S)) : Wp W K M Q H c n pc L S0 := by
  subst hM
  obtain ⟨rfl, w⟩ := w
  obtain ⟨hd, rfl⟩ := hd
  subst hst hp
  exact fun T X => by
    obtain ⟨hx, hZ, ho, hb, hm, hr, hn, hl, locs, X, N, P⟩ := X
    have F : ObOk (wZ W) T.heap a C0 fs := P.at hi
    obtain ⟨v, vm1, ⟨T', L', k', n'⟩, -, X', ⟨Lc, ⟨N', H', P', q⟩, l1, y1, z1⟩, st⟩ := superBack X hx hZ (y := mN M') ho w1 w2 w3 w4 hni (Ct.back C P hZ ⟨rfl, w⟩ hR.1 hR.2.1) rfl (Ins.self F.1) (g := mkF (kM K) pc L.toArray (as.reverse ++ .ref a :: S)) rfl (by rw [hm, ← hL]; simp) w.1 (argsL := as) (rest := S) w.2.2.1 rfl (by show 2 * 0 + _ ≤ _; omega) (hbM hb hd) (fun _ _ => ⟨rfl, rfl, hR.2.2.1, hR.2.2.2⟩)
    dsimp only [Pt.U, Pt.locs, Pt.cells, Pt.slots] at X' l1 y1 z1 st P'
    subst l1 y1 z1
    obtain ⟨U, s1, s2⟩ := k v H' q T' ⟨hx, hZ, ho, hb, hm, hr, hn, hl, _, X', N.app N', P'⟩
    rw [pushV_eq] at s1
    exact ⟨U, st.trans s1, s2⟩
theorem Wp.initO {y0 : MethodName} (hM : mN M = y0) {a : Addr} {idx Wn : Nat} (w1 : Wok W (.methodLink y0.cls idx Lib.objectInit)) (w2 : Wok W (.instanceMethod Lib.objectInit)) (w3 : Wok W (.code Lib.objectInit ⟨#[0xb1]⟩ 1 none)) (hW : (S.map fun v => v.category).sum = Wn) (hL : L.length = mL M) (hf : 1 ≤ (mR M).frames) (hlo : Wn + 12 ≤ (mR M).locals)
    (hd : Dc (mC M) pc (.invokespecial idx) 3 pc') (k : Wp W K M Q H c n pc' L S) : Wp W K M Q H c n pc L (.ref a :: S) := by
  subst hM
  obtain ⟨hd, rfl⟩ := hd
  exact Wp.to (fun T locs X hx hZ ho hc hm _ P N => by
    obtain ⟨T', X', e', st⟩ := Jvm.RoadKit.initO X hx hZ ho w1 w2 w3 rfl (g := mkF (kM K) pc L.toArray (.ref a :: S)) rfl (by rw [hm, ← hL]; simp) rfl (hbM hc hd) hf (W := Wn) (by show 2 * 0 + _ ≤ _; omega) hlo
    exact ⟨T', locs, X', N, by rw [e']; exact P, st⟩) k
-- casts
theorem Wp.cast {y0 : MethodName} (hM : mN M = y0) {a : Addr} {Kc : String} {idx : Nat} (w : Wok W (.classLink y0.cls idx Kc)) (I : ∀ h, Hp W h H → Ins (wZ W) h a Kc true) (hd : Dc (mC M) pc (.checkcast idx) 3 pc') (k : Wp W K M Q H c n pc' L (.ref a :: S)) : Wp W K M Q H c n pc L (.ref a :: S) := by
  subst hM
  obtain ⟨hd, rfl⟩ := hd
  exact Wp.to (fun T locs X hx hZ ho hc _ _ P N => by
    obtain ⟨T', X', e', st⟩ := castY X hx hZ ho w rfl (I _ P) (g := mkF (kM K) pc L.toArray (.ref a :: S)) rfl rfl (hbM hc hd)
    exact ⟨T', locs, X', N, by rw [e']; exact P, st⟩) k
theorem Wp.inst {y0 : MethodName} (hM : mN M = y0) {a : Addr} {Kc : String} {idx : Nat} (w : Wok W (.classLink y0.cls idx Kc)) (I : ∀ h, Hp W h H → Ins (wZ W) h a Kc true) (hd : Dc (mC M) pc (.instanceof idx) 3 pc') (k : Wp W K M Q H c n pc' L (.int 1 :: S)) : Wp W K M Q H c n pc L (.ref a :: S) := by
  subst hM
  obtain ⟨hd, rfl⟩ := hd
  exact Wp.to (fun T locs X hx hZ ho hc _ _ P N => by
    obtain ⟨T', X', e', st⟩ := instY X hx hZ ho w rfl (I _ P) (g := mkF (kM K) pc L.toArray (.ref a :: S)) rfl rfl (hbM hc hd)
    exact ⟨T', locs, X', N, by rw [e']; exact P, st⟩) k
-- the heap's rows in another order: the first k as 'is' tells
def sel (is : List Nat) (H : List En) : List En := is.filterMap fun i => H[i]?
theorem sel_range : ∀ (k : Nat) (H : List En), sel (List.range k) H = H.take k
  | 0, H => by simp [sel]
  | k + 1, H => by
    have ih := sel_range k H
    unfold sel at ih ⊢
    rw [List.range_succ, List.filterMap_append, ih, List.take_add_one]
    cases h : H[k]? <;> simp [h]
theorem sel_perm {is : List Nat} {k : Nat} (hp : is.isPerm (List.range k) = true) (H : List En) : H.Perm (sel is H ++ H.drop k) := by
  have h1 : (sel is H).Perm (H.take k) := by
    rw [← sel_range]
    exact List.Perm.filterMap _ (List.isPerm_iff.mp hp)
  have h2 : (H.take k ++ H.drop k).Perm (sel is H ++ H.drop k) := List.Perm.append_right _ h1.symm
  rwa [List.take_append_drop] at h2
theorem Wp.perm (is : List Nat) (m : Nat) (hp : is.isPerm (List.range m) = true) (e : sel is H ++ H.drop m = H') (k : Wp W K M Q H' c n pc L S) : Wp W K M Q H c n pc L S := Wp.heap (e ▸ sel_perm hp H) k
end Logic
section Logic2
variable {W : Wd} {K : Kx} {M : Mt} {Q : Option Value → List En → Prop} {H H' : List En} {c n pc pc' pt len : Nat} {L L' : List Slot} {S : List Value}
theorem Wp.castNull {idx : Nat} (hd : Dc (mC M) pc (.checkcast idx) 3 pc') (k : Wp W K M Q H c n pc' L (.null :: S)) : Wp W K M Q H c n pc L (.null :: S) := by
  obtain ⟨hd, rfl⟩ := hd
  exact Wp.go (fun T locs X hx _ ho hc _ _ t r => X.checkcastNull hx (g := mkF (kM K) pc L.toArray (.null :: S)) rfl rfl (hbM hc hd) _ r) k
theorem Wp.instNull {idx : Nat} (hd : Dc (mC M) pc (.instanceof idx) 3 pc') (k : Wp W K M Q H c n pc' L (.int 0 :: S)) : Wp W K M Q H c n pc L (.null :: S) := by
  obtain ⟨hd, rfl⟩ := hd
  exact Wp.go (fun T locs X hx _ ho hc _ _ t r => X.instanceofNull hx (g := mkF (kM K) pc L.toArray (.null :: S)) rfl rfl (hbM hc hd) _ r) k
theorem Wp.tswIn {x : Int32} {dflt low high o : Int} {offs : Array Int} (hin : ¬ (x.toInt < low ∨ x.toInt > high)) (hoff : offs[(x.toInt - low).toNat]? = some o) (h1 : 0 ≤ (pc : Int) + o) (h2 : ((pc : Int) + o).toNat = pt) (hd : Dc (mC M) pc (.tableswitch dflt low high offs) len pc') (k : Wp W K M Q H c n pt L S) : Wp W K M Q H c n pc L (.int x :: S) := by
  obtain ⟨hd, -⟩ := hd
  exact Wp.go (fun T locs X hx _ ho hc _ _ t r => XS.tswIn X.here hx rfl rfl (hbM hc hd) rfl hin hoff h1 h2 r) k
theorem Wp.tswOut {x : Int32} {dflt low high : Int} {offs : Array Int} (hout : x.toInt < low ∨ x.toInt > high) (h1 : 0 ≤ (pc : Int) + dflt) (h2 : ((pc : Int) + dflt).toNat = pt) (hd : Dc (mC M) pc (.tableswitch dflt low high offs) len pc') (k : Wp W K M Q H c n pt L S) : Wp W K M Q H c n pc L (.int x :: S) := by
  obtain ⟨hd, -⟩ := hd
  exact Wp.go (fun T locs X hx _ ho hc _ _ t r => XS.tswOut X.here hx rfl rfl (hbM hc hd) rfl hout h1 h2 r) k
theorem Wp.lswIn {x : Int32} {dflt a o : Int} {prs : Array (Int × Int)} (hs : (prs.toList.zip (prs.toList.drop 1)).all (fun (a, next) => a.1 < next.1) = true) (hf : prs.find? (·.1 == x.toInt) = some (a, o)) (h1 : 0 ≤ (pc : Int) + o) (h2 : ((pc : Int) + o).toNat = pt) (hd : Dc (mC M) pc (.lookupswitch dflt prs) len pc') (k : Wp W K M Q H c n pt L S) : Wp W K M Q H c n pc L (.int x :: S) := by
  obtain ⟨hd, -⟩ := hd
  subst h2
  exact Wp.go (fun T locs X hx _ ho hc _ _ t r => X.lookupswitchHit hx (g := mkF (kM K) pc L.toArray (.int x :: S)) rfl rfl (hbM hc hd) hs hf h1 _ r) k
theorem Wp.lswOut {x : Int32} {dflt : Int} {prs : Array (Int × Int)} (hs : (prs.toList.zip (prs.toList.drop 1)).all (fun (a, next) => a.1 < next.1) = true) (hf : prs.find? (·.1 == x.toInt) = none) (h1 : 0 ≤ (pc : Int) + dflt) (h2 : ((pc : Int) + dflt).toNat = pt) (hd : Dc (mC M) pc (.lookupswitch dflt prs) len pc') (k : Wp W K M Q H c n pt L S) : Wp W K M Q H c n pc L (.int x :: S) := by
  obtain ⟨hd, -⟩ := hd
  subst h2
  exact Wp.go (fun T locs X hx _ ho hc _ _ t r => X.lookupswitchMiss hx (g := mkF (kM K) pc L.toArray (.int x :: S)) rfl rfl (hbM hc hd) hs hf h1 _ r) k
/-- a local that held nothing, or one word of any kind, is written over -/
theorem storeOne {k : Nat} {o : Slot} {v : Value} (hk : L[k]? = some o) (ho : One o) (hv : v.category = 1) (hL : L.set k (.val v) = L') : storeLocals L.toArray k v = some L'.toArray := by
  subst hL
  rw [Jvm.Free.XS.store1 (by simpa using hk) ho hv]
  simp
/-- arraycopy of whole values: primitive arrays -/
theorem hp0 {s : State} {l : Launch} {a : Array Value} : Hp (l, s, a, s.heap.size) s.heap [] := ⟨Old.start s, fun _ q => (nomatch q), List.Pairwise.nil⟩
/-- an old entry, told at the start -/
theorem Hp.old {h : Heap} {a : Addr} {D : Ds} (P : Hp W h H) (F : DsOk (wZ W) (wZ W).heap a D) (hN : wN W = (wZ W).heap.size) : Hp W h ((a, false, D) :: H) := by
  have hlt := F.lt
  refine ⟨P.1, fun x hx => ?_, List.pairwise_cons.mpr ⟨fun y hy => ?_, P.2.2⟩⟩
  · rcases List.mem_cons.mp hx with rfl | hx
    · exact ⟨fun q => (nomatch q), F.ext P.1.2⟩
    · exact P.2.1 x hx
  · rcases Bool.eq_false_or_eq_true y.2.1 with q | q
    · exact Or.inr fun (e : a = y.1) => by
        have q1 : (wZ W).heap.size ≤ y.1 := hN ▸ (P.2.1 y hy).1 q
        exact Nat.lt_irrefl _ (Nat.lt_of_lt_of_le hlt (Nat.le_trans q1 (Nat.le_of_eq e.symm)))
    · exact Or.inl ⟨rfl, q⟩
end Logic2
-- ints
def by8 (c : Int32) : Int32 := c.toInt8.toInt32
def csL (cs : List Int32) : List Value := cs.map Value.int
def eqI (xs ys : List Int32) : Int32 := if xs = ys then 1 else 0
abbrev ix (i : Nat) : Int32 := Int32.ofNat i
theorem ix_toInt {i : Nat} (h : i < 2 ^ 31) : (ix i).toInt = (i : Int) := toInt_of rfl h
theorem ix_lt {i j : Nat} (hi : i < 2 ^ 31) (hj : j < 2 ^ 31) : ix i < ix j ↔ i < j := by
  rw [Int32.lt_iff_toInt_lt, ix_toInt hi, ix_toInt hj]; omega
theorem ix_nn {i : Nat} (hi : i < 2 ^ 31) : ¬ ix i < 0 := by
  have := ix_lt (j := 0) hi (by decide)
  exact fun q => by have q' : ix i < ix 0 := q; rw [this] at q'; omega
theorem ix_nat {i : Nat} (hi : i < 2 ^ 31) : (ix i).toNatClampNeg = i := clamp_of rfl hi
theorem ix_inc (i : Nat) : ix i + Int32.ofInt 1 = ix (i + 1) := by rw [lit1]; exact (inc_ofNat i).symm
theorem ix_eq {i j : Nat} (hi : i < 2 ^ 31) (hj : j < 2 ^ 31) (h : ix i = ix j) : i = j := by
  have := congrArg Int32.toInt h
  rw [ix_toInt hi, ix_toInt hj] at this; omega
theorem csL_len (cs : List Int32) : (csL cs).length = cs.length := List.length_map ..
theorem csL_get {cs : List Int32} {i : Nat} {x : Int32} (h : cs[i]? = some x) : (csL cs)[i]? = some (.int x) := by simp [csL, h]
theorem csL_set (cs : List Int32) (i : Nat) (x : Int32) : (csL cs).set i (.int x) = csL (cs.set i x) := by simp [csL, List.map_set]
theorem by8_by8 (c : Int32) : nar .byte (by8 c) = by8 c := by simp [nar, by8]
/-- a copy that has come to i: the first i are f's, the others as they were -/
def part (f : Int32 → Int32) (cs ds : List Int32) (i : Nat) : List Int32 := (cs.take i).map f ++ ds.drop i
theorem part_len {f : Int32 → Int32} {cs ds : List Int32} {i : Nat} (h : cs.length = ds.length) : (part f cs ds i).length = ds.length := by
  simp [part]; omega
theorem part_zero (f : Int32 → Int32) (cs ds : List Int32) : part f cs ds 0 = ds := by simp [part]
theorem part_end {f : Int32 → Int32} {cs ds : List Int32} {i : Nat} (h : cs.length = ds.length) (hi : i = cs.length) : part f cs ds i = cs.map f := by
  subst hi
  rw [part, List.take_length, h, List.drop_length, List.append_nil]
theorem part_set {f : Int32 → Int32} {cs ds : List Int32} {i : Nat} {x : Int32} (h : cs.length = ds.length) (hx : cs[i]? = some x) : (part f cs ds i).set i (f x) = part f cs ds (i + 1) := by
  obtain ⟨hi, rfl⟩ := List.getElem?_eq_some_iff.mp hx
  apply List.ext_getElem?
  intro k
  have hl : ((cs.take i).map f).length = i := by simp; omega
  simp only [part, List.getElem?_set, List.getElem?_append, List.length_map, List.length_take, List.getElem?_map, List.getElem?_take, List.getElem?_drop, List.length_append, List.length_drop]
  by_cases e : i = k
  · subst e
    have h1 : i < min (i + 1) cs.length := by omega
    have h2 : i < min i cs.length + (ds.length - i) := by omega
    simp [h1, h2, hi]
  · simp only [e, if_false]
    by_cases hk : k < min i cs.length
    · have h1 : k < min (i + 1) cs.length := by omega
      have h2 : k < i := by omega
      have h3 : k < i + 1 := by omega
      simp [hk, h1, h2, h3]
    · have h1 : ¬ k < min (i + 1) cs.length := by omega
      have h2 : min i cs.length = i := by omega
      have h3 : min (i + 1) cs.length = i + 1 := by omega
      rw [h2] at hk
      rw [h3] at h1
      simp only [h2, h3, hk, h1, if_false]
      congr 1
      omega
theorem csL_rep (n : Nat) : List.replicate n (Value.int 0) = csL (List.replicate n 0) := by simp [csL]
theorem hpN : ∀ c ∈ ([] : List Int32), ¬ c < 0 ∧ ¬ 255 < c := fun _ q => (nomatch q)
theorem hpC {x : Int32} {xs : List Int32} (h : ¬ x < 0 ∧ ¬ 255 < x) (r : ∀ c ∈ xs, ¬ c < 0 ∧ ¬ 255 < c) : ∀ c ∈ x :: xs, ¬ c < 0 ∧ ¬ 255 < c := fun c hc => (List.mem_cons.mp hc).elim (fun e => e ▸ h) (r c)
theorem eqI_ne {xs ys : List Int32} (h : ¬ xs = ys) : eqI xs ys = 0 := if_neg h
theorem eqI_eq {xs ys : List Int32} (h : xs = ys) : eqI xs ys = 1 := if_pos h
theorem eqI_one {xs ys : List Int32} (h : ¬ eqI xs ys = 0) : eqI xs ys = 1 := by
  by_cases e : xs = ys
  · exact eqI_eq e
  · exact absurd (eqI_ne e) h
theorem csL_inj {xs ys : List Int32} (h : csL xs = csL ys) : xs = ys := by
  refine List.map_inj_right (f := Value.int) ?_ |>.mp h
  intro a b e; cases e; rfl
theorem take_snoc {xs ys : List Int32} {i : Nat} {x y : Int32} (h : xs.take i = ys.take i) (hx : xs[i]? = some x) (hy : ys[i]? = some y) (e : x = y) : xs.take (i + 1) = ys.take (i + 1) := by
  rw [List.take_add_one, List.take_add_one, h, hx, hy, e]
theorem take_all {xs ys : List Int32} {i : Nat} (h : xs.take i = ys.take i) (h1 : i = xs.length) (h2 : xs.length = ys.length) : xs = ys := by
  rw [h1, List.take_length, h2, List.take_length] at h; exact h
theorem get_ne {xs ys : List Int32} {i : Nat} {x y : Int32} (hx : xs[i]? = some x) (hy : ys[i]? = some y) (e : ¬ x = y) : ¬ xs = ys := fun q => by
  rw [q, hy] at hx; exact e (Option.some.inj hx).symm
theorem Fld.uniq {Z : State} {h : Heap} {a : Addr} {C n d : String} {v w : Value} (F : Fld Z h a C n d v) (G : Fld Z h a C n d w) : v = w := by
  obtain ⟨c1, cf, k, i, f, h1, h2, -, -, -, -, h7⟩ := F
  obtain ⟨c2, cf', k', i', f', g1, g2, -, -, -, -, g7⟩ := G
  cases h1.symm.trans g1
  cases h2.symm.trans g2
  exact Option.some.inj (h7.symm.trans g7)
theorem ArOk.uniq {Z : State} {h : Heap} {a : Addr} {ty ty' : FieldType} {ex ov ex' ov' : Bool} {vs ws : List Value} (F : ArOk Z h a ty ex ov vs) (G : ArOk Z h a ty' ex' ov' ws) : vs = ws := by
  obtain ⟨c1, h1, h2, -⟩ := F
  obtain ⟨c2, g1, g2, -⟩ := G
  cases h1.1.symm.trans g1.1
  exact h2.symm.trans g2
theorem arh_of {Z : State} {h : Heap} {a : Addr} {ty : FieldType} {ex ov : Bool} {vs : List Value} (F : ArOk Z h a ty ex ov vs) (dv : Value) : ∃ k, Arh Z h a k ty (ix vs.length) [] vs dv := by
  obtain ⟨c, h1, h2, h3, h4, -⟩ := F
  have hs : c.slots.size = vs.length := by rw [← h2]; simp
  refine ⟨c.cls, c, h1, rfl, by rw [hs, ix_nat h3], ix_nn h3, fun i hi => ?_, fun i hi => ?_⟩
  · show c.slots[i]? = some (vs.getD i dv)
    rw [← Array.getElem?_toList, h2, List.getD_eq_getElem?_getD, List.getElem?_eq_getElem (by omega)]; rfl
  · show fits ty (vs.getD i dv) = true
    rw [List.getD_eq_getElem?_getD, List.getElem?_eq_getElem (by omega)]
    exact h4 _ (List.getElem_mem _)
theorem of_arh {Z : State} {h : Heap} {a : Addr} {ty : FieldType} {k : ClassId} {z : Int32} {vs : List Value} {dv : Value} (F : Arh Z h a k ty z [] vs dv) (hz : z.toNatClampNeg = vs.length) (h3 : vs.length < 2 ^ 31) {ex ov : Bool} (h5 : ex = true → Exa Z h a ("[" ++ ty.toString)) (h6 : ov = true → ∀ C, ty = .object C → Ovr Z k C) : ArOk Z h a ty ex ov vs := by
  obtain ⟨c, h1, h2, g3, -, g5, g6⟩ := F
  have hs : c.slots.size = vs.length := g3.trans hz
  refine ⟨c, h1, ?_, h3, fun v hv => ?_, h5, fun q C e => h2 ▸ h6 q C e⟩
  · apply List.ext_getElem?
    intro i
    by_cases hi : i < c.slots.size
    · rw [Array.getElem?_toList, g5 i hi]
      show some (vs.getD i dv) = _
      rw [List.getD_eq_getElem?_getD, List.getElem?_eq_getElem (by omega)]; rfl
    · rw [List.getElem?_eq_none (by simpa using hi), List.getElem?_eq_none (by omega)]
  · obtain ⟨i, hi⟩ := List.getElem?_of_mem hv
    obtain ⟨li, e⟩ := List.getElem?_eq_some_iff.mp hi
    have := g6 i (by omega)
    show fits ty v = true
    have e2 : vs.getD i dv = v := by rw [List.getD_eq_getElem?_getD, hi]; rfl
    exact e2 ▸ this
section Logic3
variable {W : Wd} {K : Kx} {M : Mt} {Q : Option Value → List En → Prop} {H H' : List En} {c n pc pc' pt len : Nat} {L L' : List Slot} {S : List Value}
/-- an array's clone() -/
theorem Wp.clone {y0 : MethodName} (hM : mN M = y0) {ad : String} {a : Addr} {rw ov : Bool} {ty : FieldType} {vs : List Value} {idx Wn kk : Nat} (i : Nat) (hi : H[i]? = some (a, rw, .inr (ty, true, ov, vs))) (hkk : vs.length = kk) (had : "[" ++ ty.toString = ad) (w1 : Wok W (.methodLink y0.cls idx ⟨ad, "clone", "()Ljava/lang/Object;"⟩)) (w2 : Wok W (.sameMethod ad "java/lang/Object" "clone" "()Ljava/lang/Object;")) (w3 : Wok W (.native ⟨"java/lang/Object", "clone", "()Ljava/lang/Object;"⟩))
    (w4 : Wok W (.instanceMethod ⟨"java/lang/Object", "clone", "()Ljava/lang/Object;"⟩)) (w5 : Wok W (.selects ad ⟨ad, "clone", "()Ljava/lang/Object;"⟩ ⟨"java/lang/Object", "clone", "()Ljava/lang/Object;"⟩)) (w6 : Wok W (.castable ad "java/lang/Cloneable")) (hW : (S.map fun v => v.category).sum = Wn) (hL : L.length = mL M) (hf : 1 ≤ (mR M).frames) (hlo : Wn + 14 ≤ (mR M).locals) (hc1 : c + 1 ≤ (mR M).cells) (hl1 : n + kk ≤ (mR M).slots)
    (hd : Dc (mC M) pc (.invokevirtual idx) 3 pc') (k : ∀ b : Addr, Wp W K M Q ((b, true, .inr (ty, true, false, vs)) :: H) (c + 1) (n + kk) pc' L (.ref b :: S)) : Wp W K M Q H c n pc L (.ref a :: S) := by
  subst hM
  subst hkk
  obtain ⟨hd, rfl⟩ := hd
  subst had
  exact fun T X => by
    obtain ⟨hx, hZ, ho, hb, hm, hr, hn, hl, locs, X, N, P⟩ := X
    have F : ArOk (wZ W) T.heap a ty true ov vs := P.at hi
    have h3 : vs.length < 2 ^ 31 := F.choose_spec.2.2.1
    have hE := F.choose_spec.2.2.2.2.1 rfl
    obtain ⟨kk, F'⟩ := arh_of F (.int 0)
    obtain ⟨T', h', X', e', E, A, B, st⟩ := cloneH X hx hZ ho w1 w2 w3 w4 w5 w6 rfl F' hE (g := mkF (kM K) pc L.toArray (.ref a :: S)) rfl (by rw [hm, ← hL]; simp) rfl (hbM hb hd) hf (W := Wn) (cap := vs.length) (by show 2 * 0 + _ ≤ _; omega) hlo (Nat.le_of_eq (ix_nat h3)) hc1 hl1
    obtain ⟨U, s1, s2⟩ := k T.heap.size T' ⟨hx, hZ, ho, hb, hm, hr, hn, hl, locs, X', N, by rw [e']; exact P.new E (of_arh A (ix_nat h3) h3 (fun _ => B) (fun q => nomatch q))⟩
    exact ⟨U, st _ s1, s2⟩
theorem insArr {h : Heap} {a : Addr} {r ov : Bool} {ty : FieldType} {vs : List Value} {ad : String} (P : Hp W h H) (i : Nat) (hi : H[i]? = some (a, r, .inr (ty, true, ov, vs))) (had : "[" ++ ty.toString = ad) : Ins (wZ W) h a ad true := had ▸ Ins.self ((show ArOk (wZ W) h a ty true ov vs from P.at hi).choose_spec.2.2.2.2.1 rfl)
end Logic3
theorem rngC (x : Int32) : ¬ nar .char x < 0 ∧ ¬ 65535 < nar .char x := rng_char (fits_nar_char x)
theorem i2c_int (x : Int32) (h1 : ¬ x < 0) (h2 : ¬ 65535 < x) : x.toUInt32.toUInt16.toUInt32.toInt32 = x := by
  have a := c_i2c x
  rw [Int32.lt_iff_toInt_lt] at h1 h2
  rw [← Int32.toInt_inj]
  have e0 : (0 : Int32).toInt = 0 := rfl
  have e1 : (65535 : Int32).toInt = 65535 := rfl
  rw [e0] at h1
  rw [e1] at h2
  omega
theorem i2cC_id {x : Int32} (h1 : ¬ x < 0) (h2 : ¬ 65535 < x) : x.toUInt32.toUInt16.toUInt32.toInt32 = x := i2c_int x h1 h2
theorem narC_id {x : Int32} (h1 : ¬ x < 0) (h2 : ¬ 65535 < x) : nar .char x = x := i2c_int x h1 h2
theorem le8 {x : Int32} (h : ¬ 255 < x) : ¬ 65535 < x := fun q => h (by
  rw [Int32.lt_iff_toInt_lt] at q ⊢
  have e0 : (255 : Int32).toInt = 255 := rfl
  have e1 : (65535 : Int32).toInt = 65535 := rfl
  omega)
theorem i2cC_id8 {x : Int32} (h1 : ¬ x < 0) (h2 : ¬ 255 < x) : x.toUInt32.toUInt16.toUInt32.toInt32 = x := i2c_int x h1 (le8 h2)
theorem narC_id8 {x : Int32} (h1 : ¬ x < 0) (h2 : ¬ 255 < x) : nar .char x = x := i2c_int x h1 (le8 h2)
/-- a byte read back as a char -/
theorem by8_back {x : Int32} (h1 : ¬ x < 0) (h2 : ¬ 255 < x) : by8 x &&& 255 = x := by
  have a := c_i2b x
  have b := c_mask (by8 x) 255 8 (by decide) (by decide)
  rw [Int32.lt_iff_toInt_lt] at h1 h2
  rw [← Int32.toInt_inj, b]
  have e0 : (0 : Int32).toInt = 0 := rfl
  have e1 : (255 : Int32).toInt = 255 := rfl
  rw [e0] at h1
  rw [e1] at h2
  show (x.toInt8.toInt32.toInt) % 256 = x.toInt
  omega
def lob (c : Int32) : Int32 := by8 (c >>> (0 &&& 31))
def hib (c : Int32) : Int32 := by8 (c >>> (8 &&& 31))
theorem u16_back {x : Int32} (h1 : ¬ x < 0) (h2 : ¬ 65535 < x) : (((lob x &&& 255) <<< (0 &&& 31)) ||| ((hib x &&& 255) <<< (8 &&& 31))) = x := by
  have s0 := c_ishr x 0 0 (by decide)
  have s8 := c_ishr x 8 8 (by decide)
  have a0 := c_i2b (x >>> (0 &&& 31))
  have a8 := c_i2b (x >>> (8 &&& 31))
  have m0 := c_mask (lob x) 255 8 (by decide) (by decide)
  have m8 := c_mask (hib x) 255 8 (by decide) (by decide)
  have t0 := c_ishl (lob x &&& 255) 0 0 (by decide)
  have t8 := c_ishl (hib x &&& 255) 8 8 (by decide)
  have r0 := rng32 ((lob x &&& 255) <<< (0 &&& 31))
  have r8 := rng32 ((hib x &&& 255) <<< (8 &&& 31))
  rw [Int32.lt_iff_toInt_lt] at h1 h2
  have e0 : (0 : Int32).toInt = 0 := rfl
  have e1 : (65535 : Int32).toInt = 65535 := rfl
  rw [e0] at h1
  rw [e1] at h2
  have l0 : (lob x).toInt = (x >>> (0 &&& 31)).toInt8.toInt32.toInt := rfl
  have l8 : (hib x).toInt = (x >>> (8 &&& 31)).toInt8.toInt32.toInt := rfl
  simp only [Nat.reducePow] at *
  have v0 : ((lob x &&& 255) <<< (0 &&& 31)).toInt = x.toInt % 256 := by omega
  have v8 : ((hib x &&& 255) <<< (8 &&& 31)).toInt = x.toInt / 256 * 256 := by omega
  have o := c_or' ((lob x &&& 255) <<< (0 &&& 31)) ((hib x &&& 255) <<< (8 &&& 31)) 8 (by decide) 256 rfl (by omega) (by omega) (by omega)
  have ro := rng32 (((lob x &&& 255) <<< (0 &&& 31)) ||| ((hib x &&& 255) <<< (8 &&& 31)))
  rw [← Int32.toInt_inj]
  omega
theorem ix_shl1 {k : Nat} (h : 2 * k + 1 < 2 ^ 31) : ix k <<< ((1 : Int32) &&& 31) = ix (2 * k) := by
  have a := c_ishl (ix k) 1 1 (by decide)
  have r := rng32 (ix k <<< ((1 : Int32) &&& 31))
  rw [ix_toInt (by omega)] at a
  rw [← Int32.toInt_inj, ix_toInt (by omega)]
  simp only [Nat.reducePow] at *
  omega
theorem ix_shr1 {k : Nat} (h : k < 2 ^ 31) : ix k >>> ((1 : Int32) &&& 31) = ix (k / 2) := by
  have a := c_ishr (ix k) 1 1 (by decide)
  rw [ix_toInt h] at a
  rw [← Int32.toInt_inj, ix_toInt (by omega), a]
  simp only [Nat.reducePow]
  omega
theorem catR {v : Value} (h : v.isRef = true) : v.category = 1 := by rcases ref_cases h with rfl | ⟨_, rfl⟩ <;> rfl
section Start
variable {args : Array Value} {s : State} {t u : Term}
theorem eqv_int {z : Int32} (h : (Cond.eq t (.int z)).value args s none s [] = some true) : t.eval args s none [] s = some (.int z) := by
  obtain ⟨x, y, h1, h2, -, k2⟩ := cmp_v (Or.inl h)
  obtain rfl : y = .int z := Option.some.inj (h2.symm.trans (Term.int_eval z))
  obtain ⟨z', rfl⟩ := k2
  rw [h1, gotT (Cond.eq_ints h1 h2) h]
theorem eqv_ref {y : Addr} (h : (Cond.eq t u).value args s none s [] = some true) (hu : u.eval args s none [] s = some (.ref y)) : t.eval args s none [] s = some (.ref y) := by
  obtain ⟨x, y', h1, h2, -, k2⟩ := cmp_v (Or.inl h)
  obtain rfl : y' = .ref y := Option.some.inj (h2.symm.trans hu)
  rw [h1, gotT (eq_R h1 h2 k2.2 rfl) h]
/-- an array of the start: its length and its members told by the sheet -/
theorem arStart {a : Addr} {ty : FieldType} {z : Int32} {vs : List Value} {ex : Bool} (hf : Fit s) (ev : t.eval args s none [] s = some (.ref a)) (hx : (Cond.arrayOf t ty).value args s none s [] = some true) (hl : (Cond.eq (.length t) (.int z)).value args s none s [] = some true) (hz : z = ix vs.length) (hn : vs.length < 2 ^ 31) (he : ∀ i v, vs[i]? = some v → (Term.elem t (.int (ix i))).eval args s none [] s = some v)
    (hex : ex = true → Exa s s.heap a ("[" ++ ty.toString)) : ArOk s s.heap a ty ex false vs := by
  obtain ⟨c, A⟩ := Arr.start ev hx
  have e1 := eqv_int hl
  have ha : s.arrayAt? a = some c := Arr.fin (Vm.Alike.refl _) A
  have h31 : c.slots.size < 2 ^ 31 := by
    simp only [Term.eval, ev, ha, Option.bind_eq_bind, Option.bind_some] at e1
    by_cases q : c.slots.size < 2 ^ 31
    · exact q
    · simp [q] at e1
  rw [len_f ev ha h31] at e1
  have hs : c.slots.size = vs.length := by
    have e2 : c.slots.size.toInt32 = z := by injection (Option.some.inj e1)
    exact ix_eq h31 hn (e2.trans hz)
  have hel : ∀ i v, vs[i]? = some v → c.slots[i]? = some v := fun i v hv => by
    have li : i < vs.length := (List.getElem?_eq_some_iff.mp hv).1
    have q := (elem_in (he i v hv) ev (Term.int_eval _) A.1).2
    rwa [ix_nat (by omega)] at q
  refine ⟨c, A, ?_, hn, fun v hv => ?_, hex, fun q => nomatch q⟩
  · apply List.ext_getElem?
    intro i
    by_cases li : i < vs.length
    · rw [Array.getElem?_toList, List.getElem?_eq_getElem li]
      exact hel i _ (List.getElem?_eq_getElem li)
    · rw [List.getElem?_eq_none (by simp; omega), List.getElem?_eq_none (by omega)]
  · obtain ⟨i, hi⟩ := List.getElem?_of_mem hv
    have li : i < vs.length := (List.getElem?_eq_some_iff.mp hi).1
    have q := elem_fits (j := ix i) hf A (by rw [ix_nat (by omega)]; rintro (u | u); exact ix_nn (by omega) u; omega) (by rw [ix_nat (by omega)]; exact hel i v hi)
    exact q
end Start
def Ws (W : Wd) : Prop := (∀ d ∈ tables_1, d.before (wA W) (wZ W) = true) ∧ (∃ cs : Int32, Sta (wZ W) (wZ W).heap "java/lang/String" "COMPACT_STRINGS" "Z" (.int cs) ∧ ¬ cs = 0)
theorem st_compact {W : Wd} (hw : Ws W) : ∃ cs : Int32, Sta (wZ W) (wZ W).heap "java/lang/String" "COMPACT_STRINGS" "Z" (.int cs) ∧ ¬ cs = 0 := hw.2
abbrev oStr (r : Bool) (a : Addr) (f0 : Value) (f1 : Value) : En := (a, r, .inl ("java/lang/String", [("java/lang/String", "value", "[B", f0), ("java/lang/String", "coder", "B", f1)]))
abbrev oRule (r : Bool) (a : Addr) (f0 : Value) : En := (a, r, .inl ("com/example/tallyhoard/tallyhoard/Rule", [("com/example/tallyhoard/tallyhoard/Rule", "label", "Ljava/lang/String;", f0)]))
def Mcp2 : Mt := (⟨"java/lang/StringUTF16", "compress", "([CI[BII)I"⟩, jdk_52_method_21_code, 7, some .int, ⟨0, 0, 0, 0⟩)
theorem nm_Mcp2 : mN Mcp2 = ⟨"java/lang/StringUTF16", "compress", "([CI[BII)I"⟩ := by delta mN Mcp2; rfl
theorem d_jdk_52_21_3 : Dc jdk_52_method_21_code 3 (.iload 5) 2 5 := ⟨by decide +kernel, rfl⟩
theorem d_jdk_52_21_5 : Dc jdk_52_method_21_code 5 (.iload 4) 2 7 := ⟨by decide +kernel, rfl⟩
theorem d_jdk_52_21_7 : Bj jdk_52_method_21_code 7 (.if_icmp .ge 37) 37 10 44 := ⟨by decide +kernel, rfl, by decide, rfl⟩
theorem d_jdk_52_21_10 : Dc jdk_52_method_21_code 10 (.aload_n 0) 1 11 := ⟨by decide +kernel, rfl⟩
theorem d_jdk_52_21_11 : Dc jdk_52_method_21_code 11 (.iload_n 1) 1 12 := ⟨by decide +kernel, rfl⟩
theorem d_jdk_52_21_12 : Dc jdk_52_method_21_code 12 (.caload) 1 13 := ⟨by decide +kernel, rfl⟩
theorem d_jdk_52_21_13 : Dc jdk_52_method_21_code 13 (.istore 6) 2 15 := ⟨by decide +kernel, rfl⟩
theorem d_jdk_52_21_15 : Dc jdk_52_method_21_code 15 (.iload 6) 2 17 := ⟨by decide +kernel, rfl⟩
theorem d_jdk_52_21_17 : Dc jdk_52_method_21_code 17 (.sipush 255) 3 20 := ⟨by decide +kernel, rfl⟩
theorem ls_255 : (Int16.ofInt 255).toInt32 = 255 := by decide
theorem d_jdk_52_21_20 : Bj jdk_52_method_21_code 20 (.if_icmp .le 6) 6 23 26 := ⟨by decide +kernel, rfl, by decide, rfl⟩
theorem d_jdk_52_21_26 : Dc jdk_52_method_21_code 26 (.aload_n 2) 1 27 := ⟨by decide +kernel, rfl⟩
theorem d_jdk_52_21_27 : Dc jdk_52_method_21_code 27 (.iload_n 3) 1 28 := ⟨by decide +kernel, rfl⟩
theorem d_jdk_52_21_28 : Dc jdk_52_method_21_code 28 (.iload 6) 2 30 := ⟨by decide +kernel, rfl⟩
theorem d_jdk_52_21_30 : Dc jdk_52_method_21_code 30 (.i2b) 1 31 := ⟨by decide +kernel, rfl⟩
theorem d_jdk_52_21_31 : Dc jdk_52_method_21_code 31 (.bastore) 1 32 := ⟨by decide +kernel, rfl⟩
theorem d_jdk_52_21_32 : Dc jdk_52_method_21_code 32 (.iinc 1 1) 3 35 := ⟨by decide +kernel, rfl⟩
theorem d_jdk_52_21_35 : Dc jdk_52_method_21_code 35 (.iinc 3 1) 3 38 := ⟨by decide +kernel, rfl⟩
theorem d_jdk_52_21_38 : Dc jdk_52_method_21_code 38 (.iinc 5 1) 3 41 := ⟨by decide +kernel, rfl⟩
theorem d_jdk_52_21_41 : Bj jdk_52_method_21_code 41 (.goto (-38)) (-38) 44 3 := ⟨by decide +kernel, rfl, by decide, rfl⟩
theorem d_jdk_52_21_44 : Dc jdk_52_method_21_code 44 (.iload 4) 2 46 := ⟨by decide +kernel, rfl⟩
theorem d_jdk_52_21_46 : Dc jdk_52_method_21_code 46 (.ireturn) 1 47 := ⟨by decide +kernel, rfl⟩
set_option maxRecDepth 65536 in
set_option maxHeartbeats 40000000 in
theorem lp_cp2 {W : Wd} {K : Kx} (hw : Ws W) (a b : Addr) (r ex ov : Bool) (cs ds : List Int32) (F : List En) (hp : ∀ c ∈ cs, ¬ c < 0 ∧ ¬ 255 < c) (hd : cs.length = ds.length) (hn : cs.length < 2 ^ 31) (Q : Option Value → List En → Prop) (hQ : Q (some (.int (ix cs.length))) ((a, r, .inr (.char, ex, ov, csL cs)) :: (eB b (csL (cs.map by8))) :: F)) :
    ∀ (k i : Nat) (o : Slot), i + k = cs.length → One o → Wp W K Mcp2 Q ((a, r, .inr (.char, ex, ov, csL cs)) :: (eB b (csL (part by8 cs ds i))) :: F) 0 0 3 [.val (.ref a), .val (.int (ix i)), .val (.ref b), .val (.int (ix i)), .val (.int (ix cs.length)), .val (.int (ix i)), o] []
  | 0, i, o, hi, ho_o => by
    have hi1 : i < 2 ^ 31 := by omega
    have e : part by8 cs ds i = cs.map by8 := part_end hd (by omega)
    rw [e]
    refine Wp.iload rfl d_jdk_52_21_3 ?_
    refine Wp.iload rfl d_jdk_52_21_5 ?_
    refine Wp.icT (flt (fun q => by rw [ix_lt hi1 hn] at q; omega)).2.1 d_jdk_52_21_7 ?_
    refine Wp.iload rfl d_jdk_52_21_44 ?_
    refine Wp.iret rfl d_jdk_52_21_46 (by decide) (by decide) ?_
    exact hQ
  | k + 1, i, o, hi, ho_o => by
    have hi1 : i < 2 ^ 31 := by omega
    have hi2 : i < cs.length := by omega
    obtain ⟨x, hx⟩ : ∃ x, cs[i]? = some x := ⟨_, List.getElem?_eq_getElem hi2⟩
    refine Wp.iload rfl d_jdk_52_21_3 ?_
    refine Wp.iload rfl d_jdk_52_21_5 ?_
    refine Wp.icF (tlt ((ix_lt hi1 hn).mpr hi2)).2.1 d_jdk_52_21_7 ?_
    refine Wp.aloadN rfl rfl d_jdk_52_21_10 ?_
    refine Wp.iloadN rfl d_jdk_52_21_11 ?_
    refine Wp.caload 0 i rfl (ix_nn hi1) (ix_nat hi1) (csL_get hx) d_jdk_52_21_12 ?_
    refine Wp.istore (L' := [.val (.ref a), .val (.int (ix i)), .val (.ref b), .val (.int (ix i)), .val (.int (ix cs.length)), .val (.int (ix i)), .val (.int x)]) (storeOne rfl ho_o rfl rfl) d_jdk_52_21_13 ?_
    refine Wp.iload rfl d_jdk_52_21_15 ?_
    refine Wp.sipush ls_255 d_jdk_52_21_17 ?_
    refine Wp.icT (flt (hp x (List.mem_of_getElem? hx)).2).2.2.2 d_jdk_52_21_20 ?_
    refine Wp.aloadN rfl rfl d_jdk_52_21_26 ?_
    refine Wp.iloadN rfl d_jdk_52_21_27 ?_
    refine Wp.iload rfl d_jdk_52_21_28 ?_
    refine Wp.i2b (z := (by8 x)) rfl d_jdk_52_21_30 ?_
    refine Wp.bastore (z := (by8 x)) 1 i rfl (ix_nn hi1) (ix_nat hi1) (by rw [csL_len, part_len hd]; omega) (by8_by8 _) d_jdk_52_21_31 (H' := ((a, r, .inr (.char, ex, ov, csL cs)) :: (eB b (csL (part by8 cs ds (i + 1)))) :: F)) (by rw [csL_set, part_set hd hx]; rfl) ?_
    refine Wp.iinc (z := (ix (i + 1))) (L' := [.val (.ref a), .val (.int (ix (i + 1))), .val (.ref b), .val (.int (ix i)), .val (.int (ix cs.length)), .val (.int (ix i)), .val (.int x)]) rfl (ix_inc i) rfl d_jdk_52_21_32 ?_
    refine Wp.iinc (z := (ix (i + 1))) (L' := [.val (.ref a), .val (.int (ix (i + 1))), .val (.ref b), .val (.int (ix (i + 1))), .val (.int (ix cs.length)), .val (.int (ix i)), .val (.int x)]) rfl (ix_inc i) rfl d_jdk_52_21_35 ?_
    refine Wp.iinc (z := (ix (i + 1))) (L' := [.val (.ref a), .val (.int (ix (i + 1))), .val (.ref b), .val (.int (ix (i + 1))), .val (.int (ix cs.length)), .val (.int (ix (i + 1))), .val (.int x)]) rfl (ix_inc i) rfl d_jdk_52_21_38 ?_
    refine Wp.goto d_jdk_52_21_41 ?_
    exact lp_cp2 hw a b r ex ov cs ds F hp hd hn Q hQ k (i + 1) _ (by omega) (One.val rfl)
theorem d_jdk_52_21_0 : Dc jdk_52_method_21_code 0 (.iconst 0) 1 1 := ⟨by decide +kernel, rfl⟩
theorem lc_0 : Int32.ofInt 0 = 0 := by decide
theorem d_jdk_52_21_1 : Dc jdk_52_method_21_code 1 (.istore 5) 2 3 := ⟨by decide +kernel, rfl⟩
theorem pf_java_lang_StringUTF16 : plainName "java/lang/StringUTF16" = true := by first | (simp [plainName, overriddenIn]; done) | decide +kernel
set_option maxRecDepth 65536 in
set_option maxHeartbeats 40000000 in
theorem rm_cp2 {W : Wd} (hw : Ws W) (a : Addr) (b : Addr) (r : Bool) (ex : Bool) (ov : Bool) (cs : List Int32) (ds : List Int32) (F : List En) (hp : ∀ c ∈ cs, ¬ c < 0 ∧ ¬ 255 < c) (hd : cs.length = ds.length) (hn : cs.length < 2 ^ 31) : Ct W Mcp2 [.ref a, .int 0, .ref b, .int 0, .int (ix cs.length)] ((a, r, .inr (.char, ex, ov, csL cs)) :: (eB b (csL ds)) :: F) (fun v H' => v = some (.int (ix cs.length)) ∧ H' = ((a, r, .inr (.char, ex, ov, csL cs)) :: (eB b (csL (cs.map by8))) :: F)) := by
  refine Ct.intro (L0 := [.val (.ref a), .val (.int 0), .val (.ref b), .val (.int 0), .val (.int (ix cs.length)), .unset, .unset]) (plainFor_of_name pf_java_lang_StringUTF16) rfl (fun K => ?_)
  refine Wp.iconst lc_0 d_jdk_52_21_0 ?_
  refine Wp.istore (L' := [.val (.ref a), .val (.int 0), .val (.ref b), .val (.int 0), .val (.int (ix cs.length)), .val (.int 0), .unset]) rfl d_jdk_52_21_1 ?_
  have q := lp_cp2 (K := K) hw a b r ex ov cs ds F hp hd hn (fun v H' => v = some (.int (ix cs.length)) ∧ H' = ((a, r, .inr (.char, ex, ov, csL cs)) :: (eB b (csL (cs.map by8))) :: F)) ⟨rfl, rfl⟩ cs.length 0 .unset (by omega) One.u
  rw [part_zero] at q
  exact q
theorem d_jdk_52_16_0 : Dc jdk_52_method_16_code 0 (.iload_n 2) 1 1 := ⟨by decide +kernel, rfl⟩
theorem d_jdk_52_16_1 : Dc jdk_52_method_16_code 1 (.newarray .byte) 2 3 := ⟨by decide +kernel, rfl⟩
theorem w_19 {W : Wd} (hw : Ws W) : Wok W (Jvm.Cond.arrayClass Jvm.ClassFile.FieldType.byte) := hw.1 _ (List.mem_of_getElem? (i := 19) rfl)
theorem d_jdk_52_16_3 : Dc jdk_52_method_16_code 3 (.astore_n 3) 1 4 := ⟨by decide +kernel, rfl⟩
theorem d_jdk_52_16_4 : Dc jdk_52_method_16_code 4 (.aload_n 0) 1 5 := ⟨by decide +kernel, rfl⟩
theorem d_jdk_52_16_5 : Dc jdk_52_method_16_code 5 (.iload_n 1) 1 6 := ⟨by decide +kernel, rfl⟩
theorem d_jdk_52_16_6 : Dc jdk_52_method_16_code 6 (.aload_n 3) 1 7 := ⟨by decide +kernel, rfl⟩
theorem d_jdk_52_16_7 : Dc jdk_52_method_16_code 7 (.iconst 0) 1 8 := ⟨by decide +kernel, rfl⟩
theorem d_jdk_52_16_8 : Dc jdk_52_method_16_code 8 (.iload_n 2) 1 9 := ⟨by decide +kernel, rfl⟩
theorem d_jdk_52_16_9 : Dc jdk_52_method_16_code 9 (.invokestatic 115) 3 12 := ⟨by decide +kernel, rfl⟩
theorem pp_1_0 : [1, 0].isPerm (List.range 2) = true := by decide +kernel
theorem w_22 {W : Wd} (hw : Ws W) : Wok W (Jvm.Cond.code ({ cls := "java/lang/StringUTF16", name := "compress", desc := "([CI[BII)I" } : Jvm.MethodName) jdk_52_method_21_code (7 : Nat) (Option.some Jvm.ClassFile.FieldType.int)) := hw.1 _ (List.mem_of_getElem? (i := 22) rfl)
theorem w_17 {W : Wd} (hw : Ws W) : Wok W (Jvm.Cond.initialized "java/lang/StringUTF16") := hw.1 _ (List.mem_of_getElem? (i := 17) rfl)
theorem pd___CI_BII_I : parseMethodDescriptor "([CI[BII)I" = some ⟨[(.array .char), .int, (.array .byte), .int, .int], some .int⟩ := by decide +kernel
theorem mk_Mcp2 {W : Wd} (hw : Ws W) : Mk W Mcp2 ⟨"java/lang/StringUTF16", "compress", "([CI[BII)I"⟩ 5 := Mk.of nm_Mcp2 rfl rfl rfl (w_22 hw) (w_17 hw) (mkLen pd___CI_BII_I rfl) (by decide)
theorem w_20 {W : Wd} (hw : Ws W) : Wok W (Jvm.Cond.methodLink "java/lang/StringUTF16" (115 : Nat) ({ cls := "java/lang/StringUTF16", name := "compress", desc := "([CI[BII)I" } : Jvm.MethodName)) := hw.1 _ (List.mem_of_getElem? (i := 20) rfl)
theorem w_21 {W : Wd} (hw : Ws W) : Wok W (Jvm.Cond.static ({ cls := "java/lang/StringUTF16", name := "compress", desc := "([CI[BII)I" } : Jvm.MethodName)) := hw.1 _ (List.mem_of_getElem? (i := 21) rfl)
theorem d_jdk_52_16_12 : Dc jdk_52_method_16_code 12 (.istore 4) 2 14 := ⟨by decide +kernel, rfl⟩
theorem d_jdk_52_16_14 : Dc jdk_52_method_16_code 14 (.iload 4) 2 16 := ⟨by decide +kernel, rfl⟩
theorem d_jdk_52_16_16 : Dc jdk_52_method_16_code 16 (.iload_n 2) 1 17 := ⟨by decide +kernel, rfl⟩
theorem d_jdk_52_16_17 : Bj jdk_52_method_16_code 17 (.if_icmp .eq 40) 40 20 57 := ⟨by decide +kernel, rfl, by decide, rfl⟩
theorem d_jdk_52_16_57 : Dc jdk_52_method_16_code 57 (.aload_n 3) 1 58 := ⟨by decide +kernel, rfl⟩
theorem d_jdk_52_16_58 : Dc jdk_52_method_16_code 58 (.areturn) 1 59 := ⟨by decide +kernel, rfl⟩
def M_cp1 (n : Nat) : Mt := (⟨"java/lang/StringUTF16", "compress", "([CII)[B"⟩, jdk_52_method_16_code, 6, some (.array .byte), ⟨1, 1, n, 18⟩)
theorem nm_M_cp1 {n : Nat} : mN (M_cp1 n) = ⟨"java/lang/StringUTF16", "compress", "([CII)[B"⟩ := by delta mN M_cp1; rfl
set_option maxRecDepth 65536 in
set_option maxHeartbeats 40000000 in
theorem rm_cp1 {W : Wd} (hw : Ws W) (a : Addr) (r : Bool) (ex : Bool) (ov : Bool) (cs : List Int32) (F : List En) (hp : ∀ c ∈ cs, ¬ c < 0 ∧ ¬ 255 < c) (hn : cs.length ≤ 4000) : Ct W (M_cp1 cs.length) [.ref a, .int 0, .int (ix cs.length)] ((a, r, .inr (.char, ex, ov, csL cs)) :: F) (fun v H' => ∃ b, v = some (.ref b) ∧ H' = ((eB b (csL (cs.map by8))) :: (a, r, .inr (.char, ex, ov, csL cs)) :: F)) := by
  refine Ct.intro (L0 := [.val (.ref a), .val (.int 0), .val (.int (ix cs.length)), .unset, .unset, .unset]) (plainFor_of_name pf_java_lang_StringUTF16) rfl (fun K => ?_)
  refine Wp.iloadN rfl d_jdk_52_16_0 ?_
  refine Wp.newP (kk := cs.length) (vs := csL (List.replicate cs.length 0)) d_jdk_52_16_1 (w_19 hw) (ix_nat (by omega)) (ix_nn (by omega)) (by omega) (Nat.le_refl _) (Nat.le_of_eq (Nat.zero_add _)) (csL_rep _) (fun a1 => ?_)
  refine Wp.astoreN (L' := [.val (.ref a), .val (.int 0), .val (.int (ix cs.length)), .val (.ref a1), .unset, .unset]) rfl rfl d_jdk_52_16_3 ?_
  refine Wp.aloadN rfl rfl d_jdk_52_16_4 ?_
  refine Wp.iloadN rfl d_jdk_52_16_5 ?_
  refine Wp.aloadN rfl rfl d_jdk_52_16_6 ?_
  refine Wp.iconst lc_0 d_jdk_52_16_7 ?_
  refine Wp.iloadN rfl d_jdk_52_16_8 ?_
  refine Wp.perm [1, 0] 2 pp_1_0 (H' := ((a, r, .inr (.char, ex, ov, csL cs)) :: (eB a1 (csL (List.replicate cs.length 0))) :: F)) rfl ?_
  refine Wp.callS nm_M_cp1 (rm_cp2 hw a a1 r ex ov cs (List.replicate cs.length 0) _ hp (by simp) (by omega)) (mk_Mcp2 hw) (w_20 hw) (w_21 hw) rfl rfl (Wn := 0) rfl rfl (by simp [Fits, mR, mL, M_cp1, Mcp2]) d_jdk_52_16_9 ?_
  rintro _ _ ⟨rfl, rfl⟩
  refine Wp.istore (L' := [.val (.ref a), .val (.int 0), .val (.int (ix cs.length)), .val (.ref a1), .val (.int (ix cs.length)), .unset]) rfl d_jdk_52_16_12 ?_
  refine Wp.iload rfl d_jdk_52_16_14 ?_
  refine Wp.iloadN rfl d_jdk_52_16_16 ?_
  refine Wp.icT (teq rfl).1 d_jdk_52_16_17 ?_
  refine Wp.aloadN rfl rfl d_jdk_52_16_57 ?_
  refine Wp.perm [1, 0] 2 pp_1_0 (H' := ((eB a1 (csL (cs.map by8))) :: (a, r, .inr (.char, ex, ov, csL cs)) :: F)) rfl ?_
  refine Wp.aret rfl rfl rfl d_jdk_52_16_58 (by simp [mR, M_cp1, Mcp2]) (by simp [mR, M_cp1, Mcp2]) ?_
  exact ⟨a1, rfl, rfl⟩
theorem d_jdk_52_15_0 : Dc jdk_52_method_15_code 0 (.iload_n 1) 1 1 := ⟨by decide +kernel, rfl⟩
theorem d_jdk_52_15_1 : Dc jdk_52_method_15_code 1 (.aload_n 0) 1 2 := ⟨by decide +kernel, rfl⟩
theorem d_jdk_52_15_2 : Dc jdk_52_method_15_code 2 (.arraylength) 1 3 := ⟨by decide +kernel, rfl⟩
theorem d_jdk_52_15_3 : Dc jdk_52_method_15_code 3 (.isub) 1 4 := ⟨by decide +kernel, rfl⟩
theorem d_jdk_52_15_4 : Dc jdk_52_method_15_code 4 (.bipush 31) 2 6 := ⟨by decide +kernel, rfl⟩
theorem lb_31 : (Int8.ofInt 31).toInt32 = 31 := by decide
theorem d_jdk_52_15_6 : Dc jdk_52_method_15_code 6 (.iushr) 1 7 := ⟨by decide +kernel, rfl⟩
theorem d_jdk_52_15_7 : Dc jdk_52_method_15_code 7 (.i2b) 1 8 := ⟨by decide +kernel, rfl⟩
theorem d_jdk_52_15_8 : Dc jdk_52_method_15_code 8 (.ireturn) 1 9 := ⟨by decide +kernel, rfl⟩
def M_cfl : Mt := (⟨"java/lang/StringUTF16", "coderFromArrayLen", "([BI)B"⟩, jdk_52_method_15_code, 2, some .byte, ⟨0, 0, 0, 0⟩)
theorem nm_M_cfl : mN M_cfl = ⟨"java/lang/StringUTF16", "coderFromArrayLen", "([BI)B"⟩ := by delta mN M_cfl; rfl
set_option maxRecDepth 65536 in
set_option maxHeartbeats 40000000 in
theorem rm_cfl {W : Wd} (hw : Ws W) (b : Addr) (r : Bool) (ex : Bool) (ov : Bool) (bs : List Int32) (n : Nat) (F : List En) (hb : bs.length = n) : Ct W M_cfl [.ref b, .int (ix n)] ((b, r, .inr (.byte, ex, ov, csL bs)) :: F) (fun v H' => v = some (.int 0) ∧ H' = ((b, r, .inr (.byte, ex, ov, csL bs)) :: F)) := by
  refine Ct.intro (L0 := [.val (.ref b), .val (.int (ix n))]) (plainFor_of_name pf_java_lang_StringUTF16) rfl (fun K => ?_)
  refine Wp.iloadN rfl d_jdk_52_15_0 ?_
  refine Wp.aloadN rfl rfl d_jdk_52_15_1 ?_
  refine Wp.alen (z := (ix n)) 0 rfl (congrArg Nat.toInt32 ((csL_len _).trans hb)) d_jdk_52_15_2 ?_
  refine Wp.isub (z := 0) (Int32.sub_self _) d_jdk_52_15_3 ?_
  refine Wp.bipush lb_31 d_jdk_52_15_4 ?_
  refine Wp.iushr (z := 0) (by decide) d_jdk_52_15_6 ?_
  refine Wp.i2b (z := 0) (by decide) d_jdk_52_15_7 ?_
  refine Wp.iretN (z := 0) (by simp) rfl (by decide) d_jdk_52_15_8 (by decide) (by decide) ?_
  exact ⟨rfl, rfl⟩
theorem d_jdk_42_149_0 : Dc jdk_42_method_149_code 0 (.aload_n 0) 1 1 := ⟨by decide +kernel, rfl⟩
theorem d_jdk_42_149_1 : Dc jdk_42_method_149_code 1 (.invokespecial 1) 3 4 := ⟨by decide +kernel, rfl⟩
theorem w_11 {W : Wd} (hw : Ws W) : Wok W (Jvm.Cond.methodLink "java/lang/String" (1 : Nat) ({ cls := "java/lang/Object", name := "<init>", desc := "()V" } : Jvm.MethodName)) := hw.1 _ (List.mem_of_getElem? (i := 11) rfl)
theorem w_12 {W : Wd} (hw : Ws W) : Wok W (Jvm.Cond.instanceMethod ({ cls := "java/lang/Object", name := "<init>", desc := "()V" } : Jvm.MethodName)) := hw.1 _ (List.mem_of_getElem? (i := 12) rfl)
theorem w_13 {W : Wd} (hw : Ws W) : Wok W (Jvm.Cond.code ({ cls := "java/lang/Object", name := "<init>", desc := "()V" } : Jvm.MethodName) object_method_1_code (1 : Nat) (Option.none : Option Jvm.ClassFile.FieldType)) := hw.1 _ (List.mem_of_getElem? (i := 13) rfl)
theorem d_jdk_42_149_4 : Dc jdk_42_method_149_code 4 (.iload_n 3) 1 5 := ⟨by decide +kernel, rfl⟩
theorem d_jdk_42_149_5 : Bj jdk_42_method_149_code 5 (.ifCond .ne 22) 22 8 27 := ⟨by decide +kernel, rfl, by decide, rfl⟩
theorem d_jdk_42_149_27 : Dc jdk_42_method_149_code 27 (.getstatic 38) 3 30 := ⟨by decide +kernel, rfl⟩
theorem w_14 {W : Wd} (hw : Ws W) : Wok W (Jvm.Cond.fieldLink "java/lang/String" (38 : Nat) "java/lang/String" "COMPACT_STRINGS" "Z") := hw.1 _ (List.mem_of_getElem? (i := 14) rfl)
theorem d_jdk_42_149_30 : Bj jdk_42_method_149_code 30 (.ifCond .eq 28) 28 33 58 := ⟨by decide +kernel, rfl, by decide, rfl⟩
theorem d_jdk_42_149_33 : Dc jdk_42_method_149_code 33 (.aload_n 1) 1 34 := ⟨by decide +kernel, rfl⟩
theorem d_jdk_42_149_34 : Dc jdk_42_method_149_code 34 (.iload_n 2) 1 35 := ⟨by decide +kernel, rfl⟩
theorem d_jdk_42_149_35 : Dc jdk_42_method_149_code 35 (.iload_n 3) 1 36 := ⟨by decide +kernel, rfl⟩
theorem d_jdk_42_149_36 : Dc jdk_42_method_149_code 36 (.invokestatic 177) 3 39 := ⟨by decide +kernel, rfl⟩
theorem w_18 {W : Wd} (hw : Ws W) : Wok W (Jvm.Cond.code ({ cls := "java/lang/StringUTF16", name := "compress", desc := "([CII)[B" } : Jvm.MethodName) jdk_52_method_16_code (6 : Nat) (Option.some (Jvm.ClassFile.FieldType.array Jvm.ClassFile.FieldType.byte))) := hw.1 _ (List.mem_of_getElem? (i := 18) rfl)
theorem pd___CII__B : parseMethodDescriptor "([CII)[B" = some ⟨[(.array .char), .int, .int], some (.array .byte)⟩ := by decide +kernel
theorem mk_M_cp1 {W : Wd} (hw : Ws W) (n : Nat) : Mk W (M_cp1 n) ⟨"java/lang/StringUTF16", "compress", "([CII)[B"⟩ 3 := Mk.of nm_M_cp1 rfl rfl rfl (w_18 hw) (w_17 hw) (mkLen pd___CII__B rfl) (by decide)
theorem w_15 {W : Wd} (hw : Ws W) : Wok W (Jvm.Cond.methodLink "java/lang/String" (177 : Nat) ({ cls := "java/lang/StringUTF16", name := "compress", desc := "([CII)[B" } : Jvm.MethodName)) := hw.1 _ (List.mem_of_getElem? (i := 15) rfl)
theorem w_16 {W : Wd} (hw : Ws W) : Wok W (Jvm.Cond.static ({ cls := "java/lang/StringUTF16", name := "compress", desc := "([CII)[B" } : Jvm.MethodName)) := hw.1 _ (List.mem_of_getElem? (i := 16) rfl)
theorem d_jdk_42_149_39 : Dc jdk_42_method_149_code 39 (.astore 5) 2 41 := ⟨by decide +kernel, rfl⟩
theorem d_jdk_42_149_41 : Dc jdk_42_method_149_code 41 (.aload_n 0) 1 42 := ⟨by decide +kernel, rfl⟩
theorem d_jdk_42_149_42 : Dc jdk_42_method_149_code 42 (.aload 5) 2 44 := ⟨by decide +kernel, rfl⟩
theorem d_jdk_42_149_44 : Dc jdk_42_method_149_code 44 (.iload_n 3) 1 45 := ⟨by decide +kernel, rfl⟩
theorem d_jdk_42_149_45 : Dc jdk_42_method_149_code 45 (.invokestatic 47) 3 48 := ⟨by decide +kernel, rfl⟩
theorem w_25 {W : Wd} (hw : Ws W) : Wok W (Jvm.Cond.code ({ cls := "java/lang/StringUTF16", name := "coderFromArrayLen", desc := "([BI)B" } : Jvm.MethodName) jdk_52_method_15_code (2 : Nat) (Option.some Jvm.ClassFile.FieldType.byte)) := hw.1 _ (List.mem_of_getElem? (i := 25) rfl)
theorem pd___BI_B : parseMethodDescriptor "([BI)B" = some ⟨[(.array .byte), .int], some .byte⟩ := by decide +kernel
theorem mk_M_cfl {W : Wd} (hw : Ws W) : Mk W M_cfl ⟨"java/lang/StringUTF16", "coderFromArrayLen", "([BI)B"⟩ 2 := Mk.of nm_M_cfl rfl rfl rfl (w_25 hw) (w_17 hw) (mkLen pd___BI_B rfl) (by decide)
theorem w_23 {W : Wd} (hw : Ws W) : Wok W (Jvm.Cond.methodLink "java/lang/String" (47 : Nat) ({ cls := "java/lang/StringUTF16", name := "coderFromArrayLen", desc := "([BI)B" } : Jvm.MethodName)) := hw.1 _ (List.mem_of_getElem? (i := 23) rfl)
theorem w_24 {W : Wd} (hw : Ws W) : Wok W (Jvm.Cond.static ({ cls := "java/lang/StringUTF16", name := "coderFromArrayLen", desc := "([BI)B" } : Jvm.MethodName)) := hw.1 _ (List.mem_of_getElem? (i := 24) rfl)
theorem d_jdk_42_149_48 : Dc jdk_42_method_149_code 48 (.putfield 15) 3 51 := ⟨by decide +kernel, rfl⟩
theorem w_27 {W : Wd} (hw : Ws W) : Wok W (Jvm.Cond.laysFinal "java/lang/String" "java/lang/String" "coder" "B") := hw.1 _ (List.mem_of_getElem? (i := 27) rfl)
theorem w_26 {W : Wd} (hw : Ws W) : Wok W (Jvm.Cond.fieldLink "java/lang/String" (15 : Nat) "java/lang/String" "coder" "B") := hw.1 _ (List.mem_of_getElem? (i := 26) rfl)
theorem w_2 {W : Wd} (hw : Ws W) : Wok W (Jvm.Cond.instantiable "java/lang/String" (4 : Nat)) := hw.1 _ (List.mem_of_getElem? (i := 2) rfl)
theorem d_jdk_42_149_51 : Dc jdk_42_method_149_code 51 (.aload_n 0) 1 52 := ⟨by decide +kernel, rfl⟩
theorem d_jdk_42_149_52 : Dc jdk_42_method_149_code 52 (.aload 5) 2 54 := ⟨by decide +kernel, rfl⟩
theorem d_jdk_42_149_54 : Dc jdk_42_method_149_code 54 (.putfield 9) 3 57 := ⟨by decide +kernel, rfl⟩
theorem w_29 {W : Wd} (hw : Ws W) : Wok W (Jvm.Cond.laysFinal "java/lang/String" "java/lang/String" "value" "[B") := hw.1 _ (List.mem_of_getElem? (i := 29) rfl)
theorem w_28 {W : Wd} (hw : Ws W) : Wok W (Jvm.Cond.fieldLink "java/lang/String" (9 : Nat) "java/lang/String" "value" "[B") := hw.1 _ (List.mem_of_getElem? (i := 28) rfl)
theorem d_jdk_42_149_57 : Dc jdk_42_method_149_code 57 (.return_) 1 58 := ⟨by decide +kernel, rfl⟩
theorem pp_2_0_1 : [2, 0, 1].isPerm (List.range 3) = true := by decide +kernel
def M_si2 (n : Nat) : Mt := (⟨"java/lang/String", "<init>", "([CIILjava/lang/Void;)V"⟩, jdk_42_method_149_code, 6, none, ⟨2, 1, n, 35⟩)
theorem nm_M_si2 {n : Nat} : mN (M_si2 n) = ⟨"java/lang/String", "<init>", "([CIILjava/lang/Void;)V"⟩ := by delta mN M_si2; rfl
theorem pf_java_lang_String : plainName "java/lang/String" = true := by first | (simp [plainName, overriddenIn]; done) | decide +kernel
set_option maxRecDepth 65536 in
set_option maxHeartbeats 40000000 in
theorem rm_si2 {W : Wd} (hw : Ws W) (s : Addr) (a : Addr) (r : Bool) (ex : Bool) (ov : Bool) (cs : List Int32) (F : List En) (hp : ∀ c ∈ cs, ¬ c < 0 ∧ ¬ 255 < c) (hn : cs.length ≤ 4000) (h1 : 0 < cs.length) : Ct W (M_si2 cs.length) [.ref s, .ref a, .int 0, .int (ix cs.length), .null] ((oStr true s (.null) (.int 0)) :: (a, r, .inr (.char, ex, ov, csL cs)) :: F) (fun v H' => ∃ b, v = none ∧ H' = ((oStr true s (.ref b) (.int 0)) :: (eB b (csL (cs.map by8))) :: (a, r, .inr (.char, ex, ov, csL cs)) :: F)) := by
  refine Ct.intro (L0 := [.val (.ref s), .val (.ref a), .val (.int 0), .val (.int (ix cs.length)), .val (.null), .unset]) (plainFor_of_name pf_java_lang_String) rfl (fun K => ?_)
  refine Wp.aloadN rfl rfl d_jdk_42_149_0 ?_
  refine Wp.initO nm_M_si2 (w_11 hw) (w_12 hw) (w_13 hw) (Wn := 0) rfl rfl (by simp [mR, M_si2, M_cp1, M_cfl]) (by simp [mR, M_si2, M_cp1, M_cfl]) d_jdk_42_149_1 ?_
  refine Wp.iloadN rfl d_jdk_42_149_4 ?_
  refine Wp.ifT (feq (fun q => by have := ix_eq (j := 0) (by omega) (by decide) q; omega)).2 d_jdk_42_149_5 ?_
  obtain ⟨cs1, Fcs1, ncs1⟩ := st_compact hw
  refine Wp.getS nm_M_si2 (w_14 hw) Via.refl Fcs1 d_jdk_42_149_27 ?_
  refine Wp.ifF (feq ncs1).1 d_jdk_42_149_30 ?_
  refine Wp.aloadN rfl rfl d_jdk_42_149_33 ?_
  refine Wp.iloadN rfl d_jdk_42_149_34 ?_
  refine Wp.iloadN rfl d_jdk_42_149_35 ?_
  refine Wp.perm [1, 0] 2 pp_1_0 (H' := ((a, r, .inr (.char, ex, ov, csL cs)) :: (oStr true s (.null) (.int 0)) :: F)) rfl ?_
  refine Wp.callS nm_M_si2 (rm_cp1 hw a r ex ov cs _ hp hn) (mk_M_cp1 hw cs.length) (w_15 hw) (w_16 hw) rfl rfl (Wn := 0) rfl rfl (by simp [Fits, mR, mL, M_si2, M_cp1, M_cfl]) d_jdk_42_149_36 ?_
  rintro _ _ ⟨b_2, rfl, rfl⟩
  refine Wp.astore (L' := [.val (.ref s), .val (.ref a), .val (.int 0), .val (.int (ix cs.length)), .val (.null), .val (.ref b_2)]) rfl rfl d_jdk_42_149_39 ?_
  refine Wp.aloadN rfl rfl d_jdk_42_149_41 ?_
  refine Wp.aload rfl rfl d_jdk_42_149_42 ?_
  refine Wp.iloadN rfl d_jdk_42_149_44 ?_
  refine Wp.callS nm_M_si2 (rm_cfl hw b_2 true true false (cs.map by8) cs.length _ (by simp)) (mk_M_cfl hw) (w_23 hw) (w_24 hw) rfl rfl (Wn := 1) rfl rfl (by simp [Fits, mR, mL, M_si2, M_cp1, M_cfl]) d_jdk_42_149_45 ?_
  rintro _ _ ⟨rfl, rfl⟩
  refine Wp.putF nm_M_si2 (host := "") (Or.inl (w_26 hw)) Via.refl 2 1 rfl rfl (Or.inr ⟨(w_27 hw), rfl, rfl⟩) (w_2 hw) (ty := .byte) (by decide) rfl rfl d_jdk_42_149_48 (H' := ((eB b_2 (csL (cs.map by8))) :: (a, r, .inr (.char, ex, ov, csL cs)) :: (oStr true s (.null) (.int 0)) :: F)) rfl ?_
  refine Wp.aloadN rfl rfl d_jdk_42_149_51 ?_
  refine Wp.aload rfl rfl d_jdk_42_149_52 ?_
  refine Wp.putF nm_M_si2 (host := "") (Or.inl (w_28 hw)) Via.refl 2 0 rfl rfl (Or.inr ⟨(w_29 hw), rfl, rfl⟩) (w_2 hw) (ty := (.array .byte)) (by decide) rfl rfl d_jdk_42_149_54 (H' := ((eB b_2 (csL (cs.map by8))) :: (a, r, .inr (.char, ex, ov, csL cs)) :: (oStr true s (.ref b_2) (.int 0)) :: F)) rfl ?_
  refine Wp.perm [2, 0, 1] 3 pp_2_0_1 (H' := ((oStr true s (.ref b_2) (.int 0)) :: (eB b_2 (csL (cs.map by8))) :: (a, r, .inr (.char, ex, ov, csL cs)) :: F)) rfl ?_
  refine Wp.ret rfl d_jdk_42_149_57 (by simp [mR, M_si2, M_cp1, M_cfl]) (by simp [mR, M_si2, M_cp1, M_cfl]) ?_
  exact ⟨b_2, rfl, rfl⟩
theorem d_jdk_42_3_0 : Dc jdk_42_method_3_code 0 (.aload_n 0) 1 1 := ⟨by decide +kernel, rfl⟩
theorem d_jdk_42_3_1 : Dc jdk_42_method_3_code 1 (.aload_n 1) 1 2 := ⟨by decide +kernel, rfl⟩
theorem d_jdk_42_3_2 : Dc jdk_42_method_3_code 2 (.iconst 0) 1 3 := ⟨by decide +kernel, rfl⟩
theorem d_jdk_42_3_3 : Dc jdk_42_method_3_code 3 (.aload_n 1) 1 4 := ⟨by decide +kernel, rfl⟩
theorem d_jdk_42_3_4 : Dc jdk_42_method_3_code 4 (.arraylength) 1 5 := ⟨by decide +kernel, rfl⟩
theorem d_jdk_42_3_5 : Dc jdk_42_method_3_code 5 (.aconst_null) 1 6 := ⟨by decide +kernel, rfl⟩
theorem d_jdk_42_3_6 : Dc jdk_42_method_3_code 6 (.invokespecial 27) 3 9 := ⟨by decide +kernel, rfl⟩
theorem w_10 {W : Wd} (hw : Ws W) : Wok W (Jvm.Cond.code ({ cls := "java/lang/String", name := "<init>", desc := "([CIILjava/lang/Void;)V" } : Jvm.MethodName) jdk_42_method_149_code (6 : Nat) (Option.none : Option Jvm.ClassFile.FieldType)) := hw.1 _ (List.mem_of_getElem? (i := 10) rfl)
theorem w_3 {W : Wd} (hw : Ws W) : Wok W (Jvm.Cond.initialized "java/lang/String") := hw.1 _ (List.mem_of_getElem? (i := 3) rfl)
theorem pd___CIILjava_lang_Void__V : parseMethodDescriptor "([CIILjava/lang/Void;)V" = some ⟨[(.array .char), .int, .int, (.object "java/lang/Void")], none⟩ := by decide +kernel
theorem mk_M_si2 {W : Wd} (hw : Ws W) (n : Nat) : Mk W (M_si2 n) ⟨"java/lang/String", "<init>", "([CIILjava/lang/Void;)V"⟩ 4 := Mk.of nm_M_si2 rfl rfl rfl (w_10 hw) (w_3 hw) (mkLen pd___CIILjava_lang_Void__V rfl) (by decide)
theorem w_7 {W : Wd} (hw : Ws W) : Wok W (Jvm.Cond.methodLink "java/lang/String" (27 : Nat) ({ cls := "java/lang/String", name := "<init>", desc := "([CIILjava/lang/Void;)V" } : Jvm.MethodName)) := hw.1 _ (List.mem_of_getElem? (i := 7) rfl)
theorem w_8 {W : Wd} (hw : Ws W) : Wok W (Jvm.Cond.instanceMethod ({ cls := "java/lang/String", name := "<init>", desc := "([CIILjava/lang/Void;)V" } : Jvm.MethodName)) := hw.1 _ (List.mem_of_getElem? (i := 8) rfl)
theorem d_jdk_42_3_9 : Dc jdk_42_method_3_code 9 (.return_) 1 10 := ⟨by decide +kernel, rfl⟩
def M_si (n : Nat) : Mt := (⟨"java/lang/String", "<init>", "([C)V"⟩, jdk_42_method_3_code, 2, none, ⟨3, 1, n, 52⟩)
theorem nm_M_si {n : Nat} : mN (M_si n) = ⟨"java/lang/String", "<init>", "([C)V"⟩ := by delta mN M_si; rfl
set_option maxRecDepth 65536 in
set_option maxHeartbeats 40000000 in
theorem rm_si {W : Wd} (hw : Ws W) (s : Addr) (a : Addr) (r : Bool) (ex : Bool) (ov : Bool) (cs : List Int32) (F : List En) (hp : ∀ c ∈ cs, ¬ c < 0 ∧ ¬ 255 < c) (hn : cs.length ≤ 4000) (h1 : 0 < cs.length) : Ct W (M_si cs.length) [.ref s, .ref a] ((oStr true s (.null) (.int 0)) :: (a, r, .inr (.char, ex, ov, csL cs)) :: F) (fun v H' => ∃ b, v = none ∧ H' = ((oStr true s (.ref b) (.int 0)) :: (eB b (csL (cs.map by8))) :: (a, r, .inr (.char, ex, ov, csL cs)) :: F)) := by
  refine Ct.intro (L0 := [.val (.ref s), .val (.ref a)]) (plainFor_of_name pf_java_lang_String) rfl (fun K => ?_)
  refine Wp.aloadN rfl rfl d_jdk_42_3_0 ?_
  refine Wp.aloadN rfl rfl d_jdk_42_3_1 ?_
  refine Wp.iconst lc_0 d_jdk_42_3_2 ?_
  refine Wp.aloadN rfl rfl d_jdk_42_3_3 ?_
  refine Wp.alen (z := (ix cs.length)) 1 rfl (congrArg Nat.toInt32 (csL_len _)) d_jdk_42_3_4 ?_
  refine Wp.aconstNull d_jdk_42_3_5 ?_
  refine Wp.callC nm_M_si (rm_si2 hw s a r ex ov cs _ hp hn h1) (mk_M_si2 hw cs.length) (w_7 hw) (w_8 hw) rfl rfl rfl rfl (Wn := 0) rfl rfl (by simp [Fits, mR, mL, M_si, M_si2]) d_jdk_42_3_6 ?_
  rintro _ _ ⟨b_1, rfl, rfl⟩
  refine Wp.ret rfl d_jdk_42_3_9 (by simp [mR, M_si, M_si2]) (by simp [mR, M_si, M_si2]) ?_
  exact ⟨b_1, rfl, rfl⟩
def M_le : Mt := (⟨"java/lang/StringLatin1", "equals", "([B[B)Z"⟩, jdk_43_method_13_code, 3, some .boolean, ⟨0, 0, 0, 0⟩)
theorem nm_M_le : mN M_le = ⟨"java/lang/StringLatin1", "equals", "([B[B)Z"⟩ := by delta mN M_le; rfl
theorem d_jdk_43_13_9 : Dc jdk_43_method_13_code 9 (.iload_n 2) 1 10 := ⟨by decide +kernel, rfl⟩
theorem d_jdk_43_13_10 : Dc jdk_43_method_13_code 10 (.aload_n 0) 1 11 := ⟨by decide +kernel, rfl⟩
theorem d_jdk_43_13_11 : Dc jdk_43_method_13_code 11 (.arraylength) 1 12 := ⟨by decide +kernel, rfl⟩
theorem d_jdk_43_13_12 : Bj jdk_43_method_13_code 12 (.if_icmp .ge 20) 20 15 32 := ⟨by decide +kernel, rfl, by decide, rfl⟩
theorem d_jdk_43_13_15 : Dc jdk_43_method_13_code 15 (.aload_n 0) 1 16 := ⟨by decide +kernel, rfl⟩
theorem d_jdk_43_13_16 : Dc jdk_43_method_13_code 16 (.iload_n 2) 1 17 := ⟨by decide +kernel, rfl⟩
theorem d_jdk_43_13_17 : Dc jdk_43_method_13_code 17 (.baload) 1 18 := ⟨by decide +kernel, rfl⟩
theorem d_jdk_43_13_18 : Dc jdk_43_method_13_code 18 (.aload_n 1) 1 19 := ⟨by decide +kernel, rfl⟩
theorem d_jdk_43_13_19 : Dc jdk_43_method_13_code 19 (.iload_n 2) 1 20 := ⟨by decide +kernel, rfl⟩
theorem d_jdk_43_13_20 : Dc jdk_43_method_13_code 20 (.baload) 1 21 := ⟨by decide +kernel, rfl⟩
theorem d_jdk_43_13_21 : Bj jdk_43_method_13_code 21 (.if_icmp .eq 5) 5 24 26 := ⟨by decide +kernel, rfl, by decide, rfl⟩
theorem d_jdk_43_13_26 : Dc jdk_43_method_13_code 26 (.iinc 2 1) 3 29 := ⟨by decide +kernel, rfl⟩
theorem d_jdk_43_13_29 : Bj jdk_43_method_13_code 29 (.goto (-20)) (-20) 32 9 := ⟨by decide +kernel, rfl, by decide, rfl⟩
theorem d_jdk_43_13_24 : Dc jdk_43_method_13_code 24 (.iconst 0) 1 25 := ⟨by decide +kernel, rfl⟩
theorem d_jdk_43_13_25 : Dc jdk_43_method_13_code 25 (.ireturn) 1 26 := ⟨by decide +kernel, rfl⟩
theorem d_jdk_43_13_32 : Dc jdk_43_method_13_code 32 (.iconst 1) 1 33 := ⟨by decide +kernel, rfl⟩
theorem lc_1 : Int32.ofInt 1 = 1 := by decide
theorem d_jdk_43_13_33 : Dc jdk_43_method_13_code 33 (.ireturn) 1 34 := ⟨by decide +kernel, rfl⟩
set_option maxRecDepth 65536 in
set_option maxHeartbeats 40000000 in
theorem lp_le {W : Wd} {K : Kx} (hw : Ws W) (a : Addr) (b : Addr) (r1 : Bool) (ex1 : Bool) (ov1 : Bool) (r2 : Bool) (ex2 : Bool) (ov2 : Bool) (xs : List Int32) (ys : List Int32) (F : List En) (hn : xs.length < 2 ^ 31) (hl : xs.length = ys.length) (Q : Option Value → List En → Prop) (hQ : ∀ z, z = eqI xs ys → Q (some (.int z)) ((a, r1, .inr (.byte, ex1, ov1, csL xs)) :: (b, r2, .inr (.byte, ex2, ov2, csL ys)) :: F)) :
    ∀ (k i : Nat), i + k = xs.length → xs.take i = ys.take i → Wp W K M_le Q ((a, r1, .inr (.byte, ex1, ov1, csL xs)) :: (b, r2, .inr (.byte, ex2, ov2, csL ys)) :: F) 0 0 9 [.val (.ref a), .val (.ref b), .val (.int (ix i))] []
  | 0, i, hi, ht => by
    have hi1 : i < 2 ^ 31 := by omega
    refine Wp.iloadN rfl d_jdk_43_13_9 ?_
    refine Wp.aloadN rfl rfl d_jdk_43_13_10 ?_
    refine Wp.alen (z := (ix xs.length)) 0 rfl (congrArg Nat.toInt32 (csL_len _)) d_jdk_43_13_11 ?_
    refine Wp.icT (flt (fun q => by rw [ix_lt hi1 hn] at q; omega)).2.1 d_jdk_43_13_12 ?_
    refine Wp.iconst lc_1 d_jdk_43_13_32 ?_
    refine Wp.iretN (z := 1) (by simp) rfl (by decide) d_jdk_43_13_33 (by decide) (by decide) ?_
    exact hQ _ (eqI_eq (take_all ht (by omega) hl)).symm
  | k + 1, i, hi, ht => by
    have hi1 : i < 2 ^ 31 := by omega
    have hi2 : i < xs.length := by omega
    obtain ⟨x, hx⟩ : ∃ x, xs[i]? = some x := ⟨_, List.getElem?_eq_getElem hi2⟩
    obtain ⟨y, hy⟩ : ∃ y, ys[i]? = some y := ⟨_, List.getElem?_eq_getElem (by omega)⟩
    refine Wp.iloadN rfl d_jdk_43_13_9 ?_
    refine Wp.aloadN rfl rfl d_jdk_43_13_10 ?_
    refine Wp.alen (z := (ix xs.length)) 0 rfl (congrArg Nat.toInt32 (csL_len _)) d_jdk_43_13_11 ?_
    refine Wp.icF (tlt ((ix_lt hi1 hn).mpr hi2)).2.1 d_jdk_43_13_12 ?_
    refine Wp.aloadN rfl rfl d_jdk_43_13_15 ?_
    refine Wp.iloadN rfl d_jdk_43_13_16 ?_
    refine Wp.baload 0 i rfl (ix_nn hi1) (ix_nat hi1) (csL_get hx) d_jdk_43_13_17 ?_
    refine Wp.aloadN rfl rfl d_jdk_43_13_18 ?_
    refine Wp.iloadN rfl d_jdk_43_13_19 ?_
    refine Wp.baload 1 i rfl (ix_nn hi1) (ix_nat hi1) (csL_get hy) d_jdk_43_13_20 ?_
    by_cases b21_1 : x = y
    · refine Wp.icT (teq b21_1).1 d_jdk_43_13_21 ?_
      refine Wp.iinc (z := (ix (i + 1))) (L' := [.val (.ref a), .val (.ref b), .val (.int (ix (i + 1)))]) rfl (ix_inc i) rfl d_jdk_43_13_26 ?_
      refine Wp.goto d_jdk_43_13_29 ?_
      exact lp_le hw a b r1 ex1 ov1 r2 ex2 ov2 xs ys F hn hl Q hQ k (i + 1) (by omega) (take_snoc ht hx hy b21_1)
    · refine Wp.icF (feq b21_1).1 d_jdk_43_13_21 ?_
      refine Wp.iconst lc_0 d_jdk_43_13_24 ?_
      refine Wp.iretN (z := 0) (by simp) rfl (by decide) d_jdk_43_13_25 (by decide) (by decide) ?_
      exact hQ _ (eqI_ne (get_ne hx hy b21_1)).symm
theorem d_jdk_43_13_0 : Dc jdk_43_method_13_code 0 (.aload_n 0) 1 1 := ⟨by decide +kernel, rfl⟩
theorem d_jdk_43_13_1 : Dc jdk_43_method_13_code 1 (.arraylength) 1 2 := ⟨by decide +kernel, rfl⟩
theorem d_jdk_43_13_2 : Dc jdk_43_method_13_code 2 (.aload_n 1) 1 3 := ⟨by decide +kernel, rfl⟩
theorem d_jdk_43_13_3 : Dc jdk_43_method_13_code 3 (.arraylength) 1 4 := ⟨by decide +kernel, rfl⟩
theorem d_jdk_43_13_4 : Bj jdk_43_method_13_code 4 (.if_icmp .ne 30) 30 7 34 := ⟨by decide +kernel, rfl, by decide, rfl⟩
theorem d_jdk_43_13_7 : Dc jdk_43_method_13_code 7 (.iconst 0) 1 8 := ⟨by decide +kernel, rfl⟩
theorem d_jdk_43_13_8 : Dc jdk_43_method_13_code 8 (.istore_n 2) 1 9 := ⟨by decide +kernel, rfl⟩
theorem d_jdk_43_13_34 : Dc jdk_43_method_13_code 34 (.iconst 0) 1 35 := ⟨by decide +kernel, rfl⟩
theorem d_jdk_43_13_35 : Dc jdk_43_method_13_code 35 (.ireturn) 1 36 := ⟨by decide +kernel, rfl⟩
theorem pf_java_lang_StringLatin1 : plainName "java/lang/StringLatin1" = true := by first | (simp [plainName, overriddenIn]; done) | decide +kernel
set_option maxRecDepth 65536 in
set_option maxHeartbeats 40000000 in
theorem rm_le {W : Wd} (hw : Ws W) (a : Addr) (b : Addr) (r1 : Bool) (ex1 : Bool) (ov1 : Bool) (r2 : Bool) (ex2 : Bool) (ov2 : Bool) (xs : List Int32) (ys : List Int32) (F : List En) (hn : xs.length < 2 ^ 31) (hn2 : ys.length < 2 ^ 31) : Ct W M_le [.ref a, .ref b] ((a, r1, .inr (.byte, ex1, ov1, csL xs)) :: (b, r2, .inr (.byte, ex2, ov2, csL ys)) :: F) (fun v H' => v = some (.int (eqI xs ys)) ∧ H' = ((a, r1, .inr (.byte, ex1, ov1, csL xs)) :: (b, r2, .inr (.byte, ex2, ov2, csL ys)) :: F)) := by
  refine Ct.intro (L0 := [.val (.ref a), .val (.ref b), .unset]) (plainFor_of_name pf_java_lang_StringLatin1) rfl (fun K => ?_)
  by_cases hl : xs.length = ys.length
  · refine Wp.aloadN rfl rfl d_jdk_43_13_0 ?_
    refine Wp.alen (z := (ix xs.length)) 0 rfl (congrArg Nat.toInt32 (csL_len _)) d_jdk_43_13_1 ?_
    refine Wp.aloadN rfl rfl d_jdk_43_13_2 ?_
    refine Wp.alen (z := (ix ys.length)) 1 rfl (congrArg Nat.toInt32 (csL_len _)) d_jdk_43_13_3 ?_
    refine Wp.icF (teq (congrArg ix hl)).2 d_jdk_43_13_4 ?_
    refine Wp.iconst lc_0 d_jdk_43_13_7 ?_
    refine Wp.istoreN (L' := [.val (.ref a), .val (.ref b), .val (.int 0)]) rfl d_jdk_43_13_8 ?_
    exact lp_le hw a b r1 ex1 ov1 r2 ex2 ov2 xs ys F hn hl (fun v H' => v = some (.int (eqI xs ys)) ∧ H' = ((a, r1, .inr (.byte, ex1, ov1, csL xs)) :: (b, r2, .inr (.byte, ex2, ov2, csL ys)) :: F)) (fun z e => ⟨congrArg (fun z => some (Value.int z)) e, rfl⟩) xs.length 0 (by omega) rfl
  · refine Wp.aloadN rfl rfl d_jdk_43_13_0 ?_
    refine Wp.alen (z := (ix xs.length)) 0 rfl (congrArg Nat.toInt32 (csL_len _)) d_jdk_43_13_1 ?_
    refine Wp.aloadN rfl rfl d_jdk_43_13_2 ?_
    refine Wp.alen (z := (ix ys.length)) 1 rfl (congrArg Nat.toInt32 (csL_len _)) d_jdk_43_13_3 ?_
    refine Wp.icT (feq (fun q => hl (ix_eq hn hn2 q))).2 d_jdk_43_13_4 ?_
    refine Wp.iconst lc_0 d_jdk_43_13_34 ?_
    refine Wp.iretN (z := 0) (by simp) rfl (by decide) d_jdk_43_13_35 (by decide) (by decide) ?_
    exact ⟨congrArg (fun z => some (Value.int z)) (eqI_ne (fun q => hl (congrArg List.length q))).symm, rfl⟩
theorem d_jdk_42_66_0 : Dc jdk_42_method_66_code 0 (.aload_n 0) 1 1 := ⟨by decide +kernel, rfl⟩
theorem d_jdk_42_66_1 : Dc jdk_42_method_66_code 1 (.aload_n 1) 1 2 := ⟨by decide +kernel, rfl⟩
theorem d_jdk_42_66_2 : Bj jdk_42_method_66_code 2 (.if_acmp .ne 5) 5 5 7 := ⟨by decide +kernel, rfl, by decide, rfl⟩
theorem d_jdk_42_66_5 : Dc jdk_42_method_66_code 5 (.iconst 1) 1 6 := ⟨by decide +kernel, rfl⟩
theorem d_jdk_42_66_6 : Dc jdk_42_method_66_code 6 (.ireturn) 1 7 := ⟨by decide +kernel, rfl⟩
theorem d_jdk_42_66_7 : Dc jdk_42_method_66_code 7 (.aload_n 1) 1 8 := ⟨by decide +kernel, rfl⟩
theorem d_jdk_42_66_8 : Dc jdk_42_method_66_code 8 (.instanceof 10) 3 11 := ⟨by decide +kernel, rfl⟩
theorem w_58 {W : Wd} (hw : Ws W) : Wok W (Jvm.Cond.classLink "java/lang/String" (10 : Nat) "java/lang/String") := hw.1 _ (List.mem_of_getElem? (i := 58) rfl)
theorem d_jdk_42_66_11 : Bj jdk_42_method_66_code 11 (.ifCond .eq 43) 43 14 54 := ⟨by decide +kernel, rfl, by decide, rfl⟩
theorem d_jdk_42_66_14 : Dc jdk_42_method_66_code 14 (.aload_n 1) 1 15 := ⟨by decide +kernel, rfl⟩
theorem d_jdk_42_66_15 : Dc jdk_42_method_66_code 15 (.checkcast 10) 3 18 := ⟨by decide +kernel, rfl⟩
theorem d_jdk_42_66_18 : Dc jdk_42_method_66_code 18 (.astore_n 2) 1 19 := ⟨by decide +kernel, rfl⟩
theorem d_jdk_42_66_19 : Dc jdk_42_method_66_code 19 (.getstatic 38) 3 22 := ⟨by decide +kernel, rfl⟩
theorem d_jdk_42_66_22 : Bj jdk_42_method_66_code 22 (.ifCond .eq 14) 14 25 36 := ⟨by decide +kernel, rfl, by decide, rfl⟩
theorem d_jdk_42_66_25 : Dc jdk_42_method_66_code 25 (.aload_n 0) 1 26 := ⟨by decide +kernel, rfl⟩
theorem d_jdk_42_66_26 : Dc jdk_42_method_66_code 26 (.getfield 15) 3 29 := ⟨by decide +kernel, rfl⟩
theorem d_jdk_42_66_29 : Dc jdk_42_method_66_code 29 (.aload_n 2) 1 30 := ⟨by decide +kernel, rfl⟩
theorem d_jdk_42_66_30 : Dc jdk_42_method_66_code 30 (.getfield 15) 3 33 := ⟨by decide +kernel, rfl⟩
theorem d_jdk_42_66_33 : Bj jdk_42_method_66_code 33 (.if_icmp .ne 21) 21 36 54 := ⟨by decide +kernel, rfl, by decide, rfl⟩
theorem d_jdk_42_66_36 : Dc jdk_42_method_66_code 36 (.aload_n 0) 1 37 := ⟨by decide +kernel, rfl⟩
theorem d_jdk_42_66_37 : Dc jdk_42_method_66_code 37 (.getfield 9) 3 40 := ⟨by decide +kernel, rfl⟩
theorem d_jdk_42_66_40 : Dc jdk_42_method_66_code 40 (.aload_n 2) 1 41 := ⟨by decide +kernel, rfl⟩
theorem d_jdk_42_66_41 : Dc jdk_42_method_66_code 41 (.getfield 9) 3 44 := ⟨by decide +kernel, rfl⟩
theorem d_jdk_42_66_44 : Dc jdk_42_method_66_code 44 (.invokestatic 541) 3 47 := ⟨by decide +kernel, rfl⟩
theorem pp_1_3_0_2 : [1, 3, 0, 2].isPerm (List.range 4) = true := by decide +kernel
theorem w_62 {W : Wd} (hw : Ws W) : Wok W (Jvm.Cond.code ({ cls := "java/lang/StringLatin1", name := "equals", desc := "([B[B)Z" } : Jvm.MethodName) jdk_43_method_13_code (3 : Nat) (Option.some Jvm.ClassFile.FieldType.boolean)) := hw.1 _ (List.mem_of_getElem? (i := 62) rfl)
theorem w_61 {W : Wd} (hw : Ws W) : Wok W (Jvm.Cond.initialized "java/lang/StringLatin1") := hw.1 _ (List.mem_of_getElem? (i := 61) rfl)
theorem pd___B_B_Z : parseMethodDescriptor "([B[B)Z" = some ⟨[(.array .byte), (.array .byte)], some .boolean⟩ := by decide +kernel
theorem mk_M_le {W : Wd} (hw : Ws W) : Mk W M_le ⟨"java/lang/StringLatin1", "equals", "([B[B)Z"⟩ 2 := Mk.of nm_M_le rfl rfl rfl (w_62 hw) (w_61 hw) (mkLen pd___B_B_Z rfl) (by decide)
theorem w_59 {W : Wd} (hw : Ws W) : Wok W (Jvm.Cond.methodLink "java/lang/String" (541 : Nat) ({ cls := "java/lang/StringLatin1", name := "equals", desc := "([B[B)Z" } : Jvm.MethodName)) := hw.1 _ (List.mem_of_getElem? (i := 59) rfl)
theorem w_60 {W : Wd} (hw : Ws W) : Wok W (Jvm.Cond.static ({ cls := "java/lang/StringLatin1", name := "equals", desc := "([B[B)Z" } : Jvm.MethodName)) := hw.1 _ (List.mem_of_getElem? (i := 60) rfl)
theorem d_jdk_42_66_47 : Bj jdk_42_method_66_code 47 (.ifCond .eq 7) 7 50 54 := ⟨by decide +kernel, rfl, by decide, rfl⟩
theorem d_jdk_42_66_54 : Dc jdk_42_method_66_code 54 (.iconst 0) 1 55 := ⟨by decide +kernel, rfl⟩
theorem d_jdk_42_66_55 : Dc jdk_42_method_66_code 55 (.ireturn) 1 56 := ⟨by decide +kernel, rfl⟩
theorem pp_2_0_3_1 : [2, 0, 3, 1].isPerm (List.range 4) = true := by decide +kernel
theorem d_jdk_42_66_50 : Dc jdk_42_method_66_code 50 (.iconst 1) 1 51 := ⟨by decide +kernel, rfl⟩
theorem d_jdk_42_66_51 : Bj jdk_42_method_66_code 51 (.goto 4) 4 54 55 := ⟨by decide +kernel, rfl, by decide, rfl⟩
def M_se : Mt := (⟨"java/lang/String", "equals", "(Ljava/lang/Object;)Z"⟩, jdk_42_method_66_code, 3, some .boolean, ⟨1, 0, 0, 14⟩)
theorem nm_M_se : mN M_se = ⟨"java/lang/String", "equals", "(Ljava/lang/Object;)Z"⟩ := by delta mN M_se; rfl
set_option maxRecDepth 65536 in
set_option maxHeartbeats 40000000 in
theorem rm_se {W : Wd} (hw : Ws W) (s : Addr) (t : Addr) (q1 : Bool) (q2 : Bool) (a : Addr) (b : Addr) (r1 : Bool) (ex1 : Bool) (ov1 : Bool) (r2 : Bool) (ex2 : Bool) (ov2 : Bool) (xs : List Int32) (ys : List Int32) (F : List En) (hn : xs.length < 2 ^ 31) (hn2 : ys.length < 2 ^ 31) : Ct W M_se [.ref s, .ref t] ((oStr q1 s (.ref a) (.int 0)) :: (a, r1, .inr (.byte, ex1, ov1, csL xs)) :: (oStr q2 t (.ref b) (.int 0)) :: (b, r2, .inr (.byte, ex2, ov2, csL ys)) :: F) (fun v H' => v = some (.int (eqI xs ys)) ∧ H' = ((oStr q1 s (.ref a) (.int 0)) :: (a, r1, .inr (.byte, ex1, ov1, csL xs)) :: (oStr q2 t (.ref b) (.int 0)) :: (b, r2, .inr (.byte, ex2, ov2, csL ys)) :: F)) := by
  refine Ct.intro (L0 := [.val (.ref s), .val (.ref t), .unset]) (plainFor_of_name pf_java_lang_String) rfl (fun K => ?_)
  by_cases e0 : s = t
  · subst e0
    refine Wp.know (P := xs = ys) (fun h P => ?_) (fun e1 => ?_)
    · have o1 : ObOk _ _ _ _ _ := P.at (i := 0) rfl
      have o2 : ObOk _ _ _ _ _ := P.at (i := 2) rfl
      have e2 : Value.ref a = Value.ref b := Fld.uniq (C := "java/lang/String") (n := "value") (d := "[B") (o1.2.1 ("java/lang/String", "value", "[B", .ref a) (List.mem_of_getElem? (i := 0) rfl)) (o2.2.1 ("java/lang/String", "value", "[B", .ref b) (List.mem_of_getElem? (i := 0) rfl))
      cases e2
      have a1 : ArOk _ _ _ _ _ _ _ := P.at (i := 1) rfl
      have a2 : ArOk _ _ _ _ _ _ _ := P.at (i := 3) rfl
      exact csL_inj (ArOk.uniq a1 a2)
    · refine Wp.aloadN rfl rfl d_jdk_42_66_0 ?_
      refine Wp.aloadN rfl rfl d_jdk_42_66_1 ?_
      refine Wp.acF rfl rfl (acT_ne _) d_jdk_42_66_2 ?_
      refine Wp.iconst lc_1 d_jdk_42_66_5 ?_
      refine Wp.iretN (z := 1) (by simp) rfl (by decide) d_jdk_42_66_6 (by decide) (by decide) ?_
      exact ⟨congrArg (fun z => some (Value.int z)) (eqI_eq e1).symm, rfl⟩
  · refine Wp.aloadN rfl rfl d_jdk_42_66_0 ?_
    refine Wp.aloadN rfl rfl d_jdk_42_66_1 ?_
    refine Wp.acT rfl rfl (acF_ne e0) d_jdk_42_66_2 ?_
    refine Wp.aloadN rfl rfl d_jdk_42_66_7 ?_
    refine Wp.inst nm_M_se (w_58 hw) (fun _ P => insSelf P 2 rfl) d_jdk_42_66_8 ?_
    refine Wp.ifF (by decide) d_jdk_42_66_11 ?_
    refine Wp.aloadN rfl rfl d_jdk_42_66_14 ?_
    refine Wp.cast nm_M_se (w_58 hw) (fun _ P => insSelf P 2 rfl) d_jdk_42_66_15 ?_
    refine Wp.astoreN (L' := [.val (.ref s), .val (.ref t), .val (.ref t)]) rfl rfl d_jdk_42_66_18 ?_
    obtain ⟨cs1, Fcs1, ncs1⟩ := st_compact hw
    refine Wp.getS nm_M_se (w_14 hw) Via.refl Fcs1 d_jdk_42_66_19 ?_
    refine Wp.ifF (feq ncs1).1 d_jdk_42_66_22 ?_
    refine Wp.aloadN rfl rfl d_jdk_42_66_25 ?_
    refine Wp.getF nm_M_se (host := "") (Or.inl (w_26 hw)) Via.refl 0 1 rfl rfl d_jdk_42_66_26 ?_
    refine Wp.aloadN rfl rfl d_jdk_42_66_29 ?_
    refine Wp.getF nm_M_se (host := "") (Or.inl (w_26 hw)) Via.refl 2 1 rfl rfl d_jdk_42_66_30 ?_
    refine Wp.icF (by decide) d_jdk_42_66_33 ?_
    refine Wp.aloadN rfl rfl d_jdk_42_66_36 ?_
    refine Wp.getF nm_M_se (host := "") (Or.inl (w_28 hw)) Via.refl 0 0 rfl rfl d_jdk_42_66_37 ?_
    refine Wp.aloadN rfl rfl d_jdk_42_66_40 ?_
    refine Wp.getF nm_M_se (host := "") (Or.inl (w_28 hw)) Via.refl 2 0 rfl rfl d_jdk_42_66_41 ?_
    refine Wp.perm [1, 3, 0, 2] 4 pp_1_3_0_2 (H' := ((a, r1, .inr (.byte, ex1, ov1, csL xs)) :: (b, r2, .inr (.byte, ex2, ov2, csL ys)) :: (oStr q1 s (.ref a) (.int 0)) :: (oStr q2 t (.ref b) (.int 0)) :: F)) rfl ?_
    refine Wp.callS nm_M_se (rm_le hw a b r1 ex1 ov1 r2 ex2 ov2 xs ys _ hn hn2) (mk_M_le hw) (w_59 hw) (w_60 hw) rfl rfl (Wn := 0) rfl rfl (by decide) d_jdk_42_66_44 ?_
    rintro _ _ ⟨rfl, rfl⟩
    by_cases b47_2 : (eqI xs ys) = 0
    · refine Wp.ifT (teq b47_2).1 d_jdk_42_66_47 ?_
      refine Wp.iconst lc_0 d_jdk_42_66_54 ?_
      refine Wp.perm [2, 0, 3, 1] 4 pp_2_0_3_1 (H' := ((oStr q1 s (.ref a) (.int 0)) :: (a, r1, .inr (.byte, ex1, ov1, csL xs)) :: (oStr q2 t (.ref b) (.int 0)) :: (b, r2, .inr (.byte, ex2, ov2, csL ys)) :: F)) rfl ?_
      refine Wp.iretN (z := 0) (by simp) rfl (by decide) d_jdk_42_66_55 (by decide) (by decide) ?_
      exact ⟨congrArg (fun z => some (Value.int z)) b47_2.symm, rfl⟩
    · refine Wp.ifF (feq b47_2).1 d_jdk_42_66_47 ?_
      refine Wp.iconst lc_1 d_jdk_42_66_50 ?_
      refine Wp.goto d_jdk_42_66_51 ?_
      refine Wp.perm [2, 0, 3, 1] 4 pp_2_0_3_1 (H' := ((oStr q1 s (.ref a) (.int 0)) :: (a, r1, .inr (.byte, ex1, ov1, csL xs)) :: (oStr q2 t (.ref b) (.int 0)) :: (b, r2, .inr (.byte, ex2, ov2, csL ys)) :: F)) rfl ?_
      refine Wp.iretN (z := 1) (by simp) rfl (by decide) d_jdk_42_66_55 (by decide) (by decide) ?_
      exact ⟨congrArg (fun z => some (Value.int z)) (eqI_one b47_2).symm, rfl⟩
theorem d_prog_14_1_0 : Dc prog_14_method_1_code 0 (.getstatic 10) 3 3 := ⟨by decide +kernel, rfl⟩
theorem w_37 {W : Wd} (hw : Ws W) : Wok W (Jvm.Cond.fieldLink "com/example/tallyhoard/tallyhoard/Rule" (10 : Nat) "com/example/tallyhoard/tallyhoard/Rule" "$VALUES" "[Lcom/example/tallyhoard/tallyhoard/Rule;") := hw.1 _ (List.mem_of_getElem? (i := 37) rfl)
theorem d_prog_14_1_3 : Dc prog_14_method_1_code 3 (.invokevirtual 14) 3 6 := ⟨by decide +kernel, rfl⟩
theorem w_39 {W : Wd} (hw : Ws W) : Wok W (Jvm.Cond.methodLink "com/example/tallyhoard/tallyhoard/Rule" (14 : Nat) ({ cls := "[Lcom/example/tallyhoard/tallyhoard/Rule;", name := "clone", desc := "()Ljava/lang/Object;" } : Jvm.MethodName)) := hw.1 _ (List.mem_of_getElem? (i := 39) rfl)
theorem w_40 {W : Wd} (hw : Ws W) : Wok W (Jvm.Cond.sameMethod "[Lcom/example/tallyhoard/tallyhoard/Rule;" "java/lang/Object" "clone" "()Ljava/lang/Object;") := hw.1 _ (List.mem_of_getElem? (i := 40) rfl)
theorem w_44 {W : Wd} (hw : Ws W) : Wok W (Jvm.Cond.native ({ cls := "java/lang/Object", name := "clone", desc := "()Ljava/lang/Object;" } : Jvm.MethodName)) := hw.1 _ (List.mem_of_getElem? (i := 44) rfl)
theorem w_42 {W : Wd} (hw : Ws W) : Wok W (Jvm.Cond.instanceMethod ({ cls := "java/lang/Object", name := "clone", desc := "()Ljava/lang/Object;" } : Jvm.MethodName)) := hw.1 _ (List.mem_of_getElem? (i := 42) rfl)
theorem w_43 {W : Wd} (hw : Ws W) : Wok W (Jvm.Cond.selects "[Lcom/example/tallyhoard/tallyhoard/Rule;" ({ cls := "[Lcom/example/tallyhoard/tallyhoard/Rule;", name := "clone", desc := "()Ljava/lang/Object;" } : Jvm.MethodName) ({ cls := "java/lang/Object", name := "clone", desc := "()Ljava/lang/Object;" } : Jvm.MethodName)) := hw.1 _ (List.mem_of_getElem? (i := 43) rfl)
theorem w_45 {W : Wd} (hw : Ws W) : Wok W (Jvm.Cond.castable "[Lcom/example/tallyhoard/tallyhoard/Rule;" "java/lang/Cloneable") := hw.1 _ (List.mem_of_getElem? (i := 45) rfl)
theorem d_prog_14_1_6 : Dc prog_14_method_1_code 6 (.checkcast 15) 3 9 := ⟨by decide +kernel, rfl⟩
theorem w_49 {W : Wd} (hw : Ws W) : Wok W (Jvm.Cond.classLink "com/example/tallyhoard/tallyhoard/Rule" (15 : Nat) "[Lcom/example/tallyhoard/tallyhoard/Rule;") := hw.1 _ (List.mem_of_getElem? (i := 49) rfl)
theorem d_prog_14_1_9 : Dc prog_14_method_1_code 9 (.areturn) 1 10 := ⟨by decide +kernel, rfl⟩
def M_vals : Mt := (⟨"com/example/tallyhoard/tallyhoard/Rule", "values", "()[Lcom/example/tallyhoard/tallyhoard/Rule;"⟩, prog_14_method_1_code, 0, some (.array (.object "com/example/tallyhoard/tallyhoard/Rule")), ⟨1, 1, 2, 14⟩)
theorem nm_M_vals : mN M_vals = ⟨"com/example/tallyhoard/tallyhoard/Rule", "values", "()[Lcom/example/tallyhoard/tallyhoard/Rule;"⟩ := by delta mN M_vals; rfl
theorem pf_com_example_tallyhoard_tallyhoard_Rule : plainName "com/example/tallyhoard/tallyhoard/Rule" = true := by first | (simp [plainName, overriddenIn]; done) | decide +kernel
set_option maxRecDepth 65536 in
set_option maxHeartbeats 40000000 in
theorem rm_vals {W : Wd} (hw : Ws W) (va : Addr) (wo : Addr) (xo : Addr) (F : List En) (hv : Sta (wZ W) (wZ W).heap "com/example/tallyhoard/tallyhoard/Rule" "$VALUES" "[Lcom/example/tallyhoard/tallyhoard/Rule;" (.ref va)) : Ct W M_vals [] ((va, false, .inr ((.object "com/example/tallyhoard/tallyhoard/Rule"), true, false, [.ref wo, .ref xo])) :: F) (fun v H' => ∃ q, v = some (.ref q) ∧ H' = ((q, true, .inr ((.object "com/example/tallyhoard/tallyhoard/Rule"), true, false, [.ref wo, .ref xo])) :: (va, false, .inr ((.object "com/example/tallyhoard/tallyhoard/Rule"), true, false, [.ref wo, .ref xo])) :: F)) := by
  refine Ct.intro (L0 := []) (plainFor_of_name pf_com_example_tallyhoard_tallyhoard_Rule) rfl (fun K => ?_)
  refine Wp.getS nm_M_vals (w_37 hw) Via.refl hv d_prog_14_1_0 ?_
  refine Wp.clone nm_M_vals (kk := 2) 0 rfl rfl (by decide) (w_39 hw) (w_40 hw) (w_44 hw) (w_42 hw) (w_43 hw) (w_45 hw) (Wn := 0) rfl rfl (by decide) (by decide) (by decide) (by decide) d_prog_14_1_3 (fun a1 => ?_)
  refine Wp.cast nm_M_vals (w_49 hw) (fun _ P => insArr P 0 rfl (by decide)) d_prog_14_1_6 ?_
  refine Wp.aret rfl rfl rfl d_prog_14_1_9 (by decide) (by decide) ?_
  exact ⟨a1, rfl, rfl⟩
theorem d_prog_14_4_0 : Dc prog_14_method_4_code 0 (.aload_n 0) 1 1 := ⟨by decide +kernel, rfl⟩
theorem d_prog_14_4_1 : Dc prog_14_method_4_code 1 (.getfield 29) 3 4 := ⟨by decide +kernel, rfl⟩
theorem w_51 {W : Wd} (hw : Ws W) : Wok W (Jvm.Cond.fieldLink "com/example/tallyhoard/tallyhoard/Rule" (29 : Nat) "com/example/tallyhoard/tallyhoard/Rule" "label" "Ljava/lang/String;") := hw.1 _ (List.mem_of_getElem? (i := 51) rfl)
theorem d_prog_14_4_4 : Dc prog_14_method_4_code 4 (.areturn) 1 5 := ⟨by decide +kernel, rfl⟩
def M_label : Mt := (⟨"com/example/tallyhoard/tallyhoard/Rule", "label", "()Ljava/lang/String;"⟩, prog_14_method_4_code, 1, some (.object "java/lang/String"), ⟨0, 0, 0, 0⟩)
theorem nm_M_label : mN M_label = ⟨"com/example/tallyhoard/tallyhoard/Rule", "label", "()Ljava/lang/String;"⟩ := by delta mN M_label; rfl
set_option maxRecDepth 65536 in
set_option maxHeartbeats 40000000 in
theorem rm_label {W : Wd} (hw : Ws W) (o : Addr) (l : Addr) (r : Bool) (F : List En) : Ct W M_label [.ref o] ((oRule r o (.ref l)) :: F) (fun v H' => v = some (.ref l) ∧ H' = ((oRule r o (.ref l)) :: F)) := by
  refine Ct.intro (L0 := [.val (.ref o)]) (plainFor_of_name pf_com_example_tallyhoard_tallyhoard_Rule) rfl (fun K => ?_)
  refine Wp.aloadN rfl rfl d_prog_14_4_0 ?_
  refine Wp.getF nm_M_label (host := "") (Or.inl (w_51 hw)) Via.refl 0 0 rfl rfl d_prog_14_4_1 ?_
  refine Wp.aret rfl rfl rfl d_prog_14_4_4 (by decide) (by decide) ?_
  exact ⟨rfl, rfl⟩
theorem d_prog_14_5_0 : Dc prog_14_method_5_code 0 (.invokestatic 37) 3 3 := ⟨by decide +kernel, rfl⟩
theorem w_36 {W : Wd} (hw : Ws W) : Wok W (Jvm.Cond.code ({ cls := "com/example/tallyhoard/tallyhoard/Rule", name := "values", desc := "()[Lcom/example/tallyhoard/tallyhoard/Rule;" } : Jvm.MethodName) prog_14_method_1_code (0 : Nat) (Option.some (Jvm.ClassFile.FieldType.array (Jvm.ClassFile.FieldType.object "com/example/tallyhoard/tallyhoard/Rule")))) := hw.1 _ (List.mem_of_getElem? (i := 36) rfl)
theorem w_32 {W : Wd} (hw : Ws W) : Wok W (Jvm.Cond.initialized "com/example/tallyhoard/tallyhoard/Rule") := hw.1 _ (List.mem_of_getElem? (i := 32) rfl)
theorem pd____Lcom_example_tallyhoard_tallyhoard_Rule_ : parseMethodDescriptor "()[Lcom/example/tallyhoard/tallyhoard/Rule;" = some ⟨[], some (.array (.object "com/example/tallyhoard/tallyhoard/Rule"))⟩ := by decide +kernel
theorem mk_M_vals {W : Wd} (hw : Ws W) : Mk W M_vals ⟨"com/example/tallyhoard/tallyhoard/Rule", "values", "()[Lcom/example/tallyhoard/tallyhoard/Rule;"⟩ 0 := Mk.of nm_M_vals rfl rfl rfl (w_36 hw) (w_32 hw) (mkLen pd____Lcom_example_tallyhoard_tallyhoard_Rule_ rfl) (by decide)
theorem w_34 {W : Wd} (hw : Ws W) : Wok W (Jvm.Cond.methodLink "com/example/tallyhoard/tallyhoard/Rule" (37 : Nat) ({ cls := "com/example/tallyhoard/tallyhoard/Rule", name := "values", desc := "()[Lcom/example/tallyhoard/tallyhoard/Rule;" } : Jvm.MethodName)) := hw.1 _ (List.mem_of_getElem? (i := 34) rfl)
theorem w_35 {W : Wd} (hw : Ws W) : Wok W (Jvm.Cond.static ({ cls := "com/example/tallyhoard/tallyhoard/Rule", name := "values", desc := "()[Lcom/example/tallyhoard/tallyhoard/Rule;" } : Jvm.MethodName)) := hw.1 _ (List.mem_of_getElem? (i := 35) rfl)
theorem d_prog_14_5_3 : Dc prog_14_method_5_code 3 (.astore_n 1) 1 4 := ⟨by decide +kernel, rfl⟩
theorem d_prog_14_5_4 : Dc prog_14_method_5_code 4 (.aload_n 1) 1 5 := ⟨by decide +kernel, rfl⟩
theorem d_prog_14_5_5 : Dc prog_14_method_5_code 5 (.arraylength) 1 6 := ⟨by decide +kernel, rfl⟩
theorem d_prog_14_5_6 : Dc prog_14_method_5_code 6 (.istore_n 2) 1 7 := ⟨by decide +kernel, rfl⟩
theorem d_prog_14_5_7 : Dc prog_14_method_5_code 7 (.iconst 0) 1 8 := ⟨by decide +kernel, rfl⟩
theorem d_prog_14_5_8 : Dc prog_14_method_5_code 8 (.istore_n 3) 1 9 := ⟨by decide +kernel, rfl⟩
theorem d_prog_14_5_9 : Dc prog_14_method_5_code 9 (.iload_n 3) 1 10 := ⟨by decide +kernel, rfl⟩
theorem d_prog_14_5_10 : Dc prog_14_method_5_code 10 (.iload_n 2) 1 11 := ⟨by decide +kernel, rfl⟩
theorem d_prog_14_5_11 : Bj prog_14_method_5_code 11 (.if_icmp .ge 29) 29 14 40 := ⟨by decide +kernel, rfl, by decide, rfl⟩
theorem d_prog_14_5_14 : Dc prog_14_method_5_code 14 (.aload_n 1) 1 15 := ⟨by decide +kernel, rfl⟩
theorem d_prog_14_5_15 : Dc prog_14_method_5_code 15 (.iload_n 3) 1 16 := ⟨by decide +kernel, rfl⟩
theorem d_prog_14_5_16 : Dc prog_14_method_5_code 16 (.aaload) 1 17 := ⟨by decide +kernel, rfl⟩
theorem d_prog_14_5_17 : Dc prog_14_method_5_code 17 (.astore 4) 2 19 := ⟨by decide +kernel, rfl⟩
theorem d_prog_14_5_19 : Dc prog_14_method_5_code 19 (.aload 4) 2 21 := ⟨by decide +kernel, rfl⟩
theorem d_prog_14_5_21 : Dc prog_14_method_5_code 21 (.getfield 29) 3 24 := ⟨by decide +kernel, rfl⟩
theorem d_prog_14_5_24 : Dc prog_14_method_5_code 24 (.aload_n 0) 1 25 := ⟨by decide +kernel, rfl⟩
theorem d_prog_14_5_25 : Dc prog_14_method_5_code 25 (.invokevirtual 41) 3 28 := ⟨by decide +kernel, rfl⟩
theorem w_56 {W : Wd} (hw : Ws W) : Wok W (Jvm.Cond.selects "java/lang/String" ({ cls := "java/lang/String", name := "equals", desc := "(Ljava/lang/Object;)Z" } : Jvm.MethodName) ({ cls := "java/lang/String", name := "equals", desc := "(Ljava/lang/Object;)Z" } : Jvm.MethodName)) := hw.1 _ (List.mem_of_getElem? (i := 56) rfl)
theorem pp_5_6_2_3_0_1_4 : [5, 6, 2, 3, 0, 1, 4].isPerm (List.range 7) = true := by decide +kernel
theorem w_57 {W : Wd} (hw : Ws W) : Wok W (Jvm.Cond.code ({ cls := "java/lang/String", name := "equals", desc := "(Ljava/lang/Object;)Z" } : Jvm.MethodName) jdk_42_method_66_code (3 : Nat) (Option.some Jvm.ClassFile.FieldType.boolean)) := hw.1 _ (List.mem_of_getElem? (i := 57) rfl)
theorem pd__Ljava_lang_Object__Z : parseMethodDescriptor "(Ljava/lang/Object;)Z" = some ⟨[(.object "java/lang/Object")], some .boolean⟩ := by decide +kernel
theorem mk_M_se {W : Wd} (hw : Ws W) : Mk W M_se ⟨"java/lang/String", "equals", "(Ljava/lang/Object;)Z"⟩ 1 := Mk.of nm_M_se rfl rfl rfl (w_57 hw) (w_3 hw) (mkLen pd__Ljava_lang_Object__Z rfl) (by decide)
theorem w_53 {W : Wd} (hw : Ws W) : Wok W (Jvm.Cond.methodLink "com/example/tallyhoard/tallyhoard/Rule" (41 : Nat) ({ cls := "java/lang/String", name := "equals", desc := "(Ljava/lang/Object;)Z" } : Jvm.MethodName)) := hw.1 _ (List.mem_of_getElem? (i := 53) rfl)
theorem w_54 {W : Wd} (hw : Ws W) : Wok W (Jvm.Cond.declares ({ cls := "java/lang/String", name := "equals", desc := "(Ljava/lang/Object;)Z" } : Jvm.MethodName)) := hw.1 _ (List.mem_of_getElem? (i := 54) rfl)
theorem w_55 {W : Wd} (hw : Ws W) : Wok W (Jvm.Cond.instanceMethod ({ cls := "java/lang/String", name := "equals", desc := "(Ljava/lang/Object;)Z" } : Jvm.MethodName)) := hw.1 _ (List.mem_of_getElem? (i := 55) rfl)
theorem d_prog_14_5_28 : Bj prog_14_method_5_code 28 (.ifCond .eq 6) 6 31 34 := ⟨by decide +kernel, rfl, by decide, rfl⟩
theorem d_prog_14_5_31 : Dc prog_14_method_5_code 31 (.aload 4) 2 33 := ⟨by decide +kernel, rfl⟩
theorem d_prog_14_5_33 : Dc prog_14_method_5_code 33 (.areturn) 1 34 := ⟨by decide +kernel, rfl⟩
theorem pp_2_3_5_6_0_1_7_8_9_4 : [2, 3, 5, 6, 0, 1, 7, 8, 9, 4].isPerm (List.range 10) = true := by decide +kernel
def M_olW : Mt := (⟨"com/example/tallyhoard/tallyhoard/Rule", "ofLabel", "(Ljava/lang/String;)Lcom/example/tallyhoard/tallyhoard/Rule;"⟩, prog_14_method_5_code, 5, some (.object "com/example/tallyhoard/tallyhoard/Rule"), ⟨2, 1, 2, 28⟩)
theorem nm_M_olW : mN M_olW = ⟨"com/example/tallyhoard/tallyhoard/Rule", "ofLabel", "(Ljava/lang/String;)Lcom/example/tallyhoard/tallyhoard/Rule;"⟩ := by delta mN M_olW; rfl
set_option maxRecDepth 65536 in
set_option maxHeartbeats 40000000 in
theorem rm_olW {W : Wd} (hw : Ws W) (s : Addr) (b : Addr) (va : Addr) (wo : Addr) (ws : Addr) (wb : Addr) (xo : Addr) (xs : Addr) (xb : Addr) (F : List En) (hv : Sta (wZ W) (wZ W).heap "com/example/tallyhoard/tallyhoard/Rule" "$VALUES" "[Lcom/example/tallyhoard/tallyhoard/Rule;" (.ref va)) : Ct W M_olW [.ref s] ((oStr true s (.ref b) (.int 0)) :: (eB b [.int (by8 119), .int (by8 111), .int (by8 114), .int (by8 100), .int (by8 115)]) :: (va, false, .inr ((.object "com/example/tallyhoard/tallyhoard/Rule"), true, false, [.ref wo, .ref xo])) :: (oRule false wo (.ref ws)) :: (oStr false ws (.ref wb) (.int 0)) :: (wb, false, .inr (.byte, false, false, [.int 119, .int 111, .int 114, .int 100, .int 115])) :: (oRule false xo (.ref xs)) :: (oStr false xs (.ref xb) (.int 0)) :: (xb, false, .inr (.byte, false, false, [.int 119, .int 104, .int 105, .int 116, .int 101, .int 115, .int 112, .int 97, .int 99, .int 101])) :: F) (fun v H' => v = some (.ref wo) ∧ H' = ((oStr true s (.ref b) (.int 0)) :: (eB b [.int (by8 119), .int (by8 111), .int (by8 114), .int (by8 100), .int (by8 115)]) :: (va, false, .inr ((.object "com/example/tallyhoard/tallyhoard/Rule"), true, false, [.ref wo, .ref xo])) :: (oRule false wo (.ref ws)) :: (oStr false ws (.ref wb) (.int 0)) :: (wb, false, .inr (.byte, false, false, [.int 119, .int 111, .int 114, .int 100, .int 115])) :: (oRule false xo (.ref xs)) :: (oStr false xs (.ref xb) (.int 0)) :: (xb, false, .inr (.byte, false, false, [.int 119, .int 104, .int 105, .int 116, .int 101, .int 115, .int 112, .int 97, .int 99, .int 101])) :: F)) := by
  refine Ct.intro (L0 := [.val (.ref s), .unset, .unset, .unset, .unset]) (plainFor_of_name pf_com_example_tallyhoard_tallyhoard_Rule) rfl (fun K => ?_)
  refine Wp.perm [2, 0, 1] 3 pp_2_0_1 (H' := ((va, false, .inr ((.object "com/example/tallyhoard/tallyhoard/Rule"), true, false, [.ref wo, .ref xo])) :: (oStr true s (.ref b) (.int 0)) :: (eB b [.int (by8 119), .int (by8 111), .int (by8 114), .int (by8 100), .int (by8 115)]) :: (oRule false wo (.ref ws)) :: (oStr false ws (.ref wb) (.int 0)) :: (wb, false, .inr (.byte, false, false, [.int 119, .int 111, .int 114, .int 100, .int 115])) :: (oRule false xo (.ref xs)) :: (oStr false xs (.ref xb) (.int 0)) :: (xb, false, .inr (.byte, false, false, [.int 119, .int 104, .int 105, .int 116, .int 101, .int 115, .int 112, .int 97, .int 99, .int 101])) :: F)) rfl ?_
  refine Wp.callS nm_M_olW (rm_vals hw va wo xo _ hv) (mk_M_vals hw) (w_34 hw) (w_35 hw) rfl rfl (Wn := 0) rfl rfl (by decide) d_prog_14_5_0 ?_
  rintro _ _ ⟨q_1, rfl, rfl⟩
  refine Wp.astoreN (L' := [.val (.ref s), .val (.ref q_1), .unset, .unset, .unset]) rfl rfl d_prog_14_5_3 ?_
  refine Wp.aloadN rfl rfl d_prog_14_5_4 ?_
  refine Wp.alen (z := 2) 0 rfl rfl d_prog_14_5_5 ?_
  refine Wp.istoreN (L' := [.val (.ref s), .val (.ref q_1), .val (.int 2), .unset, .unset]) rfl d_prog_14_5_6 ?_
  refine Wp.iconst lc_0 d_prog_14_5_7 ?_
  refine Wp.istoreN (L' := [.val (.ref s), .val (.ref q_1), .val (.int 2), .val (.int 0), .unset]) rfl d_prog_14_5_8 ?_
  refine Wp.iloadN rfl d_prog_14_5_9 ?_
  refine Wp.iloadN rfl d_prog_14_5_10 ?_
  refine Wp.icF (by decide) d_prog_14_5_11 ?_
  refine Wp.aloadN rfl rfl d_prog_14_5_14 ?_
  refine Wp.iloadN rfl d_prog_14_5_15 ?_
  refine Wp.aaload 0 0 rfl rfl (by decide) (by decide) rfl d_prog_14_5_16 ?_
  refine Wp.astore (L' := [.val (.ref s), .val (.ref q_1), .val (.int 2), .val (.int 0), .val (.ref wo)]) rfl rfl d_prog_14_5_17 ?_
  refine Wp.aload rfl rfl d_prog_14_5_19 ?_
  refine Wp.getF nm_M_olW (host := "") (Or.inl (w_51 hw)) Via.refl 4 0 rfl rfl d_prog_14_5_21 ?_
  refine Wp.aloadN rfl rfl d_prog_14_5_24 ?_
  refine Wp.perm [5, 6, 2, 3, 0, 1, 4] 7 pp_5_6_2_3_0_1_4 (H' := ((oStr false ws (.ref wb) (.int 0)) :: (wb, false, .inr (.byte, false, false, [.int 119, .int 111, .int 114, .int 100, .int 115])) :: (oStr true s (.ref b) (.int 0)) :: (eB b [.int (by8 119), .int (by8 111), .int (by8 114), .int (by8 100), .int (by8 115)]) :: (q_1, true, .inr ((.object "com/example/tallyhoard/tallyhoard/Rule"), true, false, [.ref wo, .ref xo])) :: (va, false, .inr ((.object "com/example/tallyhoard/tallyhoard/Rule"), true, false, [.ref wo, .ref xo])) :: (oRule false wo (.ref ws)) :: (oRule false xo (.ref xs)) :: (oStr false xs (.ref xb) (.int 0)) :: (xb, false, .inr (.byte, false, false, [.int 119, .int 104, .int 105, .int 116, .int 101, .int 115, .int 112, .int 97, .int 99, .int 101])) :: F)) rfl ?_
  refine Wp.callV nm_M_olW (rm_se hw ws s false true wb b false false false true true false [119, 111, 114, 100, 115] [(by8 119), (by8 111), (by8 114), (by8 100), (by8 115)] _ (show 5 < 2 ^ 31 by decide) (show 5 < 2 ^ 31 by decide)) 0 rfl (mk_M_se hw) (w_53 hw) (w_54 hw) (w_56 hw) (w_55 hw) (S' := "") (Or.inl rfl) (by decide) rfl rfl rfl (Wn := 0) rfl rfl (by decide) d_prog_14_5_25 ?_
  rintro _ _ ⟨rfl, rfl⟩
  refine Wp.ifF (feq (by decide +kernel)).1 d_prog_14_5_28 ?_
  refine Wp.aload rfl rfl d_prog_14_5_31 ?_
  refine Wp.perm [2, 3, 5, 6, 0, 1, 7, 8, 9, 4] 10 pp_2_3_5_6_0_1_7_8_9_4 (H' := ((oStr true s (.ref b) (.int 0)) :: (eB b [.int (by8 119), .int (by8 111), .int (by8 114), .int (by8 100), .int (by8 115)]) :: (va, false, .inr ((.object "com/example/tallyhoard/tallyhoard/Rule"), true, false, [.ref wo, .ref xo])) :: (oRule false wo (.ref ws)) :: (oStr false ws (.ref wb) (.int 0)) :: (wb, false, .inr (.byte, false, false, [.int 119, .int 111, .int 114, .int 100, .int 115])) :: (oRule false xo (.ref xs)) :: (oStr false xs (.ref xb) (.int 0)) :: (xb, false, .inr (.byte, false, false, [.int 119, .int 104, .int 105, .int 116, .int 101, .int 115, .int 112, .int 97, .int 99, .int 101])) :: (q_1, true, .inr ((.object "com/example/tallyhoard/tallyhoard/Rule"), true, false, [.ref wo, .ref xo])) :: F)) rfl ?_
  refine Wp.less (((((((((((List.Sublist.refl _).cons _).cons_cons _).cons_cons _).cons_cons _).cons_cons _).cons_cons _).cons_cons _).cons_cons _).cons_cons _).cons_cons _) ?_
  refine Wp.aret rfl rfl rfl d_prog_14_5_33 (by decide) (by decide) ?_
  exact ⟨rfl, rfl⟩
theorem d_prog_14_5_34 : Dc prog_14_method_5_code 34 (.iinc 3 1) 3 37 := ⟨by decide +kernel, rfl⟩
theorem d_prog_14_5_37 : Bj prog_14_method_5_code 37 (.goto (-28)) (-28) 40 9 := ⟨by decide +kernel, rfl, by decide, rfl⟩
theorem pp_8_9_2_3_0_1_4_5_6_7 : [8, 9, 2, 3, 0, 1, 4, 5, 6, 7].isPerm (List.range 10) = true := by decide +kernel
theorem pp_2_3_7_8_4_5_9_0_1_6 : [2, 3, 7, 8, 4, 5, 9, 0, 1, 6].isPerm (List.range 10) = true := by decide +kernel
def M_olS : Mt := (⟨"com/example/tallyhoard/tallyhoard/Rule", "ofLabel", "(Ljava/lang/String;)Lcom/example/tallyhoard/tallyhoard/Rule;"⟩, prog_14_method_5_code, 5, some (.object "com/example/tallyhoard/tallyhoard/Rule"), ⟨2, 1, 2, 28⟩)
theorem nm_M_olS : mN M_olS = ⟨"com/example/tallyhoard/tallyhoard/Rule", "ofLabel", "(Ljava/lang/String;)Lcom/example/tallyhoard/tallyhoard/Rule;"⟩ := by delta mN M_olS; rfl
set_option maxRecDepth 65536 in
set_option maxHeartbeats 40000000 in
theorem rm_olS {W : Wd} (hw : Ws W) (s : Addr) (b : Addr) (va : Addr) (wo : Addr) (ws : Addr) (wb : Addr) (xo : Addr) (xs : Addr) (xb : Addr) (F : List En) (hv : Sta (wZ W) (wZ W).heap "com/example/tallyhoard/tallyhoard/Rule" "$VALUES" "[Lcom/example/tallyhoard/tallyhoard/Rule;" (.ref va)) : Ct W M_olS [.ref s] ((oStr true s (.ref b) (.int 0)) :: (eB b [.int (by8 119), .int (by8 104), .int (by8 105), .int (by8 116), .int (by8 101), .int (by8 115), .int (by8 112), .int (by8 97), .int (by8 99), .int (by8 101)]) :: (va, false, .inr ((.object "com/example/tallyhoard/tallyhoard/Rule"), true, false, [.ref wo, .ref xo])) :: (oRule false wo (.ref ws)) :: (oStr false ws (.ref wb) (.int 0)) :: (wb, false, .inr (.byte, false, false, [.int 119, .int 111, .int 114, .int 100, .int 115])) :: (oRule false xo (.ref xs)) :: (oStr false xs (.ref xb) (.int 0)) :: (xb, false, .inr (.byte, false, false, [.int 119, .int 104, .int 105, .int 116, .int 101, .int 115, .int 112, .int 97, .int 99, .int 101])) :: F) (fun v H' => v = some (.ref xo) ∧ H' = ((oStr true s (.ref b) (.int 0)) :: (eB b [.int (by8 119), .int (by8 104), .int (by8 105), .int (by8 116), .int (by8 101), .int (by8 115), .int (by8 112), .int (by8 97), .int (by8 99), .int (by8 101)]) :: (va, false, .inr ((.object "com/example/tallyhoard/tallyhoard/Rule"), true, false, [.ref wo, .ref xo])) :: (oRule false wo (.ref ws)) :: (oStr false ws (.ref wb) (.int 0)) :: (wb, false, .inr (.byte, false, false, [.int 119, .int 111, .int 114, .int 100, .int 115])) :: (oRule false xo (.ref xs)) :: (oStr false xs (.ref xb) (.int 0)) :: (xb, false, .inr (.byte, false, false, [.int 119, .int 104, .int 105, .int 116, .int 101, .int 115, .int 112, .int 97, .int 99, .int 101])) :: F)) := by
  refine Ct.intro (L0 := [.val (.ref s), .unset, .unset, .unset, .unset]) (plainFor_of_name pf_com_example_tallyhoard_tallyhoard_Rule) rfl (fun K => ?_)
  refine Wp.perm [2, 0, 1] 3 pp_2_0_1 (H' := ((va, false, .inr ((.object "com/example/tallyhoard/tallyhoard/Rule"), true, false, [.ref wo, .ref xo])) :: (oStr true s (.ref b) (.int 0)) :: (eB b [.int (by8 119), .int (by8 104), .int (by8 105), .int (by8 116), .int (by8 101), .int (by8 115), .int (by8 112), .int (by8 97), .int (by8 99), .int (by8 101)]) :: (oRule false wo (.ref ws)) :: (oStr false ws (.ref wb) (.int 0)) :: (wb, false, .inr (.byte, false, false, [.int 119, .int 111, .int 114, .int 100, .int 115])) :: (oRule false xo (.ref xs)) :: (oStr false xs (.ref xb) (.int 0)) :: (xb, false, .inr (.byte, false, false, [.int 119, .int 104, .int 105, .int 116, .int 101, .int 115, .int 112, .int 97, .int 99, .int 101])) :: F)) rfl ?_
  refine Wp.callS nm_M_olS (rm_vals hw va wo xo _ hv) (mk_M_vals hw) (w_34 hw) (w_35 hw) rfl rfl (Wn := 0) rfl rfl (by decide) d_prog_14_5_0 ?_
  rintro _ _ ⟨q_1, rfl, rfl⟩
  refine Wp.astoreN (L' := [.val (.ref s), .val (.ref q_1), .unset, .unset, .unset]) rfl rfl d_prog_14_5_3 ?_
  refine Wp.aloadN rfl rfl d_prog_14_5_4 ?_
  refine Wp.alen (z := 2) 0 rfl rfl d_prog_14_5_5 ?_
  refine Wp.istoreN (L' := [.val (.ref s), .val (.ref q_1), .val (.int 2), .unset, .unset]) rfl d_prog_14_5_6 ?_
  refine Wp.iconst lc_0 d_prog_14_5_7 ?_
  refine Wp.istoreN (L' := [.val (.ref s), .val (.ref q_1), .val (.int 2), .val (.int 0), .unset]) rfl d_prog_14_5_8 ?_
  refine Wp.iloadN rfl d_prog_14_5_9 ?_
  refine Wp.iloadN rfl d_prog_14_5_10 ?_
  refine Wp.icF (by decide) d_prog_14_5_11 ?_
  refine Wp.aloadN rfl rfl d_prog_14_5_14 ?_
  refine Wp.iloadN rfl d_prog_14_5_15 ?_
  refine Wp.aaload 0 0 rfl rfl (by decide) (by decide) rfl d_prog_14_5_16 ?_
  refine Wp.astore (L' := [.val (.ref s), .val (.ref q_1), .val (.int 2), .val (.int 0), .val (.ref wo)]) rfl rfl d_prog_14_5_17 ?_
  refine Wp.aload rfl rfl d_prog_14_5_19 ?_
  refine Wp.getF nm_M_olS (host := "") (Or.inl (w_51 hw)) Via.refl 4 0 rfl rfl d_prog_14_5_21 ?_
  refine Wp.aloadN rfl rfl d_prog_14_5_24 ?_
  refine Wp.perm [5, 6, 2, 3, 0, 1, 4] 7 pp_5_6_2_3_0_1_4 (H' := ((oStr false ws (.ref wb) (.int 0)) :: (wb, false, .inr (.byte, false, false, [.int 119, .int 111, .int 114, .int 100, .int 115])) :: (oStr true s (.ref b) (.int 0)) :: (eB b [.int (by8 119), .int (by8 104), .int (by8 105), .int (by8 116), .int (by8 101), .int (by8 115), .int (by8 112), .int (by8 97), .int (by8 99), .int (by8 101)]) :: (q_1, true, .inr ((.object "com/example/tallyhoard/tallyhoard/Rule"), true, false, [.ref wo, .ref xo])) :: (va, false, .inr ((.object "com/example/tallyhoard/tallyhoard/Rule"), true, false, [.ref wo, .ref xo])) :: (oRule false wo (.ref ws)) :: (oRule false xo (.ref xs)) :: (oStr false xs (.ref xb) (.int 0)) :: (xb, false, .inr (.byte, false, false, [.int 119, .int 104, .int 105, .int 116, .int 101, .int 115, .int 112, .int 97, .int 99, .int 101])) :: F)) rfl ?_
  refine Wp.callV nm_M_olS (rm_se hw ws s false true wb b false false false true true false [119, 111, 114, 100, 115] [(by8 119), (by8 104), (by8 105), (by8 116), (by8 101), (by8 115), (by8 112), (by8 97), (by8 99), (by8 101)] _ (show 5 < 2 ^ 31 by decide) (show 10 < 2 ^ 31 by decide)) 0 rfl (mk_M_se hw) (w_53 hw) (w_54 hw) (w_56 hw) (w_55 hw) (S' := "") (Or.inl rfl) (by decide) rfl rfl rfl (Wn := 0) rfl rfl (by decide) d_prog_14_5_25 ?_
  rintro _ _ ⟨rfl, rfl⟩
  refine Wp.ifT (teq (by decide +kernel)).1 d_prog_14_5_28 ?_
  refine Wp.iinc (z := 1) (L' := [.val (.ref s), .val (.ref q_1), .val (.int 2), .val (.int 1), .val (.ref wo)]) rfl (by decide) rfl d_prog_14_5_34 ?_
  refine Wp.goto d_prog_14_5_37 ?_
  refine Wp.iloadN rfl d_prog_14_5_9 ?_
  refine Wp.iloadN rfl d_prog_14_5_10 ?_
  refine Wp.icF (by decide) d_prog_14_5_11 ?_
  refine Wp.aloadN rfl rfl d_prog_14_5_14 ?_
  refine Wp.iloadN rfl d_prog_14_5_15 ?_
  refine Wp.aaload 4 1 rfl rfl (by decide) (by decide) rfl d_prog_14_5_16 ?_
  refine Wp.astore (L' := [.val (.ref s), .val (.ref q_1), .val (.int 2), .val (.int 1), .val (.ref xo)]) rfl rfl d_prog_14_5_17 ?_
  refine Wp.aload rfl rfl d_prog_14_5_19 ?_
  refine Wp.getF nm_M_olS (host := "") (Or.inl (w_51 hw)) Via.refl 7 0 rfl rfl d_prog_14_5_21 ?_
  refine Wp.aloadN rfl rfl d_prog_14_5_24 ?_
  refine Wp.perm [8, 9, 2, 3, 0, 1, 4, 5, 6, 7] 10 pp_8_9_2_3_0_1_4_5_6_7 (H' := ((oStr false xs (.ref xb) (.int 0)) :: (xb, false, .inr (.byte, false, false, [.int 119, .int 104, .int 105, .int 116, .int 101, .int 115, .int 112, .int 97, .int 99, .int 101])) :: (oStr true s (.ref b) (.int 0)) :: (eB b [.int (by8 119), .int (by8 104), .int (by8 105), .int (by8 116), .int (by8 101), .int (by8 115), .int (by8 112), .int (by8 97), .int (by8 99), .int (by8 101)]) :: (oStr false ws (.ref wb) (.int 0)) :: (wb, false, .inr (.byte, false, false, [.int 119, .int 111, .int 114, .int 100, .int 115])) :: (q_1, true, .inr ((.object "com/example/tallyhoard/tallyhoard/Rule"), true, false, [.ref wo, .ref xo])) :: (va, false, .inr ((.object "com/example/tallyhoard/tallyhoard/Rule"), true, false, [.ref wo, .ref xo])) :: (oRule false wo (.ref ws)) :: (oRule false xo (.ref xs)) :: F)) rfl ?_
  refine Wp.callV nm_M_olS (rm_se hw xs s false true xb b false false false true true false [119, 104, 105, 116, 101, 115, 112, 97, 99, 101] [(by8 119), (by8 104), (by8 105), (by8 116), (by8 101), (by8 115), (by8 112), (by8 97), (by8 99), (by8 101)] _ (show 10 < 2 ^ 31 by decide) (show 10 < 2 ^ 31 by decide)) 0 rfl (mk_M_se hw) (w_53 hw) (w_54 hw) (w_56 hw) (w_55 hw) (S' := "") (Or.inl rfl) (by decide) rfl rfl rfl (Wn := 0) rfl rfl (by decide) d_prog_14_5_25 ?_
  rintro _ _ ⟨rfl, rfl⟩
  refine Wp.ifF (feq (by decide +kernel)).1 d_prog_14_5_28 ?_
  refine Wp.aload rfl rfl d_prog_14_5_31 ?_
  refine Wp.perm [2, 3, 7, 8, 4, 5, 9, 0, 1, 6] 10 pp_2_3_7_8_4_5_9_0_1_6 (H' := ((oStr true s (.ref b) (.int 0)) :: (eB b [.int (by8 119), .int (by8 104), .int (by8 105), .int (by8 116), .int (by8 101), .int (by8 115), .int (by8 112), .int (by8 97), .int (by8 99), .int (by8 101)]) :: (va, false, .inr ((.object "com/example/tallyhoard/tallyhoard/Rule"), true, false, [.ref wo, .ref xo])) :: (oRule false wo (.ref ws)) :: (oStr false ws (.ref wb) (.int 0)) :: (wb, false, .inr (.byte, false, false, [.int 119, .int 111, .int 114, .int 100, .int 115])) :: (oRule false xo (.ref xs)) :: (oStr false xs (.ref xb) (.int 0)) :: (xb, false, .inr (.byte, false, false, [.int 119, .int 104, .int 105, .int 116, .int 101, .int 115, .int 112, .int 97, .int 99, .int 101])) :: (q_1, true, .inr ((.object "com/example/tallyhoard/tallyhoard/Rule"), true, false, [.ref wo, .ref xo])) :: F)) rfl ?_
  refine Wp.less (((((((((((List.Sublist.refl _).cons _).cons_cons _).cons_cons _).cons_cons _).cons_cons _).cons_cons _).cons_cons _).cons_cons _).cons_cons _).cons_cons _) ?_
  refine Wp.aret rfl rfl rfl d_prog_14_5_33 (by decide) (by decide) ?_
  exact ⟨rfl, rfl⟩
theorem d_law_0 : Dc code 0 (.iload_n 0) 1 1 := ⟨by decide +kernel, rfl⟩
theorem d_law_1 : Dc code 1 (.iconst 1) 1 2 := ⟨by decide +kernel, rfl⟩
theorem d_law_2 : Dc code 2 (.iand) 1 3 := ⟨by decide +kernel, rfl⟩
theorem d_law_3 : Bj code 3 (.ifCond .eq 7) 7 6 10 := ⟨by decide +kernel, rfl, by decide, rfl⟩
theorem d_law_10 : Dc code 10 (.iconst 0) 1 11 := ⟨by decide +kernel, rfl⟩
theorem d_law_11 : Dc code 11 (.istore_n 1) 1 12 := ⟨by decide +kernel, rfl⟩
theorem d_law_12 : Dc code 12 (.iload_n 1) 1 13 := ⟨by decide +kernel, rfl⟩
theorem d_law_13 : Bj code 13 (.ifCond .eq 34) 34 16 47 := ⟨by decide +kernel, rfl, by decide, rfl⟩
theorem d_law_47 : Dc code 47 (.bipush 10) 2 49 := ⟨by decide +kernel, rfl⟩
theorem lb_10 : (Int8.ofInt 10).toInt32 = 10 := by decide
theorem d_law_49 : Dc code 49 (.newarray .char) 2 51 := ⟨by decide +kernel, rfl⟩
theorem w_0 {W : Wd} (hw : Ws W) : Wok W (Jvm.Cond.arrayClass Jvm.ClassFile.FieldType.char) := hw.1 _ (List.mem_of_getElem? (i := 0) rfl)
theorem d_law_51 : Dc code 51 (.dup) 1 52 := ⟨by decide +kernel, rfl⟩
theorem d_law_52 : Dc code 52 (.iconst 0) 1 53 := ⟨by decide +kernel, rfl⟩
theorem d_law_53 : Dc code 53 (.bipush 119) 2 55 := ⟨by decide +kernel, rfl⟩
theorem lb_119 : (Int8.ofInt 119).toInt32 = 119 := by decide
theorem d_law_55 : Dc code 55 (.castore) 1 56 := ⟨by decide +kernel, rfl⟩
theorem d_law_56 : Dc code 56 (.dup) 1 57 := ⟨by decide +kernel, rfl⟩
theorem d_law_57 : Dc code 57 (.iconst 1) 1 58 := ⟨by decide +kernel, rfl⟩
theorem d_law_58 : Dc code 58 (.bipush 104) 2 60 := ⟨by decide +kernel, rfl⟩
theorem lb_104 : (Int8.ofInt 104).toInt32 = 104 := by decide
theorem d_law_60 : Dc code 60 (.castore) 1 61 := ⟨by decide +kernel, rfl⟩
theorem d_law_61 : Dc code 61 (.dup) 1 62 := ⟨by decide +kernel, rfl⟩
theorem d_law_62 : Dc code 62 (.iconst 2) 1 63 := ⟨by decide +kernel, rfl⟩
theorem lc_2 : Int32.ofInt 2 = 2 := by decide
theorem d_law_63 : Dc code 63 (.bipush 105) 2 65 := ⟨by decide +kernel, rfl⟩
theorem lb_105 : (Int8.ofInt 105).toInt32 = 105 := by decide
theorem d_law_65 : Dc code 65 (.castore) 1 66 := ⟨by decide +kernel, rfl⟩
theorem d_law_66 : Dc code 66 (.dup) 1 67 := ⟨by decide +kernel, rfl⟩
theorem d_law_67 : Dc code 67 (.iconst 3) 1 68 := ⟨by decide +kernel, rfl⟩
theorem lc_3 : Int32.ofInt 3 = 3 := by decide
theorem d_law_68 : Dc code 68 (.bipush 116) 2 70 := ⟨by decide +kernel, rfl⟩
theorem lb_116 : (Int8.ofInt 116).toInt32 = 116 := by decide
theorem d_law_70 : Dc code 70 (.castore) 1 71 := ⟨by decide +kernel, rfl⟩
theorem d_law_71 : Dc code 71 (.dup) 1 72 := ⟨by decide +kernel, rfl⟩
theorem d_law_72 : Dc code 72 (.iconst 4) 1 73 := ⟨by decide +kernel, rfl⟩
theorem lc_4 : Int32.ofInt 4 = 4 := by decide
theorem d_law_73 : Dc code 73 (.bipush 101) 2 75 := ⟨by decide +kernel, rfl⟩
theorem lb_101 : (Int8.ofInt 101).toInt32 = 101 := by decide
theorem d_law_75 : Dc code 75 (.castore) 1 76 := ⟨by decide +kernel, rfl⟩
theorem d_law_76 : Dc code 76 (.dup) 1 77 := ⟨by decide +kernel, rfl⟩
theorem d_law_77 : Dc code 77 (.iconst 5) 1 78 := ⟨by decide +kernel, rfl⟩
theorem lc_5 : Int32.ofInt 5 = 5 := by decide
theorem d_law_78 : Dc code 78 (.bipush 115) 2 80 := ⟨by decide +kernel, rfl⟩
theorem lb_115 : (Int8.ofInt 115).toInt32 = 115 := by decide
theorem d_law_80 : Dc code 80 (.castore) 1 81 := ⟨by decide +kernel, rfl⟩
theorem d_law_81 : Dc code 81 (.dup) 1 82 := ⟨by decide +kernel, rfl⟩
theorem d_law_82 : Dc code 82 (.bipush 6) 2 84 := ⟨by decide +kernel, rfl⟩
theorem lb_6 : (Int8.ofInt 6).toInt32 = 6 := by decide
theorem d_law_84 : Dc code 84 (.bipush 112) 2 86 := ⟨by decide +kernel, rfl⟩
theorem lb_112 : (Int8.ofInt 112).toInt32 = 112 := by decide
theorem d_law_86 : Dc code 86 (.castore) 1 87 := ⟨by decide +kernel, rfl⟩
theorem d_law_87 : Dc code 87 (.dup) 1 88 := ⟨by decide +kernel, rfl⟩
theorem d_law_88 : Dc code 88 (.bipush 7) 2 90 := ⟨by decide +kernel, rfl⟩
theorem lb_7 : (Int8.ofInt 7).toInt32 = 7 := by decide
theorem d_law_90 : Dc code 90 (.bipush 97) 2 92 := ⟨by decide +kernel, rfl⟩
theorem lb_97 : (Int8.ofInt 97).toInt32 = 97 := by decide
theorem d_law_92 : Dc code 92 (.castore) 1 93 := ⟨by decide +kernel, rfl⟩
theorem d_law_93 : Dc code 93 (.dup) 1 94 := ⟨by decide +kernel, rfl⟩
theorem d_law_94 : Dc code 94 (.bipush 8) 2 96 := ⟨by decide +kernel, rfl⟩
theorem lb_8 : (Int8.ofInt 8).toInt32 = 8 := by decide
theorem d_law_96 : Dc code 96 (.bipush 99) 2 98 := ⟨by decide +kernel, rfl⟩
theorem lb_99 : (Int8.ofInt 99).toInt32 = 99 := by decide
theorem d_law_98 : Dc code 98 (.castore) 1 99 := ⟨by decide +kernel, rfl⟩
theorem d_law_99 : Dc code 99 (.dup) 1 100 := ⟨by decide +kernel, rfl⟩
theorem d_law_100 : Dc code 100 (.bipush 9) 2 102 := ⟨by decide +kernel, rfl⟩
theorem lb_9 : (Int8.ofInt 9).toInt32 = 9 := by decide
theorem d_law_102 : Dc code 102 (.bipush 101) 2 104 := ⟨by decide +kernel, rfl⟩
theorem d_law_104 : Dc code 104 (.castore) 1 105 := ⟨by decide +kernel, rfl⟩
theorem d_law_105 : Dc code 105 (.astore_n 2) 1 106 := ⟨by decide +kernel, rfl⟩
theorem d_law_106 : Dc code 106 (.new 7) 3 109 := ⟨by decide +kernel, rfl⟩
theorem w_1 {W : Wd} (hw : Ws W) : Wok W (Jvm.Cond.classLink "com/example/tallyhoard/tallyhoard/RuleOfLabelPinLaw" (7 : Nat) "java/lang/String") := hw.1 _ (List.mem_of_getElem? (i := 1) rfl)
theorem nf_oStr {W : Wd} (hw : Ws W) : NewFs W "java/lang/String" [("java/lang/String", "value", "[B", .null), ("java/lang/String", "coder", "B", .int 0)] := NewFs.cons (Or.inr (w_29 hw)) (ty := (.array .byte)) (by decide) rfl (by decide) (NewFs.cons (Or.inr (w_27 hw)) (ty := .byte) (by decide) rfl (by decide) (NewFs.nil))
theorem d_law_109 : Dc code 109 (.dup) 1 110 := ⟨by decide +kernel, rfl⟩
theorem d_law_110 : Dc code 110 (.aload_n 2) 1 111 := ⟨by decide +kernel, rfl⟩
theorem d_law_111 : Dc code 111 (.invokespecial 9) 3 114 := ⟨by decide +kernel, rfl⟩
theorem w_6 {W : Wd} (hw : Ws W) : Wok W (Jvm.Cond.code ({ cls := "java/lang/String", name := "<init>", desc := "([C)V" } : Jvm.MethodName) jdk_42_method_3_code (2 : Nat) (Option.none : Option Jvm.ClassFile.FieldType)) := hw.1 _ (List.mem_of_getElem? (i := 6) rfl)
theorem pd___C_V : parseMethodDescriptor "([C)V" = some ⟨[(.array .char)], none⟩ := by decide +kernel
theorem mk_M_si {W : Wd} (hw : Ws W) (n : Nat) : Mk W (M_si n) ⟨"java/lang/String", "<init>", "([C)V"⟩ 1 := Mk.of nm_M_si rfl rfl rfl (w_6 hw) (w_3 hw) (mkLen pd___C_V rfl) (by decide)
theorem w_4 {W : Wd} (hw : Ws W) : Wok W (Jvm.Cond.methodLink "com/example/tallyhoard/tallyhoard/RuleOfLabelPinLaw" (9 : Nat) ({ cls := "java/lang/String", name := "<init>", desc := "([C)V" } : Jvm.MethodName)) := hw.1 _ (List.mem_of_getElem? (i := 4) rfl)
theorem w_5 {W : Wd} (hw : Ws W) : Wok W (Jvm.Cond.instanceMethod ({ cls := "java/lang/String", name := "<init>", desc := "([C)V" } : Jvm.MethodName)) := hw.1 _ (List.mem_of_getElem? (i := 5) rfl)
theorem d_law_114 : Dc code 114 (.astore_n 3) 1 115 := ⟨by decide +kernel, rfl⟩
theorem d_law_115 : Dc code 115 (.aload_n 3) 1 116 := ⟨by decide +kernel, rfl⟩
theorem d_law_116 : Dc code 116 (.invokestatic 12) 3 119 := ⟨by decide +kernel, rfl⟩
theorem pp_0_1_3_4_5_6_7_8_9_2 : [0, 1, 3, 4, 5, 6, 7, 8, 9, 2].isPerm (List.range 10) = true := by decide +kernel
theorem w_33 {W : Wd} (hw : Ws W) : Wok W (Jvm.Cond.code ({ cls := "com/example/tallyhoard/tallyhoard/Rule", name := "ofLabel", desc := "(Ljava/lang/String;)Lcom/example/tallyhoard/tallyhoard/Rule;" } : Jvm.MethodName) prog_14_method_5_code (5 : Nat) (Option.some (Jvm.ClassFile.FieldType.object "com/example/tallyhoard/tallyhoard/Rule"))) := hw.1 _ (List.mem_of_getElem? (i := 33) rfl)
theorem pd__Ljava_lang_String__Lcom_example_tallyhoard_tallyhoard_Rule_ : parseMethodDescriptor "(Ljava/lang/String;)Lcom/example/tallyhoard/tallyhoard/Rule;" = some ⟨[(.object "java/lang/String")], some (.object "com/example/tallyhoard/tallyhoard/Rule")⟩ := by decide +kernel
theorem mk_M_olS {W : Wd} (hw : Ws W) : Mk W M_olS ⟨"com/example/tallyhoard/tallyhoard/Rule", "ofLabel", "(Ljava/lang/String;)Lcom/example/tallyhoard/tallyhoard/Rule;"⟩ 1 := Mk.of nm_M_olS rfl rfl rfl (w_33 hw) (w_32 hw) (mkLen pd__Ljava_lang_String__Lcom_example_tallyhoard_tallyhoard_Rule_ rfl) (by decide)
theorem w_30 {W : Wd} (hw : Ws W) : Wok W (Jvm.Cond.methodLink "com/example/tallyhoard/tallyhoard/RuleOfLabelPinLaw" (12 : Nat) ({ cls := "com/example/tallyhoard/tallyhoard/Rule", name := "ofLabel", desc := "(Ljava/lang/String;)Lcom/example/tallyhoard/tallyhoard/Rule;" } : Jvm.MethodName)) := hw.1 _ (List.mem_of_getElem? (i := 30) rfl)
theorem w_31 {W : Wd} (hw : Ws W) : Wok W (Jvm.Cond.static ({ cls := "com/example/tallyhoard/tallyhoard/Rule", name := "ofLabel", desc := "(Ljava/lang/String;)Lcom/example/tallyhoard/tallyhoard/Rule;" } : Jvm.MethodName)) := hw.1 _ (List.mem_of_getElem? (i := 31) rfl)
theorem d_law_119 : Dc code 119 (.astore 4) 2 121 := ⟨by decide +kernel, rfl⟩
theorem d_law_121 : Dc code 121 (.iload_n 1) 1 122 := ⟨by decide +kernel, rfl⟩
theorem d_law_122 : Bj code 122 (.ifCond .eq 9) 9 125 131 := ⟨by decide +kernel, rfl, by decide, rfl⟩
theorem d_law_131 : Dc code 131 (.getstatic 22) 3 134 := ⟨by decide +kernel, rfl⟩
theorem w_63 {W : Wd} (hw : Ws W) : Wok W (Jvm.Cond.fieldLink "com/example/tallyhoard/tallyhoard/RuleOfLabelPinLaw" (22 : Nat) "com/example/tallyhoard/tallyhoard/Rule" "WHITESPACE" "Lcom/example/tallyhoard/tallyhoard/Rule;") := hw.1 _ (List.mem_of_getElem? (i := 63) rfl)
theorem d_law_134 : Dc code 134 (.astore 5) 2 136 := ⟨by decide +kernel, rfl⟩
theorem d_law_136 : Dc code 136 (.aload 4) 2 138 := ⟨by decide +kernel, rfl⟩
theorem d_law_138 : Dc code 138 (.aload 5) 2 140 := ⟨by decide +kernel, rfl⟩
theorem d_law_140 : Bj code 140 (.if_acmp .ne 19) 19 143 159 := ⟨by decide +kernel, rfl, by decide, rfl⟩
theorem d_law_143 : Dc code 143 (.aload 4) 2 145 := ⟨by decide +kernel, rfl⟩
theorem d_law_145 : Dc code 145 (.invokevirtual 25) 3 148 := ⟨by decide +kernel, rfl⟩
theorem w_67 {W : Wd} (hw : Ws W) : Wok W (Jvm.Cond.selects "com/example/tallyhoard/tallyhoard/Rule" ({ cls := "com/example/tallyhoard/tallyhoard/Rule", name := "label", desc := "()Ljava/lang/String;" } : Jvm.MethodName) ({ cls := "com/example/tallyhoard/tallyhoard/Rule", name := "label", desc := "()Ljava/lang/String;" } : Jvm.MethodName)) := hw.1 _ (List.mem_of_getElem? (i := 67) rfl)
theorem pp_6_0_1_2_3_4_5 : [6, 0, 1, 2, 3, 4, 5].isPerm (List.range 7) = true := by decide +kernel
theorem w_68 {W : Wd} (hw : Ws W) : Wok W (Jvm.Cond.code ({ cls := "com/example/tallyhoard/tallyhoard/Rule", name := "label", desc := "()Ljava/lang/String;" } : Jvm.MethodName) prog_14_method_4_code (1 : Nat) (Option.some (Jvm.ClassFile.FieldType.object "java/lang/String"))) := hw.1 _ (List.mem_of_getElem? (i := 68) rfl)
theorem pd___Ljava_lang_String_ : parseMethodDescriptor "()Ljava/lang/String;" = some ⟨[], some (.object "java/lang/String")⟩ := by decide +kernel
theorem mk_M_label {W : Wd} (hw : Ws W) : Mk W M_label ⟨"com/example/tallyhoard/tallyhoard/Rule", "label", "()Ljava/lang/String;"⟩ 0 := Mk.of nm_M_label rfl rfl rfl (w_68 hw) (w_32 hw) (mkLen pd___Ljava_lang_String_ rfl) (by decide)
theorem w_64 {W : Wd} (hw : Ws W) : Wok W (Jvm.Cond.methodLink "com/example/tallyhoard/tallyhoard/RuleOfLabelPinLaw" (25 : Nat) ({ cls := "com/example/tallyhoard/tallyhoard/Rule", name := "label", desc := "()Ljava/lang/String;" } : Jvm.MethodName)) := hw.1 _ (List.mem_of_getElem? (i := 64) rfl)
theorem w_65 {W : Wd} (hw : Ws W) : Wok W (Jvm.Cond.declares ({ cls := "com/example/tallyhoard/tallyhoard/Rule", name := "label", desc := "()Ljava/lang/String;" } : Jvm.MethodName)) := hw.1 _ (List.mem_of_getElem? (i := 65) rfl)
theorem w_66 {W : Wd} (hw : Ws W) : Wok W (Jvm.Cond.instanceMethod ({ cls := "com/example/tallyhoard/tallyhoard/Rule", name := "label", desc := "()Ljava/lang/String;" } : Jvm.MethodName)) := hw.1 _ (List.mem_of_getElem? (i := 66) rfl)
theorem d_law_148 : Dc code 148 (.aload_n 3) 1 149 := ⟨by decide +kernel, rfl⟩
theorem d_law_149 : Dc code 149 (.invokevirtual 29) 3 152 := ⟨by decide +kernel, rfl⟩
theorem pp_7_8_1_2_0_3_4_5_6 : [7, 8, 1, 2, 0, 3, 4, 5, 6].isPerm (List.range 9) = true := by decide +kernel
theorem w_69 {W : Wd} (hw : Ws W) : Wok W (Jvm.Cond.methodLink "com/example/tallyhoard/tallyhoard/RuleOfLabelPinLaw" (29 : Nat) ({ cls := "java/lang/String", name := "equals", desc := "(Ljava/lang/Object;)Z" } : Jvm.MethodName)) := hw.1 _ (List.mem_of_getElem? (i := 69) rfl)
theorem d_law_152 : Bj code 152 (.ifCond .eq 7) 7 155 159 := ⟨by decide +kernel, rfl, by decide, rfl⟩
theorem d_law_155 : Dc code 155 (.iconst 1) 1 156 := ⟨by decide +kernel, rfl⟩
theorem d_law_156 : Bj code 156 (.goto 4) 4 159 160 := ⟨by decide +kernel, rfl, by decide, rfl⟩
theorem d_law_160 : Dc code 160 (.ireturn) 1 161 := ⟨by decide +kernel, rfl⟩
theorem d_law_6 : Dc code 6 (.iconst 1) 1 7 := ⟨by decide +kernel, rfl⟩
theorem d_law_7 : Bj code 7 (.goto 4) 4 10 11 := ⟨by decide +kernel, rfl, by decide, rfl⟩
theorem d_law_16 : Dc code 16 (.iconst 5) 1 17 := ⟨by decide +kernel, rfl⟩
theorem d_law_17 : Dc code 17 (.newarray .char) 2 19 := ⟨by decide +kernel, rfl⟩
theorem d_law_19 : Dc code 19 (.dup) 1 20 := ⟨by decide +kernel, rfl⟩
theorem d_law_20 : Dc code 20 (.iconst 0) 1 21 := ⟨by decide +kernel, rfl⟩
theorem d_law_21 : Dc code 21 (.bipush 119) 2 23 := ⟨by decide +kernel, rfl⟩
theorem d_law_23 : Dc code 23 (.castore) 1 24 := ⟨by decide +kernel, rfl⟩
theorem d_law_24 : Dc code 24 (.dup) 1 25 := ⟨by decide +kernel, rfl⟩
theorem d_law_25 : Dc code 25 (.iconst 1) 1 26 := ⟨by decide +kernel, rfl⟩
theorem d_law_26 : Dc code 26 (.bipush 111) 2 28 := ⟨by decide +kernel, rfl⟩
theorem lb_111 : (Int8.ofInt 111).toInt32 = 111 := by decide
theorem d_law_28 : Dc code 28 (.castore) 1 29 := ⟨by decide +kernel, rfl⟩
theorem d_law_29 : Dc code 29 (.dup) 1 30 := ⟨by decide +kernel, rfl⟩
theorem d_law_30 : Dc code 30 (.iconst 2) 1 31 := ⟨by decide +kernel, rfl⟩
theorem d_law_31 : Dc code 31 (.bipush 114) 2 33 := ⟨by decide +kernel, rfl⟩
theorem lb_114 : (Int8.ofInt 114).toInt32 = 114 := by decide
theorem d_law_33 : Dc code 33 (.castore) 1 34 := ⟨by decide +kernel, rfl⟩
theorem d_law_34 : Dc code 34 (.dup) 1 35 := ⟨by decide +kernel, rfl⟩
theorem d_law_35 : Dc code 35 (.iconst 3) 1 36 := ⟨by decide +kernel, rfl⟩
theorem d_law_36 : Dc code 36 (.bipush 100) 2 38 := ⟨by decide +kernel, rfl⟩
theorem lb_100 : (Int8.ofInt 100).toInt32 = 100 := by decide
theorem d_law_38 : Dc code 38 (.castore) 1 39 := ⟨by decide +kernel, rfl⟩
theorem d_law_39 : Dc code 39 (.dup) 1 40 := ⟨by decide +kernel, rfl⟩
theorem d_law_40 : Dc code 40 (.iconst 4) 1 41 := ⟨by decide +kernel, rfl⟩
theorem d_law_41 : Dc code 41 (.bipush 115) 2 43 := ⟨by decide +kernel, rfl⟩
theorem d_law_43 : Dc code 43 (.castore) 1 44 := ⟨by decide +kernel, rfl⟩
theorem d_law_44 : Bj code 44 (.goto 61) 61 47 105 := ⟨by decide +kernel, rfl, by decide, rfl⟩
theorem mk_M_olW {W : Wd} (hw : Ws W) : Mk W M_olW ⟨"com/example/tallyhoard/tallyhoard/Rule", "ofLabel", "(Ljava/lang/String;)Lcom/example/tallyhoard/tallyhoard/Rule;"⟩ 1 := Mk.of nm_M_olW rfl rfl rfl (w_33 hw) (w_32 hw) (mkLen pd__Ljava_lang_String__Lcom_example_tallyhoard_tallyhoard_Rule_ rfl) (by decide)
theorem d_law_125 : Dc code 125 (.getstatic 18) 3 128 := ⟨by decide +kernel, rfl⟩
theorem w_70 {W : Wd} (hw : Ws W) : Wok W (Jvm.Cond.fieldLink "com/example/tallyhoard/tallyhoard/RuleOfLabelPinLaw" (18 : Nat) "com/example/tallyhoard/tallyhoard/Rule" "WORDS" "Lcom/example/tallyhoard/tallyhoard/Rule;") := hw.1 _ (List.mem_of_getElem? (i := 70) rfl)
theorem d_law_128 : Bj code 128 (.goto 6) 6 131 134 := ⟨by decide +kernel, rfl, by decide, rfl⟩
theorem pp_3_0_1_2 : [3, 0, 1, 2].isPerm (List.range 4) = true := by decide +kernel
theorem pp_4_5_1_2_0_3 : [4, 5, 1, 2, 0, 3].isPerm (List.range 6) = true := by decide +kernel
def M0 : Mt := (x, code, maxLocals, ret, room_1)
theorem nm_M0 : mN M0 = ⟨"com/example/tallyhoard/tallyhoard/RuleOfLabelPinLaw", "law", "(I)Z"⟩ := by delta M0; delta mN x; rfl
theorem pf_com_example_tallyhoard_tallyhoard_RuleOfLabelPinLaw : plainName "com/example/tallyhoard/tallyhoard/RuleOfLabelPinLaw" = true := by first | (simp [plainName, overriddenIn]; done) | decide +kernel
set_option maxRecDepth 65536 in
set_option maxHeartbeats 40000000 in
theorem rm_law {W : Wd} (hw : Ws W) (p0 : Int32) (va : Addr) (wo : Addr) (ws : Addr) (wb : Addr) (xo : Addr) (xs : Addr) (xb : Addr) (hv : Sta (wZ W) (wZ W).heap "com/example/tallyhoard/tallyhoard/Rule" "$VALUES" "[Lcom/example/tallyhoard/tallyhoard/Rule;" (.ref va)) (hwo : Sta (wZ W) (wZ W).heap "com/example/tallyhoard/tallyhoard/Rule" "WORDS" "Lcom/example/tallyhoard/tallyhoard/Rule;" (.ref wo)) (hxo : Sta (wZ W) (wZ W).heap "com/example/tallyhoard/tallyhoard/Rule" "WHITESPACE" "Lcom/example/tallyhoard/tallyhoard/Rule;" (.ref xo)) : Ct W M0 [.int p0] [(va, false, .inr ((.object "com/example/tallyhoard/tallyhoard/Rule"), true, false, [.ref wo, .ref xo])), oRule false wo (.ref ws), oStr false ws (.ref wb) (.int 0), (wb, false, .inr (.byte, false, false, [.int 119, .int 111, .int 114, .int 100, .int 115])), oRule false xo (.ref xs), oStr false xs (.ref xb) (.int 0), (xb, false, .inr (.byte, false, false, [.int 119, .int 104, .int 105, .int 116, .int 101, .int 115, .int 112, .int 97, .int 99, .int 101]))] (fun v _ => v = some (.int 1)) := by
  refine Ct.intro (L0 := [.val (.int p0), .unset, .unset, .unset, .unset, .unset]) (plainFor_of_name pf_com_example_tallyhoard_tallyhoard_RuleOfLabelPinLaw) rfl (fun K => ?_)
  refine Wp.iloadN rfl d_law_0 ?_
  refine Wp.iconst lc_1 d_law_1 ?_
  refine Wp.iand (z := (p0 &&& 1)) rfl d_law_2 ?_
  by_cases b3_1 : (p0 &&& 1) = 0
  · refine Wp.ifT (teq b3_1).1 d_law_3 ?_
    refine Wp.iconst lc_0 d_law_10 ?_
    refine Wp.istoreN (L' := [.val (.int p0), .val (.int 0), .unset, .unset, .unset, .unset]) rfl d_law_11 ?_
    refine Wp.iloadN rfl d_law_12 ?_
    refine Wp.ifT (by decide) d_law_13 ?_
    refine Wp.bipush lb_10 d_law_47 ?_
    refine Wp.newP (kk := 10) (vs := [.int 0, .int 0, .int 0, .int 0, .int 0, .int 0, .int 0, .int 0, .int 0, .int 0]) d_law_49 (w_0 hw) (by decide) (by decide) (by decide) (by decide) (by decide) rfl (fun a2 => ?_)
    refine Wp.dup rfl d_law_51 ?_
    refine Wp.iconst lc_0 d_law_52 ?_
    refine Wp.bipush lb_119 d_law_53 ?_
    refine Wp.castore (z := 119) 0 0 rfl (by decide) (by decide) (show 0 < 10 by decide) (by decide) d_law_55 (H' := [eC a2 [.int 119, .int 0, .int 0, .int 0, .int 0, .int 0, .int 0, .int 0, .int 0, .int 0], (va, false, .inr ((.object "com/example/tallyhoard/tallyhoard/Rule"), true, false, [.ref wo, .ref xo])), oRule false wo (.ref ws), oStr false ws (.ref wb) (.int 0), (wb, false, .inr (.byte, false, false, [.int 119, .int 111, .int 114, .int 100, .int 115])), oRule false xo (.ref xs), oStr false xs (.ref xb) (.int 0), (xb, false, .inr (.byte, false, false, [.int 119, .int 104, .int 105, .int 116, .int 101, .int 115, .int 112, .int 97, .int 99, .int 101]))]) rfl ?_
    refine Wp.dup rfl d_law_56 ?_
    refine Wp.iconst lc_1 d_law_57 ?_
    refine Wp.bipush lb_104 d_law_58 ?_
    refine Wp.castore (z := 104) 0 1 rfl (by decide) (by decide) (show 1 < 10 by decide) (by decide) d_law_60 (H' := [eC a2 [.int 119, .int 104, .int 0, .int 0, .int 0, .int 0, .int 0, .int 0, .int 0, .int 0], (va, false, .inr ((.object "com/example/tallyhoard/tallyhoard/Rule"), true, false, [.ref wo, .ref xo])), oRule false wo (.ref ws), oStr false ws (.ref wb) (.int 0), (wb, false, .inr (.byte, false, false, [.int 119, .int 111, .int 114, .int 100, .int 115])), oRule false xo (.ref xs), oStr false xs (.ref xb) (.int 0), (xb, false, .inr (.byte, false, false, [.int 119, .int 104, .int 105, .int 116, .int 101, .int 115, .int 112, .int 97, .int 99, .int 101]))]) rfl ?_
    refine Wp.dup rfl d_law_61 ?_
    refine Wp.iconst lc_2 d_law_62 ?_
    refine Wp.bipush lb_105 d_law_63 ?_
    refine Wp.castore (z := 105) 0 2 rfl (by decide) (by decide) (show 2 < 10 by decide) (by decide) d_law_65 (H' := [eC a2 [.int 119, .int 104, .int 105, .int 0, .int 0, .int 0, .int 0, .int 0, .int 0, .int 0], (va, false, .inr ((.object "com/example/tallyhoard/tallyhoard/Rule"), true, false, [.ref wo, .ref xo])), oRule false wo (.ref ws), oStr false ws (.ref wb) (.int 0), (wb, false, .inr (.byte, false, false, [.int 119, .int 111, .int 114, .int 100, .int 115])), oRule false xo (.ref xs), oStr false xs (.ref xb) (.int 0), (xb, false, .inr (.byte, false, false, [.int 119, .int 104, .int 105, .int 116, .int 101, .int 115, .int 112, .int 97, .int 99, .int 101]))]) rfl ?_
    refine Wp.dup rfl d_law_66 ?_
    refine Wp.iconst lc_3 d_law_67 ?_
    refine Wp.bipush lb_116 d_law_68 ?_
    refine Wp.castore (z := 116) 0 3 rfl (by decide) (by decide) (show 3 < 10 by decide) (by decide) d_law_70 (H' := [eC a2 [.int 119, .int 104, .int 105, .int 116, .int 0, .int 0, .int 0, .int 0, .int 0, .int 0], (va, false, .inr ((.object "com/example/tallyhoard/tallyhoard/Rule"), true, false, [.ref wo, .ref xo])), oRule false wo (.ref ws), oStr false ws (.ref wb) (.int 0), (wb, false, .inr (.byte, false, false, [.int 119, .int 111, .int 114, .int 100, .int 115])), oRule false xo (.ref xs), oStr false xs (.ref xb) (.int 0), (xb, false, .inr (.byte, false, false, [.int 119, .int 104, .int 105, .int 116, .int 101, .int 115, .int 112, .int 97, .int 99, .int 101]))]) rfl ?_
    refine Wp.dup rfl d_law_71 ?_
    refine Wp.iconst lc_4 d_law_72 ?_
    refine Wp.bipush lb_101 d_law_73 ?_
    refine Wp.castore (z := 101) 0 4 rfl (by decide) (by decide) (show 4 < 10 by decide) (by decide) d_law_75 (H' := [eC a2 [.int 119, .int 104, .int 105, .int 116, .int 101, .int 0, .int 0, .int 0, .int 0, .int 0], (va, false, .inr ((.object "com/example/tallyhoard/tallyhoard/Rule"), true, false, [.ref wo, .ref xo])), oRule false wo (.ref ws), oStr false ws (.ref wb) (.int 0), (wb, false, .inr (.byte, false, false, [.int 119, .int 111, .int 114, .int 100, .int 115])), oRule false xo (.ref xs), oStr false xs (.ref xb) (.int 0), (xb, false, .inr (.byte, false, false, [.int 119, .int 104, .int 105, .int 116, .int 101, .int 115, .int 112, .int 97, .int 99, .int 101]))]) rfl ?_
    refine Wp.dup rfl d_law_76 ?_
    refine Wp.iconst lc_5 d_law_77 ?_
    refine Wp.bipush lb_115 d_law_78 ?_
    refine Wp.castore (z := 115) 0 5 rfl (by decide) (by decide) (show 5 < 10 by decide) (by decide) d_law_80 (H' := [eC a2 [.int 119, .int 104, .int 105, .int 116, .int 101, .int 115, .int 0, .int 0, .int 0, .int 0], (va, false, .inr ((.object "com/example/tallyhoard/tallyhoard/Rule"), true, false, [.ref wo, .ref xo])), oRule false wo (.ref ws), oStr false ws (.ref wb) (.int 0), (wb, false, .inr (.byte, false, false, [.int 119, .int 111, .int 114, .int 100, .int 115])), oRule false xo (.ref xs), oStr false xs (.ref xb) (.int 0), (xb, false, .inr (.byte, false, false, [.int 119, .int 104, .int 105, .int 116, .int 101, .int 115, .int 112, .int 97, .int 99, .int 101]))]) rfl ?_
    refine Wp.dup rfl d_law_81 ?_
    refine Wp.bipush lb_6 d_law_82 ?_
    refine Wp.bipush lb_112 d_law_84 ?_
    refine Wp.castore (z := 112) 0 6 rfl (by decide) (by decide) (show 6 < 10 by decide) (by decide) d_law_86 (H' := [eC a2 [.int 119, .int 104, .int 105, .int 116, .int 101, .int 115, .int 112, .int 0, .int 0, .int 0], (va, false, .inr ((.object "com/example/tallyhoard/tallyhoard/Rule"), true, false, [.ref wo, .ref xo])), oRule false wo (.ref ws), oStr false ws (.ref wb) (.int 0), (wb, false, .inr (.byte, false, false, [.int 119, .int 111, .int 114, .int 100, .int 115])), oRule false xo (.ref xs), oStr false xs (.ref xb) (.int 0), (xb, false, .inr (.byte, false, false, [.int 119, .int 104, .int 105, .int 116, .int 101, .int 115, .int 112, .int 97, .int 99, .int 101]))]) rfl ?_
    refine Wp.dup rfl d_law_87 ?_
    refine Wp.bipush lb_7 d_law_88 ?_
    refine Wp.bipush lb_97 d_law_90 ?_
    refine Wp.castore (z := 97) 0 7 rfl (by decide) (by decide) (show 7 < 10 by decide) (by decide) d_law_92 (H' := [eC a2 [.int 119, .int 104, .int 105, .int 116, .int 101, .int 115, .int 112, .int 97, .int 0, .int 0], (va, false, .inr ((.object "com/example/tallyhoard/tallyhoard/Rule"), true, false, [.ref wo, .ref xo])), oRule false wo (.ref ws), oStr false ws (.ref wb) (.int 0), (wb, false, .inr (.byte, false, false, [.int 119, .int 111, .int 114, .int 100, .int 115])), oRule false xo (.ref xs), oStr false xs (.ref xb) (.int 0), (xb, false, .inr (.byte, false, false, [.int 119, .int 104, .int 105, .int 116, .int 101, .int 115, .int 112, .int 97, .int 99, .int 101]))]) rfl ?_
    refine Wp.dup rfl d_law_93 ?_
    refine Wp.bipush lb_8 d_law_94 ?_
    refine Wp.bipush lb_99 d_law_96 ?_
    refine Wp.castore (z := 99) 0 8 rfl (by decide) (by decide) (show 8 < 10 by decide) (by decide) d_law_98 (H' := [eC a2 [.int 119, .int 104, .int 105, .int 116, .int 101, .int 115, .int 112, .int 97, .int 99, .int 0], (va, false, .inr ((.object "com/example/tallyhoard/tallyhoard/Rule"), true, false, [.ref wo, .ref xo])), oRule false wo (.ref ws), oStr false ws (.ref wb) (.int 0), (wb, false, .inr (.byte, false, false, [.int 119, .int 111, .int 114, .int 100, .int 115])), oRule false xo (.ref xs), oStr false xs (.ref xb) (.int 0), (xb, false, .inr (.byte, false, false, [.int 119, .int 104, .int 105, .int 116, .int 101, .int 115, .int 112, .int 97, .int 99, .int 101]))]) rfl ?_
    refine Wp.dup rfl d_law_99 ?_
    refine Wp.bipush lb_9 d_law_100 ?_
    refine Wp.bipush lb_101 d_law_102 ?_
    refine Wp.castore (z := 101) 0 9 rfl (by decide) (by decide) (show 9 < 10 by decide) (by decide) d_law_104 (H' := [eC a2 [.int 119, .int 104, .int 105, .int 116, .int 101, .int 115, .int 112, .int 97, .int 99, .int 101], (va, false, .inr ((.object "com/example/tallyhoard/tallyhoard/Rule"), true, false, [.ref wo, .ref xo])), oRule false wo (.ref ws), oStr false ws (.ref wb) (.int 0), (wb, false, .inr (.byte, false, false, [.int 119, .int 111, .int 114, .int 100, .int 115])), oRule false xo (.ref xs), oStr false xs (.ref xb) (.int 0), (xb, false, .inr (.byte, false, false, [.int 119, .int 104, .int 105, .int 116, .int 101, .int 115, .int 112, .int 97, .int 99, .int 101]))]) rfl ?_
    refine Wp.astoreN (L' := [.val (.int p0), .val (.int 0), .val (.ref a2), .unset, .unset, .unset]) rfl rfl d_law_105 ?_
    refine Wp.newO nm_M0 (w_1 hw) (w_2 hw) (w_3 hw) (nf_oStr hw) (by decide) (by decide) d_law_106 (fun a3 => ?_)
    refine Wp.dup rfl d_law_109 ?_
    refine Wp.aloadN rfl rfl d_law_110 ?_
    refine Wp.callC nm_M0 (rm_si hw a3 a2 true true false [119, 104, 105, 116, 101, 115, 112, 97, 99, 101] _ (hpC (by decide) (hpC (by decide) (hpC (by decide) (hpC (by decide) (hpC (by decide) (hpC (by decide) (hpC (by decide) (hpC (by decide) (hpC (by decide) (hpC (by decide) hpN)))))))))) (show 10 ≤ 4000 by decide) (show 0 < 10 by decide)) (mk_M_si hw ([119, 104, 105, 116, 101, 115, 112, 97, 99, 101].length)) (w_4 hw) (w_5 hw) rfl rfl rfl rfl (Wn := 1) rfl rfl (by decide) d_law_111 ?_
    rintro _ _ ⟨b_4, rfl, rfl⟩
    refine Wp.astoreN (L' := [.val (.int p0), .val (.int 0), .val (.ref a2), .val (.ref a3), .unset, .unset]) rfl rfl d_law_114 ?_
    refine Wp.aloadN rfl rfl d_law_115 ?_
    refine Wp.perm [0, 1, 3, 4, 5, 6, 7, 8, 9, 2] 10 pp_0_1_3_4_5_6_7_8_9_2 (H' := [oStr true a3 (.ref b_4) (.int 0), eB b_4 [.int (by8 119), .int (by8 104), .int (by8 105), .int (by8 116), .int (by8 101), .int (by8 115), .int (by8 112), .int (by8 97), .int (by8 99), .int (by8 101)], (va, false, .inr ((.object "com/example/tallyhoard/tallyhoard/Rule"), true, false, [.ref wo, .ref xo])), oRule false wo (.ref ws), oStr false ws (.ref wb) (.int 0), (wb, false, .inr (.byte, false, false, [.int 119, .int 111, .int 114, .int 100, .int 115])), oRule false xo (.ref xs), oStr false xs (.ref xb) (.int 0), (xb, false, .inr (.byte, false, false, [.int 119, .int 104, .int 105, .int 116, .int 101, .int 115, .int 112, .int 97, .int 99, .int 101])), eC a2 [.int 119, .int 104, .int 105, .int 116, .int 101, .int 115, .int 112, .int 97, .int 99, .int 101]]) rfl ?_
    refine Wp.callS nm_M0 (rm_olS hw a3 b_4 va wo ws wb xo xs xb _ hv) (mk_M_olS hw) (w_30 hw) (w_31 hw) rfl rfl (Wn := 0) rfl rfl (by decide) d_law_116 ?_
    rintro _ _ ⟨rfl, rfl⟩
    refine Wp.astore (L' := [.val (.int p0), .val (.int 0), .val (.ref a2), .val (.ref a3), .val (.ref xo), .unset]) rfl rfl d_law_119 ?_
    refine Wp.iloadN rfl d_law_121 ?_
    refine Wp.ifT (by decide) d_law_122 ?_
    refine Wp.getS nm_M0 (w_63 hw) Via.refl hxo d_law_131 ?_
    refine Wp.astore (L' := [.val (.int p0), .val (.int 0), .val (.ref a2), .val (.ref a3), .val (.ref xo), .val (.ref xo)]) rfl rfl d_law_134 ?_
    refine Wp.aload rfl rfl d_law_136 ?_
    refine Wp.aload rfl rfl d_law_138 ?_
    refine Wp.acF rfl rfl (acT_ne _) d_law_140 ?_
    refine Wp.aload rfl rfl d_law_143 ?_
    refine Wp.perm [6, 0, 1, 2, 3, 4, 5] 7 pp_6_0_1_2_3_4_5 (H' := [oRule false xo (.ref xs), oStr true a3 (.ref b_4) (.int 0), eB b_4 [.int (by8 119), .int (by8 104), .int (by8 105), .int (by8 116), .int (by8 101), .int (by8 115), .int (by8 112), .int (by8 97), .int (by8 99), .int (by8 101)], (va, false, .inr ((.object "com/example/tallyhoard/tallyhoard/Rule"), true, false, [.ref wo, .ref xo])), oRule false wo (.ref ws), oStr false ws (.ref wb) (.int 0), (wb, false, .inr (.byte, false, false, [.int 119, .int 111, .int 114, .int 100, .int 115])), oStr false xs (.ref xb) (.int 0), (xb, false, .inr (.byte, false, false, [.int 119, .int 104, .int 105, .int 116, .int 101, .int 115, .int 112, .int 97, .int 99, .int 101])), eC a2 [.int 119, .int 104, .int 105, .int 116, .int 101, .int 115, .int 112, .int 97, .int 99, .int 101]]) rfl ?_
    refine Wp.callV nm_M0 (rm_label hw xo xs false _ ) 0 rfl (mk_M_label hw) (w_64 hw) (w_65 hw) (w_67 hw) (w_66 hw) (S' := "") (Or.inl rfl) (by decide) rfl rfl rfl (Wn := 0) rfl rfl (by decide) d_law_145 ?_
    rintro _ _ ⟨rfl, rfl⟩
    refine Wp.aloadN rfl rfl d_law_148 ?_
    refine Wp.perm [7, 8, 1, 2, 0, 3, 4, 5, 6] 9 pp_7_8_1_2_0_3_4_5_6 (H' := [oStr false xs (.ref xb) (.int 0), (xb, false, .inr (.byte, false, false, [.int 119, .int 104, .int 105, .int 116, .int 101, .int 115, .int 112, .int 97, .int 99, .int 101])), oStr true a3 (.ref b_4) (.int 0), eB b_4 [.int (by8 119), .int (by8 104), .int (by8 105), .int (by8 116), .int (by8 101), .int (by8 115), .int (by8 112), .int (by8 97), .int (by8 99), .int (by8 101)], oRule false xo (.ref xs), (va, false, .inr ((.object "com/example/tallyhoard/tallyhoard/Rule"), true, false, [.ref wo, .ref xo])), oRule false wo (.ref ws), oStr false ws (.ref wb) (.int 0), (wb, false, .inr (.byte, false, false, [.int 119, .int 111, .int 114, .int 100, .int 115])), eC a2 [.int 119, .int 104, .int 105, .int 116, .int 101, .int 115, .int 112, .int 97, .int 99, .int 101]]) rfl ?_
    refine Wp.callV nm_M0 (rm_se hw xs a3 false true xb b_4 false false false true true false [119, 104, 105, 116, 101, 115, 112, 97, 99, 101] [(by8 119), (by8 104), (by8 105), (by8 116), (by8 101), (by8 115), (by8 112), (by8 97), (by8 99), (by8 101)] _ (show 10 < 2 ^ 31 by decide) (show 10 < 2 ^ 31 by decide)) 0 rfl (mk_M_se hw) (w_69 hw) (w_54 hw) (w_56 hw) (w_55 hw) (S' := "") (Or.inl rfl) (by decide) rfl rfl rfl (Wn := 0) rfl rfl (by decide) d_law_149 ?_
    rintro _ _ ⟨rfl, rfl⟩
    refine Wp.ifF (feq (by decide +kernel)).1 d_law_152 ?_
    refine Wp.iconst lc_1 d_law_155 ?_
    refine Wp.goto d_law_156 ?_
    refine Wp.iretN (z := 1) (by simp) rfl (by decide) d_law_160 (by decide) (by decide) ?_
    exact rfl
  · refine Wp.ifF (feq b3_1).1 d_law_3 ?_
    refine Wp.iconst lc_1 d_law_6 ?_
    refine Wp.goto d_law_7 ?_
    refine Wp.istoreN (L' := [.val (.int p0), .val (.int 1), .unset, .unset, .unset, .unset]) rfl d_law_11 ?_
    refine Wp.iloadN rfl d_law_12 ?_
    refine Wp.ifF (by decide) d_law_13 ?_
    refine Wp.iconst lc_5 d_law_16 ?_
    refine Wp.newP (kk := 5) (vs := [.int 0, .int 0, .int 0, .int 0, .int 0]) d_law_17 (w_0 hw) (by decide) (by decide) (by decide) (by decide) (by decide) rfl (fun a5 => ?_)
    refine Wp.dup rfl d_law_19 ?_
    refine Wp.iconst lc_0 d_law_20 ?_
    refine Wp.bipush lb_119 d_law_21 ?_
    refine Wp.castore (z := 119) 0 0 rfl (by decide) (by decide) (show 0 < 5 by decide) (by decide) d_law_23 (H' := [eC a5 [.int 119, .int 0, .int 0, .int 0, .int 0], (va, false, .inr ((.object "com/example/tallyhoard/tallyhoard/Rule"), true, false, [.ref wo, .ref xo])), oRule false wo (.ref ws), oStr false ws (.ref wb) (.int 0), (wb, false, .inr (.byte, false, false, [.int 119, .int 111, .int 114, .int 100, .int 115])), oRule false xo (.ref xs), oStr false xs (.ref xb) (.int 0), (xb, false, .inr (.byte, false, false, [.int 119, .int 104, .int 105, .int 116, .int 101, .int 115, .int 112, .int 97, .int 99, .int 101]))]) rfl ?_
    refine Wp.dup rfl d_law_24 ?_
    refine Wp.iconst lc_1 d_law_25 ?_
    refine Wp.bipush lb_111 d_law_26 ?_
    refine Wp.castore (z := 111) 0 1 rfl (by decide) (by decide) (show 1 < 5 by decide) (by decide) d_law_28 (H' := [eC a5 [.int 119, .int 111, .int 0, .int 0, .int 0], (va, false, .inr ((.object "com/example/tallyhoard/tallyhoard/Rule"), true, false, [.ref wo, .ref xo])), oRule false wo (.ref ws), oStr false ws (.ref wb) (.int 0), (wb, false, .inr (.byte, false, false, [.int 119, .int 111, .int 114, .int 100, .int 115])), oRule false xo (.ref xs), oStr false xs (.ref xb) (.int 0), (xb, false, .inr (.byte, false, false, [.int 119, .int 104, .int 105, .int 116, .int 101, .int 115, .int 112, .int 97, .int 99, .int 101]))]) rfl ?_
    refine Wp.dup rfl d_law_29 ?_
    refine Wp.iconst lc_2 d_law_30 ?_
    refine Wp.bipush lb_114 d_law_31 ?_
    refine Wp.castore (z := 114) 0 2 rfl (by decide) (by decide) (show 2 < 5 by decide) (by decide) d_law_33 (H' := [eC a5 [.int 119, .int 111, .int 114, .int 0, .int 0], (va, false, .inr ((.object "com/example/tallyhoard/tallyhoard/Rule"), true, false, [.ref wo, .ref xo])), oRule false wo (.ref ws), oStr false ws (.ref wb) (.int 0), (wb, false, .inr (.byte, false, false, [.int 119, .int 111, .int 114, .int 100, .int 115])), oRule false xo (.ref xs), oStr false xs (.ref xb) (.int 0), (xb, false, .inr (.byte, false, false, [.int 119, .int 104, .int 105, .int 116, .int 101, .int 115, .int 112, .int 97, .int 99, .int 101]))]) rfl ?_
    refine Wp.dup rfl d_law_34 ?_
    refine Wp.iconst lc_3 d_law_35 ?_
    refine Wp.bipush lb_100 d_law_36 ?_
    refine Wp.castore (z := 100) 0 3 rfl (by decide) (by decide) (show 3 < 5 by decide) (by decide) d_law_38 (H' := [eC a5 [.int 119, .int 111, .int 114, .int 100, .int 0], (va, false, .inr ((.object "com/example/tallyhoard/tallyhoard/Rule"), true, false, [.ref wo, .ref xo])), oRule false wo (.ref ws), oStr false ws (.ref wb) (.int 0), (wb, false, .inr (.byte, false, false, [.int 119, .int 111, .int 114, .int 100, .int 115])), oRule false xo (.ref xs), oStr false xs (.ref xb) (.int 0), (xb, false, .inr (.byte, false, false, [.int 119, .int 104, .int 105, .int 116, .int 101, .int 115, .int 112, .int 97, .int 99, .int 101]))]) rfl ?_
    refine Wp.dup rfl d_law_39 ?_
    refine Wp.iconst lc_4 d_law_40 ?_
    refine Wp.bipush lb_115 d_law_41 ?_
    refine Wp.castore (z := 115) 0 4 rfl (by decide) (by decide) (show 4 < 5 by decide) (by decide) d_law_43 (H' := [eC a5 [.int 119, .int 111, .int 114, .int 100, .int 115], (va, false, .inr ((.object "com/example/tallyhoard/tallyhoard/Rule"), true, false, [.ref wo, .ref xo])), oRule false wo (.ref ws), oStr false ws (.ref wb) (.int 0), (wb, false, .inr (.byte, false, false, [.int 119, .int 111, .int 114, .int 100, .int 115])), oRule false xo (.ref xs), oStr false xs (.ref xb) (.int 0), (xb, false, .inr (.byte, false, false, [.int 119, .int 104, .int 105, .int 116, .int 101, .int 115, .int 112, .int 97, .int 99, .int 101]))]) rfl ?_
    refine Wp.goto d_law_44 ?_
    refine Wp.astoreN (L' := [.val (.int p0), .val (.int 1), .val (.ref a5), .unset, .unset, .unset]) rfl rfl d_law_105 ?_
    refine Wp.newO nm_M0 (w_1 hw) (w_2 hw) (w_3 hw) (nf_oStr hw) (by decide) (by decide) d_law_106 (fun a6 => ?_)
    refine Wp.dup rfl d_law_109 ?_
    refine Wp.aloadN rfl rfl d_law_110 ?_
    refine Wp.callC nm_M0 (rm_si hw a6 a5 true true false [119, 111, 114, 100, 115] _ (hpC (by decide) (hpC (by decide) (hpC (by decide) (hpC (by decide) (hpC (by decide) hpN))))) (show 5 ≤ 4000 by decide) (show 0 < 5 by decide)) (mk_M_si hw ([119, 111, 114, 100, 115].length)) (w_4 hw) (w_5 hw) rfl rfl rfl rfl (Wn := 1) rfl rfl (by decide) d_law_111 ?_
    rintro _ _ ⟨b_7, rfl, rfl⟩
    refine Wp.astoreN (L' := [.val (.int p0), .val (.int 1), .val (.ref a5), .val (.ref a6), .unset, .unset]) rfl rfl d_law_114 ?_
    refine Wp.aloadN rfl rfl d_law_115 ?_
    refine Wp.perm [0, 1, 3, 4, 5, 6, 7, 8, 9, 2] 10 pp_0_1_3_4_5_6_7_8_9_2 (H' := [oStr true a6 (.ref b_7) (.int 0), eB b_7 [.int (by8 119), .int (by8 111), .int (by8 114), .int (by8 100), .int (by8 115)], (va, false, .inr ((.object "com/example/tallyhoard/tallyhoard/Rule"), true, false, [.ref wo, .ref xo])), oRule false wo (.ref ws), oStr false ws (.ref wb) (.int 0), (wb, false, .inr (.byte, false, false, [.int 119, .int 111, .int 114, .int 100, .int 115])), oRule false xo (.ref xs), oStr false xs (.ref xb) (.int 0), (xb, false, .inr (.byte, false, false, [.int 119, .int 104, .int 105, .int 116, .int 101, .int 115, .int 112, .int 97, .int 99, .int 101])), eC a5 [.int 119, .int 111, .int 114, .int 100, .int 115]]) rfl ?_
    refine Wp.callS nm_M0 (rm_olW hw a6 b_7 va wo ws wb xo xs xb _ hv) (mk_M_olW hw) (w_30 hw) (w_31 hw) rfl rfl (Wn := 0) rfl rfl (by decide) d_law_116 ?_
    rintro _ _ ⟨rfl, rfl⟩
    refine Wp.astore (L' := [.val (.int p0), .val (.int 1), .val (.ref a5), .val (.ref a6), .val (.ref wo), .unset]) rfl rfl d_law_119 ?_
    refine Wp.iloadN rfl d_law_121 ?_
    refine Wp.ifF (by decide) d_law_122 ?_
    refine Wp.getS nm_M0 (w_70 hw) Via.refl hwo d_law_125 ?_
    refine Wp.goto d_law_128 ?_
    refine Wp.astore (L' := [.val (.int p0), .val (.int 1), .val (.ref a5), .val (.ref a6), .val (.ref wo), .val (.ref wo)]) rfl rfl d_law_134 ?_
    refine Wp.aload rfl rfl d_law_136 ?_
    refine Wp.aload rfl rfl d_law_138 ?_
    refine Wp.acF rfl rfl (acT_ne _) d_law_140 ?_
    refine Wp.aload rfl rfl d_law_143 ?_
    refine Wp.perm [3, 0, 1, 2] 4 pp_3_0_1_2 (H' := [oRule false wo (.ref ws), oStr true a6 (.ref b_7) (.int 0), eB b_7 [.int (by8 119), .int (by8 111), .int (by8 114), .int (by8 100), .int (by8 115)], (va, false, .inr ((.object "com/example/tallyhoard/tallyhoard/Rule"), true, false, [.ref wo, .ref xo])), oStr false ws (.ref wb) (.int 0), (wb, false, .inr (.byte, false, false, [.int 119, .int 111, .int 114, .int 100, .int 115])), oRule false xo (.ref xs), oStr false xs (.ref xb) (.int 0), (xb, false, .inr (.byte, false, false, [.int 119, .int 104, .int 105, .int 116, .int 101, .int 115, .int 112, .int 97, .int 99, .int 101])), eC a5 [.int 119, .int 111, .int 114, .int 100, .int 115]]) rfl ?_
    refine Wp.callV nm_M0 (rm_label hw wo ws false _ ) 0 rfl (mk_M_label hw) (w_64 hw) (w_65 hw) (w_67 hw) (w_66 hw) (S' := "") (Or.inl rfl) (by decide) rfl rfl rfl (Wn := 0) rfl rfl (by decide) d_law_145 ?_
    rintro _ _ ⟨rfl, rfl⟩
    refine Wp.aloadN rfl rfl d_law_148 ?_
    refine Wp.perm [4, 5, 1, 2, 0, 3] 6 pp_4_5_1_2_0_3 (H' := [oStr false ws (.ref wb) (.int 0), (wb, false, .inr (.byte, false, false, [.int 119, .int 111, .int 114, .int 100, .int 115])), oStr true a6 (.ref b_7) (.int 0), eB b_7 [.int (by8 119), .int (by8 111), .int (by8 114), .int (by8 100), .int (by8 115)], oRule false wo (.ref ws), (va, false, .inr ((.object "com/example/tallyhoard/tallyhoard/Rule"), true, false, [.ref wo, .ref xo])), oRule false xo (.ref xs), oStr false xs (.ref xb) (.int 0), (xb, false, .inr (.byte, false, false, [.int 119, .int 104, .int 105, .int 116, .int 101, .int 115, .int 112, .int 97, .int 99, .int 101])), eC a5 [.int 119, .int 111, .int 114, .int 100, .int 115]]) rfl ?_
    refine Wp.callV nm_M0 (rm_se hw ws a6 false true wb b_7 false false false true true false [119, 111, 114, 100, 115] [(by8 119), (by8 111), (by8 114), (by8 100), (by8 115)] _ (show 5 < 2 ^ 31 by decide) (show 5 < 2 ^ 31 by decide)) 0 rfl (mk_M_se hw) (w_69 hw) (w_54 hw) (w_56 hw) (w_55 hw) (S' := "") (Or.inl rfl) (by decide) rfl rfl rfl (Wn := 0) rfl rfl (by decide) d_law_149 ?_
    rintro _ _ ⟨rfl, rfl⟩
    refine Wp.ifF (feq (by decide +kernel)).1 d_law_152 ?_
    refine Wp.iconst lc_1 d_law_155 ?_
    refine Wp.goto d_law_156 ?_
    refine Wp.iretN (z := 1) (by simp) rfl (by decide) d_law_160 (by decide) (by decide) ?_
    exact rfl
set_option maxRecDepth 65536 in
set_option maxHeartbeats 40000000 in
theorem comes_1 {Post : Tables → Env → Array Value → State → Outcome → State → Prop} (hpost : ∀ tb e args s v u, (limb_1_1.after args s (.returned v) u = true ∧ limb_1_2.after args s (.returned v) u = true ∧ True) → FrameEnd s (.returned v) u (Jvm.fieldLocs frame_1_writes args s ++ Jvm.arrayLocs frame_1_arrays args s ++ Jvm.staticLocs frame_1_statics s) 16 128 → Post tb e args s (.returned v) u) :
    ArmFor flags0 classFile x code maxLocals ret World_1 tables_1 room_1 Calls_1 rest_1 Pre_1 Post := by
  intro l hfl _ _ p e ha hc hk s m args below hf hA hF happ hP
  obtain ⟨hcalls, hrest, hpre⟩ := hP
  obtain ⟨-, -, -, hnamed, -, -, -, hat⟩ := (Spec.applies_iff hf).mp happ
  obtain ⟨hg, hn⟩ := and_e (Cond.before_iff.mp (show (Jvm.Cond.and given_1 narrow_1).before args s = true from hpre))
  obtain ⟨g1, g2⟩ := and_e hg
  obtain ⟨w0, rfl⟩ : ∃ w0 : Value, args = #[w0] := by
    have hs : args.size = 1 := by simpa [Cond.value, given_1] using g1
    obtain ⟨L⟩ := args
    match L, hs with
    | [w0], _ => exact ⟨w0, rfl⟩
  have hw0 := fun d (hd : d ∈ tables_1) => atoms_spec (ws := Jvm.Cond.code x code maxLocals ret :: tables_1) hat d (List.mem_cons_of_mem _ hd)
  have hfit : Fit s := fun {y c} hc i hi => by
    obtain ⟨ha, rfl⟩ := Array.getElem?_eq_some_iff.mp hc
    have q := List.all_eq_true.mp ((Array.all_eq_true_iff_forall_mem.mp hF) _ (Array.getElem_mem ha)) i (List.mem_range.mpr hi)
    simpa [Array.getElem?_eq_getElem hi] using q
  obtain ⟨hsets, hown0⟩ := atoms_of _ (rest_1_c_eq ▸ (show rest_1_c.before _ s = true from hrest))
  have hr0 := Cond.before_iff.mp hown0
  obtain ⟨i0, ei0⟩ := is_v g2
  obtain rfl : w0 = (.int i0) := Option.some.inj ei0
  obtain ⟨n0, rn0⟩ := and_e hn
  obtain ⟨n1, rn1⟩ := and_e rn0
  obtain ⟨n2, rn2⟩ := and_e rn1
  obtain ⟨n3, rn3⟩ := and_e rn2
  obtain ⟨n4, rn4⟩ := and_e rn3
  obtain ⟨n5, rn5⟩ := and_e rn4
  obtain ⟨n6, rn6⟩ := and_e rn5
  obtain ⟨n7, rn7⟩ := and_e rn6
  obtain ⟨n8, rn8⟩ := and_e rn7
  obtain ⟨n9, rn9⟩ := and_e rn8
  obtain ⟨n10, rn10⟩ := and_e rn9
  obtain ⟨n11, rn11⟩ := and_e rn10
  obtain ⟨n12, rn12⟩ := and_e rn11
  obtain ⟨n13, rn13⟩ := and_e rn12
  obtain ⟨n14, rn14⟩ := and_e rn13
  obtain ⟨n15, rn15⟩ := and_e rn14
  obtain ⟨n16, rn16⟩ := and_e rn15
  obtain ⟨n17, rn17⟩ := and_e rn16
  obtain ⟨n18, rn18⟩ := and_e rn17
  obtain ⟨n19, rn19⟩ := and_e rn18
  obtain ⟨n20, rn20⟩ := and_e rn19
  obtain ⟨n21, rn21⟩ := and_e rn20
  obtain ⟨n22, rn22⟩ := and_e rn21
  obtain ⟨n23, rn23⟩ := and_e rn22
  obtain ⟨n24, rn24⟩ := and_e rn23
  obtain ⟨n25, rn25⟩ := and_e rn24
  obtain ⟨n26, rn26⟩ := and_e rn25
  obtain ⟨n27, rn27⟩ := and_e rn26
  obtain ⟨n28, n29⟩ := and_e rn27
  obtain ⟨vc, ec⟩ := is_v (Cond.before_iff.mp (hsets _ (List.mem_of_getElem? (i := 1) rfl)))
  have Sc := Sta.start ec (Or.inl (hsets _ (List.mem_of_getElem? (i := 0) rfl)))
  have cc : ¬ vc = (0 : Int32) := gotF (Cond.eq_ints ec (Term.int_eval (0))) (not_v (Cond.before_iff.mp (hsets _ (List.mem_of_getElem? (i := 2) rfl))))
  obtain ⟨va, eva⟩ := exa_v n1
  have Eva := Exa.start eva n1
  have hv := Sta.start eva (Or.inl (hw0 _ (List.mem_of_getElem? (i := 48) rfl)))
  obtain ⟨wo, ewo⟩ := exa_v n3
  have Ewo := Exa.start ewo n3
  have hwo := Sta.start ewo (Or.inr ⟨hw0 _ (List.mem_of_getElem? (i := 32) rfl), hw0 _ (List.mem_of_getElem? (i := 46) rfl)⟩)
  obtain ⟨ws, ews⟩ := exa_v n7
  have Ews := Exa.start ews n7
  have Fwl := Fld.start ((fld_at ewo).symm.trans ews)
  obtain ⟨wb, ewb⟩ := arr_v n9
  have Fwv := Fld.start ((fld_at ews).symm.trans ewb)
  have Fwc := Fld.start ((fld_at ews).symm.trans (eqv_int n8))
  obtain ⟨xo, exo⟩ := exa_v n5
  have Exo := Exa.start exo n5
  have hxo := Sta.start exo (Or.inr ⟨hw0 _ (List.mem_of_getElem? (i := 32) rfl), hw0 _ (List.mem_of_getElem? (i := 47) rfl)⟩)
  obtain ⟨xs, exs⟩ := exa_v n11
  have Exs := Exa.start exs n11
  have Fxl := Fld.start ((fld_at exo).symm.trans exs)
  obtain ⟨xb, exb⟩ := arr_v n13
  have Fxv := Fld.start ((fld_at exs).symm.trans exb)
  have Fxc := Fld.start ((fld_at exs).symm.trans (eqv_int n12))
  have hw : Ws (l, s, #[.int i0], s.heap.size) := ⟨hw0, ⟨_, Sc, cc⟩⟩
  have Dva : DsOk s s.heap va (.inr (.object "com/example/tallyhoard/tallyhoard/Rule", true, false, [.ref wo, .ref xo])) := arStart hfit eva n0 n2 rfl (show 2 < 2 ^ 31 by decide) (fun i v hv => match i, v, hv with | 0, _, hv => Option.some.inj hv ▸ eqv_ref n4 ewo | 1, _, hv => Option.some.inj hv ▸ eqv_ref n6 exo | i + 2, _, hv => by simp at hv) (fun _ => Eva)
  have Dwo : DsOk s s.heap wo (.inl ("com/example/tallyhoard/tallyhoard/Rule", [("com/example/tallyhoard/tallyhoard/Rule", "label", "Ljava/lang/String;", .ref ws)])) := ⟨Ewo, fun f hf => by rw [List.mem_singleton.mp hf]; exact Fwl, List.nodup_cons.mpr ⟨fun q => (nomatch q), List.nodup_nil⟩⟩
  have Dws : DsOk s s.heap ws (.inl ("java/lang/String", [("java/lang/String", "value", "[B", .ref wb), ("java/lang/String", "coder", "B", .int 0)])) := ⟨Ews, fun f hf => by rcases List.mem_cons.mp hf with rfl | hf; exact Fwv; rw [List.mem_singleton.mp hf]; exact Fwc, NewFs.slots (nf_oStr hw)⟩
  have Dwb : DsOk s s.heap wb (.inr (.byte, false, false, [.int 119, .int 111, .int 114, .int 100, .int 115])) := arStart hfit ewb n9 n10 rfl (by decide) (fun i v hv => match i, v, hv with | 0, _, hv => Option.some.inj hv ▸ eqv_int n15 | 1, _, hv => Option.some.inj hv ▸ eqv_int n16 | 2, _, hv => Option.some.inj hv ▸ eqv_int n17 | 3, _, hv => Option.some.inj hv ▸ eqv_int n18 | 4, _, hv => Option.some.inj hv ▸ eqv_int n19 | i + 5, _, hv => by simp at hv) (fun q => (nomatch q))
  have Dxo : DsOk s s.heap xo (.inl ("com/example/tallyhoard/tallyhoard/Rule", [("com/example/tallyhoard/tallyhoard/Rule", "label", "Ljava/lang/String;", .ref xs)])) := ⟨Exo, fun f hf => by rw [List.mem_singleton.mp hf]; exact Fxl, List.nodup_cons.mpr ⟨fun q => (nomatch q), List.nodup_nil⟩⟩
  have Dxs : DsOk s s.heap xs (.inl ("java/lang/String", [("java/lang/String", "value", "[B", .ref xb), ("java/lang/String", "coder", "B", .int 0)])) := ⟨Exs, fun f hf => by rcases List.mem_cons.mp hf with rfl | hf; exact Fxv; rw [List.mem_singleton.mp hf]; exact Fxc, NewFs.slots (nf_oStr hw)⟩
  have Dxb : DsOk s s.heap xb (.inr (.byte, false, false, [.int 119, .int 104, .int 105, .int 116, .int 101, .int 115, .int 112, .int 97, .int 99, .int 101])) := arStart hfit exb n13 n14 rfl (by decide) (fun i v hv => match i, v, hv with | 0, _, hv => Option.some.inj hv ▸ eqv_int n20 | 1, _, hv => Option.some.inj hv ▸ eqv_int n21 | 2, _, hv => Option.some.inj hv ▸ eqv_int n22 | 3, _, hv => Option.some.inj hv ▸ eqv_int n23 | 4, _, hv => Option.some.inj hv ▸ eqv_int n24 | 5, _, hv => Option.some.inj hv ▸ eqv_int n25 | 6, _, hv => Option.some.inj hv ▸ eqv_int n26 | 7, _, hv => Option.some.inj hv ▸ eqv_int n27 | 8, _, hv => Option.some.inj hv ▸ eqv_int n28 | 9, _, hv => Option.some.inj hv ▸ eqv_int n29 | i + 10, _, hv => by simp at hv) (fun q => (nomatch q))
  have P0 : Hp (l, s, #[.int i0], s.heap.size) s.heap [(va, false, .inr ((.object "com/example/tallyhoard/tallyhoard/Rule"), true, false, [.ref wo, .ref xo])), oRule false wo (.ref ws), oStr false ws (.ref wb) (.int 0), (wb, false, .inr (.byte, false, false, [.int 119, .int 111, .int 114, .int 100, .int 115])), oRule false xo (.ref xs), oStr false xs (.ref xb) (.int 0), (xb, false, .inr (.byte, false, false, [.int 119, .int 104, .int 105, .int 116, .int 101, .int 115, .int 112, .int 97, .int 99, .int 101]))] := (Hp.old (Hp.old (Hp.old (Hp.old (Hp.old (Hp.old (Hp.old hp0 Dxb rfl) Dxs rfl) Dxo rfl) Dwb rfl) Dws rfl) Dwo rfl) Dva rfl)
  obtain ⟨n, o, h1, h2, h3, v, L, rfl, ⟨N, _, -, rfl⟩, hq⟩ := (rm_law (W := (l, s, #[.int i0], s.heap.size)) hw i0 va wo ws wb xo xs xb hv hwo hxo) tables_1 s.heap P0 p e ha hc hk s m _ below hf ((Spec.applies_iff_loose hf).mp happ).1 ⟨rfl, State.Warmed39.refl s, rfl⟩ trivial
  refine ⟨n, _, h1, h2, h3, hpost _ _ _ _ _ _ ⟨Cond.after_iff.mpr rfl, Cond.after_iff.mpr (eq_i res_at (Term.int_eval (1)) rfl), trivial⟩ ⟨hq.1, hq.2.1, (hq.2.2.sift fun y hy => Or.inr (N y hy)).mono (by decide) (by decide)⟩⟩
theorem main_1_1 : Claimed_1_1 := comes_1 fun _ _ _ _ _ _ h hF => ⟨h.1, hF⟩
theorem main_1_2 : Claimed_1_2 := comes_1 fun _ _ _ _ _ _ h hF => ⟨h.2.1, hF⟩
end Jvm.Pilot.@@N@@
namespace Jvm.Pilot.@@N@@
open Jvm Jvm.ClassFile Sem Op Lib Jvm.Free Jvm.Stand Jvm.Pilot.@@N@@.Jvm.D
/-! MADE BY PROGRAM (witnessworld.py) out of the Statement's table words and the real class files: 22 classes; the members and pool entries that the words name. The judged class is class 1, her method 1. -/
namespace start1
open Jvm.ClassFile
def u (s : String) : CpInfo := .utf8 (stringToUtf16 s)
/-- a pool by its gaps: so many unusable entries, then the entry; so many at the end -/
def gap : Nat → List CpInfo → List CpInfo
  | 0, r => r
  | n + 1, r => .unusable :: gap n r
def poolList (es : List (Nat × CpInfo)) (last : Nat) : List CpInfo := es.foldr (fun e r => gap e.1 (e.2 :: r)) (gap last [])
def pool (es : List (Nat × CpInfo)) (last : Nat) : Array CpInfo := ⟨poolList es last⟩
def fileOf (pool : Array CpInfo) (this : Nat) (attrs : Array Attribute := #[]) (ms : Array MethodInfo := #[]) (fl : Nat := 33) (sup : Nat := 0) (ifs : Array Nat := #[]) (fds : Array FieldInfo := #[]) : ClassFile where
  minorVersion := 0
  majorVersion := 65
  constantPool := pool
  accessFlags := fl
  thisClass := this
  superClass := sup
  interfaces := ifs
  fields := fds
  methods := ms
  attributes := attrs
def plain (name : String) (sup : Option ClassId) : Class where
  name := name
  kind := .ordinary
  loader := none
  accessFlags := 33
  super := sup
  interfaces := #[]
  cf := none
  fields := #[]
  methods := #[]
  instanceTypes := #[]
  staticTypes := #[]
  resolved := #[]
  callSites := []
  init := .initialized
  statics := none
  mirror := none

def pool0 : Array CpInfo := pool [(5, u "<init>"), (0, u "()V"), (1, .class_ 10), (1, u "java/lang/Object"), (85, u "clone"), (0, u "()Ljava/lang/Object;")] 26

def k0c0 : Code := { maxStack := 0, maxLocals := 1, code := object_method_1_code, exceptionTable := #[], attributes := #[] }
def k0m0 : Method := { name := "<init>", desc := "()V", sig := { parameters := [], returnType := none }, accessFlags := 1, code := some k0c0 }
def k0m1 : Method := { name := "clone", desc := "()Ljava/lang/Object;", sig := { parameters := [], returnType := some (.object "java/lang/Object") }, accessFlags := 260, code := none }
/-- java/lang/Object -/
def k0 : Class := { plain "java/lang/Object" none with
  accessFlags := 33
  interfaces := #[]
  cf := some (fileOf pool0 8 #[] #[{ accessFlags := 1, nameIndex := 5, descriptorIndex := 6, attributes := #[] }, { accessFlags := 260, nameIndex := 96, descriptorIndex := 97, attributes := #[] }] 33 0 #[] #[])
  fields := #[]
  methods := #[k0m0, k0m1]
  instanceTypes := #[]
  staticTypes := #[]
  resolved := Array.replicate 124 none
  statics := none }

def pool1 : Array CpInfo := pool [(2, .class_ 4), (1, u "java/lang/Object"), (0, u "<init>"), (0, u "()V"), (0, .class_ 8), (0, u "java/lang/String"), (0, .methodref 7 10), (0, .nameAndType 5 11), (0, u "([C)V"), (0, .methodref 13 14), (0, .class_ 15), (0, .nameAndType 16 17), (0, u "com/example/tallyhoard/tallyhoard/Rule"), (0, u "ofLabel"), (0, u "(Ljava/lang/String;)Lcom/example/tallyhoard/tallyhoard/Rule;"), (0, .fieldref 13 19), (0, .nameAndType 20 21), (0, u "WORDS"), (0, u "Lcom/example/tallyhoard/tallyhoard/Rule;"), (0, .fieldref 13 23), (0, .nameAndType 24 21), (0, u "WHITESPACE"), (0, .methodref 13 26), (0, .nameAndType 27 28), (0, u "label"), (0, u "()Ljava/lang/String;"), (0, .methodref 7 30), (0, .nameAndType 31 32), (0, u "equals"), (0, u "(Ljava/lang/Object;)Z"), (0, .class_ 34), (0, u "com/example/tallyhoard/tallyhoard/RuleOfLabelPinLaw"), (2, u "law"), (0, u "(I)Z")] 5

def k1m0 : Method := { name := "<init>", desc := "()V", sig := { parameters := [], returnType := none }, accessFlags := 1, code := none }
def k1c1 : Code := { maxStack := 4, maxLocals := 6, code := code, exceptionTable := #[], attributes := #[] }
def k1m1 : Method := { name := "law", desc := "(I)Z", sig := { parameters := [.int], returnType := some .boolean }, accessFlags := 9, code := some k1c1 }
/-- com/example/tallyhoard/tallyhoard/RuleOfLabelPinLaw -/
def k1 : Class := { plain "com/example/tallyhoard/tallyhoard/RuleOfLabelPinLaw" (some 0) with
  accessFlags := 49
  interfaces := #[]
  cf := some (fileOf pool1 33 #[] #[{ accessFlags := 1, nameIndex := 5, descriptorIndex := 6, attributes := #[] }, { accessFlags := 9, nameIndex := 37, descriptorIndex := 38, attributes := #[] }] 49 2 #[] #[])
  fields := #[]
  methods := #[k1m0, k1m1]
  instanceTypes := #[]
  staticTypes := #[]
  resolved := Array.replicate 44 none
  statics := none }

def pool2 : Array CpInfo := pool [(1, .class_ 2), (0, u "java/io/Serializable"), (0, .class_ 4), (0, u "java/lang/Object")] 2

/-- java/io/Serializable -/
def k2 : Class := { plain "java/io/Serializable" (some 0) with
  accessFlags := 1537
  interfaces := #[]
  cf := some (fileOf pool2 1 #[] #[] 1537 3 #[] #[])
  fields := #[]
  methods := #[]
  instanceTypes := #[]
  staticTypes := #[]
  resolved := Array.replicate 7 none
  statics := none }

def pool3 : Array CpInfo := pool [(1, .class_ 2), (0, u "java/lang/Comparable"), (0, .class_ 4), (0, u "java/lang/Object")] 7

/-- java/lang/Comparable -/
def k3 : Class := { plain "java/lang/Comparable" (some 0) with
  accessFlags := 1537
  interfaces := #[]
  cf := some (fileOf pool3 1 #[] #[] 1537 3 #[] #[])
  fields := #[]
  methods := #[]
  instanceTypes := #[]
  staticTypes := #[]
  resolved := Array.replicate 12 none
  statics := none }

def pool4 : Array CpInfo := pool [(2, .class_ 4), (1, u "java/lang/CharSequence"), (42, .class_ 48), (0, u "java/lang/CharSequence$1CodePointIterator"), (10, .class_ 60), (0, u "java/lang/CharSequence$1CharIterator"), (5, .class_ 67), (0, u "java/lang/Object")] 63

/-- java/lang/CharSequence -/
def k4 : Class := { plain "java/lang/CharSequence" (some 0) with
  accessFlags := 1537
  interfaces := #[]
  cf := some (fileOf pool4 2 #[.nestMembers #[47, 59]] #[] 1537 66 #[] #[])
  fields := #[]
  methods := #[]
  instanceTypes := #[]
  staticTypes := #[]
  resolved := Array.replicate 131 none
  statics := none }

def pool5 : Array CpInfo := pool [(1, .class_ 2), (0, u "java/lang/constant/Constable"), (0, .class_ 4), (0, u "java/lang/Object")] 6

/-- java/lang/constant/Constable -/
def k5 : Class := { plain "java/lang/constant/Constable" (some 0) with
  accessFlags := 1537
  interfaces := #[]
  cf := some (fileOf pool5 1 #[] #[] 1537 3 #[] #[])
  fields := #[]
  methods := #[]
  instanceTypes := #[]
  staticTypes := #[]
  resolved := Array.replicate 11 none
  statics := none }

def pool6 : Array CpInfo := pool [(1, .class_ 2), (0, u "java/lang/constant/ConstantDesc"), (0, .class_ 4), (0, u "java/lang/Object")] 32

/-- java/lang/constant/ConstantDesc -/
def k6 : Class := { plain "java/lang/constant/ConstantDesc" (some 0) with
  accessFlags := 1537
  interfaces := #[]
  cf := some (fileOf pool6 1 #[] #[] 1537 3 #[] #[])
  fields := #[]
  methods := #[]
  instanceTypes := #[]
  staticTypes := #[]
  resolved := Array.replicate 37 none
  statics := none }

def pool7 : Array CpInfo := pool [(1, .methodref 2 3), (0, .class_ 4), (0, .nameAndType 5 6), (0, u "java/lang/Object"), (0, u "<init>"), (0, u "()V"), (2, .fieldref 10 11), (0, .class_ 12), (0, .nameAndType 13 14), (0, u "java/lang/String"), (0, u "value"), (0, u "[B"), (0, .fieldref 10 16), (0, .nameAndType 17 18), (0, u "coder"), (0, u "B"), (2, u "hash"), (0, u "I"), (2, u "hashIsZero"), (0, u "Z"), (0, .methodref 10 28), (0, .nameAndType 5 29), (0, u "([CIILjava/lang/Void;)V"), (8, .fieldref 10 39), (0, .nameAndType 40 26), (0, u "COMPACT_STRINGS"), (1, .class_ 44), (1, u "java/lang/StringUTF16"), (0, u "compress"), (1, .methodref 42 48), (0, .nameAndType 49 50), (0, u "coderFromArrayLen"), (0, u "([BI)B"), (56, .class_ 109), (1, u "java/lang/StringLatin1"), (67, .methodref 42 178), (0, .nameAndType 45 179), (0, u "([CII)[B"), (361, .methodref 107 542), (0, .nameAndType 543 544), (0, u "equals"), (0, u "([B[B)Z"), (28, u "(Ljava/lang/Object;)Z"), (1, .class_ 576), (0, u "java/lang/CharSequence"), (22, u "CASE_INSENSITIVE_ORDER"), (0, u "Ljava/util/Comparator;"), (409, u "([C)V"), (90, u "serialPersistentFields"), (0, u "[Ljava/io/ObjectStreamField;"), (0, .class_ 1104), (0, u "java/lang/String$CaseInsensitiveComparator"), (1, .class_ 1107), (0, u "java/io/Serializable"), (0, .class_ 1109), (0, u "java/lang/Comparable"), (0, .class_ 1111), (0, u "java/lang/constant/Constable"), (0, .class_ 1113), (0, u "java/lang/constant/ConstantDesc"), (2, u "serialVersionUID"), (0, u "J"), (3, u "REPL"), (0, u "C"), (2, u "LATIN1"), (1, u "UTF16")] 323

def k7m0 : Method := { name := "<init>", desc := "()V", sig := { parameters := [], returnType := none }, accessFlags := 1, code := none }
def k7c1 : Code := { maxStack := 5, maxLocals := 2, code := jdk_42_method_3_code, exceptionTable := #[], attributes := #[] }
def k7m1 : Method := { name := "<init>", desc := "([C)V", sig := { parameters := [(.array .char)], returnType := none }, accessFlags := 1, code := some k7c1 }
def k7c2 : Code := { maxStack := 2, maxLocals := 3, code := jdk_42_method_66_code, exceptionTable := #[], attributes := #[] }
def k7m2 : Method := { name := "equals", desc := "(Ljava/lang/Object;)Z", sig := { parameters := [(.object "java/lang/Object")], returnType := some .boolean }, accessFlags := 1, code := some k7c2 }
def k7c3 : Code := { maxStack := 4, maxLocals := 6, code := jdk_42_method_149_code, exceptionTable := #[], attributes := #[] }
def k7m3 : Method := { name := "<init>", desc := "([CIILjava/lang/Void;)V", sig := { parameters := [(.array .char), .int, .int, (.object "java/lang/Void")], returnType := none }, accessFlags := 2, code := some k7c3 }
/-- java/lang/String -/
def k7 : Class := { plain "java/lang/String" (some 0) with
  accessFlags := 49
  interfaces := #[2, 3, 4, 5, 6]
  cf := some (fileOf pool7 10 #[.nestMembers #[1103]] #[{ accessFlags := 1, nameIndex := 5, descriptorIndex := 6, attributes := #[] }, { accessFlags := 1, nameIndex := 5, descriptorIndex := 1010, attributes := #[] }, { accessFlags := 1, nameIndex := 543, descriptorIndex := 573, attributes := #[] }, { accessFlags := 2, nameIndex := 5, descriptorIndex := 29, attributes := #[] }] 49 2 #[1106, 1108, 575, 1110, 1112] #[{ accessFlags := 18, nameIndex := 13, descriptorIndex := 14, attributes := #[] }, { accessFlags := 18, nameIndex := 17, descriptorIndex := 18, attributes := #[] }, { accessFlags := 2, nameIndex := 21, descriptorIndex := 22, attributes := #[] }, { accessFlags := 2, nameIndex := 25, descriptorIndex := 26, attributes := #[] }, { accessFlags := 26, nameIndex := 1116, descriptorIndex := 1117, attributes := #[] }, { accessFlags := 24, nameIndex := 40, descriptorIndex := 26, attributes := #[] }, { accessFlags := 26, nameIndex := 1101, descriptorIndex := 1102, attributes := #[] }, { accessFlags := 26, nameIndex := 1121, descriptorIndex := 1122, attributes := #[] }, { accessFlags := 25, nameIndex := 599, descriptorIndex := 600, attributes := #[] }, { accessFlags := 24, nameIndex := 1125, descriptorIndex := 18, attributes := #[] }, { accessFlags := 24, nameIndex := 1127, descriptorIndex := 18, attributes := #[] }])
  fields := #[{ name := "value", type := (.array .byte), accessFlags := 18, slot := 0, constantValue := 0 }, { name := "coder", type := .byte, accessFlags := 18, slot := 1, constantValue := 0 }, { name := "hash", type := .int, accessFlags := 2, slot := 2, constantValue := 0 }, { name := "hashIsZero", type := .boolean, accessFlags := 2, slot := 3, constantValue := 0 }, { name := "serialVersionUID", type := .long, accessFlags := 26, slot := 0, constantValue := 0 }, { name := "COMPACT_STRINGS", type := .boolean, accessFlags := 24, slot := 1, constantValue := 0 }, { name := "serialPersistentFields", type := (.array (.object "java/io/ObjectStreamField")), accessFlags := 26, slot := 2, constantValue := 0 }, { name := "REPL", type := .char, accessFlags := 26, slot := 3, constantValue := 0 }, { name := "CASE_INSENSITIVE_ORDER", type := (.object "java/util/Comparator"), accessFlags := 25, slot := 4, constantValue := 0 }, { name := "LATIN1", type := .byte, accessFlags := 24, slot := 5, constantValue := 0 }, { name := "UTF16", type := .byte, accessFlags := 24, slot := 6, constantValue := 0 }]
  methods := #[k7m0, k7m1, k7m2, k7m3]
  instanceTypes := #[(.array .byte), .byte, .int, .boolean]
  staticTypes := #[.long, .boolean, (.array (.object "java/io/ObjectStreamField")), .char, (.object "java/util/Comparator"), .byte, .byte]
  resolved := Array.replicate 1451 none
  statics := some 0 }

def pool8 : Array CpInfo := pool [(6, .class_ 8), (1, u "java/lang/Object"), (0, u "<init>"), (0, u "()V"), (1, .class_ 14), (1, u "java/lang/StringUTF16"), (31, u "$assertionsDisabled"), (0, u "Z"), (13, u "HI_BYTE_SHIFT"), (0, u "I"), (2, u "LO_BYTE_SHIFT"), (49, .methodref 12 116), (0, .nameAndType 117 118), (0, u "compress"), (0, u "([CI[BII)I"), (3, u "([CII)[B"), (138, u "coderFromArrayLen"), (0, u "([BI)B"), (106, .class_ 371), (1, u "java/lang/StringUTF16$LinesSpliterator"), (58, u "MAX_LENGTH"), (196, .class_ 628), (0, u "java/lang/StringUTF16$CodePointsSpliterator"), (0, .class_ 630), (0, u "java/lang/StringUTF16$CharsSpliterator")] 4

def k8m0 : Method := { name := "<init>", desc := "()V", sig := { parameters := [], returnType := none }, accessFlags := 0, code := none }
def k8c1 : Code := { maxStack := 2, maxLocals := 2, code := jdk_52_method_15_code, exceptionTable := #[], attributes := #[] }
def k8m1 : Method := { name := "coderFromArrayLen", desc := "([BI)B", sig := { parameters := [(.array .byte), .int], returnType := some .byte }, accessFlags := 8, code := some k8c1 }
def k8c2 : Code := { maxStack := 5, maxLocals := 6, code := jdk_52_method_16_code, exceptionTable := #[], attributes := #[] }
def k8m2 : Method := { name := "compress", desc := "([CII)[B", sig := { parameters := [(.array .char), .int, .int], returnType := some (.array .byte) }, accessFlags := 9, code := some k8c2 }
def k8c3 : Code := { maxStack := 3, maxLocals := 7, code := jdk_52_method_21_code, exceptionTable := #[], attributes := #[] }
def k8m3 : Method := { name := "compress", desc := "([CI[BII)I", sig := { parameters := [(.array .char), .int, (.array .byte), .int, .int], returnType := some .int }, accessFlags := 9, code := some k8c3 }
/-- java/lang/StringUTF16 -/
def k8 : Class := { plain "java/lang/StringUTF16" (some 0) with
  accessFlags := 48
  interfaces := #[]
  cf := some (fileOf pool8 12 #[.nestMembers #[627, 629, 369]] #[{ accessFlags := 0, nameIndex := 9, descriptorIndex := 10, attributes := #[] }, { accessFlags := 8, nameIndex := 261, descriptorIndex := 262, attributes := #[] }, { accessFlags := 9, nameIndex := 117, descriptorIndex := 122, attributes := #[] }, { accessFlags := 9, nameIndex := 117, descriptorIndex := 118, attributes := #[] }] 48 6 #[] #[{ accessFlags := 26, nameIndex := 61, descriptorIndex := 62, attributes := #[] }, { accessFlags := 26, nameIndex := 65, descriptorIndex := 62, attributes := #[] }, { accessFlags := 24, nameIndex := 430, descriptorIndex := 62, attributes := #[] }, { accessFlags := 4120, nameIndex := 46, descriptorIndex := 47, attributes := #[] }])
  fields := #[{ name := "HI_BYTE_SHIFT", type := .int, accessFlags := 26, slot := 0, constantValue := 0 }, { name := "LO_BYTE_SHIFT", type := .int, accessFlags := 26, slot := 1, constantValue := 0 }, { name := "MAX_LENGTH", type := .int, accessFlags := 24, slot := 2, constantValue := 0 }, { name := "$assertionsDisabled", type := .boolean, accessFlags := 4120, slot := 3, constantValue := 0 }]
  methods := #[k8m0, k8m1, k8m2, k8m3]
  instanceTypes := #[]
  staticTypes := #[.int, .int, .int, .boolean]
  resolved := Array.replicate 635 none
  statics := none }

def pool9 : Array CpInfo := pool [(2, .class_ 4), (1, u "java/lang/Enum"), (0, u "name"), (0, u "Ljava/lang/String;"), (2, u "ordinal"), (0, u "I"), (1, .class_ 14), (1, u "java/lang/Object"), (4, u "hash"), (86, .class_ 108), (1, u "java/lang/Enum$EnumDesc"), (2, .class_ 112), (0, u "java/lang/constant/Constable"), (0, .class_ 114), (0, u "java/lang/Comparable"), (0, .class_ 116), (0, u "java/io/Serializable")] 87

/-- java/lang/Enum -/
def k9 : Class := { plain "java/lang/Enum" (some 0) with
  accessFlags := 1057
  interfaces := #[5, 3, 2]
  cf := some (fileOf pool9 2 #[.nestMembers #[106]] #[] 1057 12 #[111, 113, 115] #[{ accessFlags := 18, nameIndex := 5, descriptorIndex := 6, attributes := #[] }, { accessFlags := 18, nameIndex := 9, descriptorIndex := 10, attributes := #[] }, { accessFlags := 2, nameIndex := 19, descriptorIndex := 10, attributes := #[] }])
  fields := #[{ name := "name", type := (.object "java/lang/String"), accessFlags := 18, slot := 0, constantValue := 0 }, { name := "ordinal", type := .int, accessFlags := 18, slot := 1, constantValue := 0 }, { name := "hash", type := .int, accessFlags := 2, slot := 2, constantValue := 0 }]
  methods := #[]
  instanceTypes := #[(.object "java/lang/String"), .int, .int]
  staticTypes := #[]
  resolved := Array.replicate 204 none
  statics := none }

def pool10 : Array CpInfo := pool [(1, .class_ 2), (0, u "com/example/tallyhoard/tallyhoard/Rule"), (2, u "WORDS"), (0, u "Lcom/example/tallyhoard/tallyhoard/Rule;"), (2, u "WHITESPACE"), (0, .fieldref 1 11), (0, .nameAndType 12 13), (0, u "$VALUES"), (0, u "[Lcom/example/tallyhoard/tallyhoard/Rule;"), (0, .methodref 15 16), (0, .class_ 13), (0, .nameAndType 17 18), (0, u "clone"), (0, u "()Ljava/lang/Object;"), (1, .class_ 22), (1, u "java/lang/Enum"), (6, .fieldref 1 30), (0, .nameAndType 31 32), (0, u "label"), (0, u "Ljava/lang/String;"), (2, u "splitter"), (0, u "Ljava/util/function/Function;"), (0, .methodref 1 38), (0, .nameAndType 39 40), (0, u "values"), (0, u "()[Lcom/example/tallyhoard/tallyhoard/Rule;"), (0, .methodref 42 43), (0, .class_ 44), (0, .nameAndType 45 46), (0, u "java/lang/String"), (0, u "equals"), (0, u "(Ljava/lang/Object;)Z"), (82, u "(Ljava/lang/String;)Lcom/example/tallyhoard/tallyhoard/Rule;"), (2, u "()Ljava/lang/String;"), (0, u "ofLabel")] 58

def k10c0 : Code := { maxStack := 1, maxLocals := 0, code := prog_14_method_1_code, exceptionTable := #[], attributes := #[] }
def k10m0 : Method := { name := "values", desc := "()[Lcom/example/tallyhoard/tallyhoard/Rule;", sig := { parameters := [], returnType := some (.array (.object "com/example/tallyhoard/tallyhoard/Rule")) }, accessFlags := 9, code := some k10c0 }
def k10c1 : Code := { maxStack := 1, maxLocals := 1, code := prog_14_method_4_code, exceptionTable := #[], attributes := #[] }
def k10m1 : Method := { name := "label", desc := "()Ljava/lang/String;", sig := { parameters := [], returnType := some (.object "java/lang/String") }, accessFlags := 1, code := some k10c1 }
def k10c2 : Code := { maxStack := 5, maxLocals := 5, code := prog_14_method_5_code, exceptionTable := #[], attributes := #[] }
def k10m2 : Method := { name := "ofLabel", desc := "(Ljava/lang/String;)Lcom/example/tallyhoard/tallyhoard/Rule;", sig := { parameters := [(.object "java/lang/String")], returnType := some (.object "com/example/tallyhoard/tallyhoard/Rule") }, accessFlags := 9, code := some k10c2 }
/-- com/example/tallyhoard/tallyhoard/Rule -/
def k10 : Class := { plain "com/example/tallyhoard/tallyhoard/Rule" (some 9) with
  accessFlags := 16433
  interfaces := #[]
  cf := some (fileOf pool10 1 #[] #[{ accessFlags := 9, nameIndex := 39, descriptorIndex := 40, attributes := #[] }, { accessFlags := 1, nameIndex := 31, descriptorIndex := 132, attributes := #[] }, { accessFlags := 9, nameIndex := 133, descriptorIndex := 129, attributes := #[] }] 16433 20 #[] #[{ accessFlags := 16409, nameIndex := 5, descriptorIndex := 6, attributes := #[] }, { accessFlags := 16409, nameIndex := 9, descriptorIndex := 6, attributes := #[] }, { accessFlags := 18, nameIndex := 31, descriptorIndex := 32, attributes := #[] }, { accessFlags := 18, nameIndex := 35, descriptorIndex := 36, attributes := #[] }, { accessFlags := 4122, nameIndex := 12, descriptorIndex := 13, attributes := #[] }])
  fields := #[{ name := "WORDS", type := (.object "com/example/tallyhoard/tallyhoard/Rule"), accessFlags := 16409, slot := 0, constantValue := 0 }, { name := "WHITESPACE", type := (.object "com/example/tallyhoard/tallyhoard/Rule"), accessFlags := 16409, slot := 1, constantValue := 0 }, { name := "label", type := (.object "java/lang/String"), accessFlags := 18, slot := 3, constantValue := 0 }, { name := "splitter", type := (.object "java/util/function/Function"), accessFlags := 18, slot := 4, constantValue := 0 }, { name := "$VALUES", type := (.array (.object "com/example/tallyhoard/tallyhoard/Rule")), accessFlags := 4122, slot := 2, constantValue := 0 }]
  methods := #[k10m0, k10m1, k10m2]
  instanceTypes := #[(.object "java/lang/String"), .int, .int, (.object "java/lang/String"), (.object "java/util/function/Function")]
  staticTypes := #[(.object "com/example/tallyhoard/tallyhoard/Rule"), (.object "com/example/tallyhoard/tallyhoard/Rule"), (.array (.object "com/example/tallyhoard/tallyhoard/Rule"))]
  resolved := Array.replicate 192 none
  statics := some 1 }

def pool11 : Array CpInfo := pool [(1, .class_ 2), (0, u "java/lang/Cloneable"), (0, .class_ 4), (0, u "java/lang/Object")] 2

/-- java/lang/Cloneable -/
def k11 : Class := { plain "java/lang/Cloneable" (some 0) with
  accessFlags := 1537
  interfaces := #[]
  cf := some (fileOf pool11 1 #[] #[] 1537 3 #[] #[])
  fields := #[]
  methods := #[]
  instanceTypes := #[]
  staticTypes := #[]
  resolved := Array.replicate 7 none
  statics := none }

def pool12 : Array CpInfo := pool [(4, .class_ 6), (1, u "java/lang/Object"), (0, u "<init>"), (0, u "()V"), (5, .class_ 16), (1, u "java/lang/StringLatin1"), (104, u "$assertionsDisabled"), (0, u "Z"), (98, .class_ 223), (1, u "java/lang/StringLatin1$LinesSpliterator"), (57, u "equals"), (0, u "([B[B)Z"), (107, .class_ 391), (0, u "java/lang/StringLatin1$CharsSpliterator")] 3

def k12m0 : Method := { name := "<init>", desc := "()V", sig := { parameters := [], returnType := none }, accessFlags := 0, code := none }
def k12c1 : Code := { maxStack := 3, maxLocals := 3, code := jdk_43_method_13_code, exceptionTable := #[], attributes := #[] }
def k12m1 : Method := { name := "equals", desc := "([B[B)Z", sig := { parameters := [(.array .byte), (.array .byte)], returnType := some .boolean }, accessFlags := 9, code := some k12c1 }
/-- java/lang/StringLatin1 -/
def k12 : Class := { plain "java/lang/StringLatin1" (some 0) with
  accessFlags := 48
  interfaces := #[]
  cf := some (fileOf pool12 14 #[.nestMembers #[390, 221]] #[{ accessFlags := 0, nameIndex := 7, descriptorIndex := 8, attributes := #[] }, { accessFlags := 9, nameIndex := 281, descriptorIndex := 282, attributes := #[] }] 48 4 #[] #[{ accessFlags := 4120, nameIndex := 121, descriptorIndex := 122, attributes := #[] }])
  fields := #[{ name := "$assertionsDisabled", type := .boolean, accessFlags := 4120, slot := 0, constantValue := 0 }]
  methods := #[k12m0, k12m1]
  instanceTypes := #[]
  staticTypes := #[.boolean]
  resolved := Array.replicate 395 none
  statics := none }

def pool13 : Array CpInfo := pool [(2, .class_ 4), (1, u "java/lang/Object"), (0, u "<init>"), (0, u "()V"), (17, .class_ 26), (1, u "jdk/internal/util/Preconditions"), (28, .class_ 56), (0, u "jdk/internal/util/Preconditions$4"), (57, .class_ 115), (0, u "jdk/internal/util/Preconditions$1"), (7, u "SIOOBE_FORMATTER"), (0, u "Ljava/util/function/BiFunction;"), (0, .class_ 126), (0, u "jdk/internal/util/Preconditions$2"), (3, u "AIOOBE_FORMATTER"), (0, .class_ 132), (0, u "jdk/internal/util/Preconditions$3"), (3, u "IOOBE_FORMATTER")] 57

def k13m0 : Method := { name := "<init>", desc := "()V", sig := { parameters := [], returnType := none }, accessFlags := 1, code := none }
/-- jdk/internal/util/Preconditions -/
def k13 : Class := { plain "jdk/internal/util/Preconditions" (some 0) with
  accessFlags := 33
  interfaces := #[]
  cf := some (fileOf pool13 24 #[.nestMembers #[55, 131, 125, 114]] #[{ accessFlags := 1, nameIndex := 5, descriptorIndex := 6, attributes := #[] }] 33 2 #[] #[{ accessFlags := 25, nameIndex := 123, descriptorIndex := 124, attributes := #[] }, { accessFlags := 25, nameIndex := 130, descriptorIndex := 124, attributes := #[] }, { accessFlags := 25, nameIndex := 136, descriptorIndex := 124, attributes := #[] }])
  fields := #[{ name := "SIOOBE_FORMATTER", type := (.object "java/util/function/BiFunction"), accessFlags := 25, slot := 0, constantValue := 0 }, { name := "AIOOBE_FORMATTER", type := (.object "java/util/function/BiFunction"), accessFlags := 25, slot := 1, constantValue := 0 }, { name := "IOOBE_FORMATTER", type := (.object "java/util/function/BiFunction"), accessFlags := 25, slot := 2, constantValue := 0 }]
  methods := #[k13m0]
  instanceTypes := #[]
  staticTypes := #[(.object "java/util/function/BiFunction"), (.object "java/util/function/BiFunction"), (.object "java/util/function/BiFunction")]
  resolved := Array.replicate 194 none
  statics := some 2 }

def pool14 : Array CpInfo := pool [(9, u "<init>"), (6, .class_ 18), (1, u "java/lang/Object"), (0, u "()V"), (1, .class_ 23), (1, u "jdk/internal/util/ArraysSupport"), (0, u "LOG2_ARRAY_LONG_INDEX_SCALE"), (0, u "I"), (2, u "U"), (0, u "Ljdk/internal/misc/Unsafe;"), (8, u "BIG_ENDIAN"), (0, u "Z"), (8, u "LOG2_BYTE_BIT_SIZE"), (4, u "LOG2_ARRAY_INT_INDEX_SCALE"), (54, u "JLA"), (0, u "Ljdk/internal/access/JavaLangAccess;"), (11, u "LOG2_ARRAY_BOOLEAN_INDEX_SCALE"), (9, u "LOG2_ARRAY_BYTE_INDEX_SCALE"), (5, u "LOG2_ARRAY_CHAR_INDEX_SCALE"), (5, u "LOG2_ARRAY_SHORT_INDEX_SCALE"), (18, u "LOG2_ARRAY_FLOAT_INDEX_SCALE"), (24, u "LOG2_ARRAY_DOUBLE_INDEX_SCALE"), (89, u "T_BOOLEAN"), (2, u "T_CHAR"), (1, u "T_FLOAT"), (1, u "T_DOUBLE"), (1, u "T_BYTE"), (1, u "T_SHORT"), (1, u "T_INT"), (1, u "T_LONG"), (1, u "SOFT_MAX_ARRAY_LENGTH")] 83

def k14m0 : Method := { name := "<init>", desc := "()V", sig := { parameters := [], returnType := none }, accessFlags := 2, code := none }
/-- jdk/internal/util/ArraysSupport -/
def k14 : Class := { plain "jdk/internal/util/ArraysSupport" (some 0) with
  accessFlags := 33
  interfaces := #[]
  cf := some (fileOf pool14 21 #[] #[{ accessFlags := 2, nameIndex := 9, descriptorIndex := 19, attributes := #[] }] 33 16 #[] #[{ accessFlags := 24, nameIndex := 28, descriptorIndex := 29, attributes := #[] }, { accessFlags := 26, nameIndex := 38, descriptorIndex := 39, attributes := #[] }, { accessFlags := 25, nameIndex := 121, descriptorIndex := 25, attributes := #[] }, { accessFlags := 25, nameIndex := 131, descriptorIndex := 25, attributes := #[] }, { accessFlags := 25, nameIndex := 137, descriptorIndex := 25, attributes := #[] }, { accessFlags := 25, nameIndex := 143, descriptorIndex := 25, attributes := #[] }, { accessFlags := 25, nameIndex := 53, descriptorIndex := 25, attributes := #[] }, { accessFlags := 25, nameIndex := 24, descriptorIndex := 25, attributes := #[] }, { accessFlags := 25, nameIndex := 162, descriptorIndex := 25, attributes := #[] }, { accessFlags := 25, nameIndex := 187, descriptorIndex := 25, attributes := #[] }, { accessFlags := 26, nameIndex := 48, descriptorIndex := 25, attributes := #[] }, { accessFlags := 25, nameIndex := 277, descriptorIndex := 25, attributes := #[] }, { accessFlags := 25, nameIndex := 280, descriptorIndex := 25, attributes := #[] }, { accessFlags := 25, nameIndex := 282, descriptorIndex := 25, attributes := #[] }, { accessFlags := 25, nameIndex := 284, descriptorIndex := 25, attributes := #[] }, { accessFlags := 25, nameIndex := 286, descriptorIndex := 25, attributes := #[] }, { accessFlags := 25, nameIndex := 288, descriptorIndex := 25, attributes := #[] }, { accessFlags := 25, nameIndex := 290, descriptorIndex := 25, attributes := #[] }, { accessFlags := 25, nameIndex := 292, descriptorIndex := 25, attributes := #[] }, { accessFlags := 26, nameIndex := 108, descriptorIndex := 109, attributes := #[] }, { accessFlags := 25, nameIndex := 294, descriptorIndex := 25, attributes := #[] }])
  fields := #[{ name := "U", type := (.object "jdk/internal/misc/Unsafe"), accessFlags := 24, slot := 0, constantValue := 0 }, { name := "BIG_ENDIAN", type := .boolean, accessFlags := 26, slot := 1, constantValue := 0 }, { name := "LOG2_ARRAY_BOOLEAN_INDEX_SCALE", type := .int, accessFlags := 25, slot := 2, constantValue := 0 }, { name := "LOG2_ARRAY_BYTE_INDEX_SCALE", type := .int, accessFlags := 25, slot := 3, constantValue := 0 }, { name := "LOG2_ARRAY_CHAR_INDEX_SCALE", type := .int, accessFlags := 25, slot := 4, constantValue := 0 }, { name := "LOG2_ARRAY_SHORT_INDEX_SCALE", type := .int, accessFlags := 25, slot := 5, constantValue := 0 }, { name := "LOG2_ARRAY_INT_INDEX_SCALE", type := .int, accessFlags := 25, slot := 6, constantValue := 0 }, { name := "LOG2_ARRAY_LONG_INDEX_SCALE", type := .int, accessFlags := 25, slot := 7, constantValue := 0 }, { name := "LOG2_ARRAY_FLOAT_INDEX_SCALE", type := .int, accessFlags := 25, slot := 8, constantValue := 0 }, { name := "LOG2_ARRAY_DOUBLE_INDEX_SCALE", type := .int, accessFlags := 25, slot := 9, constantValue := 0 }, { name := "LOG2_BYTE_BIT_SIZE", type := .int, accessFlags := 26, slot := 10, constantValue := 0 }, { name := "T_BOOLEAN", type := .int, accessFlags := 25, slot := 11, constantValue := 0 }, { name := "T_CHAR", type := .int, accessFlags := 25, slot := 12, constantValue := 0 }, { name := "T_FLOAT", type := .int, accessFlags := 25, slot := 13, constantValue := 0 }, { name := "T_DOUBLE", type := .int, accessFlags := 25, slot := 14, constantValue := 0 }, { name := "T_BYTE", type := .int, accessFlags := 25, slot := 15, constantValue := 0 }, { name := "T_SHORT", type := .int, accessFlags := 25, slot := 16, constantValue := 0 }, { name := "T_INT", type := .int, accessFlags := 25, slot := 17, constantValue := 0 }, { name := "T_LONG", type := .int, accessFlags := 25, slot := 18, constantValue := 0 }, { name := "JLA", type := (.object "jdk/internal/access/JavaLangAccess"), accessFlags := 26, slot := 19, constantValue := 0 }, { name := "SOFT_MAX_ARRAY_LENGTH", type := .int, accessFlags := 25, slot := 20, constantValue := 0 }]
  methods := #[k14m0]
  instanceTypes := #[]
  staticTypes := #[(.object "jdk/internal/misc/Unsafe"), .boolean, .int, .int, .int, .int, .int, .int, .int, .int, .int, .int, .int, .int, .int, .int, .int, .int, .int, (.object "jdk/internal/access/JavaLangAccess"), .int]
  resolved := Array.replicate 378 none
  statics := none }

/-- the primitive byte -/
def k15 : Class := { plain "byte" none with kind := .primitive 'B', accessFlags := 0x411 }
/-- [B -/
def k16 : Class := { plain "[B" (some 0) with kind := .array 15 .byte, interfaces := #[11, 2], accessFlags := 1041 }

/-- the primitive char -/
def k17 : Class := { plain "char" none with kind := .primitive 'C', accessFlags := 0x411 }
/-- [C -/
def k18 : Class := { plain "[C" (some 0) with kind := .array 17 .char, interfaces := #[11, 2], accessFlags := 1041 }

/-- the primitive int -/
def k19 : Class := { plain "int" none with kind := .primitive 'I', accessFlags := 0x411 }
/-- [I -/
def k20 : Class := { plain "[I" (some 0) with kind := .array 19 .int, interfaces := #[11, 2], accessFlags := 1041 }

/-- [Lcom/example/tallyhoard/tallyhoard/Rule; -/
def k21 : Class := { plain "[Lcom/example/tallyhoard/tallyhoard/Rule;" (some 0) with kind := .array 10 (.object "com/example/tallyhoard/tallyhoard/Rule"), interfaces := #[11, 2], accessFlags := 1041 }

def heap : Heap := #[{ cls := 7, slots := #[.long 0, .int 1, .null, .int 0, .null, .int 0, .int 0], vm := .statics 7 },
  { cls := 10, slots := #[.ref 4, .ref 5, .ref 3], vm := .statics 10 },
  { cls := 13, slots := #[.null, .null, .null], vm := .statics 13 },
  { cls := 21, slots := #[.ref 4, .ref 5], vm := .none },
  { cls := 10, slots := #[.null, .int 0, .int 0, .ref 6, .null], vm := .none },
  { cls := 10, slots := #[.null, .int 1, .int 0, .ref 8, .null], vm := .none },
  { cls := 7, slots := #[.ref 7, .int 0, .int 0, .int 0], vm := .none },
  { cls := 16, slots := #[.int 119, .int 111, .int 114, .int 100, .int 115], vm := .none },
  { cls := 7, slots := #[.ref 9, .int 0, .int 0, .int 0], vm := .none },
  { cls := 16, slots := #[.int 119, .int 104, .int 105, .int 116, .int 101, .int 115, .int 112, .int 97, .int 99, .int 101], vm := .none }]
def classes : Array Class := #[k0, k1, k2, k3, k4, k5, k6, k7, k8, k9, k10, k11, k12, k13, k14, k15, k16, k17, k18, k19, k20, k21]
def interned : List (Array UInt16 × Addr) := []
def slotsUsed : Nat := 48
def theMethod : MethodId := ⟨1, 1⟩
def args0 : Array Value := #[.int 5]
def aboutOver (below : List Frame) : State where
  vm := { classes := classes, interned := interned.toArray }
  heap := heap
  slotsUsed := slotsUsed
  threads := #[{ frames := .invoking theMethod args0 :: below }]
def below0 : List Frame := [.native { method := ⟨0, 0⟩, args := #[] }]
def about1 : State := aboutOver below0
def p0 : Program := .bare "" "" ""
def e0 : Env := launch0.env 0 0 0
theorem w_frames : about1.frames = Frame.invoking theMethod args0 :: below0 := rfl
set_option maxRecDepth 65536 in
theorem w_args : argsFit about1.vm theMethod args0 = true := by decide +kernel
set_option maxRecDepth 65536 in
theorem w_heap : heapFits about1 = true := by decide +kernel
set_option maxRecDepth 65536 in
theorem w_runnable : about1.curStatus? = some .runnable := by decide +kernel
set_option maxRecDepth 65536 in
theorem w_alone : about1.alone = true := by decide +kernel
set_option maxRecDepth 65536 in
theorem w_named : about1.methodNamed? x = some theMethod := by decide +kernel
set_option maxRecDepth 65536 in
theorem w_hears : about1.hears theMethod below0 = true := by decide +kernel
set_option maxRecDepth 65536 in
theorem w_ripe : about1.ripe theMethod args0 below0 = true := by decide +kernel
theorem w_running : about1.status = .running := rfl
set_option maxRecDepth 65536 in
theorem w_room : about1.hasRoom e0.platform room_1 = true :=
  launch0.hasRoom_least _ room_1 (by decide +kernel) (by decide +kernel) (by decide +kernel) (by decide +kernel) (by decide +kernel) (by decide +kernel)
theorem allAtoms_all (ts : List Jvm.Cond) (a : Array Jvm.Value) (st : Jvm.State) : (allAtoms ts).before a st = ts.all (fun c => c.before a st) := by
  induction ts with
  | nil => rfl
  | cons c t ih =>
    show (Jvm.Cond.and c (allAtoms t)).before a st = _
    rw [Jvm.Cond.before_and, ih, List.all_cons]
def words1 : List Jvm.Cond := Jvm.Cond.code x code maxLocals ret :: tables_1
/-- a 'code' word, met by the world's own term for the bytes: nothing is compared byte by byte -/
theorem code_word {y : MethodName} {bytes : ByteArray} {mx : Nat} {rt : Option FieldType} {a : Array Value} {s : State} {m : MethodId} {meth : Method} {c : Code} (h1 : s.methodNamed? y = some m) (h2 : s.vm.method? m = some meth) (h3 : meth.code = some c) (h4 : c.code = bytes)
    (h5 : (c.maxLocals == mx && c.exceptionTable.isEmpty && decide (c.maxStack ≤ mostOperands) && decide (meth.sig.returnType = rt) && !meth.locks && decide (parseMethodDescriptor y.desc = some meth.sig)) = true) : (Jvm.Cond.code y bytes mx rt).before a s = true := by
  simp only [Bool.and_eq_true, beq_iff_eq, Bool.not_eq_true', decide_eq_true_eq] at h5
  obtain ⟨⟨⟨⟨⟨g1, g2⟩, g3⟩, g4⟩, g5⟩, g6⟩ := h5
  simp [Cond.before, Cond.holds, Cond.value, h1, h2, h3, h4, g1, g2, g3, g4, g5, g6]
def isCode : Jvm.Cond → Bool
  | .code _ _ _ _ => true
  | _ => false
theorem all_split {L : List Jvm.Cond} {P : Jvm.Cond → Bool} (h1 : L.all (fun c => isCode c || P c) = true) (h2 : ∀ c ∈ L.filter isCode, P c = true) : L.all P = true := by
  refine List.all_eq_true.mpr fun c hc => ?_
  have h := List.all_eq_true.mp h1 c hc
  rcases Bool.eq_false_or_eq_true (isCode c) with hi | hi
  · exact h2 c (List.mem_filter.mpr ⟨hc, hi⟩)
  · simpa [hi] using h
set_option maxRecDepth 65536 in
theorem w_c0 : (Jvm.Cond.code x code maxLocals ret).before args0 about1 = true := code_word (m := ⟨1, 1⟩) (meth := k1m1) (c := k1c1) (by decide +kernel) rfl rfl rfl (by decide +kernel)
set_option maxRecDepth 65536 in
theorem w_c1 : (Jvm.Cond.code ({ cls := "java/lang/String", name := "<init>", desc := "([C)V" } : Jvm.MethodName) jdk_42_method_3_code (2 : Nat) (Option.none : Option Jvm.ClassFile.FieldType)).before args0 about1 = true := code_word (m := ⟨7, 1⟩) (meth := k7m1) (c := k7c1) (by decide +kernel) rfl rfl rfl (by decide +kernel)
set_option maxRecDepth 65536 in
theorem w_c2 : (Jvm.Cond.code ({ cls := "java/lang/String", name := "<init>", desc := "([CIILjava/lang/Void;)V" } : Jvm.MethodName) jdk_42_method_149_code (6 : Nat) (Option.none : Option Jvm.ClassFile.FieldType)).before args0 about1 = true := code_word (m := ⟨7, 3⟩) (meth := k7m3) (c := k7c3) (by decide +kernel) rfl rfl rfl (by decide +kernel)
set_option maxRecDepth 65536 in
theorem w_c3 : (Jvm.Cond.code ({ cls := "java/lang/Object", name := "<init>", desc := "()V" } : Jvm.MethodName) object_method_1_code (1 : Nat) (Option.none : Option Jvm.ClassFile.FieldType)).before args0 about1 = true := code_word (m := ⟨0, 0⟩) (meth := k0m0) (c := k0c0) (by decide +kernel) rfl rfl rfl (by decide +kernel)
set_option maxRecDepth 65536 in
theorem w_c4 : (Jvm.Cond.code ({ cls := "java/lang/StringUTF16", name := "compress", desc := "([CII)[B" } : Jvm.MethodName) jdk_52_method_16_code (6 : Nat) (Option.some (Jvm.ClassFile.FieldType.array Jvm.ClassFile.FieldType.byte))).before args0 about1 = true := code_word (m := ⟨8, 2⟩) (meth := k8m2) (c := k8c2) (by decide +kernel) rfl rfl rfl (by decide +kernel)
set_option maxRecDepth 65536 in
theorem w_c5 : (Jvm.Cond.code ({ cls := "java/lang/StringUTF16", name := "compress", desc := "([CI[BII)I" } : Jvm.MethodName) jdk_52_method_21_code (7 : Nat) (Option.some Jvm.ClassFile.FieldType.int)).before args0 about1 = true := code_word (m := ⟨8, 3⟩) (meth := k8m3) (c := k8c3) (by decide +kernel) rfl rfl rfl (by decide +kernel)
set_option maxRecDepth 65536 in
theorem w_c6 : (Jvm.Cond.code ({ cls := "java/lang/StringUTF16", name := "coderFromArrayLen", desc := "([BI)B" } : Jvm.MethodName) jdk_52_method_15_code (2 : Nat) (Option.some Jvm.ClassFile.FieldType.byte)).before args0 about1 = true := code_word (m := ⟨8, 1⟩) (meth := k8m1) (c := k8c1) (by decide +kernel) rfl rfl rfl (by decide +kernel)
set_option maxRecDepth 65536 in
theorem w_c7 : (Jvm.Cond.code ({ cls := "com/example/tallyhoard/tallyhoard/Rule", name := "ofLabel", desc := "(Ljava/lang/String;)Lcom/example/tallyhoard/tallyhoard/Rule;" } : Jvm.MethodName) prog_14_method_5_code (5 : Nat) (Option.some (Jvm.ClassFile.FieldType.object "com/example/tallyhoard/tallyhoard/Rule"))).before args0 about1 = true := code_word (m := ⟨10, 2⟩) (meth := k10m2) (c := k10c2) (by decide +kernel) rfl rfl rfl (by decide +kernel)
set_option maxRecDepth 65536 in
theorem w_c8 : (Jvm.Cond.code ({ cls := "com/example/tallyhoard/tallyhoard/Rule", name := "values", desc := "()[Lcom/example/tallyhoard/tallyhoard/Rule;" } : Jvm.MethodName) prog_14_method_1_code (0 : Nat) (Option.some (Jvm.ClassFile.FieldType.array (Jvm.ClassFile.FieldType.object "com/example/tallyhoard/tallyhoard/Rule")))).before args0 about1 = true := code_word (m := ⟨10, 0⟩) (meth := k10m0) (c := k10c0) (by decide +kernel) rfl rfl rfl (by decide +kernel)
set_option maxRecDepth 65536 in
theorem w_c9 : (Jvm.Cond.code ({ cls := "java/lang/String", name := "equals", desc := "(Ljava/lang/Object;)Z" } : Jvm.MethodName) jdk_42_method_66_code (3 : Nat) (Option.some Jvm.ClassFile.FieldType.boolean)).before args0 about1 = true := code_word (m := ⟨7, 2⟩) (meth := k7m2) (c := k7c2) (by decide +kernel) rfl rfl rfl (by decide +kernel)
set_option maxRecDepth 65536 in
theorem w_c10 : (Jvm.Cond.code ({ cls := "java/lang/StringLatin1", name := "equals", desc := "([B[B)Z" } : Jvm.MethodName) jdk_43_method_13_code (3 : Nat) (Option.some Jvm.ClassFile.FieldType.boolean)).before args0 about1 = true := code_word (m := ⟨12, 1⟩) (meth := k12m1) (c := k12c1) (by decide +kernel) rfl rfl rfl (by decide +kernel)
set_option maxRecDepth 65536 in
theorem w_c11 : (Jvm.Cond.code ({ cls := "com/example/tallyhoard/tallyhoard/Rule", name := "label", desc := "()Ljava/lang/String;" } : Jvm.MethodName) prog_14_method_4_code (1 : Nat) (Option.some (Jvm.ClassFile.FieldType.object "java/lang/String"))).before args0 about1 = true := code_word (m := ⟨10, 1⟩) (meth := k10m1) (c := k10c1) (by decide +kernel) rfl rfl rfl (by decide +kernel)
def codes1 : List Jvm.Cond := [Jvm.Cond.code x code maxLocals ret, Jvm.Cond.code ({ cls := "java/lang/String", name := "<init>", desc := "([C)V" } : Jvm.MethodName) jdk_42_method_3_code (2 : Nat) (Option.none : Option Jvm.ClassFile.FieldType), Jvm.Cond.code ({ cls := "java/lang/String", name := "<init>", desc := "([CIILjava/lang/Void;)V" } : Jvm.MethodName) jdk_42_method_149_code (6 : Nat) (Option.none : Option Jvm.ClassFile.FieldType), Jvm.Cond.code ({ cls := "java/lang/Object", name := "<init>", desc := "()V" } : Jvm.MethodName) object_method_1_code (1 : Nat) (Option.none : Option Jvm.ClassFile.FieldType), Jvm.Cond.code ({ cls := "java/lang/StringUTF16", name := "compress", desc := "([CII)[B" } : Jvm.MethodName) jdk_52_method_16_code (6 : Nat) (Option.some (Jvm.ClassFile.FieldType.array Jvm.ClassFile.FieldType.byte)), Jvm.Cond.code ({ cls := "java/lang/StringUTF16", name := "compress", desc := "([CI[BII)I" } : Jvm.MethodName) jdk_52_method_21_code (7 : Nat) (Option.some Jvm.ClassFile.FieldType.int), Jvm.Cond.code ({ cls := "java/lang/StringUTF16", name := "coderFromArrayLen", desc := "([BI)B" } : Jvm.MethodName) jdk_52_method_15_code (2 : Nat) (Option.some Jvm.ClassFile.FieldType.byte), Jvm.Cond.code ({ cls := "com/example/tallyhoard/tallyhoard/Rule", name := "ofLabel", desc := "(Ljava/lang/String;)Lcom/example/tallyhoard/tallyhoard/Rule;" } : Jvm.MethodName) prog_14_method_5_code (5 : Nat) (Option.some (Jvm.ClassFile.FieldType.object "com/example/tallyhoard/tallyhoard/Rule")), Jvm.Cond.code ({ cls := "com/example/tallyhoard/tallyhoard/Rule", name := "values", desc := "()[Lcom/example/tallyhoard/tallyhoard/Rule;" } : Jvm.MethodName) prog_14_method_1_code (0 : Nat) (Option.some (Jvm.ClassFile.FieldType.array (Jvm.ClassFile.FieldType.object "com/example/tallyhoard/tallyhoard/Rule"))), Jvm.Cond.code ({ cls := "java/lang/String", name := "equals", desc := "(Ljava/lang/Object;)Z" } : Jvm.MethodName) jdk_42_method_66_code (3 : Nat) (Option.some Jvm.ClassFile.FieldType.boolean), Jvm.Cond.code ({ cls := "java/lang/StringLatin1", name := "equals", desc := "([B[B)Z" } : Jvm.MethodName) jdk_43_method_13_code (3 : Nat) (Option.some Jvm.ClassFile.FieldType.boolean), Jvm.Cond.code ({ cls := "com/example/tallyhoard/tallyhoard/Rule", name := "label", desc := "()Ljava/lang/String;" } : Jvm.MethodName) prog_14_method_4_code (1 : Nat) (Option.some (Jvm.ClassFile.FieldType.object "java/lang/String"))]
set_option maxRecDepth 65536 in
theorem codes_eq : words1.filter isCode = codes1 := rfl
theorem w_codes : ∀ c ∈ words1.filter isCode, c.before args0 about1 = true := by
  rw [codes_eq]
  intro c hc
  simp only [codes1, List.mem_cons, List.not_mem_nil, or_false] at hc
  rcases hc with rfl | rfl | rfl | rfl | rfl | rfl | rfl | rfl | rfl | rfl | rfl | rfl
  · exact w_c0
  · exact w_c1
  · exact w_c2
  · exact w_c3
  · exact w_c4
  · exact w_c5
  · exact w_c6
  · exact w_c7
  · exact w_c8
  · exact w_c9
  · exact w_c10
  · exact w_c11
set_option maxRecDepth 65536 in
theorem w_t1 : (words1.take 24).all (fun c => isCode c || c.before args0 about1) = true := by decide +kernel
set_option maxRecDepth 65536 in
theorem w_t2 : ((words1.drop 24).take 24).all (fun c => isCode c || c.before args0 about1) = true := by decide +kernel
set_option maxRecDepth 65536 in
theorem w_t3 : ((words1.drop 24).drop 24).all (fun c => isCode c || c.before args0 about1) = true := by decide +kernel
theorem w_tables : (allAtoms (Jvm.Cond.code x code maxLocals ret :: tables_1)).before args0 about1 = true := by
  rw [allAtoms_all]
  show words1.all (fun c => c.before args0 about1) = true
  refine all_split ?_ w_codes
  rw [← List.take_append_drop 24 words1, List.all_append, w_t1, ← List.take_append_drop 24 (words1.drop 24), List.all_append, w_t2, w_t3]
  rfl
set_option maxRecDepth 65536 in
theorem w_rest : rest_1_c.before args0 about1 = true := by decide +kernel
set_option maxRecDepth 65536 in
theorem w_case : (Jvm.Cond.and given_1 narrow_1).before args0 about1 = true := by decide +kernel
theorem w_applies : (headSpec (Jvm.Cond.code x code maxLocals ret :: tables_1) room_1).applies x e0.platform about1 = true :=
  (Spec.applies_iff w_frames).mpr ⟨w_running, w_runnable, w_alone, w_named, w_hears, w_ripe, w_room, w_tables⟩
theorem atStart : AtStart classFile x code maxLocals ret World_1 tables_1 room_1 Calls_1 rest_1 Pre_1 launch0 p0 e0 about1 theMethod args0 below0 :=
  ⟨lists_1, trivial, launch0.admits_env _ _ _, launch0.least_env, fairChoices_fair.cas, fairChoices_fair.clock, w_frames, w_args, w_heap, w_applies, trivial, w_rest, w_case⟩
end start1
theorem witness_1 : WitnessClaimed_1 := ⟨start1.p0, start1.e0, start1.about1, start1.theMethod, start1.args0, start1.below0, start1.atStart⟩
end Jvm.Pilot.@@N@@
