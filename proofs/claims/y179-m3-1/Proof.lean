import JvmDerived
import JvmDerived.Pilot.@@N@@Statement
import JvmDerived.Pilot.@@N@@Code
set_option linter.unusedVariables false
set_option linter.unusedSimpArgs false
namespace Jvm.Pilot.@@N@@
open Jvm Jvm.ClassFile Sem Op Lib Jvm.Free Jvm.Stand Jvm.LawKit Jvm.RoadKit Bundle Jvm.Pilot.@@N@@.Jvm.D
/-! own layer: a small logic of triples over the library's Stand. Fd: a field's owner, name, descriptor, value; Ds: an object (class, fields) or an array (type, is its class known, is it over its component's class, values); En: an address, may it be written, what lies there. -/
abbrev Fd : Type := String × String × String × Value
abbrev Ds : Type := (String × List Fd) ⊕ (FieldType × Bool × Bool × List Value)
abbrev En : Type := Addr × Bool × Ds
abbrev eB (a : Addr) (vs : List Value) : En := (a, true, .inr (.byte, true, false, vs))
abbrev eC (a : Addr) (vs : List Value) : En := (a, true, .inr (.char, true, false, vs))
abbrev eI (a : Addr) (vs : List Value) : En := (a, true, .inr (.int, true, false, vs))
abbrev eJ (a : Addr) (vs : List Value) : En := (a, true, .inr (.long, true, false, vs))
abbrev eO (a : Addr) (vs : List Value) : En := (a, true, .inr (.object "java/lang/Object", true, true, vs))
abbrev Wd : Type := Launch × State × Array Value × Nat
abbrev Mt : Type := MethodName × ByteArray × Nat × Option FieldType × Room
abbrev Kx : Type := Program × Env × State × MethodId × Array Value × List Frame × Method × Code
def wL (W : Wd) : Launch := W.1
def wZ (W : Wd) : State := W.2.1
def wA (W : Wd) : Array Value := W.2.2.1
def wN (W : Wd) : Nat := W.2.2.2
def mN (M : Mt) : MethodName := M.1
def mC (M : Mt) : ByteArray := M.2.1
def mL (M : Mt) : Nat := M.2.2.1
def mT (M : Mt) : Option FieldType := M.2.2.2.1
def mR (M : Mt) : Room := M.2.2.2.2
def kP (K : Kx) : Program := K.1
def kE (K : Kx) : Env := K.2.1
def kS (K : Kx) : State := K.2.2.1
def kM (K : Kx) : MethodId := K.2.2.2.1
def kA (K : Kx) : Array Value := K.2.2.2.2.1
def kB (K : Kx) : List Frame := K.2.2.2.2.2.1
def kH (K : Kx) : Method := K.2.2.2.2.2.2.1
def kC (K : Kx) : Code := K.2.2.2.2.2.2.2
def fSl (Z : State) (f : Fd) : Nat := Jvm.RoadKit.slotOf Z f.1 f.2.1 f.2.2.1
def FdOk (Z : State) (h : Heap) (a : Addr) (f : Fd) : Prop := Fld Z h a f.1 f.2.1 f.2.2.1 f.2.2.2
def ArOk (Z : State) (h : Heap) (a : Addr) (ty : FieldType) (ex ov : Bool) (vs : List Value) : Prop := ∃ c : Cell, Arr Z h a c ty ∧ c.slots.toList = vs ∧ vs.length < 2 ^ 31 ∧ (∀ v ∈ vs, fits ty v = true) ∧ (ex = true → Exa Z h a ("[" ++ ty.toString)) ∧ (ov = true → ∀ C, ty = .object C → Ovr Z c.cls C)
def ObOk (Z : State) (h : Heap) (a : Addr) (C : String) (fs : List Fd) : Prop := Exa Z h a C ∧ (∀ f ∈ fs, FdOk Z h a f) ∧ (fs.map (fSl Z)).Nodup
def DsOk (Z : State) (h : Heap) (a : Addr) (D : Ds) : Prop := match D with
  | .inl (C, fs) => ObOk Z h a C fs
  | .inr (ty, ex, ov, vs) => ArOk Z h a ty ex ov vs
def Apart (x y : En) : Prop := (x.2.1 = false ∧ y.2.1 = false) ∨ x.1 ≠ y.1
def Hp (W : Wd) (h : Heap) (H : List En) : Prop := Old (wZ W) (wN W) h ∧ (∀ x ∈ H, (x.2.1 = true → wN W ≤ x.1) ∧ DsOk (wZ W) h x.1 x.2.2) ∧ H.Pairwise Apart
section HeapLaws
variable {Z : State} {h h' : Heap} {a b : Addr} {W : Wd} {H : List En} {D : Ds} {sl : Nat} {v : Value}
theorem DsOk.lt (F : DsOk Z h a D) : a < h.size := by
  match D, F with
  | .inl _, F => exact F.1.lt
  | .inr _, F => exact F.choose_spec.1.lt
theorem DsOk.ext (F : DsOk Z h a D) (E : Ext h h') : DsOk Z h' a D := by
  match D, F with
  | .inl _, F => exact ⟨F.1.ext E, fun f hf => Fld.ext E (F.2.1 f hf), F.2.2⟩
  | .inr _, ⟨c, h1, h2, h3, h4, h5, h6⟩ => exact ⟨c, h1.ext E, h2, h3, h4, fun q => (h5 q).ext E, h6⟩
theorem DsOk.other (F : DsOk Z h b D) (E : Wr h h' a sl v) (q : b ≠ a) : DsOk Z h' b D := by
  match D, F with
  | .inl _, F => exact ⟨F.1.wr E, fun f hf => Fld.other E (F.2.1 f hf) (Or.inl q), F.2.2⟩
  | .inr _, ⟨c, h1, h2, h3, h4, h5, h6⟩ => exact ⟨c, h1.other E q, h2, h3, h4, fun q => (h5 q).wr E, h6⟩
theorem DsOk.keep {ws : List Addr} (F : DsOk Z h b D) (E : Keep h h' ws) (q : b ∉ ws) : DsOk Z h' b D := by
  match D, F with
  | .inl _, F => exact ⟨F.1.keep E, fun f hf => Fld.keep (F.2.1 f hf) E q, F.2.2⟩
  | .inr _, ⟨c, h1, h2, h3, h4, h5, h6⟩ => exact ⟨c, ⟨E.2.1 _ _ h1.1 q, h1.2⟩, h2, h3, h4, fun q => (h5 q).keep E, h6⟩
theorem Hp.size (P : Hp W h H) : wN W ≤ h.size := by
  obtain ⟨⟨e1, e2⟩, -⟩ := P
  rw [← e1]; exact e2.1
theorem Hp.new (P : Hp W h H) (E : Ext h h') (F : DsOk (wZ W) h' h.size D) : Hp W h' ((h.size, true, D) :: H) := by
  refine ⟨P.1.ext E, fun x hx => ?_, List.pairwise_cons.mpr ⟨fun y hy => Or.inr ?_, P.2.2⟩⟩
  · rcases List.mem_cons.mp hx with rfl | hx
    · exact ⟨fun _ => P.size, F⟩
    · exact ⟨(P.2.1 x hx).1, (P.2.1 x hx).2.ext E⟩
  · have := (P.2.1 y hy).2.lt
    exact fun (e : h.size = y.1) => Nat.lt_irrefl y.1 (Nat.lt_of_lt_of_le this (Nat.le_of_eq e))
theorem Hp.apart (P : Hp W h H) {i j : Nat} {x y : En} (hi : H[i]? = some x) (hj : H[j]? = some y) (hne : i ≠ j) (hw : x.2.1 = true) : y.1 ≠ x.1 := by
  obtain ⟨li, rfl⟩ := List.getElem?_eq_some_iff.mp hi
  obtain ⟨lj, rfl⟩ := List.getElem?_eq_some_iff.mp hj
  have q := List.pairwise_iff_getElem.mp P.2.2
  rcases Nat.lt_or_gt_of_ne hne with g | g
  · rcases q i j li lj g with u | u
    · rw [hw] at u; exact absurd u.1 (by decide)
    · exact fun e => u e.symm
  · rcases q j i lj li g with u | u
    · rw [hw] at u; exact absurd u.2 (by decide)
    · exact u
/-- one entry is written: what else is known stays -/
theorem Hp.put (P : Hp W h H) {i : Nat} {D' : Ds} (hi : H[i]? = some (a, true, D)) (E : Wr h h' a sl v) (F : DsOk (wZ W) h' a D') : Hp W h' (H.set i (a, true, D')) := by
  have hm := List.mem_of_getElem? hi
  have hn := (P.2.1 _ hm).1 rfl
  refine ⟨P.1.wr E hn, fun x hx => ?_, ?_⟩
  · obtain ⟨j, hj⟩ := List.getElem?_of_mem hx
    by_cases e : i = j
    · subst e
      rw [List.getElem?_set_self (List.getElem?_eq_some_iff.mp hi).1] at hj
      cases hj
      exact ⟨fun _ => hn, F⟩
    · rw [List.getElem?_set_ne e] at hj
      have hx' := P.2.1 x (List.mem_of_getElem? hj)
      exact ⟨hx'.1, hx'.2.other E (P.apart hi hj e rfl)⟩
  · rw [List.pairwise_iff_getElem]
    intro j k hj hk hjk
    rw [List.length_set] at hj hk
    have q := (List.pairwise_iff_getElem.mp P.2.2) j k hj hk hjk
    obtain ⟨li, e⟩ := List.getElem?_eq_some_iff.mp hi
    rw [List.getElem_set, List.getElem_set]
    have fix : ∀ x : En, x = (a, true, D) → x.2.1 = true ∧ x.1 = a := fun x e => by subst e; exact ⟨rfl, rfl⟩
    obtain ⟨f1, f2⟩ := fix _ e
    split
    · rename_i e1
      subst e1
      split
      · rename_i e2; omega
      · rcases q with u | u
        · exact absurd (f1.symm.trans u.1) (by decide)
        · exact Or.inr (fun w => u (f2.trans w))
    · split
      · rename_i e2
        subst e2
        rcases q with u | u
        · exact absurd (f1.symm.trans u.2) (by decide)
        · exact Or.inr (fun w => u (w.trans f2.symm))
      · exact q
theorem Hp.sub (P : Hp W h H) {H' : List En} (q : H'.Sublist H) : Hp W h H' := ⟨P.1, fun x hx => P.2.1 x (q.subset hx), P.2.2.sublist q⟩
theorem Apart.symm {x y : En} (q : Apart x y) : Apart y x := q.elim (fun u => Or.inl ⟨u.2, u.1⟩) fun u => Or.inr fun e => u e.symm
theorem Hp.perm (P : Hp W h H) {H' : List En} (q : H.Perm H') : Hp W h H' := ⟨P.1, fun x hx => P.2.1 x (q.mem_iff.mpr hx), (List.Perm.pairwise_iff (fun {x y} (u : Apart x y) => u.symm) q).mp P.2.2⟩
theorem Hp.at (P : Hp W h H) {i : Nat} {w : Bool} (hi : H[i]? = some (a, w, D)) : DsOk (wZ W) h a D := (P.2.1 _ (List.mem_of_getElem? hi)).2
theorem nodup_slot {Z : State} {fs : List Fd} {i j : Nat} {f g : Fd} (P : (fs.map (fSl Z)).Nodup) (hi : fs[i]? = some f) (hj : fs[j]? = some g) (hne : i ≠ j) : fSl Z g ≠ fSl Z f := fun e => by
  obtain ⟨li, rfl⟩ := List.getElem?_eq_some_iff.mp hi
  obtain ⟨lj, rfl⟩ := List.getElem?_eq_some_iff.mp hj
  have q := List.pairwise_iff_getElem.mp P
  rcases Nat.lt_or_gt_of_ne hne with u | u
  · exact q i j (by simpa using li) (by simpa using lj) u (by simpa using e.symm)
  · exact q j i (by simpa using lj) (by simpa using li) u (by simpa using e)
theorem map_set_same {Z : State} {fs : List Fd} {j : Nat} {O n d : String} {old w : Value} (hj : fs[j]? = some (O, n, d, old)) : (fs.set j (O, n, d, w)).map (fSl Z) = fs.map (fSl Z) := by
  apply List.ext_getElem? 
  intro k
  rw [List.getElem?_map, List.getElem?_map]
  by_cases e : j = k
  · subst e
    rw [List.getElem?_set_self (List.getElem?_eq_some_iff.mp hj).1, hj]
    rfl
  · rw [List.getElem?_set_ne e]
theorem ObOk.put {C O n d : String} {fs : List Fd} {j : Nat} {old : Value} (F : ObOk Z h a C fs) (hj : fs[j]? = some (O, n, d, old)) (E : Wr h h' a (Jvm.RoadKit.slotOf Z O n d) v) : ObOk Z h' a C (fs.set j (O, n, d, v)) := by
  refine ⟨F.1.wr E, fun f hf => ?_, by rw [map_set_same hj]; exact F.2.2⟩
  obtain ⟨k, hk⟩ := List.getElem?_of_mem hf
  by_cases e : j = k
  · subst e
    rw [List.getElem?_set_self (List.getElem?_eq_some_iff.mp hj).1] at hk
    cases hk
    exact Fld.same E (show Fld Z h a O n d old from F.2.1 _ (List.mem_of_getElem? hj))
  · rw [List.getElem?_set_ne e] at hk
    exact Fld.other E (show Fld Z h a f.1 f.2.1 f.2.2.1 f.2.2.2 from F.2.1 _ (List.mem_of_getElem? hk)) (Or.inr (show fSl Z f ≠ fSl Z (O, n, d, old) from nodup_slot F.2.2 hj hk e))
theorem ArOk.put {ty : FieldType} {ex ov : Bool} {vs : List Value} {j : Int32} {k : Nat} (F : ArOk Z h a ty ex ov vs) (hk : j.toNatClampNeg = k) (hf : fits ty v = true) (E : Wr h h' a j.toNatClampNeg v) : ArOk Z h' a ty ex ov (vs.set k v) := by
  obtain ⟨c, h1, h2, h3, h4, h5, h6⟩ := F
  subst hk
  refine ⟨c.setSlot j.toNatClampNeg v, h1.same E, ?_, by rw [List.length_set]; exact h3, fun u hu => ?_, fun q => (h5 q).wr E, h6⟩
  · rw [← h2]; simp [Cell.setSlot]
  · rcases List.mem_or_eq_of_mem_set hu with q | q
    · exact h4 u q
    · rw [q]; exact hf
end HeapLaws
/-- the run stands in K's body, over the heap that H tells -/
def Std (W : Wd) (K : Kx) (M : Mt) (T : State) (H : List En) (c n : Nat) : Prop :=
  (kP K).tables.exec = Jvm.exec ∧ (wZ W).Warmed39 (kS K).vm ∧ (kS K).vm.findClass (mN M).cls = some (kM K).cls ∧ (kC K).code = mC M ∧ (kC K).maxLocals = mL M ∧ (kH K).sig.returnType = mT M ∧ (kH K).name = (mN M).name ∧ (kH K).locks = false ∧
  ∃ locs, Stand (kP K) (wL W) (kE K) (mR M) (kS K) (kM K) (kA K) (kB K) (kH K) (kC K) T locs c n ∧ Fr (wN W) locs ∧ Hp W T.heap H
def Fini (W : Wd) (K : Kx) (M : Mt) (Q : Option Value → List En → Prop) (U : State) : Prop :=
  ∃ o, U.status = .running ∧ Ended U (kB K) o ∧ ∃ v L, o = .returned v ∧ (Fr (wN W) L ∧ ∃ H', Hp W U.heap H' ∧ Q v H') ∧ FrameEnd (kS K) o U L (mR M).cells (mR M).slots
def Wp (W : Wd) (K : Kx) (M : Mt) (Q : Option Value → List En → Prop) (H : List En) (c n pc : Nat) (L : List Slot) (S : List Value) : Prop :=
  ∀ T, Std W K M T H c n → ∃ U, Steps (kP K).tables (kE K) (kB K) (T.setTop (mkF (kM K) pc L.toArray S)) U ∧ Fini W K M Q U
/-- what a method does, called with 'as' over the heap that H tells -/
def Ct (W : Wd) (M : Mt) (as : List Value) (H : List En) (Q : Option Value → List En → Prop) : Prop :=
  ∀ (ws : List Cond) (h0 : Heap), Hp W h0 H → MetFree (wL W) (mN M) (head1 (Cond.code (mN M) (mC M) (mL M) (mT M) :: ws) (mR M)) (fun a U => a = as.toArray ∧ (wZ W).Warmed39 U.vm ∧ U.heap = h0) (fun _ _ _ _ _ => True)
    (fun _ U o U' => ∃ v L, o = .returned v ∧ (Fr (wN W) L ∧ ∃ H', Hp W U'.heap H' ∧ Q v H') ∧ FrameEnd U o U' L (mR M).cells (mR M).slots)
def Dc (C : ByteArray) (pc : Nat) (i : Instr) (len pc' : Nat) : Prop := decode C pc = .ok (i, len) ∧ pc + len = pc'
def Bj (C : ByteArray) (pc : Nat) (i : Instr) (o : Int) (pc' pt : Nat) : Prop := decode C pc = .ok (i, 3) ∧ pc + 3 = pc' ∧ 0 ≤ (pc : Int) + o ∧ ((pc : Int) + o).toNat = pt
def Wok (W : Wd) (d : Cond) : Prop := d.before (wA W) (wZ W) = true
section Logic
variable {W : Wd} {K : Kx} {M : Mt} {Q : Option Value → List En → Prop} {H H' : List En} {c n pc pc' pt len : Nat} {L L' : List Slot} {S : List Value}
def slotsOf : List Value → List Slot
  | [] => []
  | v :: vs => if v.category = 2 then .val v :: .second :: slotsOf vs else .val v :: slotsOf vs
theorem slots_fold : ∀ (as : List Value) (acc : Array Slot), as.foldl (fun acc v => if v.category = 2 then (acc.push (.val v)).push .second else acc.push (.val v)) acc = acc ++ (slotsOf as).toArray
  | [], acc => by simp [slotsOf]
  | v :: vs, acc => by
    rw [List.foldl_cons, slots_fold vs]
    by_cases h : v.category = 2
    · simp [slotsOf, h]
    · simp [slotsOf, h]
theorem entry_eq (m : MethodId) (as : List Value) (ml : Nat) : entryFrame m as.toArray ml = mkF m 0 (slotsOf as ++ List.replicate (ml - (slotsOf as).length) Slot.unset).toArray [] := by
  have h : argsToLocals as.toArray ml = (slotsOf as ++ List.replicate (ml - (slotsOf as).length) Slot.unset).toArray := by
    simp [argsToLocals, slots_fold]
  unfold entryFrame
  rw [h]
theorem Ct.intro {as : List Value} {L0 : List Slot} (hp : plainFor (mN M) = true) (he : slotsOf as ++ List.replicate (mL M - (slotsOf as).length) Slot.unset = L0) (body : ∀ K, Wp W K M Q H 0 0 0 L0 []) : Ct W M as H Q := by
  intro ws h0 P
  refine MetFree.of_bodySF hp hisR ?_
  intro p e s m args below meth c s₁ Bd hml0 hP hK
  obtain ⟨rfl, hZ, hh⟩ := hP
  have e0 : s₁.heap = h0 := by rw [← hh, Bd.state]; rfl
  obtain ⟨U, st, o, h1, h2, h3⟩ := body (p, e, s, m, as.toArray, below, meth, c) s₁ ⟨Bd.exec, hZ, findClass_of_methodNamed Bd.named, Bd.bytes, hml0, Bd.returns, (name_of_methodNamed Bd.named Bd.method).1, Bd.notSynchronized, [], Stand.of_body Bd, Fr.nil _, by rw [e0]; exact P⟩
  exact ⟨U, o, castTop ((entry_eq m as (mL M)).trans (by rw [he]; rfl)) st, h1, h2, h3⟩
theorem Ct.mono {as : List Value} {Q' : Option Value → List En → Prop} (C : Ct W M as H Q) (q : ∀ v H', Q v H' → Q' v H') : Ct W M as H Q' := fun ws h0 P =>
  (C ws h0 P).mono (fun _ _ u => u) (fun _ _ _ _ _ u => u) (fun _ _ _ _ _ ⟨v, L, e1, ⟨e2, H', e3, e4⟩, e5⟩ => ⟨v, L, e1, ⟨e2, H', e3, q v H' e4⟩, e5⟩)
theorem Wp.mono {Q' : Option Value → List En → Prop} (k : Wp W K M Q H c n pc L S) (q : ∀ v H', Q v H' → Q' v H') : Wp W K M Q' H c n pc L S := fun T X => by
  obtain ⟨U, st, o, h1, h2, v, L, e1, ⟨e2, H', e3, e4⟩, e5⟩ := k T X
  exact ⟨U, st, o, h1, h2, v, L, e1, ⟨e2, H', e3, q v H' e4⟩, e5⟩
/-- a step that leaves the state -/
theorem Wp.go {S' : List Value} (st : ∀ T locs, Stand (kP K) (wL W) (kE K) (mR M) (kS K) (kM K) (kA K) (kB K) (kH K) (kC K) T locs c n → (kP K).tables.exec = Jvm.exec → (wZ W).Warmed39 (kS K).vm → (kS K).vm.findClass (mN M).cls = some (kM K).cls → (kC K).code = mC M → (kC K).maxLocals = mL M → Hp W T.heap H →
    ∀ t, Steps (kP K).tables (kE K) (kB K) (T.setTop (mkF (kM K) pc' L'.toArray S')) t → Steps (kP K).tables (kE K) (kB K) (T.setTop (mkF (kM K) pc L.toArray S)) t) (k : Wp W K M Q H c n pc' L' S') : Wp W K M Q H c n pc L S := fun T X => by
  obtain ⟨hx, hZ, ho, hb, hm, hr, hn, hl, locs, X, N, P⟩ := X
  obtain ⟨U, s1, s2⟩ := k T ⟨hx, hZ, ho, hb, hm, hr, hn, hl, locs, X, N, P⟩
  exact ⟨U, st T locs X hx hZ ho hb hm P _ s1, s2⟩
/-- a step that comes to another state -/
theorem Wp.to {S' : List Value} {c' n' : Nat} (st : ∀ T locs, Stand (kP K) (wL W) (kE K) (mR M) (kS K) (kM K) (kA K) (kB K) (kH K) (kC K) T locs c n → (kP K).tables.exec = Jvm.exec → (wZ W).Warmed39 (kS K).vm → (kS K).vm.findClass (mN M).cls = some (kM K).cls → (kC K).code = mC M → (kC K).maxLocals = mL M → (kH K).name = (mN M).name → Hp W T.heap H → Fr (wN W) locs →
    ∃ T' locs', Stand (kP K) (wL W) (kE K) (mR M) (kS K) (kM K) (kA K) (kB K) (kH K) (kC K) T' locs' c' n' ∧ Fr (wN W) locs' ∧ Hp W T'.heap H' ∧ ∀ t, Steps (kP K).tables (kE K) (kB K) (T'.setTop (mkF (kM K) pc' L'.toArray S')) t → Steps (kP K).tables (kE K) (kB K) (T.setTop (mkF (kM K) pc L.toArray S)) t) (k : Wp W K M Q H' c' n' pc' L' S') : Wp W K M Q H c n pc L S := fun T X => by
  obtain ⟨hx, hZ, ho, hb, hm, hr, hn, hl, locs, X, N, P⟩ := X
  obtain ⟨T', locs', X', N', P', s0⟩ := st T locs X hx hZ ho hb hm hn P N
  obtain ⟨U, s1, s2⟩ := k T' ⟨hx, hZ, ho, hb, hm, hr, hn, hl, locs', X', N', P'⟩
  exact ⟨U, s0 _ s1, s2⟩
theorem Wp.heap (q : H.Perm H') (k : Wp W K M Q H' c n pc L S) : Wp W K M Q H c n pc L S := fun T X => by
  obtain ⟨hx, hZ, ho, hb, hm, hr, hn, hl, locs, X, N, P⟩ := X
  exact k T ⟨hx, hZ, ho, hb, hm, hr, hn, hl, locs, X, N, P.perm q⟩
theorem Wp.less (q : H'.Sublist H) (k : Wp W K M Q H' c n pc L S) : Wp W K M Q H c n pc L S := fun T X => by
  obtain ⟨hx, hZ, ho, hb, hm, hr, hn, hl, locs, X, N, P⟩ := X
  exact k T ⟨hx, hZ, ho, hb, hm, hr, hn, hl, locs, X, N, P.sub q⟩
theorem Wp.room {c' n' : Nat} (q1 : c ≤ c') (q2 : n ≤ n') (k : Wp W K M Q H c' n' pc L S) : Wp W K M Q H c n pc L S := fun T X => by
  obtain ⟨hx, hZ, ho, hb, hm, hr, hn, hl, locs, X, N, P⟩ := X
  exact k T ⟨hx, hZ, ho, hb, hm, hr, hn, hl, locs, X.mono q1 q2, N, P⟩
theorem hbM {M : Mt} {c : Code} (h : c.code = mC M) {r : Except DecodeError (Instr × Nat)} (h2 : decode (mC M) pc = r) : decode c.code pc = r := by rw [h]; exact h2
theorem Wp.aloadN {k : Fin 4} {v : Value} (hl : L[k.val]? = some (.val v)) (hv : v.isRef = true) (hd : Dc (mC M) pc (.aload_n k) 1 pc') (k : Wp W K M Q H c n pc' L (v :: S)) : Wp W K M Q H c n pc L (S) := by
  obtain ⟨hd, rfl⟩ := hd
  exact Wp.go (fun T locs X hx _ ho hc _ _ t r => XS.aloadN X.here hx rfl (hbM hc hd) (by simpa using hl) hv r) k
theorem Wp.aload {k : Nat} {v : Value} (hl : L[k]? = some (.val v)) (hv : v.isRef = true) (hd : Dc (mC M) pc (.aload k) 2 pc') (k : Wp W K M Q H c n pc' L (v :: S)) : Wp W K M Q H c n pc L (S) := by
  obtain ⟨hd, rfl⟩ := hd
  exact Wp.go (fun T locs X hx _ ho hc _ _ t r => XS.aload X.here hx rfl (hbM hc hd) (by simpa using hl) hv r) k
theorem Wp.iloadN {k : Fin 4} {v : Int32} (hl : L[k.val]? = some (.val (.int v))) (hd : Dc (mC M) pc (.iload_n k) 1 pc') (k : Wp W K M Q H c n pc' L (.int v :: S)) : Wp W K M Q H c n pc L (S) := by
  obtain ⟨hd, rfl⟩ := hd
  exact Wp.go (fun T locs X hx _ ho hc _ _ t r => XS.iloadN X.here hx rfl (hbM hc hd) (by simpa using hl) r) k
theorem Wp.iload {k : Nat} {v : Int32} (hl : L[k]? = some (.val (.int v))) (hd : Dc (mC M) pc (.iload k) 2 pc') (k : Wp W K M Q H c n pc' L (.int v :: S)) : Wp W K M Q H c n pc L (S) := by
  obtain ⟨hd, rfl⟩ := hd
  exact Wp.go (fun T locs X hx _ ho hc _ _ t r => XS.iload X.here hx rfl (hbM hc hd) (by simpa using hl) r) k
theorem Wp.lloadN {k : Fin 4} {v : Int64} (hl : L[k.val]? = some (.val (.long v))) (hd : Dc (mC M) pc (.lload_n k) 1 pc') (k : Wp W K M Q H c n pc' L (.long v :: S)) : Wp W K M Q H c n pc L (S) := by
  obtain ⟨hd, rfl⟩ := hd
  exact Wp.go (fun T locs X hx _ ho hc _ _ t r => XT.lloadN X.here hx rfl (hbM hc hd) (by simpa using hl) r) k
theorem Wp.lload {k : Nat} {v : Int64} (hl : L[k]? = some (.val (.long v))) (hd : Dc (mC M) pc (.lload k) 2 pc') (k : Wp W K M Q H c n pc' L (.long v :: S)) : Wp W K M Q H c n pc L (S) := by
  obtain ⟨hd, rfl⟩ := hd
  exact Wp.go (fun T locs X hx _ ho hc _ _ t r => XT.lload X.here hx rfl (hbM hc hd) (by simpa using hl) r) k
theorem Wp.astoreN {k : Fin 4} {v : Value} (hv : v.isRef = true) (hl : storeLocals L.toArray k.val (v) = some L'.toArray) (hd : Dc (mC M) pc (.astore_n k) 1 pc') (k : Wp W K M Q H c n pc' L' (S)) : Wp W K M Q H c n pc L (v :: S) := by
  obtain ⟨hd, rfl⟩ := hd
  exact Wp.go (fun T locs X hx _ ho hc _ _ t r => XS.astoreN X.here hx rfl (hbM hc hd) rfl hv hl r) k
theorem Wp.astore {k : Nat} {v : Value} (hv : v.isRef = true) (hl : storeLocals L.toArray k (v) = some L'.toArray) (hd : Dc (mC M) pc (.astore k) 2 pc') (k : Wp W K M Q H c n pc' L' (S)) : Wp W K M Q H c n pc L (v :: S) := by
  obtain ⟨hd, rfl⟩ := hd
  exact Wp.go (fun T locs X hx _ ho hc _ _ t r => XS.astore X.here hx rfl (hbM hc hd) rfl hv hl r) k
theorem Wp.istoreN {k : Fin 4} {v : Int32} (hl : storeLocals L.toArray k.val (.int v) = some L'.toArray) (hd : Dc (mC M) pc (.istore_n k) 1 pc') (k : Wp W K M Q H c n pc' L' (S)) : Wp W K M Q H c n pc L (.int v :: S) := by
  obtain ⟨hd, rfl⟩ := hd
  exact Wp.go (fun T locs X hx _ ho hc _ _ t r => XS.istoreN X.here hx rfl (hbM hc hd) rfl hl r) k
theorem Wp.istore {k : Nat} {v : Int32} (hl : storeLocals L.toArray k (.int v) = some L'.toArray) (hd : Dc (mC M) pc (.istore k) 2 pc') (k : Wp W K M Q H c n pc' L' (S)) : Wp W K M Q H c n pc L (.int v :: S) := by
  obtain ⟨hd, rfl⟩ := hd
  exact Wp.go (fun T locs X hx _ ho hc _ _ t r => XS.istore X.here hx rfl (hbM hc hd) rfl hl r) k
theorem Wp.lstoreN {k : Fin 4} {v : Int64} (hl : storeLocals L.toArray k.val (.long v) = some L'.toArray) (hd : Dc (mC M) pc (.lstore_n k) 1 pc') (k : Wp W K M Q H c n pc' L' (S)) : Wp W K M Q H c n pc L (.long v :: S) := by
  obtain ⟨hd, rfl⟩ := hd
  exact Wp.go (fun T locs X hx _ ho hc _ _ t r => XT.lstoreN X.here hx rfl (hbM hc hd) rfl hl r) k
theorem Wp.lstore {k : Nat} {v : Int64} (hl : storeLocals L.toArray k (.long v) = some L'.toArray) (hd : Dc (mC M) pc (.lstore k) 2 pc') (k : Wp W K M Q H c n pc' L' (S)) : Wp W K M Q H c n pc L (.long v :: S) := by
  obtain ⟨hd, rfl⟩ := hd
  exact Wp.go (fun T locs X hx _ ho hc _ _ t r => XT.lstore X.here hx rfl (hbM hc hd) rfl hl r) k
theorem Wp.iinc {k : Nat} {i : Int} {x z : Int32} (hl : L[k]? = some (.val (.int x))) (hz : x + Int32.ofInt i = z) (hs : storeLocals L.toArray k (.int z) = some L'.toArray) (hd : Dc (mC M) pc (.iinc k i) 3 pc') (k : Wp W K M Q H c n pc' L' (S)) : Wp W K M Q H c n pc L (S) := by
  obtain ⟨hd, rfl⟩ := hd
  exact Wp.go (fun T locs X hx _ ho hc _ _ t r => XS.iinc X.here hx rfl (hbM hc hd) (by simpa using hl) (hz ▸ hs) r) k
theorem Wp.iconst {i : Int} {z : Int32} (hz : Int32.ofInt i = z) (hd : Dc (mC M) pc (.iconst i) 1 pc') (k : Wp W K M Q H c n pc' L (.int z :: S)) : Wp W K M Q H c n pc L (S) := by
  obtain ⟨hd, rfl⟩ := hd
  exact Wp.go (fun T locs X hx _ ho hc _ _ t r => XS.iconst X.here hx rfl (hbM hc hd) (hz ▸ r)) k
theorem Wp.bipush {i : Int} {z : Int32} (hz : (Int8.ofInt i).toInt32 = z) (hd : Dc (mC M) pc (.bipush i) 2 pc') (k : Wp W K M Q H c n pc' L (.int z :: S)) : Wp W K M Q H c n pc L (S) := by
  obtain ⟨hd, rfl⟩ := hd
  exact Wp.go (fun T locs X hx _ ho hc _ _ t r => XS.bipush X.here hx rfl (hbM hc hd) (hz ▸ r)) k
theorem Wp.sipush {i : Int} {z : Int32} (hz : (Int16.ofInt i).toInt32 = z) (hd : Dc (mC M) pc (.sipush i) 3 pc') (k : Wp W K M Q H c n pc' L (.int z :: S)) : Wp W K M Q H c n pc L (S) := by
  obtain ⟨hd, rfl⟩ := hd
  exact Wp.go (fun T locs X hx _ ho hc _ _ t r => XS.sipush X.here hx rfl (hbM hc hd) (hz ▸ r)) k
theorem Wp.aconstNull  (hd : Dc (mC M) pc .aconst_null 1 pc') (k : Wp W K M Q H c n pc' L (.null :: S)) : Wp W K M Q H c n pc L (S) := by
  obtain ⟨hd, rfl⟩ := hd
  exact Wp.go (fun T locs X hx _ ho hc _ _ t r => XS.aconstNull X.here hx rfl (hbM hc hd) r) k
theorem Wp.lconst {k : Fin 2} {z : Int64} (hz : Int64.ofNat k = z) (hd : Dc (mC M) pc (.lconst k) 1 pc') (k : Wp W K M Q H c n pc' L (.long z :: S)) : Wp W K M Q H c n pc L (S) := by
  obtain ⟨hd, rfl⟩ := hd
  exact Wp.go (fun T locs X hx _ ho hc _ _ t r => XT.lconst X.here hx rfl (hbM hc hd) (hz ▸ r)) k
theorem Wp.ldcI {y0 : MethodName} (hM : mN M = y0) {i : Nat} {z : Int32} (w : Wok W (.constant y0.cls i z)) (hd : Dc (mC M) pc (.ldc i) 2 pc') (k : Wp W K M Q H c n pc' L (.int z :: S)) : Wp W K M Q H c n pc L (S) := by
  subst hM
  obtain ⟨hd, rfl⟩ := hd
  exact Wp.go (fun T locs X hx h0 ho hc _ _ t r => ldcI X hx ho (mvT h0 w) rfl (hbM hc hd) r) k
theorem Wp.ldcWI {y0 : MethodName} (hM : mN M = y0) {i : Nat} {z : Int32} (w : Wok W (.constant y0.cls i z)) (hd : Dc (mC M) pc (.ldc_w i) 3 pc') (k : Wp W K M Q H c n pc' L (.int z :: S)) : Wp W K M Q H c n pc L (S) := by
  subst hM
  obtain ⟨hd, rfl⟩ := hd
  exact Wp.go (fun T locs X hx h0 ho hc _ _ t r => ldcWI X hx ho (mvT h0 w) rfl (hbM hc hd) r) k
theorem Wp.ldc2J {y0 : MethodName} (hM : mN M = y0) {i : Nat} {z : Int64} (w : Wok W (.constantLong y0.cls i z)) (hd : Dc (mC M) pc (.ldc2_w i) 3 pc') (k : Wp W K M Q H c n pc' L (.long z :: S)) : Wp W K M Q H c n pc L (S) := by
  subst hM
  obtain ⟨hd, rfl⟩ := hd
  exact Wp.go (fun T locs X hx h0 ho hc _ _ t r => ldc2J X hx ho (mvT h0 w) rfl (hbM hc hd) r) k
theorem Wp.iadd {x y z : Int32} (hz : x + y = z) (hd : Dc (mC M) pc .iadd 1 pc') (k : Wp W K M Q H c n pc' L (.int z :: S)) : Wp W K M Q H c n pc L (.int y :: .int x :: S) := by
  obtain ⟨hd, rfl⟩ := hd
  exact Wp.go (fun T locs X hx _ ho hc _ _ t r => XS.iadd X.here hx rfl (hbM hc hd) rfl (hz ▸ r)) k
theorem Wp.isub {x y z : Int32} (hz : x - y = z) (hd : Dc (mC M) pc .isub 1 pc') (k : Wp W K M Q H c n pc' L (.int z :: S)) : Wp W K M Q H c n pc L (.int y :: .int x :: S) := by
  obtain ⟨hd, rfl⟩ := hd
  exact Wp.go (fun T locs X hx _ ho hc _ _ t r => XS.isub X.here hx rfl (hbM hc hd) rfl (hz ▸ r)) k
theorem Wp.imul {x y z : Int32} (hz : x * y = z) (hd : Dc (mC M) pc .imul 1 pc') (k : Wp W K M Q H c n pc' L (.int z :: S)) : Wp W K M Q H c n pc L (.int y :: .int x :: S) := by
  obtain ⟨hd, rfl⟩ := hd
  exact Wp.go (fun T locs X hx _ ho hc _ _ t r => XS.imul X.here hx rfl (hbM hc hd) rfl (hz ▸ r)) k
theorem Wp.iand {x y z : Int32} (hz : x &&& y = z) (hd : Dc (mC M) pc .iand 1 pc') (k : Wp W K M Q H c n pc' L (.int z :: S)) : Wp W K M Q H c n pc L (.int y :: .int x :: S) := by
  obtain ⟨hd, rfl⟩ := hd
  exact Wp.go (fun T locs X hx _ ho hc _ _ t r => XS.iand X.here hx rfl (hbM hc hd) rfl (hz ▸ r)) k
theorem Wp.ior {x y z : Int32} (hz : x ||| y = z) (hd : Dc (mC M) pc .ior 1 pc') (k : Wp W K M Q H c n pc' L (.int z :: S)) : Wp W K M Q H c n pc L (.int y :: .int x :: S) := by
  obtain ⟨hd, rfl⟩ := hd
  exact Wp.go (fun T locs X hx _ ho hc _ _ t r => XT.ior X.here hx rfl (hbM hc hd) rfl (hz ▸ r)) k
theorem Wp.ixor {x y z : Int32} (hz : x ^^^ y = z) (hd : Dc (mC M) pc .ixor 1 pc') (k : Wp W K M Q H c n pc' L (.int z :: S)) : Wp W K M Q H c n pc L (.int y :: .int x :: S) := by
  obtain ⟨hd, rfl⟩ := hd
  exact Wp.go (fun T locs X hx _ ho hc _ _ t r => XT.ixor X.here hx rfl (hbM hc hd) rfl (hz ▸ r)) k
theorem Wp.ishl {x y z : Int32} (hz : x <<< (y &&& 31) = z) (hd : Dc (mC M) pc .ishl 1 pc') (k : Wp W K M Q H c n pc' L (.int z :: S)) : Wp W K M Q H c n pc L (.int y :: .int x :: S) := by
  obtain ⟨hd, rfl⟩ := hd
  exact Wp.go (fun T locs X hx _ ho hc _ _ t r => XT.ishl X.here hx rfl (hbM hc hd) rfl (hz ▸ r)) k
theorem Wp.ishr {x y z : Int32} (hz : x >>> (y &&& 31) = z) (hd : Dc (mC M) pc .ishr 1 pc') (k : Wp W K M Q H c n pc' L (.int z :: S)) : Wp W K M Q H c n pc L (.int y :: .int x :: S) := by
  obtain ⟨hd, rfl⟩ := hd
  exact Wp.go (fun T locs X hx _ ho hc _ _ t r => XT.ishr X.here hx rfl (hbM hc hd) rfl (hz ▸ r)) k
theorem Wp.iushr {x y z : Int32} (hz : Jvm.Free.XT.ushr x y = z) (hd : Dc (mC M) pc .iushr 1 pc') (k : Wp W K M Q H c n pc' L (.int z :: S)) : Wp W K M Q H c n pc L (.int y :: .int x :: S) := by
  obtain ⟨hd, rfl⟩ := hd
  exact Wp.go (fun T locs X hx _ ho hc _ _ t r => XT.iushr X.here hx rfl (hbM hc hd) rfl (hz ▸ r)) k
theorem Wp.idiv {x y z : Int32} (hy : y ≠ 0) (hz : x / y = z) (hd : Dc (mC M) pc .idiv 1 pc') (k : Wp W K M Q H c n pc' L (.int z :: S)) : Wp W K M Q H c n pc L (.int y :: .int x :: S) := by
  obtain ⟨hd, rfl⟩ := hd
  exact Wp.go (fun T locs X hx _ ho hc _ _ t r => XS.idiv X.here hx rfl (hbM hc hd) rfl hy (hz ▸ r)) k
theorem Wp.irem {x y z : Int32} (hy : y ≠ 0) (hz : x % y = z) (hd : Dc (mC M) pc .irem 1 pc') (k : Wp W K M Q H c n pc' L (.int z :: S)) : Wp W K M Q H c n pc L (.int y :: .int x :: S) := by
  obtain ⟨hd, rfl⟩ := hd
  exact Wp.go (fun T locs X hx _ ho hc _ _ t r => iremM X hx rfl (hbM hc hd) rfl hy (hz ▸ r)) k
theorem Wp.ineg {x z : Int32} (hz : -x = z) (hd : Dc (mC M) pc .ineg 1 pc') (k : Wp W K M Q H c n pc' L (.int z :: S)) : Wp W K M Q H c n pc L (.int x :: S) := by
  obtain ⟨hd, rfl⟩ := hd
  exact Wp.go (fun T locs X hx _ ho hc _ _ t r => XS.ineg X.here hx rfl (hbM hc hd) rfl (hz ▸ r)) k
theorem Wp.i2b {x z : Int32} (hz : x.toInt8.toInt32 = z) (hd : Dc (mC M) pc .i2b 1 pc') (k : Wp W K M Q H c n pc' L (.int z :: S)) : Wp W K M Q H c n pc L (.int x :: S) := by
  obtain ⟨hd, rfl⟩ := hd
  exact Wp.go (fun T locs X hx _ ho hc _ _ t r => XT.i2b X.here hx rfl (hbM hc hd) rfl (hz ▸ r)) k
theorem Wp.i2c {x z : Int32} (hz : x.toUInt32.toUInt16.toUInt32.toInt32 = z) (hd : Dc (mC M) pc .i2c 1 pc') (k : Wp W K M Q H c n pc' L (.int z :: S)) : Wp W K M Q H c n pc L (.int x :: S) := by
  obtain ⟨hd, rfl⟩ := hd
  exact Wp.go (fun T locs X hx _ ho hc _ _ t r => XT.i2c X.here hx rfl (hbM hc hd) rfl (hz ▸ r)) k
theorem Wp.i2s {x z : Int32} (hz : x.toInt16.toInt32 = z) (hd : Dc (mC M) pc .i2s 1 pc') (k : Wp W K M Q H c n pc' L (.int z :: S)) : Wp W K M Q H c n pc L (.int x :: S) := by
  obtain ⟨hd, rfl⟩ := hd
  exact Wp.go (fun T locs X hx _ ho hc _ _ t r => XT.i2s X.here hx rfl (hbM hc hd) rfl (hz ▸ r)) k
theorem Wp.i2l {x : Int32} {z : Int64} (hz : x.toInt64 = z) (hd : Dc (mC M) pc .i2l 1 pc') (k : Wp W K M Q H c n pc' L (.long z :: S)) : Wp W K M Q H c n pc L (.int x :: S) := by
  obtain ⟨hd, rfl⟩ := hd
  exact Wp.go (fun T locs X hx _ ho hc _ _ t r => XT.i2l X.here hx rfl (hbM hc hd) rfl (hz ▸ r)) k
theorem Wp.l2i {x : Int64} {z : Int32} (hz : x.toInt32 = z) (hd : Dc (mC M) pc .l2i 1 pc') (k : Wp W K M Q H c n pc' L (.int z :: S)) : Wp W K M Q H c n pc L (.long x :: S) := by
  obtain ⟨hd, rfl⟩ := hd
  exact Wp.go (fun T locs X hx _ ho hc _ _ t r => XT.l2i X.here hx rfl (hbM hc hd) rfl (hz ▸ r)) k
theorem Wp.ladd {x y z : Int64} (hz : x + y = z) (hd : Dc (mC M) pc .ladd 1 pc') (k : Wp W K M Q H c n pc' L (.long z :: S)) : Wp W K M Q H c n pc L (.long y :: .long x :: S) := by
  obtain ⟨hd, rfl⟩ := hd
  exact Wp.go (fun T locs X hx _ ho hc _ _ t r => XT.ladd X.here hx rfl (hbM hc hd) rfl (hz ▸ r)) k
theorem Wp.lsub {x y z : Int64} (hz : x - y = z) (hd : Dc (mC M) pc .lsub 1 pc') (k : Wp W K M Q H c n pc' L (.long z :: S)) : Wp W K M Q H c n pc L (.long y :: .long x :: S) := by
  obtain ⟨hd, rfl⟩ := hd
  exact Wp.go (fun T locs X hx _ ho hc _ _ t r => XT.lsub X.here hx rfl (hbM hc hd) rfl (hz ▸ r)) k
theorem Wp.lmul {x y z : Int64} (hz : x * y = z) (hd : Dc (mC M) pc .lmul 1 pc') (k : Wp W K M Q H c n pc' L (.long z :: S)) : Wp W K M Q H c n pc L (.long y :: .long x :: S) := by
  obtain ⟨hd, rfl⟩ := hd
  exact Wp.go (fun T locs X hx _ ho hc _ _ t r => XT.lmul X.here hx rfl (hbM hc hd) rfl (hz ▸ r)) k
theorem Wp.land {x y z : Int64} (hz : x &&& y = z) (hd : Dc (mC M) pc .land 1 pc') (k : Wp W K M Q H c n pc' L (.long z :: S)) : Wp W K M Q H c n pc L (.long y :: .long x :: S) := by
  obtain ⟨hd, rfl⟩ := hd
  exact Wp.go (fun T locs X hx _ ho hc _ _ t r => XT.land X.here hx rfl (hbM hc hd) rfl (hz ▸ r)) k
theorem Wp.lor {x y z : Int64} (hz : x ||| y = z) (hd : Dc (mC M) pc .lor 1 pc') (k : Wp W K M Q H c n pc' L (.long z :: S)) : Wp W K M Q H c n pc L (.long y :: .long x :: S) := by
  obtain ⟨hd, rfl⟩ := hd
  exact Wp.go (fun T locs X hx _ ho hc _ _ t r => XT.lor X.here hx rfl (hbM hc hd) rfl (hz ▸ r)) k
theorem Wp.lxor {x y z : Int64} (hz : x ^^^ y = z) (hd : Dc (mC M) pc .lxor 1 pc') (k : Wp W K M Q H c n pc' L (.long z :: S)) : Wp W K M Q H c n pc L (.long y :: .long x :: S) := by
  obtain ⟨hd, rfl⟩ := hd
  exact Wp.go (fun T locs X hx _ ho hc _ _ t r => XT.lxor X.here hx rfl (hbM hc hd) rfl (hz ▸ r)) k
theorem Wp.ldiv {x y z : Int64} (hy : y ≠ 0) (hz : x / y = z) (hd : Dc (mC M) pc .ldiv 1 pc') (k : Wp W K M Q H c n pc' L (.long z :: S)) : Wp W K M Q H c n pc L (.long y :: .long x :: S) := by
  obtain ⟨hd, rfl⟩ := hd
  exact Wp.go (fun T locs X hx _ ho hc _ _ t r => XT.ldiv X.here hx rfl (hbM hc hd) rfl hy (hz ▸ r)) k
theorem Wp.lrem {x y z : Int64} (hy : y ≠ 0) (hz : x - (x / y) * y = z) (hd : Dc (mC M) pc .lrem 1 pc') (k : Wp W K M Q H c n pc' L (.long z :: S)) : Wp W K M Q H c n pc L (.long y :: .long x :: S) := by
  obtain ⟨hd, rfl⟩ := hd
  exact Wp.go (fun T locs X hx _ ho hc _ _ t r => XT.lrem X.here hx rfl (hbM hc hd) rfl hy (hz ▸ r)) k
theorem Wp.lneg {x z : Int64} (hz : -x = z) (hd : Dc (mC M) pc .lneg 1 pc') (k : Wp W K M Q H c n pc' L (.long z :: S)) : Wp W K M Q H c n pc L (.long x :: S) := by
  obtain ⟨hd, rfl⟩ := hd
  exact Wp.go (fun T locs X hx _ ho hc _ _ t r => XT.lneg X.here hx rfl (hbM hc hd) rfl (hz ▸ r)) k
theorem Wp.lshl {x : Int64} {y : Int32} {z : Int64} (hz : x <<< (y.toInt64 &&& 63) = z) (hd : Dc (mC M) pc .lshl 1 pc') (k : Wp W K M Q H c n pc' L (.long z :: S)) : Wp W K M Q H c n pc L (.int y :: .long x :: S) := by
  obtain ⟨hd, rfl⟩ := hd
  exact Wp.go (fun T locs X hx _ ho hc _ _ t r => XT.lshl X.here hx rfl (hbM hc hd) rfl (hz ▸ r)) k
theorem Wp.lshr {x : Int64} {y : Int32} {z : Int64} (hz : x >>> (y.toInt64 &&& 63) = z) (hd : Dc (mC M) pc .lshr 1 pc') (k : Wp W K M Q H c n pc' L (.long z :: S)) : Wp W K M Q H c n pc L (.int y :: .long x :: S) := by
  obtain ⟨hd, rfl⟩ := hd
  exact Wp.go (fun T locs X hx _ ho hc _ _ t r => XT.lshr X.here hx rfl (hbM hc hd) rfl (hz ▸ r)) k
theorem Wp.lushr {x : Int64} {y : Int32} {z : Int64} (hz : Jvm.Free.XT.ushrL x y = z) (hd : Dc (mC M) pc .lushr 1 pc') (k : Wp W K M Q H c n pc' L (.long z :: S)) : Wp W K M Q H c n pc L (.int y :: .long x :: S) := by
  obtain ⟨hd, rfl⟩ := hd
  exact Wp.go (fun T locs X hx _ ho hc _ _ t r => XT.lushr X.here hx rfl (hbM hc hd) rfl (hz ▸ r)) k
theorem Wp.lcmp {x y : Int64} {z : Int32} (hz : Jvm.Free.XT.cmpL x y = z) (hd : Dc (mC M) pc .lcmp 1 pc') (k : Wp W K M Q H c n pc' L (.int z :: S)) : Wp W K M Q H c n pc L (.long y :: .long x :: S) := by
  obtain ⟨hd, rfl⟩ := hd
  exact Wp.go (fun T locs X hx _ ho hc _ _ t r => XT.lcmp X.here hx rfl (hbM hc hd) rfl (hz ▸ r)) k
theorem Wp.pop {x : Value} (hc1 : x.category = 1) (hd : Dc (mC M) pc .pop 1 pc') (k : Wp W K M Q H c n pc' L (S)) : Wp W K M Q H c n pc L (x :: S) := by
  obtain ⟨hd, rfl⟩ := hd
  exact Wp.go (fun T locs X hx _ ho hc _ _ t r => XT.pop X.here hx rfl (hbM hc hd) rfl hc1 r) k
theorem Wp.dup {x : Value} (hc1 : x.category = 1) (hd : Dc (mC M) pc .dup 1 pc') (k : Wp W K M Q H c n pc' L (x :: x :: S)) : Wp W K M Q H c n pc L (x :: S) := by
  obtain ⟨hd, rfl⟩ := hd
  exact Wp.go (fun T locs X hx _ ho hc _ _ t r => XS.dup X.here hx rfl (hbM hc hd) rfl hc1 r) k
theorem Wp.dupX1 {x y : Value} (hc1 : x.category = 1) (hc2 : y.category = 1) (hd : Dc (mC M) pc .dup_x1 1 pc') (k : Wp W K M Q H c n pc' L (x :: y :: x :: S)) : Wp W K M Q H c n pc L (x :: y :: S) := by
  obtain ⟨hd, rfl⟩ := hd
  exact Wp.go (fun T locs X hx _ ho hc _ _ t r => XT.dupX1 X.here hx rfl (hbM hc hd) rfl hc1 hc2 r) k
theorem Wp.dup2 {x y : Value} (hc1 : x.category = 1) (hc2 : y.category = 1) (hd : Dc (mC M) pc .dup2 1 pc') (k : Wp W K M Q H c n pc' L (x :: y :: x :: y :: S)) : Wp W K M Q H c n pc L (x :: y :: S) := by
  obtain ⟨hd, rfl⟩ := hd
  exact Wp.go (fun T locs X hx _ ho hc _ _ t r => XT.dup2 X.here hx rfl (hbM hc hd) rfl hc1 hc2 r) k
theorem Wp.dup2L {x : Int64} (hd : Dc (mC M) pc .dup2 1 pc') (k : Wp W K M Q H c n pc' L (.long x :: .long x :: S)) : Wp W K M Q H c n pc L (.long x :: S) := by
  obtain ⟨hd, rfl⟩ := hd
  exact Wp.go (fun T locs X hx _ ho hc _ _ t r => XT.dup2L X.here hx rfl (hbM hc hd) rfl r) k
theorem Wp.icT {cd : ClassFile.Cond} {x y : Int32} (hq : if_icmp.holds cd x y = true) {o : Int} (hd : Bj (mC M) pc (.if_icmp cd o) o pc' pt) (k : Wp W K M Q H c n pt L S) : Wp W K M Q H c n pc L (.int y :: .int x :: S) := by
  obtain ⟨hd, -, h1, h2⟩ := hd
  exact Wp.go (fun T locs X hx _ ho hc _ _ t r => XS.icmpYes X.here hx rfl rfl (hbM hc hd) rfl hq h1 h2 r) k
theorem Wp.icF {cd : ClassFile.Cond} {x y : Int32} (hq : if_icmp.holds cd x y = false) {o : Int} (hd : Bj (mC M) pc (.if_icmp cd o) o pc' pt) (k : Wp W K M Q H c n pc' L S) : Wp W K M Q H c n pc L (.int y :: .int x :: S) := by
  obtain ⟨hd, rfl, -, -⟩ := hd
  exact Wp.go (fun T locs X hx _ ho hc _ _ t r => XS.icmpNo X.here hx rfl (hbM hc hd) rfl hq r) k
theorem Wp.ifT {cd : ClassFile.Cond} {x : Int32} (hq : if_icmp.holds cd x 0 = true) {o : Int} (hd : Bj (mC M) pc (.ifCond cd o) o pc' pt) (k : Wp W K M Q H c n pt L S) : Wp W K M Q H c n pc L (.int x :: S) := by
  obtain ⟨hd, -, h1, h2⟩ := hd
  exact Wp.go (fun T locs X hx _ ho hc _ _ t r => XS.ifYes X.here hx rfl rfl (hbM hc hd) rfl ((if0 _ _).trans hq) h1 h2 r) k
theorem Wp.ifF {cd : ClassFile.Cond} {x : Int32} (hq : if_icmp.holds cd x 0 = false) {o : Int} (hd : Bj (mC M) pc (.ifCond cd o) o pc' pt) (k : Wp W K M Q H c n pc' L S) : Wp W K M Q H c n pc L (.int x :: S) := by
  obtain ⟨hd, rfl, -, -⟩ := hd
  exact Wp.go (fun T locs X hx _ ho hc _ _ t r => XS.ifNo X.here hx rfl (hbM hc hd) rfl ((if0 _ _).trans hq) r) k
theorem Wp.acT {cd : ACond} {x y : Value} (hx1 : x.isRef = true) (hy1 : y.isRef = true) (hq : Jvm.Free.XT.acmp cd x y = true) {o : Int} (hd : Bj (mC M) pc (.if_acmp cd o) o pc' pt) (k : Wp W K M Q H c n pt L S) : Wp W K M Q H c n pc L (y :: x :: S) := by
  obtain ⟨hd, -, h1, h2⟩ := hd
  exact Wp.go (fun T locs X hx _ ho hc _ _ t r => XT.acmpYes X.here hx rfl rfl (hbM hc hd) rfl hx1 hy1 hq h1 h2 r) k
theorem Wp.acF {cd : ACond} {x y : Value} (hx1 : x.isRef = true) (hy1 : y.isRef = true) (hq : Jvm.Free.XT.acmp cd x y = false) {o : Int} (hd : Bj (mC M) pc (.if_acmp cd o) o pc' pt) (k : Wp W K M Q H c n pc' L S) : Wp W K M Q H c n pc L (y :: x :: S) := by
  obtain ⟨hd, rfl, -, -⟩ := hd
  exact Wp.go (fun T locs X hx _ ho hc _ _ t r => XT.acmpNo X.here hx rfl (hbM hc hd) rfl hx1 hy1 hq r) k
theorem Wp.ifnullT  {o : Int} (hd : Bj (mC M) pc (.ifnull o) o pc' pt) (k : Wp W K M Q H c n pt L S) : Wp W K M Q H c n pc L (.null :: S) := by
  obtain ⟨hd, -, h1, h2⟩ := hd
  exact Wp.go (fun T locs X hx _ ho hc _ _ t r => XS.ifnullYes X.here hx rfl rfl (hbM hc hd) rfl h1 h2 r) k
theorem Wp.ifnullF {b : Addr} {o : Int} (hd : Bj (mC M) pc (.ifnull o) o pc' pt) (k : Wp W K M Q H c n pc' L S) : Wp W K M Q H c n pc L (.ref b :: S) := by
  obtain ⟨hd, rfl, -, -⟩ := hd
  exact Wp.go (fun T locs X hx _ ho hc _ _ t r => XS.ifnullNo X.here hx rfl (hbM hc hd) rfl r) k
theorem Wp.ifnonnullT {b : Addr} {o : Int} (hd : Bj (mC M) pc (.ifnonnull o) o pc' pt) (k : Wp W K M Q H c n pt L S) : Wp W K M Q H c n pc L (.ref b :: S) := by
  obtain ⟨hd, -, h1, h2⟩ := hd
  exact Wp.go (fun T locs X hx _ ho hc _ _ t r => XT.ifnonnullYes X.here hx rfl rfl (hbM hc hd) rfl h1 h2 r) k
theorem Wp.ifnonnullF  {o : Int} (hd : Bj (mC M) pc (.ifnonnull o) o pc' pt) (k : Wp W K M Q H c n pc' L S) : Wp W K M Q H c n pc L (.null :: S) := by
  obtain ⟨hd, rfl, -, -⟩ := hd
  exact Wp.go (fun T locs X hx _ ho hc _ _ t r => XT.ifnonnullNo X.here hx rfl (hbM hc hd) rfl r) k
theorem Wp.goto {o : Int} (hd : Bj (mC M) pc (.goto o) o pc' pt) (k : Wp W K M Q H c n pt L S) : Wp W K M Q H c n pc L S := by
  obtain ⟨hd, -, h1, h2⟩ := hd
  exact Wp.go (fun T locs X hx _ ho hc _ _ t r => XS.goto X.here hx rfl rfl (hbM hc hd) h1 h2 r) k
-- heap reads
theorem Wp.getF {y0 : MethodName} (hM : mN M = y0) {R0 O nm d host : String} {idx : Nat} (w : Wok W (.fieldLink y0.cls idx R0 nm d) ∨ Wok W (.fieldLinkNest y0.cls idx R0 nm d host)) (via : Via (wZ W) R0 O nm d) {a : Addr} {rw : Bool} {C : String} {fs : List Fd} {v : Value} (i j : Nat) (hi : H[i]? = some (a, rw, .inl (C, fs))) (hj : fs[j]? = some (O, nm, d, v))
    (hd : Dc (mC M) pc (.getfield idx) 3 pc') (k : Wp W K M Q H c n pc' L (v :: S)) : Wp W K M Q H c n pc L (.ref a :: S) := by
  subst hM
  obtain ⟨hd, rfl⟩ := hd
  exact Wp.to (fun T locs X hx hZ ho hc _ _ P N => by
    have F : ObOk (wZ W) T.heap a C fs := P.at hi
    obtain ⟨T', X', e', st⟩ := Jvm.RoadKit.getF X hx hZ ho w via rfl (F.2.1 _ (List.mem_of_getElem? hj)) (g := mkF (kM K) pc L.toArray (.ref a :: S)) rfl rfl (hbM hc hd)
    exact ⟨T', locs, X', N, by rw [e']; exact P, st⟩) k
theorem Wp.putF {y0 : MethodName} (hM : mN M = y0) {R0 O nm d host : String} {idx kk : Nat} {ty : FieldType} (w : Wok W (.fieldLink y0.cls idx R0 nm d) ∨ Wok W (.fieldLinkNest y0.cls idx R0 nm d host)) (via : Via (wZ W) R0 O nm d) {a : Addr} {C : String} {fs : List Fd} {v old : Value} (i j : Nat) (hi : H[i]? = some (a, true, .inl (C, fs))) (hj : fs[j]? = some (O, nm, d, old))
    (la : Wok W (.lays C O nm d) ∨ (Wok W (.laysFinal C O nm d) ∧ y0.cls = O ∧ y0.name = "<init>")) (wi : Wok W (.instantiable C kk)) (hty : parseFieldDescriptor d = some ty) (hn : narrow ty v = v) (hf : fits ty v = true)
    (hd : Dc (mC M) pc (.putfield idx) 3 pc') (hH : H.set i (a, true, .inl (C, fs.set j (O, nm, d, v))) = H') (k : Wp W K M Q H' c n pc' L S) : Wp W K M Q H c n pc L (v :: .ref a :: S) := by
  subst hM
  obtain ⟨hd, rfl⟩ := hd
  subst hH
  exact Wp.to (fun T locs X hx hZ ho hc _ hnm P N => by
    have F : ObOk (wZ W) T.heap a C fs := P.at hi
    obtain ⟨T', h', X', e', E, st⟩ := Jvm.RoadKit.putF X hx hZ ho w via rfl (F.2.1 _ (List.mem_of_getElem? hj)) F.1 (la.imp id fun u => ⟨u.1, u.2.1, hnm.trans u.2.2⟩) wi hty hn hf (g := mkF (kM K) pc L.toArray (v :: .ref a :: S)) rfl rfl (hbM hc hd)
    exact ⟨T', _, X', Fr.snoc X' N ((P.2.1 _ (List.mem_of_getElem? hi)).1 rfl), by rw [e']; exact P.put hi E (F.put hj E), st⟩) k
theorem Wp.putFN {y0 : MethodName} (hM : mN M = y0) {R0 O nm d : String} {idx kk : Nat} {ty : FieldType} (w : Wok W (.fieldLink y0.cls idx R0 nm d)) (via : Via (wZ W) R0 O nm d) {a : Addr} {C : String} {fs : List Fd} {v v' old : Value} (i j : Nat) (hi : H[i]? = some (a, true, .inl (C, fs))) (hj : fs[j]? = some (O, nm, d, old))
    (la : Wok W (.lays C O nm d) ∨ (Wok W (.laysFinal C O nm d) ∧ y0.cls = O ∧ y0.name = "<init>")) (wi : Wok W (.instantiable C kk)) (hty : parseFieldDescriptor d = some ty) (hn : narrow ty v = v') (hf : fits ty v' = true)
    (hd : Dc (mC M) pc (.putfield idx) 3 pc') (hH : H.set i (a, true, .inl (C, fs.set j (O, nm, d, v'))) = H') (k : Wp W K M Q H' c n pc' L S) : Wp W K M Q H c n pc L (v :: .ref a :: S) := by
  subst hM
  obtain ⟨hd, rfl⟩ := hd
  subst hH
  exact Wp.to (fun T locs X hx hZ ho hc _ hnm P N => by
    have F : ObOk (wZ W) T.heap a C fs := P.at hi
    obtain ⟨T', h', X', e', E, st⟩ := Jvm.RoadKit.putFN X hx hZ ho w via rfl (F.2.1 _ (List.mem_of_getElem? hj)) F.1 (la.imp id fun u => ⟨u.1, u.2.1, hnm.trans u.2.2⟩) wi hty hn hf (g := mkF (kM K) pc L.toArray (v :: .ref a :: S)) rfl rfl (hbM hc hd)
    exact ⟨T', _, X', Fr.snoc X' N ((P.2.1 _ (List.mem_of_getElem? hi)).1 rfl), by rw [e']; exact P.put hi E (F.put hj E), st⟩) k
theorem Wp.getS {y0 : MethodName} (hM : mN M = y0) {R0 O nm d : String} {idx : Nat} (w : Wok W (.fieldLink y0.cls idx R0 nm d)) (via : Via (wZ W) R0 O nm d) {v : Value} (F : Sta (wZ W) (wZ W).heap O nm d v) (hd : Dc (mC M) pc (.getstatic idx) 3 pc') (k : Wp W K M Q H c n pc' L (v :: S)) : Wp W K M Q H c n pc L S := by
  subst hM
  obtain ⟨hd, rfl⟩ := hd
  exact Wp.to (fun T locs X hx hZ ho hc _ _ P N => by
    obtain ⟨T', X', e', st⟩ := Jvm.RoadKit.getS X hx hZ (host := "") ho w via rfl (F.ext P.1.2) (g := mkF (kM K) pc L.toArray S) rfl (hbM hc hd)
    exact ⟨T', locs, X', N, by rw [e']; exact P, st⟩) k
-- new objects and arrays
def NewFs (W : Wd) (C : String) (fs : List Fd) : Prop := (∀ f ∈ fs, ∃ ty, Laid (wZ W) (wA W) C f.1 f.2.1 f.2.2.1 ∧ parseFieldDescriptor f.2.2.1 = some ty ∧ f.2.2.2 = defaultValue ty) ∧ (fs.map fun f => f.2.1).Nodup
theorem NewFs.nil {C : String} : NewFs W C [] := ⟨fun _ q => (nomatch q), List.nodup_nil⟩
theorem NewFs.cons {C O nm d : String} {ty : FieldType} {v : Value} {fs : List Fd} (la : Laid (wZ W) (wA W) C O nm d) (ht : parseFieldDescriptor d = some ty) (hv : v = defaultValue ty) (hn : nm ∉ fs.map fun f => f.2.1) (r : NewFs W C fs) : NewFs W C ((O, nm, d, v) :: fs) :=
  ⟨fun f hf => (List.mem_cons.mp hf).elim (fun e => e ▸ ⟨ty, la, ht, hv⟩) (r.1 f), List.nodup_cons.mpr ⟨hn, r.2⟩⟩
theorem NewFs.slots {C : String} : ∀ {fs : List Fd}, NewFs W C fs → (fs.map (fSl (wZ W))).Nodup
  | [], _ => List.nodup_nil
  | f :: fs, r => by
    have hn := List.nodup_cons.mp (show (f.2.1 :: fs.map fun f => f.2.1).Nodup from r.2)
    refine List.nodup_cons.mpr ⟨fun q => ?_, NewFs.slots ⟨fun g hg => r.1 g (List.mem_cons_of_mem _ hg), hn.2⟩⟩
    obtain ⟨g, hg, e⟩ := List.mem_map.mp q
    obtain ⟨t1, l1, p1, -⟩ := r.1 f List.mem_cons_self
    obtain ⟨t2, l2, p2, -⟩ := r.1 g (List.mem_cons_of_mem _ hg)
    have ne : f.2.1 ≠ g.2.1 := fun e => hn.1 (e ▸ List.mem_map.mpr ⟨g, hg, rfl⟩)
    exact Jvm.RoadKit.slot_ne l1 l2 ne p1 p2 e.symm
theorem Wp.newO {y0 : MethodName} (hM : mN M = y0) {C : String} {idx kk : Nat} {fs : List Fd} (w : Wok W (.classLink y0.cls idx C)) (wi : Wok W (.instantiable C kk)) (wz : Wok W (.initialized C)) (hfs : NewFs W C fs) (hc1 : c + 1 ≤ (mR M).cells) (hl1 : n + kk ≤ (mR M).slots)
    (hd : Dc (mC M) pc (.new idx) 3 pc') (k : ∀ a : Addr, Wp W K M Q ((a, true, .inl (C, fs)) :: H) (c + 1) (n + kk) pc' L (.ref a :: S)) : Wp W K M Q H c n pc L S := by
  subst hM
  obtain ⟨hd, rfl⟩ := hd
  exact fun T X => by
    obtain ⟨hx, hZ, ho, hb, hm, hr, hn, hl, locs, X, N, P⟩ := X
    obtain ⟨T', h', X', e', E, A, D, -, st⟩ := Jvm.RoadKit.newO X hx hZ ho w wi wz rfl (g := mkF (kM K) pc L.toArray S) rfl (hbM hb hd) hc1 hl1
    have F : DsOk (wZ W) h' T.heap.size (.inl (C, fs)) := ⟨A, fun f hf => by
      obtain ⟨ty, l1, l2, l3⟩ := hfs.1 f hf
      show Fld (wZ W) h' T.heap.size f.1 f.2.1 f.2.2.1 f.2.2.2
      rw [l3]; exact D l1 l2, hfs.slots⟩
    obtain ⟨U, s1, s2⟩ := k T.heap.size T' ⟨hx, hZ, ho, hb, hm, hr, hn, hl, locs, X', N, by rw [e']; exact P.new E F⟩
    exact ⟨U, st _ s1, s2⟩
theorem def_fits (ty : FieldType) : fits ty (defaultValue ty) = true := by cases ty <;> first | decide | rfl
theorem arNew {Z : State} {h : Heap} {a : Addr} {cA : ClassId} {ty : FieldType} {z : Int32} {kk : Nat} (A : Arr Z h a (newA cA ty z) ty) (hz : z.toNatClampNeg = kk) (ex ov : Bool) (h1 : ex = true → Exa Z h a ("[" ++ ty.toString)) (h2 : ov = true → ∀ C, ty = .object C → Ovr Z cA C) : ArOk Z h a ty ex ov (List.replicate kk (defaultValue ty)) := by
  subst hz
  refine ⟨_, A, by simp [newA], ?_, fun v hv => by rw [List.eq_of_mem_replicate hv]; exact def_fits ty, h1, h2⟩
  rw [List.length_replicate]
  have := Int32.toNatClampNeg_lt z
  omega
theorem Wp.newP {aty : ArrayType} {z : Int32} {kk : Nat} {vs : List Value} (hd : Dc (mC M) pc (.newarray aty) 2 pc') (w : Wok W (.arrayClass (newarray.typeOf aty))) (hz : z.toNatClampNeg = kk) (h0 : ¬ z < 0) (hb8 : kk * 8 ≤ 536870912) (hc1 : c + 1 ≤ (mR M).cells) (hl1 : n + kk ≤ (mR M).slots) (hv : List.replicate kk (defaultValue (newarray.typeOf aty)) = vs)
    (k : ∀ a : Addr, Wp W K M Q ((a, true, .inr (newarray.typeOf aty, true, false, vs)) :: H) (c + 1) (n + kk) pc' L (.ref a :: S)) : Wp W K M Q H c n pc L (.int z :: S) := by
  obtain ⟨hd, rfl⟩ := hd
  subst hv
  exact fun T X => by
    obtain ⟨hx, hZ, ho, hb, hm, hr, hn, hl, locs, X, N, P⟩ := X
    obtain ⟨T', h', cA, X', e', E, A, B, st⟩ := Jvm.RoadKit.newPE X hx hZ w rfl (g := mkF (kM K) pc L.toArray (.int z :: S)) rfl (hbM hb hd) rfl h0 (Nat.le_of_eq hz) hb8 hc1 hl1 (ad := _) rfl
    obtain ⟨U, s1, s2⟩ := k T.heap.size T' ⟨hx, hZ, ho, hb, hm, hr, hn, hl, locs, X', N, by rw [e']; exact P.new E (arNew A hz true false (fun _ => B) (fun q => nomatch q))⟩
    exact ⟨U, st _ s1, s2⟩
theorem Wp.newR {y0 : MethodName} (hM : mN M = y0) {C : String} {idx : Nat} {z : Int32} {kk : Nat} {vs : List Value} (w : Wok W (.classLink y0.cls idx C)) (w2 : Wok W (.arrayOver (.object C))) (hz : z.toNatClampNeg = kk) (h0 : ¬ z < 0) (hb8 : kk * 8 ≤ 536870912) (hc1 : c + 1 ≤ (mR M).cells) (hl1 : n + kk ≤ (mR M).slots) (hv : List.replicate kk Value.null = vs)
    (hd : Dc (mC M) pc (.anewarray idx) 3 pc') (k : ∀ a : Addr, Wp W K M Q ((a, true, .inr (.object C, true, true, vs)) :: H) (c + 1) (n + kk) pc' L (.ref a :: S)) : Wp W K M Q H c n pc L (.int z :: S) := by
  subst hM
  obtain ⟨hd, rfl⟩ := hd
  subst hv
  exact fun T X => by
    obtain ⟨hx, hZ, ho, hb, hm, hr, hn, hl, locs, X, N, P⟩ := X
    obtain ⟨T', h', cA, X', e', E, A, B, O, st⟩ := Jvm.RoadKit.newRE X hx hZ ho w w2 rfl (g := mkF (kM K) pc L.toArray (.int z :: S)) rfl (hbM hb hd) rfl h0 (Nat.le_of_eq hz) hb8 hc1 hl1 (ad := _) rfl
    obtain ⟨U, s1, s2⟩ := k T.heap.size T' ⟨hx, hZ, ho, hb, hm, hr, hn, hl, locs, X', N, by rw [e']; exact P.new E (arNew A hz true true (fun _ => B) (fun _ C' e => by cases e; exact O))⟩
    exact ⟨U, st _ s1, s2⟩
-- arrays read and written
theorem ArOk.inb {Z : State} {c : Cell} {vs : List Value} {j : Int32} {k : Nat} {v : Value} (e : c.slots.toList = vs) (hj : ¬ j < 0) (hk : j.toNatClampNeg = k) (hv : vs[k]? = some v) : ¬ (j < 0 ∨ c.slots.size ≤ j.toNatClampNeg) ∧ c.slots[j.toNatClampNeg]? = some v := by
  subst hk e
  rw [Array.getElem?_toList] at hv
  refine ⟨fun q => q.elim hj fun q => ?_, hv⟩
  rw [Array.getElem?_eq_none q] at hv
  cases hv
theorem Wp.alen {a : Addr} {rw ex ov : Bool} {ty : FieldType} {vs : List Value} {z : Int32} (i : Nat) (hi : H[i]? = some (a, rw, .inr (ty, ex, ov, vs))) (hz : vs.length.toInt32 = z) (hd : Dc (mC M) pc .arraylength 1 pc') (k : Wp W K M Q H c n pc' L (.int z :: S)) : Wp W K M Q H c n pc L (.ref a :: S) := by
  obtain ⟨hd, rfl⟩ := hd
  exact Wp.go (fun T locs X hx hZ ho hc _ P t r => by
    obtain ⟨cl, h1, h2, -⟩ : ArOk (wZ W) T.heap a ty ex ov vs := P.at hi
    refine X.arraylength hx h1.1 (State.isArrayOf_alike hZ.alike h1.2.1) (g := mkF (kM K) pc L.toArray (.ref a :: S)) rfl rfl (hbM hc hd) _ ?_
    have e : cl.slots.size.toInt32 = z := by rw [← hz, ← h2]; rfl
    rw [e]; exact r) k
theorem Wp.iaload {a : Addr} {rw ex ov : Bool} {vs : List Value} {j : Int32} {v : Value} (i kk : Nat) (hi : H[i]? = some (a, rw, .inr (.int, ex, ov, vs))) (hj : ¬ j < 0) (hk : j.toNatClampNeg = kk) (hv : vs[kk]? = some v) (hd : Dc (mC M) pc .iaload 1 pc') (k : Wp W K M Q H c n pc' L (v :: S)) : Wp W K M Q H c n pc L (.int j :: .ref a :: S) := by
  obtain ⟨hd, rfl⟩ := hd
  exact Wp.go (fun T locs X hx hZ ho hc _ P t r => by
    obtain ⟨cl, h1, h2, -⟩ : ArOk (wZ W) T.heap a .int ex ov vs := P.at hi
    obtain ⟨g1, g2⟩ := ArOk.inb (Z := wZ W) h2 hj hk hv
    exact X.iaload hx h1.1 (State.isArrayOf_alike hZ.alike h1.2.1) h1.2.2 g1 g2 (g := mkF (kM K) pc L.toArray (.int j :: .ref a :: S)) rfl rfl (hbM hc hd) _ r) k
theorem Wp.laload {a : Addr} {rw ex ov : Bool} {vs : List Value} {j : Int32} {v : Value} (i kk : Nat) (hi : H[i]? = some (a, rw, .inr (.long, ex, ov, vs))) (hj : ¬ j < 0) (hk : j.toNatClampNeg = kk) (hv : vs[kk]? = some v) (hd : Dc (mC M) pc .laload 1 pc') (k : Wp W K M Q H c n pc' L (v :: S)) : Wp W K M Q H c n pc L (.int j :: .ref a :: S) := by
  obtain ⟨hd, rfl⟩ := hd
  exact Wp.go (fun T locs X hx hZ ho hc _ P t r => by
    obtain ⟨cl, h1, h2, -⟩ : ArOk (wZ W) T.heap a .long ex ov vs := P.at hi
    obtain ⟨g1, g2⟩ := ArOk.inb (Z := wZ W) h2 hj hk hv
    exact X.laload hx h1.1 (State.isArrayOf_alike hZ.alike h1.2.1) h1.2.2 g1 g2 (g := mkF (kM K) pc L.toArray (.int j :: .ref a :: S)) rfl rfl (hbM hc hd) _ r) k
theorem Wp.caload {a : Addr} {rw ex ov : Bool} {vs : List Value} {j : Int32} {v : Value} (i kk : Nat) (hi : H[i]? = some (a, rw, .inr (.char, ex, ov, vs))) (hj : ¬ j < 0) (hk : j.toNatClampNeg = kk) (hv : vs[kk]? = some v) (hd : Dc (mC M) pc .caload 1 pc') (k : Wp W K M Q H c n pc' L (v :: S)) : Wp W K M Q H c n pc L (.int j :: .ref a :: S) := by
  obtain ⟨hd, rfl⟩ := hd
  exact Wp.go (fun T locs X hx hZ ho hc _ P t r => by
    obtain ⟨cl, h1, h2, -⟩ : ArOk (wZ W) T.heap a .char ex ov vs := P.at hi
    obtain ⟨g1, g2⟩ := ArOk.inb (Z := wZ W) h2 hj hk hv
    exact X.caload hx h1.1 (State.isArrayOf_alike hZ.alike h1.2.1) h1.2.2 g1 g2 (g := mkF (kM K) pc L.toArray (.int j :: .ref a :: S)) rfl rfl (hbM hc hd) _ r) k
theorem Wp.saload {a : Addr} {rw ex ov : Bool} {vs : List Value} {j : Int32} {v : Value} (i kk : Nat) (hi : H[i]? = some (a, rw, .inr (.short, ex, ov, vs))) (hj : ¬ j < 0) (hk : j.toNatClampNeg = kk) (hv : vs[kk]? = some v) (hd : Dc (mC M) pc .saload 1 pc') (k : Wp W K M Q H c n pc' L (v :: S)) : Wp W K M Q H c n pc L (.int j :: .ref a :: S) := by
  obtain ⟨hd, rfl⟩ := hd
  exact Wp.go (fun T locs X hx hZ ho hc _ P t r => by
    obtain ⟨cl, h1, h2, -⟩ : ArOk (wZ W) T.heap a .short ex ov vs := P.at hi
    obtain ⟨g1, g2⟩ := ArOk.inb (Z := wZ W) h2 hj hk hv
    exact X.saload hx h1.1 (State.isArrayOf_alike hZ.alike h1.2.1) h1.2.2 g1 g2 (g := mkF (kM K) pc L.toArray (.int j :: .ref a :: S)) rfl rfl (hbM hc hd) _ r) k
theorem Wp.baload {a : Addr} {rw ex ov : Bool} {vs : List Value} {j : Int32} {v : Value} (i kk : Nat) (hi : H[i]? = some (a, rw, .inr (.byte, ex, ov, vs))) (hj : ¬ j < 0) (hk : j.toNatClampNeg = kk) (hv : vs[kk]? = some v) (hd : Dc (mC M) pc .baload 1 pc') (k : Wp W K M Q H c n pc' L (v :: S)) : Wp W K M Q H c n pc L (.int j :: .ref a :: S) := by
  obtain ⟨hd, rfl⟩ := hd
  exact Wp.go (fun T locs X hx hZ ho hc _ P t r => by
    obtain ⟨cl, h1, h2, -⟩ : ArOk (wZ W) T.heap a .byte ex ov vs := P.at hi
    obtain ⟨g1, g2⟩ := ArOk.inb (Z := wZ W) h2 hj hk hv
    exact X.baloadBytes hx h1.1 (State.isArrayOf_alike hZ.alike h1.2.1) h1.2.2 g1 g2 (g := mkF (kM K) pc L.toArray (.int j :: .ref a :: S)) rfl rfl (hbM hc hd) _ r) k
theorem Wp.baloadZ {a : Addr} {rw ex ov : Bool} {vs : List Value} {j : Int32} {v : Value} (i kk : Nat) (hi : H[i]? = some (a, rw, .inr (.boolean, ex, ov, vs))) (hj : ¬ j < 0) (hk : j.toNatClampNeg = kk) (hv : vs[kk]? = some v) (hd : Dc (mC M) pc .baload 1 pc') (k : Wp W K M Q H c n pc' L (v :: S)) : Wp W K M Q H c n pc L (.int j :: .ref a :: S) := by
  obtain ⟨hd, rfl⟩ := hd
  exact Wp.go (fun T locs X hx hZ ho hc _ P t r => by
    obtain ⟨cl, h1, h2, -⟩ : ArOk (wZ W) T.heap a .boolean ex ov vs := P.at hi
    obtain ⟨g1, g2⟩ := ArOk.inb (Z := wZ W) h2 hj hk hv
    exact X.baloadBooleans hx h1.1 (State.isArrayOf_alike hZ.alike h1.2.1) h1.2.2 g1 g2 (g := mkF (kM K) pc L.toArray (.int j :: .ref a :: S)) rfl rfl (hbM hc hd) _ r) k
theorem Wp.aaload {a : Addr} {rw ex ov : Bool} {ty : FieldType} {vs : List Value} {j : Int32} {v : Value} (i kk : Nat) (hi : H[i]? = some (a, rw, .inr (ty, ex, ov, vs))) (hty : ty.isReference = true) (hj : ¬ j < 0) (hk : j.toNatClampNeg = kk) (hv : vs[kk]? = some v) (hd : Dc (mC M) pc .aaload 1 pc') (k : Wp W K M Q H c n pc' L (v :: S)) : Wp W K M Q H c n pc L (.int j :: .ref a :: S) := by
  obtain ⟨hd, rfl⟩ := hd
  exact Wp.go (fun T locs X hx hZ ho hc _ P t r => by
    obtain ⟨cl, h1, h2, -⟩ : ArOk (wZ W) T.heap a ty ex ov vs := P.at hi
    obtain ⟨g1, g2⟩ := ArOk.inb (Z := wZ W) h2 hj hk hv
    exact X.aaload hx h1.1 (State.isArrayOf_alike hZ.alike h1.2.1) hty h1.2.2 g1 g2 (g := mkF (kM K) pc L.toArray (.int j :: .ref a :: S)) rfl rfl (hbM hc hd) _ r) k
theorem Wp.castore {a : Addr} {ex ov : Bool} {vs : List Value} {j : Int32} {x : Int32} {z : Int32} (i kk : Nat) (hi : H[i]? = some (a, true, .inr (.char, ex, ov, vs))) (hj : ¬ j < 0) (hk : j.toNatClampNeg = kk) (hl : kk < vs.length) (hz : nar .char x = z) (hd : Dc (mC M) pc .castore 1 pc') (hH : H.set i (a, true, .inr (.char, ex, ov, vs.set kk (.int z))) = H') (k : Wp W K M Q H' c n pc' L S) : Wp W K M Q H c n pc L (.int x :: .int j :: .ref a :: S) := by
  obtain ⟨hd, rfl⟩ := hd
  subst hH hz
  exact Wp.to (fun T locs X hx hZ ho hc _ hnm P N => by
    have F : ArOk (wZ W) T.heap a .char ex ov vs := P.at hi
    obtain ⟨cl, h1, h2, -⟩ := id F
    obtain ⟨g1, -⟩ := ArOk.inb (Z := wZ W) h2 hj hk (List.getElem?_eq_getElem hl)
    obtain ⟨T', h', X', e', E, st⟩ := Jvm.RoadKit.stC X hx hZ rfl h1 g1 (g := mkF (kM K) pc L.toArray (.int x :: .int j :: .ref a :: S)) rfl rfl (hbM hc hd)
    exact ⟨T', _, X', Fr.snoc X' N ((P.2.1 _ (List.mem_of_getElem? hi)).1 rfl), by rw [e']; exact P.put hi E (F.put hk (fits_nar_char x) E), st⟩) k
theorem Wp.sastore {a : Addr} {ex ov : Bool} {vs : List Value} {j : Int32} {x : Int32} {z : Int32} (i kk : Nat) (hi : H[i]? = some (a, true, .inr (.short, ex, ov, vs))) (hj : ¬ j < 0) (hk : j.toNatClampNeg = kk) (hl : kk < vs.length) (hz : nar .short x = z) (hd : Dc (mC M) pc .sastore 1 pc') (hH : H.set i (a, true, .inr (.short, ex, ov, vs.set kk (.int z))) = H') (k : Wp W K M Q H' c n pc' L S) : Wp W K M Q H c n pc L (.int x :: .int j :: .ref a :: S) := by
  obtain ⟨hd, rfl⟩ := hd
  subst hH hz
  exact Wp.to (fun T locs X hx hZ ho hc _ hnm P N => by
    have F : ArOk (wZ W) T.heap a .short ex ov vs := P.at hi
    obtain ⟨cl, h1, h2, -⟩ := id F
    obtain ⟨g1, -⟩ := ArOk.inb (Z := wZ W) h2 hj hk (List.getElem?_eq_getElem hl)
    obtain ⟨T', h', X', e', E, st⟩ := Jvm.RoadKit.stS X hx hZ rfl h1 g1 (g := mkF (kM K) pc L.toArray (.int x :: .int j :: .ref a :: S)) rfl rfl (hbM hc hd)
    exact ⟨T', _, X', Fr.snoc X' N ((P.2.1 _ (List.mem_of_getElem? hi)).1 rfl), by rw [e']; exact P.put hi E (F.put hk (fits_nar_short x) E), st⟩) k
theorem Wp.bastore {a : Addr} {ex ov : Bool} {vs : List Value} {j : Int32} {x : Int32} {z : Int32} (i kk : Nat) (hi : H[i]? = some (a, true, .inr (.byte, ex, ov, vs))) (hj : ¬ j < 0) (hk : j.toNatClampNeg = kk) (hl : kk < vs.length) (hz : nar .byte x = z) (hd : Dc (mC M) pc .bastore 1 pc') (hH : H.set i (a, true, .inr (.byte, ex, ov, vs.set kk (.int z))) = H') (k : Wp W K M Q H' c n pc' L S) : Wp W K M Q H c n pc L (.int x :: .int j :: .ref a :: S) := by
  obtain ⟨hd, rfl⟩ := hd
  subst hH hz
  exact Wp.to (fun T locs X hx hZ ho hc _ hnm P N => by
    have F : ArOk (wZ W) T.heap a .byte ex ov vs := P.at hi
    obtain ⟨cl, h1, h2, -⟩ := id F
    obtain ⟨g1, -⟩ := ArOk.inb (Z := wZ W) h2 hj hk (List.getElem?_eq_getElem hl)
    obtain ⟨T', h', X', e', E, st⟩ := Jvm.RoadKit.stB X hx hZ rfl h1 g1 (g := mkF (kM K) pc L.toArray (.int x :: .int j :: .ref a :: S)) rfl rfl (hbM hc hd)
    exact ⟨T', _, X', Fr.snoc X' N ((P.2.1 _ (List.mem_of_getElem? hi)).1 rfl), by rw [e']; exact P.put hi E (F.put hk (fits_nar_byte x) E), st⟩) k
theorem Wp.bastoreZ {a : Addr} {ex ov : Bool} {vs : List Value} {j : Int32} {x : Int32} {z : Int32} (i kk : Nat) (hi : H[i]? = some (a, true, .inr (.boolean, ex, ov, vs))) (hj : ¬ j < 0) (hk : j.toNatClampNeg = kk) (hl : kk < vs.length) (hz : nar .boolean x = z) (hd : Dc (mC M) pc .bastore 1 pc') (hH : H.set i (a, true, .inr (.boolean, ex, ov, vs.set kk (.int z))) = H') (k : Wp W K M Q H' c n pc' L S) : Wp W K M Q H c n pc L (.int x :: .int j :: .ref a :: S) := by
  obtain ⟨hd, rfl⟩ := hd
  subst hH hz
  exact Wp.to (fun T locs X hx hZ ho hc _ hnm P N => by
    have F : ArOk (wZ W) T.heap a .boolean ex ov vs := P.at hi
    obtain ⟨cl, h1, h2, -⟩ := id F
    obtain ⟨g1, -⟩ := ArOk.inb (Z := wZ W) h2 hj hk (List.getElem?_eq_getElem hl)
    obtain ⟨T', h', X', e', E, st⟩ := Jvm.RoadKit.stZ X hx hZ rfl h1 g1 (g := mkF (kM K) pc L.toArray (.int x :: .int j :: .ref a :: S)) rfl rfl (hbM hc hd)
    exact ⟨T', _, X', Fr.snoc X' N ((P.2.1 _ (List.mem_of_getElem? hi)).1 rfl), by rw [e']; exact P.put hi E (F.put hk (fits_nar_bool x) E), st⟩) k
theorem Wp.iastore {a : Addr} {ex ov : Bool} {vs : List Value} {j : Int32} {x : Int32} (i kk : Nat) (hi : H[i]? = some (a, true, .inr (.int, ex, ov, vs))) (hj : ¬ j < 0) (hk : j.toNatClampNeg = kk) (hl : kk < vs.length) (hd : Dc (mC M) pc .iastore 1 pc') (hH : H.set i (a, true, .inr (.int, ex, ov, vs.set kk (.int x))) = H') (k : Wp W K M Q H' c n pc' L S) : Wp W K M Q H c n pc L (.int x :: .int j :: .ref a :: S) := by
  obtain ⟨hd, rfl⟩ := hd
  subst hH
  exact Wp.to (fun T locs X hx hZ ho hc _ hnm P N => by
    have F : ArOk (wZ W) T.heap a .int ex ov vs := P.at hi
    obtain ⟨cl, h1, h2, -⟩ := id F
    obtain ⟨g1, -⟩ := ArOk.inb (Z := wZ W) h2 hj hk (List.getElem?_eq_getElem hl)
    obtain ⟨T', h', X', e', E, st⟩ := Jvm.RoadKit.stI X hx hZ rfl h1 g1 (g := mkF (kM K) pc L.toArray (.int x :: .int j :: .ref a :: S)) rfl rfl (hbM hc hd)
    exact ⟨T', _, X', Fr.snoc X' N ((P.2.1 _ (List.mem_of_getElem? hi)).1 rfl), by rw [e']; exact P.put hi E (F.put hk (rfl) E), st⟩) k
theorem Wp.lastore {a : Addr} {ex ov : Bool} {vs : List Value} {j : Int32} {x : Int64} (i kk : Nat) (hi : H[i]? = some (a, true, .inr (.long, ex, ov, vs))) (hj : ¬ j < 0) (hk : j.toNatClampNeg = kk) (hl : kk < vs.length) (hd : Dc (mC M) pc .lastore 1 pc') (hH : H.set i (a, true, .inr (.long, ex, ov, vs.set kk (.long x))) = H') (k : Wp W K M Q H' c n pc' L S) : Wp W K M Q H c n pc L (.long x :: .int j :: .ref a :: S) := by
  obtain ⟨hd, rfl⟩ := hd
  subst hH
  exact Wp.to (fun T locs X hx hZ ho hc _ hnm P N => by
    have F : ArOk (wZ W) T.heap a .long ex ov vs := P.at hi
    obtain ⟨cl, h1, h2, -⟩ := id F
    obtain ⟨g1, -⟩ := ArOk.inb (Z := wZ W) h2 hj hk (List.getElem?_eq_getElem hl)
    obtain ⟨T', h', X', e', E, st⟩ := Jvm.RoadKit.stJ X hx hZ rfl h1 g1 (g := mkF (kM K) pc L.toArray (.long x :: .int j :: .ref a :: S)) rfl rfl (hbM hc hd)
    exact ⟨T', _, X', Fr.snoc X' N ((P.2.1 _ (List.mem_of_getElem? hi)).1 rfl), by rw [e']; exact P.put hi E (F.put hk (rfl) E), st⟩) k
/-- a reference stored into an array over the class C: null, or an object of exactly the class D that is a C -/
theorem Wp.aastore {a : Addr} {ex : Bool} {C : String} {vs : List Value} {j : Int32} {v : Value} (i kk : Nat) (hi : H[i]? = some (a, true, .inr (.object C, ex, true, vs))) (hj : ¬ j < 0) (hk : j.toNatClampNeg = kk) (hl : kk < vs.length) (hs : v = .null ∨ ∃ y, v = .ref y ∧ ∀ h, Hp W h H → Ins (wZ W) h y C true) (hr : v.isRef = true)
    (hd : Dc (mC M) pc .aastore 1 pc') (hH : H.set i (a, true, .inr (.object C, ex, true, vs.set kk v)) = H') (k : Wp W K M Q H' c n pc' L S) : Wp W K M Q H c n pc L (v :: .int j :: .ref a :: S) := by
  obtain ⟨hd, rfl⟩ := hd
  subst hH
  exact Wp.to (fun T locs X hx hZ ho hc _ hnm P N => by
    have F : ArOk (wZ W) T.heap a (.object C) ex true vs := P.at hi
    obtain ⟨cl, h1, h2, h3, h4, h5, h6⟩ := id F
    obtain ⟨g1, -⟩ := ArOk.inb (Z := wZ W) h2 hj hk (List.getElem?_eq_getElem hl)
    have B : Sto (wZ W) T.heap a v := hs.elim Or.inl fun ⟨y, e, I⟩ => e ▸ Sto.of h1 (h6 rfl C rfl) (I _ P)
    obtain ⟨T', h', X', e', E, st⟩ := Jvm.RoadKit.stR X hx hZ rfl h1 g1 rfl B (g := mkF (kM K) pc L.toArray (v :: .int j :: .ref a :: S)) rfl rfl (hbM hc hd)
    have hf : fits (.object C) v = true := by rcases ref_cases hr with rfl | ⟨_, rfl⟩ <;> rfl
    exact ⟨T', _, X', Fr.snoc X' N ((P.2.1 _ (List.mem_of_getElem? hi)).1 rfl), by rw [e']; exact P.put hi E (F.put hk hf E), st⟩) k
-- the ends
theorem Wp.fin {v : Option Value} (q : Q v H) (hc1 : c ≤ (mR M).cells) (hn1 : n ≤ (mR M).slots) (hv : mT M = none → v = none)
    (st : ∀ T locs, Stand (kP K) (wL W) (kE K) (mR M) (kS K) (kM K) (kA K) (kB K) (kH K) (kC K) T locs c n → (kP K).tables.exec = Jvm.exec → (kC K).code = mC M → (kH K).sig.returnType = mT M → ∀ fs, (∀ (f : JFrame) (acts : List Action), f.method = kM K → f.locked = none → f.entered = [] → (doReturn (kE K) (T.setTop f) acts v).1 = T.setFrames fs) → Steps (kP K).tables (kE K) (kB K) (T.setTop (mkF (kM K) pc L.toArray S)) (T.setFrames fs)) : Wp W K M Q H c n pc L S := fun T X => by
  obtain ⟨hx, hZ, ho, hb, hm, hr, hn, hl, locs, X, N, P⟩ := X
  obtain ⟨fs, h1, h2, h3, h4, h5⟩ := X.leave (v := v) (fun u => hv (hr.symm.trans u)) hl
  exact ⟨_, st T locs X hx hb hr fs h1, _, h2, h3, v, locs, rfl, ⟨N, H, P, q⟩, ⟨v, rfl⟩, h4, h5.mono hc1 hn1⟩
theorem Wp.ret (hT : mT M = none) (hd : Dc (mC M) pc .return_ 1 pc') (hc1 : c ≤ (mR M).cells) (hn1 : n ≤ (mR M).slots) (q : Q none H) : Wp W K M Q H c n pc L [] := by
  obtain ⟨hd, rfl⟩ := hd
  exact Wp.fin q hc1 hn1 (fun _ => rfl) fun T locs X hx hc hr fs hl => X.returnOut hx (hr.trans hT) (hbM hc hd) hl
theorem Wp.iretN {t : FieldType} {x z : Int32} (ht : t = .boolean ∨ t = .byte ∨ t = .char ∨ t = .short) (hT : mT M = some t) (hz : nar t x = z) (hd : Dc (mC M) pc .ireturn 1 pc') (hc1 : c ≤ (mR M).cells) (hn1 : n ≤ (mR M).slots) (q : Q (some (.int z)) H) : Wp W K M Q H c n pc L (.int x :: S) := by
  obtain ⟨hd, rfl⟩ := hd
  subst hz
  exact Wp.fin q hc1 hn1 (fun u => by rw [hT] at u; cases u) fun T locs X hx hc hr fs hl => retN X hx (hr.trans hT) ht (hbM hc hd) hl
theorem Wp.iret {x : Int32} (hT : mT M = some .int) (hd : Dc (mC M) pc .ireturn 1 pc') (hc1 : c ≤ (mR M).cells) (hn1 : n ≤ (mR M).slots) (q : Q (some (.int x)) H) : Wp W K M Q H c n pc L (.int x :: S) := by
  obtain ⟨hd, rfl⟩ := hd
  exact Wp.fin q hc1 hn1 (fun u => by rw [hT] at u; cases u) fun T locs X hx hc hr fs hl => retOut X hx (hr.trans hT) rfl (Or.inl ⟨rfl, Or.inl rfl, x, rfl⟩) (hbM hc hd) hl
theorem Wp.lret {x : Int64} (hT : mT M = some .long) (hd : Dc (mC M) pc .lreturn 1 pc') (hc1 : c ≤ (mR M).cells) (hn1 : n ≤ (mR M).slots) (q : Q (some (.long x)) H) : Wp W K M Q H c n pc L (.long x :: S) := by
  obtain ⟨hd, rfl⟩ := hd
  exact Wp.fin q hc1 hn1 (fun u => by rw [hT] at u; cases u) fun T locs X hx hc hr fs hl => retOut X hx (hr.trans hT) rfl (Or.inr (Or.inl ⟨rfl, rfl, x, rfl⟩)) (hbM hc hd) hl
theorem Wp.aret {t : FieldType} {v : Value} (hT : mT M = some t) (hr1 : t.isReference = true) (hv : v.isRef = true) (hd : Dc (mC M) pc .areturn 1 pc') (hc1 : c ≤ (mR M).cells) (hn1 : n ≤ (mR M).slots) (q : Q (some v) H) : Wp W K M Q H c n pc L (v :: S) := by
  obtain ⟨hd, rfl⟩ := hd
  have hn2 : narrow t v = v := by rcases ref_cases hv with rfl | ⟨_, rfl⟩ <;> cases t <;> rfl
  exact Wp.fin q hc1 hn1 (fun u => by rw [hT] at u; cases u) fun T locs X hx hc hr fs hl => retOut X hx (hr.trans hT) hn2 (Or.inr (Or.inr (Or.inr (Or.inr ⟨rfl, hr1, hv⟩)))) (hbM hc hd) hl
-- calls
def pushV (v : Option Value) (S : List Value) : List Value := match v with
  | none => S
  | some x => x :: S
theorem pushV_eq (v : Option Value) (S : List Value) : pushV v S = v.toList ++ S := by cases v <;> rfl
theorem mkLen {d : String} {ps : List FieldType} {r : Option FieldType} {np : Nat} (hd : parseMethodDescriptor d = some ⟨ps, r⟩) (hl : np = ps.length) : ∀ sig, parseMethodDescriptor d = some sig → np = sig.parameters.length := fun sig h => by
  rw [hd] at h; cases h; exact hl
theorem Wp.know {P : Prop} (q : ∀ h, Hp W h H → P) (k : P → Wp W K M Q H c n pc L S) : Wp W K M Q H c n pc L S := fun T X => by
  have u := X
  obtain ⟨-, -, -, -, -, -, -, -, -, -, -, hp⟩ := u
  exact k (q _ hp) T X
theorem Wp.apart {a b : Addr} {r r' : Bool} {D D' : Ds} (i j : Nat) (hi : H[i]? = some (a, r, D)) (hj : H[j]? = some (b, r', D')) (hne : i ≠ j) (hr : r = true) (k : b ≠ a → Wp W K M Q H c n pc L S) : Wp W K M Q H c n pc L S := Wp.know (fun _ P => P.apart hi hj hne hr) k
theorem acT_eq (a : Value) : Jvm.Free.XT.acmp .eq a a = true := by simp [Jvm.Free.XT.acmp]
theorem acT_ne (a : Value) : Jvm.Free.XT.acmp .ne a a = false := by simp [Jvm.Free.XT.acmp]
theorem acF_eq {a b : Addr} (h : a ≠ b) : Jvm.Free.XT.acmp .eq (.ref a) (.ref b) = false := by simp [Jvm.Free.XT.acmp, h]
theorem acF_ne {a b : Addr} (h : a ≠ b) : Jvm.Free.XT.acmp .ne (.ref a) (.ref b) = true := by simp [Jvm.Free.XT.acmp, h]
theorem acN_eq_l (b : Addr) : Jvm.Free.XT.acmp .eq .null (.ref b) = false := by simp [Jvm.Free.XT.acmp]
theorem acN_eq_r (b : Addr) : Jvm.Free.XT.acmp .eq (.ref b) .null = false := by simp [Jvm.Free.XT.acmp]
theorem acN_ne_l (b : Addr) : Jvm.Free.XT.acmp .ne .null (.ref b) = true := by simp [Jvm.Free.XT.acmp]
theorem acN_ne_r (b : Addr) : Jvm.Free.XT.acmp .ne (.ref b) .null = true := by simp [Jvm.Free.XT.acmp]
theorem insSelf {h : Heap} {a : Addr} {r : Bool} {C : String} {fs : List Fd} (P : Hp W h H) (i : Nat) (hi : H[i]? = some (a, r, .inl (C, fs))) : Ins (wZ W) h a C true := Ins.self (show ObOk (wZ W) h a C fs from P.at hi).1
theorem insCast {h : Heap} {a : Addr} {r : Bool} {C D : String} {fs : List Fd} (P : Hp W h H) (i : Nat) (hi : H[i]? = some (a, r, .inl (C, fs))) (w : Wok W (.castable C D)) : Ins (wZ W) h a D true := Ins.of_exa (show ObOk (wZ W) h a C fs from P.at hi).1 w
/-- what the sheet says of a callee: its code, its class, how many arguments -/
def Mk (W : Wd) (M : Mt) (y : MethodName) (np : Nat) : Prop := mN M = y ∧ Wok W (.code y (mC M) (mL M) (mT M)) ∧ Wok W (.initialized y.cls) ∧ (∀ sig, parseMethodDescriptor y.desc = some sig → np = sig.parameters.length) ∧ (y.cls ≠ "java/lang/invoke/MethodHandle" ∧ y.cls ≠ "java/lang/invoke/VarHandle")
theorem Mk.of {W : Wd} {M : Mt} {y : MethodName} {np ml : Nat} {cd : ByteArray} {rt : Option FieldType} (h1 : mN M = y) (h2 : mC M = cd) (h3 : mL M = ml) (h4 : mT M = rt) (w1 : Wok W (.code y cd ml rt)) (w2 : Wok W (.initialized y.cls)) (h5 : ∀ sig, parseMethodDescriptor y.desc = some sig → np = sig.parameters.length) (h6 : y.cls ≠ "java/lang/invoke/MethodHandle" ∧ y.cls ≠ "java/lang/invoke/VarHandle") : Mk W M y np := by
  subst h1 h2 h3 h4
  exact ⟨rfl, w1, w2, h5, h6⟩
abbrev Fits (M M' : Mt) (c n Wn : Nat) : Prop := (mR M').frames + 1 ≤ (mR M).frames ∧ Wn + (mL M' + 11) + (mR M').locals ≤ (mR M).locals ∧ c + (mR M').cells ≤ (mR M).cells ∧ n + (mR M').slots ≤ (mR M).slots
theorem Ct.back {M' : Mt} {as : List Value} {Q' : Option Value → List En → Prop} {h : Heap} {p : Program} {e : Env} {s : State} {args : Array Value} {below : List Frame} {ln Wn : Nat} {R : Room} (C : Ct W M' as H Q') (P : Hp W h H) (hZ : (wZ W).Warmed39 s.vm) {np : Nat} (w : Mk W M' (mN M') np) (hf : (mR M').frames + 1 ≤ R.frames) (hl : Wn + (mL M' + 11) + (mR M').locals ≤ R.locals) :
    Back (wL W) R p e below s args (mN M') ln Wn (fun A a => a = as.toArray ∧ A.U.heap = h ∧ A.cells + (mR M').cells ≤ R.cells ∧ A.slots + (mR M').slots ≤ R.slots) (fun A _ v B => ∃ L, (Fr (wN W) L ∧ ∃ H', Hp W B.U.heap H' ∧ Q' v H') ∧ B.locs = A.locs ++ L ∧ B.cells = A.cells + (mR M').cells ∧ B.slots = A.slots + (mR M').slots) :=
  backOf (Q := fun v h L => Fr (wN W) L ∧ ∃ H', Hp W h H' ∧ Q' v H') (C [] h P) hZ w.2.1 w.2.2.1 hf hl
theorem Wp.callS {y0 : MethodName} (hM : mN M = y0) {M' : Mt} {as : List Value} {idx Wn np : Nat} {S0 : List Value} {Q' : Option Value → List En → Prop} (C : Ct W M' as H Q') {y' : MethodName} (w : Mk W M' y' np) (w1 : Wok W (.methodLink y0.cls idx y')) (w2 : Wok W (.static y')) (hst : S0 = as.reverse ++ S) (hp : as.length = np) (hW : (S.map fun v => v.category).sum = Wn) (hL : L.length = mL M) (hR : Fits M M' c n Wn)
    (hd : Dc (mC M) pc (.invokestatic idx) 3 pc') (k : ∀ v H', Q' v H' → Wp W K M Q H' (c + (mR M').cells) (n + (mR M').slots) pc' L (pushV v S)) : Wp W K M Q H c n pc L S0 := by
  subst hM
  obtain ⟨rfl, w⟩ := w
  obtain ⟨hd, rfl⟩ := hd
  subst hst hp
  exact fun T X => by
    obtain ⟨hx, hZ, ho, hb, hm, hr, hn, hl, locs, X, N, P⟩ := X
    obtain ⟨v, vm1, ⟨T', L', k', n'⟩, -, X', ⟨Lc, ⟨N', H', P', q⟩, l1, y1, z1⟩, st⟩ := Jvm.LawKit.callS X hx (y := mN M') ho (mvT hZ w1) (mvT hZ w2) (mvT hZ w.2.1) (mvT hZ w.1) w.2.2.2 (Ct.back C P hZ ⟨rfl, w⟩ hR.1 hR.2.1) (g := mkF (kM K) pc L.toArray (as.reverse ++ S)) rfl (by rw [hm, ← hL]; simp) (argsL := as) (rest := S) w.2.2.1 rfl (by show 2 * 0 + _ ≤ _; omega) (hbM hb hd) (fun _ _ => ⟨rfl, rfl, hR.2.2.1, hR.2.2.2⟩)
    dsimp only [Pt.U, Pt.locs, Pt.cells, Pt.slots] at X' l1 y1 z1 st P'
    subst l1 y1 z1
    obtain ⟨U, s1, s2⟩ := k v H' q T' ⟨hx, hZ, ho, hb, hm, hr, hn, hl, _, X', N.app N', P'⟩
    rw [pushV_eq] at s1
    exact ⟨U, st _ s1, s2⟩
/-- a constructor -/
theorem Wp.callC {y0 : MethodName} (hM : mN M = y0) {M' : Mt} {a : Addr} {as : List Value} {idx Wn np : Nat} {S0 : List Value} {Q' : Option Value → List En → Prop} (C : Ct W M' (.ref a :: as) H Q') {y' : MethodName} (w : Mk W M' y' np) (w1 : Wok W (.methodLink y0.cls idx y')) (w2 : Wok W (.instanceMethod y')) (hi : y'.name = "<init>") (hT : mT M' = none) (hst : S0 = as.reverse ++ .ref a :: S) (hp : as.length = np) (hW : (S.map fun v => v.category).sum = Wn) (hL : L.length = mL M) (hR : Fits M M' c n Wn)
    (hd : Dc (mC M) pc (.invokespecial idx) 3 pc') (k : ∀ v H', Q' v H' → Wp W K M Q H' (c + (mR M').cells) (n + (mR M').slots) pc' L (pushV v S)) : Wp W K M Q H c n pc L S0 := by
  subst hM
  obtain ⟨rfl, w⟩ := w
  obtain ⟨hd, rfl⟩ := hd
  subst hst hp
  exact fun T X => by
    obtain ⟨hx, hZ, ho, hb, hm, hr, hn, hl, locs, X, N, P⟩ := X
    obtain ⟨v, vm1, ⟨T', L', k', n'⟩, -, X', ⟨Lc, ⟨N', H', P', q⟩, l1, y1, z1⟩, st⟩ := X.specialBack hx (y := mN M') hi ho (mvT hZ w1) (mvT hZ w2) (hT ▸ mvT hZ w.1) w.2.2.2 (Ct.back C P hZ ⟨rfl, w⟩ hR.1 hR.2.1) (g := mkF (kM K) pc L.toArray (as.reverse ++ .ref a :: S)) rfl (by rw [hm, ← hL]; simp) (Steps.refl _) (a := a) (argsL := as) (rest := S) w.2.2.1 rfl (by show 2 * 0 + _ ≤ _; omega) (hbM hb hd) (fun _ _ => ⟨rfl, rfl, hR.2.2.1, hR.2.2.2⟩)
    dsimp only [Pt.U, Pt.locs, Pt.cells, Pt.slots] at X' l1 y1 z1 st P'
    subst l1 y1 z1
    obtain ⟨U, s1, s2⟩ := k v H' q T' ⟨hx, hZ, ho, hb, hm, hr, hn, hl, _, X', N.app N', P'⟩
    rw [pushV_eq] at s1
    exact ⟨U, st.trans s1, s2⟩
theorem Wp.callV {y0 : MethodName} (hM : mN M = y0) {M' : Mt} {y : MethodName} {C0 S' : String} {fs : List Fd} {rw : Bool} {a : Addr} {as : List Value} {idx Wn np : Nat} {S0 : List Value} {Q' : Option Value → List En → Prop} (C : Ct W M' (.ref a :: as) H Q') (i : Nat) (hi : H[i]? = some (a, rw, .inl (C0, fs))) {y' : MethodName} (w : Mk W M' y' np) (w1 : Wok W (.methodLink y0.cls idx y)) (w2 : Wok W (.declares y)) (w3 : Wok W (.selects C0 y y')) (w4 : Wok W (.instanceMethod y'))
    (nf : y = y' ∨ Wok W (.superclass y.cls S') ∨ Wok W (.noSuperclass y.cls)) (hy : y.cls ≠ "java/lang/invoke/MethodHandle" ∧ y.cls ≠ "java/lang/invoke/VarHandle") (hdsc : y.desc = y'.desc) (hst : S0 = as.reverse ++ .ref a :: S) (hp : as.length = np) (hW : (S.map fun v => v.category).sum = Wn) (hL : L.length = mL M) (hR : Fits M M' c n Wn)
    (hd : Dc (mC M) pc (.invokevirtual idx) 3 pc') (k : ∀ v H', Q' v H' → Wp W K M Q H' (c + (mR M').cells) (n + (mR M').slots) pc' L (pushV v S)) : Wp W K M Q H c n pc L S0 := by
  subst hM
  obtain ⟨rfl, w⟩ := w
  obtain ⟨hd, rfl⟩ := hd
  subst hst hp
  exact fun T X => by
    obtain ⟨hx, hZ, ho, hb, hm, hr, hn, hl, locs, X, N, P⟩ := X
    have F : ObOk (wZ W) T.heap a C0 fs := P.at hi
    obtain ⟨cq, kq, q1, q2, q3⟩ := isOf hZ rfl F.1
    have nf' : NotFace (kS K) y := by
      rcases nf with e | u | u
      · exact notFace_of_selects (args := #[]) (C := C0) (by rw [← e] at w3; exact mvT hZ w3)
      · exact nf_super (args := #[]) (mvT hZ u)
      · exact nf_top (args := #[]) (mvT hZ u)
    obtain ⟨v, vm1, ⟨T', L', k', n'⟩, -, X', ⟨Lc, ⟨N', H', P', q⟩, l1, y1, z1⟩, st⟩ := X.virtualBack hx (y := y) (z := mN M') ho (mvT hZ w1) (mvT hZ w2) nf' (mvT hZ w3) (mvT hZ w4) hy (Ct.back C P hZ ⟨rfl, w⟩ hR.1 hR.2.1) q1 q3 (g := mkF (kM K) pc L.toArray (as.reverse ++ .ref a :: S)) rfl (by rw [hm, ← hL]; simp) (Steps.refl _) (argsL := as) (rest := S) (fun sig u => w.2.2.1 sig (hdsc ▸ u)) rfl (by show 2 * 0 + _ ≤ _; omega) (hbM hb hd) (fun _ _ => ⟨rfl, rfl, hR.2.2.1, hR.2.2.2⟩)
    dsimp only [Pt.U, Pt.locs, Pt.cells, Pt.slots] at X' l1 y1 z1 st P'
    subst l1 y1 z1
    obtain ⟨U, s1, s2⟩ := k v H' q T' ⟨hx, hZ, ho, hb, hm, hr, hn, hl, _, X', N.app N', P'⟩
    rw [pushV_eq] at s1
    exact ⟨U, st.trans s1, s2⟩
theorem Wp.callI {y0 : MethodName} (hM : mN M = y0) {M' : Mt} {y : MethodName} {C0 : String} {fs : List Fd} {rw : Bool} {a : Addr} {as : List Value} {idx cnt Wn np : Nat} {S0 : List Value} {Q' : Option Value → List En → Prop} (C : Ct W M' (.ref a :: as) H Q') (i : Nat) (hi : H[i]? = some (a, rw, .inl (C0, fs))) {y' : MethodName} (w : Mk W M' y' np) (w1 : Wok W (.methodLink y0.cls idx y)) (w2 : Wok W (.declares y)) (w3 : Wok W (.interfaceMethod y.cls y.cls y.name y.desc)) (w4 : Wok W (.selects C0 y y')) (w5 : Wok W (.instanceMethod y')) (w6 : Wok W (.publicMethod y')) (w7 : Wok W (.unhidden C0 y.name y.desc)) (w8 : Wok W (.castable C0 y.cls))
    (hy : y.cls ≠ "java/lang/invoke/MethodHandle" ∧ y.cls ≠ "java/lang/invoke/VarHandle") (hdsc : y.desc = y'.desc) (hst : S0 = as.reverse ++ .ref a :: S) (hp : as.length = np) (hW : (S.map fun v => v.category).sum = Wn) (hL : L.length = mL M) (hR : Fits M M' c n Wn)
    (hd : Dc (mC M) pc (.invokeinterface idx cnt) 5 pc') (k : ∀ v H', Q' v H' → Wp W K M Q H' (c + (mR M').cells) (n + (mR M').slots) pc' L (pushV v S)) : Wp W K M Q H c n pc L S0 := by
  subst hM
  obtain ⟨rfl, w⟩ := w
  obtain ⟨hd, rfl⟩ := hd
  subst hst hp
  exact fun T X => by
    obtain ⟨hx, hZ, ho, hb, hm, hr, hn, hl, locs, X, N, P⟩ := X
    have F : ObOk (wZ W) T.heap a C0 fs := P.at hi
    obtain ⟨cq, kq, q1, q2, q3⟩ := isOf hZ rfl F.1
    obtain ⟨v, vm1, ⟨T', L', k', n'⟩, -, X', ⟨Lc, ⟨N', H', P', q⟩, l1, y1, z1⟩, st⟩ := X.interfaceBack hx (xi := y) (y := mN M') ho (mvT hZ w1) (mvT hZ w2) (mvT hZ w3 (by simp [Cond.onTables, Cond.keepsFace, Cond.faceAtom, hy.1, hy.2])) (mvT hZ w4) (mvT hZ w5) (mvT hZ w6) (mvT hZ w7) (mvT hZ w8) hy (Ct.back C P hZ ⟨rfl, w⟩ hR.1 hR.2.1) q1 q2 q3 (g := mkF (kM K) pc L.toArray (as.reverse ++ .ref a :: S)) rfl (by rw [hm, ← hL]; simp) (Steps.refl _) (argsL := as) (rest := S) (fun sig u => w.2.2.1 sig (hdsc ▸ u)) rfl (by show 2 * 0 + _ ≤ _; omega) (hbM hb hd) (fun _ _ => ⟨rfl, rfl, hR.2.2.1, hR.2.2.2⟩)
    dsimp only [Pt.U, Pt.locs, Pt.cells, Pt.slots] at X' l1 y1 z1 st P'
    subst l1 y1 z1
    obtain ⟨U, s1, s2⟩ := k v H' q T' ⟨hx, hZ, ho, hb, hm, hr, hn, hl, _, X', N.app N', P'⟩
    rw [pushV_eq] at s1
    exact ⟨U, st.trans s1, s2⟩
/-- a private instance method -/
theorem Wp.callP {y0 : MethodName} (hM : mN M = y0) {M' : Mt} {D : Ds} {rw : Bool} {C0 : String} {fs : List Fd} {a : Addr} {as : List Value} {idx Wn np : Nat} {S0 : List Value} {Q' : Option Value → List En → Prop} (C : Ct W M' (.ref a :: as) H Q') (i : Nat) (hi : H[i]? = some (a, rw, .inl (C0, fs))) {y' : MethodName} (w : Mk W M' y' np) (w1 : Wok W (.methodLink y0.cls idx y')) (w2 : Wok W (.instanceMethod y')) (w3 : Wok W (.selects y'.cls y' y')) (w4 : Wok W (.privateMethod y'))
    (hst : S0 = as.reverse ++ .ref a :: S) (hp : as.length = np) (hW : (S.map fun v => v.category).sum = Wn) (hL : L.length = mL M) (hR : Fits M M' c n Wn)
    (hd : Dc (mC M) pc (.invokevirtual idx) 3 pc') (k : ∀ v H', Q' v H' → Wp W K M Q H' (c + (mR M').cells) (n + (mR M').slots) pc' L (pushV v S)) : Wp W K M Q H c n pc L S0 := by
  subst hM
  obtain ⟨rfl, w⟩ := w
  obtain ⟨hd, rfl⟩ := hd
  subst hst hp
  exact fun T X => by
    obtain ⟨hx, hZ, ho, hb, hm, hr, hn, hl, locs, X, N, P⟩ := X
    have F : ObOk (wZ W) T.heap a C0 fs := P.at hi
    obtain ⟨cq, q1, q2⟩ := F.1.cell
    obtain ⟨v, vm1, ⟨T', L', k', n'⟩, -, X', ⟨Lc, ⟨N', H', P', q⟩, l1, y1, z1⟩, st⟩ := X.privateBack hx (y := mN M') ho (mvT hZ w1) (mvT hZ w2) (mvT hZ w3) (Cond.privateMethod_at (mvP hZ w4 (args := #[]))) (mvT hZ w.1) w.2.2.2 (Ct.back C P hZ ⟨rfl, w⟩ hR.1 hR.2.1) (g := mkF (kM K) pc L.toArray (as.reverse ++ .ref a :: S)) rfl (by rw [hm, ← hL]; simp) (Steps.refl _) (a := a) q1 q2 (argsL := as) (rest := S) w.2.2.1 rfl (by show 2 * 0 + _ ≤ _; omega) (hbM hb hd) (fun _ _ => ⟨rfl, rfl, hR.2.2.1, hR.2.2.2⟩)
    dsimp only [Pt.U, Pt.locs, Pt.cells, Pt.slots] at X' l1 y1 z1 st P'
    subst l1 y1 z1
    obtain ⟨U, s1, s2⟩ := k v H' q T' ⟨hx, hZ, ho, hb, hm, hr, hn, hl, _, X', N.app N', P'⟩
    rw [pushV_eq] at s1
    exact ⟨U, st.trans s1, s2⟩
/-- super.m(..) -/
theorem Wp.callU {y0 : MethodName} (hM : mN M = y0) {M' : Mt} {rw : Bool} {C0 : String} {fs : List Fd} {a : Addr} {as : List Value} {idx Wn np : Nat} {S0 : List Value} {Q' : Option Value → List En → Prop} (C : Ct W M' (.ref a :: as) H Q') (i : Nat) (hi : H[i]? = some (a, rw, .inl (C0, fs))) {y' : MethodName} (w : Mk W M' y' np) (w1 : Wok W (.methodLink y0.cls idx y')) (w2 : Wok W (.sameMethod y'.cls y'.cls y'.name y'.desc)) (w3 : Wok W (.instanceMethod y')) (w4 : Wok W (.superclass y0.cls y'.cls)) (hni : y'.name ≠ "<init>")
    (hst : S0 = as.reverse ++ .ref a :: S) (hp : as.length = np) (hW : (S.map fun v => v.category).sum = Wn) (hL : L.length = mL M) (hR : Fits M M' c n Wn)
    (hd : Dc (mC M) pc (.invokespecial idx) 3 pc') (k : ∀ v H', Q' v H' → Wp W K M Q H' (c + (mR M').cells) (n + (mR M').slots) pc' L (pushV v S)) : Wp W K M Q H c n pc L S0 := by
  subst hM
  obtain ⟨rfl, w⟩ := w
  obtain ⟨hd, rfl⟩ := hd
  subst hst hp
  exact fun T X => by
    obtain ⟨hx, hZ, ho, hb, hm, hr, hn, hl, locs, X, N, P⟩ := X
    have F : ObOk (wZ W) T.heap a C0 fs := P.at hi
    obtain ⟨v, vm1, ⟨T', L', k', n'⟩, -, X', ⟨Lc, ⟨N', H', P', q⟩, l1, y1, z1⟩, st⟩ := superBack X hx hZ (y := mN M') ho w1 w2 w3 w4 hni (Ct.back C P hZ ⟨rfl, w⟩ hR.1 hR.2.1) rfl (Ins.self F.1) (g := mkF (kM K) pc L.toArray (as.reverse ++ .ref a :: S)) rfl (by rw [hm, ← hL]; simp) w.1 (argsL := as) (rest := S) w.2.2.1 rfl (by show 2 * 0 + _ ≤ _; omega) (hbM hb hd) (fun _ _ => ⟨rfl, rfl, hR.2.2.1, hR.2.2.2⟩)
    dsimp only [Pt.U, Pt.locs, Pt.cells, Pt.slots] at X' l1 y1 z1 st P'
    subst l1 y1 z1
    obtain ⟨U, s1, s2⟩ := k v H' q T' ⟨hx, hZ, ho, hb, hm, hr, hn, hl, _, X', N.app N', P'⟩
    rw [pushV_eq] at s1
    exact ⟨U, st.trans s1, s2⟩
theorem Wp.initO {y0 : MethodName} (hM : mN M = y0) {a : Addr} {idx Wn : Nat} (w1 : Wok W (.methodLink y0.cls idx Lib.objectInit)) (w2 : Wok W (.instanceMethod Lib.objectInit)) (w3 : Wok W (.code Lib.objectInit ⟨#[0xb1]⟩ 1 none)) (hW : (S.map fun v => v.category).sum = Wn) (hL : L.length = mL M) (hf : 1 ≤ (mR M).frames) (hlo : Wn + 12 ≤ (mR M).locals)
    (hd : Dc (mC M) pc (.invokespecial idx) 3 pc') (k : Wp W K M Q H c n pc' L S) : Wp W K M Q H c n pc L (.ref a :: S) := by
  subst hM
  obtain ⟨hd, rfl⟩ := hd
  exact Wp.to (fun T locs X hx hZ ho hc hm _ P N => by
    obtain ⟨T', X', e', st⟩ := Jvm.RoadKit.initO X hx hZ ho w1 w2 w3 rfl (g := mkF (kM K) pc L.toArray (.ref a :: S)) rfl (by rw [hm, ← hL]; simp) rfl (hbM hc hd) hf (W := Wn) (by show 2 * 0 + _ ≤ _; omega) hlo
    exact ⟨T', locs, X', N, by rw [e']; exact P, st⟩) k
-- casts
theorem Wp.cast {y0 : MethodName} (hM : mN M = y0) {a : Addr} {Kc : String} {idx : Nat} (w : Wok W (.classLink y0.cls idx Kc)) (I : ∀ h, Hp W h H → Ins (wZ W) h a Kc true) (hd : Dc (mC M) pc (.checkcast idx) 3 pc') (k : Wp W K M Q H c n pc' L (.ref a :: S)) : Wp W K M Q H c n pc L (.ref a :: S) := by
  subst hM
  obtain ⟨hd, rfl⟩ := hd
  exact Wp.to (fun T locs X hx hZ ho hc _ _ P N => by
    obtain ⟨T', X', e', st⟩ := castY X hx hZ ho w rfl (I _ P) (g := mkF (kM K) pc L.toArray (.ref a :: S)) rfl rfl (hbM hc hd)
    exact ⟨T', locs, X', N, by rw [e']; exact P, st⟩) k
theorem Wp.inst {y0 : MethodName} (hM : mN M = y0) {a : Addr} {Kc : String} {idx : Nat} (w : Wok W (.classLink y0.cls idx Kc)) (I : ∀ h, Hp W h H → Ins (wZ W) h a Kc true) (hd : Dc (mC M) pc (.instanceof idx) 3 pc') (k : Wp W K M Q H c n pc' L (.int 1 :: S)) : Wp W K M Q H c n pc L (.ref a :: S) := by
  subst hM
  obtain ⟨hd, rfl⟩ := hd
  exact Wp.to (fun T locs X hx hZ ho hc _ _ P N => by
    obtain ⟨T', X', e', st⟩ := instY X hx hZ ho w rfl (I _ P) (g := mkF (kM K) pc L.toArray (.ref a :: S)) rfl rfl (hbM hc hd)
    exact ⟨T', locs, X', N, by rw [e']; exact P, st⟩) k
-- the heap's rows in another order: the first k as 'is' tells
def sel (is : List Nat) (H : List En) : List En := is.filterMap fun i => H[i]?
theorem sel_range : ∀ (k : Nat) (H : List En), sel (List.range k) H = H.take k
  | 0, H => by simp [sel]
  | k + 1, H => by
    have ih := sel_range k H
    unfold sel at ih ⊢
    rw [List.range_succ, List.filterMap_append, ih, List.take_add_one]
    cases h : H[k]? <;> simp [h]
theorem sel_perm {is : List Nat} {k : Nat} (hp : is.isPerm (List.range k) = true) (H : List En) : H.Perm (sel is H ++ H.drop k) := by
  have h1 : (sel is H).Perm (H.take k) := by
    rw [← sel_range]
    exact List.Perm.filterMap _ (List.isPerm_iff.mp hp)
  have h2 : (H.take k ++ H.drop k).Perm (sel is H ++ H.drop k) := List.Perm.append_right _ h1.symm
  rwa [List.take_append_drop] at h2
theorem Wp.perm (is : List Nat) (m : Nat) (hp : is.isPerm (List.range m) = true) (e : sel is H ++ H.drop m = H') (k : Wp W K M Q H' c n pc L S) : Wp W K M Q H c n pc L S := Wp.heap (e ▸ sel_perm hp H) k
end Logic
section Logic2
variable {W : Wd} {K : Kx} {M : Mt} {Q : Option Value → List En → Prop} {H H' : List En} {c n pc pc' pt len : Nat} {L L' : List Slot} {S : List Value}
theorem Wp.castNull {idx : Nat} (hd : Dc (mC M) pc (.checkcast idx) 3 pc') (k : Wp W K M Q H c n pc' L (.null :: S)) : Wp W K M Q H c n pc L (.null :: S) := by
  obtain ⟨hd, rfl⟩ := hd
  exact Wp.go (fun T locs X hx _ ho hc _ _ t r => X.checkcastNull hx (g := mkF (kM K) pc L.toArray (.null :: S)) rfl rfl (hbM hc hd) _ r) k
theorem Wp.instNull {idx : Nat} (hd : Dc (mC M) pc (.instanceof idx) 3 pc') (k : Wp W K M Q H c n pc' L (.int 0 :: S)) : Wp W K M Q H c n pc L (.null :: S) := by
  obtain ⟨hd, rfl⟩ := hd
  exact Wp.go (fun T locs X hx _ ho hc _ _ t r => X.instanceofNull hx (g := mkF (kM K) pc L.toArray (.null :: S)) rfl rfl (hbM hc hd) _ r) k
theorem Wp.tswIn {x : Int32} {dflt low high o : Int} {offs : Array Int} (hin : ¬ (x.toInt < low ∨ x.toInt > high)) (hoff : offs[(x.toInt - low).toNat]? = some o) (h1 : 0 ≤ (pc : Int) + o) (h2 : ((pc : Int) + o).toNat = pt) (hd : Dc (mC M) pc (.tableswitch dflt low high offs) len pc') (k : Wp W K M Q H c n pt L S) : Wp W K M Q H c n pc L (.int x :: S) := by
  obtain ⟨hd, -⟩ := hd
  exact Wp.go (fun T locs X hx _ ho hc _ _ t r => XS.tswIn X.here hx rfl rfl (hbM hc hd) rfl hin hoff h1 h2 r) k
theorem Wp.tswOut {x : Int32} {dflt low high : Int} {offs : Array Int} (hout : x.toInt < low ∨ x.toInt > high) (h1 : 0 ≤ (pc : Int) + dflt) (h2 : ((pc : Int) + dflt).toNat = pt) (hd : Dc (mC M) pc (.tableswitch dflt low high offs) len pc') (k : Wp W K M Q H c n pt L S) : Wp W K M Q H c n pc L (.int x :: S) := by
  obtain ⟨hd, -⟩ := hd
  exact Wp.go (fun T locs X hx _ ho hc _ _ t r => XS.tswOut X.here hx rfl rfl (hbM hc hd) rfl hout h1 h2 r) k
theorem Wp.lswIn {x : Int32} {dflt a o : Int} {prs : Array (Int × Int)} (hs : (prs.toList.zip (prs.toList.drop 1)).all (fun (a, next) => a.1 < next.1) = true) (hf : prs.find? (·.1 == x.toInt) = some (a, o)) (h1 : 0 ≤ (pc : Int) + o) (h2 : ((pc : Int) + o).toNat = pt) (hd : Dc (mC M) pc (.lookupswitch dflt prs) len pc') (k : Wp W K M Q H c n pt L S) : Wp W K M Q H c n pc L (.int x :: S) := by
  obtain ⟨hd, -⟩ := hd
  subst h2
  exact Wp.go (fun T locs X hx _ ho hc _ _ t r => X.lookupswitchHit hx (g := mkF (kM K) pc L.toArray (.int x :: S)) rfl rfl (hbM hc hd) hs hf h1 _ r) k
theorem Wp.lswOut {x : Int32} {dflt : Int} {prs : Array (Int × Int)} (hs : (prs.toList.zip (prs.toList.drop 1)).all (fun (a, next) => a.1 < next.1) = true) (hf : prs.find? (·.1 == x.toInt) = none) (h1 : 0 ≤ (pc : Int) + dflt) (h2 : ((pc : Int) + dflt).toNat = pt) (hd : Dc (mC M) pc (.lookupswitch dflt prs) len pc') (k : Wp W K M Q H c n pt L S) : Wp W K M Q H c n pc L (.int x :: S) := by
  obtain ⟨hd, -⟩ := hd
  subst h2
  exact Wp.go (fun T locs X hx _ ho hc _ _ t r => X.lookupswitchMiss hx (g := mkF (kM K) pc L.toArray (.int x :: S)) rfl rfl (hbM hc hd) hs hf h1 _ r) k
/-- a local that held nothing, or one word of any kind, is written over -/
theorem storeOne {k : Nat} {o : Slot} {v : Value} (hk : L[k]? = some o) (ho : One o) (hv : v.category = 1) (hL : L.set k (.val v) = L') : storeLocals L.toArray k v = some L'.toArray := by
  subst hL
  rw [Jvm.Free.XS.store1 (by simpa using hk) ho hv]
  simp
/-- arraycopy of whole values: primitive arrays -/
theorem hp0 {s : State} {l : Launch} {a : Array Value} : Hp (l, s, a, s.heap.size) s.heap [] := ⟨Old.start s, fun _ q => (nomatch q), List.Pairwise.nil⟩
/-- an old entry, told at the start -/
theorem Hp.old {h : Heap} {a : Addr} {D : Ds} (P : Hp W h H) (F : DsOk (wZ W) (wZ W).heap a D) (hN : wN W = (wZ W).heap.size) : Hp W h ((a, false, D) :: H) := by
  have hlt := F.lt
  refine ⟨P.1, fun x hx => ?_, List.pairwise_cons.mpr ⟨fun y hy => ?_, P.2.2⟩⟩
  · rcases List.mem_cons.mp hx with rfl | hx
    · exact ⟨fun q => (nomatch q), F.ext P.1.2⟩
    · exact P.2.1 x hx
  · rcases Bool.eq_false_or_eq_true y.2.1 with q | q
    · exact Or.inr fun (e : a = y.1) => by
        have q1 : (wZ W).heap.size ≤ y.1 := hN ▸ (P.2.1 y hy).1 q
        exact Nat.lt_irrefl _ (Nat.lt_of_lt_of_le hlt (Nat.le_trans q1 (Nat.le_of_eq e.symm)))
    · exact Or.inl ⟨rfl, q⟩
end Logic2
-- ints
def by8 (c : Int32) : Int32 := c.toInt8.toInt32
def csL (cs : List Int32) : List Value := cs.map Value.int
def eqI (xs ys : List Int32) : Int32 := if xs = ys then 1 else 0
abbrev ix (i : Nat) : Int32 := Int32.ofNat i
theorem ix_toInt {i : Nat} (h : i < 2 ^ 31) : (ix i).toInt = (i : Int) := toInt_of rfl h
theorem ix_lt {i j : Nat} (hi : i < 2 ^ 31) (hj : j < 2 ^ 31) : ix i < ix j ↔ i < j := by
  rw [Int32.lt_iff_toInt_lt, ix_toInt hi, ix_toInt hj]; omega
theorem ix_nn {i : Nat} (hi : i < 2 ^ 31) : ¬ ix i < 0 := by
  have := ix_lt (j := 0) hi (by decide)
  exact fun q => by have q' : ix i < ix 0 := q; rw [this] at q'; omega
theorem ix_nat {i : Nat} (hi : i < 2 ^ 31) : (ix i).toNatClampNeg = i := clamp_of rfl hi
theorem ix_inc (i : Nat) : ix i + Int32.ofInt 1 = ix (i + 1) := by rw [lit1]; exact (inc_ofNat i).symm
theorem ix_eq {i j : Nat} (hi : i < 2 ^ 31) (hj : j < 2 ^ 31) (h : ix i = ix j) : i = j := by
  have := congrArg Int32.toInt h
  rw [ix_toInt hi, ix_toInt hj] at this; omega
theorem csL_len (cs : List Int32) : (csL cs).length = cs.length := List.length_map ..
theorem csL_get {cs : List Int32} {i : Nat} {x : Int32} (h : cs[i]? = some x) : (csL cs)[i]? = some (.int x) := by simp [csL, h]
theorem csL_set (cs : List Int32) (i : Nat) (x : Int32) : (csL cs).set i (.int x) = csL (cs.set i x) := by simp [csL, List.map_set]
theorem by8_by8 (c : Int32) : nar .byte (by8 c) = by8 c := by simp [nar, by8]
/-- a copy that has come to i: the first i are f's, the others as they were -/
def part (f : Int32 → Int32) (cs ds : List Int32) (i : Nat) : List Int32 := (cs.take i).map f ++ ds.drop i
theorem part_len {f : Int32 → Int32} {cs ds : List Int32} {i : Nat} (h : cs.length = ds.length) : (part f cs ds i).length = ds.length := by
  simp [part]; omega
theorem part_zero (f : Int32 → Int32) (cs ds : List Int32) : part f cs ds 0 = ds := by simp [part]
theorem part_end {f : Int32 → Int32} {cs ds : List Int32} {i : Nat} (h : cs.length = ds.length) (hi : i = cs.length) : part f cs ds i = cs.map f := by
  subst hi
  rw [part, List.take_length, h, List.drop_length, List.append_nil]
theorem part_set {f : Int32 → Int32} {cs ds : List Int32} {i : Nat} {x : Int32} (h : cs.length = ds.length) (hx : cs[i]? = some x) : (part f cs ds i).set i (f x) = part f cs ds (i + 1) := by
  obtain ⟨hi, rfl⟩ := List.getElem?_eq_some_iff.mp hx
  apply List.ext_getElem?
  intro k
  have hl : ((cs.take i).map f).length = i := by simp; omega
  simp only [part, List.getElem?_set, List.getElem?_append, List.length_map, List.length_take, List.getElem?_map, List.getElem?_take, List.getElem?_drop, List.length_append, List.length_drop]
  by_cases e : i = k
  · subst e
    have h1 : i < min (i + 1) cs.length := by omega
    have h2 : i < min i cs.length + (ds.length - i) := by omega
    simp [h1, h2, hi]
  · simp only [e, if_false]
    by_cases hk : k < min i cs.length
    · have h1 : k < min (i + 1) cs.length := by omega
      have h2 : k < i := by omega
      have h3 : k < i + 1 := by omega
      simp [hk, h1, h2, h3]
    · have h1 : ¬ k < min (i + 1) cs.length := by omega
      have h2 : min i cs.length = i := by omega
      have h3 : min (i + 1) cs.length = i + 1 := by omega
      rw [h2] at hk
      rw [h3] at h1
      simp only [h2, h3, hk, h1, if_false]
      congr 1
      omega
theorem csL_rep (n : Nat) : List.replicate n (Value.int 0) = csL (List.replicate n 0) := by simp [csL]
theorem hpN : ∀ c ∈ ([] : List Int32), ¬ c < 0 ∧ ¬ 255 < c := fun _ q => (nomatch q)
theorem hpC {x : Int32} {xs : List Int32} (h : ¬ x < 0 ∧ ¬ 255 < x) (r : ∀ c ∈ xs, ¬ c < 0 ∧ ¬ 255 < c) : ∀ c ∈ x :: xs, ¬ c < 0 ∧ ¬ 255 < c := fun c hc => (List.mem_cons.mp hc).elim (fun e => e ▸ h) (r c)
theorem eqI_ne {xs ys : List Int32} (h : ¬ xs = ys) : eqI xs ys = 0 := if_neg h
theorem eqI_eq {xs ys : List Int32} (h : xs = ys) : eqI xs ys = 1 := if_pos h
theorem eqI_one {xs ys : List Int32} (h : ¬ eqI xs ys = 0) : eqI xs ys = 1 := by
  by_cases e : xs = ys
  · exact eqI_eq e
  · exact absurd (eqI_ne e) h
theorem csL_inj {xs ys : List Int32} (h : csL xs = csL ys) : xs = ys := by
  refine List.map_inj_right (f := Value.int) ?_ |>.mp h
  intro a b e; cases e; rfl
theorem take_snoc {xs ys : List Int32} {i : Nat} {x y : Int32} (h : xs.take i = ys.take i) (hx : xs[i]? = some x) (hy : ys[i]? = some y) (e : x = y) : xs.take (i + 1) = ys.take (i + 1) := by
  rw [List.take_add_one, List.take_add_one, h, hx, hy, e]
theorem take_all {xs ys : List Int32} {i : Nat} (h : xs.take i = ys.take i) (h1 : i = xs.length) (h2 : xs.length = ys.length) : xs = ys := by
  rw [h1, List.take_length, h2, List.take_length] at h; exact h
theorem get_ne {xs ys : List Int32} {i : Nat} {x y : Int32} (hx : xs[i]? = some x) (hy : ys[i]? = some y) (e : ¬ x = y) : ¬ xs = ys := fun q => by
  rw [q, hy] at hx; exact e (Option.some.inj hx).symm
theorem Fld.uniq {Z : State} {h : Heap} {a : Addr} {C n d : String} {v w : Value} (F : Fld Z h a C n d v) (G : Fld Z h a C n d w) : v = w := by
  obtain ⟨c1, cf, k, i, f, h1, h2, -, -, -, -, h7⟩ := F
  obtain ⟨c2, cf', k', i', f', g1, g2, -, -, -, -, g7⟩ := G
  cases h1.symm.trans g1
  cases h2.symm.trans g2
  exact Option.some.inj (h7.symm.trans g7)
theorem ArOk.uniq {Z : State} {h : Heap} {a : Addr} {ty ty' : FieldType} {ex ov ex' ov' : Bool} {vs ws : List Value} (F : ArOk Z h a ty ex ov vs) (G : ArOk Z h a ty' ex' ov' ws) : vs = ws := by
  obtain ⟨c1, h1, h2, -⟩ := F
  obtain ⟨c2, g1, g2, -⟩ := G
  cases h1.1.symm.trans g1.1
  exact h2.symm.trans g2
theorem arh_of {Z : State} {h : Heap} {a : Addr} {ty : FieldType} {ex ov : Bool} {vs : List Value} (F : ArOk Z h a ty ex ov vs) (dv : Value) : ∃ k, Arh Z h a k ty (ix vs.length) [] vs dv := by
  obtain ⟨c, h1, h2, h3, h4, -⟩ := F
  have hs : c.slots.size = vs.length := by rw [← h2]; simp
  refine ⟨c.cls, c, h1, rfl, by rw [hs, ix_nat h3], ix_nn h3, fun i hi => ?_, fun i hi => ?_⟩
  · show c.slots[i]? = some (vs.getD i dv)
    rw [← Array.getElem?_toList, h2, List.getD_eq_getElem?_getD, List.getElem?_eq_getElem (by omega)]; rfl
  · show fits ty (vs.getD i dv) = true
    rw [List.getD_eq_getElem?_getD, List.getElem?_eq_getElem (by omega)]
    exact h4 _ (List.getElem_mem _)
theorem of_arh {Z : State} {h : Heap} {a : Addr} {ty : FieldType} {k : ClassId} {z : Int32} {vs : List Value} {dv : Value} (F : Arh Z h a k ty z [] vs dv) (hz : z.toNatClampNeg = vs.length) (h3 : vs.length < 2 ^ 31) {ex ov : Bool} (h5 : ex = true → Exa Z h a ("[" ++ ty.toString)) (h6 : ov = true → ∀ C, ty = .object C → Ovr Z k C) : ArOk Z h a ty ex ov vs := by
  obtain ⟨c, h1, h2, g3, -, g5, g6⟩ := F
  have hs : c.slots.size = vs.length := g3.trans hz
  refine ⟨c, h1, ?_, h3, fun v hv => ?_, h5, fun q C e => h2 ▸ h6 q C e⟩
  · apply List.ext_getElem?
    intro i
    by_cases hi : i < c.slots.size
    · rw [Array.getElem?_toList, g5 i hi]
      show some (vs.getD i dv) = _
      rw [List.getD_eq_getElem?_getD, List.getElem?_eq_getElem (by omega)]; rfl
    · rw [List.getElem?_eq_none (by simpa using hi), List.getElem?_eq_none (by omega)]
  · obtain ⟨i, hi⟩ := List.getElem?_of_mem hv
    obtain ⟨li, e⟩ := List.getElem?_eq_some_iff.mp hi
    have := g6 i (by omega)
    show fits ty v = true
    have e2 : vs.getD i dv = v := by rw [List.getD_eq_getElem?_getD, hi]; rfl
    exact e2 ▸ this
section Logic3
variable {W : Wd} {K : Kx} {M : Mt} {Q : Option Value → List En → Prop} {H H' : List En} {c n pc pc' pt len : Nat} {L L' : List Slot} {S : List Value}
/-- an array's clone() -/
theorem Wp.clone {y0 : MethodName} (hM : mN M = y0) {ad : String} {a : Addr} {rw ov : Bool} {ty : FieldType} {vs : List Value} {idx Wn kk : Nat} (i : Nat) (hi : H[i]? = some (a, rw, .inr (ty, true, ov, vs))) (hkk : vs.length = kk) (had : "[" ++ ty.toString = ad) (w1 : Wok W (.methodLink y0.cls idx ⟨ad, "clone", "()Ljava/lang/Object;"⟩)) (w2 : Wok W (.sameMethod ad "java/lang/Object" "clone" "()Ljava/lang/Object;")) (w3 : Wok W (.native ⟨"java/lang/Object", "clone", "()Ljava/lang/Object;"⟩))
    (w4 : Wok W (.instanceMethod ⟨"java/lang/Object", "clone", "()Ljava/lang/Object;"⟩)) (w5 : Wok W (.selects ad ⟨ad, "clone", "()Ljava/lang/Object;"⟩ ⟨"java/lang/Object", "clone", "()Ljava/lang/Object;"⟩)) (w6 : Wok W (.castable ad "java/lang/Cloneable")) (hW : (S.map fun v => v.category).sum = Wn) (hL : L.length = mL M) (hf : 1 ≤ (mR M).frames) (hlo : Wn + 14 ≤ (mR M).locals) (hc1 : c + 1 ≤ (mR M).cells) (hl1 : n + kk ≤ (mR M).slots)
    (hd : Dc (mC M) pc (.invokevirtual idx) 3 pc') (k : ∀ b : Addr, Wp W K M Q ((b, true, .inr (ty, true, false, vs)) :: H) (c + 1) (n + kk) pc' L (.ref b :: S)) : Wp W K M Q H c n pc L (.ref a :: S) := by
  subst hM
  subst hkk
  obtain ⟨hd, rfl⟩ := hd
  subst had
  exact fun T X => by
    obtain ⟨hx, hZ, ho, hb, hm, hr, hn, hl, locs, X, N, P⟩ := X
    have F : ArOk (wZ W) T.heap a ty true ov vs := P.at hi
    have h3 : vs.length < 2 ^ 31 := F.choose_spec.2.2.1
    have hE := F.choose_spec.2.2.2.2.1 rfl
    obtain ⟨kk, F'⟩ := arh_of F (.int 0)
    obtain ⟨T', h', X', e', E, A, B, st⟩ := cloneH X hx hZ ho w1 w2 w3 w4 w5 w6 rfl F' hE (g := mkF (kM K) pc L.toArray (.ref a :: S)) rfl (by rw [hm, ← hL]; simp) rfl (hbM hb hd) hf (W := Wn) (cap := vs.length) (by show 2 * 0 + _ ≤ _; omega) hlo (Nat.le_of_eq (ix_nat h3)) hc1 hl1
    obtain ⟨U, s1, s2⟩ := k T.heap.size T' ⟨hx, hZ, ho, hb, hm, hr, hn, hl, locs, X', N, by rw [e']; exact P.new E (of_arh A (ix_nat h3) h3 (fun _ => B) (fun q => nomatch q))⟩
    exact ⟨U, st _ s1, s2⟩
theorem insArr {h : Heap} {a : Addr} {r ov : Bool} {ty : FieldType} {vs : List Value} {ad : String} (P : Hp W h H) (i : Nat) (hi : H[i]? = some (a, r, .inr (ty, true, ov, vs))) (had : "[" ++ ty.toString = ad) : Ins (wZ W) h a ad true := had ▸ Ins.self ((show ArOk (wZ W) h a ty true ov vs from P.at hi).choose_spec.2.2.2.2.1 rfl)
end Logic3
theorem rngC (x : Int32) : ¬ nar .char x < 0 ∧ ¬ 65535 < nar .char x := rng_char (fits_nar_char x)
theorem i2c_int (x : Int32) (h1 : ¬ x < 0) (h2 : ¬ 65535 < x) : x.toUInt32.toUInt16.toUInt32.toInt32 = x := by
  have a := c_i2c x
  rw [Int32.lt_iff_toInt_lt] at h1 h2
  rw [← Int32.toInt_inj]
  have e0 : (0 : Int32).toInt = 0 := rfl
  have e1 : (65535 : Int32).toInt = 65535 := rfl
  rw [e0] at h1
  rw [e1] at h2
  omega
theorem i2cC_id {x : Int32} (h1 : ¬ x < 0) (h2 : ¬ 65535 < x) : x.toUInt32.toUInt16.toUInt32.toInt32 = x := i2c_int x h1 h2
theorem narC_id {x : Int32} (h1 : ¬ x < 0) (h2 : ¬ 65535 < x) : nar .char x = x := i2c_int x h1 h2
theorem le8 {x : Int32} (h : ¬ 255 < x) : ¬ 65535 < x := fun q => h (by
  rw [Int32.lt_iff_toInt_lt] at q ⊢
  have e0 : (255 : Int32).toInt = 255 := rfl
  have e1 : (65535 : Int32).toInt = 65535 := rfl
  omega)
theorem i2cC_id8 {x : Int32} (h1 : ¬ x < 0) (h2 : ¬ 255 < x) : x.toUInt32.toUInt16.toUInt32.toInt32 = x := i2c_int x h1 (le8 h2)
theorem narC_id8 {x : Int32} (h1 : ¬ x < 0) (h2 : ¬ 255 < x) : nar .char x = x := i2c_int x h1 (le8 h2)
/-- a byte read back as a char -/
theorem by8_back {x : Int32} (h1 : ¬ x < 0) (h2 : ¬ 255 < x) : by8 x &&& 255 = x := by
  have a := c_i2b x
  have b := c_mask (by8 x) 255 8 (by decide) (by decide)
  rw [Int32.lt_iff_toInt_lt] at h1 h2
  rw [← Int32.toInt_inj, b]
  have e0 : (0 : Int32).toInt = 0 := rfl
  have e1 : (255 : Int32).toInt = 255 := rfl
  rw [e0] at h1
  rw [e1] at h2
  show (x.toInt8.toInt32.toInt) % 256 = x.toInt
  omega
def lob (c : Int32) : Int32 := by8 (c >>> (0 &&& 31))
def hib (c : Int32) : Int32 := by8 (c >>> (8 &&& 31))
theorem u16_back {x : Int32} (h1 : ¬ x < 0) (h2 : ¬ 65535 < x) : (((lob x &&& 255) <<< (0 &&& 31)) ||| ((hib x &&& 255) <<< (8 &&& 31))) = x := by
  have s0 := c_ishr x 0 0 (by decide)
  have s8 := c_ishr x 8 8 (by decide)
  have a0 := c_i2b (x >>> (0 &&& 31))
  have a8 := c_i2b (x >>> (8 &&& 31))
  have m0 := c_mask (lob x) 255 8 (by decide) (by decide)
  have m8 := c_mask (hib x) 255 8 (by decide) (by decide)
  have t0 := c_ishl (lob x &&& 255) 0 0 (by decide)
  have t8 := c_ishl (hib x &&& 255) 8 8 (by decide)
  have r0 := rng32 ((lob x &&& 255) <<< (0 &&& 31))
  have r8 := rng32 ((hib x &&& 255) <<< (8 &&& 31))
  rw [Int32.lt_iff_toInt_lt] at h1 h2
  have e0 : (0 : Int32).toInt = 0 := rfl
  have e1 : (65535 : Int32).toInt = 65535 := rfl
  rw [e0] at h1
  rw [e1] at h2
  have l0 : (lob x).toInt = (x >>> (0 &&& 31)).toInt8.toInt32.toInt := rfl
  have l8 : (hib x).toInt = (x >>> (8 &&& 31)).toInt8.toInt32.toInt := rfl
  simp only [Nat.reducePow] at *
  have v0 : ((lob x &&& 255) <<< (0 &&& 31)).toInt = x.toInt % 256 := by omega
  have v8 : ((hib x &&& 255) <<< (8 &&& 31)).toInt = x.toInt / 256 * 256 := by omega
  have o := c_or' ((lob x &&& 255) <<< (0 &&& 31)) ((hib x &&& 255) <<< (8 &&& 31)) 8 (by decide) 256 rfl (by omega) (by omega) (by omega)
  have ro := rng32 (((lob x &&& 255) <<< (0 &&& 31)) ||| ((hib x &&& 255) <<< (8 &&& 31)))
  rw [← Int32.toInt_inj]
  omega
theorem ix_shl1 {k : Nat} (h : 2 * k + 1 < 2 ^ 31) : ix k <<< ((1 : Int32) &&& 31) = ix (2 * k) := by
  have a := c_ishl (ix k) 1 1 (by decide)
  have r := rng32 (ix k <<< ((1 : Int32) &&& 31))
  rw [ix_toInt (by omega)] at a
  rw [← Int32.toInt_inj, ix_toInt (by omega)]
  simp only [Nat.reducePow] at *
  omega
theorem ix_shr1 {k : Nat} (h : k < 2 ^ 31) : ix k >>> ((1 : Int32) &&& 31) = ix (k / 2) := by
  have a := c_ishr (ix k) 1 1 (by decide)
  rw [ix_toInt h] at a
  rw [← Int32.toInt_inj, ix_toInt (by omega), a]
  simp only [Nat.reducePow]
  omega
theorem catR {v : Value} (h : v.isRef = true) : v.category = 1 := by rcases ref_cases h with rfl | ⟨_, rfl⟩ <;> rfl
section Start
variable {args : Array Value} {s : State} {t u : Term}
theorem eqv_int {z : Int32} (h : (Cond.eq t (.int z)).value args s none s [] = some true) : t.eval args s none [] s = some (.int z) := by
  obtain ⟨x, y, h1, h2, -, k2⟩ := cmp_v (Or.inl h)
  obtain rfl : y = .int z := Option.some.inj (h2.symm.trans (Term.int_eval z))
  obtain ⟨z', rfl⟩ := k2
  rw [h1, gotT (Cond.eq_ints h1 h2) h]
theorem eqv_ref {y : Addr} (h : (Cond.eq t u).value args s none s [] = some true) (hu : u.eval args s none [] s = some (.ref y)) : t.eval args s none [] s = some (.ref y) := by
  obtain ⟨x, y', h1, h2, -, k2⟩ := cmp_v (Or.inl h)
  obtain rfl : y' = .ref y := Option.some.inj (h2.symm.trans hu)
  rw [h1, gotT (eq_R h1 h2 k2.2 rfl) h]
/-- an array of the start: its length and its members told by the sheet -/
theorem arStart {a : Addr} {ty : FieldType} {z : Int32} {vs : List Value} {ex : Bool} (hf : Fit s) (ev : t.eval args s none [] s = some (.ref a)) (hx : (Cond.arrayOf t ty).value args s none s [] = some true) (hl : (Cond.eq (.length t) (.int z)).value args s none s [] = some true) (hz : z = ix vs.length) (hn : vs.length < 2 ^ 31) (he : ∀ i v, vs[i]? = some v → (Term.elem t (.int (ix i))).eval args s none [] s = some v)
    (hex : ex = true → Exa s s.heap a ("[" ++ ty.toString)) : ArOk s s.heap a ty ex false vs := by
  obtain ⟨c, A⟩ := Arr.start ev hx
  have e1 := eqv_int hl
  have ha : s.arrayAt? a = some c := Arr.fin (Vm.Alike.refl _) A
  have h31 : c.slots.size < 2 ^ 31 := by
    simp only [Term.eval, ev, ha, Option.bind_eq_bind, Option.bind_some] at e1
    by_cases q : c.slots.size < 2 ^ 31
    · exact q
    · simp [q] at e1
  rw [len_f ev ha h31] at e1
  have hs : c.slots.size = vs.length := by
    have e2 : c.slots.size.toInt32 = z := by injection (Option.some.inj e1)
    exact ix_eq h31 hn (e2.trans hz)
  have hel : ∀ i v, vs[i]? = some v → c.slots[i]? = some v := fun i v hv => by
    have li : i < vs.length := (List.getElem?_eq_some_iff.mp hv).1
    have q := (elem_in (he i v hv) ev (Term.int_eval _) A.1).2
    rwa [ix_nat (by omega)] at q
  refine ⟨c, A, ?_, hn, fun v hv => ?_, hex, fun q => nomatch q⟩
  · apply List.ext_getElem?
    intro i
    by_cases li : i < vs.length
    · rw [Array.getElem?_toList, List.getElem?_eq_getElem li]
      exact hel i _ (List.getElem?_eq_getElem li)
    · rw [List.getElem?_eq_none (by simp; omega), List.getElem?_eq_none (by omega)]
  · obtain ⟨i, hi⟩ := List.getElem?_of_mem hv
    have li : i < vs.length := (List.getElem?_eq_some_iff.mp hi).1
    have q := elem_fits (j := ix i) hf A (by rw [ix_nat (by omega)]; rintro (u | u); exact ix_nn (by omega) u; omega) (by rw [ix_nat (by omega)]; exact hel i v hi)
    exact q
end Start
def Ws (W : Wd) : Prop := (∀ d ∈ tables_1, d.before (wA W) (wZ W) = true) ∧ (∃ cs : Int32, Sta (wZ W) (wZ W).heap "java/lang/String" "COMPACT_STRINGS" "Z" (.int cs) ∧ ¬ cs = 0) ∧ (∃ fm : Value, Sta (wZ W) (wZ W).heap "jdk/internal/util/Preconditions" "SIOOBE_FORMATTER" "Ljava/util/function/BiFunction;" (fm) ∧ fm.isRef = true) ∧ Sta (wZ W) (wZ W).heap "java/lang/StringUTF16" "$assertionsDisabled" "Z" (.int 1) ∧ Sta (wZ W) (wZ W).heap "java/lang/StringUTF16" "HI_BYTE_SHIFT" "I" (.int 0) ∧ Sta (wZ W) (wZ W).heap "java/lang/StringUTF16" "LO_BYTE_SHIFT" "I" (.int 8)
theorem st_compact {W : Wd} (hw : Ws W) : (∃ cs : Int32, Sta (wZ W) (wZ W).heap "java/lang/String" "COMPACT_STRINGS" "Z" (.int cs) ∧ ¬ cs = 0) := hw.2.1
theorem st_fmt {W : Wd} (hw : Ws W) : (∃ fm : Value, Sta (wZ W) (wZ W).heap "jdk/internal/util/Preconditions" "SIOOBE_FORMATTER" "Ljava/util/function/BiFunction;" (fm) ∧ fm.isRef = true) := hw.2.2.1
theorem st_asr {W : Wd} (hw : Ws W) : Sta (wZ W) (wZ W).heap "java/lang/StringUTF16" "$assertionsDisabled" "Z" (.int 1) := hw.2.2.2.1
theorem st_hi {W : Wd} (hw : Ws W) : Sta (wZ W) (wZ W).heap "java/lang/StringUTF16" "HI_BYTE_SHIFT" "I" (.int 0) := hw.2.2.2.2.1
theorem st_lo {W : Wd} (hw : Ws W) : Sta (wZ W) (wZ W).heap "java/lang/StringUTF16" "LO_BYTE_SHIFT" "I" (.int 8) := hw.2.2.2.2.2
abbrev oStr (r : Bool) (a : Addr) (f0 : Value) (f1 : Value) : En := (a, r, .inl ("java/lang/String", [("java/lang/String", "value", "[B", f0), ("java/lang/String", "coder", "B", f1)]))
theorem d_method_2_0 : Dc method_2_code 0 (.iload_n 0) 1 1 := ⟨by decide +kernel, rfl⟩
theorem d_method_2_1 : Dc method_2_code 1 (.ldc 7) 2 3 := ⟨by decide +kernel, rfl⟩
theorem w_5 {W : Wd} (hw : Ws W) : Wok W (Jvm.Cond.constant "com/example/fieldwright/fieldwright/FieldIsControlTagPinLaw" (7 : Nat) (65536 : Int32)) := hw.1 _ (List.mem_of_getElem? (i := 5) rfl)
theorem d_method_2_3 : Dc method_2_code 3 (.iand) 1 4 := ⟨by decide +kernel, rfl⟩
theorem d_method_2_4 : Bj method_2_code 4 (.ifCond .eq 15) 15 7 19 := ⟨by decide +kernel, rfl, by decide, rfl⟩
theorem d_method_2_19 : Dc method_2_code 19 (.iload_n 0) 1 20 := ⟨by decide +kernel, rfl⟩
theorem d_method_2_20 : Dc method_2_code 20 (.ldc 8) 2 22 := ⟨by decide +kernel, rfl⟩
theorem w_6 {W : Wd} (hw : Ws W) : Wok W (Jvm.Cond.constant "com/example/fieldwright/fieldwright/FieldIsControlTagPinLaw" (8 : Nat) (65535 : Int32)) := hw.1 _ (List.mem_of_getElem? (i := 6) rfl)
theorem d_method_2_22 : Dc method_2_code 22 (.iand) 1 23 := ⟨by decide +kernel, rfl⟩
theorem d_method_2_23 : Dc method_2_code 23 (.i2c) 1 24 := ⟨by decide +kernel, rfl⟩
theorem d_method_2_24 : Dc method_2_code 24 (.ireturn) 1 25 := ⟨by decide +kernel, rfl⟩
theorem d_method_2_7 : Dc method_2_code 7 (.bipush 46) 2 9 := ⟨by decide +kernel, rfl⟩
theorem lb_46 : (Int8.ofInt 46).toInt32 = 46 := by decide
theorem d_method_2_9 : Dc method_2_code 9 (.iload_n 0) 1 10 := ⟨by decide +kernel, rfl⟩
theorem d_method_2_10 : Dc method_2_code 10 (.ldc 8) 2 12 := ⟨by decide +kernel, rfl⟩
theorem d_method_2_12 : Dc method_2_code 12 (.iand) 1 13 := ⟨by decide +kernel, rfl⟩
theorem d_method_2_13 : Dc method_2_code 13 (.bipush 14) 2 15 := ⟨by decide +kernel, rfl⟩
theorem lb_14 : (Int8.ofInt 14).toInt32 = 14 := by decide
theorem d_method_2_15 : Dc method_2_code 15 (.irem) 1 16 := ⟨by decide +kernel, rfl⟩
theorem d_method_2_16 : Dc method_2_code 16 (.iadd) 1 17 := ⟨by decide +kernel, rfl⟩
theorem d_method_2_17 : Dc method_2_code 17 (.i2c) 1 18 := ⟨by decide +kernel, rfl⟩
theorem d_method_2_18 : Dc method_2_code 18 (.ireturn) 1 19 := ⟨by decide +kernel, rfl⟩
def M_draw : Mt := (⟨"com/example/fieldwright/fieldwright/FieldIsControlTagPinLaw", "draw", "(I)C"⟩, method_2_code, 1, some .char, ⟨0, 0, 0, 0⟩)
theorem nm_M_draw : mN M_draw = ⟨"com/example/fieldwright/fieldwright/FieldIsControlTagPinLaw", "draw", "(I)C"⟩ := by delta mN M_draw; rfl
theorem pf_com_example_fieldwright_fieldwright_FieldIsControlTagPinLaw : plainName "com/example/fieldwright/fieldwright/FieldIsControlTagPinLaw" = true := by first | (simp [plainName, overriddenIn]; done) | decide +kernel
set_option maxRecDepth 65536 in
set_option maxHeartbeats 40000000 in
theorem rm_draw {W : Wd} (hw : Ws W) (x : Int32) (F : List En) : Ct W M_draw [.int x] F (fun v H' => (∃ c : Int32, v = some (.int c) ∧ H' = F ∧ ¬ c < 0 ∧ ¬ 65535 < c)) := by
  refine Ct.intro (L0 := [.val (.int x)]) (plainFor_of_name pf_com_example_fieldwright_fieldwright_FieldIsControlTagPinLaw) rfl (fun K => ?_)
  refine Wp.iloadN rfl d_method_2_0 ?_
  refine Wp.ldcI nm_M_draw (w_5 hw) d_method_2_1 ?_
  refine Wp.iand (z := (x &&& 65536)) rfl d_method_2_3 ?_
  by_cases b4_1 : (x &&& 65536) = 0
  · refine Wp.ifT (teq b4_1).1 d_method_2_4 ?_
    refine Wp.iloadN rfl d_method_2_19 ?_
    refine Wp.ldcI nm_M_draw (w_6 hw) d_method_2_20 ?_
    refine Wp.iand (z := (x &&& 65535)) rfl d_method_2_22 ?_
    refine Wp.i2c (z := ((x &&& 65535).toUInt32.toUInt16.toUInt32.toInt32)) rfl d_method_2_23 ?_
    refine Wp.iretN (z := nar .char ((x &&& 65535).toUInt32.toUInt16.toUInt32.toInt32)) (by simp) rfl rfl d_method_2_24 (by decide) (by decide) ?_
    exact ⟨nar .char ((x &&& 65535).toUInt32.toUInt16.toUInt32.toInt32), rfl, rfl, (rngC _).1, (rngC _).2⟩
  · refine Wp.ifF (feq b4_1).1 d_method_2_4 ?_
    refine Wp.bipush lb_46 d_method_2_7 ?_
    refine Wp.iloadN rfl d_method_2_9 ?_
    refine Wp.ldcI nm_M_draw (w_6 hw) d_method_2_10 ?_
    refine Wp.iand (z := (x &&& 65535)) rfl d_method_2_12 ?_
    refine Wp.bipush lb_14 d_method_2_13 ?_
    refine Wp.irem (z := ((x &&& 65535) % 14)) (by decide) rfl d_method_2_15 ?_
    refine Wp.iadd (z := (46 + ((x &&& 65535) % 14))) rfl d_method_2_16 ?_
    refine Wp.i2c (z := ((46 + ((x &&& 65535) % 14)).toUInt32.toUInt16.toUInt32.toInt32)) rfl d_method_2_17 ?_
    refine Wp.iretN (z := nar .char ((46 + ((x &&& 65535) % 14)).toUInt32.toUInt16.toUInt32.toInt32)) (by simp) rfl rfl d_method_2_18 (by decide) (by decide) ?_
    exact ⟨nar .char ((46 + ((x &&& 65535) % 14)).toUInt32.toUInt16.toUInt32.toInt32), rfl, rfl, (rngC _).1, (rngC _).2⟩
theorem d_method_3_0 : Dc method_3_code 0 (.iload_n 0) 1 1 := ⟨by decide +kernel, rfl⟩
theorem d_method_3_1 : Dc method_3_code 1 (.bipush 48) 2 3 := ⟨by decide +kernel, rfl⟩
theorem lb_48 : (Int8.ofInt 48).toInt32 = 48 := by decide
theorem d_method_3_3 : Bj method_3_code 3 (.if_icmp .lt 13) 13 6 16 := ⟨by decide +kernel, rfl, by decide, rfl⟩
theorem d_method_3_16 : Dc method_3_code 16 (.iconst 0) 1 17 := ⟨by decide +kernel, rfl⟩
theorem lc_0 : Int32.ofInt 0 = 0 := by decide
theorem d_method_3_17 : Dc method_3_code 17 (.ireturn) 1 18 := ⟨by decide +kernel, rfl⟩
theorem d_method_3_6 : Dc method_3_code 6 (.iload_n 0) 1 7 := ⟨by decide +kernel, rfl⟩
theorem d_method_3_7 : Dc method_3_code 7 (.bipush 57) 2 9 := ⟨by decide +kernel, rfl⟩
theorem lb_57 : (Int8.ofInt 57).toInt32 = 57 := by decide
theorem d_method_3_9 : Bj method_3_code 9 (.if_icmp .gt 7) 7 12 16 := ⟨by decide +kernel, rfl, by decide, rfl⟩
theorem d_method_3_12 : Dc method_3_code 12 (.iconst 1) 1 13 := ⟨by decide +kernel, rfl⟩
theorem lc_1 : Int32.ofInt 1 = 1 := by decide
theorem d_method_3_13 : Bj method_3_code 13 (.goto 4) 4 16 17 := ⟨by decide +kernel, rfl, by decide, rfl⟩
def M_isd : Mt := (⟨"com/example/fieldwright/fieldwright/FieldIsControlTagPinLaw", "isDigit", "(C)Z"⟩, method_3_code, 1, some .boolean, ⟨0, 0, 0, 0⟩)
theorem nm_M_isd : mN M_isd = ⟨"com/example/fieldwright/fieldwright/FieldIsControlTagPinLaw", "isDigit", "(C)Z"⟩ := by delta mN M_isd; rfl
set_option maxRecDepth 65536 in
set_option maxHeartbeats 40000000 in
theorem rm_isd {W : Wd} (hw : Ws W) (c : Int32) (F : List En) : Ct W M_isd [.int c] F (fun v H' => (v = some (.int 1) ∧ H' = F ∧ ¬ c < 48 ∧ ¬ 57 < c) ∨ (v = some (.int 0) ∧ H' = F ∧ (c < 48 ∨ 57 < c))) := by
  refine Ct.intro (L0 := [.val (.int c)]) (plainFor_of_name pf_com_example_fieldwright_fieldwright_FieldIsControlTagPinLaw) rfl (fun K => ?_)
  refine Wp.iloadN rfl d_method_3_0 ?_
  refine Wp.bipush lb_48 d_method_3_1 ?_
  by_cases b3_1 : c < 48
  · refine Wp.icT (tlt b3_1).1 d_method_3_3 ?_
    refine Wp.iconst lc_0 d_method_3_16 ?_
    refine Wp.iretN (z := 0) (by simp) rfl (by decide) d_method_3_17 (by decide) (by decide) ?_
    exact Or.inr (⟨rfl, rfl, (Or.inl b3_1)⟩)
  · refine Wp.icF (flt b3_1).1 d_method_3_3 ?_
    refine Wp.iloadN rfl d_method_3_6 ?_
    refine Wp.bipush lb_57 d_method_3_7 ?_
    by_cases b9_2 : 57 < c
    · refine Wp.icT (tlt b9_2).2.2.1 d_method_3_9 ?_
      refine Wp.iconst lc_0 d_method_3_16 ?_
      refine Wp.iretN (z := 0) (by simp) rfl (by decide) d_method_3_17 (by decide) (by decide) ?_
      exact Or.inr (⟨rfl, rfl, (Or.inr b9_2)⟩)
    · refine Wp.icF (flt b9_2).2.2.1 d_method_3_9 ?_
      refine Wp.iconst lc_1 d_method_3_12 ?_
      refine Wp.goto d_method_3_13 ?_
      refine Wp.iretN (z := 1) (by simp) rfl (by decide) d_method_3_17 (by decide) (by decide) ?_
      exact Or.inl ⟨rfl, rfl, b3_1, b9_2⟩
theorem d_jdk_52_4_0 : Dc jdk_52_method_4_code 0 (.getstatic 44) 3 3 := ⟨by decide +kernel, rfl⟩
theorem w_78 {W : Wd} (hw : Ws W) : Wok W (Jvm.Cond.fieldLink "java/lang/StringUTF16" (44 : Nat) "java/lang/StringUTF16" "$assertionsDisabled" "Z") := hw.1 _ (List.mem_of_getElem? (i := 78) rfl)
theorem d_jdk_52_4_3 : Bj jdk_52_method_4_code 3 (.ifCond .ne 25) 25 6 28 := ⟨by decide +kernel, rfl, by decide, rfl⟩
theorem d_jdk_52_4_28 : Dc jdk_52_method_4_code 28 (.iload_n 1) 1 29 := ⟨by decide +kernel, rfl⟩
theorem d_jdk_52_4_29 : Dc jdk_52_method_4_code 29 (.iconst 1) 1 30 := ⟨by decide +kernel, rfl⟩
theorem d_jdk_52_4_30 : Dc jdk_52_method_4_code 30 (.ishl) 1 31 := ⟨by decide +kernel, rfl⟩
theorem d_jdk_52_4_31 : Dc jdk_52_method_4_code 31 (.istore_n 1) 1 32 := ⟨by decide +kernel, rfl⟩
theorem d_jdk_52_4_32 : Dc jdk_52_method_4_code 32 (.aload_n 0) 1 33 := ⟨by decide +kernel, rfl⟩
theorem d_jdk_52_4_33 : Dc jdk_52_method_4_code 33 (.iload_n 1) 1 34 := ⟨by decide +kernel, rfl⟩
theorem d_jdk_52_4_34 : Dc jdk_52_method_4_code 34 (.iinc 1 1) 3 37 := ⟨by decide +kernel, rfl⟩
theorem d_jdk_52_4_37 : Dc jdk_52_method_4_code 37 (.iload_n 2) 1 38 := ⟨by decide +kernel, rfl⟩
theorem d_jdk_52_4_38 : Dc jdk_52_method_4_code 38 (.getstatic 59) 3 41 := ⟨by decide +kernel, rfl⟩
theorem w_79 {W : Wd} (hw : Ws W) : Wok W (Jvm.Cond.fieldLink "java/lang/StringUTF16" (59 : Nat) "java/lang/StringUTF16" "HI_BYTE_SHIFT" "I") := hw.1 _ (List.mem_of_getElem? (i := 79) rfl)
theorem d_jdk_52_4_41 : Dc jdk_52_method_4_code 41 (.ishr) 1 42 := ⟨by decide +kernel, rfl⟩
theorem d_jdk_52_4_42 : Dc jdk_52_method_4_code 42 (.i2b) 1 43 := ⟨by decide +kernel, rfl⟩
theorem d_jdk_52_4_43 : Dc jdk_52_method_4_code 43 (.bastore) 1 44 := ⟨by decide +kernel, rfl⟩
theorem d_jdk_52_4_44 : Dc jdk_52_method_4_code 44 (.aload_n 0) 1 45 := ⟨by decide +kernel, rfl⟩
theorem d_jdk_52_4_45 : Dc jdk_52_method_4_code 45 (.iload_n 1) 1 46 := ⟨by decide +kernel, rfl⟩
theorem d_jdk_52_4_46 : Dc jdk_52_method_4_code 46 (.iload_n 2) 1 47 := ⟨by decide +kernel, rfl⟩
theorem d_jdk_52_4_47 : Dc jdk_52_method_4_code 47 (.getstatic 63) 3 50 := ⟨by decide +kernel, rfl⟩
theorem w_80 {W : Wd} (hw : Ws W) : Wok W (Jvm.Cond.fieldLink "java/lang/StringUTF16" (63 : Nat) "java/lang/StringUTF16" "LO_BYTE_SHIFT" "I") := hw.1 _ (List.mem_of_getElem? (i := 80) rfl)
theorem d_jdk_52_4_50 : Dc jdk_52_method_4_code 50 (.ishr) 1 51 := ⟨by decide +kernel, rfl⟩
theorem d_jdk_52_4_51 : Dc jdk_52_method_4_code 51 (.i2b) 1 52 := ⟨by decide +kernel, rfl⟩
theorem d_jdk_52_4_52 : Dc jdk_52_method_4_code 52 (.bastore) 1 53 := ⟨by decide +kernel, rfl⟩
theorem d_jdk_52_4_53 : Dc jdk_52_method_4_code 53 (.return_) 1 54 := ⟨by decide +kernel, rfl⟩
def M_pc0 : Mt := (⟨"java/lang/StringUTF16", "putChar", "([BII)V"⟩, jdk_52_method_4_code, 3, none, ⟨0, 0, 0, 0⟩)
theorem nm_M_pc0 : mN M_pc0 = ⟨"java/lang/StringUTF16", "putChar", "([BII)V"⟩ := by delta mN M_pc0; rfl
theorem pf_java_lang_StringUTF16 : plainName "java/lang/StringUTF16" = true := by first | (simp [plainName, overriddenIn]; done) | decide +kernel
set_option maxRecDepth 65536 in
set_option maxHeartbeats 40000000 in
theorem rm_pc0 {W : Wd} (hw : Ws W) (b : Addr) (c : Int32) (x0 : Int32) (x1 : Int32) (x2 : Int32) (x3 : Int32) (x4 : Int32) (x5 : Int32) (F : List En) : Ct W M_pc0 [.ref b, .int 0, .int c] ((eB b [.int x0, .int x1, .int x2, .int x3, .int x4, .int x5]) :: F) (fun v H' => v = none ∧ H' = ((eB b [.int (lob c), .int (hib c), .int x2, .int x3, .int x4, .int x5]) :: F)) := by
  refine Ct.intro (L0 := [.val (.ref b), .val (.int 0), .val (.int c)]) (plainFor_of_name pf_java_lang_StringUTF16) rfl (fun K => ?_)
  refine Wp.getS nm_M_pc0 (w_78 hw) Via.refl (st_asr hw) d_jdk_52_4_0 ?_
  refine Wp.ifT (by decide) d_jdk_52_4_3 ?_
  refine Wp.iloadN rfl d_jdk_52_4_28 ?_
  refine Wp.iconst lc_1 d_jdk_52_4_29 ?_
  refine Wp.ishl (z := 0) (by decide) d_jdk_52_4_30 ?_
  refine Wp.istoreN (L' := [.val (.ref b), .val (.int 0), .val (.int c)]) rfl d_jdk_52_4_31 ?_
  refine Wp.aloadN rfl rfl d_jdk_52_4_32 ?_
  refine Wp.iloadN rfl d_jdk_52_4_33 ?_
  refine Wp.iinc (z := 1) (L' := [.val (.ref b), .val (.int 1), .val (.int c)]) rfl (by decide) rfl d_jdk_52_4_34 ?_
  refine Wp.iloadN rfl d_jdk_52_4_37 ?_
  refine Wp.getS nm_M_pc0 (w_79 hw) Via.refl (st_hi hw) d_jdk_52_4_38 ?_
  refine Wp.ishr (z := (c >>> (0 &&& 31))) rfl d_jdk_52_4_41 ?_
  refine Wp.i2b (z := (lob c)) rfl d_jdk_52_4_42 ?_
  refine Wp.bastore (z := (lob c)) 0 0 rfl (by decide) (by decide) (show 0 < 6 by decide) (by8_by8 _) d_jdk_52_4_43 (H' := ((eB b [.int (lob c), .int x1, .int x2, .int x3, .int x4, .int x5]) :: F)) rfl ?_
  refine Wp.aloadN rfl rfl d_jdk_52_4_44 ?_
  refine Wp.iloadN rfl d_jdk_52_4_45 ?_
  refine Wp.iloadN rfl d_jdk_52_4_46 ?_
  refine Wp.getS nm_M_pc0 (w_80 hw) Via.refl (st_lo hw) d_jdk_52_4_47 ?_
  refine Wp.ishr (z := (c >>> (8 &&& 31))) rfl d_jdk_52_4_50 ?_
  refine Wp.i2b (z := (hib c)) rfl d_jdk_52_4_51 ?_
  refine Wp.bastore (z := (hib c)) 0 1 rfl (by decide) (by decide) (show 1 < 6 by decide) (by8_by8 _) d_jdk_52_4_52 (H' := ((eB b [.int (lob c), .int (hib c), .int x2, .int x3, .int x4, .int x5]) :: F)) rfl ?_
  refine Wp.ret rfl d_jdk_52_4_53 (by decide) (by decide) ?_
  exact ⟨rfl, rfl⟩
theorem d_jdk_52_5_0 : Dc jdk_52_method_5_code 0 (.getstatic 44) 3 3 := ⟨by decide +kernel, rfl⟩
theorem d_jdk_52_5_3 : Bj jdk_52_method_5_code 3 (.ifCond .ne 25) 25 6 28 := ⟨by decide +kernel, rfl, by decide, rfl⟩
theorem d_jdk_52_5_28 : Dc jdk_52_method_5_code 28 (.iload_n 1) 1 29 := ⟨by decide +kernel, rfl⟩
theorem d_jdk_52_5_29 : Dc jdk_52_method_5_code 29 (.iconst 1) 1 30 := ⟨by decide +kernel, rfl⟩
theorem d_jdk_52_5_30 : Dc jdk_52_method_5_code 30 (.ishl) 1 31 := ⟨by decide +kernel, rfl⟩
theorem d_jdk_52_5_31 : Dc jdk_52_method_5_code 31 (.istore_n 1) 1 32 := ⟨by decide +kernel, rfl⟩
theorem d_jdk_52_5_32 : Dc jdk_52_method_5_code 32 (.aload_n 0) 1 33 := ⟨by decide +kernel, rfl⟩
theorem d_jdk_52_5_33 : Dc jdk_52_method_5_code 33 (.iload_n 1) 1 34 := ⟨by decide +kernel, rfl⟩
theorem d_jdk_52_5_34 : Dc jdk_52_method_5_code 34 (.iinc 1 1) 3 37 := ⟨by decide +kernel, rfl⟩
theorem d_jdk_52_5_37 : Dc jdk_52_method_5_code 37 (.baload) 1 38 := ⟨by decide +kernel, rfl⟩
theorem d_jdk_52_5_38 : Dc jdk_52_method_5_code 38 (.sipush 255) 3 41 := ⟨by decide +kernel, rfl⟩
theorem ls_255 : (Int16.ofInt 255).toInt32 = 255 := by decide
theorem d_jdk_52_5_41 : Dc jdk_52_method_5_code 41 (.iand) 1 42 := ⟨by decide +kernel, rfl⟩
theorem d_jdk_52_5_42 : Dc jdk_52_method_5_code 42 (.getstatic 59) 3 45 := ⟨by decide +kernel, rfl⟩
theorem d_jdk_52_5_45 : Dc jdk_52_method_5_code 45 (.ishl) 1 46 := ⟨by decide +kernel, rfl⟩
theorem d_jdk_52_5_46 : Dc jdk_52_method_5_code 46 (.aload_n 0) 1 47 := ⟨by decide +kernel, rfl⟩
theorem d_jdk_52_5_47 : Dc jdk_52_method_5_code 47 (.iload_n 1) 1 48 := ⟨by decide +kernel, rfl⟩
theorem d_jdk_52_5_48 : Dc jdk_52_method_5_code 48 (.baload) 1 49 := ⟨by decide +kernel, rfl⟩
theorem d_jdk_52_5_49 : Dc jdk_52_method_5_code 49 (.sipush 255) 3 52 := ⟨by decide +kernel, rfl⟩
theorem d_jdk_52_5_52 : Dc jdk_52_method_5_code 52 (.iand) 1 53 := ⟨by decide +kernel, rfl⟩
theorem d_jdk_52_5_53 : Dc jdk_52_method_5_code 53 (.getstatic 63) 3 56 := ⟨by decide +kernel, rfl⟩
theorem d_jdk_52_5_56 : Dc jdk_52_method_5_code 56 (.ishl) 1 57 := ⟨by decide +kernel, rfl⟩
theorem d_jdk_52_5_57 : Dc jdk_52_method_5_code 57 (.ior) 1 58 := ⟨by decide +kernel, rfl⟩
theorem d_jdk_52_5_58 : Dc jdk_52_method_5_code 58 (.i2c) 1 59 := ⟨by decide +kernel, rfl⟩
theorem d_jdk_52_5_59 : Dc jdk_52_method_5_code 59 (.ireturn) 1 60 := ⟨by decide +kernel, rfl⟩
def M_gc0 : Mt := (⟨"java/lang/StringUTF16", "getChar", "([BI)C"⟩, jdk_52_method_5_code, 2, some .char, ⟨0, 0, 0, 0⟩)
theorem nm_M_gc0 : mN M_gc0 = ⟨"java/lang/StringUTF16", "getChar", "([BI)C"⟩ := by delta mN M_gc0; rfl
set_option maxRecDepth 65536 in
set_option maxHeartbeats 40000000 in
theorem rm_gc0 {W : Wd} (hw : Ws W) (b : Addr) (c : Int32) (x2 : Int32) (x3 : Int32) (x4 : Int32) (x5 : Int32) (F : List En) (h1 : ¬ c < 0) (h2 : ¬ 65535 < c) : Ct W M_gc0 [.ref b, .int 0] ((eB b [.int (lob c), .int (hib c), .int x2, .int x3, .int x4, .int x5]) :: F) (fun v H' => v = some (.int c) ∧ H' = ((eB b [.int (lob c), .int (hib c), .int x2, .int x3, .int x4, .int x5]) :: F)) := by
  refine Ct.intro (L0 := [.val (.ref b), .val (.int 0)]) (plainFor_of_name pf_java_lang_StringUTF16) rfl (fun K => ?_)
  refine Wp.getS nm_M_gc0 (w_78 hw) Via.refl (st_asr hw) d_jdk_52_5_0 ?_
  refine Wp.ifT (by decide) d_jdk_52_5_3 ?_
  refine Wp.iloadN rfl d_jdk_52_5_28 ?_
  refine Wp.iconst lc_1 d_jdk_52_5_29 ?_
  refine Wp.ishl (z := 0) (by decide) d_jdk_52_5_30 ?_
  refine Wp.istoreN (L' := [.val (.ref b), .val (.int 0)]) rfl d_jdk_52_5_31 ?_
  refine Wp.aloadN rfl rfl d_jdk_52_5_32 ?_
  refine Wp.iloadN rfl d_jdk_52_5_33 ?_
  refine Wp.iinc (z := 1) (L' := [.val (.ref b), .val (.int 1)]) rfl (by decide) rfl d_jdk_52_5_34 ?_
  refine Wp.baload 0 0 rfl (by decide) (by decide) rfl d_jdk_52_5_37 ?_
  refine Wp.sipush ls_255 d_jdk_52_5_38 ?_
  refine Wp.iand (z := ((lob c) &&& 255)) rfl d_jdk_52_5_41 ?_
  refine Wp.getS nm_M_gc0 (w_79 hw) Via.refl (st_hi hw) d_jdk_52_5_42 ?_
  refine Wp.ishl (z := (((lob c) &&& 255) <<< (0 &&& 31))) rfl d_jdk_52_5_45 ?_
  refine Wp.aloadN rfl rfl d_jdk_52_5_46 ?_
  refine Wp.iloadN rfl d_jdk_52_5_47 ?_
  refine Wp.baload 0 1 rfl (by decide) (by decide) rfl d_jdk_52_5_48 ?_
  refine Wp.sipush ls_255 d_jdk_52_5_49 ?_
  refine Wp.iand (z := ((hib c) &&& 255)) rfl d_jdk_52_5_52 ?_
  refine Wp.getS nm_M_gc0 (w_80 hw) Via.refl (st_lo hw) d_jdk_52_5_53 ?_
  refine Wp.ishl (z := (((hib c) &&& 255) <<< (8 &&& 31))) rfl d_jdk_52_5_56 ?_
  refine Wp.ior (z := c) (u16_back h1 h2) d_jdk_52_5_57 ?_
  refine Wp.i2c (z := c) (i2cC_id h1 h2) d_jdk_52_5_58 ?_
  refine Wp.iretN (z := c) (by simp) rfl (narC_id h1 h2) d_jdk_52_5_59 (by decide) (by decide) ?_
  exact ⟨rfl, rfl⟩
def M_pc1 : Mt := (⟨"java/lang/StringUTF16", "putChar", "([BII)V"⟩, jdk_52_method_4_code, 3, none, ⟨0, 0, 0, 0⟩)
theorem nm_M_pc1 : mN M_pc1 = ⟨"java/lang/StringUTF16", "putChar", "([BII)V"⟩ := by delta mN M_pc1; rfl
set_option maxRecDepth 65536 in
set_option maxHeartbeats 40000000 in
theorem rm_pc1 {W : Wd} (hw : Ws W) (b : Addr) (c : Int32) (x0 : Int32) (x1 : Int32) (x2 : Int32) (x3 : Int32) (x4 : Int32) (x5 : Int32) (F : List En) : Ct W M_pc1 [.ref b, .int 1, .int c] ((eB b [.int x0, .int x1, .int x2, .int x3, .int x4, .int x5]) :: F) (fun v H' => v = none ∧ H' = ((eB b [.int x0, .int x1, .int (lob c), .int (hib c), .int x4, .int x5]) :: F)) := by
  refine Ct.intro (L0 := [.val (.ref b), .val (.int 1), .val (.int c)]) (plainFor_of_name pf_java_lang_StringUTF16) rfl (fun K => ?_)
  refine Wp.getS nm_M_pc1 (w_78 hw) Via.refl (st_asr hw) d_jdk_52_4_0 ?_
  refine Wp.ifT (by decide) d_jdk_52_4_3 ?_
  refine Wp.iloadN rfl d_jdk_52_4_28 ?_
  refine Wp.iconst lc_1 d_jdk_52_4_29 ?_
  refine Wp.ishl (z := 2) (by decide) d_jdk_52_4_30 ?_
  refine Wp.istoreN (L' := [.val (.ref b), .val (.int 2), .val (.int c)]) rfl d_jdk_52_4_31 ?_
  refine Wp.aloadN rfl rfl d_jdk_52_4_32 ?_
  refine Wp.iloadN rfl d_jdk_52_4_33 ?_
  refine Wp.iinc (z := 3) (L' := [.val (.ref b), .val (.int 3), .val (.int c)]) rfl (by decide) rfl d_jdk_52_4_34 ?_
  refine Wp.iloadN rfl d_jdk_52_4_37 ?_
  refine Wp.getS nm_M_pc1 (w_79 hw) Via.refl (st_hi hw) d_jdk_52_4_38 ?_
  refine Wp.ishr (z := (c >>> (0 &&& 31))) rfl d_jdk_52_4_41 ?_
  refine Wp.i2b (z := (lob c)) rfl d_jdk_52_4_42 ?_
  refine Wp.bastore (z := (lob c)) 0 2 rfl (by decide) (by decide) (show 2 < 6 by decide) (by8_by8 _) d_jdk_52_4_43 (H' := ((eB b [.int x0, .int x1, .int (lob c), .int x3, .int x4, .int x5]) :: F)) rfl ?_
  refine Wp.aloadN rfl rfl d_jdk_52_4_44 ?_
  refine Wp.iloadN rfl d_jdk_52_4_45 ?_
  refine Wp.iloadN rfl d_jdk_52_4_46 ?_
  refine Wp.getS nm_M_pc1 (w_80 hw) Via.refl (st_lo hw) d_jdk_52_4_47 ?_
  refine Wp.ishr (z := (c >>> (8 &&& 31))) rfl d_jdk_52_4_50 ?_
  refine Wp.i2b (z := (hib c)) rfl d_jdk_52_4_51 ?_
  refine Wp.bastore (z := (hib c)) 0 3 rfl (by decide) (by decide) (show 3 < 6 by decide) (by8_by8 _) d_jdk_52_4_52 (H' := ((eB b [.int x0, .int x1, .int (lob c), .int (hib c), .int x4, .int x5]) :: F)) rfl ?_
  refine Wp.ret rfl d_jdk_52_4_53 (by decide) (by decide) ?_
  exact ⟨rfl, rfl⟩
def M_gc1 : Mt := (⟨"java/lang/StringUTF16", "getChar", "([BI)C"⟩, jdk_52_method_5_code, 2, some .char, ⟨0, 0, 0, 0⟩)
theorem nm_M_gc1 : mN M_gc1 = ⟨"java/lang/StringUTF16", "getChar", "([BI)C"⟩ := by delta mN M_gc1; rfl
set_option maxRecDepth 65536 in
set_option maxHeartbeats 40000000 in
theorem rm_gc1 {W : Wd} (hw : Ws W) (b : Addr) (c : Int32) (x0 : Int32) (x1 : Int32) (x4 : Int32) (x5 : Int32) (F : List En) (h1 : ¬ c < 0) (h2 : ¬ 65535 < c) : Ct W M_gc1 [.ref b, .int 1] ((eB b [.int x0, .int x1, .int (lob c), .int (hib c), .int x4, .int x5]) :: F) (fun v H' => v = some (.int c) ∧ H' = ((eB b [.int x0, .int x1, .int (lob c), .int (hib c), .int x4, .int x5]) :: F)) := by
  refine Ct.intro (L0 := [.val (.ref b), .val (.int 1)]) (plainFor_of_name pf_java_lang_StringUTF16) rfl (fun K => ?_)
  refine Wp.getS nm_M_gc1 (w_78 hw) Via.refl (st_asr hw) d_jdk_52_5_0 ?_
  refine Wp.ifT (by decide) d_jdk_52_5_3 ?_
  refine Wp.iloadN rfl d_jdk_52_5_28 ?_
  refine Wp.iconst lc_1 d_jdk_52_5_29 ?_
  refine Wp.ishl (z := 2) (by decide) d_jdk_52_5_30 ?_
  refine Wp.istoreN (L' := [.val (.ref b), .val (.int 2)]) rfl d_jdk_52_5_31 ?_
  refine Wp.aloadN rfl rfl d_jdk_52_5_32 ?_
  refine Wp.iloadN rfl d_jdk_52_5_33 ?_
  refine Wp.iinc (z := 3) (L' := [.val (.ref b), .val (.int 3)]) rfl (by decide) rfl d_jdk_52_5_34 ?_
  refine Wp.baload 0 2 rfl (by decide) (by decide) rfl d_jdk_52_5_37 ?_
  refine Wp.sipush ls_255 d_jdk_52_5_38 ?_
  refine Wp.iand (z := ((lob c) &&& 255)) rfl d_jdk_52_5_41 ?_
  refine Wp.getS nm_M_gc1 (w_79 hw) Via.refl (st_hi hw) d_jdk_52_5_42 ?_
  refine Wp.ishl (z := (((lob c) &&& 255) <<< (0 &&& 31))) rfl d_jdk_52_5_45 ?_
  refine Wp.aloadN rfl rfl d_jdk_52_5_46 ?_
  refine Wp.iloadN rfl d_jdk_52_5_47 ?_
  refine Wp.baload 0 3 rfl (by decide) (by decide) rfl d_jdk_52_5_48 ?_
  refine Wp.sipush ls_255 d_jdk_52_5_49 ?_
  refine Wp.iand (z := ((hib c) &&& 255)) rfl d_jdk_52_5_52 ?_
  refine Wp.getS nm_M_gc1 (w_80 hw) Via.refl (st_lo hw) d_jdk_52_5_53 ?_
  refine Wp.ishl (z := (((hib c) &&& 255) <<< (8 &&& 31))) rfl d_jdk_52_5_56 ?_
  refine Wp.ior (z := c) (u16_back h1 h2) d_jdk_52_5_57 ?_
  refine Wp.i2c (z := c) (i2cC_id h1 h2) d_jdk_52_5_58 ?_
  refine Wp.iretN (z := c) (by simp) rfl (narC_id h1 h2) d_jdk_52_5_59 (by decide) (by decide) ?_
  exact ⟨rfl, rfl⟩
def M_pc2 : Mt := (⟨"java/lang/StringUTF16", "putChar", "([BII)V"⟩, jdk_52_method_4_code, 3, none, ⟨0, 0, 0, 0⟩)
theorem nm_M_pc2 : mN M_pc2 = ⟨"java/lang/StringUTF16", "putChar", "([BII)V"⟩ := by delta mN M_pc2; rfl
set_option maxRecDepth 65536 in
set_option maxHeartbeats 40000000 in
theorem rm_pc2 {W : Wd} (hw : Ws W) (b : Addr) (c : Int32) (x0 : Int32) (x1 : Int32) (x2 : Int32) (x3 : Int32) (x4 : Int32) (x5 : Int32) (F : List En) : Ct W M_pc2 [.ref b, .int 2, .int c] ((eB b [.int x0, .int x1, .int x2, .int x3, .int x4, .int x5]) :: F) (fun v H' => v = none ∧ H' = ((eB b [.int x0, .int x1, .int x2, .int x3, .int (lob c), .int (hib c)]) :: F)) := by
  refine Ct.intro (L0 := [.val (.ref b), .val (.int 2), .val (.int c)]) (plainFor_of_name pf_java_lang_StringUTF16) rfl (fun K => ?_)
  refine Wp.getS nm_M_pc2 (w_78 hw) Via.refl (st_asr hw) d_jdk_52_4_0 ?_
  refine Wp.ifT (by decide) d_jdk_52_4_3 ?_
  refine Wp.iloadN rfl d_jdk_52_4_28 ?_
  refine Wp.iconst lc_1 d_jdk_52_4_29 ?_
  refine Wp.ishl (z := 4) (by decide) d_jdk_52_4_30 ?_
  refine Wp.istoreN (L' := [.val (.ref b), .val (.int 4), .val (.int c)]) rfl d_jdk_52_4_31 ?_
  refine Wp.aloadN rfl rfl d_jdk_52_4_32 ?_
  refine Wp.iloadN rfl d_jdk_52_4_33 ?_
  refine Wp.iinc (z := 5) (L' := [.val (.ref b), .val (.int 5), .val (.int c)]) rfl (by decide) rfl d_jdk_52_4_34 ?_
  refine Wp.iloadN rfl d_jdk_52_4_37 ?_
  refine Wp.getS nm_M_pc2 (w_79 hw) Via.refl (st_hi hw) d_jdk_52_4_38 ?_
  refine Wp.ishr (z := (c >>> (0 &&& 31))) rfl d_jdk_52_4_41 ?_
  refine Wp.i2b (z := (lob c)) rfl d_jdk_52_4_42 ?_
  refine Wp.bastore (z := (lob c)) 0 4 rfl (by decide) (by decide) (show 4 < 6 by decide) (by8_by8 _) d_jdk_52_4_43 (H' := ((eB b [.int x0, .int x1, .int x2, .int x3, .int (lob c), .int x5]) :: F)) rfl ?_
  refine Wp.aloadN rfl rfl d_jdk_52_4_44 ?_
  refine Wp.iloadN rfl d_jdk_52_4_45 ?_
  refine Wp.iloadN rfl d_jdk_52_4_46 ?_
  refine Wp.getS nm_M_pc2 (w_80 hw) Via.refl (st_lo hw) d_jdk_52_4_47 ?_
  refine Wp.ishr (z := (c >>> (8 &&& 31))) rfl d_jdk_52_4_50 ?_
  refine Wp.i2b (z := (hib c)) rfl d_jdk_52_4_51 ?_
  refine Wp.bastore (z := (hib c)) 0 5 rfl (by decide) (by decide) (show 5 < 6 by decide) (by8_by8 _) d_jdk_52_4_52 (H' := ((eB b [.int x0, .int x1, .int x2, .int x3, .int (lob c), .int (hib c)]) :: F)) rfl ?_
  refine Wp.ret rfl d_jdk_52_4_53 (by decide) (by decide) ?_
  exact ⟨rfl, rfl⟩
def M_gc2 : Mt := (⟨"java/lang/StringUTF16", "getChar", "([BI)C"⟩, jdk_52_method_5_code, 2, some .char, ⟨0, 0, 0, 0⟩)
theorem nm_M_gc2 : mN M_gc2 = ⟨"java/lang/StringUTF16", "getChar", "([BI)C"⟩ := by delta mN M_gc2; rfl
set_option maxRecDepth 65536 in
set_option maxHeartbeats 40000000 in
theorem rm_gc2 {W : Wd} (hw : Ws W) (b : Addr) (c : Int32) (x0 : Int32) (x1 : Int32) (x2 : Int32) (x3 : Int32) (F : List En) (h1 : ¬ c < 0) (h2 : ¬ 65535 < c) : Ct W M_gc2 [.ref b, .int 2] ((eB b [.int x0, .int x1, .int x2, .int x3, .int (lob c), .int (hib c)]) :: F) (fun v H' => v = some (.int c) ∧ H' = ((eB b [.int x0, .int x1, .int x2, .int x3, .int (lob c), .int (hib c)]) :: F)) := by
  refine Ct.intro (L0 := [.val (.ref b), .val (.int 2)]) (plainFor_of_name pf_java_lang_StringUTF16) rfl (fun K => ?_)
  refine Wp.getS nm_M_gc2 (w_78 hw) Via.refl (st_asr hw) d_jdk_52_5_0 ?_
  refine Wp.ifT (by decide) d_jdk_52_5_3 ?_
  refine Wp.iloadN rfl d_jdk_52_5_28 ?_
  refine Wp.iconst lc_1 d_jdk_52_5_29 ?_
  refine Wp.ishl (z := 4) (by decide) d_jdk_52_5_30 ?_
  refine Wp.istoreN (L' := [.val (.ref b), .val (.int 4)]) rfl d_jdk_52_5_31 ?_
  refine Wp.aloadN rfl rfl d_jdk_52_5_32 ?_
  refine Wp.iloadN rfl d_jdk_52_5_33 ?_
  refine Wp.iinc (z := 5) (L' := [.val (.ref b), .val (.int 5)]) rfl (by decide) rfl d_jdk_52_5_34 ?_
  refine Wp.baload 0 4 rfl (by decide) (by decide) rfl d_jdk_52_5_37 ?_
  refine Wp.sipush ls_255 d_jdk_52_5_38 ?_
  refine Wp.iand (z := ((lob c) &&& 255)) rfl d_jdk_52_5_41 ?_
  refine Wp.getS nm_M_gc2 (w_79 hw) Via.refl (st_hi hw) d_jdk_52_5_42 ?_
  refine Wp.ishl (z := (((lob c) &&& 255) <<< (0 &&& 31))) rfl d_jdk_52_5_45 ?_
  refine Wp.aloadN rfl rfl d_jdk_52_5_46 ?_
  refine Wp.iloadN rfl d_jdk_52_5_47 ?_
  refine Wp.baload 0 5 rfl (by decide) (by decide) rfl d_jdk_52_5_48 ?_
  refine Wp.sipush ls_255 d_jdk_52_5_49 ?_
  refine Wp.iand (z := ((hib c) &&& 255)) rfl d_jdk_52_5_52 ?_
  refine Wp.getS nm_M_gc2 (w_80 hw) Via.refl (st_lo hw) d_jdk_52_5_53 ?_
  refine Wp.ishl (z := (((hib c) &&& 255) <<< (8 &&& 31))) rfl d_jdk_52_5_56 ?_
  refine Wp.ior (z := c) (u16_back h1 h2) d_jdk_52_5_57 ?_
  refine Wp.i2c (z := c) (i2cC_id h1 h2) d_jdk_52_5_58 ?_
  refine Wp.iretN (z := c) (by simp) rfl (narC_id h1 h2) d_jdk_52_5_59 (by decide) (by decide) ?_
  exact ⟨rfl, rfl⟩
theorem d_jdk_52_3_0 : Dc jdk_52_method_3_code 0 (.iload_n 0) 1 1 := ⟨by decide +kernel, rfl⟩
theorem d_jdk_52_3_1 : Bj jdk_52_method_3_code 1 (.ifCond .ge 11) 11 4 12 := ⟨by decide +kernel, rfl, by decide, rfl⟩
theorem d_jdk_52_3_12 : Dc jdk_52_method_3_code 12 (.iload_n 0) 1 13 := ⟨by decide +kernel, rfl⟩
theorem d_jdk_52_3_13 : Dc jdk_52_method_3_code 13 (.ldc 20) 2 15 := ⟨by decide +kernel, rfl⟩
theorem w_74 {W : Wd} (hw : Ws W) : Wok W (Jvm.Cond.constant "java/lang/StringUTF16" (20 : Nat) (1073741823 : Int32)) := hw.1 _ (List.mem_of_getElem? (i := 74) rfl)
theorem d_jdk_52_3_15 : Bj jdk_52_method_3_code 15 (.if_icmp .lt 40) 40 18 55 := ⟨by decide +kernel, rfl, by decide, rfl⟩
theorem d_jdk_52_3_55 : Dc jdk_52_method_3_code 55 (.iload_n 0) 1 56 := ⟨by decide +kernel, rfl⟩
theorem d_jdk_52_3_56 : Dc jdk_52_method_3_code 56 (.iconst 1) 1 57 := ⟨by decide +kernel, rfl⟩
theorem d_jdk_52_3_57 : Dc jdk_52_method_3_code 57 (.ishl) 1 58 := ⟨by decide +kernel, rfl⟩
theorem d_jdk_52_3_58 : Dc jdk_52_method_3_code 58 (.ireturn) 1 59 := ⟨by decide +kernel, rfl⟩
def M_nbl : Mt := (⟨"java/lang/StringUTF16", "newBytesLength", "(I)I"⟩, jdk_52_method_3_code, 1, some .int, ⟨0, 0, 0, 0⟩)
theorem nm_M_nbl : mN M_nbl = ⟨"java/lang/StringUTF16", "newBytesLength", "(I)I"⟩ := by delta mN M_nbl; rfl
set_option maxRecDepth 65536 in
set_option maxHeartbeats 40000000 in
theorem rm_nbl {W : Wd} (hw : Ws W) (F : List En) : Ct W M_nbl [.int 3] F (fun v H' => v = some (.int 6) ∧ H' = F) := by
  refine Ct.intro (L0 := [.val (.int 3)]) (plainFor_of_name pf_java_lang_StringUTF16) rfl (fun K => ?_)
  refine Wp.iloadN rfl d_jdk_52_3_0 ?_
  refine Wp.ifT (by decide) d_jdk_52_3_1 ?_
  refine Wp.iloadN rfl d_jdk_52_3_12 ?_
  refine Wp.ldcI nm_M_nbl (w_74 hw) d_jdk_52_3_13 ?_
  refine Wp.icT (by decide) d_jdk_52_3_15 ?_
  refine Wp.iloadN rfl d_jdk_52_3_55 ?_
  refine Wp.iconst lc_1 d_jdk_52_3_56 ?_
  refine Wp.ishl (z := 6) (by decide) d_jdk_52_3_57 ?_
  refine Wp.iret rfl d_jdk_52_3_58 (by decide) (by decide) ?_
  exact ⟨rfl, rfl⟩
theorem d_jdk_52_2_0 : Dc jdk_52_method_2_code 0 (.iload_n 0) 1 1 := ⟨by decide +kernel, rfl⟩
theorem d_jdk_52_2_1 : Dc jdk_52_method_2_code 1 (.invokestatic 11) 3 4 := ⟨by decide +kernel, rfl⟩
theorem w_73 {W : Wd} (hw : Ws W) : Wok W (Jvm.Cond.code ({ cls := "java/lang/StringUTF16", name := "newBytesLength", desc := "(I)I" } : Jvm.MethodName) jdk_52_method_3_code (1 : Nat) (Option.some Jvm.ClassFile.FieldType.int)) := hw.1 _ (List.mem_of_getElem? (i := 73) rfl)
theorem w_23 {W : Wd} (hw : Ws W) : Wok W (Jvm.Cond.initialized "java/lang/StringUTF16") := hw.1 _ (List.mem_of_getElem? (i := 23) rfl)
theorem pd__I_I : parseMethodDescriptor "(I)I" = some ⟨[.int], some .int⟩ := by decide +kernel
theorem mk_M_nbl {W : Wd} (hw : Ws W) : Mk W M_nbl ⟨"java/lang/StringUTF16", "newBytesLength", "(I)I"⟩ 1 := Mk.of nm_M_nbl rfl rfl rfl (w_73 hw) (w_23 hw) (mkLen pd__I_I rfl) (by decide)
theorem w_71 {W : Wd} (hw : Ws W) : Wok W (Jvm.Cond.methodLink "java/lang/StringUTF16" (11 : Nat) ({ cls := "java/lang/StringUTF16", name := "newBytesLength", desc := "(I)I" } : Jvm.MethodName)) := hw.1 _ (List.mem_of_getElem? (i := 71) rfl)
theorem w_72 {W : Wd} (hw : Ws W) : Wok W (Jvm.Cond.static ({ cls := "java/lang/StringUTF16", name := "newBytesLength", desc := "(I)I" } : Jvm.MethodName)) := hw.1 _ (List.mem_of_getElem? (i := 72) rfl)
theorem d_jdk_52_2_4 : Dc jdk_52_method_2_code 4 (.newarray .byte) 2 6 := ⟨by decide +kernel, rfl⟩
theorem w_25 {W : Wd} (hw : Ws W) : Wok W (Jvm.Cond.arrayClass Jvm.ClassFile.FieldType.byte) := hw.1 _ (List.mem_of_getElem? (i := 25) rfl)
theorem d_jdk_52_2_6 : Dc jdk_52_method_2_code 6 (.areturn) 1 7 := ⟨by decide +kernel, rfl⟩
def M_nbf : Mt := (⟨"java/lang/StringUTF16", "newBytesFor", "(I)[B"⟩, jdk_52_method_2_code, 1, some (.array .byte), ⟨1, 1, 6, 12⟩)
theorem nm_M_nbf : mN M_nbf = ⟨"java/lang/StringUTF16", "newBytesFor", "(I)[B"⟩ := by delta mN M_nbf; rfl
set_option maxRecDepth 65536 in
set_option maxHeartbeats 40000000 in
theorem rm_nbf {W : Wd} (hw : Ws W) (F : List En) : Ct W M_nbf [.int 3] F (fun v H' => ∃ b, v = some (.ref b) ∧ H' = ((eB b [.int 0, .int 0, .int 0, .int 0, .int 0, .int 0]) :: F)) := by
  refine Ct.intro (L0 := [.val (.int 3)]) (plainFor_of_name pf_java_lang_StringUTF16) rfl (fun K => ?_)
  refine Wp.iloadN rfl d_jdk_52_2_0 ?_
  refine Wp.callS nm_M_nbf (rm_nbl hw  _ ) (mk_M_nbl hw) (w_71 hw) (w_72 hw) rfl rfl (Wn := 0) rfl rfl (by decide) d_jdk_52_2_1 ?_
  rintro _ _ ⟨rfl, rfl⟩
  refine Wp.newP (kk := 6) (vs := [.int 0, .int 0, .int 0, .int 0, .int 0, .int 0]) d_jdk_52_2_4 (w_25 hw) (by decide) (by decide) (by decide) (by decide) (by decide) rfl (fun a1 => ?_)
  refine Wp.aret rfl rfl rfl d_jdk_52_2_6 (by decide) (by decide) ?_
  exact ⟨a1, rfl, rfl⟩
theorem d_jdk_52_14_0 : Dc jdk_52_method_14_code 0 (.iload_n 2) 1 1 := ⟨by decide +kernel, rfl⟩
theorem d_jdk_52_14_1 : Dc jdk_52_method_14_code 1 (.invokestatic 107) 3 4 := ⟨by decide +kernel, rfl⟩
theorem w_70 {W : Wd} (hw : Ws W) : Wok W (Jvm.Cond.code ({ cls := "java/lang/StringUTF16", name := "newBytesFor", desc := "(I)[B" } : Jvm.MethodName) jdk_52_method_2_code (1 : Nat) (Option.some (Jvm.ClassFile.FieldType.array Jvm.ClassFile.FieldType.byte))) := hw.1 _ (List.mem_of_getElem? (i := 70) rfl)
theorem pd__I__B : parseMethodDescriptor "(I)[B" = some ⟨[.int], some (.array .byte)⟩ := by decide +kernel
theorem mk_M_nbf {W : Wd} (hw : Ws W) : Mk W M_nbf ⟨"java/lang/StringUTF16", "newBytesFor", "(I)[B"⟩ 1 := Mk.of nm_M_nbf rfl rfl rfl (w_70 hw) (w_23 hw) (mkLen pd__I__B rfl) (by decide)
theorem w_68 {W : Wd} (hw : Ws W) : Wok W (Jvm.Cond.methodLink "java/lang/StringUTF16" (107 : Nat) ({ cls := "java/lang/StringUTF16", name := "newBytesFor", desc := "(I)[B" } : Jvm.MethodName)) := hw.1 _ (List.mem_of_getElem? (i := 68) rfl)
theorem w_69 {W : Wd} (hw : Ws W) : Wok W (Jvm.Cond.static ({ cls := "java/lang/StringUTF16", name := "newBytesFor", desc := "(I)[B" } : Jvm.MethodName)) := hw.1 _ (List.mem_of_getElem? (i := 69) rfl)
theorem d_jdk_52_14_4 : Dc jdk_52_method_14_code 4 (.astore_n 3) 1 5 := ⟨by decide +kernel, rfl⟩
theorem d_jdk_52_14_5 : Dc jdk_52_method_14_code 5 (.iconst 0) 1 6 := ⟨by decide +kernel, rfl⟩
theorem d_jdk_52_14_6 : Dc jdk_52_method_14_code 6 (.istore 4) 2 8 := ⟨by decide +kernel, rfl⟩
theorem d_jdk_52_14_8 : Dc jdk_52_method_14_code 8 (.iload 4) 2 10 := ⟨by decide +kernel, rfl⟩
theorem d_jdk_52_14_10 : Dc jdk_52_method_14_code 10 (.iload_n 2) 1 11 := ⟨by decide +kernel, rfl⟩
theorem d_jdk_52_14_11 : Bj jdk_52_method_14_code 11 (.if_icmp .ge 21) 21 14 32 := ⟨by decide +kernel, rfl, by decide, rfl⟩
theorem d_jdk_52_14_14 : Dc jdk_52_method_14_code 14 (.aload_n 3) 1 15 := ⟨by decide +kernel, rfl⟩
theorem d_jdk_52_14_15 : Dc jdk_52_method_14_code 15 (.iload 4) 2 17 := ⟨by decide +kernel, rfl⟩
theorem d_jdk_52_14_17 : Dc jdk_52_method_14_code 17 (.aload_n 0) 1 18 := ⟨by decide +kernel, rfl⟩
theorem d_jdk_52_14_18 : Dc jdk_52_method_14_code 18 (.iload_n 1) 1 19 := ⟨by decide +kernel, rfl⟩
theorem d_jdk_52_14_19 : Dc jdk_52_method_14_code 19 (.caload) 1 20 := ⟨by decide +kernel, rfl⟩
theorem d_jdk_52_14_20 : Dc jdk_52_method_14_code 20 (.invokestatic 111) 3 23 := ⟨by decide +kernel, rfl⟩
theorem w_77 {W : Wd} (hw : Ws W) : Wok W (Jvm.Cond.code ({ cls := "java/lang/StringUTF16", name := "putChar", desc := "([BII)V" } : Jvm.MethodName) jdk_52_method_4_code (3 : Nat) (Option.none : Option Jvm.ClassFile.FieldType)) := hw.1 _ (List.mem_of_getElem? (i := 77) rfl)
theorem pd___BII_V : parseMethodDescriptor "([BII)V" = some ⟨[(.array .byte), .int, .int], none⟩ := by decide +kernel
theorem mk_M_pc0 {W : Wd} (hw : Ws W) : Mk W M_pc0 ⟨"java/lang/StringUTF16", "putChar", "([BII)V"⟩ 3 := Mk.of nm_M_pc0 rfl rfl rfl (w_77 hw) (w_23 hw) (mkLen pd___BII_V rfl) (by decide)
theorem w_75 {W : Wd} (hw : Ws W) : Wok W (Jvm.Cond.methodLink "java/lang/StringUTF16" (111 : Nat) ({ cls := "java/lang/StringUTF16", name := "putChar", desc := "([BII)V" } : Jvm.MethodName)) := hw.1 _ (List.mem_of_getElem? (i := 75) rfl)
theorem w_76 {W : Wd} (hw : Ws W) : Wok W (Jvm.Cond.static ({ cls := "java/lang/StringUTF16", name := "putChar", desc := "([BII)V" } : Jvm.MethodName)) := hw.1 _ (List.mem_of_getElem? (i := 76) rfl)
theorem d_jdk_52_14_23 : Dc jdk_52_method_14_code 23 (.iinc 1 1) 3 26 := ⟨by decide +kernel, rfl⟩
theorem d_jdk_52_14_26 : Dc jdk_52_method_14_code 26 (.iinc 4 1) 3 29 := ⟨by decide +kernel, rfl⟩
theorem d_jdk_52_14_29 : Bj jdk_52_method_14_code 29 (.goto (-21)) (-21) 32 8 := ⟨by decide +kernel, rfl, by decide, rfl⟩
theorem mk_M_pc1 {W : Wd} (hw : Ws W) : Mk W M_pc1 ⟨"java/lang/StringUTF16", "putChar", "([BII)V"⟩ 3 := Mk.of nm_M_pc1 rfl rfl rfl (w_77 hw) (w_23 hw) (mkLen pd___BII_V rfl) (by decide)
theorem mk_M_pc2 {W : Wd} (hw : Ws W) : Mk W M_pc2 ⟨"java/lang/StringUTF16", "putChar", "([BII)V"⟩ 3 := Mk.of nm_M_pc2 rfl rfl rfl (w_77 hw) (w_23 hw) (mkLen pd___BII_V rfl) (by decide)
theorem d_jdk_52_14_32 : Dc jdk_52_method_14_code 32 (.aload_n 3) 1 33 := ⟨by decide +kernel, rfl⟩
theorem d_jdk_52_14_33 : Dc jdk_52_method_14_code 33 (.areturn) 1 34 := ⟨by decide +kernel, rfl⟩
def M_tb : Mt := (⟨"java/lang/StringUTF16", "toBytes", "([CII)[B"⟩, jdk_52_method_14_code, 5, some (.array .byte), ⟨2, 1, 6, 24⟩)
theorem nm_M_tb : mN M_tb = ⟨"java/lang/StringUTF16", "toBytes", "([CII)[B"⟩ := by delta mN M_tb; rfl
set_option maxRecDepth 65536 in
set_option maxHeartbeats 40000000 in
theorem rm_tb {W : Wd} (hw : Ws W) (a : Addr) (r : Bool) (ex : Bool) (ov : Bool) (c0 : Int32) (c1 : Int32) (c2 : Int32) (F : List En) : Ct W M_tb [.ref a, .int 0, .int 3] ((a, r, .inr (.char, ex, ov, [.int c0, .int c1, .int c2])) :: F) (fun v H' => ∃ b, v = some (.ref b) ∧ H' = ((eB b [.int (lob c0), .int (hib c0), .int (lob c1), .int (hib c1), .int (lob c2), .int (hib c2)]) :: (a, r, .inr (.char, ex, ov, [.int c0, .int c1, .int c2])) :: F)) := by
  refine Ct.intro (L0 := [.val (.ref a), .val (.int 0), .val (.int 3), .unset, .unset]) (plainFor_of_name pf_java_lang_StringUTF16) rfl (fun K => ?_)
  refine Wp.iloadN rfl d_jdk_52_14_0 ?_
  refine Wp.callS nm_M_tb (rm_nbf hw  _ ) (mk_M_nbf hw) (w_68 hw) (w_69 hw) rfl rfl (Wn := 0) rfl rfl (by decide) d_jdk_52_14_1 ?_
  rintro _ _ ⟨b_1, rfl, rfl⟩
  refine Wp.astoreN (L' := [.val (.ref a), .val (.int 0), .val (.int 3), .val (.ref b_1), .unset]) rfl rfl d_jdk_52_14_4 ?_
  refine Wp.iconst lc_0 d_jdk_52_14_5 ?_
  refine Wp.istore (L' := [.val (.ref a), .val (.int 0), .val (.int 3), .val (.ref b_1), .val (.int 0)]) rfl d_jdk_52_14_6 ?_
  refine Wp.iload rfl d_jdk_52_14_8 ?_
  refine Wp.iloadN rfl d_jdk_52_14_10 ?_
  refine Wp.icF (by decide) d_jdk_52_14_11 ?_
  refine Wp.aloadN rfl rfl d_jdk_52_14_14 ?_
  refine Wp.iload rfl d_jdk_52_14_15 ?_
  refine Wp.aloadN rfl rfl d_jdk_52_14_17 ?_
  refine Wp.iloadN rfl d_jdk_52_14_18 ?_
  refine Wp.caload 1 0 rfl (by decide) (by decide) rfl d_jdk_52_14_19 ?_
  refine Wp.callS nm_M_tb (rm_pc0 hw b_1 c0 0 0 0 0 0 0 _ ) (mk_M_pc0 hw) (w_75 hw) (w_76 hw) rfl rfl (Wn := 0) rfl rfl (by decide) d_jdk_52_14_20 ?_
  rintro _ _ ⟨rfl, rfl⟩
  refine Wp.iinc (z := 1) (L' := [.val (.ref a), .val (.int 1), .val (.int 3), .val (.ref b_1), .val (.int 0)]) rfl (by decide) rfl d_jdk_52_14_23 ?_
  refine Wp.iinc (z := 1) (L' := [.val (.ref a), .val (.int 1), .val (.int 3), .val (.ref b_1), .val (.int 1)]) rfl (by decide) rfl d_jdk_52_14_26 ?_
  refine Wp.goto d_jdk_52_14_29 ?_
  refine Wp.iload rfl d_jdk_52_14_8 ?_
  refine Wp.iloadN rfl d_jdk_52_14_10 ?_
  refine Wp.icF (by decide) d_jdk_52_14_11 ?_
  refine Wp.aloadN rfl rfl d_jdk_52_14_14 ?_
  refine Wp.iload rfl d_jdk_52_14_15 ?_
  refine Wp.aloadN rfl rfl d_jdk_52_14_17 ?_
  refine Wp.iloadN rfl d_jdk_52_14_18 ?_
  refine Wp.caload 1 1 rfl (by decide) (by decide) rfl d_jdk_52_14_19 ?_
  refine Wp.callS nm_M_tb (rm_pc1 hw b_1 c1 (lob c0) (hib c0) 0 0 0 0 _ ) (mk_M_pc1 hw) (w_75 hw) (w_76 hw) rfl rfl (Wn := 0) rfl rfl (by decide) d_jdk_52_14_20 ?_
  rintro _ _ ⟨rfl, rfl⟩
  refine Wp.iinc (z := 2) (L' := [.val (.ref a), .val (.int 2), .val (.int 3), .val (.ref b_1), .val (.int 1)]) rfl (by decide) rfl d_jdk_52_14_23 ?_
  refine Wp.iinc (z := 2) (L' := [.val (.ref a), .val (.int 2), .val (.int 3), .val (.ref b_1), .val (.int 2)]) rfl (by decide) rfl d_jdk_52_14_26 ?_
  refine Wp.goto d_jdk_52_14_29 ?_
  refine Wp.iload rfl d_jdk_52_14_8 ?_
  refine Wp.iloadN rfl d_jdk_52_14_10 ?_
  refine Wp.icF (by decide) d_jdk_52_14_11 ?_
  refine Wp.aloadN rfl rfl d_jdk_52_14_14 ?_
  refine Wp.iload rfl d_jdk_52_14_15 ?_
  refine Wp.aloadN rfl rfl d_jdk_52_14_17 ?_
  refine Wp.iloadN rfl d_jdk_52_14_18 ?_
  refine Wp.caload 1 2 rfl (by decide) (by decide) rfl d_jdk_52_14_19 ?_
  refine Wp.callS nm_M_tb (rm_pc2 hw b_1 c2 (lob c0) (hib c0) (lob c1) (hib c1) 0 0 _ ) (mk_M_pc2 hw) (w_75 hw) (w_76 hw) rfl rfl (Wn := 0) rfl rfl (by decide) d_jdk_52_14_20 ?_
  rintro _ _ ⟨rfl, rfl⟩
  refine Wp.iinc (z := 3) (L' := [.val (.ref a), .val (.int 3), .val (.int 3), .val (.ref b_1), .val (.int 2)]) rfl (by decide) rfl d_jdk_52_14_23 ?_
  refine Wp.iinc (z := 3) (L' := [.val (.ref a), .val (.int 3), .val (.int 3), .val (.ref b_1), .val (.int 3)]) rfl (by decide) rfl d_jdk_52_14_26 ?_
  refine Wp.goto d_jdk_52_14_29 ?_
  refine Wp.iload rfl d_jdk_52_14_8 ?_
  refine Wp.iloadN rfl d_jdk_52_14_10 ?_
  refine Wp.icT (by decide) d_jdk_52_14_11 ?_
  refine Wp.aloadN rfl rfl d_jdk_52_14_32 ?_
  refine Wp.aret rfl rfl rfl d_jdk_52_14_33 (by decide) (by decide) ?_
  exact ⟨b_1, rfl, rfl⟩
theorem d_jdk_52_21_0 : Dc jdk_52_method_21_code 0 (.iconst 0) 1 1 := ⟨by decide +kernel, rfl⟩
theorem d_jdk_52_21_1 : Dc jdk_52_method_21_code 1 (.istore 5) 2 3 := ⟨by decide +kernel, rfl⟩
theorem d_jdk_52_21_3 : Dc jdk_52_method_21_code 3 (.iload 5) 2 5 := ⟨by decide +kernel, rfl⟩
theorem d_jdk_52_21_5 : Dc jdk_52_method_21_code 5 (.iload 4) 2 7 := ⟨by decide +kernel, rfl⟩
theorem d_jdk_52_21_7 : Bj jdk_52_method_21_code 7 (.if_icmp .ge 37) 37 10 44 := ⟨by decide +kernel, rfl, by decide, rfl⟩
theorem d_jdk_52_21_10 : Dc jdk_52_method_21_code 10 (.aload_n 0) 1 11 := ⟨by decide +kernel, rfl⟩
theorem d_jdk_52_21_11 : Dc jdk_52_method_21_code 11 (.iload_n 1) 1 12 := ⟨by decide +kernel, rfl⟩
theorem d_jdk_52_21_12 : Dc jdk_52_method_21_code 12 (.caload) 1 13 := ⟨by decide +kernel, rfl⟩
theorem d_jdk_52_21_13 : Dc jdk_52_method_21_code 13 (.istore 6) 2 15 := ⟨by decide +kernel, rfl⟩
theorem d_jdk_52_21_15 : Dc jdk_52_method_21_code 15 (.iload 6) 2 17 := ⟨by decide +kernel, rfl⟩
theorem d_jdk_52_21_17 : Dc jdk_52_method_21_code 17 (.sipush 255) 3 20 := ⟨by decide +kernel, rfl⟩
theorem d_jdk_52_21_20 : Bj jdk_52_method_21_code 20 (.if_icmp .le 6) 6 23 26 := ⟨by decide +kernel, rfl, by decide, rfl⟩
theorem d_jdk_52_21_23 : Dc jdk_52_method_21_code 23 (.iload 5) 2 25 := ⟨by decide +kernel, rfl⟩
theorem d_jdk_52_21_25 : Dc jdk_52_method_21_code 25 (.ireturn) 1 26 := ⟨by decide +kernel, rfl⟩
theorem d_jdk_52_21_26 : Dc jdk_52_method_21_code 26 (.aload_n 2) 1 27 := ⟨by decide +kernel, rfl⟩
theorem d_jdk_52_21_27 : Dc jdk_52_method_21_code 27 (.iload_n 3) 1 28 := ⟨by decide +kernel, rfl⟩
theorem d_jdk_52_21_28 : Dc jdk_52_method_21_code 28 (.iload 6) 2 30 := ⟨by decide +kernel, rfl⟩
theorem d_jdk_52_21_30 : Dc jdk_52_method_21_code 30 (.i2b) 1 31 := ⟨by decide +kernel, rfl⟩
theorem d_jdk_52_21_31 : Dc jdk_52_method_21_code 31 (.bastore) 1 32 := ⟨by decide +kernel, rfl⟩
theorem d_jdk_52_21_32 : Dc jdk_52_method_21_code 32 (.iinc 1 1) 3 35 := ⟨by decide +kernel, rfl⟩
theorem d_jdk_52_21_35 : Dc jdk_52_method_21_code 35 (.iinc 3 1) 3 38 := ⟨by decide +kernel, rfl⟩
theorem d_jdk_52_21_38 : Dc jdk_52_method_21_code 38 (.iinc 5 1) 3 41 := ⟨by decide +kernel, rfl⟩
theorem d_jdk_52_21_41 : Bj jdk_52_method_21_code 41 (.goto (-38)) (-38) 44 3 := ⟨by decide +kernel, rfl, by decide, rfl⟩
theorem d_jdk_52_21_44 : Dc jdk_52_method_21_code 44 (.iload 4) 2 46 := ⟨by decide +kernel, rfl⟩
theorem d_jdk_52_21_46 : Dc jdk_52_method_21_code 46 (.ireturn) 1 47 := ⟨by decide +kernel, rfl⟩
def M_cp2 : Mt := (⟨"java/lang/StringUTF16", "compress", "([CI[BII)I"⟩, jdk_52_method_21_code, 7, some .int, ⟨0, 0, 0, 0⟩)
theorem nm_M_cp2 : mN M_cp2 = ⟨"java/lang/StringUTF16", "compress", "([CI[BII)I"⟩ := by delta mN M_cp2; rfl
set_option maxRecDepth 65536 in
set_option maxHeartbeats 40000000 in
theorem rm_cp2 {W : Wd} (hw : Ws W) (a : Addr) (b : Addr) (r : Bool) (ex : Bool) (ov : Bool) (c0 : Int32) (c1 : Int32) (c2 : Int32) (F : List En) : Ct W M_cp2 [.ref a, .int 0, .ref b, .int 0, .int 3] ((a, r, .inr (.char, ex, ov, [.int c0, .int c1, .int c2])) :: (eB b [.int 0, .int 0, .int 0]) :: F) (fun v H' => (v = some (.int 3) ∧ H' = ((a, r, .inr (.char, ex, ov, [.int c0, .int c1, .int c2])) :: (eB b [.int (by8 c0), .int (by8 c1), .int (by8 c2)]) :: F) ∧ ¬ 255 < c0 ∧ ¬ 255 < c1 ∧ ¬ 255 < c2) ∨ (v = some (.int 0) ∧ H' = ((a, r, .inr (.char, ex, ov, [.int c0, .int c1, .int c2])) :: (eB b [.int 0, .int 0, .int 0]) :: F) ∧ 255 < c0) ∨ (v = some (.int 1) ∧ H' = ((a, r, .inr (.char, ex, ov, [.int c0, .int c1, .int c2])) :: (eB b [.int (by8 c0), .int 0, .int 0]) :: F) ∧ 255 < c1) ∨ (v = some (.int 2) ∧ H' = ((a, r, .inr (.char, ex, ov, [.int c0, .int c1, .int c2])) :: (eB b [.int (by8 c0), .int (by8 c1), .int 0]) :: F) ∧ 255 < c2)) := by
  refine Ct.intro (L0 := [.val (.ref a), .val (.int 0), .val (.ref b), .val (.int 0), .val (.int 3), .unset, .unset]) (plainFor_of_name pf_java_lang_StringUTF16) rfl (fun K => ?_)
  refine Wp.iconst lc_0 d_jdk_52_21_0 ?_
  refine Wp.istore (L' := [.val (.ref a), .val (.int 0), .val (.ref b), .val (.int 0), .val (.int 3), .val (.int 0), .unset]) rfl d_jdk_52_21_1 ?_
  refine Wp.iload rfl d_jdk_52_21_3 ?_
  refine Wp.iload rfl d_jdk_52_21_5 ?_
  refine Wp.icF (by decide) d_jdk_52_21_7 ?_
  refine Wp.aloadN rfl rfl d_jdk_52_21_10 ?_
  refine Wp.iloadN rfl d_jdk_52_21_11 ?_
  refine Wp.caload 0 0 rfl (by decide) (by decide) rfl d_jdk_52_21_12 ?_
  refine Wp.istore (L' := [.val (.ref a), .val (.int 0), .val (.ref b), .val (.int 0), .val (.int 3), .val (.int 0), .val (.int c0)]) rfl d_jdk_52_21_13 ?_
  refine Wp.iload rfl d_jdk_52_21_15 ?_
  refine Wp.sipush ls_255 d_jdk_52_21_17 ?_
  by_cases b20_1 : 255 < c0
  · refine Wp.icF (tlt b20_1).2.2.2 d_jdk_52_21_20 ?_
    refine Wp.iload rfl d_jdk_52_21_23 ?_
    refine Wp.iret rfl d_jdk_52_21_25 (by decide) (by decide) ?_
    exact Or.inr (Or.inl ⟨rfl, rfl, b20_1⟩)
  · refine Wp.icT (flt b20_1).2.2.2 d_jdk_52_21_20 ?_
    refine Wp.aloadN rfl rfl d_jdk_52_21_26 ?_
    refine Wp.iloadN rfl d_jdk_52_21_27 ?_
    refine Wp.iload rfl d_jdk_52_21_28 ?_
    refine Wp.i2b (z := (by8 c0)) rfl d_jdk_52_21_30 ?_
    refine Wp.bastore (z := (by8 c0)) 1 0 rfl (by decide) (by decide) (show 0 < 3 by decide) (by8_by8 _) d_jdk_52_21_31 (H' := ((a, r, .inr (.char, ex, ov, [.int c0, .int c1, .int c2])) :: (eB b [.int (by8 c0), .int 0, .int 0]) :: F)) rfl ?_
    refine Wp.iinc (z := 1) (L' := [.val (.ref a), .val (.int 1), .val (.ref b), .val (.int 0), .val (.int 3), .val (.int 0), .val (.int c0)]) rfl (by decide) rfl d_jdk_52_21_32 ?_
    refine Wp.iinc (z := 1) (L' := [.val (.ref a), .val (.int 1), .val (.ref b), .val (.int 1), .val (.int 3), .val (.int 0), .val (.int c0)]) rfl (by decide) rfl d_jdk_52_21_35 ?_
    refine Wp.iinc (z := 1) (L' := [.val (.ref a), .val (.int 1), .val (.ref b), .val (.int 1), .val (.int 3), .val (.int 1), .val (.int c0)]) rfl (by decide) rfl d_jdk_52_21_38 ?_
    refine Wp.goto d_jdk_52_21_41 ?_
    refine Wp.iload rfl d_jdk_52_21_3 ?_
    refine Wp.iload rfl d_jdk_52_21_5 ?_
    refine Wp.icF (by decide) d_jdk_52_21_7 ?_
    refine Wp.aloadN rfl rfl d_jdk_52_21_10 ?_
    refine Wp.iloadN rfl d_jdk_52_21_11 ?_
    refine Wp.caload 0 1 rfl (by decide) (by decide) rfl d_jdk_52_21_12 ?_
    refine Wp.istore (L' := [.val (.ref a), .val (.int 1), .val (.ref b), .val (.int 1), .val (.int 3), .val (.int 1), .val (.int c1)]) rfl d_jdk_52_21_13 ?_
    refine Wp.iload rfl d_jdk_52_21_15 ?_
    refine Wp.sipush ls_255 d_jdk_52_21_17 ?_
    by_cases b20_2 : 255 < c1
    · refine Wp.icF (tlt b20_2).2.2.2 d_jdk_52_21_20 ?_
      refine Wp.iload rfl d_jdk_52_21_23 ?_
      refine Wp.iret rfl d_jdk_52_21_25 (by decide) (by decide) ?_
      exact Or.inr (Or.inr (Or.inl ⟨rfl, rfl, b20_2⟩))
    · refine Wp.icT (flt b20_2).2.2.2 d_jdk_52_21_20 ?_
      refine Wp.aloadN rfl rfl d_jdk_52_21_26 ?_
      refine Wp.iloadN rfl d_jdk_52_21_27 ?_
      refine Wp.iload rfl d_jdk_52_21_28 ?_
      refine Wp.i2b (z := (by8 c1)) rfl d_jdk_52_21_30 ?_
      refine Wp.bastore (z := (by8 c1)) 1 1 rfl (by decide) (by decide) (show 1 < 3 by decide) (by8_by8 _) d_jdk_52_21_31 (H' := ((a, r, .inr (.char, ex, ov, [.int c0, .int c1, .int c2])) :: (eB b [.int (by8 c0), .int (by8 c1), .int 0]) :: F)) rfl ?_
      refine Wp.iinc (z := 2) (L' := [.val (.ref a), .val (.int 2), .val (.ref b), .val (.int 1), .val (.int 3), .val (.int 1), .val (.int c1)]) rfl (by decide) rfl d_jdk_52_21_32 ?_
      refine Wp.iinc (z := 2) (L' := [.val (.ref a), .val (.int 2), .val (.ref b), .val (.int 2), .val (.int 3), .val (.int 1), .val (.int c1)]) rfl (by decide) rfl d_jdk_52_21_35 ?_
      refine Wp.iinc (z := 2) (L' := [.val (.ref a), .val (.int 2), .val (.ref b), .val (.int 2), .val (.int 3), .val (.int 2), .val (.int c1)]) rfl (by decide) rfl d_jdk_52_21_38 ?_
      refine Wp.goto d_jdk_52_21_41 ?_
      refine Wp.iload rfl d_jdk_52_21_3 ?_
      refine Wp.iload rfl d_jdk_52_21_5 ?_
      refine Wp.icF (by decide) d_jdk_52_21_7 ?_
      refine Wp.aloadN rfl rfl d_jdk_52_21_10 ?_
      refine Wp.iloadN rfl d_jdk_52_21_11 ?_
      refine Wp.caload 0 2 rfl (by decide) (by decide) rfl d_jdk_52_21_12 ?_
      refine Wp.istore (L' := [.val (.ref a), .val (.int 2), .val (.ref b), .val (.int 2), .val (.int 3), .val (.int 2), .val (.int c2)]) rfl d_jdk_52_21_13 ?_
      refine Wp.iload rfl d_jdk_52_21_15 ?_
      refine Wp.sipush ls_255 d_jdk_52_21_17 ?_
      by_cases b20_3 : 255 < c2
      · refine Wp.icF (tlt b20_3).2.2.2 d_jdk_52_21_20 ?_
        refine Wp.iload rfl d_jdk_52_21_23 ?_
        refine Wp.iret rfl d_jdk_52_21_25 (by decide) (by decide) ?_
        exact Or.inr (Or.inr (Or.inr (⟨rfl, rfl, b20_3⟩)))
      · refine Wp.icT (flt b20_3).2.2.2 d_jdk_52_21_20 ?_
        refine Wp.aloadN rfl rfl d_jdk_52_21_26 ?_
        refine Wp.iloadN rfl d_jdk_52_21_27 ?_
        refine Wp.iload rfl d_jdk_52_21_28 ?_
        refine Wp.i2b (z := (by8 c2)) rfl d_jdk_52_21_30 ?_
        refine Wp.bastore (z := (by8 c2)) 1 2 rfl (by decide) (by decide) (show 2 < 3 by decide) (by8_by8 _) d_jdk_52_21_31 (H' := ((a, r, .inr (.char, ex, ov, [.int c0, .int c1, .int c2])) :: (eB b [.int (by8 c0), .int (by8 c1), .int (by8 c2)]) :: F)) rfl ?_
        refine Wp.iinc (z := 3) (L' := [.val (.ref a), .val (.int 3), .val (.ref b), .val (.int 2), .val (.int 3), .val (.int 2), .val (.int c2)]) rfl (by decide) rfl d_jdk_52_21_32 ?_
        refine Wp.iinc (z := 3) (L' := [.val (.ref a), .val (.int 3), .val (.ref b), .val (.int 3), .val (.int 3), .val (.int 2), .val (.int c2)]) rfl (by decide) rfl d_jdk_52_21_35 ?_
        refine Wp.iinc (z := 3) (L' := [.val (.ref a), .val (.int 3), .val (.ref b), .val (.int 3), .val (.int 3), .val (.int 3), .val (.int c2)]) rfl (by decide) rfl d_jdk_52_21_38 ?_
        refine Wp.goto d_jdk_52_21_41 ?_
        refine Wp.iload rfl d_jdk_52_21_3 ?_
        refine Wp.iload rfl d_jdk_52_21_5 ?_
        refine Wp.icT (by decide) d_jdk_52_21_7 ?_
        refine Wp.iload rfl d_jdk_52_21_44 ?_
        refine Wp.iret rfl d_jdk_52_21_46 (by decide) (by decide) ?_
        exact Or.inl ⟨rfl, rfl, b20_1, b20_2, b20_3⟩
theorem d_jdk_52_16_0 : Dc jdk_52_method_16_code 0 (.iload_n 2) 1 1 := ⟨by decide +kernel, rfl⟩
theorem d_jdk_52_16_1 : Dc jdk_52_method_16_code 1 (.newarray .byte) 2 3 := ⟨by decide +kernel, rfl⟩
theorem d_jdk_52_16_3 : Dc jdk_52_method_16_code 3 (.astore_n 3) 1 4 := ⟨by decide +kernel, rfl⟩
theorem d_jdk_52_16_4 : Dc jdk_52_method_16_code 4 (.aload_n 0) 1 5 := ⟨by decide +kernel, rfl⟩
theorem d_jdk_52_16_5 : Dc jdk_52_method_16_code 5 (.iload_n 1) 1 6 := ⟨by decide +kernel, rfl⟩
theorem d_jdk_52_16_6 : Dc jdk_52_method_16_code 6 (.aload_n 3) 1 7 := ⟨by decide +kernel, rfl⟩
theorem d_jdk_52_16_7 : Dc jdk_52_method_16_code 7 (.iconst 0) 1 8 := ⟨by decide +kernel, rfl⟩
theorem d_jdk_52_16_8 : Dc jdk_52_method_16_code 8 (.iload_n 2) 1 9 := ⟨by decide +kernel, rfl⟩
theorem d_jdk_52_16_9 : Dc jdk_52_method_16_code 9 (.invokestatic 115) 3 12 := ⟨by decide +kernel, rfl⟩
theorem pp_1_0 : [1, 0].isPerm (List.range 2) = true := by decide +kernel
theorem w_28 {W : Wd} (hw : Ws W) : Wok W (Jvm.Cond.code ({ cls := "java/lang/StringUTF16", name := "compress", desc := "([CI[BII)I" } : Jvm.MethodName) jdk_52_method_21_code (7 : Nat) (Option.some Jvm.ClassFile.FieldType.int)) := hw.1 _ (List.mem_of_getElem? (i := 28) rfl)
theorem pd___CI_BII_I : parseMethodDescriptor "([CI[BII)I" = some ⟨[(.array .char), .int, (.array .byte), .int, .int], some .int⟩ := by decide +kernel
theorem mk_M_cp2 {W : Wd} (hw : Ws W) : Mk W M_cp2 ⟨"java/lang/StringUTF16", "compress", "([CI[BII)I"⟩ 5 := Mk.of nm_M_cp2 rfl rfl rfl (w_28 hw) (w_23 hw) (mkLen pd___CI_BII_I rfl) (by decide)
theorem w_26 {W : Wd} (hw : Ws W) : Wok W (Jvm.Cond.methodLink "java/lang/StringUTF16" (115 : Nat) ({ cls := "java/lang/StringUTF16", name := "compress", desc := "([CI[BII)I" } : Jvm.MethodName)) := hw.1 _ (List.mem_of_getElem? (i := 26) rfl)
theorem w_27 {W : Wd} (hw : Ws W) : Wok W (Jvm.Cond.static ({ cls := "java/lang/StringUTF16", name := "compress", desc := "([CI[BII)I" } : Jvm.MethodName)) := hw.1 _ (List.mem_of_getElem? (i := 27) rfl)
theorem d_jdk_52_16_12 : Dc jdk_52_method_16_code 12 (.istore 4) 2 14 := ⟨by decide +kernel, rfl⟩
theorem d_jdk_52_16_14 : Dc jdk_52_method_16_code 14 (.iload 4) 2 16 := ⟨by decide +kernel, rfl⟩
theorem d_jdk_52_16_16 : Dc jdk_52_method_16_code 16 (.iload_n 2) 1 17 := ⟨by decide +kernel, rfl⟩
theorem d_jdk_52_16_17 : Bj jdk_52_method_16_code 17 (.if_icmp .eq 40) 40 20 57 := ⟨by decide +kernel, rfl, by decide, rfl⟩
theorem d_jdk_52_16_57 : Dc jdk_52_method_16_code 57 (.aload_n 3) 1 58 := ⟨by decide +kernel, rfl⟩
theorem d_jdk_52_16_58 : Dc jdk_52_method_16_code 58 (.areturn) 1 59 := ⟨by decide +kernel, rfl⟩
theorem d_jdk_52_16_20 : Dc jdk_52_method_16_code 20 (.aload_n 0) 1 21 := ⟨by decide +kernel, rfl⟩
theorem d_jdk_52_16_21 : Dc jdk_52_method_16_code 21 (.iload_n 1) 1 22 := ⟨by decide +kernel, rfl⟩
theorem d_jdk_52_16_22 : Dc jdk_52_method_16_code 22 (.iload_n 2) 1 23 := ⟨by decide +kernel, rfl⟩
theorem d_jdk_52_16_23 : Dc jdk_52_method_16_code 23 (.invokestatic 119) 3 26 := ⟨by decide +kernel, rfl⟩
theorem w_67 {W : Wd} (hw : Ws W) : Wok W (Jvm.Cond.code ({ cls := "java/lang/StringUTF16", name := "toBytes", desc := "([CII)[B" } : Jvm.MethodName) jdk_52_method_14_code (5 : Nat) (Option.some (Jvm.ClassFile.FieldType.array Jvm.ClassFile.FieldType.byte))) := hw.1 _ (List.mem_of_getElem? (i := 67) rfl)
theorem pd___CII__B : parseMethodDescriptor "([CII)[B" = some ⟨[(.array .char), .int, .int], some (.array .byte)⟩ := by decide +kernel
theorem mk_M_tb {W : Wd} (hw : Ws W) : Mk W M_tb ⟨"java/lang/StringUTF16", "toBytes", "([CII)[B"⟩ 3 := Mk.of nm_M_tb rfl rfl rfl (w_67 hw) (w_23 hw) (mkLen pd___CII__B rfl) (by decide)
theorem w_65 {W : Wd} (hw : Ws W) : Wok W (Jvm.Cond.methodLink "java/lang/StringUTF16" (119 : Nat) ({ cls := "java/lang/StringUTF16", name := "toBytes", desc := "([CII)[B" } : Jvm.MethodName)) := hw.1 _ (List.mem_of_getElem? (i := 65) rfl)
theorem w_66 {W : Wd} (hw : Ws W) : Wok W (Jvm.Cond.static ({ cls := "java/lang/StringUTF16", name := "toBytes", desc := "([CII)[B" } : Jvm.MethodName)) := hw.1 _ (List.mem_of_getElem? (i := 66) rfl)
theorem d_jdk_52_16_26 : Dc jdk_52_method_16_code 26 (.astore 5) 2 28 := ⟨by decide +kernel, rfl⟩
theorem d_jdk_52_16_28 : Dc jdk_52_method_16_code 28 (.aload 5) 2 30 := ⟨by decide +kernel, rfl⟩
theorem d_jdk_52_16_30 : Dc jdk_52_method_16_code 30 (.iload 4) 2 32 := ⟨by decide +kernel, rfl⟩
theorem d_jdk_52_16_32 : Dc jdk_52_method_16_code 32 (.invokestatic 71) 3 35 := ⟨by decide +kernel, rfl⟩
theorem w_83 {W : Wd} (hw : Ws W) : Wok W (Jvm.Cond.code ({ cls := "java/lang/StringUTF16", name := "getChar", desc := "([BI)C" } : Jvm.MethodName) jdk_52_method_5_code (2 : Nat) (Option.some Jvm.ClassFile.FieldType.char)) := hw.1 _ (List.mem_of_getElem? (i := 83) rfl)
theorem pd___BI_C : parseMethodDescriptor "([BI)C" = some ⟨[(.array .byte), .int], some .char⟩ := by decide +kernel
theorem mk_M_gc0 {W : Wd} (hw : Ws W) : Mk W M_gc0 ⟨"java/lang/StringUTF16", "getChar", "([BI)C"⟩ 2 := Mk.of nm_M_gc0 rfl rfl rfl (w_83 hw) (w_23 hw) (mkLen pd___BI_C rfl) (by decide)
theorem w_81 {W : Wd} (hw : Ws W) : Wok W (Jvm.Cond.methodLink "java/lang/StringUTF16" (71 : Nat) ({ cls := "java/lang/StringUTF16", name := "getChar", desc := "([BI)C" } : Jvm.MethodName)) := hw.1 _ (List.mem_of_getElem? (i := 81) rfl)
theorem w_82 {W : Wd} (hw : Ws W) : Wok W (Jvm.Cond.static ({ cls := "java/lang/StringUTF16", name := "getChar", desc := "([BI)C" } : Jvm.MethodName)) := hw.1 _ (List.mem_of_getElem? (i := 82) rfl)
theorem d_jdk_52_16_35 : Dc jdk_52_method_16_code 35 (.sipush 255) 3 38 := ⟨by decide +kernel, rfl⟩
theorem d_jdk_52_16_38 : Bj jdk_52_method_16_code 38 (.if_icmp .gt 16) 16 41 54 := ⟨by decide +kernel, rfl, by decide, rfl⟩
theorem d_jdk_52_16_54 : Dc jdk_52_method_16_code 54 (.aload 5) 2 56 := ⟨by decide +kernel, rfl⟩
theorem d_jdk_52_16_56 : Dc jdk_52_method_16_code 56 (.areturn) 1 57 := ⟨by decide +kernel, rfl⟩
theorem mk_M_gc1 {W : Wd} (hw : Ws W) : Mk W M_gc1 ⟨"java/lang/StringUTF16", "getChar", "([BI)C"⟩ 2 := Mk.of nm_M_gc1 rfl rfl rfl (w_83 hw) (w_23 hw) (mkLen pd___BI_C rfl) (by decide)
theorem mk_M_gc2 {W : Wd} (hw : Ws W) : Mk W M_gc2 ⟨"java/lang/StringUTF16", "getChar", "([BI)C"⟩ 2 := Mk.of nm_M_gc2 rfl rfl rfl (w_83 hw) (w_23 hw) (mkLen pd___BI_C rfl) (by decide)
def M_cp1 : Mt := (⟨"java/lang/StringUTF16", "compress", "([CII)[B"⟩, jdk_52_method_16_code, 6, some (.array .byte), ⟨3, 2, 9, 40⟩)
theorem nm_M_cp1 : mN M_cp1 = ⟨"java/lang/StringUTF16", "compress", "([CII)[B"⟩ := by delta mN M_cp1; rfl
set_option maxRecDepth 65536 in
set_option maxHeartbeats 40000000 in
theorem rm_cp1 {W : Wd} (hw : Ws W) (a : Addr) (r : Bool) (ex : Bool) (ov : Bool) (c0 : Int32) (c1 : Int32) (c2 : Int32) (F : List En) (h0a : ¬ c0 < 0) (h0b : ¬ 65535 < c0) (h1a : ¬ c1 < 0) (h1b : ¬ 65535 < c1) (h2a : ¬ c2 < 0) (h2b : ¬ 65535 < c2) : Ct W M_cp1 [.ref a, .int 0, .int 3] ((a, r, .inr (.char, ex, ov, [.int c0, .int c1, .int c2])) :: F) (fun v H' => (∃ b : Addr, v = some (.ref b) ∧ H' = ((eB b [.int (by8 c0), .int (by8 c1), .int (by8 c2)]) :: (a, r, .inr (.char, ex, ov, [.int c0, .int c1, .int c2])) :: F) ∧ ¬ 255 < c0 ∧ ¬ 255 < c1 ∧ ¬ 255 < c2) ∨ (∃ b : Addr, v = some (.ref b) ∧ H' = ((eB b [.int (lob c0), .int (hib c0), .int (lob c1), .int (hib c1), .int (lob c2), .int (hib c2)]) :: (a, r, .inr (.char, ex, ov, [.int c0, .int c1, .int c2])) :: F))) := by
  refine Ct.intro (L0 := [.val (.ref a), .val (.int 0), .val (.int 3), .unset, .unset, .unset]) (plainFor_of_name pf_java_lang_StringUTF16) rfl (fun K => ?_)
  refine Wp.iloadN rfl d_jdk_52_16_0 ?_
  refine Wp.newP (kk := 3) (vs := [.int 0, .int 0, .int 0]) d_jdk_52_16_1 (w_25 hw) (by decide) (by decide) (by decide) (by decide) (by decide) rfl (fun a1 => ?_)
  refine Wp.astoreN (L' := [.val (.ref a), .val (.int 0), .val (.int 3), .val (.ref a1), .unset, .unset]) rfl rfl d_jdk_52_16_3 ?_
  refine Wp.aloadN rfl rfl d_jdk_52_16_4 ?_
  refine Wp.iloadN rfl d_jdk_52_16_5 ?_
  refine Wp.aloadN rfl rfl d_jdk_52_16_6 ?_
  refine Wp.iconst lc_0 d_jdk_52_16_7 ?_
  refine Wp.iloadN rfl d_jdk_52_16_8 ?_
  refine Wp.perm [1, 0] 2 pp_1_0 (H' := ((a, r, .inr (.char, ex, ov, [.int c0, .int c1, .int c2])) :: (eB a1 [.int 0, .int 0, .int 0]) :: F)) rfl ?_
  refine Wp.callS nm_M_cp1 (rm_cp2 hw a a1 r ex ov c0 c1 c2 _ ) (mk_M_cp2 hw) (w_26 hw) (w_27 hw) rfl rfl (Wn := 0) rfl rfl (by decide) d_jdk_52_16_9 ?_
  rintro _ _ (⟨rfl, rfl, hf2, hf3, hf4⟩ | ⟨rfl, rfl, hf5⟩ | ⟨rfl, rfl, hf6⟩ | ⟨rfl, rfl, hf7⟩)
  · refine Wp.istore (L' := [.val (.ref a), .val (.int 0), .val (.int 3), .val (.ref a1), .val (.int 3), .unset]) rfl d_jdk_52_16_12 ?_
    refine Wp.iload rfl d_jdk_52_16_14 ?_
    refine Wp.iloadN rfl d_jdk_52_16_16 ?_
    refine Wp.icT (by decide) d_jdk_52_16_17 ?_
    refine Wp.aloadN rfl rfl d_jdk_52_16_57 ?_
    refine Wp.perm [1, 0] 2 pp_1_0 (H' := ((eB a1 [.int (by8 c0), .int (by8 c1), .int (by8 c2)]) :: (a, r, .inr (.char, ex, ov, [.int c0, .int c1, .int c2])) :: F)) rfl ?_
    refine Wp.aret rfl rfl rfl d_jdk_52_16_58 (by decide) (by decide) ?_
    exact Or.inl ⟨a1, rfl, rfl, hf2, hf3, hf4⟩
  · refine Wp.istore (L' := [.val (.ref a), .val (.int 0), .val (.int 3), .val (.ref a1), .val (.int 0), .unset]) rfl d_jdk_52_16_12 ?_
    refine Wp.iload rfl d_jdk_52_16_14 ?_
    refine Wp.iloadN rfl d_jdk_52_16_16 ?_
    refine Wp.icF (by decide) d_jdk_52_16_17 ?_
    refine Wp.aloadN rfl rfl d_jdk_52_16_20 ?_
    refine Wp.iloadN rfl d_jdk_52_16_21 ?_
    refine Wp.iloadN rfl d_jdk_52_16_22 ?_
    refine Wp.callS nm_M_cp1 (rm_tb hw a r ex ov c0 c1 c2 _ ) (mk_M_tb hw) (w_65 hw) (w_66 hw) rfl rfl (Wn := 0) rfl rfl (by decide) d_jdk_52_16_23 ?_
    rintro _ _ ⟨b_8, rfl, rfl⟩
    refine Wp.astore (L' := [.val (.ref a), .val (.int 0), .val (.int 3), .val (.ref a1), .val (.int 0), .val (.ref b_8)]) rfl rfl d_jdk_52_16_26 ?_
    refine Wp.aload rfl rfl d_jdk_52_16_28 ?_
    refine Wp.iload rfl d_jdk_52_16_30 ?_
    refine Wp.callS nm_M_cp1 (rm_gc0 hw b_8 c0 (lob c1) (hib c1) (lob c2) (hib c2) _ h0a h0b) (mk_M_gc0 hw) (w_81 hw) (w_82 hw) rfl rfl (Wn := 0) rfl rfl (by decide) d_jdk_52_16_32 ?_
    rintro _ _ ⟨rfl, rfl⟩
    refine Wp.sipush ls_255 d_jdk_52_16_35 ?_
    refine Wp.icT (tlt hf5).2.2.1 d_jdk_52_16_38 ?_
    refine Wp.aload rfl rfl d_jdk_52_16_54 ?_
    refine Wp.less ((((List.Sublist.refl _).cons _).cons_cons _).cons_cons _) ?_
    refine Wp.aret rfl rfl rfl d_jdk_52_16_56 (by decide) (by decide) ?_
    exact Or.inr (⟨b_8, rfl, rfl⟩)
  · refine Wp.istore (L' := [.val (.ref a), .val (.int 0), .val (.int 3), .val (.ref a1), .val (.int 1), .unset]) rfl d_jdk_52_16_12 ?_
    refine Wp.iload rfl d_jdk_52_16_14 ?_
    refine Wp.iloadN rfl d_jdk_52_16_16 ?_
    refine Wp.icF (by decide) d_jdk_52_16_17 ?_
    refine Wp.aloadN rfl rfl d_jdk_52_16_20 ?_
    refine Wp.iloadN rfl d_jdk_52_16_21 ?_
    refine Wp.iloadN rfl d_jdk_52_16_22 ?_
    refine Wp.callS nm_M_cp1 (rm_tb hw a r ex ov c0 c1 c2 _ ) (mk_M_tb hw) (w_65 hw) (w_66 hw) rfl rfl (Wn := 0) rfl rfl (by decide) d_jdk_52_16_23 ?_
    rintro _ _ ⟨b_9, rfl, rfl⟩
    refine Wp.astore (L' := [.val (.ref a), .val (.int 0), .val (.int 3), .val (.ref a1), .val (.int 1), .val (.ref b_9)]) rfl rfl d_jdk_52_16_26 ?_
    refine Wp.aload rfl rfl d_jdk_52_16_28 ?_
    refine Wp.iload rfl d_jdk_52_16_30 ?_
    refine Wp.callS nm_M_cp1 (rm_gc1 hw b_9 c1 (lob c0) (hib c0) (lob c2) (hib c2) _ h1a h1b) (mk_M_gc1 hw) (w_81 hw) (w_82 hw) rfl rfl (Wn := 0) rfl rfl (by decide) d_jdk_52_16_32 ?_
    rintro _ _ ⟨rfl, rfl⟩
    refine Wp.sipush ls_255 d_jdk_52_16_35 ?_
    refine Wp.icT (tlt hf6).2.2.1 d_jdk_52_16_38 ?_
    refine Wp.aload rfl rfl d_jdk_52_16_54 ?_
    refine Wp.less ((((List.Sublist.refl _).cons _).cons_cons _).cons_cons _) ?_
    refine Wp.aret rfl rfl rfl d_jdk_52_16_56 (by decide) (by decide) ?_
    exact Or.inr (⟨b_9, rfl, rfl⟩)
  · refine Wp.istore (L' := [.val (.ref a), .val (.int 0), .val (.int 3), .val (.ref a1), .val (.int 2), .unset]) rfl d_jdk_52_16_12 ?_
    refine Wp.iload rfl d_jdk_52_16_14 ?_
    refine Wp.iloadN rfl d_jdk_52_16_16 ?_
    refine Wp.icF (by decide) d_jdk_52_16_17 ?_
    refine Wp.aloadN rfl rfl d_jdk_52_16_20 ?_
    refine Wp.iloadN rfl d_jdk_52_16_21 ?_
    refine Wp.iloadN rfl d_jdk_52_16_22 ?_
    refine Wp.callS nm_M_cp1 (rm_tb hw a r ex ov c0 c1 c2 _ ) (mk_M_tb hw) (w_65 hw) (w_66 hw) rfl rfl (Wn := 0) rfl rfl (by decide) d_jdk_52_16_23 ?_
    rintro _ _ ⟨b_10, rfl, rfl⟩
    refine Wp.astore (L' := [.val (.ref a), .val (.int 0), .val (.int 3), .val (.ref a1), .val (.int 2), .val (.ref b_10)]) rfl rfl d_jdk_52_16_26 ?_
    refine Wp.aload rfl rfl d_jdk_52_16_28 ?_
    refine Wp.iload rfl d_jdk_52_16_30 ?_
    refine Wp.callS nm_M_cp1 (rm_gc2 hw b_10 c2 (lob c0) (hib c0) (lob c1) (hib c1) _ h2a h2b) (mk_M_gc2 hw) (w_81 hw) (w_82 hw) rfl rfl (Wn := 0) rfl rfl (by decide) d_jdk_52_16_32 ?_
    rintro _ _ ⟨rfl, rfl⟩
    refine Wp.sipush ls_255 d_jdk_52_16_35 ?_
    refine Wp.icT (tlt hf7).2.2.1 d_jdk_52_16_38 ?_
    refine Wp.aload rfl rfl d_jdk_52_16_54 ?_
    refine Wp.less ((((List.Sublist.refl _).cons _).cons_cons _).cons_cons _) ?_
    refine Wp.aret rfl rfl rfl d_jdk_52_16_56 (by decide) (by decide) ?_
    exact Or.inr (⟨b_10, rfl, rfl⟩)
theorem d_jdk_52_15_0 : Dc jdk_52_method_15_code 0 (.iload_n 1) 1 1 := ⟨by decide +kernel, rfl⟩
theorem d_jdk_52_15_1 : Dc jdk_52_method_15_code 1 (.aload_n 0) 1 2 := ⟨by decide +kernel, rfl⟩
theorem d_jdk_52_15_2 : Dc jdk_52_method_15_code 2 (.arraylength) 1 3 := ⟨by decide +kernel, rfl⟩
theorem d_jdk_52_15_3 : Dc jdk_52_method_15_code 3 (.isub) 1 4 := ⟨by decide +kernel, rfl⟩
theorem d_jdk_52_15_4 : Dc jdk_52_method_15_code 4 (.bipush 31) 2 6 := ⟨by decide +kernel, rfl⟩
theorem lb_31 : (Int8.ofInt 31).toInt32 = 31 := by decide
theorem d_jdk_52_15_6 : Dc jdk_52_method_15_code 6 (.iushr) 1 7 := ⟨by decide +kernel, rfl⟩
theorem d_jdk_52_15_7 : Dc jdk_52_method_15_code 7 (.i2b) 1 8 := ⟨by decide +kernel, rfl⟩
theorem d_jdk_52_15_8 : Dc jdk_52_method_15_code 8 (.ireturn) 1 9 := ⟨by decide +kernel, rfl⟩
def M_cf3 : Mt := (⟨"java/lang/StringUTF16", "coderFromArrayLen", "([BI)B"⟩, jdk_52_method_15_code, 2, some .byte, ⟨0, 0, 0, 0⟩)
theorem nm_M_cf3 : mN M_cf3 = ⟨"java/lang/StringUTF16", "coderFromArrayLen", "([BI)B"⟩ := by delta mN M_cf3; rfl
set_option maxRecDepth 65536 in
set_option maxHeartbeats 40000000 in
theorem rm_cf3 {W : Wd} (hw : Ws W) (b : Addr) (x0 : Int32) (x1 : Int32) (x2 : Int32) (F : List En) : Ct W M_cf3 [.ref b, .int 3] ((eB b [.int x0, .int x1, .int x2]) :: F) (fun v H' => v = some (.int 0) ∧ H' = ((eB b [.int x0, .int x1, .int x2]) :: F)) := by
  refine Ct.intro (L0 := [.val (.ref b), .val (.int 3)]) (plainFor_of_name pf_java_lang_StringUTF16) rfl (fun K => ?_)
  refine Wp.iloadN rfl d_jdk_52_15_0 ?_
  refine Wp.aloadN rfl rfl d_jdk_52_15_1 ?_
  refine Wp.alen (z := 3) 0 rfl rfl d_jdk_52_15_2 ?_
  refine Wp.isub (z := 0) (by decide) d_jdk_52_15_3 ?_
  refine Wp.bipush lb_31 d_jdk_52_15_4 ?_
  refine Wp.iushr (z := 0) (by decide) d_jdk_52_15_6 ?_
  refine Wp.i2b (z := 0) (by decide) d_jdk_52_15_7 ?_
  refine Wp.iretN (z := 0) (by simp) rfl (by decide) d_jdk_52_15_8 (by decide) (by decide) ?_
  exact ⟨rfl, rfl⟩
def M_cf6 : Mt := (⟨"java/lang/StringUTF16", "coderFromArrayLen", "([BI)B"⟩, jdk_52_method_15_code, 2, some .byte, ⟨0, 0, 0, 0⟩)
theorem nm_M_cf6 : mN M_cf6 = ⟨"java/lang/StringUTF16", "coderFromArrayLen", "([BI)B"⟩ := by delta mN M_cf6; rfl
set_option maxRecDepth 65536 in
set_option maxHeartbeats 40000000 in
theorem rm_cf6 {W : Wd} (hw : Ws W) (b : Addr) (x0 : Int32) (x1 : Int32) (x2 : Int32) (x3 : Int32) (x4 : Int32) (x5 : Int32) (F : List En) : Ct W M_cf6 [.ref b, .int 3] ((eB b [.int x0, .int x1, .int x2, .int x3, .int x4, .int x5]) :: F) (fun v H' => v = some (.int 1) ∧ H' = ((eB b [.int x0, .int x1, .int x2, .int x3, .int x4, .int x5]) :: F)) := by
  refine Ct.intro (L0 := [.val (.ref b), .val (.int 3)]) (plainFor_of_name pf_java_lang_StringUTF16) rfl (fun K => ?_)
  refine Wp.iloadN rfl d_jdk_52_15_0 ?_
  refine Wp.aloadN rfl rfl d_jdk_52_15_1 ?_
  refine Wp.alen (z := 6) 0 rfl rfl d_jdk_52_15_2 ?_
  refine Wp.isub (z := (-3)) (by decide) d_jdk_52_15_3 ?_
  refine Wp.bipush lb_31 d_jdk_52_15_4 ?_
  refine Wp.iushr (z := 1) (by decide) d_jdk_52_15_6 ?_
  refine Wp.i2b (z := 1) (by decide) d_jdk_52_15_7 ?_
  refine Wp.iretN (z := 1) (by simp) rfl (by decide) d_jdk_52_15_8 (by decide) (by decide) ?_
  exact ⟨rfl, rfl⟩
theorem d_jdk_42_149_0 : Dc jdk_42_method_149_code 0 (.aload_n 0) 1 1 := ⟨by decide +kernel, rfl⟩
theorem d_jdk_42_149_1 : Dc jdk_42_method_149_code 1 (.invokespecial 1) 3 4 := ⟨by decide +kernel, rfl⟩
theorem w_17 {W : Wd} (hw : Ws W) : Wok W (Jvm.Cond.methodLink "java/lang/String" (1 : Nat) ({ cls := "java/lang/Object", name := "<init>", desc := "()V" } : Jvm.MethodName)) := hw.1 _ (List.mem_of_getElem? (i := 17) rfl)
theorem w_18 {W : Wd} (hw : Ws W) : Wok W (Jvm.Cond.instanceMethod ({ cls := "java/lang/Object", name := "<init>", desc := "()V" } : Jvm.MethodName)) := hw.1 _ (List.mem_of_getElem? (i := 18) rfl)
theorem w_19 {W : Wd} (hw : Ws W) : Wok W (Jvm.Cond.code ({ cls := "java/lang/Object", name := "<init>", desc := "()V" } : Jvm.MethodName) object_method_1_code (1 : Nat) (Option.none : Option Jvm.ClassFile.FieldType)) := hw.1 _ (List.mem_of_getElem? (i := 19) rfl)
theorem d_jdk_42_149_4 : Dc jdk_42_method_149_code 4 (.iload_n 3) 1 5 := ⟨by decide +kernel, rfl⟩
theorem d_jdk_42_149_5 : Bj jdk_42_method_149_code 5 (.ifCond .ne 22) 22 8 27 := ⟨by decide +kernel, rfl, by decide, rfl⟩
theorem d_jdk_42_149_27 : Dc jdk_42_method_149_code 27 (.getstatic 38) 3 30 := ⟨by decide +kernel, rfl⟩
theorem w_20 {W : Wd} (hw : Ws W) : Wok W (Jvm.Cond.fieldLink "java/lang/String" (38 : Nat) "java/lang/String" "COMPACT_STRINGS" "Z") := hw.1 _ (List.mem_of_getElem? (i := 20) rfl)
theorem d_jdk_42_149_30 : Bj jdk_42_method_149_code 30 (.ifCond .eq 28) 28 33 58 := ⟨by decide +kernel, rfl, by decide, rfl⟩
theorem d_jdk_42_149_33 : Dc jdk_42_method_149_code 33 (.aload_n 1) 1 34 := ⟨by decide +kernel, rfl⟩
theorem d_jdk_42_149_34 : Dc jdk_42_method_149_code 34 (.iload_n 2) 1 35 := ⟨by decide +kernel, rfl⟩
theorem d_jdk_42_149_35 : Dc jdk_42_method_149_code 35 (.iload_n 3) 1 36 := ⟨by decide +kernel, rfl⟩
theorem d_jdk_42_149_36 : Dc jdk_42_method_149_code 36 (.invokestatic 177) 3 39 := ⟨by decide +kernel, rfl⟩
theorem w_24 {W : Wd} (hw : Ws W) : Wok W (Jvm.Cond.code ({ cls := "java/lang/StringUTF16", name := "compress", desc := "([CII)[B" } : Jvm.MethodName) jdk_52_method_16_code (6 : Nat) (Option.some (Jvm.ClassFile.FieldType.array Jvm.ClassFile.FieldType.byte))) := hw.1 _ (List.mem_of_getElem? (i := 24) rfl)
theorem mk_M_cp1 {W : Wd} (hw : Ws W) : Mk W M_cp1 ⟨"java/lang/StringUTF16", "compress", "([CII)[B"⟩ 3 := Mk.of nm_M_cp1 rfl rfl rfl (w_24 hw) (w_23 hw) (mkLen pd___CII__B rfl) (by decide)
theorem w_21 {W : Wd} (hw : Ws W) : Wok W (Jvm.Cond.methodLink "java/lang/String" (177 : Nat) ({ cls := "java/lang/StringUTF16", name := "compress", desc := "([CII)[B" } : Jvm.MethodName)) := hw.1 _ (List.mem_of_getElem? (i := 21) rfl)
theorem w_22 {W : Wd} (hw : Ws W) : Wok W (Jvm.Cond.static ({ cls := "java/lang/StringUTF16", name := "compress", desc := "([CII)[B" } : Jvm.MethodName)) := hw.1 _ (List.mem_of_getElem? (i := 22) rfl)
theorem d_jdk_42_149_39 : Dc jdk_42_method_149_code 39 (.astore 5) 2 41 := ⟨by decide +kernel, rfl⟩
theorem d_jdk_42_149_41 : Dc jdk_42_method_149_code 41 (.aload_n 0) 1 42 := ⟨by decide +kernel, rfl⟩
theorem d_jdk_42_149_42 : Dc jdk_42_method_149_code 42 (.aload 5) 2 44 := ⟨by decide +kernel, rfl⟩
theorem d_jdk_42_149_44 : Dc jdk_42_method_149_code 44 (.iload_n 3) 1 45 := ⟨by decide +kernel, rfl⟩
theorem d_jdk_42_149_45 : Dc jdk_42_method_149_code 45 (.invokestatic 47) 3 48 := ⟨by decide +kernel, rfl⟩
theorem w_31 {W : Wd} (hw : Ws W) : Wok W (Jvm.Cond.code ({ cls := "java/lang/StringUTF16", name := "coderFromArrayLen", desc := "([BI)B" } : Jvm.MethodName) jdk_52_method_15_code (2 : Nat) (Option.some Jvm.ClassFile.FieldType.byte)) := hw.1 _ (List.mem_of_getElem? (i := 31) rfl)
theorem pd___BI_B : parseMethodDescriptor "([BI)B" = some ⟨[(.array .byte), .int], some .byte⟩ := by decide +kernel
theorem mk_M_cf3 {W : Wd} (hw : Ws W) : Mk W M_cf3 ⟨"java/lang/StringUTF16", "coderFromArrayLen", "([BI)B"⟩ 2 := Mk.of nm_M_cf3 rfl rfl rfl (w_31 hw) (w_23 hw) (mkLen pd___BI_B rfl) (by decide)
theorem w_29 {W : Wd} (hw : Ws W) : Wok W (Jvm.Cond.methodLink "java/lang/String" (47 : Nat) ({ cls := "java/lang/StringUTF16", name := "coderFromArrayLen", desc := "([BI)B" } : Jvm.MethodName)) := hw.1 _ (List.mem_of_getElem? (i := 29) rfl)
theorem w_30 {W : Wd} (hw : Ws W) : Wok W (Jvm.Cond.static ({ cls := "java/lang/StringUTF16", name := "coderFromArrayLen", desc := "([BI)B" } : Jvm.MethodName)) := hw.1 _ (List.mem_of_getElem? (i := 30) rfl)
theorem d_jdk_42_149_48 : Dc jdk_42_method_149_code 48 (.putfield 15) 3 51 := ⟨by decide +kernel, rfl⟩
theorem w_33 {W : Wd} (hw : Ws W) : Wok W (Jvm.Cond.laysFinal "java/lang/String" "java/lang/String" "coder" "B") := hw.1 _ (List.mem_of_getElem? (i := 33) rfl)
theorem w_32 {W : Wd} (hw : Ws W) : Wok W (Jvm.Cond.fieldLink "java/lang/String" (15 : Nat) "java/lang/String" "coder" "B") := hw.1 _ (List.mem_of_getElem? (i := 32) rfl)
theorem w_8 {W : Wd} (hw : Ws W) : Wok W (Jvm.Cond.instantiable "java/lang/String" (4 : Nat)) := hw.1 _ (List.mem_of_getElem? (i := 8) rfl)
theorem d_jdk_42_149_51 : Dc jdk_42_method_149_code 51 (.aload_n 0) 1 52 := ⟨by decide +kernel, rfl⟩
theorem d_jdk_42_149_52 : Dc jdk_42_method_149_code 52 (.aload 5) 2 54 := ⟨by decide +kernel, rfl⟩
theorem d_jdk_42_149_54 : Dc jdk_42_method_149_code 54 (.putfield 9) 3 57 := ⟨by decide +kernel, rfl⟩
theorem w_35 {W : Wd} (hw : Ws W) : Wok W (Jvm.Cond.laysFinal "java/lang/String" "java/lang/String" "value" "[B") := hw.1 _ (List.mem_of_getElem? (i := 35) rfl)
theorem w_34 {W : Wd} (hw : Ws W) : Wok W (Jvm.Cond.fieldLink "java/lang/String" (9 : Nat) "java/lang/String" "value" "[B") := hw.1 _ (List.mem_of_getElem? (i := 34) rfl)
theorem d_jdk_42_149_57 : Dc jdk_42_method_149_code 57 (.return_) 1 58 := ⟨by decide +kernel, rfl⟩
theorem pp_2_0_1 : [2, 0, 1].isPerm (List.range 3) = true := by decide +kernel
theorem mk_M_cf6 {W : Wd} (hw : Ws W) : Mk W M_cf6 ⟨"java/lang/StringUTF16", "coderFromArrayLen", "([BI)B"⟩ 2 := Mk.of nm_M_cf6 rfl rfl rfl (w_31 hw) (w_23 hw) (mkLen pd___BI_B rfl) (by decide)
def M_si2 : Mt := (⟨"java/lang/String", "<init>", "([CIILjava/lang/Void;)V"⟩, jdk_42_method_149_code, 6, none, ⟨4, 2, 9, 57⟩)
theorem nm_M_si2 : mN M_si2 = ⟨"java/lang/String", "<init>", "([CIILjava/lang/Void;)V"⟩ := by delta mN M_si2; rfl
theorem pf_java_lang_String : plainName "java/lang/String" = true := by first | (simp [plainName, overriddenIn]; done) | decide +kernel
set_option maxRecDepth 65536 in
set_option maxHeartbeats 40000000 in
theorem rm_si2 {W : Wd} (hw : Ws W) (s : Addr) (a : Addr) (r : Bool) (ex : Bool) (ov : Bool) (c0 : Int32) (c1 : Int32) (c2 : Int32) (F : List En) (h0a : ¬ c0 < 0) (h0b : ¬ 65535 < c0) (h1a : ¬ c1 < 0) (h1b : ¬ 65535 < c1) (h2a : ¬ c2 < 0) (h2b : ¬ 65535 < c2) : Ct W M_si2 [.ref s, .ref a, .int 0, .int 3, .null] ((oStr true s (.null) (.int 0)) :: (a, r, .inr (.char, ex, ov, [.int c0, .int c1, .int c2])) :: F) (fun v H' => (∃ b : Addr, v = none ∧ H' = ((oStr true s (.ref b) (.int 0)) :: (eB b [.int (by8 c0), .int (by8 c1), .int (by8 c2)]) :: (a, r, .inr (.char, ex, ov, [.int c0, .int c1, .int c2])) :: F) ∧ ¬ 255 < c0 ∧ ¬ 255 < c1 ∧ ¬ 255 < c2) ∨ (∃ b : Addr, v = none ∧ H' = ((oStr true s (.ref b) (.int 1)) :: (eB b [.int (lob c0), .int (hib c0), .int (lob c1), .int (hib c1), .int (lob c2), .int (hib c2)]) :: (a, r, .inr (.char, ex, ov, [.int c0, .int c1, .int c2])) :: F))) := by
  refine Ct.intro (L0 := [.val (.ref s), .val (.ref a), .val (.int 0), .val (.int 3), .val (.null), .unset]) (plainFor_of_name pf_java_lang_String) rfl (fun K => ?_)
  refine Wp.aloadN rfl rfl d_jdk_42_149_0 ?_
  refine Wp.initO nm_M_si2 (w_17 hw) (w_18 hw) (w_19 hw) (Wn := 0) rfl rfl (by decide) (by decide) d_jdk_42_149_1 ?_
  refine Wp.iloadN rfl d_jdk_42_149_4 ?_
  refine Wp.ifT (by decide) d_jdk_42_149_5 ?_
  obtain ⟨cs1, Fcs1, ncs1⟩ := st_compact hw
  refine Wp.getS nm_M_si2 (w_20 hw) Via.refl Fcs1 d_jdk_42_149_27 ?_
  refine Wp.ifF (feq ncs1).1 d_jdk_42_149_30 ?_
  refine Wp.aloadN rfl rfl d_jdk_42_149_33 ?_
  refine Wp.iloadN rfl d_jdk_42_149_34 ?_
  refine Wp.iloadN rfl d_jdk_42_149_35 ?_
  refine Wp.perm [1, 0] 2 pp_1_0 (H' := ((a, r, .inr (.char, ex, ov, [.int c0, .int c1, .int c2])) :: (oStr true s (.null) (.int 0)) :: F)) rfl ?_
  refine Wp.callS nm_M_si2 (rm_cp1 hw a r ex ov c0 c1 c2 _ h0a h0b h1a h1b h2a h2b) (mk_M_cp1 hw) (w_21 hw) (w_22 hw) rfl rfl (Wn := 0) rfl rfl (by decide) d_jdk_42_149_36 ?_
  rintro _ _ (⟨b_2, rfl, rfl, hf3, hf4, hf5⟩ | ⟨b_6, rfl, rfl⟩)
  · refine Wp.astore (L' := [.val (.ref s), .val (.ref a), .val (.int 0), .val (.int 3), .val (.null), .val (.ref b_2)]) rfl rfl d_jdk_42_149_39 ?_
    refine Wp.aloadN rfl rfl d_jdk_42_149_41 ?_
    refine Wp.aload rfl rfl d_jdk_42_149_42 ?_
    refine Wp.iloadN rfl d_jdk_42_149_44 ?_
    refine Wp.callS nm_M_si2 (rm_cf3 hw b_2 (by8 c0) (by8 c1) (by8 c2) _ ) (mk_M_cf3 hw) (w_29 hw) (w_30 hw) rfl rfl (Wn := 1) rfl rfl (by decide) d_jdk_42_149_45 ?_
    rintro _ _ ⟨rfl, rfl⟩
    refine Wp.putF nm_M_si2 (host := "") (Or.inl (w_32 hw)) Via.refl 2 1 rfl rfl (Or.inr ⟨(w_33 hw), rfl, rfl⟩) (w_8 hw) (ty := .byte) (by decide) rfl rfl d_jdk_42_149_48 (H' := ((eB b_2 [.int (by8 c0), .int (by8 c1), .int (by8 c2)]) :: (a, r, .inr (.char, ex, ov, [.int c0, .int c1, .int c2])) :: (oStr true s (.null) (.int 0)) :: F)) rfl ?_
    refine Wp.aloadN rfl rfl d_jdk_42_149_51 ?_
    refine Wp.aload rfl rfl d_jdk_42_149_52 ?_
    refine Wp.putF nm_M_si2 (host := "") (Or.inl (w_34 hw)) Via.refl 2 0 rfl rfl (Or.inr ⟨(w_35 hw), rfl, rfl⟩) (w_8 hw) (ty := (.array .byte)) (by decide) rfl rfl d_jdk_42_149_54 (H' := ((eB b_2 [.int (by8 c0), .int (by8 c1), .int (by8 c2)]) :: (a, r, .inr (.char, ex, ov, [.int c0, .int c1, .int c2])) :: (oStr true s (.ref b_2) (.int 0)) :: F)) rfl ?_
    refine Wp.perm [2, 0, 1] 3 pp_2_0_1 (H' := ((oStr true s (.ref b_2) (.int 0)) :: (eB b_2 [.int (by8 c0), .int (by8 c1), .int (by8 c2)]) :: (a, r, .inr (.char, ex, ov, [.int c0, .int c1, .int c2])) :: F)) rfl ?_
    refine Wp.ret rfl d_jdk_42_149_57 (by decide) (by decide) ?_
    exact Or.inl ⟨b_2, rfl, rfl, hf3, hf4, hf5⟩
  · refine Wp.astore (L' := [.val (.ref s), .val (.ref a), .val (.int 0), .val (.int 3), .val (.null), .val (.ref b_6)]) rfl rfl d_jdk_42_149_39 ?_
    refine Wp.aloadN rfl rfl d_jdk_42_149_41 ?_
    refine Wp.aload rfl rfl d_jdk_42_149_42 ?_
    refine Wp.iloadN rfl d_jdk_42_149_44 ?_
    refine Wp.callS nm_M_si2 (rm_cf6 hw b_6 (lob c0) (hib c0) (lob c1) (hib c1) (lob c2) (hib c2) _ ) (mk_M_cf6 hw) (w_29 hw) (w_30 hw) rfl rfl (Wn := 1) rfl rfl (by decide) d_jdk_42_149_45 ?_
    rintro _ _ ⟨rfl, rfl⟩
    refine Wp.putF nm_M_si2 (host := "") (Or.inl (w_32 hw)) Via.refl 2 1 rfl rfl (Or.inr ⟨(w_33 hw), rfl, rfl⟩) (w_8 hw) (ty := .byte) (by decide) rfl rfl d_jdk_42_149_48 (H' := ((eB b_6 [.int (lob c0), .int (hib c0), .int (lob c1), .int (hib c1), .int (lob c2), .int (hib c2)]) :: (a, r, .inr (.char, ex, ov, [.int c0, .int c1, .int c2])) :: (oStr true s (.null) (.int 1)) :: F)) rfl ?_
    refine Wp.aloadN rfl rfl d_jdk_42_149_51 ?_
    refine Wp.aload rfl rfl d_jdk_42_149_52 ?_
    refine Wp.putF nm_M_si2 (host := "") (Or.inl (w_34 hw)) Via.refl 2 0 rfl rfl (Or.inr ⟨(w_35 hw), rfl, rfl⟩) (w_8 hw) (ty := (.array .byte)) (by decide) rfl rfl d_jdk_42_149_54 (H' := ((eB b_6 [.int (lob c0), .int (hib c0), .int (lob c1), .int (hib c1), .int (lob c2), .int (hib c2)]) :: (a, r, .inr (.char, ex, ov, [.int c0, .int c1, .int c2])) :: (oStr true s (.ref b_6) (.int 1)) :: F)) rfl ?_
    refine Wp.perm [2, 0, 1] 3 pp_2_0_1 (H' := ((oStr true s (.ref b_6) (.int 1)) :: (eB b_6 [.int (lob c0), .int (hib c0), .int (lob c1), .int (hib c1), .int (lob c2), .int (hib c2)]) :: (a, r, .inr (.char, ex, ov, [.int c0, .int c1, .int c2])) :: F)) rfl ?_
    refine Wp.ret rfl d_jdk_42_149_57 (by decide) (by decide) ?_
    exact Or.inr (⟨b_6, rfl, rfl⟩)
theorem d_jdk_42_3_0 : Dc jdk_42_method_3_code 0 (.aload_n 0) 1 1 := ⟨by decide +kernel, rfl⟩
theorem d_jdk_42_3_1 : Dc jdk_42_method_3_code 1 (.aload_n 1) 1 2 := ⟨by decide +kernel, rfl⟩
theorem d_jdk_42_3_2 : Dc jdk_42_method_3_code 2 (.iconst 0) 1 3 := ⟨by decide +kernel, rfl⟩
theorem d_jdk_42_3_3 : Dc jdk_42_method_3_code 3 (.aload_n 1) 1 4 := ⟨by decide +kernel, rfl⟩
theorem d_jdk_42_3_4 : Dc jdk_42_method_3_code 4 (.arraylength) 1 5 := ⟨by decide +kernel, rfl⟩
theorem d_jdk_42_3_5 : Dc jdk_42_method_3_code 5 (.aconst_null) 1 6 := ⟨by decide +kernel, rfl⟩
theorem d_jdk_42_3_6 : Dc jdk_42_method_3_code 6 (.invokespecial 27) 3 9 := ⟨by decide +kernel, rfl⟩
theorem w_16 {W : Wd} (hw : Ws W) : Wok W (Jvm.Cond.code ({ cls := "java/lang/String", name := "<init>", desc := "([CIILjava/lang/Void;)V" } : Jvm.MethodName) jdk_42_method_149_code (6 : Nat) (Option.none : Option Jvm.ClassFile.FieldType)) := hw.1 _ (List.mem_of_getElem? (i := 16) rfl)
theorem w_9 {W : Wd} (hw : Ws W) : Wok W (Jvm.Cond.initialized "java/lang/String") := hw.1 _ (List.mem_of_getElem? (i := 9) rfl)
theorem pd___CIILjava_lang_Void__V : parseMethodDescriptor "([CIILjava/lang/Void;)V" = some ⟨[(.array .char), .int, .int, (.object "java/lang/Void")], none⟩ := by decide +kernel
theorem mk_M_si2 {W : Wd} (hw : Ws W) : Mk W M_si2 ⟨"java/lang/String", "<init>", "([CIILjava/lang/Void;)V"⟩ 4 := Mk.of nm_M_si2 rfl rfl rfl (w_16 hw) (w_9 hw) (mkLen pd___CIILjava_lang_Void__V rfl) (by decide)
theorem w_13 {W : Wd} (hw : Ws W) : Wok W (Jvm.Cond.methodLink "java/lang/String" (27 : Nat) ({ cls := "java/lang/String", name := "<init>", desc := "([CIILjava/lang/Void;)V" } : Jvm.MethodName)) := hw.1 _ (List.mem_of_getElem? (i := 13) rfl)
theorem w_14 {W : Wd} (hw : Ws W) : Wok W (Jvm.Cond.instanceMethod ({ cls := "java/lang/String", name := "<init>", desc := "([CIILjava/lang/Void;)V" } : Jvm.MethodName)) := hw.1 _ (List.mem_of_getElem? (i := 14) rfl)
theorem d_jdk_42_3_9 : Dc jdk_42_method_3_code 9 (.return_) 1 10 := ⟨by decide +kernel, rfl⟩
def M_si : Mt := (⟨"java/lang/String", "<init>", "([C)V"⟩, jdk_42_method_3_code, 2, none, ⟨5, 2, 9, 74⟩)
theorem nm_M_si : mN M_si = ⟨"java/lang/String", "<init>", "([C)V"⟩ := by delta mN M_si; rfl
set_option maxRecDepth 65536 in
set_option maxHeartbeats 40000000 in
theorem rm_si {W : Wd} (hw : Ws W) (s : Addr) (a : Addr) (r : Bool) (ex : Bool) (ov : Bool) (c0 : Int32) (c1 : Int32) (c2 : Int32) (F : List En) (h0a : ¬ c0 < 0) (h0b : ¬ 65535 < c0) (h1a : ¬ c1 < 0) (h1b : ¬ 65535 < c1) (h2a : ¬ c2 < 0) (h2b : ¬ 65535 < c2) : Ct W M_si [.ref s, .ref a] ((oStr true s (.null) (.int 0)) :: (a, r, .inr (.char, ex, ov, [.int c0, .int c1, .int c2])) :: F) (fun v H' => (∃ b : Addr, v = none ∧ H' = ((oStr true s (.ref b) (.int 0)) :: (eB b [.int (by8 c0), .int (by8 c1), .int (by8 c2)]) :: (a, r, .inr (.char, ex, ov, [.int c0, .int c1, .int c2])) :: F) ∧ ¬ 255 < c0 ∧ ¬ 255 < c1 ∧ ¬ 255 < c2) ∨ (∃ b : Addr, v = none ∧ H' = ((oStr true s (.ref b) (.int 1)) :: (eB b [.int (lob c0), .int (hib c0), .int (lob c1), .int (hib c1), .int (lob c2), .int (hib c2)]) :: (a, r, .inr (.char, ex, ov, [.int c0, .int c1, .int c2])) :: F))) := by
  refine Ct.intro (L0 := [.val (.ref s), .val (.ref a)]) (plainFor_of_name pf_java_lang_String) rfl (fun K => ?_)
  refine Wp.aloadN rfl rfl d_jdk_42_3_0 ?_
  refine Wp.aloadN rfl rfl d_jdk_42_3_1 ?_
  refine Wp.iconst lc_0 d_jdk_42_3_2 ?_
  refine Wp.aloadN rfl rfl d_jdk_42_3_3 ?_
  refine Wp.alen (z := 3) 1 rfl rfl d_jdk_42_3_4 ?_
  refine Wp.aconstNull d_jdk_42_3_5 ?_
  refine Wp.callC nm_M_si (rm_si2 hw s a r ex ov c0 c1 c2 _ h0a h0b h1a h1b h2a h2b) (mk_M_si2 hw) (w_13 hw) (w_14 hw) rfl rfl rfl rfl (Wn := 0) rfl rfl (by decide) d_jdk_42_3_6 ?_
  rintro _ _ (⟨b_1, rfl, rfl, hf2, hf3, hf4⟩ | ⟨b_5, rfl, rfl⟩)
  · refine Wp.ret rfl d_jdk_42_3_9 (by decide) (by decide) ?_
    exact Or.inl ⟨b_1, rfl, rfl, hf2, hf3, hf4⟩
  · refine Wp.ret rfl d_jdk_42_3_9 (by decide) (by decide) ?_
    exact Or.inr (⟨b_5, rfl, rfl⟩)
theorem d_jdk_41_11_0 : Dc jdk_41_method_11_code 0 (.iload_n 0) 1 1 := ⟨by decide +kernel, rfl⟩
theorem d_jdk_41_11_1 : Bj jdk_41_method_11_code 1 (.ifCond .lt 8) 8 4 9 := ⟨by decide +kernel, rfl, by decide, rfl⟩
theorem d_jdk_41_11_4 : Dc jdk_41_method_11_code 4 (.iload_n 0) 1 5 := ⟨by decide +kernel, rfl⟩
theorem d_jdk_41_11_5 : Dc jdk_41_method_11_code 5 (.iload_n 1) 1 6 := ⟨by decide +kernel, rfl⟩
theorem d_jdk_41_11_6 : Bj jdk_41_method_11_code 6 (.if_icmp .lt 10) 10 9 16 := ⟨by decide +kernel, rfl, by decide, rfl⟩
theorem d_jdk_41_11_16 : Dc jdk_41_method_11_code 16 (.iload_n 0) 1 17 := ⟨by decide +kernel, rfl⟩
theorem d_jdk_41_11_17 : Dc jdk_41_method_11_code 17 (.ireturn) 1 18 := ⟨by decide +kernel, rfl⟩
def M_pci : Mt := (⟨"jdk/internal/util/Preconditions", "checkIndex", "(IILjava/util/function/BiFunction;)I"⟩, jdk_41_method_11_code, 3, some .int, ⟨0, 0, 0, 0⟩)
theorem nm_M_pci : mN M_pci = ⟨"jdk/internal/util/Preconditions", "checkIndex", "(IILjava/util/function/BiFunction;)I"⟩ := by delta mN M_pci; rfl
theorem pf_jdk_internal_util_Preconditions : plainName "jdk/internal/util/Preconditions" = true := by first | (simp [plainName, overriddenIn]; done) | decide +kernel
set_option maxRecDepth 65536 in
set_option maxHeartbeats 40000000 in
theorem rm_pci {W : Wd} (hw : Ws W) (i : Int32) (n : Int32) (fm : Value) (F : List En) (hi : ¬ i < 0) (hn : i < n) (hr : fm.isRef = true) : Ct W M_pci [.int i, .int n, fm] F (fun v H' => v = some (.int i) ∧ H' = F) := by
  refine Ct.intro (L0 := [.val (.int i), .val (.int n), .val (fm)]) (plainFor_of_name pf_jdk_internal_util_Preconditions) (by simp only [slotsOf, catR hr]; rfl) (fun K => ?_)
  refine Wp.iloadN rfl d_jdk_41_11_0 ?_
  refine Wp.ifF (flt hi).1 d_jdk_41_11_1 ?_
  refine Wp.iloadN rfl d_jdk_41_11_4 ?_
  refine Wp.iloadN rfl d_jdk_41_11_5 ?_
  refine Wp.icT (tlt hn).1 d_jdk_41_11_6 ?_
  refine Wp.iloadN rfl d_jdk_41_11_16 ?_
  refine Wp.iret rfl d_jdk_41_11_17 (by decide) (by decide) ?_
  exact ⟨rfl, rfl⟩
theorem d_jdk_42_155_0 : Dc jdk_42_method_155_code 0 (.iload_n 0) 1 1 := ⟨by decide +kernel, rfl⟩
theorem d_jdk_42_155_1 : Dc jdk_42_method_155_code 1 (.iload_n 1) 1 2 := ⟨by decide +kernel, rfl⟩
theorem d_jdk_42_155_2 : Dc jdk_42_method_155_code 2 (.getstatic 1053) 3 5 := ⟨by decide +kernel, rfl⟩
theorem w_60 {W : Wd} (hw : Ws W) : Wok W (Jvm.Cond.fieldLink "java/lang/String" (1053 : Nat) "jdk/internal/util/Preconditions" "SIOOBE_FORMATTER" "Ljava/util/function/BiFunction;") := hw.1 _ (List.mem_of_getElem? (i := 60) rfl)
theorem d_jdk_42_155_5 : Dc jdk_42_method_155_code 5 (.invokestatic 1059) 3 8 := ⟨by decide +kernel, rfl⟩
theorem w_64 {W : Wd} (hw : Ws W) : Wok W (Jvm.Cond.code ({ cls := "jdk/internal/util/Preconditions", name := "checkIndex", desc := "(IILjava/util/function/BiFunction;)I" } : Jvm.MethodName) jdk_41_method_11_code (3 : Nat) (Option.some Jvm.ClassFile.FieldType.int)) := hw.1 _ (List.mem_of_getElem? (i := 64) rfl)
theorem w_61 {W : Wd} (hw : Ws W) : Wok W (Jvm.Cond.initialized "jdk/internal/util/Preconditions") := hw.1 _ (List.mem_of_getElem? (i := 61) rfl)
theorem pd__IILjava_util_function_BiFunction__I : parseMethodDescriptor "(IILjava/util/function/BiFunction;)I" = some ⟨[.int, .int, (.object "java/util/function/BiFunction")], some .int⟩ := by decide +kernel
theorem mk_M_pci {W : Wd} (hw : Ws W) : Mk W M_pci ⟨"jdk/internal/util/Preconditions", "checkIndex", "(IILjava/util/function/BiFunction;)I"⟩ 3 := Mk.of nm_M_pci rfl rfl rfl (w_64 hw) (w_61 hw) (mkLen pd__IILjava_util_function_BiFunction__I rfl) (by decide)
theorem w_62 {W : Wd} (hw : Ws W) : Wok W (Jvm.Cond.methodLink "java/lang/String" (1059 : Nat) ({ cls := "jdk/internal/util/Preconditions", name := "checkIndex", desc := "(IILjava/util/function/BiFunction;)I" } : Jvm.MethodName)) := hw.1 _ (List.mem_of_getElem? (i := 62) rfl)
theorem w_63 {W : Wd} (hw : Ws W) : Wok W (Jvm.Cond.static ({ cls := "jdk/internal/util/Preconditions", name := "checkIndex", desc := "(IILjava/util/function/BiFunction;)I" } : Jvm.MethodName)) := hw.1 _ (List.mem_of_getElem? (i := 63) rfl)
theorem d_jdk_42_155_8 : Dc jdk_42_method_155_code 8 (.pop) 1 9 := ⟨by decide +kernel, rfl⟩
theorem d_jdk_42_155_9 : Dc jdk_42_method_155_code 9 (.return_) 1 10 := ⟨by decide +kernel, rfl⟩
def M_sci : Mt := (⟨"java/lang/String", "checkIndex", "(II)V"⟩, jdk_42_method_155_code, 2, none, ⟨1, 0, 0, 14⟩)
theorem nm_M_sci : mN M_sci = ⟨"java/lang/String", "checkIndex", "(II)V"⟩ := by delta mN M_sci; rfl
set_option maxRecDepth 65536 in
set_option maxHeartbeats 40000000 in
theorem rm_sci {W : Wd} (hw : Ws W) (i : Int32) (n : Int32) (F : List En) (hi : ¬ i < 0) (hn : i < n) : Ct W M_sci [.int i, .int n] F (fun v H' => v = none ∧ H' = F) := by
  refine Ct.intro (L0 := [.val (.int i), .val (.int n)]) (plainFor_of_name pf_java_lang_String) rfl (fun K => ?_)
  refine Wp.iloadN rfl d_jdk_42_155_0 ?_
  refine Wp.iloadN rfl d_jdk_42_155_1 ?_
  obtain ⟨fm1, Ffm1, rfm1⟩ := st_fmt hw
  refine Wp.getS nm_M_sci (w_60 hw) Via.refl Ffm1 d_jdk_42_155_2 ?_
  refine Wp.callS nm_M_sci (rm_pci hw i n fm1 _ hi hn rfm1) (mk_M_pci hw) (w_62 hw) (w_63 hw) rfl rfl (Wn := 0) rfl rfl (by decide) d_jdk_42_155_5 ?_
  rintro _ _ ⟨rfl, rfl⟩
  refine Wp.pop rfl d_jdk_42_155_8 ?_
  refine Wp.ret rfl d_jdk_42_155_9 (by decide) (by decide) ?_
  exact ⟨rfl, rfl⟩
theorem d_jdk_52_6_0 : Dc jdk_52_method_6_code 0 (.aload_n 0) 1 1 := ⟨by decide +kernel, rfl⟩
theorem d_jdk_52_6_1 : Dc jdk_52_method_6_code 1 (.arraylength) 1 2 := ⟨by decide +kernel, rfl⟩
theorem d_jdk_52_6_2 : Dc jdk_52_method_6_code 2 (.iconst 1) 1 3 := ⟨by decide +kernel, rfl⟩
theorem d_jdk_52_6_3 : Dc jdk_52_method_6_code 3 (.ishr) 1 4 := ⟨by decide +kernel, rfl⟩
theorem d_jdk_52_6_4 : Dc jdk_52_method_6_code 4 (.ireturn) 1 5 := ⟨by decide +kernel, rfl⟩
def M_len6 : Mt := (⟨"java/lang/StringUTF16", "length", "([B)I"⟩, jdk_52_method_6_code, 1, some .int, ⟨0, 0, 0, 0⟩)
theorem nm_M_len6 : mN M_len6 = ⟨"java/lang/StringUTF16", "length", "([B)I"⟩ := by delta mN M_len6; rfl
set_option maxRecDepth 65536 in
set_option maxHeartbeats 40000000 in
theorem rm_len6 {W : Wd} (hw : Ws W) (b : Addr) (x0 : Int32) (x1 : Int32) (x2 : Int32) (x3 : Int32) (x4 : Int32) (x5 : Int32) (F : List En) : Ct W M_len6 [.ref b] ((eB b [.int x0, .int x1, .int x2, .int x3, .int x4, .int x5]) :: F) (fun v H' => v = some (.int 3) ∧ H' = ((eB b [.int x0, .int x1, .int x2, .int x3, .int x4, .int x5]) :: F)) := by
  refine Ct.intro (L0 := [.val (.ref b)]) (plainFor_of_name pf_java_lang_StringUTF16) rfl (fun K => ?_)
  refine Wp.aloadN rfl rfl d_jdk_52_6_0 ?_
  refine Wp.alen (z := 6) 0 rfl rfl d_jdk_52_6_1 ?_
  refine Wp.iconst lc_1 d_jdk_52_6_2 ?_
  refine Wp.ishr (z := 3) (by decide) d_jdk_52_6_3 ?_
  refine Wp.iret rfl d_jdk_52_6_4 (by decide) (by decide) ?_
  exact ⟨rfl, rfl⟩
theorem d_jdk_52_91_0 : Dc jdk_52_method_91_code 0 (.iload_n 0) 1 1 := ⟨by decide +kernel, rfl⟩
theorem d_jdk_52_91_1 : Dc jdk_52_method_91_code 1 (.aload_n 1) 1 2 := ⟨by decide +kernel, rfl⟩
theorem d_jdk_52_91_2 : Dc jdk_52_method_91_code 2 (.invokestatic 48) 3 5 := ⟨by decide +kernel, rfl⟩
theorem w_92 {W : Wd} (hw : Ws W) : Wok W (Jvm.Cond.code ({ cls := "java/lang/StringUTF16", name := "length", desc := "([B)I" } : Jvm.MethodName) jdk_52_method_6_code (1 : Nat) (Option.some Jvm.ClassFile.FieldType.int)) := hw.1 _ (List.mem_of_getElem? (i := 92) rfl)
theorem pd___B_I : parseMethodDescriptor "([B)I" = some ⟨[(.array .byte)], some .int⟩ := by decide +kernel
theorem mk_M_len6 {W : Wd} (hw : Ws W) : Mk W M_len6 ⟨"java/lang/StringUTF16", "length", "([B)I"⟩ 1 := Mk.of nm_M_len6 rfl rfl rfl (w_92 hw) (w_23 hw) (mkLen pd___B_I rfl) (by decide)
theorem w_90 {W : Wd} (hw : Ws W) : Wok W (Jvm.Cond.methodLink "java/lang/StringUTF16" (48 : Nat) ({ cls := "java/lang/StringUTF16", name := "length", desc := "([B)I" } : Jvm.MethodName)) := hw.1 _ (List.mem_of_getElem? (i := 90) rfl)
theorem w_91 {W : Wd} (hw : Ws W) : Wok W (Jvm.Cond.static ({ cls := "java/lang/StringUTF16", name := "length", desc := "([B)I" } : Jvm.MethodName)) := hw.1 _ (List.mem_of_getElem? (i := 91) rfl)
theorem d_jdk_52_91_5 : Dc jdk_52_method_91_code 5 (.invokestatic 414) 3 8 := ⟨by decide +kernel, rfl⟩
theorem w_59 {W : Wd} (hw : Ws W) : Wok W (Jvm.Cond.code ({ cls := "java/lang/String", name := "checkIndex", desc := "(II)V" } : Jvm.MethodName) jdk_42_method_155_code (2 : Nat) (Option.none : Option Jvm.ClassFile.FieldType)) := hw.1 _ (List.mem_of_getElem? (i := 59) rfl)
theorem pd__II_V : parseMethodDescriptor "(II)V" = some ⟨[.int, .int], none⟩ := by decide +kernel
theorem mk_M_sci {W : Wd} (hw : Ws W) : Mk W M_sci ⟨"java/lang/String", "checkIndex", "(II)V"⟩ 2 := Mk.of nm_M_sci rfl rfl rfl (w_59 hw) (w_9 hw) (mkLen pd__II_V rfl) (by decide)
theorem w_93 {W : Wd} (hw : Ws W) : Wok W (Jvm.Cond.methodLink "java/lang/StringUTF16" (414 : Nat) ({ cls := "java/lang/String", name := "checkIndex", desc := "(II)V" } : Jvm.MethodName)) := hw.1 _ (List.mem_of_getElem? (i := 93) rfl)
theorem w_58 {W : Wd} (hw : Ws W) : Wok W (Jvm.Cond.static ({ cls := "java/lang/String", name := "checkIndex", desc := "(II)V" } : Jvm.MethodName)) := hw.1 _ (List.mem_of_getElem? (i := 58) rfl)
theorem d_jdk_52_91_8 : Dc jdk_52_method_91_code 8 (.return_) 1 9 := ⟨by decide +kernel, rfl⟩
def M_ck6_0 : Mt := (⟨"java/lang/StringUTF16", "checkIndex", "(I[B)V"⟩, jdk_52_method_91_code, 2, none, ⟨2, 0, 0, 27⟩)
theorem nm_M_ck6_0 : mN M_ck6_0 = ⟨"java/lang/StringUTF16", "checkIndex", "(I[B)V"⟩ := by delta mN M_ck6_0; rfl
set_option maxRecDepth 65536 in
set_option maxHeartbeats 40000000 in
theorem rm_ck6_0 {W : Wd} (hw : Ws W) (b : Addr) (x0 : Int32) (x1 : Int32) (x2 : Int32) (x3 : Int32) (x4 : Int32) (x5 : Int32) (F : List En) : Ct W M_ck6_0 [.int 0, .ref b] ((eB b [.int x0, .int x1, .int x2, .int x3, .int x4, .int x5]) :: F) (fun v H' => v = none ∧ H' = ((eB b [.int x0, .int x1, .int x2, .int x3, .int x4, .int x5]) :: F)) := by
  refine Ct.intro (L0 := [.val (.int 0), .val (.ref b)]) (plainFor_of_name pf_java_lang_StringUTF16) rfl (fun K => ?_)
  refine Wp.iloadN rfl d_jdk_52_91_0 ?_
  refine Wp.aloadN rfl rfl d_jdk_52_91_1 ?_
  refine Wp.callS nm_M_ck6_0 (rm_len6 hw b x0 x1 x2 x3 x4 x5 _ ) (mk_M_len6 hw) (w_90 hw) (w_91 hw) rfl rfl (Wn := 1) rfl rfl (by decide) d_jdk_52_91_2 ?_
  rintro _ _ ⟨rfl, rfl⟩
  refine Wp.callS nm_M_ck6_0 (rm_sci hw 0 3 _ (by decide) (by decide)) (mk_M_sci hw) (w_93 hw) (w_58 hw) rfl rfl (Wn := 0) rfl rfl (by decide) d_jdk_52_91_5 ?_
  rintro _ _ ⟨rfl, rfl⟩
  refine Wp.ret rfl d_jdk_52_91_8 (by decide) (by decide) ?_
  exact ⟨rfl, rfl⟩
def M_ck6_1 : Mt := (⟨"java/lang/StringUTF16", "checkIndex", "(I[B)V"⟩, jdk_52_method_91_code, 2, none, ⟨2, 0, 0, 27⟩)
theorem nm_M_ck6_1 : mN M_ck6_1 = ⟨"java/lang/StringUTF16", "checkIndex", "(I[B)V"⟩ := by delta mN M_ck6_1; rfl
set_option maxRecDepth 65536 in
set_option maxHeartbeats 40000000 in
theorem rm_ck6_1 {W : Wd} (hw : Ws W) (b : Addr) (x0 : Int32) (x1 : Int32) (x2 : Int32) (x3 : Int32) (x4 : Int32) (x5 : Int32) (F : List En) : Ct W M_ck6_1 [.int 1, .ref b] ((eB b [.int x0, .int x1, .int x2, .int x3, .int x4, .int x5]) :: F) (fun v H' => v = none ∧ H' = ((eB b [.int x0, .int x1, .int x2, .int x3, .int x4, .int x5]) :: F)) := by
  refine Ct.intro (L0 := [.val (.int 1), .val (.ref b)]) (plainFor_of_name pf_java_lang_StringUTF16) rfl (fun K => ?_)
  refine Wp.iloadN rfl d_jdk_52_91_0 ?_
  refine Wp.aloadN rfl rfl d_jdk_52_91_1 ?_
  refine Wp.callS nm_M_ck6_1 (rm_len6 hw b x0 x1 x2 x3 x4 x5 _ ) (mk_M_len6 hw) (w_90 hw) (w_91 hw) rfl rfl (Wn := 1) rfl rfl (by decide) d_jdk_52_91_2 ?_
  rintro _ _ ⟨rfl, rfl⟩
  refine Wp.callS nm_M_ck6_1 (rm_sci hw 1 3 _ (by decide) (by decide)) (mk_M_sci hw) (w_93 hw) (w_58 hw) rfl rfl (Wn := 0) rfl rfl (by decide) d_jdk_52_91_5 ?_
  rintro _ _ ⟨rfl, rfl⟩
  refine Wp.ret rfl d_jdk_52_91_8 (by decide) (by decide) ?_
  exact ⟨rfl, rfl⟩
def M_ck6_2 : Mt := (⟨"java/lang/StringUTF16", "checkIndex", "(I[B)V"⟩, jdk_52_method_91_code, 2, none, ⟨2, 0, 0, 27⟩)
theorem nm_M_ck6_2 : mN M_ck6_2 = ⟨"java/lang/StringUTF16", "checkIndex", "(I[B)V"⟩ := by delta mN M_ck6_2; rfl
set_option maxRecDepth 65536 in
set_option maxHeartbeats 40000000 in
theorem rm_ck6_2 {W : Wd} (hw : Ws W) (b : Addr) (x0 : Int32) (x1 : Int32) (x2 : Int32) (x3 : Int32) (x4 : Int32) (x5 : Int32) (F : List En) : Ct W M_ck6_2 [.int 2, .ref b] ((eB b [.int x0, .int x1, .int x2, .int x3, .int x4, .int x5]) :: F) (fun v H' => v = none ∧ H' = ((eB b [.int x0, .int x1, .int x2, .int x3, .int x4, .int x5]) :: F)) := by
  refine Ct.intro (L0 := [.val (.int 2), .val (.ref b)]) (plainFor_of_name pf_java_lang_StringUTF16) rfl (fun K => ?_)
  refine Wp.iloadN rfl d_jdk_52_91_0 ?_
  refine Wp.aloadN rfl rfl d_jdk_52_91_1 ?_
  refine Wp.callS nm_M_ck6_2 (rm_len6 hw b x0 x1 x2 x3 x4 x5 _ ) (mk_M_len6 hw) (w_90 hw) (w_91 hw) rfl rfl (Wn := 1) rfl rfl (by decide) d_jdk_52_91_2 ?_
  rintro _ _ ⟨rfl, rfl⟩
  refine Wp.callS nm_M_ck6_2 (rm_sci hw 2 3 _ (by decide) (by decide)) (mk_M_sci hw) (w_93 hw) (w_58 hw) rfl rfl (Wn := 0) rfl rfl (by decide) d_jdk_52_91_5 ?_
  rintro _ _ ⟨rfl, rfl⟩
  refine Wp.ret rfl d_jdk_52_91_8 (by decide) (by decide) ?_
  exact ⟨rfl, rfl⟩
theorem d_jdk_43_2_0 : Dc jdk_43_method_2_code 0 (.iload_n 1) 1 1 := ⟨by decide +kernel, rfl⟩
theorem d_jdk_43_2_1 : Dc jdk_43_method_2_code 1 (.aload_n 0) 1 2 := ⟨by decide +kernel, rfl⟩
theorem d_jdk_43_2_2 : Dc jdk_43_method_2_code 2 (.arraylength) 1 3 := ⟨by decide +kernel, rfl⟩
theorem d_jdk_43_2_3 : Dc jdk_43_method_2_code 3 (.invokestatic 9) 3 6 := ⟨by decide +kernel, rfl⟩
theorem w_57 {W : Wd} (hw : Ws W) : Wok W (Jvm.Cond.methodLink "java/lang/StringLatin1" (9 : Nat) ({ cls := "java/lang/String", name := "checkIndex", desc := "(II)V" } : Jvm.MethodName)) := hw.1 _ (List.mem_of_getElem? (i := 57) rfl)
theorem d_jdk_43_2_6 : Dc jdk_43_method_2_code 6 (.aload_n 0) 1 7 := ⟨by decide +kernel, rfl⟩
theorem d_jdk_43_2_7 : Dc jdk_43_method_2_code 7 (.iload_n 1) 1 8 := ⟨by decide +kernel, rfl⟩
theorem d_jdk_43_2_8 : Dc jdk_43_method_2_code 8 (.baload) 1 9 := ⟨by decide +kernel, rfl⟩
theorem d_jdk_43_2_9 : Dc jdk_43_method_2_code 9 (.sipush 255) 3 12 := ⟨by decide +kernel, rfl⟩
theorem d_jdk_43_2_12 : Dc jdk_43_method_2_code 12 (.iand) 1 13 := ⟨by decide +kernel, rfl⟩
theorem d_jdk_43_2_13 : Dc jdk_43_method_2_code 13 (.i2c) 1 14 := ⟨by decide +kernel, rfl⟩
theorem d_jdk_43_2_14 : Dc jdk_43_method_2_code 14 (.ireturn) 1 15 := ⟨by decide +kernel, rfl⟩
def M_lca0 : Mt := (⟨"java/lang/StringLatin1", "charAt", "([BI)C"⟩, jdk_43_method_2_code, 2, some .char, ⟨2, 0, 0, 27⟩)
theorem nm_M_lca0 : mN M_lca0 = ⟨"java/lang/StringLatin1", "charAt", "([BI)C"⟩ := by delta mN M_lca0; rfl
theorem pf_java_lang_StringLatin1 : plainName "java/lang/StringLatin1" = true := by first | (simp [plainName, overriddenIn]; done) | decide +kernel
set_option maxRecDepth 65536 in
set_option maxHeartbeats 40000000 in
theorem rm_lca0 {W : Wd} (hw : Ws W) (b : Addr) (c0 : Int32) (c1 : Int32) (c2 : Int32) (F : List En) (h0a : ¬ c0 < 0) (h0b : ¬ 65535 < c0) (h1a : ¬ c1 < 0) (h1b : ¬ 65535 < c1) (h2a : ¬ c2 < 0) (h2b : ¬ 65535 < c2) (h0c : ¬ 255 < c0) (h1c : ¬ 255 < c1) (h2c : ¬ 255 < c2) : Ct W M_lca0 [.ref b, .int 0] ((eB b [.int (by8 c0), .int (by8 c1), .int (by8 c2)]) :: F) (fun v H' => v = some (.int c0) ∧ H' = ((eB b [.int (by8 c0), .int (by8 c1), .int (by8 c2)]) :: F)) := by
  refine Ct.intro (L0 := [.val (.ref b), .val (.int 0)]) (plainFor_of_name pf_java_lang_StringLatin1) rfl (fun K => ?_)
  refine Wp.iloadN rfl d_jdk_43_2_0 ?_
  refine Wp.aloadN rfl rfl d_jdk_43_2_1 ?_
  refine Wp.alen (z := 3) 0 rfl rfl d_jdk_43_2_2 ?_
  refine Wp.callS nm_M_lca0 (rm_sci hw 0 3 _ (by decide) (by decide)) (mk_M_sci hw) (w_57 hw) (w_58 hw) rfl rfl (Wn := 0) rfl rfl (by decide) d_jdk_43_2_3 ?_
  rintro _ _ ⟨rfl, rfl⟩
  refine Wp.aloadN rfl rfl d_jdk_43_2_6 ?_
  refine Wp.iloadN rfl d_jdk_43_2_7 ?_
  refine Wp.baload 0 0 rfl (by decide) (by decide) rfl d_jdk_43_2_8 ?_
  refine Wp.sipush ls_255 d_jdk_43_2_9 ?_
  refine Wp.iand (z := c0) (by8_back h0a h0c) d_jdk_43_2_12 ?_
  refine Wp.i2c (z := c0) (i2cC_id h0a h0b) d_jdk_43_2_13 ?_
  refine Wp.iretN (z := c0) (by simp) rfl (narC_id h0a h0b) d_jdk_43_2_14 (by decide) (by decide) ?_
  exact ⟨rfl, rfl⟩
theorem d_jdk_52_83_0 : Dc jdk_52_method_83_code 0 (.iload_n 1) 1 1 := ⟨by decide +kernel, rfl⟩
theorem d_jdk_52_83_1 : Dc jdk_52_method_83_code 1 (.aload_n 0) 1 2 := ⟨by decide +kernel, rfl⟩
theorem d_jdk_52_83_2 : Dc jdk_52_method_83_code 2 (.invokestatic 67) 3 5 := ⟨by decide +kernel, rfl⟩
theorem w_89 {W : Wd} (hw : Ws W) : Wok W (Jvm.Cond.code ({ cls := "java/lang/StringUTF16", name := "checkIndex", desc := "(I[B)V" } : Jvm.MethodName) jdk_52_method_91_code (2 : Nat) (Option.none : Option Jvm.ClassFile.FieldType)) := hw.1 _ (List.mem_of_getElem? (i := 89) rfl)
theorem pd__I_B_V : parseMethodDescriptor "(I[B)V" = some ⟨[.int, (.array .byte)], none⟩ := by decide +kernel
theorem mk_M_ck6_0 {W : Wd} (hw : Ws W) : Mk W M_ck6_0 ⟨"java/lang/StringUTF16", "checkIndex", "(I[B)V"⟩ 2 := Mk.of nm_M_ck6_0 rfl rfl rfl (w_89 hw) (w_23 hw) (mkLen pd__I_B_V rfl) (by decide)
theorem w_87 {W : Wd} (hw : Ws W) : Wok W (Jvm.Cond.methodLink "java/lang/StringUTF16" (67 : Nat) ({ cls := "java/lang/StringUTF16", name := "checkIndex", desc := "(I[B)V" } : Jvm.MethodName)) := hw.1 _ (List.mem_of_getElem? (i := 87) rfl)
theorem w_88 {W : Wd} (hw : Ws W) : Wok W (Jvm.Cond.static ({ cls := "java/lang/StringUTF16", name := "checkIndex", desc := "(I[B)V" } : Jvm.MethodName)) := hw.1 _ (List.mem_of_getElem? (i := 88) rfl)
theorem d_jdk_52_83_5 : Dc jdk_52_method_83_code 5 (.aload_n 0) 1 6 := ⟨by decide +kernel, rfl⟩
theorem d_jdk_52_83_6 : Dc jdk_52_method_83_code 6 (.iload_n 1) 1 7 := ⟨by decide +kernel, rfl⟩
theorem d_jdk_52_83_7 : Dc jdk_52_method_83_code 7 (.invokestatic 71) 3 10 := ⟨by decide +kernel, rfl⟩
theorem d_jdk_52_83_10 : Dc jdk_52_method_83_code 10 (.ireturn) 1 11 := ⟨by decide +kernel, rfl⟩
def M_uca0 : Mt := (⟨"java/lang/StringUTF16", "charAt", "([BI)C"⟩, jdk_52_method_83_code, 2, some .char, ⟨3, 0, 0, 40⟩)
theorem nm_M_uca0 : mN M_uca0 = ⟨"java/lang/StringUTF16", "charAt", "([BI)C"⟩ := by delta mN M_uca0; rfl
set_option maxRecDepth 65536 in
set_option maxHeartbeats 40000000 in
theorem rm_uca0 {W : Wd} (hw : Ws W) (b : Addr) (c0 : Int32) (c1 : Int32) (c2 : Int32) (F : List En) (h0a : ¬ c0 < 0) (h0b : ¬ 65535 < c0) (h1a : ¬ c1 < 0) (h1b : ¬ 65535 < c1) (h2a : ¬ c2 < 0) (h2b : ¬ 65535 < c2) : Ct W M_uca0 [.ref b, .int 0] ((eB b [.int (lob c0), .int (hib c0), .int (lob c1), .int (hib c1), .int (lob c2), .int (hib c2)]) :: F) (fun v H' => v = some (.int c0) ∧ H' = ((eB b [.int (lob c0), .int (hib c0), .int (lob c1), .int (hib c1), .int (lob c2), .int (hib c2)]) :: F)) := by
  refine Ct.intro (L0 := [.val (.ref b), .val (.int 0)]) (plainFor_of_name pf_java_lang_StringUTF16) rfl (fun K => ?_)
  refine Wp.iloadN rfl d_jdk_52_83_0 ?_
  refine Wp.aloadN rfl rfl d_jdk_52_83_1 ?_
  refine Wp.callS nm_M_uca0 (rm_ck6_0 hw b (lob c0) (hib c0) (lob c1) (hib c1) (lob c2) (hib c2) _ ) (mk_M_ck6_0 hw) (w_87 hw) (w_88 hw) rfl rfl (Wn := 0) rfl rfl (by decide) d_jdk_52_83_2 ?_
  rintro _ _ ⟨rfl, rfl⟩
  refine Wp.aloadN rfl rfl d_jdk_52_83_5 ?_
  refine Wp.iloadN rfl d_jdk_52_83_6 ?_
  refine Wp.callS nm_M_uca0 (rm_gc0 hw b c0 (lob c1) (hib c1) (lob c2) (hib c2) _ h0a h0b) (mk_M_gc0 hw) (w_81 hw) (w_82 hw) rfl rfl (Wn := 0) rfl rfl (by decide) d_jdk_52_83_7 ?_
  rintro _ _ ⟨rfl, rfl⟩
  refine Wp.iretN (z := c0) (by simp) rfl (narC_id h0a h0b) d_jdk_52_83_10 (by decide) (by decide) ?_
  exact ⟨rfl, rfl⟩
def M_lca1 : Mt := (⟨"java/lang/StringLatin1", "charAt", "([BI)C"⟩, jdk_43_method_2_code, 2, some .char, ⟨2, 0, 0, 27⟩)
theorem nm_M_lca1 : mN M_lca1 = ⟨"java/lang/StringLatin1", "charAt", "([BI)C"⟩ := by delta mN M_lca1; rfl
set_option maxRecDepth 65536 in
set_option maxHeartbeats 40000000 in
theorem rm_lca1 {W : Wd} (hw : Ws W) (b : Addr) (c0 : Int32) (c1 : Int32) (c2 : Int32) (F : List En) (h0a : ¬ c0 < 0) (h0b : ¬ 65535 < c0) (h1a : ¬ c1 < 0) (h1b : ¬ 65535 < c1) (h2a : ¬ c2 < 0) (h2b : ¬ 65535 < c2) (h0c : ¬ 255 < c0) (h1c : ¬ 255 < c1) (h2c : ¬ 255 < c2) : Ct W M_lca1 [.ref b, .int 1] ((eB b [.int (by8 c0), .int (by8 c1), .int (by8 c2)]) :: F) (fun v H' => v = some (.int c1) ∧ H' = ((eB b [.int (by8 c0), .int (by8 c1), .int (by8 c2)]) :: F)) := by
  refine Ct.intro (L0 := [.val (.ref b), .val (.int 1)]) (plainFor_of_name pf_java_lang_StringLatin1) rfl (fun K => ?_)
  refine Wp.iloadN rfl d_jdk_43_2_0 ?_
  refine Wp.aloadN rfl rfl d_jdk_43_2_1 ?_
  refine Wp.alen (z := 3) 0 rfl rfl d_jdk_43_2_2 ?_
  refine Wp.callS nm_M_lca1 (rm_sci hw 1 3 _ (by decide) (by decide)) (mk_M_sci hw) (w_57 hw) (w_58 hw) rfl rfl (Wn := 0) rfl rfl (by decide) d_jdk_43_2_3 ?_
  rintro _ _ ⟨rfl, rfl⟩
  refine Wp.aloadN rfl rfl d_jdk_43_2_6 ?_
  refine Wp.iloadN rfl d_jdk_43_2_7 ?_
  refine Wp.baload 0 1 rfl (by decide) (by decide) rfl d_jdk_43_2_8 ?_
  refine Wp.sipush ls_255 d_jdk_43_2_9 ?_
  refine Wp.iand (z := c1) (by8_back h1a h1c) d_jdk_43_2_12 ?_
  refine Wp.i2c (z := c1) (i2cC_id h1a h1b) d_jdk_43_2_13 ?_
  refine Wp.iretN (z := c1) (by simp) rfl (narC_id h1a h1b) d_jdk_43_2_14 (by decide) (by decide) ?_
  exact ⟨rfl, rfl⟩
theorem mk_M_ck6_1 {W : Wd} (hw : Ws W) : Mk W M_ck6_1 ⟨"java/lang/StringUTF16", "checkIndex", "(I[B)V"⟩ 2 := Mk.of nm_M_ck6_1 rfl rfl rfl (w_89 hw) (w_23 hw) (mkLen pd__I_B_V rfl) (by decide)
def M_uca1 : Mt := (⟨"java/lang/StringUTF16", "charAt", "([BI)C"⟩, jdk_52_method_83_code, 2, some .char, ⟨3, 0, 0, 40⟩)
theorem nm_M_uca1 : mN M_uca1 = ⟨"java/lang/StringUTF16", "charAt", "([BI)C"⟩ := by delta mN M_uca1; rfl
set_option maxRecDepth 65536 in
set_option maxHeartbeats 40000000 in
theorem rm_uca1 {W : Wd} (hw : Ws W) (b : Addr) (c0 : Int32) (c1 : Int32) (c2 : Int32) (F : List En) (h0a : ¬ c0 < 0) (h0b : ¬ 65535 < c0) (h1a : ¬ c1 < 0) (h1b : ¬ 65535 < c1) (h2a : ¬ c2 < 0) (h2b : ¬ 65535 < c2) : Ct W M_uca1 [.ref b, .int 1] ((eB b [.int (lob c0), .int (hib c0), .int (lob c1), .int (hib c1), .int (lob c2), .int (hib c2)]) :: F) (fun v H' => v = some (.int c1) ∧ H' = ((eB b [.int (lob c0), .int (hib c0), .int (lob c1), .int (hib c1), .int (lob c2), .int (hib c2)]) :: F)) := by
  refine Ct.intro (L0 := [.val (.ref b), .val (.int 1)]) (plainFor_of_name pf_java_lang_StringUTF16) rfl (fun K => ?_)
  refine Wp.iloadN rfl d_jdk_52_83_0 ?_
  refine Wp.aloadN rfl rfl d_jdk_52_83_1 ?_
  refine Wp.callS nm_M_uca1 (rm_ck6_1 hw b (lob c0) (hib c0) (lob c1) (hib c1) (lob c2) (hib c2) _ ) (mk_M_ck6_1 hw) (w_87 hw) (w_88 hw) rfl rfl (Wn := 0) rfl rfl (by decide) d_jdk_52_83_2 ?_
  rintro _ _ ⟨rfl, rfl⟩
  refine Wp.aloadN rfl rfl d_jdk_52_83_5 ?_
  refine Wp.iloadN rfl d_jdk_52_83_6 ?_
  refine Wp.callS nm_M_uca1 (rm_gc1 hw b c1 (lob c0) (hib c0) (lob c2) (hib c2) _ h1a h1b) (mk_M_gc1 hw) (w_81 hw) (w_82 hw) rfl rfl (Wn := 0) rfl rfl (by decide) d_jdk_52_83_7 ?_
  rintro _ _ ⟨rfl, rfl⟩
  refine Wp.iretN (z := c1) (by simp) rfl (narC_id h1a h1b) d_jdk_52_83_10 (by decide) (by decide) ?_
  exact ⟨rfl, rfl⟩
def M_lca2 : Mt := (⟨"java/lang/StringLatin1", "charAt", "([BI)C"⟩, jdk_43_method_2_code, 2, some .char, ⟨2, 0, 0, 27⟩)
theorem nm_M_lca2 : mN M_lca2 = ⟨"java/lang/StringLatin1", "charAt", "([BI)C"⟩ := by delta mN M_lca2; rfl
set_option maxRecDepth 65536 in
set_option maxHeartbeats 40000000 in
theorem rm_lca2 {W : Wd} (hw : Ws W) (b : Addr) (c0 : Int32) (c1 : Int32) (c2 : Int32) (F : List En) (h0a : ¬ c0 < 0) (h0b : ¬ 65535 < c0) (h1a : ¬ c1 < 0) (h1b : ¬ 65535 < c1) (h2a : ¬ c2 < 0) (h2b : ¬ 65535 < c2) (h0c : ¬ 255 < c0) (h1c : ¬ 255 < c1) (h2c : ¬ 255 < c2) : Ct W M_lca2 [.ref b, .int 2] ((eB b [.int (by8 c0), .int (by8 c1), .int (by8 c2)]) :: F) (fun v H' => v = some (.int c2) ∧ H' = ((eB b [.int (by8 c0), .int (by8 c1), .int (by8 c2)]) :: F)) := by
  refine Ct.intro (L0 := [.val (.ref b), .val (.int 2)]) (plainFor_of_name pf_java_lang_StringLatin1) rfl (fun K => ?_)
  refine Wp.iloadN rfl d_jdk_43_2_0 ?_
  refine Wp.aloadN rfl rfl d_jdk_43_2_1 ?_
  refine Wp.alen (z := 3) 0 rfl rfl d_jdk_43_2_2 ?_
  refine Wp.callS nm_M_lca2 (rm_sci hw 2 3 _ (by decide) (by decide)) (mk_M_sci hw) (w_57 hw) (w_58 hw) rfl rfl (Wn := 0) rfl rfl (by decide) d_jdk_43_2_3 ?_
  rintro _ _ ⟨rfl, rfl⟩
  refine Wp.aloadN rfl rfl d_jdk_43_2_6 ?_
  refine Wp.iloadN rfl d_jdk_43_2_7 ?_
  refine Wp.baload 0 2 rfl (by decide) (by decide) rfl d_jdk_43_2_8 ?_
  refine Wp.sipush ls_255 d_jdk_43_2_9 ?_
  refine Wp.iand (z := c2) (by8_back h2a h2c) d_jdk_43_2_12 ?_
  refine Wp.i2c (z := c2) (i2cC_id h2a h2b) d_jdk_43_2_13 ?_
  refine Wp.iretN (z := c2) (by simp) rfl (narC_id h2a h2b) d_jdk_43_2_14 (by decide) (by decide) ?_
  exact ⟨rfl, rfl⟩
theorem mk_M_ck6_2 {W : Wd} (hw : Ws W) : Mk W M_ck6_2 ⟨"java/lang/StringUTF16", "checkIndex", "(I[B)V"⟩ 2 := Mk.of nm_M_ck6_2 rfl rfl rfl (w_89 hw) (w_23 hw) (mkLen pd__I_B_V rfl) (by decide)
def M_uca2 : Mt := (⟨"java/lang/StringUTF16", "charAt", "([BI)C"⟩, jdk_52_method_83_code, 2, some .char, ⟨3, 0, 0, 40⟩)
theorem nm_M_uca2 : mN M_uca2 = ⟨"java/lang/StringUTF16", "charAt", "([BI)C"⟩ := by delta mN M_uca2; rfl
set_option maxRecDepth 65536 in
set_option maxHeartbeats 40000000 in
theorem rm_uca2 {W : Wd} (hw : Ws W) (b : Addr) (c0 : Int32) (c1 : Int32) (c2 : Int32) (F : List En) (h0a : ¬ c0 < 0) (h0b : ¬ 65535 < c0) (h1a : ¬ c1 < 0) (h1b : ¬ 65535 < c1) (h2a : ¬ c2 < 0) (h2b : ¬ 65535 < c2) : Ct W M_uca2 [.ref b, .int 2] ((eB b [.int (lob c0), .int (hib c0), .int (lob c1), .int (hib c1), .int (lob c2), .int (hib c2)]) :: F) (fun v H' => v = some (.int c2) ∧ H' = ((eB b [.int (lob c0), .int (hib c0), .int (lob c1), .int (hib c1), .int (lob c2), .int (hib c2)]) :: F)) := by
  refine Ct.intro (L0 := [.val (.ref b), .val (.int 2)]) (plainFor_of_name pf_java_lang_StringUTF16) rfl (fun K => ?_)
  refine Wp.iloadN rfl d_jdk_52_83_0 ?_
  refine Wp.aloadN rfl rfl d_jdk_52_83_1 ?_
  refine Wp.callS nm_M_uca2 (rm_ck6_2 hw b (lob c0) (hib c0) (lob c1) (hib c1) (lob c2) (hib c2) _ ) (mk_M_ck6_2 hw) (w_87 hw) (w_88 hw) rfl rfl (Wn := 0) rfl rfl (by decide) d_jdk_52_83_2 ?_
  rintro _ _ ⟨rfl, rfl⟩
  refine Wp.aloadN rfl rfl d_jdk_52_83_5 ?_
  refine Wp.iloadN rfl d_jdk_52_83_6 ?_
  refine Wp.callS nm_M_uca2 (rm_gc2 hw b c2 (lob c0) (hib c0) (lob c1) (hib c1) _ h2a h2b) (mk_M_gc2 hw) (w_81 hw) (w_82 hw) rfl rfl (Wn := 0) rfl rfl (by decide) d_jdk_52_83_7 ?_
  rintro _ _ ⟨rfl, rfl⟩
  refine Wp.iretN (z := c2) (by simp) rfl (narC_id h2a h2b) d_jdk_52_83_10 (by decide) (by decide) ?_
  exact ⟨rfl, rfl⟩
theorem d_jdk_42_154_0 : Dc jdk_42_method_154_code 0 (.getstatic 38) 3 3 := ⟨by decide +kernel, rfl⟩
theorem d_jdk_42_154_3 : Bj jdk_42_method_154_code 3 (.ifCond .eq 14) 14 6 17 := ⟨by decide +kernel, rfl, by decide, rfl⟩
theorem d_jdk_42_154_6 : Dc jdk_42_method_154_code 6 (.aload_n 0) 1 7 := ⟨by decide +kernel, rfl⟩
theorem d_jdk_42_154_7 : Dc jdk_42_method_154_code 7 (.getfield 15) 3 10 := ⟨by decide +kernel, rfl⟩
theorem d_jdk_42_154_10 : Bj jdk_42_method_154_code 10 (.ifCond .ne 7) 7 13 17 := ⟨by decide +kernel, rfl, by decide, rfl⟩
theorem d_jdk_42_154_13 : Dc jdk_42_method_154_code 13 (.iconst 1) 1 14 := ⟨by decide +kernel, rfl⟩
theorem d_jdk_42_154_14 : Bj jdk_42_method_154_code 14 (.goto 4) 4 17 18 := ⟨by decide +kernel, rfl, by decide, rfl⟩
theorem d_jdk_42_154_18 : Dc jdk_42_method_154_code 18 (.ireturn) 1 19 := ⟨by decide +kernel, rfl⟩
def M_isl0 : Mt := (⟨"java/lang/String", "isLatin1", "()Z"⟩, jdk_42_method_154_code, 1, some .boolean, ⟨0, 0, 0, 0⟩)
theorem nm_M_isl0 : mN M_isl0 = ⟨"java/lang/String", "isLatin1", "()Z"⟩ := by delta mN M_isl0; rfl
set_option maxRecDepth 65536 in
set_option maxHeartbeats 40000000 in
theorem rm_isl0 {W : Wd} (hw : Ws W) (s : Addr) (b : Addr) (F : List En) : Ct W M_isl0 [.ref s] ((oStr true s (.ref b) (.int 0)) :: F) (fun v H' => v = some (.int 1) ∧ H' = ((oStr true s (.ref b) (.int 0)) :: F)) := by
  refine Ct.intro (L0 := [.val (.ref s)]) (plainFor_of_name pf_java_lang_String) rfl (fun K => ?_)
  obtain ⟨cs1, Fcs1, ncs1⟩ := st_compact hw
  refine Wp.getS nm_M_isl0 (w_20 hw) Via.refl Fcs1 d_jdk_42_154_0 ?_
  refine Wp.ifF (feq ncs1).1 d_jdk_42_154_3 ?_
  refine Wp.aloadN rfl rfl d_jdk_42_154_6 ?_
  refine Wp.getF nm_M_isl0 (host := "") (Or.inl (w_32 hw)) Via.refl 0 1 rfl rfl d_jdk_42_154_7 ?_
  refine Wp.ifF (by decide) d_jdk_42_154_10 ?_
  refine Wp.iconst lc_1 d_jdk_42_154_13 ?_
  refine Wp.goto d_jdk_42_154_14 ?_
  refine Wp.iretN (z := 1) (by simp) rfl (by decide) d_jdk_42_154_18 (by decide) (by decide) ?_
  exact ⟨rfl, rfl⟩
theorem d_jdk_42_154_17 : Dc jdk_42_method_154_code 17 (.iconst 0) 1 18 := ⟨by decide +kernel, rfl⟩
def M_isl1 : Mt := (⟨"java/lang/String", "isLatin1", "()Z"⟩, jdk_42_method_154_code, 1, some .boolean, ⟨0, 0, 0, 0⟩)
theorem nm_M_isl1 : mN M_isl1 = ⟨"java/lang/String", "isLatin1", "()Z"⟩ := by delta mN M_isl1; rfl
set_option maxRecDepth 65536 in
set_option maxHeartbeats 40000000 in
theorem rm_isl1 {W : Wd} (hw : Ws W) (s : Addr) (b : Addr) (F : List En) : Ct W M_isl1 [.ref s] ((oStr true s (.ref b) (.int 1)) :: F) (fun v H' => v = some (.int 0) ∧ H' = ((oStr true s (.ref b) (.int 1)) :: F)) := by
  refine Ct.intro (L0 := [.val (.ref s)]) (plainFor_of_name pf_java_lang_String) rfl (fun K => ?_)
  obtain ⟨cs1, Fcs1, ncs1⟩ := st_compact hw
  refine Wp.getS nm_M_isl1 (w_20 hw) Via.refl Fcs1 d_jdk_42_154_0 ?_
  refine Wp.ifF (feq ncs1).1 d_jdk_42_154_3 ?_
  refine Wp.aloadN rfl rfl d_jdk_42_154_6 ?_
  refine Wp.getF nm_M_isl1 (host := "") (Or.inl (w_32 hw)) Via.refl 0 1 rfl rfl d_jdk_42_154_7 ?_
  refine Wp.ifT (by decide) d_jdk_42_154_10 ?_
  refine Wp.iconst lc_0 d_jdk_42_154_17 ?_
  refine Wp.iretN (z := 0) (by simp) rfl (by decide) d_jdk_42_154_18 (by decide) (by decide) ?_
  exact ⟨rfl, rfl⟩
theorem d_jdk_42_56_0 : Dc jdk_42_method_56_code 0 (.aload_n 0) 1 1 := ⟨by decide +kernel, rfl⟩
theorem d_jdk_42_56_1 : Dc jdk_42_method_56_code 1 (.invokevirtual 492) 3 4 := ⟨by decide +kernel, rfl⟩
theorem w_51 {W : Wd} (hw : Ws W) : Wok W (Jvm.Cond.selects "java/lang/String" ({ cls := "java/lang/String", name := "isLatin1", desc := "()Z" } : Jvm.MethodName) ({ cls := "java/lang/String", name := "isLatin1", desc := "()Z" } : Jvm.MethodName)) := hw.1 _ (List.mem_of_getElem? (i := 51) rfl)
theorem w_52 {W : Wd} (hw : Ws W) : Wok W (Jvm.Cond.code ({ cls := "java/lang/String", name := "isLatin1", desc := "()Z" } : Jvm.MethodName) jdk_42_method_154_code (1 : Nat) (Option.some Jvm.ClassFile.FieldType.boolean)) := hw.1 _ (List.mem_of_getElem? (i := 52) rfl)
theorem pd___Z : parseMethodDescriptor "()Z" = some ⟨[], some .boolean⟩ := by decide +kernel
theorem mk_M_isl0 {W : Wd} (hw : Ws W) : Mk W M_isl0 ⟨"java/lang/String", "isLatin1", "()Z"⟩ 0 := Mk.of nm_M_isl0 rfl rfl rfl (w_52 hw) (w_9 hw) (mkLen pd___Z rfl) (by decide)
theorem w_48 {W : Wd} (hw : Ws W) : Wok W (Jvm.Cond.methodLink "java/lang/String" (492 : Nat) ({ cls := "java/lang/String", name := "isLatin1", desc := "()Z" } : Jvm.MethodName)) := hw.1 _ (List.mem_of_getElem? (i := 48) rfl)
theorem w_49 {W : Wd} (hw : Ws W) : Wok W (Jvm.Cond.declares ({ cls := "java/lang/String", name := "isLatin1", desc := "()Z" } : Jvm.MethodName)) := hw.1 _ (List.mem_of_getElem? (i := 49) rfl)
theorem w_50 {W : Wd} (hw : Ws W) : Wok W (Jvm.Cond.instanceMethod ({ cls := "java/lang/String", name := "isLatin1", desc := "()Z" } : Jvm.MethodName)) := hw.1 _ (List.mem_of_getElem? (i := 50) rfl)
theorem d_jdk_42_56_4 : Bj jdk_42_method_56_code 4 (.ifCond .eq 12) 12 7 16 := ⟨by decide +kernel, rfl, by decide, rfl⟩
theorem d_jdk_42_56_7 : Dc jdk_42_method_56_code 7 (.aload_n 0) 1 8 := ⟨by decide +kernel, rfl⟩
theorem d_jdk_42_56_8 : Dc jdk_42_method_56_code 8 (.getfield 9) 3 11 := ⟨by decide +kernel, rfl⟩
theorem d_jdk_42_56_11 : Dc jdk_42_method_56_code 11 (.iload_n 1) 1 12 := ⟨by decide +kernel, rfl⟩
theorem d_jdk_42_56_12 : Dc jdk_42_method_56_code 12 (.invokestatic 495) 3 15 := ⟨by decide +kernel, rfl⟩
theorem w_56 {W : Wd} (hw : Ws W) : Wok W (Jvm.Cond.code ({ cls := "java/lang/StringLatin1", name := "charAt", desc := "([BI)C" } : Jvm.MethodName) jdk_43_method_2_code (2 : Nat) (Option.some Jvm.ClassFile.FieldType.char)) := hw.1 _ (List.mem_of_getElem? (i := 56) rfl)
theorem w_55 {W : Wd} (hw : Ws W) : Wok W (Jvm.Cond.initialized "java/lang/StringLatin1") := hw.1 _ (List.mem_of_getElem? (i := 55) rfl)
theorem mk_M_lca0 {W : Wd} (hw : Ws W) : Mk W M_lca0 ⟨"java/lang/StringLatin1", "charAt", "([BI)C"⟩ 2 := Mk.of nm_M_lca0 rfl rfl rfl (w_56 hw) (w_55 hw) (mkLen pd___BI_C rfl) (by decide)
theorem w_53 {W : Wd} (hw : Ws W) : Wok W (Jvm.Cond.methodLink "java/lang/String" (495 : Nat) ({ cls := "java/lang/StringLatin1", name := "charAt", desc := "([BI)C" } : Jvm.MethodName)) := hw.1 _ (List.mem_of_getElem? (i := 53) rfl)
theorem w_54 {W : Wd} (hw : Ws W) : Wok W (Jvm.Cond.static ({ cls := "java/lang/StringLatin1", name := "charAt", desc := "([BI)C" } : Jvm.MethodName)) := hw.1 _ (List.mem_of_getElem? (i := 54) rfl)
theorem d_jdk_42_56_15 : Dc jdk_42_method_56_code 15 (.ireturn) 1 16 := ⟨by decide +kernel, rfl⟩
def M_ca0L : Mt := (⟨"java/lang/String", "charAt", "(I)C"⟩, jdk_42_method_56_code, 2, some .char, ⟨3, 0, 0, 40⟩)
theorem nm_M_ca0L : mN M_ca0L = ⟨"java/lang/String", "charAt", "(I)C"⟩ := by delta mN M_ca0L; rfl
set_option maxRecDepth 65536 in
set_option maxHeartbeats 40000000 in
theorem rm_ca0L {W : Wd} (hw : Ws W) (s : Addr) (b : Addr) (c0 : Int32) (c1 : Int32) (c2 : Int32) (F : List En) (h0a : ¬ c0 < 0) (h0b : ¬ 65535 < c0) (h1a : ¬ c1 < 0) (h1b : ¬ 65535 < c1) (h2a : ¬ c2 < 0) (h2b : ¬ 65535 < c2) (h0c : ¬ 255 < c0) (h1c : ¬ 255 < c1) (h2c : ¬ 255 < c2) : Ct W M_ca0L [.ref s, .int 0] ((oStr true s (.ref b) (.int 0)) :: (eB b [.int (by8 c0), .int (by8 c1), .int (by8 c2)]) :: F) (fun v H' => v = some (.int c0) ∧ H' = ((oStr true s (.ref b) (.int 0)) :: (eB b [.int (by8 c0), .int (by8 c1), .int (by8 c2)]) :: F)) := by
  refine Ct.intro (L0 := [.val (.ref s), .val (.int 0)]) (plainFor_of_name pf_java_lang_String) rfl (fun K => ?_)
  refine Wp.aloadN rfl rfl d_jdk_42_56_0 ?_
  refine Wp.callV nm_M_ca0L (rm_isl0 hw s b _ ) 0 rfl (mk_M_isl0 hw) (w_48 hw) (w_49 hw) (w_51 hw) (w_50 hw) (S' := "") (Or.inl rfl) (by decide) rfl rfl rfl (Wn := 0) rfl rfl (by decide) d_jdk_42_56_1 ?_
  rintro _ _ ⟨rfl, rfl⟩
  refine Wp.ifF (by decide) d_jdk_42_56_4 ?_
  refine Wp.aloadN rfl rfl d_jdk_42_56_7 ?_
  refine Wp.getF nm_M_ca0L (host := "") (Or.inl (w_34 hw)) Via.refl 0 0 rfl rfl d_jdk_42_56_8 ?_
  refine Wp.iloadN rfl d_jdk_42_56_11 ?_
  refine Wp.perm [1, 0] 2 pp_1_0 (H' := ((eB b [.int (by8 c0), .int (by8 c1), .int (by8 c2)]) :: (oStr true s (.ref b) (.int 0)) :: F)) rfl ?_
  refine Wp.callS nm_M_ca0L (rm_lca0 hw b c0 c1 c2 _ h0a h0b h1a h1b h2a h2b h0c h1c h2c) (mk_M_lca0 hw) (w_53 hw) (w_54 hw) rfl rfl (Wn := 0) rfl rfl (by decide) d_jdk_42_56_12 ?_
  rintro _ _ ⟨rfl, rfl⟩
  refine Wp.perm [1, 0] 2 pp_1_0 (H' := ((oStr true s (.ref b) (.int 0)) :: (eB b [.int (by8 c0), .int (by8 c1), .int (by8 c2)]) :: F)) rfl ?_
  refine Wp.iretN (z := c0) (by simp) rfl (narC_id h0a h0b) d_jdk_42_56_15 (by decide) (by decide) ?_
  exact ⟨rfl, rfl⟩
theorem mk_M_isl1 {W : Wd} (hw : Ws W) : Mk W M_isl1 ⟨"java/lang/String", "isLatin1", "()Z"⟩ 0 := Mk.of nm_M_isl1 rfl rfl rfl (w_52 hw) (w_9 hw) (mkLen pd___Z rfl) (by decide)
theorem d_jdk_42_56_16 : Dc jdk_42_method_56_code 16 (.aload_n 0) 1 17 := ⟨by decide +kernel, rfl⟩
theorem d_jdk_42_56_17 : Dc jdk_42_method_56_code 17 (.getfield 9) 3 20 := ⟨by decide +kernel, rfl⟩
theorem d_jdk_42_56_20 : Dc jdk_42_method_56_code 20 (.iload_n 1) 1 21 := ⟨by decide +kernel, rfl⟩
theorem d_jdk_42_56_21 : Dc jdk_42_method_56_code 21 (.invokestatic 498) 3 24 := ⟨by decide +kernel, rfl⟩
theorem w_86 {W : Wd} (hw : Ws W) : Wok W (Jvm.Cond.code ({ cls := "java/lang/StringUTF16", name := "charAt", desc := "([BI)C" } : Jvm.MethodName) jdk_52_method_83_code (2 : Nat) (Option.some Jvm.ClassFile.FieldType.char)) := hw.1 _ (List.mem_of_getElem? (i := 86) rfl)
theorem mk_M_uca0 {W : Wd} (hw : Ws W) : Mk W M_uca0 ⟨"java/lang/StringUTF16", "charAt", "([BI)C"⟩ 2 := Mk.of nm_M_uca0 rfl rfl rfl (w_86 hw) (w_23 hw) (mkLen pd___BI_C rfl) (by decide)
theorem w_84 {W : Wd} (hw : Ws W) : Wok W (Jvm.Cond.methodLink "java/lang/String" (498 : Nat) ({ cls := "java/lang/StringUTF16", name := "charAt", desc := "([BI)C" } : Jvm.MethodName)) := hw.1 _ (List.mem_of_getElem? (i := 84) rfl)
theorem w_85 {W : Wd} (hw : Ws W) : Wok W (Jvm.Cond.static ({ cls := "java/lang/StringUTF16", name := "charAt", desc := "([BI)C" } : Jvm.MethodName)) := hw.1 _ (List.mem_of_getElem? (i := 85) rfl)
theorem d_jdk_42_56_24 : Dc jdk_42_method_56_code 24 (.ireturn) 1 25 := ⟨by decide +kernel, rfl⟩
def M_ca0U : Mt := (⟨"java/lang/String", "charAt", "(I)C"⟩, jdk_42_method_56_code, 2, some .char, ⟨4, 0, 0, 53⟩)
theorem nm_M_ca0U : mN M_ca0U = ⟨"java/lang/String", "charAt", "(I)C"⟩ := by delta mN M_ca0U; rfl
set_option maxRecDepth 65536 in
set_option maxHeartbeats 40000000 in
theorem rm_ca0U {W : Wd} (hw : Ws W) (s : Addr) (b : Addr) (c0 : Int32) (c1 : Int32) (c2 : Int32) (F : List En) (h0a : ¬ c0 < 0) (h0b : ¬ 65535 < c0) (h1a : ¬ c1 < 0) (h1b : ¬ 65535 < c1) (h2a : ¬ c2 < 0) (h2b : ¬ 65535 < c2) : Ct W M_ca0U [.ref s, .int 0] ((oStr true s (.ref b) (.int 1)) :: (eB b [.int (lob c0), .int (hib c0), .int (lob c1), .int (hib c1), .int (lob c2), .int (hib c2)]) :: F) (fun v H' => v = some (.int c0) ∧ H' = ((oStr true s (.ref b) (.int 1)) :: (eB b [.int (lob c0), .int (hib c0), .int (lob c1), .int (hib c1), .int (lob c2), .int (hib c2)]) :: F)) := by
  refine Ct.intro (L0 := [.val (.ref s), .val (.int 0)]) (plainFor_of_name pf_java_lang_String) rfl (fun K => ?_)
  refine Wp.aloadN rfl rfl d_jdk_42_56_0 ?_
  refine Wp.callV nm_M_ca0U (rm_isl1 hw s b _ ) 0 rfl (mk_M_isl1 hw) (w_48 hw) (w_49 hw) (w_51 hw) (w_50 hw) (S' := "") (Or.inl rfl) (by decide) rfl rfl rfl (Wn := 0) rfl rfl (by decide) d_jdk_42_56_1 ?_
  rintro _ _ ⟨rfl, rfl⟩
  refine Wp.ifT (by decide) d_jdk_42_56_4 ?_
  refine Wp.aloadN rfl rfl d_jdk_42_56_16 ?_
  refine Wp.getF nm_M_ca0U (host := "") (Or.inl (w_34 hw)) Via.refl 0 0 rfl rfl d_jdk_42_56_17 ?_
  refine Wp.iloadN rfl d_jdk_42_56_20 ?_
  refine Wp.perm [1, 0] 2 pp_1_0 (H' := ((eB b [.int (lob c0), .int (hib c0), .int (lob c1), .int (hib c1), .int (lob c2), .int (hib c2)]) :: (oStr true s (.ref b) (.int 1)) :: F)) rfl ?_
  refine Wp.callS nm_M_ca0U (rm_uca0 hw b c0 c1 c2 _ h0a h0b h1a h1b h2a h2b) (mk_M_uca0 hw) (w_84 hw) (w_85 hw) rfl rfl (Wn := 0) rfl rfl (by decide) d_jdk_42_56_21 ?_
  rintro _ _ ⟨rfl, rfl⟩
  refine Wp.perm [1, 0] 2 pp_1_0 (H' := ((oStr true s (.ref b) (.int 1)) :: (eB b [.int (lob c0), .int (hib c0), .int (lob c1), .int (hib c1), .int (lob c2), .int (hib c2)]) :: F)) rfl ?_
  refine Wp.iretN (z := c0) (by simp) rfl (narC_id h0a h0b) d_jdk_42_56_24 (by decide) (by decide) ?_
  exact ⟨rfl, rfl⟩
theorem mk_M_lca1 {W : Wd} (hw : Ws W) : Mk W M_lca1 ⟨"java/lang/StringLatin1", "charAt", "([BI)C"⟩ 2 := Mk.of nm_M_lca1 rfl rfl rfl (w_56 hw) (w_55 hw) (mkLen pd___BI_C rfl) (by decide)
def M_ca1L : Mt := (⟨"java/lang/String", "charAt", "(I)C"⟩, jdk_42_method_56_code, 2, some .char, ⟨3, 0, 0, 40⟩)
theorem nm_M_ca1L : mN M_ca1L = ⟨"java/lang/String", "charAt", "(I)C"⟩ := by delta mN M_ca1L; rfl
set_option maxRecDepth 65536 in
set_option maxHeartbeats 40000000 in
theorem rm_ca1L {W : Wd} (hw : Ws W) (s : Addr) (b : Addr) (c0 : Int32) (c1 : Int32) (c2 : Int32) (F : List En) (h0a : ¬ c0 < 0) (h0b : ¬ 65535 < c0) (h1a : ¬ c1 < 0) (h1b : ¬ 65535 < c1) (h2a : ¬ c2 < 0) (h2b : ¬ 65535 < c2) (h0c : ¬ 255 < c0) (h1c : ¬ 255 < c1) (h2c : ¬ 255 < c2) : Ct W M_ca1L [.ref s, .int 1] ((oStr true s (.ref b) (.int 0)) :: (eB b [.int (by8 c0), .int (by8 c1), .int (by8 c2)]) :: F) (fun v H' => v = some (.int c1) ∧ H' = ((oStr true s (.ref b) (.int 0)) :: (eB b [.int (by8 c0), .int (by8 c1), .int (by8 c2)]) :: F)) := by
  refine Ct.intro (L0 := [.val (.ref s), .val (.int 1)]) (plainFor_of_name pf_java_lang_String) rfl (fun K => ?_)
  refine Wp.aloadN rfl rfl d_jdk_42_56_0 ?_
  refine Wp.callV nm_M_ca1L (rm_isl0 hw s b _ ) 0 rfl (mk_M_isl0 hw) (w_48 hw) (w_49 hw) (w_51 hw) (w_50 hw) (S' := "") (Or.inl rfl) (by decide) rfl rfl rfl (Wn := 0) rfl rfl (by decide) d_jdk_42_56_1 ?_
  rintro _ _ ⟨rfl, rfl⟩
  refine Wp.ifF (by decide) d_jdk_42_56_4 ?_
  refine Wp.aloadN rfl rfl d_jdk_42_56_7 ?_
  refine Wp.getF nm_M_ca1L (host := "") (Or.inl (w_34 hw)) Via.refl 0 0 rfl rfl d_jdk_42_56_8 ?_
  refine Wp.iloadN rfl d_jdk_42_56_11 ?_
  refine Wp.perm [1, 0] 2 pp_1_0 (H' := ((eB b [.int (by8 c0), .int (by8 c1), .int (by8 c2)]) :: (oStr true s (.ref b) (.int 0)) :: F)) rfl ?_
  refine Wp.callS nm_M_ca1L (rm_lca1 hw b c0 c1 c2 _ h0a h0b h1a h1b h2a h2b h0c h1c h2c) (mk_M_lca1 hw) (w_53 hw) (w_54 hw) rfl rfl (Wn := 0) rfl rfl (by decide) d_jdk_42_56_12 ?_
  rintro _ _ ⟨rfl, rfl⟩
  refine Wp.perm [1, 0] 2 pp_1_0 (H' := ((oStr true s (.ref b) (.int 0)) :: (eB b [.int (by8 c0), .int (by8 c1), .int (by8 c2)]) :: F)) rfl ?_
  refine Wp.iretN (z := c1) (by simp) rfl (narC_id h1a h1b) d_jdk_42_56_15 (by decide) (by decide) ?_
  exact ⟨rfl, rfl⟩
theorem mk_M_uca1 {W : Wd} (hw : Ws W) : Mk W M_uca1 ⟨"java/lang/StringUTF16", "charAt", "([BI)C"⟩ 2 := Mk.of nm_M_uca1 rfl rfl rfl (w_86 hw) (w_23 hw) (mkLen pd___BI_C rfl) (by decide)
def M_ca1U : Mt := (⟨"java/lang/String", "charAt", "(I)C"⟩, jdk_42_method_56_code, 2, some .char, ⟨4, 0, 0, 53⟩)
theorem nm_M_ca1U : mN M_ca1U = ⟨"java/lang/String", "charAt", "(I)C"⟩ := by delta mN M_ca1U; rfl
set_option maxRecDepth 65536 in
set_option maxHeartbeats 40000000 in
theorem rm_ca1U {W : Wd} (hw : Ws W) (s : Addr) (b : Addr) (c0 : Int32) (c1 : Int32) (c2 : Int32) (F : List En) (h0a : ¬ c0 < 0) (h0b : ¬ 65535 < c0) (h1a : ¬ c1 < 0) (h1b : ¬ 65535 < c1) (h2a : ¬ c2 < 0) (h2b : ¬ 65535 < c2) : Ct W M_ca1U [.ref s, .int 1] ((oStr true s (.ref b) (.int 1)) :: (eB b [.int (lob c0), .int (hib c0), .int (lob c1), .int (hib c1), .int (lob c2), .int (hib c2)]) :: F) (fun v H' => v = some (.int c1) ∧ H' = ((oStr true s (.ref b) (.int 1)) :: (eB b [.int (lob c0), .int (hib c0), .int (lob c1), .int (hib c1), .int (lob c2), .int (hib c2)]) :: F)) := by
  refine Ct.intro (L0 := [.val (.ref s), .val (.int 1)]) (plainFor_of_name pf_java_lang_String) rfl (fun K => ?_)
  refine Wp.aloadN rfl rfl d_jdk_42_56_0 ?_
  refine Wp.callV nm_M_ca1U (rm_isl1 hw s b _ ) 0 rfl (mk_M_isl1 hw) (w_48 hw) (w_49 hw) (w_51 hw) (w_50 hw) (S' := "") (Or.inl rfl) (by decide) rfl rfl rfl (Wn := 0) rfl rfl (by decide) d_jdk_42_56_1 ?_
  rintro _ _ ⟨rfl, rfl⟩
  refine Wp.ifT (by decide) d_jdk_42_56_4 ?_
  refine Wp.aloadN rfl rfl d_jdk_42_56_16 ?_
  refine Wp.getF nm_M_ca1U (host := "") (Or.inl (w_34 hw)) Via.refl 0 0 rfl rfl d_jdk_42_56_17 ?_
  refine Wp.iloadN rfl d_jdk_42_56_20 ?_
  refine Wp.perm [1, 0] 2 pp_1_0 (H' := ((eB b [.int (lob c0), .int (hib c0), .int (lob c1), .int (hib c1), .int (lob c2), .int (hib c2)]) :: (oStr true s (.ref b) (.int 1)) :: F)) rfl ?_
  refine Wp.callS nm_M_ca1U (rm_uca1 hw b c0 c1 c2 _ h0a h0b h1a h1b h2a h2b) (mk_M_uca1 hw) (w_84 hw) (w_85 hw) rfl rfl (Wn := 0) rfl rfl (by decide) d_jdk_42_56_21 ?_
  rintro _ _ ⟨rfl, rfl⟩
  refine Wp.perm [1, 0] 2 pp_1_0 (H' := ((oStr true s (.ref b) (.int 1)) :: (eB b [.int (lob c0), .int (hib c0), .int (lob c1), .int (hib c1), .int (lob c2), .int (hib c2)]) :: F)) rfl ?_
  refine Wp.iretN (z := c1) (by simp) rfl (narC_id h1a h1b) d_jdk_42_56_24 (by decide) (by decide) ?_
  exact ⟨rfl, rfl⟩
theorem mk_M_lca2 {W : Wd} (hw : Ws W) : Mk W M_lca2 ⟨"java/lang/StringLatin1", "charAt", "([BI)C"⟩ 2 := Mk.of nm_M_lca2 rfl rfl rfl (w_56 hw) (w_55 hw) (mkLen pd___BI_C rfl) (by decide)
def M_ca2L : Mt := (⟨"java/lang/String", "charAt", "(I)C"⟩, jdk_42_method_56_code, 2, some .char, ⟨3, 0, 0, 40⟩)
theorem nm_M_ca2L : mN M_ca2L = ⟨"java/lang/String", "charAt", "(I)C"⟩ := by delta mN M_ca2L; rfl
set_option maxRecDepth 65536 in
set_option maxHeartbeats 40000000 in
theorem rm_ca2L {W : Wd} (hw : Ws W) (s : Addr) (b : Addr) (c0 : Int32) (c1 : Int32) (c2 : Int32) (F : List En) (h0a : ¬ c0 < 0) (h0b : ¬ 65535 < c0) (h1a : ¬ c1 < 0) (h1b : ¬ 65535 < c1) (h2a : ¬ c2 < 0) (h2b : ¬ 65535 < c2) (h0c : ¬ 255 < c0) (h1c : ¬ 255 < c1) (h2c : ¬ 255 < c2) : Ct W M_ca2L [.ref s, .int 2] ((oStr true s (.ref b) (.int 0)) :: (eB b [.int (by8 c0), .int (by8 c1), .int (by8 c2)]) :: F) (fun v H' => v = some (.int c2) ∧ H' = ((oStr true s (.ref b) (.int 0)) :: (eB b [.int (by8 c0), .int (by8 c1), .int (by8 c2)]) :: F)) := by
  refine Ct.intro (L0 := [.val (.ref s), .val (.int 2)]) (plainFor_of_name pf_java_lang_String) rfl (fun K => ?_)
  refine Wp.aloadN rfl rfl d_jdk_42_56_0 ?_
  refine Wp.callV nm_M_ca2L (rm_isl0 hw s b _ ) 0 rfl (mk_M_isl0 hw) (w_48 hw) (w_49 hw) (w_51 hw) (w_50 hw) (S' := "") (Or.inl rfl) (by decide) rfl rfl rfl (Wn := 0) rfl rfl (by decide) d_jdk_42_56_1 ?_
  rintro _ _ ⟨rfl, rfl⟩
  refine Wp.ifF (by decide) d_jdk_42_56_4 ?_
  refine Wp.aloadN rfl rfl d_jdk_42_56_7 ?_
  refine Wp.getF nm_M_ca2L (host := "") (Or.inl (w_34 hw)) Via.refl 0 0 rfl rfl d_jdk_42_56_8 ?_
  refine Wp.iloadN rfl d_jdk_42_56_11 ?_
  refine Wp.perm [1, 0] 2 pp_1_0 (H' := ((eB b [.int (by8 c0), .int (by8 c1), .int (by8 c2)]) :: (oStr true s (.ref b) (.int 0)) :: F)) rfl ?_
  refine Wp.callS nm_M_ca2L (rm_lca2 hw b c0 c1 c2 _ h0a h0b h1a h1b h2a h2b h0c h1c h2c) (mk_M_lca2 hw) (w_53 hw) (w_54 hw) rfl rfl (Wn := 0) rfl rfl (by decide) d_jdk_42_56_12 ?_
  rintro _ _ ⟨rfl, rfl⟩
  refine Wp.perm [1, 0] 2 pp_1_0 (H' := ((oStr true s (.ref b) (.int 0)) :: (eB b [.int (by8 c0), .int (by8 c1), .int (by8 c2)]) :: F)) rfl ?_
  refine Wp.iretN (z := c2) (by simp) rfl (narC_id h2a h2b) d_jdk_42_56_15 (by decide) (by decide) ?_
  exact ⟨rfl, rfl⟩
theorem mk_M_uca2 {W : Wd} (hw : Ws W) : Mk W M_uca2 ⟨"java/lang/StringUTF16", "charAt", "([BI)C"⟩ 2 := Mk.of nm_M_uca2 rfl rfl rfl (w_86 hw) (w_23 hw) (mkLen pd___BI_C rfl) (by decide)
def M_ca2U : Mt := (⟨"java/lang/String", "charAt", "(I)C"⟩, jdk_42_method_56_code, 2, some .char, ⟨4, 0, 0, 53⟩)
theorem nm_M_ca2U : mN M_ca2U = ⟨"java/lang/String", "charAt", "(I)C"⟩ := by delta mN M_ca2U; rfl
set_option maxRecDepth 65536 in
set_option maxHeartbeats 40000000 in
theorem rm_ca2U {W : Wd} (hw : Ws W) (s : Addr) (b : Addr) (c0 : Int32) (c1 : Int32) (c2 : Int32) (F : List En) (h0a : ¬ c0 < 0) (h0b : ¬ 65535 < c0) (h1a : ¬ c1 < 0) (h1b : ¬ 65535 < c1) (h2a : ¬ c2 < 0) (h2b : ¬ 65535 < c2) : Ct W M_ca2U [.ref s, .int 2] ((oStr true s (.ref b) (.int 1)) :: (eB b [.int (lob c0), .int (hib c0), .int (lob c1), .int (hib c1), .int (lob c2), .int (hib c2)]) :: F) (fun v H' => v = some (.int c2) ∧ H' = ((oStr true s (.ref b) (.int 1)) :: (eB b [.int (lob c0), .int (hib c0), .int (lob c1), .int (hib c1), .int (lob c2), .int (hib c2)]) :: F)) := by
  refine Ct.intro (L0 := [.val (.ref s), .val (.int 2)]) (plainFor_of_name pf_java_lang_String) rfl (fun K => ?_)
  refine Wp.aloadN rfl rfl d_jdk_42_56_0 ?_
  refine Wp.callV nm_M_ca2U (rm_isl1 hw s b _ ) 0 rfl (mk_M_isl1 hw) (w_48 hw) (w_49 hw) (w_51 hw) (w_50 hw) (S' := "") (Or.inl rfl) (by decide) rfl rfl rfl (Wn := 0) rfl rfl (by decide) d_jdk_42_56_1 ?_
  rintro _ _ ⟨rfl, rfl⟩
  refine Wp.ifT (by decide) d_jdk_42_56_4 ?_
  refine Wp.aloadN rfl rfl d_jdk_42_56_16 ?_
  refine Wp.getF nm_M_ca2U (host := "") (Or.inl (w_34 hw)) Via.refl 0 0 rfl rfl d_jdk_42_56_17 ?_
  refine Wp.iloadN rfl d_jdk_42_56_20 ?_
  refine Wp.perm [1, 0] 2 pp_1_0 (H' := ((eB b [.int (lob c0), .int (hib c0), .int (lob c1), .int (hib c1), .int (lob c2), .int (hib c2)]) :: (oStr true s (.ref b) (.int 1)) :: F)) rfl ?_
  refine Wp.callS nm_M_ca2U (rm_uca2 hw b c0 c1 c2 _ h0a h0b h1a h1b h2a h2b) (mk_M_uca2 hw) (w_84 hw) (w_85 hw) rfl rfl (Wn := 0) rfl rfl (by decide) d_jdk_42_56_21 ?_
  rintro _ _ ⟨rfl, rfl⟩
  refine Wp.perm [1, 0] 2 pp_1_0 (H' := ((oStr true s (.ref b) (.int 1)) :: (eB b [.int (lob c0), .int (hib c0), .int (lob c1), .int (hib c1), .int (lob c2), .int (hib c2)]) :: F)) rfl ?_
  refine Wp.iretN (z := c2) (by simp) rfl (narC_id h2a h2b) d_jdk_42_56_24 (by decide) (by decide) ?_
  exact ⟨rfl, rfl⟩
theorem d_prog_21_3_0 : Dc prog_21_method_3_code 0 (.aload_n 0) 1 1 := ⟨by decide +kernel, rfl⟩
theorem d_prog_21_3_1 : Dc prog_21_method_3_code 1 (.iconst 0) 1 2 := ⟨by decide +kernel, rfl⟩
theorem d_prog_21_3_2 : Dc prog_21_method_3_code 2 (.invokevirtual 1) 3 5 := ⟨by decide +kernel, rfl⟩
theorem w_46 {W : Wd} (hw : Ws W) : Wok W (Jvm.Cond.selects "java/lang/String" ({ cls := "java/lang/String", name := "charAt", desc := "(I)C" } : Jvm.MethodName) ({ cls := "java/lang/String", name := "charAt", desc := "(I)C" } : Jvm.MethodName)) := hw.1 _ (List.mem_of_getElem? (i := 46) rfl)
theorem w_47 {W : Wd} (hw : Ws W) : Wok W (Jvm.Cond.code ({ cls := "java/lang/String", name := "charAt", desc := "(I)C" } : Jvm.MethodName) jdk_42_method_56_code (2 : Nat) (Option.some Jvm.ClassFile.FieldType.char)) := hw.1 _ (List.mem_of_getElem? (i := 47) rfl)
theorem pd__I_C : parseMethodDescriptor "(I)C" = some ⟨[.int], some .char⟩ := by decide +kernel
theorem mk_M_ca0L {W : Wd} (hw : Ws W) : Mk W M_ca0L ⟨"java/lang/String", "charAt", "(I)C"⟩ 1 := Mk.of nm_M_ca0L rfl rfl rfl (w_47 hw) (w_9 hw) (mkLen pd__I_C rfl) (by decide)
theorem w_43 {W : Wd} (hw : Ws W) : Wok W (Jvm.Cond.methodLink "com/example/fieldwright/fieldwright/Field" (1 : Nat) ({ cls := "java/lang/String", name := "charAt", desc := "(I)C" } : Jvm.MethodName)) := hw.1 _ (List.mem_of_getElem? (i := 43) rfl)
theorem w_44 {W : Wd} (hw : Ws W) : Wok W (Jvm.Cond.declares ({ cls := "java/lang/String", name := "charAt", desc := "(I)C" } : Jvm.MethodName)) := hw.1 _ (List.mem_of_getElem? (i := 44) rfl)
theorem w_45 {W : Wd} (hw : Ws W) : Wok W (Jvm.Cond.instanceMethod ({ cls := "java/lang/String", name := "charAt", desc := "(I)C" } : Jvm.MethodName)) := hw.1 _ (List.mem_of_getElem? (i := 45) rfl)
theorem d_prog_21_3_5 : Dc prog_21_method_3_code 5 (.bipush 48) 2 7 := ⟨by decide +kernel, rfl⟩
theorem d_prog_21_3_7 : Bj prog_21_method_3_code 7 (.if_icmp .ne 37) 37 10 44 := ⟨by decide +kernel, rfl, by decide, rfl⟩
theorem d_prog_21_3_10 : Dc prog_21_method_3_code 10 (.aload_n 0) 1 11 := ⟨by decide +kernel, rfl⟩
theorem d_prog_21_3_11 : Dc prog_21_method_3_code 11 (.iconst 1) 1 12 := ⟨by decide +kernel, rfl⟩
theorem d_prog_21_3_12 : Dc prog_21_method_3_code 12 (.invokevirtual 1) 3 15 := ⟨by decide +kernel, rfl⟩
theorem mk_M_ca1L {W : Wd} (hw : Ws W) : Mk W M_ca1L ⟨"java/lang/String", "charAt", "(I)C"⟩ 1 := Mk.of nm_M_ca1L rfl rfl rfl (w_47 hw) (w_9 hw) (mkLen pd__I_C rfl) (by decide)
theorem d_prog_21_3_15 : Dc prog_21_method_3_code 15 (.bipush 48) 2 17 := ⟨by decide +kernel, rfl⟩
theorem d_prog_21_3_17 : Bj prog_21_method_3_code 17 (.if_icmp .ne 27) 27 20 44 := ⟨by decide +kernel, rfl, by decide, rfl⟩
theorem d_prog_21_3_20 : Dc prog_21_method_3_code 20 (.aload_n 0) 1 21 := ⟨by decide +kernel, rfl⟩
theorem d_prog_21_3_21 : Dc prog_21_method_3_code 21 (.iconst 2) 1 22 := ⟨by decide +kernel, rfl⟩
theorem lc_2 : Int32.ofInt 2 = 2 := by decide
theorem d_prog_21_3_22 : Dc prog_21_method_3_code 22 (.invokevirtual 1) 3 25 := ⟨by decide +kernel, rfl⟩
theorem mk_M_ca2L {W : Wd} (hw : Ws W) : Mk W M_ca2L ⟨"java/lang/String", "charAt", "(I)C"⟩ 1 := Mk.of nm_M_ca2L rfl rfl rfl (w_47 hw) (w_9 hw) (mkLen pd__I_C rfl) (by decide)
theorem d_prog_21_3_25 : Dc prog_21_method_3_code 25 (.bipush 49) 2 27 := ⟨by decide +kernel, rfl⟩
theorem lb_49 : (Int8.ofInt 49).toInt32 = 49 := by decide
theorem d_prog_21_3_27 : Bj prog_21_method_3_code 27 (.if_icmp .lt 17) 17 30 44 := ⟨by decide +kernel, rfl, by decide, rfl⟩
theorem d_prog_21_3_44 : Dc prog_21_method_3_code 44 (.iconst 0) 1 45 := ⟨by decide +kernel, rfl⟩
theorem d_prog_21_3_45 : Dc prog_21_method_3_code 45 (.ireturn) 1 46 := ⟨by decide +kernel, rfl⟩
theorem d_prog_21_3_30 : Dc prog_21_method_3_code 30 (.aload_n 0) 1 31 := ⟨by decide +kernel, rfl⟩
theorem d_prog_21_3_31 : Dc prog_21_method_3_code 31 (.iconst 2) 1 32 := ⟨by decide +kernel, rfl⟩
theorem d_prog_21_3_32 : Dc prog_21_method_3_code 32 (.invokevirtual 1) 3 35 := ⟨by decide +kernel, rfl⟩
theorem d_prog_21_3_35 : Dc prog_21_method_3_code 35 (.bipush 57) 2 37 := ⟨by decide +kernel, rfl⟩
theorem d_prog_21_3_37 : Bj prog_21_method_3_code 37 (.if_icmp .gt 7) 7 40 44 := ⟨by decide +kernel, rfl, by decide, rfl⟩
theorem d_prog_21_3_40 : Dc prog_21_method_3_code 40 (.iconst 1) 1 41 := ⟨by decide +kernel, rfl⟩
theorem d_prog_21_3_41 : Bj prog_21_method_3_code 41 (.goto 4) 4 44 45 := ⟨by decide +kernel, rfl, by decide, rfl⟩
def M_ictL : Mt := (⟨"com/example/fieldwright/fieldwright/Field", "isControlTag", "(Ljava/lang/String;)Z"⟩, prog_21_method_3_code, 1, some .boolean, ⟨4, 0, 0, 53⟩)
theorem nm_M_ictL : mN M_ictL = ⟨"com/example/fieldwright/fieldwright/Field", "isControlTag", "(Ljava/lang/String;)Z"⟩ := by delta mN M_ictL; rfl
theorem pf_com_example_fieldwright_fieldwright_Field : plainName "com/example/fieldwright/fieldwright/Field" = true := by first | (simp [plainName, overriddenIn]; done) | decide +kernel
set_option maxRecDepth 65536 in
set_option maxHeartbeats 40000000 in
theorem rm_ictL {W : Wd} (hw : Ws W) (s : Addr) (b : Addr) (c0 : Int32) (c1 : Int32) (c2 : Int32) (F : List En) (h0a : ¬ c0 < 0) (h0b : ¬ 65535 < c0) (h1a : ¬ c1 < 0) (h1b : ¬ 65535 < c1) (h2a : ¬ c2 < 0) (h2b : ¬ 65535 < c2) (h0c : ¬ 255 < c0) (h1c : ¬ 255 < c1) (h2c : ¬ 255 < c2) : Ct W M_ictL [.ref s] ((oStr true s (.ref b) (.int 0)) :: (eB b [.int (by8 c0), .int (by8 c1), .int (by8 c2)]) :: F) (fun v H' => (v = some (.int 1) ∧ H' = ((oStr true s (.ref b) (.int 0)) :: (eB b [.int (by8 c0), .int (by8 c1), .int (by8 c2)]) :: F) ∧ c0 = 48 ∧ c1 = 48 ∧ ¬ c2 < 49 ∧ ¬ 57 < c2) ∨ (v = some (.int 0) ∧ H' = ((oStr true s (.ref b) (.int 0)) :: (eB b [.int (by8 c0), .int (by8 c1), .int (by8 c2)]) :: F) ∧ (¬ c0 = 48 ∨ ¬ c1 = 48 ∨ c2 < 49 ∨ 57 < c2))) := by
  refine Ct.intro (L0 := [.val (.ref s)]) (plainFor_of_name pf_com_example_fieldwright_fieldwright_Field) rfl (fun K => ?_)
  refine Wp.aloadN rfl rfl d_prog_21_3_0 ?_
  refine Wp.iconst lc_0 d_prog_21_3_1 ?_
  refine Wp.callV nm_M_ictL (rm_ca0L hw s b c0 c1 c2 _ h0a h0b h1a h1b h2a h2b h0c h1c h2c) 0 rfl (mk_M_ca0L hw) (w_43 hw) (w_44 hw) (w_46 hw) (w_45 hw) (S' := "") (Or.inl rfl) (by decide) rfl rfl rfl (Wn := 0) rfl rfl (by decide) d_prog_21_3_2 ?_
  rintro _ _ ⟨rfl, rfl⟩
  refine Wp.bipush lb_48 d_prog_21_3_5 ?_
  by_cases b7_1 : c0 = 48
  · refine Wp.icF (teq b7_1).2 d_prog_21_3_7 ?_
    refine Wp.aloadN rfl rfl d_prog_21_3_10 ?_
    refine Wp.iconst lc_1 d_prog_21_3_11 ?_
    refine Wp.callV nm_M_ictL (rm_ca1L hw s b c0 c1 c2 _ h0a h0b h1a h1b h2a h2b h0c h1c h2c) 0 rfl (mk_M_ca1L hw) (w_43 hw) (w_44 hw) (w_46 hw) (w_45 hw) (S' := "") (Or.inl rfl) (by decide) rfl rfl rfl (Wn := 0) rfl rfl (by decide) d_prog_21_3_12 ?_
    rintro _ _ ⟨rfl, rfl⟩
    refine Wp.bipush lb_48 d_prog_21_3_15 ?_
    by_cases b17_2 : c1 = 48
    · refine Wp.icF (teq b17_2).2 d_prog_21_3_17 ?_
      refine Wp.aloadN rfl rfl d_prog_21_3_20 ?_
      refine Wp.iconst lc_2 d_prog_21_3_21 ?_
      refine Wp.callV nm_M_ictL (rm_ca2L hw s b c0 c1 c2 _ h0a h0b h1a h1b h2a h2b h0c h1c h2c) 0 rfl (mk_M_ca2L hw) (w_43 hw) (w_44 hw) (w_46 hw) (w_45 hw) (S' := "") (Or.inl rfl) (by decide) rfl rfl rfl (Wn := 0) rfl rfl (by decide) d_prog_21_3_22 ?_
      rintro _ _ ⟨rfl, rfl⟩
      refine Wp.bipush lb_49 d_prog_21_3_25 ?_
      by_cases b27_3 : c2 < 49
      · refine Wp.icT (tlt b27_3).1 d_prog_21_3_27 ?_
        refine Wp.iconst lc_0 d_prog_21_3_44 ?_
        refine Wp.iretN (z := 0) (by simp) rfl (by decide) d_prog_21_3_45 (by decide) (by decide) ?_
        exact Or.inr (⟨rfl, rfl, (Or.inr (Or.inr (Or.inl b27_3)))⟩)
      · refine Wp.icF (flt b27_3).1 d_prog_21_3_27 ?_
        refine Wp.aloadN rfl rfl d_prog_21_3_30 ?_
        refine Wp.iconst lc_2 d_prog_21_3_31 ?_
        refine Wp.callV nm_M_ictL (rm_ca2L hw s b c0 c1 c2 _ h0a h0b h1a h1b h2a h2b h0c h1c h2c) 0 rfl (mk_M_ca2L hw) (w_43 hw) (w_44 hw) (w_46 hw) (w_45 hw) (S' := "") (Or.inl rfl) (by decide) rfl rfl rfl (Wn := 0) rfl rfl (by decide) d_prog_21_3_32 ?_
        rintro _ _ ⟨rfl, rfl⟩
        refine Wp.bipush lb_57 d_prog_21_3_35 ?_
        by_cases b37_4 : 57 < c2
        · refine Wp.icT (tlt b37_4).2.2.1 d_prog_21_3_37 ?_
          refine Wp.iconst lc_0 d_prog_21_3_44 ?_
          refine Wp.iretN (z := 0) (by simp) rfl (by decide) d_prog_21_3_45 (by decide) (by decide) ?_
          exact Or.inr (⟨rfl, rfl, (Or.inr (Or.inr (Or.inr (b37_4))))⟩)
        · refine Wp.icF (flt b37_4).2.2.1 d_prog_21_3_37 ?_
          refine Wp.iconst lc_1 d_prog_21_3_40 ?_
          refine Wp.goto d_prog_21_3_41 ?_
          refine Wp.iretN (z := 1) (by simp) rfl (by decide) d_prog_21_3_45 (by decide) (by decide) ?_
          exact Or.inl ⟨rfl, rfl, b7_1, b17_2, b27_3, b37_4⟩
    · refine Wp.icT (feq b17_2).2 d_prog_21_3_17 ?_
      refine Wp.iconst lc_0 d_prog_21_3_44 ?_
      refine Wp.iretN (z := 0) (by simp) rfl (by decide) d_prog_21_3_45 (by decide) (by decide) ?_
      exact Or.inr (⟨rfl, rfl, (Or.inr (Or.inl b17_2))⟩)
  · refine Wp.icT (feq b7_1).2 d_prog_21_3_7 ?_
    refine Wp.iconst lc_0 d_prog_21_3_44 ?_
    refine Wp.iretN (z := 0) (by simp) rfl (by decide) d_prog_21_3_45 (by decide) (by decide) ?_
    exact Or.inr (⟨rfl, rfl, (Or.inl b7_1)⟩)
theorem mk_M_ca0U {W : Wd} (hw : Ws W) : Mk W M_ca0U ⟨"java/lang/String", "charAt", "(I)C"⟩ 1 := Mk.of nm_M_ca0U rfl rfl rfl (w_47 hw) (w_9 hw) (mkLen pd__I_C rfl) (by decide)
theorem mk_M_ca1U {W : Wd} (hw : Ws W) : Mk W M_ca1U ⟨"java/lang/String", "charAt", "(I)C"⟩ 1 := Mk.of nm_M_ca1U rfl rfl rfl (w_47 hw) (w_9 hw) (mkLen pd__I_C rfl) (by decide)
theorem mk_M_ca2U {W : Wd} (hw : Ws W) : Mk W M_ca2U ⟨"java/lang/String", "charAt", "(I)C"⟩ 1 := Mk.of nm_M_ca2U rfl rfl rfl (w_47 hw) (w_9 hw) (mkLen pd__I_C rfl) (by decide)
def M_ictU : Mt := (⟨"com/example/fieldwright/fieldwright/Field", "isControlTag", "(Ljava/lang/String;)Z"⟩, prog_21_method_3_code, 1, some .boolean, ⟨5, 0, 0, 66⟩)
theorem nm_M_ictU : mN M_ictU = ⟨"com/example/fieldwright/fieldwright/Field", "isControlTag", "(Ljava/lang/String;)Z"⟩ := by delta mN M_ictU; rfl
set_option maxRecDepth 65536 in
set_option maxHeartbeats 40000000 in
theorem rm_ictU {W : Wd} (hw : Ws W) (s : Addr) (b : Addr) (c0 : Int32) (c1 : Int32) (c2 : Int32) (F : List En) (h0a : ¬ c0 < 0) (h0b : ¬ 65535 < c0) (h1a : ¬ c1 < 0) (h1b : ¬ 65535 < c1) (h2a : ¬ c2 < 0) (h2b : ¬ 65535 < c2) : Ct W M_ictU [.ref s] ((oStr true s (.ref b) (.int 1)) :: (eB b [.int (lob c0), .int (hib c0), .int (lob c1), .int (hib c1), .int (lob c2), .int (hib c2)]) :: F) (fun v H' => (v = some (.int 1) ∧ H' = ((oStr true s (.ref b) (.int 1)) :: (eB b [.int (lob c0), .int (hib c0), .int (lob c1), .int (hib c1), .int (lob c2), .int (hib c2)]) :: F) ∧ c0 = 48 ∧ c1 = 48 ∧ ¬ c2 < 49 ∧ ¬ 57 < c2) ∨ (v = some (.int 0) ∧ H' = ((oStr true s (.ref b) (.int 1)) :: (eB b [.int (lob c0), .int (hib c0), .int (lob c1), .int (hib c1), .int (lob c2), .int (hib c2)]) :: F) ∧ (¬ c0 = 48 ∨ ¬ c1 = 48 ∨ c2 < 49 ∨ 57 < c2))) := by
  refine Ct.intro (L0 := [.val (.ref s)]) (plainFor_of_name pf_com_example_fieldwright_fieldwright_Field) rfl (fun K => ?_)
  refine Wp.aloadN rfl rfl d_prog_21_3_0 ?_
  refine Wp.iconst lc_0 d_prog_21_3_1 ?_
  refine Wp.callV nm_M_ictU (rm_ca0U hw s b c0 c1 c2 _ h0a h0b h1a h1b h2a h2b) 0 rfl (mk_M_ca0U hw) (w_43 hw) (w_44 hw) (w_46 hw) (w_45 hw) (S' := "") (Or.inl rfl) (by decide) rfl rfl rfl (Wn := 0) rfl rfl (by decide) d_prog_21_3_2 ?_
  rintro _ _ ⟨rfl, rfl⟩
  refine Wp.bipush lb_48 d_prog_21_3_5 ?_
  by_cases b7_1 : c0 = 48
  · refine Wp.icF (teq b7_1).2 d_prog_21_3_7 ?_
    refine Wp.aloadN rfl rfl d_prog_21_3_10 ?_
    refine Wp.iconst lc_1 d_prog_21_3_11 ?_
    refine Wp.callV nm_M_ictU (rm_ca1U hw s b c0 c1 c2 _ h0a h0b h1a h1b h2a h2b) 0 rfl (mk_M_ca1U hw) (w_43 hw) (w_44 hw) (w_46 hw) (w_45 hw) (S' := "") (Or.inl rfl) (by decide) rfl rfl rfl (Wn := 0) rfl rfl (by decide) d_prog_21_3_12 ?_
    rintro _ _ ⟨rfl, rfl⟩
    refine Wp.bipush lb_48 d_prog_21_3_15 ?_
    by_cases b17_2 : c1 = 48
    · refine Wp.icF (teq b17_2).2 d_prog_21_3_17 ?_
      refine Wp.aloadN rfl rfl d_prog_21_3_20 ?_
      refine Wp.iconst lc_2 d_prog_21_3_21 ?_
      refine Wp.callV nm_M_ictU (rm_ca2U hw s b c0 c1 c2 _ h0a h0b h1a h1b h2a h2b) 0 rfl (mk_M_ca2U hw) (w_43 hw) (w_44 hw) (w_46 hw) (w_45 hw) (S' := "") (Or.inl rfl) (by decide) rfl rfl rfl (Wn := 0) rfl rfl (by decide) d_prog_21_3_22 ?_
      rintro _ _ ⟨rfl, rfl⟩
      refine Wp.bipush lb_49 d_prog_21_3_25 ?_
      by_cases b27_3 : c2 < 49
      · refine Wp.icT (tlt b27_3).1 d_prog_21_3_27 ?_
        refine Wp.iconst lc_0 d_prog_21_3_44 ?_
        refine Wp.iretN (z := 0) (by simp) rfl (by decide) d_prog_21_3_45 (by decide) (by decide) ?_
        exact Or.inr (⟨rfl, rfl, (Or.inr (Or.inr (Or.inl b27_3)))⟩)
      · refine Wp.icF (flt b27_3).1 d_prog_21_3_27 ?_
        refine Wp.aloadN rfl rfl d_prog_21_3_30 ?_
        refine Wp.iconst lc_2 d_prog_21_3_31 ?_
        refine Wp.callV nm_M_ictU (rm_ca2U hw s b c0 c1 c2 _ h0a h0b h1a h1b h2a h2b) 0 rfl (mk_M_ca2U hw) (w_43 hw) (w_44 hw) (w_46 hw) (w_45 hw) (S' := "") (Or.inl rfl) (by decide) rfl rfl rfl (Wn := 0) rfl rfl (by decide) d_prog_21_3_32 ?_
        rintro _ _ ⟨rfl, rfl⟩
        refine Wp.bipush lb_57 d_prog_21_3_35 ?_
        by_cases b37_4 : 57 < c2
        · refine Wp.icT (tlt b37_4).2.2.1 d_prog_21_3_37 ?_
          refine Wp.iconst lc_0 d_prog_21_3_44 ?_
          refine Wp.iretN (z := 0) (by simp) rfl (by decide) d_prog_21_3_45 (by decide) (by decide) ?_
          exact Or.inr (⟨rfl, rfl, (Or.inr (Or.inr (Or.inr (b37_4))))⟩)
        · refine Wp.icF (flt b37_4).2.2.1 d_prog_21_3_37 ?_
          refine Wp.iconst lc_1 d_prog_21_3_40 ?_
          refine Wp.goto d_prog_21_3_41 ?_
          refine Wp.iretN (z := 1) (by simp) rfl (by decide) d_prog_21_3_45 (by decide) (by decide) ?_
          exact Or.inl ⟨rfl, rfl, b7_1, b17_2, b27_3, b37_4⟩
    · refine Wp.icT (feq b17_2).2 d_prog_21_3_17 ?_
      refine Wp.iconst lc_0 d_prog_21_3_44 ?_
      refine Wp.iretN (z := 0) (by simp) rfl (by decide) d_prog_21_3_45 (by decide) (by decide) ?_
      exact Or.inr (⟨rfl, rfl, (Or.inr (Or.inl b17_2))⟩)
  · refine Wp.icT (feq b7_1).2 d_prog_21_3_7 ?_
    refine Wp.iconst lc_0 d_prog_21_3_44 ?_
    refine Wp.iretN (z := 0) (by simp) rfl (by decide) d_prog_21_3_45 (by decide) (by decide) ?_
    exact Or.inr (⟨rfl, rfl, (Or.inl b7_1)⟩)
theorem bad_dig0 {c : Int32} (h : c = 48) (q : c < 48 ∨ 57 < c) : False := by subst h; revert q; decide
theorem bad_dig2 {c : Int32} (h1 : ¬ c < 49) (h2 : ¬ 57 < c) (q : c < 48 ∨ 57 < c) : False := by
  rcases q with q | q
  · exact h1 (by rw [Int32.lt_iff_toInt_lt] at q ⊢; have a : (48 : Int32).toInt = 48 := rfl; have b : (49 : Int32).toInt = 49 := rfl; omega)
  · exact h2 q
theorem val_int {c0 c1 c2 : Int32} (a0 : ¬ c0 < 48) (b0 : ¬ 57 < c0) (a1 : ¬ c1 < 48) (b1 : ¬ 57 < c1) (a2 : ¬ c2 < 48) (b2 : ¬ 57 < c2) : (((c0 - 48) * 100 + (c1 - 48) * 10) + (c2 - 48)).toInt = (c0.toInt - 48) * 100 + (c1.toInt - 48) * 10 + (c2.toInt - 48) ∧ 48 ≤ c0.toInt ∧ c0.toInt ≤ 57 ∧ 48 ≤ c1.toInt ∧ c1.toInt ≤ 57 ∧ 48 ≤ c2.toInt ∧ c2.toInt ≤ 57 := by
  rw [Int32.lt_iff_toInt_lt] at a0 b0 a1 b1 a2 b2
  have e0 : (48 : Int32).toInt = 48 := rfl
  have e1 : (57 : Int32).toInt = 57 := rfl
  have e2 : (100 : Int32).toInt = 100 := rfl
  have e3 : (10 : Int32).toInt = 10 := rfl
  rw [e0] at a0 a1 a2
  rw [e1] at b0 b1 b2
  have s0 := c_isub c0 48
  have s1 := c_isub c1 48
  have s2 := c_isub c2 48
  have q0 := rng32 (c0 - 48)
  have q1 := rng32 (c1 - 48)
  have q2 := rng32 (c2 - 48)
  rw [e0] at s0 s1 s2
  have m0 := c_imul (c0 - 48) 100
  have m1 := c_imul (c1 - 48) 10
  have t0 := rng32 ((c0 - 48) * 100)
  have t1 := rng32 ((c1 - 48) * 10)
  rw [e2] at m0
  rw [e3] at m1
  have u0 := c_iadd ((c0 - 48) * 100) ((c1 - 48) * 10)
  have v0 := rng32 ((c0 - 48) * 100 + (c1 - 48) * 10)
  have u1 := c_iadd ((c0 - 48) * 100 + (c1 - 48) * 10) (c2 - 48)
  have v1 := rng32 (((c0 - 48) * 100 + (c1 - 48) * 10) + (c2 - 48))
  refine ⟨?_, by omega, by omega, by omega, by omega, by omega, by omega⟩
  omega
theorem bad_val1 {c0 c1 c2 : Int32} (a0 : ¬ c0 < 48) (b0 : ¬ 57 < c0) (a1 : ¬ c1 < 48) (b1 : ¬ 57 < c1) (a2 : ¬ c2 < 48) (b2 : ¬ 57 < c2) (e0 : c0 = 48) (e1 : c1 = 48) (h1 : ¬ c2 < 49) (h2 : ¬ 57 < c2) (q : (((c0 - 48) * 100 + (c1 - 48) * 10) + (c2 - 48)) < 1 ∨ 9 < (((c0 - 48) * 100 + (c1 - 48) * 10) + (c2 - 48))) : False := by
  obtain ⟨v, -⟩ := val_int a0 b0 a1 b1 a2 b2
  subst e0 e1
  rw [Int32.lt_iff_toInt_lt, Int32.lt_iff_toInt_lt, v] at q
  rw [Int32.lt_iff_toInt_lt] at h1 h2
  have e1 : (57 : Int32).toInt = 57 := rfl
  have e2 : (49 : Int32).toInt = 49 := rfl
  have e3 : (48 : Int32).toInt = 48 := rfl
  have e4 : (1 : Int32).toInt = 1 := rfl
  have e5 : (9 : Int32).toInt = 9 := rfl
  rw [e1] at h2
  rw [e2] at h1
  rw [e3, e4, e5] at q
  omega
theorem bad_val0 {c0 c1 c2 : Int32} (a0 : ¬ c0 < 48) (b0 : ¬ 57 < c0) (a1 : ¬ c1 < 48) (b1 : ¬ 57 < c1) (a2 : ¬ c2 < 48) (b2 : ¬ 57 < c2) (q1 : ¬ (((c0 - 48) * 100 + (c1 - 48) * 10) + (c2 - 48)) < 1) (q9 : ¬ 9 < (((c0 - 48) * 100 + (c1 - 48) * 10) + (c2 - 48))) (q : ¬ c0 = 48 ∨ ¬ c1 = 48 ∨ c2 < 49 ∨ 57 < c2) : False := by
  obtain ⟨v, -⟩ := val_int a0 b0 a1 b1 a2 b2
  rw [Int32.lt_iff_toInt_lt, v] at q1 q9
  rw [Int32.lt_iff_toInt_lt] at a0 a1 a2 b0 b1 b2
  rw [← Int32.toInt_inj, ← Int32.toInt_inj, Int32.lt_iff_toInt_lt, Int32.lt_iff_toInt_lt] at q
  have e1 : (57 : Int32).toInt = 57 := rfl
  have e2 : (49 : Int32).toInt = 49 := rfl
  have e3 : (48 : Int32).toInt = 48 := rfl
  have e4 : (1 : Int32).toInt = 1 := rfl
  have e5 : (9 : Int32).toInt = 9 := rfl
  rw [e3] at a0 a1 a2
  rw [e1] at b0 b1 b2
  rw [e4] at q1
  rw [e5] at q9
  rw [e1, e2, e3] at q
  omega
theorem d_law_0 : Dc code 0 (.iconst 3) 1 1 := ⟨by decide +kernel, rfl⟩
theorem lc_3 : Int32.ofInt 3 = 3 := by decide
theorem d_law_1 : Dc code 1 (.newarray .char) 2 3 := ⟨by decide +kernel, rfl⟩
theorem w_0 {W : Wd} (hw : Ws W) : Wok W (Jvm.Cond.arrayClass Jvm.ClassFile.FieldType.char) := hw.1 _ (List.mem_of_getElem? (i := 0) rfl)
theorem d_law_3 : Dc code 3 (.astore_n 3) 1 4 := ⟨by decide +kernel, rfl⟩
theorem d_law_4 : Dc code 4 (.aload_n 3) 1 5 := ⟨by decide +kernel, rfl⟩
theorem d_law_5 : Dc code 5 (.iconst 0) 1 6 := ⟨by decide +kernel, rfl⟩
theorem d_law_6 : Dc code 6 (.iload_n 0) 1 7 := ⟨by decide +kernel, rfl⟩
theorem d_law_7 : Dc code 7 (.invokestatic 9) 3 10 := ⟨by decide +kernel, rfl⟩
theorem w_4 {W : Wd} (hw : Ws W) : Wok W (Jvm.Cond.code ({ cls := "com/example/fieldwright/fieldwright/FieldIsControlTagPinLaw", name := "draw", desc := "(I)C" } : Jvm.MethodName) method_2_code (1 : Nat) (Option.some Jvm.ClassFile.FieldType.char)) := hw.1 _ (List.mem_of_getElem? (i := 4) rfl)
theorem w_3 {W : Wd} (hw : Ws W) : Wok W (Jvm.Cond.initialized "com/example/fieldwright/fieldwright/FieldIsControlTagPinLaw") := hw.1 _ (List.mem_of_getElem? (i := 3) rfl)
theorem mk_M_draw {W : Wd} (hw : Ws W) : Mk W M_draw ⟨"com/example/fieldwright/fieldwright/FieldIsControlTagPinLaw", "draw", "(I)C"⟩ 1 := Mk.of nm_M_draw rfl rfl rfl (w_4 hw) (w_3 hw) (mkLen pd__I_C rfl) (by decide)
theorem w_1 {W : Wd} (hw : Ws W) : Wok W (Jvm.Cond.methodLink "com/example/fieldwright/fieldwright/FieldIsControlTagPinLaw" (9 : Nat) ({ cls := "com/example/fieldwright/fieldwright/FieldIsControlTagPinLaw", name := "draw", desc := "(I)C" } : Jvm.MethodName)) := hw.1 _ (List.mem_of_getElem? (i := 1) rfl)
theorem w_2 {W : Wd} (hw : Ws W) : Wok W (Jvm.Cond.static ({ cls := "com/example/fieldwright/fieldwright/FieldIsControlTagPinLaw", name := "draw", desc := "(I)C" } : Jvm.MethodName)) := hw.1 _ (List.mem_of_getElem? (i := 2) rfl)
theorem d_law_10 : Dc code 10 (.castore) 1 11 := ⟨by decide +kernel, rfl⟩
theorem d_law_11 : Dc code 11 (.aload_n 3) 1 12 := ⟨by decide +kernel, rfl⟩
theorem d_law_12 : Dc code 12 (.iconst 1) 1 13 := ⟨by decide +kernel, rfl⟩
theorem d_law_13 : Dc code 13 (.iload_n 1) 1 14 := ⟨by decide +kernel, rfl⟩
theorem d_law_14 : Dc code 14 (.invokestatic 9) 3 17 := ⟨by decide +kernel, rfl⟩
theorem d_law_17 : Dc code 17 (.castore) 1 18 := ⟨by decide +kernel, rfl⟩
theorem d_law_18 : Dc code 18 (.aload_n 3) 1 19 := ⟨by decide +kernel, rfl⟩
theorem d_law_19 : Dc code 19 (.iconst 2) 1 20 := ⟨by decide +kernel, rfl⟩
theorem d_law_20 : Dc code 20 (.iload_n 2) 1 21 := ⟨by decide +kernel, rfl⟩
theorem d_law_21 : Dc code 21 (.invokestatic 9) 3 24 := ⟨by decide +kernel, rfl⟩
theorem d_law_24 : Dc code 24 (.castore) 1 25 := ⟨by decide +kernel, rfl⟩
theorem d_law_25 : Dc code 25 (.new 15) 3 28 := ⟨by decide +kernel, rfl⟩
theorem w_7 {W : Wd} (hw : Ws W) : Wok W (Jvm.Cond.classLink "com/example/fieldwright/fieldwright/FieldIsControlTagPinLaw" (15 : Nat) "java/lang/String") := hw.1 _ (List.mem_of_getElem? (i := 7) rfl)
theorem nf_oStr {W : Wd} (hw : Ws W) : NewFs W "java/lang/String" [("java/lang/String", "value", "[B", .null), ("java/lang/String", "coder", "B", .int 0)] := NewFs.cons (Or.inr (w_35 hw)) (ty := (.array .byte)) (by decide) rfl (by decide) (NewFs.cons (Or.inr (w_33 hw)) (ty := .byte) (by decide) rfl (by decide) (NewFs.nil))
theorem d_law_28 : Dc code 28 (.dup) 1 29 := ⟨by decide +kernel, rfl⟩
theorem d_law_29 : Dc code 29 (.aload_n 3) 1 30 := ⟨by decide +kernel, rfl⟩
theorem d_law_30 : Dc code 30 (.invokespecial 17) 3 33 := ⟨by decide +kernel, rfl⟩
theorem w_12 {W : Wd} (hw : Ws W) : Wok W (Jvm.Cond.code ({ cls := "java/lang/String", name := "<init>", desc := "([C)V" } : Jvm.MethodName) jdk_42_method_3_code (2 : Nat) (Option.none : Option Jvm.ClassFile.FieldType)) := hw.1 _ (List.mem_of_getElem? (i := 12) rfl)
theorem pd___C_V : parseMethodDescriptor "([C)V" = some ⟨[(.array .char)], none⟩ := by decide +kernel
theorem mk_M_si {W : Wd} (hw : Ws W) : Mk W M_si ⟨"java/lang/String", "<init>", "([C)V"⟩ 1 := Mk.of nm_M_si rfl rfl rfl (w_12 hw) (w_9 hw) (mkLen pd___C_V rfl) (by decide)
theorem w_10 {W : Wd} (hw : Ws W) : Wok W (Jvm.Cond.methodLink "com/example/fieldwright/fieldwright/FieldIsControlTagPinLaw" (17 : Nat) ({ cls := "java/lang/String", name := "<init>", desc := "([C)V" } : Jvm.MethodName)) := hw.1 _ (List.mem_of_getElem? (i := 10) rfl)
theorem w_11 {W : Wd} (hw : Ws W) : Wok W (Jvm.Cond.instanceMethod ({ cls := "java/lang/String", name := "<init>", desc := "([C)V" } : Jvm.MethodName)) := hw.1 _ (List.mem_of_getElem? (i := 11) rfl)
theorem d_law_33 : Dc code 33 (.astore 4) 2 35 := ⟨by decide +kernel, rfl⟩
theorem d_law_35 : Dc code 35 (.aload_n 3) 1 36 := ⟨by decide +kernel, rfl⟩
theorem d_law_36 : Dc code 36 (.iconst 0) 1 37 := ⟨by decide +kernel, rfl⟩
theorem d_law_37 : Dc code 37 (.caload) 1 38 := ⟨by decide +kernel, rfl⟩
theorem d_law_38 : Dc code 38 (.invokestatic 20) 3 41 := ⟨by decide +kernel, rfl⟩
theorem w_38 {W : Wd} (hw : Ws W) : Wok W (Jvm.Cond.code ({ cls := "com/example/fieldwright/fieldwright/FieldIsControlTagPinLaw", name := "isDigit", desc := "(C)Z" } : Jvm.MethodName) method_3_code (1 : Nat) (Option.some Jvm.ClassFile.FieldType.boolean)) := hw.1 _ (List.mem_of_getElem? (i := 38) rfl)
theorem pd__C_Z : parseMethodDescriptor "(C)Z" = some ⟨[.char], some .boolean⟩ := by decide +kernel
theorem mk_M_isd {W : Wd} (hw : Ws W) : Mk W M_isd ⟨"com/example/fieldwright/fieldwright/FieldIsControlTagPinLaw", "isDigit", "(C)Z"⟩ 1 := Mk.of nm_M_isd rfl rfl rfl (w_38 hw) (w_3 hw) (mkLen pd__C_Z rfl) (by decide)
theorem w_36 {W : Wd} (hw : Ws W) : Wok W (Jvm.Cond.methodLink "com/example/fieldwright/fieldwright/FieldIsControlTagPinLaw" (20 : Nat) ({ cls := "com/example/fieldwright/fieldwright/FieldIsControlTagPinLaw", name := "isDigit", desc := "(C)Z" } : Jvm.MethodName)) := hw.1 _ (List.mem_of_getElem? (i := 36) rfl)
theorem w_37 {W : Wd} (hw : Ws W) : Wok W (Jvm.Cond.static ({ cls := "com/example/fieldwright/fieldwright/FieldIsControlTagPinLaw", name := "isDigit", desc := "(C)Z" } : Jvm.MethodName)) := hw.1 _ (List.mem_of_getElem? (i := 37) rfl)
theorem d_law_41 : Bj code 41 (.ifCond .eq 72) 72 44 113 := ⟨by decide +kernel, rfl, by decide, rfl⟩
theorem d_law_44 : Dc code 44 (.aload_n 3) 1 45 := ⟨by decide +kernel, rfl⟩
theorem d_law_45 : Dc code 45 (.iconst 1) 1 46 := ⟨by decide +kernel, rfl⟩
theorem d_law_46 : Dc code 46 (.caload) 1 47 := ⟨by decide +kernel, rfl⟩
theorem d_law_47 : Dc code 47 (.invokestatic 20) 3 50 := ⟨by decide +kernel, rfl⟩
theorem d_law_50 : Bj code 50 (.ifCond .eq 63) 63 53 113 := ⟨by decide +kernel, rfl, by decide, rfl⟩
theorem d_law_53 : Dc code 53 (.aload_n 3) 1 54 := ⟨by decide +kernel, rfl⟩
theorem d_law_54 : Dc code 54 (.iconst 2) 1 55 := ⟨by decide +kernel, rfl⟩
theorem d_law_55 : Dc code 55 (.caload) 1 56 := ⟨by decide +kernel, rfl⟩
theorem d_law_56 : Dc code 56 (.invokestatic 20) 3 59 := ⟨by decide +kernel, rfl⟩
theorem d_law_59 : Bj code 59 (.ifCond .eq 54) 54 62 113 := ⟨by decide +kernel, rfl, by decide, rfl⟩
theorem d_law_62 : Dc code 62 (.aload_n 3) 1 63 := ⟨by decide +kernel, rfl⟩
theorem d_law_63 : Dc code 63 (.iconst 0) 1 64 := ⟨by decide +kernel, rfl⟩
theorem d_law_64 : Dc code 64 (.caload) 1 65 := ⟨by decide +kernel, rfl⟩
theorem d_law_65 : Dc code 65 (.bipush 48) 2 67 := ⟨by decide +kernel, rfl⟩
theorem d_law_67 : Dc code 67 (.isub) 1 68 := ⟨by decide +kernel, rfl⟩
theorem d_law_68 : Dc code 68 (.bipush 100) 2 70 := ⟨by decide +kernel, rfl⟩
theorem lb_100 : (Int8.ofInt 100).toInt32 = 100 := by decide
theorem d_law_70 : Dc code 70 (.imul) 1 71 := ⟨by decide +kernel, rfl⟩
theorem d_law_71 : Dc code 71 (.aload_n 3) 1 72 := ⟨by decide +kernel, rfl⟩
theorem d_law_72 : Dc code 72 (.iconst 1) 1 73 := ⟨by decide +kernel, rfl⟩
theorem d_law_73 : Dc code 73 (.caload) 1 74 := ⟨by decide +kernel, rfl⟩
theorem d_law_74 : Dc code 74 (.bipush 48) 2 76 := ⟨by decide +kernel, rfl⟩
theorem d_law_76 : Dc code 76 (.isub) 1 77 := ⟨by decide +kernel, rfl⟩
theorem d_law_77 : Dc code 77 (.bipush 10) 2 79 := ⟨by decide +kernel, rfl⟩
theorem lb_10 : (Int8.ofInt 10).toInt32 = 10 := by decide
theorem d_law_79 : Dc code 79 (.imul) 1 80 := ⟨by decide +kernel, rfl⟩
theorem d_law_80 : Dc code 80 (.iadd) 1 81 := ⟨by decide +kernel, rfl⟩
theorem d_law_81 : Dc code 81 (.aload_n 3) 1 82 := ⟨by decide +kernel, rfl⟩
theorem d_law_82 : Dc code 82 (.iconst 2) 1 83 := ⟨by decide +kernel, rfl⟩
theorem d_law_83 : Dc code 83 (.caload) 1 84 := ⟨by decide +kernel, rfl⟩
theorem d_law_84 : Dc code 84 (.bipush 48) 2 86 := ⟨by decide +kernel, rfl⟩
theorem d_law_86 : Dc code 86 (.isub) 1 87 := ⟨by decide +kernel, rfl⟩
theorem d_law_87 : Dc code 87 (.iadd) 1 88 := ⟨by decide +kernel, rfl⟩
theorem d_law_88 : Dc code 88 (.istore 6) 2 90 := ⟨by decide +kernel, rfl⟩
theorem d_law_90 : Dc code 90 (.iload 6) 2 92 := ⟨by decide +kernel, rfl⟩
theorem d_law_92 : Dc code 92 (.iconst 1) 1 93 := ⟨by decide +kernel, rfl⟩
theorem d_law_93 : Bj code 93 (.if_icmp .lt 14) 14 96 107 := ⟨by decide +kernel, rfl, by decide, rfl⟩
theorem d_law_107 : Dc code 107 (.iconst 0) 1 108 := ⟨by decide +kernel, rfl⟩
theorem d_law_108 : Dc code 108 (.istore 5) 2 110 := ⟨by decide +kernel, rfl⟩
theorem d_law_110 : Bj code 110 (.goto 6) 6 113 116 := ⟨by decide +kernel, rfl, by decide, rfl⟩
theorem d_law_116 : Dc code 116 (.aload 4) 2 118 := ⟨by decide +kernel, rfl⟩
theorem d_law_118 : Dc code 118 (.invokestatic 24) 3 121 := ⟨by decide +kernel, rfl⟩
theorem w_42 {W : Wd} (hw : Ws W) : Wok W (Jvm.Cond.code ({ cls := "com/example/fieldwright/fieldwright/Field", name := "isControlTag", desc := "(Ljava/lang/String;)Z" } : Jvm.MethodName) prog_21_method_3_code (1 : Nat) (Option.some Jvm.ClassFile.FieldType.boolean)) := hw.1 _ (List.mem_of_getElem? (i := 42) rfl)
theorem w_41 {W : Wd} (hw : Ws W) : Wok W (Jvm.Cond.initialized "com/example/fieldwright/fieldwright/Field") := hw.1 _ (List.mem_of_getElem? (i := 41) rfl)
theorem pd__Ljava_lang_String__Z : parseMethodDescriptor "(Ljava/lang/String;)Z" = some ⟨[(.object "java/lang/String")], some .boolean⟩ := by decide +kernel
theorem mk_M_ictL {W : Wd} (hw : Ws W) : Mk W M_ictL ⟨"com/example/fieldwright/fieldwright/Field", "isControlTag", "(Ljava/lang/String;)Z"⟩ 1 := Mk.of nm_M_ictL rfl rfl rfl (w_42 hw) (w_41 hw) (mkLen pd__Ljava_lang_String__Z rfl) (by decide)
theorem w_39 {W : Wd} (hw : Ws W) : Wok W (Jvm.Cond.methodLink "com/example/fieldwright/fieldwright/FieldIsControlTagPinLaw" (24 : Nat) ({ cls := "com/example/fieldwright/fieldwright/Field", name := "isControlTag", desc := "(Ljava/lang/String;)Z" } : Jvm.MethodName)) := hw.1 _ (List.mem_of_getElem? (i := 39) rfl)
theorem w_40 {W : Wd} (hw : Ws W) : Wok W (Jvm.Cond.static ({ cls := "com/example/fieldwright/fieldwright/Field", name := "isControlTag", desc := "(Ljava/lang/String;)Z" } : Jvm.MethodName)) := hw.1 _ (List.mem_of_getElem? (i := 40) rfl)
theorem d_law_121 : Dc code 121 (.iload 5) 2 123 := ⟨by decide +kernel, rfl⟩
theorem d_law_123 : Bj code 123 (.if_icmp .ne 7) 7 126 130 := ⟨by decide +kernel, rfl, by decide, rfl⟩
theorem d_law_130 : Dc code 130 (.iconst 0) 1 131 := ⟨by decide +kernel, rfl⟩
theorem d_law_131 : Dc code 131 (.ireturn) 1 132 := ⟨by decide +kernel, rfl⟩
theorem d_law_126 : Dc code 126 (.iconst 1) 1 127 := ⟨by decide +kernel, rfl⟩
theorem d_law_127 : Bj code 127 (.goto 4) 4 130 131 := ⟨by decide +kernel, rfl, by decide, rfl⟩
theorem d_law_96 : Dc code 96 (.iload 6) 2 98 := ⟨by decide +kernel, rfl⟩
theorem d_law_98 : Dc code 98 (.bipush 9) 2 100 := ⟨by decide +kernel, rfl⟩
theorem lb_9 : (Int8.ofInt 9).toInt32 = 9 := by decide
theorem d_law_100 : Bj code 100 (.if_icmp .gt 7) 7 103 107 := ⟨by decide +kernel, rfl, by decide, rfl⟩
theorem d_law_103 : Dc code 103 (.iconst 1) 1 104 := ⟨by decide +kernel, rfl⟩
theorem d_law_104 : Bj code 104 (.goto 4) 4 107 108 := ⟨by decide +kernel, rfl, by decide, rfl⟩
theorem d_law_113 : Dc code 113 (.iconst 0) 1 114 := ⟨by decide +kernel, rfl⟩
theorem d_law_114 : Dc code 114 (.istore 5) 2 116 := ⟨by decide +kernel, rfl⟩
theorem mk_M_ictU {W : Wd} (hw : Ws W) : Mk W M_ictU ⟨"com/example/fieldwright/fieldwright/Field", "isControlTag", "(Ljava/lang/String;)Z"⟩ 1 := Mk.of nm_M_ictU rfl rfl rfl (w_42 hw) (w_41 hw) (mkLen pd__Ljava_lang_String__Z rfl) (by decide)
def M0 : Mt := (x, code, maxLocals, ret, room_1)
theorem nm_M0 : mN M0 = ⟨"com/example/fieldwright/fieldwright/FieldIsControlTagPinLaw", "law", "(III)Z"⟩ := by delta M0; delta mN x; rfl
set_option maxRecDepth 65536 in
set_option maxHeartbeats 40000000 in
theorem rm_law {W : Wd} (hw : Ws W) (p0 p1 p2 : Int32) : Ct W M0 [.int p0, .int p1, .int p2] [] (fun v _ => v = some (.int 1)) := by
  refine Ct.intro (L0 := [.val (.int p0), .val (.int p1), .val (.int p2), .unset, .unset, .unset, .unset]) (plainFor_of_name pf_com_example_fieldwright_fieldwright_FieldIsControlTagPinLaw) rfl (fun K => ?_)
  refine Wp.iconst lc_3 d_law_0 ?_
  refine Wp.newP (kk := 3) (vs := [.int 0, .int 0, .int 0]) d_law_1 (w_0 hw) (by decide) (by decide) (by decide) (by decide) (by decide) rfl (fun a1 => ?_)
  refine Wp.astoreN (L' := [.val (.int p0), .val (.int p1), .val (.int p2), .val (.ref a1), .unset, .unset, .unset]) rfl rfl d_law_3 ?_
  refine Wp.aloadN rfl rfl d_law_4 ?_
  refine Wp.iconst lc_0 d_law_5 ?_
  refine Wp.iloadN rfl d_law_6 ?_
  refine Wp.callS nm_M0 (rm_draw hw p0 _ ) (mk_M_draw hw) (w_1 hw) (w_2 hw) rfl rfl (Wn := 2) rfl rfl (by decide) d_law_7 ?_
  rintro _ _ ⟨c_2, rfl, rfl, hf3, hf4⟩
  refine Wp.castore (z := c_2) 0 0 rfl (by decide) (by decide) (show 0 < 3 by decide) (narC_id hf3 hf4) d_law_10 (H' := [eC a1 [.int c_2, .int 0, .int 0]]) rfl ?_
  refine Wp.aloadN rfl rfl d_law_11 ?_
  refine Wp.iconst lc_1 d_law_12 ?_
  refine Wp.iloadN rfl d_law_13 ?_
  refine Wp.callS nm_M0 (rm_draw hw p1 _ ) (mk_M_draw hw) (w_1 hw) (w_2 hw) rfl rfl (Wn := 2) rfl rfl (by decide) d_law_14 ?_
  rintro _ _ ⟨c_5, rfl, rfl, hf6, hf7⟩
  refine Wp.castore (z := c_5) 0 1 rfl (by decide) (by decide) (show 1 < 3 by decide) (narC_id hf6 hf7) d_law_17 (H' := [eC a1 [.int c_2, .int c_5, .int 0]]) rfl ?_
  refine Wp.aloadN rfl rfl d_law_18 ?_
  refine Wp.iconst lc_2 d_law_19 ?_
  refine Wp.iloadN rfl d_law_20 ?_
  refine Wp.callS nm_M0 (rm_draw hw p2 _ ) (mk_M_draw hw) (w_1 hw) (w_2 hw) rfl rfl (Wn := 2) rfl rfl (by decide) d_law_21 ?_
  rintro _ _ ⟨c_8, rfl, rfl, hf9, hf10⟩
  refine Wp.castore (z := c_8) 0 2 rfl (by decide) (by decide) (show 2 < 3 by decide) (narC_id hf9 hf10) d_law_24 (H' := [eC a1 [.int c_2, .int c_5, .int c_8]]) rfl ?_
  refine Wp.newO nm_M0 (w_7 hw) (w_8 hw) (w_9 hw) (nf_oStr hw) (by decide) (by decide) d_law_25 (fun a11 => ?_)
  refine Wp.dup rfl d_law_28 ?_
  refine Wp.aloadN rfl rfl d_law_29 ?_
  refine Wp.callC nm_M0 (rm_si hw a11 a1 true true false c_2 c_5 c_8 _ hf3 hf4 hf6 hf7 hf9 hf10) (mk_M_si hw) (w_10 hw) (w_11 hw) rfl rfl rfl rfl (Wn := 1) rfl rfl (by decide) d_law_30 ?_
  rintro _ _ (⟨b_12, rfl, rfl, hf13, hf14, hf15⟩ | ⟨b_16, rfl, rfl⟩)
  · refine Wp.astore (L' := [.val (.int p0), .val (.int p1), .val (.int p2), .val (.ref a1), .val (.ref a11), .unset, .unset]) rfl rfl d_law_33 ?_
    refine Wp.aloadN rfl rfl d_law_35 ?_
    refine Wp.iconst lc_0 d_law_36 ?_
    refine Wp.caload 2 0 rfl (by decide) (by decide) rfl d_law_37 ?_
    refine Wp.callS nm_M0 (rm_isd hw c_2 _ ) (mk_M_isd hw) (w_36 hw) (w_37 hw) rfl rfl (Wn := 0) rfl rfl (by decide) d_law_38 ?_
    rintro _ _ (⟨rfl, rfl, hf17, hf18⟩ | ⟨rfl, rfl, hf19⟩)
    · refine Wp.ifF (by decide) d_law_41 ?_
      refine Wp.aloadN rfl rfl d_law_44 ?_
      refine Wp.iconst lc_1 d_law_45 ?_
      refine Wp.caload 2 1 rfl (by decide) (by decide) rfl d_law_46 ?_
      refine Wp.callS nm_M0 (rm_isd hw c_5 _ ) (mk_M_isd hw) (w_36 hw) (w_37 hw) rfl rfl (Wn := 0) rfl rfl (by decide) d_law_47 ?_
      rintro _ _ (⟨rfl, rfl, hf20, hf21⟩ | ⟨rfl, rfl, hf22⟩)
      · refine Wp.ifF (by decide) d_law_50 ?_
        refine Wp.aloadN rfl rfl d_law_53 ?_
        refine Wp.iconst lc_2 d_law_54 ?_
        refine Wp.caload 2 2 rfl (by decide) (by decide) rfl d_law_55 ?_
        refine Wp.callS nm_M0 (rm_isd hw c_8 _ ) (mk_M_isd hw) (w_36 hw) (w_37 hw) rfl rfl (Wn := 0) rfl rfl (by decide) d_law_56 ?_
        rintro _ _ (⟨rfl, rfl, hf23, hf24⟩ | ⟨rfl, rfl, hf25⟩)
        · refine Wp.ifF (by decide) d_law_59 ?_
          refine Wp.aloadN rfl rfl d_law_62 ?_
          refine Wp.iconst lc_0 d_law_63 ?_
          refine Wp.caload 2 0 rfl (by decide) (by decide) rfl d_law_64 ?_
          refine Wp.bipush lb_48 d_law_65 ?_
          refine Wp.isub (z := (c_2 - 48)) rfl d_law_67 ?_
          refine Wp.bipush lb_100 d_law_68 ?_
          refine Wp.imul (z := ((c_2 - 48) * 100)) rfl d_law_70 ?_
          refine Wp.aloadN rfl rfl d_law_71 ?_
          refine Wp.iconst lc_1 d_law_72 ?_
          refine Wp.caload 2 1 rfl (by decide) (by decide) rfl d_law_73 ?_
          refine Wp.bipush lb_48 d_law_74 ?_
          refine Wp.isub (z := (c_5 - 48)) rfl d_law_76 ?_
          refine Wp.bipush lb_10 d_law_77 ?_
          refine Wp.imul (z := ((c_5 - 48) * 10)) rfl d_law_79 ?_
          refine Wp.iadd (z := (((c_2 - 48) * 100) + ((c_5 - 48) * 10))) rfl d_law_80 ?_
          refine Wp.aloadN rfl rfl d_law_81 ?_
          refine Wp.iconst lc_2 d_law_82 ?_
          refine Wp.caload 2 2 rfl (by decide) (by decide) rfl d_law_83 ?_
          refine Wp.bipush lb_48 d_law_84 ?_
          refine Wp.isub (z := (c_8 - 48)) rfl d_law_86 ?_
          refine Wp.iadd (z := ((((c_2 - 48) * 100) + ((c_5 - 48) * 10)) + (c_8 - 48))) rfl d_law_87 ?_
          refine Wp.istore (L' := [.val (.int p0), .val (.int p1), .val (.int p2), .val (.ref a1), .val (.ref a11), .unset, .val (.int ((((c_2 - 48) * 100) + ((c_5 - 48) * 10)) + (c_8 - 48)))]) rfl d_law_88 ?_
          refine Wp.iload rfl d_law_90 ?_
          refine Wp.iconst lc_1 d_law_92 ?_
          by_cases b93_26 : ((((c_2 - 48) * 100) + ((c_5 - 48) * 10)) + (c_8 - 48)) < 1
          · refine Wp.icT (tlt b93_26).1 d_law_93 ?_
            refine Wp.iconst lc_0 d_law_107 ?_
            refine Wp.istore (L' := [.val (.int p0), .val (.int p1), .val (.int p2), .val (.ref a1), .val (.ref a11), .val (.int 0), .val (.int ((((c_2 - 48) * 100) + ((c_5 - 48) * 10)) + (c_8 - 48)))]) rfl d_law_108 ?_
            refine Wp.goto d_law_110 ?_
            refine Wp.aload rfl rfl d_law_116 ?_
            refine Wp.callS nm_M0 (rm_ictL hw a11 b_12 c_2 c_5 c_8 _ hf3 hf4 hf6 hf7 hf9 hf10 hf13 hf14 hf15) (mk_M_ictL hw) (w_39 hw) (w_40 hw) rfl rfl (Wn := 0) rfl rfl (by decide) d_law_118 ?_
            rintro _ _ (⟨rfl, rfl, hf27, hf28, hf29, hf30⟩ | ⟨rfl, rfl, hf31⟩)
            · refine Wp.iload rfl d_law_121 ?_
              refine Wp.icT (by decide) d_law_123 ?_
              refine Wp.iconst lc_0 d_law_130 ?_
              refine Wp.iretN (z := 0) (by simp) rfl (by decide) d_law_131 (by decide) (by decide) ?_
              exact (bad_val1 hf17 hf18 hf20 hf21 hf23 hf30 hf27 hf28 hf29 hf30 (Or.inl b93_26)).elim
            · refine Wp.iload rfl d_law_121 ?_
              refine Wp.icF (by decide) d_law_123 ?_
              refine Wp.iconst lc_1 d_law_126 ?_
              refine Wp.goto d_law_127 ?_
              refine Wp.iretN (z := 1) (by simp) rfl (by decide) d_law_131 (by decide) (by decide) ?_
              exact rfl
          · refine Wp.icF (flt b93_26).1 d_law_93 ?_
            refine Wp.iload rfl d_law_96 ?_
            refine Wp.bipush lb_9 d_law_98 ?_
            by_cases b100_32 : 9 < ((((c_2 - 48) * 100) + ((c_5 - 48) * 10)) + (c_8 - 48))
            · refine Wp.icT (tlt b100_32).2.2.1 d_law_100 ?_
              refine Wp.iconst lc_0 d_law_107 ?_
              refine Wp.istore (L' := [.val (.int p0), .val (.int p1), .val (.int p2), .val (.ref a1), .val (.ref a11), .val (.int 0), .val (.int ((((c_2 - 48) * 100) + ((c_5 - 48) * 10)) + (c_8 - 48)))]) rfl d_law_108 ?_
              refine Wp.goto d_law_110 ?_
              refine Wp.aload rfl rfl d_law_116 ?_
              refine Wp.callS nm_M0 (rm_ictL hw a11 b_12 c_2 c_5 c_8 _ hf3 hf4 hf6 hf7 hf9 hf10 hf13 hf14 hf15) (mk_M_ictL hw) (w_39 hw) (w_40 hw) rfl rfl (Wn := 0) rfl rfl (by decide) d_law_118 ?_
              rintro _ _ (⟨rfl, rfl, hf33, hf34, hf35, hf36⟩ | ⟨rfl, rfl, hf37⟩)
              · refine Wp.iload rfl d_law_121 ?_
                refine Wp.icT (by decide) d_law_123 ?_
                refine Wp.iconst lc_0 d_law_130 ?_
                refine Wp.iretN (z := 0) (by simp) rfl (by decide) d_law_131 (by decide) (by decide) ?_
                exact (bad_val1 hf17 hf18 hf20 hf21 hf23 hf36 hf33 hf34 hf35 hf36 (Or.inr b100_32)).elim
              · refine Wp.iload rfl d_law_121 ?_
                refine Wp.icF (by decide) d_law_123 ?_
                refine Wp.iconst lc_1 d_law_126 ?_
                refine Wp.goto d_law_127 ?_
                refine Wp.iretN (z := 1) (by simp) rfl (by decide) d_law_131 (by decide) (by decide) ?_
                exact rfl
            · refine Wp.icF (flt b100_32).2.2.1 d_law_100 ?_
              refine Wp.iconst lc_1 d_law_103 ?_
              refine Wp.goto d_law_104 ?_
              refine Wp.istore (L' := [.val (.int p0), .val (.int p1), .val (.int p2), .val (.ref a1), .val (.ref a11), .val (.int 1), .val (.int ((((c_2 - 48) * 100) + ((c_5 - 48) * 10)) + (c_8 - 48)))]) rfl d_law_108 ?_
              refine Wp.goto d_law_110 ?_
              refine Wp.aload rfl rfl d_law_116 ?_
              refine Wp.callS nm_M0 (rm_ictL hw a11 b_12 c_2 c_5 c_8 _ hf3 hf4 hf6 hf7 hf9 hf10 hf13 hf14 hf15) (mk_M_ictL hw) (w_39 hw) (w_40 hw) rfl rfl (Wn := 0) rfl rfl (by decide) d_law_118 ?_
              rintro _ _ (⟨rfl, rfl, hf38, hf39, hf40, hf41⟩ | ⟨rfl, rfl, hf42⟩)
              · refine Wp.iload rfl d_law_121 ?_
                refine Wp.icF (by decide) d_law_123 ?_
                refine Wp.iconst lc_1 d_law_126 ?_
                refine Wp.goto d_law_127 ?_
                refine Wp.iretN (z := 1) (by simp) rfl (by decide) d_law_131 (by decide) (by decide) ?_
                exact rfl
              · refine Wp.iload rfl d_law_121 ?_
                refine Wp.icT (by decide) d_law_123 ?_
                refine Wp.iconst lc_0 d_law_130 ?_
                refine Wp.iretN (z := 0) (by simp) rfl (by decide) d_law_131 (by decide) (by decide) ?_
                exact (bad_val0 hf17 hf18 hf20 hf21 hf23 hf24 b93_26 b100_32 hf42).elim
        · refine Wp.ifT (by decide) d_law_59 ?_
          refine Wp.iconst lc_0 d_law_113 ?_
          refine Wp.istore (L' := [.val (.int p0), .val (.int p1), .val (.int p2), .val (.ref a1), .val (.ref a11), .val (.int 0), .unset]) rfl d_law_114 ?_
          refine Wp.aload rfl rfl d_law_116 ?_
          refine Wp.callS nm_M0 (rm_ictL hw a11 b_12 c_2 c_5 c_8 _ hf3 hf4 hf6 hf7 hf9 hf10 hf13 hf14 hf15) (mk_M_ictL hw) (w_39 hw) (w_40 hw) rfl rfl (Wn := 0) rfl rfl (by decide) d_law_118 ?_
          rintro _ _ (⟨rfl, rfl, hf43, hf44, hf45, hf46⟩ | ⟨rfl, rfl, hf47⟩)
          · refine Wp.iload rfl d_law_121 ?_
            refine Wp.icT (by decide) d_law_123 ?_
            refine Wp.iconst lc_0 d_law_130 ?_
            refine Wp.iretN (z := 0) (by simp) rfl (by decide) d_law_131 (by decide) (by decide) ?_
            exact (bad_dig2 hf45 hf46 hf25).elim
          · refine Wp.iload rfl d_law_121 ?_
            refine Wp.icF (by decide) d_law_123 ?_
            refine Wp.iconst lc_1 d_law_126 ?_
            refine Wp.goto d_law_127 ?_
            refine Wp.iretN (z := 1) (by simp) rfl (by decide) d_law_131 (by decide) (by decide) ?_
            exact rfl
      · refine Wp.ifT (by decide) d_law_50 ?_
        refine Wp.iconst lc_0 d_law_113 ?_
        refine Wp.istore (L' := [.val (.int p0), .val (.int p1), .val (.int p2), .val (.ref a1), .val (.ref a11), .val (.int 0), .unset]) rfl d_law_114 ?_
        refine Wp.aload rfl rfl d_law_116 ?_
        refine Wp.callS nm_M0 (rm_ictL hw a11 b_12 c_2 c_5 c_8 _ hf3 hf4 hf6 hf7 hf9 hf10 hf13 hf14 hf15) (mk_M_ictL hw) (w_39 hw) (w_40 hw) rfl rfl (Wn := 0) rfl rfl (by decide) d_law_118 ?_
        rintro _ _ (⟨rfl, rfl, hf48, hf49, hf50, hf51⟩ | ⟨rfl, rfl, hf52⟩)
        · refine Wp.iload rfl d_law_121 ?_
          refine Wp.icT (by decide) d_law_123 ?_
          refine Wp.iconst lc_0 d_law_130 ?_
          refine Wp.iretN (z := 0) (by simp) rfl (by decide) d_law_131 (by decide) (by decide) ?_
          exact (bad_dig0 hf49 hf22).elim
        · refine Wp.iload rfl d_law_121 ?_
          refine Wp.icF (by decide) d_law_123 ?_
          refine Wp.iconst lc_1 d_law_126 ?_
          refine Wp.goto d_law_127 ?_
          refine Wp.iretN (z := 1) (by simp) rfl (by decide) d_law_131 (by decide) (by decide) ?_
          exact rfl
    · refine Wp.ifT (by decide) d_law_41 ?_
      refine Wp.iconst lc_0 d_law_113 ?_
      refine Wp.istore (L' := [.val (.int p0), .val (.int p1), .val (.int p2), .val (.ref a1), .val (.ref a11), .val (.int 0), .unset]) rfl d_law_114 ?_
      refine Wp.aload rfl rfl d_law_116 ?_
      refine Wp.callS nm_M0 (rm_ictL hw a11 b_12 c_2 c_5 c_8 _ hf3 hf4 hf6 hf7 hf9 hf10 hf13 hf14 hf15) (mk_M_ictL hw) (w_39 hw) (w_40 hw) rfl rfl (Wn := 0) rfl rfl (by decide) d_law_118 ?_
      rintro _ _ (⟨rfl, rfl, hf53, hf54, hf55, hf56⟩ | ⟨rfl, rfl, hf57⟩)
      · refine Wp.iload rfl d_law_121 ?_
        refine Wp.icT (by decide) d_law_123 ?_
        refine Wp.iconst lc_0 d_law_130 ?_
        refine Wp.iretN (z := 0) (by simp) rfl (by decide) d_law_131 (by decide) (by decide) ?_
        exact (bad_dig0 hf53 hf19).elim
      · refine Wp.iload rfl d_law_121 ?_
        refine Wp.icF (by decide) d_law_123 ?_
        refine Wp.iconst lc_1 d_law_126 ?_
        refine Wp.goto d_law_127 ?_
        refine Wp.iretN (z := 1) (by simp) rfl (by decide) d_law_131 (by decide) (by decide) ?_
        exact rfl
  · refine Wp.astore (L' := [.val (.int p0), .val (.int p1), .val (.int p2), .val (.ref a1), .val (.ref a11), .unset, .unset]) rfl rfl d_law_33 ?_
    refine Wp.aloadN rfl rfl d_law_35 ?_
    refine Wp.iconst lc_0 d_law_36 ?_
    refine Wp.caload 2 0 rfl (by decide) (by decide) rfl d_law_37 ?_
    refine Wp.callS nm_M0 (rm_isd hw c_2 _ ) (mk_M_isd hw) (w_36 hw) (w_37 hw) rfl rfl (Wn := 0) rfl rfl (by decide) d_law_38 ?_
    rintro _ _ (⟨rfl, rfl, hf58, hf59⟩ | ⟨rfl, rfl, hf60⟩)
    · refine Wp.ifF (by decide) d_law_41 ?_
      refine Wp.aloadN rfl rfl d_law_44 ?_
      refine Wp.iconst lc_1 d_law_45 ?_
      refine Wp.caload 2 1 rfl (by decide) (by decide) rfl d_law_46 ?_
      refine Wp.callS nm_M0 (rm_isd hw c_5 _ ) (mk_M_isd hw) (w_36 hw) (w_37 hw) rfl rfl (Wn := 0) rfl rfl (by decide) d_law_47 ?_
      rintro _ _ (⟨rfl, rfl, hf61, hf62⟩ | ⟨rfl, rfl, hf63⟩)
      · refine Wp.ifF (by decide) d_law_50 ?_
        refine Wp.aloadN rfl rfl d_law_53 ?_
        refine Wp.iconst lc_2 d_law_54 ?_
        refine Wp.caload 2 2 rfl (by decide) (by decide) rfl d_law_55 ?_
        refine Wp.callS nm_M0 (rm_isd hw c_8 _ ) (mk_M_isd hw) (w_36 hw) (w_37 hw) rfl rfl (Wn := 0) rfl rfl (by decide) d_law_56 ?_
        rintro _ _ (⟨rfl, rfl, hf64, hf65⟩ | ⟨rfl, rfl, hf66⟩)
        · refine Wp.ifF (by decide) d_law_59 ?_
          refine Wp.aloadN rfl rfl d_law_62 ?_
          refine Wp.iconst lc_0 d_law_63 ?_
          refine Wp.caload 2 0 rfl (by decide) (by decide) rfl d_law_64 ?_
          refine Wp.bipush lb_48 d_law_65 ?_
          refine Wp.isub (z := (c_2 - 48)) rfl d_law_67 ?_
          refine Wp.bipush lb_100 d_law_68 ?_
          refine Wp.imul (z := ((c_2 - 48) * 100)) rfl d_law_70 ?_
          refine Wp.aloadN rfl rfl d_law_71 ?_
          refine Wp.iconst lc_1 d_law_72 ?_
          refine Wp.caload 2 1 rfl (by decide) (by decide) rfl d_law_73 ?_
          refine Wp.bipush lb_48 d_law_74 ?_
          refine Wp.isub (z := (c_5 - 48)) rfl d_law_76 ?_
          refine Wp.bipush lb_10 d_law_77 ?_
          refine Wp.imul (z := ((c_5 - 48) * 10)) rfl d_law_79 ?_
          refine Wp.iadd (z := (((c_2 - 48) * 100) + ((c_5 - 48) * 10))) rfl d_law_80 ?_
          refine Wp.aloadN rfl rfl d_law_81 ?_
          refine Wp.iconst lc_2 d_law_82 ?_
          refine Wp.caload 2 2 rfl (by decide) (by decide) rfl d_law_83 ?_
          refine Wp.bipush lb_48 d_law_84 ?_
          refine Wp.isub (z := (c_8 - 48)) rfl d_law_86 ?_
          refine Wp.iadd (z := ((((c_2 - 48) * 100) + ((c_5 - 48) * 10)) + (c_8 - 48))) rfl d_law_87 ?_
          refine Wp.istore (L' := [.val (.int p0), .val (.int p1), .val (.int p2), .val (.ref a1), .val (.ref a11), .unset, .val (.int ((((c_2 - 48) * 100) + ((c_5 - 48) * 10)) + (c_8 - 48)))]) rfl d_law_88 ?_
          refine Wp.iload rfl d_law_90 ?_
          refine Wp.iconst lc_1 d_law_92 ?_
          by_cases b93_67 : ((((c_2 - 48) * 100) + ((c_5 - 48) * 10)) + (c_8 - 48)) < 1
          · refine Wp.icT (tlt b93_67).1 d_law_93 ?_
            refine Wp.iconst lc_0 d_law_107 ?_
            refine Wp.istore (L' := [.val (.int p0), .val (.int p1), .val (.int p2), .val (.ref a1), .val (.ref a11), .val (.int 0), .val (.int ((((c_2 - 48) * 100) + ((c_5 - 48) * 10)) + (c_8 - 48)))]) rfl d_law_108 ?_
            refine Wp.goto d_law_110 ?_
            refine Wp.aload rfl rfl d_law_116 ?_
            refine Wp.callS nm_M0 (rm_ictU hw a11 b_16 c_2 c_5 c_8 _ hf3 hf4 hf6 hf7 hf9 hf10) (mk_M_ictU hw) (w_39 hw) (w_40 hw) rfl rfl (Wn := 0) rfl rfl (by decide) d_law_118 ?_
            rintro _ _ (⟨rfl, rfl, hf68, hf69, hf70, hf71⟩ | ⟨rfl, rfl, hf72⟩)
            · refine Wp.iload rfl d_law_121 ?_
              refine Wp.icT (by decide) d_law_123 ?_
              refine Wp.iconst lc_0 d_law_130 ?_
              refine Wp.iretN (z := 0) (by simp) rfl (by decide) d_law_131 (by decide) (by decide) ?_
              exact (bad_val1 hf58 hf59 hf61 hf62 hf64 hf71 hf68 hf69 hf70 hf71 (Or.inl b93_67)).elim
            · refine Wp.iload rfl d_law_121 ?_
              refine Wp.icF (by decide) d_law_123 ?_
              refine Wp.iconst lc_1 d_law_126 ?_
              refine Wp.goto d_law_127 ?_
              refine Wp.iretN (z := 1) (by simp) rfl (by decide) d_law_131 (by decide) (by decide) ?_
              exact rfl
          · refine Wp.icF (flt b93_67).1 d_law_93 ?_
            refine Wp.iload rfl d_law_96 ?_
            refine Wp.bipush lb_9 d_law_98 ?_
            by_cases b100_73 : 9 < ((((c_2 - 48) * 100) + ((c_5 - 48) * 10)) + (c_8 - 48))
            · refine Wp.icT (tlt b100_73).2.2.1 d_law_100 ?_
              refine Wp.iconst lc_0 d_law_107 ?_
              refine Wp.istore (L' := [.val (.int p0), .val (.int p1), .val (.int p2), .val (.ref a1), .val (.ref a11), .val (.int 0), .val (.int ((((c_2 - 48) * 100) + ((c_5 - 48) * 10)) + (c_8 - 48)))]) rfl d_law_108 ?_
              refine Wp.goto d_law_110 ?_
              refine Wp.aload rfl rfl d_law_116 ?_
              refine Wp.callS nm_M0 (rm_ictU hw a11 b_16 c_2 c_5 c_8 _ hf3 hf4 hf6 hf7 hf9 hf10) (mk_M_ictU hw) (w_39 hw) (w_40 hw) rfl rfl (Wn := 0) rfl rfl (by decide) d_law_118 ?_
              rintro _ _ (⟨rfl, rfl, hf74, hf75, hf76, hf77⟩ | ⟨rfl, rfl, hf78⟩)
              · refine Wp.iload rfl d_law_121 ?_
                refine Wp.icT (by decide) d_law_123 ?_
                refine Wp.iconst lc_0 d_law_130 ?_
                refine Wp.iretN (z := 0) (by simp) rfl (by decide) d_law_131 (by decide) (by decide) ?_
                exact (bad_val1 hf58 hf59 hf61 hf62 hf64 hf77 hf74 hf75 hf76 hf77 (Or.inr b100_73)).elim
              · refine Wp.iload rfl d_law_121 ?_
                refine Wp.icF (by decide) d_law_123 ?_
                refine Wp.iconst lc_1 d_law_126 ?_
                refine Wp.goto d_law_127 ?_
                refine Wp.iretN (z := 1) (by simp) rfl (by decide) d_law_131 (by decide) (by decide) ?_
                exact rfl
            · refine Wp.icF (flt b100_73).2.2.1 d_law_100 ?_
              refine Wp.iconst lc_1 d_law_103 ?_
              refine Wp.goto d_law_104 ?_
              refine Wp.istore (L' := [.val (.int p0), .val (.int p1), .val (.int p2), .val (.ref a1), .val (.ref a11), .val (.int 1), .val (.int ((((c_2 - 48) * 100) + ((c_5 - 48) * 10)) + (c_8 - 48)))]) rfl d_law_108 ?_
              refine Wp.goto d_law_110 ?_
              refine Wp.aload rfl rfl d_law_116 ?_
              refine Wp.callS nm_M0 (rm_ictU hw a11 b_16 c_2 c_5 c_8 _ hf3 hf4 hf6 hf7 hf9 hf10) (mk_M_ictU hw) (w_39 hw) (w_40 hw) rfl rfl (Wn := 0) rfl rfl (by decide) d_law_118 ?_
              rintro _ _ (⟨rfl, rfl, hf79, hf80, hf81, hf82⟩ | ⟨rfl, rfl, hf83⟩)
              · refine Wp.iload rfl d_law_121 ?_
                refine Wp.icF (by decide) d_law_123 ?_
                refine Wp.iconst lc_1 d_law_126 ?_
                refine Wp.goto d_law_127 ?_
                refine Wp.iretN (z := 1) (by simp) rfl (by decide) d_law_131 (by decide) (by decide) ?_
                exact rfl
              · refine Wp.iload rfl d_law_121 ?_
                refine Wp.icT (by decide) d_law_123 ?_
                refine Wp.iconst lc_0 d_law_130 ?_
                refine Wp.iretN (z := 0) (by simp) rfl (by decide) d_law_131 (by decide) (by decide) ?_
                exact (bad_val0 hf58 hf59 hf61 hf62 hf64 hf65 b93_67 b100_73 hf83).elim
        · refine Wp.ifT (by decide) d_law_59 ?_
          refine Wp.iconst lc_0 d_law_113 ?_
          refine Wp.istore (L' := [.val (.int p0), .val (.int p1), .val (.int p2), .val (.ref a1), .val (.ref a11), .val (.int 0), .unset]) rfl d_law_114 ?_
          refine Wp.aload rfl rfl d_law_116 ?_
          refine Wp.callS nm_M0 (rm_ictU hw a11 b_16 c_2 c_5 c_8 _ hf3 hf4 hf6 hf7 hf9 hf10) (mk_M_ictU hw) (w_39 hw) (w_40 hw) rfl rfl (Wn := 0) rfl rfl (by decide) d_law_118 ?_
          rintro _ _ (⟨rfl, rfl, hf84, hf85, hf86, hf87⟩ | ⟨rfl, rfl, hf88⟩)
          · refine Wp.iload rfl d_law_121 ?_
            refine Wp.icT (by decide) d_law_123 ?_
            refine Wp.iconst lc_0 d_law_130 ?_
            refine Wp.iretN (z := 0) (by simp) rfl (by decide) d_law_131 (by decide) (by decide) ?_
            exact (bad_dig2 hf86 hf87 hf66).elim
          · refine Wp.iload rfl d_law_121 ?_
            refine Wp.icF (by decide) d_law_123 ?_
            refine Wp.iconst lc_1 d_law_126 ?_
            refine Wp.goto d_law_127 ?_
            refine Wp.iretN (z := 1) (by simp) rfl (by decide) d_law_131 (by decide) (by decide) ?_
            exact rfl
      · refine Wp.ifT (by decide) d_law_50 ?_
        refine Wp.iconst lc_0 d_law_113 ?_
        refine Wp.istore (L' := [.val (.int p0), .val (.int p1), .val (.int p2), .val (.ref a1), .val (.ref a11), .val (.int 0), .unset]) rfl d_law_114 ?_
        refine Wp.aload rfl rfl d_law_116 ?_
        refine Wp.callS nm_M0 (rm_ictU hw a11 b_16 c_2 c_5 c_8 _ hf3 hf4 hf6 hf7 hf9 hf10) (mk_M_ictU hw) (w_39 hw) (w_40 hw) rfl rfl (Wn := 0) rfl rfl (by decide) d_law_118 ?_
        rintro _ _ (⟨rfl, rfl, hf89, hf90, hf91, hf92⟩ | ⟨rfl, rfl, hf93⟩)
        · refine Wp.iload rfl d_law_121 ?_
          refine Wp.icT (by decide) d_law_123 ?_
          refine Wp.iconst lc_0 d_law_130 ?_
          refine Wp.iretN (z := 0) (by simp) rfl (by decide) d_law_131 (by decide) (by decide) ?_
          exact (bad_dig0 hf90 hf63).elim
        · refine Wp.iload rfl d_law_121 ?_
          refine Wp.icF (by decide) d_law_123 ?_
          refine Wp.iconst lc_1 d_law_126 ?_
          refine Wp.goto d_law_127 ?_
          refine Wp.iretN (z := 1) (by simp) rfl (by decide) d_law_131 (by decide) (by decide) ?_
          exact rfl
    · refine Wp.ifT (by decide) d_law_41 ?_
      refine Wp.iconst lc_0 d_law_113 ?_
      refine Wp.istore (L' := [.val (.int p0), .val (.int p1), .val (.int p2), .val (.ref a1), .val (.ref a11), .val (.int 0), .unset]) rfl d_law_114 ?_
      refine Wp.aload rfl rfl d_law_116 ?_
      refine Wp.callS nm_M0 (rm_ictU hw a11 b_16 c_2 c_5 c_8 _ hf3 hf4 hf6 hf7 hf9 hf10) (mk_M_ictU hw) (w_39 hw) (w_40 hw) rfl rfl (Wn := 0) rfl rfl (by decide) d_law_118 ?_
      rintro _ _ (⟨rfl, rfl, hf94, hf95, hf96, hf97⟩ | ⟨rfl, rfl, hf98⟩)
      · refine Wp.iload rfl d_law_121 ?_
        refine Wp.icT (by decide) d_law_123 ?_
        refine Wp.iconst lc_0 d_law_130 ?_
        refine Wp.iretN (z := 0) (by simp) rfl (by decide) d_law_131 (by decide) (by decide) ?_
        exact (bad_dig0 hf94 hf60).elim
      · refine Wp.iload rfl d_law_121 ?_
        refine Wp.icF (by decide) d_law_123 ?_
        refine Wp.iconst lc_1 d_law_126 ?_
        refine Wp.goto d_law_127 ?_
        refine Wp.iretN (z := 1) (by simp) rfl (by decide) d_law_131 (by decide) (by decide) ?_
        exact rfl
set_option maxRecDepth 65536 in
set_option maxHeartbeats 40000000 in
theorem comes_1 {Post : Tables → Env → Array Value → State → Outcome → State → Prop} (hpost : ∀ tb e args s v u, (limb_1_1.after args s (.returned v) u = true ∧ limb_1_2.after args s (.returned v) u = true ∧ True) → FrameEnd s (.returned v) u (Jvm.fieldLocs frame_1_writes args s ++ Jvm.arrayLocs frame_1_arrays args s ++ Jvm.staticLocs frame_1_statics s) 16 128 → Post tb e args s (.returned v) u) :
    ArmFor flags0 classFile x code maxLocals ret World_1 tables_1 room_1 Calls_1 rest_1 Pre_1 Post := by
  intro l hfl _ _ p e ha hc hk s m args below hf hA hF happ hP
  obtain ⟨hcalls, hrest, hpre⟩ := hP
  obtain ⟨-, -, -, hnamed, -, -, -, hat⟩ := (Spec.applies_iff hf).mp happ
  obtain ⟨hg, hn⟩ := and_e (Cond.before_iff.mp (show (Jvm.Cond.and given_1 narrow_1).before args s = true from hpre))
  obtain ⟨g1, g2⟩ := and_e hg
  obtain ⟨g3, g4⟩ := and_e g2
  obtain ⟨g5, g6⟩ := and_e g4
  obtain ⟨w0, w1, w2, rfl⟩ : ∃ w0 w1 w2 : Value, args = #[w0, w1, w2] := by
    have hs : args.size = 3 := by simpa [Cond.value, given_1] using g1
    obtain ⟨L⟩ := args
    match L, hs with
    | [w0, w1, w2], _ => exact ⟨w0, w1, w2, rfl⟩
  have hw0 := fun d (hd : d ∈ tables_1) => atoms_spec (ws := Jvm.Cond.code x code maxLocals ret :: tables_1) hat d (List.mem_cons_of_mem _ hd)
  have hfit : Fit s := fun {y c} hc i hi => by
    obtain ⟨ha, rfl⟩ := Array.getElem?_eq_some_iff.mp hc
    have q := List.all_eq_true.mp ((Array.all_eq_true_iff_forall_mem.mp hF) _ (Array.getElem_mem ha)) i (List.mem_range.mpr hi)
    simpa [Array.getElem?_eq_getElem hi] using q
  obtain ⟨hsets, hown0⟩ := atoms_of _ (rest_1_c_eq ▸ (show rest_1_c.before _ s = true from hrest))
  have hr0 := Cond.before_iff.mp hown0
  obtain ⟨i0, ei0⟩ := is_v g3
  obtain rfl : w0 = (.int i0) := Option.some.inj ei0
  obtain ⟨i1, ei1⟩ := is_v g5
  obtain rfl : w1 = (.int i1) := Option.some.inj ei1
  obtain ⟨i2, ei2⟩ := is_v g6
  obtain rfl : w2 = (.int i2) := Option.some.inj ei2
  obtain ⟨vc, ec⟩ := is_v (Cond.before_iff.mp (hsets _ (List.mem_of_getElem? (i := 1) rfl)))
  have Sc := Sta.start ec (Or.inl (hsets _ (List.mem_of_getElem? (i := 0) rfl)))
  have cc : ¬ vc = (0 : Int32) := gotF (Cond.eq_ints ec (Term.int_eval (0))) (not_v (Cond.before_iff.mp (hsets _ (List.mem_of_getElem? (i := 2) rfl))))
  obtain ⟨vf, ef, rf⟩ := isR_v (Cond.before_iff.mp (hsets _ (List.mem_of_getElem? (i := 8) rfl)))
  have Sf := Sta.start ef (Or.inl (hsets _ (List.mem_of_getElem? (i := 7) rfl)))
  have Sa := Sta.start (eqv_int (Cond.before_iff.mp (hsets _ (List.mem_of_getElem? (i := 12) rfl)))) (Or.inl (hsets _ (List.mem_of_getElem? (i := 11) rfl)))
  have Sh := Sta.start (eqv_int (Cond.before_iff.mp (hsets _ (List.mem_of_getElem? (i := 15) rfl)))) (Or.inl (hsets _ (List.mem_of_getElem? (i := 14) rfl)))
  have Sl := Sta.start (eqv_int (Cond.before_iff.mp (hsets _ (List.mem_of_getElem? (i := 18) rfl)))) (Or.inl (hsets _ (List.mem_of_getElem? (i := 17) rfl)))
  have hw : Ws (l, s, #[.int i0, .int i1, .int i2], s.heap.size) := ⟨hw0, ⟨_, Sc, cc⟩, ⟨_, Sf, rf⟩, Sa, Sh, Sl⟩
  obtain ⟨n, o, h1, h2, h3, v, L, rfl, ⟨N, _, -, rfl⟩, hq⟩ := (rm_law (W := (l, s, #[.int i0, .int i1, .int i2], s.heap.size)) hw i0 i1 i2) tables_1 s.heap hp0 p e ha hc hk s m _ below hf ((Spec.applies_iff_loose hf).mp happ).1 ⟨rfl, State.Warmed39.refl s, rfl⟩ trivial
  refine ⟨n, _, h1, h2, h3, hpost _ _ _ _ _ _ ⟨Cond.after_iff.mpr rfl, Cond.after_iff.mpr (eq_i res_at (Term.int_eval (1)) rfl), trivial⟩ ⟨hq.1, hq.2.1, (hq.2.2.sift fun y hy => Or.inr (N y hy)).mono (by decide) (by decide)⟩⟩
theorem main_1_1 : Claimed_1_1 := comes_1 fun _ _ _ _ _ _ h hF => ⟨h.1, hF⟩
theorem main_1_2 : Claimed_1_2 := comes_1 fun _ _ _ _ _ _ h hF => ⟨h.2.1, hF⟩
end Jvm.Pilot.@@N@@
namespace Jvm.Pilot.@@N@@
open Jvm Jvm.ClassFile Sem Op Lib Jvm.Free Jvm.Stand Jvm.Pilot.@@N@@.Jvm.D
/-! MADE BY PROGRAM (witnessworld.py) out of the Statement's table words and the real class files: 20 classes; the members and pool entries that the words name. The judged class is class 1, her method 3. -/
namespace start1
open Jvm.ClassFile
def u (s : String) : CpInfo := .utf8 (stringToUtf16 s)
/-- a pool by its gaps: so many unusable entries, then the entry; so many at the end -/
def gap : Nat → List CpInfo → List CpInfo
  | 0, r => r
  | n + 1, r => .unusable :: gap n r
def poolList (es : List (Nat × CpInfo)) (last : Nat) : List CpInfo := es.foldr (fun e r => gap e.1 (e.2 :: r)) (gap last [])
def pool (es : List (Nat × CpInfo)) (last : Nat) : Array CpInfo := ⟨poolList es last⟩
def fileOf (pool : Array CpInfo) (this : Nat) (attrs : Array Attribute := #[]) (ms : Array MethodInfo := #[]) (fl : Nat := 33) (sup : Nat := 0) (ifs : Array Nat := #[]) (fds : Array FieldInfo := #[]) : ClassFile where
  minorVersion := 0
  majorVersion := 65
  constantPool := pool
  accessFlags := fl
  thisClass := this
  superClass := sup
  interfaces := ifs
  fields := fds
  methods := ms
  attributes := attrs
def plain (name : String) (sup : Option ClassId) : Class where
  name := name
  kind := .ordinary
  loader := none
  accessFlags := 33
  super := sup
  interfaces := #[]
  cf := none
  fields := #[]
  methods := #[]
  instanceTypes := #[]
  staticTypes := #[]
  resolved := #[]
  callSites := []
  init := .initialized
  statics := none
  mirror := none

def pool0 : Array CpInfo := pool [(5, u "<init>"), (0, u "()V"), (1, .class_ 10), (1, u "java/lang/Object")] 113

def k0c0 : Code := { maxStack := 0, maxLocals := 1, code := object_method_1_code, exceptionTable := #[], attributes := #[] }
def k0m0 : Method := { name := "<init>", desc := "()V", sig := { parameters := [], returnType := none }, accessFlags := 1, code := some k0c0 }
/-- java/lang/Object -/
def k0 : Class := { plain "java/lang/Object" none with
  accessFlags := 33
  interfaces := #[]
  cf := some (fileOf pool0 8 #[] #[{ accessFlags := 1, nameIndex := 5, descriptorIndex := 6, attributes := #[] }] 33 0 #[] #[])
  fields := #[]
  methods := #[k0m0]
  instanceTypes := #[]
  staticTypes := #[]
  resolved := Array.replicate 124 none
  statics := none }

def pool1 : Array CpInfo := pool [(2, .class_ 4), (1, u "java/lang/Object"), (0, u "<init>"), (0, u "()V"), (0, .integer 65536), (0, .integer 65535), (0, .methodref 10 11), (0, .class_ 12), (0, .nameAndType 13 14), (0, u "com/example/fieldwright/fieldwright/FieldIsControlTagPinLaw"), (0, u "draw"), (0, u "(I)C"), (0, .class_ 16), (0, u "java/lang/String"), (0, .methodref 15 18), (0, .nameAndType 5 19), (0, u "([C)V"), (0, .methodref 10 21), (0, .nameAndType 22 23), (0, u "isDigit"), (0, u "(C)Z"), (0, .interfaceMethodref 25 26), (0, .class_ 27), (0, .nameAndType 28 29), (0, u "com/example/fieldwright/fieldwright/Field"), (0, u "isControlTag"), (0, u "(Ljava/lang/String;)Z"), (3, u "law"), (0, u "(III)Z")] 4

def k1m0 : Method := { name := "<init>", desc := "()V", sig := { parameters := [], returnType := none }, accessFlags := 2, code := none }
def k1c1 : Code := { maxStack := 3, maxLocals := 1, code := method_2_code, exceptionTable := #[], attributes := #[] }
def k1m1 : Method := { name := "draw", desc := "(I)C", sig := { parameters := [.int], returnType := some .char }, accessFlags := 10, code := some k1c1 }
def k1c2 : Code := { maxStack := 2, maxLocals := 1, code := method_3_code, exceptionTable := #[], attributes := #[] }
def k1m2 : Method := { name := "isDigit", desc := "(C)Z", sig := { parameters := [.char], returnType := some .boolean }, accessFlags := 10, code := some k1c2 }
def k1c3 : Code := { maxStack := 3, maxLocals := 7, code := code, exceptionTable := #[], attributes := #[] }
def k1m3 : Method := { name := "law", desc := "(III)Z", sig := { parameters := [.int, .int, .int], returnType := some .boolean }, accessFlags := 9, code := some k1c3 }
/-- com/example/fieldwright/fieldwright/FieldIsControlTagPinLaw -/
def k1 : Class := { plain "com/example/fieldwright/fieldwright/FieldIsControlTagPinLaw" (some 0) with
  accessFlags := 49
  interfaces := #[]
  cf := some (fileOf pool1 10 #[] #[{ accessFlags := 2, nameIndex := 5, descriptorIndex := 6, attributes := #[] }, { accessFlags := 10, nameIndex := 13, descriptorIndex := 14, attributes := #[] }, { accessFlags := 10, nameIndex := 22, descriptorIndex := 23, attributes := #[] }, { accessFlags := 9, nameIndex := 33, descriptorIndex := 34, attributes := #[] }] 49 2 #[] #[])
  fields := #[]
  methods := #[k1m0, k1m1, k1m2, k1m3]
  instanceTypes := #[]
  staticTypes := #[]
  resolved := Array.replicate 39 none
  statics := none }

def pool2 : Array CpInfo := pool [(1, .class_ 2), (0, u "java/io/Serializable"), (0, .class_ 4), (0, u "java/lang/Object")] 2

/-- java/io/Serializable -/
def k2 : Class := { plain "java/io/Serializable" (some 0) with
  accessFlags := 1537
  interfaces := #[]
  cf := some (fileOf pool2 1 #[] #[] 1537 3 #[] #[])
  fields := #[]
  methods := #[]
  instanceTypes := #[]
  staticTypes := #[]
  resolved := Array.replicate 7 none
  statics := none }

def pool3 : Array CpInfo := pool [(1, .class_ 2), (0, u "java/lang/Comparable"), (0, .class_ 4), (0, u "java/lang/Object")] 7

/-- java/lang/Comparable -/
def k3 : Class := { plain "java/lang/Comparable" (some 0) with
  accessFlags := 1537
  interfaces := #[]
  cf := some (fileOf pool3 1 #[] #[] 1537 3 #[] #[])
  fields := #[]
  methods := #[]
  instanceTypes := #[]
  staticTypes := #[]
  resolved := Array.replicate 12 none
  statics := none }

def pool4 : Array CpInfo := pool [(2, .class_ 4), (1, u "java/lang/CharSequence"), (42, .class_ 48), (0, u "java/lang/CharSequence$1CodePointIterator"), (10, .class_ 60), (0, u "java/lang/CharSequence$1CharIterator"), (5, .class_ 67), (0, u "java/lang/Object")] 63

/-- java/lang/CharSequence -/
def k4 : Class := { plain "java/lang/CharSequence" (some 0) with
  accessFlags := 1537
  interfaces := #[]
  cf := some (fileOf pool4 2 #[.nestMembers #[47, 59]] #[] 1537 66 #[] #[])
  fields := #[]
  methods := #[]
  instanceTypes := #[]
  staticTypes := #[]
  resolved := Array.replicate 131 none
  statics := none }

def pool5 : Array CpInfo := pool [(1, .class_ 2), (0, u "java/lang/constant/Constable"), (0, .class_ 4), (0, u "java/lang/Object")] 6

/-- java/lang/constant/Constable -/
def k5 : Class := { plain "java/lang/constant/Constable" (some 0) with
  accessFlags := 1537
  interfaces := #[]
  cf := some (fileOf pool5 1 #[] #[] 1537 3 #[] #[])
  fields := #[]
  methods := #[]
  instanceTypes := #[]
  staticTypes := #[]
  resolved := Array.replicate 11 none
  statics := none }

def pool6 : Array CpInfo := pool [(1, .class_ 2), (0, u "java/lang/constant/ConstantDesc"), (0, .class_ 4), (0, u "java/lang/Object")] 32

/-- java/lang/constant/ConstantDesc -/
def k6 : Class := { plain "java/lang/constant/ConstantDesc" (some 0) with
  accessFlags := 1537
  interfaces := #[]
  cf := some (fileOf pool6 1 #[] #[] 1537 3 #[] #[])
  fields := #[]
  methods := #[]
  instanceTypes := #[]
  staticTypes := #[]
  resolved := Array.replicate 37 none
  statics := none }

def pool7 : Array CpInfo := pool [(1, .methodref 2 3), (0, .class_ 4), (0, .nameAndType 5 6), (0, u "java/lang/Object"), (0, u "<init>"), (0, u "()V"), (2, .fieldref 10 11), (0, .class_ 12), (0, .nameAndType 13 14), (0, u "java/lang/String"), (0, u "value"), (0, u "[B"), (0, .fieldref 10 16), (0, .nameAndType 17 18), (0, u "coder"), (0, u "B"), (2, u "hash"), (0, u "I"), (2, u "hashIsZero"), (0, u "Z"), (0, .methodref 10 28), (0, .nameAndType 5 29), (0, u "([CIILjava/lang/Void;)V"), (8, .fieldref 10 39), (0, .nameAndType 40 26), (0, u "COMPACT_STRINGS"), (1, .class_ 44), (1, u "java/lang/StringUTF16"), (0, u "compress"), (1, .methodref 42 48), (0, .nameAndType 49 50), (0, u "coderFromArrayLen"), (0, u "([BI)B"), (56, .class_ 109), (1, u "java/lang/StringLatin1"), (32, u "()Z"), (34, .methodref 42 178), (0, .nameAndType 45 179), (0, u "([CII)[B"), (183, u "([BI)C"), (27, u "(II)V"), (35, u "(I)C"), (64, .methodref 10 493), (0, .nameAndType 494 142), (0, u "isLatin1"), (0, .methodref 107 496), (0, .nameAndType 497 363), (0, u "charAt"), (0, .methodref 42 496), (2, u "checkIndex"), (73, .class_ 576), (0, u "java/lang/CharSequence"), (22, u "CASE_INSENSITIVE_ORDER"), (0, u "Ljava/util/Comparator;"), (409, u "([C)V"), (42, .fieldref 1054 1055), (0, .class_ 1056), (0, .nameAndType 1057 1058), (0, u "jdk/internal/util/Preconditions"), (0, u "SIOOBE_FORMATTER"), (0, u "Ljava/util/function/BiFunction;"), (0, .methodref 1054 1060), (0, .nameAndType 501 1061), (0, u "(IILjava/util/function/BiFunction;)I"), (39, u "serialPersistentFields"), (0, u "[Ljava/io/ObjectStreamField;"), (0, .class_ 1104), (0, u "java/lang/String$CaseInsensitiveComparator"), (1, .class_ 1107), (0, u "java/io/Serializable"), (0, .class_ 1109), (0, u "java/lang/Comparable"), (0, .class_ 1111), (0, u "java/lang/constant/Constable"), (0, .class_ 1113), (0, u "java/lang/constant/ConstantDesc"), (2, u "serialVersionUID"), (0, u "J"), (3, u "REPL"), (0, u "C"), (2, u "LATIN1"), (1, u "UTF16")] 323

def k7m0 : Method := { name := "<init>", desc := "()V", sig := { parameters := [], returnType := none }, accessFlags := 1, code := none }
def k7c1 : Code := { maxStack := 5, maxLocals := 2, code := jdk_42_method_3_code, exceptionTable := #[], attributes := #[] }
def k7m1 : Method := { name := "<init>", desc := "([C)V", sig := { parameters := [(.array .char)], returnType := none }, accessFlags := 1, code := some k7c1 }
def k7c2 : Code := { maxStack := 2, maxLocals := 2, code := jdk_42_method_56_code, exceptionTable := #[], attributes := #[] }
def k7m2 : Method := { name := "charAt", desc := "(I)C", sig := { parameters := [.int], returnType := some .char }, accessFlags := 1, code := some k7c2 }
def k7c3 : Code := { maxStack := 4, maxLocals := 6, code := jdk_42_method_149_code, exceptionTable := #[], attributes := #[] }
def k7m3 : Method := { name := "<init>", desc := "([CIILjava/lang/Void;)V", sig := { parameters := [(.array .char), .int, .int, (.object "java/lang/Void")], returnType := none }, accessFlags := 2, code := some k7c3 }
def k7c4 : Code := { maxStack := 1, maxLocals := 1, code := jdk_42_method_154_code, exceptionTable := #[], attributes := #[] }
def k7m4 : Method := { name := "isLatin1", desc := "()Z", sig := { parameters := [], returnType := some .boolean }, accessFlags := 0, code := some k7c4 }
def k7c5 : Code := { maxStack := 3, maxLocals := 2, code := jdk_42_method_155_code, exceptionTable := #[], attributes := #[] }
def k7m5 : Method := { name := "checkIndex", desc := "(II)V", sig := { parameters := [.int, .int], returnType := none }, accessFlags := 8, code := some k7c5 }
/-- java/lang/String -/
def k7 : Class := { plain "java/lang/String" (some 0) with
  accessFlags := 49
  interfaces := #[2, 3, 4, 5, 6]
  cf := some (fileOf pool7 10 #[.nestMembers #[1103]] #[{ accessFlags := 1, nameIndex := 5, descriptorIndex := 6, attributes := #[] }, { accessFlags := 1, nameIndex := 5, descriptorIndex := 1010, attributes := #[] }, { accessFlags := 1, nameIndex := 497, descriptorIndex := 427, attributes := #[] }, { accessFlags := 2, nameIndex := 5, descriptorIndex := 29, attributes := #[] }, { accessFlags := 0, nameIndex := 494, descriptorIndex := 142, attributes := #[] }, { accessFlags := 8, nameIndex := 501, descriptorIndex := 391, attributes := #[] }] 49 2 #[1106, 1108, 575, 1110, 1112] #[{ accessFlags := 18, nameIndex := 13, descriptorIndex := 14, attributes := #[] }, { accessFlags := 18, nameIndex := 17, descriptorIndex := 18, attributes := #[] }, { accessFlags := 2, nameIndex := 21, descriptorIndex := 22, attributes := #[] }, { accessFlags := 2, nameIndex := 25, descriptorIndex := 26, attributes := #[] }, { accessFlags := 26, nameIndex := 1116, descriptorIndex := 1117, attributes := #[] }, { accessFlags := 24, nameIndex := 40, descriptorIndex := 26, attributes := #[] }, { accessFlags := 26, nameIndex := 1101, descriptorIndex := 1102, attributes := #[] }, { accessFlags := 26, nameIndex := 1121, descriptorIndex := 1122, attributes := #[] }, { accessFlags := 25, nameIndex := 599, descriptorIndex := 600, attributes := #[] }, { accessFlags := 24, nameIndex := 1125, descriptorIndex := 18, attributes := #[] }, { accessFlags := 24, nameIndex := 1127, descriptorIndex := 18, attributes := #[] }])
  fields := #[{ name := "value", type := (.array .byte), accessFlags := 18, slot := 0, constantValue := 0 }, { name := "coder", type := .byte, accessFlags := 18, slot := 1, constantValue := 0 }, { name := "hash", type := .int, accessFlags := 2, slot := 2, constantValue := 0 }, { name := "hashIsZero", type := .boolean, accessFlags := 2, slot := 3, constantValue := 0 }, { name := "serialVersionUID", type := .long, accessFlags := 26, slot := 0, constantValue := 0 }, { name := "COMPACT_STRINGS", type := .boolean, accessFlags := 24, slot := 1, constantValue := 0 }, { name := "serialPersistentFields", type := (.array (.object "java/io/ObjectStreamField")), accessFlags := 26, slot := 2, constantValue := 0 }, { name := "REPL", type := .char, accessFlags := 26, slot := 3, constantValue := 0 }, { name := "CASE_INSENSITIVE_ORDER", type := (.object "java/util/Comparator"), accessFlags := 25, slot := 4, constantValue := 0 }, { name := "LATIN1", type := .byte, accessFlags := 24, slot := 5, constantValue := 0 }, { name := "UTF16", type := .byte, accessFlags := 24, slot := 6, constantValue := 0 }]
  methods := #[k7m0, k7m1, k7m2, k7m3, k7m4, k7m5]
  instanceTypes := #[(.array .byte), .byte, .int, .boolean]
  staticTypes := #[.long, .boolean, (.array (.object "java/io/ObjectStreamField")), .char, (.object "java/util/Comparator"), .byte, .byte]
  resolved := Array.replicate 1451 none
  statics := some 0 }

def pool8 : Array CpInfo := pool [(3, .class_ 4), (0, u "java/lang/String"), (1, .class_ 8), (1, u "java/lang/Object"), (0, u "<init>"), (0, u "()V"), (0, .methodref 12 13), (0, .class_ 14), (0, .nameAndType 15 16), (0, u "java/lang/StringUTF16"), (0, u "newBytesLength"), (0, u "(I)I"), (3, .integer 1073741823), (23, .fieldref 12 45), (0, .nameAndType 46 47), (0, u "$assertionsDisabled"), (0, u "Z"), (0, .methodref 12 49), (0, .nameAndType 50 51), (0, u "length"), (0, u "([B)I"), (7, .fieldref 12 60), (0, .nameAndType 61 62), (0, u "HI_BYTE_SHIFT"), (0, u "I"), (0, .fieldref 12 64), (0, .nameAndType 65 62), (0, u "LO_BYTE_SHIFT"), (1, .methodref 12 68), (0, .nameAndType 69 70), (0, u "checkIndex"), (0, u "(I[B)V"), (0, .methodref 12 72), (0, .nameAndType 73 74), (0, u "getChar"), (0, u "([BI)C"), (32, .methodref 12 108), (0, .nameAndType 109 110), (0, u "newBytesFor"), (0, u "(I)[B"), (0, .methodref 12 112), (0, .nameAndType 113 114), (0, u "putChar"), (0, u "([BII)V"), (0, .methodref 12 116), (0, .nameAndType 117 118), (0, u "compress"), (0, u "([CI[BII)I"), (0, .methodref 12 120), (0, .nameAndType 121 122), (0, u "toBytes"), (0, u "([CII)[B"), (138, u "coderFromArrayLen"), (0, u "([BI)B"), (106, .class_ 371), (1, u "java/lang/StringUTF16$LinesSpliterator"), (20, u "charAt"), (21, .methodref 3 415), (0, .nameAndType 69 416), (0, u "(II)V"), (13, u "MAX_LENGTH"), (196, .class_ 628), (0, u "java/lang/StringUTF16$CodePointsSpliterator"), (0, .class_ 630), (0, u "java/lang/StringUTF16$CharsSpliterator")] 4

def k8m0 : Method := { name := "<init>", desc := "()V", sig := { parameters := [], returnType := none }, accessFlags := 0, code := none }
def k8c1 : Code := { maxStack := 1, maxLocals := 1, code := jdk_52_method_2_code, exceptionTable := #[], attributes := #[] }
def k8m1 : Method := { name := "newBytesFor", desc := "(I)[B", sig := { parameters := [.int], returnType := some (.array .byte) }, accessFlags := 9, code := some k8c1 }
def k8c2 : Code := { maxStack := 4, maxLocals := 1, code := jdk_52_method_3_code, exceptionTable := #[], attributes := #[] }
def k8m2 : Method := { name := "newBytesLength", desc := "(I)I", sig := { parameters := [.int], returnType := some .int }, accessFlags := 9, code := some k8c2 }
def k8c3 : Code := { maxStack := 4, maxLocals := 3, code := jdk_52_method_4_code, exceptionTable := #[], attributes := #[] }
def k8m3 : Method := { name := "putChar", desc := "([BII)V", sig := { parameters := [(.array .byte), .int, .int], returnType := none }, accessFlags := 8, code := some k8c3 }
def k8c4 : Code := { maxStack := 3, maxLocals := 2, code := jdk_52_method_5_code, exceptionTable := #[], attributes := #[] }
def k8m4 : Method := { name := "getChar", desc := "([BI)C", sig := { parameters := [(.array .byte), .int], returnType := some .char }, accessFlags := 8, code := some k8c4 }
def k8c5 : Code := { maxStack := 2, maxLocals := 1, code := jdk_52_method_6_code, exceptionTable := #[], attributes := #[] }
def k8m5 : Method := { name := "length", desc := "([B)I", sig := { parameters := [(.array .byte)], returnType := some .int }, accessFlags := 9, code := some k8c5 }
def k8c6 : Code := { maxStack := 4, maxLocals := 5, code := jdk_52_method_14_code, exceptionTable := #[], attributes := #[] }
def k8m6 : Method := { name := "toBytes", desc := "([CII)[B", sig := { parameters := [(.array .char), .int, .int], returnType := some (.array .byte) }, accessFlags := 9, code := some k8c6 }
def k8c7 : Code := { maxStack := 2, maxLocals := 2, code := jdk_52_method_15_code, exceptionTable := #[], attributes := #[] }
def k8m7 : Method := { name := "coderFromArrayLen", desc := "([BI)B", sig := { parameters := [(.array .byte), .int], returnType := some .byte }, accessFlags := 8, code := some k8c7 }
def k8c8 : Code := { maxStack := 5, maxLocals := 6, code := jdk_52_method_16_code, exceptionTable := #[], attributes := #[] }
def k8m8 : Method := { name := "compress", desc := "([CII)[B", sig := { parameters := [(.array .char), .int, .int], returnType := some (.array .byte) }, accessFlags := 9, code := some k8c8 }
def k8c9 : Code := { maxStack := 3, maxLocals := 7, code := jdk_52_method_21_code, exceptionTable := #[], attributes := #[] }
def k8m9 : Method := { name := "compress", desc := "([CI[BII)I", sig := { parameters := [(.array .char), .int, (.array .byte), .int, .int], returnType := some .int }, accessFlags := 9, code := some k8c9 }
def k8c10 : Code := { maxStack := 2, maxLocals := 2, code := jdk_52_method_83_code, exceptionTable := #[], attributes := #[] }
def k8m10 : Method := { name := "charAt", desc := "([BI)C", sig := { parameters := [(.array .byte), .int], returnType := some .char }, accessFlags := 9, code := some k8c10 }
def k8c11 : Code := { maxStack := 2, maxLocals := 2, code := jdk_52_method_91_code, exceptionTable := #[], attributes := #[] }
def k8m11 : Method := { name := "checkIndex", desc := "(I[B)V", sig := { parameters := [.int, (.array .byte)], returnType := none }, accessFlags := 9, code := some k8c11 }
/-- java/lang/StringUTF16 -/
def k8 : Class := { plain "java/lang/StringUTF16" (some 0) with
  accessFlags := 48
  interfaces := #[]
  cf := some (fileOf pool8 12 #[.nestMembers #[627, 629, 369]] #[{ accessFlags := 0, nameIndex := 9, descriptorIndex := 10, attributes := #[] }, { accessFlags := 9, nameIndex := 109, descriptorIndex := 110, attributes := #[] }, { accessFlags := 9, nameIndex := 15, descriptorIndex := 16, attributes := #[] }, { accessFlags := 8, nameIndex := 113, descriptorIndex := 114, attributes := #[] }, { accessFlags := 8, nameIndex := 73, descriptorIndex := 74, attributes := #[] }, { accessFlags := 9, nameIndex := 50, descriptorIndex := 51, attributes := #[] }, { accessFlags := 9, nameIndex := 121, descriptorIndex := 122, attributes := #[] }, { accessFlags := 8, nameIndex := 261, descriptorIndex := 262, attributes := #[] }, { accessFlags := 9, nameIndex := 117, descriptorIndex := 122, attributes := #[] }, { accessFlags := 9, nameIndex := 117, descriptorIndex := 118, attributes := #[] }, { accessFlags := 9, nameIndex := 392, descriptorIndex := 74, attributes := #[] }, { accessFlags := 9, nameIndex := 69, descriptorIndex := 70, attributes := #[] }] 48 6 #[] #[{ accessFlags := 26, nameIndex := 61, descriptorIndex := 62, attributes := #[] }, { accessFlags := 26, nameIndex := 65, descriptorIndex := 62, attributes := #[] }, { accessFlags := 24, nameIndex := 430, descriptorIndex := 62, attributes := #[] }, { accessFlags := 4120, nameIndex := 46, descriptorIndex := 47, attributes := #[] }])
  fields := #[{ name := "HI_BYTE_SHIFT", type := .int, accessFlags := 26, slot := 0, constantValue := 0 }, { name := "LO_BYTE_SHIFT", type := .int, accessFlags := 26, slot := 1, constantValue := 0 }, { name := "MAX_LENGTH", type := .int, accessFlags := 24, slot := 2, constantValue := 0 }, { name := "$assertionsDisabled", type := .boolean, accessFlags := 4120, slot := 3, constantValue := 0 }]
  methods := #[k8m0, k8m1, k8m2, k8m3, k8m4, k8m5, k8m6, k8m7, k8m8, k8m9, k8m10, k8m11]
  instanceTypes := #[]
  staticTypes := #[.int, .int, .int, .boolean]
  resolved := Array.replicate 635 none
  statics := some 1 }

def pool9 : Array CpInfo := pool [(1, .methodref 2 3), (0, .class_ 4), (0, .nameAndType 5 6), (0, u "java/lang/String"), (0, u "charAt"), (0, u "(I)C"), (0, .class_ 8), (0, u "com/example/fieldwright/fieldwright/Field"), (0, .class_ 10), (0, u "java/lang/Object"), (0, u "TAG_LENGTH"), (0, u "I"), (8, u "isControlTag"), (0, u "(Ljava/lang/String;)Z")] 10

def k9c0 : Code := { maxStack := 2, maxLocals := 1, code := prog_21_method_3_code, exceptionTable := #[], attributes := #[] }
def k9m0 : Method := { name := "isControlTag", desc := "(Ljava/lang/String;)Z", sig := { parameters := [(.object "java/lang/String")], returnType := some .boolean }, accessFlags := 9, code := some k9c0 }
/-- com/example/fieldwright/fieldwright/Field -/
def k9 : Class := { plain "com/example/fieldwright/fieldwright/Field" (some 0) with
  accessFlags := 1537
  interfaces := #[]
  cf := some (fileOf pool9 7 #[] #[{ accessFlags := 9, nameIndex := 21, descriptorIndex := 22, attributes := #[] }] 1537 9 #[] #[{ accessFlags := 25, nameIndex := 11, descriptorIndex := 12, attributes := #[] }])
  fields := #[{ name := "TAG_LENGTH", type := .int, accessFlags := 25, slot := 0, constantValue := 0 }]
  methods := #[k9m0]
  instanceTypes := #[]
  staticTypes := #[.int]
  resolved := Array.replicate 33 none
  statics := none }

def pool10 : Array CpInfo := pool [(1, .class_ 2), (0, u "java/lang/String"), (1, .class_ 6), (1, u "java/lang/Object"), (0, u "<init>"), (0, u "()V"), (0, .methodref 1 10), (0, .nameAndType 11 12), (0, u "checkIndex"), (0, u "(II)V"), (1, .class_ 16), (1, u "java/lang/StringLatin1"), (36, u "([BI)C"), (67, u "$assertionsDisabled"), (0, u "Z"), (98, .class_ 223), (1, u "java/lang/StringLatin1$LinesSpliterator"), (28, u "charAt"), (137, .class_ 391), (0, u "java/lang/StringLatin1$CharsSpliterator")] 3

def k10m0 : Method := { name := "<init>", desc := "()V", sig := { parameters := [], returnType := none }, accessFlags := 0, code := none }
def k10c1 : Code := { maxStack := 2, maxLocals := 2, code := jdk_43_method_2_code, exceptionTable := #[], attributes := #[] }
def k10m1 : Method := { name := "charAt", desc := "([BI)C", sig := { parameters := [(.array .byte), .int], returnType := some .char }, accessFlags := 9, code := some k10c1 }
/-- java/lang/StringLatin1 -/
def k10 : Class := { plain "java/lang/StringLatin1" (some 0) with
  accessFlags := 48
  interfaces := #[]
  cf := some (fileOf pool10 14 #[.nestMembers #[390, 221]] #[{ accessFlags := 0, nameIndex := 7, descriptorIndex := 8, attributes := #[] }, { accessFlags := 9, nameIndex := 252, descriptorIndex := 53, attributes := #[] }] 48 4 #[] #[{ accessFlags := 4120, nameIndex := 121, descriptorIndex := 122, attributes := #[] }])
  fields := #[{ name := "$assertionsDisabled", type := .boolean, accessFlags := 4120, slot := 0, constantValue := 0 }]
  methods := #[k10m0, k10m1]
  instanceTypes := #[]
  staticTypes := #[.boolean]
  resolved := Array.replicate 395 none
  statics := none }

def pool11 : Array CpInfo := pool [(2, .class_ 4), (1, u "java/lang/Object"), (0, u "<init>"), (0, u "()V"), (17, .class_ 26), (1, u "jdk/internal/util/Preconditions"), (6, u "checkIndex"), (21, .class_ 56), (0, u "jdk/internal/util/Preconditions$4"), (57, .class_ 115), (0, u "jdk/internal/util/Preconditions$1"), (7, u "SIOOBE_FORMATTER"), (0, u "Ljava/util/function/BiFunction;"), (0, .class_ 126), (0, u "jdk/internal/util/Preconditions$2"), (3, u "AIOOBE_FORMATTER"), (0, .class_ 132), (0, u "jdk/internal/util/Preconditions$3"), (3, u "IOOBE_FORMATTER"), (41, u "(IILjava/util/function/BiFunction;)I")] 15

def k11m0 : Method := { name := "<init>", desc := "()V", sig := { parameters := [], returnType := none }, accessFlags := 1, code := none }
def k11c1 : Code := { maxStack := 3, maxLocals := 3, code := jdk_41_method_11_code, exceptionTable := #[], attributes := #[] }
def k11m1 : Method := { name := "checkIndex", desc := "(IILjava/util/function/BiFunction;)I", sig := { parameters := [.int, .int, (.object "java/util/function/BiFunction")], returnType := some .int }, accessFlags := 9, code := some k11c1 }
/-- jdk/internal/util/Preconditions -/
def k11 : Class := { plain "jdk/internal/util/Preconditions" (some 0) with
  accessFlags := 33
  interfaces := #[]
  cf := some (fileOf pool11 24 #[.nestMembers #[55, 131, 125, 114]] #[{ accessFlags := 1, nameIndex := 5, descriptorIndex := 6, attributes := #[] }, { accessFlags := 9, nameIndex := 33, descriptorIndex := 178, attributes := #[] }] 33 2 #[] #[{ accessFlags := 25, nameIndex := 123, descriptorIndex := 124, attributes := #[] }, { accessFlags := 25, nameIndex := 130, descriptorIndex := 124, attributes := #[] }, { accessFlags := 25, nameIndex := 136, descriptorIndex := 124, attributes := #[] }])
  fields := #[{ name := "SIOOBE_FORMATTER", type := (.object "java/util/function/BiFunction"), accessFlags := 25, slot := 0, constantValue := 0 }, { name := "AIOOBE_FORMATTER", type := (.object "java/util/function/BiFunction"), accessFlags := 25, slot := 1, constantValue := 0 }, { name := "IOOBE_FORMATTER", type := (.object "java/util/function/BiFunction"), accessFlags := 25, slot := 2, constantValue := 0 }]
  methods := #[k11m0, k11m1]
  instanceTypes := #[]
  staticTypes := #[(.object "java/util/function/BiFunction"), (.object "java/util/function/BiFunction"), (.object "java/util/function/BiFunction")]
  resolved := Array.replicate 194 none
  statics := some 2 }

def pool12 : Array CpInfo := pool [(9, u "<init>"), (6, .class_ 18), (1, u "java/lang/Object"), (0, u "()V"), (1, .class_ 23), (1, u "jdk/internal/util/ArraysSupport"), (0, u "LOG2_ARRAY_LONG_INDEX_SCALE"), (0, u "I"), (2, u "U"), (0, u "Ljdk/internal/misc/Unsafe;"), (8, u "BIG_ENDIAN"), (0, u "Z"), (8, u "LOG2_BYTE_BIT_SIZE"), (4, u "LOG2_ARRAY_INT_INDEX_SCALE"), (54, u "JLA"), (0, u "Ljdk/internal/access/JavaLangAccess;"), (11, u "LOG2_ARRAY_BOOLEAN_INDEX_SCALE"), (9, u "LOG2_ARRAY_BYTE_INDEX_SCALE"), (5, u "LOG2_ARRAY_CHAR_INDEX_SCALE"), (5, u "LOG2_ARRAY_SHORT_INDEX_SCALE"), (18, u "LOG2_ARRAY_FLOAT_INDEX_SCALE"), (24, u "LOG2_ARRAY_DOUBLE_INDEX_SCALE"), (89, u "T_BOOLEAN"), (2, u "T_CHAR"), (1, u "T_FLOAT"), (1, u "T_DOUBLE"), (1, u "T_BYTE"), (1, u "T_SHORT"), (1, u "T_INT"), (1, u "T_LONG"), (1, u "SOFT_MAX_ARRAY_LENGTH")] 83

def k12m0 : Method := { name := "<init>", desc := "()V", sig := { parameters := [], returnType := none }, accessFlags := 2, code := none }
/-- jdk/internal/util/ArraysSupport -/
def k12 : Class := { plain "jdk/internal/util/ArraysSupport" (some 0) with
  accessFlags := 33
  interfaces := #[]
  cf := some (fileOf pool12 21 #[] #[{ accessFlags := 2, nameIndex := 9, descriptorIndex := 19, attributes := #[] }] 33 16 #[] #[{ accessFlags := 24, nameIndex := 28, descriptorIndex := 29, attributes := #[] }, { accessFlags := 26, nameIndex := 38, descriptorIndex := 39, attributes := #[] }, { accessFlags := 25, nameIndex := 121, descriptorIndex := 25, attributes := #[] }, { accessFlags := 25, nameIndex := 131, descriptorIndex := 25, attributes := #[] }, { accessFlags := 25, nameIndex := 137, descriptorIndex := 25, attributes := #[] }, { accessFlags := 25, nameIndex := 143, descriptorIndex := 25, attributes := #[] }, { accessFlags := 25, nameIndex := 53, descriptorIndex := 25, attributes := #[] }, { accessFlags := 25, nameIndex := 24, descriptorIndex := 25, attributes := #[] }, { accessFlags := 25, nameIndex := 162, descriptorIndex := 25, attributes := #[] }, { accessFlags := 25, nameIndex := 187, descriptorIndex := 25, attributes := #[] }, { accessFlags := 26, nameIndex := 48, descriptorIndex := 25, attributes := #[] }, { accessFlags := 25, nameIndex := 277, descriptorIndex := 25, attributes := #[] }, { accessFlags := 25, nameIndex := 280, descriptorIndex := 25, attributes := #[] }, { accessFlags := 25, nameIndex := 282, descriptorIndex := 25, attributes := #[] }, { accessFlags := 25, nameIndex := 284, descriptorIndex := 25, attributes := #[] }, { accessFlags := 25, nameIndex := 286, descriptorIndex := 25, attributes := #[] }, { accessFlags := 25, nameIndex := 288, descriptorIndex := 25, attributes := #[] }, { accessFlags := 25, nameIndex := 290, descriptorIndex := 25, attributes := #[] }, { accessFlags := 25, nameIndex := 292, descriptorIndex := 25, attributes := #[] }, { accessFlags := 26, nameIndex := 108, descriptorIndex := 109, attributes := #[] }, { accessFlags := 25, nameIndex := 294, descriptorIndex := 25, attributes := #[] }])
  fields := #[{ name := "U", type := (.object "jdk/internal/misc/Unsafe"), accessFlags := 24, slot := 0, constantValue := 0 }, { name := "BIG_ENDIAN", type := .boolean, accessFlags := 26, slot := 1, constantValue := 0 }, { name := "LOG2_ARRAY_BOOLEAN_INDEX_SCALE", type := .int, accessFlags := 25, slot := 2, constantValue := 0 }, { name := "LOG2_ARRAY_BYTE_INDEX_SCALE", type := .int, accessFlags := 25, slot := 3, constantValue := 0 }, { name := "LOG2_ARRAY_CHAR_INDEX_SCALE", type := .int, accessFlags := 25, slot := 4, constantValue := 0 }, { name := "LOG2_ARRAY_SHORT_INDEX_SCALE", type := .int, accessFlags := 25, slot := 5, constantValue := 0 }, { name := "LOG2_ARRAY_INT_INDEX_SCALE", type := .int, accessFlags := 25, slot := 6, constantValue := 0 }, { name := "LOG2_ARRAY_LONG_INDEX_SCALE", type := .int, accessFlags := 25, slot := 7, constantValue := 0 }, { name := "LOG2_ARRAY_FLOAT_INDEX_SCALE", type := .int, accessFlags := 25, slot := 8, constantValue := 0 }, { name := "LOG2_ARRAY_DOUBLE_INDEX_SCALE", type := .int, accessFlags := 25, slot := 9, constantValue := 0 }, { name := "LOG2_BYTE_BIT_SIZE", type := .int, accessFlags := 26, slot := 10, constantValue := 0 }, { name := "T_BOOLEAN", type := .int, accessFlags := 25, slot := 11, constantValue := 0 }, { name := "T_CHAR", type := .int, accessFlags := 25, slot := 12, constantValue := 0 }, { name := "T_FLOAT", type := .int, accessFlags := 25, slot := 13, constantValue := 0 }, { name := "T_DOUBLE", type := .int, accessFlags := 25, slot := 14, constantValue := 0 }, { name := "T_BYTE", type := .int, accessFlags := 25, slot := 15, constantValue := 0 }, { name := "T_SHORT", type := .int, accessFlags := 25, slot := 16, constantValue := 0 }, { name := "T_INT", type := .int, accessFlags := 25, slot := 17, constantValue := 0 }, { name := "T_LONG", type := .int, accessFlags := 25, slot := 18, constantValue := 0 }, { name := "JLA", type := (.object "jdk/internal/access/JavaLangAccess"), accessFlags := 26, slot := 19, constantValue := 0 }, { name := "SOFT_MAX_ARRAY_LENGTH", type := .int, accessFlags := 25, slot := 20, constantValue := 0 }]
  methods := #[k12m0]
  instanceTypes := #[]
  staticTypes := #[(.object "jdk/internal/misc/Unsafe"), .boolean, .int, .int, .int, .int, .int, .int, .int, .int, .int, .int, .int, .int, .int, .int, .int, .int, .int, (.object "jdk/internal/access/JavaLangAccess"), .int]
  resolved := Array.replicate 378 none
  statics := none }

def pool13 : Array CpInfo := pool [(1, u "java/lang/Cloneable"), (0, .class_ 1), (0, u "java/lang/Object"), (0, .class_ 3)] 3

/-- java/lang/Cloneable -/
def k13 : Class := { plain "java/lang/Cloneable" (some 0) with
  accessFlags := 1537
  interfaces := #[]
  cf := some (fileOf pool13 2 #[] #[] 1537 4 #[] #[])
  fields := #[]
  methods := #[]
  instanceTypes := #[]
  staticTypes := #[]
  resolved := Array.replicate 8 none
  statics := none }

/-- the primitive byte -/
def k14 : Class := { plain "byte" none with kind := .primitive 'B', accessFlags := 0x411 }
/-- [B -/
def k15 : Class := { plain "[B" (some 0) with kind := .array 14 .byte, interfaces := #[13, 2], accessFlags := 1041 }

/-- the primitive char -/
def k16 : Class := { plain "char" none with kind := .primitive 'C', accessFlags := 0x411 }
/-- [C -/
def k17 : Class := { plain "[C" (some 0) with kind := .array 16 .char, interfaces := #[13, 2], accessFlags := 1041 }

/-- the primitive int -/
def k18 : Class := { plain "int" none with kind := .primitive 'I', accessFlags := 0x411 }
/-- [I -/
def k19 : Class := { plain "[I" (some 0) with kind := .array 18 .int, interfaces := #[13, 2], accessFlags := 1041 }

def heap : Heap := #[{ cls := 7, slots := #[.long 0, .int 1, .null, .int 0, .null, .int 0, .int 0], vm := .statics 7 },
  { cls := 8, slots := #[.int 0, .int 8, .int 0, .int 1], vm := .statics 8 },
  { cls := 11, slots := #[.null, .null, .null], vm := .statics 11 }]
def classes : Array Class := #[k0, k1, k2, k3, k4, k5, k6, k7, k8, k9, k10, k11, k12, k13, k14, k15, k16, k17, k18, k19]
def interned : List (Array UInt16 × Addr) := []
def slotsUsed : Nat := 14
def theMethod : MethodId := ⟨1, 3⟩
def args0 : Array Value := #[.int 5, .int 7, .int 9]
def aboutOver (below : List Frame) : State where
  vm := { classes := classes, interned := interned.toArray }
  heap := heap
  slotsUsed := slotsUsed
  threads := #[{ frames := .invoking theMethod args0 :: below }]
def below0 : List Frame := [.native { method := ⟨0, 0⟩, args := #[] }]
def about1 : State := aboutOver below0
def p0 : Program := .bare "" "" ""
def e0 : Env := launch0.env 0 0 0
theorem w_frames : about1.frames = Frame.invoking theMethod args0 :: below0 := rfl
set_option maxRecDepth 65536 in
theorem w_args : argsFit about1.vm theMethod args0 = true := by decide +kernel
set_option maxRecDepth 65536 in
theorem w_heap : heapFits about1 = true := by decide +kernel
set_option maxRecDepth 65536 in
theorem w_runnable : about1.curStatus? = some .runnable := by decide +kernel
set_option maxRecDepth 65536 in
theorem w_alone : about1.alone = true := by decide +kernel
set_option maxRecDepth 65536 in
theorem w_named : about1.methodNamed? x = some theMethod := by decide +kernel
set_option maxRecDepth 65536 in
theorem w_hears : about1.hears theMethod below0 = true := by decide +kernel
set_option maxRecDepth 65536 in
theorem w_ripe : about1.ripe theMethod args0 below0 = true := by decide +kernel
theorem w_running : about1.status = .running := rfl
set_option maxRecDepth 65536 in
theorem w_room : about1.hasRoom e0.platform room_1 = true :=
  launch0.hasRoom_least _ room_1 (by decide +kernel) (by decide +kernel) (by decide +kernel) (by decide +kernel) (by decide +kernel) (by decide +kernel)
theorem allAtoms_all (ts : List Jvm.Cond) (a : Array Jvm.Value) (st : Jvm.State) : (allAtoms ts).before a st = ts.all (fun c => c.before a st) := by
  induction ts with
  | nil => rfl
  | cons c t ih =>
    show (Jvm.Cond.and c (allAtoms t)).before a st = _
    rw [Jvm.Cond.before_and, ih, List.all_cons]
def words1 : List Jvm.Cond := Jvm.Cond.code x code maxLocals ret :: tables_1
/-- a 'code' word, met by the world's own term for the bytes: nothing is compared byte by byte -/
theorem code_word {y : MethodName} {bytes : ByteArray} {mx : Nat} {rt : Option FieldType} {a : Array Value} {s : State} {m : MethodId} {meth : Method} {c : Code} (h1 : s.methodNamed? y = some m) (h2 : s.vm.method? m = some meth) (h3 : meth.code = some c) (h4 : c.code = bytes)
    (h5 : (c.maxLocals == mx && c.exceptionTable.isEmpty && decide (c.maxStack ≤ mostOperands) && decide (meth.sig.returnType = rt) && !meth.locks && decide (parseMethodDescriptor y.desc = some meth.sig)) = true) : (Jvm.Cond.code y bytes mx rt).before a s = true := by
  simp only [Bool.and_eq_true, beq_iff_eq, Bool.not_eq_true', decide_eq_true_eq] at h5
  obtain ⟨⟨⟨⟨⟨g1, g2⟩, g3⟩, g4⟩, g5⟩, g6⟩ := h5
  simp [Cond.before, Cond.holds, Cond.value, h1, h2, h3, h4, g1, g2, g3, g4, g5, g6]
def isCode : Jvm.Cond → Bool
  | .code _ _ _ _ => true
  | _ => false
theorem all_split {L : List Jvm.Cond} {P : Jvm.Cond → Bool} (h1 : L.all (fun c => isCode c || P c) = true) (h2 : ∀ c ∈ L.filter isCode, P c = true) : L.all P = true := by
  refine List.all_eq_true.mpr fun c hc => ?_
  have h := List.all_eq_true.mp h1 c hc
  rcases Bool.eq_false_or_eq_true (isCode c) with hi | hi
  · exact h2 c (List.mem_filter.mpr ⟨hc, hi⟩)
  · simpa [hi] using h
set_option maxRecDepth 65536 in
theorem w_c0 : (Jvm.Cond.code x code maxLocals ret).before args0 about1 = true := code_word (m := ⟨1, 3⟩) (meth := k1m3) (c := k1c3) (by decide +kernel) rfl rfl rfl (by decide +kernel)
set_option maxRecDepth 65536 in
theorem w_c1 : (Jvm.Cond.code ({ cls := "com/example/fieldwright/fieldwright/FieldIsControlTagPinLaw", name := "draw", desc := "(I)C" } : Jvm.MethodName) method_2_code (1 : Nat) (Option.some Jvm.ClassFile.FieldType.char)).before args0 about1 = true := code_word (m := ⟨1, 1⟩) (meth := k1m1) (c := k1c1) (by decide +kernel) rfl rfl rfl (by decide +kernel)
set_option maxRecDepth 65536 in
theorem w_c2 : (Jvm.Cond.code ({ cls := "java/lang/String", name := "<init>", desc := "([C)V" } : Jvm.MethodName) jdk_42_method_3_code (2 : Nat) (Option.none : Option Jvm.ClassFile.FieldType)).before args0 about1 = true := code_word (m := ⟨7, 1⟩) (meth := k7m1) (c := k7c1) (by decide +kernel) rfl rfl rfl (by decide +kernel)
set_option maxRecDepth 65536 in
theorem w_c3 : (Jvm.Cond.code ({ cls := "java/lang/String", name := "<init>", desc := "([CIILjava/lang/Void;)V" } : Jvm.MethodName) jdk_42_method_149_code (6 : Nat) (Option.none : Option Jvm.ClassFile.FieldType)).before args0 about1 = true := code_word (m := ⟨7, 3⟩) (meth := k7m3) (c := k7c3) (by decide +kernel) rfl rfl rfl (by decide +kernel)
set_option maxRecDepth 65536 in
theorem w_c4 : (Jvm.Cond.code ({ cls := "java/lang/Object", name := "<init>", desc := "()V" } : Jvm.MethodName) object_method_1_code (1 : Nat) (Option.none : Option Jvm.ClassFile.FieldType)).before args0 about1 = true := code_word (m := ⟨0, 0⟩) (meth := k0m0) (c := k0c0) (by decide +kernel) rfl rfl rfl (by decide +kernel)
set_option maxRecDepth 65536 in
theorem w_c5 : (Jvm.Cond.code ({ cls := "java/lang/StringUTF16", name := "compress", desc := "([CII)[B" } : Jvm.MethodName) jdk_52_method_16_code (6 : Nat) (Option.some (Jvm.ClassFile.FieldType.array Jvm.ClassFile.FieldType.byte))).before args0 about1 = true := code_word (m := ⟨8, 8⟩) (meth := k8m8) (c := k8c8) (by decide +kernel) rfl rfl rfl (by decide +kernel)
set_option maxRecDepth 65536 in
theorem w_c6 : (Jvm.Cond.code ({ cls := "java/lang/StringUTF16", name := "compress", desc := "([CI[BII)I" } : Jvm.MethodName) jdk_52_method_21_code (7 : Nat) (Option.some Jvm.ClassFile.FieldType.int)).before args0 about1 = true := code_word (m := ⟨8, 9⟩) (meth := k8m9) (c := k8c9) (by decide +kernel) rfl rfl rfl (by decide +kernel)
set_option maxRecDepth 65536 in
theorem w_c7 : (Jvm.Cond.code ({ cls := "java/lang/StringUTF16", name := "coderFromArrayLen", desc := "([BI)B" } : Jvm.MethodName) jdk_52_method_15_code (2 : Nat) (Option.some Jvm.ClassFile.FieldType.byte)).before args0 about1 = true := code_word (m := ⟨8, 7⟩) (meth := k8m7) (c := k8c7) (by decide +kernel) rfl rfl rfl (by decide +kernel)
set_option maxRecDepth 65536 in
theorem w_c8 : (Jvm.Cond.code ({ cls := "com/example/fieldwright/fieldwright/FieldIsControlTagPinLaw", name := "isDigit", desc := "(C)Z" } : Jvm.MethodName) method_3_code (1 : Nat) (Option.some Jvm.ClassFile.FieldType.boolean)).before args0 about1 = true := code_word (m := ⟨1, 2⟩) (meth := k1m2) (c := k1c2) (by decide +kernel) rfl rfl rfl (by decide +kernel)
set_option maxRecDepth 65536 in
theorem w_c9 : (Jvm.Cond.code ({ cls := "com/example/fieldwright/fieldwright/Field", name := "isControlTag", desc := "(Ljava/lang/String;)Z" } : Jvm.MethodName) prog_21_method_3_code (1 : Nat) (Option.some Jvm.ClassFile.FieldType.boolean)).before args0 about1 = true := code_word (m := ⟨9, 0⟩) (meth := k9m0) (c := k9c0) (by decide +kernel) rfl rfl rfl (by decide +kernel)
set_option maxRecDepth 65536 in
theorem w_c10 : (Jvm.Cond.code ({ cls := "java/lang/String", name := "charAt", desc := "(I)C" } : Jvm.MethodName) jdk_42_method_56_code (2 : Nat) (Option.some Jvm.ClassFile.FieldType.char)).before args0 about1 = true := code_word (m := ⟨7, 2⟩) (meth := k7m2) (c := k7c2) (by decide +kernel) rfl rfl rfl (by decide +kernel)
set_option maxRecDepth 65536 in
theorem w_c11 : (Jvm.Cond.code ({ cls := "java/lang/String", name := "isLatin1", desc := "()Z" } : Jvm.MethodName) jdk_42_method_154_code (1 : Nat) (Option.some Jvm.ClassFile.FieldType.boolean)).before args0 about1 = true := code_word (m := ⟨7, 4⟩) (meth := k7m4) (c := k7c4) (by decide +kernel) rfl rfl rfl (by decide +kernel)
set_option maxRecDepth 65536 in
theorem w_c12 : (Jvm.Cond.code ({ cls := "java/lang/StringLatin1", name := "charAt", desc := "([BI)C" } : Jvm.MethodName) jdk_43_method_2_code (2 : Nat) (Option.some Jvm.ClassFile.FieldType.char)).before args0 about1 = true := code_word (m := ⟨10, 1⟩) (meth := k10m1) (c := k10c1) (by decide +kernel) rfl rfl rfl (by decide +kernel)
set_option maxRecDepth 65536 in
theorem w_c13 : (Jvm.Cond.code ({ cls := "java/lang/String", name := "checkIndex", desc := "(II)V" } : Jvm.MethodName) jdk_42_method_155_code (2 : Nat) (Option.none : Option Jvm.ClassFile.FieldType)).before args0 about1 = true := code_word (m := ⟨7, 5⟩) (meth := k7m5) (c := k7c5) (by decide +kernel) rfl rfl rfl (by decide +kernel)
set_option maxRecDepth 65536 in
theorem w_c14 : (Jvm.Cond.code ({ cls := "jdk/internal/util/Preconditions", name := "checkIndex", desc := "(IILjava/util/function/BiFunction;)I" } : Jvm.MethodName) jdk_41_method_11_code (3 : Nat) (Option.some Jvm.ClassFile.FieldType.int)).before args0 about1 = true := code_word (m := ⟨11, 1⟩) (meth := k11m1) (c := k11c1) (by decide +kernel) rfl rfl rfl (by decide +kernel)
set_option maxRecDepth 65536 in
theorem w_c15 : (Jvm.Cond.code ({ cls := "java/lang/StringUTF16", name := "toBytes", desc := "([CII)[B" } : Jvm.MethodName) jdk_52_method_14_code (5 : Nat) (Option.some (Jvm.ClassFile.FieldType.array Jvm.ClassFile.FieldType.byte))).before args0 about1 = true := code_word (m := ⟨8, 6⟩) (meth := k8m6) (c := k8c6) (by decide +kernel) rfl rfl rfl (by decide +kernel)
set_option maxRecDepth 65536 in
theorem w_c16 : (Jvm.Cond.code ({ cls := "java/lang/StringUTF16", name := "newBytesFor", desc := "(I)[B" } : Jvm.MethodName) jdk_52_method_2_code (1 : Nat) (Option.some (Jvm.ClassFile.FieldType.array Jvm.ClassFile.FieldType.byte))).before args0 about1 = true := code_word (m := ⟨8, 1⟩) (meth := k8m1) (c := k8c1) (by decide +kernel) rfl rfl rfl (by decide +kernel)
set_option maxRecDepth 65536 in
theorem w_c17 : (Jvm.Cond.code ({ cls := "java/lang/StringUTF16", name := "newBytesLength", desc := "(I)I" } : Jvm.MethodName) jdk_52_method_3_code (1 : Nat) (Option.some Jvm.ClassFile.FieldType.int)).before args0 about1 = true := code_word (m := ⟨8, 2⟩) (meth := k8m2) (c := k8c2) (by decide +kernel) rfl rfl rfl (by decide +kernel)
set_option maxRecDepth 65536 in
theorem w_c18 : (Jvm.Cond.code ({ cls := "java/lang/StringUTF16", name := "putChar", desc := "([BII)V" } : Jvm.MethodName) jdk_52_method_4_code (3 : Nat) (Option.none : Option Jvm.ClassFile.FieldType)).before args0 about1 = true := code_word (m := ⟨8, 3⟩) (meth := k8m3) (c := k8c3) (by decide +kernel) rfl rfl rfl (by decide +kernel)
set_option maxRecDepth 65536 in
theorem w_c19 : (Jvm.Cond.code ({ cls := "java/lang/StringUTF16", name := "getChar", desc := "([BI)C" } : Jvm.MethodName) jdk_52_method_5_code (2 : Nat) (Option.some Jvm.ClassFile.FieldType.char)).before args0 about1 = true := code_word (m := ⟨8, 4⟩) (meth := k8m4) (c := k8c4) (by decide +kernel) rfl rfl rfl (by decide +kernel)
set_option maxRecDepth 65536 in
theorem w_c20 : (Jvm.Cond.code ({ cls := "java/lang/StringUTF16", name := "charAt", desc := "([BI)C" } : Jvm.MethodName) jdk_52_method_83_code (2 : Nat) (Option.some Jvm.ClassFile.FieldType.char)).before args0 about1 = true := code_word (m := ⟨8, 10⟩) (meth := k8m10) (c := k8c10) (by decide +kernel) rfl rfl rfl (by decide +kernel)
set_option maxRecDepth 65536 in
theorem w_c21 : (Jvm.Cond.code ({ cls := "java/lang/StringUTF16", name := "checkIndex", desc := "(I[B)V" } : Jvm.MethodName) jdk_52_method_91_code (2 : Nat) (Option.none : Option Jvm.ClassFile.FieldType)).before args0 about1 = true := code_word (m := ⟨8, 11⟩) (meth := k8m11) (c := k8c11) (by decide +kernel) rfl rfl rfl (by decide +kernel)
set_option maxRecDepth 65536 in
theorem w_c22 : (Jvm.Cond.code ({ cls := "java/lang/StringUTF16", name := "length", desc := "([B)I" } : Jvm.MethodName) jdk_52_method_6_code (1 : Nat) (Option.some Jvm.ClassFile.FieldType.int)).before args0 about1 = true := code_word (m := ⟨8, 5⟩) (meth := k8m5) (c := k8c5) (by decide +kernel) rfl rfl rfl (by decide +kernel)
def codes1 : List Jvm.Cond := [Jvm.Cond.code x code maxLocals ret, Jvm.Cond.code ({ cls := "com/example/fieldwright/fieldwright/FieldIsControlTagPinLaw", name := "draw", desc := "(I)C" } : Jvm.MethodName) method_2_code (1 : Nat) (Option.some Jvm.ClassFile.FieldType.char), Jvm.Cond.code ({ cls := "java/lang/String", name := "<init>", desc := "([C)V" } : Jvm.MethodName) jdk_42_method_3_code (2 : Nat) (Option.none : Option Jvm.ClassFile.FieldType), Jvm.Cond.code ({ cls := "java/lang/String", name := "<init>", desc := "([CIILjava/lang/Void;)V" } : Jvm.MethodName) jdk_42_method_149_code (6 : Nat) (Option.none : Option Jvm.ClassFile.FieldType), Jvm.Cond.code ({ cls := "java/lang/Object", name := "<init>", desc := "()V" } : Jvm.MethodName) object_method_1_code (1 : Nat) (Option.none : Option Jvm.ClassFile.FieldType), Jvm.Cond.code ({ cls := "java/lang/StringUTF16", name := "compress", desc := "([CII)[B" } : Jvm.MethodName) jdk_52_method_16_code (6 : Nat) (Option.some (Jvm.ClassFile.FieldType.array Jvm.ClassFile.FieldType.byte)), Jvm.Cond.code ({ cls := "java/lang/StringUTF16", name := "compress", desc := "([CI[BII)I" } : Jvm.MethodName) jdk_52_method_21_code (7 : Nat) (Option.some Jvm.ClassFile.FieldType.int), Jvm.Cond.code ({ cls := "java/lang/StringUTF16", name := "coderFromArrayLen", desc := "([BI)B" } : Jvm.MethodName) jdk_52_method_15_code (2 : Nat) (Option.some Jvm.ClassFile.FieldType.byte), Jvm.Cond.code ({ cls := "com/example/fieldwright/fieldwright/FieldIsControlTagPinLaw", name := "isDigit", desc := "(C)Z" } : Jvm.MethodName) method_3_code (1 : Nat) (Option.some Jvm.ClassFile.FieldType.boolean), Jvm.Cond.code ({ cls := "com/example/fieldwright/fieldwright/Field", name := "isControlTag", desc := "(Ljava/lang/String;)Z" } : Jvm.MethodName) prog_21_method_3_code (1 : Nat) (Option.some Jvm.ClassFile.FieldType.boolean), Jvm.Cond.code ({ cls := "java/lang/String", name := "charAt", desc := "(I)C" } : Jvm.MethodName) jdk_42_method_56_code (2 : Nat) (Option.some Jvm.ClassFile.FieldType.char), Jvm.Cond.code ({ cls := "java/lang/String", name := "isLatin1", desc := "()Z" } : Jvm.MethodName) jdk_42_method_154_code (1 : Nat) (Option.some Jvm.ClassFile.FieldType.boolean), Jvm.Cond.code ({ cls := "java/lang/StringLatin1", name := "charAt", desc := "([BI)C" } : Jvm.MethodName) jdk_43_method_2_code (2 : Nat) (Option.some Jvm.ClassFile.FieldType.char), Jvm.Cond.code ({ cls := "java/lang/String", name := "checkIndex", desc := "(II)V" } : Jvm.MethodName) jdk_42_method_155_code (2 : Nat) (Option.none : Option Jvm.ClassFile.FieldType), Jvm.Cond.code ({ cls := "jdk/internal/util/Preconditions", name := "checkIndex", desc := "(IILjava/util/function/BiFunction;)I" } : Jvm.MethodName) jdk_41_method_11_code (3 : Nat) (Option.some Jvm.ClassFile.FieldType.int), Jvm.Cond.code ({ cls := "java/lang/StringUTF16", name := "toBytes", desc := "([CII)[B" } : Jvm.MethodName) jdk_52_method_14_code (5 : Nat) (Option.some (Jvm.ClassFile.FieldType.array Jvm.ClassFile.FieldType.byte)), Jvm.Cond.code ({ cls := "java/lang/StringUTF16", name := "newBytesFor", desc := "(I)[B" } : Jvm.MethodName) jdk_52_method_2_code (1 : Nat) (Option.some (Jvm.ClassFile.FieldType.array Jvm.ClassFile.FieldType.byte)), Jvm.Cond.code ({ cls := "java/lang/StringUTF16", name := "newBytesLength", desc := "(I)I" } : Jvm.MethodName) jdk_52_method_3_code (1 : Nat) (Option.some Jvm.ClassFile.FieldType.int), Jvm.Cond.code ({ cls := "java/lang/StringUTF16", name := "putChar", desc := "([BII)V" } : Jvm.MethodName) jdk_52_method_4_code (3 : Nat) (Option.none : Option Jvm.ClassFile.FieldType), Jvm.Cond.code ({ cls := "java/lang/StringUTF16", name := "getChar", desc := "([BI)C" } : Jvm.MethodName) jdk_52_method_5_code (2 : Nat) (Option.some Jvm.ClassFile.FieldType.char), Jvm.Cond.code ({ cls := "java/lang/StringUTF16", name := "charAt", desc := "([BI)C" } : Jvm.MethodName) jdk_52_method_83_code (2 : Nat) (Option.some Jvm.ClassFile.FieldType.char), Jvm.Cond.code ({ cls := "java/lang/StringUTF16", name := "checkIndex", desc := "(I[B)V" } : Jvm.MethodName) jdk_52_method_91_code (2 : Nat) (Option.none : Option Jvm.ClassFile.FieldType), Jvm.Cond.code ({ cls := "java/lang/StringUTF16", name := "length", desc := "([B)I" } : Jvm.MethodName) jdk_52_method_6_code (1 : Nat) (Option.some Jvm.ClassFile.FieldType.int)]
set_option maxRecDepth 65536 in
theorem codes_eq : words1.filter isCode = codes1 := rfl
theorem w_codes : ∀ c ∈ words1.filter isCode, c.before args0 about1 = true := by
  rw [codes_eq]
  intro c hc
  simp only [codes1, List.mem_cons, List.not_mem_nil, or_false] at hc
  rcases hc with rfl | rfl | rfl | rfl | rfl | rfl | rfl | rfl | rfl | rfl | rfl | rfl | rfl | rfl | rfl | rfl | rfl | rfl | rfl | rfl | rfl | rfl | rfl
  · exact w_c0
  · exact w_c1
  · exact w_c2
  · exact w_c3
  · exact w_c4
  · exact w_c5
  · exact w_c6
  · exact w_c7
  · exact w_c8
  · exact w_c9
  · exact w_c10
  · exact w_c11
  · exact w_c12
  · exact w_c13
  · exact w_c14
  · exact w_c15
  · exact w_c16
  · exact w_c17
  · exact w_c18
  · exact w_c19
  · exact w_c20
  · exact w_c21
  · exact w_c22
set_option maxRecDepth 65536 in
theorem w_t1 : (words1.take 24).all (fun c => isCode c || c.before args0 about1) = true := by decide +kernel
set_option maxRecDepth 65536 in
theorem w_t2 : ((words1.drop 24).take 24).all (fun c => isCode c || c.before args0 about1) = true := by decide +kernel
set_option maxRecDepth 65536 in
theorem w_t3 : (((words1.drop 24).drop 24).take 24).all (fun c => isCode c || c.before args0 about1) = true := by decide +kernel
set_option maxRecDepth 65536 in
theorem w_t4 : (((words1.drop 24).drop 24).drop 24).all (fun c => isCode c || c.before args0 about1) = true := by decide +kernel
theorem w_tables : (allAtoms (Jvm.Cond.code x code maxLocals ret :: tables_1)).before args0 about1 = true := by
  rw [allAtoms_all]
  show words1.all (fun c => c.before args0 about1) = true
  refine all_split ?_ w_codes
  rw [← List.take_append_drop 24 words1, List.all_append, w_t1, ← List.take_append_drop 24 (words1.drop 24), List.all_append, w_t2, ← List.take_append_drop 24 ((words1.drop 24).drop 24), List.all_append, w_t3, w_t4]
  rfl
set_option maxRecDepth 65536 in
theorem w_rest : rest_1_c.before args0 about1 = true := by decide +kernel
set_option maxRecDepth 65536 in
theorem w_case : (Jvm.Cond.and given_1 narrow_1).before args0 about1 = true := by decide +kernel
theorem w_applies : (headSpec (Jvm.Cond.code x code maxLocals ret :: tables_1) room_1).applies x e0.platform about1 = true :=
  (Spec.applies_iff w_frames).mpr ⟨w_running, w_runnable, w_alone, w_named, w_hears, w_ripe, w_room, w_tables⟩
theorem atStart : AtStart classFile x code maxLocals ret World_1 tables_1 room_1 Calls_1 rest_1 Pre_1 launch0 p0 e0 about1 theMethod args0 below0 :=
  ⟨lists_1, trivial, launch0.admits_env _ _ _, launch0.least_env, fairChoices_fair.cas, fairChoices_fair.clock, w_frames, w_args, w_heap, w_applies, trivial, w_rest, w_case⟩
end start1
theorem witness_1 : WitnessClaimed_1 := ⟨start1.p0, start1.e0, start1.about1, start1.theMethod, start1.args0, start1.below0, start1.atStart⟩
end Jvm.Pilot.@@N@@
