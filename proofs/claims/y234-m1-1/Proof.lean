import JvmDerived
import JvmDerived.Pilot.@@N@@Statement
import JvmDerived.Pilot.@@N@@Code
set_option linter.unusedVariables false
set_option linter.unusedSimpArgs false
namespace Jvm.Pilot.@@N@@
open Jvm Jvm.ClassFile Sem Op Lib Jvm.Free Jvm.Stand Jvm.LawKit Jvm.RoadKit Bundle Jvm.Pilot.@@N@@.Jvm.D
/-! own layer: a small logic of triples over the library's Stand. Fd: a field's owner, name, descriptor, value; Ds: an object (class, fields) or an array (type, is its class known, is it over its component's class, values); En: an address, may it be written, what lies there. -/
abbrev Fd : Type := String × String × String × Value
abbrev Ds : Type := (String × List Fd) ⊕ (FieldType × Bool × Bool × List Value)
abbrev En : Type := Addr × Bool × Ds
abbrev eB (a : Addr) (vs : List Value) : En := (a, true, .inr (.byte, true, false, vs))
abbrev eC (a : Addr) (vs : List Value) : En := (a, true, .inr (.char, true, false, vs))
abbrev eI (a : Addr) (vs : List Value) : En := (a, true, .inr (.int, true, false, vs))
abbrev eJ (a : Addr) (vs : List Value) : En := (a, true, .inr (.long, true, false, vs))
abbrev eO (a : Addr) (vs : List Value) : En := (a, true, .inr (.object "java/lang/Object", true, true, vs))
abbrev Wd : Type := Launch × State × Array Value × Nat
abbrev Mt : Type := MethodName × ByteArray × Nat × Option FieldType × Room
abbrev Kx : Type := Program × Env × State × MethodId × Array Value × List Frame × Method × Code
def wL (W : Wd) : Launch := W.1
def wZ (W : Wd) : State := W.2.1
def wA (W : Wd) : Array Value := W.2.2.1
def wN (W : Wd) : Nat := W.2.2.2
def mN (M : Mt) : MethodName := M.1
def mC (M : Mt) : ByteArray := M.2.1
def mL (M : Mt) : Nat := M.2.2.1
def mT (M : Mt) : Option FieldType := M.2.2.2.1
def mR (M : Mt) : Room := M.2.2.2.2
def kP (K : Kx) : Program := K.1
def kE (K : Kx) : Env := K.2.1
def kS (K : Kx) : State := K.2.2.1
def kM (K : Kx) : MethodId := K.2.2.2.1
def kA (K : Kx) : Array Value := K.2.2.2.2.1
def kB (K : Kx) : List Frame := K.2.2.2.2.2.1
def kH (K : Kx) : Method := K.2.2.2.2.2.2.1
def kC (K : Kx) : Code := K.2.2.2.2.2.2.2
def fSl (Z : State) (f : Fd) : Nat := Jvm.RoadKit.slotOf Z f.1 f.2.1 f.2.2.1
def FdOk (Z : State) (h : Heap) (a : Addr) (f : Fd) : Prop := Fld Z h a f.1 f.2.1 f.2.2.1 f.2.2.2
def ArOk (Z : State) (h : Heap) (a : Addr) (ty : FieldType) (ex ov : Bool) (vs : List Value) : Prop := ∃ c : Cell, Arr Z h a c ty ∧ c.slots.toList = vs ∧ vs.length < 2 ^ 31 ∧ (∀ v ∈ vs, fits ty v = true) ∧ (ex = true → Exa Z h a ("[" ++ ty.toString)) ∧ (ov = true → ∀ C, ty = .object C → Ovr Z c.cls C)
def ObOk (Z : State) (h : Heap) (a : Addr) (C : String) (fs : List Fd) : Prop := Exa Z h a C ∧ (∀ f ∈ fs, FdOk Z h a f) ∧ (fs.map (fSl Z)).Nodup
def DsOk (Z : State) (h : Heap) (a : Addr) (D : Ds) : Prop := match D with
  | .inl (C, fs) => ObOk Z h a C fs
  | .inr (ty, ex, ov, vs) => ArOk Z h a ty ex ov vs
def Apart (x y : En) : Prop := (x.2.1 = false ∧ y.2.1 = false) ∨ x.1 ≠ y.1
def Hp (W : Wd) (h : Heap) (H : List En) : Prop := Old (wZ W) (wN W) h ∧ (∀ x ∈ H, (x.2.1 = true → wN W ≤ x.1) ∧ DsOk (wZ W) h x.1 x.2.2) ∧ H.Pairwise Apart
section HeapLaws
variable {Z : State} {h h' : Heap} {a b : Addr} {W : Wd} {H : List En} {D : Ds} {sl : Nat} {v : Value}
theorem DsOk.lt (F : DsOk Z h a D) : a < h.size := by
  match D, F with
  | .inl _, F => exact F.1.lt
  | .inr _, F => exact F.choose_spec.1.lt
theorem DsOk.ext (F : DsOk Z h a D) (E : Ext h h') : DsOk Z h' a D := by
  match D, F with
  | .inl _, F => exact ⟨F.1.ext E, fun f hf => Fld.ext E (F.2.1 f hf), F.2.2⟩
  | .inr _, ⟨c, h1, h2, h3, h4, h5, h6⟩ => exact ⟨c, h1.ext E, h2, h3, h4, fun q => (h5 q).ext E, h6⟩
theorem DsOk.other (F : DsOk Z h b D) (E : Wr h h' a sl v) (q : b ≠ a) : DsOk Z h' b D := by
  match D, F with
  | .inl _, F => exact ⟨F.1.wr E, fun f hf => Fld.other E (F.2.1 f hf) (Or.inl q), F.2.2⟩
  | .inr _, ⟨c, h1, h2, h3, h4, h5, h6⟩ => exact ⟨c, h1.other E q, h2, h3, h4, fun q => (h5 q).wr E, h6⟩
theorem DsOk.keep {ws : List Addr} (F : DsOk Z h b D) (E : Keep h h' ws) (q : b ∉ ws) : DsOk Z h' b D := by
  match D, F with
  | .inl _, F => exact ⟨F.1.keep E, fun f hf => Fld.keep (F.2.1 f hf) E q, F.2.2⟩
  | .inr _, ⟨c, h1, h2, h3, h4, h5, h6⟩ => exact ⟨c, ⟨E.2.1 _ _ h1.1 q, h1.2⟩, h2, h3, h4, fun q => (h5 q).keep E, h6⟩
theorem Hp.size (P : Hp W h H) : wN W ≤ h.size := by
  obtain ⟨⟨e1, e2⟩, -⟩ := P
  rw [← e1]; exact e2.1
theorem Hp.new (P : Hp W h H) (E : Ext h h') (F : DsOk (wZ W) h' h.size D) : Hp W h' ((h.size, true, D) :: H) := by
  refine ⟨P.1.ext E, fun x hx => ?_, List.pairwise_cons.mpr ⟨fun y hy => Or.inr ?_, P.2.2⟩⟩
  · rcases List.mem_cons.mp hx with rfl | hx
    · exact ⟨fun _ => P.size, F⟩
    · exact ⟨(P.2.1 x hx).1, (P.2.1 x hx).2.ext E⟩
  · have := (P.2.1 y hy).2.lt
    exact fun (e : h.size = y.1) => Nat.lt_irrefl y.1 (Nat.lt_of_lt_of_le this (Nat.le_of_eq e))
theorem Hp.apart (P : Hp W h H) {i j : Nat} {x y : En} (hi : H[i]? = some x) (hj : H[j]? = some y) (hne : i ≠ j) (hw : x.2.1 = true) : y.1 ≠ x.1 := by
  obtain ⟨li, rfl⟩ := List.getElem?_eq_some_iff.mp hi
  obtain ⟨lj, rfl⟩ := List.getElem?_eq_some_iff.mp hj
  have q := List.pairwise_iff_getElem.mp P.2.2
  rcases Nat.lt_or_gt_of_ne hne with g | g
  · rcases q i j li lj g with u | u
    · rw [hw] at u; exact absurd u.1 (by decide)
    · exact fun e => u e.symm
  · rcases q j i lj li g with u | u
    · rw [hw] at u; exact absurd u.2 (by decide)
    · exact u
/-- one entry is written: what else is known stays -/
theorem Hp.put (P : Hp W h H) {i : Nat} {D' : Ds} (hi : H[i]? = some (a, true, D)) (E : Wr h h' a sl v) (F : DsOk (wZ W) h' a D') : Hp W h' (H.set i (a, true, D')) := by
  have hm := List.mem_of_getElem? hi
  have hn := (P.2.1 _ hm).1 rfl
  refine ⟨P.1.wr E hn, fun x hx => ?_, ?_⟩
  · obtain ⟨j, hj⟩ := List.getElem?_of_mem hx
    by_cases e : i = j
    · subst e
      rw [List.getElem?_set_self (List.getElem?_eq_some_iff.mp hi).1] at hj
      cases hj
      exact ⟨fun _ => hn, F⟩
    · rw [List.getElem?_set_ne e] at hj
      have hx' := P.2.1 x (List.mem_of_getElem? hj)
      exact ⟨hx'.1, hx'.2.other E (P.apart hi hj e rfl)⟩
  · rw [List.pairwise_iff_getElem]
    intro j k hj hk hjk
    rw [List.length_set] at hj hk
    have q := (List.pairwise_iff_getElem.mp P.2.2) j k hj hk hjk
    obtain ⟨li, e⟩ := List.getElem?_eq_some_iff.mp hi
    rw [List.getElem_set, List.getElem_set]
    have fix : ∀ x : En, x = (a, true, D) → x.2.1 = true ∧ x.1 = a := fun x e => by subst e; exact ⟨rfl, rfl⟩
    obtain ⟨f1, f2⟩ := fix _ e
    split
    · rename_i e1
      subst e1
      split
      · rename_i e2; omega
      · rcases q with u | u
        · exact absurd (f1.symm.trans u.1) (by decide)
        · exact Or.inr (fun w => u (f2.trans w))
    · split
      · rename_i e2
        subst e2
        rcases q with u | u
        · exact absurd (f1.symm.trans u.2) (by decide)
        · exact Or.inr (fun w => u (w.trans f2.symm))
      · exact q
theorem Hp.sub (P : Hp W h H) {H' : List En} (q : H'.Sublist H) : Hp W h H' := ⟨P.1, fun x hx => P.2.1 x (q.subset hx), P.2.2.sublist q⟩
theorem Apart.symm {x y : En} (q : Apart x y) : Apart y x := q.elim (fun u => Or.inl ⟨u.2, u.1⟩) fun u => Or.inr fun e => u e.symm
theorem Hp.perm (P : Hp W h H) {H' : List En} (q : H.Perm H') : Hp W h H' := ⟨P.1, fun x hx => P.2.1 x (q.mem_iff.mpr hx), (List.Perm.pairwise_iff (fun {x y} (u : Apart x y) => u.symm) q).mp P.2.2⟩
theorem Hp.at (P : Hp W h H) {i : Nat} {w : Bool} (hi : H[i]? = some (a, w, D)) : DsOk (wZ W) h a D := (P.2.1 _ (List.mem_of_getElem? hi)).2
theorem nodup_slot {Z : State} {fs : List Fd} {i j : Nat} {f g : Fd} (P : (fs.map (fSl Z)).Nodup) (hi : fs[i]? = some f) (hj : fs[j]? = some g) (hne : i ≠ j) : fSl Z g ≠ fSl Z f := fun e => by
  obtain ⟨li, rfl⟩ := List.getElem?_eq_some_iff.mp hi
  obtain ⟨lj, rfl⟩ := List.getElem?_eq_some_iff.mp hj
  have q := List.pairwise_iff_getElem.mp P
  rcases Nat.lt_or_gt_of_ne hne with u | u
  · exact q i j (by simpa using li) (by simpa using lj) u (by simpa using e.symm)
  · exact q j i (by simpa using lj) (by simpa using li) u (by simpa using e)
theorem map_set_same {Z : State} {fs : List Fd} {j : Nat} {O n d : String} {old w : Value} (hj : fs[j]? = some (O, n, d, old)) : (fs.set j (O, n, d, w)).map (fSl Z) = fs.map (fSl Z) := by
  apply List.ext_getElem? 
  intro k
  rw [List.getElem?_map, List.getElem?_map]
  by_cases e : j = k
  · subst e
    rw [List.getElem?_set_self (List.getElem?_eq_some_iff.mp hj).1, hj]
    rfl
  · rw [List.getElem?_set_ne e]
theorem ObOk.put {C O n d : String} {fs : List Fd} {j : Nat} {old : Value} (F : ObOk Z h a C fs) (hj : fs[j]? = some (O, n, d, old)) (E : Wr h h' a (Jvm.RoadKit.slotOf Z O n d) v) : ObOk Z h' a C (fs.set j (O, n, d, v)) := by
  refine ⟨F.1.wr E, fun f hf => ?_, by rw [map_set_same hj]; exact F.2.2⟩
  obtain ⟨k, hk⟩ := List.getElem?_of_mem hf
  by_cases e : j = k
  · subst e
    rw [List.getElem?_set_self (List.getElem?_eq_some_iff.mp hj).1] at hk
    cases hk
    exact Fld.same E (show Fld Z h a O n d old from F.2.1 _ (List.mem_of_getElem? hj))
  · rw [List.getElem?_set_ne e] at hk
    exact Fld.other E (show Fld Z h a f.1 f.2.1 f.2.2.1 f.2.2.2 from F.2.1 _ (List.mem_of_getElem? hk)) (Or.inr (show fSl Z f ≠ fSl Z (O, n, d, old) from nodup_slot F.2.2 hj hk e))
theorem ArOk.put {ty : FieldType} {ex ov : Bool} {vs : List Value} {j : Int32} {k : Nat} (F : ArOk Z h a ty ex ov vs) (hk : j.toNatClampNeg = k) (hf : fits ty v = true) (E : Wr h h' a j.toNatClampNeg v) : ArOk Z h' a ty ex ov (vs.set k v) := by
  obtain ⟨c, h1, h2, h3, h4, h5, h6⟩ := F
  subst hk
  refine ⟨c.setSlot j.toNatClampNeg v, h1.same E, ?_, by rw [List.length_set]; exact h3, fun u hu => ?_, fun q => (h5 q).wr E, h6⟩
  · rw [← h2]; simp [Cell.setSlot]
  · rcases List.mem_or_eq_of_mem_set hu with q | q
    · exact h4 u q
    · rw [q]; exact hf
end HeapLaws
/-- the run stands in K's body, over the heap that H tells -/
def Std (W : Wd) (K : Kx) (M : Mt) (T : State) (H : List En) (c n : Nat) : Prop :=
  (kP K).tables.exec = Jvm.exec ∧ (wZ W).Warmed39 (kS K).vm ∧ (kS K).vm.findClass (mN M).cls = some (kM K).cls ∧ (kC K).code = mC M ∧ (kC K).maxLocals = mL M ∧ (kH K).sig.returnType = mT M ∧ (kH K).name = (mN M).name ∧ (kH K).locks = false ∧
  ∃ locs, Stand (kP K) (wL W) (kE K) (mR M) (kS K) (kM K) (kA K) (kB K) (kH K) (kC K) T locs c n ∧ Fr (wN W) locs ∧ Hp W T.heap H
def Fini (W : Wd) (K : Kx) (M : Mt) (Q : Option Value → List En → Prop) (U : State) : Prop :=
  ∃ o, U.status = .running ∧ Ended U (kB K) o ∧ ∃ v L, o = .returned v ∧ (Fr (wN W) L ∧ ∃ H', Hp W U.heap H' ∧ Q v H') ∧ FrameEnd (kS K) o U L (mR M).cells (mR M).slots
def Wp (W : Wd) (K : Kx) (M : Mt) (Q : Option Value → List En → Prop) (H : List En) (c n pc : Nat) (L : List Slot) (S : List Value) : Prop :=
  ∀ T, Std W K M T H c n → ∃ U, Steps (kP K).tables (kE K) (kB K) (T.setTop (mkF (kM K) pc L.toArray S)) U ∧ Fini W K M Q U
/-- what a method does, called with 'as' over the heap that H tells -/
def Ct (W : Wd) (M : Mt) (as : List Value) (H : List En) (Q : Option Value → List En → Prop) : Prop :=
  ∀ (ws : List Cond) (h0 : Heap), Hp W h0 H → MetFree (wL W) (mN M) (head1 (Cond.code (mN M) (mC M) (mL M) (mT M) :: ws) (mR M)) (fun a U => a = as.toArray ∧ (wZ W).Warmed39 U.vm ∧ U.heap = h0) (fun _ _ _ _ _ => True)
    (fun _ U o U' => ∃ v L, o = .returned v ∧ (Fr (wN W) L ∧ ∃ H', Hp W U'.heap H' ∧ Q v H') ∧ FrameEnd U o U' L (mR M).cells (mR M).slots)
def Dc (C : ByteArray) (pc : Nat) (i : Instr) (len pc' : Nat) : Prop := decode C pc = .ok (i, len) ∧ pc + len = pc'
def Bj (C : ByteArray) (pc : Nat) (i : Instr) (o : Int) (pc' pt : Nat) : Prop := decode C pc = .ok (i, 3) ∧ pc + 3 = pc' ∧ 0 ≤ (pc : Int) + o ∧ ((pc : Int) + o).toNat = pt
def Wok (W : Wd) (d : Cond) : Prop := d.before (wA W) (wZ W) = true
section Logic
variable {W : Wd} {K : Kx} {M : Mt} {Q : Option Value → List En → Prop} {H H' : List En} {c n pc pc' pt len : Nat} {L L' : List Slot} {S : List Value}
def slotsOf : List Value → List Slot
  | [] => []
  | v :: vs => if v.category = 2 then .val v :: .second :: slotsOf vs else .val v :: slotsOf vs
theorem slots_fold : ∀ (as : List Value) (acc : Array Slot), as.foldl (fun acc v => if v.category = 2 then (acc.push (.val v)).push .second else acc.push (.val v)) acc = acc ++ (slotsOf as).toArray
  | [], acc => by simp [slotsOf]
  | v :: vs, acc => by
    rw [List.foldl_cons, slots_fold vs]
    by_cases h : v.category = 2
    · simp [slotsOf, h]
    · simp [slotsOf, h]
theorem entry_eq (m : MethodId) (as : List Value) (ml : Nat) : entryFrame m as.toArray ml = mkF m 0 (slotsOf as ++ List.replicate (ml - (slotsOf as).length) Slot.unset).toArray [] := by
  have h : argsToLocals as.toArray ml = (slotsOf as ++ List.replicate (ml - (slotsOf as).length) Slot.unset).toArray := by
    simp [argsToLocals, slots_fold]
  unfold entryFrame
  rw [h]
theorem Ct.intro {as : List Value} {L0 : List Slot} (hp : plainFor (mN M) = true) (he : slotsOf as ++ List.replicate (mL M - (slotsOf as).length) Slot.unset = L0) (body : ∀ K, Wp W K M Q H 0 0 0 L0 []) : Ct W M as H Q := by
  intro ws h0 P
  refine MetFree.of_bodySF hp hisR ?_
  intro p e s m args below meth c s₁ Bd hml0 hP hK
  obtain ⟨rfl, hZ, hh⟩ := hP
  have e0 : s₁.heap = h0 := by rw [← hh, Bd.state]; rfl
  obtain ⟨U, st, o, h1, h2, h3⟩ := body (p, e, s, m, as.toArray, below, meth, c) s₁ ⟨Bd.exec, hZ, findClass_of_methodNamed Bd.named, Bd.bytes, hml0, Bd.returns, (name_of_methodNamed Bd.named Bd.method).1, Bd.notSynchronized, [], Stand.of_body Bd, Fr.nil _, by rw [e0]; exact P⟩
  exact ⟨U, o, castTop ((entry_eq m as (mL M)).trans (by rw [he]; rfl)) st, h1, h2, h3⟩
theorem Ct.mono {as : List Value} {Q' : Option Value → List En → Prop} (C : Ct W M as H Q) (q : ∀ v H', Q v H' → Q' v H') : Ct W M as H Q' := fun ws h0 P =>
  (C ws h0 P).mono (fun _ _ u => u) (fun _ _ _ _ _ u => u) (fun _ _ _ _ _ ⟨v, L, e1, ⟨e2, H', e3, e4⟩, e5⟩ => ⟨v, L, e1, ⟨e2, H', e3, q v H' e4⟩, e5⟩)
theorem Wp.mono {Q' : Option Value → List En → Prop} (k : Wp W K M Q H c n pc L S) (q : ∀ v H', Q v H' → Q' v H') : Wp W K M Q' H c n pc L S := fun T X => by
  obtain ⟨U, st, o, h1, h2, v, L, e1, ⟨e2, H', e3, e4⟩, e5⟩ := k T X
  exact ⟨U, st, o, h1, h2, v, L, e1, ⟨e2, H', e3, q v H' e4⟩, e5⟩
/-- a step that leaves the state -/
theorem Wp.go {S' : List Value} (st : ∀ T locs, Stand (kP K) (wL W) (kE K) (mR M) (kS K) (kM K) (kA K) (kB K) (kH K) (kC K) T locs c n → (kP K).tables.exec = Jvm.exec → (wZ W).Warmed39 (kS K).vm → (kS K).vm.findClass (mN M).cls = some (kM K).cls → (kC K).code = mC M → (kC K).maxLocals = mL M → Hp W T.heap H →
    ∀ t, Steps (kP K).tables (kE K) (kB K) (T.setTop (mkF (kM K) pc' L'.toArray S')) t → Steps (kP K).tables (kE K) (kB K) (T.setTop (mkF (kM K) pc L.toArray S)) t) (k : Wp W K M Q H c n pc' L' S') : Wp W K M Q H c n pc L S := fun T X => by
  obtain ⟨hx, hZ, ho, hb, hm, hr, hn, hl, locs, X, N, P⟩ := X
  obtain ⟨U, s1, s2⟩ := k T ⟨hx, hZ, ho, hb, hm, hr, hn, hl, locs, X, N, P⟩
  exact ⟨U, st T locs X hx hZ ho hb hm P _ s1, s2⟩
/-- a step that comes to another state -/
theorem Wp.to {S' : List Value} {c' n' : Nat} (st : ∀ T locs, Stand (kP K) (wL W) (kE K) (mR M) (kS K) (kM K) (kA K) (kB K) (kH K) (kC K) T locs c n → (kP K).tables.exec = Jvm.exec → (wZ W).Warmed39 (kS K).vm → (kS K).vm.findClass (mN M).cls = some (kM K).cls → (kC K).code = mC M → (kC K).maxLocals = mL M → (kH K).name = (mN M).name → Hp W T.heap H → Fr (wN W) locs →
    ∃ T' locs', Stand (kP K) (wL W) (kE K) (mR M) (kS K) (kM K) (kA K) (kB K) (kH K) (kC K) T' locs' c' n' ∧ Fr (wN W) locs' ∧ Hp W T'.heap H' ∧ ∀ t, Steps (kP K).tables (kE K) (kB K) (T'.setTop (mkF (kM K) pc' L'.toArray S')) t → Steps (kP K).tables (kE K) (kB K) (T.setTop (mkF (kM K) pc L.toArray S)) t) (k : Wp W K M Q H' c' n' pc' L' S') : Wp W K M Q H c n pc L S := fun T X => by
  obtain ⟨hx, hZ, ho, hb, hm, hr, hn, hl, locs, X, N, P⟩ := X
  obtain ⟨T', locs', X', N', P', s0⟩ := st T locs X hx hZ ho hb hm hn P N
  obtain ⟨U, s1, s2⟩ := k T' ⟨hx, hZ, ho, hb, hm, hr, hn, hl, locs', X', N', P'⟩
  exact ⟨U, s0 _ s1, s2⟩
theorem Wp.heap (q : H.Perm H') (k : Wp W K M Q H' c n pc L S) : Wp W K M Q H c n pc L S := fun T X => by
  obtain ⟨hx, hZ, ho, hb, hm, hr, hn, hl, locs, X, N, P⟩ := X
  exact k T ⟨hx, hZ, ho, hb, hm, hr, hn, hl, locs, X, N, P.perm q⟩
theorem Wp.less (q : H'.Sublist H) (k : Wp W K M Q H' c n pc L S) : Wp W K M Q H c n pc L S := fun T X => by
  obtain ⟨hx, hZ, ho, hb, hm, hr, hn, hl, locs, X, N, P⟩ := X
  exact k T ⟨hx, hZ, ho, hb, hm, hr, hn, hl, locs, X, N, P.sub q⟩
theorem Wp.room {c' n' : Nat} (q1 : c ≤ c') (q2 : n ≤ n') (k : Wp W K M Q H c' n' pc L S) : Wp W K M Q H c n pc L S := fun T X => by
  obtain ⟨hx, hZ, ho, hb, hm, hr, hn, hl, locs, X, N, P⟩ := X
  exact k T ⟨hx, hZ, ho, hb, hm, hr, hn, hl, locs, X.mono q1 q2, N, P⟩
theorem hbM {M : Mt} {c : Code} (h : c.code = mC M) {r : Except DecodeError (Instr × Nat)} (h2 : decode (mC M) pc = r) : decode c.code pc = r := by rw [h]; exact h2
theorem Wp.aloadN {k : Fin 4} {v : Value} (hl : L[k.val]? = some (.val v)) (hv : v.isRef = true) (hd : Dc (mC M) pc (.aload_n k) 1 pc') (k : Wp W K M Q H c n pc' L (v :: S)) : Wp W K M Q H c n pc L (S) := by
  obtain ⟨hd, rfl⟩ := hd
  exact Wp.go (fun T locs X hx _ ho hc _ _ t r => XS.aloadN X.here hx rfl (hbM hc hd) (by simpa using hl) hv r) k
theorem Wp.aload {k : Nat} {v : Value} (hl : L[k]? = some (.val v)) (hv : v.isRef = true) (hd : Dc (mC M) pc (.aload k) 2 pc') (k : Wp W K M Q H c n pc' L (v :: S)) : Wp W K M Q H c n pc L (S) := by
  obtain ⟨hd, rfl⟩ := hd
  exact Wp.go (fun T locs X hx _ ho hc _ _ t r => XS.aload X.here hx rfl (hbM hc hd) (by simpa using hl) hv r) k
theorem Wp.iloadN {k : Fin 4} {v : Int32} (hl : L[k.val]? = some (.val (.int v))) (hd : Dc (mC M) pc (.iload_n k) 1 pc') (k : Wp W K M Q H c n pc' L (.int v :: S)) : Wp W K M Q H c n pc L (S) := by
  obtain ⟨hd, rfl⟩ := hd
  exact Wp.go (fun T locs X hx _ ho hc _ _ t r => XS.iloadN X.here hx rfl (hbM hc hd) (by simpa using hl) r) k
theorem Wp.iload {k : Nat} {v : Int32} (hl : L[k]? = some (.val (.int v))) (hd : Dc (mC M) pc (.iload k) 2 pc') (k : Wp W K M Q H c n pc' L (.int v :: S)) : Wp W K M Q H c n pc L (S) := by
  obtain ⟨hd, rfl⟩ := hd
  exact Wp.go (fun T locs X hx _ ho hc _ _ t r => XS.iload X.here hx rfl (hbM hc hd) (by simpa using hl) r) k
theorem Wp.lloadN {k : Fin 4} {v : Int64} (hl : L[k.val]? = some (.val (.long v))) (hd : Dc (mC M) pc (.lload_n k) 1 pc') (k : Wp W K M Q H c n pc' L (.long v :: S)) : Wp W K M Q H c n pc L (S) := by
  obtain ⟨hd, rfl⟩ := hd
  exact Wp.go (fun T locs X hx _ ho hc _ _ t r => XT.lloadN X.here hx rfl (hbM hc hd) (by simpa using hl) r) k
theorem Wp.lload {k : Nat} {v : Int64} (hl : L[k]? = some (.val (.long v))) (hd : Dc (mC M) pc (.lload k) 2 pc') (k : Wp W K M Q H c n pc' L (.long v :: S)) : Wp W K M Q H c n pc L (S) := by
  obtain ⟨hd, rfl⟩ := hd
  exact Wp.go (fun T locs X hx _ ho hc _ _ t r => XT.lload X.here hx rfl (hbM hc hd) (by simpa using hl) r) k
theorem Wp.astoreN {k : Fin 4} {v : Value} (hv : v.isRef = true) (hl : storeLocals L.toArray k.val (v) = some L'.toArray) (hd : Dc (mC M) pc (.astore_n k) 1 pc') (k : Wp W K M Q H c n pc' L' (S)) : Wp W K M Q H c n pc L (v :: S) := by
  obtain ⟨hd, rfl⟩ := hd
  exact Wp.go (fun T locs X hx _ ho hc _ _ t r => XS.astoreN X.here hx rfl (hbM hc hd) rfl hv hl r) k
theorem Wp.astore {k : Nat} {v : Value} (hv : v.isRef = true) (hl : storeLocals L.toArray k (v) = some L'.toArray) (hd : Dc (mC M) pc (.astore k) 2 pc') (k : Wp W K M Q H c n pc' L' (S)) : Wp W K M Q H c n pc L (v :: S) := by
  obtain ⟨hd, rfl⟩ := hd
  exact Wp.go (fun T locs X hx _ ho hc _ _ t r => XS.astore X.here hx rfl (hbM hc hd) rfl hv hl r) k
theorem Wp.istoreN {k : Fin 4} {v : Int32} (hl : storeLocals L.toArray k.val (.int v) = some L'.toArray) (hd : Dc (mC M) pc (.istore_n k) 1 pc') (k : Wp W K M Q H c n pc' L' (S)) : Wp W K M Q H c n pc L (.int v :: S) := by
  obtain ⟨hd, rfl⟩ := hd
  exact Wp.go (fun T locs X hx _ ho hc _ _ t r => XS.istoreN X.here hx rfl (hbM hc hd) rfl hl r) k
theorem Wp.istore {k : Nat} {v : Int32} (hl : storeLocals L.toArray k (.int v) = some L'.toArray) (hd : Dc (mC M) pc (.istore k) 2 pc') (k : Wp W K M Q H c n pc' L' (S)) : Wp W K M Q H c n pc L (.int v :: S) := by
  obtain ⟨hd, rfl⟩ := hd
  exact Wp.go (fun T locs X hx _ ho hc _ _ t r => XS.istore X.here hx rfl (hbM hc hd) rfl hl r) k
theorem Wp.lstoreN {k : Fin 4} {v : Int64} (hl : storeLocals L.toArray k.val (.long v) = some L'.toArray) (hd : Dc (mC M) pc (.lstore_n k) 1 pc') (k : Wp W K M Q H c n pc' L' (S)) : Wp W K M Q H c n pc L (.long v :: S) := by
  obtain ⟨hd, rfl⟩ := hd
  exact Wp.go (fun T locs X hx _ ho hc _ _ t r => XT.lstoreN X.here hx rfl (hbM hc hd) rfl hl r) k
theorem Wp.lstore {k : Nat} {v : Int64} (hl : storeLocals L.toArray k (.long v) = some L'.toArray) (hd : Dc (mC M) pc (.lstore k) 2 pc') (k : Wp W K M Q H c n pc' L' (S)) : Wp W K M Q H c n pc L (.long v :: S) := by
  obtain ⟨hd, rfl⟩ := hd
  exact Wp.go (fun T locs X hx _ ho hc _ _ t r => XT.lstore X.here hx rfl (hbM hc hd) rfl hl r) k
theorem Wp.iinc {k : Nat} {i : Int} {x z : Int32} (hl : L[k]? = some (.val (.int x))) (hz : x + Int32.ofInt i = z) (hs : storeLocals L.toArray k (.int z) = some L'.toArray) (hd : Dc (mC M) pc (.iinc k i) 3 pc') (k : Wp W K M Q H c n pc' L' (S)) : Wp W K M Q H c n pc L (S) := by
  obtain ⟨hd, rfl⟩ := hd
  exact Wp.go (fun T locs X hx _ ho hc _ _ t r => XS.iinc X.here hx rfl (hbM hc hd) (by simpa using hl) (hz ▸ hs) r) k
theorem Wp.iconst {i : Int} {z : Int32} (hz : Int32.ofInt i = z) (hd : Dc (mC M) pc (.iconst i) 1 pc') (k : Wp W K M Q H c n pc' L (.int z :: S)) : Wp W K M Q H c n pc L (S) := by
  obtain ⟨hd, rfl⟩ := hd
  exact Wp.go (fun T locs X hx _ ho hc _ _ t r => XS.iconst X.here hx rfl (hbM hc hd) (hz ▸ r)) k
theorem Wp.bipush {i : Int} {z : Int32} (hz : (Int8.ofInt i).toInt32 = z) (hd : Dc (mC M) pc (.bipush i) 2 pc') (k : Wp W K M Q H c n pc' L (.int z :: S)) : Wp W K M Q H c n pc L (S) := by
  obtain ⟨hd, rfl⟩ := hd
  exact Wp.go (fun T locs X hx _ ho hc _ _ t r => XS.bipush X.here hx rfl (hbM hc hd) (hz ▸ r)) k
theorem Wp.sipush {i : Int} {z : Int32} (hz : (Int16.ofInt i).toInt32 = z) (hd : Dc (mC M) pc (.sipush i) 3 pc') (k : Wp W K M Q H c n pc' L (.int z :: S)) : Wp W K M Q H c n pc L (S) := by
  obtain ⟨hd, rfl⟩ := hd
  exact Wp.go (fun T locs X hx _ ho hc _ _ t r => XS.sipush X.here hx rfl (hbM hc hd) (hz ▸ r)) k
theorem Wp.aconstNull  (hd : Dc (mC M) pc .aconst_null 1 pc') (k : Wp W K M Q H c n pc' L (.null :: S)) : Wp W K M Q H c n pc L (S) := by
  obtain ⟨hd, rfl⟩ := hd
  exact Wp.go (fun T locs X hx _ ho hc _ _ t r => XS.aconstNull X.here hx rfl (hbM hc hd) r) k
theorem Wp.lconst {k : Fin 2} {z : Int64} (hz : Int64.ofNat k = z) (hd : Dc (mC M) pc (.lconst k) 1 pc') (k : Wp W K M Q H c n pc' L (.long z :: S)) : Wp W K M Q H c n pc L (S) := by
  obtain ⟨hd, rfl⟩ := hd
  exact Wp.go (fun T locs X hx _ ho hc _ _ t r => XT.lconst X.here hx rfl (hbM hc hd) (hz ▸ r)) k
theorem Wp.ldcI {y0 : MethodName} (hM : mN M = y0) {i : Nat} {z : Int32} (w : Wok W (.constant y0.cls i z)) (hd : Dc (mC M) pc (.ldc i) 2 pc') (k : Wp W K M Q H c n pc' L (.int z :: S)) : Wp W K M Q H c n pc L (S) := by
  subst hM
  obtain ⟨hd, rfl⟩ := hd
  exact Wp.go (fun T locs X hx h0 ho hc _ _ t r => ldcI X hx ho (mvT h0 w) rfl (hbM hc hd) r) k
theorem Wp.ldcWI {y0 : MethodName} (hM : mN M = y0) {i : Nat} {z : Int32} (w : Wok W (.constant y0.cls i z)) (hd : Dc (mC M) pc (.ldc_w i) 3 pc') (k : Wp W K M Q H c n pc' L (.int z :: S)) : Wp W K M Q H c n pc L (S) := by
  subst hM
  obtain ⟨hd, rfl⟩ := hd
  exact Wp.go (fun T locs X hx h0 ho hc _ _ t r => ldcWI X hx ho (mvT h0 w) rfl (hbM hc hd) r) k
theorem Wp.ldc2J {y0 : MethodName} (hM : mN M = y0) {i : Nat} {z : Int64} (w : Wok W (.constantLong y0.cls i z)) (hd : Dc (mC M) pc (.ldc2_w i) 3 pc') (k : Wp W K M Q H c n pc' L (.long z :: S)) : Wp W K M Q H c n pc L (S) := by
  subst hM
  obtain ⟨hd, rfl⟩ := hd
  exact Wp.go (fun T locs X hx h0 ho hc _ _ t r => ldc2J X hx ho (mvT h0 w) rfl (hbM hc hd) r) k
theorem Wp.iadd {x y z : Int32} (hz : x + y = z) (hd : Dc (mC M) pc .iadd 1 pc') (k : Wp W K M Q H c n pc' L (.int z :: S)) : Wp W K M Q H c n pc L (.int y :: .int x :: S) := by
  obtain ⟨hd, rfl⟩ := hd
  exact Wp.go (fun T locs X hx _ ho hc _ _ t r => XS.iadd X.here hx rfl (hbM hc hd) rfl (hz ▸ r)) k
theorem Wp.isub {x y z : Int32} (hz : x - y = z) (hd : Dc (mC M) pc .isub 1 pc') (k : Wp W K M Q H c n pc' L (.int z :: S)) : Wp W K M Q H c n pc L (.int y :: .int x :: S) := by
  obtain ⟨hd, rfl⟩ := hd
  exact Wp.go (fun T locs X hx _ ho hc _ _ t r => XS.isub X.here hx rfl (hbM hc hd) rfl (hz ▸ r)) k
theorem Wp.imul {x y z : Int32} (hz : x * y = z) (hd : Dc (mC M) pc .imul 1 pc') (k : Wp W K M Q H c n pc' L (.int z :: S)) : Wp W K M Q H c n pc L (.int y :: .int x :: S) := by
  obtain ⟨hd, rfl⟩ := hd
  exact Wp.go (fun T locs X hx _ ho hc _ _ t r => XS.imul X.here hx rfl (hbM hc hd) rfl (hz ▸ r)) k
theorem Wp.iand {x y z : Int32} (hz : x &&& y = z) (hd : Dc (mC M) pc .iand 1 pc') (k : Wp W K M Q H c n pc' L (.int z :: S)) : Wp W K M Q H c n pc L (.int y :: .int x :: S) := by
  obtain ⟨hd, rfl⟩ := hd
  exact Wp.go (fun T locs X hx _ ho hc _ _ t r => XS.iand X.here hx rfl (hbM hc hd) rfl (hz ▸ r)) k
theorem Wp.ior {x y z : Int32} (hz : x ||| y = z) (hd : Dc (mC M) pc .ior 1 pc') (k : Wp W K M Q H c n pc' L (.int z :: S)) : Wp W K M Q H c n pc L (.int y :: .int x :: S) := by
  obtain ⟨hd, rfl⟩ := hd
  exact Wp.go (fun T locs X hx _ ho hc _ _ t r => XT.ior X.here hx rfl (hbM hc hd) rfl (hz ▸ r)) k
theorem Wp.ixor {x y z : Int32} (hz : x ^^^ y = z) (hd : Dc (mC M) pc .ixor 1 pc') (k : Wp W K M Q H c n pc' L (.int z :: S)) : Wp W K M Q H c n pc L (.int y :: .int x :: S) := by
  obtain ⟨hd, rfl⟩ := hd
  exact Wp.go (fun T locs X hx _ ho hc _ _ t r => XT.ixor X.here hx rfl (hbM hc hd) rfl (hz ▸ r)) k
theorem Wp.ishl {x y z : Int32} (hz : x <<< (y &&& 31) = z) (hd : Dc (mC M) pc .ishl 1 pc') (k : Wp W K M Q H c n pc' L (.int z :: S)) : Wp W K M Q H c n pc L (.int y :: .int x :: S) := by
  obtain ⟨hd, rfl⟩ := hd
  exact Wp.go (fun T locs X hx _ ho hc _ _ t r => XT.ishl X.here hx rfl (hbM hc hd) rfl (hz ▸ r)) k
theorem Wp.ishr {x y z : Int32} (hz : x >>> (y &&& 31) = z) (hd : Dc (mC M) pc .ishr 1 pc') (k : Wp W K M Q H c n pc' L (.int z :: S)) : Wp W K M Q H c n pc L (.int y :: .int x :: S) := by
  obtain ⟨hd, rfl⟩ := hd
  exact Wp.go (fun T locs X hx _ ho hc _ _ t r => XT.ishr X.here hx rfl (hbM hc hd) rfl (hz ▸ r)) k
theorem Wp.iushr {x y z : Int32} (hz : Jvm.Free.XT.ushr x y = z) (hd : Dc (mC M) pc .iushr 1 pc') (k : Wp W K M Q H c n pc' L (.int z :: S)) : Wp W K M Q H c n pc L (.int y :: .int x :: S) := by
  obtain ⟨hd, rfl⟩ := hd
  exact Wp.go (fun T locs X hx _ ho hc _ _ t r => XT.iushr X.here hx rfl (hbM hc hd) rfl (hz ▸ r)) k
theorem Wp.idiv {x y z : Int32} (hy : y ≠ 0) (hz : x / y = z) (hd : Dc (mC M) pc .idiv 1 pc') (k : Wp W K M Q H c n pc' L (.int z :: S)) : Wp W K M Q H c n pc L (.int y :: .int x :: S) := by
  obtain ⟨hd, rfl⟩ := hd
  exact Wp.go (fun T locs X hx _ ho hc _ _ t r => XS.idiv X.here hx rfl (hbM hc hd) rfl hy (hz ▸ r)) k
theorem Wp.irem {x y z : Int32} (hy : y ≠ 0) (hz : x % y = z) (hd : Dc (mC M) pc .irem 1 pc') (k : Wp W K M Q H c n pc' L (.int z :: S)) : Wp W K M Q H c n pc L (.int y :: .int x :: S) := by
  obtain ⟨hd, rfl⟩ := hd
  exact Wp.go (fun T locs X hx _ ho hc _ _ t r => iremM X hx rfl (hbM hc hd) rfl hy (hz ▸ r)) k
theorem Wp.ineg {x z : Int32} (hz : -x = z) (hd : Dc (mC M) pc .ineg 1 pc') (k : Wp W K M Q H c n pc' L (.int z :: S)) : Wp W K M Q H c n pc L (.int x :: S) := by
  obtain ⟨hd, rfl⟩ := hd
  exact Wp.go (fun T locs X hx _ ho hc _ _ t r => XS.ineg X.here hx rfl (hbM hc hd) rfl (hz ▸ r)) k
theorem Wp.i2b {x z : Int32} (hz : x.toInt8.toInt32 = z) (hd : Dc (mC M) pc .i2b 1 pc') (k : Wp W K M Q H c n pc' L (.int z :: S)) : Wp W K M Q H c n pc L (.int x :: S) := by
  obtain ⟨hd, rfl⟩ := hd
  exact Wp.go (fun T locs X hx _ ho hc _ _ t r => XT.i2b X.here hx rfl (hbM hc hd) rfl (hz ▸ r)) k
theorem Wp.i2c {x z : Int32} (hz : x.toUInt32.toUInt16.toUInt32.toInt32 = z) (hd : Dc (mC M) pc .i2c 1 pc') (k : Wp W K M Q H c n pc' L (.int z :: S)) : Wp W K M Q H c n pc L (.int x :: S) := by
  obtain ⟨hd, rfl⟩ := hd
  exact Wp.go (fun T locs X hx _ ho hc _ _ t r => XT.i2c X.here hx rfl (hbM hc hd) rfl (hz ▸ r)) k
theorem Wp.i2s {x z : Int32} (hz : x.toInt16.toInt32 = z) (hd : Dc (mC M) pc .i2s 1 pc') (k : Wp W K M Q H c n pc' L (.int z :: S)) : Wp W K M Q H c n pc L (.int x :: S) := by
  obtain ⟨hd, rfl⟩ := hd
  exact Wp.go (fun T locs X hx _ ho hc _ _ t r => XT.i2s X.here hx rfl (hbM hc hd) rfl (hz ▸ r)) k
theorem Wp.i2l {x : Int32} {z : Int64} (hz : x.toInt64 = z) (hd : Dc (mC M) pc .i2l 1 pc') (k : Wp W K M Q H c n pc' L (.long z :: S)) : Wp W K M Q H c n pc L (.int x :: S) := by
  obtain ⟨hd, rfl⟩ := hd
  exact Wp.go (fun T locs X hx _ ho hc _ _ t r => XT.i2l X.here hx rfl (hbM hc hd) rfl (hz ▸ r)) k
theorem Wp.l2i {x : Int64} {z : Int32} (hz : x.toInt32 = z) (hd : Dc (mC M) pc .l2i 1 pc') (k : Wp W K M Q H c n pc' L (.int z :: S)) : Wp W K M Q H c n pc L (.long x :: S) := by
  obtain ⟨hd, rfl⟩ := hd
  exact Wp.go (fun T locs X hx _ ho hc _ _ t r => XT.l2i X.here hx rfl (hbM hc hd) rfl (hz ▸ r)) k
theorem Wp.ladd {x y z : Int64} (hz : x + y = z) (hd : Dc (mC M) pc .ladd 1 pc') (k : Wp W K M Q H c n pc' L (.long z :: S)) : Wp W K M Q H c n pc L (.long y :: .long x :: S) := by
  obtain ⟨hd, rfl⟩ := hd
  exact Wp.go (fun T locs X hx _ ho hc _ _ t r => XT.ladd X.here hx rfl (hbM hc hd) rfl (hz ▸ r)) k
theorem Wp.lsub {x y z : Int64} (hz : x - y = z) (hd : Dc (mC M) pc .lsub 1 pc') (k : Wp W K M Q H c n pc' L (.long z :: S)) : Wp W K M Q H c n pc L (.long y :: .long x :: S) := by
  obtain ⟨hd, rfl⟩ := hd
  exact Wp.go (fun T locs X hx _ ho hc _ _ t r => XT.lsub X.here hx rfl (hbM hc hd) rfl (hz ▸ r)) k
theorem Wp.lmul {x y z : Int64} (hz : x * y = z) (hd : Dc (mC M) pc .lmul 1 pc') (k : Wp W K M Q H c n pc' L (.long z :: S)) : Wp W K M Q H c n pc L (.long y :: .long x :: S) := by
  obtain ⟨hd, rfl⟩ := hd
  exact Wp.go (fun T locs X hx _ ho hc _ _ t r => XT.lmul X.here hx rfl (hbM hc hd) rfl (hz ▸ r)) k
theorem Wp.land {x y z : Int64} (hz : x &&& y = z) (hd : Dc (mC M) pc .land 1 pc') (k : Wp W K M Q H c n pc' L (.long z :: S)) : Wp W K M Q H c n pc L (.long y :: .long x :: S) := by
  obtain ⟨hd, rfl⟩ := hd
  exact Wp.go (fun T locs X hx _ ho hc _ _ t r => XT.land X.here hx rfl (hbM hc hd) rfl (hz ▸ r)) k
theorem Wp.lor {x y z : Int64} (hz : x ||| y = z) (hd : Dc (mC M) pc .lor 1 pc') (k : Wp W K M Q H c n pc' L (.long z :: S)) : Wp W K M Q H c n pc L (.long y :: .long x :: S) := by
  obtain ⟨hd, rfl⟩ := hd
  exact Wp.go (fun T locs X hx _ ho hc _ _ t r => XT.lor X.here hx rfl (hbM hc hd) rfl (hz ▸ r)) k
theorem Wp.lxor {x y z : Int64} (hz : x ^^^ y = z) (hd : Dc (mC M) pc .lxor 1 pc') (k : Wp W K M Q H c n pc' L (.long z :: S)) : Wp W K M Q H c n pc L (.long y :: .long x :: S) := by
  obtain ⟨hd, rfl⟩ := hd
  exact Wp.go (fun T locs X hx _ ho hc _ _ t r => XT.lxor X.here hx rfl (hbM hc hd) rfl (hz ▸ r)) k
theorem Wp.ldiv {x y z : Int64} (hy : y ≠ 0) (hz : x / y = z) (hd : Dc (mC M) pc .ldiv 1 pc') (k : Wp W K M Q H c n pc' L (.long z :: S)) : Wp W K M Q H c n pc L (.long y :: .long x :: S) := by
  obtain ⟨hd, rfl⟩ := hd
  exact Wp.go (fun T locs X hx _ ho hc _ _ t r => XT.ldiv X.here hx rfl (hbM hc hd) rfl hy (hz ▸ r)) k
theorem Wp.lrem {x y z : Int64} (hy : y ≠ 0) (hz : x - (x / y) * y = z) (hd : Dc (mC M) pc .lrem 1 pc') (k : Wp W K M Q H c n pc' L (.long z :: S)) : Wp W K M Q H c n pc L (.long y :: .long x :: S) := by
  obtain ⟨hd, rfl⟩ := hd
  exact Wp.go (fun T locs X hx _ ho hc _ _ t r => XT.lrem X.here hx rfl (hbM hc hd) rfl hy (hz ▸ r)) k
theorem Wp.lneg {x z : Int64} (hz : -x = z) (hd : Dc (mC M) pc .lneg 1 pc') (k : Wp W K M Q H c n pc' L (.long z :: S)) : Wp W K M Q H c n pc L (.long x :: S) := by
  obtain ⟨hd, rfl⟩ := hd
  exact Wp.go (fun T locs X hx _ ho hc _ _ t r => XT.lneg X.here hx rfl (hbM hc hd) rfl (hz ▸ r)) k
theorem Wp.lshl {x : Int64} {y : Int32} {z : Int64} (hz : x <<< (y.toInt64 &&& 63) = z) (hd : Dc (mC M) pc .lshl 1 pc') (k : Wp W K M Q H c n pc' L (.long z :: S)) : Wp W K M Q H c n pc L (.int y :: .long x :: S) := by
  obtain ⟨hd, rfl⟩ := hd
  exact Wp.go (fun T locs X hx _ ho hc _ _ t r => XT.lshl X.here hx rfl (hbM hc hd) rfl (hz ▸ r)) k
theorem Wp.lshr {x : Int64} {y : Int32} {z : Int64} (hz : x >>> (y.toInt64 &&& 63) = z) (hd : Dc (mC M) pc .lshr 1 pc') (k : Wp W K M Q H c n pc' L (.long z :: S)) : Wp W K M Q H c n pc L (.int y :: .long x :: S) := by
  obtain ⟨hd, rfl⟩ := hd
  exact Wp.go (fun T locs X hx _ ho hc _ _ t r => XT.lshr X.here hx rfl (hbM hc hd) rfl (hz ▸ r)) k
theorem Wp.lushr {x : Int64} {y : Int32} {z : Int64} (hz : Jvm.Free.XT.ushrL x y = z) (hd : Dc (mC M) pc .lushr 1 pc') (k : Wp W K M Q H c n pc' L (.long z :: S)) : Wp W K M Q H c n pc L (.int y :: .long x :: S) := by
  obtain ⟨hd, rfl⟩ := hd
  exact Wp.go (fun T locs X hx _ ho hc _ _ t r => XT.lushr X.here hx rfl (hbM hc hd) rfl (hz ▸ r)) k
theorem Wp.lcmp {x y : Int64} {z : Int32} (hz : Jvm.Free.XT.cmpL x y = z) (hd : Dc (mC M) pc .lcmp 1 pc') (k : Wp W K M Q H c n pc' L (.int z :: S)) : Wp W K M Q H c n pc L (.long y :: .long x :: S) := by
  obtain ⟨hd, rfl⟩ := hd
  exact Wp.go (fun T locs X hx _ ho hc _ _ t r => XT.lcmp X.here hx rfl (hbM hc hd) rfl (hz ▸ r)) k
theorem Wp.pop {x : Value} (hc1 : x.category = 1) (hd : Dc (mC M) pc .pop 1 pc') (k : Wp W K M Q H c n pc' L (S)) : Wp W K M Q H c n pc L (x :: S) := by
  obtain ⟨hd, rfl⟩ := hd
  exact Wp.go (fun T locs X hx _ ho hc _ _ t r => XT.pop X.here hx rfl (hbM hc hd) rfl hc1 r) k
theorem Wp.dup {x : Value} (hc1 : x.category = 1) (hd : Dc (mC M) pc .dup 1 pc') (k : Wp W K M Q H c n pc' L (x :: x :: S)) : Wp W K M Q H c n pc L (x :: S) := by
  obtain ⟨hd, rfl⟩ := hd
  exact Wp.go (fun T locs X hx _ ho hc _ _ t r => XS.dup X.here hx rfl (hbM hc hd) rfl hc1 r) k
theorem Wp.dupX1 {x y : Value} (hc1 : x.category = 1) (hc2 : y.category = 1) (hd : Dc (mC M) pc .dup_x1 1 pc') (k : Wp W K M Q H c n pc' L (x :: y :: x :: S)) : Wp W K M Q H c n pc L (x :: y :: S) := by
  obtain ⟨hd, rfl⟩ := hd
  exact Wp.go (fun T locs X hx _ ho hc _ _ t r => XT.dupX1 X.here hx rfl (hbM hc hd) rfl hc1 hc2 r) k
theorem Wp.dup2 {x y : Value} (hc1 : x.category = 1) (hc2 : y.category = 1) (hd : Dc (mC M) pc .dup2 1 pc') (k : Wp W K M Q H c n pc' L (x :: y :: x :: y :: S)) : Wp W K M Q H c n pc L (x :: y :: S) := by
  obtain ⟨hd, rfl⟩ := hd
  exact Wp.go (fun T locs X hx _ ho hc _ _ t r => XT.dup2 X.here hx rfl (hbM hc hd) rfl hc1 hc2 r) k
theorem Wp.dup2L {x : Int64} (hd : Dc (mC M) pc .dup2 1 pc') (k : Wp W K M Q H c n pc' L (.long x :: .long x :: S)) : Wp W K M Q H c n pc L (.long x :: S) := by
  obtain ⟨hd, rfl⟩ := hd
  exact Wp.go (fun T locs X hx _ ho hc _ _ t r => XT.dup2L X.here hx rfl (hbM hc hd) rfl r) k
theorem Wp.icT {cd : ClassFile.Cond} {x y : Int32} (hq : if_icmp.holds cd x y = true) {o : Int} (hd : Bj (mC M) pc (.if_icmp cd o) o pc' pt) (k : Wp W K M Q H c n pt L S) : Wp W K M Q H c n pc L (.int y :: .int x :: S) := by
  obtain ⟨hd, -, h1, h2⟩ := hd
  exact Wp.go (fun T locs X hx _ ho hc _ _ t r => XS.icmpYes X.here hx rfl rfl (hbM hc hd) rfl hq h1 h2 r) k
theorem Wp.icF {cd : ClassFile.Cond} {x y : Int32} (hq : if_icmp.holds cd x y = false) {o : Int} (hd : Bj (mC M) pc (.if_icmp cd o) o pc' pt) (k : Wp W K M Q H c n pc' L S) : Wp W K M Q H c n pc L (.int y :: .int x :: S) := by
  obtain ⟨hd, rfl, -, -⟩ := hd
  exact Wp.go (fun T locs X hx _ ho hc _ _ t r => XS.icmpNo X.here hx rfl (hbM hc hd) rfl hq r) k
theorem Wp.ifT {cd : ClassFile.Cond} {x : Int32} (hq : if_icmp.holds cd x 0 = true) {o : Int} (hd : Bj (mC M) pc (.ifCond cd o) o pc' pt) (k : Wp W K M Q H c n pt L S) : Wp W K M Q H c n pc L (.int x :: S) := by
  obtain ⟨hd, -, h1, h2⟩ := hd
  exact Wp.go (fun T locs X hx _ ho hc _ _ t r => XS.ifYes X.here hx rfl rfl (hbM hc hd) rfl ((if0 _ _).trans hq) h1 h2 r) k
theorem Wp.ifF {cd : ClassFile.Cond} {x : Int32} (hq : if_icmp.holds cd x 0 = false) {o : Int} (hd : Bj (mC M) pc (.ifCond cd o) o pc' pt) (k : Wp W K M Q H c n pc' L S) : Wp W K M Q H c n pc L (.int x :: S) := by
  obtain ⟨hd, rfl, -, -⟩ := hd
  exact Wp.go (fun T locs X hx _ ho hc _ _ t r => XS.ifNo X.here hx rfl (hbM hc hd) rfl ((if0 _ _).trans hq) r) k
theorem Wp.acT {cd : ACond} {x y : Value} (hx1 : x.isRef = true) (hy1 : y.isRef = true) (hq : Jvm.Free.XT.acmp cd x y = true) {o : Int} (hd : Bj (mC M) pc (.if_acmp cd o) o pc' pt) (k : Wp W K M Q H c n pt L S) : Wp W K M Q H c n pc L (y :: x :: S) := by
  obtain ⟨hd, -, h1, h2⟩ := hd
  exact Wp.go (fun T locs X hx _ ho hc _ _ t r => XT.acmpYes X.here hx rfl rfl (hbM hc hd) rfl hx1 hy1 hq h1 h2 r) k
theorem Wp.acF {cd : ACond} {x y : Value} (hx1 : x.isRef = true) (hy1 : y.isRef = true) (hq : Jvm.Free.XT.acmp cd x y = false) {o : Int} (hd : Bj (mC M) pc (.if_acmp cd o) o pc' pt) (k : Wp W K M Q H c n pc' L S) : Wp W K M Q H c n pc L (y :: x :: S) := by
  obtain ⟨hd, rfl, -, -⟩ := hd
  exact Wp.go (fun T locs X hx _ ho hc _ _ t r => XT.acmpNo X.here hx rfl (hbM hc hd) rfl hx1 hy1 hq r) k
theorem Wp.ifnullT  {o : Int} (hd : Bj (mC M) pc (.ifnull o) o pc' pt) (k : Wp W K M Q H c n pt L S) : Wp W K M Q H c n pc L (.null :: S) := by
  obtain ⟨hd, -, h1, h2⟩ := hd
  exact Wp.go (fun T locs X hx _ ho hc _ _ t r => XS.ifnullYes X.here hx rfl rfl (hbM hc hd) rfl h1 h2 r) k
theorem Wp.ifnullF {b : Addr} {o : Int} (hd : Bj (mC M) pc (.ifnull o) o pc' pt) (k : Wp W K M Q H c n pc' L S) : Wp W K M Q H c n pc L (.ref b :: S) := by
  obtain ⟨hd, rfl, -, -⟩ := hd
  exact Wp.go (fun T locs X hx _ ho hc _ _ t r => XS.ifnullNo X.here hx rfl (hbM hc hd) rfl r) k
theorem Wp.ifnonnullT {b : Addr} {o : Int} (hd : Bj (mC M) pc (.ifnonnull o) o pc' pt) (k : Wp W K M Q H c n pt L S) : Wp W K M Q H c n pc L (.ref b :: S) := by
  obtain ⟨hd, -, h1, h2⟩ := hd
  exact Wp.go (fun T locs X hx _ ho hc _ _ t r => XT.ifnonnullYes X.here hx rfl rfl (hbM hc hd) rfl h1 h2 r) k
theorem Wp.ifnonnullF  {o : Int} (hd : Bj (mC M) pc (.ifnonnull o) o pc' pt) (k : Wp W K M Q H c n pc' L S) : Wp W K M Q H c n pc L (.null :: S) := by
  obtain ⟨hd, rfl, -, -⟩ := hd
  exact Wp.go (fun T locs X hx _ ho hc _ _ t r => XT.ifnonnullNo X.here hx rfl (hbM hc hd) rfl r) k
theorem Wp.goto {o : Int} (hd : Bj (mC M) pc (.goto o) o pc' pt) (k : Wp W K M Q H c n pt L S) : Wp W K M Q H c n pc L S := by
  obtain ⟨hd, -, h1, h2⟩ := hd
  exact Wp.go (fun T locs X hx _ ho hc _ _ t r => XS.goto X.here hx rfl rfl (hbM hc hd) h1 h2 r) k
-- heap reads
theorem Wp.getF {y0 : MethodName} (hM : mN M = y0) {R0 O nm d host : String} {idx : Nat} (w : Wok W (.fieldLink y0.cls idx R0 nm d) ∨ Wok W (.fieldLinkNest y0.cls idx R0 nm d host)) (via : Via (wZ W) R0 O nm d) {a : Addr} {rw : Bool} {C : String} {fs : List Fd} {v : Value} (i j : Nat) (hi : H[i]? = some (a, rw, .inl (C, fs))) (hj : fs[j]? = some (O, nm, d, v))
    (hd : Dc (mC M) pc (.getfield idx) 3 pc') (k : Wp W K M Q H c n pc' L (v :: S)) : Wp W K M Q H c n pc L (.ref a :: S) := by
  subst hM
  obtain ⟨hd, rfl⟩ := hd
  exact Wp.to (fun T locs X hx hZ ho hc _ _ P N => by
    have F : ObOk (wZ W) T.heap a C fs := P.at hi
    obtain ⟨T', X', e', st⟩ := Jvm.RoadKit.getF X hx hZ ho w via rfl (F.2.1 _ (List.mem_of_getElem? hj)) (g := mkF (kM K) pc L.toArray (.ref a :: S)) rfl rfl (hbM hc hd)
    exact ⟨T', locs, X', N, by rw [e']; exact P, st⟩) k
theorem Wp.putF {y0 : MethodName} (hM : mN M = y0) {R0 O nm d host : String} {idx kk : Nat} {ty : FieldType} (w : Wok W (.fieldLink y0.cls idx R0 nm d) ∨ Wok W (.fieldLinkNest y0.cls idx R0 nm d host)) (via : Via (wZ W) R0 O nm d) {a : Addr} {C : String} {fs : List Fd} {v old : Value} (i j : Nat) (hi : H[i]? = some (a, true, .inl (C, fs))) (hj : fs[j]? = some (O, nm, d, old))
    (la : Wok W (.lays C O nm d) ∨ (Wok W (.laysFinal C O nm d) ∧ y0.cls = O ∧ y0.name = "<init>")) (wi : Wok W (.instantiable C kk)) (hty : parseFieldDescriptor d = some ty) (hn : narrow ty v = v) (hf : fits ty v = true)
    (hd : Dc (mC M) pc (.putfield idx) 3 pc') (hH : H.set i (a, true, .inl (C, fs.set j (O, nm, d, v))) = H') (k : Wp W K M Q H' c n pc' L S) : Wp W K M Q H c n pc L (v :: .ref a :: S) := by
  subst hM
  obtain ⟨hd, rfl⟩ := hd
  subst hH
  exact Wp.to (fun T locs X hx hZ ho hc _ hnm P N => by
    have F : ObOk (wZ W) T.heap a C fs := P.at hi
    obtain ⟨T', h', X', e', E, st⟩ := Jvm.RoadKit.putF X hx hZ ho w via rfl (F.2.1 _ (List.mem_of_getElem? hj)) F.1 (la.imp id fun u => ⟨u.1, u.2.1, hnm.trans u.2.2⟩) wi hty hn hf (g := mkF (kM K) pc L.toArray (v :: .ref a :: S)) rfl rfl (hbM hc hd)
    exact ⟨T', _, X', Fr.snoc X' N ((P.2.1 _ (List.mem_of_getElem? hi)).1 rfl), by rw [e']; exact P.put hi E (F.put hj E), st⟩) k
theorem Wp.putFN {y0 : MethodName} (hM : mN M = y0) {R0 O nm d : String} {idx kk : Nat} {ty : FieldType} (w : Wok W (.fieldLink y0.cls idx R0 nm d)) (via : Via (wZ W) R0 O nm d) {a : Addr} {C : String} {fs : List Fd} {v v' old : Value} (i j : Nat) (hi : H[i]? = some (a, true, .inl (C, fs))) (hj : fs[j]? = some (O, nm, d, old))
    (la : Wok W (.lays C O nm d) ∨ (Wok W (.laysFinal C O nm d) ∧ y0.cls = O ∧ y0.name = "<init>")) (wi : Wok W (.instantiable C kk)) (hty : parseFieldDescriptor d = some ty) (hn : narrow ty v = v') (hf : fits ty v' = true)
    (hd : Dc (mC M) pc (.putfield idx) 3 pc') (hH : H.set i (a, true, .inl (C, fs.set j (O, nm, d, v'))) = H') (k : Wp W K M Q H' c n pc' L S) : Wp W K M Q H c n pc L (v :: .ref a :: S) := by
  subst hM
  obtain ⟨hd, rfl⟩ := hd
  subst hH
  exact Wp.to (fun T locs X hx hZ ho hc _ hnm P N => by
    have F : ObOk (wZ W) T.heap a C fs := P.at hi
    obtain ⟨T', h', X', e', E, st⟩ := Jvm.RoadKit.putFN X hx hZ ho w via rfl (F.2.1 _ (List.mem_of_getElem? hj)) F.1 (la.imp id fun u => ⟨u.1, u.2.1, hnm.trans u.2.2⟩) wi hty hn hf (g := mkF (kM K) pc L.toArray (v :: .ref a :: S)) rfl rfl (hbM hc hd)
    exact ⟨T', _, X', Fr.snoc X' N ((P.2.1 _ (List.mem_of_getElem? hi)).1 rfl), by rw [e']; exact P.put hi E (F.put hj E), st⟩) k
theorem Wp.getS {y0 : MethodName} (hM : mN M = y0) {R0 O nm d host : String} {idx : Nat} (w : Wok W (.fieldLink y0.cls idx R0 nm d) ∨ Wok W (.fieldLinkNest y0.cls idx R0 nm d host)) (via : Via (wZ W) R0 O nm d) {v : Value} (F : Sta (wZ W) (wZ W).heap O nm d v) (hd : Dc (mC M) pc (.getstatic idx) 3 pc') (k : Wp W K M Q H c n pc' L (v :: S)) : Wp W K M Q H c n pc L S := by
  subst hM
  obtain ⟨hd, rfl⟩ := hd
  exact Wp.to (fun T locs X hx hZ ho hc _ _ P N => by
    obtain ⟨T', X', e', st⟩ := Jvm.RoadKit.getS2 X hx hZ ho w via rfl (F.ext P.1.2) (g := mkF (kM K) pc L.toArray S) rfl (hbM hc hd)
    exact ⟨T', locs, X', N, by rw [e']; exact P, st⟩) k
-- new objects and arrays
def NewFs (W : Wd) (C : String) (fs : List Fd) : Prop := (∀ f ∈ fs, ∃ ty, Laid (wZ W) (wA W) C f.1 f.2.1 f.2.2.1 ∧ parseFieldDescriptor f.2.2.1 = some ty ∧ f.2.2.2 = defaultValue ty) ∧ (fs.map fun f => f.2.1).Nodup
theorem NewFs.nil {C : String} : NewFs W C [] := ⟨fun _ q => (nomatch q), List.nodup_nil⟩
theorem NewFs.cons {C O nm d : String} {ty : FieldType} {v : Value} {fs : List Fd} (la : Laid (wZ W) (wA W) C O nm d) (ht : parseFieldDescriptor d = some ty) (hv : v = defaultValue ty) (hn : nm ∉ fs.map fun f => f.2.1) (r : NewFs W C fs) : NewFs W C ((O, nm, d, v) :: fs) :=
  ⟨fun f hf => (List.mem_cons.mp hf).elim (fun e => e ▸ ⟨ty, la, ht, hv⟩) (r.1 f), List.nodup_cons.mpr ⟨hn, r.2⟩⟩
theorem NewFs.slots {C : String} : ∀ {fs : List Fd}, NewFs W C fs → (fs.map (fSl (wZ W))).Nodup
  | [], _ => List.nodup_nil
  | f :: fs, r => by
    have hn := List.nodup_cons.mp (show (f.2.1 :: fs.map fun f => f.2.1).Nodup from r.2)
    refine List.nodup_cons.mpr ⟨fun q => ?_, NewFs.slots ⟨fun g hg => r.1 g (List.mem_cons_of_mem _ hg), hn.2⟩⟩
    obtain ⟨g, hg, e⟩ := List.mem_map.mp q
    obtain ⟨t1, l1, p1, -⟩ := r.1 f List.mem_cons_self
    obtain ⟨t2, l2, p2, -⟩ := r.1 g (List.mem_cons_of_mem _ hg)
    have ne : f.2.1 ≠ g.2.1 := fun e => hn.1 (e ▸ List.mem_map.mpr ⟨g, hg, rfl⟩)
    exact Jvm.RoadKit.slot_ne l1 l2 ne p1 p2 e.symm
theorem Wp.newO {y0 : MethodName} (hM : mN M = y0) {C : String} {idx kk : Nat} {fs : List Fd} (w : Wok W (.classLink y0.cls idx C)) (wi : Wok W (.instantiable C kk)) (wz : Wok W (.initialized C)) (hfs : NewFs W C fs) (hc1 : c + 1 ≤ (mR M).cells) (hl1 : n + kk ≤ (mR M).slots)
    (hd : Dc (mC M) pc (.new idx) 3 pc') (k : ∀ a : Addr, Wp W K M Q ((a, true, .inl (C, fs)) :: H) (c + 1) (n + kk) pc' L (.ref a :: S)) : Wp W K M Q H c n pc L S := by
  subst hM
  obtain ⟨hd, rfl⟩ := hd
  exact fun T X => by
    obtain ⟨hx, hZ, ho, hb, hm, hr, hn, hl, locs, X, N, P⟩ := X
    obtain ⟨T', h', X', e', E, A, D, -, st⟩ := Jvm.RoadKit.newO X hx hZ ho w wi wz rfl (g := mkF (kM K) pc L.toArray S) rfl (hbM hb hd) hc1 hl1
    have F : DsOk (wZ W) h' T.heap.size (.inl (C, fs)) := ⟨A, fun f hf => by
      obtain ⟨ty, l1, l2, l3⟩ := hfs.1 f hf
      show Fld (wZ W) h' T.heap.size f.1 f.2.1 f.2.2.1 f.2.2.2
      rw [l3]; exact D l1 l2, hfs.slots⟩
    obtain ⟨U, s1, s2⟩ := k T.heap.size T' ⟨hx, hZ, ho, hb, hm, hr, hn, hl, locs, X', N, by rw [e']; exact P.new E F⟩
    exact ⟨U, st _ s1, s2⟩
theorem def_fits (ty : FieldType) : fits ty (defaultValue ty) = true := by cases ty <;> first | decide | rfl
theorem arNew {Z : State} {h : Heap} {a : Addr} {cA : ClassId} {ty : FieldType} {z : Int32} {kk : Nat} (A : Arr Z h a (newA cA ty z) ty) (hz : z.toNatClampNeg = kk) (ex ov : Bool) (h1 : ex = true → Exa Z h a ("[" ++ ty.toString)) (h2 : ov = true → ∀ C, ty = .object C → Ovr Z cA C) : ArOk Z h a ty ex ov (List.replicate kk (defaultValue ty)) := by
  subst hz
  refine ⟨_, A, by simp [newA], ?_, fun v hv => by rw [List.eq_of_mem_replicate hv]; exact def_fits ty, h1, h2⟩
  rw [List.length_replicate]
  have := Int32.toNatClampNeg_lt z
  omega
theorem Wp.newP {aty : ArrayType} {z : Int32} {kk : Nat} {vs : List Value} (hd : Dc (mC M) pc (.newarray aty) 2 pc') (w : Wok W (.arrayClass (newarray.typeOf aty))) (hz : z.toNatClampNeg = kk) (h0 : ¬ z < 0) (hb8 : kk * 8 ≤ 536870912) (hc1 : c + 1 ≤ (mR M).cells) (hl1 : n + kk ≤ (mR M).slots) (hv : List.replicate kk (defaultValue (newarray.typeOf aty)) = vs)
    (k : ∀ a : Addr, Wp W K M Q ((a, true, .inr (newarray.typeOf aty, true, false, vs)) :: H) (c + 1) (n + kk) pc' L (.ref a :: S)) : Wp W K M Q H c n pc L (.int z :: S) := by
  obtain ⟨hd, rfl⟩ := hd
  subst hv
  exact fun T X => by
    obtain ⟨hx, hZ, ho, hb, hm, hr, hn, hl, locs, X, N, P⟩ := X
    obtain ⟨T', h', cA, X', e', E, A, B, st⟩ := Jvm.RoadKit.newPE X hx hZ w rfl (g := mkF (kM K) pc L.toArray (.int z :: S)) rfl (hbM hb hd) rfl h0 (Nat.le_of_eq hz) hb8 hc1 hl1 (ad := _) rfl
    obtain ⟨U, s1, s2⟩ := k T.heap.size T' ⟨hx, hZ, ho, hb, hm, hr, hn, hl, locs, X', N, by rw [e']; exact P.new E (arNew A hz true false (fun _ => B) (fun q => nomatch q))⟩
    exact ⟨U, st _ s1, s2⟩
theorem Wp.newR {y0 : MethodName} (hM : mN M = y0) {C : String} {idx : Nat} {z : Int32} {kk : Nat} {vs : List Value} (w : Wok W (.classLink y0.cls idx C)) (w2 : Wok W (.arrayOver (.object C))) (hz : z.toNatClampNeg = kk) (h0 : ¬ z < 0) (hb8 : kk * 8 ≤ 536870912) (hc1 : c + 1 ≤ (mR M).cells) (hl1 : n + kk ≤ (mR M).slots) (hv : List.replicate kk Value.null = vs)
    (hd : Dc (mC M) pc (.anewarray idx) 3 pc') (k : ∀ a : Addr, Wp W K M Q ((a, true, .inr (.object C, true, true, vs)) :: H) (c + 1) (n + kk) pc' L (.ref a :: S)) : Wp W K M Q H c n pc L (.int z :: S) := by
  subst hM
  obtain ⟨hd, rfl⟩ := hd
  subst hv
  exact fun T X => by
    obtain ⟨hx, hZ, ho, hb, hm, hr, hn, hl, locs, X, N, P⟩ := X
    obtain ⟨T', h', cA, X', e', E, A, B, O, st⟩ := Jvm.RoadKit.newRE X hx hZ ho w w2 rfl (g := mkF (kM K) pc L.toArray (.int z :: S)) rfl (hbM hb hd) rfl h0 (Nat.le_of_eq hz) hb8 hc1 hl1 (ad := _) rfl
    obtain ⟨U, s1, s2⟩ := k T.heap.size T' ⟨hx, hZ, ho, hb, hm, hr, hn, hl, locs, X', N, by rw [e']; exact P.new E (arNew A hz true true (fun _ => B) (fun _ C' e => by cases e; exact O))⟩
    exact ⟨U, st _ s1, s2⟩
-- arrays read and written
theorem ArOk.inb {Z : State} {c : Cell} {vs : List Value} {j : Int32} {k : Nat} {v : Value} (e : c.slots.toList = vs) (hj : ¬ j < 0) (hk : j.toNatClampNeg = k) (hv : vs[k]? = some v) : ¬ (j < 0 ∨ c.slots.size ≤ j.toNatClampNeg) ∧ c.slots[j.toNatClampNeg]? = some v := by
  subst hk e
  rw [Array.getElem?_toList] at hv
  refine ⟨fun q => q.elim hj fun q => ?_, hv⟩
  rw [Array.getElem?_eq_none q] at hv
  cases hv
theorem Wp.alen {a : Addr} {rw ex ov : Bool} {ty : FieldType} {vs : List Value} {z : Int32} (i : Nat) (hi : H[i]? = some (a, rw, .inr (ty, ex, ov, vs))) (hz : vs.length.toInt32 = z) (hd : Dc (mC M) pc .arraylength 1 pc') (k : Wp W K M Q H c n pc' L (.int z :: S)) : Wp W K M Q H c n pc L (.ref a :: S) := by
  obtain ⟨hd, rfl⟩ := hd
  exact Wp.go (fun T locs X hx hZ ho hc _ P t r => by
    obtain ⟨cl, h1, h2, -⟩ : ArOk (wZ W) T.heap a ty ex ov vs := P.at hi
    refine X.arraylength hx h1.1 (State.isArrayOf_alike hZ.alike h1.2.1) (g := mkF (kM K) pc L.toArray (.ref a :: S)) rfl rfl (hbM hc hd) _ ?_
    have e : cl.slots.size.toInt32 = z := by rw [← hz, ← h2]; rfl
    rw [e]; exact r) k
theorem Wp.iaload {a : Addr} {rw ex ov : Bool} {vs : List Value} {j : Int32} {v : Value} (i kk : Nat) (hi : H[i]? = some (a, rw, .inr (.int, ex, ov, vs))) (hj : ¬ j < 0) (hk : j.toNatClampNeg = kk) (hv : vs[kk]? = some v) (hd : Dc (mC M) pc .iaload 1 pc') (k : Wp W K M Q H c n pc' L (v :: S)) : Wp W K M Q H c n pc L (.int j :: .ref a :: S) := by
  obtain ⟨hd, rfl⟩ := hd
  exact Wp.go (fun T locs X hx hZ ho hc _ P t r => by
    obtain ⟨cl, h1, h2, -⟩ : ArOk (wZ W) T.heap a .int ex ov vs := P.at hi
    obtain ⟨g1, g2⟩ := ArOk.inb (Z := wZ W) h2 hj hk hv
    exact X.iaload hx h1.1 (State.isArrayOf_alike hZ.alike h1.2.1) h1.2.2 g1 g2 (g := mkF (kM K) pc L.toArray (.int j :: .ref a :: S)) rfl rfl (hbM hc hd) _ r) k
theorem Wp.laload {a : Addr} {rw ex ov : Bool} {vs : List Value} {j : Int32} {v : Value} (i kk : Nat) (hi : H[i]? = some (a, rw, .inr (.long, ex, ov, vs))) (hj : ¬ j < 0) (hk : j.toNatClampNeg = kk) (hv : vs[kk]? = some v) (hd : Dc (mC M) pc .laload 1 pc') (k : Wp W K M Q H c n pc' L (v :: S)) : Wp W K M Q H c n pc L (.int j :: .ref a :: S) := by
  obtain ⟨hd, rfl⟩ := hd
  exact Wp.go (fun T locs X hx hZ ho hc _ P t r => by
    obtain ⟨cl, h1, h2, -⟩ : ArOk (wZ W) T.heap a .long ex ov vs := P.at hi
    obtain ⟨g1, g2⟩ := ArOk.inb (Z := wZ W) h2 hj hk hv
    exact X.laload hx h1.1 (State.isArrayOf_alike hZ.alike h1.2.1) h1.2.2 g1 g2 (g := mkF (kM K) pc L.toArray (.int j :: .ref a :: S)) rfl rfl (hbM hc hd) _ r) k
theorem Wp.caload {a : Addr} {rw ex ov : Bool} {vs : List Value} {j : Int32} {v : Value} (i kk : Nat) (hi : H[i]? = some (a, rw, .inr (.char, ex, ov, vs))) (hj : ¬ j < 0) (hk : j.toNatClampNeg = kk) (hv : vs[kk]? = some v) (hd : Dc (mC M) pc .caload 1 pc') (k : Wp W K M Q H c n pc' L (v :: S)) : Wp W K M Q H c n pc L (.int j :: .ref a :: S) := by
  obtain ⟨hd, rfl⟩ := hd
  exact Wp.go (fun T locs X hx hZ ho hc _ P t r => by
    obtain ⟨cl, h1, h2, -⟩ : ArOk (wZ W) T.heap a .char ex ov vs := P.at hi
    obtain ⟨g1, g2⟩ := ArOk.inb (Z := wZ W) h2 hj hk hv
    exact X.caload hx h1.1 (State.isArrayOf_alike hZ.alike h1.2.1) h1.2.2 g1 g2 (g := mkF (kM K) pc L.toArray (.int j :: .ref a :: S)) rfl rfl (hbM hc hd) _ r) k
theorem Wp.saload {a : Addr} {rw ex ov : Bool} {vs : List Value} {j : Int32} {v : Value} (i kk : Nat) (hi : H[i]? = some (a, rw, .inr (.short, ex, ov, vs))) (hj : ¬ j < 0) (hk : j.toNatClampNeg = kk) (hv : vs[kk]? = some v) (hd : Dc (mC M) pc .saload 1 pc') (k : Wp W K M Q H c n pc' L (v :: S)) : Wp W K M Q H c n pc L (.int j :: .ref a :: S) := by
  obtain ⟨hd, rfl⟩ := hd
  exact Wp.go (fun T locs X hx hZ ho hc _ P t r => by
    obtain ⟨cl, h1, h2, -⟩ : ArOk (wZ W) T.heap a .short ex ov vs := P.at hi
    obtain ⟨g1, g2⟩ := ArOk.inb (Z := wZ W) h2 hj hk hv
    exact X.saload hx h1.1 (State.isArrayOf_alike hZ.alike h1.2.1) h1.2.2 g1 g2 (g := mkF (kM K) pc L.toArray (.int j :: .ref a :: S)) rfl rfl (hbM hc hd) _ r) k
theorem Wp.baload {a : Addr} {rw ex ov : Bool} {vs : List Value} {j : Int32} {v : Value} (i kk : Nat) (hi : H[i]? = some (a, rw, .inr (.byte, ex, ov, vs))) (hj : ¬ j < 0) (hk : j.toNatClampNeg = kk) (hv : vs[kk]? = some v) (hd : Dc (mC M) pc .baload 1 pc') (k : Wp W K M Q H c n pc' L (v :: S)) : Wp W K M Q H c n pc L (.int j :: .ref a :: S) := by
  obtain ⟨hd, rfl⟩ := hd
  exact Wp.go (fun T locs X hx hZ ho hc _ P t r => by
    obtain ⟨cl, h1, h2, -⟩ : ArOk (wZ W) T.heap a .byte ex ov vs := P.at hi
    obtain ⟨g1, g2⟩ := ArOk.inb (Z := wZ W) h2 hj hk hv
    exact X.baloadBytes hx h1.1 (State.isArrayOf_alike hZ.alike h1.2.1) h1.2.2 g1 g2 (g := mkF (kM K) pc L.toArray (.int j :: .ref a :: S)) rfl rfl (hbM hc hd) _ r) k
theorem Wp.baloadZ {a : Addr} {rw ex ov : Bool} {vs : List Value} {j : Int32} {v : Value} (i kk : Nat) (hi : H[i]? = some (a, rw, .inr (.boolean, ex, ov, vs))) (hj : ¬ j < 0) (hk : j.toNatClampNeg = kk) (hv : vs[kk]? = some v) (hd : Dc (mC M) pc .baload 1 pc') (k : Wp W K M Q H c n pc' L (v :: S)) : Wp W K M Q H c n pc L (.int j :: .ref a :: S) := by
  obtain ⟨hd, rfl⟩ := hd
  exact Wp.go (fun T locs X hx hZ ho hc _ P t r => by
    obtain ⟨cl, h1, h2, -⟩ : ArOk (wZ W) T.heap a .boolean ex ov vs := P.at hi
    obtain ⟨g1, g2⟩ := ArOk.inb (Z := wZ W) h2 hj hk hv
    exact X.baloadBooleans hx h1.1 (State.isArrayOf_alike hZ.alike h1.2.1) h1.2.2 g1 g2 (g := mkF (kM K) pc L.toArray (.int j :: .ref a :: S)) rfl rfl (hbM hc hd) _ r) k
theorem Wp.aaload {a : Addr} {rw ex ov : Bool} {ty : FieldType} {vs : List Value} {j : Int32} {v : Value} (i kk : Nat) (hi : H[i]? = some (a, rw, .inr (ty, ex, ov, vs))) (hty : ty.isReference = true) (hj : ¬ j < 0) (hk : j.toNatClampNeg = kk) (hv : vs[kk]? = some v) (hd : Dc (mC M) pc .aaload 1 pc') (k : Wp W K M Q H c n pc' L (v :: S)) : Wp W K M Q H c n pc L (.int j :: .ref a :: S) := by
  obtain ⟨hd, rfl⟩ := hd
  exact Wp.go (fun T locs X hx hZ ho hc _ P t r => by
    obtain ⟨cl, h1, h2, -⟩ : ArOk (wZ W) T.heap a ty ex ov vs := P.at hi
    obtain ⟨g1, g2⟩ := ArOk.inb (Z := wZ W) h2 hj hk hv
    exact X.aaload hx h1.1 (State.isArrayOf_alike hZ.alike h1.2.1) hty h1.2.2 g1 g2 (g := mkF (kM K) pc L.toArray (.int j :: .ref a :: S)) rfl rfl (hbM hc hd) _ r) k
theorem Wp.castore {a : Addr} {ex ov : Bool} {vs : List Value} {j : Int32} {x : Int32} {z : Int32} (i kk : Nat) (hi : H[i]? = some (a, true, .inr (.char, ex, ov, vs))) (hj : ¬ j < 0) (hk : j.toNatClampNeg = kk) (hl : kk < vs.length) (hz : nar .char x = z) (hd : Dc (mC M) pc .castore 1 pc') (hH : H.set i (a, true, .inr (.char, ex, ov, vs.set kk (.int z))) = H') (k : Wp W K M Q H' c n pc' L S) : Wp W K M Q H c n pc L (.int x :: .int j :: .ref a :: S) := by
  obtain ⟨hd, rfl⟩ := hd
  subst hH hz
  exact Wp.to (fun T locs X hx hZ ho hc _ hnm P N => by
    have F : ArOk (wZ W) T.heap a .char ex ov vs := P.at hi
    obtain ⟨cl, h1, h2, -⟩ := id F
    obtain ⟨g1, -⟩ := ArOk.inb (Z := wZ W) h2 hj hk (List.getElem?_eq_getElem hl)
    obtain ⟨T', h', X', e', E, st⟩ := Jvm.RoadKit.stC X hx hZ rfl h1 g1 (g := mkF (kM K) pc L.toArray (.int x :: .int j :: .ref a :: S)) rfl rfl (hbM hc hd)
    exact ⟨T', _, X', Fr.snoc X' N ((P.2.1 _ (List.mem_of_getElem? hi)).1 rfl), by rw [e']; exact P.put hi E (F.put hk (fits_nar_char x) E), st⟩) k
theorem Wp.sastore {a : Addr} {ex ov : Bool} {vs : List Value} {j : Int32} {x : Int32} {z : Int32} (i kk : Nat) (hi : H[i]? = some (a, true, .inr (.short, ex, ov, vs))) (hj : ¬ j < 0) (hk : j.toNatClampNeg = kk) (hl : kk < vs.length) (hz : nar .short x = z) (hd : Dc (mC M) pc .sastore 1 pc') (hH : H.set i (a, true, .inr (.short, ex, ov, vs.set kk (.int z))) = H') (k : Wp W K M Q H' c n pc' L S) : Wp W K M Q H c n pc L (.int x :: .int j :: .ref a :: S) := by
  obtain ⟨hd, rfl⟩ := hd
  subst hH hz
  exact Wp.to (fun T locs X hx hZ ho hc _ hnm P N => by
    have F : ArOk (wZ W) T.heap a .short ex ov vs := P.at hi
    obtain ⟨cl, h1, h2, -⟩ := id F
    obtain ⟨g1, -⟩ := ArOk.inb (Z := wZ W) h2 hj hk (List.getElem?_eq_getElem hl)
    obtain ⟨T', h', X', e', E, st⟩ := Jvm.RoadKit.stS X hx hZ rfl h1 g1 (g := mkF (kM K) pc L.toArray (.int x :: .int j :: .ref a :: S)) rfl rfl (hbM hc hd)
    exact ⟨T', _, X', Fr.snoc X' N ((P.2.1 _ (List.mem_of_getElem? hi)).1 rfl), by rw [e']; exact P.put hi E (F.put hk (fits_nar_short x) E), st⟩) k
theorem Wp.bastore {a : Addr} {ex ov : Bool} {vs : List Value} {j : Int32} {x : Int32} {z : Int32} (i kk : Nat) (hi : H[i]? = some (a, true, .inr (.byte, ex, ov, vs))) (hj : ¬ j < 0) (hk : j.toNatClampNeg = kk) (hl : kk < vs.length) (hz : nar .byte x = z) (hd : Dc (mC M) pc .bastore 1 pc') (hH : H.set i (a, true, .inr (.byte, ex, ov, vs.set kk (.int z))) = H') (k : Wp W K M Q H' c n pc' L S) : Wp W K M Q H c n pc L (.int x :: .int j :: .ref a :: S) := by
  obtain ⟨hd, rfl⟩ := hd
  subst hH hz
  exact Wp.to (fun T locs X hx hZ ho hc _ hnm P N => by
    have F : ArOk (wZ W) T.heap a .byte ex ov vs := P.at hi
    obtain ⟨cl, h1, h2, -⟩ := id F
    obtain ⟨g1, -⟩ := ArOk.inb (Z := wZ W) h2 hj hk (List.getElem?_eq_getElem hl)
    obtain ⟨T', h', X', e', E, st⟩ := Jvm.RoadKit.stB X hx hZ rfl h1 g1 (g := mkF (kM K) pc L.toArray (.int x :: .int j :: .ref a :: S)) rfl rfl (hbM hc hd)
    exact ⟨T', _, X', Fr.snoc X' N ((P.2.1 _ (List.mem_of_getElem? hi)).1 rfl), by rw [e']; exact P.put hi E (F.put hk (fits_nar_byte x) E), st⟩) k
theorem Wp.bastoreZ {a : Addr} {ex ov : Bool} {vs : List Value} {j : Int32} {x : Int32} {z : Int32} (i kk : Nat) (hi : H[i]? = some (a, true, .inr (.boolean, ex, ov, vs))) (hj : ¬ j < 0) (hk : j.toNatClampNeg = kk) (hl : kk < vs.length) (hz : nar .boolean x = z) (hd : Dc (mC M) pc .bastore 1 pc') (hH : H.set i (a, true, .inr (.boolean, ex, ov, vs.set kk (.int z))) = H') (k : Wp W K M Q H' c n pc' L S) : Wp W K M Q H c n pc L (.int x :: .int j :: .ref a :: S) := by
  obtain ⟨hd, rfl⟩ := hd
  subst hH hz
  exact Wp.to (fun T locs X hx hZ ho hc _ hnm P N => by
    have F : ArOk (wZ W) T.heap a .boolean ex ov vs := P.at hi
    obtain ⟨cl, h1, h2, -⟩ := id F
    obtain ⟨g1, -⟩ := ArOk.inb (Z := wZ W) h2 hj hk (List.getElem?_eq_getElem hl)
    obtain ⟨T', h', X', e', E, st⟩ := Jvm.RoadKit.stZ X hx hZ rfl h1 g1 (g := mkF (kM K) pc L.toArray (.int x :: .int j :: .ref a :: S)) rfl rfl (hbM hc hd)
    exact ⟨T', _, X', Fr.snoc X' N ((P.2.1 _ (List.mem_of_getElem? hi)).1 rfl), by rw [e']; exact P.put hi E (F.put hk (fits_nar_bool x) E), st⟩) k
theorem Wp.iastore {a : Addr} {ex ov : Bool} {vs : List Value} {j : Int32} {x : Int32} (i kk : Nat) (hi : H[i]? = some (a, true, .inr (.int, ex, ov, vs))) (hj : ¬ j < 0) (hk : j.toNatClampNeg = kk) (hl : kk < vs.length) (hd : Dc (mC M) pc .iastore 1 pc') (hH : H.set i (a, true, .inr (.int, ex, ov, vs.set kk (.int x))) = H') (k : Wp W K M Q H' c n pc' L S) : Wp W K M Q H c n pc L (.int x :: .int j :: .ref a :: S) := by
  obtain ⟨hd, rfl⟩ := hd
  subst hH
  exact Wp.to (fun T locs X hx hZ ho hc _ hnm P N => by
    have F : ArOk (wZ W) T.heap a .int ex ov vs := P.at hi
    obtain ⟨cl, h1, h2, -⟩ := id F
    obtain ⟨g1, -⟩ := ArOk.inb (Z := wZ W) h2 hj hk (List.getElem?_eq_getElem hl)
    obtain ⟨T', h', X', e', E, st⟩ := Jvm.RoadKit.stI X hx hZ rfl h1 g1 (g := mkF (kM K) pc L.toArray (.int x :: .int j :: .ref a :: S)) rfl rfl (hbM hc hd)
    exact ⟨T', _, X', Fr.snoc X' N ((P.2.1 _ (List.mem_of_getElem? hi)).1 rfl), by rw [e']; exact P.put hi E (F.put hk (rfl) E), st⟩) k
theorem Wp.lastore {a : Addr} {ex ov : Bool} {vs : List Value} {j : Int32} {x : Int64} (i kk : Nat) (hi : H[i]? = some (a, true, .inr (.long, ex, ov, vs))) (hj : ¬ j < 0) (hk : j.toNatClampNeg = kk) (hl : kk < vs.length) (hd : Dc (mC M) pc .lastore 1 pc') (hH : H.set i (a, true, .inr (.long, ex, ov, vs.set kk (.long x))) = H') (k : Wp W K M Q H' c n pc' L S) : Wp W K M Q H c n pc L (.long x :: .int j :: .ref a :: S) := by
  obtain ⟨hd, rfl⟩ := hd
  subst hH
  exact Wp.to (fun T locs X hx hZ ho hc _ hnm P N => by
    have F : ArOk (wZ W) T.heap a .long ex ov vs := P.at hi
    obtain ⟨cl, h1, h2, -⟩ := id F
    obtain ⟨g1, -⟩ := ArOk.inb (Z := wZ W) h2 hj hk (List.getElem?_eq_getElem hl)
    obtain ⟨T', h', X', e', E, st⟩ := Jvm.RoadKit.stJ X hx hZ rfl h1 g1 (g := mkF (kM K) pc L.toArray (.long x :: .int j :: .ref a :: S)) rfl rfl (hbM hc hd)
    exact ⟨T', _, X', Fr.snoc X' N ((P.2.1 _ (List.mem_of_getElem? hi)).1 rfl), by rw [e']; exact P.put hi E (F.put hk (rfl) E), st⟩) k
/-- a reference stored into an array over the class C: null, or an object of exactly the class D that is a C -/
theorem Wp.aastore {a : Addr} {ex : Bool} {C : String} {vs : List Value} {j : Int32} {v : Value} (i kk : Nat) (hi : H[i]? = some (a, true, .inr (.object C, ex, true, vs))) (hj : ¬ j < 0) (hk : j.toNatClampNeg = kk) (hl : kk < vs.length) (hs : v = .null ∨ ∃ y, v = .ref y ∧ ∀ h, Hp W h H → Ins (wZ W) h y C true) (hr : v.isRef = true)
    (hd : Dc (mC M) pc .aastore 1 pc') (hH : H.set i (a, true, .inr (.object C, ex, true, vs.set kk v)) = H') (k : Wp W K M Q H' c n pc' L S) : Wp W K M Q H c n pc L (v :: .int j :: .ref a :: S) := by
  obtain ⟨hd, rfl⟩ := hd
  subst hH
  exact Wp.to (fun T locs X hx hZ ho hc _ hnm P N => by
    have F : ArOk (wZ W) T.heap a (.object C) ex true vs := P.at hi
    obtain ⟨cl, h1, h2, h3, h4, h5, h6⟩ := id F
    obtain ⟨g1, -⟩ := ArOk.inb (Z := wZ W) h2 hj hk (List.getElem?_eq_getElem hl)
    have B : Sto (wZ W) T.heap a v := hs.elim Or.inl fun ⟨y, e, I⟩ => e ▸ Sto.of h1 (h6 rfl C rfl) (I _ P)
    obtain ⟨T', h', X', e', E, st⟩ := Jvm.RoadKit.stR X hx hZ rfl h1 g1 rfl B (g := mkF (kM K) pc L.toArray (v :: .int j :: .ref a :: S)) rfl rfl (hbM hc hd)
    have hf : fits (.object C) v = true := by rcases ref_cases hr with rfl | ⟨_, rfl⟩ <;> rfl
    exact ⟨T', _, X', Fr.snoc X' N ((P.2.1 _ (List.mem_of_getElem? hi)).1 rfl), by rw [e']; exact P.put hi E (F.put hk hf E), st⟩) k
-- the ends
theorem Wp.fin {v : Option Value} (q : Q v H) (hc1 : c ≤ (mR M).cells) (hn1 : n ≤ (mR M).slots) (hv : mT M = none → v = none)
    (st : ∀ T locs, Stand (kP K) (wL W) (kE K) (mR M) (kS K) (kM K) (kA K) (kB K) (kH K) (kC K) T locs c n → (kP K).tables.exec = Jvm.exec → (kC K).code = mC M → (kH K).sig.returnType = mT M → ∀ fs, (∀ (f : JFrame) (acts : List Action), f.method = kM K → f.locked = none → f.entered = [] → (doReturn (kE K) (T.setTop f) acts v).1 = T.setFrames fs) → Steps (kP K).tables (kE K) (kB K) (T.setTop (mkF (kM K) pc L.toArray S)) (T.setFrames fs)) : Wp W K M Q H c n pc L S := fun T X => by
  obtain ⟨hx, hZ, ho, hb, hm, hr, hn, hl, locs, X, N, P⟩ := X
  obtain ⟨fs, h1, h2, h3, h4, h5⟩ := X.leave (v := v) (fun u => hv (hr.symm.trans u)) hl
  exact ⟨_, st T locs X hx hb hr fs h1, _, h2, h3, v, locs, rfl, ⟨N, H, P, q⟩, ⟨v, rfl⟩, h4, h5.mono hc1 hn1⟩
theorem Wp.ret (hT : mT M = none) (hd : Dc (mC M) pc .return_ 1 pc') (hc1 : c ≤ (mR M).cells) (hn1 : n ≤ (mR M).slots) (q : Q none H) : Wp W K M Q H c n pc L [] := by
  obtain ⟨hd, rfl⟩ := hd
  exact Wp.fin q hc1 hn1 (fun _ => rfl) fun T locs X hx hc hr fs hl => X.returnOut hx (hr.trans hT) (hbM hc hd) hl
theorem Wp.iretN {t : FieldType} {x z : Int32} (ht : t = .boolean ∨ t = .byte ∨ t = .char ∨ t = .short) (hT : mT M = some t) (hz : nar t x = z) (hd : Dc (mC M) pc .ireturn 1 pc') (hc1 : c ≤ (mR M).cells) (hn1 : n ≤ (mR M).slots) (q : Q (some (.int z)) H) : Wp W K M Q H c n pc L (.int x :: S) := by
  obtain ⟨hd, rfl⟩ := hd
  subst hz
  exact Wp.fin q hc1 hn1 (fun u => by rw [hT] at u; cases u) fun T locs X hx hc hr fs hl => retN X hx (hr.trans hT) ht (hbM hc hd) hl
theorem Wp.iret {x : Int32} (hT : mT M = some .int) (hd : Dc (mC M) pc .ireturn 1 pc') (hc1 : c ≤ (mR M).cells) (hn1 : n ≤ (mR M).slots) (q : Q (some (.int x)) H) : Wp W K M Q H c n pc L (.int x :: S) := by
  obtain ⟨hd, rfl⟩ := hd
  exact Wp.fin q hc1 hn1 (fun u => by rw [hT] at u; cases u) fun T locs X hx hc hr fs hl => retOut X hx (hr.trans hT) rfl (Or.inl ⟨rfl, Or.inl rfl, x, rfl⟩) (hbM hc hd) hl
theorem Wp.lret {x : Int64} (hT : mT M = some .long) (hd : Dc (mC M) pc .lreturn 1 pc') (hc1 : c ≤ (mR M).cells) (hn1 : n ≤ (mR M).slots) (q : Q (some (.long x)) H) : Wp W K M Q H c n pc L (.long x :: S) := by
  obtain ⟨hd, rfl⟩ := hd
  exact Wp.fin q hc1 hn1 (fun u => by rw [hT] at u; cases u) fun T locs X hx hc hr fs hl => retOut X hx (hr.trans hT) rfl (Or.inr (Or.inl ⟨rfl, rfl, x, rfl⟩)) (hbM hc hd) hl
theorem Wp.aret {t : FieldType} {v : Value} (hT : mT M = some t) (hr1 : t.isReference = true) (hv : v.isRef = true) (hd : Dc (mC M) pc .areturn 1 pc') (hc1 : c ≤ (mR M).cells) (hn1 : n ≤ (mR M).slots) (q : Q (some v) H) : Wp W K M Q H c n pc L (v :: S) := by
  obtain ⟨hd, rfl⟩ := hd
  have hn2 : narrow t v = v := by rcases ref_cases hv with rfl | ⟨_, rfl⟩ <;> cases t <;> rfl
  exact Wp.fin q hc1 hn1 (fun u => by rw [hT] at u; cases u) fun T locs X hx hc hr fs hl => retOut X hx (hr.trans hT) hn2 (Or.inr (Or.inr (Or.inr (Or.inr ⟨rfl, hr1, hv⟩)))) (hbM hc hd) hl
-- calls
def pushV (v : Option Value) (S : List Value) : List Value := match v with
  | none => S
  | some x => x :: S
theorem pushV_eq (v : Option Value) (S : List Value) : pushV v S = v.toList ++ S := by cases v <;> rfl
theorem mkLen {d : String} {ps : List FieldType} {r : Option FieldType} {np : Nat} (hd : parseMethodDescriptor d = some ⟨ps, r⟩) (hl : np = ps.length) : ∀ sig, parseMethodDescriptor d = some sig → np = sig.parameters.length := fun sig h => by
  rw [hd] at h; cases h; exact hl
theorem Wp.know {P : Prop} (q : ∀ h, Hp W h H → P) (k : P → Wp W K M Q H c n pc L S) : Wp W K M Q H c n pc L S := fun T X => by
  have u := X
  obtain ⟨-, -, -, -, -, -, -, -, -, -, -, hp⟩ := u
  exact k (q _ hp) T X
theorem Wp.apart {a b : Addr} {r r' : Bool} {D D' : Ds} (i j : Nat) (hi : H[i]? = some (a, r, D)) (hj : H[j]? = some (b, r', D')) (hne : i ≠ j) (hr : r = true) (k : b ≠ a → Wp W K M Q H c n pc L S) : Wp W K M Q H c n pc L S := Wp.know (fun _ P => P.apart hi hj hne hr) k
theorem acT_eq (a : Value) : Jvm.Free.XT.acmp .eq a a = true := by simp [Jvm.Free.XT.acmp]
theorem acT_ne (a : Value) : Jvm.Free.XT.acmp .ne a a = false := by simp [Jvm.Free.XT.acmp]
theorem acF_eq {a b : Addr} (h : a ≠ b) : Jvm.Free.XT.acmp .eq (.ref a) (.ref b) = false := by simp [Jvm.Free.XT.acmp, h]
theorem acF_ne {a b : Addr} (h : a ≠ b) : Jvm.Free.XT.acmp .ne (.ref a) (.ref b) = true := by simp [Jvm.Free.XT.acmp, h]
theorem acN_eq_l (b : Addr) : Jvm.Free.XT.acmp .eq .null (.ref b) = false := by simp [Jvm.Free.XT.acmp]
theorem acN_eq_r (b : Addr) : Jvm.Free.XT.acmp .eq (.ref b) .null = false := by simp [Jvm.Free.XT.acmp]
theorem acN_ne_l (b : Addr) : Jvm.Free.XT.acmp .ne .null (.ref b) = true := by simp [Jvm.Free.XT.acmp]
theorem acN_ne_r (b : Addr) : Jvm.Free.XT.acmp .ne (.ref b) .null = true := by simp [Jvm.Free.XT.acmp]
theorem insSelf {h : Heap} {a : Addr} {r : Bool} {C : String} {fs : List Fd} (P : Hp W h H) (i : Nat) (hi : H[i]? = some (a, r, .inl (C, fs))) : Ins (wZ W) h a C true := Ins.self (show ObOk (wZ W) h a C fs from P.at hi).1
theorem insCast {h : Heap} {a : Addr} {r : Bool} {C D : String} {fs : List Fd} (P : Hp W h H) (i : Nat) (hi : H[i]? = some (a, r, .inl (C, fs))) (w : Wok W (.castable C D)) : Ins (wZ W) h a D true := Ins.of_exa (show ObOk (wZ W) h a C fs from P.at hi).1 w
/-- what the sheet says of a callee: its code, its class, how many arguments -/
def Mk (W : Wd) (M : Mt) (y : MethodName) (np : Nat) : Prop := mN M = y ∧ Wok W (.code y (mC M) (mL M) (mT M)) ∧ Wok W (.initialized y.cls) ∧ (∀ sig, parseMethodDescriptor y.desc = some sig → np = sig.parameters.length) ∧ (y.cls ≠ "java/lang/invoke/MethodHandle" ∧ y.cls ≠ "java/lang/invoke/VarHandle")
theorem Mk.of {W : Wd} {M : Mt} {y : MethodName} {np ml : Nat} {cd : ByteArray} {rt : Option FieldType} (h1 : mN M = y) (h2 : mC M = cd) (h3 : mL M = ml) (h4 : mT M = rt) (w1 : Wok W (.code y cd ml rt)) (w2 : Wok W (.initialized y.cls)) (h5 : ∀ sig, parseMethodDescriptor y.desc = some sig → np = sig.parameters.length) (h6 : y.cls ≠ "java/lang/invoke/MethodHandle" ∧ y.cls ≠ "java/lang/invoke/VarHandle") : Mk W M y np := by
  subst h1 h2 h3 h4
  exact ⟨rfl, w1, w2, h5, h6⟩
abbrev Fits (M M' : Mt) (c n Wn : Nat) : Prop := (mR M').frames + 1 ≤ (mR M).frames ∧ Wn + (mL M' + 11) + (mR M').locals ≤ (mR M).locals ∧ c + (mR M').cells ≤ (mR M).cells ∧ n + (mR M').slots ≤ (mR M).slots
theorem Ct.back {M' : Mt} {as : List Value} {Q' : Option Value → List En → Prop} {h : Heap} {p : Program} {e : Env} {s : State} {args : Array Value} {below : List Frame} {ln Wn : Nat} {R : Room} (C : Ct W M' as H Q') (P : Hp W h H) (hZ : (wZ W).Warmed39 s.vm) {np : Nat} (w : Mk W M' (mN M') np) (hf : (mR M').frames + 1 ≤ R.frames) (hl : Wn + (mL M' + 11) + (mR M').locals ≤ R.locals) :
    Back (wL W) R p e below s args (mN M') ln Wn (fun A a => a = as.toArray ∧ A.U.heap = h ∧ A.cells + (mR M').cells ≤ R.cells ∧ A.slots + (mR M').slots ≤ R.slots) (fun A _ v B => ∃ L, (Fr (wN W) L ∧ ∃ H', Hp W B.U.heap H' ∧ Q' v H') ∧ B.locs = A.locs ++ L ∧ B.cells = A.cells + (mR M').cells ∧ B.slots = A.slots + (mR M').slots) :=
  backOf (Q := fun v h L => Fr (wN W) L ∧ ∃ H', Hp W h H' ∧ Q' v H') (C [] h P) hZ w.2.1 w.2.2.1 hf hl
theorem Wp.callS {y0 : MethodName} (hM : mN M = y0) {M' : Mt} {as : List Value} {idx Wn np : Nat} {S0 : List Value} {Q' : Option Value → List En → Prop} (C : Ct W M' as H Q') {y' : MethodName} (w : Mk W M' y' np) (w1 : Wok W (.methodLink y0.cls idx y')) (w2 : Wok W (.static y')) (hst : S0 = as.reverse ++ S) (hp : as.length = np) (hW : (S.map fun v => v.category).sum = Wn) (hL : L.length = mL M) (hR : Fits M M' c n Wn)
    (hd : Dc (mC M) pc (.invokestatic idx) 3 pc') (k : ∀ v H', Q' v H' → Wp W K M Q H' (c + (mR M').cells) (n + (mR M').slots) pc' L (pushV v S)) : Wp W K M Q H c n pc L S0 := by
  subst hM
  obtain ⟨rfl, w⟩ := w
  obtain ⟨hd, rfl⟩ := hd
  subst hst hp
  exact fun T X => by
    obtain ⟨hx, hZ, ho, hb, hm, hr, hn, hl, locs, X, N, P⟩ := X
    obtain ⟨v, vm1, ⟨T', L', k', n'⟩, -, X', ⟨Lc, ⟨N', H', P', q⟩, l1, y1, z1⟩, st⟩ := Jvm.LawKit.callS X hx (y := mN M') ho (mvT hZ w1) (mvT hZ w2) (mvT hZ w.2.1) (mvT hZ w.1) w.2.2.2 (Ct.back C P hZ ⟨rfl, w⟩ hR.1 hR.2.1) (g := mkF (kM K) pc L.toArray (as.reverse ++ S)) rfl (by rw [hm, ← hL]; simp) (argsL := as) (rest := S) w.2.2.1 rfl (by show 2 * 0 + _ ≤ _; omega) (hbM hb hd) (fun _ _ => ⟨rfl, rfl, hR.2.2.1, hR.2.2.2⟩)
    dsimp only [Pt.U, Pt.locs, Pt.cells, Pt.slots] at X' l1 y1 z1 st P'
    subst l1 y1 z1
    obtain ⟨U, s1, s2⟩ := k v H' q T' ⟨hx, hZ, ho, hb, hm, hr, hn, hl, _, X', N.app N', P'⟩
    rw [pushV_eq] at s1
    exact ⟨U, st _ s1, s2⟩
/-- a constructor -/
theorem Wp.callC {y0 : MethodName} (hM : mN M = y0) {M' : Mt} {a : Addr} {as : List Value} {idx Wn np : Nat} {S0 : List Value} {Q' : Option Value → List En → Prop} (C : Ct W M' (.ref a :: as) H Q') {y' : MethodName} (w : Mk W M' y' np) (w1 : Wok W (.methodLink y0.cls idx y')) (w2 : Wok W (.instanceMethod y')) (hi : y'.name = "<init>") (hT : mT M' = none) (hst : S0 = as.reverse ++ .ref a :: S) (hp : as.length = np) (hW : (S.map fun v => v.category).sum = Wn) (hL : L.length = mL M) (hR : Fits M M' c n Wn)
    (hd : Dc (mC M) pc (.invokespecial idx) 3 pc') (k : ∀ v H', Q' v H' → Wp W K M Q H' (c + (mR M').cells) (n + (mR M').slots) pc' L (pushV v S)) : Wp W K M Q H c n pc L S0 := by
  subst hM
  obtain ⟨rfl, w⟩ := w
  obtain ⟨hd, rfl⟩ := hd
  subst hst hp
  exact fun T X => by
    obtain ⟨hx, hZ, ho, hb, hm, hr, hn, hl, locs, X, N, P⟩ := X
    obtain ⟨v, vm1, ⟨T', L', k', n'⟩, -, X', ⟨Lc, ⟨N', H', P', q⟩, l1, y1, z1⟩, st⟩ := X.specialBack hx (y := mN M') hi ho (mvT hZ w1) (mvT hZ w2) (hT ▸ mvT hZ w.1) w.2.2.2 (Ct.back C P hZ ⟨rfl, w⟩ hR.1 hR.2.1) (g := mkF (kM K) pc L.toArray (as.reverse ++ .ref a :: S)) rfl (by rw [hm, ← hL]; simp) (Steps.refl _) (a := a) (argsL := as) (rest := S) w.2.2.1 rfl (by show 2 * 0 + _ ≤ _; omega) (hbM hb hd) (fun _ _ => ⟨rfl, rfl, hR.2.2.1, hR.2.2.2⟩)
    dsimp only [Pt.U, Pt.locs, Pt.cells, Pt.slots] at X' l1 y1 z1 st P'
    subst l1 y1 z1
    obtain ⟨U, s1, s2⟩ := k v H' q T' ⟨hx, hZ, ho, hb, hm, hr, hn, hl, _, X', N.app N', P'⟩
    rw [pushV_eq] at s1
    exact ⟨U, st.trans s1, s2⟩
theorem Wp.callV {y0 : MethodName} (hM : mN M = y0) {M' : Mt} {y : MethodName} {C0 S' : String} {fs : List Fd} {rw : Bool} {a : Addr} {as : List Value} {idx Wn np : Nat} {S0 : List Value} {Q' : Option Value → List En → Prop} (C : Ct W M' (.ref a :: as) H Q') (i : Nat) (hi : H[i]? = some (a, rw, .inl (C0, fs))) {y' : MethodName} (w : Mk W M' y' np) (w1 : Wok W (.methodLink y0.cls idx y)) (w2 : Wok W (.declares y)) (w3 : Wok W (.selects C0 y y')) (w4 : Wok W (.instanceMethod y'))
    (nf : y = y' ∨ Wok W (.superclass y.cls S') ∨ Wok W (.noSuperclass y.cls)) (hy : y.cls ≠ "java/lang/invoke/MethodHandle" ∧ y.cls ≠ "java/lang/invoke/VarHandle") (hdsc : y.desc = y'.desc) (hst : S0 = as.reverse ++ .ref a :: S) (hp : as.length = np) (hW : (S.map fun v => v.category).sum = Wn) (hL : L.length = mL M) (hR : Fits M M' c n Wn)
    (hd : Dc (mC M) pc (.invokevirtual idx) 3 pc') (k : ∀ v H', Q' v H' → Wp W K M Q H' (c + (mR M').cells) (n + (mR M').slots) pc' L (pushV v S)) : Wp W K M Q H c n pc L S0 := by
  subst hM
  obtain ⟨rfl, w⟩ := w
  obtain ⟨hd, rfl⟩ := hd
  subst hst hp
  exact fun T X => by
    obtain ⟨hx, hZ, ho, hb, hm, hr, hn, hl, locs, X, N, P⟩ := X
    have F : ObOk (wZ W) T.heap a C0 fs := P.at hi
    obtain ⟨cq, kq, q1, q2, q3⟩ := isOf hZ rfl F.1
    have nf' : NotFace (kS K) y := by
      rcases nf with e | u | u
      · exact notFace_of_selects (args := #[]) (C := C0) (by rw [← e] at w3; exact mvT hZ w3)
      · exact nf_super (args := #[]) (mvT hZ u)
      · exact nf_top (args := #[]) (mvT hZ u)
    obtain ⟨v, vm1, ⟨T', L', k', n'⟩, -, X', ⟨Lc, ⟨N', H', P', q⟩, l1, y1, z1⟩, st⟩ := X.virtualBack hx (y := y) (z := mN M') ho (mvT hZ w1) (mvT hZ w2) nf' (mvT hZ w3) (mvT hZ w4) hy (Ct.back C P hZ ⟨rfl, w⟩ hR.1 hR.2.1) q1 q3 (g := mkF (kM K) pc L.toArray (as.reverse ++ .ref a :: S)) rfl (by rw [hm, ← hL]; simp) (Steps.refl _) (argsL := as) (rest := S) (fun sig u => w.2.2.1 sig (hdsc ▸ u)) rfl (by show 2 * 0 + _ ≤ _; omega) (hbM hb hd) (fun _ _ => ⟨rfl, rfl, hR.2.2.1, hR.2.2.2⟩)
    dsimp only [Pt.U, Pt.locs, Pt.cells, Pt.slots] at X' l1 y1 z1 st P'
    subst l1 y1 z1
    obtain ⟨U, s1, s2⟩ := k v H' q T' ⟨hx, hZ, ho, hb, hm, hr, hn, hl, _, X', N.app N', P'⟩
    rw [pushV_eq] at s1
    exact ⟨U, st.trans s1, s2⟩
theorem Wp.callI {y0 : MethodName} (hM : mN M = y0) {M' : Mt} {y : MethodName} {C0 : String} {fs : List Fd} {rw : Bool} {a : Addr} {as : List Value} {idx cnt Wn np : Nat} {S0 : List Value} {Q' : Option Value → List En → Prop} (C : Ct W M' (.ref a :: as) H Q') (i : Nat) (hi : H[i]? = some (a, rw, .inl (C0, fs))) {y' : MethodName} (w : Mk W M' y' np) (w1 : Wok W (.methodLink y0.cls idx y)) (w2 : Wok W (.declares y)) (w3 : Wok W (.interfaceMethod y.cls y.cls y.name y.desc)) (w4 : Wok W (.selects C0 y y')) (w5 : Wok W (.instanceMethod y')) (w6 : Wok W (.publicMethod y')) (w7 : Wok W (.unhidden C0 y.name y.desc)) (w8 : Wok W (.castable C0 y.cls))
    (hy : y.cls ≠ "java/lang/invoke/MethodHandle" ∧ y.cls ≠ "java/lang/invoke/VarHandle") (hdsc : y.desc = y'.desc) (hst : S0 = as.reverse ++ .ref a :: S) (hp : as.length = np) (hW : (S.map fun v => v.category).sum = Wn) (hL : L.length = mL M) (hR : Fits M M' c n Wn)
    (hd : Dc (mC M) pc (.invokeinterface idx cnt) 5 pc') (k : ∀ v H', Q' v H' → Wp W K M Q H' (c + (mR M').cells) (n + (mR M').slots) pc' L (pushV v S)) : Wp W K M Q H c n pc L S0 := by
  subst hM
  obtain ⟨rfl, w⟩ := w
  obtain ⟨hd, rfl⟩ := hd
  subst hst hp
  exact fun T X => by
    obtain ⟨hx, hZ, ho, hb, hm, hr, hn, hl, locs, X, N, P⟩ := X
    have F : ObOk (wZ W) T.heap a C0 fs := P.at hi
    obtain ⟨cq, kq, q1, q2, q3⟩ := isOf hZ rfl F.1
    obtain ⟨v, vm1, ⟨T', L', k', n'⟩, -, X', ⟨Lc, ⟨N', H', P', q⟩, l1, y1, z1⟩, st⟩ := X.interfaceBack hx (xi := y) (y := mN M') ho (mvT hZ w1) (mvT hZ w2) (mvT hZ w3 (by simp [Cond.onTables, Cond.keepsFace, Cond.faceAtom, hy.1, hy.2])) (mvT hZ w4) (mvT hZ w5) (mvT hZ w6) (mvT hZ w7) (mvT hZ w8) hy (Ct.back C P hZ ⟨rfl, w⟩ hR.1 hR.2.1) q1 q2 q3 (g := mkF (kM K) pc L.toArray (as.reverse ++ .ref a :: S)) rfl (by rw [hm, ← hL]; simp) (Steps.refl _) (argsL := as) (rest := S) (fun sig u => w.2.2.1 sig (hdsc ▸ u)) rfl (by show 2 * 0 + _ ≤ _; omega) (hbM hb hd) (fun _ _ => ⟨rfl, rfl, hR.2.2.1, hR.2.2.2⟩)
    dsimp only [Pt.U, Pt.locs, Pt.cells, Pt.slots] at X' l1 y1 z1 st P'
    subst l1 y1 z1
    obtain ⟨U, s1, s2⟩ := k v H' q T' ⟨hx, hZ, ho, hb, hm, hr, hn, hl, _, X', N.app N', P'⟩
    rw [pushV_eq] at s1
    exact ⟨U, st.trans s1, s2⟩
/-- a private instance method -/
theorem Wp.callP {y0 : MethodName} (hM : mN M = y0) {M' : Mt} {rw : Bool} {C0 : String} {fs : List Fd} {a : Addr} {as : List Value} {idx Wn np : Nat} {S0 : List Value} {Q' : Option Value → List En → Prop} (C : Ct W M' (.ref a :: as) H Q') (i : Nat) (hi : H[i]? = some (a, rw, .inl (C0, fs))) {y' : MethodName} (w : Mk W M' y' np) (w1 : Wok W (.methodLink y0.cls idx y')) (w2 : Wok W (.instanceMethod y')) (w3 : Wok W (.selects y'.cls y' y')) (w4 : Wok W (.privateMethod y'))
    (hst : S0 = as.reverse ++ .ref a :: S) (hp : as.length = np) (hW : (S.map fun v => v.category).sum = Wn) (hL : L.length = mL M) (hR : Fits M M' c n Wn)
    (hd : Dc (mC M) pc (.invokevirtual idx) 3 pc') (k : ∀ v H', Q' v H' → Wp W K M Q H' (c + (mR M').cells) (n + (mR M').slots) pc' L (pushV v S)) : Wp W K M Q H c n pc L S0 := by
  subst hM
  obtain ⟨rfl, w⟩ := w
  obtain ⟨hd, rfl⟩ := hd
  subst hst hp
  exact fun T X => by
    obtain ⟨hx, hZ, ho, hb, hm, hr, hn, hl, locs, X, N, P⟩ := X
    have F : ObOk (wZ W) T.heap a C0 fs := P.at hi
    obtain ⟨cq, q1, q2⟩ := F.1.cell
    obtain ⟨v, vm1, ⟨T', L', k', n'⟩, -, X', ⟨Lc, ⟨N', H', P', q⟩, l1, y1, z1⟩, st⟩ := X.privateBack hx (y := mN M') ho (mvT hZ w1) (mvT hZ w2) (mvT hZ w3) (Cond.privateMethod_at (mvP hZ w4 (args := #[]))) (mvT hZ w.1) w.2.2.2 (Ct.back C P hZ ⟨rfl, w⟩ hR.1 hR.2.1) (g := mkF (kM K) pc L.toArray (as.reverse ++ .ref a :: S)) rfl (by rw [hm, ← hL]; simp) (Steps.refl _) (a := a) q1 q2 (argsL := as) (rest := S) w.2.2.1 rfl (by show 2 * 0 + _ ≤ _; omega) (hbM hb hd) (fun _ _ => ⟨rfl, rfl, hR.2.2.1, hR.2.2.2⟩)
    dsimp only [Pt.U, Pt.locs, Pt.cells, Pt.slots] at X' l1 y1 z1 st P'
    subst l1 y1 z1
    obtain ⟨U, s1, s2⟩ := k v H' q T' ⟨hx, hZ, ho, hb, hm, hr, hn, hl, _, X', N.app N', P'⟩
    rw [pushV_eq] at s1
    exact ⟨U, st.trans s1, s2⟩
/-- super.m(..) -/
theorem Wp.callU {y0 : MethodName} (hM : mN M = y0) {M' : Mt} {rw : Bool} {C0 : String} {fs : List Fd} {a : Addr} {as : List Value} {idx Wn np : Nat} {S0 : List Value} {Q' : Option Value → List En → Prop} (C : Ct W M' (.ref a :: as) H Q') (i : Nat) (hi : H[i]? = some (a, rw, .inl (C0, fs))) {y' : MethodName} (w : Mk W M' y' np) (w1 : Wok W (.methodLink y0.cls idx y')) (w2 : Wok W (.sameMethod y'.cls y'.cls y'.name y'.desc)) (w3 : Wok W (.instanceMethod y')) (w4 : Wok W (.superclass y0.cls y'.cls)) (hni : y'.name ≠ "<init>")
    (hst : S0 = as.reverse ++ .ref a :: S) (hp : as.length = np) (hW : (S.map fun v => v.category).sum = Wn) (hL : L.length = mL M) (hR : Fits M M' c n Wn)
    (hd : Dc (mC M) pc (.invokespecial idx) 3 pc') (k : ∀ v H', Q' v H' → Wp W K M Q H' (c + (mR M').cells) (n + (mR M').slots) pc' L (pushV v S)) : Wp W K M Q H c n pc L S0 := by
  subst hM
  obtain ⟨rfl, w⟩ := w
  obtain ⟨hd, rfl⟩ := hd
  subst hst hp
  exact fun T X => by
    obtain ⟨hx, hZ, ho, hb, hm, hr, hn, hl, locs, X, N, P⟩ := X
    have F : ObOk (wZ W) T.heap a C0 fs := P.at hi
    obtain ⟨v, vm1, ⟨T', L', k', n'⟩, -, X', ⟨Lc, ⟨N', H', P', q⟩, l1, y1, z1⟩, st⟩ := superBack X hx hZ (y := mN M') ho w1 w2 w3 w4 hni (Ct.back C P hZ ⟨rfl, w⟩ hR.1 hR.2.1) rfl (Ins.self F.1) (g := mkF (kM K) pc L.toArray (as.reverse ++ .ref a :: S)) rfl (by rw [hm, ← hL]; simp) w.1 (argsL := as) (rest := S) w.2.2.1 rfl (by show 2 * 0 + _ ≤ _; omega) (hbM hb hd) (fun _ _ => ⟨rfl, rfl, hR.2.2.1, hR.2.2.2⟩)
    dsimp only [Pt.U, Pt.locs, Pt.cells, Pt.slots] at X' l1 y1 z1 st P'
    subst l1 y1 z1
    obtain ⟨U, s1, s2⟩ := k v H' q T' ⟨hx, hZ, ho, hb, hm, hr, hn, hl, _, X', N.app N', P'⟩
    rw [pushV_eq] at s1
    exact ⟨U, st.trans s1, s2⟩
theorem Wp.initO {y0 : MethodName} (hM : mN M = y0) {a : Addr} {idx Wn : Nat} (w1 : Wok W (.methodLink y0.cls idx Lib.objectInit)) (w2 : Wok W (.instanceMethod Lib.objectInit)) (w3 : Wok W (.code Lib.objectInit ⟨#[0xb1]⟩ 1 none)) (hW : (S.map fun v => v.category).sum = Wn) (hL : L.length = mL M) (hf : 1 ≤ (mR M).frames) (hlo : Wn + 12 ≤ (mR M).locals)
    (hd : Dc (mC M) pc (.invokespecial idx) 3 pc') (k : Wp W K M Q H c n pc' L S) : Wp W K M Q H c n pc L (.ref a :: S) := by
  subst hM
  obtain ⟨hd, rfl⟩ := hd
  exact Wp.to (fun T locs X hx hZ ho hc hm _ P N => by
    obtain ⟨T', X', e', st⟩ := Jvm.RoadKit.initO X hx hZ ho w1 w2 w3 rfl (g := mkF (kM K) pc L.toArray (.ref a :: S)) rfl (by rw [hm, ← hL]; simp) rfl (hbM hc hd) hf (W := Wn) (by show 2 * 0 + _ ≤ _; omega) hlo
    exact ⟨T', locs, X', N, by rw [e']; exact P, st⟩) k
-- casts
theorem Wp.cast {y0 : MethodName} (hM : mN M = y0) {a : Addr} {Kc : String} {idx : Nat} (w : Wok W (.classLink y0.cls idx Kc)) (I : ∀ h, Hp W h H → Ins (wZ W) h a Kc true) (hd : Dc (mC M) pc (.checkcast idx) 3 pc') (k : Wp W K M Q H c n pc' L (.ref a :: S)) : Wp W K M Q H c n pc L (.ref a :: S) := by
  subst hM
  obtain ⟨hd, rfl⟩ := hd
  exact Wp.to (fun T locs X hx hZ ho hc _ _ P N => by
    obtain ⟨T', X', e', st⟩ := castY X hx hZ ho w rfl (I _ P) (g := mkF (kM K) pc L.toArray (.ref a :: S)) rfl rfl (hbM hc hd)
    exact ⟨T', locs, X', N, by rw [e']; exact P, st⟩) k
theorem Wp.inst {y0 : MethodName} (hM : mN M = y0) {a : Addr} {Kc : String} {idx : Nat} (w : Wok W (.classLink y0.cls idx Kc)) (I : ∀ h, Hp W h H → Ins (wZ W) h a Kc true) (hd : Dc (mC M) pc (.instanceof idx) 3 pc') (k : Wp W K M Q H c n pc' L (.int 1 :: S)) : Wp W K M Q H c n pc L (.ref a :: S) := by
  subst hM
  obtain ⟨hd, rfl⟩ := hd
  exact Wp.to (fun T locs X hx hZ ho hc _ _ P N => by
    obtain ⟨T', X', e', st⟩ := instY X hx hZ ho w rfl (I _ P) (g := mkF (kM K) pc L.toArray (.ref a :: S)) rfl rfl (hbM hc hd)
    exact ⟨T', locs, X', N, by rw [e']; exact P, st⟩) k
-- the heap's rows in another order: the first k as 'is' tells
def sel (is : List Nat) (H : List En) : List En := is.filterMap fun i => H[i]?
theorem sel_range : ∀ (k : Nat) (H : List En), sel (List.range k) H = H.take k
  | 0, H => by simp [sel]
  | k + 1, H => by
    have ih := sel_range k H
    unfold sel at ih ⊢
    rw [List.range_succ, List.filterMap_append, ih, List.take_add_one]
    cases h : H[k]? <;> simp [h]
theorem sel_perm {is : List Nat} {k : Nat} (hp : is.isPerm (List.range k) = true) (H : List En) : H.Perm (sel is H ++ H.drop k) := by
  have h1 : (sel is H).Perm (H.take k) := by
    rw [← sel_range]
    exact List.Perm.filterMap _ (List.isPerm_iff.mp hp)
  have h2 : (H.take k ++ H.drop k).Perm (sel is H ++ H.drop k) := List.Perm.append_right _ h1.symm
  rwa [List.take_append_drop] at h2
theorem Wp.perm (is : List Nat) (m : Nat) (hp : is.isPerm (List.range m) = true) (e : sel is H ++ H.drop m = H') (k : Wp W K M Q H' c n pc L S) : Wp W K M Q H c n pc L S := Wp.heap (e ▸ sel_perm hp H) k
end Logic
section Logic2
variable {W : Wd} {K : Kx} {M : Mt} {Q : Option Value → List En → Prop} {H H' : List En} {c n pc pc' pt len : Nat} {L L' : List Slot} {S : List Value}
theorem Wp.castNull {idx : Nat} (hd : Dc (mC M) pc (.checkcast idx) 3 pc') (k : Wp W K M Q H c n pc' L (.null :: S)) : Wp W K M Q H c n pc L (.null :: S) := by
  obtain ⟨hd, rfl⟩ := hd
  exact Wp.go (fun T locs X hx _ ho hc _ _ t r => X.checkcastNull hx (g := mkF (kM K) pc L.toArray (.null :: S)) rfl rfl (hbM hc hd) _ r) k
theorem Wp.instNull {idx : Nat} (hd : Dc (mC M) pc (.instanceof idx) 3 pc') (k : Wp W K M Q H c n pc' L (.int 0 :: S)) : Wp W K M Q H c n pc L (.null :: S) := by
  obtain ⟨hd, rfl⟩ := hd
  exact Wp.go (fun T locs X hx _ ho hc _ _ t r => X.instanceofNull hx (g := mkF (kM K) pc L.toArray (.null :: S)) rfl rfl (hbM hc hd) _ r) k
theorem Wp.tswIn {x : Int32} {dflt low high o : Int} {offs : Array Int} (hin : ¬ (x.toInt < low ∨ x.toInt > high)) (hoff : offs[(x.toInt - low).toNat]? = some o) (h1 : 0 ≤ (pc : Int) + o) (h2 : ((pc : Int) + o).toNat = pt) (hd : Dc (mC M) pc (.tableswitch dflt low high offs) len pc') (k : Wp W K M Q H c n pt L S) : Wp W K M Q H c n pc L (.int x :: S) := by
  obtain ⟨hd, -⟩ := hd
  exact Wp.go (fun T locs X hx _ ho hc _ _ t r => XS.tswIn X.here hx rfl rfl (hbM hc hd) rfl hin hoff h1 h2 r) k
theorem Wp.tswOut {x : Int32} {dflt low high : Int} {offs : Array Int} (hout : x.toInt < low ∨ x.toInt > high) (h1 : 0 ≤ (pc : Int) + dflt) (h2 : ((pc : Int) + dflt).toNat = pt) (hd : Dc (mC M) pc (.tableswitch dflt low high offs) len pc') (k : Wp W K M Q H c n pt L S) : Wp W K M Q H c n pc L (.int x :: S) := by
  obtain ⟨hd, -⟩ := hd
  exact Wp.go (fun T locs X hx _ ho hc _ _ t r => XS.tswOut X.here hx rfl rfl (hbM hc hd) rfl hout h1 h2 r) k
theorem Wp.lswIn {x : Int32} {dflt a o : Int} {prs : Array (Int × Int)} (hs : (prs.toList.zip (prs.toList.drop 1)).all (fun (a, next) => a.1 < next.1) = true) (hf : prs.find? (·.1 == x.toInt) = some (a, o)) (h1 : 0 ≤ (pc : Int) + o) (h2 : ((pc : Int) + o).toNat = pt) (hd : Dc (mC M) pc (.lookupswitch dflt prs) len pc') (k : Wp W K M Q H c n pt L S) : Wp W K M Q H c n pc L (.int x :: S) := by
  obtain ⟨hd, -⟩ := hd
  subst h2
  exact Wp.go (fun T locs X hx _ ho hc _ _ t r => X.lookupswitchHit hx (g := mkF (kM K) pc L.toArray (.int x :: S)) rfl rfl (hbM hc hd) hs hf h1 _ r) k
theorem Wp.lswOut {x : Int32} {dflt : Int} {prs : Array (Int × Int)} (hs : (prs.toList.zip (prs.toList.drop 1)).all (fun (a, next) => a.1 < next.1) = true) (hf : prs.find? (·.1 == x.toInt) = none) (h1 : 0 ≤ (pc : Int) + dflt) (h2 : ((pc : Int) + dflt).toNat = pt) (hd : Dc (mC M) pc (.lookupswitch dflt prs) len pc') (k : Wp W K M Q H c n pt L S) : Wp W K M Q H c n pc L (.int x :: S) := by
  obtain ⟨hd, -⟩ := hd
  subst h2
  exact Wp.go (fun T locs X hx _ ho hc _ _ t r => X.lookupswitchMiss hx (g := mkF (kM K) pc L.toArray (.int x :: S)) rfl rfl (hbM hc hd) hs hf h1 _ r) k
/-- a local that held nothing, or one word of any kind, is written over -/
theorem storeOne {k : Nat} {o : Slot} {v : Value} (hk : L[k]? = some o) (ho : One o) (hv : v.category = 1) (hL : L.set k (.val v) = L') : storeLocals L.toArray k v = some L'.toArray := by
  subst hL
  rw [Jvm.Free.XS.store1 (by simpa using hk) ho hv]
  simp
/-- arraycopy of whole values: primitive arrays -/
theorem hp0 {s : State} {l : Launch} {a : Array Value} : Hp (l, s, a, s.heap.size) s.heap [] := ⟨Old.start s, fun _ q => (nomatch q), List.Pairwise.nil⟩
/-- an old entry, told at the start -/
theorem Hp.old {h : Heap} {a : Addr} {D : Ds} (P : Hp W h H) (F : DsOk (wZ W) (wZ W).heap a D) (hN : wN W = (wZ W).heap.size) : Hp W h ((a, false, D) :: H) := by
  have hlt := F.lt
  refine ⟨P.1, fun x hx => ?_, List.pairwise_cons.mpr ⟨fun y hy => ?_, P.2.2⟩⟩
  · rcases List.mem_cons.mp hx with rfl | hx
    · exact ⟨fun q => (nomatch q), F.ext P.1.2⟩
    · exact P.2.1 x hx
  · rcases Bool.eq_false_or_eq_true y.2.1 with q | q
    · exact Or.inr fun (e : a = y.1) => by
        have q1 : (wZ W).heap.size ≤ y.1 := hN ▸ (P.2.1 y hy).1 q
        exact Nat.lt_irrefl _ (Nat.lt_of_lt_of_le hlt (Nat.le_trans q1 (Nat.le_of_eq e.symm)))
    · exact Or.inl ⟨rfl, q⟩
end Logic2
-- ints
def by8 (c : Int32) : Int32 := c.toInt8.toInt32
def csL (cs : List Int32) : List Value := cs.map Value.int
def eqI (xs ys : List Int32) : Int32 := if xs = ys then 1 else 0
abbrev ix (i : Nat) : Int32 := Int32.ofNat i
theorem ix_toInt {i : Nat} (h : i < 2 ^ 31) : (ix i).toInt = (i : Int) := toInt_of rfl h
theorem ix_lt {i j : Nat} (hi : i < 2 ^ 31) (hj : j < 2 ^ 31) : ix i < ix j ↔ i < j := by
  rw [Int32.lt_iff_toInt_lt, ix_toInt hi, ix_toInt hj]; omega
theorem ix_nn {i : Nat} (hi : i < 2 ^ 31) : ¬ ix i < 0 := by
  have := ix_lt (j := 0) hi (by decide)
  exact fun q => by have q' : ix i < ix 0 := q; rw [this] at q'; omega
theorem ix_nat {i : Nat} (hi : i < 2 ^ 31) : (ix i).toNatClampNeg = i := clamp_of rfl hi
theorem ix_inc (i : Nat) : ix i + Int32.ofInt 1 = ix (i + 1) := by rw [lit1]; exact (inc_ofNat i).symm
theorem ix_eq {i j : Nat} (hi : i < 2 ^ 31) (hj : j < 2 ^ 31) (h : ix i = ix j) : i = j := by
  have := congrArg Int32.toInt h
  rw [ix_toInt hi, ix_toInt hj] at this; omega
theorem csL_len (cs : List Int32) : (csL cs).length = cs.length := List.length_map ..
theorem csL_get {cs : List Int32} {i : Nat} {x : Int32} (h : cs[i]? = some x) : (csL cs)[i]? = some (.int x) := by simp [csL, h]
theorem csL_set (cs : List Int32) (i : Nat) (x : Int32) : (csL cs).set i (.int x) = csL (cs.set i x) := by simp [csL, List.map_set]
theorem by8_by8 (c : Int32) : nar .byte (by8 c) = by8 c := by simp [nar, by8]
/-- a copy that has come to i: the first i are f's, the others as they were -/
def part (f : Int32 → Int32) (cs ds : List Int32) (i : Nat) : List Int32 := (cs.take i).map f ++ ds.drop i
theorem part_len {f : Int32 → Int32} {cs ds : List Int32} {i : Nat} (h : cs.length = ds.length) : (part f cs ds i).length = ds.length := by
  simp [part]; omega
theorem part_zero (f : Int32 → Int32) (cs ds : List Int32) : part f cs ds 0 = ds := by simp [part]
theorem part_end {f : Int32 → Int32} {cs ds : List Int32} {i : Nat} (h : cs.length = ds.length) (hi : i = cs.length) : part f cs ds i = cs.map f := by
  subst hi
  rw [part, List.take_length, h, List.drop_length, List.append_nil]
theorem part_set {f : Int32 → Int32} {cs ds : List Int32} {i : Nat} {x : Int32} (h : cs.length = ds.length) (hx : cs[i]? = some x) : (part f cs ds i).set i (f x) = part f cs ds (i + 1) := by
  obtain ⟨hi, rfl⟩ := List.getElem?_eq_some_iff.mp hx
  apply List.ext_getElem?
  intro k
  have hl : ((cs.take i).map f).length = i := by simp; omega
  simp only [part, List.getElem?_set, List.getElem?_append, List.length_map, List.length_take, List.getElem?_map, List.getElem?_take, List.getElem?_drop, List.length_append, List.length_drop]
  by_cases e : i = k
  · subst e
    have h1 : i < min (i + 1) cs.length := by omega
    have h2 : i < min i cs.length + (ds.length - i) := by omega
    simp [h1, h2, hi]
  · simp only [e, if_false]
    by_cases hk : k < min i cs.length
    · have h1 : k < min (i + 1) cs.length := by omega
      have h2 : k < i := by omega
      have h3 : k < i + 1 := by omega
      simp [hk, h1, h2, h3]
    · have h1 : ¬ k < min (i + 1) cs.length := by omega
      have h2 : min i cs.length = i := by omega
      have h3 : min (i + 1) cs.length = i + 1 := by omega
      rw [h2] at hk
      rw [h3] at h1
      simp only [h2, h3, hk, h1, if_false]
      congr 1
      omega
theorem csL_rep (n : Nat) : List.replicate n (Value.int 0) = csL (List.replicate n 0) := by simp [csL]
theorem hpN : ∀ c ∈ ([] : List Int32), ¬ c < 0 ∧ ¬ 255 < c := fun _ q => (nomatch q)
theorem hpC {x : Int32} {xs : List Int32} (h : ¬ x < 0 ∧ ¬ 255 < x) (r : ∀ c ∈ xs, ¬ c < 0 ∧ ¬ 255 < c) : ∀ c ∈ x :: xs, ¬ c < 0 ∧ ¬ 255 < c := fun c hc => (List.mem_cons.mp hc).elim (fun e => e ▸ h) (r c)
theorem eqI_ne {xs ys : List Int32} (h : ¬ xs = ys) : eqI xs ys = 0 := if_neg h
theorem eqI_eq {xs ys : List Int32} (h : xs = ys) : eqI xs ys = 1 := if_pos h
theorem eqI_one {xs ys : List Int32} (h : ¬ eqI xs ys = 0) : eqI xs ys = 1 := by
  by_cases e : xs = ys
  · exact eqI_eq e
  · exact absurd (eqI_ne e) h
theorem csL_inj {xs ys : List Int32} (h : csL xs = csL ys) : xs = ys := by
  refine List.map_inj_right (f := Value.int) ?_ |>.mp h
  intro a b e; cases e; rfl
theorem take_snoc {xs ys : List Int32} {i : Nat} {x y : Int32} (h : xs.take i = ys.take i) (hx : xs[i]? = some x) (hy : ys[i]? = some y) (e : x = y) : xs.take (i + 1) = ys.take (i + 1) := by
  rw [List.take_add_one, List.take_add_one, h, hx, hy, e]
theorem take_all {xs ys : List Int32} {i : Nat} (h : xs.take i = ys.take i) (h1 : i = xs.length) (h2 : xs.length = ys.length) : xs = ys := by
  rw [h1, List.take_length, h2, List.take_length] at h; exact h
theorem get_ne {xs ys : List Int32} {i : Nat} {x y : Int32} (hx : xs[i]? = some x) (hy : ys[i]? = some y) (e : ¬ x = y) : ¬ xs = ys := fun q => by
  rw [q, hy] at hx; exact e (Option.some.inj hx).symm
theorem Fld.uniq {Z : State} {h : Heap} {a : Addr} {C n d : String} {v w : Value} (F : Fld Z h a C n d v) (G : Fld Z h a C n d w) : v = w := by
  obtain ⟨c1, cf, k, i, f, h1, h2, -, -, -, -, h7⟩ := F
  obtain ⟨c2, cf', k', i', f', g1, g2, -, -, -, -, g7⟩ := G
  cases h1.symm.trans g1
  cases h2.symm.trans g2
  exact Option.some.inj (h7.symm.trans g7)
theorem ArOk.uniq {Z : State} {h : Heap} {a : Addr} {ty ty' : FieldType} {ex ov ex' ov' : Bool} {vs ws : List Value} (F : ArOk Z h a ty ex ov vs) (G : ArOk Z h a ty' ex' ov' ws) : vs = ws := by
  obtain ⟨c1, h1, h2, -⟩ := F
  obtain ⟨c2, g1, g2, -⟩ := G
  cases h1.1.symm.trans g1.1
  exact h2.symm.trans g2
theorem arh_of {Z : State} {h : Heap} {a : Addr} {ty : FieldType} {ex ov : Bool} {vs : List Value} (F : ArOk Z h a ty ex ov vs) (dv : Value) : ∃ k, Arh Z h a k ty (ix vs.length) [] vs dv := by
  obtain ⟨c, h1, h2, h3, h4, -⟩ := F
  have hs : c.slots.size = vs.length := by rw [← h2]; simp
  refine ⟨c.cls, c, h1, rfl, by rw [hs, ix_nat h3], ix_nn h3, fun i hi => ?_, fun i hi => ?_⟩
  · show c.slots[i]? = some (vs.getD i dv)
    rw [← Array.getElem?_toList, h2, List.getD_eq_getElem?_getD, List.getElem?_eq_getElem (by omega)]; rfl
  · show fits ty (vs.getD i dv) = true
    rw [List.getD_eq_getElem?_getD, List.getElem?_eq_getElem (by omega)]
    exact h4 _ (List.getElem_mem _)
theorem of_arh {Z : State} {h : Heap} {a : Addr} {ty : FieldType} {k : ClassId} {z : Int32} {vs : List Value} {dv : Value} (F : Arh Z h a k ty z [] vs dv) (hz : z.toNatClampNeg = vs.length) (h3 : vs.length < 2 ^ 31) {ex ov : Bool} (h5 : ex = true → Exa Z h a ("[" ++ ty.toString)) (h6 : ov = true → ∀ C, ty = .object C → Ovr Z k C) : ArOk Z h a ty ex ov vs := by
  obtain ⟨c, h1, h2, g3, -, g5, g6⟩ := F
  have hs : c.slots.size = vs.length := g3.trans hz
  refine ⟨c, h1, ?_, h3, fun v hv => ?_, h5, fun q C e => h2 ▸ h6 q C e⟩
  · apply List.ext_getElem?
    intro i
    by_cases hi : i < c.slots.size
    · rw [Array.getElem?_toList, g5 i hi]
      show some (vs.getD i dv) = _
      rw [List.getD_eq_getElem?_getD, List.getElem?_eq_getElem (by omega)]; rfl
    · rw [List.getElem?_eq_none (by simpa using hi), List.getElem?_eq_none (by omega)]
  · obtain ⟨i, hi⟩ := List.getElem?_of_mem hv
    obtain ⟨li, e⟩ := List.getElem?_eq_some_iff.mp hi
    have := g6 i (by omega)
    show fits ty v = true
    have e2 : vs.getD i dv = v := by rw [List.getD_eq_getElem?_getD, hi]; rfl
    exact e2 ▸ this
section Logic3
variable {W : Wd} {K : Kx} {M : Mt} {Q : Option Value → List En → Prop} {H H' : List En} {c n pc pc' pt len : Nat} {L L' : List Slot} {S : List Value}
/-- an array's clone() -/
theorem Wp.clone {y0 : MethodName} (hM : mN M = y0) {ad : String} {a : Addr} {rw ov : Bool} {ty : FieldType} {vs : List Value} {idx Wn kk : Nat} (i : Nat) (hi : H[i]? = some (a, rw, .inr (ty, true, ov, vs))) (hkk : vs.length = kk) (had : "[" ++ ty.toString = ad) (w1 : Wok W (.methodLink y0.cls idx ⟨ad, "clone", "()Ljava/lang/Object;"⟩)) (w2 : Wok W (.sameMethod ad "java/lang/Object" "clone" "()Ljava/lang/Object;")) (w3 : Wok W (.native ⟨"java/lang/Object", "clone", "()Ljava/lang/Object;"⟩))
    (w4 : Wok W (.instanceMethod ⟨"java/lang/Object", "clone", "()Ljava/lang/Object;"⟩)) (w5 : Wok W (.selects ad ⟨ad, "clone", "()Ljava/lang/Object;"⟩ ⟨"java/lang/Object", "clone", "()Ljava/lang/Object;"⟩)) (w6 : Wok W (.castable ad "java/lang/Cloneable")) (hW : (S.map fun v => v.category).sum = Wn) (hL : L.length = mL M) (hf : 1 ≤ (mR M).frames) (hlo : Wn + 14 ≤ (mR M).locals) (hc1 : c + 1 ≤ (mR M).cells) (hl1 : n + kk ≤ (mR M).slots)
    (hd : Dc (mC M) pc (.invokevirtual idx) 3 pc') (k : ∀ b : Addr, Wp W K M Q ((b, true, .inr (ty, true, false, vs)) :: H) (c + 1) (n + kk) pc' L (.ref b :: S)) : Wp W K M Q H c n pc L (.ref a :: S) := by
  subst hM
  subst hkk
  obtain ⟨hd, rfl⟩ := hd
  subst had
  exact fun T X => by
    obtain ⟨hx, hZ, ho, hb, hm, hr, hn, hl, locs, X, N, P⟩ := X
    have F : ArOk (wZ W) T.heap a ty true ov vs := P.at hi
    have h3 : vs.length < 2 ^ 31 := F.choose_spec.2.2.1
    have hE := F.choose_spec.2.2.2.2.1 rfl
    obtain ⟨kk, F'⟩ := arh_of F (.int 0)
    obtain ⟨T', h', X', e', E, A, B, st⟩ := cloneH X hx hZ ho w1 w2 w3 w4 w5 w6 rfl F' hE (g := mkF (kM K) pc L.toArray (.ref a :: S)) rfl (by rw [hm, ← hL]; simp) rfl (hbM hb hd) hf (W := Wn) (cap := vs.length) (by show 2 * 0 + _ ≤ _; omega) hlo (Nat.le_of_eq (ix_nat h3)) hc1 hl1
    obtain ⟨U, s1, s2⟩ := k T.heap.size T' ⟨hx, hZ, ho, hb, hm, hr, hn, hl, locs, X', N, by rw [e']; exact P.new E (of_arh A (ix_nat h3) h3 (fun _ => B) (fun q => nomatch q))⟩
    exact ⟨U, st _ s1, s2⟩
theorem insArr {h : Heap} {a : Addr} {r ov : Bool} {ty : FieldType} {vs : List Value} {ad : String} (P : Hp W h H) (i : Nat) (hi : H[i]? = some (a, r, .inr (ty, true, ov, vs))) (had : "[" ++ ty.toString = ad) : Ins (wZ W) h a ad true := had ▸ Ins.self ((show ArOk (wZ W) h a ty true ov vs from P.at hi).choose_spec.2.2.2.2.1 rfl)
end Logic3
theorem rngC (x : Int32) : ¬ nar .char x < 0 ∧ ¬ 65535 < nar .char x := rng_char (fits_nar_char x)
theorem i2c_int (x : Int32) (h1 : ¬ x < 0) (h2 : ¬ 65535 < x) : x.toUInt32.toUInt16.toUInt32.toInt32 = x := by
  have a := c_i2c x
  rw [Int32.lt_iff_toInt_lt] at h1 h2
  rw [← Int32.toInt_inj]
  have e0 : (0 : Int32).toInt = 0 := rfl
  have e1 : (65535 : Int32).toInt = 65535 := rfl
  rw [e0] at h1
  rw [e1] at h2
  omega
theorem i2cC_id {x : Int32} (h1 : ¬ x < 0) (h2 : ¬ 65535 < x) : x.toUInt32.toUInt16.toUInt32.toInt32 = x := i2c_int x h1 h2
theorem narC_id {x : Int32} (h1 : ¬ x < 0) (h2 : ¬ 65535 < x) : nar .char x = x := i2c_int x h1 h2
theorem le8 {x : Int32} (h : ¬ 255 < x) : ¬ 65535 < x := fun q => h (by
  rw [Int32.lt_iff_toInt_lt] at q ⊢
  have e0 : (255 : Int32).toInt = 255 := rfl
  have e1 : (65535 : Int32).toInt = 65535 := rfl
  omega)
theorem i2cC_id8 {x : Int32} (h1 : ¬ x < 0) (h2 : ¬ 255 < x) : x.toUInt32.toUInt16.toUInt32.toInt32 = x := i2c_int x h1 (le8 h2)
theorem narC_id8 {x : Int32} (h1 : ¬ x < 0) (h2 : ¬ 255 < x) : nar .char x = x := i2c_int x h1 (le8 h2)
/-- a byte read back as a char -/
theorem by8_back {x : Int32} (h1 : ¬ x < 0) (h2 : ¬ 255 < x) : by8 x &&& 255 = x := by
  have a := c_i2b x
  have b := c_mask (by8 x) 255 8 (by decide) (by decide)
  rw [Int32.lt_iff_toInt_lt] at h1 h2
  rw [← Int32.toInt_inj, b]
  have e0 : (0 : Int32).toInt = 0 := rfl
  have e1 : (255 : Int32).toInt = 255 := rfl
  rw [e0] at h1
  rw [e1] at h2
  show (x.toInt8.toInt32.toInt) % 256 = x.toInt
  omega
def lob (c : Int32) : Int32 := by8 (c >>> (0 &&& 31))
def hib (c : Int32) : Int32 := by8 (c >>> (8 &&& 31))
theorem u16_back {x : Int32} (h1 : ¬ x < 0) (h2 : ¬ 65535 < x) : (((lob x &&& 255) <<< (0 &&& 31)) ||| ((hib x &&& 255) <<< (8 &&& 31))) = x := by
  have s0 := c_ishr x 0 0 (by decide)
  have s8 := c_ishr x 8 8 (by decide)
  have a0 := c_i2b (x >>> (0 &&& 31))
  have a8 := c_i2b (x >>> (8 &&& 31))
  have m0 := c_mask (lob x) 255 8 (by decide) (by decide)
  have m8 := c_mask (hib x) 255 8 (by decide) (by decide)
  have t0 := c_ishl (lob x &&& 255) 0 0 (by decide)
  have t8 := c_ishl (hib x &&& 255) 8 8 (by decide)
  have r0 := rng32 ((lob x &&& 255) <<< (0 &&& 31))
  have r8 := rng32 ((hib x &&& 255) <<< (8 &&& 31))
  rw [Int32.lt_iff_toInt_lt] at h1 h2
  have e0 : (0 : Int32).toInt = 0 := rfl
  have e1 : (65535 : Int32).toInt = 65535 := rfl
  rw [e0] at h1
  rw [e1] at h2
  have l0 : (lob x).toInt = (x >>> (0 &&& 31)).toInt8.toInt32.toInt := rfl
  have l8 : (hib x).toInt = (x >>> (8 &&& 31)).toInt8.toInt32.toInt := rfl
  simp only [Nat.reducePow] at *
  have v0 : ((lob x &&& 255) <<< (0 &&& 31)).toInt = x.toInt % 256 := by omega
  have v8 : ((hib x &&& 255) <<< (8 &&& 31)).toInt = x.toInt / 256 * 256 := by omega
  have o := c_or' ((lob x &&& 255) <<< (0 &&& 31)) ((hib x &&& 255) <<< (8 &&& 31)) 8 (by decide) 256 rfl (by omega) (by omega) (by omega)
  have ro := rng32 (((lob x &&& 255) <<< (0 &&& 31)) ||| ((hib x &&& 255) <<< (8 &&& 31)))
  rw [← Int32.toInt_inj]
  omega
theorem ix_shl1 {k : Nat} (h : 2 * k + 1 < 2 ^ 31) : ix k <<< ((1 : Int32) &&& 31) = ix (2 * k) := by
  have a := c_ishl (ix k) 1 1 (by decide)
  have r := rng32 (ix k <<< ((1 : Int32) &&& 31))
  rw [ix_toInt (by omega)] at a
  rw [← Int32.toInt_inj, ix_toInt (by omega)]
  simp only [Nat.reducePow] at *
  omega
theorem ix_shr1 {k : Nat} (h : k < 2 ^ 31) : ix k >>> ((1 : Int32) &&& 31) = ix (k / 2) := by
  have a := c_ishr (ix k) 1 1 (by decide)
  rw [ix_toInt h] at a
  rw [← Int32.toInt_inj, ix_toInt (by omega), a]
  simp only [Nat.reducePow]
  omega
theorem catR {v : Value} (h : v.isRef = true) : v.category = 1 := by rcases ref_cases h with rfl | ⟨_, rfl⟩ <;> rfl
section Start
variable {args : Array Value} {s : State} {t u : Term}
theorem eqv_int {z : Int32} (h : (Cond.eq t (.int z)).value args s none s [] = some true) : t.eval args s none [] s = some (.int z) := by
  obtain ⟨x, y, h1, h2, -, k2⟩ := cmp_v (Or.inl h)
  obtain rfl : y = .int z := Option.some.inj (h2.symm.trans (Term.int_eval z))
  obtain ⟨z', rfl⟩ := k2
  rw [h1, gotT (Cond.eq_ints h1 h2) h]
theorem eqv_ref {y : Addr} (h : (Cond.eq t u).value args s none s [] = some true) (hu : u.eval args s none [] s = some (.ref y)) : t.eval args s none [] s = some (.ref y) := by
  obtain ⟨x, y', h1, h2, -, k2⟩ := cmp_v (Or.inl h)
  obtain rfl : y' = .ref y := Option.some.inj (h2.symm.trans hu)
  rw [h1, gotT (eq_R h1 h2 k2.2 rfl) h]
/-- an array of the start: its length and its members told by the sheet -/
theorem arStart {a : Addr} {ty : FieldType} {z : Int32} {vs : List Value} {ex : Bool} (hf : Fit s) (ev : t.eval args s none [] s = some (.ref a)) (hx : (Cond.arrayOf t ty).value args s none s [] = some true) (hl : (Cond.eq (.length t) (.int z)).value args s none s [] = some true) (hz : z = ix vs.length) (hn : vs.length < 2 ^ 31) (he : ∀ i v, vs[i]? = some v → (Term.elem t (.int (ix i))).eval args s none [] s = some v)
    (hex : ex = true → Exa s s.heap a ("[" ++ ty.toString)) : ArOk s s.heap a ty ex false vs := by
  obtain ⟨c, A⟩ := Arr.start ev hx
  have e1 := eqv_int hl
  have ha : s.arrayAt? a = some c := Arr.fin (Vm.Alike.refl _) A
  have h31 : c.slots.size < 2 ^ 31 := by
    simp only [Term.eval, ev, ha, Option.bind_eq_bind, Option.bind_some] at e1
    by_cases q : c.slots.size < 2 ^ 31
    · exact q
    · simp [q] at e1
  rw [len_f ev ha h31] at e1
  have hs : c.slots.size = vs.length := by
    have e2 : c.slots.size.toInt32 = z := by injection (Option.some.inj e1)
    exact ix_eq h31 hn (e2.trans hz)
  have hel : ∀ i v, vs[i]? = some v → c.slots[i]? = some v := fun i v hv => by
    have li : i < vs.length := (List.getElem?_eq_some_iff.mp hv).1
    have q := (elem_in (he i v hv) ev (Term.int_eval _) A.1).2
    rwa [ix_nat (by omega)] at q
  refine ⟨c, A, ?_, hn, fun v hv => ?_, hex, fun q => nomatch q⟩
  · apply List.ext_getElem?
    intro i
    by_cases li : i < vs.length
    · rw [Array.getElem?_toList, List.getElem?_eq_getElem li]
      exact hel i _ (List.getElem?_eq_getElem li)
    · rw [List.getElem?_eq_none (by simp; omega), List.getElem?_eq_none (by omega)]
  · obtain ⟨i, hi⟩ := List.getElem?_of_mem hv
    have li : i < vs.length := (List.getElem?_eq_some_iff.mp hi).1
    have q := elem_fits (j := ix i) hf A (by rw [ix_nat (by omega)]; rintro (u | u); exact ix_nn (by omega) u; omega) (by rw [ix_nat (by omega)]; exact hel i v hi)
    exact q
end Start

-- lists: instanceof that says no; a nest mate's constructor; Class objects; arraycopy
def NoSub (W : Wd) (C D : String) : Prop := ∃ c t, (wZ W).vm.findClass C = some c ∧ (wZ W).vm.findClass D = some t ∧ (wZ W).vm.assignable c t = false
theorem nsRoot {W : Wd} {O D : String} {kk : Nat} (w : Wok W (.noSuperclass O)) (wk : Wok W (.instantiable D kk)) (hn : O ≠ D) : NS (wZ W) O D := by
  obtain ⟨c, k, h1, h2, h3, -, -⟩ := Cond.noSuperclass_spec w
  obtain ⟨t, kt, g1, -⟩ := Cond.instantiable_spec wk
  have ne := ids_ne h1 g1 hn
  refine ⟨c, t, h1, g1, fun fuel => ?_⟩
  cases fuel with
  | zero => rfl
  | succ f => simp [Vm.isSubclassAux, ne, h2, h3]
theorem nsNo {W : Wd} {C S D : String} {kk : Nat} (w : Wok W (.superclass C S)) (wk : Wok W (.instantiable D kk)) (n : NS (wZ W) C D) (hn : C ≠ D) : NoSub W C D := by
  obtain ⟨c, t, h0, g0, n3⟩ := n
  obtain ⟨p, k, kp, h1, h2, h3, h4, h5, -, h7⟩ := Cond.superclass_spec h0 w
  obtain ⟨t', kt, g1, g2, g3, g4, -⟩ := Cond.instantiable_spec wk
  cases g0.symm.trans g1
  have gi : kt.isInterface = false := by
    cases q : kt.isInterface
    · rfl
    · rw [q] at g4; cases g4
  have ne := ids_ne h0 g0 hn
  refine ⟨c, t, h0, g0, ?_⟩
  show (wZ W).vm.assignableAux (255 + 1) c t = false
  simp [Vm.assignableAux, ne, h2, g2, h5, g3, gi, Vm.isSubclass, n3]
section Logic4
variable {W : Wd} {K : Kx} {M : Mt} {Q : Option Value → List En → Prop} {H H' : List En} {c n pc pc' pt len : Nat} {L L' : List Slot} {S : List Value}
theorem Wp.instNo {y0 : MethodName} (hM : mN M = y0) {a : Addr} {r : Bool} {C D : String} {fs : List Fd} {idx : Nat} (w : Wok W (.classLink y0.cls idx D)) (i : Nat) (hi : H[i]? = some (a, r, .inl (C, fs))) (F : NoSub W C D) (hd : Dc (mC M) pc (.instanceof idx) 3 pc') (k : Wp W K M Q H c n pc' L (.int 0 :: S)) : Wp W K M Q H c n pc L (.ref a :: S) := by
  subst hM
  obtain ⟨hd, rfl⟩ := hd
  exact Wp.to (fun T locs X hx hZ ho hc _ _ P N => by
    have E : ObOk (wZ W) T.heap a C fs := P.at hi
    obtain ⟨T', X', e', st⟩ := Jvm.RoadKit.instNo X hx hZ ho w rfl E.1 F (g := mkF (kM K) pc L.toArray (.ref a :: S)) rfl rfl (hbM hc hd)
    exact ⟨T', locs, X', N, by rw [e']; exact P, st⟩) k
theorem Wp.callCN {y0 : MethodName} (hM : mN M = y0) {M' : Mt} {host : String} {a : Addr} {as : List Value} {idx Wn np : Nat} {S0 : List Value} {Q' : Option Value → List En → Prop} (C : Ct W M' (.ref a :: as) H Q') {y' : MethodName} (w : Mk W M' y' np) (w1 : Wok W (.methodLinkNest y0.cls idx y' host)) (w2 : Wok W (.instanceMethod y')) (hi : y'.name = "<init>") (hT : mT M' = none) (hst : S0 = as.reverse ++ .ref a :: S) (hp : as.length = np) (hW : (S.map fun v => v.category).sum = Wn) (hL : L.length = mL M) (hR : Fits M M' c n Wn)
    (hd : Dc (mC M) pc (.invokespecial idx) 3 pc') (k : ∀ v H', Q' v H' → Wp W K M Q H' (c + (mR M').cells) (n + (mR M').slots) pc' L (pushV v S)) : Wp W K M Q H c n pc L S0 := by
  subst hM
  obtain ⟨rfl, w⟩ := w
  obtain ⟨hd, rfl⟩ := hd
  subst hst hp
  exact fun T X => by
    obtain ⟨hx, hZ, ho, hb, hm, hr, hn, hl, locs, X, N, P⟩ := X
    obtain ⟨v, vm1, ⟨T', L', k', n'⟩, -, X', ⟨Lc, ⟨N', H', P', q⟩, l1, y1, z1⟩, st⟩ := X.specialBackNest hx (y := mN M') hi ho (Cond.methodLinkNest_wide hZ w1 :) (mvT hZ w2) (hT ▸ mvT hZ w.1) w.2.2.2 (Ct.back C P hZ ⟨rfl, w⟩ hR.1 hR.2.1) (g := mkF (kM K) pc L.toArray (as.reverse ++ .ref a :: S)) rfl (by rw [hm, ← hL]; simp) (Steps.refl _) (a := a) (argsL := as) (rest := S) w.2.2.1 rfl (by show 2 * 0 + _ ≤ _; omega) (hbM hb hd) (fun _ _ => ⟨rfl, rfl, hR.2.2.1, hR.2.2.2⟩)
    dsimp only [Pt.U, Pt.locs, Pt.cells, Pt.slots] at X' l1 y1 z1 st P'
    subst l1 y1 z1
    obtain ⟨U, s1, s2⟩ := k v H' q T' ⟨hx, hZ, ho, hb, hm, hr, hn, hl, _, X', N.app N', P'⟩
    rw [pushV_eq] at s1
    exact ⟨U, st.trans s1, s2⟩
/-- a class constant whose Class object has been made -/
theorem Wp.ldcM {y0 : MethodName} (hM : mN M = y0) {C : String} {mr : Addr} {idx : Nat} (w : Wok W (.classLink y0.cls idx C)) (F : Mir (wZ W) C mr) (hd : Dc (mC M) pc (.ldc idx) 2 pc') (k : Wp W K M Q H c n pc' L (.ref mr :: S)) : Wp W K M Q H c n pc L S := by
  subst hM
  obtain ⟨hd, rfl⟩ := hd
  exact Wp.to (fun T locs X hx hZ ho hc _ _ P N => by
    obtain ⟨cc, kc, m1, m2, m3, -⟩ := F
    obtain ⟨k', q, ek⟩ := hZ.alike.2.2 _ _ m2
    have ev : (Term.mirror C).eval (kA K) (kS K) none [] (kS K) = some (.ref mr) := by
      have f : (kS K).vm.findClass C = some cc := by rw [hZ.alike.findClass]; exact m1
      have mm : k'.mirror = some mr := by rw [ek]; exact m3
      simp [Term.eval, f, q, mm]
    obtain ⟨vm', X', st⟩ := X.ldcMirror hx ho (mvT hZ w) ev (g := mkF (kM K) pc L.toArray S) rfl (hbM hc hd)
    exact ⟨_, locs, X', N, P, st⟩) k
theorem Wp.gcls {y0 : MethodName} (hM : mN M = y0) {C : String} {a mr : Addr} {r ov : Bool} {ty : FieldType} {vs : List Value} {idx Wn : Nat} (i : Nat) (hi : H[i]? = some (a, r, .inr (ty, true, ov, vs))) (had : "[" ++ ty.toString = C) (w1 : Wok W (.methodLink y0.cls idx ⟨"java/lang/Object", "getClass", "()Ljava/lang/Class;"⟩)) (w2 : Wok W (.declares ⟨"java/lang/Object", "getClass", "()Ljava/lang/Class;"⟩)) (w3 : Wok W (.noSuperclass "java/lang/Object")) (w4 : Wok W (.selects C ⟨"java/lang/Object", "getClass", "()Ljava/lang/Class;"⟩ ⟨"java/lang/Object", "getClass", "()Ljava/lang/Class;"⟩))
    (w5 : Wok W (.instanceMethod ⟨"java/lang/Object", "getClass", "()Ljava/lang/Class;"⟩)) (w6 : Wok W (.native ⟨"java/lang/Object", "getClass", "()Ljava/lang/Class;"⟩)) (F : Mir (wZ W) C mr) (hW : (S.map fun v => v.category).sum = Wn) (hL : L.length = mL M) (hf : 1 ≤ (mR M).frames) (hlo : Wn + (nativeFrameWords "java/lang/Object" "getClass" 1 + 11) ≤ (mR M).locals)
    (hd : Dc (mC M) pc (.invokevirtual idx) 3 pc') (k : Wp W K M Q H c n pc' L (.ref mr :: S)) : Wp W K M Q H c n pc L (.ref a :: S) := by
  subst hM
  obtain ⟨hd, rfl⟩ := hd
  exact Wp.to (fun T locs X hx hZ ho hc hm _ P N => by
    have E : ArOk (wZ W) T.heap a ty true ov vs := P.at hi
    obtain ⟨T', X', e', st⟩ := Jvm.RoadKit.gcls X hx hZ ho w1 w2 w3 w4 w5 w6 rfl (had ▸ E.choose_spec.2.2.2.2.1 rfl) F (g := mkF (kM K) pc L.toArray (.ref a :: S)) rfl (by rw [hm, ← hL]; simp) rfl (hbM hc hd) hf (W := Wn) (by show 2 * 0 + _ ≤ _; omega) hlo
    exact ⟨T', locs, X', N, by rw [e']; exact P, st⟩) k
theorem ArOk.arv {Z : State} {h : Heap} {a : Addr} {ty : FieldType} {ex ov : Bool} {vs : List Value} (F : ArOk Z h a ty ex ov vs) (dv : Value) : ∃ k, Arv Z h a k ty (ix vs.length) vs dv ∧ (ov = true → ∀ C, ty = .object C → Ovr Z k C) := by
  obtain ⟨c, h1, h2, h3, h4, h5, h6⟩ := F
  have hs : c.slots.size = vs.length := by rw [← h2]; simp
  refine ⟨c.cls, ⟨c, h1, rfl, by rw [hs, ix_nat h3], ix_nn h3, fun i hi => ?_, fun i hi => ?_⟩, h6⟩
  · rw [← Array.getElem?_toList, h2, List.getD_eq_getElem?_getD, List.getElem?_eq_getElem (by omega)]; rfl
  · rw [List.getD_eq_getElem?_getD, List.getElem?_eq_getElem (by omega)]
    exact h4 _ (List.getElem_mem _)
theorem ArOk.of_arv {Z : State} {h : Heap} {a : Addr} {ty : FieldType} {k : ClassId} {z : Int32} {vs : List Value} {dv : Value} (F : Arv Z h a k ty z vs dv) (hz : z.toNatClampNeg = vs.length) (h3 : vs.length < 2 ^ 31) {ex ov : Bool} (h5 : ex = true → Exa Z h a ("[" ++ ty.toString)) (h6 : ov = true → ∀ C, ty = .object C → Ovr Z k C) : ArOk Z h a ty ex ov vs :=
  of_arh (Arv.arh F) hz h3 h5 h6
/-- one entry is written by a callee or a native: what else is known stays -/
theorem Hp.keepAt {h h' : Heap} {a : Addr} {D D' : Ds} (P : Hp W h H) {i : Nat} (hi : H[i]? = some (a, true, D)) (E : Keep h h' [a]) (F : DsOk (wZ W) h' a D') : Hp W h' (H.set i (a, true, D')) := by
  have hm := List.mem_of_getElem? hi
  have hn := (P.2.1 _ hm).1 rfl
  refine ⟨P.1.keep E (fun x hx => by rw [List.mem_singleton.mp hx]; exact hn), fun x hx => ?_, ?_⟩
  · obtain ⟨j, hj⟩ := List.getElem?_of_mem hx
    by_cases e : i = j
    · subst e
      rw [List.getElem?_set_self (List.getElem?_eq_some_iff.mp hi).1] at hj
      cases hj
      exact ⟨fun _ => hn, F⟩
    · rw [List.getElem?_set_ne e] at hj
      have hx' := P.2.1 x (List.mem_of_getElem? hj)
      exact ⟨hx'.1, hx'.2.keep E (fun q => P.apart hi hj e rfl (List.mem_singleton.mp q))⟩
  · rw [List.pairwise_iff_getElem]
    intro j k hj hk hjk
    rw [List.length_set] at hj hk
    have q := (List.pairwise_iff_getElem.mp P.2.2) j k hj hk hjk
    obtain ⟨li, e⟩ := List.getElem?_eq_some_iff.mp hi
    rw [List.getElem_set, List.getElem_set]
    have fix : ∀ x : En, x = (a, true, D) → x.2.1 = true ∧ x.1 = a := fun x e => by subst e; exact ⟨rfl, rfl⟩
    obtain ⟨f1, f2⟩ := fix _ e
    split
    · rename_i e1
      subst e1
      split
      · rename_i e2; omega
      · rcases q with u | u
        · exact absurd (f1.symm.trans u.1) (by decide)
        · exact Or.inr (fun w => u (f2.trans w))
    · split
      · rename_i e2
        subst e2
        rcases q with u | u
        · exact absurd (f1.symm.trans u.2) (by decide)
        · exact Or.inr (fun w => u (w.trans f2.symm))
      · exact q
theorem us_eq (vs : List Value) (dv : Value) {s m : Nat} (h : s + m ≤ vs.length) : (vs.drop s).take m = (List.range m).map fun i => vs.getD (s + i) dv := by
  apply List.ext_getElem?
  intro i
  by_cases hi : i < m
  · rw [List.getElem?_take_of_lt hi, List.getElem?_drop, List.getElem?_map, List.getElem?_range hi]
    show vs[s + i]? = some (vs.getD (s + i) dv)
    rw [List.getD_eq_getElem?_getD, List.getElem?_eq_getElem (by omega)]
    rfl
  · rw [List.getElem?_eq_none (by simp; omega), List.getElem?_eq_none (by simp; omega)]
/-- System.arraycopy between two known arrays -/
theorem Wp.acopy {y0 : MethodName} (hM : mN M = y0) {a b : Addr} {r ex ov ex' ov' : Bool} {ty ty' : FieldType} {vs vd us : List Value} {idx Wn s d m : Nat} {sp dp nn : Int32} (i j : Nat) (hi : H[i]? = some (a, r, .inr (ty, ex, ov, vs))) (hj : H[j]? = some (b, true, .inr (ty', ex', ov', vd))) (w1 : Wok W (.methodLink y0.cls idx Jvm.Stand.acN)) (w2 : Wok W (.native Jvm.Stand.acN)) (w3 : Wok W (.static Jvm.Stand.acN)) (w4 : Wok W (.initialized "java/lang/System"))
    (hty : (ty = ty' ∧ refKind ty = false) ∨ (refKind ty = true ∧ refKind ty' = true ∧ ∀ h, Hp W h H → StoL (wZ W) h b us)) (h1 : sp = ix s) (h2 : dp = ix d) (h3 : nn = ix m) (hus : (vs.drop s).take m = us) (h4 : s + m ≤ vs.length) (h5 : d + m ≤ vd.length)
    (hW : (S.map fun v => v.category).sum = Wn) (hL : L.length = mL M) (hf : 1 ≤ (mR M).frames) (hlo : Wn + (nativeFrameWords "java/lang/System" "arraycopy" 5 + 11) ≤ (mR M).locals)
    (hd : Dc (mC M) pc (.invokestatic idx) 3 pc') (hH : H.set j (b, true, .inr (ty', ex', ov', vd.take d ++ us ++ vd.drop (d + m))) = H') (k : Wp W K M Q H' c n pc' L S) : Wp W K M Q H c n pc L (.int nn :: .int dp :: .ref b :: .int sp :: .ref a :: S) := by
  subst hM
  obtain ⟨hd, rfl⟩ := hd
  subst hH h1 h2 h3
  exact Wp.to (fun T locs X hx hZ ho hc hm _ P N => by
    have A : ArOk (wZ W) T.heap a ty ex ov vs := P.at hi
    have B : ArOk (wZ W) T.heap b ty' ex' ov' vd := P.at hj
    have la : vs.length < 2 ^ 31 := A.choose_spec.2.2.1
    have lb : vd.length < 2 ^ 31 := B.choose_spec.2.2.1
    obtain ⟨ka, A', -⟩ := A.arv (.int 0)
    obtain ⟨kb, B', ob⟩ := B.arv (.int 0)
    have ge := (P.2.1 _ (List.mem_of_getElem? hj)).1 rfl
    have bex := B.choose_spec.2.2.2.2.1
    have es : (ix s).toNatClampNeg = s := ix_nat (by omega)
    have ed : (ix d).toNatClampNeg = d := ix_nat (by omega)
    have em : (ix m).toNatClampNeg = m := ix_nat (by omega)
    have lu : us.length = m := by rw [← hus]; simp; omega
    obtain ⟨T', h', L2, X', e', N', Kp, R', st⟩ := cpA X hx hZ ho w1 w2 w3 w4 rfl A' B' (us := us) (sp := ix s) (dp := ix d) (nn := ix m) (hty.imp id fun u => ⟨u.1, u.2.1, u.2.2 _ P⟩) (ix_nn (by omega)) (ix_nn (by omega)) (ix_nn (by omega)) (by rw [es, em, ix_nat la]; exact h4) (by rw [ed, em, ix_nat lb]; exact h5) (by rw [es, em, ← hus]; exact us_eq vs _ h4) (by rw [ed, em]; exact h5) N ge (g := mkF (kM K) pc L.toArray _) rfl (by rw [hm, ← hL]; simp) (rest := S) rfl (hbM hc hd) hf (W := Wn) (by show 2 * 0 + _ ≤ _; omega) hlo
    have ln : (vd.take d ++ us ++ vd.drop (d + m)).length = vd.length := by simp; omega
    rw [ed, em] at R'
    refine ⟨T', L2, X', N', ?_, st⟩
    rw [e']
    exact P.keepAt hj Kp (ArOk.of_arv R' (by rw [ix_nat lb, ln]) (by rw [ln]; exact lb) (fun q => (bex q).keep Kp) ob)) k
end Logic4
theorem stoOf {W : Wd} {H : List En} {h : Heap} {a y : Addr} {r ex : Bool} {C : String} {vs : List Value} (P : Hp W h H) (i : Nat) (hi : H[i]? = some (a, r, .inr (.object C, ex, true, vs))) (I : Ins (wZ W) h y C true) : Sto (wZ W) h a (.ref y) := by
  obtain ⟨c, h1, -, -, -, -, h6⟩ : ArOk (wZ W) h a (.object C) ex true vs := P.at hi
  exact Sto.of h1 (h6 rfl C rfl) I
theorem narRef {ty : FieldType} {v : Value} (hv : v.isRef = true) : narrow ty v = v := by rcases ref_cases hv with rfl | ⟨_, rfl⟩ <;> cases ty <;> rfl
theorem fitRef {ty : FieldType} {v : Value} (hv : v.isRef = true) (hr : ty.isReference = true) : fits ty v = true := by rcases ref_cases hv with rfl | ⟨_, rfl⟩ <;> cases ty <;> first | rfl | cases hr
theorem mask255 (x : Int32) : ¬ x &&& 255 < 0 ∧ ¬ 255 < x &&& 255 := by
  have a := c_and x 255 (by decide)
  rw [Int32.lt_iff_toInt_lt, Int32.lt_iff_toInt_lt]
  have e0 : (0 : Int32).toInt = 0 := rfl
  have e1 : (255 : Int32).toInt = 255 := rfl
  omega
theorem and3 (x : Int32) : x &&& 3 = 0 ∨ x &&& 3 = 1 ∨ x &&& 3 = 2 ∨ x &&& 3 = 3 := by
  have a := c_and x 3 (by decide)
  have e3 : (3 : Int32).toInt = 3 := rfl
  have e2 : (2 : Int32).toInt = 2 := rfl
  have e1 : (1 : Int32).toInt = 1 := rfl
  have e0 : (0 : Int32).toInt = 0 := rfl
  rw [← Int32.toInt_inj, ← Int32.toInt_inj, ← Int32.toInt_inj, ← Int32.toInt_inj, e0, e1, e2, e3]
  omega
def Ws (W : Wd) : Prop := (∀ d ∈ tables_1, d.before (wA W) (wZ W) = true) ∧ (∃ cs : Int32, Sta (wZ W) (wZ W).heap "java/lang/String" "COMPACT_STRINGS" "Z" (.int cs) ∧ ¬ cs = 0)
theorem st_compact {W : Wd} (hw : Ws W) : ∃ cs : Int32, Sta (wZ W) (wZ W).heap "java/lang/String" "COMPACT_STRINGS" "Z" (.int cs) ∧ ¬ cs = 0 := hw.2
abbrev oStr (r : Bool) (a : Addr) (f0 : Value) (f1 : Value) : En := (a, r, .inl ("java/lang/String", [("java/lang/String", "value", "[B", f0), ("java/lang/String", "coder", "B", f1)]))
abbrev oAL (r : Bool) (a : Addr) (f0 : Value) (f1 : Value) (f2 : Value) : En := (a, r, .inl ("java/util/ArrayList", [("java/util/AbstractList", "modCount", "I", f0), ("java/util/ArrayList", "elementData", "[Ljava/lang/Object;", f1), ("java/util/ArrayList", "size", "I", f2)]))
abbrev oUE (r : Bool) (a : Addr) (f0 : Value) (f1 : Value) (f2 : Value) (f3 : Value) : En := (a, r, .inl ("com/example/keybridge/keybridge/directory/UserEntry", [("com/example/keybridge/keybridge/directory/UserEntry", "dn", "Ljava/lang/String;", f0), ("com/example/keybridge/keybridge/directory/UserEntry", "username", "Ljava/lang/String;", f1), ("com/example/keybridge/keybridge/directory/UserEntry", "mail", "Ljava/lang/String;", f2), ("com/example/keybridge/keybridge/directory/UserEntry", "groups", "Ljava/util/List;", f3)]))
abbrev oL12 (r : Bool) (a : Addr) (f0 : Value) (f1 : Value) : En := (a, r, .inl ("java/util/ImmutableCollections$List12", [("java/util/ImmutableCollections$List12", "e0", "Ljava/lang/Object;", f0), ("java/util/ImmutableCollections$List12", "e1", "Ljava/lang/Object;", f1)]))
abbrev oLN (r : Bool) (a : Addr) (f0 : Value) (f1 : Value) : En := (a, r, .inl ("java/util/ImmutableCollections$ListN", [("java/util/ImmutableCollections$ListN", "elements", "[Ljava/lang/Object;", f0), ("java/util/ImmutableCollections$ListN", "allowNulls", "Z", f1)]))
abbrev oOb (r : Bool) (a : Addr)  : En := (a, r, .inl ("java/lang/Object", []))
def Mcp2 : Mt := (⟨"java/lang/StringUTF16", "compress", "([CI[BII)I"⟩, jdk_52_method_21_code, 7, some .int, ⟨0, 0, 0, 0⟩)
theorem nm_Mcp2 : mN Mcp2 = ⟨"java/lang/StringUTF16", "compress", "([CI[BII)I"⟩ := by delta mN Mcp2; rfl
theorem d_jdk_52_21_3 : Dc jdk_52_method_21_code 3 (.iload 5) 2 5 := ⟨by decide +kernel, rfl⟩
theorem d_jdk_52_21_5 : Dc jdk_52_method_21_code 5 (.iload 4) 2 7 := ⟨by decide +kernel, rfl⟩
theorem d_jdk_52_21_7 : Bj jdk_52_method_21_code 7 (.if_icmp .ge 37) 37 10 44 := ⟨by decide +kernel, rfl, by decide, rfl⟩
theorem d_jdk_52_21_10 : Dc jdk_52_method_21_code 10 (.aload_n 0) 1 11 := ⟨by decide +kernel, rfl⟩
theorem d_jdk_52_21_11 : Dc jdk_52_method_21_code 11 (.iload_n 1) 1 12 := ⟨by decide +kernel, rfl⟩
theorem d_jdk_52_21_12 : Dc jdk_52_method_21_code 12 (.caload) 1 13 := ⟨by decide +kernel, rfl⟩
theorem d_jdk_52_21_13 : Dc jdk_52_method_21_code 13 (.istore 6) 2 15 := ⟨by decide +kernel, rfl⟩
theorem d_jdk_52_21_15 : Dc jdk_52_method_21_code 15 (.iload 6) 2 17 := ⟨by decide +kernel, rfl⟩
theorem d_jdk_52_21_17 : Dc jdk_52_method_21_code 17 (.sipush 255) 3 20 := ⟨by decide +kernel, rfl⟩
theorem ls_255 : (Int16.ofInt 255).toInt32 = 255 := by decide
theorem d_jdk_52_21_20 : Bj jdk_52_method_21_code 20 (.if_icmp .le 6) 6 23 26 := ⟨by decide +kernel, rfl, by decide, rfl⟩
theorem d_jdk_52_21_26 : Dc jdk_52_method_21_code 26 (.aload_n 2) 1 27 := ⟨by decide +kernel, rfl⟩
theorem d_jdk_52_21_27 : Dc jdk_52_method_21_code 27 (.iload_n 3) 1 28 := ⟨by decide +kernel, rfl⟩
theorem d_jdk_52_21_28 : Dc jdk_52_method_21_code 28 (.iload 6) 2 30 := ⟨by decide +kernel, rfl⟩
theorem d_jdk_52_21_30 : Dc jdk_52_method_21_code 30 (.i2b) 1 31 := ⟨by decide +kernel, rfl⟩
theorem d_jdk_52_21_31 : Dc jdk_52_method_21_code 31 (.bastore) 1 32 := ⟨by decide +kernel, rfl⟩
theorem d_jdk_52_21_32 : Dc jdk_52_method_21_code 32 (.iinc 1 1) 3 35 := ⟨by decide +kernel, rfl⟩
theorem d_jdk_52_21_35 : Dc jdk_52_method_21_code 35 (.iinc 3 1) 3 38 := ⟨by decide +kernel, rfl⟩
theorem d_jdk_52_21_38 : Dc jdk_52_method_21_code 38 (.iinc 5 1) 3 41 := ⟨by decide +kernel, rfl⟩
theorem d_jdk_52_21_41 : Bj jdk_52_method_21_code 41 (.goto (-38)) (-38) 44 3 := ⟨by decide +kernel, rfl, by decide, rfl⟩
theorem d_jdk_52_21_44 : Dc jdk_52_method_21_code 44 (.iload 4) 2 46 := ⟨by decide +kernel, rfl⟩
theorem d_jdk_52_21_46 : Dc jdk_52_method_21_code 46 (.ireturn) 1 47 := ⟨by decide +kernel, rfl⟩
set_option maxRecDepth 65536 in
set_option maxHeartbeats 40000000 in
theorem lp_cp2 {W : Wd} {K : Kx} (hw : Ws W) (a b : Addr) (r ex ov : Bool) (cs ds : List Int32) (F : List En) (hp : ∀ c ∈ cs, ¬ c < 0 ∧ ¬ 255 < c) (hd : cs.length = ds.length) (hn : cs.length < 2 ^ 31) (Q : Option Value → List En → Prop) (hQ : Q (some (.int (ix cs.length))) ((a, r, .inr (.char, ex, ov, csL cs)) :: (eB b (csL (cs.map by8))) :: F)) :
    ∀ (k i : Nat) (o : Slot), i + k = cs.length → One o → Wp W K Mcp2 Q ((a, r, .inr (.char, ex, ov, csL cs)) :: (eB b (csL (part by8 cs ds i))) :: F) 0 0 3 [.val (.ref a), .val (.int (ix i)), .val (.ref b), .val (.int (ix i)), .val (.int (ix cs.length)), .val (.int (ix i)), o] []
  | 0, i, o, hi, ho_o => by
    have hi1 : i < 2 ^ 31 := by omega
    have e : part by8 cs ds i = cs.map by8 := part_end hd (by omega)
    rw [e]
    refine Wp.iload rfl d_jdk_52_21_3 ?_
    refine Wp.iload rfl d_jdk_52_21_5 ?_
    refine Wp.icT (flt (fun q => by rw [ix_lt hi1 hn] at q; omega)).2.1 d_jdk_52_21_7 ?_
    refine Wp.iload rfl d_jdk_52_21_44 ?_
    refine Wp.iret rfl d_jdk_52_21_46 (by decide) (by decide) ?_
    exact hQ
  | k + 1, i, o, hi, ho_o => by
    have hi1 : i < 2 ^ 31 := by omega
    have hi2 : i < cs.length := by omega
    obtain ⟨x, hx⟩ : ∃ x, cs[i]? = some x := ⟨_, List.getElem?_eq_getElem hi2⟩
    refine Wp.iload rfl d_jdk_52_21_3 ?_
    refine Wp.iload rfl d_jdk_52_21_5 ?_
    refine Wp.icF (tlt ((ix_lt hi1 hn).mpr hi2)).2.1 d_jdk_52_21_7 ?_
    refine Wp.aloadN rfl rfl d_jdk_52_21_10 ?_
    refine Wp.iloadN rfl d_jdk_52_21_11 ?_
    refine Wp.caload 0 i rfl (ix_nn hi1) (ix_nat hi1) (csL_get hx) d_jdk_52_21_12 ?_
    refine Wp.istore (L' := [.val (.ref a), .val (.int (ix i)), .val (.ref b), .val (.int (ix i)), .val (.int (ix cs.length)), .val (.int (ix i)), .val (.int x)]) (storeOne rfl ho_o rfl rfl) d_jdk_52_21_13 ?_
    refine Wp.iload rfl d_jdk_52_21_15 ?_
    refine Wp.sipush ls_255 d_jdk_52_21_17 ?_
    refine Wp.icT (flt (hp x (List.mem_of_getElem? hx)).2).2.2.2 d_jdk_52_21_20 ?_
    refine Wp.aloadN rfl rfl d_jdk_52_21_26 ?_
    refine Wp.iloadN rfl d_jdk_52_21_27 ?_
    refine Wp.iload rfl d_jdk_52_21_28 ?_
    refine Wp.i2b (z := (by8 x)) rfl d_jdk_52_21_30 ?_
    refine Wp.bastore (z := (by8 x)) 1 i rfl (ix_nn hi1) (ix_nat hi1) (by rw [csL_len, part_len hd]; omega) (by8_by8 _) d_jdk_52_21_31 (H' := ((a, r, .inr (.char, ex, ov, csL cs)) :: (eB b (csL (part by8 cs ds (i + 1)))) :: F)) (by rw [csL_set, part_set hd hx]; rfl) ?_
    refine Wp.iinc (z := (ix (i + 1))) (L' := [.val (.ref a), .val (.int (ix (i + 1))), .val (.ref b), .val (.int (ix i)), .val (.int (ix cs.length)), .val (.int (ix i)), .val (.int x)]) rfl (ix_inc i) rfl d_jdk_52_21_32 ?_
    refine Wp.iinc (z := (ix (i + 1))) (L' := [.val (.ref a), .val (.int (ix (i + 1))), .val (.ref b), .val (.int (ix (i + 1))), .val (.int (ix cs.length)), .val (.int (ix i)), .val (.int x)]) rfl (ix_inc i) rfl d_jdk_52_21_35 ?_
    refine Wp.iinc (z := (ix (i + 1))) (L' := [.val (.ref a), .val (.int (ix (i + 1))), .val (.ref b), .val (.int (ix (i + 1))), .val (.int (ix cs.length)), .val (.int (ix (i + 1))), .val (.int x)]) rfl (ix_inc i) rfl d_jdk_52_21_38 ?_
    refine Wp.goto d_jdk_52_21_41 ?_
    exact lp_cp2 hw a b r ex ov cs ds F hp hd hn Q hQ k (i + 1) _ (by omega) (One.val rfl)
theorem d_jdk_52_21_0 : Dc jdk_52_method_21_code 0 (.iconst 0) 1 1 := ⟨by decide +kernel, rfl⟩
theorem lc_0 : Int32.ofInt 0 = 0 := by decide
theorem d_jdk_52_21_1 : Dc jdk_52_method_21_code 1 (.istore 5) 2 3 := ⟨by decide +kernel, rfl⟩
theorem pf_java_lang_StringUTF16 : plainName "java/lang/StringUTF16" = true := by first | (simp [plainName, overriddenIn]; done) | decide +kernel
set_option maxRecDepth 65536 in
set_option maxHeartbeats 40000000 in
theorem rm_cp2 {W : Wd} (hw : Ws W) (a : Addr) (b : Addr) (r : Bool) (ex : Bool) (ov : Bool) (cs : List Int32) (ds : List Int32) (F : List En) (hp : ∀ c ∈ cs, ¬ c < 0 ∧ ¬ 255 < c) (hd : cs.length = ds.length) (hn : cs.length < 2 ^ 31) : Ct W Mcp2 [.ref a, .int 0, .ref b, .int 0, .int (ix cs.length)] ((a, r, .inr (.char, ex, ov, csL cs)) :: (eB b (csL ds)) :: F) (fun v H' => v = some (.int (ix cs.length)) ∧ H' = ((a, r, .inr (.char, ex, ov, csL cs)) :: (eB b (csL (cs.map by8))) :: F)) := by
  refine Ct.intro (L0 := [.val (.ref a), .val (.int 0), .val (.ref b), .val (.int 0), .val (.int (ix cs.length)), .unset, .unset]) (plainFor_of_name pf_java_lang_StringUTF16) rfl (fun K => ?_)
  refine Wp.iconst lc_0 d_jdk_52_21_0 ?_
  refine Wp.istore (L' := [.val (.ref a), .val (.int 0), .val (.ref b), .val (.int 0), .val (.int (ix cs.length)), .val (.int 0), .unset]) rfl d_jdk_52_21_1 ?_
  have q := lp_cp2 (K := K) hw a b r ex ov cs ds F hp hd hn (fun v H' => v = some (.int (ix cs.length)) ∧ H' = ((a, r, .inr (.char, ex, ov, csL cs)) :: (eB b (csL (cs.map by8))) :: F)) ⟨rfl, rfl⟩ cs.length 0 .unset (by omega) One.u
  rw [part_zero] at q
  exact q
theorem d_jdk_52_16_0 : Dc jdk_52_method_16_code 0 (.iload_n 2) 1 1 := ⟨by decide +kernel, rfl⟩
theorem d_jdk_52_16_1 : Dc jdk_52_method_16_code 1 (.newarray .byte) 2 3 := ⟨by decide +kernel, rfl⟩
theorem w_23 {W : Wd} (hw : Ws W) : Wok W (Jvm.Cond.arrayClass Jvm.ClassFile.FieldType.byte) := hw.1 _ (List.mem_of_getElem? (i := 23) rfl)
theorem d_jdk_52_16_3 : Dc jdk_52_method_16_code 3 (.astore_n 3) 1 4 := ⟨by decide +kernel, rfl⟩
theorem d_jdk_52_16_4 : Dc jdk_52_method_16_code 4 (.aload_n 0) 1 5 := ⟨by decide +kernel, rfl⟩
theorem d_jdk_52_16_5 : Dc jdk_52_method_16_code 5 (.iload_n 1) 1 6 := ⟨by decide +kernel, rfl⟩
theorem d_jdk_52_16_6 : Dc jdk_52_method_16_code 6 (.aload_n 3) 1 7 := ⟨by decide +kernel, rfl⟩
theorem d_jdk_52_16_7 : Dc jdk_52_method_16_code 7 (.iconst 0) 1 8 := ⟨by decide +kernel, rfl⟩
theorem d_jdk_52_16_8 : Dc jdk_52_method_16_code 8 (.iload_n 2) 1 9 := ⟨by decide +kernel, rfl⟩
theorem d_jdk_52_16_9 : Dc jdk_52_method_16_code 9 (.invokestatic 115) 3 12 := ⟨by decide +kernel, rfl⟩
theorem pp_1_0 : [1, 0].isPerm (List.range 2) = true := by decide +kernel
theorem w_26 {W : Wd} (hw : Ws W) : Wok W (Jvm.Cond.code ({ cls := "java/lang/StringUTF16", name := "compress", desc := "([CI[BII)I" } : Jvm.MethodName) jdk_52_method_21_code (7 : Nat) (Option.some Jvm.ClassFile.FieldType.int)) := hw.1 _ (List.mem_of_getElem? (i := 26) rfl)
theorem w_21 {W : Wd} (hw : Ws W) : Wok W (Jvm.Cond.initialized "java/lang/StringUTF16") := hw.1 _ (List.mem_of_getElem? (i := 21) rfl)
theorem pd___CI_BII_I : parseMethodDescriptor "([CI[BII)I" = some ⟨[(.array .char), .int, (.array .byte), .int, .int], some .int⟩ := by decide +kernel
theorem mk_Mcp2 {W : Wd} (hw : Ws W) : Mk W Mcp2 ⟨"java/lang/StringUTF16", "compress", "([CI[BII)I"⟩ 5 := Mk.of nm_Mcp2 rfl rfl rfl (w_26 hw) (w_21 hw) (mkLen pd___CI_BII_I rfl) (by decide)
theorem w_24 {W : Wd} (hw : Ws W) : Wok W (Jvm.Cond.methodLink "java/lang/StringUTF16" (115 : Nat) ({ cls := "java/lang/StringUTF16", name := "compress", desc := "([CI[BII)I" } : Jvm.MethodName)) := hw.1 _ (List.mem_of_getElem? (i := 24) rfl)
theorem w_25 {W : Wd} (hw : Ws W) : Wok W (Jvm.Cond.static ({ cls := "java/lang/StringUTF16", name := "compress", desc := "([CI[BII)I" } : Jvm.MethodName)) := hw.1 _ (List.mem_of_getElem? (i := 25) rfl)
theorem d_jdk_52_16_12 : Dc jdk_52_method_16_code 12 (.istore 4) 2 14 := ⟨by decide +kernel, rfl⟩
theorem d_jdk_52_16_14 : Dc jdk_52_method_16_code 14 (.iload 4) 2 16 := ⟨by decide +kernel, rfl⟩
theorem d_jdk_52_16_16 : Dc jdk_52_method_16_code 16 (.iload_n 2) 1 17 := ⟨by decide +kernel, rfl⟩
theorem d_jdk_52_16_17 : Bj jdk_52_method_16_code 17 (.if_icmp .eq 40) 40 20 57 := ⟨by decide +kernel, rfl, by decide, rfl⟩
theorem d_jdk_52_16_57 : Dc jdk_52_method_16_code 57 (.aload_n 3) 1 58 := ⟨by decide +kernel, rfl⟩
theorem d_jdk_52_16_58 : Dc jdk_52_method_16_code 58 (.areturn) 1 59 := ⟨by decide +kernel, rfl⟩
def M_cp1 (n : Nat) : Mt := (⟨"java/lang/StringUTF16", "compress", "([CII)[B"⟩, jdk_52_method_16_code, 6, some (.array .byte), ⟨1, 1, n, 18⟩)
theorem nm_M_cp1 {n : Nat} : mN (M_cp1 n) = ⟨"java/lang/StringUTF16", "compress", "([CII)[B"⟩ := by delta mN M_cp1; rfl
set_option maxRecDepth 65536 in
set_option maxHeartbeats 40000000 in
theorem rm_cp1 {W : Wd} (hw : Ws W) (a : Addr) (r : Bool) (ex : Bool) (ov : Bool) (cs : List Int32) (F : List En) (hp : ∀ c ∈ cs, ¬ c < 0 ∧ ¬ 255 < c) (hn : cs.length ≤ 4000) : Ct W (M_cp1 cs.length) [.ref a, .int 0, .int (ix cs.length)] ((a, r, .inr (.char, ex, ov, csL cs)) :: F) (fun v H' => ∃ b, v = some (.ref b) ∧ H' = ((eB b (csL (cs.map by8))) :: (a, r, .inr (.char, ex, ov, csL cs)) :: F)) := by
  refine Ct.intro (L0 := [.val (.ref a), .val (.int 0), .val (.int (ix cs.length)), .unset, .unset, .unset]) (plainFor_of_name pf_java_lang_StringUTF16) rfl (fun K => ?_)
  refine Wp.iloadN rfl d_jdk_52_16_0 ?_
  refine Wp.newP (kk := cs.length) (vs := csL (List.replicate cs.length 0)) d_jdk_52_16_1 (w_23 hw) (ix_nat (by omega)) (ix_nn (by omega)) (by omega) (Nat.le_refl _) (Nat.le_of_eq (Nat.zero_add _)) (csL_rep _) (fun a1 => ?_)
  refine Wp.astoreN (L' := [.val (.ref a), .val (.int 0), .val (.int (ix cs.length)), .val (.ref a1), .unset, .unset]) rfl rfl d_jdk_52_16_3 ?_
  refine Wp.aloadN rfl rfl d_jdk_52_16_4 ?_
  refine Wp.iloadN rfl d_jdk_52_16_5 ?_
  refine Wp.aloadN rfl rfl d_jdk_52_16_6 ?_
  refine Wp.iconst lc_0 d_jdk_52_16_7 ?_
  refine Wp.iloadN rfl d_jdk_52_16_8 ?_
  refine Wp.perm [1, 0] 2 pp_1_0 (H' := ((a, r, .inr (.char, ex, ov, csL cs)) :: (eB a1 (csL (List.replicate cs.length 0))) :: F)) rfl ?_
  refine Wp.callS nm_M_cp1 (rm_cp2 hw a a1 r ex ov cs (List.replicate cs.length 0) _ hp (by simp) (by omega)) (mk_Mcp2 hw) (w_24 hw) (w_25 hw) rfl rfl (Wn := 0) rfl rfl (by simp [Fits, mR, mL, M_cp1, Mcp2]) d_jdk_52_16_9 ?_
  rintro _ _ ⟨rfl, rfl⟩
  refine Wp.istore (L' := [.val (.ref a), .val (.int 0), .val (.int (ix cs.length)), .val (.ref a1), .val (.int (ix cs.length)), .unset]) rfl d_jdk_52_16_12 ?_
  refine Wp.iload rfl d_jdk_52_16_14 ?_
  refine Wp.iloadN rfl d_jdk_52_16_16 ?_
  refine Wp.icT (teq rfl).1 d_jdk_52_16_17 ?_
  refine Wp.aloadN rfl rfl d_jdk_52_16_57 ?_
  refine Wp.perm [1, 0] 2 pp_1_0 (H' := ((eB a1 (csL (cs.map by8))) :: (a, r, .inr (.char, ex, ov, csL cs)) :: F)) rfl ?_
  refine Wp.aret rfl rfl rfl d_jdk_52_16_58 (by simp [mR, M_cp1, Mcp2]) (by simp [mR, M_cp1, Mcp2]) ?_
  exact ⟨a1, rfl, rfl⟩
theorem d_jdk_52_15_0 : Dc jdk_52_method_15_code 0 (.iload_n 1) 1 1 := ⟨by decide +kernel, rfl⟩
theorem d_jdk_52_15_1 : Dc jdk_52_method_15_code 1 (.aload_n 0) 1 2 := ⟨by decide +kernel, rfl⟩
theorem d_jdk_52_15_2 : Dc jdk_52_method_15_code 2 (.arraylength) 1 3 := ⟨by decide +kernel, rfl⟩
theorem d_jdk_52_15_3 : Dc jdk_52_method_15_code 3 (.isub) 1 4 := ⟨by decide +kernel, rfl⟩
theorem d_jdk_52_15_4 : Dc jdk_52_method_15_code 4 (.bipush 31) 2 6 := ⟨by decide +kernel, rfl⟩
theorem lb_31 : (Int8.ofInt 31).toInt32 = 31 := by decide
theorem d_jdk_52_15_6 : Dc jdk_52_method_15_code 6 (.iushr) 1 7 := ⟨by decide +kernel, rfl⟩
theorem d_jdk_52_15_7 : Dc jdk_52_method_15_code 7 (.i2b) 1 8 := ⟨by decide +kernel, rfl⟩
theorem d_jdk_52_15_8 : Dc jdk_52_method_15_code 8 (.ireturn) 1 9 := ⟨by decide +kernel, rfl⟩
def M_cfl : Mt := (⟨"java/lang/StringUTF16", "coderFromArrayLen", "([BI)B"⟩, jdk_52_method_15_code, 2, some .byte, ⟨0, 0, 0, 0⟩)
theorem nm_M_cfl : mN M_cfl = ⟨"java/lang/StringUTF16", "coderFromArrayLen", "([BI)B"⟩ := by delta mN M_cfl; rfl
set_option maxRecDepth 65536 in
set_option maxHeartbeats 40000000 in
theorem rm_cfl {W : Wd} (hw : Ws W) (b : Addr) (r : Bool) (ex : Bool) (ov : Bool) (bs : List Int32) (n : Nat) (F : List En) (hb : bs.length = n) : Ct W M_cfl [.ref b, .int (ix n)] ((b, r, .inr (.byte, ex, ov, csL bs)) :: F) (fun v H' => v = some (.int 0) ∧ H' = ((b, r, .inr (.byte, ex, ov, csL bs)) :: F)) := by
  refine Ct.intro (L0 := [.val (.ref b), .val (.int (ix n))]) (plainFor_of_name pf_java_lang_StringUTF16) rfl (fun K => ?_)
  refine Wp.iloadN rfl d_jdk_52_15_0 ?_
  refine Wp.aloadN rfl rfl d_jdk_52_15_1 ?_
  refine Wp.alen (z := (ix n)) 0 rfl (congrArg Nat.toInt32 ((csL_len _).trans hb)) d_jdk_52_15_2 ?_
  refine Wp.isub (z := 0) (Int32.sub_self _) d_jdk_52_15_3 ?_
  refine Wp.bipush lb_31 d_jdk_52_15_4 ?_
  refine Wp.iushr (z := 0) (by decide) d_jdk_52_15_6 ?_
  refine Wp.i2b (z := 0) (by decide) d_jdk_52_15_7 ?_
  refine Wp.iretN (z := 0) (by simp) rfl (by decide) d_jdk_52_15_8 (by decide) (by decide) ?_
  exact ⟨rfl, rfl⟩
theorem d_jdk_42_149_0 : Dc jdk_42_method_149_code 0 (.aload_n 0) 1 1 := ⟨by decide +kernel, rfl⟩
theorem d_jdk_42_149_1 : Dc jdk_42_method_149_code 1 (.invokespecial 1) 3 4 := ⟨by decide +kernel, rfl⟩
theorem w_15 {W : Wd} (hw : Ws W) : Wok W (Jvm.Cond.methodLink "java/lang/String" (1 : Nat) ({ cls := "java/lang/Object", name := "<init>", desc := "()V" } : Jvm.MethodName)) := hw.1 _ (List.mem_of_getElem? (i := 15) rfl)
theorem w_16 {W : Wd} (hw : Ws W) : Wok W (Jvm.Cond.instanceMethod ({ cls := "java/lang/Object", name := "<init>", desc := "()V" } : Jvm.MethodName)) := hw.1 _ (List.mem_of_getElem? (i := 16) rfl)
theorem w_17 {W : Wd} (hw : Ws W) : Wok W (Jvm.Cond.code ({ cls := "java/lang/Object", name := "<init>", desc := "()V" } : Jvm.MethodName) object_method_1_code (1 : Nat) (Option.none : Option Jvm.ClassFile.FieldType)) := hw.1 _ (List.mem_of_getElem? (i := 17) rfl)
theorem d_jdk_42_149_4 : Dc jdk_42_method_149_code 4 (.iload_n 3) 1 5 := ⟨by decide +kernel, rfl⟩
theorem d_jdk_42_149_5 : Bj jdk_42_method_149_code 5 (.ifCond .ne 22) 22 8 27 := ⟨by decide +kernel, rfl, by decide, rfl⟩
theorem d_jdk_42_149_27 : Dc jdk_42_method_149_code 27 (.getstatic 38) 3 30 := ⟨by decide +kernel, rfl⟩
theorem w_18 {W : Wd} (hw : Ws W) : Wok W (Jvm.Cond.fieldLink "java/lang/String" (38 : Nat) "java/lang/String" "COMPACT_STRINGS" "Z") := hw.1 _ (List.mem_of_getElem? (i := 18) rfl)
theorem d_jdk_42_149_30 : Bj jdk_42_method_149_code 30 (.ifCond .eq 28) 28 33 58 := ⟨by decide +kernel, rfl, by decide, rfl⟩
theorem d_jdk_42_149_33 : Dc jdk_42_method_149_code 33 (.aload_n 1) 1 34 := ⟨by decide +kernel, rfl⟩
theorem d_jdk_42_149_34 : Dc jdk_42_method_149_code 34 (.iload_n 2) 1 35 := ⟨by decide +kernel, rfl⟩
theorem d_jdk_42_149_35 : Dc jdk_42_method_149_code 35 (.iload_n 3) 1 36 := ⟨by decide +kernel, rfl⟩
theorem d_jdk_42_149_36 : Dc jdk_42_method_149_code 36 (.invokestatic 177) 3 39 := ⟨by decide +kernel, rfl⟩
theorem w_22 {W : Wd} (hw : Ws W) : Wok W (Jvm.Cond.code ({ cls := "java/lang/StringUTF16", name := "compress", desc := "([CII)[B" } : Jvm.MethodName) jdk_52_method_16_code (6 : Nat) (Option.some (Jvm.ClassFile.FieldType.array Jvm.ClassFile.FieldType.byte))) := hw.1 _ (List.mem_of_getElem? (i := 22) rfl)
theorem pd___CII__B : parseMethodDescriptor "([CII)[B" = some ⟨[(.array .char), .int, .int], some (.array .byte)⟩ := by decide +kernel
theorem mk_M_cp1 {W : Wd} (hw : Ws W) (n : Nat) : Mk W (M_cp1 n) ⟨"java/lang/StringUTF16", "compress", "([CII)[B"⟩ 3 := Mk.of nm_M_cp1 rfl rfl rfl (w_22 hw) (w_21 hw) (mkLen pd___CII__B rfl) (by decide)
theorem w_19 {W : Wd} (hw : Ws W) : Wok W (Jvm.Cond.methodLink "java/lang/String" (177 : Nat) ({ cls := "java/lang/StringUTF16", name := "compress", desc := "([CII)[B" } : Jvm.MethodName)) := hw.1 _ (List.mem_of_getElem? (i := 19) rfl)
theorem w_20 {W : Wd} (hw : Ws W) : Wok W (Jvm.Cond.static ({ cls := "java/lang/StringUTF16", name := "compress", desc := "([CII)[B" } : Jvm.MethodName)) := hw.1 _ (List.mem_of_getElem? (i := 20) rfl)
theorem d_jdk_42_149_39 : Dc jdk_42_method_149_code 39 (.astore 5) 2 41 := ⟨by decide +kernel, rfl⟩
theorem d_jdk_42_149_41 : Dc jdk_42_method_149_code 41 (.aload_n 0) 1 42 := ⟨by decide +kernel, rfl⟩
theorem d_jdk_42_149_42 : Dc jdk_42_method_149_code 42 (.aload 5) 2 44 := ⟨by decide +kernel, rfl⟩
theorem d_jdk_42_149_44 : Dc jdk_42_method_149_code 44 (.iload_n 3) 1 45 := ⟨by decide +kernel, rfl⟩
theorem d_jdk_42_149_45 : Dc jdk_42_method_149_code 45 (.invokestatic 47) 3 48 := ⟨by decide +kernel, rfl⟩
theorem w_29 {W : Wd} (hw : Ws W) : Wok W (Jvm.Cond.code ({ cls := "java/lang/StringUTF16", name := "coderFromArrayLen", desc := "([BI)B" } : Jvm.MethodName) jdk_52_method_15_code (2 : Nat) (Option.some Jvm.ClassFile.FieldType.byte)) := hw.1 _ (List.mem_of_getElem? (i := 29) rfl)
theorem pd___BI_B : parseMethodDescriptor "([BI)B" = some ⟨[(.array .byte), .int], some .byte⟩ := by decide +kernel
theorem mk_M_cfl {W : Wd} (hw : Ws W) : Mk W M_cfl ⟨"java/lang/StringUTF16", "coderFromArrayLen", "([BI)B"⟩ 2 := Mk.of nm_M_cfl rfl rfl rfl (w_29 hw) (w_21 hw) (mkLen pd___BI_B rfl) (by decide)
theorem w_27 {W : Wd} (hw : Ws W) : Wok W (Jvm.Cond.methodLink "java/lang/String" (47 : Nat) ({ cls := "java/lang/StringUTF16", name := "coderFromArrayLen", desc := "([BI)B" } : Jvm.MethodName)) := hw.1 _ (List.mem_of_getElem? (i := 27) rfl)
theorem w_28 {W : Wd} (hw : Ws W) : Wok W (Jvm.Cond.static ({ cls := "java/lang/StringUTF16", name := "coderFromArrayLen", desc := "([BI)B" } : Jvm.MethodName)) := hw.1 _ (List.mem_of_getElem? (i := 28) rfl)
theorem d_jdk_42_149_48 : Dc jdk_42_method_149_code 48 (.putfield 15) 3 51 := ⟨by decide +kernel, rfl⟩
theorem w_31 {W : Wd} (hw : Ws W) : Wok W (Jvm.Cond.laysFinal "java/lang/String" "java/lang/String" "coder" "B") := hw.1 _ (List.mem_of_getElem? (i := 31) rfl)
theorem w_30 {W : Wd} (hw : Ws W) : Wok W (Jvm.Cond.fieldLink "java/lang/String" (15 : Nat) "java/lang/String" "coder" "B") := hw.1 _ (List.mem_of_getElem? (i := 30) rfl)
theorem w_5 {W : Wd} (hw : Ws W) : Wok W (Jvm.Cond.instantiable "java/lang/String" (4 : Nat)) := hw.1 _ (List.mem_of_getElem? (i := 5) rfl)
theorem d_jdk_42_149_51 : Dc jdk_42_method_149_code 51 (.aload_n 0) 1 52 := ⟨by decide +kernel, rfl⟩
theorem d_jdk_42_149_52 : Dc jdk_42_method_149_code 52 (.aload 5) 2 54 := ⟨by decide +kernel, rfl⟩
theorem d_jdk_42_149_54 : Dc jdk_42_method_149_code 54 (.putfield 9) 3 57 := ⟨by decide +kernel, rfl⟩
theorem w_33 {W : Wd} (hw : Ws W) : Wok W (Jvm.Cond.laysFinal "java/lang/String" "java/lang/String" "value" "[B") := hw.1 _ (List.mem_of_getElem? (i := 33) rfl)
theorem w_32 {W : Wd} (hw : Ws W) : Wok W (Jvm.Cond.fieldLink "java/lang/String" (9 : Nat) "java/lang/String" "value" "[B") := hw.1 _ (List.mem_of_getElem? (i := 32) rfl)
theorem d_jdk_42_149_57 : Dc jdk_42_method_149_code 57 (.return_) 1 58 := ⟨by decide +kernel, rfl⟩
theorem pp_2_0_1 : [2, 0, 1].isPerm (List.range 3) = true := by decide +kernel
def M_si2 (n : Nat) : Mt := (⟨"java/lang/String", "<init>", "([CIILjava/lang/Void;)V"⟩, jdk_42_method_149_code, 6, none, ⟨2, 1, n, 35⟩)
theorem nm_M_si2 {n : Nat} : mN (M_si2 n) = ⟨"java/lang/String", "<init>", "([CIILjava/lang/Void;)V"⟩ := by delta mN M_si2; rfl
theorem pf_java_lang_String : plainName "java/lang/String" = true := by first | (simp [plainName, overriddenIn]; done) | decide +kernel
set_option maxRecDepth 65536 in
set_option maxHeartbeats 40000000 in
theorem rm_si2 {W : Wd} (hw : Ws W) (s : Addr) (a : Addr) (r : Bool) (ex : Bool) (ov : Bool) (cs : List Int32) (F : List En) (hp : ∀ c ∈ cs, ¬ c < 0 ∧ ¬ 255 < c) (hn : cs.length ≤ 4000) (h1 : 0 < cs.length) : Ct W (M_si2 cs.length) [.ref s, .ref a, .int 0, .int (ix cs.length), .null] ((oStr true s (.null) (.int 0)) :: (a, r, .inr (.char, ex, ov, csL cs)) :: F) (fun v H' => ∃ b, v = none ∧ H' = ((oStr true s (.ref b) (.int 0)) :: (eB b (csL (cs.map by8))) :: (a, r, .inr (.char, ex, ov, csL cs)) :: F)) := by
  refine Ct.intro (L0 := [.val (.ref s), .val (.ref a), .val (.int 0), .val (.int (ix cs.length)), .val (.null), .unset]) (plainFor_of_name pf_java_lang_String) rfl (fun K => ?_)
  refine Wp.aloadN rfl rfl d_jdk_42_149_0 ?_
  refine Wp.initO nm_M_si2 (w_15 hw) (w_16 hw) (w_17 hw) (Wn := 0) rfl rfl (by simp [mR, M_si2, M_cp1, M_cfl]) (by simp [mR, M_si2, M_cp1, M_cfl]) d_jdk_42_149_1 ?_
  refine Wp.iloadN rfl d_jdk_42_149_4 ?_
  refine Wp.ifT (feq (fun q => by have := ix_eq (j := 0) (by omega) (by decide) q; omega)).2 d_jdk_42_149_5 ?_
  obtain ⟨cs1, Fcs1, ncs1⟩ := st_compact hw
  refine Wp.getS nm_M_si2 (host := "") (Or.inl (w_18 hw)) Via.refl Fcs1 d_jdk_42_149_27 ?_
  refine Wp.ifF (feq ncs1).1 d_jdk_42_149_30 ?_
  refine Wp.aloadN rfl rfl d_jdk_42_149_33 ?_
  refine Wp.iloadN rfl d_jdk_42_149_34 ?_
  refine Wp.iloadN rfl d_jdk_42_149_35 ?_
  refine Wp.perm [1, 0] 2 pp_1_0 (H' := ((a, r, .inr (.char, ex, ov, csL cs)) :: (oStr true s (.null) (.int 0)) :: F)) rfl ?_
  refine Wp.callS nm_M_si2 (M' := M_cp1 cs.length) (rm_cp1 hw a r ex ov cs _ hp hn) (mk_M_cp1 hw cs.length) (w_19 hw) (w_20 hw) rfl rfl (Wn := 0) rfl rfl (by simp [Fits, mR, mL, M_si2, M_cp1, M_cfl]) d_jdk_42_149_36 ?_
  rintro _ _ ⟨b_2, rfl, rfl⟩
  refine Wp.astore (L' := [.val (.ref s), .val (.ref a), .val (.int 0), .val (.int (ix cs.length)), .val (.null), .val (.ref b_2)]) rfl rfl d_jdk_42_149_39 ?_
  refine Wp.aloadN rfl rfl d_jdk_42_149_41 ?_
  refine Wp.aload rfl rfl d_jdk_42_149_42 ?_
  refine Wp.iloadN rfl d_jdk_42_149_44 ?_
  refine Wp.callS nm_M_si2 (rm_cfl hw b_2 true true false (cs.map by8) cs.length _ (by simp)) (mk_M_cfl hw) (w_27 hw) (w_28 hw) rfl rfl (Wn := 1) rfl rfl (by simp [Fits, mR, mL, M_si2, M_cp1, M_cfl]) d_jdk_42_149_45 ?_
  rintro _ _ ⟨rfl, rfl⟩
  refine Wp.putF nm_M_si2 (host := "") (Or.inl (w_30 hw)) Via.refl 2 1 rfl rfl (Or.inr ⟨(w_31 hw), rfl, rfl⟩) (w_5 hw) (ty := .byte) (by decide) rfl rfl d_jdk_42_149_48 (H' := ((eB b_2 (csL (cs.map by8))) :: (a, r, .inr (.char, ex, ov, csL cs)) :: (oStr true s (.null) (.int 0)) :: F)) rfl ?_
  refine Wp.aloadN rfl rfl d_jdk_42_149_51 ?_
  refine Wp.aload rfl rfl d_jdk_42_149_52 ?_
  refine Wp.putF nm_M_si2 (host := "") (Or.inl (w_32 hw)) Via.refl 2 0 rfl rfl (Or.inr ⟨(w_33 hw), rfl, rfl⟩) (w_5 hw) (ty := (.array .byte)) (by decide) rfl rfl d_jdk_42_149_54 (H' := ((eB b_2 (csL (cs.map by8))) :: (a, r, .inr (.char, ex, ov, csL cs)) :: (oStr true s (.ref b_2) (.int 0)) :: F)) rfl ?_
  refine Wp.perm [2, 0, 1] 3 pp_2_0_1 (H' := ((oStr true s (.ref b_2) (.int 0)) :: (eB b_2 (csL (cs.map by8))) :: (a, r, .inr (.char, ex, ov, csL cs)) :: F)) rfl ?_
  refine Wp.ret rfl d_jdk_42_149_57 (by simp [mR, M_si2, M_cp1, M_cfl]) (by simp [mR, M_si2, M_cp1, M_cfl]) ?_
  exact ⟨b_2, rfl, rfl⟩
theorem d_jdk_42_3_0 : Dc jdk_42_method_3_code 0 (.aload_n 0) 1 1 := ⟨by decide +kernel, rfl⟩
theorem d_jdk_42_3_1 : Dc jdk_42_method_3_code 1 (.aload_n 1) 1 2 := ⟨by decide +kernel, rfl⟩
theorem d_jdk_42_3_2 : Dc jdk_42_method_3_code 2 (.iconst 0) 1 3 := ⟨by decide +kernel, rfl⟩
theorem d_jdk_42_3_3 : Dc jdk_42_method_3_code 3 (.aload_n 1) 1 4 := ⟨by decide +kernel, rfl⟩
theorem d_jdk_42_3_4 : Dc jdk_42_method_3_code 4 (.arraylength) 1 5 := ⟨by decide +kernel, rfl⟩
theorem d_jdk_42_3_5 : Dc jdk_42_method_3_code 5 (.aconst_null) 1 6 := ⟨by decide +kernel, rfl⟩
theorem d_jdk_42_3_6 : Dc jdk_42_method_3_code 6 (.invokespecial 27) 3 9 := ⟨by decide +kernel, rfl⟩
theorem w_14 {W : Wd} (hw : Ws W) : Wok W (Jvm.Cond.code ({ cls := "java/lang/String", name := "<init>", desc := "([CIILjava/lang/Void;)V" } : Jvm.MethodName) jdk_42_method_149_code (6 : Nat) (Option.none : Option Jvm.ClassFile.FieldType)) := hw.1 _ (List.mem_of_getElem? (i := 14) rfl)
theorem w_6 {W : Wd} (hw : Ws W) : Wok W (Jvm.Cond.initialized "java/lang/String") := hw.1 _ (List.mem_of_getElem? (i := 6) rfl)
theorem pd___CIILjava_lang_Void__V : parseMethodDescriptor "([CIILjava/lang/Void;)V" = some ⟨[(.array .char), .int, .int, (.object "java/lang/Void")], none⟩ := by decide +kernel
theorem mk_M_si2 {W : Wd} (hw : Ws W) (n : Nat) : Mk W (M_si2 n) ⟨"java/lang/String", "<init>", "([CIILjava/lang/Void;)V"⟩ 4 := Mk.of nm_M_si2 rfl rfl rfl (w_14 hw) (w_6 hw) (mkLen pd___CIILjava_lang_Void__V rfl) (by decide)
theorem w_11 {W : Wd} (hw : Ws W) : Wok W (Jvm.Cond.methodLink "java/lang/String" (27 : Nat) ({ cls := "java/lang/String", name := "<init>", desc := "([CIILjava/lang/Void;)V" } : Jvm.MethodName)) := hw.1 _ (List.mem_of_getElem? (i := 11) rfl)
theorem w_12 {W : Wd} (hw : Ws W) : Wok W (Jvm.Cond.instanceMethod ({ cls := "java/lang/String", name := "<init>", desc := "([CIILjava/lang/Void;)V" } : Jvm.MethodName)) := hw.1 _ (List.mem_of_getElem? (i := 12) rfl)
theorem d_jdk_42_3_9 : Dc jdk_42_method_3_code 9 (.return_) 1 10 := ⟨by decide +kernel, rfl⟩
def M_si (n : Nat) : Mt := (⟨"java/lang/String", "<init>", "([C)V"⟩, jdk_42_method_3_code, 2, none, ⟨3, 1, n, 52⟩)
theorem nm_M_si {n : Nat} : mN (M_si n) = ⟨"java/lang/String", "<init>", "([C)V"⟩ := by delta mN M_si; rfl
set_option maxRecDepth 65536 in
set_option maxHeartbeats 40000000 in
theorem rm_si {W : Wd} (hw : Ws W) (s : Addr) (a : Addr) (r : Bool) (ex : Bool) (ov : Bool) (cs : List Int32) (F : List En) (hp : ∀ c ∈ cs, ¬ c < 0 ∧ ¬ 255 < c) (hn : cs.length ≤ 4000) (h1 : 0 < cs.length) : Ct W (M_si cs.length) [.ref s, .ref a] ((oStr true s (.null) (.int 0)) :: (a, r, .inr (.char, ex, ov, csL cs)) :: F) (fun v H' => ∃ b, v = none ∧ H' = ((oStr true s (.ref b) (.int 0)) :: (eB b (csL (cs.map by8))) :: (a, r, .inr (.char, ex, ov, csL cs)) :: F)) := by
  refine Ct.intro (L0 := [.val (.ref s), .val (.ref a)]) (plainFor_of_name pf_java_lang_String) rfl (fun K => ?_)
  refine Wp.aloadN rfl rfl d_jdk_42_3_0 ?_
  refine Wp.aloadN rfl rfl d_jdk_42_3_1 ?_
  refine Wp.iconst lc_0 d_jdk_42_3_2 ?_
  refine Wp.aloadN rfl rfl d_jdk_42_3_3 ?_
  refine Wp.alen (z := (ix cs.length)) 1 rfl (congrArg Nat.toInt32 (csL_len _)) d_jdk_42_3_4 ?_
  refine Wp.aconstNull d_jdk_42_3_5 ?_
  refine Wp.callC nm_M_si (M' := M_si2 cs.length) (rm_si2 hw s a r ex ov cs _ hp hn h1) (mk_M_si2 hw cs.length) (w_11 hw) (w_12 hw) rfl rfl rfl rfl (Wn := 0) rfl rfl (by simp [Fits, mR, mL, M_si, M_si2]) d_jdk_42_3_6 ?_
  rintro _ _ ⟨b_1, rfl, rfl⟩
  refine Wp.ret rfl d_jdk_42_3_9 (by simp [mR, M_si, M_si2]) (by simp [mR, M_si, M_si2]) ?_
  exact ⟨b_1, rfl, rfl⟩
theorem d_jdk_22_1_0 : Dc jdk_22_method_1_code 0 (.aload_n 0) 1 1 := ⟨by decide +kernel, rfl⟩
theorem d_jdk_22_1_1 : Dc jdk_22_method_1_code 1 (.invokespecial 1) 3 4 := ⟨by decide +kernel, rfl⟩
theorem w_52 {W : Wd} (hw : Ws W) : Wok W (Jvm.Cond.methodLink "java/util/AbstractCollection" (1 : Nat) ({ cls := "java/lang/Object", name := "<init>", desc := "()V" } : Jvm.MethodName)) := hw.1 _ (List.mem_of_getElem? (i := 52) rfl)
theorem d_jdk_22_1_4 : Dc jdk_22_method_1_code 4 (.return_) 1 5 := ⟨by decide +kernel, rfl⟩
def M_aci : Mt := (⟨"java/util/AbstractCollection", "<init>", "()V"⟩, jdk_22_method_1_code, 1, none, ⟨1, 0, 0, 12⟩)
theorem nm_M_aci : mN M_aci = ⟨"java/util/AbstractCollection", "<init>", "()V"⟩ := by delta mN M_aci; rfl
theorem pf_java_util_AbstractCollection : plainName "java/util/AbstractCollection" = true := by first | (simp [plainName, overriddenIn]; done) | decide +kernel
set_option maxRecDepth 65536 in
set_option maxHeartbeats 40000000 in
theorem rm_aci {W : Wd} (hw : Ws W) (l : Addr) (F : List En) : Ct W M_aci [.ref l] F (fun v H' => v = none ∧ H' = F) := by
  refine Ct.intro (L0 := [.val (.ref l)]) (plainFor_of_name pf_java_util_AbstractCollection) rfl (fun K => ?_)
  refine Wp.aloadN rfl rfl d_jdk_22_1_0 ?_
  refine Wp.initO nm_M_aci (w_52 hw) (w_16 hw) (w_17 hw) (Wn := 0) rfl rfl (by decide) (by decide) d_jdk_22_1_1 ?_
  refine Wp.ret rfl d_jdk_22_1_4 (by decide) (by decide) ?_
  exact ⟨rfl, rfl⟩
theorem d_jdk_39_1_0 : Dc jdk_39_method_1_code 0 (.aload_n 0) 1 1 := ⟨by decide +kernel, rfl⟩
theorem d_jdk_39_1_1 : Dc jdk_39_method_1_code 1 (.invokespecial 1) 3 4 := ⟨by decide +kernel, rfl⟩
theorem w_51 {W : Wd} (hw : Ws W) : Wok W (Jvm.Cond.code ({ cls := "java/util/AbstractCollection", name := "<init>", desc := "()V" } : Jvm.MethodName) jdk_22_method_1_code (1 : Nat) (Option.none : Option Jvm.ClassFile.FieldType)) := hw.1 _ (List.mem_of_getElem? (i := 51) rfl)
theorem w_50 {W : Wd} (hw : Ws W) : Wok W (Jvm.Cond.initialized "java/util/AbstractCollection") := hw.1 _ (List.mem_of_getElem? (i := 50) rfl)
theorem pd___V : parseMethodDescriptor "()V" = some ⟨[], none⟩ := by decide +kernel
theorem mk_M_aci {W : Wd} (hw : Ws W) : Mk W M_aci ⟨"java/util/AbstractCollection", "<init>", "()V"⟩ 0 := Mk.of nm_M_aci rfl rfl rfl (w_51 hw) (w_50 hw) (mkLen pd___V rfl) (by decide)
theorem w_46 {W : Wd} (hw : Ws W) : Wok W (Jvm.Cond.methodLink "java/util/AbstractList" (1 : Nat) ({ cls := "java/util/AbstractCollection", name := "<init>", desc := "()V" } : Jvm.MethodName)) := hw.1 _ (List.mem_of_getElem? (i := 46) rfl)
theorem w_47 {W : Wd} (hw : Ws W) : Wok W (Jvm.Cond.instanceMethod ({ cls := "java/util/AbstractCollection", name := "<init>", desc := "()V" } : Jvm.MethodName)) := hw.1 _ (List.mem_of_getElem? (i := 47) rfl)
theorem d_jdk_39_1_4 : Dc jdk_39_method_1_code 4 (.aload_n 0) 1 5 := ⟨by decide +kernel, rfl⟩
theorem d_jdk_39_1_5 : Dc jdk_39_method_1_code 5 (.iconst 0) 1 6 := ⟨by decide +kernel, rfl⟩
theorem d_jdk_39_1_6 : Dc jdk_39_method_1_code 6 (.putfield 7) 3 9 := ⟨by decide +kernel, rfl⟩
theorem w_54 {W : Wd} (hw : Ws W) : Wok W (Jvm.Cond.lays "java/util/ArrayList" "java/util/AbstractList" "modCount" "I") := hw.1 _ (List.mem_of_getElem? (i := 54) rfl)
theorem w_53 {W : Wd} (hw : Ws W) : Wok W (Jvm.Cond.fieldLink "java/util/AbstractList" (7 : Nat) "java/util/AbstractList" "modCount" "I") := hw.1 _ (List.mem_of_getElem? (i := 53) rfl)
theorem w_35 {W : Wd} (hw : Ws W) : Wok W (Jvm.Cond.instantiable "java/util/ArrayList" (3 : Nat)) := hw.1 _ (List.mem_of_getElem? (i := 35) rfl)
theorem d_jdk_39_1_9 : Dc jdk_39_method_1_code 9 (.return_) 1 10 := ⟨by decide +kernel, rfl⟩
def M_abi : Mt := (⟨"java/util/AbstractList", "<init>", "()V"⟩, jdk_39_method_1_code, 1, none, ⟨2, 0, 0, 24⟩)
theorem nm_M_abi : mN M_abi = ⟨"java/util/AbstractList", "<init>", "()V"⟩ := by delta mN M_abi; rfl
theorem pf_java_util_AbstractList : plainName "java/util/AbstractList" = true := by first | (simp [plainName, overriddenIn]; done) | decide +kernel
set_option maxRecDepth 65536 in
set_option maxHeartbeats 40000000 in
theorem rm_abi {W : Wd} (hw : Ws W) (l : Addr) (e : Value) (F : List En) : Ct W M_abi [.ref l] ((oAL true l (.int 0) (e) (.int 0)) :: F) (fun v H' => v = none ∧ H' = ((oAL true l (.int 0) (e) (.int 0)) :: F)) := by
  refine Ct.intro (L0 := [.val (.ref l)]) (plainFor_of_name pf_java_util_AbstractList) rfl (fun K => ?_)
  refine Wp.aloadN rfl rfl d_jdk_39_1_0 ?_
  refine Wp.callC nm_M_abi (rm_aci hw l _ ) (mk_M_aci hw) (w_46 hw) (w_47 hw) rfl rfl rfl rfl (Wn := 0) rfl rfl (by decide) d_jdk_39_1_1 ?_
  rintro _ _ ⟨rfl, rfl⟩
  refine Wp.aloadN rfl rfl d_jdk_39_1_4 ?_
  refine Wp.iconst lc_0 d_jdk_39_1_5 ?_
  refine Wp.putF nm_M_abi (host := "") (Or.inl (w_53 hw)) Via.refl 0 0 rfl rfl (Or.inl (w_54 hw)) (w_35 hw) (ty := .int) (by decide) rfl rfl d_jdk_39_1_6 (H' := ((oAL true l (.int 0) (e) (.int 0)) :: F)) rfl ?_
  refine Wp.ret rfl d_jdk_39_1_9 (by decide) (by decide) ?_
  exact ⟨rfl, rfl⟩
theorem d_jdk_38_2_0 : Dc jdk_38_method_2_code 0 (.aload_n 0) 1 1 := ⟨by decide +kernel, rfl⟩
theorem d_jdk_38_2_1 : Dc jdk_38_method_2_code 1 (.invokespecial 1) 3 4 := ⟨by decide +kernel, rfl⟩
theorem w_45 {W : Wd} (hw : Ws W) : Wok W (Jvm.Cond.code ({ cls := "java/util/AbstractList", name := "<init>", desc := "()V" } : Jvm.MethodName) jdk_39_method_1_code (1 : Nat) (Option.none : Option Jvm.ClassFile.FieldType)) := hw.1 _ (List.mem_of_getElem? (i := 45) rfl)
theorem w_44 {W : Wd} (hw : Ws W) : Wok W (Jvm.Cond.initialized "java/util/AbstractList") := hw.1 _ (List.mem_of_getElem? (i := 44) rfl)
theorem mk_M_abi {W : Wd} (hw : Ws W) : Mk W M_abi ⟨"java/util/AbstractList", "<init>", "()V"⟩ 0 := Mk.of nm_M_abi rfl rfl rfl (w_45 hw) (w_44 hw) (mkLen pd___V rfl) (by decide)
theorem w_40 {W : Wd} (hw : Ws W) : Wok W (Jvm.Cond.methodLink "java/util/ArrayList" (1 : Nat) ({ cls := "java/util/AbstractList", name := "<init>", desc := "()V" } : Jvm.MethodName)) := hw.1 _ (List.mem_of_getElem? (i := 40) rfl)
theorem w_41 {W : Wd} (hw : Ws W) : Wok W (Jvm.Cond.instanceMethod ({ cls := "java/util/AbstractList", name := "<init>", desc := "()V" } : Jvm.MethodName)) := hw.1 _ (List.mem_of_getElem? (i := 41) rfl)
theorem d_jdk_38_2_4 : Dc jdk_38_method_2_code 4 (.aload_n 0) 1 5 := ⟨by decide +kernel, rfl⟩
theorem d_jdk_38_2_5 : Dc jdk_38_method_2_code 5 (.getstatic 39) 3 8 := ⟨by decide +kernel, rfl⟩
theorem w_55 {W : Wd} (hw : Ws W) : Wok W (Jvm.Cond.fieldLink "java/util/ArrayList" (39 : Nat) "java/util/ArrayList" "DEFAULTCAPACITY_EMPTY_ELEMENTDATA" "[Ljava/lang/Object;") := hw.1 _ (List.mem_of_getElem? (i := 55) rfl)
theorem d_jdk_38_2_8 : Dc jdk_38_method_2_code 8 (.putfield 9) 3 11 := ⟨by decide +kernel, rfl⟩
theorem w_57 {W : Wd} (hw : Ws W) : Wok W (Jvm.Cond.lays "java/util/ArrayList" "java/util/ArrayList" "elementData" "[Ljava/lang/Object;") := hw.1 _ (List.mem_of_getElem? (i := 57) rfl)
theorem w_56 {W : Wd} (hw : Ws W) : Wok W (Jvm.Cond.fieldLink "java/util/ArrayList" (9 : Nat) "java/util/ArrayList" "elementData" "[Ljava/lang/Object;") := hw.1 _ (List.mem_of_getElem? (i := 56) rfl)
theorem d_jdk_38_2_11 : Dc jdk_38_method_2_code 11 (.return_) 1 12 := ⟨by decide +kernel, rfl⟩
def M_ali : Mt := (⟨"java/util/ArrayList", "<init>", "()V"⟩, jdk_38_method_2_code, 1, none, ⟨3, 0, 0, 36⟩)
theorem nm_M_ali : mN M_ali = ⟨"java/util/ArrayList", "<init>", "()V"⟩ := by delta mN M_ali; rfl
theorem pf_java_util_ArrayList : plainName "java/util/ArrayList" = true := by first | (simp [plainName, overriddenIn]; done) | decide +kernel
set_option maxRecDepth 65536 in
set_option maxHeartbeats 40000000 in
theorem rm_ali {W : Wd} (hw : Ws W) (l : Addr) (de : Addr) (F : List En) (hde : Sta (wZ W) (wZ W).heap "java/util/ArrayList" "DEFAULTCAPACITY_EMPTY_ELEMENTDATA" "[Ljava/lang/Object;" (.ref de)) : Ct W M_ali [.ref l] ((oAL true l (.int 0) (.null) (.int 0)) :: F) (fun v H' => v = none ∧ H' = ((oAL true l (.int 0) (.ref de) (.int 0)) :: F)) := by
  refine Ct.intro (L0 := [.val (.ref l)]) (plainFor_of_name pf_java_util_ArrayList) rfl (fun K => ?_)
  refine Wp.aloadN rfl rfl d_jdk_38_2_0 ?_
  refine Wp.callC nm_M_ali (rm_abi hw l .null _ ) (mk_M_abi hw) (w_40 hw) (w_41 hw) rfl rfl rfl rfl (Wn := 0) rfl rfl (by decide) d_jdk_38_2_1 ?_
  rintro _ _ ⟨rfl, rfl⟩
  refine Wp.aloadN rfl rfl d_jdk_38_2_4 ?_
  refine Wp.getS nm_M_ali (host := "") (Or.inl (w_55 hw)) Via.refl hde d_jdk_38_2_5 ?_
  refine Wp.putF nm_M_ali (host := "") (Or.inl (w_56 hw)) Via.refl 0 1 rfl rfl (Or.inl (w_57 hw)) (w_35 hw) (ty := (.array (.object "java/lang/Object"))) (by decide) rfl rfl d_jdk_38_2_8 (H' := ((oAL true l (.int 0) (.ref de) (.int 0)) :: F)) rfl ?_
  refine Wp.ret rfl d_jdk_38_2_11 (by decide) (by decide) ?_
  exact ⟨rfl, rfl⟩
theorem d_jdk_29_65_0 : Dc jdk_29_method_65_code 0 (.iload_n 0) 1 1 := ⟨by decide +kernel, rfl⟩
theorem d_jdk_29_65_1 : Dc jdk_29_method_65_code 1 (.iload_n 1) 1 2 := ⟨by decide +kernel, rfl⟩
theorem d_jdk_29_65_2 : Bj jdk_29_method_65_code 2 (.if_icmp .lt 7) 7 5 9 := ⟨by decide +kernel, rfl, by decide, rfl⟩
theorem d_jdk_29_65_5 : Dc jdk_29_method_65_code 5 (.iload_n 0) 1 6 := ⟨by decide +kernel, rfl⟩
theorem d_jdk_29_65_6 : Bj jdk_29_method_65_code 6 (.goto 4) 4 9 10 := ⟨by decide +kernel, rfl, by decide, rfl⟩
theorem d_jdk_29_65_10 : Dc jdk_29_method_65_code 10 (.ireturn) 1 11 := ⟨by decide +kernel, rfl⟩
def M_max : Mt := (⟨"java/lang/Math", "max", "(II)I"⟩, jdk_29_method_65_code, 2, some .int, ⟨0, 0, 0, 0⟩)
theorem nm_M_max : mN M_max = ⟨"java/lang/Math", "max", "(II)I"⟩ := by delta mN M_max; rfl
theorem pf_java_lang_Math_max_II_I : plainFor (⟨"java/lang/Math", "max", "(II)I"⟩ : MethodName) = true := Jvm.Free.JP.mathPlain rfl (by decide +kernel)
set_option maxRecDepth 65536 in
set_option maxHeartbeats 40000000 in
theorem rm_max {W : Wd} (hw : Ws W) (F : List En) : Ct W M_max [.int 10, .int 1] F (fun v H' => v = some (.int 10) ∧ H' = F) := by
  refine Ct.intro (L0 := [.val (.int 10), .val (.int 1)]) pf_java_lang_Math_max_II_I rfl (fun K => ?_)
  refine Wp.iloadN rfl d_jdk_29_65_0 ?_
  refine Wp.iloadN rfl d_jdk_29_65_1 ?_
  refine Wp.icF (by decide) d_jdk_29_65_2 ?_
  refine Wp.iloadN rfl d_jdk_29_65_5 ?_
  refine Wp.goto d_jdk_29_65_6 ?_
  refine Wp.iret rfl d_jdk_29_65_10 (by decide) (by decide) ?_
  exact ⟨rfl, rfl⟩
theorem d_jdk_38_6_0 : Dc jdk_38_method_6_code 0 (.aload_n 0) 1 1 := ⟨by decide +kernel, rfl⟩
theorem d_jdk_38_6_1 : Dc jdk_38_method_6_code 1 (.getfield 9) 3 4 := ⟨by decide +kernel, rfl⟩
theorem d_jdk_38_6_4 : Dc jdk_38_method_6_code 4 (.arraylength) 1 5 := ⟨by decide +kernel, rfl⟩
theorem d_jdk_38_6_5 : Dc jdk_38_method_6_code 5 (.istore_n 2) 1 6 := ⟨by decide +kernel, rfl⟩
theorem d_jdk_38_6_6 : Dc jdk_38_method_6_code 6 (.iload_n 2) 1 7 := ⟨by decide +kernel, rfl⟩
theorem d_jdk_38_6_7 : Bj jdk_38_method_6_code 7 (.ifCond .gt 13) 13 10 20 := ⟨by decide +kernel, rfl, by decide, rfl⟩
theorem d_jdk_38_6_10 : Dc jdk_38_method_6_code 10 (.aload_n 0) 1 11 := ⟨by decide +kernel, rfl⟩
theorem d_jdk_38_6_11 : Dc jdk_38_method_6_code 11 (.getfield 9) 3 14 := ⟨by decide +kernel, rfl⟩
theorem d_jdk_38_6_14 : Dc jdk_38_method_6_code 14 (.getstatic 39) 3 17 := ⟨by decide +kernel, rfl⟩
theorem d_jdk_38_6_17 : Bj jdk_38_method_6_code 17 (.if_acmp .eq 28) 28 20 45 := ⟨by decide +kernel, rfl, by decide, rfl⟩
theorem d_jdk_38_6_45 : Dc jdk_38_method_6_code 45 (.aload_n 0) 1 46 := ⟨by decide +kernel, rfl⟩
theorem d_jdk_38_6_46 : Dc jdk_38_method_6_code 46 (.bipush 10) 2 48 := ⟨by decide +kernel, rfl⟩
theorem lb_10 : (Int8.ofInt 10).toInt32 = 10 := by decide
theorem d_jdk_38_6_48 : Dc jdk_38_method_6_code 48 (.iload_n 1) 1 49 := ⟨by decide +kernel, rfl⟩
theorem d_jdk_38_6_49 : Dc jdk_38_method_6_code 49 (.invokestatic 79) 3 52 := ⟨by decide +kernel, rfl⟩
theorem w_145 {W : Wd} (hw : Ws W) : Wok W (Jvm.Cond.code ({ cls := "java/lang/Math", name := "max", desc := "(II)I" } : Jvm.MethodName) jdk_29_method_65_code (2 : Nat) (Option.some Jvm.ClassFile.FieldType.int)) := hw.1 _ (List.mem_of_getElem? (i := 145) rfl)
theorem w_144 {W : Wd} (hw : Ws W) : Wok W (Jvm.Cond.initialized "java/lang/Math") := hw.1 _ (List.mem_of_getElem? (i := 144) rfl)
theorem pd__II_I : parseMethodDescriptor "(II)I" = some ⟨[.int, .int], some .int⟩ := by decide +kernel
theorem mk_M_max {W : Wd} (hw : Ws W) : Mk W M_max ⟨"java/lang/Math", "max", "(II)I"⟩ 2 := Mk.of nm_M_max rfl rfl rfl (w_145 hw) (w_144 hw) (mkLen pd__II_I rfl) (by decide)
theorem w_142 {W : Wd} (hw : Ws W) : Wok W (Jvm.Cond.methodLink "java/util/ArrayList" (79 : Nat) ({ cls := "java/lang/Math", name := "max", desc := "(II)I" } : Jvm.MethodName)) := hw.1 _ (List.mem_of_getElem? (i := 142) rfl)
theorem w_143 {W : Wd} (hw : Ws W) : Wok W (Jvm.Cond.static ({ cls := "java/lang/Math", name := "max", desc := "(II)I" } : Jvm.MethodName)) := hw.1 _ (List.mem_of_getElem? (i := 143) rfl)
theorem d_jdk_38_6_52 : Dc jdk_38_method_6_code 52 (.anewarray 7) 3 55 := ⟨by decide +kernel, rfl⟩
theorem w_146 {W : Wd} (hw : Ws W) : Wok W (Jvm.Cond.classLink "java/util/ArrayList" (7 : Nat) "java/lang/Object") := hw.1 _ (List.mem_of_getElem? (i := 146) rfl)
theorem w_147 {W : Wd} (hw : Ws W) : Wok W (Jvm.Cond.arrayOver (Jvm.ClassFile.FieldType.object "java/lang/Object")) := hw.1 _ (List.mem_of_getElem? (i := 147) rfl)
theorem d_jdk_38_6_55 : Dc jdk_38_method_6_code 55 (.dup_x1) 1 56 := ⟨by decide +kernel, rfl⟩
theorem d_jdk_38_6_56 : Dc jdk_38_method_6_code 56 (.putfield 9) 3 59 := ⟨by decide +kernel, rfl⟩
theorem d_jdk_38_6_59 : Dc jdk_38_method_6_code 59 (.areturn) 1 60 := ⟨by decide +kernel, rfl⟩
def M_gr1 : Mt := (⟨"java/util/ArrayList", "grow", "(I)[Ljava/lang/Object;"⟩, jdk_38_method_6_code, 4, some (.array (.object "java/lang/Object")), ⟨1, 1, 10, 14⟩)
theorem nm_M_gr1 : mN M_gr1 = ⟨"java/util/ArrayList", "grow", "(I)[Ljava/lang/Object;"⟩ := by delta mN M_gr1; rfl
set_option maxRecDepth 65536 in
set_option maxHeartbeats 40000000 in
theorem rm_gr1 {W : Wd} (hw : Ws W) (l : Addr) (de : Addr) (F : List En) (hde : Sta (wZ W) (wZ W).heap "java/util/ArrayList" "DEFAULTCAPACITY_EMPTY_ELEMENTDATA" "[Ljava/lang/Object;" (.ref de)) : Ct W M_gr1 [.ref l, .int 1] ((oAL true l (.int 1) (.ref de) (.int 0)) :: (de, false, .inr ((.object "java/lang/Object"), true, false, [])) :: F) (fun v H' => ∃ e, v = some (.ref e) ∧ H' = ((eO e [.null, .null, .null, .null, .null, .null, .null, .null, .null, .null]) :: (oAL true l (.int 1) (.ref e) (.int 0)) :: (de, false, .inr ((.object "java/lang/Object"), true, false, [])) :: F)) := by
  refine Ct.intro (L0 := [.val (.ref l), .val (.int 1), .unset, .unset]) (plainFor_of_name pf_java_util_ArrayList) rfl (fun K => ?_)
  refine Wp.aloadN rfl rfl d_jdk_38_6_0 ?_
  refine Wp.getF nm_M_gr1 (host := "") (Or.inl (w_56 hw)) Via.refl 0 1 rfl rfl d_jdk_38_6_1 ?_
  refine Wp.alen (z := 0) 1 rfl (by decide) d_jdk_38_6_4 ?_
  refine Wp.istoreN (L' := [.val (.ref l), .val (.int 1), .val (.int 0), .unset]) rfl d_jdk_38_6_5 ?_
  refine Wp.iloadN rfl d_jdk_38_6_6 ?_
  refine Wp.ifF (by decide) d_jdk_38_6_7 ?_
  refine Wp.aloadN rfl rfl d_jdk_38_6_10 ?_
  refine Wp.getF nm_M_gr1 (host := "") (Or.inl (w_56 hw)) Via.refl 0 1 rfl rfl d_jdk_38_6_11 ?_
  refine Wp.getS nm_M_gr1 (host := "") (Or.inl (w_55 hw)) Via.refl hde d_jdk_38_6_14 ?_
  refine Wp.acT rfl rfl (acT_eq _) d_jdk_38_6_17 ?_
  refine Wp.aloadN rfl rfl d_jdk_38_6_45 ?_
  refine Wp.bipush lb_10 d_jdk_38_6_46 ?_
  refine Wp.iloadN rfl d_jdk_38_6_48 ?_
  refine Wp.callS nm_M_gr1 (rm_max hw  _ ) (mk_M_max hw) (w_142 hw) (w_143 hw) rfl rfl (Wn := 1) rfl rfl (by decide) d_jdk_38_6_49 ?_
  rintro _ _ ⟨rfl, rfl⟩
  refine Wp.newR nm_M_gr1 (kk := 10) (vs := [.null, .null, .null, .null, .null, .null, .null, .null, .null, .null]) (w_146 hw) (w_147 hw) (by decide) (by decide) (by decide) (by decide) (by decide) rfl d_jdk_38_6_52 (fun a1 => ?_)
  refine Wp.dupX1 rfl rfl d_jdk_38_6_55 ?_
  refine Wp.putF nm_M_gr1 (host := "") (Or.inl (w_56 hw)) Via.refl 1 1 rfl rfl (Or.inl (w_57 hw)) (w_35 hw) (ty := (.array (.object "java/lang/Object"))) (by decide) rfl rfl d_jdk_38_6_56 (H' := ((eO a1 [.null, .null, .null, .null, .null, .null, .null, .null, .null, .null]) :: (oAL true l (.int 1) (.ref a1) (.int 0)) :: (de, false, .inr ((.object "java/lang/Object"), true, false, [])) :: F)) rfl ?_
  refine Wp.aret rfl rfl rfl d_jdk_38_6_59 (by decide) (by decide) ?_
  exact ⟨a1, rfl, rfl⟩
theorem d_jdk_38_7_0 : Dc jdk_38_method_7_code 0 (.aload_n 0) 1 1 := ⟨by decide +kernel, rfl⟩
theorem d_jdk_38_7_1 : Dc jdk_38_method_7_code 1 (.aload_n 0) 1 2 := ⟨by decide +kernel, rfl⟩
theorem d_jdk_38_7_2 : Dc jdk_38_method_7_code 2 (.getfield 48) 3 5 := ⟨by decide +kernel, rfl⟩
theorem w_117 {W : Wd} (hw : Ws W) : Wok W (Jvm.Cond.fieldLink "java/util/ArrayList" (48 : Nat) "java/util/ArrayList" "size" "I") := hw.1 _ (List.mem_of_getElem? (i := 117) rfl)
theorem d_jdk_38_7_5 : Dc jdk_38_method_7_code 5 (.iconst 1) 1 6 := ⟨by decide +kernel, rfl⟩
theorem lc_1 : Int32.ofInt 1 = 1 := by decide
theorem d_jdk_38_7_6 : Dc jdk_38_method_7_code 6 (.iadd) 1 7 := ⟨by decide +kernel, rfl⟩
theorem d_jdk_38_7_7 : Dc jdk_38_method_7_code 7 (.invokevirtual 69) 3 10 := ⟨by decide +kernel, rfl⟩
theorem w_141 {W : Wd} (hw : Ws W) : Wok W (Jvm.Cond.code ({ cls := "java/util/ArrayList", name := "grow", desc := "(I)[Ljava/lang/Object;" } : Jvm.MethodName) jdk_38_method_6_code (4 : Nat) (Option.some (Jvm.ClassFile.FieldType.array (Jvm.ClassFile.FieldType.object "java/lang/Object")))) := hw.1 _ (List.mem_of_getElem? (i := 141) rfl)
theorem w_36 {W : Wd} (hw : Ws W) : Wok W (Jvm.Cond.initialized "java/util/ArrayList") := hw.1 _ (List.mem_of_getElem? (i := 36) rfl)
theorem pd__I__Ljava_lang_Object_ : parseMethodDescriptor "(I)[Ljava/lang/Object;" = some ⟨[.int], some (.array (.object "java/lang/Object"))⟩ := by decide +kernel
theorem mk_M_gr1 {W : Wd} (hw : Ws W) : Mk W M_gr1 ⟨"java/util/ArrayList", "grow", "(I)[Ljava/lang/Object;"⟩ 1 := Mk.of nm_M_gr1 rfl rfl rfl (w_141 hw) (w_36 hw) (mkLen pd__I__Ljava_lang_Object_ rfl) (by decide)
theorem w_137 {W : Wd} (hw : Ws W) : Wok W (Jvm.Cond.methodLink "java/util/ArrayList" (69 : Nat) ({ cls := "java/util/ArrayList", name := "grow", desc := "(I)[Ljava/lang/Object;" } : Jvm.MethodName)) := hw.1 _ (List.mem_of_getElem? (i := 137) rfl)
theorem w_138 {W : Wd} (hw : Ws W) : Wok W (Jvm.Cond.instanceMethod ({ cls := "java/util/ArrayList", name := "grow", desc := "(I)[Ljava/lang/Object;" } : Jvm.MethodName)) := hw.1 _ (List.mem_of_getElem? (i := 138) rfl)
theorem w_140 {W : Wd} (hw : Ws W) : Wok W (Jvm.Cond.selects "java/util/ArrayList" ({ cls := "java/util/ArrayList", name := "grow", desc := "(I)[Ljava/lang/Object;" } : Jvm.MethodName) ({ cls := "java/util/ArrayList", name := "grow", desc := "(I)[Ljava/lang/Object;" } : Jvm.MethodName)) := hw.1 _ (List.mem_of_getElem? (i := 140) rfl)
theorem w_139 {W : Wd} (hw : Ws W) : Wok W (Jvm.Cond.privateMethod ({ cls := "java/util/ArrayList", name := "grow", desc := "(I)[Ljava/lang/Object;" } : Jvm.MethodName)) := hw.1 _ (List.mem_of_getElem? (i := 139) rfl)
theorem d_jdk_38_7_10 : Dc jdk_38_method_7_code 10 (.areturn) 1 11 := ⟨by decide +kernel, rfl⟩
def M_gr0 : Mt := (⟨"java/util/ArrayList", "grow", "()[Ljava/lang/Object;"⟩, jdk_38_method_7_code, 1, some (.array (.object "java/lang/Object")), ⟨2, 1, 10, 29⟩)
theorem nm_M_gr0 : mN M_gr0 = ⟨"java/util/ArrayList", "grow", "()[Ljava/lang/Object;"⟩ := by delta mN M_gr0; rfl
set_option maxRecDepth 65536 in
set_option maxHeartbeats 40000000 in
theorem rm_gr0 {W : Wd} (hw : Ws W) (l : Addr) (de : Addr) (F : List En) (hde : Sta (wZ W) (wZ W).heap "java/util/ArrayList" "DEFAULTCAPACITY_EMPTY_ELEMENTDATA" "[Ljava/lang/Object;" (.ref de)) : Ct W M_gr0 [.ref l] ((oAL true l (.int 1) (.ref de) (.int 0)) :: (de, false, .inr ((.object "java/lang/Object"), true, false, [])) :: F) (fun v H' => ∃ e, v = some (.ref e) ∧ H' = ((eO e [.null, .null, .null, .null, .null, .null, .null, .null, .null, .null]) :: (oAL true l (.int 1) (.ref e) (.int 0)) :: (de, false, .inr ((.object "java/lang/Object"), true, false, [])) :: F)) := by
  refine Ct.intro (L0 := [.val (.ref l)]) (plainFor_of_name pf_java_util_ArrayList) rfl (fun K => ?_)
  refine Wp.aloadN rfl rfl d_jdk_38_7_0 ?_
  refine Wp.aloadN rfl rfl d_jdk_38_7_1 ?_
  refine Wp.getF nm_M_gr0 (host := "") (Or.inl (w_117 hw)) Via.refl 0 2 rfl rfl d_jdk_38_7_2 ?_
  refine Wp.iconst lc_1 d_jdk_38_7_5 ?_
  refine Wp.iadd (z := 1) (by decide) d_jdk_38_7_6 ?_
  refine Wp.callP nm_M_gr0 (rm_gr1 hw l de _ hde) 0 rfl (mk_M_gr1 hw) (w_137 hw) (w_138 hw) (w_140 hw) (w_139 hw) rfl rfl (Wn := 0) rfl rfl (by decide) d_jdk_38_7_7 ?_
  rintro _ _ ⟨e_1, rfl, rfl⟩
  refine Wp.aret rfl rfl rfl d_jdk_38_7_10 (by decide) (by decide) ?_
  exact ⟨e_1, rfl, rfl⟩
theorem d_jdk_38_24_0 : Dc jdk_38_method_24_code 0 (.iload_n 3) 1 1 := ⟨by decide +kernel, rfl⟩
theorem d_jdk_38_24_1 : Dc jdk_38_method_24_code 1 (.aload_n 2) 1 2 := ⟨by decide +kernel, rfl⟩
theorem d_jdk_38_24_2 : Dc jdk_38_method_24_code 2 (.arraylength) 1 3 := ⟨by decide +kernel, rfl⟩
theorem d_jdk_38_24_3 : Bj jdk_38_method_24_code 3 (.if_icmp .ne 8) 8 6 11 := ⟨by decide +kernel, rfl, by decide, rfl⟩
theorem d_jdk_38_24_6 : Dc jdk_38_method_24_code 6 (.aload_n 0) 1 7 := ⟨by decide +kernel, rfl⟩
theorem d_jdk_38_24_7 : Dc jdk_38_method_24_code 7 (.invokevirtual 129) 3 10 := ⟨by decide +kernel, rfl⟩
theorem w_136 {W : Wd} (hw : Ws W) : Wok W (Jvm.Cond.code ({ cls := "java/util/ArrayList", name := "grow", desc := "()[Ljava/lang/Object;" } : Jvm.MethodName) jdk_38_method_7_code (1 : Nat) (Option.some (Jvm.ClassFile.FieldType.array (Jvm.ClassFile.FieldType.object "java/lang/Object")))) := hw.1 _ (List.mem_of_getElem? (i := 136) rfl)
theorem pd____Ljava_lang_Object_ : parseMethodDescriptor "()[Ljava/lang/Object;" = some ⟨[], some (.array (.object "java/lang/Object"))⟩ := by decide +kernel
theorem mk_M_gr0 {W : Wd} (hw : Ws W) : Mk W M_gr0 ⟨"java/util/ArrayList", "grow", "()[Ljava/lang/Object;"⟩ 0 := Mk.of nm_M_gr0 rfl rfl rfl (w_136 hw) (w_36 hw) (mkLen pd____Ljava_lang_Object_ rfl) (by decide)
theorem w_132 {W : Wd} (hw : Ws W) : Wok W (Jvm.Cond.methodLink "java/util/ArrayList" (129 : Nat) ({ cls := "java/util/ArrayList", name := "grow", desc := "()[Ljava/lang/Object;" } : Jvm.MethodName)) := hw.1 _ (List.mem_of_getElem? (i := 132) rfl)
theorem w_133 {W : Wd} (hw : Ws W) : Wok W (Jvm.Cond.instanceMethod ({ cls := "java/util/ArrayList", name := "grow", desc := "()[Ljava/lang/Object;" } : Jvm.MethodName)) := hw.1 _ (List.mem_of_getElem? (i := 133) rfl)
theorem w_135 {W : Wd} (hw : Ws W) : Wok W (Jvm.Cond.selects "java/util/ArrayList" ({ cls := "java/util/ArrayList", name := "grow", desc := "()[Ljava/lang/Object;" } : Jvm.MethodName) ({ cls := "java/util/ArrayList", name := "grow", desc := "()[Ljava/lang/Object;" } : Jvm.MethodName)) := hw.1 _ (List.mem_of_getElem? (i := 135) rfl)
theorem w_134 {W : Wd} (hw : Ws W) : Wok W (Jvm.Cond.privateMethod ({ cls := "java/util/ArrayList", name := "grow", desc := "()[Ljava/lang/Object;" } : Jvm.MethodName)) := hw.1 _ (List.mem_of_getElem? (i := 134) rfl)
theorem d_jdk_38_24_10 : Dc jdk_38_method_24_code 10 (.astore_n 2) 1 11 := ⟨by decide +kernel, rfl⟩
theorem d_jdk_38_24_11 : Dc jdk_38_method_24_code 11 (.aload_n 2) 1 12 := ⟨by decide +kernel, rfl⟩
theorem d_jdk_38_24_12 : Dc jdk_38_method_24_code 12 (.iload_n 3) 1 13 := ⟨by decide +kernel, rfl⟩
theorem d_jdk_38_24_13 : Dc jdk_38_method_24_code 13 (.aload_n 1) 1 14 := ⟨by decide +kernel, rfl⟩
theorem d_jdk_38_24_14 : Dc jdk_38_method_24_code 14 (.aastore) 1 15 := ⟨by decide +kernel, rfl⟩
theorem w_148 {W : Wd} (hw : Ws W) : Wok W (Jvm.Cond.castable "java/lang/String" "java/lang/Object") := hw.1 _ (List.mem_of_getElem? (i := 148) rfl)
theorem d_jdk_38_24_15 : Dc jdk_38_method_24_code 15 (.aload_n 0) 1 16 := ⟨by decide +kernel, rfl⟩
theorem d_jdk_38_24_16 : Dc jdk_38_method_24_code 16 (.iload_n 3) 1 17 := ⟨by decide +kernel, rfl⟩
theorem d_jdk_38_24_17 : Dc jdk_38_method_24_code 17 (.iconst 1) 1 18 := ⟨by decide +kernel, rfl⟩
theorem d_jdk_38_24_18 : Dc jdk_38_method_24_code 18 (.iadd) 1 19 := ⟨by decide +kernel, rfl⟩
theorem d_jdk_38_24_19 : Dc jdk_38_method_24_code 19 (.putfield 48) 3 22 := ⟨by decide +kernel, rfl⟩
theorem w_118 {W : Wd} (hw : Ws W) : Wok W (Jvm.Cond.lays "java/util/ArrayList" "java/util/ArrayList" "size" "I") := hw.1 _ (List.mem_of_getElem? (i := 118) rfl)
theorem d_jdk_38_24_22 : Dc jdk_38_method_24_code 22 (.return_) 1 23 := ⟨by decide +kernel, rfl⟩
def M_ad3_0 : Mt := (⟨"java/util/ArrayList", "add", "(Ljava/lang/Object;[Ljava/lang/Object;I)V"⟩, jdk_38_method_24_code, 4, none, ⟨3, 1, 10, 41⟩)
theorem nm_M_ad3_0 : mN M_ad3_0 = ⟨"java/util/ArrayList", "add", "(Ljava/lang/Object;[Ljava/lang/Object;I)V"⟩ := by delta mN M_ad3_0; rfl
set_option maxRecDepth 65536 in
set_option maxHeartbeats 40000000 in
theorem rm_ad3_0 {W : Wd} (hw : Ws W) (l : Addr) (de : Addr) (y0 : Addr) (ry0 : Bool) (v0 : Value) (c0 : Value) (F : List En) (hde : Sta (wZ W) (wZ W).heap "java/util/ArrayList" "DEFAULTCAPACITY_EMPTY_ELEMENTDATA" "[Ljava/lang/Object;" (.ref de)) : Ct W M_ad3_0 [.ref l, .ref y0, .ref de, .int 0] ((oAL true l (.int 1) (.ref de) (.int 0)) :: (de, false, .inr ((.object "java/lang/Object"), true, false, [])) :: (oStr ry0 y0 (v0) (c0)) :: F) (fun v H' => ∃ e, v = none ∧ H' = ((oAL true l (.int 1) (.ref e) (.int 1)) :: (eO e [.ref y0, .null, .null, .null, .null, .null, .null, .null, .null, .null]) :: (de, false, .inr ((.object "java/lang/Object"), true, false, [])) :: (oStr ry0 y0 (v0) (c0)) :: F)) := by
  refine Ct.intro (L0 := [.val (.ref l), .val (.ref y0), .val (.ref de), .val (.int 0)]) (plainFor_of_name pf_java_util_ArrayList) rfl (fun K => ?_)
  refine Wp.iloadN rfl d_jdk_38_24_0 ?_
  refine Wp.aloadN rfl rfl d_jdk_38_24_1 ?_
  refine Wp.alen (z := 0) 1 rfl (by decide) d_jdk_38_24_2 ?_
  refine Wp.icF (by decide) d_jdk_38_24_3 ?_
  refine Wp.aloadN rfl rfl d_jdk_38_24_6 ?_
  refine Wp.callP nm_M_ad3_0 (rm_gr0 hw l de _ hde) 0 rfl (mk_M_gr0 hw) (w_132 hw) (w_133 hw) (w_135 hw) (w_134 hw) rfl rfl (Wn := 0) rfl rfl (by decide) d_jdk_38_24_7 ?_
  rintro _ _ ⟨e_1, rfl, rfl⟩
  refine Wp.astoreN (L' := [.val (.ref l), .val (.ref y0), .val (.ref e_1), .val (.int 0)]) rfl rfl d_jdk_38_24_10 ?_
  refine Wp.aloadN rfl rfl d_jdk_38_24_11 ?_
  refine Wp.iloadN rfl d_jdk_38_24_12 ?_
  refine Wp.aloadN rfl rfl d_jdk_38_24_13 ?_
  refine Wp.aastore 0 0 rfl (by decide) (by decide) (show 0 < 10 by decide) (Or.inr ⟨_, rfl, (fun _ P => insCast P 3 rfl (w_148 hw))⟩) rfl d_jdk_38_24_14 (H' := ((eO e_1 [.ref y0, .null, .null, .null, .null, .null, .null, .null, .null, .null]) :: (oAL true l (.int 1) (.ref e_1) (.int 0)) :: (de, false, .inr ((.object "java/lang/Object"), true, false, [])) :: (oStr ry0 y0 (v0) (c0)) :: F)) rfl ?_
  refine Wp.aloadN rfl rfl d_jdk_38_24_15 ?_
  refine Wp.iloadN rfl d_jdk_38_24_16 ?_
  refine Wp.iconst lc_1 d_jdk_38_24_17 ?_
  refine Wp.iadd (z := 1) (by decide) d_jdk_38_24_18 ?_
  refine Wp.putF nm_M_ad3_0 (host := "") (Or.inl (w_117 hw)) Via.refl 1 2 rfl rfl (Or.inl (w_118 hw)) (w_35 hw) (ty := .int) (by decide) rfl rfl d_jdk_38_24_19 (H' := ((eO e_1 [.ref y0, .null, .null, .null, .null, .null, .null, .null, .null, .null]) :: (oAL true l (.int 1) (.ref e_1) (.int 1)) :: (de, false, .inr ((.object "java/lang/Object"), true, false, [])) :: (oStr ry0 y0 (v0) (c0)) :: F)) rfl ?_
  refine Wp.perm [1, 0] 2 pp_1_0 (H' := ((oAL true l (.int 1) (.ref e_1) (.int 1)) :: (eO e_1 [.ref y0, .null, .null, .null, .null, .null, .null, .null, .null, .null]) :: (de, false, .inr ((.object "java/lang/Object"), true, false, [])) :: (oStr ry0 y0 (v0) (c0)) :: F)) rfl ?_
  refine Wp.ret rfl d_jdk_38_24_22 (by decide) (by decide) ?_
  exact ⟨e_1, rfl, rfl⟩
theorem d_jdk_38_25_0 : Dc jdk_38_method_25_code 0 (.aload_n 0) 1 1 := ⟨by decide +kernel, rfl⟩
theorem d_jdk_38_25_1 : Dc jdk_38_method_25_code 1 (.dup) 1 2 := ⟨by decide +kernel, rfl⟩
theorem d_jdk_38_25_2 : Dc jdk_38_method_25_code 2 (.getfield 63) 3 5 := ⟨by decide +kernel, rfl⟩
theorem w_126 {W : Wd} (hw : Ws W) : Wok W (Jvm.Cond.sameField "java/util/ArrayList" "java/util/AbstractList" "modCount" "I") := hw.1 _ (List.mem_of_getElem? (i := 126) rfl)
theorem w_125 {W : Wd} (hw : Ws W) : Wok W (Jvm.Cond.fieldLink "java/util/ArrayList" (63 : Nat) "java/util/ArrayList" "modCount" "I") := hw.1 _ (List.mem_of_getElem? (i := 125) rfl)
theorem d_jdk_38_25_5 : Dc jdk_38_method_25_code 5 (.iconst 1) 1 6 := ⟨by decide +kernel, rfl⟩
theorem d_jdk_38_25_6 : Dc jdk_38_method_25_code 6 (.iadd) 1 7 := ⟨by decide +kernel, rfl⟩
theorem d_jdk_38_25_7 : Dc jdk_38_method_25_code 7 (.putfield 63) 3 10 := ⟨by decide +kernel, rfl⟩
theorem d_jdk_38_25_10 : Dc jdk_38_method_25_code 10 (.aload_n 0) 1 11 := ⟨by decide +kernel, rfl⟩
theorem d_jdk_38_25_11 : Dc jdk_38_method_25_code 11 (.aload_n 1) 1 12 := ⟨by decide +kernel, rfl⟩
theorem d_jdk_38_25_12 : Dc jdk_38_method_25_code 12 (.aload_n 0) 1 13 := ⟨by decide +kernel, rfl⟩
theorem d_jdk_38_25_13 : Dc jdk_38_method_25_code 13 (.getfield 9) 3 16 := ⟨by decide +kernel, rfl⟩
theorem d_jdk_38_25_16 : Dc jdk_38_method_25_code 16 (.aload_n 0) 1 17 := ⟨by decide +kernel, rfl⟩
theorem d_jdk_38_25_17 : Dc jdk_38_method_25_code 17 (.getfield 48) 3 20 := ⟨by decide +kernel, rfl⟩
theorem d_jdk_38_25_20 : Dc jdk_38_method_25_code 20 (.invokevirtual 131) 3 23 := ⟨by decide +kernel, rfl⟩
theorem w_131 {W : Wd} (hw : Ws W) : Wok W (Jvm.Cond.code ({ cls := "java/util/ArrayList", name := "add", desc := "(Ljava/lang/Object;[Ljava/lang/Object;I)V" } : Jvm.MethodName) jdk_38_method_24_code (4 : Nat) (Option.none : Option Jvm.ClassFile.FieldType)) := hw.1 _ (List.mem_of_getElem? (i := 131) rfl)
theorem pd__Ljava_lang_Object__Ljava_lang_Object_I_V : parseMethodDescriptor "(Ljava/lang/Object;[Ljava/lang/Object;I)V" = some ⟨[(.object "java/lang/Object"), (.array (.object "java/lang/Object")), .int], none⟩ := by decide +kernel
theorem mk_M_ad3_0 {W : Wd} (hw : Ws W) : Mk W M_ad3_0 ⟨"java/util/ArrayList", "add", "(Ljava/lang/Object;[Ljava/lang/Object;I)V"⟩ 3 := Mk.of nm_M_ad3_0 rfl rfl rfl (w_131 hw) (w_36 hw) (mkLen pd__Ljava_lang_Object__Ljava_lang_Object_I_V rfl) (by decide)
theorem w_127 {W : Wd} (hw : Ws W) : Wok W (Jvm.Cond.methodLink "java/util/ArrayList" (131 : Nat) ({ cls := "java/util/ArrayList", name := "add", desc := "(Ljava/lang/Object;[Ljava/lang/Object;I)V" } : Jvm.MethodName)) := hw.1 _ (List.mem_of_getElem? (i := 127) rfl)
theorem w_128 {W : Wd} (hw : Ws W) : Wok W (Jvm.Cond.instanceMethod ({ cls := "java/util/ArrayList", name := "add", desc := "(Ljava/lang/Object;[Ljava/lang/Object;I)V" } : Jvm.MethodName)) := hw.1 _ (List.mem_of_getElem? (i := 128) rfl)
theorem w_130 {W : Wd} (hw : Ws W) : Wok W (Jvm.Cond.selects "java/util/ArrayList" ({ cls := "java/util/ArrayList", name := "add", desc := "(Ljava/lang/Object;[Ljava/lang/Object;I)V" } : Jvm.MethodName) ({ cls := "java/util/ArrayList", name := "add", desc := "(Ljava/lang/Object;[Ljava/lang/Object;I)V" } : Jvm.MethodName)) := hw.1 _ (List.mem_of_getElem? (i := 130) rfl)
theorem w_129 {W : Wd} (hw : Ws W) : Wok W (Jvm.Cond.privateMethod ({ cls := "java/util/ArrayList", name := "add", desc := "(Ljava/lang/Object;[Ljava/lang/Object;I)V" } : Jvm.MethodName)) := hw.1 _ (List.mem_of_getElem? (i := 129) rfl)
theorem d_jdk_38_25_23 : Dc jdk_38_method_25_code 23 (.iconst 1) 1 24 := ⟨by decide +kernel, rfl⟩
theorem d_jdk_38_25_24 : Dc jdk_38_method_25_code 24 (.ireturn) 1 25 := ⟨by decide +kernel, rfl⟩
def M_add_0 : Mt := (⟨"java/util/ArrayList", "add", "(Ljava/lang/Object;)Z"⟩, jdk_38_method_25_code, 2, some .boolean, ⟨4, 1, 10, 56⟩)
theorem nm_M_add_0 : mN M_add_0 = ⟨"java/util/ArrayList", "add", "(Ljava/lang/Object;)Z"⟩ := by delta mN M_add_0; rfl
set_option maxRecDepth 65536 in
set_option maxHeartbeats 40000000 in
theorem rm_add_0 {W : Wd} (hw : Ws W) (l : Addr) (de : Addr) (y0 : Addr) (ry0 : Bool) (v0 : Value) (c0 : Value) (F : List En) (hde : Sta (wZ W) (wZ W).heap "java/util/ArrayList" "DEFAULTCAPACITY_EMPTY_ELEMENTDATA" "[Ljava/lang/Object;" (.ref de)) : Ct W M_add_0 [.ref l, .ref y0] ((oAL true l (.int 0) (.ref de) (.int 0)) :: (de, false, .inr ((.object "java/lang/Object"), true, false, [])) :: (oStr ry0 y0 (v0) (c0)) :: F) (fun v H' => ∃ e, v = some (.int 1) ∧ H' = ((oAL true l (.int 1) (.ref e) (.int 1)) :: (eO e [.ref y0, .null, .null, .null, .null, .null, .null, .null, .null, .null]) :: (de, false, .inr ((.object "java/lang/Object"), true, false, [])) :: (oStr ry0 y0 (v0) (c0)) :: F)) := by
  refine Ct.intro (L0 := [.val (.ref l), .val (.ref y0)]) (plainFor_of_name pf_java_util_ArrayList) rfl (fun K => ?_)
  refine Wp.aloadN rfl rfl d_jdk_38_25_0 ?_
  refine Wp.dup rfl d_jdk_38_25_1 ?_
  refine Wp.getF nm_M_add_0 (host := "") (Or.inl (w_125 hw)) (Via.of (w_126 hw)) 0 0 rfl rfl d_jdk_38_25_2 ?_
  refine Wp.iconst lc_1 d_jdk_38_25_5 ?_
  refine Wp.iadd (z := 1) (by decide) d_jdk_38_25_6 ?_
  refine Wp.putF nm_M_add_0 (host := "") (Or.inl (w_125 hw)) (Via.of (w_126 hw)) 0 0 rfl rfl (Or.inl (w_54 hw)) (w_35 hw) (ty := .int) (by decide) rfl rfl d_jdk_38_25_7 (H' := ((oAL true l (.int 1) (.ref de) (.int 0)) :: (de, false, .inr ((.object "java/lang/Object"), true, false, [])) :: (oStr ry0 y0 (v0) (c0)) :: F)) rfl ?_
  refine Wp.aloadN rfl rfl d_jdk_38_25_10 ?_
  refine Wp.aloadN rfl rfl d_jdk_38_25_11 ?_
  refine Wp.aloadN rfl rfl d_jdk_38_25_12 ?_
  refine Wp.getF nm_M_add_0 (host := "") (Or.inl (w_56 hw)) Via.refl 0 1 rfl rfl d_jdk_38_25_13 ?_
  refine Wp.aloadN rfl rfl d_jdk_38_25_16 ?_
  refine Wp.getF nm_M_add_0 (host := "") (Or.inl (w_117 hw)) Via.refl 0 2 rfl rfl d_jdk_38_25_17 ?_
  refine Wp.callP nm_M_add_0 (rm_ad3_0 hw l de y0 ry0 v0 c0 _ hde) 0 rfl (mk_M_ad3_0 hw) (w_127 hw) (w_128 hw) (w_130 hw) (w_129 hw) rfl rfl (Wn := 0) rfl rfl (by decide) d_jdk_38_25_20 ?_
  rintro _ _ ⟨e_1, rfl, rfl⟩
  refine Wp.iconst lc_1 d_jdk_38_25_23 ?_
  refine Wp.iretN (z := 1) (by simp) rfl (by decide) d_jdk_38_25_24 (by decide) (by decide) ?_
  exact ⟨e_1, rfl, rfl⟩
def M_ad3_1 : Mt := (⟨"java/util/ArrayList", "add", "(Ljava/lang/Object;[Ljava/lang/Object;I)V"⟩, jdk_38_method_24_code, 4, none, ⟨0, 0, 0, 0⟩)
theorem nm_M_ad3_1 : mN M_ad3_1 = ⟨"java/util/ArrayList", "add", "(Ljava/lang/Object;[Ljava/lang/Object;I)V"⟩ := by delta mN M_ad3_1; rfl
set_option maxRecDepth 65536 in
set_option maxHeartbeats 40000000 in
theorem rm_ad3_1 {W : Wd} (hw : Ws W) (l : Addr) (e : Addr) (u0 : Value) (y1 : Addr) (ry1 : Bool) (v1 : Value) (c1 : Value) (F : List En) : Ct W M_ad3_1 [.ref l, .ref y1, .ref e, .int 1] ((oAL true l (.int 2) (.ref e) (.int 1)) :: (eO e [u0, .null, .null, .null, .null, .null, .null, .null, .null, .null]) :: (oStr ry1 y1 (v1) (c1)) :: F) (fun v H' => v = none ∧ H' = ((oAL true l (.int 2) (.ref e) (.int 2)) :: (eO e [u0, .ref y1, .null, .null, .null, .null, .null, .null, .null, .null]) :: (oStr ry1 y1 (v1) (c1)) :: F)) := by
  refine Ct.intro (L0 := [.val (.ref l), .val (.ref y1), .val (.ref e), .val (.int 1)]) (plainFor_of_name pf_java_util_ArrayList) rfl (fun K => ?_)
  refine Wp.iloadN rfl d_jdk_38_24_0 ?_
  refine Wp.aloadN rfl rfl d_jdk_38_24_1 ?_
  refine Wp.alen (z := 10) 1 rfl rfl d_jdk_38_24_2 ?_
  refine Wp.icT (by decide) d_jdk_38_24_3 ?_
  refine Wp.aloadN rfl rfl d_jdk_38_24_11 ?_
  refine Wp.iloadN rfl d_jdk_38_24_12 ?_
  refine Wp.aloadN rfl rfl d_jdk_38_24_13 ?_
  refine Wp.aastore 1 1 rfl (by decide) (by decide) (show 1 < 10 by decide) (Or.inr ⟨_, rfl, (fun _ P => insCast P 2 rfl (w_148 hw))⟩) rfl d_jdk_38_24_14 (H' := ((oAL true l (.int 2) (.ref e) (.int 1)) :: (eO e [u0, .ref y1, .null, .null, .null, .null, .null, .null, .null, .null]) :: (oStr ry1 y1 (v1) (c1)) :: F)) rfl ?_
  refine Wp.aloadN rfl rfl d_jdk_38_24_15 ?_
  refine Wp.iloadN rfl d_jdk_38_24_16 ?_
  refine Wp.iconst lc_1 d_jdk_38_24_17 ?_
  refine Wp.iadd (z := 2) (by decide) d_jdk_38_24_18 ?_
  refine Wp.putF nm_M_ad3_1 (host := "") (Or.inl (w_117 hw)) Via.refl 0 2 rfl rfl (Or.inl (w_118 hw)) (w_35 hw) (ty := .int) (by decide) rfl rfl d_jdk_38_24_19 (H' := ((oAL true l (.int 2) (.ref e) (.int 2)) :: (eO e [u0, .ref y1, .null, .null, .null, .null, .null, .null, .null, .null]) :: (oStr ry1 y1 (v1) (c1)) :: F)) rfl ?_
  refine Wp.ret rfl d_jdk_38_24_22 (by decide) (by decide) ?_
  exact ⟨rfl, rfl⟩
theorem mk_M_ad3_1 {W : Wd} (hw : Ws W) : Mk W M_ad3_1 ⟨"java/util/ArrayList", "add", "(Ljava/lang/Object;[Ljava/lang/Object;I)V"⟩ 3 := Mk.of nm_M_ad3_1 rfl rfl rfl (w_131 hw) (w_36 hw) (mkLen pd__Ljava_lang_Object__Ljava_lang_Object_I_V rfl) (by decide)
def M_add_1 : Mt := (⟨"java/util/ArrayList", "add", "(Ljava/lang/Object;)Z"⟩, jdk_38_method_25_code, 2, some .boolean, ⟨1, 0, 0, 15⟩)
theorem nm_M_add_1 : mN M_add_1 = ⟨"java/util/ArrayList", "add", "(Ljava/lang/Object;)Z"⟩ := by delta mN M_add_1; rfl
set_option maxRecDepth 65536 in
set_option maxHeartbeats 40000000 in
theorem rm_add_1 {W : Wd} (hw : Ws W) (l : Addr) (e : Addr) (u0 : Value) (y1 : Addr) (ry1 : Bool) (v1 : Value) (c1 : Value) (F : List En) : Ct W M_add_1 [.ref l, .ref y1] ((oAL true l (.int 1) (.ref e) (.int 1)) :: (eO e [u0, .null, .null, .null, .null, .null, .null, .null, .null, .null]) :: (oStr ry1 y1 (v1) (c1)) :: F) (fun v H' => v = some (.int 1) ∧ H' = ((oAL true l (.int 2) (.ref e) (.int 2)) :: (eO e [u0, .ref y1, .null, .null, .null, .null, .null, .null, .null, .null]) :: (oStr ry1 y1 (v1) (c1)) :: F)) := by
  refine Ct.intro (L0 := [.val (.ref l), .val (.ref y1)]) (plainFor_of_name pf_java_util_ArrayList) rfl (fun K => ?_)
  refine Wp.aloadN rfl rfl d_jdk_38_25_0 ?_
  refine Wp.dup rfl d_jdk_38_25_1 ?_
  refine Wp.getF nm_M_add_1 (host := "") (Or.inl (w_125 hw)) (Via.of (w_126 hw)) 0 0 rfl rfl d_jdk_38_25_2 ?_
  refine Wp.iconst lc_1 d_jdk_38_25_5 ?_
  refine Wp.iadd (z := 2) (by decide) d_jdk_38_25_6 ?_
  refine Wp.putF nm_M_add_1 (host := "") (Or.inl (w_125 hw)) (Via.of (w_126 hw)) 0 0 rfl rfl (Or.inl (w_54 hw)) (w_35 hw) (ty := .int) (by decide) rfl rfl d_jdk_38_25_7 (H' := ((oAL true l (.int 2) (.ref e) (.int 1)) :: (eO e [u0, .null, .null, .null, .null, .null, .null, .null, .null, .null]) :: (oStr ry1 y1 (v1) (c1)) :: F)) rfl ?_
  refine Wp.aloadN rfl rfl d_jdk_38_25_10 ?_
  refine Wp.aloadN rfl rfl d_jdk_38_25_11 ?_
  refine Wp.aloadN rfl rfl d_jdk_38_25_12 ?_
  refine Wp.getF nm_M_add_1 (host := "") (Or.inl (w_56 hw)) Via.refl 0 1 rfl rfl d_jdk_38_25_13 ?_
  refine Wp.aloadN rfl rfl d_jdk_38_25_16 ?_
  refine Wp.getF nm_M_add_1 (host := "") (Or.inl (w_117 hw)) Via.refl 0 2 rfl rfl d_jdk_38_25_17 ?_
  refine Wp.callP nm_M_add_1 (rm_ad3_1 hw l e u0 y1 ry1 v1 c1 _ ) 0 rfl (mk_M_ad3_1 hw) (w_127 hw) (w_128 hw) (w_130 hw) (w_129 hw) rfl rfl (Wn := 0) rfl rfl (by decide) d_jdk_38_25_20 ?_
  rintro _ _ ⟨rfl, rfl⟩
  refine Wp.iconst lc_1 d_jdk_38_25_23 ?_
  refine Wp.iretN (z := 1) (by simp) rfl (by decide) d_jdk_38_25_24 (by decide) (by decide) ?_
  exact ⟨rfl, rfl⟩
def M_ad3_2 : Mt := (⟨"java/util/ArrayList", "add", "(Ljava/lang/Object;[Ljava/lang/Object;I)V"⟩, jdk_38_method_24_code, 4, none, ⟨0, 0, 0, 0⟩)
theorem nm_M_ad3_2 : mN M_ad3_2 = ⟨"java/util/ArrayList", "add", "(Ljava/lang/Object;[Ljava/lang/Object;I)V"⟩ := by delta mN M_ad3_2; rfl
set_option maxRecDepth 65536 in
set_option maxHeartbeats 40000000 in
theorem rm_ad3_2 {W : Wd} (hw : Ws W) (l : Addr) (e : Addr) (u0 : Value) (u1 : Value) (y2 : Addr) (ry2 : Bool) (v2 : Value) (c2 : Value) (F : List En) : Ct W M_ad3_2 [.ref l, .ref y2, .ref e, .int 2] ((oAL true l (.int 3) (.ref e) (.int 2)) :: (eO e [u0, u1, .null, .null, .null, .null, .null, .null, .null, .null]) :: (oStr ry2 y2 (v2) (c2)) :: F) (fun v H' => v = none ∧ H' = ((oAL true l (.int 3) (.ref e) (.int 3)) :: (eO e [u0, u1, .ref y2, .null, .null, .null, .null, .null, .null, .null]) :: (oStr ry2 y2 (v2) (c2)) :: F)) := by
  refine Ct.intro (L0 := [.val (.ref l), .val (.ref y2), .val (.ref e), .val (.int 2)]) (plainFor_of_name pf_java_util_ArrayList) rfl (fun K => ?_)
  refine Wp.iloadN rfl d_jdk_38_24_0 ?_
  refine Wp.aloadN rfl rfl d_jdk_38_24_1 ?_
  refine Wp.alen (z := 10) 1 rfl rfl d_jdk_38_24_2 ?_
  refine Wp.icT (by decide) d_jdk_38_24_3 ?_
  refine Wp.aloadN rfl rfl d_jdk_38_24_11 ?_
  refine Wp.iloadN rfl d_jdk_38_24_12 ?_
  refine Wp.aloadN rfl rfl d_jdk_38_24_13 ?_
  refine Wp.aastore 1 2 rfl (by decide) (by decide) (show 2 < 10 by decide) (Or.inr ⟨_, rfl, (fun _ P => insCast P 2 rfl (w_148 hw))⟩) rfl d_jdk_38_24_14 (H' := ((oAL true l (.int 3) (.ref e) (.int 2)) :: (eO e [u0, u1, .ref y2, .null, .null, .null, .null, .null, .null, .null]) :: (oStr ry2 y2 (v2) (c2)) :: F)) rfl ?_
  refine Wp.aloadN rfl rfl d_jdk_38_24_15 ?_
  refine Wp.iloadN rfl d_jdk_38_24_16 ?_
  refine Wp.iconst lc_1 d_jdk_38_24_17 ?_
  refine Wp.iadd (z := 3) (by decide) d_jdk_38_24_18 ?_
  refine Wp.putF nm_M_ad3_2 (host := "") (Or.inl (w_117 hw)) Via.refl 0 2 rfl rfl (Or.inl (w_118 hw)) (w_35 hw) (ty := .int) (by decide) rfl rfl d_jdk_38_24_19 (H' := ((oAL true l (.int 3) (.ref e) (.int 3)) :: (eO e [u0, u1, .ref y2, .null, .null, .null, .null, .null, .null, .null]) :: (oStr ry2 y2 (v2) (c2)) :: F)) rfl ?_
  refine Wp.ret rfl d_jdk_38_24_22 (by decide) (by decide) ?_
  exact ⟨rfl, rfl⟩
theorem mk_M_ad3_2 {W : Wd} (hw : Ws W) : Mk W M_ad3_2 ⟨"java/util/ArrayList", "add", "(Ljava/lang/Object;[Ljava/lang/Object;I)V"⟩ 3 := Mk.of nm_M_ad3_2 rfl rfl rfl (w_131 hw) (w_36 hw) (mkLen pd__Ljava_lang_Object__Ljava_lang_Object_I_V rfl) (by decide)
def M_add_2 : Mt := (⟨"java/util/ArrayList", "add", "(Ljava/lang/Object;)Z"⟩, jdk_38_method_25_code, 2, some .boolean, ⟨1, 0, 0, 15⟩)
theorem nm_M_add_2 : mN M_add_2 = ⟨"java/util/ArrayList", "add", "(Ljava/lang/Object;)Z"⟩ := by delta mN M_add_2; rfl
set_option maxRecDepth 65536 in
set_option maxHeartbeats 40000000 in
theorem rm_add_2 {W : Wd} (hw : Ws W) (l : Addr) (e : Addr) (u0 : Value) (u1 : Value) (y2 : Addr) (ry2 : Bool) (v2 : Value) (c2 : Value) (F : List En) : Ct W M_add_2 [.ref l, .ref y2] ((oAL true l (.int 2) (.ref e) (.int 2)) :: (eO e [u0, u1, .null, .null, .null, .null, .null, .null, .null, .null]) :: (oStr ry2 y2 (v2) (c2)) :: F) (fun v H' => v = some (.int 1) ∧ H' = ((oAL true l (.int 3) (.ref e) (.int 3)) :: (eO e [u0, u1, .ref y2, .null, .null, .null, .null, .null, .null, .null]) :: (oStr ry2 y2 (v2) (c2)) :: F)) := by
  refine Ct.intro (L0 := [.val (.ref l), .val (.ref y2)]) (plainFor_of_name pf_java_util_ArrayList) rfl (fun K => ?_)
  refine Wp.aloadN rfl rfl d_jdk_38_25_0 ?_
  refine Wp.dup rfl d_jdk_38_25_1 ?_
  refine Wp.getF nm_M_add_2 (host := "") (Or.inl (w_125 hw)) (Via.of (w_126 hw)) 0 0 rfl rfl d_jdk_38_25_2 ?_
  refine Wp.iconst lc_1 d_jdk_38_25_5 ?_
  refine Wp.iadd (z := 3) (by decide) d_jdk_38_25_6 ?_
  refine Wp.putF nm_M_add_2 (host := "") (Or.inl (w_125 hw)) (Via.of (w_126 hw)) 0 0 rfl rfl (Or.inl (w_54 hw)) (w_35 hw) (ty := .int) (by decide) rfl rfl d_jdk_38_25_7 (H' := ((oAL true l (.int 3) (.ref e) (.int 2)) :: (eO e [u0, u1, .null, .null, .null, .null, .null, .null, .null, .null]) :: (oStr ry2 y2 (v2) (c2)) :: F)) rfl ?_
  refine Wp.aloadN rfl rfl d_jdk_38_25_10 ?_
  refine Wp.aloadN rfl rfl d_jdk_38_25_11 ?_
  refine Wp.aloadN rfl rfl d_jdk_38_25_12 ?_
  refine Wp.getF nm_M_add_2 (host := "") (Or.inl (w_56 hw)) Via.refl 0 1 rfl rfl d_jdk_38_25_13 ?_
  refine Wp.aloadN rfl rfl d_jdk_38_25_16 ?_
  refine Wp.getF nm_M_add_2 (host := "") (Or.inl (w_117 hw)) Via.refl 0 2 rfl rfl d_jdk_38_25_17 ?_
  refine Wp.callP nm_M_add_2 (rm_ad3_2 hw l e u0 u1 y2 ry2 v2 c2 _ ) 0 rfl (mk_M_ad3_2 hw) (w_127 hw) (w_128 hw) (w_130 hw) (w_129 hw) rfl rfl (Wn := 0) rfl rfl (by decide) d_jdk_38_25_20 ?_
  rintro _ _ ⟨rfl, rfl⟩
  refine Wp.iconst lc_1 d_jdk_38_25_23 ?_
  refine Wp.iretN (z := 1) (by simp) rfl (by decide) d_jdk_38_25_24 (by decide) (by decide) ?_
  exact ⟨rfl, rfl⟩
def M_ad3_3 : Mt := (⟨"java/util/ArrayList", "add", "(Ljava/lang/Object;[Ljava/lang/Object;I)V"⟩, jdk_38_method_24_code, 4, none, ⟨0, 0, 0, 0⟩)
theorem nm_M_ad3_3 : mN M_ad3_3 = ⟨"java/util/ArrayList", "add", "(Ljava/lang/Object;[Ljava/lang/Object;I)V"⟩ := by delta mN M_ad3_3; rfl
set_option maxRecDepth 65536 in
set_option maxHeartbeats 40000000 in
theorem rm_ad3_3 {W : Wd} (hw : Ws W) (l : Addr) (e : Addr) (u0 : Value) (u1 : Value) (u2 : Value) (y3 : Addr) (ry3 : Bool) (v3 : Value) (c3 : Value) (F : List En) : Ct W M_ad3_3 [.ref l, .ref y3, .ref e, .int 3] ((oAL true l (.int 4) (.ref e) (.int 3)) :: (eO e [u0, u1, u2, .null, .null, .null, .null, .null, .null, .null]) :: (oStr ry3 y3 (v3) (c3)) :: F) (fun v H' => v = none ∧ H' = ((oAL true l (.int 4) (.ref e) (.int 4)) :: (eO e [u0, u1, u2, .ref y3, .null, .null, .null, .null, .null, .null]) :: (oStr ry3 y3 (v3) (c3)) :: F)) := by
  refine Ct.intro (L0 := [.val (.ref l), .val (.ref y3), .val (.ref e), .val (.int 3)]) (plainFor_of_name pf_java_util_ArrayList) rfl (fun K => ?_)
  refine Wp.iloadN rfl d_jdk_38_24_0 ?_
  refine Wp.aloadN rfl rfl d_jdk_38_24_1 ?_
  refine Wp.alen (z := 10) 1 rfl rfl d_jdk_38_24_2 ?_
  refine Wp.icT (by decide) d_jdk_38_24_3 ?_
  refine Wp.aloadN rfl rfl d_jdk_38_24_11 ?_
  refine Wp.iloadN rfl d_jdk_38_24_12 ?_
  refine Wp.aloadN rfl rfl d_jdk_38_24_13 ?_
  refine Wp.aastore 1 3 rfl (by decide) (by decide) (show 3 < 10 by decide) (Or.inr ⟨_, rfl, (fun _ P => insCast P 2 rfl (w_148 hw))⟩) rfl d_jdk_38_24_14 (H' := ((oAL true l (.int 4) (.ref e) (.int 3)) :: (eO e [u0, u1, u2, .ref y3, .null, .null, .null, .null, .null, .null]) :: (oStr ry3 y3 (v3) (c3)) :: F)) rfl ?_
  refine Wp.aloadN rfl rfl d_jdk_38_24_15 ?_
  refine Wp.iloadN rfl d_jdk_38_24_16 ?_
  refine Wp.iconst lc_1 d_jdk_38_24_17 ?_
  refine Wp.iadd (z := 4) (by decide) d_jdk_38_24_18 ?_
  refine Wp.putF nm_M_ad3_3 (host := "") (Or.inl (w_117 hw)) Via.refl 0 2 rfl rfl (Or.inl (w_118 hw)) (w_35 hw) (ty := .int) (by decide) rfl rfl d_jdk_38_24_19 (H' := ((oAL true l (.int 4) (.ref e) (.int 4)) :: (eO e [u0, u1, u2, .ref y3, .null, .null, .null, .null, .null, .null]) :: (oStr ry3 y3 (v3) (c3)) :: F)) rfl ?_
  refine Wp.ret rfl d_jdk_38_24_22 (by decide) (by decide) ?_
  exact ⟨rfl, rfl⟩
theorem mk_M_ad3_3 {W : Wd} (hw : Ws W) : Mk W M_ad3_3 ⟨"java/util/ArrayList", "add", "(Ljava/lang/Object;[Ljava/lang/Object;I)V"⟩ 3 := Mk.of nm_M_ad3_3 rfl rfl rfl (w_131 hw) (w_36 hw) (mkLen pd__Ljava_lang_Object__Ljava_lang_Object_I_V rfl) (by decide)
def M_add_3 : Mt := (⟨"java/util/ArrayList", "add", "(Ljava/lang/Object;)Z"⟩, jdk_38_method_25_code, 2, some .boolean, ⟨1, 0, 0, 15⟩)
theorem nm_M_add_3 : mN M_add_3 = ⟨"java/util/ArrayList", "add", "(Ljava/lang/Object;)Z"⟩ := by delta mN M_add_3; rfl
set_option maxRecDepth 65536 in
set_option maxHeartbeats 40000000 in
theorem rm_add_3 {W : Wd} (hw : Ws W) (l : Addr) (e : Addr) (u0 : Value) (u1 : Value) (u2 : Value) (y3 : Addr) (ry3 : Bool) (v3 : Value) (c3 : Value) (F : List En) : Ct W M_add_3 [.ref l, .ref y3] ((oAL true l (.int 3) (.ref e) (.int 3)) :: (eO e [u0, u1, u2, .null, .null, .null, .null, .null, .null, .null]) :: (oStr ry3 y3 (v3) (c3)) :: F) (fun v H' => v = some (.int 1) ∧ H' = ((oAL true l (.int 4) (.ref e) (.int 4)) :: (eO e [u0, u1, u2, .ref y3, .null, .null, .null, .null, .null, .null]) :: (oStr ry3 y3 (v3) (c3)) :: F)) := by
  refine Ct.intro (L0 := [.val (.ref l), .val (.ref y3)]) (plainFor_of_name pf_java_util_ArrayList) rfl (fun K => ?_)
  refine Wp.aloadN rfl rfl d_jdk_38_25_0 ?_
  refine Wp.dup rfl d_jdk_38_25_1 ?_
  refine Wp.getF nm_M_add_3 (host := "") (Or.inl (w_125 hw)) (Via.of (w_126 hw)) 0 0 rfl rfl d_jdk_38_25_2 ?_
  refine Wp.iconst lc_1 d_jdk_38_25_5 ?_
  refine Wp.iadd (z := 4) (by decide) d_jdk_38_25_6 ?_
  refine Wp.putF nm_M_add_3 (host := "") (Or.inl (w_125 hw)) (Via.of (w_126 hw)) 0 0 rfl rfl (Or.inl (w_54 hw)) (w_35 hw) (ty := .int) (by decide) rfl rfl d_jdk_38_25_7 (H' := ((oAL true l (.int 4) (.ref e) (.int 3)) :: (eO e [u0, u1, u2, .null, .null, .null, .null, .null, .null, .null]) :: (oStr ry3 y3 (v3) (c3)) :: F)) rfl ?_
  refine Wp.aloadN rfl rfl d_jdk_38_25_10 ?_
  refine Wp.aloadN rfl rfl d_jdk_38_25_11 ?_
  refine Wp.aloadN rfl rfl d_jdk_38_25_12 ?_
  refine Wp.getF nm_M_add_3 (host := "") (Or.inl (w_56 hw)) Via.refl 0 1 rfl rfl d_jdk_38_25_13 ?_
  refine Wp.aloadN rfl rfl d_jdk_38_25_16 ?_
  refine Wp.getF nm_M_add_3 (host := "") (Or.inl (w_117 hw)) Via.refl 0 2 rfl rfl d_jdk_38_25_17 ?_
  refine Wp.callP nm_M_add_3 (rm_ad3_3 hw l e u0 u1 u2 y3 ry3 v3 c3 _ ) 0 rfl (mk_M_ad3_3 hw) (w_127 hw) (w_128 hw) (w_130 hw) (w_129 hw) rfl rfl (Wn := 0) rfl rfl (by decide) d_jdk_38_25_20 ?_
  rintro _ _ ⟨rfl, rfl⟩
  refine Wp.iconst lc_1 d_jdk_38_25_23 ?_
  refine Wp.iretN (z := 1) (by simp) rfl (by decide) d_jdk_38_25_24 (by decide) (by decide) ?_
  exact ⟨rfl, rfl⟩
theorem d_method_2_0 : Dc method_2_code 0 (.iload_n 0) 1 1 := ⟨by decide +kernel, rfl⟩
theorem d_method_2_1 : Dc method_2_code 1 (.sipush 255) 3 4 := ⟨by decide +kernel, rfl⟩
theorem d_method_2_4 : Dc method_2_code 4 (.iand) 1 5 := ⟨by decide +kernel, rfl⟩
theorem d_method_2_5 : Dc method_2_code 5 (.i2c) 1 6 := ⟨by decide +kernel, rfl⟩
theorem d_method_2_6 : Dc method_2_code 6 (.istore_n 1) 1 7 := ⟨by decide +kernel, rfl⟩
theorem d_method_2_7 : Dc method_2_code 7 (.iload_n 0) 1 8 := ⟨by decide +kernel, rfl⟩
theorem d_method_2_8 : Dc method_2_code 8 (.bipush 8) 2 10 := ⟨by decide +kernel, rfl⟩
theorem lb_8 : (Int8.ofInt 8).toInt32 = 8 := by decide
theorem d_method_2_10 : Dc method_2_code 10 (.iushr) 1 11 := ⟨by decide +kernel, rfl⟩
theorem d_method_2_11 : Dc method_2_code 11 (.sipush 255) 3 14 := ⟨by decide +kernel, rfl⟩
theorem d_method_2_14 : Dc method_2_code 14 (.iand) 1 15 := ⟨by decide +kernel, rfl⟩
theorem d_method_2_15 : Dc method_2_code 15 (.i2c) 1 16 := ⟨by decide +kernel, rfl⟩
theorem d_method_2_16 : Dc method_2_code 16 (.istore_n 2) 1 17 := ⟨by decide +kernel, rfl⟩
theorem d_method_2_17 : Dc method_2_code 17 (.iload_n 0) 1 18 := ⟨by decide +kernel, rfl⟩
theorem d_method_2_18 : Dc method_2_code 18 (.bipush 16) 2 20 := ⟨by decide +kernel, rfl⟩
theorem lb_16 : (Int8.ofInt 16).toInt32 = 16 := by decide
theorem d_method_2_20 : Dc method_2_code 20 (.iushr) 1 21 := ⟨by decide +kernel, rfl⟩
theorem d_method_2_21 : Dc method_2_code 21 (.iconst 1) 1 22 := ⟨by decide +kernel, rfl⟩
theorem d_method_2_22 : Dc method_2_code 22 (.iand) 1 23 := ⟨by decide +kernel, rfl⟩
theorem d_method_2_23 : Bj method_2_code 23 (.ifCond .ne 18) 18 26 41 := ⟨by decide +kernel, rfl, by decide, rfl⟩
theorem d_method_2_26 : Dc method_2_code 26 (.new 7) 3 29 := ⟨by decide +kernel, rfl⟩
theorem w_4 {W : Wd} (hw : Ws W) : Wok W (Jvm.Cond.classLink "com/example/keybridge/keybridge/directory/UserEntryWithGroupsPinLaw" (7 : Nat) "java/lang/String") := hw.1 _ (List.mem_of_getElem? (i := 4) rfl)
theorem nf_oStr {W : Wd} (hw : Ws W) : NewFs W "java/lang/String" [("java/lang/String", "value", "[B", .null), ("java/lang/String", "coder", "B", .int 0)] := NewFs.cons (Or.inr (w_33 hw)) (ty := (.array .byte)) (by decide) rfl (by decide) (NewFs.cons (Or.inr (w_31 hw)) (ty := .byte) (by decide) rfl (by decide) (NewFs.nil))
theorem d_method_2_29 : Dc method_2_code 29 (.dup) 1 30 := ⟨by decide +kernel, rfl⟩
theorem d_method_2_30 : Dc method_2_code 30 (.iconst 1) 1 31 := ⟨by decide +kernel, rfl⟩
theorem d_method_2_31 : Dc method_2_code 31 (.newarray .char) 2 33 := ⟨by decide +kernel, rfl⟩
theorem w_7 {W : Wd} (hw : Ws W) : Wok W (Jvm.Cond.arrayClass Jvm.ClassFile.FieldType.char) := hw.1 _ (List.mem_of_getElem? (i := 7) rfl)
theorem d_method_2_33 : Dc method_2_code 33 (.dup) 1 34 := ⟨by decide +kernel, rfl⟩
theorem d_method_2_34 : Dc method_2_code 34 (.iconst 0) 1 35 := ⟨by decide +kernel, rfl⟩
theorem d_method_2_35 : Dc method_2_code 35 (.iload_n 1) 1 36 := ⟨by decide +kernel, rfl⟩
theorem d_method_2_36 : Dc method_2_code 36 (.castore) 1 37 := ⟨by decide +kernel, rfl⟩
theorem d_method_2_37 : Dc method_2_code 37 (.invokespecial 9) 3 40 := ⟨by decide +kernel, rfl⟩
theorem w_10 {W : Wd} (hw : Ws W) : Wok W (Jvm.Cond.code ({ cls := "java/lang/String", name := "<init>", desc := "([C)V" } : Jvm.MethodName) jdk_42_method_3_code (2 : Nat) (Option.none : Option Jvm.ClassFile.FieldType)) := hw.1 _ (List.mem_of_getElem? (i := 10) rfl)
theorem pd___C_V : parseMethodDescriptor "([C)V" = some ⟨[(.array .char)], none⟩ := by decide +kernel
theorem mk_M_si {W : Wd} (hw : Ws W) (n : Nat) : Mk W (M_si n) ⟨"java/lang/String", "<init>", "([C)V"⟩ 1 := Mk.of nm_M_si rfl rfl rfl (w_10 hw) (w_6 hw) (mkLen pd___C_V rfl) (by decide)
theorem w_8 {W : Wd} (hw : Ws W) : Wok W (Jvm.Cond.methodLink "com/example/keybridge/keybridge/directory/UserEntryWithGroupsPinLaw" (9 : Nat) ({ cls := "java/lang/String", name := "<init>", desc := "([C)V" } : Jvm.MethodName)) := hw.1 _ (List.mem_of_getElem? (i := 8) rfl)
theorem w_9 {W : Wd} (hw : Ws W) : Wok W (Jvm.Cond.instanceMethod ({ cls := "java/lang/String", name := "<init>", desc := "([C)V" } : Jvm.MethodName)) := hw.1 _ (List.mem_of_getElem? (i := 9) rfl)
theorem d_method_2_40 : Dc method_2_code 40 (.areturn) 1 41 := ⟨by decide +kernel, rfl⟩
theorem d_method_2_41 : Dc method_2_code 41 (.new 7) 3 44 := ⟨by decide +kernel, rfl⟩
theorem d_method_2_44 : Dc method_2_code 44 (.dup) 1 45 := ⟨by decide +kernel, rfl⟩
theorem d_method_2_45 : Dc method_2_code 45 (.iconst 2) 1 46 := ⟨by decide +kernel, rfl⟩
theorem lc_2 : Int32.ofInt 2 = 2 := by decide
theorem d_method_2_46 : Dc method_2_code 46 (.newarray .char) 2 48 := ⟨by decide +kernel, rfl⟩
theorem d_method_2_48 : Dc method_2_code 48 (.dup) 1 49 := ⟨by decide +kernel, rfl⟩
theorem d_method_2_49 : Dc method_2_code 49 (.iconst 0) 1 50 := ⟨by decide +kernel, rfl⟩
theorem d_method_2_50 : Dc method_2_code 50 (.iload_n 1) 1 51 := ⟨by decide +kernel, rfl⟩
theorem d_method_2_51 : Dc method_2_code 51 (.castore) 1 52 := ⟨by decide +kernel, rfl⟩
theorem d_method_2_52 : Dc method_2_code 52 (.dup) 1 53 := ⟨by decide +kernel, rfl⟩
theorem d_method_2_53 : Dc method_2_code 53 (.iconst 1) 1 54 := ⟨by decide +kernel, rfl⟩
theorem d_method_2_54 : Dc method_2_code 54 (.iload_n 2) 1 55 := ⟨by decide +kernel, rfl⟩
theorem d_method_2_55 : Dc method_2_code 55 (.castore) 1 56 := ⟨by decide +kernel, rfl⟩
theorem d_method_2_56 : Dc method_2_code 56 (.invokespecial 9) 3 59 := ⟨by decide +kernel, rfl⟩
theorem d_method_2_59 : Dc method_2_code 59 (.areturn) 1 60 := ⟨by decide +kernel, rfl⟩
def M_str : Mt := (⟨"com/example/keybridge/keybridge/directory/UserEntryWithGroupsPinLaw", "str", "(I)Ljava/lang/String;"⟩, method_2_code, 3, some (.object "java/lang/String"), ⟨4, 3, 8, 66⟩)
theorem nm_M_str : mN M_str = ⟨"com/example/keybridge/keybridge/directory/UserEntryWithGroupsPinLaw", "str", "(I)Ljava/lang/String;"⟩ := by delta mN M_str; rfl
theorem pf_com_example_keybridge_keybridge_directory_UserEntryWithGroupsPinLaw : plainName "com/example/keybridge/keybridge/directory/UserEntryWithGroupsPinLaw" = true := by first | (simp [plainName, overriddenIn]; done) | decide +kernel
set_option maxRecDepth 65536 in
set_option maxHeartbeats 40000000 in
theorem rm_str {W : Wd} (hw : Ws W) (x : Int32) (F : List En) : Ct W M_str [.int x] F (fun v H' => (∃ s : Addr, ∃ b : Addr, v = some (.ref s) ∧ H' = ((oStr true s (.ref b) (.int 0)) :: F))) := by
  refine Ct.intro (L0 := [.val (.int x), .unset, .unset]) (plainFor_of_name pf_com_example_keybridge_keybridge_directory_UserEntryWithGroupsPinLaw) rfl (fun K => ?_)
  refine Wp.iloadN rfl d_method_2_0 ?_
  refine Wp.sipush ls_255 d_method_2_1 ?_
  refine Wp.iand (z := (x &&& 255)) rfl d_method_2_4 ?_
  refine Wp.i2c (z := (x &&& 255)) (i2c_mask _) d_method_2_5 ?_
  refine Wp.istoreN (L' := [.val (.int x), .val (.int (x &&& 255)), .unset]) rfl d_method_2_6 ?_
  refine Wp.iloadN rfl d_method_2_7 ?_
  refine Wp.bipush lb_8 d_method_2_8 ?_
  refine Wp.iushr (z := (Jvm.Free.XT.ushr x 8)) rfl d_method_2_10 ?_
  refine Wp.sipush ls_255 d_method_2_11 ?_
  refine Wp.iand (z := ((Jvm.Free.XT.ushr x 8) &&& 255)) rfl d_method_2_14 ?_
  refine Wp.i2c (z := ((Jvm.Free.XT.ushr x 8) &&& 255)) (i2c_mask _) d_method_2_15 ?_
  refine Wp.istoreN (L' := [.val (.int x), .val (.int (x &&& 255)), .val (.int ((Jvm.Free.XT.ushr x 8) &&& 255))]) rfl d_method_2_16 ?_
  refine Wp.iloadN rfl d_method_2_17 ?_
  refine Wp.bipush lb_16 d_method_2_18 ?_
  refine Wp.iushr (z := (Jvm.Free.XT.ushr x 16)) rfl d_method_2_20 ?_
  refine Wp.iconst lc_1 d_method_2_21 ?_
  refine Wp.iand (z := ((Jvm.Free.XT.ushr x 16) &&& 1)) rfl d_method_2_22 ?_
  by_cases b23_1 : ((Jvm.Free.XT.ushr x 16) &&& 1) = 0
  · refine Wp.ifF (teq b23_1).2 d_method_2_23 ?_
    refine Wp.newO nm_M_str (w_4 hw) (w_5 hw) (w_6 hw) (nf_oStr hw) (by decide) (by decide) d_method_2_26 (fun a2 => ?_)
    refine Wp.dup rfl d_method_2_29 ?_
    refine Wp.iconst lc_1 d_method_2_30 ?_
    refine Wp.newP (kk := 1) (vs := [.int 0]) d_method_2_31 (w_7 hw) (by decide) (by decide) (by decide) (by decide) (by decide) rfl (fun a3 => ?_)
    refine Wp.dup rfl d_method_2_33 ?_
    refine Wp.iconst lc_0 d_method_2_34 ?_
    refine Wp.iloadN rfl d_method_2_35 ?_
    refine Wp.castore (z := (x &&& 255)) 0 0 rfl (by decide) (by decide) (show 0 < 1 by decide) (i2c_mask _) d_method_2_36 (H' := ((eC a3 [.int (x &&& 255)]) :: (oStr true a2 (.null) (.int 0)) :: F)) rfl ?_
    refine Wp.perm [1, 0] 2 pp_1_0 (H' := ((oStr true a2 (.null) (.int 0)) :: (eC a3 [.int (x &&& 255)]) :: F)) rfl ?_
    refine Wp.callC nm_M_str (M' := M_si 1) (rm_si hw a2 a3 true true false [(x &&& 255)] _ (hpC (mask255 _) hpN) (show 1 ≤ 4000 by decide) (show 0 < 1 by decide)) (mk_M_si hw 1) (w_8 hw) (w_9 hw) rfl rfl rfl rfl (Wn := 1) rfl rfl (by decide) d_method_2_37 ?_
    rintro _ _ ⟨b_4, rfl, rfl⟩
    refine Wp.less ((((List.Sublist.refl _).cons _).cons _).cons_cons _) ?_
    refine Wp.aret rfl rfl rfl d_method_2_40 (by decide) (by decide) ?_
    exact ⟨a2, b_4, rfl, rfl⟩
  · refine Wp.ifT (feq b23_1).2 d_method_2_23 ?_
    refine Wp.newO nm_M_str (w_4 hw) (w_5 hw) (w_6 hw) (nf_oStr hw) (by decide) (by decide) d_method_2_41 (fun a5 => ?_)
    refine Wp.dup rfl d_method_2_44 ?_
    refine Wp.iconst lc_2 d_method_2_45 ?_
    refine Wp.newP (kk := 2) (vs := [.int 0, .int 0]) d_method_2_46 (w_7 hw) (by decide) (by decide) (by decide) (by decide) (by decide) rfl (fun a6 => ?_)
    refine Wp.dup rfl d_method_2_48 ?_
    refine Wp.iconst lc_0 d_method_2_49 ?_
    refine Wp.iloadN rfl d_method_2_50 ?_
    refine Wp.castore (z := (x &&& 255)) 0 0 rfl (by decide) (by decide) (show 0 < 2 by decide) (i2c_mask _) d_method_2_51 (H' := ((eC a6 [.int (x &&& 255), .int 0]) :: (oStr true a5 (.null) (.int 0)) :: F)) rfl ?_
    refine Wp.dup rfl d_method_2_52 ?_
    refine Wp.iconst lc_1 d_method_2_53 ?_
    refine Wp.iloadN rfl d_method_2_54 ?_
    refine Wp.castore (z := ((Jvm.Free.XT.ushr x 8) &&& 255)) 0 1 rfl (by decide) (by decide) (show 1 < 2 by decide) (i2c_mask _) d_method_2_55 (H' := ((eC a6 [.int (x &&& 255), .int ((Jvm.Free.XT.ushr x 8) &&& 255)]) :: (oStr true a5 (.null) (.int 0)) :: F)) rfl ?_
    refine Wp.perm [1, 0] 2 pp_1_0 (H' := ((oStr true a5 (.null) (.int 0)) :: (eC a6 [.int (x &&& 255), .int ((Jvm.Free.XT.ushr x 8) &&& 255)]) :: F)) rfl ?_
    refine Wp.callC nm_M_str (M' := M_si 2) (rm_si hw a5 a6 true true false [(x &&& 255), ((Jvm.Free.XT.ushr x 8) &&& 255)] _ (hpC (mask255 _) (hpC (mask255 _) hpN)) (show 2 ≤ 4000 by decide) (show 0 < 2 by decide)) (mk_M_si hw 2) (w_8 hw) (w_9 hw) rfl rfl rfl rfl (Wn := 1) rfl rfl (by decide) d_method_2_56 ?_
    rintro _ _ ⟨b_7, rfl, rfl⟩
    refine Wp.less ((((List.Sublist.refl _).cons _).cons _).cons_cons _) ?_
    refine Wp.aret rfl rfl rfl d_method_2_59 (by decide) (by decide) ?_
    exact ⟨a5, b_7, rfl, rfl⟩
theorem d_jdk_42_66_0 : Dc jdk_42_method_66_code 0 (.aload_n 0) 1 1 := ⟨by decide +kernel, rfl⟩
theorem d_jdk_42_66_1 : Dc jdk_42_method_66_code 1 (.aload_n 1) 1 2 := ⟨by decide +kernel, rfl⟩
theorem d_jdk_42_66_2 : Bj jdk_42_method_66_code 2 (.if_acmp .ne 5) 5 5 7 := ⟨by decide +kernel, rfl, by decide, rfl⟩
theorem d_jdk_42_66_5 : Dc jdk_42_method_66_code 5 (.iconst 1) 1 6 := ⟨by decide +kernel, rfl⟩
theorem d_jdk_42_66_6 : Dc jdk_42_method_66_code 6 (.ireturn) 1 7 := ⟨by decide +kernel, rfl⟩
def M_seS : Mt := (⟨"java/lang/String", "equals", "(Ljava/lang/Object;)Z"⟩, jdk_42_method_66_code, 3, some .boolean, ⟨0, 0, 0, 0⟩)
theorem nm_M_seS : mN M_seS = ⟨"java/lang/String", "equals", "(Ljava/lang/Object;)Z"⟩ := by delta mN M_seS; rfl
set_option maxRecDepth 65536 in
set_option maxHeartbeats 40000000 in
theorem rm_seS {W : Wd} (hw : Ws W) (s : Addr) (rs : Bool) (sv : Value) (sc : Value) (F : List En) : Ct W M_seS [.ref s, .ref s] ((oStr rs s (sv) (sc)) :: F) (fun v H' => v = some (.int 1) ∧ H' = ((oStr rs s (sv) (sc)) :: F)) := by
  refine Ct.intro (L0 := [.val (.ref s), .val (.ref s), .unset]) (plainFor_of_name pf_java_lang_String) rfl (fun K => ?_)
  refine Wp.aloadN rfl rfl d_jdk_42_66_0 ?_
  refine Wp.aloadN rfl rfl d_jdk_42_66_1 ?_
  refine Wp.acF rfl rfl (acT_ne _) d_jdk_42_66_2 ?_
  refine Wp.iconst lc_1 d_jdk_42_66_5 ?_
  refine Wp.iretN (z := 1) (by simp) rfl (by decide) d_jdk_42_66_6 (by decide) (by decide) ?_
  exact ⟨rfl, rfl⟩
theorem d_method_3_0 : Dc method_3_code 0 (.aload_n 0) 1 1 := ⟨by decide +kernel, rfl⟩
theorem d_method_3_1 : Bj method_3_code 1 (.ifnonnull 13) 13 4 14 := ⟨by decide +kernel, rfl, by decide, rfl⟩
theorem d_method_3_14 : Dc method_3_code 14 (.aload_n 0) 1 15 := ⟨by decide +kernel, rfl⟩
theorem d_method_3_15 : Dc method_3_code 15 (.aload_n 1) 1 16 := ⟨by decide +kernel, rfl⟩
theorem d_method_3_16 : Dc method_3_code 16 (.invokevirtual 12) 3 19 := ⟨by decide +kernel, rfl⟩
theorem w_160 {W : Wd} (hw : Ws W) : Wok W (Jvm.Cond.selects "java/lang/String" ({ cls := "java/lang/String", name := "equals", desc := "(Ljava/lang/Object;)Z" } : Jvm.MethodName) ({ cls := "java/lang/String", name := "equals", desc := "(Ljava/lang/Object;)Z" } : Jvm.MethodName)) := hw.1 _ (List.mem_of_getElem? (i := 160) rfl)
theorem w_161 {W : Wd} (hw : Ws W) : Wok W (Jvm.Cond.code ({ cls := "java/lang/String", name := "equals", desc := "(Ljava/lang/Object;)Z" } : Jvm.MethodName) jdk_42_method_66_code (3 : Nat) (Option.some Jvm.ClassFile.FieldType.boolean)) := hw.1 _ (List.mem_of_getElem? (i := 161) rfl)
theorem pd__Ljava_lang_Object__Z : parseMethodDescriptor "(Ljava/lang/Object;)Z" = some ⟨[(.object "java/lang/Object")], some .boolean⟩ := by decide +kernel
theorem mk_M_seS {W : Wd} (hw : Ws W) : Mk W M_seS ⟨"java/lang/String", "equals", "(Ljava/lang/Object;)Z"⟩ 1 := Mk.of nm_M_seS rfl rfl rfl (w_161 hw) (w_6 hw) (mkLen pd__Ljava_lang_Object__Z rfl) (by decide)
theorem w_157 {W : Wd} (hw : Ws W) : Wok W (Jvm.Cond.methodLink "com/example/keybridge/keybridge/directory/UserEntryWithGroupsPinLaw" (12 : Nat) ({ cls := "java/lang/String", name := "equals", desc := "(Ljava/lang/Object;)Z" } : Jvm.MethodName)) := hw.1 _ (List.mem_of_getElem? (i := 157) rfl)
theorem w_158 {W : Wd} (hw : Ws W) : Wok W (Jvm.Cond.declares ({ cls := "java/lang/String", name := "equals", desc := "(Ljava/lang/Object;)Z" } : Jvm.MethodName)) := hw.1 _ (List.mem_of_getElem? (i := 158) rfl)
theorem w_159 {W : Wd} (hw : Ws W) : Wok W (Jvm.Cond.instanceMethod ({ cls := "java/lang/String", name := "equals", desc := "(Ljava/lang/Object;)Z" } : Jvm.MethodName)) := hw.1 _ (List.mem_of_getElem? (i := 159) rfl)
theorem d_method_3_19 : Dc method_3_code 19 (.ireturn) 1 20 := ⟨by decide +kernel, rfl⟩
def M_eqS : Mt := (⟨"com/example/keybridge/keybridge/directory/UserEntryWithGroupsPinLaw", "eq", "(Ljava/lang/String;Ljava/lang/String;)Z"⟩, method_3_code, 2, some .boolean, ⟨1, 0, 0, 14⟩)
theorem nm_M_eqS : mN M_eqS = ⟨"com/example/keybridge/keybridge/directory/UserEntryWithGroupsPinLaw", "eq", "(Ljava/lang/String;Ljava/lang/String;)Z"⟩ := by delta mN M_eqS; rfl
set_option maxRecDepth 65536 in
set_option maxHeartbeats 40000000 in
theorem rm_eqS {W : Wd} (hw : Ws W) (s : Addr) (rs : Bool) (sv : Value) (sc : Value) (F : List En) : Ct W M_eqS [.ref s, .ref s] ((oStr rs s (sv) (sc)) :: F) (fun v H' => v = some (.int 1) ∧ H' = ((oStr rs s (sv) (sc)) :: F)) := by
  refine Ct.intro (L0 := [.val (.ref s), .val (.ref s)]) (plainFor_of_name pf_com_example_keybridge_keybridge_directory_UserEntryWithGroupsPinLaw) rfl (fun K => ?_)
  refine Wp.aloadN rfl rfl d_method_3_0 ?_
  refine Wp.ifnonnullT d_method_3_1 ?_
  refine Wp.aloadN rfl rfl d_method_3_14 ?_
  refine Wp.aloadN rfl rfl d_method_3_15 ?_
  refine Wp.callV nm_M_eqS (rm_seS hw s rs sv sc _ ) 0 rfl (mk_M_seS hw) (w_157 hw) (w_158 hw) (w_160 hw) (w_159 hw) (S' := "") (Or.inl rfl) (by decide) rfl rfl rfl (Wn := 0) rfl rfl (by decide) d_method_3_16 ?_
  rintro _ _ ⟨rfl, rfl⟩
  refine Wp.iretN (z := 1) (by simp) rfl (by decide) d_method_3_19 (by decide) (by decide) ?_
  exact ⟨rfl, rfl⟩
theorem d_method_3_4 : Dc method_3_code 4 (.aload_n 1) 1 5 := ⟨by decide +kernel, rfl⟩
theorem d_method_3_5 : Bj method_3_code 5 (.ifnonnull 7) 7 8 12 := ⟨by decide +kernel, rfl, by decide, rfl⟩
theorem d_method_3_8 : Dc method_3_code 8 (.iconst 1) 1 9 := ⟨by decide +kernel, rfl⟩
theorem d_method_3_9 : Bj method_3_code 9 (.goto 4) 4 12 13 := ⟨by decide +kernel, rfl, by decide, rfl⟩
theorem d_method_3_13 : Dc method_3_code 13 (.ireturn) 1 14 := ⟨by decide +kernel, rfl⟩
def M_eqN : Mt := (⟨"com/example/keybridge/keybridge/directory/UserEntryWithGroupsPinLaw", "eq", "(Ljava/lang/String;Ljava/lang/String;)Z"⟩, method_3_code, 2, some .boolean, ⟨0, 0, 0, 0⟩)
theorem nm_M_eqN : mN M_eqN = ⟨"com/example/keybridge/keybridge/directory/UserEntryWithGroupsPinLaw", "eq", "(Ljava/lang/String;Ljava/lang/String;)Z"⟩ := by delta mN M_eqN; rfl
set_option maxRecDepth 65536 in
set_option maxHeartbeats 40000000 in
theorem rm_eqN {W : Wd} (hw : Ws W) (F : List En) : Ct W M_eqN [.null, .null] F (fun v H' => v = some (.int 1) ∧ H' = F) := by
  refine Ct.intro (L0 := [.val (.null), .val (.null)]) (plainFor_of_name pf_com_example_keybridge_keybridge_directory_UserEntryWithGroupsPinLaw) rfl (fun K => ?_)
  refine Wp.aloadN rfl rfl d_method_3_0 ?_
  refine Wp.ifnonnullF d_method_3_1 ?_
  refine Wp.aloadN rfl rfl d_method_3_4 ?_
  refine Wp.ifnonnullF d_method_3_5 ?_
  refine Wp.iconst lc_1 d_method_3_8 ?_
  refine Wp.goto d_method_3_9 ?_
  refine Wp.iretN (z := 1) (by simp) rfl (by decide) d_method_3_13 (by decide) (by decide) ?_
  exact ⟨rfl, rfl⟩
theorem d_jdk_40_36_0 : Dc jdk_40_method_36_code 0 (.getstatic 90) 3 3 := ⟨by decide +kernel, rfl⟩
theorem w_68 {W : Wd} (hw : Ws W) : Wok W (Jvm.Cond.fieldLink "java/util/List" (90 : Nat) "java/util/ImmutableCollections" "EMPTY_LIST" "Ljava/util/ImmutableCollections$ListN;") := hw.1 _ (List.mem_of_getElem? (i := 68) rfl)
theorem d_jdk_40_36_3 : Dc jdk_40_method_36_code 3 (.areturn) 1 4 := ⟨by decide +kernel, rfl⟩
def M_lof : Mt := (⟨"java/util/List", "of", "()Ljava/util/List;"⟩, jdk_40_method_36_code, 0, some (.object "java/util/List"), ⟨0, 0, 0, 0⟩)
theorem nm_M_lof : mN M_lof = ⟨"java/util/List", "of", "()Ljava/util/List;"⟩ := by delta mN M_lof; rfl
theorem pf_java_util_List : plainName "java/util/List" = true := by first | (simp [plainName, overriddenIn]; done) | decide +kernel
set_option maxRecDepth 65536 in
set_option maxHeartbeats 40000000 in
theorem rm_lof {W : Wd} (hw : Ws W) (el : Addr) (F : List En) (hel : Sta (wZ W) (wZ W).heap "java/util/ImmutableCollections" "EMPTY_LIST" "Ljava/util/ImmutableCollections$ListN;" (.ref el)) : Ct W M_lof [] F (fun v H' => v = some (.ref el) ∧ H' = F) := by
  refine Ct.intro (L0 := []) (plainFor_of_name pf_java_util_List) rfl (fun K => ?_)
  refine Wp.getS nm_M_lof (host := "") (Or.inl (w_68 hw)) Via.refl hel d_jdk_40_36_0 ?_
  refine Wp.aret rfl rfl rfl d_jdk_40_36_3 (by decide) (by decide) ?_
  exact ⟨rfl, rfl⟩
theorem d_jdk_31_10_0 : Dc jdk_31_method_10_code 0 (.aload_n 0) 1 1 := ⟨by decide +kernel, rfl⟩
theorem d_jdk_31_10_1 : Bj jdk_31_method_10_code 1 (.ifnonnull 11) 11 4 12 := ⟨by decide +kernel, rfl, by decide, rfl⟩
theorem d_jdk_31_10_12 : Dc jdk_31_method_10_code 12 (.aload_n 0) 1 13 := ⟨by decide +kernel, rfl⟩
theorem d_jdk_31_10_13 : Dc jdk_31_method_10_code 13 (.areturn) 1 14 := ⟨by decide +kernel, rfl⟩
def M_rnn : Mt := (⟨"java/util/Objects", "requireNonNull", "(Ljava/lang/Object;)Ljava/lang/Object;"⟩, jdk_31_method_10_code, 1, some (.object "java/lang/Object"), ⟨0, 0, 0, 0⟩)
theorem nm_M_rnn : mN M_rnn = ⟨"java/util/Objects", "requireNonNull", "(Ljava/lang/Object;)Ljava/lang/Object;"⟩ := by delta mN M_rnn; rfl
theorem pf_java_util_Objects : plainName "java/util/Objects" = true := by first | (simp [plainName, overriddenIn]; done) | decide +kernel
set_option maxRecDepth 65536 in
set_option maxHeartbeats 40000000 in
theorem rm_rnn {W : Wd} (hw : Ws W) (o : Addr) (F : List En) : Ct W M_rnn [.ref o] F (fun v H' => v = some (.ref o) ∧ H' = F) := by
  refine Ct.intro (L0 := [.val (.ref o)]) (plainFor_of_name pf_java_util_Objects) rfl (fun K => ?_)
  refine Wp.aloadN rfl rfl d_jdk_31_10_0 ?_
  refine Wp.ifnonnullT d_jdk_31_10_1 ?_
  refine Wp.aloadN rfl rfl d_jdk_31_10_12 ?_
  refine Wp.aret rfl rfl rfl d_jdk_31_10_13 (by decide) (by decide) ?_
  exact ⟨rfl, rfl⟩
theorem d_jdk_47_1_0 : Dc jdk_47_method_1_code 0 (.aload_n 0) 1 1 := ⟨by decide +kernel, rfl⟩
theorem d_jdk_47_1_1 : Dc jdk_47_method_1_code 1 (.invokespecial 1) 3 4 := ⟨by decide +kernel, rfl⟩
theorem w_240 {W : Wd} (hw : Ws W) : Wok W (Jvm.Cond.methodLink "java/util/ImmutableCollections$AbstractImmutableCollection" (1 : Nat) ({ cls := "java/util/AbstractCollection", name := "<init>", desc := "()V" } : Jvm.MethodName)) := hw.1 _ (List.mem_of_getElem? (i := 240) rfl)
theorem d_jdk_47_1_4 : Dc jdk_47_method_1_code 4 (.return_) 1 5 := ⟨by decide +kernel, rfl⟩
def M_aic : Mt := (⟨"java/util/ImmutableCollections$AbstractImmutableCollection", "<init>", "()V"⟩, jdk_47_method_1_code, 1, none, ⟨2, 0, 0, 24⟩)
theorem nm_M_aic : mN M_aic = ⟨"java/util/ImmutableCollections$AbstractImmutableCollection", "<init>", "()V"⟩ := by delta mN M_aic; rfl
theorem pf_java_util_ImmutableCollections_AbstractImmutableCollection : plainName "java/util/ImmutableCollections$AbstractImmutableCollection" = true := by first | (simp [plainName, overriddenIn]; done) | decide +kernel
set_option maxRecDepth 65536 in
set_option maxHeartbeats 40000000 in
theorem rm_aic {W : Wd} (hw : Ws W) (l : Addr) (F : List En) : Ct W M_aic [.ref l] F (fun v H' => v = none ∧ H' = F) := by
  refine Ct.intro (L0 := [.val (.ref l)]) (plainFor_of_name pf_java_util_ImmutableCollections_AbstractImmutableCollection) rfl (fun K => ?_)
  refine Wp.aloadN rfl rfl d_jdk_47_1_0 ?_
  refine Wp.callC nm_M_aic (rm_aci hw l _ ) (mk_M_aci hw) (w_240 hw) (w_47 hw) rfl rfl rfl rfl (Wn := 0) rfl rfl (by decide) d_jdk_47_1_1 ?_
  rintro _ _ ⟨rfl, rfl⟩
  refine Wp.ret rfl d_jdk_47_1_4 (by decide) (by decide) ?_
  exact ⟨rfl, rfl⟩
theorem d_jdk_46_1_0 : Dc jdk_46_method_1_code 0 (.aload_n 0) 1 1 := ⟨by decide +kernel, rfl⟩
theorem d_jdk_46_1_1 : Dc jdk_46_method_1_code 1 (.invokespecial 1) 3 4 := ⟨by decide +kernel, rfl⟩
theorem w_239 {W : Wd} (hw : Ws W) : Wok W (Jvm.Cond.code ({ cls := "java/util/ImmutableCollections$AbstractImmutableCollection", name := "<init>", desc := "()V" } : Jvm.MethodName) jdk_47_method_1_code (1 : Nat) (Option.none : Option Jvm.ClassFile.FieldType)) := hw.1 _ (List.mem_of_getElem? (i := 239) rfl)
theorem w_238 {W : Wd} (hw : Ws W) : Wok W (Jvm.Cond.initialized "java/util/ImmutableCollections$AbstractImmutableCollection") := hw.1 _ (List.mem_of_getElem? (i := 238) rfl)
theorem mk_M_aic {W : Wd} (hw : Ws W) : Mk W M_aic ⟨"java/util/ImmutableCollections$AbstractImmutableCollection", "<init>", "()V"⟩ 0 := Mk.of nm_M_aic rfl rfl rfl (w_239 hw) (w_238 hw) (mkLen pd___V rfl) (by decide)
theorem w_234 {W : Wd} (hw : Ws W) : Wok W (Jvm.Cond.methodLink "java/util/ImmutableCollections$AbstractImmutableList" (1 : Nat) ({ cls := "java/util/ImmutableCollections$AbstractImmutableCollection", name := "<init>", desc := "()V" } : Jvm.MethodName)) := hw.1 _ (List.mem_of_getElem? (i := 234) rfl)
theorem w_235 {W : Wd} (hw : Ws W) : Wok W (Jvm.Cond.instanceMethod ({ cls := "java/util/ImmutableCollections$AbstractImmutableCollection", name := "<init>", desc := "()V" } : Jvm.MethodName)) := hw.1 _ (List.mem_of_getElem? (i := 235) rfl)
theorem d_jdk_46_1_4 : Dc jdk_46_method_1_code 4 (.return_) 1 5 := ⟨by decide +kernel, rfl⟩
def M_ail : Mt := (⟨"java/util/ImmutableCollections$AbstractImmutableList", "<init>", "()V"⟩, jdk_46_method_1_code, 1, none, ⟨3, 0, 0, 36⟩)
theorem nm_M_ail : mN M_ail = ⟨"java/util/ImmutableCollections$AbstractImmutableList", "<init>", "()V"⟩ := by delta mN M_ail; rfl
theorem pf_java_util_ImmutableCollections_AbstractImmutableList : plainName "java/util/ImmutableCollections$AbstractImmutableList" = true := by first | (simp [plainName, overriddenIn]; done) | decide +kernel
set_option maxRecDepth 65536 in
set_option maxHeartbeats 40000000 in
theorem rm_ail {W : Wd} (hw : Ws W) (l : Addr) (F : List En) : Ct W M_ail [.ref l] F (fun v H' => v = none ∧ H' = F) := by
  refine Ct.intro (L0 := [.val (.ref l)]) (plainFor_of_name pf_java_util_ImmutableCollections_AbstractImmutableList) rfl (fun K => ?_)
  refine Wp.aloadN rfl rfl d_jdk_46_1_0 ?_
  refine Wp.callC nm_M_ail (rm_aic hw l _ ) (mk_M_aic hw) (w_234 hw) (w_235 hw) rfl rfl rfl rfl (Wn := 0) rfl rfl (by decide) d_jdk_46_1_1 ?_
  rintro _ _ ⟨rfl, rfl⟩
  refine Wp.ret rfl d_jdk_46_1_4 (by decide) (by decide) ?_
  exact ⟨rfl, rfl⟩
theorem d_jdk_44_1_0 : Dc jdk_44_method_1_code 0 (.aload_n 0) 1 1 := ⟨by decide +kernel, rfl⟩
theorem d_jdk_44_1_1 : Dc jdk_44_method_1_code 1 (.invokespecial 1) 3 4 := ⟨by decide +kernel, rfl⟩
theorem w_233 {W : Wd} (hw : Ws W) : Wok W (Jvm.Cond.code ({ cls := "java/util/ImmutableCollections$AbstractImmutableList", name := "<init>", desc := "()V" } : Jvm.MethodName) jdk_46_method_1_code (1 : Nat) (Option.none : Option Jvm.ClassFile.FieldType)) := hw.1 _ (List.mem_of_getElem? (i := 233) rfl)
theorem w_232 {W : Wd} (hw : Ws W) : Wok W (Jvm.Cond.initialized "java/util/ImmutableCollections$AbstractImmutableList") := hw.1 _ (List.mem_of_getElem? (i := 232) rfl)
theorem mk_M_ail {W : Wd} (hw : Ws W) : Mk W M_ail ⟨"java/util/ImmutableCollections$AbstractImmutableList", "<init>", "()V"⟩ 0 := Mk.of nm_M_ail rfl rfl rfl (w_233 hw) (w_232 hw) (mkLen pd___V rfl) (by decide)
theorem w_228 {W : Wd} (hw : Ws W) : Wok W (Jvm.Cond.methodLink "java/util/ImmutableCollections$List12" (1 : Nat) ({ cls := "java/util/ImmutableCollections$AbstractImmutableList", name := "<init>", desc := "()V" } : Jvm.MethodName)) := hw.1 _ (List.mem_of_getElem? (i := 228) rfl)
theorem w_229 {W : Wd} (hw : Ws W) : Wok W (Jvm.Cond.instanceMethod ({ cls := "java/util/ImmutableCollections$AbstractImmutableList", name := "<init>", desc := "()V" } : Jvm.MethodName)) := hw.1 _ (List.mem_of_getElem? (i := 229) rfl)
theorem d_jdk_44_1_4 : Dc jdk_44_method_1_code 4 (.aload_n 0) 1 5 := ⟨by decide +kernel, rfl⟩
theorem d_jdk_44_1_5 : Dc jdk_44_method_1_code 5 (.aload_n 1) 1 6 := ⟨by decide +kernel, rfl⟩
theorem d_jdk_44_1_6 : Dc jdk_44_method_1_code 6 (.invokestatic 7) 3 9 := ⟨by decide +kernel, rfl⟩
theorem w_245 {W : Wd} (hw : Ws W) : Wok W (Jvm.Cond.code ({ cls := "java/util/Objects", name := "requireNonNull", desc := "(Ljava/lang/Object;)Ljava/lang/Object;" } : Jvm.MethodName) jdk_31_method_10_code (1 : Nat) (Option.some (Jvm.ClassFile.FieldType.object "java/lang/Object"))) := hw.1 _ (List.mem_of_getElem? (i := 245) rfl)
theorem w_244 {W : Wd} (hw : Ws W) : Wok W (Jvm.Cond.initialized "java/util/Objects") := hw.1 _ (List.mem_of_getElem? (i := 244) rfl)
theorem pd__Ljava_lang_Object__Ljava_lang_Object_ : parseMethodDescriptor "(Ljava/lang/Object;)Ljava/lang/Object;" = some ⟨[(.object "java/lang/Object")], some (.object "java/lang/Object")⟩ := by decide +kernel
theorem mk_M_rnn {W : Wd} (hw : Ws W) : Mk W M_rnn ⟨"java/util/Objects", "requireNonNull", "(Ljava/lang/Object;)Ljava/lang/Object;"⟩ 1 := Mk.of nm_M_rnn rfl rfl rfl (w_245 hw) (w_244 hw) (mkLen pd__Ljava_lang_Object__Ljava_lang_Object_ rfl) (by decide)
theorem w_242 {W : Wd} (hw : Ws W) : Wok W (Jvm.Cond.methodLink "java/util/ImmutableCollections$List12" (7 : Nat) ({ cls := "java/util/Objects", name := "requireNonNull", desc := "(Ljava/lang/Object;)Ljava/lang/Object;" } : Jvm.MethodName)) := hw.1 _ (List.mem_of_getElem? (i := 242) rfl)
theorem w_243 {W : Wd} (hw : Ws W) : Wok W (Jvm.Cond.static ({ cls := "java/util/Objects", name := "requireNonNull", desc := "(Ljava/lang/Object;)Ljava/lang/Object;" } : Jvm.MethodName)) := hw.1 _ (List.mem_of_getElem? (i := 243) rfl)
theorem d_jdk_44_1_9 : Dc jdk_44_method_1_code 9 (.putfield 13) 3 12 := ⟨by decide +kernel, rfl⟩
theorem w_247 {W : Wd} (hw : Ws W) : Wok W (Jvm.Cond.laysFinal "java/util/ImmutableCollections$List12" "java/util/ImmutableCollections$List12" "e0" "Ljava/lang/Object;") := hw.1 _ (List.mem_of_getElem? (i := 247) rfl)
theorem w_246 {W : Wd} (hw : Ws W) : Wok W (Jvm.Cond.fieldLink "java/util/ImmutableCollections$List12" (13 : Nat) "java/util/ImmutableCollections$List12" "e0" "Ljava/lang/Object;") := hw.1 _ (List.mem_of_getElem? (i := 246) rfl)
theorem w_222 {W : Wd} (hw : Ws W) : Wok W (Jvm.Cond.instantiable "java/util/ImmutableCollections$List12" (2 : Nat)) := hw.1 _ (List.mem_of_getElem? (i := 222) rfl)
theorem d_jdk_44_1_12 : Dc jdk_44_method_1_code 12 (.aload_n 0) 1 13 := ⟨by decide +kernel, rfl⟩
theorem d_jdk_44_1_13 : Dc jdk_44_method_1_code 13 (.getstatic 19) 3 16 := ⟨by decide +kernel, rfl⟩
theorem w_256 {W : Wd} (hw : Ws W) : Wok W (Jvm.Cond.fieldLinkNest "java/util/ImmutableCollections$List12" (19 : Nat) "java/util/ImmutableCollections" "EMPTY" "Ljava/lang/Object;" "java/util/ImmutableCollections") := hw.1 _ (List.mem_of_getElem? (i := 256) rfl)
theorem d_jdk_44_1_16 : Dc jdk_44_method_1_code 16 (.putfield 24) 3 19 := ⟨by decide +kernel, rfl⟩
theorem w_249 {W : Wd} (hw : Ws W) : Wok W (Jvm.Cond.laysFinal "java/util/ImmutableCollections$List12" "java/util/ImmutableCollections$List12" "e1" "Ljava/lang/Object;") := hw.1 _ (List.mem_of_getElem? (i := 249) rfl)
theorem w_248 {W : Wd} (hw : Ws W) : Wok W (Jvm.Cond.fieldLink "java/util/ImmutableCollections$List12" (24 : Nat) "java/util/ImmutableCollections$List12" "e1" "Ljava/lang/Object;") := hw.1 _ (List.mem_of_getElem? (i := 248) rfl)
theorem d_jdk_44_1_19 : Dc jdk_44_method_1_code 19 (.return_) 1 20 := ⟨by decide +kernel, rfl⟩
def M_l1i : Mt := (⟨"java/util/ImmutableCollections$List12", "<init>", "(Ljava/lang/Object;)V"⟩, jdk_44_method_1_code, 2, none, ⟨4, 0, 0, 48⟩)
theorem nm_M_l1i : mN M_l1i = ⟨"java/util/ImmutableCollections$List12", "<init>", "(Ljava/lang/Object;)V"⟩ := by delta mN M_l1i; rfl
theorem pf_java_util_ImmutableCollections_List12 : plainName "java/util/ImmutableCollections$List12" = true := by first | (simp [plainName, overriddenIn]; done) | decide +kernel
set_option maxRecDepth 65536 in
set_option maxHeartbeats 40000000 in
theorem rm_l1i {W : Wd} (hw : Ws W) (l : Addr) (a : Addr) (em : Addr) (F : List En) (hem : Sta (wZ W) (wZ W).heap "java/util/ImmutableCollections" "EMPTY" "Ljava/lang/Object;" (.ref em)) : Ct W M_l1i [.ref l, .ref a] ((oL12 true l (.null) (.null)) :: F) (fun v H' => v = none ∧ H' = ((oL12 true l (.ref a) (.ref em)) :: F)) := by
  refine Ct.intro (L0 := [.val (.ref l), .val (.ref a)]) (plainFor_of_name pf_java_util_ImmutableCollections_List12) rfl (fun K => ?_)
  refine Wp.aloadN rfl rfl d_jdk_44_1_0 ?_
  refine Wp.callC nm_M_l1i (rm_ail hw l _ ) (mk_M_ail hw) (w_228 hw) (w_229 hw) rfl rfl rfl rfl (Wn := 0) rfl rfl (by decide) d_jdk_44_1_1 ?_
  rintro _ _ ⟨rfl, rfl⟩
  refine Wp.aloadN rfl rfl d_jdk_44_1_4 ?_
  refine Wp.aloadN rfl rfl d_jdk_44_1_5 ?_
  refine Wp.callS nm_M_l1i (rm_rnn hw a _ ) (mk_M_rnn hw) (w_242 hw) (w_243 hw) rfl rfl (Wn := 1) rfl rfl (by decide) d_jdk_44_1_6 ?_
  rintro _ _ ⟨rfl, rfl⟩
  refine Wp.putF nm_M_l1i (host := "") (Or.inl (w_246 hw)) Via.refl 0 0 rfl rfl (Or.inr ⟨(w_247 hw), rfl, rfl⟩) (w_222 hw) (ty := (.object "java/lang/Object")) (by decide) rfl rfl d_jdk_44_1_9 (H' := ((oL12 true l (.ref a) (.null)) :: F)) rfl ?_
  refine Wp.aloadN rfl rfl d_jdk_44_1_12 ?_
  refine Wp.getS nm_M_l1i (Or.inr (w_256 hw)) Via.refl hem d_jdk_44_1_13 ?_
  refine Wp.putF nm_M_l1i (host := "") (Or.inl (w_248 hw)) Via.refl 0 1 rfl rfl (Or.inr ⟨(w_249 hw), rfl, rfl⟩) (w_222 hw) (ty := (.object "java/lang/Object")) (by decide) rfl rfl d_jdk_44_1_16 (H' := ((oL12 true l (.ref a) (.ref em)) :: F)) rfl ?_
  refine Wp.ret rfl d_jdk_44_1_19 (by decide) (by decide) ?_
  exact ⟨rfl, rfl⟩
theorem d_jdk_44_2_0 : Dc jdk_44_method_2_code 0 (.aload_n 0) 1 1 := ⟨by decide +kernel, rfl⟩
theorem d_jdk_44_2_1 : Dc jdk_44_method_2_code 1 (.invokespecial 1) 3 4 := ⟨by decide +kernel, rfl⟩
theorem d_jdk_44_2_4 : Dc jdk_44_method_2_code 4 (.aload_n 0) 1 5 := ⟨by decide +kernel, rfl⟩
theorem d_jdk_44_2_5 : Dc jdk_44_method_2_code 5 (.aload_n 1) 1 6 := ⟨by decide +kernel, rfl⟩
theorem d_jdk_44_2_6 : Dc jdk_44_method_2_code 6 (.invokestatic 7) 3 9 := ⟨by decide +kernel, rfl⟩
theorem d_jdk_44_2_9 : Dc jdk_44_method_2_code 9 (.putfield 13) 3 12 := ⟨by decide +kernel, rfl⟩
theorem d_jdk_44_2_12 : Dc jdk_44_method_2_code 12 (.aload_n 0) 1 13 := ⟨by decide +kernel, rfl⟩
theorem d_jdk_44_2_13 : Dc jdk_44_method_2_code 13 (.aload_n 2) 1 14 := ⟨by decide +kernel, rfl⟩
theorem d_jdk_44_2_14 : Dc jdk_44_method_2_code 14 (.invokestatic 7) 3 17 := ⟨by decide +kernel, rfl⟩
theorem d_jdk_44_2_17 : Dc jdk_44_method_2_code 17 (.putfield 24) 3 20 := ⟨by decide +kernel, rfl⟩
theorem d_jdk_44_2_20 : Dc jdk_44_method_2_code 20 (.return_) 1 21 := ⟨by decide +kernel, rfl⟩
def M_l2i : Mt := (⟨"java/util/ImmutableCollections$List12", "<init>", "(Ljava/lang/Object;Ljava/lang/Object;)V"⟩, jdk_44_method_2_code, 3, none, ⟨4, 0, 0, 48⟩)
theorem nm_M_l2i : mN M_l2i = ⟨"java/util/ImmutableCollections$List12", "<init>", "(Ljava/lang/Object;Ljava/lang/Object;)V"⟩ := by delta mN M_l2i; rfl
set_option maxRecDepth 65536 in
set_option maxHeartbeats 40000000 in
theorem rm_l2i {W : Wd} (hw : Ws W) (l : Addr) (a : Addr) (b : Addr) (F : List En) : Ct W M_l2i [.ref l, .ref a, .ref b] ((oL12 true l (.null) (.null)) :: F) (fun v H' => v = none ∧ H' = ((oL12 true l (.ref a) (.ref b)) :: F)) := by
  refine Ct.intro (L0 := [.val (.ref l), .val (.ref a), .val (.ref b)]) (plainFor_of_name pf_java_util_ImmutableCollections_List12) rfl (fun K => ?_)
  refine Wp.aloadN rfl rfl d_jdk_44_2_0 ?_
  refine Wp.callC nm_M_l2i (rm_ail hw l _ ) (mk_M_ail hw) (w_228 hw) (w_229 hw) rfl rfl rfl rfl (Wn := 0) rfl rfl (by decide) d_jdk_44_2_1 ?_
  rintro _ _ ⟨rfl, rfl⟩
  refine Wp.aloadN rfl rfl d_jdk_44_2_4 ?_
  refine Wp.aloadN rfl rfl d_jdk_44_2_5 ?_
  refine Wp.callS nm_M_l2i (rm_rnn hw a _ ) (mk_M_rnn hw) (w_242 hw) (w_243 hw) rfl rfl (Wn := 1) rfl rfl (by decide) d_jdk_44_2_6 ?_
  rintro _ _ ⟨rfl, rfl⟩
  refine Wp.putF nm_M_l2i (host := "") (Or.inl (w_246 hw)) Via.refl 0 0 rfl rfl (Or.inr ⟨(w_247 hw), rfl, rfl⟩) (w_222 hw) (ty := (.object "java/lang/Object")) (by decide) rfl rfl d_jdk_44_2_9 (H' := ((oL12 true l (.ref a) (.null)) :: F)) rfl ?_
  refine Wp.aloadN rfl rfl d_jdk_44_2_12 ?_
  refine Wp.aloadN rfl rfl d_jdk_44_2_13 ?_
  refine Wp.callS nm_M_l2i (rm_rnn hw b _ ) (mk_M_rnn hw) (w_242 hw) (w_243 hw) rfl rfl (Wn := 1) rfl rfl (by decide) d_jdk_44_2_14 ?_
  rintro _ _ ⟨rfl, rfl⟩
  refine Wp.putF nm_M_l2i (host := "") (Or.inl (w_248 hw)) Via.refl 0 1 rfl rfl (Or.inr ⟨(w_249 hw), rfl, rfl⟩) (w_222 hw) (ty := (.object "java/lang/Object")) (by decide) rfl rfl d_jdk_44_2_17 (H' := ((oL12 true l (.ref a) (.ref b)) :: F)) rfl ?_
  refine Wp.ret rfl d_jdk_44_2_20 (by decide) (by decide) ?_
  exact ⟨rfl, rfl⟩
theorem d_jdk_45_1_0 : Dc jdk_45_method_1_code 0 (.aload_n 0) 1 1 := ⟨by decide +kernel, rfl⟩
theorem d_jdk_45_1_1 : Dc jdk_45_method_1_code 1 (.invokespecial 1) 3 4 := ⟨by decide +kernel, rfl⟩
theorem w_274 {W : Wd} (hw : Ws W) : Wok W (Jvm.Cond.methodLink "java/util/ImmutableCollections$ListN" (1 : Nat) ({ cls := "java/util/ImmutableCollections$AbstractImmutableList", name := "<init>", desc := "()V" } : Jvm.MethodName)) := hw.1 _ (List.mem_of_getElem? (i := 274) rfl)
theorem d_jdk_45_1_4 : Dc jdk_45_method_1_code 4 (.aload_n 0) 1 5 := ⟨by decide +kernel, rfl⟩
theorem d_jdk_45_1_5 : Dc jdk_45_method_1_code 5 (.aload_n 1) 1 6 := ⟨by decide +kernel, rfl⟩
theorem d_jdk_45_1_6 : Dc jdk_45_method_1_code 6 (.putfield 7) 3 9 := ⟨by decide +kernel, rfl⟩
theorem w_187 {W : Wd} (hw : Ws W) : Wok W (Jvm.Cond.laysFinal "java/util/ImmutableCollections$ListN" "java/util/ImmutableCollections$ListN" "elements" "[Ljava/lang/Object;") := hw.1 _ (List.mem_of_getElem? (i := 187) rfl)
theorem w_186 {W : Wd} (hw : Ws W) : Wok W (Jvm.Cond.fieldLink "java/util/ImmutableCollections$ListN" (7 : Nat) "java/util/ImmutableCollections$ListN" "elements" "[Ljava/lang/Object;") := hw.1 _ (List.mem_of_getElem? (i := 186) rfl)
theorem w_270 {W : Wd} (hw : Ws W) : Wok W (Jvm.Cond.instantiable "java/util/ImmutableCollections$ListN" (2 : Nat)) := hw.1 _ (List.mem_of_getElem? (i := 270) rfl)
theorem d_jdk_45_1_9 : Dc jdk_45_method_1_code 9 (.aload_n 0) 1 10 := ⟨by decide +kernel, rfl⟩
theorem d_jdk_45_1_10 : Dc jdk_45_method_1_code 10 (.iload_n 2) 1 11 := ⟨by decide +kernel, rfl⟩
theorem d_jdk_45_1_11 : Dc jdk_45_method_1_code 11 (.putfield 13) 3 14 := ⟨by decide +kernel, rfl⟩
theorem w_95 {W : Wd} (hw : Ws W) : Wok W (Jvm.Cond.laysFinal "java/util/ImmutableCollections$ListN" "java/util/ImmutableCollections$ListN" "allowNulls" "Z") := hw.1 _ (List.mem_of_getElem? (i := 95) rfl)
theorem w_278 {W : Wd} (hw : Ws W) : Wok W (Jvm.Cond.fieldLink "java/util/ImmutableCollections$ListN" (13 : Nat) "java/util/ImmutableCollections$ListN" "allowNulls" "Z") := hw.1 _ (List.mem_of_getElem? (i := 278) rfl)
theorem d_jdk_45_1_14 : Dc jdk_45_method_1_code 14 (.return_) 1 15 := ⟨by decide +kernel, rfl⟩
def M_lni : Mt := (⟨"java/util/ImmutableCollections$ListN", "<init>", "([Ljava/lang/Object;Z)V"⟩, jdk_45_method_1_code, 3, none, ⟨4, 0, 0, 48⟩)
theorem nm_M_lni : mN M_lni = ⟨"java/util/ImmutableCollections$ListN", "<init>", "([Ljava/lang/Object;Z)V"⟩ := by delta mN M_lni; rfl
theorem pf_java_util_ImmutableCollections_ListN : plainName "java/util/ImmutableCollections$ListN" = true := by first | (simp [plainName, overriddenIn]; done) | decide +kernel
set_option maxRecDepth 65536 in
set_option maxHeartbeats 40000000 in
theorem rm_lni {W : Wd} (hw : Ws W) (l : Addr) (a : Addr) (F : List En) : Ct W M_lni [.ref l, .ref a, .int 0] ((oLN true l (.null) (.int 0)) :: F) (fun v H' => v = none ∧ H' = ((oLN true l (.ref a) (.int 0)) :: F)) := by
  refine Ct.intro (L0 := [.val (.ref l), .val (.ref a), .val (.int 0)]) (plainFor_of_name pf_java_util_ImmutableCollections_ListN) rfl (fun K => ?_)
  refine Wp.aloadN rfl rfl d_jdk_45_1_0 ?_
  refine Wp.callC nm_M_lni (rm_ail hw l _ ) (mk_M_ail hw) (w_274 hw) (w_229 hw) rfl rfl rfl rfl (Wn := 0) rfl rfl (by decide) d_jdk_45_1_1 ?_
  rintro _ _ ⟨rfl, rfl⟩
  refine Wp.aloadN rfl rfl d_jdk_45_1_4 ?_
  refine Wp.aloadN rfl rfl d_jdk_45_1_5 ?_
  refine Wp.putF nm_M_lni (host := "") (Or.inl (w_186 hw)) Via.refl 0 0 rfl rfl (Or.inr ⟨(w_187 hw), rfl, rfl⟩) (w_270 hw) (ty := (.array (.object "java/lang/Object"))) (by decide) rfl rfl d_jdk_45_1_6 (H' := ((oLN true l (.ref a) (.int 0)) :: F)) rfl ?_
  refine Wp.aloadN rfl rfl d_jdk_45_1_9 ?_
  refine Wp.iloadN rfl d_jdk_45_1_10 ?_
  refine Wp.putF nm_M_lni (host := "") (Or.inl (w_278 hw)) Via.refl 0 1 rfl rfl (Or.inr ⟨(w_95 hw), rfl, rfl⟩) (w_270 hw) (ty := .boolean) (by decide) rfl rfl d_jdk_45_1_11 (H' := ((oLN true l (.ref a) (.int 0)) :: F)) rfl ?_
  refine Wp.ret rfl d_jdk_45_1_14 (by decide) (by decide) ?_
  exact ⟨rfl, rfl⟩
theorem d_jdk_29_69_0 : Dc jdk_29_method_69_code 0 (.iload_n 0) 1 1 := ⟨by decide +kernel, rfl⟩
theorem d_jdk_29_69_1 : Dc jdk_29_method_69_code 1 (.iload_n 1) 1 2 := ⟨by decide +kernel, rfl⟩
theorem d_jdk_29_69_2 : Bj jdk_29_method_69_code 2 (.if_icmp .gt 7) 7 5 9 := ⟨by decide +kernel, rfl, by decide, rfl⟩
theorem d_jdk_29_69_9 : Dc jdk_29_method_69_code 9 (.iload_n 1) 1 10 := ⟨by decide +kernel, rfl⟩
theorem d_jdk_29_69_10 : Dc jdk_29_method_69_code 10 (.ireturn) 1 11 := ⟨by decide +kernel, rfl⟩
def M_mg : Mt := (⟨"java/lang/Math", "min", "(II)I"⟩, jdk_29_method_69_code, 2, some .int, ⟨0, 0, 0, 0⟩)
theorem nm_M_mg : mN M_mg = ⟨"java/lang/Math", "min", "(II)I"⟩ := by delta mN M_mg; rfl
theorem pf_java_lang_Math_min_II_I : plainFor (⟨"java/lang/Math", "min", "(II)I"⟩ : MethodName) = true := Jvm.Free.JP.mathPlain rfl (by decide +kernel)
set_option maxRecDepth 65536 in
set_option maxHeartbeats 40000000 in
theorem rm_mg {W : Wd} (hw : Ws W) (F : List En) : Ct W M_mg [.int 10, .int 1] F (fun v H' => v = some (.int 1) ∧ H' = F) := by
  refine Ct.intro (L0 := [.val (.int 10), .val (.int 1)]) pf_java_lang_Math_min_II_I rfl (fun K => ?_)
  refine Wp.iloadN rfl d_jdk_29_69_0 ?_
  refine Wp.iloadN rfl d_jdk_29_69_1 ?_
  refine Wp.icT (by decide) d_jdk_29_69_2 ?_
  refine Wp.iloadN rfl d_jdk_29_69_9 ?_
  refine Wp.iret rfl d_jdk_29_69_10 (by decide) (by decide) ?_
  exact ⟨rfl, rfl⟩
def M_mg2 : Mt := (⟨"java/lang/Math", "min", "(II)I"⟩, jdk_29_method_69_code, 2, some .int, ⟨0, 0, 0, 0⟩)
theorem nm_M_mg2 : mN M_mg2 = ⟨"java/lang/Math", "min", "(II)I"⟩ := by delta mN M_mg2; rfl
set_option maxRecDepth 65536 in
set_option maxHeartbeats 40000000 in
theorem rm_mg2 {W : Wd} (hw : Ws W) (F : List En) : Ct W M_mg2 [.int 10, .int 2] F (fun v H' => v = some (.int 2) ∧ H' = F) := by
  refine Ct.intro (L0 := [.val (.int 10), .val (.int 2)]) pf_java_lang_Math_min_II_I rfl (fun K => ?_)
  refine Wp.iloadN rfl d_jdk_29_69_0 ?_
  refine Wp.iloadN rfl d_jdk_29_69_1 ?_
  refine Wp.icT (by decide) d_jdk_29_69_2 ?_
  refine Wp.iloadN rfl d_jdk_29_69_9 ?_
  refine Wp.iret rfl d_jdk_29_69_10 (by decide) (by decide) ?_
  exact ⟨rfl, rfl⟩
def M_mg3 : Mt := (⟨"java/lang/Math", "min", "(II)I"⟩, jdk_29_method_69_code, 2, some .int, ⟨0, 0, 0, 0⟩)
theorem nm_M_mg3 : mN M_mg3 = ⟨"java/lang/Math", "min", "(II)I"⟩ := by delta mN M_mg3; rfl
set_option maxRecDepth 65536 in
set_option maxHeartbeats 40000000 in
theorem rm_mg3 {W : Wd} (hw : Ws W) (F : List En) : Ct W M_mg3 [.int 10, .int 3] F (fun v H' => v = some (.int 3) ∧ H' = F) := by
  refine Ct.intro (L0 := [.val (.int 10), .val (.int 3)]) pf_java_lang_Math_min_II_I rfl (fun K => ?_)
  refine Wp.iloadN rfl d_jdk_29_69_0 ?_
  refine Wp.iloadN rfl d_jdk_29_69_1 ?_
  refine Wp.icT (by decide) d_jdk_29_69_2 ?_
  refine Wp.iloadN rfl d_jdk_29_69_9 ?_
  refine Wp.iret rfl d_jdk_29_69_10 (by decide) (by decide) ?_
  exact ⟨rfl, rfl⟩
theorem d_jdk_65_120_0 : Dc jdk_65_method_120_code 0 (.aload_n 2) 1 1 := ⟨by decide +kernel, rfl⟩
theorem d_jdk_65_120_1 : Dc jdk_65_method_120_code 1 (.ldc 110) 2 3 := ⟨by decide +kernel, rfl⟩
theorem w_209 {W : Wd} (hw : Ws W) : Wok W (Jvm.Cond.classLink "java/util/Arrays" (110 : Nat) "[Ljava/lang/Object;") := hw.1 _ (List.mem_of_getElem? (i := 209) rfl)
theorem d_jdk_65_120_3 : Bj jdk_65_method_120_code 3 (.if_acmp .ne 10) 10 6 13 := ⟨by decide +kernel, rfl, by decide, rfl⟩
theorem d_jdk_65_120_6 : Dc jdk_65_method_120_code 6 (.iload_n 1) 1 7 := ⟨by decide +kernel, rfl⟩
theorem d_jdk_65_120_7 : Dc jdk_65_method_120_code 7 (.anewarray 2) 3 10 := ⟨by decide +kernel, rfl⟩
theorem w_210 {W : Wd} (hw : Ws W) : Wok W (Jvm.Cond.classLink "java/util/Arrays" (2 : Nat) "java/lang/Object") := hw.1 _ (List.mem_of_getElem? (i := 210) rfl)
theorem d_jdk_65_120_10 : Bj jdk_65_method_120_code 10 (.goto 14) 14 13 24 := ⟨by decide +kernel, rfl, by decide, rfl⟩
theorem d_jdk_65_120_24 : Dc jdk_65_method_120_code 24 (.astore_n 3) 1 25 := ⟨by decide +kernel, rfl⟩
theorem d_jdk_65_120_25 : Dc jdk_65_method_120_code 25 (.aload_n 0) 1 26 := ⟨by decide +kernel, rfl⟩
theorem d_jdk_65_120_26 : Dc jdk_65_method_120_code 26 (.iconst 0) 1 27 := ⟨by decide +kernel, rfl⟩
theorem d_jdk_65_120_27 : Dc jdk_65_method_120_code 27 (.aload_n 3) 1 28 := ⟨by decide +kernel, rfl⟩
theorem d_jdk_65_120_28 : Dc jdk_65_method_120_code 28 (.iconst 0) 1 29 := ⟨by decide +kernel, rfl⟩
theorem d_jdk_65_120_29 : Dc jdk_65_method_120_code 29 (.aload_n 0) 1 30 := ⟨by decide +kernel, rfl⟩
theorem d_jdk_65_120_30 : Dc jdk_65_method_120_code 30 (.arraylength) 1 31 := ⟨by decide +kernel, rfl⟩
theorem d_jdk_65_120_31 : Dc jdk_65_method_120_code 31 (.iload_n 1) 1 32 := ⟨by decide +kernel, rfl⟩
theorem d_jdk_65_120_32 : Dc jdk_65_method_120_code 32 (.invokestatic 304) 3 35 := ⟨by decide +kernel, rfl⟩
theorem w_213 {W : Wd} (hw : Ws W) : Wok W (Jvm.Cond.code ({ cls := "java/lang/Math", name := "min", desc := "(II)I" } : Jvm.MethodName) jdk_29_method_69_code (2 : Nat) (Option.some Jvm.ClassFile.FieldType.int)) := hw.1 _ (List.mem_of_getElem? (i := 213) rfl)
theorem mk_M_mg {W : Wd} (hw : Ws W) : Mk W M_mg ⟨"java/lang/Math", "min", "(II)I"⟩ 2 := Mk.of nm_M_mg rfl rfl rfl (w_213 hw) (w_144 hw) (mkLen pd__II_I rfl) (by decide)
theorem w_211 {W : Wd} (hw : Ws W) : Wok W (Jvm.Cond.methodLink "java/util/Arrays" (304 : Nat) ({ cls := "java/lang/Math", name := "min", desc := "(II)I" } : Jvm.MethodName)) := hw.1 _ (List.mem_of_getElem? (i := 211) rfl)
theorem w_212 {W : Wd} (hw : Ws W) : Wok W (Jvm.Cond.static ({ cls := "java/lang/Math", name := "min", desc := "(II)I" } : Jvm.MethodName)) := hw.1 _ (List.mem_of_getElem? (i := 212) rfl)
theorem d_jdk_65_120_35 : Dc jdk_65_method_120_code 35 (.invokestatic 150) 3 38 := ⟨by decide +kernel, rfl⟩
theorem w_214 {W : Wd} (hw : Ws W) : Wok W (Jvm.Cond.methodLink "java/util/Arrays" (150 : Nat) ({ cls := "java/lang/System", name := "arraycopy", desc := "(Ljava/lang/Object;ILjava/lang/Object;II)V" } : Jvm.MethodName)) := hw.1 _ (List.mem_of_getElem? (i := 214) rfl)
theorem w_217 {W : Wd} (hw : Ws W) : Wok W (Jvm.Cond.native ({ cls := "java/lang/System", name := "arraycopy", desc := "(Ljava/lang/Object;ILjava/lang/Object;II)V" } : Jvm.MethodName)) := hw.1 _ (List.mem_of_getElem? (i := 217) rfl)
theorem w_215 {W : Wd} (hw : Ws W) : Wok W (Jvm.Cond.static ({ cls := "java/lang/System", name := "arraycopy", desc := "(Ljava/lang/Object;ILjava/lang/Object;II)V" } : Jvm.MethodName)) := hw.1 _ (List.mem_of_getElem? (i := 215) rfl)
theorem w_216 {W : Wd} (hw : Ws W) : Wok W (Jvm.Cond.initialized "java/lang/System") := hw.1 _ (List.mem_of_getElem? (i := 216) rfl)
theorem d_jdk_65_120_38 : Dc jdk_65_method_120_code 38 (.aload_n 3) 1 39 := ⟨by decide +kernel, rfl⟩
theorem d_jdk_65_120_39 : Dc jdk_65_method_120_code 39 (.areturn) 1 40 := ⟨by decide +kernel, rfl⟩
def M_cpc1 : Mt := (⟨"java/util/Arrays", "copyOf", "([Ljava/lang/Object;ILjava/lang/Class;)[Ljava/lang/Object;"⟩, jdk_65_method_120_code, 4, some (.array (.object "java/lang/Object")), ⟨1, 1, 1, 18⟩)
theorem nm_M_cpc1 : mN M_cpc1 = ⟨"java/util/Arrays", "copyOf", "([Ljava/lang/Object;ILjava/lang/Class;)[Ljava/lang/Object;"⟩ := by delta mN M_cpc1; rfl
theorem pf_java_util_Arrays : plainName "java/util/Arrays" = true := by first | (simp [plainName, overriddenIn]; done) | decide +kernel
set_option maxRecDepth 65536 in
set_option maxHeartbeats 40000000 in
theorem rm_cpc1 {W : Wd} (hw : Ws W) (e : Addr) (mr : Addr) (y0 : Addr) (ry0 : Bool) (v0 : Value) (c0 : Value) (F : List En) (hmr : Mir (wZ W) "[Ljava/lang/Object;" mr) : Ct W M_cpc1 [.ref e, .int 1, .ref mr] ((eO e [.ref y0, .null, .null, .null, .null, .null, .null, .null, .null, .null]) :: (oStr ry0 y0 (v0) (c0)) :: F) (fun v H' => ∃ q, v = some (.ref q) ∧ H' = ((eO q [.ref y0]) :: (eO e [.ref y0, .null, .null, .null, .null, .null, .null, .null, .null, .null]) :: (oStr ry0 y0 (v0) (c0)) :: F)) := by
  refine Ct.intro (L0 := [.val (.ref e), .val (.int 1), .val (.ref mr), .unset]) (plainFor_of_name pf_java_util_Arrays) rfl (fun K => ?_)
  refine Wp.aloadN rfl rfl d_jdk_65_120_0 ?_
  refine Wp.ldcM nm_M_cpc1 (w_209 hw) hmr d_jdk_65_120_1 ?_
  refine Wp.acF rfl rfl (acT_ne _) d_jdk_65_120_3 ?_
  refine Wp.iloadN rfl d_jdk_65_120_6 ?_
  refine Wp.newR nm_M_cpc1 (kk := 1) (vs := [.null]) (w_210 hw) (w_147 hw) (by decide) (by decide) (by decide) (by decide) (by decide) rfl d_jdk_65_120_7 (fun a1 => ?_)
  refine Wp.goto d_jdk_65_120_10 ?_
  refine Wp.astoreN (L' := [.val (.ref e), .val (.int 1), .val (.ref mr), .val (.ref a1)]) rfl rfl d_jdk_65_120_24 ?_
  refine Wp.aloadN rfl rfl d_jdk_65_120_25 ?_
  refine Wp.iconst lc_0 d_jdk_65_120_26 ?_
  refine Wp.aloadN rfl rfl d_jdk_65_120_27 ?_
  refine Wp.iconst lc_0 d_jdk_65_120_28 ?_
  refine Wp.aloadN rfl rfl d_jdk_65_120_29 ?_
  refine Wp.alen (z := 10) 1 rfl rfl d_jdk_65_120_30 ?_
  refine Wp.iloadN rfl d_jdk_65_120_31 ?_
  refine Wp.callS nm_M_cpc1 (rm_mg hw  _ ) (mk_M_mg hw) (w_211 hw) (w_212 hw) rfl rfl (Wn := 4) rfl rfl (by decide) d_jdk_65_120_32 ?_
  rintro _ _ ⟨rfl, rfl⟩
  refine Wp.acopy nm_M_cpc1 (us := [.ref y0]) (s := 0) (d := 0) (m := 1) 1 0 rfl rfl (w_214 hw) (w_217 hw) (w_215 hw) (w_216 hw) (Or.inr ⟨rfl, rfl, fun _ P => ⟨stoOf P 0 rfl (insCast P 2 rfl (w_148 hw)), trivial⟩⟩) rfl rfl rfl rfl (show 1 ≤ 10 by decide) (show 1 ≤ 1 by decide) (Wn := 0) rfl rfl (by decide) (by decide) d_jdk_65_120_35 (H' := ((eO a1 [.ref y0]) :: (eO e [.ref y0, .null, .null, .null, .null, .null, .null, .null, .null, .null]) :: (oStr ry0 y0 (v0) (c0)) :: F)) rfl ?_
  refine Wp.aloadN rfl rfl d_jdk_65_120_38 ?_
  refine Wp.aret rfl rfl rfl d_jdk_65_120_39 (by decide) (by decide) ?_
  exact ⟨a1, rfl, rfl⟩
theorem d_jdk_65_119_0 : Dc jdk_65_method_119_code 0 (.aload_n 0) 1 1 := ⟨by decide +kernel, rfl⟩
theorem d_jdk_65_119_1 : Dc jdk_65_method_119_code 1 (.iload_n 1) 1 2 := ⟨by decide +kernel, rfl⟩
theorem d_jdk_65_119_2 : Dc jdk_65_method_119_code 2 (.aload_n 0) 1 3 := ⟨by decide +kernel, rfl⟩
theorem d_jdk_65_119_3 : Dc jdk_65_method_119_code 3 (.invokevirtual 86) 3 6 := ⟨by decide +kernel, rfl⟩
theorem w_200 {W : Wd} (hw : Ws W) : Wok W (Jvm.Cond.methodLink "java/util/Arrays" (86 : Nat) ({ cls := "java/lang/Object", name := "getClass", desc := "()Ljava/lang/Class;" } : Jvm.MethodName)) := hw.1 _ (List.mem_of_getElem? (i := 200) rfl)
theorem w_201 {W : Wd} (hw : Ws W) : Wok W (Jvm.Cond.declares ({ cls := "java/lang/Object", name := "getClass", desc := "()Ljava/lang/Class;" } : Jvm.MethodName)) := hw.1 _ (List.mem_of_getElem? (i := 201) rfl)
theorem w_91 {W : Wd} (hw : Ws W) : Wok W (Jvm.Cond.noSuperclass "java/lang/Object") := hw.1 _ (List.mem_of_getElem? (i := 91) rfl)
theorem w_203 {W : Wd} (hw : Ws W) : Wok W (Jvm.Cond.selects "[Ljava/lang/Object;" ({ cls := "java/lang/Object", name := "getClass", desc := "()Ljava/lang/Class;" } : Jvm.MethodName) ({ cls := "java/lang/Object", name := "getClass", desc := "()Ljava/lang/Class;" } : Jvm.MethodName)) := hw.1 _ (List.mem_of_getElem? (i := 203) rfl)
theorem w_202 {W : Wd} (hw : Ws W) : Wok W (Jvm.Cond.instanceMethod ({ cls := "java/lang/Object", name := "getClass", desc := "()Ljava/lang/Class;" } : Jvm.MethodName)) := hw.1 _ (List.mem_of_getElem? (i := 202) rfl)
theorem w_204 {W : Wd} (hw : Ws W) : Wok W (Jvm.Cond.native ({ cls := "java/lang/Object", name := "getClass", desc := "()Ljava/lang/Class;" } : Jvm.MethodName)) := hw.1 _ (List.mem_of_getElem? (i := 204) rfl)
theorem d_jdk_65_119_6 : Dc jdk_65_method_119_code 6 (.invokestatic 300) 3 9 := ⟨by decide +kernel, rfl⟩
theorem w_208 {W : Wd} (hw : Ws W) : Wok W (Jvm.Cond.code ({ cls := "java/util/Arrays", name := "copyOf", desc := "([Ljava/lang/Object;ILjava/lang/Class;)[Ljava/lang/Object;" } : Jvm.MethodName) jdk_65_method_120_code (4 : Nat) (Option.some (Jvm.ClassFile.FieldType.array (Jvm.ClassFile.FieldType.object "java/lang/Object")))) := hw.1 _ (List.mem_of_getElem? (i := 208) rfl)
theorem w_198 {W : Wd} (hw : Ws W) : Wok W (Jvm.Cond.initialized "java/util/Arrays") := hw.1 _ (List.mem_of_getElem? (i := 198) rfl)
theorem pd___Ljava_lang_Object_ILjava_lang_Class___Ljava_lang_Object_ : parseMethodDescriptor "([Ljava/lang/Object;ILjava/lang/Class;)[Ljava/lang/Object;" = some ⟨[(.array (.object "java/lang/Object")), .int, (.object "java/lang/Class")], some (.array (.object "java/lang/Object"))⟩ := by decide +kernel
theorem mk_M_cpc1 {W : Wd} (hw : Ws W) : Mk W M_cpc1 ⟨"java/util/Arrays", "copyOf", "([Ljava/lang/Object;ILjava/lang/Class;)[Ljava/lang/Object;"⟩ 3 := Mk.of nm_M_cpc1 rfl rfl rfl (w_208 hw) (w_198 hw) (mkLen pd___Ljava_lang_Object_ILjava_lang_Class___Ljava_lang_Object_ rfl) (by decide)
theorem w_206 {W : Wd} (hw : Ws W) : Wok W (Jvm.Cond.methodLink "java/util/Arrays" (300 : Nat) ({ cls := "java/util/Arrays", name := "copyOf", desc := "([Ljava/lang/Object;ILjava/lang/Class;)[Ljava/lang/Object;" } : Jvm.MethodName)) := hw.1 _ (List.mem_of_getElem? (i := 206) rfl)
theorem w_207 {W : Wd} (hw : Ws W) : Wok W (Jvm.Cond.static ({ cls := "java/util/Arrays", name := "copyOf", desc := "([Ljava/lang/Object;ILjava/lang/Class;)[Ljava/lang/Object;" } : Jvm.MethodName)) := hw.1 _ (List.mem_of_getElem? (i := 207) rfl)
theorem d_jdk_65_119_9 : Dc jdk_65_method_119_code 9 (.areturn) 1 10 := ⟨by decide +kernel, rfl⟩
def M_cp2_1 : Mt := (⟨"java/util/Arrays", "copyOf", "([Ljava/lang/Object;I)[Ljava/lang/Object;"⟩, jdk_65_method_119_code, 2, some (.array (.object "java/lang/Object")), ⟨2, 1, 1, 33⟩)
theorem nm_M_cp2_1 : mN M_cp2_1 = ⟨"java/util/Arrays", "copyOf", "([Ljava/lang/Object;I)[Ljava/lang/Object;"⟩ := by delta mN M_cp2_1; rfl
set_option maxRecDepth 65536 in
set_option maxHeartbeats 40000000 in
theorem rm_cp2_1 {W : Wd} (hw : Ws W) (e : Addr) (mr : Addr) (y0 : Addr) (ry0 : Bool) (v0 : Value) (c0 : Value) (F : List En) (hmr : Mir (wZ W) "[Ljava/lang/Object;" mr) : Ct W M_cp2_1 [.ref e, .int 1] ((eO e [.ref y0, .null, .null, .null, .null, .null, .null, .null, .null, .null]) :: (oStr ry0 y0 (v0) (c0)) :: F) (fun v H' => ∃ q, v = some (.ref q) ∧ H' = ((eO q [.ref y0]) :: (eO e [.ref y0, .null, .null, .null, .null, .null, .null, .null, .null, .null]) :: (oStr ry0 y0 (v0) (c0)) :: F)) := by
  refine Ct.intro (L0 := [.val (.ref e), .val (.int 1)]) (plainFor_of_name pf_java_util_Arrays) rfl (fun K => ?_)
  refine Wp.aloadN rfl rfl d_jdk_65_119_0 ?_
  refine Wp.iloadN rfl d_jdk_65_119_1 ?_
  refine Wp.aloadN rfl rfl d_jdk_65_119_2 ?_
  refine Wp.gcls nm_M_cp2_1 0 rfl (by decide) (w_200 hw) (w_201 hw) (w_91 hw) (w_203 hw) (w_202 hw) (w_204 hw) hmr (Wn := 2) rfl rfl (by decide) (by decide) d_jdk_65_119_3 ?_
  refine Wp.callS nm_M_cp2_1 (rm_cpc1 hw e mr y0 ry0 v0 c0 _ hmr) (mk_M_cpc1 hw) (w_206 hw) (w_207 hw) rfl rfl (Wn := 0) rfl rfl (by decide) d_jdk_65_119_6 ?_
  rintro _ _ ⟨q_1, rfl, rfl⟩
  refine Wp.aret rfl rfl rfl d_jdk_65_119_9 (by decide) (by decide) ?_
  exact ⟨q_1, rfl, rfl⟩
theorem d_jdk_38_16_0 : Dc jdk_38_method_16_code 0 (.aload_n 0) 1 1 := ⟨by decide +kernel, rfl⟩
theorem d_jdk_38_16_1 : Dc jdk_38_method_16_code 1 (.getfield 9) 3 4 := ⟨by decide +kernel, rfl⟩
theorem d_jdk_38_16_4 : Dc jdk_38_method_16_code 4 (.aload_n 0) 1 5 := ⟨by decide +kernel, rfl⟩
theorem d_jdk_38_16_5 : Dc jdk_38_method_16_code 5 (.getfield 48) 3 8 := ⟨by decide +kernel, rfl⟩
theorem d_jdk_38_16_8 : Dc jdk_38_method_16_code 8 (.invokestatic 66) 3 11 := ⟨by decide +kernel, rfl⟩
theorem pp_1_2_0 : [1, 2, 0].isPerm (List.range 3) = true := by decide +kernel
theorem w_199 {W : Wd} (hw : Ws W) : Wok W (Jvm.Cond.code ({ cls := "java/util/Arrays", name := "copyOf", desc := "([Ljava/lang/Object;I)[Ljava/lang/Object;" } : Jvm.MethodName) jdk_65_method_119_code (2 : Nat) (Option.some (Jvm.ClassFile.FieldType.array (Jvm.ClassFile.FieldType.object "java/lang/Object")))) := hw.1 _ (List.mem_of_getElem? (i := 199) rfl)
theorem pd___Ljava_lang_Object_I__Ljava_lang_Object_ : parseMethodDescriptor "([Ljava/lang/Object;I)[Ljava/lang/Object;" = some ⟨[(.array (.object "java/lang/Object")), .int], some (.array (.object "java/lang/Object"))⟩ := by decide +kernel
theorem mk_M_cp2_1 {W : Wd} (hw : Ws W) : Mk W M_cp2_1 ⟨"java/util/Arrays", "copyOf", "([Ljava/lang/Object;I)[Ljava/lang/Object;"⟩ 2 := Mk.of nm_M_cp2_1 rfl rfl rfl (w_199 hw) (w_198 hw) (mkLen pd___Ljava_lang_Object_I__Ljava_lang_Object_ rfl) (by decide)
theorem w_196 {W : Wd} (hw : Ws W) : Wok W (Jvm.Cond.methodLink "java/util/ArrayList" (66 : Nat) ({ cls := "java/util/Arrays", name := "copyOf", desc := "([Ljava/lang/Object;I)[Ljava/lang/Object;" } : Jvm.MethodName)) := hw.1 _ (List.mem_of_getElem? (i := 196) rfl)
theorem w_197 {W : Wd} (hw : Ws W) : Wok W (Jvm.Cond.static ({ cls := "java/util/Arrays", name := "copyOf", desc := "([Ljava/lang/Object;I)[Ljava/lang/Object;" } : Jvm.MethodName)) := hw.1 _ (List.mem_of_getElem? (i := 197) rfl)
theorem d_jdk_38_16_11 : Dc jdk_38_method_16_code 11 (.areturn) 1 12 := ⟨by decide +kernel, rfl⟩
theorem pp_0_3_1_2 : [0, 3, 1, 2].isPerm (List.range 4) = true := by decide +kernel
def M_toa1 : Mt := (⟨"java/util/ArrayList", "toArray", "()[Ljava/lang/Object;"⟩, jdk_38_method_16_code, 1, some (.array (.object "java/lang/Object")), ⟨3, 1, 1, 46⟩)
theorem nm_M_toa1 : mN M_toa1 = ⟨"java/util/ArrayList", "toArray", "()[Ljava/lang/Object;"⟩ := by delta mN M_toa1; rfl
set_option maxRecDepth 65536 in
set_option maxHeartbeats 40000000 in
theorem rm_toa1 {W : Wd} (hw : Ws W) (l : Addr) (e : Addr) (mr : Addr) (y0 : Addr) (ry0 : Bool) (v0 : Value) (c0 : Value) (F : List En) (hmr : Mir (wZ W) "[Ljava/lang/Object;" mr) : Ct W M_toa1 [.ref l] ((oAL true l (.int 1) (.ref e) (.int 1)) :: (eO e [.ref y0, .null, .null, .null, .null, .null, .null, .null, .null, .null]) :: (oStr ry0 y0 (v0) (c0)) :: F) (fun v H' => ∃ q, v = some (.ref q) ∧ H' = ((eO q [.ref y0]) :: (oAL true l (.int 1) (.ref e) (.int 1)) :: (eO e [.ref y0, .null, .null, .null, .null, .null, .null, .null, .null, .null]) :: (oStr ry0 y0 (v0) (c0)) :: F)) := by
  refine Ct.intro (L0 := [.val (.ref l)]) (plainFor_of_name pf_java_util_ArrayList) rfl (fun K => ?_)
  refine Wp.aloadN rfl rfl d_jdk_38_16_0 ?_
  refine Wp.getF nm_M_toa1 (host := "") (Or.inl (w_56 hw)) Via.refl 0 1 rfl rfl d_jdk_38_16_1 ?_
  refine Wp.aloadN rfl rfl d_jdk_38_16_4 ?_
  refine Wp.getF nm_M_toa1 (host := "") (Or.inl (w_117 hw)) Via.refl 0 2 rfl rfl d_jdk_38_16_5 ?_
  refine Wp.perm [1, 2, 0] 3 pp_1_2_0 (H' := ((eO e [.ref y0, .null, .null, .null, .null, .null, .null, .null, .null, .null]) :: (oStr ry0 y0 (v0) (c0)) :: (oAL true l (.int 1) (.ref e) (.int 1)) :: F)) rfl ?_
  refine Wp.callS nm_M_toa1 (rm_cp2_1 hw e mr y0 ry0 v0 c0 _ hmr) (mk_M_cp2_1 hw) (w_196 hw) (w_197 hw) rfl rfl (Wn := 0) rfl rfl (by decide) d_jdk_38_16_8 ?_
  rintro _ _ ⟨q_1, rfl, rfl⟩
  refine Wp.perm [0, 3, 1, 2] 4 pp_0_3_1_2 (H' := ((eO q_1 [.ref y0]) :: (oAL true l (.int 1) (.ref e) (.int 1)) :: (eO e [.ref y0, .null, .null, .null, .null, .null, .null, .null, .null, .null]) :: (oStr ry0 y0 (v0) (c0)) :: F)) rfl ?_
  refine Wp.aret rfl rfl rfl d_jdk_38_16_11 (by decide) (by decide) ?_
  exact ⟨q_1, rfl, rfl⟩
theorem mk_M_mg2 {W : Wd} (hw : Ws W) : Mk W M_mg2 ⟨"java/lang/Math", "min", "(II)I"⟩ 2 := Mk.of nm_M_mg2 rfl rfl rfl (w_213 hw) (w_144 hw) (mkLen pd__II_I rfl) (by decide)
def M_cpc2 : Mt := (⟨"java/util/Arrays", "copyOf", "([Ljava/lang/Object;ILjava/lang/Class;)[Ljava/lang/Object;"⟩, jdk_65_method_120_code, 4, some (.array (.object "java/lang/Object")), ⟨1, 1, 2, 18⟩)
theorem nm_M_cpc2 : mN M_cpc2 = ⟨"java/util/Arrays", "copyOf", "([Ljava/lang/Object;ILjava/lang/Class;)[Ljava/lang/Object;"⟩ := by delta mN M_cpc2; rfl
set_option maxRecDepth 65536 in
set_option maxHeartbeats 40000000 in
theorem rm_cpc2 {W : Wd} (hw : Ws W) (e : Addr) (mr : Addr) (y0 : Addr) (ry0 : Bool) (v0 : Value) (c0 : Value) (y1 : Addr) (ry1 : Bool) (v1 : Value) (c1 : Value) (F : List En) (hmr : Mir (wZ W) "[Ljava/lang/Object;" mr) : Ct W M_cpc2 [.ref e, .int 2, .ref mr] ((eO e [.ref y0, .ref y1, .null, .null, .null, .null, .null, .null, .null, .null]) :: (oStr ry0 y0 (v0) (c0)) :: (oStr ry1 y1 (v1) (c1)) :: F) (fun v H' => ∃ q, v = some (.ref q) ∧ H' = ((eO q [.ref y0, .ref y1]) :: (eO e [.ref y0, .ref y1, .null, .null, .null, .null, .null, .null, .null, .null]) :: (oStr ry0 y0 (v0) (c0)) :: (oStr ry1 y1 (v1) (c1)) :: F)) := by
  refine Ct.intro (L0 := [.val (.ref e), .val (.int 2), .val (.ref mr), .unset]) (plainFor_of_name pf_java_util_Arrays) rfl (fun K => ?_)
  refine Wp.aloadN rfl rfl d_jdk_65_120_0 ?_
  refine Wp.ldcM nm_M_cpc2 (w_209 hw) hmr d_jdk_65_120_1 ?_
  refine Wp.acF rfl rfl (acT_ne _) d_jdk_65_120_3 ?_
  refine Wp.iloadN rfl d_jdk_65_120_6 ?_
  refine Wp.newR nm_M_cpc2 (kk := 2) (vs := [.null, .null]) (w_210 hw) (w_147 hw) (by decide) (by decide) (by decide) (by decide) (by decide) rfl d_jdk_65_120_7 (fun a1 => ?_)
  refine Wp.goto d_jdk_65_120_10 ?_
  refine Wp.astoreN (L' := [.val (.ref e), .val (.int 2), .val (.ref mr), .val (.ref a1)]) rfl rfl d_jdk_65_120_24 ?_
  refine Wp.aloadN rfl rfl d_jdk_65_120_25 ?_
  refine Wp.iconst lc_0 d_jdk_65_120_26 ?_
  refine Wp.aloadN rfl rfl d_jdk_65_120_27 ?_
  refine Wp.iconst lc_0 d_jdk_65_120_28 ?_
  refine Wp.aloadN rfl rfl d_jdk_65_120_29 ?_
  refine Wp.alen (z := 10) 1 rfl rfl d_jdk_65_120_30 ?_
  refine Wp.iloadN rfl d_jdk_65_120_31 ?_
  refine Wp.callS nm_M_cpc2 (rm_mg2 hw  _ ) (mk_M_mg2 hw) (w_211 hw) (w_212 hw) rfl rfl (Wn := 4) rfl rfl (by decide) d_jdk_65_120_32 ?_
  rintro _ _ ⟨rfl, rfl⟩
  refine Wp.acopy nm_M_cpc2 (us := [.ref y0, .ref y1]) (s := 0) (d := 0) (m := 2) 1 0 rfl rfl (w_214 hw) (w_217 hw) (w_215 hw) (w_216 hw) (Or.inr ⟨rfl, rfl, fun _ P => ⟨stoOf P 0 rfl (insCast P 2 rfl (w_148 hw)), ⟨stoOf P 0 rfl (insCast P 3 rfl (w_148 hw)), trivial⟩⟩⟩) rfl rfl rfl rfl (show 2 ≤ 10 by decide) (show 2 ≤ 2 by decide) (Wn := 0) rfl rfl (by decide) (by decide) d_jdk_65_120_35 (H' := ((eO a1 [.ref y0, .ref y1]) :: (eO e [.ref y0, .ref y1, .null, .null, .null, .null, .null, .null, .null, .null]) :: (oStr ry0 y0 (v0) (c0)) :: (oStr ry1 y1 (v1) (c1)) :: F)) rfl ?_
  refine Wp.aloadN rfl rfl d_jdk_65_120_38 ?_
  refine Wp.aret rfl rfl rfl d_jdk_65_120_39 (by decide) (by decide) ?_
  exact ⟨a1, rfl, rfl⟩
theorem mk_M_cpc2 {W : Wd} (hw : Ws W) : Mk W M_cpc2 ⟨"java/util/Arrays", "copyOf", "([Ljava/lang/Object;ILjava/lang/Class;)[Ljava/lang/Object;"⟩ 3 := Mk.of nm_M_cpc2 rfl rfl rfl (w_208 hw) (w_198 hw) (mkLen pd___Ljava_lang_Object_ILjava_lang_Class___Ljava_lang_Object_ rfl) (by decide)
def M_cp2_2 : Mt := (⟨"java/util/Arrays", "copyOf", "([Ljava/lang/Object;I)[Ljava/lang/Object;"⟩, jdk_65_method_119_code, 2, some (.array (.object "java/lang/Object")), ⟨2, 1, 2, 33⟩)
theorem nm_M_cp2_2 : mN M_cp2_2 = ⟨"java/util/Arrays", "copyOf", "([Ljava/lang/Object;I)[Ljava/lang/Object;"⟩ := by delta mN M_cp2_2; rfl
set_option maxRecDepth 65536 in
set_option maxHeartbeats 40000000 in
theorem rm_cp2_2 {W : Wd} (hw : Ws W) (e : Addr) (mr : Addr) (y0 : Addr) (ry0 : Bool) (v0 : Value) (c0 : Value) (y1 : Addr) (ry1 : Bool) (v1 : Value) (c1 : Value) (F : List En) (hmr : Mir (wZ W) "[Ljava/lang/Object;" mr) : Ct W M_cp2_2 [.ref e, .int 2] ((eO e [.ref y0, .ref y1, .null, .null, .null, .null, .null, .null, .null, .null]) :: (oStr ry0 y0 (v0) (c0)) :: (oStr ry1 y1 (v1) (c1)) :: F) (fun v H' => ∃ q, v = some (.ref q) ∧ H' = ((eO q [.ref y0, .ref y1]) :: (eO e [.ref y0, .ref y1, .null, .null, .null, .null, .null, .null, .null, .null]) :: (oStr ry0 y0 (v0) (c0)) :: (oStr ry1 y1 (v1) (c1)) :: F)) := by
  refine Ct.intro (L0 := [.val (.ref e), .val (.int 2)]) (plainFor_of_name pf_java_util_Arrays) rfl (fun K => ?_)
  refine Wp.aloadN rfl rfl d_jdk_65_119_0 ?_
  refine Wp.iloadN rfl d_jdk_65_119_1 ?_
  refine Wp.aloadN rfl rfl d_jdk_65_119_2 ?_
  refine Wp.gcls nm_M_cp2_2 0 rfl (by decide) (w_200 hw) (w_201 hw) (w_91 hw) (w_203 hw) (w_202 hw) (w_204 hw) hmr (Wn := 2) rfl rfl (by decide) (by decide) d_jdk_65_119_3 ?_
  refine Wp.callS nm_M_cp2_2 (rm_cpc2 hw e mr y0 ry0 v0 c0 y1 ry1 v1 c1 _ hmr) (mk_M_cpc2 hw) (w_206 hw) (w_207 hw) rfl rfl (Wn := 0) rfl rfl (by decide) d_jdk_65_119_6 ?_
  rintro _ _ ⟨q_1, rfl, rfl⟩
  refine Wp.aret rfl rfl rfl d_jdk_65_119_9 (by decide) (by decide) ?_
  exact ⟨q_1, rfl, rfl⟩
theorem pp_1_2_3_0 : [1, 2, 3, 0].isPerm (List.range 4) = true := by decide +kernel
theorem mk_M_cp2_2 {W : Wd} (hw : Ws W) : Mk W M_cp2_2 ⟨"java/util/Arrays", "copyOf", "([Ljava/lang/Object;I)[Ljava/lang/Object;"⟩ 2 := Mk.of nm_M_cp2_2 rfl rfl rfl (w_199 hw) (w_198 hw) (mkLen pd___Ljava_lang_Object_I__Ljava_lang_Object_ rfl) (by decide)
theorem pp_0_4_1_2_3 : [0, 4, 1, 2, 3].isPerm (List.range 5) = true := by decide +kernel
def M_toa2 : Mt := (⟨"java/util/ArrayList", "toArray", "()[Ljava/lang/Object;"⟩, jdk_38_method_16_code, 1, some (.array (.object "java/lang/Object")), ⟨3, 1, 2, 46⟩)
theorem nm_M_toa2 : mN M_toa2 = ⟨"java/util/ArrayList", "toArray", "()[Ljava/lang/Object;"⟩ := by delta mN M_toa2; rfl
set_option maxRecDepth 65536 in
set_option maxHeartbeats 40000000 in
theorem rm_toa2 {W : Wd} (hw : Ws W) (l : Addr) (e : Addr) (mr : Addr) (y0 : Addr) (ry0 : Bool) (v0 : Value) (c0 : Value) (y1 : Addr) (ry1 : Bool) (v1 : Value) (c1 : Value) (F : List En) (hmr : Mir (wZ W) "[Ljava/lang/Object;" mr) : Ct W M_toa2 [.ref l] ((oAL true l (.int 2) (.ref e) (.int 2)) :: (eO e [.ref y0, .ref y1, .null, .null, .null, .null, .null, .null, .null, .null]) :: (oStr ry0 y0 (v0) (c0)) :: (oStr ry1 y1 (v1) (c1)) :: F) (fun v H' => ∃ q, v = some (.ref q) ∧ H' = ((eO q [.ref y0, .ref y1]) :: (oAL true l (.int 2) (.ref e) (.int 2)) :: (eO e [.ref y0, .ref y1, .null, .null, .null, .null, .null, .null, .null, .null]) :: (oStr ry0 y0 (v0) (c0)) :: (oStr ry1 y1 (v1) (c1)) :: F)) := by
  refine Ct.intro (L0 := [.val (.ref l)]) (plainFor_of_name pf_java_util_ArrayList) rfl (fun K => ?_)
  refine Wp.aloadN rfl rfl d_jdk_38_16_0 ?_
  refine Wp.getF nm_M_toa2 (host := "") (Or.inl (w_56 hw)) Via.refl 0 1 rfl rfl d_jdk_38_16_1 ?_
  refine Wp.aloadN rfl rfl d_jdk_38_16_4 ?_
  refine Wp.getF nm_M_toa2 (host := "") (Or.inl (w_117 hw)) Via.refl 0 2 rfl rfl d_jdk_38_16_5 ?_
  refine Wp.perm [1, 2, 3, 0] 4 pp_1_2_3_0 (H' := ((eO e [.ref y0, .ref y1, .null, .null, .null, .null, .null, .null, .null, .null]) :: (oStr ry0 y0 (v0) (c0)) :: (oStr ry1 y1 (v1) (c1)) :: (oAL true l (.int 2) (.ref e) (.int 2)) :: F)) rfl ?_
  refine Wp.callS nm_M_toa2 (rm_cp2_2 hw e mr y0 ry0 v0 c0 y1 ry1 v1 c1 _ hmr) (mk_M_cp2_2 hw) (w_196 hw) (w_197 hw) rfl rfl (Wn := 0) rfl rfl (by decide) d_jdk_38_16_8 ?_
  rintro _ _ ⟨q_1, rfl, rfl⟩
  refine Wp.perm [0, 4, 1, 2, 3] 5 pp_0_4_1_2_3 (H' := ((eO q_1 [.ref y0, .ref y1]) :: (oAL true l (.int 2) (.ref e) (.int 2)) :: (eO e [.ref y0, .ref y1, .null, .null, .null, .null, .null, .null, .null, .null]) :: (oStr ry0 y0 (v0) (c0)) :: (oStr ry1 y1 (v1) (c1)) :: F)) rfl ?_
  refine Wp.aret rfl rfl rfl d_jdk_38_16_11 (by decide) (by decide) ?_
  exact ⟨q_1, rfl, rfl⟩
theorem mk_M_mg3 {W : Wd} (hw : Ws W) : Mk W M_mg3 ⟨"java/lang/Math", "min", "(II)I"⟩ 2 := Mk.of nm_M_mg3 rfl rfl rfl (w_213 hw) (w_144 hw) (mkLen pd__II_I rfl) (by decide)
def M_cpc3 : Mt := (⟨"java/util/Arrays", "copyOf", "([Ljava/lang/Object;ILjava/lang/Class;)[Ljava/lang/Object;"⟩, jdk_65_method_120_code, 4, some (.array (.object "java/lang/Object")), ⟨1, 1, 3, 18⟩)
theorem nm_M_cpc3 : mN M_cpc3 = ⟨"java/util/Arrays", "copyOf", "([Ljava/lang/Object;ILjava/lang/Class;)[Ljava/lang/Object;"⟩ := by delta mN M_cpc3; rfl
set_option maxRecDepth 65536 in
set_option maxHeartbeats 40000000 in
theorem rm_cpc3 {W : Wd} (hw : Ws W) (e : Addr) (mr : Addr) (y0 : Addr) (ry0 : Bool) (v0 : Value) (c0 : Value) (y1 : Addr) (ry1 : Bool) (v1 : Value) (c1 : Value) (y2 : Addr) (ry2 : Bool) (v2 : Value) (c2 : Value) (F : List En) (hmr : Mir (wZ W) "[Ljava/lang/Object;" mr) : Ct W M_cpc3 [.ref e, .int 3, .ref mr] ((eO e [.ref y0, .ref y1, .ref y2, .null, .null, .null, .null, .null, .null, .null]) :: (oStr ry0 y0 (v0) (c0)) :: (oStr ry1 y1 (v1) (c1)) :: (oStr ry2 y2 (v2) (c2)) :: F) (fun v H' => ∃ q, v = some (.ref q) ∧ H' = ((eO q [.ref y0, .ref y1, .ref y2]) :: (eO e [.ref y0, .ref y1, .ref y2, .null, .null, .null, .null, .null, .null, .null]) :: (oStr ry0 y0 (v0) (c0)) :: (oStr ry1 y1 (v1) (c1)) :: (oStr ry2 y2 (v2) (c2)) :: F)) := by
  refine Ct.intro (L0 := [.val (.ref e), .val (.int 3), .val (.ref mr), .unset]) (plainFor_of_name pf_java_util_Arrays) rfl (fun K => ?_)
  refine Wp.aloadN rfl rfl d_jdk_65_120_0 ?_
  refine Wp.ldcM nm_M_cpc3 (w_209 hw) hmr d_jdk_65_120_1 ?_
  refine Wp.acF rfl rfl (acT_ne _) d_jdk_65_120_3 ?_
  refine Wp.iloadN rfl d_jdk_65_120_6 ?_
  refine Wp.newR nm_M_cpc3 (kk := 3) (vs := [.null, .null, .null]) (w_210 hw) (w_147 hw) (by decide) (by decide) (by decide) (by decide) (by decide) rfl d_jdk_65_120_7 (fun a1 => ?_)
  refine Wp.goto d_jdk_65_120_10 ?_
  refine Wp.astoreN (L' := [.val (.ref e), .val (.int 3), .val (.ref mr), .val (.ref a1)]) rfl rfl d_jdk_65_120_24 ?_
  refine Wp.aloadN rfl rfl d_jdk_65_120_25 ?_
  refine Wp.iconst lc_0 d_jdk_65_120_26 ?_
  refine Wp.aloadN rfl rfl d_jdk_65_120_27 ?_
  refine Wp.iconst lc_0 d_jdk_65_120_28 ?_
  refine Wp.aloadN rfl rfl d_jdk_65_120_29 ?_
  refine Wp.alen (z := 10) 1 rfl rfl d_jdk_65_120_30 ?_
  refine Wp.iloadN rfl d_jdk_65_120_31 ?_
  refine Wp.callS nm_M_cpc3 (rm_mg3 hw  _ ) (mk_M_mg3 hw) (w_211 hw) (w_212 hw) rfl rfl (Wn := 4) rfl rfl (by decide) d_jdk_65_120_32 ?_
  rintro _ _ ⟨rfl, rfl⟩
  refine Wp.acopy nm_M_cpc3 (us := [.ref y0, .ref y1, .ref y2]) (s := 0) (d := 0) (m := 3) 1 0 rfl rfl (w_214 hw) (w_217 hw) (w_215 hw) (w_216 hw) (Or.inr ⟨rfl, rfl, fun _ P => ⟨stoOf P 0 rfl (insCast P 2 rfl (w_148 hw)), ⟨stoOf P 0 rfl (insCast P 3 rfl (w_148 hw)), ⟨stoOf P 0 rfl (insCast P 4 rfl (w_148 hw)), trivial⟩⟩⟩⟩) rfl rfl rfl rfl (show 3 ≤ 10 by decide) (show 3 ≤ 3 by decide) (Wn := 0) rfl rfl (by decide) (by decide) d_jdk_65_120_35 (H' := ((eO a1 [.ref y0, .ref y1, .ref y2]) :: (eO e [.ref y0, .ref y1, .ref y2, .null, .null, .null, .null, .null, .null, .null]) :: (oStr ry0 y0 (v0) (c0)) :: (oStr ry1 y1 (v1) (c1)) :: (oStr ry2 y2 (v2) (c2)) :: F)) rfl ?_
  refine Wp.aloadN rfl rfl d_jdk_65_120_38 ?_
  refine Wp.aret rfl rfl rfl d_jdk_65_120_39 (by decide) (by decide) ?_
  exact ⟨a1, rfl, rfl⟩
theorem mk_M_cpc3 {W : Wd} (hw : Ws W) : Mk W M_cpc3 ⟨"java/util/Arrays", "copyOf", "([Ljava/lang/Object;ILjava/lang/Class;)[Ljava/lang/Object;"⟩ 3 := Mk.of nm_M_cpc3 rfl rfl rfl (w_208 hw) (w_198 hw) (mkLen pd___Ljava_lang_Object_ILjava_lang_Class___Ljava_lang_Object_ rfl) (by decide)
def M_cp2_3 : Mt := (⟨"java/util/Arrays", "copyOf", "([Ljava/lang/Object;I)[Ljava/lang/Object;"⟩, jdk_65_method_119_code, 2, some (.array (.object "java/lang/Object")), ⟨2, 1, 3, 33⟩)
theorem nm_M_cp2_3 : mN M_cp2_3 = ⟨"java/util/Arrays", "copyOf", "([Ljava/lang/Object;I)[Ljava/lang/Object;"⟩ := by delta mN M_cp2_3; rfl
set_option maxRecDepth 65536 in
set_option maxHeartbeats 40000000 in
theorem rm_cp2_3 {W : Wd} (hw : Ws W) (e : Addr) (mr : Addr) (y0 : Addr) (ry0 : Bool) (v0 : Value) (c0 : Value) (y1 : Addr) (ry1 : Bool) (v1 : Value) (c1 : Value) (y2 : Addr) (ry2 : Bool) (v2 : Value) (c2 : Value) (F : List En) (hmr : Mir (wZ W) "[Ljava/lang/Object;" mr) : Ct W M_cp2_3 [.ref e, .int 3] ((eO e [.ref y0, .ref y1, .ref y2, .null, .null, .null, .null, .null, .null, .null]) :: (oStr ry0 y0 (v0) (c0)) :: (oStr ry1 y1 (v1) (c1)) :: (oStr ry2 y2 (v2) (c2)) :: F) (fun v H' => ∃ q, v = some (.ref q) ∧ H' = ((eO q [.ref y0, .ref y1, .ref y2]) :: (eO e [.ref y0, .ref y1, .ref y2, .null, .null, .null, .null, .null, .null, .null]) :: (oStr ry0 y0 (v0) (c0)) :: (oStr ry1 y1 (v1) (c1)) :: (oStr ry2 y2 (v2) (c2)) :: F)) := by
  refine Ct.intro (L0 := [.val (.ref e), .val (.int 3)]) (plainFor_of_name pf_java_util_Arrays) rfl (fun K => ?_)
  refine Wp.aloadN rfl rfl d_jdk_65_119_0 ?_
  refine Wp.iloadN rfl d_jdk_65_119_1 ?_
  refine Wp.aloadN rfl rfl d_jdk_65_119_2 ?_
  refine Wp.gcls nm_M_cp2_3 0 rfl (by decide) (w_200 hw) (w_201 hw) (w_91 hw) (w_203 hw) (w_202 hw) (w_204 hw) hmr (Wn := 2) rfl rfl (by decide) (by decide) d_jdk_65_119_3 ?_
  refine Wp.callS nm_M_cp2_3 (rm_cpc3 hw e mr y0 ry0 v0 c0 y1 ry1 v1 c1 y2 ry2 v2 c2 _ hmr) (mk_M_cpc3 hw) (w_206 hw) (w_207 hw) rfl rfl (Wn := 0) rfl rfl (by decide) d_jdk_65_119_6 ?_
  rintro _ _ ⟨q_1, rfl, rfl⟩
  refine Wp.aret rfl rfl rfl d_jdk_65_119_9 (by decide) (by decide) ?_
  exact ⟨q_1, rfl, rfl⟩
theorem pp_1_2_3_4_0 : [1, 2, 3, 4, 0].isPerm (List.range 5) = true := by decide +kernel
theorem mk_M_cp2_3 {W : Wd} (hw : Ws W) : Mk W M_cp2_3 ⟨"java/util/Arrays", "copyOf", "([Ljava/lang/Object;I)[Ljava/lang/Object;"⟩ 2 := Mk.of nm_M_cp2_3 rfl rfl rfl (w_199 hw) (w_198 hw) (mkLen pd___Ljava_lang_Object_I__Ljava_lang_Object_ rfl) (by decide)
theorem pp_0_5_1_2_3_4 : [0, 5, 1, 2, 3, 4].isPerm (List.range 6) = true := by decide +kernel
def M_toa3 : Mt := (⟨"java/util/ArrayList", "toArray", "()[Ljava/lang/Object;"⟩, jdk_38_method_16_code, 1, some (.array (.object "java/lang/Object")), ⟨3, 1, 3, 46⟩)
theorem nm_M_toa3 : mN M_toa3 = ⟨"java/util/ArrayList", "toArray", "()[Ljava/lang/Object;"⟩ := by delta mN M_toa3; rfl
set_option maxRecDepth 65536 in
set_option maxHeartbeats 40000000 in
theorem rm_toa3 {W : Wd} (hw : Ws W) (l : Addr) (e : Addr) (mr : Addr) (y0 : Addr) (ry0 : Bool) (v0 : Value) (c0 : Value) (y1 : Addr) (ry1 : Bool) (v1 : Value) (c1 : Value) (y2 : Addr) (ry2 : Bool) (v2 : Value) (c2 : Value) (F : List En) (hmr : Mir (wZ W) "[Ljava/lang/Object;" mr) : Ct W M_toa3 [.ref l] ((oAL true l (.int 3) (.ref e) (.int 3)) :: (eO e [.ref y0, .ref y1, .ref y2, .null, .null, .null, .null, .null, .null, .null]) :: (oStr ry0 y0 (v0) (c0)) :: (oStr ry1 y1 (v1) (c1)) :: (oStr ry2 y2 (v2) (c2)) :: F) (fun v H' => ∃ q, v = some (.ref q) ∧ H' = ((eO q [.ref y0, .ref y1, .ref y2]) :: (oAL true l (.int 3) (.ref e) (.int 3)) :: (eO e [.ref y0, .ref y1, .ref y2, .null, .null, .null, .null, .null, .null, .null]) :: (oStr ry0 y0 (v0) (c0)) :: (oStr ry1 y1 (v1) (c1)) :: (oStr ry2 y2 (v2) (c2)) :: F)) := by
  refine Ct.intro (L0 := [.val (.ref l)]) (plainFor_of_name pf_java_util_ArrayList) rfl (fun K => ?_)
  refine Wp.aloadN rfl rfl d_jdk_38_16_0 ?_
  refine Wp.getF nm_M_toa3 (host := "") (Or.inl (w_56 hw)) Via.refl 0 1 rfl rfl d_jdk_38_16_1 ?_
  refine Wp.aloadN rfl rfl d_jdk_38_16_4 ?_
  refine Wp.getF nm_M_toa3 (host := "") (Or.inl (w_117 hw)) Via.refl 0 2 rfl rfl d_jdk_38_16_5 ?_
  refine Wp.perm [1, 2, 3, 4, 0] 5 pp_1_2_3_4_0 (H' := ((eO e [.ref y0, .ref y1, .ref y2, .null, .null, .null, .null, .null, .null, .null]) :: (oStr ry0 y0 (v0) (c0)) :: (oStr ry1 y1 (v1) (c1)) :: (oStr ry2 y2 (v2) (c2)) :: (oAL true l (.int 3) (.ref e) (.int 3)) :: F)) rfl ?_
  refine Wp.callS nm_M_toa3 (rm_cp2_3 hw e mr y0 ry0 v0 c0 y1 ry1 v1 c1 y2 ry2 v2 c2 _ hmr) (mk_M_cp2_3 hw) (w_196 hw) (w_197 hw) rfl rfl (Wn := 0) rfl rfl (by decide) d_jdk_38_16_8 ?_
  rintro _ _ ⟨q_1, rfl, rfl⟩
  refine Wp.perm [0, 5, 1, 2, 3, 4] 6 pp_0_5_1_2_3_4 (H' := ((eO q_1 [.ref y0, .ref y1, .ref y2]) :: (oAL true l (.int 3) (.ref e) (.int 3)) :: (eO e [.ref y0, .ref y1, .ref y2, .null, .null, .null, .null, .null, .null, .null]) :: (oStr ry0 y0 (v0) (c0)) :: (oStr ry1 y1 (v1) (c1)) :: (oStr ry2 y2 (v2) (c2)) :: F)) rfl ?_
  refine Wp.aret rfl rfl rfl d_jdk_38_16_11 (by decide) (by decide) ?_
  exact ⟨q_1, rfl, rfl⟩
theorem d_jdk_56_4_0 : Dc jdk_56_method_4_code 0 (.aload_n 0) 1 1 := ⟨by decide +kernel, rfl⟩
theorem d_jdk_56_4_1 : Dc jdk_56_method_4_code 1 (.arraylength) 1 2 := ⟨by decide +kernel, rfl⟩
theorem d_jdk_56_4_2 : Dc jdk_56_method_4_code 2 (.anewarray 2) 3 5 := ⟨by decide +kernel, rfl⟩
theorem w_268 {W : Wd} (hw : Ws W) : Wok W (Jvm.Cond.classLink "java/util/ImmutableCollections" (2 : Nat) "java/lang/Object") := hw.1 _ (List.mem_of_getElem? (i := 268) rfl)
theorem d_jdk_56_4_5 : Dc jdk_56_method_4_code 5 (.astore_n 1) 1 6 := ⟨by decide +kernel, rfl⟩
theorem d_jdk_56_4_6 : Dc jdk_56_method_4_code 6 (.iconst 0) 1 7 := ⟨by decide +kernel, rfl⟩
theorem d_jdk_56_4_7 : Dc jdk_56_method_4_code 7 (.istore_n 2) 1 8 := ⟨by decide +kernel, rfl⟩
theorem d_jdk_56_4_8 : Dc jdk_56_method_4_code 8 (.iload_n 2) 1 9 := ⟨by decide +kernel, rfl⟩
theorem d_jdk_56_4_9 : Dc jdk_56_method_4_code 9 (.aload_n 0) 1 10 := ⟨by decide +kernel, rfl⟩
theorem d_jdk_56_4_10 : Dc jdk_56_method_4_code 10 (.arraylength) 1 11 := ⟨by decide +kernel, rfl⟩
theorem d_jdk_56_4_11 : Bj jdk_56_method_4_code 11 (.if_icmp .ge 18) 18 14 29 := ⟨by decide +kernel, rfl, by decide, rfl⟩
theorem d_jdk_56_4_14 : Dc jdk_56_method_4_code 14 (.aload_n 1) 1 15 := ⟨by decide +kernel, rfl⟩
theorem d_jdk_56_4_15 : Dc jdk_56_method_4_code 15 (.iload_n 2) 1 16 := ⟨by decide +kernel, rfl⟩
theorem d_jdk_56_4_16 : Dc jdk_56_method_4_code 16 (.aload_n 0) 1 17 := ⟨by decide +kernel, rfl⟩
theorem d_jdk_56_4_17 : Dc jdk_56_method_4_code 17 (.iload_n 2) 1 18 := ⟨by decide +kernel, rfl⟩
theorem d_jdk_56_4_18 : Dc jdk_56_method_4_code 18 (.aaload) 1 19 := ⟨by decide +kernel, rfl⟩
theorem d_jdk_56_4_19 : Dc jdk_56_method_4_code 19 (.invokestatic 37) 3 22 := ⟨by decide +kernel, rfl⟩
theorem w_269 {W : Wd} (hw : Ws W) : Wok W (Jvm.Cond.methodLink "java/util/ImmutableCollections" (37 : Nat) ({ cls := "java/util/Objects", name := "requireNonNull", desc := "(Ljava/lang/Object;)Ljava/lang/Object;" } : Jvm.MethodName)) := hw.1 _ (List.mem_of_getElem? (i := 269) rfl)
theorem d_jdk_56_4_22 : Dc jdk_56_method_4_code 22 (.aastore) 1 23 := ⟨by decide +kernel, rfl⟩
theorem d_jdk_56_4_23 : Dc jdk_56_method_4_code 23 (.iinc 2 1) 3 26 := ⟨by decide +kernel, rfl⟩
theorem d_jdk_56_4_26 : Bj jdk_56_method_4_code 26 (.goto (-18)) (-18) 29 8 := ⟨by decide +kernel, rfl, by decide, rfl⟩
theorem d_jdk_56_4_29 : Dc jdk_56_method_4_code 29 (.new 12) 3 32 := ⟨by decide +kernel, rfl⟩
theorem w_92 {W : Wd} (hw : Ws W) : Wok W (Jvm.Cond.classLink "java/util/ImmutableCollections" (12 : Nat) "java/util/ImmutableCollections$ListN") := hw.1 _ (List.mem_of_getElem? (i := 92) rfl)
theorem w_184 {W : Wd} (hw : Ws W) : Wok W (Jvm.Cond.initialized "java/util/ImmutableCollections$ListN") := hw.1 _ (List.mem_of_getElem? (i := 184) rfl)
theorem nf_oLN {W : Wd} (hw : Ws W) : NewFs W "java/util/ImmutableCollections$ListN" [("java/util/ImmutableCollections$ListN", "elements", "[Ljava/lang/Object;", .null), ("java/util/ImmutableCollections$ListN", "allowNulls", "Z", .int 0)] := NewFs.cons (Or.inr (w_187 hw)) (ty := (.array (.object "java/lang/Object"))) (by decide) rfl (by decide) (NewFs.cons (Or.inr (w_95 hw)) (ty := .boolean) (by decide) rfl (by decide) (NewFs.nil))
theorem d_jdk_56_4_32 : Dc jdk_56_method_4_code 32 (.dup) 1 33 := ⟨by decide +kernel, rfl⟩
theorem d_jdk_56_4_33 : Dc jdk_56_method_4_code 33 (.aload_n 1) 1 34 := ⟨by decide +kernel, rfl⟩
theorem d_jdk_56_4_34 : Dc jdk_56_method_4_code 34 (.iconst 0) 1 35 := ⟨by decide +kernel, rfl⟩
theorem d_jdk_56_4_35 : Dc jdk_56_method_4_code 35 (.invokespecial 43) 3 38 := ⟨by decide +kernel, rfl⟩
theorem w_273 {W : Wd} (hw : Ws W) : Wok W (Jvm.Cond.code ({ cls := "java/util/ImmutableCollections$ListN", name := "<init>", desc := "([Ljava/lang/Object;Z)V" } : Jvm.MethodName) jdk_45_method_1_code (3 : Nat) (Option.none : Option Jvm.ClassFile.FieldType)) := hw.1 _ (List.mem_of_getElem? (i := 273) rfl)
theorem pd___Ljava_lang_Object_Z_V : parseMethodDescriptor "([Ljava/lang/Object;Z)V" = some ⟨[(.array (.object "java/lang/Object")), .boolean], none⟩ := by decide +kernel
theorem mk_M_lni {W : Wd} (hw : Ws W) : Mk W M_lni ⟨"java/util/ImmutableCollections$ListN", "<init>", "([Ljava/lang/Object;Z)V"⟩ 2 := Mk.of nm_M_lni rfl rfl rfl (w_273 hw) (w_184 hw) (mkLen pd___Ljava_lang_Object_Z_V rfl) (by decide)
theorem w_271 {W : Wd} (hw : Ws W) : Wok W (Jvm.Cond.methodLinkNest "java/util/ImmutableCollections" (43 : Nat) ({ cls := "java/util/ImmutableCollections$ListN", name := "<init>", desc := "([Ljava/lang/Object;Z)V" } : Jvm.MethodName) "java/util/ImmutableCollections") := hw.1 _ (List.mem_of_getElem? (i := 271) rfl)
theorem w_272 {W : Wd} (hw : Ws W) : Wok W (Jvm.Cond.instanceMethod ({ cls := "java/util/ImmutableCollections$ListN", name := "<init>", desc := "([Ljava/lang/Object;Z)V" } : Jvm.MethodName)) := hw.1 _ (List.mem_of_getElem? (i := 272) rfl)
theorem d_jdk_56_4_38 : Dc jdk_56_method_4_code 38 (.areturn) 1 39 := ⟨by decide +kernel, rfl⟩
def M_lfa : Mt := (⟨"java/util/ImmutableCollections", "listFromArray", "([Ljava/lang/Object;)Ljava/util/List;"⟩, jdk_56_method_4_code, 3, some (.object "java/util/List"), ⟨5, 2, 5, 63⟩)
theorem nm_M_lfa : mN M_lfa = ⟨"java/util/ImmutableCollections", "listFromArray", "([Ljava/lang/Object;)Ljava/util/List;"⟩ := by delta mN M_lfa; rfl
theorem pf_java_util_ImmutableCollections : plainName "java/util/ImmutableCollections" = true := by first | (simp [plainName, overriddenIn]; done) | decide +kernel
set_option maxRecDepth 65536 in
set_option maxHeartbeats 40000000 in
theorem rm_lfa {W : Wd} (hw : Ws W) (a : Addr) (y0 : Addr) (ry0 : Bool) (v0 : Value) (c0 : Value) (y1 : Addr) (ry1 : Bool) (v1 : Value) (c1 : Value) (y2 : Addr) (ry2 : Bool) (v2 : Value) (c2 : Value) (F : List En) : Ct W M_lfa [.ref a] ((eO a [.ref y0, .ref y1, .ref y2]) :: (oStr ry0 y0 (v0) (c0)) :: (oStr ry1 y1 (v1) (c1)) :: (oStr ry2 y2 (v2) (c2)) :: F) (fun v H' => ∃ q qa, v = some (.ref q) ∧ H' = ((oLN true q (.ref qa) (.int 0)) :: (eO qa [.ref y0, .ref y1, .ref y2]) :: (eO a [.ref y0, .ref y1, .ref y2]) :: (oStr ry0 y0 (v0) (c0)) :: (oStr ry1 y1 (v1) (c1)) :: (oStr ry2 y2 (v2) (c2)) :: F)) := by
  refine Ct.intro (L0 := [.val (.ref a), .unset, .unset]) (plainFor_of_name pf_java_util_ImmutableCollections) rfl (fun K => ?_)
  refine Wp.aloadN rfl rfl d_jdk_56_4_0 ?_
  refine Wp.alen (z := 3) 0 rfl rfl d_jdk_56_4_1 ?_
  refine Wp.newR nm_M_lfa (kk := 3) (vs := [.null, .null, .null]) (w_268 hw) (w_147 hw) (by decide) (by decide) (by decide) (by decide) (by decide) rfl d_jdk_56_4_2 (fun a1 => ?_)
  refine Wp.astoreN (L' := [.val (.ref a), .val (.ref a1), .unset]) rfl rfl d_jdk_56_4_5 ?_
  refine Wp.iconst lc_0 d_jdk_56_4_6 ?_
  refine Wp.istoreN (L' := [.val (.ref a), .val (.ref a1), .val (.int 0)]) rfl d_jdk_56_4_7 ?_
  refine Wp.iloadN rfl d_jdk_56_4_8 ?_
  refine Wp.aloadN rfl rfl d_jdk_56_4_9 ?_
  refine Wp.alen (z := 3) 1 rfl rfl d_jdk_56_4_10 ?_
  refine Wp.icF (by decide) d_jdk_56_4_11 ?_
  refine Wp.aloadN rfl rfl d_jdk_56_4_14 ?_
  refine Wp.iloadN rfl d_jdk_56_4_15 ?_
  refine Wp.aloadN rfl rfl d_jdk_56_4_16 ?_
  refine Wp.iloadN rfl d_jdk_56_4_17 ?_
  refine Wp.aaload 1 0 rfl rfl (by decide) (by decide) rfl d_jdk_56_4_18 ?_
  refine Wp.callS nm_M_lfa (rm_rnn hw y0 _ ) (mk_M_rnn hw) (w_269 hw) (w_243 hw) rfl rfl (Wn := 2) rfl rfl (by decide) d_jdk_56_4_19 ?_
  rintro _ _ ⟨rfl, rfl⟩
  refine Wp.aastore 0 0 rfl (by decide) (by decide) (show 0 < 3 by decide) (Or.inr ⟨_, rfl, (fun _ P => insCast P 2 rfl (w_148 hw))⟩) rfl d_jdk_56_4_22 (H' := ((eO a1 [.ref y0, .null, .null]) :: (eO a [.ref y0, .ref y1, .ref y2]) :: (oStr ry0 y0 (v0) (c0)) :: (oStr ry1 y1 (v1) (c1)) :: (oStr ry2 y2 (v2) (c2)) :: F)) rfl ?_
  refine Wp.iinc (z := 1) (L' := [.val (.ref a), .val (.ref a1), .val (.int 1)]) rfl (by decide) rfl d_jdk_56_4_23 ?_
  refine Wp.goto d_jdk_56_4_26 ?_
  refine Wp.iloadN rfl d_jdk_56_4_8 ?_
  refine Wp.aloadN rfl rfl d_jdk_56_4_9 ?_
  refine Wp.alen (z := 3) 1 rfl rfl d_jdk_56_4_10 ?_
  refine Wp.icF (by decide) d_jdk_56_4_11 ?_
  refine Wp.aloadN rfl rfl d_jdk_56_4_14 ?_
  refine Wp.iloadN rfl d_jdk_56_4_15 ?_
  refine Wp.aloadN rfl rfl d_jdk_56_4_16 ?_
  refine Wp.iloadN rfl d_jdk_56_4_17 ?_
  refine Wp.aaload 1 1 rfl rfl (by decide) (by decide) rfl d_jdk_56_4_18 ?_
  refine Wp.callS nm_M_lfa (rm_rnn hw y1 _ ) (mk_M_rnn hw) (w_269 hw) (w_243 hw) rfl rfl (Wn := 2) rfl rfl (by decide) d_jdk_56_4_19 ?_
  rintro _ _ ⟨rfl, rfl⟩
  refine Wp.aastore 0 1 rfl (by decide) (by decide) (show 1 < 3 by decide) (Or.inr ⟨_, rfl, (fun _ P => insCast P 3 rfl (w_148 hw))⟩) rfl d_jdk_56_4_22 (H' := ((eO a1 [.ref y0, .ref y1, .null]) :: (eO a [.ref y0, .ref y1, .ref y2]) :: (oStr ry0 y0 (v0) (c0)) :: (oStr ry1 y1 (v1) (c1)) :: (oStr ry2 y2 (v2) (c2)) :: F)) rfl ?_
  refine Wp.iinc (z := 2) (L' := [.val (.ref a), .val (.ref a1), .val (.int 2)]) rfl (by decide) rfl d_jdk_56_4_23 ?_
  refine Wp.goto d_jdk_56_4_26 ?_
  refine Wp.iloadN rfl d_jdk_56_4_8 ?_
  refine Wp.aloadN rfl rfl d_jdk_56_4_9 ?_
  refine Wp.alen (z := 3) 1 rfl rfl d_jdk_56_4_10 ?_
  refine Wp.icF (by decide) d_jdk_56_4_11 ?_
  refine Wp.aloadN rfl rfl d_jdk_56_4_14 ?_
  refine Wp.iloadN rfl d_jdk_56_4_15 ?_
  refine Wp.aloadN rfl rfl d_jdk_56_4_16 ?_
  refine Wp.iloadN rfl d_jdk_56_4_17 ?_
  refine Wp.aaload 1 2 rfl rfl (by decide) (by decide) rfl d_jdk_56_4_18 ?_
  refine Wp.callS nm_M_lfa (rm_rnn hw y2 _ ) (mk_M_rnn hw) (w_269 hw) (w_243 hw) rfl rfl (Wn := 2) rfl rfl (by decide) d_jdk_56_4_19 ?_
  rintro _ _ ⟨rfl, rfl⟩
  refine Wp.aastore 0 2 rfl (by decide) (by decide) (show 2 < 3 by decide) (Or.inr ⟨_, rfl, (fun _ P => insCast P 4 rfl (w_148 hw))⟩) rfl d_jdk_56_4_22 (H' := ((eO a1 [.ref y0, .ref y1, .ref y2]) :: (eO a [.ref y0, .ref y1, .ref y2]) :: (oStr ry0 y0 (v0) (c0)) :: (oStr ry1 y1 (v1) (c1)) :: (oStr ry2 y2 (v2) (c2)) :: F)) rfl ?_
  refine Wp.iinc (z := 3) (L' := [.val (.ref a), .val (.ref a1), .val (.int 3)]) rfl (by decide) rfl d_jdk_56_4_23 ?_
  refine Wp.goto d_jdk_56_4_26 ?_
  refine Wp.iloadN rfl d_jdk_56_4_8 ?_
  refine Wp.aloadN rfl rfl d_jdk_56_4_9 ?_
  refine Wp.alen (z := 3) 1 rfl rfl d_jdk_56_4_10 ?_
  refine Wp.icT (by decide) d_jdk_56_4_11 ?_
  refine Wp.newO nm_M_lfa (w_92 hw) (w_270 hw) (w_184 hw) (nf_oLN hw) (by decide) (by decide) d_jdk_56_4_29 (fun a2 => ?_)
  refine Wp.dup rfl d_jdk_56_4_32 ?_
  refine Wp.aloadN rfl rfl d_jdk_56_4_33 ?_
  refine Wp.iconst lc_0 d_jdk_56_4_34 ?_
  refine Wp.callCN nm_M_lfa (rm_lni hw a2 a1 _ ) (mk_M_lni hw) (w_271 hw) (w_272 hw) rfl rfl rfl rfl (Wn := 1) rfl rfl (by decide) d_jdk_56_4_35 ?_
  rintro _ _ ⟨rfl, rfl⟩
  refine Wp.aret rfl rfl rfl d_jdk_56_4_38 (by decide) (by decide) ?_
  exact ⟨a2, a1, rfl, rfl⟩
theorem d_jdk_40_47_0 : Dc jdk_40_method_47_code 0 (.aload_n 0) 1 1 := ⟨by decide +kernel, rfl⟩
theorem d_jdk_40_47_1 : Dc jdk_40_method_47_code 1 (.arraylength) 1 2 := ⟨by decide +kernel, rfl⟩
theorem d_jdk_40_47_2 : Dc jdk_40_method_47_code 2 (.tableswitch 57 0 2 #[26, 32, 43]) 26 28 := ⟨by decide +kernel, rfl⟩
theorem d_jdk_40_47_34 : Dc jdk_40_method_47_code 34 (.new 96) 3 37 := ⟨by decide +kernel, rfl⟩
theorem w_221 {W : Wd} (hw : Ws W) : Wok W (Jvm.Cond.classLink "java/util/List" (96 : Nat) "java/util/ImmutableCollections$List12") := hw.1 _ (List.mem_of_getElem? (i := 221) rfl)
theorem w_223 {W : Wd} (hw : Ws W) : Wok W (Jvm.Cond.initialized "java/util/ImmutableCollections$List12") := hw.1 _ (List.mem_of_getElem? (i := 223) rfl)
theorem nf_oL12 {W : Wd} (hw : Ws W) : NewFs W "java/util/ImmutableCollections$List12" [("java/util/ImmutableCollections$List12", "e0", "Ljava/lang/Object;", .null), ("java/util/ImmutableCollections$List12", "e1", "Ljava/lang/Object;", .null)] := NewFs.cons (Or.inr (w_247 hw)) (ty := (.object "java/lang/Object")) (by decide) rfl (by decide) (NewFs.cons (Or.inr (w_249 hw)) (ty := (.object "java/lang/Object")) (by decide) rfl (by decide) (NewFs.nil))
theorem d_jdk_40_47_37 : Dc jdk_40_method_47_code 37 (.dup) 1 38 := ⟨by decide +kernel, rfl⟩
theorem d_jdk_40_47_38 : Dc jdk_40_method_47_code 38 (.aload_n 0) 1 39 := ⟨by decide +kernel, rfl⟩
theorem d_jdk_40_47_39 : Dc jdk_40_method_47_code 39 (.iconst 0) 1 40 := ⟨by decide +kernel, rfl⟩
theorem d_jdk_40_47_40 : Dc jdk_40_method_47_code 40 (.aaload) 1 41 := ⟨by decide +kernel, rfl⟩
theorem d_jdk_40_47_41 : Dc jdk_40_method_47_code 41 (.invokespecial 98) 3 44 := ⟨by decide +kernel, rfl⟩
theorem w_286 {W : Wd} (hw : Ws W) : Wok W (Jvm.Cond.code ({ cls := "java/util/ImmutableCollections$List12", name := "<init>", desc := "(Ljava/lang/Object;)V" } : Jvm.MethodName) jdk_44_method_1_code (2 : Nat) (Option.none : Option Jvm.ClassFile.FieldType)) := hw.1 _ (List.mem_of_getElem? (i := 286) rfl)
theorem pd__Ljava_lang_Object__V : parseMethodDescriptor "(Ljava/lang/Object;)V" = some ⟨[(.object "java/lang/Object")], none⟩ := by decide +kernel
theorem mk_M_l1i {W : Wd} (hw : Ws W) : Mk W M_l1i ⟨"java/util/ImmutableCollections$List12", "<init>", "(Ljava/lang/Object;)V"⟩ 1 := Mk.of nm_M_l1i rfl rfl rfl (w_286 hw) (w_223 hw) (mkLen pd__Ljava_lang_Object__V rfl) (by decide)
theorem w_284 {W : Wd} (hw : Ws W) : Wok W (Jvm.Cond.methodLink "java/util/List" (98 : Nat) ({ cls := "java/util/ImmutableCollections$List12", name := "<init>", desc := "(Ljava/lang/Object;)V" } : Jvm.MethodName)) := hw.1 _ (List.mem_of_getElem? (i := 284) rfl)
theorem w_285 {W : Wd} (hw : Ws W) : Wok W (Jvm.Cond.instanceMethod ({ cls := "java/util/ImmutableCollections$List12", name := "<init>", desc := "(Ljava/lang/Object;)V" } : Jvm.MethodName)) := hw.1 _ (List.mem_of_getElem? (i := 285) rfl)
theorem d_jdk_40_47_44 : Dc jdk_40_method_47_code 44 (.areturn) 1 45 := ⟨by decide +kernel, rfl⟩
def M_loa1 : Mt := (⟨"java/util/List", "of", "([Ljava/lang/Object;)Ljava/util/List;"⟩, jdk_40_method_47_code, 2, some (.object "java/util/List"), ⟨5, 1, 2, 62⟩)
theorem nm_M_loa1 : mN M_loa1 = ⟨"java/util/List", "of", "([Ljava/lang/Object;)Ljava/util/List;"⟩ := by delta mN M_loa1; rfl
set_option maxRecDepth 65536 in
set_option maxHeartbeats 40000000 in
theorem rm_loa1 {W : Wd} (hw : Ws W) (a : Addr) (em : Addr) (y0 : Addr) (ry0 : Bool) (v0 : Value) (c0 : Value) (F : List En) (hem : Sta (wZ W) (wZ W).heap "java/util/ImmutableCollections" "EMPTY" "Ljava/lang/Object;" (.ref em)) : Ct W M_loa1 [.ref a] ((eO a [.ref y0]) :: (oStr ry0 y0 (v0) (c0)) :: F) (fun v H' => ∃ q, v = some (.ref q) ∧ H' = ((oL12 true q (.ref y0) (.ref em)) :: (eO a [.ref y0]) :: (oStr ry0 y0 (v0) (c0)) :: F)) := by
  refine Ct.intro (L0 := [.val (.ref a), .unset]) (plainFor_of_name pf_java_util_List) rfl (fun K => ?_)
  refine Wp.aloadN rfl rfl d_jdk_40_47_0 ?_
  refine Wp.alen (z := 1) 0 rfl rfl d_jdk_40_47_1 ?_
  refine Wp.tswIn (by decide) rfl (by decide) rfl d_jdk_40_47_2 ?_
  refine Wp.newO nm_M_loa1 (w_221 hw) (w_222 hw) (w_223 hw) (nf_oL12 hw) (by decide) (by decide) d_jdk_40_47_34 (fun a1 => ?_)
  refine Wp.dup rfl d_jdk_40_47_37 ?_
  refine Wp.aloadN rfl rfl d_jdk_40_47_38 ?_
  refine Wp.iconst lc_0 d_jdk_40_47_39 ?_
  refine Wp.aaload 1 0 rfl rfl (by decide) (by decide) rfl d_jdk_40_47_40 ?_
  refine Wp.callC nm_M_loa1 (rm_l1i hw a1 y0 em _ hem) (mk_M_l1i hw) (w_284 hw) (w_285 hw) rfl rfl rfl rfl (Wn := 1) rfl rfl (by decide) d_jdk_40_47_41 ?_
  rintro _ _ ⟨rfl, rfl⟩
  refine Wp.aret rfl rfl rfl d_jdk_40_47_44 (by decide) (by decide) ?_
  exact ⟨a1, rfl, rfl⟩
theorem d_jdk_40_47_45 : Dc jdk_40_method_47_code 45 (.new 96) 3 48 := ⟨by decide +kernel, rfl⟩
theorem d_jdk_40_47_48 : Dc jdk_40_method_47_code 48 (.dup) 1 49 := ⟨by decide +kernel, rfl⟩
theorem d_jdk_40_47_49 : Dc jdk_40_method_47_code 49 (.aload_n 0) 1 50 := ⟨by decide +kernel, rfl⟩
theorem d_jdk_40_47_50 : Dc jdk_40_method_47_code 50 (.iconst 0) 1 51 := ⟨by decide +kernel, rfl⟩
theorem d_jdk_40_47_51 : Dc jdk_40_method_47_code 51 (.aaload) 1 52 := ⟨by decide +kernel, rfl⟩
theorem d_jdk_40_47_52 : Dc jdk_40_method_47_code 52 (.aload_n 0) 1 53 := ⟨by decide +kernel, rfl⟩
theorem d_jdk_40_47_53 : Dc jdk_40_method_47_code 53 (.iconst 1) 1 54 := ⟨by decide +kernel, rfl⟩
theorem d_jdk_40_47_54 : Dc jdk_40_method_47_code 54 (.aaload) 1 55 := ⟨by decide +kernel, rfl⟩
theorem d_jdk_40_47_55 : Dc jdk_40_method_47_code 55 (.invokespecial 100) 3 58 := ⟨by decide +kernel, rfl⟩
theorem w_227 {W : Wd} (hw : Ws W) : Wok W (Jvm.Cond.code ({ cls := "java/util/ImmutableCollections$List12", name := "<init>", desc := "(Ljava/lang/Object;Ljava/lang/Object;)V" } : Jvm.MethodName) jdk_44_method_2_code (3 : Nat) (Option.none : Option Jvm.ClassFile.FieldType)) := hw.1 _ (List.mem_of_getElem? (i := 227) rfl)
theorem pd__Ljava_lang_Object_Ljava_lang_Object__V : parseMethodDescriptor "(Ljava/lang/Object;Ljava/lang/Object;)V" = some ⟨[(.object "java/lang/Object"), (.object "java/lang/Object")], none⟩ := by decide +kernel
theorem mk_M_l2i {W : Wd} (hw : Ws W) : Mk W M_l2i ⟨"java/util/ImmutableCollections$List12", "<init>", "(Ljava/lang/Object;Ljava/lang/Object;)V"⟩ 2 := Mk.of nm_M_l2i rfl rfl rfl (w_227 hw) (w_223 hw) (mkLen pd__Ljava_lang_Object_Ljava_lang_Object__V rfl) (by decide)
theorem w_224 {W : Wd} (hw : Ws W) : Wok W (Jvm.Cond.methodLink "java/util/List" (100 : Nat) ({ cls := "java/util/ImmutableCollections$List12", name := "<init>", desc := "(Ljava/lang/Object;Ljava/lang/Object;)V" } : Jvm.MethodName)) := hw.1 _ (List.mem_of_getElem? (i := 224) rfl)
theorem w_225 {W : Wd} (hw : Ws W) : Wok W (Jvm.Cond.instanceMethod ({ cls := "java/util/ImmutableCollections$List12", name := "<init>", desc := "(Ljava/lang/Object;Ljava/lang/Object;)V" } : Jvm.MethodName)) := hw.1 _ (List.mem_of_getElem? (i := 225) rfl)
theorem d_jdk_40_47_58 : Dc jdk_40_method_47_code 58 (.areturn) 1 59 := ⟨by decide +kernel, rfl⟩
def M_loa2 : Mt := (⟨"java/util/List", "of", "([Ljava/lang/Object;)Ljava/util/List;"⟩, jdk_40_method_47_code, 2, some (.object "java/util/List"), ⟨5, 1, 2, 63⟩)
theorem nm_M_loa2 : mN M_loa2 = ⟨"java/util/List", "of", "([Ljava/lang/Object;)Ljava/util/List;"⟩ := by delta mN M_loa2; rfl
set_option maxRecDepth 65536 in
set_option maxHeartbeats 40000000 in
theorem rm_loa2 {W : Wd} (hw : Ws W) (a : Addr) (em : Addr) (y0 : Addr) (ry0 : Bool) (v0 : Value) (c0 : Value) (y1 : Addr) (ry1 : Bool) (v1 : Value) (c1 : Value) (F : List En) (hem : Sta (wZ W) (wZ W).heap "java/util/ImmutableCollections" "EMPTY" "Ljava/lang/Object;" (.ref em)) : Ct W M_loa2 [.ref a] ((eO a [.ref y0, .ref y1]) :: (oStr ry0 y0 (v0) (c0)) :: (oStr ry1 y1 (v1) (c1)) :: F) (fun v H' => ∃ q, v = some (.ref q) ∧ H' = ((oL12 true q (.ref y0) (.ref y1)) :: (eO a [.ref y0, .ref y1]) :: (oStr ry0 y0 (v0) (c0)) :: (oStr ry1 y1 (v1) (c1)) :: F)) := by
  refine Ct.intro (L0 := [.val (.ref a), .unset]) (plainFor_of_name pf_java_util_List) rfl (fun K => ?_)
  refine Wp.aloadN rfl rfl d_jdk_40_47_0 ?_
  refine Wp.alen (z := 2) 0 rfl rfl d_jdk_40_47_1 ?_
  refine Wp.tswIn (by decide) rfl (by decide) rfl d_jdk_40_47_2 ?_
  refine Wp.newO nm_M_loa2 (w_221 hw) (w_222 hw) (w_223 hw) (nf_oL12 hw) (by decide) (by decide) d_jdk_40_47_45 (fun a1 => ?_)
  refine Wp.dup rfl d_jdk_40_47_48 ?_
  refine Wp.aloadN rfl rfl d_jdk_40_47_49 ?_
  refine Wp.iconst lc_0 d_jdk_40_47_50 ?_
  refine Wp.aaload 1 0 rfl rfl (by decide) (by decide) rfl d_jdk_40_47_51 ?_
  refine Wp.aloadN rfl rfl d_jdk_40_47_52 ?_
  refine Wp.iconst lc_1 d_jdk_40_47_53 ?_
  refine Wp.aaload 1 1 rfl rfl (by decide) (by decide) rfl d_jdk_40_47_54 ?_
  refine Wp.callC nm_M_loa2 (rm_l2i hw a1 y0 y1 _ ) (mk_M_l2i hw) (w_224 hw) (w_225 hw) rfl rfl rfl rfl (Wn := 1) rfl rfl (by decide) d_jdk_40_47_55 ?_
  rintro _ _ ⟨rfl, rfl⟩
  refine Wp.aret rfl rfl rfl d_jdk_40_47_58 (by decide) (by decide) ?_
  exact ⟨a1, rfl, rfl⟩
theorem d_jdk_40_47_59 : Dc jdk_40_method_47_code 59 (.aload_n 0) 1 60 := ⟨by decide +kernel, rfl⟩
theorem d_jdk_40_47_60 : Dc jdk_40_method_47_code 60 (.invokestatic 109) 3 63 := ⟨by decide +kernel, rfl⟩
theorem w_267 {W : Wd} (hw : Ws W) : Wok W (Jvm.Cond.code ({ cls := "java/util/ImmutableCollections", name := "listFromArray", desc := "([Ljava/lang/Object;)Ljava/util/List;" } : Jvm.MethodName) jdk_56_method_4_code (3 : Nat) (Option.some (Jvm.ClassFile.FieldType.object "java/util/List"))) := hw.1 _ (List.mem_of_getElem? (i := 267) rfl)
theorem w_69 {W : Wd} (hw : Ws W) : Wok W (Jvm.Cond.initialized "java/util/ImmutableCollections") := hw.1 _ (List.mem_of_getElem? (i := 69) rfl)
theorem pd___Ljava_lang_Object__Ljava_util_List_ : parseMethodDescriptor "([Ljava/lang/Object;)Ljava/util/List;" = some ⟨[(.array (.object "java/lang/Object"))], some (.object "java/util/List")⟩ := by decide +kernel
theorem mk_M_lfa {W : Wd} (hw : Ws W) : Mk W M_lfa ⟨"java/util/ImmutableCollections", "listFromArray", "([Ljava/lang/Object;)Ljava/util/List;"⟩ 1 := Mk.of nm_M_lfa rfl rfl rfl (w_267 hw) (w_69 hw) (mkLen pd___Ljava_lang_Object__Ljava_util_List_ rfl) (by decide)
theorem w_265 {W : Wd} (hw : Ws W) : Wok W (Jvm.Cond.methodLink "java/util/List" (109 : Nat) ({ cls := "java/util/ImmutableCollections", name := "listFromArray", desc := "([Ljava/lang/Object;)Ljava/util/List;" } : Jvm.MethodName)) := hw.1 _ (List.mem_of_getElem? (i := 265) rfl)
theorem w_266 {W : Wd} (hw : Ws W) : Wok W (Jvm.Cond.static ({ cls := "java/util/ImmutableCollections", name := "listFromArray", desc := "([Ljava/lang/Object;)Ljava/util/List;" } : Jvm.MethodName)) := hw.1 _ (List.mem_of_getElem? (i := 266) rfl)
theorem d_jdk_40_47_63 : Dc jdk_40_method_47_code 63 (.areturn) 1 64 := ⟨by decide +kernel, rfl⟩
def M_loa3 : Mt := (⟨"java/util/List", "of", "([Ljava/lang/Object;)Ljava/util/List;"⟩, jdk_40_method_47_code, 2, some (.object "java/util/List"), ⟨6, 2, 5, 77⟩)
theorem nm_M_loa3 : mN M_loa3 = ⟨"java/util/List", "of", "([Ljava/lang/Object;)Ljava/util/List;"⟩ := by delta mN M_loa3; rfl
set_option maxRecDepth 65536 in
set_option maxHeartbeats 40000000 in
theorem rm_loa3 {W : Wd} (hw : Ws W) (a : Addr) (em : Addr) (y0 : Addr) (ry0 : Bool) (v0 : Value) (c0 : Value) (y1 : Addr) (ry1 : Bool) (v1 : Value) (c1 : Value) (y2 : Addr) (ry2 : Bool) (v2 : Value) (c2 : Value) (F : List En) (hem : Sta (wZ W) (wZ W).heap "java/util/ImmutableCollections" "EMPTY" "Ljava/lang/Object;" (.ref em)) : Ct W M_loa3 [.ref a] ((eO a [.ref y0, .ref y1, .ref y2]) :: (oStr ry0 y0 (v0) (c0)) :: (oStr ry1 y1 (v1) (c1)) :: (oStr ry2 y2 (v2) (c2)) :: F) (fun v H' => ∃ q qa, v = some (.ref q) ∧ H' = ((oLN true q (.ref qa) (.int 0)) :: (eO qa [.ref y0, .ref y1, .ref y2]) :: (eO a [.ref y0, .ref y1, .ref y2]) :: (oStr ry0 y0 (v0) (c0)) :: (oStr ry1 y1 (v1) (c1)) :: (oStr ry2 y2 (v2) (c2)) :: F)) := by
  refine Ct.intro (L0 := [.val (.ref a), .unset]) (plainFor_of_name pf_java_util_List) rfl (fun K => ?_)
  refine Wp.aloadN rfl rfl d_jdk_40_47_0 ?_
  refine Wp.alen (z := 3) 0 rfl rfl d_jdk_40_47_1 ?_
  refine Wp.tswOut (by decide) (by decide) rfl d_jdk_40_47_2 ?_
  refine Wp.aloadN rfl rfl d_jdk_40_47_59 ?_
  refine Wp.callS nm_M_loa3 (rm_lfa hw a y0 ry0 v0 c0 y1 ry1 v1 c1 y2 ry2 v2 c2 _ ) (mk_M_lfa hw) (w_265 hw) (w_266 hw) rfl rfl (Wn := 0) rfl rfl (by decide) d_jdk_40_47_60 ?_
  rintro _ _ ⟨q_1, qa_2, rfl, rfl⟩
  refine Wp.aret rfl rfl rfl d_jdk_40_47_63 (by decide) (by decide) ?_
  exact ⟨q_1, qa_2, rfl, rfl⟩
theorem d_jdk_38_9_0 : Dc jdk_38_method_9_code 0 (.aload_n 0) 1 1 := ⟨by decide +kernel, rfl⟩
theorem d_jdk_38_9_1 : Dc jdk_38_method_9_code 1 (.getfield 48) 3 4 := ⟨by decide +kernel, rfl⟩
theorem d_jdk_38_9_4 : Bj jdk_38_method_9_code 4 (.ifCond .ne 7) 7 7 11 := ⟨by decide +kernel, rfl, by decide, rfl⟩
theorem d_jdk_38_9_7 : Dc jdk_38_method_9_code 7 (.iconst 1) 1 8 := ⟨by decide +kernel, rfl⟩
theorem d_jdk_38_9_8 : Bj jdk_38_method_9_code 8 (.goto 4) 4 11 12 := ⟨by decide +kernel, rfl, by decide, rfl⟩
theorem d_jdk_38_9_12 : Dc jdk_38_method_9_code 12 (.ireturn) 1 13 := ⟨by decide +kernel, rfl⟩
def M_aie0 : Mt := (⟨"java/util/ArrayList", "isEmpty", "()Z"⟩, jdk_38_method_9_code, 1, some .boolean, ⟨0, 0, 0, 0⟩)
theorem nm_M_aie0 : mN M_aie0 = ⟨"java/util/ArrayList", "isEmpty", "()Z"⟩ := by delta mN M_aie0; rfl
set_option maxRecDepth 65536 in
set_option maxHeartbeats 40000000 in
theorem rm_aie0 {W : Wd} (hw : Ws W) (l : Addr) (de : Addr) (F : List En) : Ct W M_aie0 [.ref l] ((oAL true l (.int 0) (.ref de) (.int 0)) :: F) (fun v H' => v = some (.int 1) ∧ H' = ((oAL true l (.int 0) (.ref de) (.int 0)) :: F)) := by
  refine Ct.intro (L0 := [.val (.ref l)]) (plainFor_of_name pf_java_util_ArrayList) rfl (fun K => ?_)
  refine Wp.aloadN rfl rfl d_jdk_38_9_0 ?_
  refine Wp.getF nm_M_aie0 (host := "") (Or.inl (w_117 hw)) Via.refl 0 2 rfl rfl d_jdk_38_9_1 ?_
  refine Wp.ifF (by decide) d_jdk_38_9_4 ?_
  refine Wp.iconst lc_1 d_jdk_38_9_7 ?_
  refine Wp.goto d_jdk_38_9_8 ?_
  refine Wp.iretN (z := 1) (by simp) rfl (by decide) d_jdk_38_9_12 (by decide) (by decide) ?_
  exact ⟨rfl, rfl⟩
theorem d_jdk_38_9_11 : Dc jdk_38_method_9_code 11 (.iconst 0) 1 12 := ⟨by decide +kernel, rfl⟩
def M_aie1 : Mt := (⟨"java/util/ArrayList", "isEmpty", "()Z"⟩, jdk_38_method_9_code, 1, some .boolean, ⟨0, 0, 0, 0⟩)
theorem nm_M_aie1 : mN M_aie1 = ⟨"java/util/ArrayList", "isEmpty", "()Z"⟩ := by delta mN M_aie1; rfl
set_option maxRecDepth 65536 in
set_option maxHeartbeats 40000000 in
theorem rm_aie1 {W : Wd} (hw : Ws W) (l : Addr) (e : Addr) (F : List En) : Ct W M_aie1 [.ref l] ((oAL true l (.int 1) (.ref e) (.int 1)) :: F) (fun v H' => v = some (.int 0) ∧ H' = ((oAL true l (.int 1) (.ref e) (.int 1)) :: F)) := by
  refine Ct.intro (L0 := [.val (.ref l)]) (plainFor_of_name pf_java_util_ArrayList) rfl (fun K => ?_)
  refine Wp.aloadN rfl rfl d_jdk_38_9_0 ?_
  refine Wp.getF nm_M_aie1 (host := "") (Or.inl (w_117 hw)) Via.refl 0 2 rfl rfl d_jdk_38_9_1 ?_
  refine Wp.ifT (by decide) d_jdk_38_9_4 ?_
  refine Wp.iconst lc_0 d_jdk_38_9_11 ?_
  refine Wp.iretN (z := 0) (by simp) rfl (by decide) d_jdk_38_9_12 (by decide) (by decide) ?_
  exact ⟨rfl, rfl⟩
def M_aie2 : Mt := (⟨"java/util/ArrayList", "isEmpty", "()Z"⟩, jdk_38_method_9_code, 1, some .boolean, ⟨0, 0, 0, 0⟩)
theorem nm_M_aie2 : mN M_aie2 = ⟨"java/util/ArrayList", "isEmpty", "()Z"⟩ := by delta mN M_aie2; rfl
set_option maxRecDepth 65536 in
set_option maxHeartbeats 40000000 in
theorem rm_aie2 {W : Wd} (hw : Ws W) (l : Addr) (e : Addr) (F : List En) : Ct W M_aie2 [.ref l] ((oAL true l (.int 2) (.ref e) (.int 2)) :: F) (fun v H' => v = some (.int 0) ∧ H' = ((oAL true l (.int 2) (.ref e) (.int 2)) :: F)) := by
  refine Ct.intro (L0 := [.val (.ref l)]) (plainFor_of_name pf_java_util_ArrayList) rfl (fun K => ?_)
  refine Wp.aloadN rfl rfl d_jdk_38_9_0 ?_
  refine Wp.getF nm_M_aie2 (host := "") (Or.inl (w_117 hw)) Via.refl 0 2 rfl rfl d_jdk_38_9_1 ?_
  refine Wp.ifT (by decide) d_jdk_38_9_4 ?_
  refine Wp.iconst lc_0 d_jdk_38_9_11 ?_
  refine Wp.iretN (z := 0) (by simp) rfl (by decide) d_jdk_38_9_12 (by decide) (by decide) ?_
  exact ⟨rfl, rfl⟩
def M_aie3 : Mt := (⟨"java/util/ArrayList", "isEmpty", "()Z"⟩, jdk_38_method_9_code, 1, some .boolean, ⟨0, 0, 0, 0⟩)
theorem nm_M_aie3 : mN M_aie3 = ⟨"java/util/ArrayList", "isEmpty", "()Z"⟩ := by delta mN M_aie3; rfl
set_option maxRecDepth 65536 in
set_option maxHeartbeats 40000000 in
theorem rm_aie3 {W : Wd} (hw : Ws W) (l : Addr) (e : Addr) (F : List En) : Ct W M_aie3 [.ref l] ((oAL true l (.int 3) (.ref e) (.int 3)) :: F) (fun v H' => v = some (.int 0) ∧ H' = ((oAL true l (.int 3) (.ref e) (.int 3)) :: F)) := by
  refine Ct.intro (L0 := [.val (.ref l)]) (plainFor_of_name pf_java_util_ArrayList) rfl (fun K => ?_)
  refine Wp.aloadN rfl rfl d_jdk_38_9_0 ?_
  refine Wp.getF nm_M_aie3 (host := "") (Or.inl (w_117 hw)) Via.refl 0 2 rfl rfl d_jdk_38_9_1 ?_
  refine Wp.ifT (by decide) d_jdk_38_9_4 ?_
  refine Wp.iconst lc_0 d_jdk_38_9_11 ?_
  refine Wp.iretN (z := 0) (by simp) rfl (by decide) d_jdk_38_9_12 (by decide) (by decide) ?_
  exact ⟨rfl, rfl⟩
theorem d_jdk_56_3_0 : Dc jdk_56_method_3_code 0 (.aload_n 0) 1 1 := ⟨by decide +kernel, rfl⟩
theorem d_jdk_56_3_1 : Dc jdk_56_method_3_code 1 (.instanceof 10) 3 4 := ⟨by decide +kernel, rfl⟩
theorem w_86 {W : Wd} (hw : Ws W) : Wok W (Jvm.Cond.classLink "java/util/ImmutableCollections" (10 : Nat) "java/util/ImmutableCollections$List12") := hw.1 _ (List.mem_of_getElem? (i := 86) rfl)
theorem w_90 {W : Wd} (hw : Ws W) : Wok W (Jvm.Cond.superclass "java/util/AbstractCollection" "java/lang/Object") := hw.1 _ (List.mem_of_getElem? (i := 90) rfl)
theorem w_89 {W : Wd} (hw : Ws W) : Wok W (Jvm.Cond.superclass "java/util/ImmutableCollections$AbstractImmutableCollection" "java/util/AbstractCollection") := hw.1 _ (List.mem_of_getElem? (i := 89) rfl)
theorem w_88 {W : Wd} (hw : Ws W) : Wok W (Jvm.Cond.superclass "java/util/ImmutableCollections$AbstractImmutableList" "java/util/ImmutableCollections$AbstractImmutableCollection") := hw.1 _ (List.mem_of_getElem? (i := 88) rfl)
theorem w_87 {W : Wd} (hw : Ws W) : Wok W (Jvm.Cond.superclass "java/util/ImmutableCollections$ListN" "java/util/ImmutableCollections$AbstractImmutableList") := hw.1 _ (List.mem_of_getElem? (i := 87) rfl)
theorem ns_java_util_ImmutableCollections_ListN_java_util_ImmutableCollections_List12 {W : Wd} (hw : Ws W) : NoSub W "java/util/ImmutableCollections$ListN" "java/util/ImmutableCollections$List12" := nsNo (w_87 hw) (w_222 hw) (NS.step (w_87 hw) (NS.step (w_88 hw) (NS.step (w_89 hw) (NS.step (w_90 hw) (nsRoot (w_91 hw) (w_222 hw) (by decide)) (by decide)) (by decide)) (by decide)) (by decide)) (by decide)
theorem d_jdk_56_3_4 : Bj jdk_56_method_3_code 4 (.ifCond .ne 22) 22 7 26 := ⟨by decide +kernel, rfl, by decide, rfl⟩
theorem d_jdk_56_3_7 : Dc jdk_56_method_3_code 7 (.aload_n 0) 1 8 := ⟨by decide +kernel, rfl⟩
theorem d_jdk_56_3_8 : Dc jdk_56_method_3_code 8 (.instanceof 12) 3 11 := ⟨by decide +kernel, rfl⟩
theorem d_jdk_56_3_11 : Bj jdk_56_method_3_code 11 (.ifCond .eq 20) 20 14 31 := ⟨by decide +kernel, rfl, by decide, rfl⟩
theorem d_jdk_56_3_14 : Dc jdk_56_method_3_code 14 (.aload_n 0) 1 15 := ⟨by decide +kernel, rfl⟩
theorem d_jdk_56_3_15 : Dc jdk_56_method_3_code 15 (.checkcast 12) 3 18 := ⟨by decide +kernel, rfl⟩
theorem d_jdk_56_3_18 : Dc jdk_56_method_3_code 18 (.astore_n 1) 1 19 := ⟨by decide +kernel, rfl⟩
theorem d_jdk_56_3_19 : Dc jdk_56_method_3_code 19 (.aload_n 1) 1 20 := ⟨by decide +kernel, rfl⟩
theorem d_jdk_56_3_20 : Dc jdk_56_method_3_code 20 (.getfield 14) 3 23 := ⟨by decide +kernel, rfl⟩
theorem w_94 {W : Wd} (hw : Ws W) : Wok W (Jvm.Cond.fieldLinkNest "java/util/ImmutableCollections" (14 : Nat) "java/util/ImmutableCollections$ListN" "allowNulls" "Z" "java/util/ImmutableCollections") := hw.1 _ (List.mem_of_getElem? (i := 94) rfl)
theorem d_jdk_56_3_23 : Bj jdk_56_method_3_code 23 (.ifCond .ne 8) 8 26 31 := ⟨by decide +kernel, rfl, by decide, rfl⟩
theorem d_jdk_56_3_26 : Dc jdk_56_method_3_code 26 (.aload_n 0) 1 27 := ⟨by decide +kernel, rfl⟩
theorem d_jdk_56_3_27 : Dc jdk_56_method_3_code 27 (.checkcast 18) 3 30 := ⟨by decide +kernel, rfl⟩
theorem w_97 {W : Wd} (hw : Ws W) : Wok W (Jvm.Cond.castable "java/util/ImmutableCollections$ListN" "java/util/List") := hw.1 _ (List.mem_of_getElem? (i := 97) rfl)
theorem w_96 {W : Wd} (hw : Ws W) : Wok W (Jvm.Cond.classLink "java/util/ImmutableCollections" (18 : Nat) "java/util/List") := hw.1 _ (List.mem_of_getElem? (i := 96) rfl)
theorem d_jdk_56_3_30 : Dc jdk_56_method_3_code 30 (.areturn) 1 31 := ⟨by decide +kernel, rfl⟩
def M_lcE : Mt := (⟨"java/util/ImmutableCollections", "listCopy", "(Ljava/util/Collection;)Ljava/util/List;"⟩, jdk_56_method_3_code, 2, some (.object "java/util/List"), ⟨0, 0, 0, 0⟩)
theorem nm_M_lcE : mN M_lcE = ⟨"java/util/ImmutableCollections", "listCopy", "(Ljava/util/Collection;)Ljava/util/List;"⟩ := by delta mN M_lcE; rfl
set_option maxRecDepth 65536 in
set_option maxHeartbeats 40000000 in
theorem rm_lcE {W : Wd} (hw : Ws W) (el : Addr) (ee : Addr) (F : List En) : Ct W M_lcE [.ref el] ((oLN false el (.ref ee) (.int 0)) :: F) (fun v H' => v = some (.ref el) ∧ H' = ((oLN false el (.ref ee) (.int 0)) :: F)) := by
  refine Ct.intro (L0 := [.val (.ref el), .unset]) (plainFor_of_name pf_java_util_ImmutableCollections) rfl (fun K => ?_)
  refine Wp.aloadN rfl rfl d_jdk_56_3_0 ?_
  refine Wp.instNo nm_M_lcE (w_86 hw) 0 rfl (ns_java_util_ImmutableCollections_ListN_java_util_ImmutableCollections_List12 hw) d_jdk_56_3_1 ?_
  refine Wp.ifF (by decide) d_jdk_56_3_4 ?_
  refine Wp.aloadN rfl rfl d_jdk_56_3_7 ?_
  refine Wp.inst nm_M_lcE (w_92 hw) (fun _ P => insSelf P 0 rfl) d_jdk_56_3_8 ?_
  refine Wp.ifF (by decide) d_jdk_56_3_11 ?_
  refine Wp.aloadN rfl rfl d_jdk_56_3_14 ?_
  refine Wp.cast nm_M_lcE (w_92 hw) (fun _ P => insSelf P 0 rfl) d_jdk_56_3_15 ?_
  refine Wp.astoreN (L' := [.val (.ref el), .val (.ref el)]) rfl rfl d_jdk_56_3_18 ?_
  refine Wp.aloadN rfl rfl d_jdk_56_3_19 ?_
  refine Wp.getF nm_M_lcE (Or.inr (w_94 hw)) Via.refl 0 1 rfl rfl d_jdk_56_3_20 ?_
  refine Wp.ifF (by decide) d_jdk_56_3_23 ?_
  refine Wp.aloadN rfl rfl d_jdk_56_3_26 ?_
  refine Wp.cast nm_M_lcE (w_96 hw) (fun _ P => insCast P 0 rfl (w_97 hw)) d_jdk_56_3_27 ?_
  refine Wp.aret rfl rfl rfl d_jdk_56_3_30 (by decide) (by decide) ?_
  exact ⟨rfl, rfl⟩
theorem w_107 {W : Wd} (hw : Ws W) : Wok W (Jvm.Cond.superclass "java/util/AbstractList" "java/util/AbstractCollection") := hw.1 _ (List.mem_of_getElem? (i := 107) rfl)
theorem w_106 {W : Wd} (hw : Ws W) : Wok W (Jvm.Cond.superclass "java/util/ArrayList" "java/util/AbstractList") := hw.1 _ (List.mem_of_getElem? (i := 106) rfl)
theorem ns_java_util_ArrayList_java_util_ImmutableCollections_List12 {W : Wd} (hw : Ws W) : NoSub W "java/util/ArrayList" "java/util/ImmutableCollections$List12" := nsNo (w_106 hw) (w_222 hw) (NS.step (w_106 hw) (NS.step (w_107 hw) (NS.step (w_90 hw) (nsRoot (w_91 hw) (w_222 hw) (by decide)) (by decide)) (by decide)) (by decide)) (by decide)
theorem ns_java_util_ArrayList_java_util_ImmutableCollections_ListN {W : Wd} (hw : Ws W) : NoSub W "java/util/ArrayList" "java/util/ImmutableCollections$ListN" := nsNo (w_106 hw) (w_270 hw) (NS.step (w_106 hw) (NS.step (w_107 hw) (NS.step (w_90 hw) (nsRoot (w_91 hw) (w_270 hw) (by decide)) (by decide)) (by decide)) (by decide)) (by decide)
theorem d_jdk_56_3_31 : Dc jdk_56_method_3_code 31 (.aload_n 0) 1 32 := ⟨by decide +kernel, rfl⟩
theorem d_jdk_56_3_32 : Dc jdk_56_method_3_code 32 (.invokeinterface 20 1) 5 37 := ⟨by decide +kernel, rfl⟩
theorem w_111 {W : Wd} (hw : Ws W) : Wok W (Jvm.Cond.selects "java/util/ArrayList" ({ cls := "java/util/Collection", name := "isEmpty", desc := "()Z" } : Jvm.MethodName) ({ cls := "java/util/ArrayList", name := "isEmpty", desc := "()Z" } : Jvm.MethodName)) := hw.1 _ (List.mem_of_getElem? (i := 111) rfl)
theorem w_116 {W : Wd} (hw : Ws W) : Wok W (Jvm.Cond.code ({ cls := "java/util/ArrayList", name := "isEmpty", desc := "()Z" } : Jvm.MethodName) jdk_38_method_9_code (1 : Nat) (Option.some Jvm.ClassFile.FieldType.boolean)) := hw.1 _ (List.mem_of_getElem? (i := 116) rfl)
theorem pd___Z : parseMethodDescriptor "()Z" = some ⟨[], some .boolean⟩ := by decide +kernel
theorem mk_M_aie0 {W : Wd} (hw : Ws W) : Mk W M_aie0 ⟨"java/util/ArrayList", "isEmpty", "()Z"⟩ 0 := Mk.of nm_M_aie0 rfl rfl rfl (w_116 hw) (w_36 hw) (mkLen pd___Z rfl) (by decide)
theorem w_108 {W : Wd} (hw : Ws W) : Wok W (Jvm.Cond.methodLink "java/util/ImmutableCollections" (20 : Nat) ({ cls := "java/util/Collection", name := "isEmpty", desc := "()Z" } : Jvm.MethodName)) := hw.1 _ (List.mem_of_getElem? (i := 108) rfl)
theorem w_109 {W : Wd} (hw : Ws W) : Wok W (Jvm.Cond.declares ({ cls := "java/util/Collection", name := "isEmpty", desc := "()Z" } : Jvm.MethodName)) := hw.1 _ (List.mem_of_getElem? (i := 109) rfl)
theorem w_110 {W : Wd} (hw : Ws W) : Wok W (Jvm.Cond.interfaceMethod "java/util/Collection" "java/util/Collection" "isEmpty" "()Z") := hw.1 _ (List.mem_of_getElem? (i := 110) rfl)
theorem w_112 {W : Wd} (hw : Ws W) : Wok W (Jvm.Cond.instanceMethod ({ cls := "java/util/ArrayList", name := "isEmpty", desc := "()Z" } : Jvm.MethodName)) := hw.1 _ (List.mem_of_getElem? (i := 112) rfl)
theorem w_113 {W : Wd} (hw : Ws W) : Wok W (Jvm.Cond.publicMethod ({ cls := "java/util/ArrayList", name := "isEmpty", desc := "()Z" } : Jvm.MethodName)) := hw.1 _ (List.mem_of_getElem? (i := 113) rfl)
theorem w_114 {W : Wd} (hw : Ws W) : Wok W (Jvm.Cond.unhidden "java/util/ArrayList" "isEmpty" "()Z") := hw.1 _ (List.mem_of_getElem? (i := 114) rfl)
theorem w_115 {W : Wd} (hw : Ws W) : Wok W (Jvm.Cond.castable "java/util/ArrayList" "java/util/Collection") := hw.1 _ (List.mem_of_getElem? (i := 115) rfl)
theorem d_jdk_56_3_37 : Bj jdk_56_method_3_code 37 (.ifCond .eq 7) 7 40 44 := ⟨by decide +kernel, rfl, by decide, rfl⟩
theorem d_jdk_56_3_40 : Dc jdk_56_method_3_code 40 (.invokestatic 26) 3 43 := ⟨by decide +kernel, rfl⟩
theorem w_67 {W : Wd} (hw : Ws W) : Wok W (Jvm.Cond.code ({ cls := "java/util/List", name := "of", desc := "()Ljava/util/List;" } : Jvm.MethodName) jdk_40_method_36_code (0 : Nat) (Option.some (Jvm.ClassFile.FieldType.object "java/util/List"))) := hw.1 _ (List.mem_of_getElem? (i := 67) rfl)
theorem w_66 {W : Wd} (hw : Ws W) : Wok W (Jvm.Cond.initialized "java/util/List") := hw.1 _ (List.mem_of_getElem? (i := 66) rfl)
theorem pd___Ljava_util_List_ : parseMethodDescriptor "()Ljava/util/List;" = some ⟨[], some (.object "java/util/List")⟩ := by decide +kernel
theorem mk_M_lof {W : Wd} (hw : Ws W) : Mk W M_lof ⟨"java/util/List", "of", "()Ljava/util/List;"⟩ 0 := Mk.of nm_M_lof rfl rfl rfl (w_67 hw) (w_66 hw) (mkLen pd___Ljava_util_List_ rfl) (by decide)
theorem w_119 {W : Wd} (hw : Ws W) : Wok W (Jvm.Cond.methodLink "java/util/ImmutableCollections" (26 : Nat) ({ cls := "java/util/List", name := "of", desc := "()Ljava/util/List;" } : Jvm.MethodName)) := hw.1 _ (List.mem_of_getElem? (i := 119) rfl)
theorem w_65 {W : Wd} (hw : Ws W) : Wok W (Jvm.Cond.static ({ cls := "java/util/List", name := "of", desc := "()Ljava/util/List;" } : Jvm.MethodName)) := hw.1 _ (List.mem_of_getElem? (i := 65) rfl)
theorem d_jdk_56_3_43 : Dc jdk_56_method_3_code 43 (.areturn) 1 44 := ⟨by decide +kernel, rfl⟩
def M_lc0 : Mt := (⟨"java/util/ImmutableCollections", "listCopy", "(Ljava/util/Collection;)Ljava/util/List;"⟩, jdk_56_method_3_code, 2, some (.object "java/util/List"), ⟨1, 0, 0, 12⟩)
theorem nm_M_lc0 : mN M_lc0 = ⟨"java/util/ImmutableCollections", "listCopy", "(Ljava/util/Collection;)Ljava/util/List;"⟩ := by delta mN M_lc0; rfl
set_option maxRecDepth 65536 in
set_option maxHeartbeats 40000000 in
theorem rm_lc0 {W : Wd} (hw : Ws W) (l : Addr) (el : Addr) (em : Addr) (mr : Addr) (de : Addr) (F : List En) (hel : Sta (wZ W) (wZ W).heap "java/util/ImmutableCollections" "EMPTY_LIST" "Ljava/util/ImmutableCollections$ListN;" (.ref el)) (hem : Sta (wZ W) (wZ W).heap "java/util/ImmutableCollections" "EMPTY" "Ljava/lang/Object;" (.ref em)) (hmr : Mir (wZ W) "[Ljava/lang/Object;" mr) : Ct W M_lc0 [.ref l] ((oAL true l (.int 0) (.ref de) (.int 0)) :: F) (fun v H' => v = some (.ref el) ∧ H' = ((oAL true l (.int 0) (.ref de) (.int 0)) :: F)) := by
  refine Ct.intro (L0 := [.val (.ref l), .unset]) (plainFor_of_name pf_java_util_ImmutableCollections) rfl (fun K => ?_)
  refine Wp.aloadN rfl rfl d_jdk_56_3_0 ?_
  refine Wp.instNo nm_M_lc0 (w_86 hw) 0 rfl (ns_java_util_ArrayList_java_util_ImmutableCollections_List12 hw) d_jdk_56_3_1 ?_
  refine Wp.ifF (by decide) d_jdk_56_3_4 ?_
  refine Wp.aloadN rfl rfl d_jdk_56_3_7 ?_
  refine Wp.instNo nm_M_lc0 (w_92 hw) 0 rfl (ns_java_util_ArrayList_java_util_ImmutableCollections_ListN hw) d_jdk_56_3_8 ?_
  refine Wp.ifT (by decide) d_jdk_56_3_11 ?_
  refine Wp.aloadN rfl rfl d_jdk_56_3_31 ?_
  refine Wp.callI nm_M_lc0 (rm_aie0 hw l de _ ) 0 rfl (mk_M_aie0 hw) (w_108 hw) (w_109 hw) (w_110 hw) (w_111 hw) (w_112 hw) (w_113 hw) (w_114 hw) (w_115 hw) (by decide) rfl rfl rfl (Wn := 0) rfl rfl (by decide) d_jdk_56_3_32 ?_
  rintro _ _ ⟨rfl, rfl⟩
  refine Wp.ifF (by decide) d_jdk_56_3_37 ?_
  refine Wp.callS nm_M_lc0 (rm_lof hw el _ hel) (mk_M_lof hw) (w_119 hw) (w_65 hw) rfl rfl (Wn := 0) rfl rfl (by decide) d_jdk_56_3_40 ?_
  rintro _ _ ⟨rfl, rfl⟩
  refine Wp.aret rfl rfl rfl d_jdk_56_3_43 (by decide) (by decide) ?_
  exact ⟨rfl, rfl⟩
theorem mk_M_aie1 {W : Wd} (hw : Ws W) : Mk W M_aie1 ⟨"java/util/ArrayList", "isEmpty", "()Z"⟩ 0 := Mk.of nm_M_aie1 rfl rfl rfl (w_116 hw) (w_36 hw) (mkLen pd___Z rfl) (by decide)
theorem d_jdk_56_3_44 : Dc jdk_56_method_3_code 44 (.aload_n 0) 1 45 := ⟨by decide +kernel, rfl⟩
theorem d_jdk_56_3_45 : Dc jdk_56_method_3_code 45 (.invokeinterface 30 1) 5 50 := ⟨by decide +kernel, rfl⟩
theorem w_191 {W : Wd} (hw : Ws W) : Wok W (Jvm.Cond.selects "java/util/ArrayList" ({ cls := "java/util/Collection", name := "toArray", desc := "()[Ljava/lang/Object;" } : Jvm.MethodName) ({ cls := "java/util/ArrayList", name := "toArray", desc := "()[Ljava/lang/Object;" } : Jvm.MethodName)) := hw.1 _ (List.mem_of_getElem? (i := 191) rfl)
theorem w_195 {W : Wd} (hw : Ws W) : Wok W (Jvm.Cond.code ({ cls := "java/util/ArrayList", name := "toArray", desc := "()[Ljava/lang/Object;" } : Jvm.MethodName) jdk_38_method_16_code (1 : Nat) (Option.some (Jvm.ClassFile.FieldType.array (Jvm.ClassFile.FieldType.object "java/lang/Object")))) := hw.1 _ (List.mem_of_getElem? (i := 195) rfl)
theorem mk_M_toa1 {W : Wd} (hw : Ws W) : Mk W M_toa1 ⟨"java/util/ArrayList", "toArray", "()[Ljava/lang/Object;"⟩ 0 := Mk.of nm_M_toa1 rfl rfl rfl (w_195 hw) (w_36 hw) (mkLen pd____Ljava_lang_Object_ rfl) (by decide)
theorem w_188 {W : Wd} (hw : Ws W) : Wok W (Jvm.Cond.methodLink "java/util/ImmutableCollections" (30 : Nat) ({ cls := "java/util/Collection", name := "toArray", desc := "()[Ljava/lang/Object;" } : Jvm.MethodName)) := hw.1 _ (List.mem_of_getElem? (i := 188) rfl)
theorem w_189 {W : Wd} (hw : Ws W) : Wok W (Jvm.Cond.declares ({ cls := "java/util/Collection", name := "toArray", desc := "()[Ljava/lang/Object;" } : Jvm.MethodName)) := hw.1 _ (List.mem_of_getElem? (i := 189) rfl)
theorem w_190 {W : Wd} (hw : Ws W) : Wok W (Jvm.Cond.interfaceMethod "java/util/Collection" "java/util/Collection" "toArray" "()[Ljava/lang/Object;") := hw.1 _ (List.mem_of_getElem? (i := 190) rfl)
theorem w_192 {W : Wd} (hw : Ws W) : Wok W (Jvm.Cond.instanceMethod ({ cls := "java/util/ArrayList", name := "toArray", desc := "()[Ljava/lang/Object;" } : Jvm.MethodName)) := hw.1 _ (List.mem_of_getElem? (i := 192) rfl)
theorem w_193 {W : Wd} (hw : Ws W) : Wok W (Jvm.Cond.publicMethod ({ cls := "java/util/ArrayList", name := "toArray", desc := "()[Ljava/lang/Object;" } : Jvm.MethodName)) := hw.1 _ (List.mem_of_getElem? (i := 193) rfl)
theorem w_194 {W : Wd} (hw : Ws W) : Wok W (Jvm.Cond.unhidden "java/util/ArrayList" "toArray" "()[Ljava/lang/Object;") := hw.1 _ (List.mem_of_getElem? (i := 194) rfl)
theorem d_jdk_56_3_50 : Dc jdk_56_method_3_code 50 (.invokestatic 34) 3 53 := ⟨by decide +kernel, rfl⟩
theorem w_220 {W : Wd} (hw : Ws W) : Wok W (Jvm.Cond.code ({ cls := "java/util/List", name := "of", desc := "([Ljava/lang/Object;)Ljava/util/List;" } : Jvm.MethodName) jdk_40_method_47_code (2 : Nat) (Option.some (Jvm.ClassFile.FieldType.object "java/util/List"))) := hw.1 _ (List.mem_of_getElem? (i := 220) rfl)
theorem mk_M_loa1 {W : Wd} (hw : Ws W) : Mk W M_loa1 ⟨"java/util/List", "of", "([Ljava/lang/Object;)Ljava/util/List;"⟩ 1 := Mk.of nm_M_loa1 rfl rfl rfl (w_220 hw) (w_66 hw) (mkLen pd___Ljava_lang_Object__Ljava_util_List_ rfl) (by decide)
theorem w_218 {W : Wd} (hw : Ws W) : Wok W (Jvm.Cond.methodLink "java/util/ImmutableCollections" (34 : Nat) ({ cls := "java/util/List", name := "of", desc := "([Ljava/lang/Object;)Ljava/util/List;" } : Jvm.MethodName)) := hw.1 _ (List.mem_of_getElem? (i := 218) rfl)
theorem w_219 {W : Wd} (hw : Ws W) : Wok W (Jvm.Cond.static ({ cls := "java/util/List", name := "of", desc := "([Ljava/lang/Object;)Ljava/util/List;" } : Jvm.MethodName)) := hw.1 _ (List.mem_of_getElem? (i := 219) rfl)
theorem d_jdk_56_3_53 : Dc jdk_56_method_3_code 53 (.areturn) 1 54 := ⟨by decide +kernel, rfl⟩
theorem pp_0_3_4_2_1 : [0, 3, 4, 2, 1].isPerm (List.range 5) = true := by decide +kernel
def M_lc1 : Mt := (⟨"java/util/ImmutableCollections", "listCopy", "(Ljava/util/Collection;)Ljava/util/List;"⟩, jdk_56_method_3_code, 2, some (.object "java/util/List"), ⟨6, 2, 3, 75⟩)
theorem nm_M_lc1 : mN M_lc1 = ⟨"java/util/ImmutableCollections", "listCopy", "(Ljava/util/Collection;)Ljava/util/List;"⟩ := by delta mN M_lc1; rfl
set_option maxRecDepth 65536 in
set_option maxHeartbeats 40000000 in
theorem rm_lc1 {W : Wd} (hw : Ws W) (l : Addr) (e : Addr) (y0 : Addr) (ry0 : Bool) (v0 : Value) (c0 : Value) (el : Addr) (em : Addr) (mr : Addr) (F : List En) (hel : Sta (wZ W) (wZ W).heap "java/util/ImmutableCollections" "EMPTY_LIST" "Ljava/util/ImmutableCollections$ListN;" (.ref el)) (hem : Sta (wZ W) (wZ W).heap "java/util/ImmutableCollections" "EMPTY" "Ljava/lang/Object;" (.ref em)) (hmr : Mir (wZ W) "[Ljava/lang/Object;" mr) : Ct W M_lc1 [.ref l] ((oAL true l (.int 1) (.ref e) (.int 1)) :: (eO e [.ref y0, .null, .null, .null, .null, .null, .null, .null, .null, .null]) :: (oStr ry0 y0 (v0) (c0)) :: F) (fun v H' => ∃ q, v = some (.ref q) ∧ H' = ((oL12 true q (.ref y0) (.ref em)) :: (oAL true l (.int 1) (.ref e) (.int 1)) :: (eO e [.ref y0, .null, .null, .null, .null, .null, .null, .null, .null, .null]) :: (oStr ry0 y0 (v0) (c0)) :: F)) := by
  refine Ct.intro (L0 := [.val (.ref l), .unset]) (plainFor_of_name pf_java_util_ImmutableCollections) rfl (fun K => ?_)
  refine Wp.aloadN rfl rfl d_jdk_56_3_0 ?_
  refine Wp.instNo nm_M_lc1 (w_86 hw) 0 rfl (ns_java_util_ArrayList_java_util_ImmutableCollections_List12 hw) d_jdk_56_3_1 ?_
  refine Wp.ifF (by decide) d_jdk_56_3_4 ?_
  refine Wp.aloadN rfl rfl d_jdk_56_3_7 ?_
  refine Wp.instNo nm_M_lc1 (w_92 hw) 0 rfl (ns_java_util_ArrayList_java_util_ImmutableCollections_ListN hw) d_jdk_56_3_8 ?_
  refine Wp.ifT (by decide) d_jdk_56_3_11 ?_
  refine Wp.aloadN rfl rfl d_jdk_56_3_31 ?_
  refine Wp.callI nm_M_lc1 (rm_aie1 hw l e _ ) 0 rfl (mk_M_aie1 hw) (w_108 hw) (w_109 hw) (w_110 hw) (w_111 hw) (w_112 hw) (w_113 hw) (w_114 hw) (w_115 hw) (by decide) rfl rfl rfl (Wn := 0) rfl rfl (by decide) d_jdk_56_3_32 ?_
  rintro _ _ ⟨rfl, rfl⟩
  refine Wp.ifT (by decide) d_jdk_56_3_37 ?_
  refine Wp.aloadN rfl rfl d_jdk_56_3_44 ?_
  refine Wp.callI nm_M_lc1 (rm_toa1 hw l e mr y0 ry0 v0 c0 _ hmr) 0 rfl (mk_M_toa1 hw) (w_188 hw) (w_189 hw) (w_190 hw) (w_191 hw) (w_192 hw) (w_193 hw) (w_194 hw) (w_115 hw) (by decide) rfl rfl rfl (Wn := 0) rfl rfl (by decide) d_jdk_56_3_45 ?_
  rintro _ _ ⟨q_1, rfl, rfl⟩
  refine Wp.perm [0, 3, 1, 2] 4 pp_0_3_1_2 (H' := ((eO q_1 [.ref y0]) :: (oStr ry0 y0 (v0) (c0)) :: (oAL true l (.int 1) (.ref e) (.int 1)) :: (eO e [.ref y0, .null, .null, .null, .null, .null, .null, .null, .null, .null]) :: F)) rfl ?_
  refine Wp.callS nm_M_lc1 (rm_loa1 hw q_1 em y0 ry0 v0 c0 _ hem) (mk_M_loa1 hw) (w_218 hw) (w_219 hw) rfl rfl (Wn := 0) rfl rfl (by decide) d_jdk_56_3_50 ?_
  rintro _ _ ⟨q_2, rfl, rfl⟩
  refine Wp.perm [0, 3, 4, 2, 1] 5 pp_0_3_4_2_1 (H' := ((oL12 true q_2 (.ref y0) (.ref em)) :: (oAL true l (.int 1) (.ref e) (.int 1)) :: (eO e [.ref y0, .null, .null, .null, .null, .null, .null, .null, .null, .null]) :: (oStr ry0 y0 (v0) (c0)) :: (eO q_1 [.ref y0]) :: F)) rfl ?_
  refine Wp.less ((((((List.Sublist.refl _).cons _).cons_cons _).cons_cons _).cons_cons _).cons_cons _) ?_
  refine Wp.aret rfl rfl rfl d_jdk_56_3_53 (by decide) (by decide) ?_
  exact ⟨q_2, rfl, rfl⟩
theorem mk_M_aie2 {W : Wd} (hw : Ws W) : Mk W M_aie2 ⟨"java/util/ArrayList", "isEmpty", "()Z"⟩ 0 := Mk.of nm_M_aie2 rfl rfl rfl (w_116 hw) (w_36 hw) (mkLen pd___Z rfl) (by decide)
theorem mk_M_toa2 {W : Wd} (hw : Ws W) : Mk W M_toa2 ⟨"java/util/ArrayList", "toArray", "()[Ljava/lang/Object;"⟩ 0 := Mk.of nm_M_toa2 rfl rfl rfl (w_195 hw) (w_36 hw) (mkLen pd____Ljava_lang_Object_ rfl) (by decide)
theorem pp_0_3_4_1_2 : [0, 3, 4, 1, 2].isPerm (List.range 5) = true := by decide +kernel
theorem mk_M_loa2 {W : Wd} (hw : Ws W) : Mk W M_loa2 ⟨"java/util/List", "of", "([Ljava/lang/Object;)Ljava/util/List;"⟩ 1 := Mk.of nm_M_loa2 rfl rfl rfl (w_220 hw) (w_66 hw) (mkLen pd___Ljava_lang_Object__Ljava_util_List_ rfl) (by decide)
theorem pp_0_4_5_2_3_1 : [0, 4, 5, 2, 3, 1].isPerm (List.range 6) = true := by decide +kernel
def M_lc2 : Mt := (⟨"java/util/ImmutableCollections", "listCopy", "(Ljava/util/Collection;)Ljava/util/List;"⟩, jdk_56_method_3_code, 2, some (.object "java/util/List"), ⟨6, 2, 4, 76⟩)
theorem nm_M_lc2 : mN M_lc2 = ⟨"java/util/ImmutableCollections", "listCopy", "(Ljava/util/Collection;)Ljava/util/List;"⟩ := by delta mN M_lc2; rfl
set_option maxRecDepth 65536 in
set_option maxHeartbeats 40000000 in
theorem rm_lc2 {W : Wd} (hw : Ws W) (l : Addr) (e : Addr) (y0 : Addr) (ry0 : Bool) (v0 : Value) (c0 : Value) (y1 : Addr) (ry1 : Bool) (v1 : Value) (c1 : Value) (el : Addr) (em : Addr) (mr : Addr) (F : List En) (hel : Sta (wZ W) (wZ W).heap "java/util/ImmutableCollections" "EMPTY_LIST" "Ljava/util/ImmutableCollections$ListN;" (.ref el)) (hem : Sta (wZ W) (wZ W).heap "java/util/ImmutableCollections" "EMPTY" "Ljava/lang/Object;" (.ref em)) (hmr : Mir (wZ W) "[Ljava/lang/Object;" mr) : Ct W M_lc2 [.ref l] ((oAL true l (.int 2) (.ref e) (.int 2)) :: (eO e [.ref y0, .ref y1, .null, .null, .null, .null, .null, .null, .null, .null]) :: (oStr ry0 y0 (v0) (c0)) :: (oStr ry1 y1 (v1) (c1)) :: F) (fun v H' => ∃ q, v = some (.ref q) ∧ H' = ((oL12 true q (.ref y0) (.ref y1)) :: (oAL true l (.int 2) (.ref e) (.int 2)) :: (eO e [.ref y0, .ref y1, .null, .null, .null, .null, .null, .null, .null, .null]) :: (oStr ry0 y0 (v0) (c0)) :: (oStr ry1 y1 (v1) (c1)) :: F)) := by
  refine Ct.intro (L0 := [.val (.ref l), .unset]) (plainFor_of_name pf_java_util_ImmutableCollections) rfl (fun K => ?_)
  refine Wp.aloadN rfl rfl d_jdk_56_3_0 ?_
  refine Wp.instNo nm_M_lc2 (w_86 hw) 0 rfl (ns_java_util_ArrayList_java_util_ImmutableCollections_List12 hw) d_jdk_56_3_1 ?_
  refine Wp.ifF (by decide) d_jdk_56_3_4 ?_
  refine Wp.aloadN rfl rfl d_jdk_56_3_7 ?_
  refine Wp.instNo nm_M_lc2 (w_92 hw) 0 rfl (ns_java_util_ArrayList_java_util_ImmutableCollections_ListN hw) d_jdk_56_3_8 ?_
  refine Wp.ifT (by decide) d_jdk_56_3_11 ?_
  refine Wp.aloadN rfl rfl d_jdk_56_3_31 ?_
  refine Wp.callI nm_M_lc2 (rm_aie2 hw l e _ ) 0 rfl (mk_M_aie2 hw) (w_108 hw) (w_109 hw) (w_110 hw) (w_111 hw) (w_112 hw) (w_113 hw) (w_114 hw) (w_115 hw) (by decide) rfl rfl rfl (Wn := 0) rfl rfl (by decide) d_jdk_56_3_32 ?_
  rintro _ _ ⟨rfl, rfl⟩
  refine Wp.ifT (by decide) d_jdk_56_3_37 ?_
  refine Wp.aloadN rfl rfl d_jdk_56_3_44 ?_
  refine Wp.callI nm_M_lc2 (rm_toa2 hw l e mr y0 ry0 v0 c0 y1 ry1 v1 c1 _ hmr) 0 rfl (mk_M_toa2 hw) (w_188 hw) (w_189 hw) (w_190 hw) (w_191 hw) (w_192 hw) (w_193 hw) (w_194 hw) (w_115 hw) (by decide) rfl rfl rfl (Wn := 0) rfl rfl (by decide) d_jdk_56_3_45 ?_
  rintro _ _ ⟨q_1, rfl, rfl⟩
  refine Wp.perm [0, 3, 4, 1, 2] 5 pp_0_3_4_1_2 (H' := ((eO q_1 [.ref y0, .ref y1]) :: (oStr ry0 y0 (v0) (c0)) :: (oStr ry1 y1 (v1) (c1)) :: (oAL true l (.int 2) (.ref e) (.int 2)) :: (eO e [.ref y0, .ref y1, .null, .null, .null, .null, .null, .null, .null, .null]) :: F)) rfl ?_
  refine Wp.callS nm_M_lc2 (rm_loa2 hw q_1 em y0 ry0 v0 c0 y1 ry1 v1 c1 _ hem) (mk_M_loa2 hw) (w_218 hw) (w_219 hw) rfl rfl (Wn := 0) rfl rfl (by decide) d_jdk_56_3_50 ?_
  rintro _ _ ⟨q_2, rfl, rfl⟩
  refine Wp.perm [0, 4, 5, 2, 3, 1] 6 pp_0_4_5_2_3_1 (H' := ((oL12 true q_2 (.ref y0) (.ref y1)) :: (oAL true l (.int 2) (.ref e) (.int 2)) :: (eO e [.ref y0, .ref y1, .null, .null, .null, .null, .null, .null, .null, .null]) :: (oStr ry0 y0 (v0) (c0)) :: (oStr ry1 y1 (v1) (c1)) :: (eO q_1 [.ref y0, .ref y1]) :: F)) rfl ?_
  refine Wp.less (((((((List.Sublist.refl _).cons _).cons_cons _).cons_cons _).cons_cons _).cons_cons _).cons_cons _) ?_
  refine Wp.aret rfl rfl rfl d_jdk_56_3_53 (by decide) (by decide) ?_
  exact ⟨q_2, rfl, rfl⟩
theorem mk_M_aie3 {W : Wd} (hw : Ws W) : Mk W M_aie3 ⟨"java/util/ArrayList", "isEmpty", "()Z"⟩ 0 := Mk.of nm_M_aie3 rfl rfl rfl (w_116 hw) (w_36 hw) (mkLen pd___Z rfl) (by decide)
theorem mk_M_toa3 {W : Wd} (hw : Ws W) : Mk W M_toa3 ⟨"java/util/ArrayList", "toArray", "()[Ljava/lang/Object;"⟩ 0 := Mk.of nm_M_toa3 rfl rfl rfl (w_195 hw) (w_36 hw) (mkLen pd____Ljava_lang_Object_ rfl) (by decide)
theorem pp_0_3_4_5_1_2 : [0, 3, 4, 5, 1, 2].isPerm (List.range 6) = true := by decide +kernel
theorem mk_M_loa3 {W : Wd} (hw : Ws W) : Mk W M_loa3 ⟨"java/util/List", "of", "([Ljava/lang/Object;)Ljava/util/List;"⟩ 1 := Mk.of nm_M_loa3 rfl rfl rfl (w_220 hw) (w_66 hw) (mkLen pd___Ljava_lang_Object__Ljava_util_List_ rfl) (by decide)
theorem pp_0_1_6_7_3_4_5_2 : [0, 1, 6, 7, 3, 4, 5, 2].isPerm (List.range 8) = true := by decide +kernel
def M_lc3 : Mt := (⟨"java/util/ImmutableCollections", "listCopy", "(Ljava/util/Collection;)Ljava/util/List;"⟩, jdk_56_method_3_code, 2, some (.object "java/util/List"), ⟨7, 3, 8, 90⟩)
theorem nm_M_lc3 : mN M_lc3 = ⟨"java/util/ImmutableCollections", "listCopy", "(Ljava/util/Collection;)Ljava/util/List;"⟩ := by delta mN M_lc3; rfl
set_option maxRecDepth 65536 in
set_option maxHeartbeats 40000000 in
theorem rm_lc3 {W : Wd} (hw : Ws W) (l : Addr) (e : Addr) (y0 : Addr) (ry0 : Bool) (v0 : Value) (c0 : Value) (y1 : Addr) (ry1 : Bool) (v1 : Value) (c1 : Value) (y2 : Addr) (ry2 : Bool) (v2 : Value) (c2 : Value) (el : Addr) (em : Addr) (mr : Addr) (F : List En) (hel : Sta (wZ W) (wZ W).heap "java/util/ImmutableCollections" "EMPTY_LIST" "Ljava/util/ImmutableCollections$ListN;" (.ref el)) (hem : Sta (wZ W) (wZ W).heap "java/util/ImmutableCollections" "EMPTY" "Ljava/lang/Object;" (.ref em)) (hmr : Mir (wZ W) "[Ljava/lang/Object;" mr) : Ct W M_lc3 [.ref l] ((oAL true l (.int 3) (.ref e) (.int 3)) :: (eO e [.ref y0, .ref y1, .ref y2, .null, .null, .null, .null, .null, .null, .null]) :: (oStr ry0 y0 (v0) (c0)) :: (oStr ry1 y1 (v1) (c1)) :: (oStr ry2 y2 (v2) (c2)) :: F) (fun v H' => ∃ q qa, v = some (.ref q) ∧ H' = ((oLN true q (.ref qa) (.int 0)) :: (eO qa [.ref y0, .ref y1, .ref y2]) :: (oAL true l (.int 3) (.ref e) (.int 3)) :: (eO e [.ref y0, .ref y1, .ref y2, .null, .null, .null, .null, .null, .null, .null]) :: (oStr ry0 y0 (v0) (c0)) :: (oStr ry1 y1 (v1) (c1)) :: (oStr ry2 y2 (v2) (c2)) :: F)) := by
  refine Ct.intro (L0 := [.val (.ref l), .unset]) (plainFor_of_name pf_java_util_ImmutableCollections) rfl (fun K => ?_)
  refine Wp.aloadN rfl rfl d_jdk_56_3_0 ?_
  refine Wp.instNo nm_M_lc3 (w_86 hw) 0 rfl (ns_java_util_ArrayList_java_util_ImmutableCollections_List12 hw) d_jdk_56_3_1 ?_
  refine Wp.ifF (by decide) d_jdk_56_3_4 ?_
  refine Wp.aloadN rfl rfl d_jdk_56_3_7 ?_
  refine Wp.instNo nm_M_lc3 (w_92 hw) 0 rfl (ns_java_util_ArrayList_java_util_ImmutableCollections_ListN hw) d_jdk_56_3_8 ?_
  refine Wp.ifT (by decide) d_jdk_56_3_11 ?_
  refine Wp.aloadN rfl rfl d_jdk_56_3_31 ?_
  refine Wp.callI nm_M_lc3 (rm_aie3 hw l e _ ) 0 rfl (mk_M_aie3 hw) (w_108 hw) (w_109 hw) (w_110 hw) (w_111 hw) (w_112 hw) (w_113 hw) (w_114 hw) (w_115 hw) (by decide) rfl rfl rfl (Wn := 0) rfl rfl (by decide) d_jdk_56_3_32 ?_
  rintro _ _ ⟨rfl, rfl⟩
  refine Wp.ifT (by decide) d_jdk_56_3_37 ?_
  refine Wp.aloadN rfl rfl d_jdk_56_3_44 ?_
  refine Wp.callI nm_M_lc3 (rm_toa3 hw l e mr y0 ry0 v0 c0 y1 ry1 v1 c1 y2 ry2 v2 c2 _ hmr) 0 rfl (mk_M_toa3 hw) (w_188 hw) (w_189 hw) (w_190 hw) (w_191 hw) (w_192 hw) (w_193 hw) (w_194 hw) (w_115 hw) (by decide) rfl rfl rfl (Wn := 0) rfl rfl (by decide) d_jdk_56_3_45 ?_
  rintro _ _ ⟨q_1, rfl, rfl⟩
  refine Wp.perm [0, 3, 4, 5, 1, 2] 6 pp_0_3_4_5_1_2 (H' := ((eO q_1 [.ref y0, .ref y1, .ref y2]) :: (oStr ry0 y0 (v0) (c0)) :: (oStr ry1 y1 (v1) (c1)) :: (oStr ry2 y2 (v2) (c2)) :: (oAL true l (.int 3) (.ref e) (.int 3)) :: (eO e [.ref y0, .ref y1, .ref y2, .null, .null, .null, .null, .null, .null, .null]) :: F)) rfl ?_
  refine Wp.callS nm_M_lc3 (rm_loa3 hw q_1 em y0 ry0 v0 c0 y1 ry1 v1 c1 y2 ry2 v2 c2 _ hem) (mk_M_loa3 hw) (w_218 hw) (w_219 hw) rfl rfl (Wn := 0) rfl rfl (by decide) d_jdk_56_3_50 ?_
  rintro _ _ ⟨q_2, qa_3, rfl, rfl⟩
  refine Wp.perm [0, 1, 6, 7, 3, 4, 5, 2] 8 pp_0_1_6_7_3_4_5_2 (H' := ((oLN true q_2 (.ref qa_3) (.int 0)) :: (eO qa_3 [.ref y0, .ref y1, .ref y2]) :: (oAL true l (.int 3) (.ref e) (.int 3)) :: (eO e [.ref y0, .ref y1, .ref y2, .null, .null, .null, .null, .null, .null, .null]) :: (oStr ry0 y0 (v0) (c0)) :: (oStr ry1 y1 (v1) (c1)) :: (oStr ry2 y2 (v2) (c2)) :: (eO q_1 [.ref y0, .ref y1, .ref y2]) :: F)) rfl ?_
  refine Wp.less (((((((((List.Sublist.refl _).cons _).cons_cons _).cons_cons _).cons_cons _).cons_cons _).cons_cons _).cons_cons _).cons_cons _) ?_
  refine Wp.aret rfl rfl rfl d_jdk_56_3_53 (by decide) (by decide) ?_
  exact ⟨q_2, qa_3, rfl, rfl⟩
theorem d_jdk_40_48_0 : Dc jdk_40_method_48_code 0 (.aload_n 0) 1 1 := ⟨by decide +kernel, rfl⟩
theorem d_jdk_40_48_1 : Dc jdk_40_method_48_code 1 (.invokestatic 112) 3 4 := ⟨by decide +kernel, rfl⟩
theorem w_85 {W : Wd} (hw : Ws W) : Wok W (Jvm.Cond.code ({ cls := "java/util/ImmutableCollections", name := "listCopy", desc := "(Ljava/util/Collection;)Ljava/util/List;" } : Jvm.MethodName) jdk_56_method_3_code (2 : Nat) (Option.some (Jvm.ClassFile.FieldType.object "java/util/List"))) := hw.1 _ (List.mem_of_getElem? (i := 85) rfl)
theorem pd__Ljava_util_Collection__Ljava_util_List_ : parseMethodDescriptor "(Ljava/util/Collection;)Ljava/util/List;" = some ⟨[(.object "java/util/Collection")], some (.object "java/util/List")⟩ := by decide +kernel
theorem mk_M_lcE {W : Wd} (hw : Ws W) : Mk W M_lcE ⟨"java/util/ImmutableCollections", "listCopy", "(Ljava/util/Collection;)Ljava/util/List;"⟩ 1 := Mk.of nm_M_lcE rfl rfl rfl (w_85 hw) (w_69 hw) (mkLen pd__Ljava_util_Collection__Ljava_util_List_ rfl) (by decide)
theorem w_83 {W : Wd} (hw : Ws W) : Wok W (Jvm.Cond.methodLink "java/util/List" (112 : Nat) ({ cls := "java/util/ImmutableCollections", name := "listCopy", desc := "(Ljava/util/Collection;)Ljava/util/List;" } : Jvm.MethodName)) := hw.1 _ (List.mem_of_getElem? (i := 83) rfl)
theorem w_84 {W : Wd} (hw : Ws W) : Wok W (Jvm.Cond.static ({ cls := "java/util/ImmutableCollections", name := "listCopy", desc := "(Ljava/util/Collection;)Ljava/util/List;" } : Jvm.MethodName)) := hw.1 _ (List.mem_of_getElem? (i := 84) rfl)
theorem d_jdk_40_48_4 : Dc jdk_40_method_48_code 4 (.areturn) 1 5 := ⟨by decide +kernel, rfl⟩
def M_coE : Mt := (⟨"java/util/List", "copyOf", "(Ljava/util/Collection;)Ljava/util/List;"⟩, jdk_40_method_48_code, 1, some (.object "java/util/List"), ⟨1, 0, 0, 13⟩)
theorem nm_M_coE : mN M_coE = ⟨"java/util/List", "copyOf", "(Ljava/util/Collection;)Ljava/util/List;"⟩ := by delta mN M_coE; rfl
set_option maxRecDepth 65536 in
set_option maxHeartbeats 40000000 in
theorem rm_coE {W : Wd} (hw : Ws W) (el : Addr) (ee : Addr) (F : List En) : Ct W M_coE [.ref el] ((oLN false el (.ref ee) (.int 0)) :: F) (fun v H' => v = some (.ref el) ∧ H' = ((oLN false el (.ref ee) (.int 0)) :: F)) := by
  refine Ct.intro (L0 := [.val (.ref el)]) (plainFor_of_name pf_java_util_List) rfl (fun K => ?_)
  refine Wp.aloadN rfl rfl d_jdk_40_48_0 ?_
  refine Wp.callS nm_M_coE (rm_lcE hw el ee _ ) (mk_M_lcE hw) (w_83 hw) (w_84 hw) rfl rfl (Wn := 0) rfl rfl (by decide) d_jdk_40_48_1 ?_
  rintro _ _ ⟨rfl, rfl⟩
  refine Wp.aret rfl rfl rfl d_jdk_40_48_4 (by decide) (by decide) ?_
  exact ⟨rfl, rfl⟩
theorem mk_M_lc0 {W : Wd} (hw : Ws W) : Mk W M_lc0 ⟨"java/util/ImmutableCollections", "listCopy", "(Ljava/util/Collection;)Ljava/util/List;"⟩ 1 := Mk.of nm_M_lc0 rfl rfl rfl (w_85 hw) (w_69 hw) (mkLen pd__Ljava_util_Collection__Ljava_util_List_ rfl) (by decide)
def M_co0 : Mt := (⟨"java/util/List", "copyOf", "(Ljava/util/Collection;)Ljava/util/List;"⟩, jdk_40_method_48_code, 1, some (.object "java/util/List"), ⟨2, 0, 0, 25⟩)
theorem nm_M_co0 : mN M_co0 = ⟨"java/util/List", "copyOf", "(Ljava/util/Collection;)Ljava/util/List;"⟩ := by delta mN M_co0; rfl
set_option maxRecDepth 65536 in
set_option maxHeartbeats 40000000 in
theorem rm_co0 {W : Wd} (hw : Ws W) (l : Addr) (el : Addr) (em : Addr) (mr : Addr) (de : Addr) (F : List En) (hel : Sta (wZ W) (wZ W).heap "java/util/ImmutableCollections" "EMPTY_LIST" "Ljava/util/ImmutableCollections$ListN;" (.ref el)) (hem : Sta (wZ W) (wZ W).heap "java/util/ImmutableCollections" "EMPTY" "Ljava/lang/Object;" (.ref em)) (hmr : Mir (wZ W) "[Ljava/lang/Object;" mr) : Ct W M_co0 [.ref l] ((oAL true l (.int 0) (.ref de) (.int 0)) :: F) (fun v H' => v = some (.ref el) ∧ H' = ((oAL true l (.int 0) (.ref de) (.int 0)) :: F)) := by
  refine Ct.intro (L0 := [.val (.ref l)]) (plainFor_of_name pf_java_util_List) rfl (fun K => ?_)
  refine Wp.aloadN rfl rfl d_jdk_40_48_0 ?_
  refine Wp.callS nm_M_co0 (rm_lc0 hw l el em mr de _ hel hem hmr) (mk_M_lc0 hw) (w_83 hw) (w_84 hw) rfl rfl (Wn := 0) rfl rfl (by decide) d_jdk_40_48_1 ?_
  rintro _ _ ⟨rfl, rfl⟩
  refine Wp.aret rfl rfl rfl d_jdk_40_48_4 (by decide) (by decide) ?_
  exact ⟨rfl, rfl⟩
theorem mk_M_lc1 {W : Wd} (hw : Ws W) : Mk W M_lc1 ⟨"java/util/ImmutableCollections", "listCopy", "(Ljava/util/Collection;)Ljava/util/List;"⟩ 1 := Mk.of nm_M_lc1 rfl rfl rfl (w_85 hw) (w_69 hw) (mkLen pd__Ljava_util_Collection__Ljava_util_List_ rfl) (by decide)
def M_co1 : Mt := (⟨"java/util/List", "copyOf", "(Ljava/util/Collection;)Ljava/util/List;"⟩, jdk_40_method_48_code, 1, some (.object "java/util/List"), ⟨7, 2, 3, 88⟩)
theorem nm_M_co1 : mN M_co1 = ⟨"java/util/List", "copyOf", "(Ljava/util/Collection;)Ljava/util/List;"⟩ := by delta mN M_co1; rfl
set_option maxRecDepth 65536 in
set_option maxHeartbeats 40000000 in
theorem rm_co1 {W : Wd} (hw : Ws W) (l : Addr) (e : Addr) (y0 : Addr) (ry0 : Bool) (v0 : Value) (c0 : Value) (el : Addr) (em : Addr) (mr : Addr) (F : List En) (hel : Sta (wZ W) (wZ W).heap "java/util/ImmutableCollections" "EMPTY_LIST" "Ljava/util/ImmutableCollections$ListN;" (.ref el)) (hem : Sta (wZ W) (wZ W).heap "java/util/ImmutableCollections" "EMPTY" "Ljava/lang/Object;" (.ref em)) (hmr : Mir (wZ W) "[Ljava/lang/Object;" mr) : Ct W M_co1 [.ref l] ((oAL true l (.int 1) (.ref e) (.int 1)) :: (eO e [.ref y0, .null, .null, .null, .null, .null, .null, .null, .null, .null]) :: (oStr ry0 y0 (v0) (c0)) :: F) (fun v H' => ∃ q, v = some (.ref q) ∧ H' = ((oL12 true q (.ref y0) (.ref em)) :: (oAL true l (.int 1) (.ref e) (.int 1)) :: (eO e [.ref y0, .null, .null, .null, .null, .null, .null, .null, .null, .null]) :: (oStr ry0 y0 (v0) (c0)) :: F)) := by
  refine Ct.intro (L0 := [.val (.ref l)]) (plainFor_of_name pf_java_util_List) rfl (fun K => ?_)
  refine Wp.aloadN rfl rfl d_jdk_40_48_0 ?_
  refine Wp.callS nm_M_co1 (rm_lc1 hw l e y0 ry0 v0 c0 el em mr _ hel hem hmr) (mk_M_lc1 hw) (w_83 hw) (w_84 hw) rfl rfl (Wn := 0) rfl rfl (by decide) d_jdk_40_48_1 ?_
  rintro _ _ ⟨q_1, rfl, rfl⟩
  refine Wp.aret rfl rfl rfl d_jdk_40_48_4 (by decide) (by decide) ?_
  exact ⟨q_1, rfl, rfl⟩
theorem mk_M_lc2 {W : Wd} (hw : Ws W) : Mk W M_lc2 ⟨"java/util/ImmutableCollections", "listCopy", "(Ljava/util/Collection;)Ljava/util/List;"⟩ 1 := Mk.of nm_M_lc2 rfl rfl rfl (w_85 hw) (w_69 hw) (mkLen pd__Ljava_util_Collection__Ljava_util_List_ rfl) (by decide)
def M_co2 : Mt := (⟨"java/util/List", "copyOf", "(Ljava/util/Collection;)Ljava/util/List;"⟩, jdk_40_method_48_code, 1, some (.object "java/util/List"), ⟨7, 2, 4, 89⟩)
theorem nm_M_co2 : mN M_co2 = ⟨"java/util/List", "copyOf", "(Ljava/util/Collection;)Ljava/util/List;"⟩ := by delta mN M_co2; rfl
set_option maxRecDepth 65536 in
set_option maxHeartbeats 40000000 in
theorem rm_co2 {W : Wd} (hw : Ws W) (l : Addr) (e : Addr) (y0 : Addr) (ry0 : Bool) (v0 : Value) (c0 : Value) (y1 : Addr) (ry1 : Bool) (v1 : Value) (c1 : Value) (el : Addr) (em : Addr) (mr : Addr) (F : List En) (hel : Sta (wZ W) (wZ W).heap "java/util/ImmutableCollections" "EMPTY_LIST" "Ljava/util/ImmutableCollections$ListN;" (.ref el)) (hem : Sta (wZ W) (wZ W).heap "java/util/ImmutableCollections" "EMPTY" "Ljava/lang/Object;" (.ref em)) (hmr : Mir (wZ W) "[Ljava/lang/Object;" mr) : Ct W M_co2 [.ref l] ((oAL true l (.int 2) (.ref e) (.int 2)) :: (eO e [.ref y0, .ref y1, .null, .null, .null, .null, .null, .null, .null, .null]) :: (oStr ry0 y0 (v0) (c0)) :: (oStr ry1 y1 (v1) (c1)) :: F) (fun v H' => ∃ q, v = some (.ref q) ∧ H' = ((oL12 true q (.ref y0) (.ref y1)) :: (oAL true l (.int 2) (.ref e) (.int 2)) :: (eO e [.ref y0, .ref y1, .null, .null, .null, .null, .null, .null, .null, .null]) :: (oStr ry0 y0 (v0) (c0)) :: (oStr ry1 y1 (v1) (c1)) :: F)) := by
  refine Ct.intro (L0 := [.val (.ref l)]) (plainFor_of_name pf_java_util_List) rfl (fun K => ?_)
  refine Wp.aloadN rfl rfl d_jdk_40_48_0 ?_
  refine Wp.callS nm_M_co2 (rm_lc2 hw l e y0 ry0 v0 c0 y1 ry1 v1 c1 el em mr _ hel hem hmr) (mk_M_lc2 hw) (w_83 hw) (w_84 hw) rfl rfl (Wn := 0) rfl rfl (by decide) d_jdk_40_48_1 ?_
  rintro _ _ ⟨q_1, rfl, rfl⟩
  refine Wp.aret rfl rfl rfl d_jdk_40_48_4 (by decide) (by decide) ?_
  exact ⟨q_1, rfl, rfl⟩
theorem mk_M_lc3 {W : Wd} (hw : Ws W) : Mk W M_lc3 ⟨"java/util/ImmutableCollections", "listCopy", "(Ljava/util/Collection;)Ljava/util/List;"⟩ 1 := Mk.of nm_M_lc3 rfl rfl rfl (w_85 hw) (w_69 hw) (mkLen pd__Ljava_util_Collection__Ljava_util_List_ rfl) (by decide)
def M_co3 : Mt := (⟨"java/util/List", "copyOf", "(Ljava/util/Collection;)Ljava/util/List;"⟩, jdk_40_method_48_code, 1, some (.object "java/util/List"), ⟨8, 3, 8, 103⟩)
theorem nm_M_co3 : mN M_co3 = ⟨"java/util/List", "copyOf", "(Ljava/util/Collection;)Ljava/util/List;"⟩ := by delta mN M_co3; rfl
set_option maxRecDepth 65536 in
set_option maxHeartbeats 40000000 in
theorem rm_co3 {W : Wd} (hw : Ws W) (l : Addr) (e : Addr) (y0 : Addr) (ry0 : Bool) (v0 : Value) (c0 : Value) (y1 : Addr) (ry1 : Bool) (v1 : Value) (c1 : Value) (y2 : Addr) (ry2 : Bool) (v2 : Value) (c2 : Value) (el : Addr) (em : Addr) (mr : Addr) (F : List En) (hel : Sta (wZ W) (wZ W).heap "java/util/ImmutableCollections" "EMPTY_LIST" "Ljava/util/ImmutableCollections$ListN;" (.ref el)) (hem : Sta (wZ W) (wZ W).heap "java/util/ImmutableCollections" "EMPTY" "Ljava/lang/Object;" (.ref em)) (hmr : Mir (wZ W) "[Ljava/lang/Object;" mr) : Ct W M_co3 [.ref l] ((oAL true l (.int 3) (.ref e) (.int 3)) :: (eO e [.ref y0, .ref y1, .ref y2, .null, .null, .null, .null, .null, .null, .null]) :: (oStr ry0 y0 (v0) (c0)) :: (oStr ry1 y1 (v1) (c1)) :: (oStr ry2 y2 (v2) (c2)) :: F) (fun v H' => ∃ q qa, v = some (.ref q) ∧ H' = ((oLN true q (.ref qa) (.int 0)) :: (eO qa [.ref y0, .ref y1, .ref y2]) :: (oAL true l (.int 3) (.ref e) (.int 3)) :: (eO e [.ref y0, .ref y1, .ref y2, .null, .null, .null, .null, .null, .null, .null]) :: (oStr ry0 y0 (v0) (c0)) :: (oStr ry1 y1 (v1) (c1)) :: (oStr ry2 y2 (v2) (c2)) :: F)) := by
  refine Ct.intro (L0 := [.val (.ref l)]) (plainFor_of_name pf_java_util_List) rfl (fun K => ?_)
  refine Wp.aloadN rfl rfl d_jdk_40_48_0 ?_
  refine Wp.callS nm_M_co3 (rm_lc3 hw l e y0 ry0 v0 c0 y1 ry1 v1 c1 y2 ry2 v2 c2 el em mr _ hel hem hmr) (mk_M_lc3 hw) (w_83 hw) (w_84 hw) rfl rfl (Wn := 0) rfl rfl (by decide) d_jdk_40_48_1 ?_
  rintro _ _ ⟨q_1, qa_2, rfl, rfl⟩
  refine Wp.aret rfl rfl rfl d_jdk_40_48_4 (by decide) (by decide) ?_
  exact ⟨q_1, qa_2, rfl, rfl⟩
theorem d_prog_9_2_0 : Dc prog_9_method_2_code 0 (.aload_n 0) 1 1 := ⟨by decide +kernel, rfl⟩
theorem d_prog_9_2_1 : Dc prog_9_method_2_code 1 (.invokespecial 13) 3 4 := ⟨by decide +kernel, rfl⟩
theorem w_73 {W : Wd} (hw : Ws W) : Wok W (Jvm.Cond.methodLink "com/example/keybridge/keybridge/directory/UserEntry" (13 : Nat) ({ cls := "java/lang/Object", name := "<init>", desc := "()V" } : Jvm.MethodName)) := hw.1 _ (List.mem_of_getElem? (i := 73) rfl)
theorem d_prog_9_2_4 : Dc prog_9_method_2_code 4 (.aload_n 0) 1 5 := ⟨by decide +kernel, rfl⟩
theorem d_prog_9_2_5 : Dc prog_9_method_2_code 5 (.aload_n 1) 1 6 := ⟨by decide +kernel, rfl⟩
theorem d_prog_9_2_6 : Dc prog_9_method_2_code 6 (.putfield 18) 3 9 := ⟨by decide +kernel, rfl⟩
theorem w_75 {W : Wd} (hw : Ws W) : Wok W (Jvm.Cond.laysFinal "com/example/keybridge/keybridge/directory/UserEntry" "com/example/keybridge/keybridge/directory/UserEntry" "dn" "Ljava/lang/String;") := hw.1 _ (List.mem_of_getElem? (i := 75) rfl)
theorem w_74 {W : Wd} (hw : Ws W) : Wok W (Jvm.Cond.fieldLink "com/example/keybridge/keybridge/directory/UserEntry" (18 : Nat) "com/example/keybridge/keybridge/directory/UserEntry" "dn" "Ljava/lang/String;") := hw.1 _ (List.mem_of_getElem? (i := 74) rfl)
theorem w_59 {W : Wd} (hw : Ws W) : Wok W (Jvm.Cond.instantiable "com/example/keybridge/keybridge/directory/UserEntry" (4 : Nat)) := hw.1 _ (List.mem_of_getElem? (i := 59) rfl)
theorem d_prog_9_2_9 : Dc prog_9_method_2_code 9 (.aload_n 0) 1 10 := ⟨by decide +kernel, rfl⟩
theorem d_prog_9_2_10 : Dc prog_9_method_2_code 10 (.aload_n 2) 1 11 := ⟨by decide +kernel, rfl⟩
theorem d_prog_9_2_11 : Dc prog_9_method_2_code 11 (.putfield 22) 3 14 := ⟨by decide +kernel, rfl⟩
theorem w_77 {W : Wd} (hw : Ws W) : Wok W (Jvm.Cond.laysFinal "com/example/keybridge/keybridge/directory/UserEntry" "com/example/keybridge/keybridge/directory/UserEntry" "username" "Ljava/lang/String;") := hw.1 _ (List.mem_of_getElem? (i := 77) rfl)
theorem w_76 {W : Wd} (hw : Ws W) : Wok W (Jvm.Cond.fieldLink "com/example/keybridge/keybridge/directory/UserEntry" (22 : Nat) "com/example/keybridge/keybridge/directory/UserEntry" "username" "Ljava/lang/String;") := hw.1 _ (List.mem_of_getElem? (i := 76) rfl)
theorem d_prog_9_2_14 : Dc prog_9_method_2_code 14 (.aload_n 0) 1 15 := ⟨by decide +kernel, rfl⟩
theorem d_prog_9_2_15 : Dc prog_9_method_2_code 15 (.aload_n 3) 1 16 := ⟨by decide +kernel, rfl⟩
theorem d_prog_9_2_16 : Dc prog_9_method_2_code 16 (.putfield 25) 3 19 := ⟨by decide +kernel, rfl⟩
theorem w_79 {W : Wd} (hw : Ws W) : Wok W (Jvm.Cond.laysFinal "com/example/keybridge/keybridge/directory/UserEntry" "com/example/keybridge/keybridge/directory/UserEntry" "mail" "Ljava/lang/String;") := hw.1 _ (List.mem_of_getElem? (i := 79) rfl)
theorem w_78 {W : Wd} (hw : Ws W) : Wok W (Jvm.Cond.fieldLink "com/example/keybridge/keybridge/directory/UserEntry" (25 : Nat) "com/example/keybridge/keybridge/directory/UserEntry" "mail" "Ljava/lang/String;") := hw.1 _ (List.mem_of_getElem? (i := 78) rfl)
theorem d_prog_9_2_19 : Dc prog_9_method_2_code 19 (.aload_n 0) 1 20 := ⟨by decide +kernel, rfl⟩
theorem d_prog_9_2_20 : Dc prog_9_method_2_code 20 (.aload 4) 2 22 := ⟨by decide +kernel, rfl⟩
theorem d_prog_9_2_22 : Dc prog_9_method_2_code 22 (.invokestatic 28) 3 25 := ⟨by decide +kernel, rfl⟩
theorem w_82 {W : Wd} (hw : Ws W) : Wok W (Jvm.Cond.code ({ cls := "java/util/List", name := "copyOf", desc := "(Ljava/util/Collection;)Ljava/util/List;" } : Jvm.MethodName) jdk_40_method_48_code (1 : Nat) (Option.some (Jvm.ClassFile.FieldType.object "java/util/List"))) := hw.1 _ (List.mem_of_getElem? (i := 82) rfl)
theorem mk_M_coE {W : Wd} (hw : Ws W) : Mk W M_coE ⟨"java/util/List", "copyOf", "(Ljava/util/Collection;)Ljava/util/List;"⟩ 1 := Mk.of nm_M_coE rfl rfl rfl (w_82 hw) (w_66 hw) (mkLen pd__Ljava_util_Collection__Ljava_util_List_ rfl) (by decide)
theorem w_80 {W : Wd} (hw : Ws W) : Wok W (Jvm.Cond.methodLink "com/example/keybridge/keybridge/directory/UserEntry" (28 : Nat) ({ cls := "java/util/List", name := "copyOf", desc := "(Ljava/util/Collection;)Ljava/util/List;" } : Jvm.MethodName)) := hw.1 _ (List.mem_of_getElem? (i := 80) rfl)
theorem w_81 {W : Wd} (hw : Ws W) : Wok W (Jvm.Cond.static ({ cls := "java/util/List", name := "copyOf", desc := "(Ljava/util/Collection;)Ljava/util/List;" } : Jvm.MethodName)) := hw.1 _ (List.mem_of_getElem? (i := 81) rfl)
theorem d_prog_9_2_25 : Dc prog_9_method_2_code 25 (.putfield 32) 3 28 := ⟨by decide +kernel, rfl⟩
theorem w_99 {W : Wd} (hw : Ws W) : Wok W (Jvm.Cond.laysFinal "com/example/keybridge/keybridge/directory/UserEntry" "com/example/keybridge/keybridge/directory/UserEntry" "groups" "Ljava/util/List;") := hw.1 _ (List.mem_of_getElem? (i := 99) rfl)
theorem w_98 {W : Wd} (hw : Ws W) : Wok W (Jvm.Cond.fieldLink "com/example/keybridge/keybridge/directory/UserEntry" (32 : Nat) "com/example/keybridge/keybridge/directory/UserEntry" "groups" "Ljava/util/List;") := hw.1 _ (List.mem_of_getElem? (i := 98) rfl)
theorem d_prog_9_2_28 : Dc prog_9_method_2_code 28 (.return_) 1 29 := ⟨by decide +kernel, rfl⟩
def M_ueE : Mt := (⟨"com/example/keybridge/keybridge/directory/UserEntry", "<init>", "(Ljava/lang/String;Ljava/lang/String;Ljava/lang/String;Ljava/util/List;)V"⟩, prog_9_method_2_code, 5, none, ⟨2, 0, 0, 26⟩)
theorem nm_M_ueE : mN M_ueE = ⟨"com/example/keybridge/keybridge/directory/UserEntry", "<init>", "(Ljava/lang/String;Ljava/lang/String;Ljava/lang/String;Ljava/util/List;)V"⟩ := by delta mN M_ueE; rfl
theorem pf_com_example_keybridge_keybridge_directory_UserEntry : plainName "com/example/keybridge/keybridge/directory/UserEntry" = true := by first | (simp [plainName, overriddenIn]; done) | decide +kernel
set_option maxRecDepth 65536 in
set_option maxHeartbeats 40000000 in
theorem rm_ueE {W : Wd} (hw : Ws W) (o : Addr) (f0 : Value) (f1 : Value) (f2 : Value) (el : Addr) (ee : Addr) (F : List En) (hf0 : f0.isRef = true) (hf1 : f1.isRef = true) (hf2 : f2.isRef = true) : Ct W M_ueE [.ref o, f0, f1, f2, .ref el] ((oUE true o (.null) (.null) (.null) (.null)) :: (oLN false el (.ref ee) (.int 0)) :: F) (fun v H' => v = none ∧ H' = ((oUE true o (f0) (f1) (f2) (.ref el)) :: (oLN false el (.ref ee) (.int 0)) :: F)) := by
  refine Ct.intro (L0 := [.val (.ref o), .val (f0), .val (f1), .val (f2), .val (.ref el)]) (plainFor_of_name pf_com_example_keybridge_keybridge_directory_UserEntry) (by simp only [slotsOf, catR hf0, catR hf1, catR hf2]; rfl) (fun K => ?_)
  refine Wp.aloadN rfl rfl d_prog_9_2_0 ?_
  refine Wp.initO nm_M_ueE (w_73 hw) (w_16 hw) (w_17 hw) (Wn := 0) rfl rfl (by decide) (by decide) d_prog_9_2_1 ?_
  refine Wp.aloadN rfl rfl d_prog_9_2_4 ?_
  refine Wp.aloadN rfl hf0 d_prog_9_2_5 ?_
  refine Wp.putF nm_M_ueE (host := "") (Or.inl (w_74 hw)) Via.refl 0 0 rfl rfl (Or.inr ⟨(w_75 hw), rfl, rfl⟩) (w_59 hw) (ty := (.object "java/lang/String")) (by decide) (narRef hf0) (fitRef hf0 rfl) d_prog_9_2_6 (H' := ((oUE true o (f0) (.null) (.null) (.null)) :: (oLN false el (.ref ee) (.int 0)) :: F)) rfl ?_
  refine Wp.aloadN rfl rfl d_prog_9_2_9 ?_
  refine Wp.aloadN rfl hf1 d_prog_9_2_10 ?_
  refine Wp.putF nm_M_ueE (host := "") (Or.inl (w_76 hw)) Via.refl 0 1 rfl rfl (Or.inr ⟨(w_77 hw), rfl, rfl⟩) (w_59 hw) (ty := (.object "java/lang/String")) (by decide) (narRef hf1) (fitRef hf1 rfl) d_prog_9_2_11 (H' := ((oUE true o (f0) (f1) (.null) (.null)) :: (oLN false el (.ref ee) (.int 0)) :: F)) rfl ?_
  refine Wp.aloadN rfl rfl d_prog_9_2_14 ?_
  refine Wp.aloadN rfl hf2 d_prog_9_2_15 ?_
  refine Wp.putF nm_M_ueE (host := "") (Or.inl (w_78 hw)) Via.refl 0 2 rfl rfl (Or.inr ⟨(w_79 hw), rfl, rfl⟩) (w_59 hw) (ty := (.object "java/lang/String")) (by decide) (narRef hf2) (fitRef hf2 rfl) d_prog_9_2_16 (H' := ((oUE true o (f0) (f1) (f2) (.null)) :: (oLN false el (.ref ee) (.int 0)) :: F)) rfl ?_
  refine Wp.aloadN rfl rfl d_prog_9_2_19 ?_
  refine Wp.aload rfl rfl d_prog_9_2_20 ?_
  refine Wp.perm [1, 0] 2 pp_1_0 (H' := ((oLN false el (.ref ee) (.int 0)) :: (oUE true o (f0) (f1) (f2) (.null)) :: F)) rfl ?_
  refine Wp.callS nm_M_ueE (rm_coE hw el ee _ ) (mk_M_coE hw) (w_80 hw) (w_81 hw) rfl rfl (Wn := 1) rfl rfl (by decide) d_prog_9_2_22 ?_
  rintro _ _ ⟨rfl, rfl⟩
  refine Wp.putF nm_M_ueE (host := "") (Or.inl (w_98 hw)) Via.refl 1 3 rfl rfl (Or.inr ⟨(w_99 hw), rfl, rfl⟩) (w_59 hw) (ty := (.object "java/util/List")) (by decide) rfl rfl d_prog_9_2_25 (H' := ((oLN false el (.ref ee) (.int 0)) :: (oUE true o (f0) (f1) (f2) (.ref el)) :: F)) rfl ?_
  refine Wp.perm [1, 0] 2 pp_1_0 (H' := ((oUE true o (f0) (f1) (f2) (.ref el)) :: (oLN false el (.ref ee) (.int 0)) :: F)) rfl ?_
  refine Wp.ret rfl d_prog_9_2_28 (by decide) (by decide) ?_
  exact ⟨rfl, rfl⟩
theorem mk_M_co0 {W : Wd} (hw : Ws W) : Mk W M_co0 ⟨"java/util/List", "copyOf", "(Ljava/util/Collection;)Ljava/util/List;"⟩ 1 := Mk.of nm_M_co0 rfl rfl rfl (w_82 hw) (w_66 hw) (mkLen pd__Ljava_util_Collection__Ljava_util_List_ rfl) (by decide)
def M_ue0 : Mt := (⟨"com/example/keybridge/keybridge/directory/UserEntry", "<init>", "(Ljava/lang/String;Ljava/lang/String;Ljava/lang/String;Ljava/util/List;)V"⟩, prog_9_method_2_code, 5, none, ⟨3, 0, 0, 38⟩)
theorem nm_M_ue0 : mN M_ue0 = ⟨"com/example/keybridge/keybridge/directory/UserEntry", "<init>", "(Ljava/lang/String;Ljava/lang/String;Ljava/lang/String;Ljava/util/List;)V"⟩ := by delta mN M_ue0; rfl
set_option maxRecDepth 65536 in
set_option maxHeartbeats 40000000 in
theorem rm_ue0 {W : Wd} (hw : Ws W) (o : Addr) (f0 : Value) (f1 : Value) (f2 : Value) (l : Addr) (el : Addr) (em : Addr) (mr : Addr) (de : Addr) (F : List En) (hf0 : f0.isRef = true) (hf1 : f1.isRef = true) (hf2 : f2.isRef = true) (hel : Sta (wZ W) (wZ W).heap "java/util/ImmutableCollections" "EMPTY_LIST" "Ljava/util/ImmutableCollections$ListN;" (.ref el)) (hem : Sta (wZ W) (wZ W).heap "java/util/ImmutableCollections" "EMPTY" "Ljava/lang/Object;" (.ref em)) (hmr : Mir (wZ W) "[Ljava/lang/Object;" mr) : Ct W M_ue0 [.ref o, f0, f1, f2, .ref l] ((oUE true o (.null) (.null) (.null) (.null)) :: (oAL true l (.int 0) (.ref de) (.int 0)) :: F) (fun v H' => v = none ∧ H' = ((oUE true o (f0) (f1) (f2) (.ref el)) :: (oAL true l (.int 0) (.ref de) (.int 0)) :: F)) := by
  refine Ct.intro (L0 := [.val (.ref o), .val (f0), .val (f1), .val (f2), .val (.ref l)]) (plainFor_of_name pf_com_example_keybridge_keybridge_directory_UserEntry) (by simp only [slotsOf, catR hf0, catR hf1, catR hf2]; rfl) (fun K => ?_)
  refine Wp.aloadN rfl rfl d_prog_9_2_0 ?_
  refine Wp.initO nm_M_ue0 (w_73 hw) (w_16 hw) (w_17 hw) (Wn := 0) rfl rfl (by decide) (by decide) d_prog_9_2_1 ?_
  refine Wp.aloadN rfl rfl d_prog_9_2_4 ?_
  refine Wp.aloadN rfl hf0 d_prog_9_2_5 ?_
  refine Wp.putF nm_M_ue0 (host := "") (Or.inl (w_74 hw)) Via.refl 0 0 rfl rfl (Or.inr ⟨(w_75 hw), rfl, rfl⟩) (w_59 hw) (ty := (.object "java/lang/String")) (by decide) (narRef hf0) (fitRef hf0 rfl) d_prog_9_2_6 (H' := ((oUE true o (f0) (.null) (.null) (.null)) :: (oAL true l (.int 0) (.ref de) (.int 0)) :: F)) rfl ?_
  refine Wp.aloadN rfl rfl d_prog_9_2_9 ?_
  refine Wp.aloadN rfl hf1 d_prog_9_2_10 ?_
  refine Wp.putF nm_M_ue0 (host := "") (Or.inl (w_76 hw)) Via.refl 0 1 rfl rfl (Or.inr ⟨(w_77 hw), rfl, rfl⟩) (w_59 hw) (ty := (.object "java/lang/String")) (by decide) (narRef hf1) (fitRef hf1 rfl) d_prog_9_2_11 (H' := ((oUE true o (f0) (f1) (.null) (.null)) :: (oAL true l (.int 0) (.ref de) (.int 0)) :: F)) rfl ?_
  refine Wp.aloadN rfl rfl d_prog_9_2_14 ?_
  refine Wp.aloadN rfl hf2 d_prog_9_2_15 ?_
  refine Wp.putF nm_M_ue0 (host := "") (Or.inl (w_78 hw)) Via.refl 0 2 rfl rfl (Or.inr ⟨(w_79 hw), rfl, rfl⟩) (w_59 hw) (ty := (.object "java/lang/String")) (by decide) (narRef hf2) (fitRef hf2 rfl) d_prog_9_2_16 (H' := ((oUE true o (f0) (f1) (f2) (.null)) :: (oAL true l (.int 0) (.ref de) (.int 0)) :: F)) rfl ?_
  refine Wp.aloadN rfl rfl d_prog_9_2_19 ?_
  refine Wp.aload rfl rfl d_prog_9_2_20 ?_
  refine Wp.perm [1, 0] 2 pp_1_0 (H' := ((oAL true l (.int 0) (.ref de) (.int 0)) :: (oUE true o (f0) (f1) (f2) (.null)) :: F)) rfl ?_
  refine Wp.callS nm_M_ue0 (rm_co0 hw l el em mr de _ hel hem hmr) (mk_M_co0 hw) (w_80 hw) (w_81 hw) rfl rfl (Wn := 1) rfl rfl (by decide) d_prog_9_2_22 ?_
  rintro _ _ ⟨rfl, rfl⟩
  refine Wp.putF nm_M_ue0 (host := "") (Or.inl (w_98 hw)) Via.refl 1 3 rfl rfl (Or.inr ⟨(w_99 hw), rfl, rfl⟩) (w_59 hw) (ty := (.object "java/util/List")) (by decide) rfl rfl d_prog_9_2_25 (H' := ((oAL true l (.int 0) (.ref de) (.int 0)) :: (oUE true o (f0) (f1) (f2) (.ref el)) :: F)) rfl ?_
  refine Wp.perm [1, 0] 2 pp_1_0 (H' := ((oUE true o (f0) (f1) (f2) (.ref el)) :: (oAL true l (.int 0) (.ref de) (.int 0)) :: F)) rfl ?_
  refine Wp.ret rfl d_prog_9_2_28 (by decide) (by decide) ?_
  exact ⟨rfl, rfl⟩
theorem mk_M_co1 {W : Wd} (hw : Ws W) : Mk W M_co1 ⟨"java/util/List", "copyOf", "(Ljava/util/Collection;)Ljava/util/List;"⟩ 1 := Mk.of nm_M_co1 rfl rfl rfl (w_82 hw) (w_66 hw) (mkLen pd__Ljava_util_Collection__Ljava_util_List_ rfl) (by decide)
theorem pp_4_0_1_2_3 : [4, 0, 1, 2, 3].isPerm (List.range 5) = true := by decide +kernel
def M_ue1 : Mt := (⟨"com/example/keybridge/keybridge/directory/UserEntry", "<init>", "(Ljava/lang/String;Ljava/lang/String;Ljava/lang/String;Ljava/util/List;)V"⟩, prog_9_method_2_code, 5, none, ⟨8, 2, 3, 101⟩)
theorem nm_M_ue1 : mN M_ue1 = ⟨"com/example/keybridge/keybridge/directory/UserEntry", "<init>", "(Ljava/lang/String;Ljava/lang/String;Ljava/lang/String;Ljava/util/List;)V"⟩ := by delta mN M_ue1; rfl
set_option maxRecDepth 65536 in
set_option maxHeartbeats 40000000 in
theorem rm_ue1 {W : Wd} (hw : Ws W) (o : Addr) (f0 : Value) (f1 : Value) (f2 : Value) (l : Addr) (e : Addr) (y0 : Addr) (ry0 : Bool) (v0 : Value) (c0 : Value) (el : Addr) (em : Addr) (mr : Addr) (F : List En) (hf0 : f0.isRef = true) (hf1 : f1.isRef = true) (hf2 : f2.isRef = true) (hel : Sta (wZ W) (wZ W).heap "java/util/ImmutableCollections" "EMPTY_LIST" "Ljava/util/ImmutableCollections$ListN;" (.ref el)) (hem : Sta (wZ W) (wZ W).heap "java/util/ImmutableCollections" "EMPTY" "Ljava/lang/Object;" (.ref em)) (hmr : Mir (wZ W) "[Ljava/lang/Object;" mr) : Ct W M_ue1 [.ref o, f0, f1, f2, .ref l] ((oUE true o (.null) (.null) (.null) (.null)) :: (oAL true l (.int 1) (.ref e) (.int 1)) :: (eO e [.ref y0, .null, .null, .null, .null, .null, .null, .null, .null, .null]) :: (oStr ry0 y0 (v0) (c0)) :: F) (fun v H' => ∃ q, v = none ∧ H' = ((oUE true o (f0) (f1) (f2) (.ref q)) :: (oL12 true q (.ref y0) (.ref em)) :: (oAL true l (.int 1) (.ref e) (.int 1)) :: (eO e [.ref y0, .null, .null, .null, .null, .null, .null, .null, .null, .null]) :: (oStr ry0 y0 (v0) (c0)) :: F)) := by
  refine Ct.intro (L0 := [.val (.ref o), .val (f0), .val (f1), .val (f2), .val (.ref l)]) (plainFor_of_name pf_com_example_keybridge_keybridge_directory_UserEntry) (by simp only [slotsOf, catR hf0, catR hf1, catR hf2]; rfl) (fun K => ?_)
  refine Wp.aloadN rfl rfl d_prog_9_2_0 ?_
  refine Wp.initO nm_M_ue1 (w_73 hw) (w_16 hw) (w_17 hw) (Wn := 0) rfl rfl (by decide) (by decide) d_prog_9_2_1 ?_
  refine Wp.aloadN rfl rfl d_prog_9_2_4 ?_
  refine Wp.aloadN rfl hf0 d_prog_9_2_5 ?_
  refine Wp.putF nm_M_ue1 (host := "") (Or.inl (w_74 hw)) Via.refl 0 0 rfl rfl (Or.inr ⟨(w_75 hw), rfl, rfl⟩) (w_59 hw) (ty := (.object "java/lang/String")) (by decide) (narRef hf0) (fitRef hf0 rfl) d_prog_9_2_6 (H' := ((oUE true o (f0) (.null) (.null) (.null)) :: (oAL true l (.int 1) (.ref e) (.int 1)) :: (eO e [.ref y0, .null, .null, .null, .null, .null, .null, .null, .null, .null]) :: (oStr ry0 y0 (v0) (c0)) :: F)) rfl ?_
  refine Wp.aloadN rfl rfl d_prog_9_2_9 ?_
  refine Wp.aloadN rfl hf1 d_prog_9_2_10 ?_
  refine Wp.putF nm_M_ue1 (host := "") (Or.inl (w_76 hw)) Via.refl 0 1 rfl rfl (Or.inr ⟨(w_77 hw), rfl, rfl⟩) (w_59 hw) (ty := (.object "java/lang/String")) (by decide) (narRef hf1) (fitRef hf1 rfl) d_prog_9_2_11 (H' := ((oUE true o (f0) (f1) (.null) (.null)) :: (oAL true l (.int 1) (.ref e) (.int 1)) :: (eO e [.ref y0, .null, .null, .null, .null, .null, .null, .null, .null, .null]) :: (oStr ry0 y0 (v0) (c0)) :: F)) rfl ?_
  refine Wp.aloadN rfl rfl d_prog_9_2_14 ?_
  refine Wp.aloadN rfl hf2 d_prog_9_2_15 ?_
  refine Wp.putF nm_M_ue1 (host := "") (Or.inl (w_78 hw)) Via.refl 0 2 rfl rfl (Or.inr ⟨(w_79 hw), rfl, rfl⟩) (w_59 hw) (ty := (.object "java/lang/String")) (by decide) (narRef hf2) (fitRef hf2 rfl) d_prog_9_2_16 (H' := ((oUE true o (f0) (f1) (f2) (.null)) :: (oAL true l (.int 1) (.ref e) (.int 1)) :: (eO e [.ref y0, .null, .null, .null, .null, .null, .null, .null, .null, .null]) :: (oStr ry0 y0 (v0) (c0)) :: F)) rfl ?_
  refine Wp.aloadN rfl rfl d_prog_9_2_19 ?_
  refine Wp.aload rfl rfl d_prog_9_2_20 ?_
  refine Wp.perm [1, 2, 3, 0] 4 pp_1_2_3_0 (H' := ((oAL true l (.int 1) (.ref e) (.int 1)) :: (eO e [.ref y0, .null, .null, .null, .null, .null, .null, .null, .null, .null]) :: (oStr ry0 y0 (v0) (c0)) :: (oUE true o (f0) (f1) (f2) (.null)) :: F)) rfl ?_
  refine Wp.callS nm_M_ue1 (rm_co1 hw l e y0 ry0 v0 c0 el em mr _ hel hem hmr) (mk_M_co1 hw) (w_80 hw) (w_81 hw) rfl rfl (Wn := 1) rfl rfl (by decide) d_prog_9_2_22 ?_
  rintro _ _ ⟨q_1, rfl, rfl⟩
  refine Wp.putF nm_M_ue1 (host := "") (Or.inl (w_98 hw)) Via.refl 4 3 rfl rfl (Or.inr ⟨(w_99 hw), rfl, rfl⟩) (w_59 hw) (ty := (.object "java/util/List")) (by decide) rfl rfl d_prog_9_2_25 (H' := ((oL12 true q_1 (.ref y0) (.ref em)) :: (oAL true l (.int 1) (.ref e) (.int 1)) :: (eO e [.ref y0, .null, .null, .null, .null, .null, .null, .null, .null, .null]) :: (oStr ry0 y0 (v0) (c0)) :: (oUE true o (f0) (f1) (f2) (.ref q_1)) :: F)) rfl ?_
  refine Wp.perm [4, 0, 1, 2, 3] 5 pp_4_0_1_2_3 (H' := ((oUE true o (f0) (f1) (f2) (.ref q_1)) :: (oL12 true q_1 (.ref y0) (.ref em)) :: (oAL true l (.int 1) (.ref e) (.int 1)) :: (eO e [.ref y0, .null, .null, .null, .null, .null, .null, .null, .null, .null]) :: (oStr ry0 y0 (v0) (c0)) :: F)) rfl ?_
  refine Wp.ret rfl d_prog_9_2_28 (by decide) (by decide) ?_
  exact ⟨q_1, rfl, rfl⟩
theorem mk_M_co2 {W : Wd} (hw : Ws W) : Mk W M_co2 ⟨"java/util/List", "copyOf", "(Ljava/util/Collection;)Ljava/util/List;"⟩ 1 := Mk.of nm_M_co2 rfl rfl rfl (w_82 hw) (w_66 hw) (mkLen pd__Ljava_util_Collection__Ljava_util_List_ rfl) (by decide)
theorem pp_5_0_1_2_3_4 : [5, 0, 1, 2, 3, 4].isPerm (List.range 6) = true := by decide +kernel
def M_ue2 : Mt := (⟨"com/example/keybridge/keybridge/directory/UserEntry", "<init>", "(Ljava/lang/String;Ljava/lang/String;Ljava/lang/String;Ljava/util/List;)V"⟩, prog_9_method_2_code, 5, none, ⟨8, 2, 4, 102⟩)
theorem nm_M_ue2 : mN M_ue2 = ⟨"com/example/keybridge/keybridge/directory/UserEntry", "<init>", "(Ljava/lang/String;Ljava/lang/String;Ljava/lang/String;Ljava/util/List;)V"⟩ := by delta mN M_ue2; rfl
set_option maxRecDepth 65536 in
set_option maxHeartbeats 40000000 in
theorem rm_ue2 {W : Wd} (hw : Ws W) (o : Addr) (f0 : Value) (f1 : Value) (f2 : Value) (l : Addr) (e : Addr) (y0 : Addr) (ry0 : Bool) (v0 : Value) (c0 : Value) (y1 : Addr) (ry1 : Bool) (v1 : Value) (c1 : Value) (el : Addr) (em : Addr) (mr : Addr) (F : List En) (hf0 : f0.isRef = true) (hf1 : f1.isRef = true) (hf2 : f2.isRef = true) (hel : Sta (wZ W) (wZ W).heap "java/util/ImmutableCollections" "EMPTY_LIST" "Ljava/util/ImmutableCollections$ListN;" (.ref el)) (hem : Sta (wZ W) (wZ W).heap "java/util/ImmutableCollections" "EMPTY" "Ljava/lang/Object;" (.ref em)) (hmr : Mir (wZ W) "[Ljava/lang/Object;" mr) : Ct W M_ue2 [.ref o, f0, f1, f2, .ref l] ((oUE true o (.null) (.null) (.null) (.null)) :: (oAL true l (.int 2) (.ref e) (.int 2)) :: (eO e [.ref y0, .ref y1, .null, .null, .null, .null, .null, .null, .null, .null]) :: (oStr ry0 y0 (v0) (c0)) :: (oStr ry1 y1 (v1) (c1)) :: F) (fun v H' => ∃ q, v = none ∧ H' = ((oUE true o (f0) (f1) (f2) (.ref q)) :: (oL12 true q (.ref y0) (.ref y1)) :: (oAL true l (.int 2) (.ref e) (.int 2)) :: (eO e [.ref y0, .ref y1, .null, .null, .null, .null, .null, .null, .null, .null]) :: (oStr ry0 y0 (v0) (c0)) :: (oStr ry1 y1 (v1) (c1)) :: F)) := by
  refine Ct.intro (L0 := [.val (.ref o), .val (f0), .val (f1), .val (f2), .val (.ref l)]) (plainFor_of_name pf_com_example_keybridge_keybridge_directory_UserEntry) (by simp only [slotsOf, catR hf0, catR hf1, catR hf2]; rfl) (fun K => ?_)
  refine Wp.aloadN rfl rfl d_prog_9_2_0 ?_
  refine Wp.initO nm_M_ue2 (w_73 hw) (w_16 hw) (w_17 hw) (Wn := 0) rfl rfl (by decide) (by decide) d_prog_9_2_1 ?_
  refine Wp.aloadN rfl rfl d_prog_9_2_4 ?_
  refine Wp.aloadN rfl hf0 d_prog_9_2_5 ?_
  refine Wp.putF nm_M_ue2 (host := "") (Or.inl (w_74 hw)) Via.refl 0 0 rfl rfl (Or.inr ⟨(w_75 hw), rfl, rfl⟩) (w_59 hw) (ty := (.object "java/lang/String")) (by decide) (narRef hf0) (fitRef hf0 rfl) d_prog_9_2_6 (H' := ((oUE true o (f0) (.null) (.null) (.null)) :: (oAL true l (.int 2) (.ref e) (.int 2)) :: (eO e [.ref y0, .ref y1, .null, .null, .null, .null, .null, .null, .null, .null]) :: (oStr ry0 y0 (v0) (c0)) :: (oStr ry1 y1 (v1) (c1)) :: F)) rfl ?_
  refine Wp.aloadN rfl rfl d_prog_9_2_9 ?_
  refine Wp.aloadN rfl hf1 d_prog_9_2_10 ?_
  refine Wp.putF nm_M_ue2 (host := "") (Or.inl (w_76 hw)) Via.refl 0 1 rfl rfl (Or.inr ⟨(w_77 hw), rfl, rfl⟩) (w_59 hw) (ty := (.object "java/lang/String")) (by decide) (narRef hf1) (fitRef hf1 rfl) d_prog_9_2_11 (H' := ((oUE true o (f0) (f1) (.null) (.null)) :: (oAL true l (.int 2) (.ref e) (.int 2)) :: (eO e [.ref y0, .ref y1, .null, .null, .null, .null, .null, .null, .null, .null]) :: (oStr ry0 y0 (v0) (c0)) :: (oStr ry1 y1 (v1) (c1)) :: F)) rfl ?_
  refine Wp.aloadN rfl rfl d_prog_9_2_14 ?_
  refine Wp.aloadN rfl hf2 d_prog_9_2_15 ?_
  refine Wp.putF nm_M_ue2 (host := "") (Or.inl (w_78 hw)) Via.refl 0 2 rfl rfl (Or.inr ⟨(w_79 hw), rfl, rfl⟩) (w_59 hw) (ty := (.object "java/lang/String")) (by decide) (narRef hf2) (fitRef hf2 rfl) d_prog_9_2_16 (H' := ((oUE true o (f0) (f1) (f2) (.null)) :: (oAL true l (.int 2) (.ref e) (.int 2)) :: (eO e [.ref y0, .ref y1, .null, .null, .null, .null, .null, .null, .null, .null]) :: (oStr ry0 y0 (v0) (c0)) :: (oStr ry1 y1 (v1) (c1)) :: F)) rfl ?_
  refine Wp.aloadN rfl rfl d_prog_9_2_19 ?_
  refine Wp.aload rfl rfl d_prog_9_2_20 ?_
  refine Wp.perm [1, 2, 3, 4, 0] 5 pp_1_2_3_4_0 (H' := ((oAL true l (.int 2) (.ref e) (.int 2)) :: (eO e [.ref y0, .ref y1, .null, .null, .null, .null, .null, .null, .null, .null]) :: (oStr ry0 y0 (v0) (c0)) :: (oStr ry1 y1 (v1) (c1)) :: (oUE true o (f0) (f1) (f2) (.null)) :: F)) rfl ?_
  refine Wp.callS nm_M_ue2 (rm_co2 hw l e y0 ry0 v0 c0 y1 ry1 v1 c1 el em mr _ hel hem hmr) (mk_M_co2 hw) (w_80 hw) (w_81 hw) rfl rfl (Wn := 1) rfl rfl (by decide) d_prog_9_2_22 ?_
  rintro _ _ ⟨q_1, rfl, rfl⟩
  refine Wp.putF nm_M_ue2 (host := "") (Or.inl (w_98 hw)) Via.refl 5 3 rfl rfl (Or.inr ⟨(w_99 hw), rfl, rfl⟩) (w_59 hw) (ty := (.object "java/util/List")) (by decide) rfl rfl d_prog_9_2_25 (H' := ((oL12 true q_1 (.ref y0) (.ref y1)) :: (oAL true l (.int 2) (.ref e) (.int 2)) :: (eO e [.ref y0, .ref y1, .null, .null, .null, .null, .null, .null, .null, .null]) :: (oStr ry0 y0 (v0) (c0)) :: (oStr ry1 y1 (v1) (c1)) :: (oUE true o (f0) (f1) (f2) (.ref q_1)) :: F)) rfl ?_
  refine Wp.perm [5, 0, 1, 2, 3, 4] 6 pp_5_0_1_2_3_4 (H' := ((oUE true o (f0) (f1) (f2) (.ref q_1)) :: (oL12 true q_1 (.ref y0) (.ref y1)) :: (oAL true l (.int 2) (.ref e) (.int 2)) :: (eO e [.ref y0, .ref y1, .null, .null, .null, .null, .null, .null, .null, .null]) :: (oStr ry0 y0 (v0) (c0)) :: (oStr ry1 y1 (v1) (c1)) :: F)) rfl ?_
  refine Wp.ret rfl d_prog_9_2_28 (by decide) (by decide) ?_
  exact ⟨q_1, rfl, rfl⟩
theorem pp_1_2_3_4_5_0 : [1, 2, 3, 4, 5, 0].isPerm (List.range 6) = true := by decide +kernel
theorem mk_M_co3 {W : Wd} (hw : Ws W) : Mk W M_co3 ⟨"java/util/List", "copyOf", "(Ljava/util/Collection;)Ljava/util/List;"⟩ 1 := Mk.of nm_M_co3 rfl rfl rfl (w_82 hw) (w_66 hw) (mkLen pd__Ljava_util_Collection__Ljava_util_List_ rfl) (by decide)
theorem pp_7_0_1_2_3_4_5_6 : [7, 0, 1, 2, 3, 4, 5, 6].isPerm (List.range 8) = true := by decide +kernel
def M_ue3 : Mt := (⟨"com/example/keybridge/keybridge/directory/UserEntry", "<init>", "(Ljava/lang/String;Ljava/lang/String;Ljava/lang/String;Ljava/util/List;)V"⟩, prog_9_method_2_code, 5, none, ⟨9, 3, 8, 116⟩)
theorem nm_M_ue3 : mN M_ue3 = ⟨"com/example/keybridge/keybridge/directory/UserEntry", "<init>", "(Ljava/lang/String;Ljava/lang/String;Ljava/lang/String;Ljava/util/List;)V"⟩ := by delta mN M_ue3; rfl
set_option maxRecDepth 65536 in
set_option maxHeartbeats 40000000 in
theorem rm_ue3 {W : Wd} (hw : Ws W) (o : Addr) (f0 : Value) (f1 : Value) (f2 : Value) (l : Addr) (e : Addr) (y0 : Addr) (ry0 : Bool) (v0 : Value) (c0 : Value) (y1 : Addr) (ry1 : Bool) (v1 : Value) (c1 : Value) (y2 : Addr) (ry2 : Bool) (v2 : Value) (c2 : Value) (el : Addr) (em : Addr) (mr : Addr) (F : List En) (hf0 : f0.isRef = true) (hf1 : f1.isRef = true) (hf2 : f2.isRef = true) (hel : Sta (wZ W) (wZ W).heap "java/util/ImmutableCollections" "EMPTY_LIST" "Ljava/util/ImmutableCollections$ListN;" (.ref el)) (hem : Sta (wZ W) (wZ W).heap "java/util/ImmutableCollections" "EMPTY" "Ljava/lang/Object;" (.ref em)) (hmr : Mir (wZ W) "[Ljava/lang/Object;" mr) : Ct W M_ue3 [.ref o, f0, f1, f2, .ref l] ((oUE true o (.null) (.null) (.null) (.null)) :: (oAL true l (.int 3) (.ref e) (.int 3)) :: (eO e [.ref y0, .ref y1, .ref y2, .null, .null, .null, .null, .null, .null, .null]) :: (oStr ry0 y0 (v0) (c0)) :: (oStr ry1 y1 (v1) (c1)) :: (oStr ry2 y2 (v2) (c2)) :: F) (fun v H' => ∃ q qa, v = none ∧ H' = ((oUE true o (f0) (f1) (f2) (.ref q)) :: (oLN true q (.ref qa) (.int 0)) :: (eO qa [.ref y0, .ref y1, .ref y2]) :: (oAL true l (.int 3) (.ref e) (.int 3)) :: (eO e [.ref y0, .ref y1, .ref y2, .null, .null, .null, .null, .null, .null, .null]) :: (oStr ry0 y0 (v0) (c0)) :: (oStr ry1 y1 (v1) (c1)) :: (oStr ry2 y2 (v2) (c2)) :: F)) := by
  refine Ct.intro (L0 := [.val (.ref o), .val (f0), .val (f1), .val (f2), .val (.ref l)]) (plainFor_of_name pf_com_example_keybridge_keybridge_directory_UserEntry) (by simp only [slotsOf, catR hf0, catR hf1, catR hf2]; rfl) (fun K => ?_)
  refine Wp.aloadN rfl rfl d_prog_9_2_0 ?_
  refine Wp.initO nm_M_ue3 (w_73 hw) (w_16 hw) (w_17 hw) (Wn := 0) rfl rfl (by decide) (by decide) d_prog_9_2_1 ?_
  refine Wp.aloadN rfl rfl d_prog_9_2_4 ?_
  refine Wp.aloadN rfl hf0 d_prog_9_2_5 ?_
  refine Wp.putF nm_M_ue3 (host := "") (Or.inl (w_74 hw)) Via.refl 0 0 rfl rfl (Or.inr ⟨(w_75 hw), rfl, rfl⟩) (w_59 hw) (ty := (.object "java/lang/String")) (by decide) (narRef hf0) (fitRef hf0 rfl) d_prog_9_2_6 (H' := ((oUE true o (f0) (.null) (.null) (.null)) :: (oAL true l (.int 3) (.ref e) (.int 3)) :: (eO e [.ref y0, .ref y1, .ref y2, .null, .null, .null, .null, .null, .null, .null]) :: (oStr ry0 y0 (v0) (c0)) :: (oStr ry1 y1 (v1) (c1)) :: (oStr ry2 y2 (v2) (c2)) :: F)) rfl ?_
  refine Wp.aloadN rfl rfl d_prog_9_2_9 ?_
  refine Wp.aloadN rfl hf1 d_prog_9_2_10 ?_
  refine Wp.putF nm_M_ue3 (host := "") (Or.inl (w_76 hw)) Via.refl 0 1 rfl rfl (Or.inr ⟨(w_77 hw), rfl, rfl⟩) (w_59 hw) (ty := (.object "java/lang/String")) (by decide) (narRef hf1) (fitRef hf1 rfl) d_prog_9_2_11 (H' := ((oUE true o (f0) (f1) (.null) (.null)) :: (oAL true l (.int 3) (.ref e) (.int 3)) :: (eO e [.ref y0, .ref y1, .ref y2, .null, .null, .null, .null, .null, .null, .null]) :: (oStr ry0 y0 (v0) (c0)) :: (oStr ry1 y1 (v1) (c1)) :: (oStr ry2 y2 (v2) (c2)) :: F)) rfl ?_
  refine Wp.aloadN rfl rfl d_prog_9_2_14 ?_
  refine Wp.aloadN rfl hf2 d_prog_9_2_15 ?_
  refine Wp.putF nm_M_ue3 (host := "") (Or.inl (w_78 hw)) Via.refl 0 2 rfl rfl (Or.inr ⟨(w_79 hw), rfl, rfl⟩) (w_59 hw) (ty := (.object "java/lang/String")) (by decide) (narRef hf2) (fitRef hf2 rfl) d_prog_9_2_16 (H' := ((oUE true o (f0) (f1) (f2) (.null)) :: (oAL true l (.int 3) (.ref e) (.int 3)) :: (eO e [.ref y0, .ref y1, .ref y2, .null, .null, .null, .null, .null, .null, .null]) :: (oStr ry0 y0 (v0) (c0)) :: (oStr ry1 y1 (v1) (c1)) :: (oStr ry2 y2 (v2) (c2)) :: F)) rfl ?_
  refine Wp.aloadN rfl rfl d_prog_9_2_19 ?_
  refine Wp.aload rfl rfl d_prog_9_2_20 ?_
  refine Wp.perm [1, 2, 3, 4, 5, 0] 6 pp_1_2_3_4_5_0 (H' := ((oAL true l (.int 3) (.ref e) (.int 3)) :: (eO e [.ref y0, .ref y1, .ref y2, .null, .null, .null, .null, .null, .null, .null]) :: (oStr ry0 y0 (v0) (c0)) :: (oStr ry1 y1 (v1) (c1)) :: (oStr ry2 y2 (v2) (c2)) :: (oUE true o (f0) (f1) (f2) (.null)) :: F)) rfl ?_
  refine Wp.callS nm_M_ue3 (rm_co3 hw l e y0 ry0 v0 c0 y1 ry1 v1 c1 y2 ry2 v2 c2 el em mr _ hel hem hmr) (mk_M_co3 hw) (w_80 hw) (w_81 hw) rfl rfl (Wn := 1) rfl rfl (by decide) d_prog_9_2_22 ?_
  rintro _ _ ⟨q_1, qa_2, rfl, rfl⟩
  refine Wp.putF nm_M_ue3 (host := "") (Or.inl (w_98 hw)) Via.refl 7 3 rfl rfl (Or.inr ⟨(w_99 hw), rfl, rfl⟩) (w_59 hw) (ty := (.object "java/util/List")) (by decide) rfl rfl d_prog_9_2_25 (H' := ((oLN true q_1 (.ref qa_2) (.int 0)) :: (eO qa_2 [.ref y0, .ref y1, .ref y2]) :: (oAL true l (.int 3) (.ref e) (.int 3)) :: (eO e [.ref y0, .ref y1, .ref y2, .null, .null, .null, .null, .null, .null, .null]) :: (oStr ry0 y0 (v0) (c0)) :: (oStr ry1 y1 (v1) (c1)) :: (oStr ry2 y2 (v2) (c2)) :: (oUE true o (f0) (f1) (f2) (.ref q_1)) :: F)) rfl ?_
  refine Wp.perm [7, 0, 1, 2, 3, 4, 5, 6] 8 pp_7_0_1_2_3_4_5_6 (H' := ((oUE true o (f0) (f1) (f2) (.ref q_1)) :: (oLN true q_1 (.ref qa_2) (.int 0)) :: (eO qa_2 [.ref y0, .ref y1, .ref y2]) :: (oAL true l (.int 3) (.ref e) (.int 3)) :: (eO e [.ref y0, .ref y1, .ref y2, .null, .null, .null, .null, .null, .null, .null]) :: (oStr ry0 y0 (v0) (c0)) :: (oStr ry1 y1 (v1) (c1)) :: (oStr ry2 y2 (v2) (c2)) :: F)) rfl ?_
  refine Wp.ret rfl d_prog_9_2_28 (by decide) (by decide) ?_
  exact ⟨q_1, qa_2, rfl, rfl⟩
theorem d_prog_9_1_0 : Dc prog_9_method_1_code 0 (.aload_n 0) 1 1 := ⟨by decide +kernel, rfl⟩
theorem d_prog_9_1_1 : Dc prog_9_method_1_code 1 (.aload_n 1) 1 2 := ⟨by decide +kernel, rfl⟩
theorem d_prog_9_1_2 : Dc prog_9_method_1_code 2 (.aload_n 2) 1 3 := ⟨by decide +kernel, rfl⟩
theorem d_prog_9_1_3 : Dc prog_9_method_1_code 3 (.aload_n 3) 1 4 := ⟨by decide +kernel, rfl⟩
theorem d_prog_9_1_4 : Dc prog_9_method_1_code 4 (.invokestatic 1) 3 7 := ⟨by decide +kernel, rfl⟩
theorem w_64 {W : Wd} (hw : Ws W) : Wok W (Jvm.Cond.methodLink "com/example/keybridge/keybridge/directory/UserEntry" (1 : Nat) ({ cls := "java/util/List", name := "of", desc := "()Ljava/util/List;" } : Jvm.MethodName)) := hw.1 _ (List.mem_of_getElem? (i := 64) rfl)
theorem d_prog_9_1_7 : Dc prog_9_method_1_code 7 (.invokespecial 7) 3 10 := ⟨by decide +kernel, rfl⟩
theorem w_72 {W : Wd} (hw : Ws W) : Wok W (Jvm.Cond.code ({ cls := "com/example/keybridge/keybridge/directory/UserEntry", name := "<init>", desc := "(Ljava/lang/String;Ljava/lang/String;Ljava/lang/String;Ljava/util/List;)V" } : Jvm.MethodName) prog_9_method_2_code (5 : Nat) (Option.none : Option Jvm.ClassFile.FieldType)) := hw.1 _ (List.mem_of_getElem? (i := 72) rfl)
theorem w_60 {W : Wd} (hw : Ws W) : Wok W (Jvm.Cond.initialized "com/example/keybridge/keybridge/directory/UserEntry") := hw.1 _ (List.mem_of_getElem? (i := 60) rfl)
theorem pd__Ljava_lang_String_Ljava_lang_String_Ljava_lang_String_Ljava_util_List__V : parseMethodDescriptor "(Ljava/lang/String;Ljava/lang/String;Ljava/lang/String;Ljava/util/List;)V" = some ⟨[(.object "java/lang/String"), (.object "java/lang/String"), (.object "java/lang/String"), (.object "java/util/List")], none⟩ := by decide +kernel
theorem mk_M_ueE {W : Wd} (hw : Ws W) : Mk W M_ueE ⟨"com/example/keybridge/keybridge/directory/UserEntry", "<init>", "(Ljava/lang/String;Ljava/lang/String;Ljava/lang/String;Ljava/util/List;)V"⟩ 4 := Mk.of nm_M_ueE rfl rfl rfl (w_72 hw) (w_60 hw) (mkLen pd__Ljava_lang_String_Ljava_lang_String_Ljava_lang_String_Ljava_util_List__V rfl) (by decide)
theorem w_70 {W : Wd} (hw : Ws W) : Wok W (Jvm.Cond.methodLink "com/example/keybridge/keybridge/directory/UserEntry" (7 : Nat) ({ cls := "com/example/keybridge/keybridge/directory/UserEntry", name := "<init>", desc := "(Ljava/lang/String;Ljava/lang/String;Ljava/lang/String;Ljava/util/List;)V" } : Jvm.MethodName)) := hw.1 _ (List.mem_of_getElem? (i := 70) rfl)
theorem w_71 {W : Wd} (hw : Ws W) : Wok W (Jvm.Cond.instanceMethod ({ cls := "com/example/keybridge/keybridge/directory/UserEntry", name := "<init>", desc := "(Ljava/lang/String;Ljava/lang/String;Ljava/lang/String;Ljava/util/List;)V" } : Jvm.MethodName)) := hw.1 _ (List.mem_of_getElem? (i := 71) rfl)
theorem d_prog_9_1_10 : Dc prog_9_method_1_code 10 (.return_) 1 11 := ⟨by decide +kernel, rfl⟩
def M_ue3a : Mt := (⟨"com/example/keybridge/keybridge/directory/UserEntry", "<init>", "(Ljava/lang/String;Ljava/lang/String;Ljava/lang/String;)V"⟩, prog_9_method_1_code, 4, none, ⟨3, 0, 0, 42⟩)
theorem nm_M_ue3a : mN M_ue3a = ⟨"com/example/keybridge/keybridge/directory/UserEntry", "<init>", "(Ljava/lang/String;Ljava/lang/String;Ljava/lang/String;)V"⟩ := by delta mN M_ue3a; rfl
set_option maxRecDepth 65536 in
set_option maxHeartbeats 40000000 in
theorem rm_ue3a {W : Wd} (hw : Ws W) (o : Addr) (f0 : Value) (f1 : Value) (f2 : Value) (el : Addr) (ee : Addr) (F : List En) (hf0 : f0.isRef = true) (hf1 : f1.isRef = true) (hf2 : f2.isRef = true) (hel : Sta (wZ W) (wZ W).heap "java/util/ImmutableCollections" "EMPTY_LIST" "Ljava/util/ImmutableCollections$ListN;" (.ref el)) : Ct W M_ue3a [.ref o, f0, f1, f2] ((oUE true o (.null) (.null) (.null) (.null)) :: (oLN false el (.ref ee) (.int 0)) :: F) (fun v H' => v = none ∧ H' = ((oUE true o (f0) (f1) (f2) (.ref el)) :: (oLN false el (.ref ee) (.int 0)) :: F)) := by
  refine Ct.intro (L0 := [.val (.ref o), .val (f0), .val (f1), .val (f2)]) (plainFor_of_name pf_com_example_keybridge_keybridge_directory_UserEntry) (by simp only [slotsOf, catR hf0, catR hf1, catR hf2]; rfl) (fun K => ?_)
  refine Wp.aloadN rfl rfl d_prog_9_1_0 ?_
  refine Wp.aloadN rfl hf0 d_prog_9_1_1 ?_
  refine Wp.aloadN rfl hf1 d_prog_9_1_2 ?_
  refine Wp.aloadN rfl hf2 d_prog_9_1_3 ?_
  refine Wp.callS nm_M_ue3a (rm_lof hw el _ hel) (mk_M_lof hw) (w_64 hw) (w_65 hw) rfl rfl (Wn := 4) (by simp only [List.map_cons, List.map_nil, catR hf2, catR hf1, catR hf0]; rfl) rfl (by decide) d_prog_9_1_4 ?_
  rintro _ _ ⟨rfl, rfl⟩
  refine Wp.callC nm_M_ue3a (rm_ueE hw o f0 f1 f2 el ee _ hf0 hf1 hf2) (mk_M_ueE hw) (w_70 hw) (w_71 hw) rfl rfl rfl rfl (Wn := 0) rfl rfl (by decide) d_prog_9_1_7 ?_
  rintro _ _ ⟨rfl, rfl⟩
  refine Wp.ret rfl d_prog_9_1_10 (by decide) (by decide) ?_
  exact ⟨rfl, rfl⟩
theorem d_prog_9_3_0 : Dc prog_9_method_3_code 0 (.new 8) 3 3 := ⟨by decide +kernel, rfl⟩
theorem w_105 {W : Wd} (hw : Ws W) : Wok W (Jvm.Cond.classLink "com/example/keybridge/keybridge/directory/UserEntry" (8 : Nat) "com/example/keybridge/keybridge/directory/UserEntry") := hw.1 _ (List.mem_of_getElem? (i := 105) rfl)
theorem nf_oUE {W : Wd} (hw : Ws W) : NewFs W "com/example/keybridge/keybridge/directory/UserEntry" [("com/example/keybridge/keybridge/directory/UserEntry", "dn", "Ljava/lang/String;", .null), ("com/example/keybridge/keybridge/directory/UserEntry", "username", "Ljava/lang/String;", .null), ("com/example/keybridge/keybridge/directory/UserEntry", "mail", "Ljava/lang/String;", .null), ("com/example/keybridge/keybridge/directory/UserEntry", "groups", "Ljava/util/List;", .null)] := NewFs.cons (Or.inr (w_75 hw)) (ty := (.object "java/lang/String")) (by decide) rfl (by decide) (NewFs.cons (Or.inr (w_77 hw)) (ty := (.object "java/lang/String")) (by decide) rfl (by decide) (NewFs.cons (Or.inr (w_79 hw)) (ty := (.object "java/lang/String")) (by decide) rfl (by decide) (NewFs.cons (Or.inr (w_99 hw)) (ty := (.object "java/util/List")) (by decide) rfl (by decide) (NewFs.nil))))
theorem d_prog_9_3_3 : Dc prog_9_method_3_code 3 (.dup) 1 4 := ⟨by decide +kernel, rfl⟩
theorem d_prog_9_3_4 : Dc prog_9_method_3_code 4 (.aload_n 0) 1 5 := ⟨by decide +kernel, rfl⟩
theorem d_prog_9_3_5 : Dc prog_9_method_3_code 5 (.getfield 18) 3 8 := ⟨by decide +kernel, rfl⟩
theorem d_prog_9_3_8 : Dc prog_9_method_3_code 8 (.aload_n 0) 1 9 := ⟨by decide +kernel, rfl⟩
theorem d_prog_9_3_9 : Dc prog_9_method_3_code 9 (.getfield 22) 3 12 := ⟨by decide +kernel, rfl⟩
theorem d_prog_9_3_12 : Dc prog_9_method_3_code 12 (.aload_n 0) 1 13 := ⟨by decide +kernel, rfl⟩
theorem d_prog_9_3_13 : Dc prog_9_method_3_code 13 (.getfield 25) 3 16 := ⟨by decide +kernel, rfl⟩
theorem d_prog_9_3_16 : Dc prog_9_method_3_code 16 (.aload_n 1) 1 17 := ⟨by decide +kernel, rfl⟩
theorem d_prog_9_3_17 : Dc prog_9_method_3_code 17 (.invokespecial 7) 3 20 := ⟨by decide +kernel, rfl⟩
theorem pp_0_2_1 : [0, 2, 1].isPerm (List.range 3) = true := by decide +kernel
theorem mk_M_ue0 {W : Wd} (hw : Ws W) : Mk W M_ue0 ⟨"com/example/keybridge/keybridge/directory/UserEntry", "<init>", "(Ljava/lang/String;Ljava/lang/String;Ljava/lang/String;Ljava/util/List;)V"⟩ 4 := Mk.of nm_M_ue0 rfl rfl rfl (w_72 hw) (w_60 hw) (mkLen pd__Ljava_lang_String_Ljava_lang_String_Ljava_lang_String_Ljava_util_List__V rfl) (by decide)
theorem d_prog_9_3_20 : Dc prog_9_method_3_code 20 (.areturn) 1 21 := ⟨by decide +kernel, rfl⟩
def M_wg0 : Mt := (⟨"com/example/keybridge/keybridge/directory/UserEntry", "withGroups", "(Ljava/util/List;)Lcom/example/keybridge/keybridge/directory/UserEntry;"⟩, prog_9_method_3_code, 2, some (.object "com/example/keybridge/keybridge/directory/UserEntry"), ⟨4, 1, 4, 55⟩)
theorem nm_M_wg0 : mN M_wg0 = ⟨"com/example/keybridge/keybridge/directory/UserEntry", "withGroups", "(Ljava/util/List;)Lcom/example/keybridge/keybridge/directory/UserEntry;"⟩ := by delta mN M_wg0; rfl
set_option maxRecDepth 65536 in
set_option maxHeartbeats 40000000 in
theorem rm_wg0 {W : Wd} (hw : Ws W) (u : Addr) (f0 : Value) (f1 : Value) (f2 : Value) (l : Addr) (el : Addr) (em : Addr) (mr : Addr) (de : Addr) (F : List En) (hf0 : f0.isRef = true) (hf1 : f1.isRef = true) (hf2 : f2.isRef = true) (hel : Sta (wZ W) (wZ W).heap "java/util/ImmutableCollections" "EMPTY_LIST" "Ljava/util/ImmutableCollections$ListN;" (.ref el)) (hem : Sta (wZ W) (wZ W).heap "java/util/ImmutableCollections" "EMPTY" "Ljava/lang/Object;" (.ref em)) (hmr : Mir (wZ W) "[Ljava/lang/Object;" mr) : Ct W M_wg0 [.ref u, .ref l] ((oUE true u (f0) (f1) (f2) (.ref el)) :: (oAL true l (.int 0) (.ref de) (.int 0)) :: F) (fun v H' => ∃ o, v = some (.ref o) ∧ H' = ((oUE true o (f0) (f1) (f2) (.ref el)) :: (oUE true u (f0) (f1) (f2) (.ref el)) :: (oAL true l (.int 0) (.ref de) (.int 0)) :: F)) := by
  refine Ct.intro (L0 := [.val (.ref u), .val (.ref l)]) (plainFor_of_name pf_com_example_keybridge_keybridge_directory_UserEntry) rfl (fun K => ?_)
  refine Wp.newO nm_M_wg0 (w_105 hw) (w_59 hw) (w_60 hw) (nf_oUE hw) (by decide) (by decide) d_prog_9_3_0 (fun a1 => ?_)
  refine Wp.dup rfl d_prog_9_3_3 ?_
  refine Wp.aloadN rfl rfl d_prog_9_3_4 ?_
  refine Wp.getF nm_M_wg0 (host := "") (Or.inl (w_74 hw)) Via.refl 1 0 rfl rfl d_prog_9_3_5 ?_
  refine Wp.aloadN rfl rfl d_prog_9_3_8 ?_
  refine Wp.getF nm_M_wg0 (host := "") (Or.inl (w_76 hw)) Via.refl 1 1 rfl rfl d_prog_9_3_9 ?_
  refine Wp.aloadN rfl rfl d_prog_9_3_12 ?_
  refine Wp.getF nm_M_wg0 (host := "") (Or.inl (w_78 hw)) Via.refl 1 2 rfl rfl d_prog_9_3_13 ?_
  refine Wp.aloadN rfl rfl d_prog_9_3_16 ?_
  refine Wp.perm [0, 2, 1] 3 pp_0_2_1 (H' := ((oUE true a1 (.null) (.null) (.null) (.null)) :: (oAL true l (.int 0) (.ref de) (.int 0)) :: (oUE true u (f0) (f1) (f2) (.ref el)) :: F)) rfl ?_
  refine Wp.callC nm_M_wg0 (rm_ue0 hw a1 f0 f1 f2 l el em mr de _ hf0 hf1 hf2 hel hem hmr) (mk_M_ue0 hw) (w_70 hw) (w_71 hw) rfl rfl rfl rfl (Wn := 1) rfl rfl (by decide) d_prog_9_3_17 ?_
  rintro _ _ ⟨rfl, rfl⟩
  refine Wp.perm [0, 2, 1] 3 pp_0_2_1 (H' := ((oUE true a1 (f0) (f1) (f2) (.ref el)) :: (oUE true u (f0) (f1) (f2) (.ref el)) :: (oAL true l (.int 0) (.ref de) (.int 0)) :: F)) rfl ?_
  refine Wp.aret rfl rfl rfl d_prog_9_3_20 (by decide) (by decide) ?_
  exact ⟨a1, rfl, rfl⟩
theorem pp_0_2_3_4_1 : [0, 2, 3, 4, 1].isPerm (List.range 5) = true := by decide +kernel
theorem mk_M_ue1 {W : Wd} (hw : Ws W) : Mk W M_ue1 ⟨"com/example/keybridge/keybridge/directory/UserEntry", "<init>", "(Ljava/lang/String;Ljava/lang/String;Ljava/lang/String;Ljava/util/List;)V"⟩ 4 := Mk.of nm_M_ue1 rfl rfl rfl (w_72 hw) (w_60 hw) (mkLen pd__Ljava_lang_String_Ljava_lang_String_Ljava_lang_String_Ljava_util_List__V rfl) (by decide)
theorem pp_0_1_5_2_3_4 : [0, 1, 5, 2, 3, 4].isPerm (List.range 6) = true := by decide +kernel
def M_wg1 : Mt := (⟨"com/example/keybridge/keybridge/directory/UserEntry", "withGroups", "(Ljava/util/List;)Lcom/example/keybridge/keybridge/directory/UserEntry;"⟩, prog_9_method_3_code, 2, some (.object "com/example/keybridge/keybridge/directory/UserEntry"), ⟨9, 3, 7, 118⟩)
theorem nm_M_wg1 : mN M_wg1 = ⟨"com/example/keybridge/keybridge/directory/UserEntry", "withGroups", "(Ljava/util/List;)Lcom/example/keybridge/keybridge/directory/UserEntry;"⟩ := by delta mN M_wg1; rfl
set_option maxRecDepth 65536 in
set_option maxHeartbeats 40000000 in
theorem rm_wg1 {W : Wd} (hw : Ws W) (u : Addr) (f0 : Value) (f1 : Value) (f2 : Value) (l : Addr) (e : Addr) (y0 : Addr) (ry0 : Bool) (v0 : Value) (c0 : Value) (el : Addr) (em : Addr) (mr : Addr) (F : List En) (hf0 : f0.isRef = true) (hf1 : f1.isRef = true) (hf2 : f2.isRef = true) (hel : Sta (wZ W) (wZ W).heap "java/util/ImmutableCollections" "EMPTY_LIST" "Ljava/util/ImmutableCollections$ListN;" (.ref el)) (hem : Sta (wZ W) (wZ W).heap "java/util/ImmutableCollections" "EMPTY" "Ljava/lang/Object;" (.ref em)) (hmr : Mir (wZ W) "[Ljava/lang/Object;" mr) : Ct W M_wg1 [.ref u, .ref l] ((oUE true u (f0) (f1) (f2) (.ref el)) :: (oAL true l (.int 1) (.ref e) (.int 1)) :: (eO e [.ref y0, .null, .null, .null, .null, .null, .null, .null, .null, .null]) :: (oStr ry0 y0 (v0) (c0)) :: F) (fun v H' => ∃ o q, v = some (.ref o) ∧ H' = ((oUE true o (f0) (f1) (f2) (.ref q)) :: (oL12 true q (.ref y0) (.ref em)) :: (oUE true u (f0) (f1) (f2) (.ref el)) :: (oAL true l (.int 1) (.ref e) (.int 1)) :: (eO e [.ref y0, .null, .null, .null, .null, .null, .null, .null, .null, .null]) :: (oStr ry0 y0 (v0) (c0)) :: F)) := by
  refine Ct.intro (L0 := [.val (.ref u), .val (.ref l)]) (plainFor_of_name pf_com_example_keybridge_keybridge_directory_UserEntry) rfl (fun K => ?_)
  refine Wp.newO nm_M_wg1 (w_105 hw) (w_59 hw) (w_60 hw) (nf_oUE hw) (by decide) (by decide) d_prog_9_3_0 (fun a1 => ?_)
  refine Wp.dup rfl d_prog_9_3_3 ?_
  refine Wp.aloadN rfl rfl d_prog_9_3_4 ?_
  refine Wp.getF nm_M_wg1 (host := "") (Or.inl (w_74 hw)) Via.refl 1 0 rfl rfl d_prog_9_3_5 ?_
  refine Wp.aloadN rfl rfl d_prog_9_3_8 ?_
  refine Wp.getF nm_M_wg1 (host := "") (Or.inl (w_76 hw)) Via.refl 1 1 rfl rfl d_prog_9_3_9 ?_
  refine Wp.aloadN rfl rfl d_prog_9_3_12 ?_
  refine Wp.getF nm_M_wg1 (host := "") (Or.inl (w_78 hw)) Via.refl 1 2 rfl rfl d_prog_9_3_13 ?_
  refine Wp.aloadN rfl rfl d_prog_9_3_16 ?_
  refine Wp.perm [0, 2, 3, 4, 1] 5 pp_0_2_3_4_1 (H' := ((oUE true a1 (.null) (.null) (.null) (.null)) :: (oAL true l (.int 1) (.ref e) (.int 1)) :: (eO e [.ref y0, .null, .null, .null, .null, .null, .null, .null, .null, .null]) :: (oStr ry0 y0 (v0) (c0)) :: (oUE true u (f0) (f1) (f2) (.ref el)) :: F)) rfl ?_
  refine Wp.callC nm_M_wg1 (rm_ue1 hw a1 f0 f1 f2 l e y0 ry0 v0 c0 el em mr _ hf0 hf1 hf2 hel hem hmr) (mk_M_ue1 hw) (w_70 hw) (w_71 hw) rfl rfl rfl rfl (Wn := 1) rfl rfl (by decide) d_prog_9_3_17 ?_
  rintro _ _ ⟨q_2, rfl, rfl⟩
  refine Wp.perm [0, 1, 5, 2, 3, 4] 6 pp_0_1_5_2_3_4 (H' := ((oUE true a1 (f0) (f1) (f2) (.ref q_2)) :: (oL12 true q_2 (.ref y0) (.ref em)) :: (oUE true u (f0) (f1) (f2) (.ref el)) :: (oAL true l (.int 1) (.ref e) (.int 1)) :: (eO e [.ref y0, .null, .null, .null, .null, .null, .null, .null, .null, .null]) :: (oStr ry0 y0 (v0) (c0)) :: F)) rfl ?_
  refine Wp.aret rfl rfl rfl d_prog_9_3_20 (by decide) (by decide) ?_
  exact ⟨a1, q_2, rfl, rfl⟩
theorem pp_0_2_3_4_5_1 : [0, 2, 3, 4, 5, 1].isPerm (List.range 6) = true := by decide +kernel
theorem mk_M_ue2 {W : Wd} (hw : Ws W) : Mk W M_ue2 ⟨"com/example/keybridge/keybridge/directory/UserEntry", "<init>", "(Ljava/lang/String;Ljava/lang/String;Ljava/lang/String;Ljava/util/List;)V"⟩ 4 := Mk.of nm_M_ue2 rfl rfl rfl (w_72 hw) (w_60 hw) (mkLen pd__Ljava_lang_String_Ljava_lang_String_Ljava_lang_String_Ljava_util_List__V rfl) (by decide)
theorem pp_0_1_6_2_3_4_5 : [0, 1, 6, 2, 3, 4, 5].isPerm (List.range 7) = true := by decide +kernel
def M_wg2 : Mt := (⟨"com/example/keybridge/keybridge/directory/UserEntry", "withGroups", "(Ljava/util/List;)Lcom/example/keybridge/keybridge/directory/UserEntry;"⟩, prog_9_method_3_code, 2, some (.object "com/example/keybridge/keybridge/directory/UserEntry"), ⟨9, 3, 8, 119⟩)
theorem nm_M_wg2 : mN M_wg2 = ⟨"com/example/keybridge/keybridge/directory/UserEntry", "withGroups", "(Ljava/util/List;)Lcom/example/keybridge/keybridge/directory/UserEntry;"⟩ := by delta mN M_wg2; rfl
set_option maxRecDepth 65536 in
set_option maxHeartbeats 40000000 in
theorem rm_wg2 {W : Wd} (hw : Ws W) (u : Addr) (f0 : Value) (f1 : Value) (f2 : Value) (l : Addr) (e : Addr) (y0 : Addr) (ry0 : Bool) (v0 : Value) (c0 : Value) (y1 : Addr) (ry1 : Bool) (v1 : Value) (c1 : Value) (el : Addr) (em : Addr) (mr : Addr) (F : List En) (hf0 : f0.isRef = true) (hf1 : f1.isRef = true) (hf2 : f2.isRef = true) (hel : Sta (wZ W) (wZ W).heap "java/util/ImmutableCollections" "EMPTY_LIST" "Ljava/util/ImmutableCollections$ListN;" (.ref el)) (hem : Sta (wZ W) (wZ W).heap "java/util/ImmutableCollections" "EMPTY" "Ljava/lang/Object;" (.ref em)) (hmr : Mir (wZ W) "[Ljava/lang/Object;" mr) : Ct W M_wg2 [.ref u, .ref l] ((oUE true u (f0) (f1) (f2) (.ref el)) :: (oAL true l (.int 2) (.ref e) (.int 2)) :: (eO e [.ref y0, .ref y1, .null, .null, .null, .null, .null, .null, .null, .null]) :: (oStr ry0 y0 (v0) (c0)) :: (oStr ry1 y1 (v1) (c1)) :: F) (fun v H' => ∃ o q, v = some (.ref o) ∧ H' = ((oUE true o (f0) (f1) (f2) (.ref q)) :: (oL12 true q (.ref y0) (.ref y1)) :: (oUE true u (f0) (f1) (f2) (.ref el)) :: (oAL true l (.int 2) (.ref e) (.int 2)) :: (eO e [.ref y0, .ref y1, .null, .null, .null, .null, .null, .null, .null, .null]) :: (oStr ry0 y0 (v0) (c0)) :: (oStr ry1 y1 (v1) (c1)) :: F)) := by
  refine Ct.intro (L0 := [.val (.ref u), .val (.ref l)]) (plainFor_of_name pf_com_example_keybridge_keybridge_directory_UserEntry) rfl (fun K => ?_)
  refine Wp.newO nm_M_wg2 (w_105 hw) (w_59 hw) (w_60 hw) (nf_oUE hw) (by decide) (by decide) d_prog_9_3_0 (fun a1 => ?_)
  refine Wp.dup rfl d_prog_9_3_3 ?_
  refine Wp.aloadN rfl rfl d_prog_9_3_4 ?_
  refine Wp.getF nm_M_wg2 (host := "") (Or.inl (w_74 hw)) Via.refl 1 0 rfl rfl d_prog_9_3_5 ?_
  refine Wp.aloadN rfl rfl d_prog_9_3_8 ?_
  refine Wp.getF nm_M_wg2 (host := "") (Or.inl (w_76 hw)) Via.refl 1 1 rfl rfl d_prog_9_3_9 ?_
  refine Wp.aloadN rfl rfl d_prog_9_3_12 ?_
  refine Wp.getF nm_M_wg2 (host := "") (Or.inl (w_78 hw)) Via.refl 1 2 rfl rfl d_prog_9_3_13 ?_
  refine Wp.aloadN rfl rfl d_prog_9_3_16 ?_
  refine Wp.perm [0, 2, 3, 4, 5, 1] 6 pp_0_2_3_4_5_1 (H' := ((oUE true a1 (.null) (.null) (.null) (.null)) :: (oAL true l (.int 2) (.ref e) (.int 2)) :: (eO e [.ref y0, .ref y1, .null, .null, .null, .null, .null, .null, .null, .null]) :: (oStr ry0 y0 (v0) (c0)) :: (oStr ry1 y1 (v1) (c1)) :: (oUE true u (f0) (f1) (f2) (.ref el)) :: F)) rfl ?_
  refine Wp.callC nm_M_wg2 (rm_ue2 hw a1 f0 f1 f2 l e y0 ry0 v0 c0 y1 ry1 v1 c1 el em mr _ hf0 hf1 hf2 hel hem hmr) (mk_M_ue2 hw) (w_70 hw) (w_71 hw) rfl rfl rfl rfl (Wn := 1) rfl rfl (by decide) d_prog_9_3_17 ?_
  rintro _ _ ⟨q_2, rfl, rfl⟩
  refine Wp.perm [0, 1, 6, 2, 3, 4, 5] 7 pp_0_1_6_2_3_4_5 (H' := ((oUE true a1 (f0) (f1) (f2) (.ref q_2)) :: (oL12 true q_2 (.ref y0) (.ref y1)) :: (oUE true u (f0) (f1) (f2) (.ref el)) :: (oAL true l (.int 2) (.ref e) (.int 2)) :: (eO e [.ref y0, .ref y1, .null, .null, .null, .null, .null, .null, .null, .null]) :: (oStr ry0 y0 (v0) (c0)) :: (oStr ry1 y1 (v1) (c1)) :: F)) rfl ?_
  refine Wp.aret rfl rfl rfl d_prog_9_3_20 (by decide) (by decide) ?_
  exact ⟨a1, q_2, rfl, rfl⟩
theorem pp_0_2_3_4_5_6_1 : [0, 2, 3, 4, 5, 6, 1].isPerm (List.range 7) = true := by decide +kernel
theorem mk_M_ue3 {W : Wd} (hw : Ws W) : Mk W M_ue3 ⟨"com/example/keybridge/keybridge/directory/UserEntry", "<init>", "(Ljava/lang/String;Ljava/lang/String;Ljava/lang/String;Ljava/util/List;)V"⟩ 4 := Mk.of nm_M_ue3 rfl rfl rfl (w_72 hw) (w_60 hw) (mkLen pd__Ljava_lang_String_Ljava_lang_String_Ljava_lang_String_Ljava_util_List__V rfl) (by decide)
theorem pp_0_1_2_8_3_4_5_6_7 : [0, 1, 2, 8, 3, 4, 5, 6, 7].isPerm (List.range 9) = true := by decide +kernel
def M_wg3 : Mt := (⟨"com/example/keybridge/keybridge/directory/UserEntry", "withGroups", "(Ljava/util/List;)Lcom/example/keybridge/keybridge/directory/UserEntry;"⟩, prog_9_method_3_code, 2, some (.object "com/example/keybridge/keybridge/directory/UserEntry"), ⟨10, 4, 12, 133⟩)
theorem nm_M_wg3 : mN M_wg3 = ⟨"com/example/keybridge/keybridge/directory/UserEntry", "withGroups", "(Ljava/util/List;)Lcom/example/keybridge/keybridge/directory/UserEntry;"⟩ := by delta mN M_wg3; rfl
set_option maxRecDepth 65536 in
set_option maxHeartbeats 40000000 in
theorem rm_wg3 {W : Wd} (hw : Ws W) (u : Addr) (f0 : Value) (f1 : Value) (f2 : Value) (l : Addr) (e : Addr) (y0 : Addr) (ry0 : Bool) (v0 : Value) (c0 : Value) (y1 : Addr) (ry1 : Bool) (v1 : Value) (c1 : Value) (y2 : Addr) (ry2 : Bool) (v2 : Value) (c2 : Value) (el : Addr) (em : Addr) (mr : Addr) (F : List En) (hf0 : f0.isRef = true) (hf1 : f1.isRef = true) (hf2 : f2.isRef = true) (hel : Sta (wZ W) (wZ W).heap "java/util/ImmutableCollections" "EMPTY_LIST" "Ljava/util/ImmutableCollections$ListN;" (.ref el)) (hem : Sta (wZ W) (wZ W).heap "java/util/ImmutableCollections" "EMPTY" "Ljava/lang/Object;" (.ref em)) (hmr : Mir (wZ W) "[Ljava/lang/Object;" mr) : Ct W M_wg3 [.ref u, .ref l] ((oUE true u (f0) (f1) (f2) (.ref el)) :: (oAL true l (.int 3) (.ref e) (.int 3)) :: (eO e [.ref y0, .ref y1, .ref y2, .null, .null, .null, .null, .null, .null, .null]) :: (oStr ry0 y0 (v0) (c0)) :: (oStr ry1 y1 (v1) (c1)) :: (oStr ry2 y2 (v2) (c2)) :: F) (fun v H' => ∃ o q qa, v = some (.ref o) ∧ H' = ((oUE true o (f0) (f1) (f2) (.ref q)) :: (oLN true q (.ref qa) (.int 0)) :: (eO qa [.ref y0, .ref y1, .ref y2]) :: (oUE true u (f0) (f1) (f2) (.ref el)) :: (oAL true l (.int 3) (.ref e) (.int 3)) :: (eO e [.ref y0, .ref y1, .ref y2, .null, .null, .null, .null, .null, .null, .null]) :: (oStr ry0 y0 (v0) (c0)) :: (oStr ry1 y1 (v1) (c1)) :: (oStr ry2 y2 (v2) (c2)) :: F)) := by
  refine Ct.intro (L0 := [.val (.ref u), .val (.ref l)]) (plainFor_of_name pf_com_example_keybridge_keybridge_directory_UserEntry) rfl (fun K => ?_)
  refine Wp.newO nm_M_wg3 (w_105 hw) (w_59 hw) (w_60 hw) (nf_oUE hw) (by decide) (by decide) d_prog_9_3_0 (fun a1 => ?_)
  refine Wp.dup rfl d_prog_9_3_3 ?_
  refine Wp.aloadN rfl rfl d_prog_9_3_4 ?_
  refine Wp.getF nm_M_wg3 (host := "") (Or.inl (w_74 hw)) Via.refl 1 0 rfl rfl d_prog_9_3_5 ?_
  refine Wp.aloadN rfl rfl d_prog_9_3_8 ?_
  refine Wp.getF nm_M_wg3 (host := "") (Or.inl (w_76 hw)) Via.refl 1 1 rfl rfl d_prog_9_3_9 ?_
  refine Wp.aloadN rfl rfl d_prog_9_3_12 ?_
  refine Wp.getF nm_M_wg3 (host := "") (Or.inl (w_78 hw)) Via.refl 1 2 rfl rfl d_prog_9_3_13 ?_
  refine Wp.aloadN rfl rfl d_prog_9_3_16 ?_
  refine Wp.perm [0, 2, 3, 4, 5, 6, 1] 7 pp_0_2_3_4_5_6_1 (H' := ((oUE true a1 (.null) (.null) (.null) (.null)) :: (oAL true l (.int 3) (.ref e) (.int 3)) :: (eO e [.ref y0, .ref y1, .ref y2, .null, .null, .null, .null, .null, .null, .null]) :: (oStr ry0 y0 (v0) (c0)) :: (oStr ry1 y1 (v1) (c1)) :: (oStr ry2 y2 (v2) (c2)) :: (oUE true u (f0) (f1) (f2) (.ref el)) :: F)) rfl ?_
  refine Wp.callC nm_M_wg3 (rm_ue3 hw a1 f0 f1 f2 l e y0 ry0 v0 c0 y1 ry1 v1 c1 y2 ry2 v2 c2 el em mr _ hf0 hf1 hf2 hel hem hmr) (mk_M_ue3 hw) (w_70 hw) (w_71 hw) rfl rfl rfl rfl (Wn := 1) rfl rfl (by decide) d_prog_9_3_17 ?_
  rintro _ _ ⟨q_2, qa_3, rfl, rfl⟩
  refine Wp.perm [0, 1, 2, 8, 3, 4, 5, 6, 7] 9 pp_0_1_2_8_3_4_5_6_7 (H' := ((oUE true a1 (f0) (f1) (f2) (.ref q_2)) :: (oLN true q_2 (.ref qa_3) (.int 0)) :: (eO qa_3 [.ref y0, .ref y1, .ref y2]) :: (oUE true u (f0) (f1) (f2) (.ref el)) :: (oAL true l (.int 3) (.ref e) (.int 3)) :: (eO e [.ref y0, .ref y1, .ref y2, .null, .null, .null, .null, .null, .null, .null]) :: (oStr ry0 y0 (v0) (c0)) :: (oStr ry1 y1 (v1) (c1)) :: (oStr ry2 y2 (v2) (c2)) :: F)) rfl ?_
  refine Wp.aret rfl rfl rfl d_prog_9_3_20 (by decide) (by decide) ?_
  exact ⟨a1, q_2, qa_3, rfl, rfl⟩
theorem d_prog_9_4_0 : Dc prog_9_method_4_code 0 (.aload_n 0) 1 1 := ⟨by decide +kernel, rfl⟩
theorem d_prog_9_4_1 : Dc prog_9_method_4_code 1 (.getfield 18) 3 4 := ⟨by decide +kernel, rfl⟩
theorem d_prog_9_4_4 : Dc prog_9_method_4_code 4 (.areturn) 1 5 := ⟨by decide +kernel, rfl⟩
def M_g0 : Mt := (⟨"com/example/keybridge/keybridge/directory/UserEntry", "getDn", "()Ljava/lang/String;"⟩, prog_9_method_4_code, 1, some (.object "java/lang/String"), ⟨0, 0, 0, 0⟩)
theorem nm_M_g0 : mN M_g0 = ⟨"com/example/keybridge/keybridge/directory/UserEntry", "getDn", "()Ljava/lang/String;"⟩ := by delta mN M_g0; rfl
set_option maxRecDepth 65536 in
set_option maxHeartbeats 40000000 in
theorem rm_g0 {W : Wd} (hw : Ws W) (u : Addr) (f0 : Value) (f1 : Value) (f2 : Value) (gr : Addr) (F : List En) (hf0 : f0.isRef = true) (hf1 : f1.isRef = true) (hf2 : f2.isRef = true) : Ct W M_g0 [.ref u] ((oUE true u (f0) (f1) (f2) (.ref gr)) :: F) (fun v H' => v = some (f0) ∧ H' = ((oUE true u (f0) (f1) (f2) (.ref gr)) :: F)) := by
  refine Ct.intro (L0 := [.val (.ref u)]) (plainFor_of_name pf_com_example_keybridge_keybridge_directory_UserEntry) rfl (fun K => ?_)
  refine Wp.aloadN rfl rfl d_prog_9_4_0 ?_
  refine Wp.getF nm_M_g0 (host := "") (Or.inl (w_74 hw)) Via.refl 0 0 rfl rfl d_prog_9_4_1 ?_
  refine Wp.aret rfl rfl hf0 d_prog_9_4_4 (by decide) (by decide) ?_
  exact ⟨rfl, rfl⟩
theorem d_prog_9_5_0 : Dc prog_9_method_5_code 0 (.aload_n 0) 1 1 := ⟨by decide +kernel, rfl⟩
theorem d_prog_9_5_1 : Dc prog_9_method_5_code 1 (.getfield 22) 3 4 := ⟨by decide +kernel, rfl⟩
theorem d_prog_9_5_4 : Dc prog_9_method_5_code 4 (.areturn) 1 5 := ⟨by decide +kernel, rfl⟩
def M_g1 : Mt := (⟨"com/example/keybridge/keybridge/directory/UserEntry", "getUsername", "()Ljava/lang/String;"⟩, prog_9_method_5_code, 1, some (.object "java/lang/String"), ⟨0, 0, 0, 0⟩)
theorem nm_M_g1 : mN M_g1 = ⟨"com/example/keybridge/keybridge/directory/UserEntry", "getUsername", "()Ljava/lang/String;"⟩ := by delta mN M_g1; rfl
set_option maxRecDepth 65536 in
set_option maxHeartbeats 40000000 in
theorem rm_g1 {W : Wd} (hw : Ws W) (u : Addr) (f0 : Value) (f1 : Value) (f2 : Value) (gr : Addr) (F : List En) (hf0 : f0.isRef = true) (hf1 : f1.isRef = true) (hf2 : f2.isRef = true) : Ct W M_g1 [.ref u] ((oUE true u (f0) (f1) (f2) (.ref gr)) :: F) (fun v H' => v = some (f1) ∧ H' = ((oUE true u (f0) (f1) (f2) (.ref gr)) :: F)) := by
  refine Ct.intro (L0 := [.val (.ref u)]) (plainFor_of_name pf_com_example_keybridge_keybridge_directory_UserEntry) rfl (fun K => ?_)
  refine Wp.aloadN rfl rfl d_prog_9_5_0 ?_
  refine Wp.getF nm_M_g1 (host := "") (Or.inl (w_76 hw)) Via.refl 0 1 rfl rfl d_prog_9_5_1 ?_
  refine Wp.aret rfl rfl hf1 d_prog_9_5_4 (by decide) (by decide) ?_
  exact ⟨rfl, rfl⟩
theorem d_prog_9_6_0 : Dc prog_9_method_6_code 0 (.aload_n 0) 1 1 := ⟨by decide +kernel, rfl⟩
theorem d_prog_9_6_1 : Dc prog_9_method_6_code 1 (.getfield 25) 3 4 := ⟨by decide +kernel, rfl⟩
theorem d_prog_9_6_4 : Dc prog_9_method_6_code 4 (.areturn) 1 5 := ⟨by decide +kernel, rfl⟩
def M_g2 : Mt := (⟨"com/example/keybridge/keybridge/directory/UserEntry", "getMail", "()Ljava/lang/String;"⟩, prog_9_method_6_code, 1, some (.object "java/lang/String"), ⟨0, 0, 0, 0⟩)
theorem nm_M_g2 : mN M_g2 = ⟨"com/example/keybridge/keybridge/directory/UserEntry", "getMail", "()Ljava/lang/String;"⟩ := by delta mN M_g2; rfl
set_option maxRecDepth 65536 in
set_option maxHeartbeats 40000000 in
theorem rm_g2 {W : Wd} (hw : Ws W) (u : Addr) (f0 : Value) (f1 : Value) (f2 : Value) (gr : Addr) (F : List En) (hf0 : f0.isRef = true) (hf1 : f1.isRef = true) (hf2 : f2.isRef = true) : Ct W M_g2 [.ref u] ((oUE true u (f0) (f1) (f2) (.ref gr)) :: F) (fun v H' => v = some (f2) ∧ H' = ((oUE true u (f0) (f1) (f2) (.ref gr)) :: F)) := by
  refine Ct.intro (L0 := [.val (.ref u)]) (plainFor_of_name pf_com_example_keybridge_keybridge_directory_UserEntry) rfl (fun K => ?_)
  refine Wp.aloadN rfl rfl d_prog_9_6_0 ?_
  refine Wp.getF nm_M_g2 (host := "") (Or.inl (w_78 hw)) Via.refl 0 2 rfl rfl d_prog_9_6_1 ?_
  refine Wp.aret rfl rfl hf2 d_prog_9_6_4 (by decide) (by decide) ?_
  exact ⟨rfl, rfl⟩
theorem d_prog_9_7_0 : Dc prog_9_method_7_code 0 (.aload_n 0) 1 1 := ⟨by decide +kernel, rfl⟩
theorem d_prog_9_7_1 : Dc prog_9_method_7_code 1 (.getfield 32) 3 4 := ⟨by decide +kernel, rfl⟩
theorem d_prog_9_7_4 : Dc prog_9_method_7_code 4 (.areturn) 1 5 := ⟨by decide +kernel, rfl⟩
def M_gg : Mt := (⟨"com/example/keybridge/keybridge/directory/UserEntry", "getGroups", "()Ljava/util/List;"⟩, prog_9_method_7_code, 1, some (.object "java/util/List"), ⟨0, 0, 0, 0⟩)
theorem nm_M_gg : mN M_gg = ⟨"com/example/keybridge/keybridge/directory/UserEntry", "getGroups", "()Ljava/util/List;"⟩ := by delta mN M_gg; rfl
set_option maxRecDepth 65536 in
set_option maxHeartbeats 40000000 in
theorem rm_gg {W : Wd} (hw : Ws W) (u : Addr) (f0 : Value) (f1 : Value) (f2 : Value) (gr : Addr) (F : List En) : Ct W M_gg [.ref u] ((oUE true u (f0) (f1) (f2) (.ref gr)) :: F) (fun v H' => v = some (.ref gr) ∧ H' = ((oUE true u (f0) (f1) (f2) (.ref gr)) :: F)) := by
  refine Ct.intro (L0 := [.val (.ref u)]) (plainFor_of_name pf_com_example_keybridge_keybridge_directory_UserEntry) rfl (fun K => ?_)
  refine Wp.aloadN rfl rfl d_prog_9_7_0 ?_
  refine Wp.getF nm_M_gg (host := "") (Or.inl (w_98 hw)) Via.refl 0 3 rfl rfl d_prog_9_7_1 ?_
  refine Wp.aret rfl rfl rfl d_prog_9_7_4 (by decide) (by decide) ?_
  exact ⟨rfl, rfl⟩
theorem d_jdk_45_3_0 : Dc jdk_45_method_3_code 0 (.aload_n 0) 1 1 := ⟨by decide +kernel, rfl⟩
theorem d_jdk_45_3_1 : Dc jdk_45_method_3_code 1 (.getfield 7) 3 4 := ⟨by decide +kernel, rfl⟩
theorem d_jdk_45_3_4 : Dc jdk_45_method_3_code 4 (.arraylength) 1 5 := ⟨by decide +kernel, rfl⟩
theorem d_jdk_45_3_5 : Dc jdk_45_method_3_code 5 (.ireturn) 1 6 := ⟨by decide +kernel, rfl⟩
def M_szE : Mt := (⟨"java/util/ImmutableCollections$ListN", "size", "()I"⟩, jdk_45_method_3_code, 1, some .int, ⟨0, 0, 0, 0⟩)
theorem nm_M_szE : mN M_szE = ⟨"java/util/ImmutableCollections$ListN", "size", "()I"⟩ := by delta mN M_szE; rfl
set_option maxRecDepth 65536 in
set_option maxHeartbeats 40000000 in
theorem rm_szE {W : Wd} (hw : Ws W) (el : Addr) (ee : Addr) (F : List En) : Ct W M_szE [.ref el] ((oLN false el (.ref ee) (.int 0)) :: (ee, false, .inr ((.object "java/lang/Object"), true, false, [])) :: F) (fun v H' => v = some (.int 0) ∧ H' = ((oLN false el (.ref ee) (.int 0)) :: (ee, false, .inr ((.object "java/lang/Object"), true, false, [])) :: F)) := by
  refine Ct.intro (L0 := [.val (.ref el)]) (plainFor_of_name pf_java_util_ImmutableCollections_ListN) rfl (fun K => ?_)
  refine Wp.aloadN rfl rfl d_jdk_45_3_0 ?_
  refine Wp.getF nm_M_szE (host := "") (Or.inl (w_186 hw)) Via.refl 0 0 rfl rfl d_jdk_45_3_1 ?_
  refine Wp.alen (z := 0) 1 rfl (by decide) d_jdk_45_3_4 ?_
  refine Wp.iret rfl d_jdk_45_3_5 (by decide) (by decide) ?_
  exact ⟨rfl, rfl⟩
def M_sz3 : Mt := (⟨"java/util/ImmutableCollections$ListN", "size", "()I"⟩, jdk_45_method_3_code, 1, some .int, ⟨0, 0, 0, 0⟩)
theorem nm_M_sz3 : mN M_sz3 = ⟨"java/util/ImmutableCollections$ListN", "size", "()I"⟩ := by delta mN M_sz3; rfl
set_option maxRecDepth 65536 in
set_option maxHeartbeats 40000000 in
theorem rm_sz3 {W : Wd} (hw : Ws W) (q : Addr) (qa : Addr) (y0 : Addr) (y1 : Addr) (y2 : Addr) (F : List En) : Ct W M_sz3 [.ref q] ((oLN true q (.ref qa) (.int 0)) :: (eO qa [.ref y0, .ref y1, .ref y2]) :: F) (fun v H' => v = some (.int 3) ∧ H' = ((oLN true q (.ref qa) (.int 0)) :: (eO qa [.ref y0, .ref y1, .ref y2]) :: F)) := by
  refine Ct.intro (L0 := [.val (.ref q)]) (plainFor_of_name pf_java_util_ImmutableCollections_ListN) rfl (fun K => ?_)
  refine Wp.aloadN rfl rfl d_jdk_45_3_0 ?_
  refine Wp.getF nm_M_sz3 (host := "") (Or.inl (w_186 hw)) Via.refl 0 0 rfl rfl d_jdk_45_3_1 ?_
  refine Wp.alen (z := 3) 1 rfl rfl d_jdk_45_3_4 ?_
  refine Wp.iret rfl d_jdk_45_3_5 (by decide) (by decide) ?_
  exact ⟨rfl, rfl⟩
theorem d_jdk_44_3_0 : Dc jdk_44_method_3_code 0 (.aload_n 0) 1 1 := ⟨by decide +kernel, rfl⟩
theorem d_jdk_44_3_1 : Dc jdk_44_method_3_code 1 (.getfield 24) 3 4 := ⟨by decide +kernel, rfl⟩
theorem d_jdk_44_3_4 : Dc jdk_44_method_3_code 4 (.getstatic 19) 3 7 := ⟨by decide +kernel, rfl⟩
theorem d_jdk_44_3_7 : Bj jdk_44_method_3_code 7 (.if_acmp .eq 7) 7 10 14 := ⟨by decide +kernel, rfl, by decide, rfl⟩
theorem d_jdk_44_3_14 : Dc jdk_44_method_3_code 14 (.iconst 1) 1 15 := ⟨by decide +kernel, rfl⟩
theorem d_jdk_44_3_15 : Dc jdk_44_method_3_code 15 (.ireturn) 1 16 := ⟨by decide +kernel, rfl⟩
def M_sz1 : Mt := (⟨"java/util/ImmutableCollections$List12", "size", "()I"⟩, jdk_44_method_3_code, 1, some .int, ⟨0, 0, 0, 0⟩)
theorem nm_M_sz1 : mN M_sz1 = ⟨"java/util/ImmutableCollections$List12", "size", "()I"⟩ := by delta mN M_sz1; rfl
set_option maxRecDepth 65536 in
set_option maxHeartbeats 40000000 in
theorem rm_sz1 {W : Wd} (hw : Ws W) (q : Addr) (y0 : Addr) (em : Addr) (F : List En) (hem : Sta (wZ W) (wZ W).heap "java/util/ImmutableCollections" "EMPTY" "Ljava/lang/Object;" (.ref em)) : Ct W M_sz1 [.ref q] ((oL12 true q (.ref y0) (.ref em)) :: F) (fun v H' => v = some (.int 1) ∧ H' = ((oL12 true q (.ref y0) (.ref em)) :: F)) := by
  refine Ct.intro (L0 := [.val (.ref q)]) (plainFor_of_name pf_java_util_ImmutableCollections_List12) rfl (fun K => ?_)
  refine Wp.aloadN rfl rfl d_jdk_44_3_0 ?_
  refine Wp.getF nm_M_sz1 (host := "") (Or.inl (w_248 hw)) Via.refl 0 1 rfl rfl d_jdk_44_3_1 ?_
  refine Wp.getS nm_M_sz1 (Or.inr (w_256 hw)) Via.refl hem d_jdk_44_3_4 ?_
  refine Wp.acT rfl rfl (acT_eq _) d_jdk_44_3_7 ?_
  refine Wp.iconst lc_1 d_jdk_44_3_14 ?_
  refine Wp.iret rfl d_jdk_44_3_15 (by decide) (by decide) ?_
  exact ⟨rfl, rfl⟩
theorem d_jdk_44_3_10 : Dc jdk_44_method_3_code 10 (.iconst 2) 1 11 := ⟨by decide +kernel, rfl⟩
theorem d_jdk_44_3_11 : Bj jdk_44_method_3_code 11 (.goto 4) 4 14 15 := ⟨by decide +kernel, rfl, by decide, rfl⟩
def M_sz2 : Mt := (⟨"java/util/ImmutableCollections$List12", "size", "()I"⟩, jdk_44_method_3_code, 1, some .int, ⟨0, 0, 0, 0⟩)
theorem nm_M_sz2 : mN M_sz2 = ⟨"java/util/ImmutableCollections$List12", "size", "()I"⟩ := by delta mN M_sz2; rfl
set_option maxRecDepth 65536 in
set_option maxHeartbeats 40000000 in
theorem rm_sz2 {W : Wd} (hw : Ws W) (q : Addr) (y0 : Addr) (y1 : Addr) (v1 : Value) (c1 : Value) (em : Addr) (F : List En) (hem : Sta (wZ W) (wZ W).heap "java/util/ImmutableCollections" "EMPTY" "Ljava/lang/Object;" (.ref em)) : Ct W M_sz2 [.ref q] ((oL12 true q (.ref y0) (.ref y1)) :: (oStr true y1 (v1) (c1)) :: (oOb false em ) :: F) (fun v H' => v = some (.int 2) ∧ H' = ((oL12 true q (.ref y0) (.ref y1)) :: (oStr true y1 (v1) (c1)) :: (oOb false em ) :: F)) := by
  refine Ct.intro (L0 := [.val (.ref q)]) (plainFor_of_name pf_java_util_ImmutableCollections_List12) rfl (fun K => ?_)
  refine Wp.aloadN rfl rfl d_jdk_44_3_0 ?_
  refine Wp.getF nm_M_sz2 (host := "") (Or.inl (w_248 hw)) Via.refl 0 1 rfl rfl d_jdk_44_3_1 ?_
  refine Wp.getS nm_M_sz2 (Or.inr (w_256 hw)) Via.refl hem d_jdk_44_3_4 ?_
  refine Wp.apart 1 2 rfl rfl (by decide) rfl (fun ne1 => ?_)
  refine Wp.acF rfl rfl (acF_eq (fun e => ne1 e.symm)) d_jdk_44_3_7 ?_
  refine Wp.iconst lc_2 d_jdk_44_3_10 ?_
  refine Wp.goto d_jdk_44_3_11 ?_
  refine Wp.iret rfl d_jdk_44_3_15 (by decide) (by decide) ?_
  exact ⟨rfl, rfl⟩
theorem d_jdk_44_5_0 : Dc jdk_44_method_5_code 0 (.iload_n 1) 1 1 := ⟨by decide +kernel, rfl⟩
theorem d_jdk_44_5_1 : Bj jdk_44_method_5_code 1 (.ifCond .ne 8) 8 4 9 := ⟨by decide +kernel, rfl, by decide, rfl⟩
theorem d_jdk_44_5_4 : Dc jdk_44_method_5_code 4 (.aload_n 0) 1 5 := ⟨by decide +kernel, rfl⟩
theorem d_jdk_44_5_5 : Dc jdk_44_method_5_code 5 (.getfield 13) 3 8 := ⟨by decide +kernel, rfl⟩
theorem d_jdk_44_5_8 : Dc jdk_44_method_5_code 8 (.areturn) 1 9 := ⟨by decide +kernel, rfl⟩
def M_gt0 : Mt := (⟨"java/util/ImmutableCollections$List12", "get", "(I)Ljava/lang/Object;"⟩, jdk_44_method_5_code, 2, some (.object "java/lang/Object"), ⟨0, 0, 0, 0⟩)
theorem nm_M_gt0 : mN M_gt0 = ⟨"java/util/ImmutableCollections$List12", "get", "(I)Ljava/lang/Object;"⟩ := by delta mN M_gt0; rfl
set_option maxRecDepth 65536 in
set_option maxHeartbeats 40000000 in
theorem rm_gt0 {W : Wd} (hw : Ws W) (q : Addr) (y0 : Addr) (y1 : Addr) (F : List En) : Ct W M_gt0 [.ref q, .int 0] ((oL12 true q (.ref y0) (.ref y1)) :: F) (fun v H' => v = some (.ref y0) ∧ H' = ((oL12 true q (.ref y0) (.ref y1)) :: F)) := by
  refine Ct.intro (L0 := [.val (.ref q), .val (.int 0)]) (plainFor_of_name pf_java_util_ImmutableCollections_List12) rfl (fun K => ?_)
  refine Wp.iloadN rfl d_jdk_44_5_0 ?_
  refine Wp.ifF (by decide) d_jdk_44_5_1 ?_
  refine Wp.aloadN rfl rfl d_jdk_44_5_4 ?_
  refine Wp.getF nm_M_gt0 (host := "") (Or.inl (w_246 hw)) Via.refl 0 0 rfl rfl d_jdk_44_5_5 ?_
  refine Wp.aret rfl rfl rfl d_jdk_44_5_8 (by decide) (by decide) ?_
  exact ⟨rfl, rfl⟩
theorem d_jdk_44_5_9 : Dc jdk_44_method_5_code 9 (.iload_n 1) 1 10 := ⟨by decide +kernel, rfl⟩
theorem d_jdk_44_5_10 : Dc jdk_44_method_5_code 10 (.iconst 1) 1 11 := ⟨by decide +kernel, rfl⟩
theorem d_jdk_44_5_11 : Bj jdk_44_method_5_code 11 (.if_icmp .ne 18) 18 14 29 := ⟨by decide +kernel, rfl, by decide, rfl⟩
theorem d_jdk_44_5_14 : Dc jdk_44_method_5_code 14 (.aload_n 0) 1 15 := ⟨by decide +kernel, rfl⟩
theorem d_jdk_44_5_15 : Dc jdk_44_method_5_code 15 (.getfield 24) 3 18 := ⟨by decide +kernel, rfl⟩
theorem d_jdk_44_5_18 : Dc jdk_44_method_5_code 18 (.getstatic 19) 3 21 := ⟨by decide +kernel, rfl⟩
theorem d_jdk_44_5_21 : Bj jdk_44_method_5_code 21 (.if_acmp .eq 8) 8 24 29 := ⟨by decide +kernel, rfl, by decide, rfl⟩
theorem d_jdk_44_5_24 : Dc jdk_44_method_5_code 24 (.aload_n 0) 1 25 := ⟨by decide +kernel, rfl⟩
theorem d_jdk_44_5_25 : Dc jdk_44_method_5_code 25 (.getfield 24) 3 28 := ⟨by decide +kernel, rfl⟩
theorem d_jdk_44_5_28 : Dc jdk_44_method_5_code 28 (.areturn) 1 29 := ⟨by decide +kernel, rfl⟩
def M_gt1 : Mt := (⟨"java/util/ImmutableCollections$List12", "get", "(I)Ljava/lang/Object;"⟩, jdk_44_method_5_code, 2, some (.object "java/lang/Object"), ⟨0, 0, 0, 0⟩)
theorem nm_M_gt1 : mN M_gt1 = ⟨"java/util/ImmutableCollections$List12", "get", "(I)Ljava/lang/Object;"⟩ := by delta mN M_gt1; rfl
set_option maxRecDepth 65536 in
set_option maxHeartbeats 40000000 in
theorem rm_gt1 {W : Wd} (hw : Ws W) (q : Addr) (y0 : Addr) (y1 : Addr) (v1 : Value) (c1 : Value) (em : Addr) (F : List En) (hem : Sta (wZ W) (wZ W).heap "java/util/ImmutableCollections" "EMPTY" "Ljava/lang/Object;" (.ref em)) : Ct W M_gt1 [.ref q, .int 1] ((oL12 true q (.ref y0) (.ref y1)) :: (oStr true y1 (v1) (c1)) :: (oOb false em ) :: F) (fun v H' => v = some (.ref y1) ∧ H' = ((oL12 true q (.ref y0) (.ref y1)) :: (oStr true y1 (v1) (c1)) :: (oOb false em ) :: F)) := by
  refine Ct.intro (L0 := [.val (.ref q), .val (.int 1)]) (plainFor_of_name pf_java_util_ImmutableCollections_List12) rfl (fun K => ?_)
  refine Wp.iloadN rfl d_jdk_44_5_0 ?_
  refine Wp.ifT (by decide) d_jdk_44_5_1 ?_
  refine Wp.iloadN rfl d_jdk_44_5_9 ?_
  refine Wp.iconst lc_1 d_jdk_44_5_10 ?_
  refine Wp.icF (by decide) d_jdk_44_5_11 ?_
  refine Wp.aloadN rfl rfl d_jdk_44_5_14 ?_
  refine Wp.getF nm_M_gt1 (host := "") (Or.inl (w_248 hw)) Via.refl 0 1 rfl rfl d_jdk_44_5_15 ?_
  refine Wp.getS nm_M_gt1 (Or.inr (w_256 hw)) Via.refl hem d_jdk_44_5_18 ?_
  refine Wp.apart 1 2 rfl rfl (by decide) rfl (fun ne1 => ?_)
  refine Wp.acF rfl rfl (acF_eq (fun e => ne1 e.symm)) d_jdk_44_5_21 ?_
  refine Wp.aloadN rfl rfl d_jdk_44_5_24 ?_
  refine Wp.getF nm_M_gt1 (host := "") (Or.inl (w_248 hw)) Via.refl 0 1 rfl rfl d_jdk_44_5_25 ?_
  refine Wp.aret rfl rfl rfl d_jdk_44_5_28 (by decide) (by decide) ?_
  exact ⟨rfl, rfl⟩
theorem d_jdk_45_4_0 : Dc jdk_45_method_4_code 0 (.aload_n 0) 1 1 := ⟨by decide +kernel, rfl⟩
theorem d_jdk_45_4_1 : Dc jdk_45_method_4_code 1 (.getfield 7) 3 4 := ⟨by decide +kernel, rfl⟩
theorem d_jdk_45_4_4 : Dc jdk_45_method_4_code 4 (.iload_n 1) 1 5 := ⟨by decide +kernel, rfl⟩
theorem d_jdk_45_4_5 : Dc jdk_45_method_4_code 5 (.aaload) 1 6 := ⟨by decide +kernel, rfl⟩
theorem d_jdk_45_4_6 : Dc jdk_45_method_4_code 6 (.areturn) 1 7 := ⟨by decide +kernel, rfl⟩
def M_gn0 : Mt := (⟨"java/util/ImmutableCollections$ListN", "get", "(I)Ljava/lang/Object;"⟩, jdk_45_method_4_code, 2, some (.object "java/lang/Object"), ⟨0, 0, 0, 0⟩)
theorem nm_M_gn0 : mN M_gn0 = ⟨"java/util/ImmutableCollections$ListN", "get", "(I)Ljava/lang/Object;"⟩ := by delta mN M_gn0; rfl
set_option maxRecDepth 65536 in
set_option maxHeartbeats 40000000 in
theorem rm_gn0 {W : Wd} (hw : Ws W) (q : Addr) (qa : Addr) (y0 : Addr) (y1 : Addr) (y2 : Addr) (F : List En) : Ct W M_gn0 [.ref q, .int 0] ((oLN true q (.ref qa) (.int 0)) :: (eO qa [.ref y0, .ref y1, .ref y2]) :: F) (fun v H' => v = some (.ref y0) ∧ H' = ((oLN true q (.ref qa) (.int 0)) :: (eO qa [.ref y0, .ref y1, .ref y2]) :: F)) := by
  refine Ct.intro (L0 := [.val (.ref q), .val (.int 0)]) (plainFor_of_name pf_java_util_ImmutableCollections_ListN) rfl (fun K => ?_)
  refine Wp.aloadN rfl rfl d_jdk_45_4_0 ?_
  refine Wp.getF nm_M_gn0 (host := "") (Or.inl (w_186 hw)) Via.refl 0 0 rfl rfl d_jdk_45_4_1 ?_
  refine Wp.iloadN rfl d_jdk_45_4_4 ?_
  refine Wp.aaload 1 0 rfl rfl (by decide) (by decide) rfl d_jdk_45_4_5 ?_
  refine Wp.aret rfl rfl rfl d_jdk_45_4_6 (by decide) (by decide) ?_
  exact ⟨rfl, rfl⟩
def M_gn1 : Mt := (⟨"java/util/ImmutableCollections$ListN", "get", "(I)Ljava/lang/Object;"⟩, jdk_45_method_4_code, 2, some (.object "java/lang/Object"), ⟨0, 0, 0, 0⟩)
theorem nm_M_gn1 : mN M_gn1 = ⟨"java/util/ImmutableCollections$ListN", "get", "(I)Ljava/lang/Object;"⟩ := by delta mN M_gn1; rfl
set_option maxRecDepth 65536 in
set_option maxHeartbeats 40000000 in
theorem rm_gn1 {W : Wd} (hw : Ws W) (q : Addr) (qa : Addr) (y0 : Addr) (y1 : Addr) (y2 : Addr) (F : List En) : Ct W M_gn1 [.ref q, .int 1] ((oLN true q (.ref qa) (.int 0)) :: (eO qa [.ref y0, .ref y1, .ref y2]) :: F) (fun v H' => v = some (.ref y1) ∧ H' = ((oLN true q (.ref qa) (.int 0)) :: (eO qa [.ref y0, .ref y1, .ref y2]) :: F)) := by
  refine Ct.intro (L0 := [.val (.ref q), .val (.int 1)]) (plainFor_of_name pf_java_util_ImmutableCollections_ListN) rfl (fun K => ?_)
  refine Wp.aloadN rfl rfl d_jdk_45_4_0 ?_
  refine Wp.getF nm_M_gn1 (host := "") (Or.inl (w_186 hw)) Via.refl 0 0 rfl rfl d_jdk_45_4_1 ?_
  refine Wp.iloadN rfl d_jdk_45_4_4 ?_
  refine Wp.aaload 1 1 rfl rfl (by decide) (by decide) rfl d_jdk_45_4_5 ?_
  refine Wp.aret rfl rfl rfl d_jdk_45_4_6 (by decide) (by decide) ?_
  exact ⟨rfl, rfl⟩
def M_gn2 : Mt := (⟨"java/util/ImmutableCollections$ListN", "get", "(I)Ljava/lang/Object;"⟩, jdk_45_method_4_code, 2, some (.object "java/lang/Object"), ⟨0, 0, 0, 0⟩)
theorem nm_M_gn2 : mN M_gn2 = ⟨"java/util/ImmutableCollections$ListN", "get", "(I)Ljava/lang/Object;"⟩ := by delta mN M_gn2; rfl
set_option maxRecDepth 65536 in
set_option maxHeartbeats 40000000 in
theorem rm_gn2 {W : Wd} (hw : Ws W) (q : Addr) (qa : Addr) (y0 : Addr) (y1 : Addr) (y2 : Addr) (F : List En) : Ct W M_gn2 [.ref q, .int 2] ((oLN true q (.ref qa) (.int 0)) :: (eO qa [.ref y0, .ref y1, .ref y2]) :: F) (fun v H' => v = some (.ref y2) ∧ H' = ((oLN true q (.ref qa) (.int 0)) :: (eO qa [.ref y0, .ref y1, .ref y2]) :: F)) := by
  refine Ct.intro (L0 := [.val (.ref q), .val (.int 2)]) (plainFor_of_name pf_java_util_ImmutableCollections_ListN) rfl (fun K => ?_)
  refine Wp.aloadN rfl rfl d_jdk_45_4_0 ?_
  refine Wp.getF nm_M_gn2 (host := "") (Or.inl (w_186 hw)) Via.refl 0 0 rfl rfl d_jdk_45_4_1 ?_
  refine Wp.iloadN rfl d_jdk_45_4_4 ?_
  refine Wp.aaload 1 2 rfl rfl (by decide) (by decide) rfl d_jdk_45_4_5 ?_
  refine Wp.aret rfl rfl rfl d_jdk_45_4_6 (by decide) (by decide) ?_
  exact ⟨rfl, rfl⟩
theorem d_law_0 : Dc code 0 (.iload_n 0) 1 1 := ⟨by decide +kernel, rfl⟩
theorem d_law_1 : Dc code 1 (.invokestatic 16) 3 4 := ⟨by decide +kernel, rfl⟩
theorem w_3 {W : Wd} (hw : Ws W) : Wok W (Jvm.Cond.code ({ cls := "com/example/keybridge/keybridge/directory/UserEntryWithGroupsPinLaw", name := "str", desc := "(I)Ljava/lang/String;" } : Jvm.MethodName) method_2_code (3 : Nat) (Option.some (Jvm.ClassFile.FieldType.object "java/lang/String"))) := hw.1 _ (List.mem_of_getElem? (i := 3) rfl)
theorem w_2 {W : Wd} (hw : Ws W) : Wok W (Jvm.Cond.initialized "com/example/keybridge/keybridge/directory/UserEntryWithGroupsPinLaw") := hw.1 _ (List.mem_of_getElem? (i := 2) rfl)
theorem pd__I_Ljava_lang_String_ : parseMethodDescriptor "(I)Ljava/lang/String;" = some ⟨[.int], some (.object "java/lang/String")⟩ := by decide +kernel
theorem mk_M_str {W : Wd} (hw : Ws W) : Mk W M_str ⟨"com/example/keybridge/keybridge/directory/UserEntryWithGroupsPinLaw", "str", "(I)Ljava/lang/String;"⟩ 1 := Mk.of nm_M_str rfl rfl rfl (w_3 hw) (w_2 hw) (mkLen pd__I_Ljava_lang_String_ rfl) (by decide)
theorem w_0 {W : Wd} (hw : Ws W) : Wok W (Jvm.Cond.methodLink "com/example/keybridge/keybridge/directory/UserEntryWithGroupsPinLaw" (16 : Nat) ({ cls := "com/example/keybridge/keybridge/directory/UserEntryWithGroupsPinLaw", name := "str", desc := "(I)Ljava/lang/String;" } : Jvm.MethodName)) := hw.1 _ (List.mem_of_getElem? (i := 0) rfl)
theorem w_1 {W : Wd} (hw : Ws W) : Wok W (Jvm.Cond.static ({ cls := "com/example/keybridge/keybridge/directory/UserEntryWithGroupsPinLaw", name := "str", desc := "(I)Ljava/lang/String;" } : Jvm.MethodName)) := hw.1 _ (List.mem_of_getElem? (i := 1) rfl)
theorem d_law_4 : Dc code 4 (.astore 6) 2 6 := ⟨by decide +kernel, rfl⟩
theorem d_law_6 : Dc code 6 (.iload_n 1) 1 7 := ⟨by decide +kernel, rfl⟩
theorem d_law_7 : Dc code 7 (.bipush 24) 2 9 := ⟨by decide +kernel, rfl⟩
theorem lb_24 : (Int8.ofInt 24).toInt32 = 24 := by decide
theorem d_law_9 : Dc code 9 (.iushr) 1 10 := ⟨by decide +kernel, rfl⟩
theorem d_law_10 : Dc code 10 (.iconst 1) 1 11 := ⟨by decide +kernel, rfl⟩
theorem d_law_11 : Dc code 11 (.iand) 1 12 := ⟨by decide +kernel, rfl⟩
theorem d_law_12 : Bj code 12 (.ifCond .eq 7) 7 15 19 := ⟨by decide +kernel, rfl, by decide, rfl⟩
theorem d_law_19 : Dc code 19 (.iload_n 1) 1 20 := ⟨by decide +kernel, rfl⟩
theorem d_law_20 : Dc code 20 (.invokestatic 16) 3 23 := ⟨by decide +kernel, rfl⟩
theorem d_law_23 : Dc code 23 (.astore 7) 2 25 := ⟨by decide +kernel, rfl⟩
theorem d_law_25 : Dc code 25 (.iload_n 2) 1 26 := ⟨by decide +kernel, rfl⟩
theorem d_law_26 : Dc code 26 (.bipush 24) 2 28 := ⟨by decide +kernel, rfl⟩
theorem d_law_28 : Dc code 28 (.iushr) 1 29 := ⟨by decide +kernel, rfl⟩
theorem d_law_29 : Dc code 29 (.iconst 1) 1 30 := ⟨by decide +kernel, rfl⟩
theorem d_law_30 : Dc code 30 (.iand) 1 31 := ⟨by decide +kernel, rfl⟩
theorem d_law_31 : Bj code 31 (.ifCond .eq 7) 7 34 38 := ⟨by decide +kernel, rfl, by decide, rfl⟩
theorem d_law_38 : Dc code 38 (.iload_n 2) 1 39 := ⟨by decide +kernel, rfl⟩
theorem d_law_39 : Dc code 39 (.invokestatic 16) 3 42 := ⟨by decide +kernel, rfl⟩
theorem d_law_42 : Dc code 42 (.astore 8) 2 44 := ⟨by decide +kernel, rfl⟩
theorem d_law_44 : Dc code 44 (.iload_n 3) 1 45 := ⟨by decide +kernel, rfl⟩
theorem d_law_45 : Dc code 45 (.bipush 24) 2 47 := ⟨by decide +kernel, rfl⟩
theorem d_law_47 : Dc code 47 (.iushr) 1 48 := ⟨by decide +kernel, rfl⟩
theorem d_law_48 : Dc code 48 (.iconst 3) 1 49 := ⟨by decide +kernel, rfl⟩
theorem lc_3 : Int32.ofInt 3 = 3 := by decide
theorem d_law_49 : Dc code 49 (.iand) 1 50 := ⟨by decide +kernel, rfl⟩
theorem d_law_50 : Dc code 50 (.istore 9) 2 52 := ⟨by decide +kernel, rfl⟩
theorem d_law_52 : Dc code 52 (.iload_n 3) 1 53 := ⟨by decide +kernel, rfl⟩
theorem d_law_53 : Dc code 53 (.invokestatic 16) 3 56 := ⟨by decide +kernel, rfl⟩
theorem d_law_56 : Dc code 56 (.astore 10) 2 58 := ⟨by decide +kernel, rfl⟩
theorem d_law_58 : Dc code 58 (.iload 4) 2 60 := ⟨by decide +kernel, rfl⟩
theorem d_law_60 : Dc code 60 (.invokestatic 16) 3 63 := ⟨by decide +kernel, rfl⟩
theorem d_law_63 : Dc code 63 (.astore 11) 2 65 := ⟨by decide +kernel, rfl⟩
theorem d_law_65 : Dc code 65 (.iload 5) 2 67 := ⟨by decide +kernel, rfl⟩
theorem d_law_67 : Dc code 67 (.invokestatic 16) 3 70 := ⟨by decide +kernel, rfl⟩
theorem d_law_70 : Dc code 70 (.astore 12) 2 72 := ⟨by decide +kernel, rfl⟩
theorem d_law_72 : Dc code 72 (.new 22) 3 75 := ⟨by decide +kernel, rfl⟩
theorem w_34 {W : Wd} (hw : Ws W) : Wok W (Jvm.Cond.classLink "com/example/keybridge/keybridge/directory/UserEntryWithGroupsPinLaw" (22 : Nat) "java/util/ArrayList") := hw.1 _ (List.mem_of_getElem? (i := 34) rfl)
theorem nf_oAL {W : Wd} (hw : Ws W) : NewFs W "java/util/ArrayList" [("java/util/AbstractList", "modCount", "I", .int 0), ("java/util/ArrayList", "elementData", "[Ljava/lang/Object;", .null), ("java/util/ArrayList", "size", "I", .int 0)] := NewFs.cons (Or.inl (w_54 hw)) (ty := .int) (by decide) rfl (by decide) (NewFs.cons (Or.inl (w_57 hw)) (ty := (.array (.object "java/lang/Object"))) (by decide) rfl (by decide) (NewFs.cons (Or.inl (w_118 hw)) (ty := .int) (by decide) rfl (by decide) (NewFs.nil)))
theorem d_law_75 : Dc code 75 (.dup) 1 76 := ⟨by decide +kernel, rfl⟩
theorem d_law_76 : Dc code 76 (.invokespecial 24) 3 79 := ⟨by decide +kernel, rfl⟩
theorem w_39 {W : Wd} (hw : Ws W) : Wok W (Jvm.Cond.code ({ cls := "java/util/ArrayList", name := "<init>", desc := "()V" } : Jvm.MethodName) jdk_38_method_2_code (1 : Nat) (Option.none : Option Jvm.ClassFile.FieldType)) := hw.1 _ (List.mem_of_getElem? (i := 39) rfl)
theorem mk_M_ali {W : Wd} (hw : Ws W) : Mk W M_ali ⟨"java/util/ArrayList", "<init>", "()V"⟩ 0 := Mk.of nm_M_ali rfl rfl rfl (w_39 hw) (w_36 hw) (mkLen pd___V rfl) (by decide)
theorem w_37 {W : Wd} (hw : Ws W) : Wok W (Jvm.Cond.methodLink "com/example/keybridge/keybridge/directory/UserEntryWithGroupsPinLaw" (24 : Nat) ({ cls := "java/util/ArrayList", name := "<init>", desc := "()V" } : Jvm.MethodName)) := hw.1 _ (List.mem_of_getElem? (i := 37) rfl)
theorem w_38 {W : Wd} (hw : Ws W) : Wok W (Jvm.Cond.instanceMethod ({ cls := "java/util/ArrayList", name := "<init>", desc := "()V" } : Jvm.MethodName)) := hw.1 _ (List.mem_of_getElem? (i := 38) rfl)
theorem d_law_79 : Dc code 79 (.astore 13) 2 81 := ⟨by decide +kernel, rfl⟩
theorem d_law_81 : Dc code 81 (.iload 9) 2 83 := ⟨by decide +kernel, rfl⟩
theorem d_law_83 : Dc code 83 (.iconst 1) 1 84 := ⟨by decide +kernel, rfl⟩
theorem d_law_84 : Bj code 84 (.if_icmp .lt 11) 11 87 95 := ⟨by decide +kernel, rfl, by decide, rfl⟩
theorem d_law_95 : Dc code 95 (.iload 9) 2 97 := ⟨by decide +kernel, rfl⟩
theorem d_law_97 : Dc code 97 (.iconst 2) 1 98 := ⟨by decide +kernel, rfl⟩
theorem d_law_98 : Bj code 98 (.if_icmp .lt 11) 11 101 109 := ⟨by decide +kernel, rfl, by decide, rfl⟩
theorem d_law_109 : Dc code 109 (.iload 9) 2 111 := ⟨by decide +kernel, rfl⟩
theorem d_law_111 : Dc code 111 (.iconst 3) 1 112 := ⟨by decide +kernel, rfl⟩
theorem d_law_112 : Bj code 112 (.if_icmp .lt 11) 11 115 123 := ⟨by decide +kernel, rfl, by decide, rfl⟩
theorem d_law_123 : Dc code 123 (.new 28) 3 126 := ⟨by decide +kernel, rfl⟩
theorem w_58 {W : Wd} (hw : Ws W) : Wok W (Jvm.Cond.classLink "com/example/keybridge/keybridge/directory/UserEntryWithGroupsPinLaw" (28 : Nat) "com/example/keybridge/keybridge/directory/UserEntry") := hw.1 _ (List.mem_of_getElem? (i := 58) rfl)
theorem d_law_126 : Dc code 126 (.dup) 1 127 := ⟨by decide +kernel, rfl⟩
theorem d_law_127 : Dc code 127 (.aload 6) 2 129 := ⟨by decide +kernel, rfl⟩
theorem d_law_129 : Dc code 129 (.aload 7) 2 131 := ⟨by decide +kernel, rfl⟩
theorem d_law_131 : Dc code 131 (.aload 8) 2 133 := ⟨by decide +kernel, rfl⟩
theorem d_law_133 : Dc code 133 (.invokespecial 30) 3 136 := ⟨by decide +kernel, rfl⟩
theorem pp_0_8_1_2_3_4_5_6_7 : [0, 8, 1, 2, 3, 4, 5, 6, 7].isPerm (List.range 9) = true := by decide +kernel
theorem w_63 {W : Wd} (hw : Ws W) : Wok W (Jvm.Cond.code ({ cls := "com/example/keybridge/keybridge/directory/UserEntry", name := "<init>", desc := "(Ljava/lang/String;Ljava/lang/String;Ljava/lang/String;)V" } : Jvm.MethodName) prog_9_method_1_code (4 : Nat) (Option.none : Option Jvm.ClassFile.FieldType)) := hw.1 _ (List.mem_of_getElem? (i := 63) rfl)
theorem pd__Ljava_lang_String_Ljava_lang_String_Ljava_lang_String__V : parseMethodDescriptor "(Ljava/lang/String;Ljava/lang/String;Ljava/lang/String;)V" = some ⟨[(.object "java/lang/String"), (.object "java/lang/String"), (.object "java/lang/String")], none⟩ := by decide +kernel
theorem mk_M_ue3a {W : Wd} (hw : Ws W) : Mk W M_ue3a ⟨"com/example/keybridge/keybridge/directory/UserEntry", "<init>", "(Ljava/lang/String;Ljava/lang/String;Ljava/lang/String;)V"⟩ 3 := Mk.of nm_M_ue3a rfl rfl rfl (w_63 hw) (w_60 hw) (mkLen pd__Ljava_lang_String_Ljava_lang_String_Ljava_lang_String__V rfl) (by decide)
theorem w_61 {W : Wd} (hw : Ws W) : Wok W (Jvm.Cond.methodLink "com/example/keybridge/keybridge/directory/UserEntryWithGroupsPinLaw" (30 : Nat) ({ cls := "com/example/keybridge/keybridge/directory/UserEntry", name := "<init>", desc := "(Ljava/lang/String;Ljava/lang/String;Ljava/lang/String;)V" } : Jvm.MethodName)) := hw.1 _ (List.mem_of_getElem? (i := 61) rfl)
theorem w_62 {W : Wd} (hw : Ws W) : Wok W (Jvm.Cond.instanceMethod ({ cls := "com/example/keybridge/keybridge/directory/UserEntry", name := "<init>", desc := "(Ljava/lang/String;Ljava/lang/String;Ljava/lang/String;)V" } : Jvm.MethodName)) := hw.1 _ (List.mem_of_getElem? (i := 62) rfl)
theorem d_law_136 : Dc code 136 (.astore 14) 2 138 := ⟨by decide +kernel, rfl⟩
theorem d_law_138 : Dc code 138 (.aload 14) 2 140 := ⟨by decide +kernel, rfl⟩
theorem d_law_140 : Dc code 140 (.aload 13) 2 142 := ⟨by decide +kernel, rfl⟩
theorem d_law_142 : Dc code 142 (.invokevirtual 33) 3 145 := ⟨by decide +kernel, rfl⟩
theorem w_103 {W : Wd} (hw : Ws W) : Wok W (Jvm.Cond.selects "com/example/keybridge/keybridge/directory/UserEntry" ({ cls := "com/example/keybridge/keybridge/directory/UserEntry", name := "withGroups", desc := "(Ljava/util/List;)Lcom/example/keybridge/keybridge/directory/UserEntry;" } : Jvm.MethodName) ({ cls := "com/example/keybridge/keybridge/directory/UserEntry", name := "withGroups", desc := "(Ljava/util/List;)Lcom/example/keybridge/keybridge/directory/UserEntry;" } : Jvm.MethodName)) := hw.1 _ (List.mem_of_getElem? (i := 103) rfl)
theorem w_104 {W : Wd} (hw : Ws W) : Wok W (Jvm.Cond.code ({ cls := "com/example/keybridge/keybridge/directory/UserEntry", name := "withGroups", desc := "(Ljava/util/List;)Lcom/example/keybridge/keybridge/directory/UserEntry;" } : Jvm.MethodName) prog_9_method_3_code (2 : Nat) (Option.some (Jvm.ClassFile.FieldType.object "com/example/keybridge/keybridge/directory/UserEntry"))) := hw.1 _ (List.mem_of_getElem? (i := 104) rfl)
theorem pd__Ljava_util_List__Lcom_example_keybridge_keybridge_directory_UserEntry_ : parseMethodDescriptor "(Ljava/util/List;)Lcom/example/keybridge/keybridge/directory/UserEntry;" = some ⟨[(.object "java/util/List")], some (.object "com/example/keybridge/keybridge/directory/UserEntry")⟩ := by decide +kernel
theorem mk_M_wg0 {W : Wd} (hw : Ws W) : Mk W M_wg0 ⟨"com/example/keybridge/keybridge/directory/UserEntry", "withGroups", "(Ljava/util/List;)Lcom/example/keybridge/keybridge/directory/UserEntry;"⟩ 1 := Mk.of nm_M_wg0 rfl rfl rfl (w_104 hw) (w_60 hw) (mkLen pd__Ljava_util_List__Lcom_example_keybridge_keybridge_directory_UserEntry_ rfl) (by decide)
theorem w_100 {W : Wd} (hw : Ws W) : Wok W (Jvm.Cond.methodLink "com/example/keybridge/keybridge/directory/UserEntryWithGroupsPinLaw" (33 : Nat) ({ cls := "com/example/keybridge/keybridge/directory/UserEntry", name := "withGroups", desc := "(Ljava/util/List;)Lcom/example/keybridge/keybridge/directory/UserEntry;" } : Jvm.MethodName)) := hw.1 _ (List.mem_of_getElem? (i := 100) rfl)
theorem w_101 {W : Wd} (hw : Ws W) : Wok W (Jvm.Cond.declares ({ cls := "com/example/keybridge/keybridge/directory/UserEntry", name := "withGroups", desc := "(Ljava/util/List;)Lcom/example/keybridge/keybridge/directory/UserEntry;" } : Jvm.MethodName)) := hw.1 _ (List.mem_of_getElem? (i := 101) rfl)
theorem w_102 {W : Wd} (hw : Ws W) : Wok W (Jvm.Cond.instanceMethod ({ cls := "com/example/keybridge/keybridge/directory/UserEntry", name := "withGroups", desc := "(Ljava/util/List;)Lcom/example/keybridge/keybridge/directory/UserEntry;" } : Jvm.MethodName)) := hw.1 _ (List.mem_of_getElem? (i := 102) rfl)
theorem d_law_145 : Dc code 145 (.astore 15) 2 147 := ⟨by decide +kernel, rfl⟩
theorem d_law_147 : Dc code 147 (.aload 13) 2 149 := ⟨by decide +kernel, rfl⟩
theorem d_law_149 : Dc code 149 (.aload 10) 2 151 := ⟨by decide +kernel, rfl⟩
theorem d_law_151 : Dc code 151 (.invokevirtual 25) 3 154 := ⟨by decide +kernel, rfl⟩
theorem w_123 {W : Wd} (hw : Ws W) : Wok W (Jvm.Cond.selects "java/util/ArrayList" ({ cls := "java/util/ArrayList", name := "add", desc := "(Ljava/lang/Object;)Z" } : Jvm.MethodName) ({ cls := "java/util/ArrayList", name := "add", desc := "(Ljava/lang/Object;)Z" } : Jvm.MethodName)) := hw.1 _ (List.mem_of_getElem? (i := 123) rfl)
theorem pp_2_12_6_0_1_3_4_5_7_8_9_10_11 : [2, 12, 6, 0, 1, 3, 4, 5, 7, 8, 9, 10, 11].isPerm (List.range 13) = true := by decide +kernel
theorem w_124 {W : Wd} (hw : Ws W) : Wok W (Jvm.Cond.code ({ cls := "java/util/ArrayList", name := "add", desc := "(Ljava/lang/Object;)Z" } : Jvm.MethodName) jdk_38_method_25_code (2 : Nat) (Option.some Jvm.ClassFile.FieldType.boolean)) := hw.1 _ (List.mem_of_getElem? (i := 124) rfl)
theorem mk_M_add_0 {W : Wd} (hw : Ws W) : Mk W M_add_0 ⟨"java/util/ArrayList", "add", "(Ljava/lang/Object;)Z"⟩ 1 := Mk.of nm_M_add_0 rfl rfl rfl (w_124 hw) (w_36 hw) (mkLen pd__Ljava_lang_Object__Z rfl) (by decide)
theorem w_120 {W : Wd} (hw : Ws W) : Wok W (Jvm.Cond.methodLink "com/example/keybridge/keybridge/directory/UserEntryWithGroupsPinLaw" (25 : Nat) ({ cls := "java/util/ArrayList", name := "add", desc := "(Ljava/lang/Object;)Z" } : Jvm.MethodName)) := hw.1 _ (List.mem_of_getElem? (i := 120) rfl)
theorem w_121 {W : Wd} (hw : Ws W) : Wok W (Jvm.Cond.declares ({ cls := "java/util/ArrayList", name := "add", desc := "(Ljava/lang/Object;)Z" } : Jvm.MethodName)) := hw.1 _ (List.mem_of_getElem? (i := 121) rfl)
theorem w_122 {W : Wd} (hw : Ws W) : Wok W (Jvm.Cond.instanceMethod ({ cls := "java/util/ArrayList", name := "add", desc := "(Ljava/lang/Object;)Z" } : Jvm.MethodName)) := hw.1 _ (List.mem_of_getElem? (i := 122) rfl)
theorem d_law_154 : Dc code 154 (.pop) 1 155 := ⟨by decide +kernel, rfl⟩
theorem d_law_155 : Dc code 155 (.aload 6) 2 157 := ⟨by decide +kernel, rfl⟩
theorem d_law_157 : Dc code 157 (.aload 15) 2 159 := ⟨by decide +kernel, rfl⟩
theorem d_law_159 : Dc code 159 (.invokevirtual 37) 3 162 := ⟨by decide +kernel, rfl⟩
theorem w_152 {W : Wd} (hw : Ws W) : Wok W (Jvm.Cond.selects "com/example/keybridge/keybridge/directory/UserEntry" ({ cls := "com/example/keybridge/keybridge/directory/UserEntry", name := "getDn", desc := "()Ljava/lang/String;" } : Jvm.MethodName) ({ cls := "com/example/keybridge/keybridge/directory/UserEntry", name := "getDn", desc := "()Ljava/lang/String;" } : Jvm.MethodName)) := hw.1 _ (List.mem_of_getElem? (i := 152) rfl)
theorem w_153 {W : Wd} (hw : Ws W) : Wok W (Jvm.Cond.code ({ cls := "com/example/keybridge/keybridge/directory/UserEntry", name := "getDn", desc := "()Ljava/lang/String;" } : Jvm.MethodName) prog_9_method_4_code (1 : Nat) (Option.some (Jvm.ClassFile.FieldType.object "java/lang/String"))) := hw.1 _ (List.mem_of_getElem? (i := 153) rfl)
theorem pd___Ljava_lang_String_ : parseMethodDescriptor "()Ljava/lang/String;" = some ⟨[], some (.object "java/lang/String")⟩ := by decide +kernel
theorem mk_M_g0 {W : Wd} (hw : Ws W) : Mk W M_g0 ⟨"com/example/keybridge/keybridge/directory/UserEntry", "getDn", "()Ljava/lang/String;"⟩ 0 := Mk.of nm_M_g0 rfl rfl rfl (w_153 hw) (w_60 hw) (mkLen pd___Ljava_lang_String_ rfl) (by decide)
theorem w_149 {W : Wd} (hw : Ws W) : Wok W (Jvm.Cond.methodLink "com/example/keybridge/keybridge/directory/UserEntryWithGroupsPinLaw" (37 : Nat) ({ cls := "com/example/keybridge/keybridge/directory/UserEntry", name := "getDn", desc := "()Ljava/lang/String;" } : Jvm.MethodName)) := hw.1 _ (List.mem_of_getElem? (i := 149) rfl)
theorem w_150 {W : Wd} (hw : Ws W) : Wok W (Jvm.Cond.declares ({ cls := "com/example/keybridge/keybridge/directory/UserEntry", name := "getDn", desc := "()Ljava/lang/String;" } : Jvm.MethodName)) := hw.1 _ (List.mem_of_getElem? (i := 150) rfl)
theorem w_151 {W : Wd} (hw : Ws W) : Wok W (Jvm.Cond.instanceMethod ({ cls := "com/example/keybridge/keybridge/directory/UserEntry", name := "getDn", desc := "()Ljava/lang/String;" } : Jvm.MethodName)) := hw.1 _ (List.mem_of_getElem? (i := 151) rfl)
theorem d_law_162 : Dc code 162 (.invokestatic 41) 3 165 := ⟨by decide +kernel, rfl⟩
theorem pp_11_0_1_2_3_4_5_6_7_8_9_10 : [11, 0, 1, 2, 3, 4, 5, 6, 7, 8, 9, 10].isPerm (List.range 12) = true := by decide +kernel
theorem w_156 {W : Wd} (hw : Ws W) : Wok W (Jvm.Cond.code ({ cls := "com/example/keybridge/keybridge/directory/UserEntryWithGroupsPinLaw", name := "eq", desc := "(Ljava/lang/String;Ljava/lang/String;)Z" } : Jvm.MethodName) method_3_code (2 : Nat) (Option.some Jvm.ClassFile.FieldType.boolean)) := hw.1 _ (List.mem_of_getElem? (i := 156) rfl)
theorem pd__Ljava_lang_String_Ljava_lang_String__Z : parseMethodDescriptor "(Ljava/lang/String;Ljava/lang/String;)Z" = some ⟨[(.object "java/lang/String"), (.object "java/lang/String")], some .boolean⟩ := by decide +kernel
theorem mk_M_eqS {W : Wd} (hw : Ws W) : Mk W M_eqS ⟨"com/example/keybridge/keybridge/directory/UserEntryWithGroupsPinLaw", "eq", "(Ljava/lang/String;Ljava/lang/String;)Z"⟩ 2 := Mk.of nm_M_eqS rfl rfl rfl (w_156 hw) (w_2 hw) (mkLen pd__Ljava_lang_String_Ljava_lang_String__Z rfl) (by decide)
theorem w_154 {W : Wd} (hw : Ws W) : Wok W (Jvm.Cond.methodLink "com/example/keybridge/keybridge/directory/UserEntryWithGroupsPinLaw" (41 : Nat) ({ cls := "com/example/keybridge/keybridge/directory/UserEntryWithGroupsPinLaw", name := "eq", desc := "(Ljava/lang/String;Ljava/lang/String;)Z" } : Jvm.MethodName)) := hw.1 _ (List.mem_of_getElem? (i := 154) rfl)
theorem w_155 {W : Wd} (hw : Ws W) : Wok W (Jvm.Cond.static ({ cls := "com/example/keybridge/keybridge/directory/UserEntryWithGroupsPinLaw", name := "eq", desc := "(Ljava/lang/String;Ljava/lang/String;)Z" } : Jvm.MethodName)) := hw.1 _ (List.mem_of_getElem? (i := 155) rfl)
theorem d_law_165 : Bj code 165 (.ifCond .ne 5) 5 168 170 := ⟨by decide +kernel, rfl, by decide, rfl⟩
theorem d_law_170 : Dc code 170 (.aload 7) 2 172 := ⟨by decide +kernel, rfl⟩
theorem d_law_172 : Dc code 172 (.aload 15) 2 174 := ⟨by decide +kernel, rfl⟩
theorem d_law_174 : Dc code 174 (.invokevirtual 45) 3 177 := ⟨by decide +kernel, rfl⟩
theorem w_165 {W : Wd} (hw : Ws W) : Wok W (Jvm.Cond.selects "com/example/keybridge/keybridge/directory/UserEntry" ({ cls := "com/example/keybridge/keybridge/directory/UserEntry", name := "getUsername", desc := "()Ljava/lang/String;" } : Jvm.MethodName) ({ cls := "com/example/keybridge/keybridge/directory/UserEntry", name := "getUsername", desc := "()Ljava/lang/String;" } : Jvm.MethodName)) := hw.1 _ (List.mem_of_getElem? (i := 165) rfl)
theorem w_166 {W : Wd} (hw : Ws W) : Wok W (Jvm.Cond.code ({ cls := "com/example/keybridge/keybridge/directory/UserEntry", name := "getUsername", desc := "()Ljava/lang/String;" } : Jvm.MethodName) prog_9_method_5_code (1 : Nat) (Option.some (Jvm.ClassFile.FieldType.object "java/lang/String"))) := hw.1 _ (List.mem_of_getElem? (i := 166) rfl)
theorem mk_M_g1 {W : Wd} (hw : Ws W) : Mk W M_g1 ⟨"com/example/keybridge/keybridge/directory/UserEntry", "getUsername", "()Ljava/lang/String;"⟩ 0 := Mk.of nm_M_g1 rfl rfl rfl (w_166 hw) (w_60 hw) (mkLen pd___Ljava_lang_String_ rfl) (by decide)
theorem w_162 {W : Wd} (hw : Ws W) : Wok W (Jvm.Cond.methodLink "com/example/keybridge/keybridge/directory/UserEntryWithGroupsPinLaw" (45 : Nat) ({ cls := "com/example/keybridge/keybridge/directory/UserEntry", name := "getUsername", desc := "()Ljava/lang/String;" } : Jvm.MethodName)) := hw.1 _ (List.mem_of_getElem? (i := 162) rfl)
theorem w_163 {W : Wd} (hw : Ws W) : Wok W (Jvm.Cond.declares ({ cls := "com/example/keybridge/keybridge/directory/UserEntry", name := "getUsername", desc := "()Ljava/lang/String;" } : Jvm.MethodName)) := hw.1 _ (List.mem_of_getElem? (i := 163) rfl)
theorem w_164 {W : Wd} (hw : Ws W) : Wok W (Jvm.Cond.instanceMethod ({ cls := "com/example/keybridge/keybridge/directory/UserEntry", name := "getUsername", desc := "()Ljava/lang/String;" } : Jvm.MethodName)) := hw.1 _ (List.mem_of_getElem? (i := 164) rfl)
theorem d_law_177 : Dc code 177 (.invokestatic 41) 3 180 := ⟨by decide +kernel, rfl⟩
theorem d_law_180 : Bj code 180 (.ifCond .ne 5) 5 183 185 := ⟨by decide +kernel, rfl, by decide, rfl⟩
theorem d_law_185 : Dc code 185 (.aload 8) 2 187 := ⟨by decide +kernel, rfl⟩
theorem d_law_187 : Dc code 187 (.aload 15) 2 189 := ⟨by decide +kernel, rfl⟩
theorem d_law_189 : Dc code 189 (.invokevirtual 48) 3 192 := ⟨by decide +kernel, rfl⟩
theorem w_170 {W : Wd} (hw : Ws W) : Wok W (Jvm.Cond.selects "com/example/keybridge/keybridge/directory/UserEntry" ({ cls := "com/example/keybridge/keybridge/directory/UserEntry", name := "getMail", desc := "()Ljava/lang/String;" } : Jvm.MethodName) ({ cls := "com/example/keybridge/keybridge/directory/UserEntry", name := "getMail", desc := "()Ljava/lang/String;" } : Jvm.MethodName)) := hw.1 _ (List.mem_of_getElem? (i := 170) rfl)
theorem w_171 {W : Wd} (hw : Ws W) : Wok W (Jvm.Cond.code ({ cls := "com/example/keybridge/keybridge/directory/UserEntry", name := "getMail", desc := "()Ljava/lang/String;" } : Jvm.MethodName) prog_9_method_6_code (1 : Nat) (Option.some (Jvm.ClassFile.FieldType.object "java/lang/String"))) := hw.1 _ (List.mem_of_getElem? (i := 171) rfl)
theorem mk_M_g2 {W : Wd} (hw : Ws W) : Mk W M_g2 ⟨"com/example/keybridge/keybridge/directory/UserEntry", "getMail", "()Ljava/lang/String;"⟩ 0 := Mk.of nm_M_g2 rfl rfl rfl (w_171 hw) (w_60 hw) (mkLen pd___Ljava_lang_String_ rfl) (by decide)
theorem w_167 {W : Wd} (hw : Ws W) : Wok W (Jvm.Cond.methodLink "com/example/keybridge/keybridge/directory/UserEntryWithGroupsPinLaw" (48 : Nat) ({ cls := "com/example/keybridge/keybridge/directory/UserEntry", name := "getMail", desc := "()Ljava/lang/String;" } : Jvm.MethodName)) := hw.1 _ (List.mem_of_getElem? (i := 167) rfl)
theorem w_168 {W : Wd} (hw : Ws W) : Wok W (Jvm.Cond.declares ({ cls := "com/example/keybridge/keybridge/directory/UserEntry", name := "getMail", desc := "()Ljava/lang/String;" } : Jvm.MethodName)) := hw.1 _ (List.mem_of_getElem? (i := 168) rfl)
theorem w_169 {W : Wd} (hw : Ws W) : Wok W (Jvm.Cond.instanceMethod ({ cls := "com/example/keybridge/keybridge/directory/UserEntry", name := "getMail", desc := "()Ljava/lang/String;" } : Jvm.MethodName)) := hw.1 _ (List.mem_of_getElem? (i := 169) rfl)
theorem d_law_192 : Dc code 192 (.invokestatic 41) 3 195 := ⟨by decide +kernel, rfl⟩
theorem d_law_195 : Bj code 195 (.ifCond .ne 5) 5 198 200 := ⟨by decide +kernel, rfl, by decide, rfl⟩
theorem d_law_200 : Dc code 200 (.aload 15) 2 202 := ⟨by decide +kernel, rfl⟩
theorem d_law_202 : Dc code 202 (.invokevirtual 51) 3 205 := ⟨by decide +kernel, rfl⟩
theorem w_175 {W : Wd} (hw : Ws W) : Wok W (Jvm.Cond.selects "com/example/keybridge/keybridge/directory/UserEntry" ({ cls := "com/example/keybridge/keybridge/directory/UserEntry", name := "getGroups", desc := "()Ljava/util/List;" } : Jvm.MethodName) ({ cls := "com/example/keybridge/keybridge/directory/UserEntry", name := "getGroups", desc := "()Ljava/util/List;" } : Jvm.MethodName)) := hw.1 _ (List.mem_of_getElem? (i := 175) rfl)
theorem w_176 {W : Wd} (hw : Ws W) : Wok W (Jvm.Cond.code ({ cls := "com/example/keybridge/keybridge/directory/UserEntry", name := "getGroups", desc := "()Ljava/util/List;" } : Jvm.MethodName) prog_9_method_7_code (1 : Nat) (Option.some (Jvm.ClassFile.FieldType.object "java/util/List"))) := hw.1 _ (List.mem_of_getElem? (i := 176) rfl)
theorem mk_M_gg {W : Wd} (hw : Ws W) : Mk W M_gg ⟨"com/example/keybridge/keybridge/directory/UserEntry", "getGroups", "()Ljava/util/List;"⟩ 0 := Mk.of nm_M_gg rfl rfl rfl (w_176 hw) (w_60 hw) (mkLen pd___Ljava_util_List_ rfl) (by decide)
theorem w_172 {W : Wd} (hw : Ws W) : Wok W (Jvm.Cond.methodLink "com/example/keybridge/keybridge/directory/UserEntryWithGroupsPinLaw" (51 : Nat) ({ cls := "com/example/keybridge/keybridge/directory/UserEntry", name := "getGroups", desc := "()Ljava/util/List;" } : Jvm.MethodName)) := hw.1 _ (List.mem_of_getElem? (i := 172) rfl)
theorem w_173 {W : Wd} (hw : Ws W) : Wok W (Jvm.Cond.declares ({ cls := "com/example/keybridge/keybridge/directory/UserEntry", name := "getGroups", desc := "()Ljava/util/List;" } : Jvm.MethodName)) := hw.1 _ (List.mem_of_getElem? (i := 173) rfl)
theorem w_174 {W : Wd} (hw : Ws W) : Wok W (Jvm.Cond.instanceMethod ({ cls := "com/example/keybridge/keybridge/directory/UserEntry", name := "getGroups", desc := "()Ljava/util/List;" } : Jvm.MethodName)) := hw.1 _ (List.mem_of_getElem? (i := 174) rfl)
theorem d_law_205 : Dc code 205 (.astore 16) 2 207 := ⟨by decide +kernel, rfl⟩
theorem d_law_207 : Dc code 207 (.aload 16) 2 209 := ⟨by decide +kernel, rfl⟩
theorem d_law_209 : Dc code 209 (.invokeinterface 55 1) 5 214 := ⟨by decide +kernel, rfl⟩
theorem w_180 {W : Wd} (hw : Ws W) : Wok W (Jvm.Cond.selects "java/util/ImmutableCollections$ListN" ({ cls := "java/util/List", name := "size", desc := "()I" } : Jvm.MethodName) ({ cls := "java/util/ImmutableCollections$ListN", name := "size", desc := "()I" } : Jvm.MethodName)) := hw.1 _ (List.mem_of_getElem? (i := 180) rfl)
theorem pp_9_12_0_1_2_3_4_5_6_7_8_10_11 : [9, 12, 0, 1, 2, 3, 4, 5, 6, 7, 8, 10, 11].isPerm (List.range 13) = true := by decide +kernel
theorem w_185 {W : Wd} (hw : Ws W) : Wok W (Jvm.Cond.code ({ cls := "java/util/ImmutableCollections$ListN", name := "size", desc := "()I" } : Jvm.MethodName) jdk_45_method_3_code (1 : Nat) (Option.some Jvm.ClassFile.FieldType.int)) := hw.1 _ (List.mem_of_getElem? (i := 185) rfl)
theorem pd___I : parseMethodDescriptor "()I" = some ⟨[], some .int⟩ := by decide +kernel
theorem mk_M_szE {W : Wd} (hw : Ws W) : Mk W M_szE ⟨"java/util/ImmutableCollections$ListN", "size", "()I"⟩ 0 := Mk.of nm_M_szE rfl rfl rfl (w_185 hw) (w_184 hw) (mkLen pd___I rfl) (by decide)
theorem w_177 {W : Wd} (hw : Ws W) : Wok W (Jvm.Cond.methodLink "com/example/keybridge/keybridge/directory/UserEntryWithGroupsPinLaw" (55 : Nat) ({ cls := "java/util/List", name := "size", desc := "()I" } : Jvm.MethodName)) := hw.1 _ (List.mem_of_getElem? (i := 177) rfl)
theorem w_178 {W : Wd} (hw : Ws W) : Wok W (Jvm.Cond.declares ({ cls := "java/util/List", name := "size", desc := "()I" } : Jvm.MethodName)) := hw.1 _ (List.mem_of_getElem? (i := 178) rfl)
theorem w_179 {W : Wd} (hw : Ws W) : Wok W (Jvm.Cond.interfaceMethod "java/util/List" "java/util/List" "size" "()I") := hw.1 _ (List.mem_of_getElem? (i := 179) rfl)
theorem w_181 {W : Wd} (hw : Ws W) : Wok W (Jvm.Cond.instanceMethod ({ cls := "java/util/ImmutableCollections$ListN", name := "size", desc := "()I" } : Jvm.MethodName)) := hw.1 _ (List.mem_of_getElem? (i := 181) rfl)
theorem w_182 {W : Wd} (hw : Ws W) : Wok W (Jvm.Cond.publicMethod ({ cls := "java/util/ImmutableCollections$ListN", name := "size", desc := "()I" } : Jvm.MethodName)) := hw.1 _ (List.mem_of_getElem? (i := 182) rfl)
theorem w_183 {W : Wd} (hw : Ws W) : Wok W (Jvm.Cond.unhidden "java/util/ImmutableCollections$ListN" "size" "()I") := hw.1 _ (List.mem_of_getElem? (i := 183) rfl)
theorem d_law_214 : Dc code 214 (.iload 9) 2 216 := ⟨by decide +kernel, rfl⟩
theorem d_law_216 : Bj code 216 (.if_icmp .eq 5) 5 219 221 := ⟨by decide +kernel, rfl, by decide, rfl⟩
theorem d_law_221 : Dc code 221 (.iload 9) 2 223 := ⟨by decide +kernel, rfl⟩
theorem d_law_223 : Dc code 223 (.iconst 1) 1 224 := ⟨by decide +kernel, rfl⟩
theorem d_law_224 : Bj code 224 (.if_icmp .lt 21) 21 227 245 := ⟨by decide +kernel, rfl, by decide, rfl⟩
theorem d_law_245 : Dc code 245 (.iload 9) 2 247 := ⟨by decide +kernel, rfl⟩
theorem d_law_247 : Dc code 247 (.iconst 2) 1 248 := ⟨by decide +kernel, rfl⟩
theorem d_law_248 : Bj code 248 (.if_icmp .lt 21) 21 251 269 := ⟨by decide +kernel, rfl, by decide, rfl⟩
theorem d_law_269 : Dc code 269 (.iload 9) 2 271 := ⟨by decide +kernel, rfl⟩
theorem d_law_271 : Dc code 271 (.iconst 3) 1 272 := ⟨by decide +kernel, rfl⟩
theorem d_law_272 : Bj code 272 (.if_icmp .lt 21) 21 275 293 := ⟨by decide +kernel, rfl, by decide, rfl⟩
theorem d_law_293 : Dc code 293 (.aload 14) 2 295 := ⟨by decide +kernel, rfl⟩
theorem d_law_295 : Dc code 295 (.invokevirtual 51) 3 298 := ⟨by decide +kernel, rfl⟩
theorem pp_10_0_1_2_3_4_5_6_7_8_9 : [10, 0, 1, 2, 3, 4, 5, 6, 7, 8, 9].isPerm (List.range 11) = true := by decide +kernel
theorem d_law_298 : Dc code 298 (.invokeinterface 55 1) 5 303 := ⟨by decide +kernel, rfl⟩
theorem d_law_303 : Bj code 303 (.ifCond .ne 7) 7 306 310 := ⟨by decide +kernel, rfl, by decide, rfl⟩
theorem d_law_306 : Dc code 306 (.iconst 1) 1 307 := ⟨by decide +kernel, rfl⟩
theorem d_law_307 : Bj code 307 (.goto 4) 4 310 311 := ⟨by decide +kernel, rfl, by decide, rfl⟩
theorem d_law_311 : Dc code 311 (.ireturn) 1 312 := ⟨by decide +kernel, rfl⟩
theorem d_law_87 : Dc code 87 (.aload 13) 2 89 := ⟨by decide +kernel, rfl⟩
theorem d_law_89 : Dc code 89 (.aload 10) 2 91 := ⟨by decide +kernel, rfl⟩
theorem d_law_91 : Dc code 91 (.invokevirtual 25) 3 94 := ⟨by decide +kernel, rfl⟩
theorem pp_0_10_3_1_2_4_5_6_7_8_9 : [0, 10, 3, 1, 2, 4, 5, 6, 7, 8, 9].isPerm (List.range 11) = true := by decide +kernel
theorem d_law_94 : Dc code 94 (.pop) 1 95 := ⟨by decide +kernel, rfl⟩
theorem pp_0_10_1_2_3_4_5_6_7_8_9 : [0, 10, 1, 2, 3, 4, 5, 6, 7, 8, 9].isPerm (List.range 11) = true := by decide +kernel
theorem pp_0_2_3_5_1_4 : [0, 2, 3, 5, 1, 4].isPerm (List.range 6) = true := by decide +kernel
theorem mk_M_wg1 {W : Wd} (hw : Ws W) : Mk W M_wg1 ⟨"com/example/keybridge/keybridge/directory/UserEntry", "withGroups", "(Ljava/util/List;)Lcom/example/keybridge/keybridge/directory/UserEntry;"⟩ 1 := Mk.of nm_M_wg1 rfl rfl rfl (w_104 hw) (w_60 hw) (mkLen pd__Ljava_util_List__Lcom_example_keybridge_keybridge_directory_UserEntry_ rfl) (by decide)
theorem pp_3_4_5_0_1_2 : [3, 4, 5, 0, 1, 2].isPerm (List.range 6) = true := by decide +kernel
theorem mk_M_add_1 {W : Wd} (hw : Ws W) : Mk W M_add_1 ⟨"java/util/ArrayList", "add", "(Ljava/lang/Object;)Z"⟩ 1 := Mk.of nm_M_add_1 rfl rfl rfl (w_124 hw) (w_36 hw) (mkLen pd__Ljava_lang_Object__Z rfl) (by decide)
theorem pp_3_0_1_2 : [3, 0, 1, 2].isPerm (List.range 4) = true := by decide +kernel
theorem pp_12_0_1_2_3_4_5_6_7_8_9_10_11 : [12, 0, 1, 2, 3, 4, 5, 6, 7, 8, 9, 10, 11].isPerm (List.range 13) = true := by decide +kernel
theorem w_250 {W : Wd} (hw : Ws W) : Wok W (Jvm.Cond.selects "java/util/ImmutableCollections$List12" ({ cls := "java/util/List", name := "size", desc := "()I" } : Jvm.MethodName) ({ cls := "java/util/ImmutableCollections$List12", name := "size", desc := "()I" } : Jvm.MethodName)) := hw.1 _ (List.mem_of_getElem? (i := 250) rfl)
theorem w_255 {W : Wd} (hw : Ws W) : Wok W (Jvm.Cond.code ({ cls := "java/util/ImmutableCollections$List12", name := "size", desc := "()I" } : Jvm.MethodName) jdk_44_method_3_code (1 : Nat) (Option.some Jvm.ClassFile.FieldType.int)) := hw.1 _ (List.mem_of_getElem? (i := 255) rfl)
theorem mk_M_sz1 {W : Wd} (hw : Ws W) : Mk W M_sz1 ⟨"java/util/ImmutableCollections$List12", "size", "()I"⟩ 0 := Mk.of nm_M_sz1 rfl rfl rfl (w_255 hw) (w_223 hw) (mkLen pd___I rfl) (by decide)
theorem w_251 {W : Wd} (hw : Ws W) : Wok W (Jvm.Cond.instanceMethod ({ cls := "java/util/ImmutableCollections$List12", name := "size", desc := "()I" } : Jvm.MethodName)) := hw.1 _ (List.mem_of_getElem? (i := 251) rfl)
theorem w_252 {W : Wd} (hw : Ws W) : Wok W (Jvm.Cond.publicMethod ({ cls := "java/util/ImmutableCollections$List12", name := "size", desc := "()I" } : Jvm.MethodName)) := hw.1 _ (List.mem_of_getElem? (i := 252) rfl)
theorem w_253 {W : Wd} (hw : Ws W) : Wok W (Jvm.Cond.unhidden "java/util/ImmutableCollections$List12" "size" "()I") := hw.1 _ (List.mem_of_getElem? (i := 253) rfl)
theorem w_254 {W : Wd} (hw : Ws W) : Wok W (Jvm.Cond.castable "java/util/ImmutableCollections$List12" "java/util/List") := hw.1 _ (List.mem_of_getElem? (i := 254) rfl)
theorem d_law_227 : Dc code 227 (.aload 10) 2 229 := ⟨by decide +kernel, rfl⟩
theorem d_law_229 : Dc code 229 (.aload 16) 2 231 := ⟨by decide +kernel, rfl⟩
theorem d_law_231 : Dc code 231 (.iconst 0) 1 232 := ⟨by decide +kernel, rfl⟩
theorem d_law_232 : Dc code 232 (.invokeinterface 61 2) 5 237 := ⟨by decide +kernel, rfl⟩
theorem w_260 {W : Wd} (hw : Ws W) : Wok W (Jvm.Cond.selects "java/util/ImmutableCollections$List12" ({ cls := "java/util/List", name := "get", desc := "(I)Ljava/lang/Object;" } : Jvm.MethodName) ({ cls := "java/util/ImmutableCollections$List12", name := "get", desc := "(I)Ljava/lang/Object;" } : Jvm.MethodName)) := hw.1 _ (List.mem_of_getElem? (i := 260) rfl)
theorem w_264 {W : Wd} (hw : Ws W) : Wok W (Jvm.Cond.code ({ cls := "java/util/ImmutableCollections$List12", name := "get", desc := "(I)Ljava/lang/Object;" } : Jvm.MethodName) jdk_44_method_5_code (2 : Nat) (Option.some (Jvm.ClassFile.FieldType.object "java/lang/Object"))) := hw.1 _ (List.mem_of_getElem? (i := 264) rfl)
theorem pd__I_Ljava_lang_Object_ : parseMethodDescriptor "(I)Ljava/lang/Object;" = some ⟨[.int], some (.object "java/lang/Object")⟩ := by decide +kernel
theorem mk_M_gt0 {W : Wd} (hw : Ws W) : Mk W M_gt0 ⟨"java/util/ImmutableCollections$List12", "get", "(I)Ljava/lang/Object;"⟩ 1 := Mk.of nm_M_gt0 rfl rfl rfl (w_264 hw) (w_223 hw) (mkLen pd__I_Ljava_lang_Object_ rfl) (by decide)
theorem w_257 {W : Wd} (hw : Ws W) : Wok W (Jvm.Cond.methodLink "com/example/keybridge/keybridge/directory/UserEntryWithGroupsPinLaw" (61 : Nat) ({ cls := "java/util/List", name := "get", desc := "(I)Ljava/lang/Object;" } : Jvm.MethodName)) := hw.1 _ (List.mem_of_getElem? (i := 257) rfl)
theorem w_258 {W : Wd} (hw : Ws W) : Wok W (Jvm.Cond.declares ({ cls := "java/util/List", name := "get", desc := "(I)Ljava/lang/Object;" } : Jvm.MethodName)) := hw.1 _ (List.mem_of_getElem? (i := 258) rfl)
theorem w_259 {W : Wd} (hw : Ws W) : Wok W (Jvm.Cond.interfaceMethod "java/util/List" "java/util/List" "get" "(I)Ljava/lang/Object;") := hw.1 _ (List.mem_of_getElem? (i := 259) rfl)
theorem w_261 {W : Wd} (hw : Ws W) : Wok W (Jvm.Cond.instanceMethod ({ cls := "java/util/ImmutableCollections$List12", name := "get", desc := "(I)Ljava/lang/Object;" } : Jvm.MethodName)) := hw.1 _ (List.mem_of_getElem? (i := 261) rfl)
theorem w_262 {W : Wd} (hw : Ws W) : Wok W (Jvm.Cond.publicMethod ({ cls := "java/util/ImmutableCollections$List12", name := "get", desc := "(I)Ljava/lang/Object;" } : Jvm.MethodName)) := hw.1 _ (List.mem_of_getElem? (i := 262) rfl)
theorem w_263 {W : Wd} (hw : Ws W) : Wok W (Jvm.Cond.unhidden "java/util/ImmutableCollections$List12" "get" "(I)Ljava/lang/Object;") := hw.1 _ (List.mem_of_getElem? (i := 263) rfl)
theorem d_law_237 : Dc code 237 (.invokevirtual 12) 3 240 := ⟨by decide +kernel, rfl⟩
theorem d_law_240 : Bj code 240 (.ifCond .ne 5) 5 243 245 := ⟨by decide +kernel, rfl, by decide, rfl⟩
theorem pp_8_0_1_2_3_4_5_6_7 : [8, 0, 1, 2, 3, 4, 5, 6, 7].isPerm (List.range 9) = true := by decide +kernel
theorem pp_9_13_0_1_2_3_4_5_6_7_8_10_11_12 : [9, 13, 0, 1, 2, 3, 4, 5, 6, 7, 8, 10, 11, 12].isPerm (List.range 14) = true := by decide +kernel
theorem d_law_101 : Dc code 101 (.aload 13) 2 103 := ⟨by decide +kernel, rfl⟩
theorem d_law_103 : Dc code 103 (.aload 11) 2 105 := ⟨by decide +kernel, rfl⟩
theorem d_law_105 : Dc code 105 (.invokevirtual 25) 3 108 := ⟨by decide +kernel, rfl⟩
theorem d_law_108 : Dc code 108 (.pop) 1 109 := ⟨by decide +kernel, rfl⟩
theorem pp_0_2_3_6_4_1_5 : [0, 2, 3, 6, 4, 1, 5].isPerm (List.range 7) = true := by decide +kernel
theorem mk_M_wg2 {W : Wd} (hw : Ws W) : Mk W M_wg2 ⟨"com/example/keybridge/keybridge/directory/UserEntry", "withGroups", "(Ljava/util/List;)Lcom/example/keybridge/keybridge/directory/UserEntry;"⟩ 1 := Mk.of nm_M_wg2 rfl rfl rfl (w_104 hw) (w_60 hw) (mkLen pd__Ljava_util_List__Lcom_example_keybridge_keybridge_directory_UserEntry_ rfl) (by decide)
theorem mk_M_add_2 {W : Wd} (hw : Ws W) : Mk W M_add_2 ⟨"java/util/ArrayList", "add", "(Ljava/lang/Object;)Z"⟩ 1 := Mk.of nm_M_add_2 rfl rfl rfl (w_124 hw) (w_36 hw) (mkLen pd__Ljava_lang_Object__Z rfl) (by decide)
theorem pp_7_9_14_0_1_2_3_4_5_6_8_10_11_12_13 : [7, 9, 14, 0, 1, 2, 3, 4, 5, 6, 8, 10, 11, 12, 13].isPerm (List.range 15) = true := by decide +kernel
theorem mk_M_sz2 {W : Wd} (hw : Ws W) : Mk W M_sz2 ⟨"java/util/ImmutableCollections$List12", "size", "()I"⟩ 0 := Mk.of nm_M_sz2 rfl rfl rfl (w_255 hw) (w_223 hw) (mkLen pd___I rfl) (by decide)
theorem pp_9_0_1_2_3_4_5_6_7_8 : [9, 0, 1, 2, 3, 4, 5, 6, 7, 8].isPerm (List.range 10) = true := by decide +kernel
theorem d_law_251 : Dc code 251 (.aload 11) 2 253 := ⟨by decide +kernel, rfl⟩
theorem d_law_253 : Dc code 253 (.aload 16) 2 255 := ⟨by decide +kernel, rfl⟩
theorem d_law_255 : Dc code 255 (.iconst 1) 1 256 := ⟨by decide +kernel, rfl⟩
theorem d_law_256 : Dc code 256 (.invokeinterface 61 2) 5 261 := ⟨by decide +kernel, rfl⟩
theorem mk_M_gt1 {W : Wd} (hw : Ws W) : Mk W M_gt1 ⟨"java/util/ImmutableCollections$List12", "get", "(I)Ljava/lang/Object;"⟩ 1 := Mk.of nm_M_gt1 rfl rfl rfl (w_264 hw) (w_223 hw) (mkLen pd__I_Ljava_lang_Object_ rfl) (by decide)
theorem d_law_261 : Dc code 261 (.invokevirtual 12) 3 264 := ⟨by decide +kernel, rfl⟩
theorem d_law_264 : Bj code 264 (.ifCond .ne 5) 5 267 269 := ⟨by decide +kernel, rfl, by decide, rfl⟩
theorem pp_11_14_0_1_2_3_4_5_6_7_8_9_10_12_13 : [11, 14, 0, 1, 2, 3, 4, 5, 6, 7, 8, 9, 10, 12, 13].isPerm (List.range 15) = true := by decide +kernel
theorem d_law_115 : Dc code 115 (.aload 13) 2 117 := ⟨by decide +kernel, rfl⟩
theorem d_law_117 : Dc code 117 (.aload 12) 2 119 := ⟨by decide +kernel, rfl⟩
theorem d_law_119 : Dc code 119 (.invokevirtual 25) 3 122 := ⟨by decide +kernel, rfl⟩
theorem d_law_122 : Dc code 122 (.pop) 1 123 := ⟨by decide +kernel, rfl⟩
theorem pp_0_2_3_7_5_4_1_6 : [0, 2, 3, 7, 5, 4, 1, 6].isPerm (List.range 8) = true := by decide +kernel
theorem mk_M_wg3 {W : Wd} (hw : Ws W) : Mk W M_wg3 ⟨"com/example/keybridge/keybridge/directory/UserEntry", "withGroups", "(Ljava/util/List;)Lcom/example/keybridge/keybridge/directory/UserEntry;"⟩ 1 := Mk.of nm_M_wg3 rfl rfl rfl (w_104 hw) (w_60 hw) (mkLen pd__Ljava_util_List__Lcom_example_keybridge_keybridge_directory_UserEntry_ rfl) (by decide)
theorem pp_4_5_6_0_1_2_3 : [4, 5, 6, 0, 1, 2, 3].isPerm (List.range 7) = true := by decide +kernel
theorem mk_M_add_3 {W : Wd} (hw : Ws W) : Mk W M_add_3 ⟨"java/util/ArrayList", "add", "(Ljava/lang/Object;)Z"⟩ 1 := Mk.of nm_M_add_3 rfl rfl rfl (w_124 hw) (w_36 hw) (mkLen pd__Ljava_lang_Object__Z rfl) (by decide)
theorem pp_13_0_1_2_3_4_5_6_7_8_9_10_11_12 : [13, 0, 1, 2, 3, 4, 5, 6, 7, 8, 9, 10, 11, 12].isPerm (List.range 14) = true := by decide +kernel
theorem pp_7_8_0_1_2_3_4_5_6 : [7, 8, 0, 1, 2, 3, 4, 5, 6].isPerm (List.range 9) = true := by decide +kernel
theorem mk_M_sz3 {W : Wd} (hw : Ws W) : Mk W M_sz3 ⟨"java/util/ImmutableCollections$ListN", "size", "()I"⟩ 0 := Mk.of nm_M_sz3 rfl rfl rfl (w_185 hw) (w_184 hw) (mkLen pd___I rfl) (by decide)
theorem w_279 {W : Wd} (hw : Ws W) : Wok W (Jvm.Cond.selects "java/util/ImmutableCollections$ListN" ({ cls := "java/util/List", name := "get", desc := "(I)Ljava/lang/Object;" } : Jvm.MethodName) ({ cls := "java/util/ImmutableCollections$ListN", name := "get", desc := "(I)Ljava/lang/Object;" } : Jvm.MethodName)) := hw.1 _ (List.mem_of_getElem? (i := 279) rfl)
theorem w_283 {W : Wd} (hw : Ws W) : Wok W (Jvm.Cond.code ({ cls := "java/util/ImmutableCollections$ListN", name := "get", desc := "(I)Ljava/lang/Object;" } : Jvm.MethodName) jdk_45_method_4_code (2 : Nat) (Option.some (Jvm.ClassFile.FieldType.object "java/lang/Object"))) := hw.1 _ (List.mem_of_getElem? (i := 283) rfl)
theorem mk_M_gn0 {W : Wd} (hw : Ws W) : Mk W M_gn0 ⟨"java/util/ImmutableCollections$ListN", "get", "(I)Ljava/lang/Object;"⟩ 1 := Mk.of nm_M_gn0 rfl rfl rfl (w_283 hw) (w_184 hw) (mkLen pd__I_Ljava_lang_Object_ rfl) (by decide)
theorem w_280 {W : Wd} (hw : Ws W) : Wok W (Jvm.Cond.instanceMethod ({ cls := "java/util/ImmutableCollections$ListN", name := "get", desc := "(I)Ljava/lang/Object;" } : Jvm.MethodName)) := hw.1 _ (List.mem_of_getElem? (i := 280) rfl)
theorem w_281 {W : Wd} (hw : Ws W) : Wok W (Jvm.Cond.publicMethod ({ cls := "java/util/ImmutableCollections$ListN", name := "get", desc := "(I)Ljava/lang/Object;" } : Jvm.MethodName)) := hw.1 _ (List.mem_of_getElem? (i := 281) rfl)
theorem w_282 {W : Wd} (hw : Ws W) : Wok W (Jvm.Cond.unhidden "java/util/ImmutableCollections$ListN" "get" "(I)Ljava/lang/Object;") := hw.1 _ (List.mem_of_getElem? (i := 282) rfl)
theorem mk_M_gn1 {W : Wd} (hw : Ws W) : Mk W M_gn1 ⟨"java/util/ImmutableCollections$ListN", "get", "(I)Ljava/lang/Object;"⟩ 1 := Mk.of nm_M_gn1 rfl rfl rfl (w_283 hw) (w_184 hw) (mkLen pd__I_Ljava_lang_Object_ rfl) (by decide)
theorem d_law_275 : Dc code 275 (.aload 12) 2 277 := ⟨by decide +kernel, rfl⟩
theorem d_law_277 : Dc code 277 (.aload 16) 2 279 := ⟨by decide +kernel, rfl⟩
theorem d_law_279 : Dc code 279 (.iconst 2) 1 280 := ⟨by decide +kernel, rfl⟩
theorem d_law_280 : Dc code 280 (.invokeinterface 61 2) 5 285 := ⟨by decide +kernel, rfl⟩
theorem mk_M_gn2 {W : Wd} (hw : Ws W) : Mk W M_gn2 ⟨"java/util/ImmutableCollections$ListN", "get", "(I)Ljava/lang/Object;"⟩ 1 := Mk.of nm_M_gn2 rfl rfl rfl (w_283 hw) (w_184 hw) (mkLen pd__I_Ljava_lang_Object_ rfl) (by decide)
theorem d_law_285 : Dc code 285 (.invokevirtual 12) 3 288 := ⟨by decide +kernel, rfl⟩
theorem d_law_288 : Bj code 288 (.ifCond .ne 5) 5 291 293 := ⟨by decide +kernel, rfl, by decide, rfl⟩
theorem pp_12_14_0_1_2_3_4_5_6_7_8_9_10_11_13 : [12, 14, 0, 1, 2, 3, 4, 5, 6, 7, 8, 9, 10, 11, 13].isPerm (List.range 15) = true := by decide +kernel
theorem d_law_34 : Dc code 34 (.aconst_null) 1 35 := ⟨by decide +kernel, rfl⟩
theorem d_law_35 : Bj code 35 (.goto 7) 7 38 42 := ⟨by decide +kernel, rfl, by decide, rfl⟩
theorem pp_0_7_1_2_3_4_5_6 : [0, 7, 1, 2, 3, 4, 5, 6].isPerm (List.range 8) = true := by decide +kernel
theorem pp_2_11_6_0_1_3_4_5_7_8_9_10 : [2, 11, 6, 0, 1, 3, 4, 5, 7, 8, 9, 10].isPerm (List.range 12) = true := by decide +kernel
theorem mk_M_eqN {W : Wd} (hw : Ws W) : Mk W M_eqN ⟨"com/example/keybridge/keybridge/directory/UserEntryWithGroupsPinLaw", "eq", "(Ljava/lang/String;Ljava/lang/String;)Z"⟩ 2 := Mk.of nm_M_eqN rfl rfl rfl (w_156 hw) (w_2 hw) (mkLen pd__Ljava_lang_String_Ljava_lang_String__Z rfl) (by decide)
theorem pp_8_11_0_1_2_3_4_5_6_7_9_10 : [8, 11, 0, 1, 2, 3, 4, 5, 6, 7, 9, 10].isPerm (List.range 12) = true := by decide +kernel
theorem pp_0_9_3_1_2_4_5_6_7_8 : [0, 9, 3, 1, 2, 4, 5, 6, 7, 8].isPerm (List.range 10) = true := by decide +kernel
theorem pp_0_9_1_2_3_4_5_6_7_8 : [0, 9, 1, 2, 3, 4, 5, 6, 7, 8].isPerm (List.range 10) = true := by decide +kernel
theorem pp_6_0_1_2_3_4_5 : [6, 0, 1, 2, 3, 4, 5].isPerm (List.range 7) = true := by decide +kernel
theorem pp_8_12_0_1_2_3_4_5_6_7_9_10_11 : [8, 12, 0, 1, 2, 3, 4, 5, 6, 7, 9, 10, 11].isPerm (List.range 13) = true := by decide +kernel
theorem pp_6_8_13_0_1_2_3_4_5_7_9_10_11_12 : [6, 8, 13, 0, 1, 2, 3, 4, 5, 7, 9, 10, 11, 12].isPerm (List.range 14) = true := by decide +kernel
theorem pp_10_13_0_1_2_3_4_5_6_7_8_9_11_12 : [10, 13, 0, 1, 2, 3, 4, 5, 6, 7, 8, 9, 11, 12].isPerm (List.range 14) = true := by decide +kernel
theorem pp_6_7_0_1_2_3_4_5 : [6, 7, 0, 1, 2, 3, 4, 5].isPerm (List.range 8) = true := by decide +kernel
theorem pp_11_13_0_1_2_3_4_5_6_7_8_9_10_12 : [11, 13, 0, 1, 2, 3, 4, 5, 6, 7, 8, 9, 10, 12].isPerm (List.range 14) = true := by decide +kernel
theorem d_law_15 : Dc code 15 (.aconst_null) 1 16 := ⟨by decide +kernel, rfl⟩
theorem d_law_16 : Bj code 16 (.goto 7) 7 19 23 := ⟨by decide +kernel, rfl, by decide, rfl⟩
theorem pp_0_6_1_2_3_4_5 : [0, 6, 1, 2, 3, 4, 5].isPerm (List.range 7) = true := by decide +kernel
theorem pp_2_10_6_0_1_3_4_5_7_8_9 : [2, 10, 6, 0, 1, 3, 4, 5, 7, 8, 9].isPerm (List.range 11) = true := by decide +kernel
theorem pp_7_10_0_1_2_3_4_5_6_8_9 : [7, 10, 0, 1, 2, 3, 4, 5, 6, 8, 9].isPerm (List.range 11) = true := by decide +kernel
theorem pp_0_8_3_1_2_4_5_6_7 : [0, 8, 3, 1, 2, 4, 5, 6, 7].isPerm (List.range 9) = true := by decide +kernel
theorem pp_7_11_0_1_2_3_4_5_6_8_9_10 : [7, 11, 0, 1, 2, 3, 4, 5, 6, 8, 9, 10].isPerm (List.range 12) = true := by decide +kernel
theorem pp_5_7_12_0_1_2_3_4_6_8_9_10_11 : [5, 7, 12, 0, 1, 2, 3, 4, 6, 8, 9, 10, 11].isPerm (List.range 13) = true := by decide +kernel
theorem pp_5_6_0_1_2_3_4 : [5, 6, 0, 1, 2, 3, 4].isPerm (List.range 7) = true := by decide +kernel
theorem pp_10_12_0_1_2_3_4_5_6_7_8_9_11 : [10, 12, 0, 1, 2, 3, 4, 5, 6, 7, 8, 9, 11].isPerm (List.range 13) = true := by decide +kernel
def M0 : Mt := (x, code, maxLocals, ret, room_1)
theorem nm_M0 : mN M0 = ⟨"com/example/keybridge/keybridge/directory/UserEntryWithGroupsPinLaw", "law", "(IIIIII)Z"⟩ := by delta M0; delta mN x; rfl
set_option maxRecDepth 65536 in
set_option maxHeartbeats 40000000 in
theorem rm_law {W : Wd} (hw : Ws W) (p0 p1 p2 p3 p4 p5 : Int32) (el ee em de mr : Addr) (hel : Sta (wZ W) (wZ W).heap "java/util/ImmutableCollections" "EMPTY_LIST" "Ljava/util/ImmutableCollections$ListN;" (.ref el)) (hem : Sta (wZ W) (wZ W).heap "java/util/ImmutableCollections" "EMPTY" "Ljava/lang/Object;" (.ref em)) (hmr : Mir (wZ W) "[Ljava/lang/Object;" mr) (hde : Sta (wZ W) (wZ W).heap "java/util/ArrayList" "DEFAULTCAPACITY_EMPTY_ELEMENTDATA" "[Ljava/lang/Object;" (.ref de)) : Ct W M0 [.int p0, .int p1, .int p2, .int p3, .int p4, .int p5] [oLN false el (.ref ee) (.int 0), (ee, false, .inr ((.object "java/lang/Object"), true, false, [])), oOb false em , (de, false, .inr ((.object "java/lang/Object"), true, false, []))] (fun v _ => v = some (.int 1)) := by
  refine Ct.intro (L0 := [.val (.int p0), .val (.int p1), .val (.int p2), .val (.int p3), .val (.int p4), .val (.int p5), .unset, .unset, .unset, .unset, .unset, .unset, .unset, .unset, .unset, .unset, .unset]) (plainFor_of_name pf_com_example_keybridge_keybridge_directory_UserEntryWithGroupsPinLaw) rfl (fun K => ?_)
  refine Wp.iloadN rfl d_law_0 ?_
  refine Wp.callS nm_M0 (rm_str hw p0 _ ) (mk_M_str hw) (w_0 hw) (w_1 hw) rfl rfl (Wn := 0) rfl rfl (by decide) d_law_1 ?_
  rintro _ _ ⟨s_1, b_2, rfl, rfl⟩
  refine Wp.astore (L' := [.val (.int p0), .val (.int p1), .val (.int p2), .val (.int p3), .val (.int p4), .val (.int p5), .val (.ref s_1), .unset, .unset, .unset, .unset, .unset, .unset, .unset, .unset, .unset, .unset]) rfl rfl d_law_4 ?_
  refine Wp.iloadN rfl d_law_6 ?_
  refine Wp.bipush lb_24 d_law_7 ?_
  refine Wp.iushr (z := (Jvm.Free.XT.ushr p1 24)) rfl d_law_9 ?_
  refine Wp.iconst lc_1 d_law_10 ?_
  refine Wp.iand (z := ((Jvm.Free.XT.ushr p1 24) &&& 1)) rfl d_law_11 ?_
  by_cases b12_3 : ((Jvm.Free.XT.ushr p1 24) &&& 1) = 0
  · refine Wp.ifT (teq b12_3).1 d_law_12 ?_
    refine Wp.iloadN rfl d_law_19 ?_
    refine Wp.callS nm_M0 (rm_str hw p1 _ ) (mk_M_str hw) (w_0 hw) (w_1 hw) rfl rfl (Wn := 0) rfl rfl (by decide) d_law_20 ?_
    rintro _ _ ⟨s_4, b_5, rfl, rfl⟩
    refine Wp.astore (L' := [.val (.int p0), .val (.int p1), .val (.int p2), .val (.int p3), .val (.int p4), .val (.int p5), .val (.ref s_1), .val (.ref s_4), .unset, .unset, .unset, .unset, .unset, .unset, .unset, .unset, .unset]) rfl rfl d_law_23 ?_
    refine Wp.iloadN rfl d_law_25 ?_
    refine Wp.bipush lb_24 d_law_26 ?_
    refine Wp.iushr (z := (Jvm.Free.XT.ushr p2 24)) rfl d_law_28 ?_
    refine Wp.iconst lc_1 d_law_29 ?_
    refine Wp.iand (z := ((Jvm.Free.XT.ushr p2 24) &&& 1)) rfl d_law_30 ?_
    by_cases b31_6 : ((Jvm.Free.XT.ushr p2 24) &&& 1) = 0
    · refine Wp.ifT (teq b31_6).1 d_law_31 ?_
      refine Wp.iloadN rfl d_law_38 ?_
      refine Wp.callS nm_M0 (rm_str hw p2 _ ) (mk_M_str hw) (w_0 hw) (w_1 hw) rfl rfl (Wn := 0) rfl rfl (by decide) d_law_39 ?_
      rintro _ _ ⟨s_7, b_8, rfl, rfl⟩
      refine Wp.astore (L' := [.val (.int p0), .val (.int p1), .val (.int p2), .val (.int p3), .val (.int p4), .val (.int p5), .val (.ref s_1), .val (.ref s_4), .val (.ref s_7), .unset, .unset, .unset, .unset, .unset, .unset, .unset, .unset]) rfl rfl d_law_42 ?_
      refine Wp.iloadN rfl d_law_44 ?_
      refine Wp.bipush lb_24 d_law_45 ?_
      refine Wp.iushr (z := (Jvm.Free.XT.ushr p3 24)) rfl d_law_47 ?_
      refine Wp.iconst lc_3 d_law_48 ?_
      refine Wp.iand (z := ((Jvm.Free.XT.ushr p3 24) &&& 3)) rfl d_law_49 ?_
      rcases and3 ((Jvm.Free.XT.ushr p3 24)) with hn | hn | hn | hn
      · rw [hn]
        refine Wp.istore (L' := [.val (.int p0), .val (.int p1), .val (.int p2), .val (.int p3), .val (.int p4), .val (.int p5), .val (.ref s_1), .val (.ref s_4), .val (.ref s_7), .val (.int 0), .unset, .unset, .unset, .unset, .unset, .unset, .unset]) rfl d_law_50 ?_
        refine Wp.iloadN rfl d_law_52 ?_
        refine Wp.callS nm_M0 (rm_str hw p3 _ ) (mk_M_str hw) (w_0 hw) (w_1 hw) rfl rfl (Wn := 0) rfl rfl (by decide) d_law_53 ?_
        rintro _ _ ⟨s_9, b_10, rfl, rfl⟩
        refine Wp.astore (L' := [.val (.int p0), .val (.int p1), .val (.int p2), .val (.int p3), .val (.int p4), .val (.int p5), .val (.ref s_1), .val (.ref s_4), .val (.ref s_7), .val (.int 0), .val (.ref s_9), .unset, .unset, .unset, .unset, .unset, .unset]) rfl rfl d_law_56 ?_
        refine Wp.iload rfl d_law_58 ?_
        refine Wp.callS nm_M0 (rm_str hw p4 _ ) (mk_M_str hw) (w_0 hw) (w_1 hw) rfl rfl (Wn := 0) rfl rfl (by decide) d_law_60 ?_
        rintro _ _ ⟨s_11, b_12, rfl, rfl⟩
        refine Wp.astore (L' := [.val (.int p0), .val (.int p1), .val (.int p2), .val (.int p3), .val (.int p4), .val (.int p5), .val (.ref s_1), .val (.ref s_4), .val (.ref s_7), .val (.int 0), .val (.ref s_9), .val (.ref s_11), .unset, .unset, .unset, .unset, .unset]) rfl rfl d_law_63 ?_
        refine Wp.iload rfl d_law_65 ?_
        refine Wp.callS nm_M0 (rm_str hw p5 _ ) (mk_M_str hw) (w_0 hw) (w_1 hw) rfl rfl (Wn := 0) rfl rfl (by decide) d_law_67 ?_
        rintro _ _ ⟨s_13, b_14, rfl, rfl⟩
        refine Wp.astore (L' := [.val (.int p0), .val (.int p1), .val (.int p2), .val (.int p3), .val (.int p4), .val (.int p5), .val (.ref s_1), .val (.ref s_4), .val (.ref s_7), .val (.int 0), .val (.ref s_9), .val (.ref s_11), .val (.ref s_13), .unset, .unset, .unset, .unset]) rfl rfl d_law_70 ?_
        refine Wp.newO nm_M0 (w_34 hw) (w_35 hw) (w_36 hw) (nf_oAL hw) (by decide) (by decide) d_law_72 (fun a15 => ?_)
        refine Wp.dup rfl d_law_75 ?_
        refine Wp.callC nm_M0 (rm_ali hw a15 de _ hde) (mk_M_ali hw) (w_37 hw) (w_38 hw) rfl rfl rfl rfl (Wn := 1) rfl rfl (by decide) d_law_76 ?_
        rintro _ _ ⟨rfl, rfl⟩
        refine Wp.astore (L' := [.val (.int p0), .val (.int p1), .val (.int p2), .val (.int p3), .val (.int p4), .val (.int p5), .val (.ref s_1), .val (.ref s_4), .val (.ref s_7), .val (.int 0), .val (.ref s_9), .val (.ref s_11), .val (.ref s_13), .val (.ref a15), .unset, .unset, .unset]) rfl rfl d_law_79 ?_
        refine Wp.iload rfl d_law_81 ?_
        refine Wp.iconst lc_1 d_law_83 ?_
        refine Wp.icT (by decide) d_law_84 ?_
        refine Wp.iload rfl d_law_95 ?_
        refine Wp.iconst lc_2 d_law_97 ?_
        refine Wp.icT (by decide) d_law_98 ?_
        refine Wp.iload rfl d_law_109 ?_
        refine Wp.iconst lc_3 d_law_111 ?_
        refine Wp.icT (by decide) d_law_112 ?_
        refine Wp.newO nm_M0 (w_58 hw) (w_59 hw) (w_60 hw) (nf_oUE hw) (by decide) (by decide) d_law_123 (fun a16 => ?_)
        refine Wp.dup rfl d_law_126 ?_
        refine Wp.aload rfl rfl d_law_127 ?_
        refine Wp.aload rfl rfl d_law_129 ?_
        refine Wp.aload rfl rfl d_law_131 ?_
        refine Wp.perm [0, 8, 1, 2, 3, 4, 5, 6, 7] 9 pp_0_8_1_2_3_4_5_6_7 (H' := [oUE true a16 (.null) (.null) (.null) (.null), oLN false el (.ref ee) (.int 0), oAL true a15 (.int 0) (.ref de) (.int 0), oStr true s_13 (.ref b_14) (.int 0), oStr true s_11 (.ref b_12) (.int 0), oStr true s_9 (.ref b_10) (.int 0), oStr true s_7 (.ref b_8) (.int 0), oStr true s_4 (.ref b_5) (.int 0), oStr true s_1 (.ref b_2) (.int 0), (ee, false, .inr ((.object "java/lang/Object"), true, false, [])), oOb false em , (de, false, .inr ((.object "java/lang/Object"), true, false, []))]) rfl ?_
        refine Wp.callC nm_M0 (rm_ue3a hw a16 (.ref s_1) (.ref s_4) (.ref s_7) el ee _ rfl rfl rfl hel) (mk_M_ue3a hw) (w_61 hw) (w_62 hw) rfl rfl rfl rfl (Wn := 1) rfl rfl (by decide) d_law_133 ?_
        rintro _ _ ⟨rfl, rfl⟩
        refine Wp.astore (L' := [.val (.int p0), .val (.int p1), .val (.int p2), .val (.int p3), .val (.int p4), .val (.int p5), .val (.ref s_1), .val (.ref s_4), .val (.ref s_7), .val (.int 0), .val (.ref s_9), .val (.ref s_11), .val (.ref s_13), .val (.ref a15), .val (.ref a16), .unset, .unset]) rfl rfl d_law_136 ?_
        refine Wp.aload rfl rfl d_law_138 ?_
        refine Wp.aload rfl rfl d_law_140 ?_
        refine Wp.perm [0, 2, 1] 3 pp_0_2_1 (H' := [oUE true a16 (.ref s_1) (.ref s_4) (.ref s_7) (.ref el), oAL true a15 (.int 0) (.ref de) (.int 0), oLN false el (.ref ee) (.int 0), oStr true s_13 (.ref b_14) (.int 0), oStr true s_11 (.ref b_12) (.int 0), oStr true s_9 (.ref b_10) (.int 0), oStr true s_7 (.ref b_8) (.int 0), oStr true s_4 (.ref b_5) (.int 0), oStr true s_1 (.ref b_2) (.int 0), (ee, false, .inr ((.object "java/lang/Object"), true, false, [])), oOb false em , (de, false, .inr ((.object "java/lang/Object"), true, false, []))]) rfl ?_
        refine Wp.callV nm_M0 (rm_wg0 hw a16 (.ref s_1) (.ref s_4) (.ref s_7) a15 el em mr de _ rfl rfl rfl hel hem hmr) 0 rfl (mk_M_wg0 hw) (w_100 hw) (w_101 hw) (w_103 hw) (w_102 hw) (S' := "") (Or.inl rfl) (by decide) rfl rfl rfl (Wn := 0) rfl rfl (by decide) d_law_142 ?_
        rintro _ _ ⟨o_17, rfl, rfl⟩
        refine Wp.astore (L' := [.val (.int p0), .val (.int p1), .val (.int p2), .val (.int p3), .val (.int p4), .val (.int p5), .val (.ref s_1), .val (.ref s_4), .val (.ref s_7), .val (.int 0), .val (.ref s_9), .val (.ref s_11), .val (.ref s_13), .val (.ref a15), .val (.ref a16), .val (.ref o_17), .unset]) rfl rfl d_law_145 ?_
        refine Wp.aload rfl rfl d_law_147 ?_
        refine Wp.aload rfl rfl d_law_149 ?_
        refine Wp.perm [2, 12, 6, 0, 1, 3, 4, 5, 7, 8, 9, 10, 11] 13 pp_2_12_6_0_1_3_4_5_7_8_9_10_11 (H' := [oAL true a15 (.int 0) (.ref de) (.int 0), (de, false, .inr ((.object "java/lang/Object"), true, false, [])), oStr true s_9 (.ref b_10) (.int 0), oUE true o_17 (.ref s_1) (.ref s_4) (.ref s_7) (.ref el), oUE true a16 (.ref s_1) (.ref s_4) (.ref s_7) (.ref el), oLN false el (.ref ee) (.int 0), oStr true s_13 (.ref b_14) (.int 0), oStr true s_11 (.ref b_12) (.int 0), oStr true s_7 (.ref b_8) (.int 0), oStr true s_4 (.ref b_5) (.int 0), oStr true s_1 (.ref b_2) (.int 0), (ee, false, .inr ((.object "java/lang/Object"), true, false, [])), oOb false em ]) rfl ?_
        refine Wp.callV nm_M0 (rm_add_0 hw a15 de s_9 true (.ref b_10) (.int 0) _ hde) 0 rfl (mk_M_add_0 hw) (w_120 hw) (w_121 hw) (w_123 hw) (w_122 hw) (S' := "") (Or.inl rfl) (by decide) rfl rfl rfl (Wn := 0) rfl rfl (by decide) d_law_151 ?_
        rintro _ _ ⟨e_18, rfl, rfl⟩
        refine Wp.pop rfl d_law_154 ?_
        refine Wp.aload rfl rfl d_law_155 ?_
        refine Wp.aload rfl rfl d_law_157 ?_
        refine Wp.perm [4, 0, 1, 2, 3] 5 pp_4_0_1_2_3 (H' := [oUE true o_17 (.ref s_1) (.ref s_4) (.ref s_7) (.ref el), oAL true a15 (.int 1) (.ref e_18) (.int 1), eO e_18 [.ref s_9, .null, .null, .null, .null, .null, .null, .null, .null, .null], (de, false, .inr ((.object "java/lang/Object"), true, false, [])), oStr true s_9 (.ref b_10) (.int 0), oUE true a16 (.ref s_1) (.ref s_4) (.ref s_7) (.ref el), oLN false el (.ref ee) (.int 0), oStr true s_13 (.ref b_14) (.int 0), oStr true s_11 (.ref b_12) (.int 0), oStr true s_7 (.ref b_8) (.int 0), oStr true s_4 (.ref b_5) (.int 0), oStr true s_1 (.ref b_2) (.int 0), (ee, false, .inr ((.object "java/lang/Object"), true, false, [])), oOb false em ]) rfl ?_
        refine Wp.callV nm_M0 (rm_g0 hw o_17 (.ref s_1) (.ref s_4) (.ref s_7) el _ rfl rfl rfl) 0 rfl (mk_M_g0 hw) (w_149 hw) (w_150 hw) (w_152 hw) (w_151 hw) (S' := "") (Or.inl rfl) (by decide) rfl rfl rfl (Wn := 1) rfl rfl (by decide) d_law_159 ?_
        rintro _ _ ⟨rfl, rfl⟩
        refine Wp.perm [11, 0, 1, 2, 3, 4, 5, 6, 7, 8, 9, 10] 12 pp_11_0_1_2_3_4_5_6_7_8_9_10 (H' := [oStr true s_1 (.ref b_2) (.int 0), oUE true o_17 (.ref s_1) (.ref s_4) (.ref s_7) (.ref el), oAL true a15 (.int 1) (.ref e_18) (.int 1), eO e_18 [.ref s_9, .null, .null, .null, .null, .null, .null, .null, .null, .null], (de, false, .inr ((.object "java/lang/Object"), true, false, [])), oStr true s_9 (.ref b_10) (.int 0), oUE true a16 (.ref s_1) (.ref s_4) (.ref s_7) (.ref el), oLN false el (.ref ee) (.int 0), oStr true s_13 (.ref b_14) (.int 0), oStr true s_11 (.ref b_12) (.int 0), oStr true s_7 (.ref b_8) (.int 0), oStr true s_4 (.ref b_5) (.int 0), (ee, false, .inr ((.object "java/lang/Object"), true, false, [])), oOb false em ]) rfl ?_
        refine Wp.callS nm_M0 (rm_eqS hw s_1 true (.ref b_2) (.int 0) _ ) (mk_M_eqS hw) (w_154 hw) (w_155 hw) rfl rfl (Wn := 0) rfl rfl (by decide) d_law_162 ?_
        rintro _ _ ⟨rfl, rfl⟩
        refine Wp.ifT (by decide) d_law_165 ?_
        refine Wp.aload rfl rfl d_law_170 ?_
        refine Wp.aload rfl rfl d_law_172 ?_
        refine Wp.perm [1, 0] 2 pp_1_0 (H' := [oUE true o_17 (.ref s_1) (.ref s_4) (.ref s_7) (.ref el), oStr true s_1 (.ref b_2) (.int 0), oAL true a15 (.int 1) (.ref e_18) (.int 1), eO e_18 [.ref s_9, .null, .null, .null, .null, .null, .null, .null, .null, .null], (de, false, .inr ((.object "java/lang/Object"), true, false, [])), oStr true s_9 (.ref b_10) (.int 0), oUE true a16 (.ref s_1) (.ref s_4) (.ref s_7) (.ref el), oLN false el (.ref ee) (.int 0), oStr true s_13 (.ref b_14) (.int 0), oStr true s_11 (.ref b_12) (.int 0), oStr true s_7 (.ref b_8) (.int 0), oStr true s_4 (.ref b_5) (.int 0), (ee, false, .inr ((.object "java/lang/Object"), true, false, [])), oOb false em ]) rfl ?_
        refine Wp.callV nm_M0 (rm_g1 hw o_17 (.ref s_1) (.ref s_4) (.ref s_7) el _ rfl rfl rfl) 0 rfl (mk_M_g1 hw) (w_162 hw) (w_163 hw) (w_165 hw) (w_164 hw) (S' := "") (Or.inl rfl) (by decide) rfl rfl rfl (Wn := 1) rfl rfl (by decide) d_law_174 ?_
        rintro _ _ ⟨rfl, rfl⟩
        refine Wp.perm [11, 0, 1, 2, 3, 4, 5, 6, 7, 8, 9, 10] 12 pp_11_0_1_2_3_4_5_6_7_8_9_10 (H' := [oStr true s_4 (.ref b_5) (.int 0), oUE true o_17 (.ref s_1) (.ref s_4) (.ref s_7) (.ref el), oStr true s_1 (.ref b_2) (.int 0), oAL true a15 (.int 1) (.ref e_18) (.int 1), eO e_18 [.ref s_9, .null, .null, .null, .null, .null, .null, .null, .null, .null], (de, false, .inr ((.object "java/lang/Object"), true, false, [])), oStr true s_9 (.ref b_10) (.int 0), oUE true a16 (.ref s_1) (.ref s_4) (.ref s_7) (.ref el), oLN false el (.ref ee) (.int 0), oStr true s_13 (.ref b_14) (.int 0), oStr true s_11 (.ref b_12) (.int 0), oStr true s_7 (.ref b_8) (.int 0), (ee, false, .inr ((.object "java/lang/Object"), true, false, [])), oOb false em ]) rfl ?_
        refine Wp.callS nm_M0 (rm_eqS hw s_4 true (.ref b_5) (.int 0) _ ) (mk_M_eqS hw) (w_154 hw) (w_155 hw) rfl rfl (Wn := 0) rfl rfl (by decide) d_law_177 ?_
        rintro _ _ ⟨rfl, rfl⟩
        refine Wp.ifT (by decide) d_law_180 ?_
        refine Wp.aload rfl rfl d_law_185 ?_
        refine Wp.aload rfl rfl d_law_187 ?_
        refine Wp.perm [1, 0] 2 pp_1_0 (H' := [oUE true o_17 (.ref s_1) (.ref s_4) (.ref s_7) (.ref el), oStr true s_4 (.ref b_5) (.int 0), oStr true s_1 (.ref b_2) (.int 0), oAL true a15 (.int 1) (.ref e_18) (.int 1), eO e_18 [.ref s_9, .null, .null, .null, .null, .null, .null, .null, .null, .null], (de, false, .inr ((.object "java/lang/Object"), true, false, [])), oStr true s_9 (.ref b_10) (.int 0), oUE true a16 (.ref s_1) (.ref s_4) (.ref s_7) (.ref el), oLN false el (.ref ee) (.int 0), oStr true s_13 (.ref b_14) (.int 0), oStr true s_11 (.ref b_12) (.int 0), oStr true s_7 (.ref b_8) (.int 0), (ee, false, .inr ((.object "java/lang/Object"), true, false, [])), oOb false em ]) rfl ?_
        refine Wp.callV nm_M0 (rm_g2 hw o_17 (.ref s_1) (.ref s_4) (.ref s_7) el _ rfl rfl rfl) 0 rfl (mk_M_g2 hw) (w_167 hw) (w_168 hw) (w_170 hw) (w_169 hw) (S' := "") (Or.inl rfl) (by decide) rfl rfl rfl (Wn := 1) rfl rfl (by decide) d_law_189 ?_
        rintro _ _ ⟨rfl, rfl⟩
        refine Wp.perm [11, 0, 1, 2, 3, 4, 5, 6, 7, 8, 9, 10] 12 pp_11_0_1_2_3_4_5_6_7_8_9_10 (H' := [oStr true s_7 (.ref b_8) (.int 0), oUE true o_17 (.ref s_1) (.ref s_4) (.ref s_7) (.ref el), oStr true s_4 (.ref b_5) (.int 0), oStr true s_1 (.ref b_2) (.int 0), oAL true a15 (.int 1) (.ref e_18) (.int 1), eO e_18 [.ref s_9, .null, .null, .null, .null, .null, .null, .null, .null, .null], (de, false, .inr ((.object "java/lang/Object"), true, false, [])), oStr true s_9 (.ref b_10) (.int 0), oUE true a16 (.ref s_1) (.ref s_4) (.ref s_7) (.ref el), oLN false el (.ref ee) (.int 0), oStr true s_13 (.ref b_14) (.int 0), oStr true s_11 (.ref b_12) (.int 0), (ee, false, .inr ((.object "java/lang/Object"), true, false, [])), oOb false em ]) rfl ?_
        refine Wp.callS nm_M0 (rm_eqS hw s_7 true (.ref b_8) (.int 0) _ ) (mk_M_eqS hw) (w_154 hw) (w_155 hw) rfl rfl (Wn := 0) rfl rfl (by decide) d_law_192 ?_
        rintro _ _ ⟨rfl, rfl⟩
        refine Wp.ifT (by decide) d_law_195 ?_
        refine Wp.aload rfl rfl d_law_200 ?_
        refine Wp.perm [1, 0] 2 pp_1_0 (H' := [oUE true o_17 (.ref s_1) (.ref s_4) (.ref s_7) (.ref el), oStr true s_7 (.ref b_8) (.int 0), oStr true s_4 (.ref b_5) (.int 0), oStr true s_1 (.ref b_2) (.int 0), oAL true a15 (.int 1) (.ref e_18) (.int 1), eO e_18 [.ref s_9, .null, .null, .null, .null, .null, .null, .null, .null, .null], (de, false, .inr ((.object "java/lang/Object"), true, false, [])), oStr true s_9 (.ref b_10) (.int 0), oUE true a16 (.ref s_1) (.ref s_4) (.ref s_7) (.ref el), oLN false el (.ref ee) (.int 0), oStr true s_13 (.ref b_14) (.int 0), oStr true s_11 (.ref b_12) (.int 0), (ee, false, .inr ((.object "java/lang/Object"), true, false, [])), oOb false em ]) rfl ?_
        refine Wp.callV nm_M0 (rm_gg hw o_17 (.ref s_1) (.ref s_4) (.ref s_7) el _ ) 0 rfl (mk_M_gg hw) (w_172 hw) (w_173 hw) (w_175 hw) (w_174 hw) (S' := "") (Or.inl rfl) (by decide) rfl rfl rfl (Wn := 0) rfl rfl (by decide) d_law_202 ?_
        rintro _ _ ⟨rfl, rfl⟩
        refine Wp.astore (L' := [.val (.int p0), .val (.int p1), .val (.int p2), .val (.int p3), .val (.int p4), .val (.int p5), .val (.ref s_1), .val (.ref s_4), .val (.ref s_7), .val (.int 0), .val (.ref s_9), .val (.ref s_11), .val (.ref s_13), .val (.ref a15), .val (.ref a16), .val (.ref o_17), .val (.ref el)]) rfl rfl d_law_205 ?_
        refine Wp.aload rfl rfl d_law_207 ?_
        refine Wp.perm [9, 12, 0, 1, 2, 3, 4, 5, 6, 7, 8, 10, 11] 13 pp_9_12_0_1_2_3_4_5_6_7_8_10_11 (H' := [oLN false el (.ref ee) (.int 0), (ee, false, .inr ((.object "java/lang/Object"), true, false, [])), oUE true o_17 (.ref s_1) (.ref s_4) (.ref s_7) (.ref el), oStr true s_7 (.ref b_8) (.int 0), oStr true s_4 (.ref b_5) (.int 0), oStr true s_1 (.ref b_2) (.int 0), oAL true a15 (.int 1) (.ref e_18) (.int 1), eO e_18 [.ref s_9, .null, .null, .null, .null, .null, .null, .null, .null, .null], (de, false, .inr ((.object "java/lang/Object"), true, false, [])), oStr true s_9 (.ref b_10) (.int 0), oUE true a16 (.ref s_1) (.ref s_4) (.ref s_7) (.ref el), oStr true s_13 (.ref b_14) (.int 0), oStr true s_11 (.ref b_12) (.int 0), oOb false em ]) rfl ?_
        refine Wp.callI nm_M0 (rm_szE hw el ee _ ) 0 rfl (mk_M_szE hw) (w_177 hw) (w_178 hw) (w_179 hw) (w_180 hw) (w_181 hw) (w_182 hw) (w_183 hw) (w_97 hw) (by decide) rfl rfl rfl (Wn := 0) rfl rfl (by decide) d_law_209 ?_
        rintro _ _ ⟨rfl, rfl⟩
        refine Wp.iload rfl d_law_214 ?_
        refine Wp.icT (by decide) d_law_216 ?_
        refine Wp.iload rfl d_law_221 ?_
        refine Wp.iconst lc_1 d_law_223 ?_
        refine Wp.icT (by decide) d_law_224 ?_
        refine Wp.iload rfl d_law_245 ?_
        refine Wp.iconst lc_2 d_law_247 ?_
        refine Wp.icT (by decide) d_law_248 ?_
        refine Wp.iload rfl d_law_269 ?_
        refine Wp.iconst lc_3 d_law_271 ?_
        refine Wp.icT (by decide) d_law_272 ?_
        refine Wp.aload rfl rfl d_law_293 ?_
        refine Wp.perm [10, 0, 1, 2, 3, 4, 5, 6, 7, 8, 9] 11 pp_10_0_1_2_3_4_5_6_7_8_9 (H' := [oUE true a16 (.ref s_1) (.ref s_4) (.ref s_7) (.ref el), oLN false el (.ref ee) (.int 0), (ee, false, .inr ((.object "java/lang/Object"), true, false, [])), oUE true o_17 (.ref s_1) (.ref s_4) (.ref s_7) (.ref el), oStr true s_7 (.ref b_8) (.int 0), oStr true s_4 (.ref b_5) (.int 0), oStr true s_1 (.ref b_2) (.int 0), oAL true a15 (.int 1) (.ref e_18) (.int 1), eO e_18 [.ref s_9, .null, .null, .null, .null, .null, .null, .null, .null, .null], (de, false, .inr ((.object "java/lang/Object"), true, false, [])), oStr true s_9 (.ref b_10) (.int 0), oStr true s_13 (.ref b_14) (.int 0), oStr true s_11 (.ref b_12) (.int 0), oOb false em ]) rfl ?_
        refine Wp.callV nm_M0 (rm_gg hw a16 (.ref s_1) (.ref s_4) (.ref s_7) el _ ) 0 rfl (mk_M_gg hw) (w_172 hw) (w_173 hw) (w_175 hw) (w_174 hw) (S' := "") (Or.inl rfl) (by decide) rfl rfl rfl (Wn := 0) rfl rfl (by decide) d_law_295 ?_
        rintro _ _ ⟨rfl, rfl⟩
        refine Wp.perm [1, 2, 0] 3 pp_1_2_0 (H' := [oLN false el (.ref ee) (.int 0), (ee, false, .inr ((.object "java/lang/Object"), true, false, [])), oUE true a16 (.ref s_1) (.ref s_4) (.ref s_7) (.ref el), oUE true o_17 (.ref s_1) (.ref s_4) (.ref s_7) (.ref el), oStr true s_7 (.ref b_8) (.int 0), oStr true s_4 (.ref b_5) (.int 0), oStr true s_1 (.ref b_2) (.int 0), oAL true a15 (.int 1) (.ref e_18) (.int 1), eO e_18 [.ref s_9, .null, .null, .null, .null, .null, .null, .null, .null, .null], (de, false, .inr ((.object "java/lang/Object"), true, false, [])), oStr true s_9 (.ref b_10) (.int 0), oStr true s_13 (.ref b_14) (.int 0), oStr true s_11 (.ref b_12) (.int 0), oOb false em ]) rfl ?_
        refine Wp.callI nm_M0 (rm_szE hw el ee _ ) 0 rfl (mk_M_szE hw) (w_177 hw) (w_178 hw) (w_179 hw) (w_180 hw) (w_181 hw) (w_182 hw) (w_183 hw) (w_97 hw) (by decide) rfl rfl rfl (Wn := 0) rfl rfl (by decide) d_law_298 ?_
        rintro _ _ ⟨rfl, rfl⟩
        refine Wp.ifF (by decide) d_law_303 ?_
        refine Wp.iconst lc_1 d_law_306 ?_
        refine Wp.goto d_law_307 ?_
        refine Wp.iretN (z := 1) (by simp) rfl (by decide) d_law_311 (by decide) (by decide) ?_
        exact rfl
      · rw [hn]
        refine Wp.istore (L' := [.val (.int p0), .val (.int p1), .val (.int p2), .val (.int p3), .val (.int p4), .val (.int p5), .val (.ref s_1), .val (.ref s_4), .val (.ref s_7), .val (.int 1), .unset, .unset, .unset, .unset, .unset, .unset, .unset]) rfl d_law_50 ?_
        refine Wp.iloadN rfl d_law_52 ?_
        refine Wp.callS nm_M0 (rm_str hw p3 _ ) (mk_M_str hw) (w_0 hw) (w_1 hw) rfl rfl (Wn := 0) rfl rfl (by decide) d_law_53 ?_
        rintro _ _ ⟨s_19, b_20, rfl, rfl⟩
        refine Wp.astore (L' := [.val (.int p0), .val (.int p1), .val (.int p2), .val (.int p3), .val (.int p4), .val (.int p5), .val (.ref s_1), .val (.ref s_4), .val (.ref s_7), .val (.int 1), .val (.ref s_19), .unset, .unset, .unset, .unset, .unset, .unset]) rfl rfl d_law_56 ?_
        refine Wp.iload rfl d_law_58 ?_
        refine Wp.callS nm_M0 (rm_str hw p4 _ ) (mk_M_str hw) (w_0 hw) (w_1 hw) rfl rfl (Wn := 0) rfl rfl (by decide) d_law_60 ?_
        rintro _ _ ⟨s_21, b_22, rfl, rfl⟩
        refine Wp.astore (L' := [.val (.int p0), .val (.int p1), .val (.int p2), .val (.int p3), .val (.int p4), .val (.int p5), .val (.ref s_1), .val (.ref s_4), .val (.ref s_7), .val (.int 1), .val (.ref s_19), .val (.ref s_21), .unset, .unset, .unset, .unset, .unset]) rfl rfl d_law_63 ?_
        refine Wp.iload rfl d_law_65 ?_
        refine Wp.callS nm_M0 (rm_str hw p5 _ ) (mk_M_str hw) (w_0 hw) (w_1 hw) rfl rfl (Wn := 0) rfl rfl (by decide) d_law_67 ?_
        rintro _ _ ⟨s_23, b_24, rfl, rfl⟩
        refine Wp.astore (L' := [.val (.int p0), .val (.int p1), .val (.int p2), .val (.int p3), .val (.int p4), .val (.int p5), .val (.ref s_1), .val (.ref s_4), .val (.ref s_7), .val (.int 1), .val (.ref s_19), .val (.ref s_21), .val (.ref s_23), .unset, .unset, .unset, .unset]) rfl rfl d_law_70 ?_
        refine Wp.newO nm_M0 (w_34 hw) (w_35 hw) (w_36 hw) (nf_oAL hw) (by decide) (by decide) d_law_72 (fun a25 => ?_)
        refine Wp.dup rfl d_law_75 ?_
        refine Wp.callC nm_M0 (rm_ali hw a25 de _ hde) (mk_M_ali hw) (w_37 hw) (w_38 hw) rfl rfl rfl rfl (Wn := 1) rfl rfl (by decide) d_law_76 ?_
        rintro _ _ ⟨rfl, rfl⟩
        refine Wp.astore (L' := [.val (.int p0), .val (.int p1), .val (.int p2), .val (.int p3), .val (.int p4), .val (.int p5), .val (.ref s_1), .val (.ref s_4), .val (.ref s_7), .val (.int 1), .val (.ref s_19), .val (.ref s_21), .val (.ref s_23), .val (.ref a25), .unset, .unset, .unset]) rfl rfl d_law_79 ?_
        refine Wp.iload rfl d_law_81 ?_
        refine Wp.iconst lc_1 d_law_83 ?_
        refine Wp.icF (by decide) d_law_84 ?_
        refine Wp.aload rfl rfl d_law_87 ?_
        refine Wp.aload rfl rfl d_law_89 ?_
        refine Wp.perm [0, 10, 3, 1, 2, 4, 5, 6, 7, 8, 9] 11 pp_0_10_3_1_2_4_5_6_7_8_9 (H' := [oAL true a25 (.int 0) (.ref de) (.int 0), (de, false, .inr ((.object "java/lang/Object"), true, false, [])), oStr true s_19 (.ref b_20) (.int 0), oStr true s_23 (.ref b_24) (.int 0), oStr true s_21 (.ref b_22) (.int 0), oStr true s_7 (.ref b_8) (.int 0), oStr true s_4 (.ref b_5) (.int 0), oStr true s_1 (.ref b_2) (.int 0), oLN false el (.ref ee) (.int 0), (ee, false, .inr ((.object "java/lang/Object"), true, false, [])), oOb false em ]) rfl ?_
        refine Wp.callV nm_M0 (rm_add_0 hw a25 de s_19 true (.ref b_20) (.int 0) _ hde) 0 rfl (mk_M_add_0 hw) (w_120 hw) (w_121 hw) (w_123 hw) (w_122 hw) (S' := "") (Or.inl rfl) (by decide) rfl rfl rfl (Wn := 0) rfl rfl (by decide) d_law_91 ?_
        rintro _ _ ⟨e_26, rfl, rfl⟩
        refine Wp.pop rfl d_law_94 ?_
        refine Wp.iload rfl d_law_95 ?_
        refine Wp.iconst lc_2 d_law_97 ?_
        refine Wp.icT (by decide) d_law_98 ?_
        refine Wp.iload rfl d_law_109 ?_
        refine Wp.iconst lc_3 d_law_111 ?_
        refine Wp.icT (by decide) d_law_112 ?_
        refine Wp.newO nm_M0 (w_58 hw) (w_59 hw) (w_60 hw) (nf_oUE hw) (by decide) (by decide) d_law_123 (fun a27 => ?_)
        refine Wp.dup rfl d_law_126 ?_
        refine Wp.aload rfl rfl d_law_127 ?_
        refine Wp.aload rfl rfl d_law_129 ?_
        refine Wp.aload rfl rfl d_law_131 ?_
        refine Wp.perm [0, 10, 1, 2, 3, 4, 5, 6, 7, 8, 9] 11 pp_0_10_1_2_3_4_5_6_7_8_9 (H' := [oUE true a27 (.null) (.null) (.null) (.null), oLN false el (.ref ee) (.int 0), oAL true a25 (.int 1) (.ref e_26) (.int 1), eO e_26 [.ref s_19, .null, .null, .null, .null, .null, .null, .null, .null, .null], (de, false, .inr ((.object "java/lang/Object"), true, false, [])), oStr true s_19 (.ref b_20) (.int 0), oStr true s_23 (.ref b_24) (.int 0), oStr true s_21 (.ref b_22) (.int 0), oStr true s_7 (.ref b_8) (.int 0), oStr true s_4 (.ref b_5) (.int 0), oStr true s_1 (.ref b_2) (.int 0), (ee, false, .inr ((.object "java/lang/Object"), true, false, [])), oOb false em ]) rfl ?_
        refine Wp.callC nm_M0 (rm_ue3a hw a27 (.ref s_1) (.ref s_4) (.ref s_7) el ee _ rfl rfl rfl hel) (mk_M_ue3a hw) (w_61 hw) (w_62 hw) rfl rfl rfl rfl (Wn := 1) rfl rfl (by decide) d_law_133 ?_
        rintro _ _ ⟨rfl, rfl⟩
        refine Wp.astore (L' := [.val (.int p0), .val (.int p1), .val (.int p2), .val (.int p3), .val (.int p4), .val (.int p5), .val (.ref s_1), .val (.ref s_4), .val (.ref s_7), .val (.int 1), .val (.ref s_19), .val (.ref s_21), .val (.ref s_23), .val (.ref a25), .val (.ref a27), .unset, .unset]) rfl rfl d_law_136 ?_
        refine Wp.aload rfl rfl d_law_138 ?_
        refine Wp.aload rfl rfl d_law_140 ?_
        refine Wp.perm [0, 2, 3, 5, 1, 4] 6 pp_0_2_3_5_1_4 (H' := [oUE true a27 (.ref s_1) (.ref s_4) (.ref s_7) (.ref el), oAL true a25 (.int 1) (.ref e_26) (.int 1), eO e_26 [.ref s_19, .null, .null, .null, .null, .null, .null, .null, .null, .null], oStr true s_19 (.ref b_20) (.int 0), oLN false el (.ref ee) (.int 0), (de, false, .inr ((.object "java/lang/Object"), true, false, [])), oStr true s_23 (.ref b_24) (.int 0), oStr true s_21 (.ref b_22) (.int 0), oStr true s_7 (.ref b_8) (.int 0), oStr true s_4 (.ref b_5) (.int 0), oStr true s_1 (.ref b_2) (.int 0), (ee, false, .inr ((.object "java/lang/Object"), true, false, [])), oOb false em ]) rfl ?_
        refine Wp.callV nm_M0 (rm_wg1 hw a27 (.ref s_1) (.ref s_4) (.ref s_7) a25 e_26 s_19 true (.ref b_20) (.int 0) el em mr _ rfl rfl rfl hel hem hmr) 0 rfl (mk_M_wg1 hw) (w_100 hw) (w_101 hw) (w_103 hw) (w_102 hw) (S' := "") (Or.inl rfl) (by decide) rfl rfl rfl (Wn := 0) rfl rfl (by decide) d_law_142 ?_
        rintro _ _ ⟨o_28, q_29, rfl, rfl⟩
        refine Wp.astore (L' := [.val (.int p0), .val (.int p1), .val (.int p2), .val (.int p3), .val (.int p4), .val (.int p5), .val (.ref s_1), .val (.ref s_4), .val (.ref s_7), .val (.int 1), .val (.ref s_19), .val (.ref s_21), .val (.ref s_23), .val (.ref a25), .val (.ref a27), .val (.ref o_28), .unset]) rfl rfl d_law_145 ?_
        refine Wp.aload rfl rfl d_law_147 ?_
        refine Wp.aload rfl rfl d_law_149 ?_
        refine Wp.perm [3, 4, 5, 0, 1, 2] 6 pp_3_4_5_0_1_2 (H' := [oAL true a25 (.int 1) (.ref e_26) (.int 1), eO e_26 [.ref s_19, .null, .null, .null, .null, .null, .null, .null, .null, .null], oStr true s_19 (.ref b_20) (.int 0), oUE true o_28 (.ref s_1) (.ref s_4) (.ref s_7) (.ref q_29), oL12 true q_29 (.ref s_19) (.ref em), oUE true a27 (.ref s_1) (.ref s_4) (.ref s_7) (.ref el), oLN false el (.ref ee) (.int 0), (de, false, .inr ((.object "java/lang/Object"), true, false, [])), oStr true s_23 (.ref b_24) (.int 0), oStr true s_21 (.ref b_22) (.int 0), oStr true s_7 (.ref b_8) (.int 0), oStr true s_4 (.ref b_5) (.int 0), oStr true s_1 (.ref b_2) (.int 0), (ee, false, .inr ((.object "java/lang/Object"), true, false, [])), oOb false em ]) rfl ?_
        refine Wp.callV nm_M0 (rm_add_1 hw a25 e_26 (.ref s_19) s_19 true (.ref b_20) (.int 0) _ ) 0 rfl (mk_M_add_1 hw) (w_120 hw) (w_121 hw) (w_123 hw) (w_122 hw) (S' := "") (Or.inl rfl) (by decide) rfl rfl rfl (Wn := 0) rfl rfl (by decide) d_law_151 ?_
        rintro _ _ ⟨rfl, rfl⟩
        refine Wp.pop rfl d_law_154 ?_
        refine Wp.aload rfl rfl d_law_155 ?_
        refine Wp.aload rfl rfl d_law_157 ?_
        refine Wp.perm [3, 0, 1, 2] 4 pp_3_0_1_2 (H' := [oUE true o_28 (.ref s_1) (.ref s_4) (.ref s_7) (.ref q_29), oAL true a25 (.int 2) (.ref e_26) (.int 2), eO e_26 [.ref s_19, .ref s_19, .null, .null, .null, .null, .null, .null, .null, .null], oStr true s_19 (.ref b_20) (.int 0), oL12 true q_29 (.ref s_19) (.ref em), oUE true a27 (.ref s_1) (.ref s_4) (.ref s_7) (.ref el), oLN false el (.ref ee) (.int 0), (de, false, .inr ((.object "java/lang/Object"), true, false, [])), oStr true s_23 (.ref b_24) (.int 0), oStr true s_21 (.ref b_22) (.int 0), oStr true s_7 (.ref b_8) (.int 0), oStr true s_4 (.ref b_5) (.int 0), oStr true s_1 (.ref b_2) (.int 0), (ee, false, .inr ((.object "java/lang/Object"), true, false, [])), oOb false em ]) rfl ?_
        refine Wp.callV nm_M0 (rm_g0 hw o_28 (.ref s_1) (.ref s_4) (.ref s_7) q_29 _ rfl rfl rfl) 0 rfl (mk_M_g0 hw) (w_149 hw) (w_150 hw) (w_152 hw) (w_151 hw) (S' := "") (Or.inl rfl) (by decide) rfl rfl rfl (Wn := 1) rfl rfl (by decide) d_law_159 ?_
        rintro _ _ ⟨rfl, rfl⟩
        refine Wp.perm [12, 0, 1, 2, 3, 4, 5, 6, 7, 8, 9, 10, 11] 13 pp_12_0_1_2_3_4_5_6_7_8_9_10_11 (H' := [oStr true s_1 (.ref b_2) (.int 0), oUE true o_28 (.ref s_1) (.ref s_4) (.ref s_7) (.ref q_29), oAL true a25 (.int 2) (.ref e_26) (.int 2), eO e_26 [.ref s_19, .ref s_19, .null, .null, .null, .null, .null, .null, .null, .null], oStr true s_19 (.ref b_20) (.int 0), oL12 true q_29 (.ref s_19) (.ref em), oUE true a27 (.ref s_1) (.ref s_4) (.ref s_7) (.ref el), oLN false el (.ref ee) (.int 0), (de, false, .inr ((.object "java/lang/Object"), true, false, [])), oStr true s_23 (.ref b_24) (.int 0), oStr true s_21 (.ref b_22) (.int 0), oStr true s_7 (.ref b_8) (.int 0), oStr true s_4 (.ref b_5) (.int 0), (ee, false, .inr ((.object "java/lang/Object"), true, false, [])), oOb false em ]) rfl ?_
        refine Wp.callS nm_M0 (rm_eqS hw s_1 true (.ref b_2) (.int 0) _ ) (mk_M_eqS hw) (w_154 hw) (w_155 hw) rfl rfl (Wn := 0) rfl rfl (by decide) d_law_162 ?_
        rintro _ _ ⟨rfl, rfl⟩
        refine Wp.ifT (by decide) d_law_165 ?_
        refine Wp.aload rfl rfl d_law_170 ?_
        refine Wp.aload rfl rfl d_law_172 ?_
        refine Wp.perm [1, 0] 2 pp_1_0 (H' := [oUE true o_28 (.ref s_1) (.ref s_4) (.ref s_7) (.ref q_29), oStr true s_1 (.ref b_2) (.int 0), oAL true a25 (.int 2) (.ref e_26) (.int 2), eO e_26 [.ref s_19, .ref s_19, .null, .null, .null, .null, .null, .null, .null, .null], oStr true s_19 (.ref b_20) (.int 0), oL12 true q_29 (.ref s_19) (.ref em), oUE true a27 (.ref s_1) (.ref s_4) (.ref s_7) (.ref el), oLN false el (.ref ee) (.int 0), (de, false, .inr ((.object "java/lang/Object"), true, false, [])), oStr true s_23 (.ref b_24) (.int 0), oStr true s_21 (.ref b_22) (.int 0), oStr true s_7 (.ref b_8) (.int 0), oStr true s_4 (.ref b_5) (.int 0), (ee, false, .inr ((.object "java/lang/Object"), true, false, [])), oOb false em ]) rfl ?_
        refine Wp.callV nm_M0 (rm_g1 hw o_28 (.ref s_1) (.ref s_4) (.ref s_7) q_29 _ rfl rfl rfl) 0 rfl (mk_M_g1 hw) (w_162 hw) (w_163 hw) (w_165 hw) (w_164 hw) (S' := "") (Or.inl rfl) (by decide) rfl rfl rfl (Wn := 1) rfl rfl (by decide) d_law_174 ?_
        rintro _ _ ⟨rfl, rfl⟩
        refine Wp.perm [12, 0, 1, 2, 3, 4, 5, 6, 7, 8, 9, 10, 11] 13 pp_12_0_1_2_3_4_5_6_7_8_9_10_11 (H' := [oStr true s_4 (.ref b_5) (.int 0), oUE true o_28 (.ref s_1) (.ref s_4) (.ref s_7) (.ref q_29), oStr true s_1 (.ref b_2) (.int 0), oAL true a25 (.int 2) (.ref e_26) (.int 2), eO e_26 [.ref s_19, .ref s_19, .null, .null, .null, .null, .null, .null, .null, .null], oStr true s_19 (.ref b_20) (.int 0), oL12 true q_29 (.ref s_19) (.ref em), oUE true a27 (.ref s_1) (.ref s_4) (.ref s_7) (.ref el), oLN false el (.ref ee) (.int 0), (de, false, .inr ((.object "java/lang/Object"), true, false, [])), oStr true s_23 (.ref b_24) (.int 0), oStr true s_21 (.ref b_22) (.int 0), oStr true s_7 (.ref b_8) (.int 0), (ee, false, .inr ((.object "java/lang/Object"), true, false, [])), oOb false em ]) rfl ?_
        refine Wp.callS nm_M0 (rm_eqS hw s_4 true (.ref b_5) (.int 0) _ ) (mk_M_eqS hw) (w_154 hw) (w_155 hw) rfl rfl (Wn := 0) rfl rfl (by decide) d_law_177 ?_
        rintro _ _ ⟨rfl, rfl⟩
        refine Wp.ifT (by decide) d_law_180 ?_
        refine Wp.aload rfl rfl d_law_185 ?_
        refine Wp.aload rfl rfl d_law_187 ?_
        refine Wp.perm [1, 0] 2 pp_1_0 (H' := [oUE true o_28 (.ref s_1) (.ref s_4) (.ref s_7) (.ref q_29), oStr true s_4 (.ref b_5) (.int 0), oStr true s_1 (.ref b_2) (.int 0), oAL true a25 (.int 2) (.ref e_26) (.int 2), eO e_26 [.ref s_19, .ref s_19, .null, .null, .null, .null, .null, .null, .null, .null], oStr true s_19 (.ref b_20) (.int 0), oL12 true q_29 (.ref s_19) (.ref em), oUE true a27 (.ref s_1) (.ref s_4) (.ref s_7) (.ref el), oLN false el (.ref ee) (.int 0), (de, false, .inr ((.object "java/lang/Object"), true, false, [])), oStr true s_23 (.ref b_24) (.int 0), oStr true s_21 (.ref b_22) (.int 0), oStr true s_7 (.ref b_8) (.int 0), (ee, false, .inr ((.object "java/lang/Object"), true, false, [])), oOb false em ]) rfl ?_
        refine Wp.callV nm_M0 (rm_g2 hw o_28 (.ref s_1) (.ref s_4) (.ref s_7) q_29 _ rfl rfl rfl) 0 rfl (mk_M_g2 hw) (w_167 hw) (w_168 hw) (w_170 hw) (w_169 hw) (S' := "") (Or.inl rfl) (by decide) rfl rfl rfl (Wn := 1) rfl rfl (by decide) d_law_189 ?_
        rintro _ _ ⟨rfl, rfl⟩
        refine Wp.perm [12, 0, 1, 2, 3, 4, 5, 6, 7, 8, 9, 10, 11] 13 pp_12_0_1_2_3_4_5_6_7_8_9_10_11 (H' := [oStr true s_7 (.ref b_8) (.int 0), oUE true o_28 (.ref s_1) (.ref s_4) (.ref s_7) (.ref q_29), oStr true s_4 (.ref b_5) (.int 0), oStr true s_1 (.ref b_2) (.int 0), oAL true a25 (.int 2) (.ref e_26) (.int 2), eO e_26 [.ref s_19, .ref s_19, .null, .null, .null, .null, .null, .null, .null, .null], oStr true s_19 (.ref b_20) (.int 0), oL12 true q_29 (.ref s_19) (.ref em), oUE true a27 (.ref s_1) (.ref s_4) (.ref s_7) (.ref el), oLN false el (.ref ee) (.int 0), (de, false, .inr ((.object "java/lang/Object"), true, false, [])), oStr true s_23 (.ref b_24) (.int 0), oStr true s_21 (.ref b_22) (.int 0), (ee, false, .inr ((.object "java/lang/Object"), true, false, [])), oOb false em ]) rfl ?_
        refine Wp.callS nm_M0 (rm_eqS hw s_7 true (.ref b_8) (.int 0) _ ) (mk_M_eqS hw) (w_154 hw) (w_155 hw) rfl rfl (Wn := 0) rfl rfl (by decide) d_law_192 ?_
        rintro _ _ ⟨rfl, rfl⟩
        refine Wp.ifT (by decide) d_law_195 ?_
        refine Wp.aload rfl rfl d_law_200 ?_
        refine Wp.perm [1, 0] 2 pp_1_0 (H' := [oUE true o_28 (.ref s_1) (.ref s_4) (.ref s_7) (.ref q_29), oStr true s_7 (.ref b_8) (.int 0), oStr true s_4 (.ref b_5) (.int 0), oStr true s_1 (.ref b_2) (.int 0), oAL true a25 (.int 2) (.ref e_26) (.int 2), eO e_26 [.ref s_19, .ref s_19, .null, .null, .null, .null, .null, .null, .null, .null], oStr true s_19 (.ref b_20) (.int 0), oL12 true q_29 (.ref s_19) (.ref em), oUE true a27 (.ref s_1) (.ref s_4) (.ref s_7) (.ref el), oLN false el (.ref ee) (.int 0), (de, false, .inr ((.object "java/lang/Object"), true, false, [])), oStr true s_23 (.ref b_24) (.int 0), oStr true s_21 (.ref b_22) (.int 0), (ee, false, .inr ((.object "java/lang/Object"), true, false, [])), oOb false em ]) rfl ?_
        refine Wp.callV nm_M0 (rm_gg hw o_28 (.ref s_1) (.ref s_4) (.ref s_7) q_29 _ ) 0 rfl (mk_M_gg hw) (w_172 hw) (w_173 hw) (w_175 hw) (w_174 hw) (S' := "") (Or.inl rfl) (by decide) rfl rfl rfl (Wn := 0) rfl rfl (by decide) d_law_202 ?_
        rintro _ _ ⟨rfl, rfl⟩
        refine Wp.astore (L' := [.val (.int p0), .val (.int p1), .val (.int p2), .val (.int p3), .val (.int p4), .val (.int p5), .val (.ref s_1), .val (.ref s_4), .val (.ref s_7), .val (.int 1), .val (.ref s_19), .val (.ref s_21), .val (.ref s_23), .val (.ref a25), .val (.ref a27), .val (.ref o_28), .val (.ref q_29)]) rfl rfl d_law_205 ?_
        refine Wp.aload rfl rfl d_law_207 ?_
        refine Wp.perm [7, 0, 1, 2, 3, 4, 5, 6] 8 pp_7_0_1_2_3_4_5_6 (H' := [oL12 true q_29 (.ref s_19) (.ref em), oUE true o_28 (.ref s_1) (.ref s_4) (.ref s_7) (.ref q_29), oStr true s_7 (.ref b_8) (.int 0), oStr true s_4 (.ref b_5) (.int 0), oStr true s_1 (.ref b_2) (.int 0), oAL true a25 (.int 2) (.ref e_26) (.int 2), eO e_26 [.ref s_19, .ref s_19, .null, .null, .null, .null, .null, .null, .null, .null], oStr true s_19 (.ref b_20) (.int 0), oUE true a27 (.ref s_1) (.ref s_4) (.ref s_7) (.ref el), oLN false el (.ref ee) (.int 0), (de, false, .inr ((.object "java/lang/Object"), true, false, [])), oStr true s_23 (.ref b_24) (.int 0), oStr true s_21 (.ref b_22) (.int 0), (ee, false, .inr ((.object "java/lang/Object"), true, false, [])), oOb false em ]) rfl ?_
        refine Wp.callI nm_M0 (rm_sz1 hw q_29 s_19 em _ hem) 0 rfl (mk_M_sz1 hw) (w_177 hw) (w_178 hw) (w_179 hw) (w_250 hw) (w_251 hw) (w_252 hw) (w_253 hw) (w_254 hw) (by decide) rfl rfl rfl (Wn := 0) rfl rfl (by decide) d_law_209 ?_
        rintro _ _ ⟨rfl, rfl⟩
        refine Wp.iload rfl d_law_214 ?_
        refine Wp.icT (by decide) d_law_216 ?_
        refine Wp.iload rfl d_law_221 ?_
        refine Wp.iconst lc_1 d_law_223 ?_
        refine Wp.icF (by decide) d_law_224 ?_
        refine Wp.aload rfl rfl d_law_227 ?_
        refine Wp.aload rfl rfl d_law_229 ?_
        refine Wp.iconst lc_0 d_law_231 ?_
        refine Wp.callI nm_M0 (rm_gt0 hw q_29 s_19 em _ ) 0 rfl (mk_M_gt0 hw) (w_257 hw) (w_258 hw) (w_259 hw) (w_260 hw) (w_261 hw) (w_262 hw) (w_263 hw) (w_254 hw) (by decide) rfl rfl rfl (Wn := 1) rfl rfl (by decide) d_law_232 ?_
        rintro _ _ ⟨rfl, rfl⟩
        refine Wp.perm [7, 0, 1, 2, 3, 4, 5, 6] 8 pp_7_0_1_2_3_4_5_6 (H' := [oStr true s_19 (.ref b_20) (.int 0), oL12 true q_29 (.ref s_19) (.ref em), oUE true o_28 (.ref s_1) (.ref s_4) (.ref s_7) (.ref q_29), oStr true s_7 (.ref b_8) (.int 0), oStr true s_4 (.ref b_5) (.int 0), oStr true s_1 (.ref b_2) (.int 0), oAL true a25 (.int 2) (.ref e_26) (.int 2), eO e_26 [.ref s_19, .ref s_19, .null, .null, .null, .null, .null, .null, .null, .null], oUE true a27 (.ref s_1) (.ref s_4) (.ref s_7) (.ref el), oLN false el (.ref ee) (.int 0), (de, false, .inr ((.object "java/lang/Object"), true, false, [])), oStr true s_23 (.ref b_24) (.int 0), oStr true s_21 (.ref b_22) (.int 0), (ee, false, .inr ((.object "java/lang/Object"), true, false, [])), oOb false em ]) rfl ?_
        refine Wp.callV nm_M0 (rm_seS hw s_19 true (.ref b_20) (.int 0) _ ) 0 rfl (mk_M_seS hw) (w_157 hw) (w_158 hw) (w_160 hw) (w_159 hw) (S' := "") (Or.inl rfl) (by decide) rfl rfl rfl (Wn := 0) rfl rfl (by decide) d_law_237 ?_
        rintro _ _ ⟨rfl, rfl⟩
        refine Wp.ifT (by decide) d_law_240 ?_
        refine Wp.iload rfl d_law_245 ?_
        refine Wp.iconst lc_2 d_law_247 ?_
        refine Wp.icT (by decide) d_law_248 ?_
        refine Wp.iload rfl d_law_269 ?_
        refine Wp.iconst lc_3 d_law_271 ?_
        refine Wp.icT (by decide) d_law_272 ?_
        refine Wp.aload rfl rfl d_law_293 ?_
        refine Wp.perm [8, 0, 1, 2, 3, 4, 5, 6, 7] 9 pp_8_0_1_2_3_4_5_6_7 (H' := [oUE true a27 (.ref s_1) (.ref s_4) (.ref s_7) (.ref el), oStr true s_19 (.ref b_20) (.int 0), oL12 true q_29 (.ref s_19) (.ref em), oUE true o_28 (.ref s_1) (.ref s_4) (.ref s_7) (.ref q_29), oStr true s_7 (.ref b_8) (.int 0), oStr true s_4 (.ref b_5) (.int 0), oStr true s_1 (.ref b_2) (.int 0), oAL true a25 (.int 2) (.ref e_26) (.int 2), eO e_26 [.ref s_19, .ref s_19, .null, .null, .null, .null, .null, .null, .null, .null], oLN false el (.ref ee) (.int 0), (de, false, .inr ((.object "java/lang/Object"), true, false, [])), oStr true s_23 (.ref b_24) (.int 0), oStr true s_21 (.ref b_22) (.int 0), (ee, false, .inr ((.object "java/lang/Object"), true, false, [])), oOb false em ]) rfl ?_
        refine Wp.callV nm_M0 (rm_gg hw a27 (.ref s_1) (.ref s_4) (.ref s_7) el _ ) 0 rfl (mk_M_gg hw) (w_172 hw) (w_173 hw) (w_175 hw) (w_174 hw) (S' := "") (Or.inl rfl) (by decide) rfl rfl rfl (Wn := 0) rfl rfl (by decide) d_law_295 ?_
        rintro _ _ ⟨rfl, rfl⟩
        refine Wp.perm [9, 13, 0, 1, 2, 3, 4, 5, 6, 7, 8, 10, 11, 12] 14 pp_9_13_0_1_2_3_4_5_6_7_8_10_11_12 (H' := [oLN false el (.ref ee) (.int 0), (ee, false, .inr ((.object "java/lang/Object"), true, false, [])), oUE true a27 (.ref s_1) (.ref s_4) (.ref s_7) (.ref el), oStr true s_19 (.ref b_20) (.int 0), oL12 true q_29 (.ref s_19) (.ref em), oUE true o_28 (.ref s_1) (.ref s_4) (.ref s_7) (.ref q_29), oStr true s_7 (.ref b_8) (.int 0), oStr true s_4 (.ref b_5) (.int 0), oStr true s_1 (.ref b_2) (.int 0), oAL true a25 (.int 2) (.ref e_26) (.int 2), eO e_26 [.ref s_19, .ref s_19, .null, .null, .null, .null, .null, .null, .null, .null], (de, false, .inr ((.object "java/lang/Object"), true, false, [])), oStr true s_23 (.ref b_24) (.int 0), oStr true s_21 (.ref b_22) (.int 0), oOb false em ]) rfl ?_
        refine Wp.callI nm_M0 (rm_szE hw el ee _ ) 0 rfl (mk_M_szE hw) (w_177 hw) (w_178 hw) (w_179 hw) (w_180 hw) (w_181 hw) (w_182 hw) (w_183 hw) (w_97 hw) (by decide) rfl rfl rfl (Wn := 0) rfl rfl (by decide) d_law_298 ?_
        rintro _ _ ⟨rfl, rfl⟩
        refine Wp.ifF (by decide) d_law_303 ?_
        refine Wp.iconst lc_1 d_law_306 ?_
        refine Wp.goto d_law_307 ?_
        refine Wp.iretN (z := 1) (by simp) rfl (by decide) d_law_311 (by decide) (by decide) ?_
        exact rfl
      · rw [hn]
        refine Wp.istore (L' := [.val (.int p0), .val (.int p1), .val (.int p2), .val (.int p3), .val (.int p4), .val (.int p5), .val (.ref s_1), .val (.ref s_4), .val (.ref s_7), .val (.int 2), .unset, .unset, .unset, .unset, .unset, .unset, .unset]) rfl d_law_50 ?_
        refine Wp.iloadN rfl d_law_52 ?_
        refine Wp.callS nm_M0 (rm_str hw p3 _ ) (mk_M_str hw) (w_0 hw) (w_1 hw) rfl rfl (Wn := 0) rfl rfl (by decide) d_law_53 ?_
        rintro _ _ ⟨s_30, b_31, rfl, rfl⟩
        refine Wp.astore (L' := [.val (.int p0), .val (.int p1), .val (.int p2), .val (.int p3), .val (.int p4), .val (.int p5), .val (.ref s_1), .val (.ref s_4), .val (.ref s_7), .val (.int 2), .val (.ref s_30), .unset, .unset, .unset, .unset, .unset, .unset]) rfl rfl d_law_56 ?_
        refine Wp.iload rfl d_law_58 ?_
        refine Wp.callS nm_M0 (rm_str hw p4 _ ) (mk_M_str hw) (w_0 hw) (w_1 hw) rfl rfl (Wn := 0) rfl rfl (by decide) d_law_60 ?_
        rintro _ _ ⟨s_32, b_33, rfl, rfl⟩
        refine Wp.astore (L' := [.val (.int p0), .val (.int p1), .val (.int p2), .val (.int p3), .val (.int p4), .val (.int p5), .val (.ref s_1), .val (.ref s_4), .val (.ref s_7), .val (.int 2), .val (.ref s_30), .val (.ref s_32), .unset, .unset, .unset, .unset, .unset]) rfl rfl d_law_63 ?_
        refine Wp.iload rfl d_law_65 ?_
        refine Wp.callS nm_M0 (rm_str hw p5 _ ) (mk_M_str hw) (w_0 hw) (w_1 hw) rfl rfl (Wn := 0) rfl rfl (by decide) d_law_67 ?_
        rintro _ _ ⟨s_34, b_35, rfl, rfl⟩
        refine Wp.astore (L' := [.val (.int p0), .val (.int p1), .val (.int p2), .val (.int p3), .val (.int p4), .val (.int p5), .val (.ref s_1), .val (.ref s_4), .val (.ref s_7), .val (.int 2), .val (.ref s_30), .val (.ref s_32), .val (.ref s_34), .unset, .unset, .unset, .unset]) rfl rfl d_law_70 ?_
        refine Wp.newO nm_M0 (w_34 hw) (w_35 hw) (w_36 hw) (nf_oAL hw) (by decide) (by decide) d_law_72 (fun a36 => ?_)
        refine Wp.dup rfl d_law_75 ?_
        refine Wp.callC nm_M0 (rm_ali hw a36 de _ hde) (mk_M_ali hw) (w_37 hw) (w_38 hw) rfl rfl rfl rfl (Wn := 1) rfl rfl (by decide) d_law_76 ?_
        rintro _ _ ⟨rfl, rfl⟩
        refine Wp.astore (L' := [.val (.int p0), .val (.int p1), .val (.int p2), .val (.int p3), .val (.int p4), .val (.int p5), .val (.ref s_1), .val (.ref s_4), .val (.ref s_7), .val (.int 2), .val (.ref s_30), .val (.ref s_32), .val (.ref s_34), .val (.ref a36), .unset, .unset, .unset]) rfl rfl d_law_79 ?_
        refine Wp.iload rfl d_law_81 ?_
        refine Wp.iconst lc_1 d_law_83 ?_
        refine Wp.icF (by decide) d_law_84 ?_
        refine Wp.aload rfl rfl d_law_87 ?_
        refine Wp.aload rfl rfl d_law_89 ?_
        refine Wp.perm [0, 10, 3, 1, 2, 4, 5, 6, 7, 8, 9] 11 pp_0_10_3_1_2_4_5_6_7_8_9 (H' := [oAL true a36 (.int 0) (.ref de) (.int 0), (de, false, .inr ((.object "java/lang/Object"), true, false, [])), oStr true s_30 (.ref b_31) (.int 0), oStr true s_34 (.ref b_35) (.int 0), oStr true s_32 (.ref b_33) (.int 0), oStr true s_7 (.ref b_8) (.int 0), oStr true s_4 (.ref b_5) (.int 0), oStr true s_1 (.ref b_2) (.int 0), oLN false el (.ref ee) (.int 0), (ee, false, .inr ((.object "java/lang/Object"), true, false, [])), oOb false em ]) rfl ?_
        refine Wp.callV nm_M0 (rm_add_0 hw a36 de s_30 true (.ref b_31) (.int 0) _ hde) 0 rfl (mk_M_add_0 hw) (w_120 hw) (w_121 hw) (w_123 hw) (w_122 hw) (S' := "") (Or.inl rfl) (by decide) rfl rfl rfl (Wn := 0) rfl rfl (by decide) d_law_91 ?_
        rintro _ _ ⟨e_37, rfl, rfl⟩
        refine Wp.pop rfl d_law_94 ?_
        refine Wp.iload rfl d_law_95 ?_
        refine Wp.iconst lc_2 d_law_97 ?_
        refine Wp.icF (by decide) d_law_98 ?_
        refine Wp.aload rfl rfl d_law_101 ?_
        refine Wp.aload rfl rfl d_law_103 ?_
        refine Wp.perm [0, 1, 5, 2, 3, 4] 6 pp_0_1_5_2_3_4 (H' := [oAL true a36 (.int 1) (.ref e_37) (.int 1), eO e_37 [.ref s_30, .null, .null, .null, .null, .null, .null, .null, .null, .null], oStr true s_32 (.ref b_33) (.int 0), (de, false, .inr ((.object "java/lang/Object"), true, false, [])), oStr true s_30 (.ref b_31) (.int 0), oStr true s_34 (.ref b_35) (.int 0), oStr true s_7 (.ref b_8) (.int 0), oStr true s_4 (.ref b_5) (.int 0), oStr true s_1 (.ref b_2) (.int 0), oLN false el (.ref ee) (.int 0), (ee, false, .inr ((.object "java/lang/Object"), true, false, [])), oOb false em ]) rfl ?_
        refine Wp.callV nm_M0 (rm_add_1 hw a36 e_37 (.ref s_30) s_32 true (.ref b_33) (.int 0) _ ) 0 rfl (mk_M_add_1 hw) (w_120 hw) (w_121 hw) (w_123 hw) (w_122 hw) (S' := "") (Or.inl rfl) (by decide) rfl rfl rfl (Wn := 0) rfl rfl (by decide) d_law_105 ?_
        rintro _ _ ⟨rfl, rfl⟩
        refine Wp.pop rfl d_law_108 ?_
        refine Wp.iload rfl d_law_109 ?_
        refine Wp.iconst lc_3 d_law_111 ?_
        refine Wp.icT (by decide) d_law_112 ?_
        refine Wp.newO nm_M0 (w_58 hw) (w_59 hw) (w_60 hw) (nf_oUE hw) (by decide) (by decide) d_law_123 (fun a38 => ?_)
        refine Wp.dup rfl d_law_126 ?_
        refine Wp.aload rfl rfl d_law_127 ?_
        refine Wp.aload rfl rfl d_law_129 ?_
        refine Wp.aload rfl rfl d_law_131 ?_
        refine Wp.perm [0, 10, 1, 2, 3, 4, 5, 6, 7, 8, 9] 11 pp_0_10_1_2_3_4_5_6_7_8_9 (H' := [oUE true a38 (.null) (.null) (.null) (.null), oLN false el (.ref ee) (.int 0), oAL true a36 (.int 2) (.ref e_37) (.int 2), eO e_37 [.ref s_30, .ref s_32, .null, .null, .null, .null, .null, .null, .null, .null], oStr true s_32 (.ref b_33) (.int 0), (de, false, .inr ((.object "java/lang/Object"), true, false, [])), oStr true s_30 (.ref b_31) (.int 0), oStr true s_34 (.ref b_35) (.int 0), oStr true s_7 (.ref b_8) (.int 0), oStr true s_4 (.ref b_5) (.int 0), oStr true s_1 (.ref b_2) (.int 0), (ee, false, .inr ((.object "java/lang/Object"), true, false, [])), oOb false em ]) rfl ?_
        refine Wp.callC nm_M0 (rm_ue3a hw a38 (.ref s_1) (.ref s_4) (.ref s_7) el ee _ rfl rfl rfl hel) (mk_M_ue3a hw) (w_61 hw) (w_62 hw) rfl rfl rfl rfl (Wn := 1) rfl rfl (by decide) d_law_133 ?_
        rintro _ _ ⟨rfl, rfl⟩
        refine Wp.astore (L' := [.val (.int p0), .val (.int p1), .val (.int p2), .val (.int p3), .val (.int p4), .val (.int p5), .val (.ref s_1), .val (.ref s_4), .val (.ref s_7), .val (.int 2), .val (.ref s_30), .val (.ref s_32), .val (.ref s_34), .val (.ref a36), .val (.ref a38), .unset, .unset]) rfl rfl d_law_136 ?_
        refine Wp.aload rfl rfl d_law_138 ?_
        refine Wp.aload rfl rfl d_law_140 ?_
        refine Wp.perm [0, 2, 3, 6, 4, 1, 5] 7 pp_0_2_3_6_4_1_5 (H' := [oUE true a38 (.ref s_1) (.ref s_4) (.ref s_7) (.ref el), oAL true a36 (.int 2) (.ref e_37) (.int 2), eO e_37 [.ref s_30, .ref s_32, .null, .null, .null, .null, .null, .null, .null, .null], oStr true s_30 (.ref b_31) (.int 0), oStr true s_32 (.ref b_33) (.int 0), oLN false el (.ref ee) (.int 0), (de, false, .inr ((.object "java/lang/Object"), true, false, [])), oStr true s_34 (.ref b_35) (.int 0), oStr true s_7 (.ref b_8) (.int 0), oStr true s_4 (.ref b_5) (.int 0), oStr true s_1 (.ref b_2) (.int 0), (ee, false, .inr ((.object "java/lang/Object"), true, false, [])), oOb false em ]) rfl ?_
        refine Wp.callV nm_M0 (rm_wg2 hw a38 (.ref s_1) (.ref s_4) (.ref s_7) a36 e_37 s_30 true (.ref b_31) (.int 0) s_32 true (.ref b_33) (.int 0) el em mr _ rfl rfl rfl hel hem hmr) 0 rfl (mk_M_wg2 hw) (w_100 hw) (w_101 hw) (w_103 hw) (w_102 hw) (S' := "") (Or.inl rfl) (by decide) rfl rfl rfl (Wn := 0) rfl rfl (by decide) d_law_142 ?_
        rintro _ _ ⟨o_39, q_40, rfl, rfl⟩
        refine Wp.astore (L' := [.val (.int p0), .val (.int p1), .val (.int p2), .val (.int p3), .val (.int p4), .val (.int p5), .val (.ref s_1), .val (.ref s_4), .val (.ref s_7), .val (.int 2), .val (.ref s_30), .val (.ref s_32), .val (.ref s_34), .val (.ref a36), .val (.ref a38), .val (.ref o_39), .unset]) rfl rfl d_law_145 ?_
        refine Wp.aload rfl rfl d_law_147 ?_
        refine Wp.aload rfl rfl d_law_149 ?_
        refine Wp.perm [3, 4, 5, 0, 1, 2] 6 pp_3_4_5_0_1_2 (H' := [oAL true a36 (.int 2) (.ref e_37) (.int 2), eO e_37 [.ref s_30, .ref s_32, .null, .null, .null, .null, .null, .null, .null, .null], oStr true s_30 (.ref b_31) (.int 0), oUE true o_39 (.ref s_1) (.ref s_4) (.ref s_7) (.ref q_40), oL12 true q_40 (.ref s_30) (.ref s_32), oUE true a38 (.ref s_1) (.ref s_4) (.ref s_7) (.ref el), oStr true s_32 (.ref b_33) (.int 0), oLN false el (.ref ee) (.int 0), (de, false, .inr ((.object "java/lang/Object"), true, false, [])), oStr true s_34 (.ref b_35) (.int 0), oStr true s_7 (.ref b_8) (.int 0), oStr true s_4 (.ref b_5) (.int 0), oStr true s_1 (.ref b_2) (.int 0), (ee, false, .inr ((.object "java/lang/Object"), true, false, [])), oOb false em ]) rfl ?_
        refine Wp.callV nm_M0 (rm_add_2 hw a36 e_37 (.ref s_30) (.ref s_32) s_30 true (.ref b_31) (.int 0) _ ) 0 rfl (mk_M_add_2 hw) (w_120 hw) (w_121 hw) (w_123 hw) (w_122 hw) (S' := "") (Or.inl rfl) (by decide) rfl rfl rfl (Wn := 0) rfl rfl (by decide) d_law_151 ?_
        rintro _ _ ⟨rfl, rfl⟩
        refine Wp.pop rfl d_law_154 ?_
        refine Wp.aload rfl rfl d_law_155 ?_
        refine Wp.aload rfl rfl d_law_157 ?_
        refine Wp.perm [3, 0, 1, 2] 4 pp_3_0_1_2 (H' := [oUE true o_39 (.ref s_1) (.ref s_4) (.ref s_7) (.ref q_40), oAL true a36 (.int 3) (.ref e_37) (.int 3), eO e_37 [.ref s_30, .ref s_32, .ref s_30, .null, .null, .null, .null, .null, .null, .null], oStr true s_30 (.ref b_31) (.int 0), oL12 true q_40 (.ref s_30) (.ref s_32), oUE true a38 (.ref s_1) (.ref s_4) (.ref s_7) (.ref el), oStr true s_32 (.ref b_33) (.int 0), oLN false el (.ref ee) (.int 0), (de, false, .inr ((.object "java/lang/Object"), true, false, [])), oStr true s_34 (.ref b_35) (.int 0), oStr true s_7 (.ref b_8) (.int 0), oStr true s_4 (.ref b_5) (.int 0), oStr true s_1 (.ref b_2) (.int 0), (ee, false, .inr ((.object "java/lang/Object"), true, false, [])), oOb false em ]) rfl ?_
        refine Wp.callV nm_M0 (rm_g0 hw o_39 (.ref s_1) (.ref s_4) (.ref s_7) q_40 _ rfl rfl rfl) 0 rfl (mk_M_g0 hw) (w_149 hw) (w_150 hw) (w_152 hw) (w_151 hw) (S' := "") (Or.inl rfl) (by decide) rfl rfl rfl (Wn := 1) rfl rfl (by decide) d_law_159 ?_
        rintro _ _ ⟨rfl, rfl⟩
        refine Wp.perm [12, 0, 1, 2, 3, 4, 5, 6, 7, 8, 9, 10, 11] 13 pp_12_0_1_2_3_4_5_6_7_8_9_10_11 (H' := [oStr true s_1 (.ref b_2) (.int 0), oUE true o_39 (.ref s_1) (.ref s_4) (.ref s_7) (.ref q_40), oAL true a36 (.int 3) (.ref e_37) (.int 3), eO e_37 [.ref s_30, .ref s_32, .ref s_30, .null, .null, .null, .null, .null, .null, .null], oStr true s_30 (.ref b_31) (.int 0), oL12 true q_40 (.ref s_30) (.ref s_32), oUE true a38 (.ref s_1) (.ref s_4) (.ref s_7) (.ref el), oStr true s_32 (.ref b_33) (.int 0), oLN false el (.ref ee) (.int 0), (de, false, .inr ((.object "java/lang/Object"), true, false, [])), oStr true s_34 (.ref b_35) (.int 0), oStr true s_7 (.ref b_8) (.int 0), oStr true s_4 (.ref b_5) (.int 0), (ee, false, .inr ((.object "java/lang/Object"), true, false, [])), oOb false em ]) rfl ?_
        refine Wp.callS nm_M0 (rm_eqS hw s_1 true (.ref b_2) (.int 0) _ ) (mk_M_eqS hw) (w_154 hw) (w_155 hw) rfl rfl (Wn := 0) rfl rfl (by decide) d_law_162 ?_
        rintro _ _ ⟨rfl, rfl⟩
        refine Wp.ifT (by decide) d_law_165 ?_
        refine Wp.aload rfl rfl d_law_170 ?_
        refine Wp.aload rfl rfl d_law_172 ?_
        refine Wp.perm [1, 0] 2 pp_1_0 (H' := [oUE true o_39 (.ref s_1) (.ref s_4) (.ref s_7) (.ref q_40), oStr true s_1 (.ref b_2) (.int 0), oAL true a36 (.int 3) (.ref e_37) (.int 3), eO e_37 [.ref s_30, .ref s_32, .ref s_30, .null, .null, .null, .null, .null, .null, .null], oStr true s_30 (.ref b_31) (.int 0), oL12 true q_40 (.ref s_30) (.ref s_32), oUE true a38 (.ref s_1) (.ref s_4) (.ref s_7) (.ref el), oStr true s_32 (.ref b_33) (.int 0), oLN false el (.ref ee) (.int 0), (de, false, .inr ((.object "java/lang/Object"), true, false, [])), oStr true s_34 (.ref b_35) (.int 0), oStr true s_7 (.ref b_8) (.int 0), oStr true s_4 (.ref b_5) (.int 0), (ee, false, .inr ((.object "java/lang/Object"), true, false, [])), oOb false em ]) rfl ?_
        refine Wp.callV nm_M0 (rm_g1 hw o_39 (.ref s_1) (.ref s_4) (.ref s_7) q_40 _ rfl rfl rfl) 0 rfl (mk_M_g1 hw) (w_162 hw) (w_163 hw) (w_165 hw) (w_164 hw) (S' := "") (Or.inl rfl) (by decide) rfl rfl rfl (Wn := 1) rfl rfl (by decide) d_law_174 ?_
        rintro _ _ ⟨rfl, rfl⟩
        refine Wp.perm [12, 0, 1, 2, 3, 4, 5, 6, 7, 8, 9, 10, 11] 13 pp_12_0_1_2_3_4_5_6_7_8_9_10_11 (H' := [oStr true s_4 (.ref b_5) (.int 0), oUE true o_39 (.ref s_1) (.ref s_4) (.ref s_7) (.ref q_40), oStr true s_1 (.ref b_2) (.int 0), oAL true a36 (.int 3) (.ref e_37) (.int 3), eO e_37 [.ref s_30, .ref s_32, .ref s_30, .null, .null, .null, .null, .null, .null, .null], oStr true s_30 (.ref b_31) (.int 0), oL12 true q_40 (.ref s_30) (.ref s_32), oUE true a38 (.ref s_1) (.ref s_4) (.ref s_7) (.ref el), oStr true s_32 (.ref b_33) (.int 0), oLN false el (.ref ee) (.int 0), (de, false, .inr ((.object "java/lang/Object"), true, false, [])), oStr true s_34 (.ref b_35) (.int 0), oStr true s_7 (.ref b_8) (.int 0), (ee, false, .inr ((.object "java/lang/Object"), true, false, [])), oOb false em ]) rfl ?_
        refine Wp.callS nm_M0 (rm_eqS hw s_4 true (.ref b_5) (.int 0) _ ) (mk_M_eqS hw) (w_154 hw) (w_155 hw) rfl rfl (Wn := 0) rfl rfl (by decide) d_law_177 ?_
        rintro _ _ ⟨rfl, rfl⟩
        refine Wp.ifT (by decide) d_law_180 ?_
        refine Wp.aload rfl rfl d_law_185 ?_
        refine Wp.aload rfl rfl d_law_187 ?_
        refine Wp.perm [1, 0] 2 pp_1_0 (H' := [oUE true o_39 (.ref s_1) (.ref s_4) (.ref s_7) (.ref q_40), oStr true s_4 (.ref b_5) (.int 0), oStr true s_1 (.ref b_2) (.int 0), oAL true a36 (.int 3) (.ref e_37) (.int 3), eO e_37 [.ref s_30, .ref s_32, .ref s_30, .null, .null, .null, .null, .null, .null, .null], oStr true s_30 (.ref b_31) (.int 0), oL12 true q_40 (.ref s_30) (.ref s_32), oUE true a38 (.ref s_1) (.ref s_4) (.ref s_7) (.ref el), oStr true s_32 (.ref b_33) (.int 0), oLN false el (.ref ee) (.int 0), (de, false, .inr ((.object "java/lang/Object"), true, false, [])), oStr true s_34 (.ref b_35) (.int 0), oStr true s_7 (.ref b_8) (.int 0), (ee, false, .inr ((.object "java/lang/Object"), true, false, [])), oOb false em ]) rfl ?_
        refine Wp.callV nm_M0 (rm_g2 hw o_39 (.ref s_1) (.ref s_4) (.ref s_7) q_40 _ rfl rfl rfl) 0 rfl (mk_M_g2 hw) (w_167 hw) (w_168 hw) (w_170 hw) (w_169 hw) (S' := "") (Or.inl rfl) (by decide) rfl rfl rfl (Wn := 1) rfl rfl (by decide) d_law_189 ?_
        rintro _ _ ⟨rfl, rfl⟩
        refine Wp.perm [12, 0, 1, 2, 3, 4, 5, 6, 7, 8, 9, 10, 11] 13 pp_12_0_1_2_3_4_5_6_7_8_9_10_11 (H' := [oStr true s_7 (.ref b_8) (.int 0), oUE true o_39 (.ref s_1) (.ref s_4) (.ref s_7) (.ref q_40), oStr true s_4 (.ref b_5) (.int 0), oStr true s_1 (.ref b_2) (.int 0), oAL true a36 (.int 3) (.ref e_37) (.int 3), eO e_37 [.ref s_30, .ref s_32, .ref s_30, .null, .null, .null, .null, .null, .null, .null], oStr true s_30 (.ref b_31) (.int 0), oL12 true q_40 (.ref s_30) (.ref s_32), oUE true a38 (.ref s_1) (.ref s_4) (.ref s_7) (.ref el), oStr true s_32 (.ref b_33) (.int 0), oLN false el (.ref ee) (.int 0), (de, false, .inr ((.object "java/lang/Object"), true, false, [])), oStr true s_34 (.ref b_35) (.int 0), (ee, false, .inr ((.object "java/lang/Object"), true, false, [])), oOb false em ]) rfl ?_
        refine Wp.callS nm_M0 (rm_eqS hw s_7 true (.ref b_8) (.int 0) _ ) (mk_M_eqS hw) (w_154 hw) (w_155 hw) rfl rfl (Wn := 0) rfl rfl (by decide) d_law_192 ?_
        rintro _ _ ⟨rfl, rfl⟩
        refine Wp.ifT (by decide) d_law_195 ?_
        refine Wp.aload rfl rfl d_law_200 ?_
        refine Wp.perm [1, 0] 2 pp_1_0 (H' := [oUE true o_39 (.ref s_1) (.ref s_4) (.ref s_7) (.ref q_40), oStr true s_7 (.ref b_8) (.int 0), oStr true s_4 (.ref b_5) (.int 0), oStr true s_1 (.ref b_2) (.int 0), oAL true a36 (.int 3) (.ref e_37) (.int 3), eO e_37 [.ref s_30, .ref s_32, .ref s_30, .null, .null, .null, .null, .null, .null, .null], oStr true s_30 (.ref b_31) (.int 0), oL12 true q_40 (.ref s_30) (.ref s_32), oUE true a38 (.ref s_1) (.ref s_4) (.ref s_7) (.ref el), oStr true s_32 (.ref b_33) (.int 0), oLN false el (.ref ee) (.int 0), (de, false, .inr ((.object "java/lang/Object"), true, false, [])), oStr true s_34 (.ref b_35) (.int 0), (ee, false, .inr ((.object "java/lang/Object"), true, false, [])), oOb false em ]) rfl ?_
        refine Wp.callV nm_M0 (rm_gg hw o_39 (.ref s_1) (.ref s_4) (.ref s_7) q_40 _ ) 0 rfl (mk_M_gg hw) (w_172 hw) (w_173 hw) (w_175 hw) (w_174 hw) (S' := "") (Or.inl rfl) (by decide) rfl rfl rfl (Wn := 0) rfl rfl (by decide) d_law_202 ?_
        rintro _ _ ⟨rfl, rfl⟩
        refine Wp.astore (L' := [.val (.int p0), .val (.int p1), .val (.int p2), .val (.int p3), .val (.int p4), .val (.int p5), .val (.ref s_1), .val (.ref s_4), .val (.ref s_7), .val (.int 2), .val (.ref s_30), .val (.ref s_32), .val (.ref s_34), .val (.ref a36), .val (.ref a38), .val (.ref o_39), .val (.ref q_40)]) rfl rfl d_law_205 ?_
        refine Wp.aload rfl rfl d_law_207 ?_
        refine Wp.perm [7, 9, 14, 0, 1, 2, 3, 4, 5, 6, 8, 10, 11, 12, 13] 15 pp_7_9_14_0_1_2_3_4_5_6_8_10_11_12_13 (H' := [oL12 true q_40 (.ref s_30) (.ref s_32), oStr true s_32 (.ref b_33) (.int 0), oOb false em , oUE true o_39 (.ref s_1) (.ref s_4) (.ref s_7) (.ref q_40), oStr true s_7 (.ref b_8) (.int 0), oStr true s_4 (.ref b_5) (.int 0), oStr true s_1 (.ref b_2) (.int 0), oAL true a36 (.int 3) (.ref e_37) (.int 3), eO e_37 [.ref s_30, .ref s_32, .ref s_30, .null, .null, .null, .null, .null, .null, .null], oStr true s_30 (.ref b_31) (.int 0), oUE true a38 (.ref s_1) (.ref s_4) (.ref s_7) (.ref el), oLN false el (.ref ee) (.int 0), (de, false, .inr ((.object "java/lang/Object"), true, false, [])), oStr true s_34 (.ref b_35) (.int 0), (ee, false, .inr ((.object "java/lang/Object"), true, false, []))]) rfl ?_
        refine Wp.callI nm_M0 (rm_sz2 hw q_40 s_30 s_32 (.ref b_33) (.int 0) em _ hem) 0 rfl (mk_M_sz2 hw) (w_177 hw) (w_178 hw) (w_179 hw) (w_250 hw) (w_251 hw) (w_252 hw) (w_253 hw) (w_254 hw) (by decide) rfl rfl rfl (Wn := 0) rfl rfl (by decide) d_law_209 ?_
        rintro _ _ ⟨rfl, rfl⟩
        refine Wp.iload rfl d_law_214 ?_
        refine Wp.icT (by decide) d_law_216 ?_
        refine Wp.iload rfl d_law_221 ?_
        refine Wp.iconst lc_1 d_law_223 ?_
        refine Wp.icF (by decide) d_law_224 ?_
        refine Wp.aload rfl rfl d_law_227 ?_
        refine Wp.aload rfl rfl d_law_229 ?_
        refine Wp.iconst lc_0 d_law_231 ?_
        refine Wp.callI nm_M0 (rm_gt0 hw q_40 s_30 s_32 _ ) 0 rfl (mk_M_gt0 hw) (w_257 hw) (w_258 hw) (w_259 hw) (w_260 hw) (w_261 hw) (w_262 hw) (w_263 hw) (w_254 hw) (by decide) rfl rfl rfl (Wn := 1) rfl rfl (by decide) d_law_232 ?_
        rintro _ _ ⟨rfl, rfl⟩
        refine Wp.perm [9, 0, 1, 2, 3, 4, 5, 6, 7, 8] 10 pp_9_0_1_2_3_4_5_6_7_8 (H' := [oStr true s_30 (.ref b_31) (.int 0), oL12 true q_40 (.ref s_30) (.ref s_32), oStr true s_32 (.ref b_33) (.int 0), oOb false em , oUE true o_39 (.ref s_1) (.ref s_4) (.ref s_7) (.ref q_40), oStr true s_7 (.ref b_8) (.int 0), oStr true s_4 (.ref b_5) (.int 0), oStr true s_1 (.ref b_2) (.int 0), oAL true a36 (.int 3) (.ref e_37) (.int 3), eO e_37 [.ref s_30, .ref s_32, .ref s_30, .null, .null, .null, .null, .null, .null, .null], oUE true a38 (.ref s_1) (.ref s_4) (.ref s_7) (.ref el), oLN false el (.ref ee) (.int 0), (de, false, .inr ((.object "java/lang/Object"), true, false, [])), oStr true s_34 (.ref b_35) (.int 0), (ee, false, .inr ((.object "java/lang/Object"), true, false, []))]) rfl ?_
        refine Wp.callV nm_M0 (rm_seS hw s_30 true (.ref b_31) (.int 0) _ ) 0 rfl (mk_M_seS hw) (w_157 hw) (w_158 hw) (w_160 hw) (w_159 hw) (S' := "") (Or.inl rfl) (by decide) rfl rfl rfl (Wn := 0) rfl rfl (by decide) d_law_237 ?_
        rintro _ _ ⟨rfl, rfl⟩
        refine Wp.ifT (by decide) d_law_240 ?_
        refine Wp.iload rfl d_law_245 ?_
        refine Wp.iconst lc_2 d_law_247 ?_
        refine Wp.icF (by decide) d_law_248 ?_
        refine Wp.aload rfl rfl d_law_251 ?_
        refine Wp.aload rfl rfl d_law_253 ?_
        refine Wp.iconst lc_1 d_law_255 ?_
        refine Wp.perm [1, 2, 3, 0] 4 pp_1_2_3_0 (H' := [oL12 true q_40 (.ref s_30) (.ref s_32), oStr true s_32 (.ref b_33) (.int 0), oOb false em , oStr true s_30 (.ref b_31) (.int 0), oUE true o_39 (.ref s_1) (.ref s_4) (.ref s_7) (.ref q_40), oStr true s_7 (.ref b_8) (.int 0), oStr true s_4 (.ref b_5) (.int 0), oStr true s_1 (.ref b_2) (.int 0), oAL true a36 (.int 3) (.ref e_37) (.int 3), eO e_37 [.ref s_30, .ref s_32, .ref s_30, .null, .null, .null, .null, .null, .null, .null], oUE true a38 (.ref s_1) (.ref s_4) (.ref s_7) (.ref el), oLN false el (.ref ee) (.int 0), (de, false, .inr ((.object "java/lang/Object"), true, false, [])), oStr true s_34 (.ref b_35) (.int 0), (ee, false, .inr ((.object "java/lang/Object"), true, false, []))]) rfl ?_
        refine Wp.callI nm_M0 (rm_gt1 hw q_40 s_30 s_32 (.ref b_33) (.int 0) em _ hem) 0 rfl (mk_M_gt1 hw) (w_257 hw) (w_258 hw) (w_259 hw) (w_260 hw) (w_261 hw) (w_262 hw) (w_263 hw) (w_254 hw) (by decide) rfl rfl rfl (Wn := 1) rfl rfl (by decide) d_law_256 ?_
        rintro _ _ ⟨rfl, rfl⟩
        refine Wp.perm [1, 0] 2 pp_1_0 (H' := [oStr true s_32 (.ref b_33) (.int 0), oL12 true q_40 (.ref s_30) (.ref s_32), oOb false em , oStr true s_30 (.ref b_31) (.int 0), oUE true o_39 (.ref s_1) (.ref s_4) (.ref s_7) (.ref q_40), oStr true s_7 (.ref b_8) (.int 0), oStr true s_4 (.ref b_5) (.int 0), oStr true s_1 (.ref b_2) (.int 0), oAL true a36 (.int 3) (.ref e_37) (.int 3), eO e_37 [.ref s_30, .ref s_32, .ref s_30, .null, .null, .null, .null, .null, .null, .null], oUE true a38 (.ref s_1) (.ref s_4) (.ref s_7) (.ref el), oLN false el (.ref ee) (.int 0), (de, false, .inr ((.object "java/lang/Object"), true, false, [])), oStr true s_34 (.ref b_35) (.int 0), (ee, false, .inr ((.object "java/lang/Object"), true, false, []))]) rfl ?_
        refine Wp.callV nm_M0 (rm_seS hw s_32 true (.ref b_33) (.int 0) _ ) 0 rfl (mk_M_seS hw) (w_157 hw) (w_158 hw) (w_160 hw) (w_159 hw) (S' := "") (Or.inl rfl) (by decide) rfl rfl rfl (Wn := 0) rfl rfl (by decide) d_law_261 ?_
        rintro _ _ ⟨rfl, rfl⟩
        refine Wp.ifT (by decide) d_law_264 ?_
        refine Wp.iload rfl d_law_269 ?_
        refine Wp.iconst lc_3 d_law_271 ?_
        refine Wp.icT (by decide) d_law_272 ?_
        refine Wp.aload rfl rfl d_law_293 ?_
        refine Wp.perm [10, 0, 1, 2, 3, 4, 5, 6, 7, 8, 9] 11 pp_10_0_1_2_3_4_5_6_7_8_9 (H' := [oUE true a38 (.ref s_1) (.ref s_4) (.ref s_7) (.ref el), oStr true s_32 (.ref b_33) (.int 0), oL12 true q_40 (.ref s_30) (.ref s_32), oOb false em , oStr true s_30 (.ref b_31) (.int 0), oUE true o_39 (.ref s_1) (.ref s_4) (.ref s_7) (.ref q_40), oStr true s_7 (.ref b_8) (.int 0), oStr true s_4 (.ref b_5) (.int 0), oStr true s_1 (.ref b_2) (.int 0), oAL true a36 (.int 3) (.ref e_37) (.int 3), eO e_37 [.ref s_30, .ref s_32, .ref s_30, .null, .null, .null, .null, .null, .null, .null], oLN false el (.ref ee) (.int 0), (de, false, .inr ((.object "java/lang/Object"), true, false, [])), oStr true s_34 (.ref b_35) (.int 0), (ee, false, .inr ((.object "java/lang/Object"), true, false, []))]) rfl ?_
        refine Wp.callV nm_M0 (rm_gg hw a38 (.ref s_1) (.ref s_4) (.ref s_7) el _ ) 0 rfl (mk_M_gg hw) (w_172 hw) (w_173 hw) (w_175 hw) (w_174 hw) (S' := "") (Or.inl rfl) (by decide) rfl rfl rfl (Wn := 0) rfl rfl (by decide) d_law_295 ?_
        rintro _ _ ⟨rfl, rfl⟩
        refine Wp.perm [11, 14, 0, 1, 2, 3, 4, 5, 6, 7, 8, 9, 10, 12, 13] 15 pp_11_14_0_1_2_3_4_5_6_7_8_9_10_12_13 (H' := [oLN false el (.ref ee) (.int 0), (ee, false, .inr ((.object "java/lang/Object"), true, false, [])), oUE true a38 (.ref s_1) (.ref s_4) (.ref s_7) (.ref el), oStr true s_32 (.ref b_33) (.int 0), oL12 true q_40 (.ref s_30) (.ref s_32), oOb false em , oStr true s_30 (.ref b_31) (.int 0), oUE true o_39 (.ref s_1) (.ref s_4) (.ref s_7) (.ref q_40), oStr true s_7 (.ref b_8) (.int 0), oStr true s_4 (.ref b_5) (.int 0), oStr true s_1 (.ref b_2) (.int 0), oAL true a36 (.int 3) (.ref e_37) (.int 3), eO e_37 [.ref s_30, .ref s_32, .ref s_30, .null, .null, .null, .null, .null, .null, .null], (de, false, .inr ((.object "java/lang/Object"), true, false, [])), oStr true s_34 (.ref b_35) (.int 0)]) rfl ?_
        refine Wp.callI nm_M0 (rm_szE hw el ee _ ) 0 rfl (mk_M_szE hw) (w_177 hw) (w_178 hw) (w_179 hw) (w_180 hw) (w_181 hw) (w_182 hw) (w_183 hw) (w_97 hw) (by decide) rfl rfl rfl (Wn := 0) rfl rfl (by decide) d_law_298 ?_
        rintro _ _ ⟨rfl, rfl⟩
        refine Wp.ifF (by decide) d_law_303 ?_
        refine Wp.iconst lc_1 d_law_306 ?_
        refine Wp.goto d_law_307 ?_
        refine Wp.iretN (z := 1) (by simp) rfl (by decide) d_law_311 (by decide) (by decide) ?_
        exact rfl
      · rw [hn]
        refine Wp.istore (L' := [.val (.int p0), .val (.int p1), .val (.int p2), .val (.int p3), .val (.int p4), .val (.int p5), .val (.ref s_1), .val (.ref s_4), .val (.ref s_7), .val (.int 3), .unset, .unset, .unset, .unset, .unset, .unset, .unset]) rfl d_law_50 ?_
        refine Wp.iloadN rfl d_law_52 ?_
        refine Wp.callS nm_M0 (rm_str hw p3 _ ) (mk_M_str hw) (w_0 hw) (w_1 hw) rfl rfl (Wn := 0) rfl rfl (by decide) d_law_53 ?_
        rintro _ _ ⟨s_41, b_42, rfl, rfl⟩
        refine Wp.astore (L' := [.val (.int p0), .val (.int p1), .val (.int p2), .val (.int p3), .val (.int p4), .val (.int p5), .val (.ref s_1), .val (.ref s_4), .val (.ref s_7), .val (.int 3), .val (.ref s_41), .unset, .unset, .unset, .unset, .unset, .unset]) rfl rfl d_law_56 ?_
        refine Wp.iload rfl d_law_58 ?_
        refine Wp.callS nm_M0 (rm_str hw p4 _ ) (mk_M_str hw) (w_0 hw) (w_1 hw) rfl rfl (Wn := 0) rfl rfl (by decide) d_law_60 ?_
        rintro _ _ ⟨s_43, b_44, rfl, rfl⟩
        refine Wp.astore (L' := [.val (.int p0), .val (.int p1), .val (.int p2), .val (.int p3), .val (.int p4), .val (.int p5), .val (.ref s_1), .val (.ref s_4), .val (.ref s_7), .val (.int 3), .val (.ref s_41), .val (.ref s_43), .unset, .unset, .unset, .unset, .unset]) rfl rfl d_law_63 ?_
        refine Wp.iload rfl d_law_65 ?_
        refine Wp.callS nm_M0 (rm_str hw p5 _ ) (mk_M_str hw) (w_0 hw) (w_1 hw) rfl rfl (Wn := 0) rfl rfl (by decide) d_law_67 ?_
        rintro _ _ ⟨s_45, b_46, rfl, rfl⟩
        refine Wp.astore (L' := [.val (.int p0), .val (.int p1), .val (.int p2), .val (.int p3), .val (.int p4), .val (.int p5), .val (.ref s_1), .val (.ref s_4), .val (.ref s_7), .val (.int 3), .val (.ref s_41), .val (.ref s_43), .val (.ref s_45), .unset, .unset, .unset, .unset]) rfl rfl d_law_70 ?_
        refine Wp.newO nm_M0 (w_34 hw) (w_35 hw) (w_36 hw) (nf_oAL hw) (by decide) (by decide) d_law_72 (fun a47 => ?_)
        refine Wp.dup rfl d_law_75 ?_
        refine Wp.callC nm_M0 (rm_ali hw a47 de _ hde) (mk_M_ali hw) (w_37 hw) (w_38 hw) rfl rfl rfl rfl (Wn := 1) rfl rfl (by decide) d_law_76 ?_
        rintro _ _ ⟨rfl, rfl⟩
        refine Wp.astore (L' := [.val (.int p0), .val (.int p1), .val (.int p2), .val (.int p3), .val (.int p4), .val (.int p5), .val (.ref s_1), .val (.ref s_4), .val (.ref s_7), .val (.int 3), .val (.ref s_41), .val (.ref s_43), .val (.ref s_45), .val (.ref a47), .unset, .unset, .unset]) rfl rfl d_law_79 ?_
        refine Wp.iload rfl d_law_81 ?_
        refine Wp.iconst lc_1 d_law_83 ?_
        refine Wp.icF (by decide) d_law_84 ?_
        refine Wp.aload rfl rfl d_law_87 ?_
        refine Wp.aload rfl rfl d_law_89 ?_
        refine Wp.perm [0, 10, 3, 1, 2, 4, 5, 6, 7, 8, 9] 11 pp_0_10_3_1_2_4_5_6_7_8_9 (H' := [oAL true a47 (.int 0) (.ref de) (.int 0), (de, false, .inr ((.object "java/lang/Object"), true, false, [])), oStr true s_41 (.ref b_42) (.int 0), oStr true s_45 (.ref b_46) (.int 0), oStr true s_43 (.ref b_44) (.int 0), oStr true s_7 (.ref b_8) (.int 0), oStr true s_4 (.ref b_5) (.int 0), oStr true s_1 (.ref b_2) (.int 0), oLN false el (.ref ee) (.int 0), (ee, false, .inr ((.object "java/lang/Object"), true, false, [])), oOb false em ]) rfl ?_
        refine Wp.callV nm_M0 (rm_add_0 hw a47 de s_41 true (.ref b_42) (.int 0) _ hde) 0 rfl (mk_M_add_0 hw) (w_120 hw) (w_121 hw) (w_123 hw) (w_122 hw) (S' := "") (Or.inl rfl) (by decide) rfl rfl rfl (Wn := 0) rfl rfl (by decide) d_law_91 ?_
        rintro _ _ ⟨e_48, rfl, rfl⟩
        refine Wp.pop rfl d_law_94 ?_
        refine Wp.iload rfl d_law_95 ?_
        refine Wp.iconst lc_2 d_law_97 ?_
        refine Wp.icF (by decide) d_law_98 ?_
        refine Wp.aload rfl rfl d_law_101 ?_
        refine Wp.aload rfl rfl d_law_103 ?_
        refine Wp.perm [0, 1, 5, 2, 3, 4] 6 pp_0_1_5_2_3_4 (H' := [oAL true a47 (.int 1) (.ref e_48) (.int 1), eO e_48 [.ref s_41, .null, .null, .null, .null, .null, .null, .null, .null, .null], oStr true s_43 (.ref b_44) (.int 0), (de, false, .inr ((.object "java/lang/Object"), true, false, [])), oStr true s_41 (.ref b_42) (.int 0), oStr true s_45 (.ref b_46) (.int 0), oStr true s_7 (.ref b_8) (.int 0), oStr true s_4 (.ref b_5) (.int 0), oStr true s_1 (.ref b_2) (.int 0), oLN false el (.ref ee) (.int 0), (ee, false, .inr ((.object "java/lang/Object"), true, false, [])), oOb false em ]) rfl ?_
        refine Wp.callV nm_M0 (rm_add_1 hw a47 e_48 (.ref s_41) s_43 true (.ref b_44) (.int 0) _ ) 0 rfl (mk_M_add_1 hw) (w_120 hw) (w_121 hw) (w_123 hw) (w_122 hw) (S' := "") (Or.inl rfl) (by decide) rfl rfl rfl (Wn := 0) rfl rfl (by decide) d_law_105 ?_
        rintro _ _ ⟨rfl, rfl⟩
        refine Wp.pop rfl d_law_108 ?_
        refine Wp.iload rfl d_law_109 ?_
        refine Wp.iconst lc_3 d_law_111 ?_
        refine Wp.icF (by decide) d_law_112 ?_
        refine Wp.aload rfl rfl d_law_115 ?_
        refine Wp.aload rfl rfl d_law_117 ?_
        refine Wp.perm [0, 1, 5, 2, 3, 4] 6 pp_0_1_5_2_3_4 (H' := [oAL true a47 (.int 2) (.ref e_48) (.int 2), eO e_48 [.ref s_41, .ref s_43, .null, .null, .null, .null, .null, .null, .null, .null], oStr true s_45 (.ref b_46) (.int 0), oStr true s_43 (.ref b_44) (.int 0), (de, false, .inr ((.object "java/lang/Object"), true, false, [])), oStr true s_41 (.ref b_42) (.int 0), oStr true s_7 (.ref b_8) (.int 0), oStr true s_4 (.ref b_5) (.int 0), oStr true s_1 (.ref b_2) (.int 0), oLN false el (.ref ee) (.int 0), (ee, false, .inr ((.object "java/lang/Object"), true, false, [])), oOb false em ]) rfl ?_
        refine Wp.callV nm_M0 (rm_add_2 hw a47 e_48 (.ref s_41) (.ref s_43) s_45 true (.ref b_46) (.int 0) _ ) 0 rfl (mk_M_add_2 hw) (w_120 hw) (w_121 hw) (w_123 hw) (w_122 hw) (S' := "") (Or.inl rfl) (by decide) rfl rfl rfl (Wn := 0) rfl rfl (by decide) d_law_119 ?_
        rintro _ _ ⟨rfl, rfl⟩
        refine Wp.pop rfl d_law_122 ?_
        refine Wp.newO nm_M0 (w_58 hw) (w_59 hw) (w_60 hw) (nf_oUE hw) (by decide) (by decide) d_law_123 (fun a49 => ?_)
        refine Wp.dup rfl d_law_126 ?_
        refine Wp.aload rfl rfl d_law_127 ?_
        refine Wp.aload rfl rfl d_law_129 ?_
        refine Wp.aload rfl rfl d_law_131 ?_
        refine Wp.perm [0, 10, 1, 2, 3, 4, 5, 6, 7, 8, 9] 11 pp_0_10_1_2_3_4_5_6_7_8_9 (H' := [oUE true a49 (.null) (.null) (.null) (.null), oLN false el (.ref ee) (.int 0), oAL true a47 (.int 3) (.ref e_48) (.int 3), eO e_48 [.ref s_41, .ref s_43, .ref s_45, .null, .null, .null, .null, .null, .null, .null], oStr true s_45 (.ref b_46) (.int 0), oStr true s_43 (.ref b_44) (.int 0), (de, false, .inr ((.object "java/lang/Object"), true, false, [])), oStr true s_41 (.ref b_42) (.int 0), oStr true s_7 (.ref b_8) (.int 0), oStr true s_4 (.ref b_5) (.int 0), oStr true s_1 (.ref b_2) (.int 0), (ee, false, .inr ((.object "java/lang/Object"), true, false, [])), oOb false em ]) rfl ?_
        refine Wp.callC nm_M0 (rm_ue3a hw a49 (.ref s_1) (.ref s_4) (.ref s_7) el ee _ rfl rfl rfl hel) (mk_M_ue3a hw) (w_61 hw) (w_62 hw) rfl rfl rfl rfl (Wn := 1) rfl rfl (by decide) d_law_133 ?_
        rintro _ _ ⟨rfl, rfl⟩
        refine Wp.astore (L' := [.val (.int p0), .val (.int p1), .val (.int p2), .val (.int p3), .val (.int p4), .val (.int p5), .val (.ref s_1), .val (.ref s_4), .val (.ref s_7), .val (.int 3), .val (.ref s_41), .val (.ref s_43), .val (.ref s_45), .val (.ref a47), .val (.ref a49), .unset, .unset]) rfl rfl d_law_136 ?_
        refine Wp.aload rfl rfl d_law_138 ?_
        refine Wp.aload rfl rfl d_law_140 ?_
        refine Wp.perm [0, 2, 3, 7, 5, 4, 1, 6] 8 pp_0_2_3_7_5_4_1_6 (H' := [oUE true a49 (.ref s_1) (.ref s_4) (.ref s_7) (.ref el), oAL true a47 (.int 3) (.ref e_48) (.int 3), eO e_48 [.ref s_41, .ref s_43, .ref s_45, .null, .null, .null, .null, .null, .null, .null], oStr true s_41 (.ref b_42) (.int 0), oStr true s_43 (.ref b_44) (.int 0), oStr true s_45 (.ref b_46) (.int 0), oLN false el (.ref ee) (.int 0), (de, false, .inr ((.object "java/lang/Object"), true, false, [])), oStr true s_7 (.ref b_8) (.int 0), oStr true s_4 (.ref b_5) (.int 0), oStr true s_1 (.ref b_2) (.int 0), (ee, false, .inr ((.object "java/lang/Object"), true, false, [])), oOb false em ]) rfl ?_
        refine Wp.callV nm_M0 (rm_wg3 hw a49 (.ref s_1) (.ref s_4) (.ref s_7) a47 e_48 s_41 true (.ref b_42) (.int 0) s_43 true (.ref b_44) (.int 0) s_45 true (.ref b_46) (.int 0) el em mr _ rfl rfl rfl hel hem hmr) 0 rfl (mk_M_wg3 hw) (w_100 hw) (w_101 hw) (w_103 hw) (w_102 hw) (S' := "") (Or.inl rfl) (by decide) rfl rfl rfl (Wn := 0) rfl rfl (by decide) d_law_142 ?_
        rintro _ _ ⟨o_50, q_51, qa_52, rfl, rfl⟩
        refine Wp.astore (L' := [.val (.int p0), .val (.int p1), .val (.int p2), .val (.int p3), .val (.int p4), .val (.int p5), .val (.ref s_1), .val (.ref s_4), .val (.ref s_7), .val (.int 3), .val (.ref s_41), .val (.ref s_43), .val (.ref s_45), .val (.ref a47), .val (.ref a49), .val (.ref o_50), .unset]) rfl rfl d_law_145 ?_
        refine Wp.aload rfl rfl d_law_147 ?_
        refine Wp.aload rfl rfl d_law_149 ?_
        refine Wp.perm [4, 5, 6, 0, 1, 2, 3] 7 pp_4_5_6_0_1_2_3 (H' := [oAL true a47 (.int 3) (.ref e_48) (.int 3), eO e_48 [.ref s_41, .ref s_43, .ref s_45, .null, .null, .null, .null, .null, .null, .null], oStr true s_41 (.ref b_42) (.int 0), oUE true o_50 (.ref s_1) (.ref s_4) (.ref s_7) (.ref q_51), oLN true q_51 (.ref qa_52) (.int 0), eO qa_52 [.ref s_41, .ref s_43, .ref s_45], oUE true a49 (.ref s_1) (.ref s_4) (.ref s_7) (.ref el), oStr true s_43 (.ref b_44) (.int 0), oStr true s_45 (.ref b_46) (.int 0), oLN false el (.ref ee) (.int 0), (de, false, .inr ((.object "java/lang/Object"), true, false, [])), oStr true s_7 (.ref b_8) (.int 0), oStr true s_4 (.ref b_5) (.int 0), oStr true s_1 (.ref b_2) (.int 0), (ee, false, .inr ((.object "java/lang/Object"), true, false, [])), oOb false em ]) rfl ?_
        refine Wp.callV nm_M0 (rm_add_3 hw a47 e_48 (.ref s_41) (.ref s_43) (.ref s_45) s_41 true (.ref b_42) (.int 0) _ ) 0 rfl (mk_M_add_3 hw) (w_120 hw) (w_121 hw) (w_123 hw) (w_122 hw) (S' := "") (Or.inl rfl) (by decide) rfl rfl rfl (Wn := 0) rfl rfl (by decide) d_law_151 ?_
        rintro _ _ ⟨rfl, rfl⟩
        refine Wp.pop rfl d_law_154 ?_
        refine Wp.aload rfl rfl d_law_155 ?_
        refine Wp.aload rfl rfl d_law_157 ?_
        refine Wp.perm [3, 0, 1, 2] 4 pp_3_0_1_2 (H' := [oUE true o_50 (.ref s_1) (.ref s_4) (.ref s_7) (.ref q_51), oAL true a47 (.int 4) (.ref e_48) (.int 4), eO e_48 [.ref s_41, .ref s_43, .ref s_45, .ref s_41, .null, .null, .null, .null, .null, .null], oStr true s_41 (.ref b_42) (.int 0), oLN true q_51 (.ref qa_52) (.int 0), eO qa_52 [.ref s_41, .ref s_43, .ref s_45], oUE true a49 (.ref s_1) (.ref s_4) (.ref s_7) (.ref el), oStr true s_43 (.ref b_44) (.int 0), oStr true s_45 (.ref b_46) (.int 0), oLN false el (.ref ee) (.int 0), (de, false, .inr ((.object "java/lang/Object"), true, false, [])), oStr true s_7 (.ref b_8) (.int 0), oStr true s_4 (.ref b_5) (.int 0), oStr true s_1 (.ref b_2) (.int 0), (ee, false, .inr ((.object "java/lang/Object"), true, false, [])), oOb false em ]) rfl ?_
        refine Wp.callV nm_M0 (rm_g0 hw o_50 (.ref s_1) (.ref s_4) (.ref s_7) q_51 _ rfl rfl rfl) 0 rfl (mk_M_g0 hw) (w_149 hw) (w_150 hw) (w_152 hw) (w_151 hw) (S' := "") (Or.inl rfl) (by decide) rfl rfl rfl (Wn := 1) rfl rfl (by decide) d_law_159 ?_
        rintro _ _ ⟨rfl, rfl⟩
        refine Wp.perm [13, 0, 1, 2, 3, 4, 5, 6, 7, 8, 9, 10, 11, 12] 14 pp_13_0_1_2_3_4_5_6_7_8_9_10_11_12 (H' := [oStr true s_1 (.ref b_2) (.int 0), oUE true o_50 (.ref s_1) (.ref s_4) (.ref s_7) (.ref q_51), oAL true a47 (.int 4) (.ref e_48) (.int 4), eO e_48 [.ref s_41, .ref s_43, .ref s_45, .ref s_41, .null, .null, .null, .null, .null, .null], oStr true s_41 (.ref b_42) (.int 0), oLN true q_51 (.ref qa_52) (.int 0), eO qa_52 [.ref s_41, .ref s_43, .ref s_45], oUE true a49 (.ref s_1) (.ref s_4) (.ref s_7) (.ref el), oStr true s_43 (.ref b_44) (.int 0), oStr true s_45 (.ref b_46) (.int 0), oLN false el (.ref ee) (.int 0), (de, false, .inr ((.object "java/lang/Object"), true, false, [])), oStr true s_7 (.ref b_8) (.int 0), oStr true s_4 (.ref b_5) (.int 0), (ee, false, .inr ((.object "java/lang/Object"), true, false, [])), oOb false em ]) rfl ?_
        refine Wp.callS nm_M0 (rm_eqS hw s_1 true (.ref b_2) (.int 0) _ ) (mk_M_eqS hw) (w_154 hw) (w_155 hw) rfl rfl (Wn := 0) rfl rfl (by decide) d_law_162 ?_
        rintro _ _ ⟨rfl, rfl⟩
        refine Wp.ifT (by decide) d_law_165 ?_
        refine Wp.aload rfl rfl d_law_170 ?_
        refine Wp.aload rfl rfl d_law_172 ?_
        refine Wp.perm [1, 0] 2 pp_1_0 (H' := [oUE true o_50 (.ref s_1) (.ref s_4) (.ref s_7) (.ref q_51), oStr true s_1 (.ref b_2) (.int 0), oAL true a47 (.int 4) (.ref e_48) (.int 4), eO e_48 [.ref s_41, .ref s_43, .ref s_45, .ref s_41, .null, .null, .null, .null, .null, .null], oStr true s_41 (.ref b_42) (.int 0), oLN true q_51 (.ref qa_52) (.int 0), eO qa_52 [.ref s_41, .ref s_43, .ref s_45], oUE true a49 (.ref s_1) (.ref s_4) (.ref s_7) (.ref el), oStr true s_43 (.ref b_44) (.int 0), oStr true s_45 (.ref b_46) (.int 0), oLN false el (.ref ee) (.int 0), (de, false, .inr ((.object "java/lang/Object"), true, false, [])), oStr true s_7 (.ref b_8) (.int 0), oStr true s_4 (.ref b_5) (.int 0), (ee, false, .inr ((.object "java/lang/Object"), true, false, [])), oOb false em ]) rfl ?_
        refine Wp.callV nm_M0 (rm_g1 hw o_50 (.ref s_1) (.ref s_4) (.ref s_7) q_51 _ rfl rfl rfl) 0 rfl (mk_M_g1 hw) (w_162 hw) (w_163 hw) (w_165 hw) (w_164 hw) (S' := "") (Or.inl rfl) (by decide) rfl rfl rfl (Wn := 1) rfl rfl (by decide) d_law_174 ?_
        rintro _ _ ⟨rfl, rfl⟩
        refine Wp.perm [13, 0, 1, 2, 3, 4, 5, 6, 7, 8, 9, 10, 11, 12] 14 pp_13_0_1_2_3_4_5_6_7_8_9_10_11_12 (H' := [oStr true s_4 (.ref b_5) (.int 0), oUE true o_50 (.ref s_1) (.ref s_4) (.ref s_7) (.ref q_51), oStr true s_1 (.ref b_2) (.int 0), oAL true a47 (.int 4) (.ref e_48) (.int 4), eO e_48 [.ref s_41, .ref s_43, .ref s_45, .ref s_41, .null, .null, .null, .null, .null, .null], oStr true s_41 (.ref b_42) (.int 0), oLN true q_51 (.ref qa_52) (.int 0), eO qa_52 [.ref s_41, .ref s_43, .ref s_45], oUE true a49 (.ref s_1) (.ref s_4) (.ref s_7) (.ref el), oStr true s_43 (.ref b_44) (.int 0), oStr true s_45 (.ref b_46) (.int 0), oLN false el (.ref ee) (.int 0), (de, false, .inr ((.object "java/lang/Object"), true, false, [])), oStr true s_7 (.ref b_8) (.int 0), (ee, false, .inr ((.object "java/lang/Object"), true, false, [])), oOb false em ]) rfl ?_
        refine Wp.callS nm_M0 (rm_eqS hw s_4 true (.ref b_5) (.int 0) _ ) (mk_M_eqS hw) (w_154 hw) (w_155 hw) rfl rfl (Wn := 0) rfl rfl (by decide) d_law_177 ?_
        rintro _ _ ⟨rfl, rfl⟩
        refine Wp.ifT (by decide) d_law_180 ?_
        refine Wp.aload rfl rfl d_law_185 ?_
        refine Wp.aload rfl rfl d_law_187 ?_
        refine Wp.perm [1, 0] 2 pp_1_0 (H' := [oUE true o_50 (.ref s_1) (.ref s_4) (.ref s_7) (.ref q_51), oStr true s_4 (.ref b_5) (.int 0), oStr true s_1 (.ref b_2) (.int 0), oAL true a47 (.int 4) (.ref e_48) (.int 4), eO e_48 [.ref s_41, .ref s_43, .ref s_45, .ref s_41, .null, .null, .null, .null, .null, .null], oStr true s_41 (.ref b_42) (.int 0), oLN true q_51 (.ref qa_52) (.int 0), eO qa_52 [.ref s_41, .ref s_43, .ref s_45], oUE true a49 (.ref s_1) (.ref s_4) (.ref s_7) (.ref el), oStr true s_43 (.ref b_44) (.int 0), oStr true s_45 (.ref b_46) (.int 0), oLN false el (.ref ee) (.int 0), (de, false, .inr ((.object "java/lang/Object"), true, false, [])), oStr true s_7 (.ref b_8) (.int 0), (ee, false, .inr ((.object "java/lang/Object"), true, false, [])), oOb false em ]) rfl ?_
        refine Wp.callV nm_M0 (rm_g2 hw o_50 (.ref s_1) (.ref s_4) (.ref s_7) q_51 _ rfl rfl rfl) 0 rfl (mk_M_g2 hw) (w_167 hw) (w_168 hw) (w_170 hw) (w_169 hw) (S' := "") (Or.inl rfl) (by decide) rfl rfl rfl (Wn := 1) rfl rfl (by decide) d_law_189 ?_
        rintro _ _ ⟨rfl, rfl⟩
        refine Wp.perm [13, 0, 1, 2, 3, 4, 5, 6, 7, 8, 9, 10, 11, 12] 14 pp_13_0_1_2_3_4_5_6_7_8_9_10_11_12 (H' := [oStr true s_7 (.ref b_8) (.int 0), oUE true o_50 (.ref s_1) (.ref s_4) (.ref s_7) (.ref q_51), oStr true s_4 (.ref b_5) (.int 0), oStr true s_1 (.ref b_2) (.int 0), oAL true a47 (.int 4) (.ref e_48) (.int 4), eO e_48 [.ref s_41, .ref s_43, .ref s_45, .ref s_41, .null, .null, .null, .null, .null, .null], oStr true s_41 (.ref b_42) (.int 0), oLN true q_51 (.ref qa_52) (.int 0), eO qa_52 [.ref s_41, .ref s_43, .ref s_45], oUE true a49 (.ref s_1) (.ref s_4) (.ref s_7) (.ref el), oStr true s_43 (.ref b_44) (.int 0), oStr true s_45 (.ref b_46) (.int 0), oLN false el (.ref ee) (.int 0), (de, false, .inr ((.object "java/lang/Object"), true, false, [])), (ee, false, .inr ((.object "java/lang/Object"), true, false, [])), oOb false em ]) rfl ?_
        refine Wp.callS nm_M0 (rm_eqS hw s_7 true (.ref b_8) (.int 0) _ ) (mk_M_eqS hw) (w_154 hw) (w_155 hw) rfl rfl (Wn := 0) rfl rfl (by decide) d_law_192 ?_
        rintro _ _ ⟨rfl, rfl⟩
        refine Wp.ifT (by decide) d_law_195 ?_
        refine Wp.aload rfl rfl d_law_200 ?_
        refine Wp.perm [1, 0] 2 pp_1_0 (H' := [oUE true o_50 (.ref s_1) (.ref s_4) (.ref s_7) (.ref q_51), oStr true s_7 (.ref b_8) (.int 0), oStr true s_4 (.ref b_5) (.int 0), oStr true s_1 (.ref b_2) (.int 0), oAL true a47 (.int 4) (.ref e_48) (.int 4), eO e_48 [.ref s_41, .ref s_43, .ref s_45, .ref s_41, .null, .null, .null, .null, .null, .null], oStr true s_41 (.ref b_42) (.int 0), oLN true q_51 (.ref qa_52) (.int 0), eO qa_52 [.ref s_41, .ref s_43, .ref s_45], oUE true a49 (.ref s_1) (.ref s_4) (.ref s_7) (.ref el), oStr true s_43 (.ref b_44) (.int 0), oStr true s_45 (.ref b_46) (.int 0), oLN false el (.ref ee) (.int 0), (de, false, .inr ((.object "java/lang/Object"), true, false, [])), (ee, false, .inr ((.object "java/lang/Object"), true, false, [])), oOb false em ]) rfl ?_
        refine Wp.callV nm_M0 (rm_gg hw o_50 (.ref s_1) (.ref s_4) (.ref s_7) q_51 _ ) 0 rfl (mk_M_gg hw) (w_172 hw) (w_173 hw) (w_175 hw) (w_174 hw) (S' := "") (Or.inl rfl) (by decide) rfl rfl rfl (Wn := 0) rfl rfl (by decide) d_law_202 ?_
        rintro _ _ ⟨rfl, rfl⟩
        refine Wp.astore (L' := [.val (.int p0), .val (.int p1), .val (.int p2), .val (.int p3), .val (.int p4), .val (.int p5), .val (.ref s_1), .val (.ref s_4), .val (.ref s_7), .val (.int 3), .val (.ref s_41), .val (.ref s_43), .val (.ref s_45), .val (.ref a47), .val (.ref a49), .val (.ref o_50), .val (.ref q_51)]) rfl rfl d_law_205 ?_
        refine Wp.aload rfl rfl d_law_207 ?_
        refine Wp.perm [7, 8, 0, 1, 2, 3, 4, 5, 6] 9 pp_7_8_0_1_2_3_4_5_6 (H' := [oLN true q_51 (.ref qa_52) (.int 0), eO qa_52 [.ref s_41, .ref s_43, .ref s_45], oUE true o_50 (.ref s_1) (.ref s_4) (.ref s_7) (.ref q_51), oStr true s_7 (.ref b_8) (.int 0), oStr true s_4 (.ref b_5) (.int 0), oStr true s_1 (.ref b_2) (.int 0), oAL true a47 (.int 4) (.ref e_48) (.int 4), eO e_48 [.ref s_41, .ref s_43, .ref s_45, .ref s_41, .null, .null, .null, .null, .null, .null], oStr true s_41 (.ref b_42) (.int 0), oUE true a49 (.ref s_1) (.ref s_4) (.ref s_7) (.ref el), oStr true s_43 (.ref b_44) (.int 0), oStr true s_45 (.ref b_46) (.int 0), oLN false el (.ref ee) (.int 0), (de, false, .inr ((.object "java/lang/Object"), true, false, [])), (ee, false, .inr ((.object "java/lang/Object"), true, false, [])), oOb false em ]) rfl ?_
        refine Wp.callI nm_M0 (rm_sz3 hw q_51 qa_52 s_41 s_43 s_45 _ ) 0 rfl (mk_M_sz3 hw) (w_177 hw) (w_178 hw) (w_179 hw) (w_180 hw) (w_181 hw) (w_182 hw) (w_183 hw) (w_97 hw) (by decide) rfl rfl rfl (Wn := 0) rfl rfl (by decide) d_law_209 ?_
        rintro _ _ ⟨rfl, rfl⟩
        refine Wp.iload rfl d_law_214 ?_
        refine Wp.icT (by decide) d_law_216 ?_
        refine Wp.iload rfl d_law_221 ?_
        refine Wp.iconst lc_1 d_law_223 ?_
        refine Wp.icF (by decide) d_law_224 ?_
        refine Wp.aload rfl rfl d_law_227 ?_
        refine Wp.aload rfl rfl d_law_229 ?_
        refine Wp.iconst lc_0 d_law_231 ?_
        refine Wp.callI nm_M0 (rm_gn0 hw q_51 qa_52 s_41 s_43 s_45 _ ) 0 rfl (mk_M_gn0 hw) (w_257 hw) (w_258 hw) (w_259 hw) (w_279 hw) (w_280 hw) (w_281 hw) (w_282 hw) (w_97 hw) (by decide) rfl rfl rfl (Wn := 1) rfl rfl (by decide) d_law_232 ?_
        rintro _ _ ⟨rfl, rfl⟩
        refine Wp.perm [8, 0, 1, 2, 3, 4, 5, 6, 7] 9 pp_8_0_1_2_3_4_5_6_7 (H' := [oStr true s_41 (.ref b_42) (.int 0), oLN true q_51 (.ref qa_52) (.int 0), eO qa_52 [.ref s_41, .ref s_43, .ref s_45], oUE true o_50 (.ref s_1) (.ref s_4) (.ref s_7) (.ref q_51), oStr true s_7 (.ref b_8) (.int 0), oStr true s_4 (.ref b_5) (.int 0), oStr true s_1 (.ref b_2) (.int 0), oAL true a47 (.int 4) (.ref e_48) (.int 4), eO e_48 [.ref s_41, .ref s_43, .ref s_45, .ref s_41, .null, .null, .null, .null, .null, .null], oUE true a49 (.ref s_1) (.ref s_4) (.ref s_7) (.ref el), oStr true s_43 (.ref b_44) (.int 0), oStr true s_45 (.ref b_46) (.int 0), oLN false el (.ref ee) (.int 0), (de, false, .inr ((.object "java/lang/Object"), true, false, [])), (ee, false, .inr ((.object "java/lang/Object"), true, false, [])), oOb false em ]) rfl ?_
        refine Wp.callV nm_M0 (rm_seS hw s_41 true (.ref b_42) (.int 0) _ ) 0 rfl (mk_M_seS hw) (w_157 hw) (w_158 hw) (w_160 hw) (w_159 hw) (S' := "") (Or.inl rfl) (by decide) rfl rfl rfl (Wn := 0) rfl rfl (by decide) d_law_237 ?_
        rintro _ _ ⟨rfl, rfl⟩
        refine Wp.ifT (by decide) d_law_240 ?_
        refine Wp.iload rfl d_law_245 ?_
        refine Wp.iconst lc_2 d_law_247 ?_
        refine Wp.icF (by decide) d_law_248 ?_
        refine Wp.aload rfl rfl d_law_251 ?_
        refine Wp.aload rfl rfl d_law_253 ?_
        refine Wp.iconst lc_1 d_law_255 ?_
        refine Wp.perm [1, 2, 0] 3 pp_1_2_0 (H' := [oLN true q_51 (.ref qa_52) (.int 0), eO qa_52 [.ref s_41, .ref s_43, .ref s_45], oStr true s_41 (.ref b_42) (.int 0), oUE true o_50 (.ref s_1) (.ref s_4) (.ref s_7) (.ref q_51), oStr true s_7 (.ref b_8) (.int 0), oStr true s_4 (.ref b_5) (.int 0), oStr true s_1 (.ref b_2) (.int 0), oAL true a47 (.int 4) (.ref e_48) (.int 4), eO e_48 [.ref s_41, .ref s_43, .ref s_45, .ref s_41, .null, .null, .null, .null, .null, .null], oUE true a49 (.ref s_1) (.ref s_4) (.ref s_7) (.ref el), oStr true s_43 (.ref b_44) (.int 0), oStr true s_45 (.ref b_46) (.int 0), oLN false el (.ref ee) (.int 0), (de, false, .inr ((.object "java/lang/Object"), true, false, [])), (ee, false, .inr ((.object "java/lang/Object"), true, false, [])), oOb false em ]) rfl ?_
        refine Wp.callI nm_M0 (rm_gn1 hw q_51 qa_52 s_41 s_43 s_45 _ ) 0 rfl (mk_M_gn1 hw) (w_257 hw) (w_258 hw) (w_259 hw) (w_279 hw) (w_280 hw) (w_281 hw) (w_282 hw) (w_97 hw) (by decide) rfl rfl rfl (Wn := 1) rfl rfl (by decide) d_law_256 ?_
        rintro _ _ ⟨rfl, rfl⟩
        refine Wp.perm [10, 0, 1, 2, 3, 4, 5, 6, 7, 8, 9] 11 pp_10_0_1_2_3_4_5_6_7_8_9 (H' := [oStr true s_43 (.ref b_44) (.int 0), oLN true q_51 (.ref qa_52) (.int 0), eO qa_52 [.ref s_41, .ref s_43, .ref s_45], oStr true s_41 (.ref b_42) (.int 0), oUE true o_50 (.ref s_1) (.ref s_4) (.ref s_7) (.ref q_51), oStr true s_7 (.ref b_8) (.int 0), oStr true s_4 (.ref b_5) (.int 0), oStr true s_1 (.ref b_2) (.int 0), oAL true a47 (.int 4) (.ref e_48) (.int 4), eO e_48 [.ref s_41, .ref s_43, .ref s_45, .ref s_41, .null, .null, .null, .null, .null, .null], oUE true a49 (.ref s_1) (.ref s_4) (.ref s_7) (.ref el), oStr true s_45 (.ref b_46) (.int 0), oLN false el (.ref ee) (.int 0), (de, false, .inr ((.object "java/lang/Object"), true, false, [])), (ee, false, .inr ((.object "java/lang/Object"), true, false, [])), oOb false em ]) rfl ?_
        refine Wp.callV nm_M0 (rm_seS hw s_43 true (.ref b_44) (.int 0) _ ) 0 rfl (mk_M_seS hw) (w_157 hw) (w_158 hw) (w_160 hw) (w_159 hw) (S' := "") (Or.inl rfl) (by decide) rfl rfl rfl (Wn := 0) rfl rfl (by decide) d_law_261 ?_
        rintro _ _ ⟨rfl, rfl⟩
        refine Wp.ifT (by decide) d_law_264 ?_
        refine Wp.iload rfl d_law_269 ?_
        refine Wp.iconst lc_3 d_law_271 ?_
        refine Wp.icF (by decide) d_law_272 ?_
        refine Wp.aload rfl rfl d_law_275 ?_
        refine Wp.aload rfl rfl d_law_277 ?_
        refine Wp.iconst lc_2 d_law_279 ?_
        refine Wp.perm [1, 2, 0] 3 pp_1_2_0 (H' := [oLN true q_51 (.ref qa_52) (.int 0), eO qa_52 [.ref s_41, .ref s_43, .ref s_45], oStr true s_43 (.ref b_44) (.int 0), oStr true s_41 (.ref b_42) (.int 0), oUE true o_50 (.ref s_1) (.ref s_4) (.ref s_7) (.ref q_51), oStr true s_7 (.ref b_8) (.int 0), oStr true s_4 (.ref b_5) (.int 0), oStr true s_1 (.ref b_2) (.int 0), oAL true a47 (.int 4) (.ref e_48) (.int 4), eO e_48 [.ref s_41, .ref s_43, .ref s_45, .ref s_41, .null, .null, .null, .null, .null, .null], oUE true a49 (.ref s_1) (.ref s_4) (.ref s_7) (.ref el), oStr true s_45 (.ref b_46) (.int 0), oLN false el (.ref ee) (.int 0), (de, false, .inr ((.object "java/lang/Object"), true, false, [])), (ee, false, .inr ((.object "java/lang/Object"), true, false, [])), oOb false em ]) rfl ?_
        refine Wp.callI nm_M0 (rm_gn2 hw q_51 qa_52 s_41 s_43 s_45 _ ) 0 rfl (mk_M_gn2 hw) (w_257 hw) (w_258 hw) (w_259 hw) (w_279 hw) (w_280 hw) (w_281 hw) (w_282 hw) (w_97 hw) (by decide) rfl rfl rfl (Wn := 1) rfl rfl (by decide) d_law_280 ?_
        rintro _ _ ⟨rfl, rfl⟩
        refine Wp.perm [11, 0, 1, 2, 3, 4, 5, 6, 7, 8, 9, 10] 12 pp_11_0_1_2_3_4_5_6_7_8_9_10 (H' := [oStr true s_45 (.ref b_46) (.int 0), oLN true q_51 (.ref qa_52) (.int 0), eO qa_52 [.ref s_41, .ref s_43, .ref s_45], oStr true s_43 (.ref b_44) (.int 0), oStr true s_41 (.ref b_42) (.int 0), oUE true o_50 (.ref s_1) (.ref s_4) (.ref s_7) (.ref q_51), oStr true s_7 (.ref b_8) (.int 0), oStr true s_4 (.ref b_5) (.int 0), oStr true s_1 (.ref b_2) (.int 0), oAL true a47 (.int 4) (.ref e_48) (.int 4), eO e_48 [.ref s_41, .ref s_43, .ref s_45, .ref s_41, .null, .null, .null, .null, .null, .null], oUE true a49 (.ref s_1) (.ref s_4) (.ref s_7) (.ref el), oLN false el (.ref ee) (.int 0), (de, false, .inr ((.object "java/lang/Object"), true, false, [])), (ee, false, .inr ((.object "java/lang/Object"), true, false, [])), oOb false em ]) rfl ?_
        refine Wp.callV nm_M0 (rm_seS hw s_45 true (.ref b_46) (.int 0) _ ) 0 rfl (mk_M_seS hw) (w_157 hw) (w_158 hw) (w_160 hw) (w_159 hw) (S' := "") (Or.inl rfl) (by decide) rfl rfl rfl (Wn := 0) rfl rfl (by decide) d_law_285 ?_
        rintro _ _ ⟨rfl, rfl⟩
        refine Wp.ifT (by decide) d_law_288 ?_
        refine Wp.aload rfl rfl d_law_293 ?_
        refine Wp.perm [11, 0, 1, 2, 3, 4, 5, 6, 7, 8, 9, 10] 12 pp_11_0_1_2_3_4_5_6_7_8_9_10 (H' := [oUE true a49 (.ref s_1) (.ref s_4) (.ref s_7) (.ref el), oStr true s_45 (.ref b_46) (.int 0), oLN true q_51 (.ref qa_52) (.int 0), eO qa_52 [.ref s_41, .ref s_43, .ref s_45], oStr true s_43 (.ref b_44) (.int 0), oStr true s_41 (.ref b_42) (.int 0), oUE true o_50 (.ref s_1) (.ref s_4) (.ref s_7) (.ref q_51), oStr true s_7 (.ref b_8) (.int 0), oStr true s_4 (.ref b_5) (.int 0), oStr true s_1 (.ref b_2) (.int 0), oAL true a47 (.int 4) (.ref e_48) (.int 4), eO e_48 [.ref s_41, .ref s_43, .ref s_45, .ref s_41, .null, .null, .null, .null, .null, .null], oLN false el (.ref ee) (.int 0), (de, false, .inr ((.object "java/lang/Object"), true, false, [])), (ee, false, .inr ((.object "java/lang/Object"), true, false, [])), oOb false em ]) rfl ?_
        refine Wp.callV nm_M0 (rm_gg hw a49 (.ref s_1) (.ref s_4) (.ref s_7) el _ ) 0 rfl (mk_M_gg hw) (w_172 hw) (w_173 hw) (w_175 hw) (w_174 hw) (S' := "") (Or.inl rfl) (by decide) rfl rfl rfl (Wn := 0) rfl rfl (by decide) d_law_295 ?_
        rintro _ _ ⟨rfl, rfl⟩
        refine Wp.perm [12, 14, 0, 1, 2, 3, 4, 5, 6, 7, 8, 9, 10, 11, 13] 15 pp_12_14_0_1_2_3_4_5_6_7_8_9_10_11_13 (H' := [oLN false el (.ref ee) (.int 0), (ee, false, .inr ((.object "java/lang/Object"), true, false, [])), oUE true a49 (.ref s_1) (.ref s_4) (.ref s_7) (.ref el), oStr true s_45 (.ref b_46) (.int 0), oLN true q_51 (.ref qa_52) (.int 0), eO qa_52 [.ref s_41, .ref s_43, .ref s_45], oStr true s_43 (.ref b_44) (.int 0), oStr true s_41 (.ref b_42) (.int 0), oUE true o_50 (.ref s_1) (.ref s_4) (.ref s_7) (.ref q_51), oStr true s_7 (.ref b_8) (.int 0), oStr true s_4 (.ref b_5) (.int 0), oStr true s_1 (.ref b_2) (.int 0), oAL true a47 (.int 4) (.ref e_48) (.int 4), eO e_48 [.ref s_41, .ref s_43, .ref s_45, .ref s_41, .null, .null, .null, .null, .null, .null], (de, false, .inr ((.object "java/lang/Object"), true, false, [])), oOb false em ]) rfl ?_
        refine Wp.callI nm_M0 (rm_szE hw el ee _ ) 0 rfl (mk_M_szE hw) (w_177 hw) (w_178 hw) (w_179 hw) (w_180 hw) (w_181 hw) (w_182 hw) (w_183 hw) (w_97 hw) (by decide) rfl rfl rfl (Wn := 0) rfl rfl (by decide) d_law_298 ?_
        rintro _ _ ⟨rfl, rfl⟩
        refine Wp.ifF (by decide) d_law_303 ?_
        refine Wp.iconst lc_1 d_law_306 ?_
        refine Wp.goto d_law_307 ?_
        refine Wp.iretN (z := 1) (by simp) rfl (by decide) d_law_311 (by decide) (by decide) ?_
        exact rfl
    · refine Wp.ifF (feq b31_6).1 d_law_31 ?_
      refine Wp.aconstNull d_law_34 ?_
      refine Wp.goto d_law_35 ?_
      refine Wp.astore (L' := [.val (.int p0), .val (.int p1), .val (.int p2), .val (.int p3), .val (.int p4), .val (.int p5), .val (.ref s_1), .val (.ref s_4), .val (.null), .unset, .unset, .unset, .unset, .unset, .unset, .unset, .unset]) rfl rfl d_law_42 ?_
      refine Wp.iloadN rfl d_law_44 ?_
      refine Wp.bipush lb_24 d_law_45 ?_
      refine Wp.iushr (z := (Jvm.Free.XT.ushr p3 24)) rfl d_law_47 ?_
      refine Wp.iconst lc_3 d_law_48 ?_
      refine Wp.iand (z := ((Jvm.Free.XT.ushr p3 24) &&& 3)) rfl d_law_49 ?_
      rcases and3 ((Jvm.Free.XT.ushr p3 24)) with hn | hn | hn | hn
      · rw [hn]
        refine Wp.istore (L' := [.val (.int p0), .val (.int p1), .val (.int p2), .val (.int p3), .val (.int p4), .val (.int p5), .val (.ref s_1), .val (.ref s_4), .val (.null), .val (.int 0), .unset, .unset, .unset, .unset, .unset, .unset, .unset]) rfl d_law_50 ?_
        refine Wp.iloadN rfl d_law_52 ?_
        refine Wp.callS nm_M0 (rm_str hw p3 _ ) (mk_M_str hw) (w_0 hw) (w_1 hw) rfl rfl (Wn := 0) rfl rfl (by decide) d_law_53 ?_
        rintro _ _ ⟨s_53, b_54, rfl, rfl⟩
        refine Wp.astore (L' := [.val (.int p0), .val (.int p1), .val (.int p2), .val (.int p3), .val (.int p4), .val (.int p5), .val (.ref s_1), .val (.ref s_4), .val (.null), .val (.int 0), .val (.ref s_53), .unset, .unset, .unset, .unset, .unset, .unset]) rfl rfl d_law_56 ?_
        refine Wp.iload rfl d_law_58 ?_
        refine Wp.callS nm_M0 (rm_str hw p4 _ ) (mk_M_str hw) (w_0 hw) (w_1 hw) rfl rfl (Wn := 0) rfl rfl (by decide) d_law_60 ?_
        rintro _ _ ⟨s_55, b_56, rfl, rfl⟩
        refine Wp.astore (L' := [.val (.int p0), .val (.int p1), .val (.int p2), .val (.int p3), .val (.int p4), .val (.int p5), .val (.ref s_1), .val (.ref s_4), .val (.null), .val (.int 0), .val (.ref s_53), .val (.ref s_55), .unset, .unset, .unset, .unset, .unset]) rfl rfl d_law_63 ?_
        refine Wp.iload rfl d_law_65 ?_
        refine Wp.callS nm_M0 (rm_str hw p5 _ ) (mk_M_str hw) (w_0 hw) (w_1 hw) rfl rfl (Wn := 0) rfl rfl (by decide) d_law_67 ?_
        rintro _ _ ⟨s_57, b_58, rfl, rfl⟩
        refine Wp.astore (L' := [.val (.int p0), .val (.int p1), .val (.int p2), .val (.int p3), .val (.int p4), .val (.int p5), .val (.ref s_1), .val (.ref s_4), .val (.null), .val (.int 0), .val (.ref s_53), .val (.ref s_55), .val (.ref s_57), .unset, .unset, .unset, .unset]) rfl rfl d_law_70 ?_
        refine Wp.newO nm_M0 (w_34 hw) (w_35 hw) (w_36 hw) (nf_oAL hw) (by decide) (by decide) d_law_72 (fun a59 => ?_)
        refine Wp.dup rfl d_law_75 ?_
        refine Wp.callC nm_M0 (rm_ali hw a59 de _ hde) (mk_M_ali hw) (w_37 hw) (w_38 hw) rfl rfl rfl rfl (Wn := 1) rfl rfl (by decide) d_law_76 ?_
        rintro _ _ ⟨rfl, rfl⟩
        refine Wp.astore (L' := [.val (.int p0), .val (.int p1), .val (.int p2), .val (.int p3), .val (.int p4), .val (.int p5), .val (.ref s_1), .val (.ref s_4), .val (.null), .val (.int 0), .val (.ref s_53), .val (.ref s_55), .val (.ref s_57), .val (.ref a59), .unset, .unset, .unset]) rfl rfl d_law_79 ?_
        refine Wp.iload rfl d_law_81 ?_
        refine Wp.iconst lc_1 d_law_83 ?_
        refine Wp.icT (by decide) d_law_84 ?_
        refine Wp.iload rfl d_law_95 ?_
        refine Wp.iconst lc_2 d_law_97 ?_
        refine Wp.icT (by decide) d_law_98 ?_
        refine Wp.iload rfl d_law_109 ?_
        refine Wp.iconst lc_3 d_law_111 ?_
        refine Wp.icT (by decide) d_law_112 ?_
        refine Wp.newO nm_M0 (w_58 hw) (w_59 hw) (w_60 hw) (nf_oUE hw) (by decide) (by decide) d_law_123 (fun a60 => ?_)
        refine Wp.dup rfl d_law_126 ?_
        refine Wp.aload rfl rfl d_law_127 ?_
        refine Wp.aload rfl rfl d_law_129 ?_
        refine Wp.aload rfl rfl d_law_131 ?_
        refine Wp.perm [0, 7, 1, 2, 3, 4, 5, 6] 8 pp_0_7_1_2_3_4_5_6 (H' := [oUE true a60 (.null) (.null) (.null) (.null), oLN false el (.ref ee) (.int 0), oAL true a59 (.int 0) (.ref de) (.int 0), oStr true s_57 (.ref b_58) (.int 0), oStr true s_55 (.ref b_56) (.int 0), oStr true s_53 (.ref b_54) (.int 0), oStr true s_4 (.ref b_5) (.int 0), oStr true s_1 (.ref b_2) (.int 0), (ee, false, .inr ((.object "java/lang/Object"), true, false, [])), oOb false em , (de, false, .inr ((.object "java/lang/Object"), true, false, []))]) rfl ?_
        refine Wp.callC nm_M0 (rm_ue3a hw a60 (.ref s_1) (.ref s_4) .null el ee _ rfl rfl rfl hel) (mk_M_ue3a hw) (w_61 hw) (w_62 hw) rfl rfl rfl rfl (Wn := 1) rfl rfl (by decide) d_law_133 ?_
        rintro _ _ ⟨rfl, rfl⟩
        refine Wp.astore (L' := [.val (.int p0), .val (.int p1), .val (.int p2), .val (.int p3), .val (.int p4), .val (.int p5), .val (.ref s_1), .val (.ref s_4), .val (.null), .val (.int 0), .val (.ref s_53), .val (.ref s_55), .val (.ref s_57), .val (.ref a59), .val (.ref a60), .unset, .unset]) rfl rfl d_law_136 ?_
        refine Wp.aload rfl rfl d_law_138 ?_
        refine Wp.aload rfl rfl d_law_140 ?_
        refine Wp.perm [0, 2, 1] 3 pp_0_2_1 (H' := [oUE true a60 (.ref s_1) (.ref s_4) (.null) (.ref el), oAL true a59 (.int 0) (.ref de) (.int 0), oLN false el (.ref ee) (.int 0), oStr true s_57 (.ref b_58) (.int 0), oStr true s_55 (.ref b_56) (.int 0), oStr true s_53 (.ref b_54) (.int 0), oStr true s_4 (.ref b_5) (.int 0), oStr true s_1 (.ref b_2) (.int 0), (ee, false, .inr ((.object "java/lang/Object"), true, false, [])), oOb false em , (de, false, .inr ((.object "java/lang/Object"), true, false, []))]) rfl ?_
        refine Wp.callV nm_M0 (rm_wg0 hw a60 (.ref s_1) (.ref s_4) .null a59 el em mr de _ rfl rfl rfl hel hem hmr) 0 rfl (mk_M_wg0 hw) (w_100 hw) (w_101 hw) (w_103 hw) (w_102 hw) (S' := "") (Or.inl rfl) (by decide) rfl rfl rfl (Wn := 0) rfl rfl (by decide) d_law_142 ?_
        rintro _ _ ⟨o_61, rfl, rfl⟩
        refine Wp.astore (L' := [.val (.int p0), .val (.int p1), .val (.int p2), .val (.int p3), .val (.int p4), .val (.int p5), .val (.ref s_1), .val (.ref s_4), .val (.null), .val (.int 0), .val (.ref s_53), .val (.ref s_55), .val (.ref s_57), .val (.ref a59), .val (.ref a60), .val (.ref o_61), .unset]) rfl rfl d_law_145 ?_
        refine Wp.aload rfl rfl d_law_147 ?_
        refine Wp.aload rfl rfl d_law_149 ?_
        refine Wp.perm [2, 11, 6, 0, 1, 3, 4, 5, 7, 8, 9, 10] 12 pp_2_11_6_0_1_3_4_5_7_8_9_10 (H' := [oAL true a59 (.int 0) (.ref de) (.int 0), (de, false, .inr ((.object "java/lang/Object"), true, false, [])), oStr true s_53 (.ref b_54) (.int 0), oUE true o_61 (.ref s_1) (.ref s_4) (.null) (.ref el), oUE true a60 (.ref s_1) (.ref s_4) (.null) (.ref el), oLN false el (.ref ee) (.int 0), oStr true s_57 (.ref b_58) (.int 0), oStr true s_55 (.ref b_56) (.int 0), oStr true s_4 (.ref b_5) (.int 0), oStr true s_1 (.ref b_2) (.int 0), (ee, false, .inr ((.object "java/lang/Object"), true, false, [])), oOb false em ]) rfl ?_
        refine Wp.callV nm_M0 (rm_add_0 hw a59 de s_53 true (.ref b_54) (.int 0) _ hde) 0 rfl (mk_M_add_0 hw) (w_120 hw) (w_121 hw) (w_123 hw) (w_122 hw) (S' := "") (Or.inl rfl) (by decide) rfl rfl rfl (Wn := 0) rfl rfl (by decide) d_law_151 ?_
        rintro _ _ ⟨e_62, rfl, rfl⟩
        refine Wp.pop rfl d_law_154 ?_
        refine Wp.aload rfl rfl d_law_155 ?_
        refine Wp.aload rfl rfl d_law_157 ?_
        refine Wp.perm [4, 0, 1, 2, 3] 5 pp_4_0_1_2_3 (H' := [oUE true o_61 (.ref s_1) (.ref s_4) (.null) (.ref el), oAL true a59 (.int 1) (.ref e_62) (.int 1), eO e_62 [.ref s_53, .null, .null, .null, .null, .null, .null, .null, .null, .null], (de, false, .inr ((.object "java/lang/Object"), true, false, [])), oStr true s_53 (.ref b_54) (.int 0), oUE true a60 (.ref s_1) (.ref s_4) (.null) (.ref el), oLN false el (.ref ee) (.int 0), oStr true s_57 (.ref b_58) (.int 0), oStr true s_55 (.ref b_56) (.int 0), oStr true s_4 (.ref b_5) (.int 0), oStr true s_1 (.ref b_2) (.int 0), (ee, false, .inr ((.object "java/lang/Object"), true, false, [])), oOb false em ]) rfl ?_
        refine Wp.callV nm_M0 (rm_g0 hw o_61 (.ref s_1) (.ref s_4) .null el _ rfl rfl rfl) 0 rfl (mk_M_g0 hw) (w_149 hw) (w_150 hw) (w_152 hw) (w_151 hw) (S' := "") (Or.inl rfl) (by decide) rfl rfl rfl (Wn := 1) rfl rfl (by decide) d_law_159 ?_
        rintro _ _ ⟨rfl, rfl⟩
        refine Wp.perm [10, 0, 1, 2, 3, 4, 5, 6, 7, 8, 9] 11 pp_10_0_1_2_3_4_5_6_7_8_9 (H' := [oStr true s_1 (.ref b_2) (.int 0), oUE true o_61 (.ref s_1) (.ref s_4) (.null) (.ref el), oAL true a59 (.int 1) (.ref e_62) (.int 1), eO e_62 [.ref s_53, .null, .null, .null, .null, .null, .null, .null, .null, .null], (de, false, .inr ((.object "java/lang/Object"), true, false, [])), oStr true s_53 (.ref b_54) (.int 0), oUE true a60 (.ref s_1) (.ref s_4) (.null) (.ref el), oLN false el (.ref ee) (.int 0), oStr true s_57 (.ref b_58) (.int 0), oStr true s_55 (.ref b_56) (.int 0), oStr true s_4 (.ref b_5) (.int 0), (ee, false, .inr ((.object "java/lang/Object"), true, false, [])), oOb false em ]) rfl ?_
        refine Wp.callS nm_M0 (rm_eqS hw s_1 true (.ref b_2) (.int 0) _ ) (mk_M_eqS hw) (w_154 hw) (w_155 hw) rfl rfl (Wn := 0) rfl rfl (by decide) d_law_162 ?_
        rintro _ _ ⟨rfl, rfl⟩
        refine Wp.ifT (by decide) d_law_165 ?_
        refine Wp.aload rfl rfl d_law_170 ?_
        refine Wp.aload rfl rfl d_law_172 ?_
        refine Wp.perm [1, 0] 2 pp_1_0 (H' := [oUE true o_61 (.ref s_1) (.ref s_4) (.null) (.ref el), oStr true s_1 (.ref b_2) (.int 0), oAL true a59 (.int 1) (.ref e_62) (.int 1), eO e_62 [.ref s_53, .null, .null, .null, .null, .null, .null, .null, .null, .null], (de, false, .inr ((.object "java/lang/Object"), true, false, [])), oStr true s_53 (.ref b_54) (.int 0), oUE true a60 (.ref s_1) (.ref s_4) (.null) (.ref el), oLN false el (.ref ee) (.int 0), oStr true s_57 (.ref b_58) (.int 0), oStr true s_55 (.ref b_56) (.int 0), oStr true s_4 (.ref b_5) (.int 0), (ee, false, .inr ((.object "java/lang/Object"), true, false, [])), oOb false em ]) rfl ?_
        refine Wp.callV nm_M0 (rm_g1 hw o_61 (.ref s_1) (.ref s_4) .null el _ rfl rfl rfl) 0 rfl (mk_M_g1 hw) (w_162 hw) (w_163 hw) (w_165 hw) (w_164 hw) (S' := "") (Or.inl rfl) (by decide) rfl rfl rfl (Wn := 1) rfl rfl (by decide) d_law_174 ?_
        rintro _ _ ⟨rfl, rfl⟩
        refine Wp.perm [10, 0, 1, 2, 3, 4, 5, 6, 7, 8, 9] 11 pp_10_0_1_2_3_4_5_6_7_8_9 (H' := [oStr true s_4 (.ref b_5) (.int 0), oUE true o_61 (.ref s_1) (.ref s_4) (.null) (.ref el), oStr true s_1 (.ref b_2) (.int 0), oAL true a59 (.int 1) (.ref e_62) (.int 1), eO e_62 [.ref s_53, .null, .null, .null, .null, .null, .null, .null, .null, .null], (de, false, .inr ((.object "java/lang/Object"), true, false, [])), oStr true s_53 (.ref b_54) (.int 0), oUE true a60 (.ref s_1) (.ref s_4) (.null) (.ref el), oLN false el (.ref ee) (.int 0), oStr true s_57 (.ref b_58) (.int 0), oStr true s_55 (.ref b_56) (.int 0), (ee, false, .inr ((.object "java/lang/Object"), true, false, [])), oOb false em ]) rfl ?_
        refine Wp.callS nm_M0 (rm_eqS hw s_4 true (.ref b_5) (.int 0) _ ) (mk_M_eqS hw) (w_154 hw) (w_155 hw) rfl rfl (Wn := 0) rfl rfl (by decide) d_law_177 ?_
        rintro _ _ ⟨rfl, rfl⟩
        refine Wp.ifT (by decide) d_law_180 ?_
        refine Wp.aload rfl rfl d_law_185 ?_
        refine Wp.aload rfl rfl d_law_187 ?_
        refine Wp.perm [1, 0] 2 pp_1_0 (H' := [oUE true o_61 (.ref s_1) (.ref s_4) (.null) (.ref el), oStr true s_4 (.ref b_5) (.int 0), oStr true s_1 (.ref b_2) (.int 0), oAL true a59 (.int 1) (.ref e_62) (.int 1), eO e_62 [.ref s_53, .null, .null, .null, .null, .null, .null, .null, .null, .null], (de, false, .inr ((.object "java/lang/Object"), true, false, [])), oStr true s_53 (.ref b_54) (.int 0), oUE true a60 (.ref s_1) (.ref s_4) (.null) (.ref el), oLN false el (.ref ee) (.int 0), oStr true s_57 (.ref b_58) (.int 0), oStr true s_55 (.ref b_56) (.int 0), (ee, false, .inr ((.object "java/lang/Object"), true, false, [])), oOb false em ]) rfl ?_
        refine Wp.callV nm_M0 (rm_g2 hw o_61 (.ref s_1) (.ref s_4) .null el _ rfl rfl rfl) 0 rfl (mk_M_g2 hw) (w_167 hw) (w_168 hw) (w_170 hw) (w_169 hw) (S' := "") (Or.inl rfl) (by decide) rfl rfl rfl (Wn := 1) rfl rfl (by decide) d_law_189 ?_
        rintro _ _ ⟨rfl, rfl⟩
        refine Wp.callS nm_M0 (rm_eqN hw  _ ) (mk_M_eqN hw) (w_154 hw) (w_155 hw) rfl rfl (Wn := 0) rfl rfl (by decide) d_law_192 ?_
        rintro _ _ ⟨rfl, rfl⟩
        refine Wp.ifT (by decide) d_law_195 ?_
        refine Wp.aload rfl rfl d_law_200 ?_
        refine Wp.callV nm_M0 (rm_gg hw o_61 (.ref s_1) (.ref s_4) .null el _ ) 0 rfl (mk_M_gg hw) (w_172 hw) (w_173 hw) (w_175 hw) (w_174 hw) (S' := "") (Or.inl rfl) (by decide) rfl rfl rfl (Wn := 0) rfl rfl (by decide) d_law_202 ?_
        rintro _ _ ⟨rfl, rfl⟩
        refine Wp.astore (L' := [.val (.int p0), .val (.int p1), .val (.int p2), .val (.int p3), .val (.int p4), .val (.int p5), .val (.ref s_1), .val (.ref s_4), .val (.null), .val (.int 0), .val (.ref s_53), .val (.ref s_55), .val (.ref s_57), .val (.ref a59), .val (.ref a60), .val (.ref o_61), .val (.ref el)]) rfl rfl d_law_205 ?_
        refine Wp.aload rfl rfl d_law_207 ?_
        refine Wp.perm [8, 11, 0, 1, 2, 3, 4, 5, 6, 7, 9, 10] 12 pp_8_11_0_1_2_3_4_5_6_7_9_10 (H' := [oLN false el (.ref ee) (.int 0), (ee, false, .inr ((.object "java/lang/Object"), true, false, [])), oUE true o_61 (.ref s_1) (.ref s_4) (.null) (.ref el), oStr true s_4 (.ref b_5) (.int 0), oStr true s_1 (.ref b_2) (.int 0), oAL true a59 (.int 1) (.ref e_62) (.int 1), eO e_62 [.ref s_53, .null, .null, .null, .null, .null, .null, .null, .null, .null], (de, false, .inr ((.object "java/lang/Object"), true, false, [])), oStr true s_53 (.ref b_54) (.int 0), oUE true a60 (.ref s_1) (.ref s_4) (.null) (.ref el), oStr true s_57 (.ref b_58) (.int 0), oStr true s_55 (.ref b_56) (.int 0), oOb false em ]) rfl ?_
        refine Wp.callI nm_M0 (rm_szE hw el ee _ ) 0 rfl (mk_M_szE hw) (w_177 hw) (w_178 hw) (w_179 hw) (w_180 hw) (w_181 hw) (w_182 hw) (w_183 hw) (w_97 hw) (by decide) rfl rfl rfl (Wn := 0) rfl rfl (by decide) d_law_209 ?_
        rintro _ _ ⟨rfl, rfl⟩
        refine Wp.iload rfl d_law_214 ?_
        refine Wp.icT (by decide) d_law_216 ?_
        refine Wp.iload rfl d_law_221 ?_
        refine Wp.iconst lc_1 d_law_223 ?_
        refine Wp.icT (by decide) d_law_224 ?_
        refine Wp.iload rfl d_law_245 ?_
        refine Wp.iconst lc_2 d_law_247 ?_
        refine Wp.icT (by decide) d_law_248 ?_
        refine Wp.iload rfl d_law_269 ?_
        refine Wp.iconst lc_3 d_law_271 ?_
        refine Wp.icT (by decide) d_law_272 ?_
        refine Wp.aload rfl rfl d_law_293 ?_
        refine Wp.perm [9, 0, 1, 2, 3, 4, 5, 6, 7, 8] 10 pp_9_0_1_2_3_4_5_6_7_8 (H' := [oUE true a60 (.ref s_1) (.ref s_4) (.null) (.ref el), oLN false el (.ref ee) (.int 0), (ee, false, .inr ((.object "java/lang/Object"), true, false, [])), oUE true o_61 (.ref s_1) (.ref s_4) (.null) (.ref el), oStr true s_4 (.ref b_5) (.int 0), oStr true s_1 (.ref b_2) (.int 0), oAL true a59 (.int 1) (.ref e_62) (.int 1), eO e_62 [.ref s_53, .null, .null, .null, .null, .null, .null, .null, .null, .null], (de, false, .inr ((.object "java/lang/Object"), true, false, [])), oStr true s_53 (.ref b_54) (.int 0), oStr true s_57 (.ref b_58) (.int 0), oStr true s_55 (.ref b_56) (.int 0), oOb false em ]) rfl ?_
        refine Wp.callV nm_M0 (rm_gg hw a60 (.ref s_1) (.ref s_4) .null el _ ) 0 rfl (mk_M_gg hw) (w_172 hw) (w_173 hw) (w_175 hw) (w_174 hw) (S' := "") (Or.inl rfl) (by decide) rfl rfl rfl (Wn := 0) rfl rfl (by decide) d_law_295 ?_
        rintro _ _ ⟨rfl, rfl⟩
        refine Wp.perm [1, 2, 0] 3 pp_1_2_0 (H' := [oLN false el (.ref ee) (.int 0), (ee, false, .inr ((.object "java/lang/Object"), true, false, [])), oUE true a60 (.ref s_1) (.ref s_4) (.null) (.ref el), oUE true o_61 (.ref s_1) (.ref s_4) (.null) (.ref el), oStr true s_4 (.ref b_5) (.int 0), oStr true s_1 (.ref b_2) (.int 0), oAL true a59 (.int 1) (.ref e_62) (.int 1), eO e_62 [.ref s_53, .null, .null, .null, .null, .null, .null, .null, .null, .null], (de, false, .inr ((.object "java/lang/Object"), true, false, [])), oStr true s_53 (.ref b_54) (.int 0), oStr true s_57 (.ref b_58) (.int 0), oStr true s_55 (.ref b_56) (.int 0), oOb false em ]) rfl ?_
        refine Wp.callI nm_M0 (rm_szE hw el ee _ ) 0 rfl (mk_M_szE hw) (w_177 hw) (w_178 hw) (w_179 hw) (w_180 hw) (w_181 hw) (w_182 hw) (w_183 hw) (w_97 hw) (by decide) rfl rfl rfl (Wn := 0) rfl rfl (by decide) d_law_298 ?_
        rintro _ _ ⟨rfl, rfl⟩
        refine Wp.ifF (by decide) d_law_303 ?_
        refine Wp.iconst lc_1 d_law_306 ?_
        refine Wp.goto d_law_307 ?_
        refine Wp.iretN (z := 1) (by simp) rfl (by decide) d_law_311 (by decide) (by decide) ?_
        exact rfl
      · rw [hn]
        refine Wp.istore (L' := [.val (.int p0), .val (.int p1), .val (.int p2), .val (.int p3), .val (.int p4), .val (.int p5), .val (.ref s_1), .val (.ref s_4), .val (.null), .val (.int 1), .unset, .unset, .unset, .unset, .unset, .unset, .unset]) rfl d_law_50 ?_
        refine Wp.iloadN rfl d_law_52 ?_
        refine Wp.callS nm_M0 (rm_str hw p3 _ ) (mk_M_str hw) (w_0 hw) (w_1 hw) rfl rfl (Wn := 0) rfl rfl (by decide) d_law_53 ?_
        rintro _ _ ⟨s_63, b_64, rfl, rfl⟩
        refine Wp.astore (L' := [.val (.int p0), .val (.int p1), .val (.int p2), .val (.int p3), .val (.int p4), .val (.int p5), .val (.ref s_1), .val (.ref s_4), .val (.null), .val (.int 1), .val (.ref s_63), .unset, .unset, .unset, .unset, .unset, .unset]) rfl rfl d_law_56 ?_
        refine Wp.iload rfl d_law_58 ?_
        refine Wp.callS nm_M0 (rm_str hw p4 _ ) (mk_M_str hw) (w_0 hw) (w_1 hw) rfl rfl (Wn := 0) rfl rfl (by decide) d_law_60 ?_
        rintro _ _ ⟨s_65, b_66, rfl, rfl⟩
        refine Wp.astore (L' := [.val (.int p0), .val (.int p1), .val (.int p2), .val (.int p3), .val (.int p4), .val (.int p5), .val (.ref s_1), .val (.ref s_4), .val (.null), .val (.int 1), .val (.ref s_63), .val (.ref s_65), .unset, .unset, .unset, .unset, .unset]) rfl rfl d_law_63 ?_
        refine Wp.iload rfl d_law_65 ?_
        refine Wp.callS nm_M0 (rm_str hw p5 _ ) (mk_M_str hw) (w_0 hw) (w_1 hw) rfl rfl (Wn := 0) rfl rfl (by decide) d_law_67 ?_
        rintro _ _ ⟨s_67, b_68, rfl, rfl⟩
        refine Wp.astore (L' := [.val (.int p0), .val (.int p1), .val (.int p2), .val (.int p3), .val (.int p4), .val (.int p5), .val (.ref s_1), .val (.ref s_4), .val (.null), .val (.int 1), .val (.ref s_63), .val (.ref s_65), .val (.ref s_67), .unset, .unset, .unset, .unset]) rfl rfl d_law_70 ?_
        refine Wp.newO nm_M0 (w_34 hw) (w_35 hw) (w_36 hw) (nf_oAL hw) (by decide) (by decide) d_law_72 (fun a69 => ?_)
        refine Wp.dup rfl d_law_75 ?_
        refine Wp.callC nm_M0 (rm_ali hw a69 de _ hde) (mk_M_ali hw) (w_37 hw) (w_38 hw) rfl rfl rfl rfl (Wn := 1) rfl rfl (by decide) d_law_76 ?_
        rintro _ _ ⟨rfl, rfl⟩
        refine Wp.astore (L' := [.val (.int p0), .val (.int p1), .val (.int p2), .val (.int p3), .val (.int p4), .val (.int p5), .val (.ref s_1), .val (.ref s_4), .val (.null), .val (.int 1), .val (.ref s_63), .val (.ref s_65), .val (.ref s_67), .val (.ref a69), .unset, .unset, .unset]) rfl rfl d_law_79 ?_
        refine Wp.iload rfl d_law_81 ?_
        refine Wp.iconst lc_1 d_law_83 ?_
        refine Wp.icF (by decide) d_law_84 ?_
        refine Wp.aload rfl rfl d_law_87 ?_
        refine Wp.aload rfl rfl d_law_89 ?_
        refine Wp.perm [0, 9, 3, 1, 2, 4, 5, 6, 7, 8] 10 pp_0_9_3_1_2_4_5_6_7_8 (H' := [oAL true a69 (.int 0) (.ref de) (.int 0), (de, false, .inr ((.object "java/lang/Object"), true, false, [])), oStr true s_63 (.ref b_64) (.int 0), oStr true s_67 (.ref b_68) (.int 0), oStr true s_65 (.ref b_66) (.int 0), oStr true s_4 (.ref b_5) (.int 0), oStr true s_1 (.ref b_2) (.int 0), oLN false el (.ref ee) (.int 0), (ee, false, .inr ((.object "java/lang/Object"), true, false, [])), oOb false em ]) rfl ?_
        refine Wp.callV nm_M0 (rm_add_0 hw a69 de s_63 true (.ref b_64) (.int 0) _ hde) 0 rfl (mk_M_add_0 hw) (w_120 hw) (w_121 hw) (w_123 hw) (w_122 hw) (S' := "") (Or.inl rfl) (by decide) rfl rfl rfl (Wn := 0) rfl rfl (by decide) d_law_91 ?_
        rintro _ _ ⟨e_70, rfl, rfl⟩
        refine Wp.pop rfl d_law_94 ?_
        refine Wp.iload rfl d_law_95 ?_
        refine Wp.iconst lc_2 d_law_97 ?_
        refine Wp.icT (by decide) d_law_98 ?_
        refine Wp.iload rfl d_law_109 ?_
        refine Wp.iconst lc_3 d_law_111 ?_
        refine Wp.icT (by decide) d_law_112 ?_
        refine Wp.newO nm_M0 (w_58 hw) (w_59 hw) (w_60 hw) (nf_oUE hw) (by decide) (by decide) d_law_123 (fun a71 => ?_)
        refine Wp.dup rfl d_law_126 ?_
        refine Wp.aload rfl rfl d_law_127 ?_
        refine Wp.aload rfl rfl d_law_129 ?_
        refine Wp.aload rfl rfl d_law_131 ?_
        refine Wp.perm [0, 9, 1, 2, 3, 4, 5, 6, 7, 8] 10 pp_0_9_1_2_3_4_5_6_7_8 (H' := [oUE true a71 (.null) (.null) (.null) (.null), oLN false el (.ref ee) (.int 0), oAL true a69 (.int 1) (.ref e_70) (.int 1), eO e_70 [.ref s_63, .null, .null, .null, .null, .null, .null, .null, .null, .null], (de, false, .inr ((.object "java/lang/Object"), true, false, [])), oStr true s_63 (.ref b_64) (.int 0), oStr true s_67 (.ref b_68) (.int 0), oStr true s_65 (.ref b_66) (.int 0), oStr true s_4 (.ref b_5) (.int 0), oStr true s_1 (.ref b_2) (.int 0), (ee, false, .inr ((.object "java/lang/Object"), true, false, [])), oOb false em ]) rfl ?_
        refine Wp.callC nm_M0 (rm_ue3a hw a71 (.ref s_1) (.ref s_4) .null el ee _ rfl rfl rfl hel) (mk_M_ue3a hw) (w_61 hw) (w_62 hw) rfl rfl rfl rfl (Wn := 1) rfl rfl (by decide) d_law_133 ?_
        rintro _ _ ⟨rfl, rfl⟩
        refine Wp.astore (L' := [.val (.int p0), .val (.int p1), .val (.int p2), .val (.int p3), .val (.int p4), .val (.int p5), .val (.ref s_1), .val (.ref s_4), .val (.null), .val (.int 1), .val (.ref s_63), .val (.ref s_65), .val (.ref s_67), .val (.ref a69), .val (.ref a71), .unset, .unset]) rfl rfl d_law_136 ?_
        refine Wp.aload rfl rfl d_law_138 ?_
        refine Wp.aload rfl rfl d_law_140 ?_
        refine Wp.perm [0, 2, 3, 5, 1, 4] 6 pp_0_2_3_5_1_4 (H' := [oUE true a71 (.ref s_1) (.ref s_4) (.null) (.ref el), oAL true a69 (.int 1) (.ref e_70) (.int 1), eO e_70 [.ref s_63, .null, .null, .null, .null, .null, .null, .null, .null, .null], oStr true s_63 (.ref b_64) (.int 0), oLN false el (.ref ee) (.int 0), (de, false, .inr ((.object "java/lang/Object"), true, false, [])), oStr true s_67 (.ref b_68) (.int 0), oStr true s_65 (.ref b_66) (.int 0), oStr true s_4 (.ref b_5) (.int 0), oStr true s_1 (.ref b_2) (.int 0), (ee, false, .inr ((.object "java/lang/Object"), true, false, [])), oOb false em ]) rfl ?_
        refine Wp.callV nm_M0 (rm_wg1 hw a71 (.ref s_1) (.ref s_4) .null a69 e_70 s_63 true (.ref b_64) (.int 0) el em mr _ rfl rfl rfl hel hem hmr) 0 rfl (mk_M_wg1 hw) (w_100 hw) (w_101 hw) (w_103 hw) (w_102 hw) (S' := "") (Or.inl rfl) (by decide) rfl rfl rfl (Wn := 0) rfl rfl (by decide) d_law_142 ?_
        rintro _ _ ⟨o_72, q_73, rfl, rfl⟩
        refine Wp.astore (L' := [.val (.int p0), .val (.int p1), .val (.int p2), .val (.int p3), .val (.int p4), .val (.int p5), .val (.ref s_1), .val (.ref s_4), .val (.null), .val (.int 1), .val (.ref s_63), .val (.ref s_65), .val (.ref s_67), .val (.ref a69), .val (.ref a71), .val (.ref o_72), .unset]) rfl rfl d_law_145 ?_
        refine Wp.aload rfl rfl d_law_147 ?_
        refine Wp.aload rfl rfl d_law_149 ?_
        refine Wp.perm [3, 4, 5, 0, 1, 2] 6 pp_3_4_5_0_1_2 (H' := [oAL true a69 (.int 1) (.ref e_70) (.int 1), eO e_70 [.ref s_63, .null, .null, .null, .null, .null, .null, .null, .null, .null], oStr true s_63 (.ref b_64) (.int 0), oUE true o_72 (.ref s_1) (.ref s_4) (.null) (.ref q_73), oL12 true q_73 (.ref s_63) (.ref em), oUE true a71 (.ref s_1) (.ref s_4) (.null) (.ref el), oLN false el (.ref ee) (.int 0), (de, false, .inr ((.object "java/lang/Object"), true, false, [])), oStr true s_67 (.ref b_68) (.int 0), oStr true s_65 (.ref b_66) (.int 0), oStr true s_4 (.ref b_5) (.int 0), oStr true s_1 (.ref b_2) (.int 0), (ee, false, .inr ((.object "java/lang/Object"), true, false, [])), oOb false em ]) rfl ?_
        refine Wp.callV nm_M0 (rm_add_1 hw a69 e_70 (.ref s_63) s_63 true (.ref b_64) (.int 0) _ ) 0 rfl (mk_M_add_1 hw) (w_120 hw) (w_121 hw) (w_123 hw) (w_122 hw) (S' := "") (Or.inl rfl) (by decide) rfl rfl rfl (Wn := 0) rfl rfl (by decide) d_law_151 ?_
        rintro _ _ ⟨rfl, rfl⟩
        refine Wp.pop rfl d_law_154 ?_
        refine Wp.aload rfl rfl d_law_155 ?_
        refine Wp.aload rfl rfl d_law_157 ?_
        refine Wp.perm [3, 0, 1, 2] 4 pp_3_0_1_2 (H' := [oUE true o_72 (.ref s_1) (.ref s_4) (.null) (.ref q_73), oAL true a69 (.int 2) (.ref e_70) (.int 2), eO e_70 [.ref s_63, .ref s_63, .null, .null, .null, .null, .null, .null, .null, .null], oStr true s_63 (.ref b_64) (.int 0), oL12 true q_73 (.ref s_63) (.ref em), oUE true a71 (.ref s_1) (.ref s_4) (.null) (.ref el), oLN false el (.ref ee) (.int 0), (de, false, .inr ((.object "java/lang/Object"), true, false, [])), oStr true s_67 (.ref b_68) (.int 0), oStr true s_65 (.ref b_66) (.int 0), oStr true s_4 (.ref b_5) (.int 0), oStr true s_1 (.ref b_2) (.int 0), (ee, false, .inr ((.object "java/lang/Object"), true, false, [])), oOb false em ]) rfl ?_
        refine Wp.callV nm_M0 (rm_g0 hw o_72 (.ref s_1) (.ref s_4) .null q_73 _ rfl rfl rfl) 0 rfl (mk_M_g0 hw) (w_149 hw) (w_150 hw) (w_152 hw) (w_151 hw) (S' := "") (Or.inl rfl) (by decide) rfl rfl rfl (Wn := 1) rfl rfl (by decide) d_law_159 ?_
        rintro _ _ ⟨rfl, rfl⟩
        refine Wp.perm [11, 0, 1, 2, 3, 4, 5, 6, 7, 8, 9, 10] 12 pp_11_0_1_2_3_4_5_6_7_8_9_10 (H' := [oStr true s_1 (.ref b_2) (.int 0), oUE true o_72 (.ref s_1) (.ref s_4) (.null) (.ref q_73), oAL true a69 (.int 2) (.ref e_70) (.int 2), eO e_70 [.ref s_63, .ref s_63, .null, .null, .null, .null, .null, .null, .null, .null], oStr true s_63 (.ref b_64) (.int 0), oL12 true q_73 (.ref s_63) (.ref em), oUE true a71 (.ref s_1) (.ref s_4) (.null) (.ref el), oLN false el (.ref ee) (.int 0), (de, false, .inr ((.object "java/lang/Object"), true, false, [])), oStr true s_67 (.ref b_68) (.int 0), oStr true s_65 (.ref b_66) (.int 0), oStr true s_4 (.ref b_5) (.int 0), (ee, false, .inr ((.object "java/lang/Object"), true, false, [])), oOb false em ]) rfl ?_
        refine Wp.callS nm_M0 (rm_eqS hw s_1 true (.ref b_2) (.int 0) _ ) (mk_M_eqS hw) (w_154 hw) (w_155 hw) rfl rfl (Wn := 0) rfl rfl (by decide) d_law_162 ?_
        rintro _ _ ⟨rfl, rfl⟩
        refine Wp.ifT (by decide) d_law_165 ?_
        refine Wp.aload rfl rfl d_law_170 ?_
        refine Wp.aload rfl rfl d_law_172 ?_
        refine Wp.perm [1, 0] 2 pp_1_0 (H' := [oUE true o_72 (.ref s_1) (.ref s_4) (.null) (.ref q_73), oStr true s_1 (.ref b_2) (.int 0), oAL true a69 (.int 2) (.ref e_70) (.int 2), eO e_70 [.ref s_63, .ref s_63, .null, .null, .null, .null, .null, .null, .null, .null], oStr true s_63 (.ref b_64) (.int 0), oL12 true q_73 (.ref s_63) (.ref em), oUE true a71 (.ref s_1) (.ref s_4) (.null) (.ref el), oLN false el (.ref ee) (.int 0), (de, false, .inr ((.object "java/lang/Object"), true, false, [])), oStr true s_67 (.ref b_68) (.int 0), oStr true s_65 (.ref b_66) (.int 0), oStr true s_4 (.ref b_5) (.int 0), (ee, false, .inr ((.object "java/lang/Object"), true, false, [])), oOb false em ]) rfl ?_
        refine Wp.callV nm_M0 (rm_g1 hw o_72 (.ref s_1) (.ref s_4) .null q_73 _ rfl rfl rfl) 0 rfl (mk_M_g1 hw) (w_162 hw) (w_163 hw) (w_165 hw) (w_164 hw) (S' := "") (Or.inl rfl) (by decide) rfl rfl rfl (Wn := 1) rfl rfl (by decide) d_law_174 ?_
        rintro _ _ ⟨rfl, rfl⟩
        refine Wp.perm [11, 0, 1, 2, 3, 4, 5, 6, 7, 8, 9, 10] 12 pp_11_0_1_2_3_4_5_6_7_8_9_10 (H' := [oStr true s_4 (.ref b_5) (.int 0), oUE true o_72 (.ref s_1) (.ref s_4) (.null) (.ref q_73), oStr true s_1 (.ref b_2) (.int 0), oAL true a69 (.int 2) (.ref e_70) (.int 2), eO e_70 [.ref s_63, .ref s_63, .null, .null, .null, .null, .null, .null, .null, .null], oStr true s_63 (.ref b_64) (.int 0), oL12 true q_73 (.ref s_63) (.ref em), oUE true a71 (.ref s_1) (.ref s_4) (.null) (.ref el), oLN false el (.ref ee) (.int 0), (de, false, .inr ((.object "java/lang/Object"), true, false, [])), oStr true s_67 (.ref b_68) (.int 0), oStr true s_65 (.ref b_66) (.int 0), (ee, false, .inr ((.object "java/lang/Object"), true, false, [])), oOb false em ]) rfl ?_
        refine Wp.callS nm_M0 (rm_eqS hw s_4 true (.ref b_5) (.int 0) _ ) (mk_M_eqS hw) (w_154 hw) (w_155 hw) rfl rfl (Wn := 0) rfl rfl (by decide) d_law_177 ?_
        rintro _ _ ⟨rfl, rfl⟩
        refine Wp.ifT (by decide) d_law_180 ?_
        refine Wp.aload rfl rfl d_law_185 ?_
        refine Wp.aload rfl rfl d_law_187 ?_
        refine Wp.perm [1, 0] 2 pp_1_0 (H' := [oUE true o_72 (.ref s_1) (.ref s_4) (.null) (.ref q_73), oStr true s_4 (.ref b_5) (.int 0), oStr true s_1 (.ref b_2) (.int 0), oAL true a69 (.int 2) (.ref e_70) (.int 2), eO e_70 [.ref s_63, .ref s_63, .null, .null, .null, .null, .null, .null, .null, .null], oStr true s_63 (.ref b_64) (.int 0), oL12 true q_73 (.ref s_63) (.ref em), oUE true a71 (.ref s_1) (.ref s_4) (.null) (.ref el), oLN false el (.ref ee) (.int 0), (de, false, .inr ((.object "java/lang/Object"), true, false, [])), oStr true s_67 (.ref b_68) (.int 0), oStr true s_65 (.ref b_66) (.int 0), (ee, false, .inr ((.object "java/lang/Object"), true, false, [])), oOb false em ]) rfl ?_
        refine Wp.callV nm_M0 (rm_g2 hw o_72 (.ref s_1) (.ref s_4) .null q_73 _ rfl rfl rfl) 0 rfl (mk_M_g2 hw) (w_167 hw) (w_168 hw) (w_170 hw) (w_169 hw) (S' := "") (Or.inl rfl) (by decide) rfl rfl rfl (Wn := 1) rfl rfl (by decide) d_law_189 ?_
        rintro _ _ ⟨rfl, rfl⟩
        refine Wp.callS nm_M0 (rm_eqN hw  _ ) (mk_M_eqN hw) (w_154 hw) (w_155 hw) rfl rfl (Wn := 0) rfl rfl (by decide) d_law_192 ?_
        rintro _ _ ⟨rfl, rfl⟩
        refine Wp.ifT (by decide) d_law_195 ?_
        refine Wp.aload rfl rfl d_law_200 ?_
        refine Wp.callV nm_M0 (rm_gg hw o_72 (.ref s_1) (.ref s_4) .null q_73 _ ) 0 rfl (mk_M_gg hw) (w_172 hw) (w_173 hw) (w_175 hw) (w_174 hw) (S' := "") (Or.inl rfl) (by decide) rfl rfl rfl (Wn := 0) rfl rfl (by decide) d_law_202 ?_
        rintro _ _ ⟨rfl, rfl⟩
        refine Wp.astore (L' := [.val (.int p0), .val (.int p1), .val (.int p2), .val (.int p3), .val (.int p4), .val (.int p5), .val (.ref s_1), .val (.ref s_4), .val (.null), .val (.int 1), .val (.ref s_63), .val (.ref s_65), .val (.ref s_67), .val (.ref a69), .val (.ref a71), .val (.ref o_72), .val (.ref q_73)]) rfl rfl d_law_205 ?_
        refine Wp.aload rfl rfl d_law_207 ?_
        refine Wp.perm [6, 0, 1, 2, 3, 4, 5] 7 pp_6_0_1_2_3_4_5 (H' := [oL12 true q_73 (.ref s_63) (.ref em), oUE true o_72 (.ref s_1) (.ref s_4) (.null) (.ref q_73), oStr true s_4 (.ref b_5) (.int 0), oStr true s_1 (.ref b_2) (.int 0), oAL true a69 (.int 2) (.ref e_70) (.int 2), eO e_70 [.ref s_63, .ref s_63, .null, .null, .null, .null, .null, .null, .null, .null], oStr true s_63 (.ref b_64) (.int 0), oUE true a71 (.ref s_1) (.ref s_4) (.null) (.ref el), oLN false el (.ref ee) (.int 0), (de, false, .inr ((.object "java/lang/Object"), true, false, [])), oStr true s_67 (.ref b_68) (.int 0), oStr true s_65 (.ref b_66) (.int 0), (ee, false, .inr ((.object "java/lang/Object"), true, false, [])), oOb false em ]) rfl ?_
        refine Wp.callI nm_M0 (rm_sz1 hw q_73 s_63 em _ hem) 0 rfl (mk_M_sz1 hw) (w_177 hw) (w_178 hw) (w_179 hw) (w_250 hw) (w_251 hw) (w_252 hw) (w_253 hw) (w_254 hw) (by decide) rfl rfl rfl (Wn := 0) rfl rfl (by decide) d_law_209 ?_
        rintro _ _ ⟨rfl, rfl⟩
        refine Wp.iload rfl d_law_214 ?_
        refine Wp.icT (by decide) d_law_216 ?_
        refine Wp.iload rfl d_law_221 ?_
        refine Wp.iconst lc_1 d_law_223 ?_
        refine Wp.icF (by decide) d_law_224 ?_
        refine Wp.aload rfl rfl d_law_227 ?_
        refine Wp.aload rfl rfl d_law_229 ?_
        refine Wp.iconst lc_0 d_law_231 ?_
        refine Wp.callI nm_M0 (rm_gt0 hw q_73 s_63 em _ ) 0 rfl (mk_M_gt0 hw) (w_257 hw) (w_258 hw) (w_259 hw) (w_260 hw) (w_261 hw) (w_262 hw) (w_263 hw) (w_254 hw) (by decide) rfl rfl rfl (Wn := 1) rfl rfl (by decide) d_law_232 ?_
        rintro _ _ ⟨rfl, rfl⟩
        refine Wp.perm [6, 0, 1, 2, 3, 4, 5] 7 pp_6_0_1_2_3_4_5 (H' := [oStr true s_63 (.ref b_64) (.int 0), oL12 true q_73 (.ref s_63) (.ref em), oUE true o_72 (.ref s_1) (.ref s_4) (.null) (.ref q_73), oStr true s_4 (.ref b_5) (.int 0), oStr true s_1 (.ref b_2) (.int 0), oAL true a69 (.int 2) (.ref e_70) (.int 2), eO e_70 [.ref s_63, .ref s_63, .null, .null, .null, .null, .null, .null, .null, .null], oUE true a71 (.ref s_1) (.ref s_4) (.null) (.ref el), oLN false el (.ref ee) (.int 0), (de, false, .inr ((.object "java/lang/Object"), true, false, [])), oStr true s_67 (.ref b_68) (.int 0), oStr true s_65 (.ref b_66) (.int 0), (ee, false, .inr ((.object "java/lang/Object"), true, false, [])), oOb false em ]) rfl ?_
        refine Wp.callV nm_M0 (rm_seS hw s_63 true (.ref b_64) (.int 0) _ ) 0 rfl (mk_M_seS hw) (w_157 hw) (w_158 hw) (w_160 hw) (w_159 hw) (S' := "") (Or.inl rfl) (by decide) rfl rfl rfl (Wn := 0) rfl rfl (by decide) d_law_237 ?_
        rintro _ _ ⟨rfl, rfl⟩
        refine Wp.ifT (by decide) d_law_240 ?_
        refine Wp.iload rfl d_law_245 ?_
        refine Wp.iconst lc_2 d_law_247 ?_
        refine Wp.icT (by decide) d_law_248 ?_
        refine Wp.iload rfl d_law_269 ?_
        refine Wp.iconst lc_3 d_law_271 ?_
        refine Wp.icT (by decide) d_law_272 ?_
        refine Wp.aload rfl rfl d_law_293 ?_
        refine Wp.perm [7, 0, 1, 2, 3, 4, 5, 6] 8 pp_7_0_1_2_3_4_5_6 (H' := [oUE true a71 (.ref s_1) (.ref s_4) (.null) (.ref el), oStr true s_63 (.ref b_64) (.int 0), oL12 true q_73 (.ref s_63) (.ref em), oUE true o_72 (.ref s_1) (.ref s_4) (.null) (.ref q_73), oStr true s_4 (.ref b_5) (.int 0), oStr true s_1 (.ref b_2) (.int 0), oAL true a69 (.int 2) (.ref e_70) (.int 2), eO e_70 [.ref s_63, .ref s_63, .null, .null, .null, .null, .null, .null, .null, .null], oLN false el (.ref ee) (.int 0), (de, false, .inr ((.object "java/lang/Object"), true, false, [])), oStr true s_67 (.ref b_68) (.int 0), oStr true s_65 (.ref b_66) (.int 0), (ee, false, .inr ((.object "java/lang/Object"), true, false, [])), oOb false em ]) rfl ?_
        refine Wp.callV nm_M0 (rm_gg hw a71 (.ref s_1) (.ref s_4) .null el _ ) 0 rfl (mk_M_gg hw) (w_172 hw) (w_173 hw) (w_175 hw) (w_174 hw) (S' := "") (Or.inl rfl) (by decide) rfl rfl rfl (Wn := 0) rfl rfl (by decide) d_law_295 ?_
        rintro _ _ ⟨rfl, rfl⟩
        refine Wp.perm [8, 12, 0, 1, 2, 3, 4, 5, 6, 7, 9, 10, 11] 13 pp_8_12_0_1_2_3_4_5_6_7_9_10_11 (H' := [oLN false el (.ref ee) (.int 0), (ee, false, .inr ((.object "java/lang/Object"), true, false, [])), oUE true a71 (.ref s_1) (.ref s_4) (.null) (.ref el), oStr true s_63 (.ref b_64) (.int 0), oL12 true q_73 (.ref s_63) (.ref em), oUE true o_72 (.ref s_1) (.ref s_4) (.null) (.ref q_73), oStr true s_4 (.ref b_5) (.int 0), oStr true s_1 (.ref b_2) (.int 0), oAL true a69 (.int 2) (.ref e_70) (.int 2), eO e_70 [.ref s_63, .ref s_63, .null, .null, .null, .null, .null, .null, .null, .null], (de, false, .inr ((.object "java/lang/Object"), true, false, [])), oStr true s_67 (.ref b_68) (.int 0), oStr true s_65 (.ref b_66) (.int 0), oOb false em ]) rfl ?_
        refine Wp.callI nm_M0 (rm_szE hw el ee _ ) 0 rfl (mk_M_szE hw) (w_177 hw) (w_178 hw) (w_179 hw) (w_180 hw) (w_181 hw) (w_182 hw) (w_183 hw) (w_97 hw) (by decide) rfl rfl rfl (Wn := 0) rfl rfl (by decide) d_law_298 ?_
        rintro _ _ ⟨rfl, rfl⟩
        refine Wp.ifF (by decide) d_law_303 ?_
        refine Wp.iconst lc_1 d_law_306 ?_
        refine Wp.goto d_law_307 ?_
        refine Wp.iretN (z := 1) (by simp) rfl (by decide) d_law_311 (by decide) (by decide) ?_
        exact rfl
      · rw [hn]
        refine Wp.istore (L' := [.val (.int p0), .val (.int p1), .val (.int p2), .val (.int p3), .val (.int p4), .val (.int p5), .val (.ref s_1), .val (.ref s_4), .val (.null), .val (.int 2), .unset, .unset, .unset, .unset, .unset, .unset, .unset]) rfl d_law_50 ?_
        refine Wp.iloadN rfl d_law_52 ?_
        refine Wp.callS nm_M0 (rm_str hw p3 _ ) (mk_M_str hw) (w_0 hw) (w_1 hw) rfl rfl (Wn := 0) rfl rfl (by decide) d_law_53 ?_
        rintro _ _ ⟨s_74, b_75, rfl, rfl⟩
        refine Wp.astore (L' := [.val (.int p0), .val (.int p1), .val (.int p2), .val (.int p3), .val (.int p4), .val (.int p5), .val (.ref s_1), .val (.ref s_4), .val (.null), .val (.int 2), .val (.ref s_74), .unset, .unset, .unset, .unset, .unset, .unset]) rfl rfl d_law_56 ?_
        refine Wp.iload rfl d_law_58 ?_
        refine Wp.callS nm_M0 (rm_str hw p4 _ ) (mk_M_str hw) (w_0 hw) (w_1 hw) rfl rfl (Wn := 0) rfl rfl (by decide) d_law_60 ?_
        rintro _ _ ⟨s_76, b_77, rfl, rfl⟩
        refine Wp.astore (L' := [.val (.int p0), .val (.int p1), .val (.int p2), .val (.int p3), .val (.int p4), .val (.int p5), .val (.ref s_1), .val (.ref s_4), .val (.null), .val (.int 2), .val (.ref s_74), .val (.ref s_76), .unset, .unset, .unset, .unset, .unset]) rfl rfl d_law_63 ?_
        refine Wp.iload rfl d_law_65 ?_
        refine Wp.callS nm_M0 (rm_str hw p5 _ ) (mk_M_str hw) (w_0 hw) (w_1 hw) rfl rfl (Wn := 0) rfl rfl (by decide) d_law_67 ?_
        rintro _ _ ⟨s_78, b_79, rfl, rfl⟩
        refine Wp.astore (L' := [.val (.int p0), .val (.int p1), .val (.int p2), .val (.int p3), .val (.int p4), .val (.int p5), .val (.ref s_1), .val (.ref s_4), .val (.null), .val (.int 2), .val (.ref s_74), .val (.ref s_76), .val (.ref s_78), .unset, .unset, .unset, .unset]) rfl rfl d_law_70 ?_
        refine Wp.newO nm_M0 (w_34 hw) (w_35 hw) (w_36 hw) (nf_oAL hw) (by decide) (by decide) d_law_72 (fun a80 => ?_)
        refine Wp.dup rfl d_law_75 ?_
        refine Wp.callC nm_M0 (rm_ali hw a80 de _ hde) (mk_M_ali hw) (w_37 hw) (w_38 hw) rfl rfl rfl rfl (Wn := 1) rfl rfl (by decide) d_law_76 ?_
        rintro _ _ ⟨rfl, rfl⟩
        refine Wp.astore (L' := [.val (.int p0), .val (.int p1), .val (.int p2), .val (.int p3), .val (.int p4), .val (.int p5), .val (.ref s_1), .val (.ref s_4), .val (.null), .val (.int 2), .val (.ref s_74), .val (.ref s_76), .val (.ref s_78), .val (.ref a80), .unset, .unset, .unset]) rfl rfl d_law_79 ?_
        refine Wp.iload rfl d_law_81 ?_
        refine Wp.iconst lc_1 d_law_83 ?_
        refine Wp.icF (by decide) d_law_84 ?_
        refine Wp.aload rfl rfl d_law_87 ?_
        refine Wp.aload rfl rfl d_law_89 ?_
        refine Wp.perm [0, 9, 3, 1, 2, 4, 5, 6, 7, 8] 10 pp_0_9_3_1_2_4_5_6_7_8 (H' := [oAL true a80 (.int 0) (.ref de) (.int 0), (de, false, .inr ((.object "java/lang/Object"), true, false, [])), oStr true s_74 (.ref b_75) (.int 0), oStr true s_78 (.ref b_79) (.int 0), oStr true s_76 (.ref b_77) (.int 0), oStr true s_4 (.ref b_5) (.int 0), oStr true s_1 (.ref b_2) (.int 0), oLN false el (.ref ee) (.int 0), (ee, false, .inr ((.object "java/lang/Object"), true, false, [])), oOb false em ]) rfl ?_
        refine Wp.callV nm_M0 (rm_add_0 hw a80 de s_74 true (.ref b_75) (.int 0) _ hde) 0 rfl (mk_M_add_0 hw) (w_120 hw) (w_121 hw) (w_123 hw) (w_122 hw) (S' := "") (Or.inl rfl) (by decide) rfl rfl rfl (Wn := 0) rfl rfl (by decide) d_law_91 ?_
        rintro _ _ ⟨e_81, rfl, rfl⟩
        refine Wp.pop rfl d_law_94 ?_
        refine Wp.iload rfl d_law_95 ?_
        refine Wp.iconst lc_2 d_law_97 ?_
        refine Wp.icF (by decide) d_law_98 ?_
        refine Wp.aload rfl rfl d_law_101 ?_
        refine Wp.aload rfl rfl d_law_103 ?_
        refine Wp.perm [0, 1, 5, 2, 3, 4] 6 pp_0_1_5_2_3_4 (H' := [oAL true a80 (.int 1) (.ref e_81) (.int 1), eO e_81 [.ref s_74, .null, .null, .null, .null, .null, .null, .null, .null, .null], oStr true s_76 (.ref b_77) (.int 0), (de, false, .inr ((.object "java/lang/Object"), true, false, [])), oStr true s_74 (.ref b_75) (.int 0), oStr true s_78 (.ref b_79) (.int 0), oStr true s_4 (.ref b_5) (.int 0), oStr true s_1 (.ref b_2) (.int 0), oLN false el (.ref ee) (.int 0), (ee, false, .inr ((.object "java/lang/Object"), true, false, [])), oOb false em ]) rfl ?_
        refine Wp.callV nm_M0 (rm_add_1 hw a80 e_81 (.ref s_74) s_76 true (.ref b_77) (.int 0) _ ) 0 rfl (mk_M_add_1 hw) (w_120 hw) (w_121 hw) (w_123 hw) (w_122 hw) (S' := "") (Or.inl rfl) (by decide) rfl rfl rfl (Wn := 0) rfl rfl (by decide) d_law_105 ?_
        rintro _ _ ⟨rfl, rfl⟩
        refine Wp.pop rfl d_law_108 ?_
        refine Wp.iload rfl d_law_109 ?_
        refine Wp.iconst lc_3 d_law_111 ?_
        refine Wp.icT (by decide) d_law_112 ?_
        refine Wp.newO nm_M0 (w_58 hw) (w_59 hw) (w_60 hw) (nf_oUE hw) (by decide) (by decide) d_law_123 (fun a82 => ?_)
        refine Wp.dup rfl d_law_126 ?_
        refine Wp.aload rfl rfl d_law_127 ?_
        refine Wp.aload rfl rfl d_law_129 ?_
        refine Wp.aload rfl rfl d_law_131 ?_
        refine Wp.perm [0, 9, 1, 2, 3, 4, 5, 6, 7, 8] 10 pp_0_9_1_2_3_4_5_6_7_8 (H' := [oUE true a82 (.null) (.null) (.null) (.null), oLN false el (.ref ee) (.int 0), oAL true a80 (.int 2) (.ref e_81) (.int 2), eO e_81 [.ref s_74, .ref s_76, .null, .null, .null, .null, .null, .null, .null, .null], oStr true s_76 (.ref b_77) (.int 0), (de, false, .inr ((.object "java/lang/Object"), true, false, [])), oStr true s_74 (.ref b_75) (.int 0), oStr true s_78 (.ref b_79) (.int 0), oStr true s_4 (.ref b_5) (.int 0), oStr true s_1 (.ref b_2) (.int 0), (ee, false, .inr ((.object "java/lang/Object"), true, false, [])), oOb false em ]) rfl ?_
        refine Wp.callC nm_M0 (rm_ue3a hw a82 (.ref s_1) (.ref s_4) .null el ee _ rfl rfl rfl hel) (mk_M_ue3a hw) (w_61 hw) (w_62 hw) rfl rfl rfl rfl (Wn := 1) rfl rfl (by decide) d_law_133 ?_
        rintro _ _ ⟨rfl, rfl⟩
        refine Wp.astore (L' := [.val (.int p0), .val (.int p1), .val (.int p2), .val (.int p3), .val (.int p4), .val (.int p5), .val (.ref s_1), .val (.ref s_4), .val (.null), .val (.int 2), .val (.ref s_74), .val (.ref s_76), .val (.ref s_78), .val (.ref a80), .val (.ref a82), .unset, .unset]) rfl rfl d_law_136 ?_
        refine Wp.aload rfl rfl d_law_138 ?_
        refine Wp.aload rfl rfl d_law_140 ?_
        refine Wp.perm [0, 2, 3, 6, 4, 1, 5] 7 pp_0_2_3_6_4_1_5 (H' := [oUE true a82 (.ref s_1) (.ref s_4) (.null) (.ref el), oAL true a80 (.int 2) (.ref e_81) (.int 2), eO e_81 [.ref s_74, .ref s_76, .null, .null, .null, .null, .null, .null, .null, .null], oStr true s_74 (.ref b_75) (.int 0), oStr true s_76 (.ref b_77) (.int 0), oLN false el (.ref ee) (.int 0), (de, false, .inr ((.object "java/lang/Object"), true, false, [])), oStr true s_78 (.ref b_79) (.int 0), oStr true s_4 (.ref b_5) (.int 0), oStr true s_1 (.ref b_2) (.int 0), (ee, false, .inr ((.object "java/lang/Object"), true, false, [])), oOb false em ]) rfl ?_
        refine Wp.callV nm_M0 (rm_wg2 hw a82 (.ref s_1) (.ref s_4) .null a80 e_81 s_74 true (.ref b_75) (.int 0) s_76 true (.ref b_77) (.int 0) el em mr _ rfl rfl rfl hel hem hmr) 0 rfl (mk_M_wg2 hw) (w_100 hw) (w_101 hw) (w_103 hw) (w_102 hw) (S' := "") (Or.inl rfl) (by decide) rfl rfl rfl (Wn := 0) rfl rfl (by decide) d_law_142 ?_
        rintro _ _ ⟨o_83, q_84, rfl, rfl⟩
        refine Wp.astore (L' := [.val (.int p0), .val (.int p1), .val (.int p2), .val (.int p3), .val (.int p4), .val (.int p5), .val (.ref s_1), .val (.ref s_4), .val (.null), .val (.int 2), .val (.ref s_74), .val (.ref s_76), .val (.ref s_78), .val (.ref a80), .val (.ref a82), .val (.ref o_83), .unset]) rfl rfl d_law_145 ?_
        refine Wp.aload rfl rfl d_law_147 ?_
        refine Wp.aload rfl rfl d_law_149 ?_
        refine Wp.perm [3, 4, 5, 0, 1, 2] 6 pp_3_4_5_0_1_2 (H' := [oAL true a80 (.int 2) (.ref e_81) (.int 2), eO e_81 [.ref s_74, .ref s_76, .null, .null, .null, .null, .null, .null, .null, .null], oStr true s_74 (.ref b_75) (.int 0), oUE true o_83 (.ref s_1) (.ref s_4) (.null) (.ref q_84), oL12 true q_84 (.ref s_74) (.ref s_76), oUE true a82 (.ref s_1) (.ref s_4) (.null) (.ref el), oStr true s_76 (.ref b_77) (.int 0), oLN false el (.ref ee) (.int 0), (de, false, .inr ((.object "java/lang/Object"), true, false, [])), oStr true s_78 (.ref b_79) (.int 0), oStr true s_4 (.ref b_5) (.int 0), oStr true s_1 (.ref b_2) (.int 0), (ee, false, .inr ((.object "java/lang/Object"), true, false, [])), oOb false em ]) rfl ?_
        refine Wp.callV nm_M0 (rm_add_2 hw a80 e_81 (.ref s_74) (.ref s_76) s_74 true (.ref b_75) (.int 0) _ ) 0 rfl (mk_M_add_2 hw) (w_120 hw) (w_121 hw) (w_123 hw) (w_122 hw) (S' := "") (Or.inl rfl) (by decide) rfl rfl rfl (Wn := 0) rfl rfl (by decide) d_law_151 ?_
        rintro _ _ ⟨rfl, rfl⟩
        refine Wp.pop rfl d_law_154 ?_
        refine Wp.aload rfl rfl d_law_155 ?_
        refine Wp.aload rfl rfl d_law_157 ?_
        refine Wp.perm [3, 0, 1, 2] 4 pp_3_0_1_2 (H' := [oUE true o_83 (.ref s_1) (.ref s_4) (.null) (.ref q_84), oAL true a80 (.int 3) (.ref e_81) (.int 3), eO e_81 [.ref s_74, .ref s_76, .ref s_74, .null, .null, .null, .null, .null, .null, .null], oStr true s_74 (.ref b_75) (.int 0), oL12 true q_84 (.ref s_74) (.ref s_76), oUE true a82 (.ref s_1) (.ref s_4) (.null) (.ref el), oStr true s_76 (.ref b_77) (.int 0), oLN false el (.ref ee) (.int 0), (de, false, .inr ((.object "java/lang/Object"), true, false, [])), oStr true s_78 (.ref b_79) (.int 0), oStr true s_4 (.ref b_5) (.int 0), oStr true s_1 (.ref b_2) (.int 0), (ee, false, .inr ((.object "java/lang/Object"), true, false, [])), oOb false em ]) rfl ?_
        refine Wp.callV nm_M0 (rm_g0 hw o_83 (.ref s_1) (.ref s_4) .null q_84 _ rfl rfl rfl) 0 rfl (mk_M_g0 hw) (w_149 hw) (w_150 hw) (w_152 hw) (w_151 hw) (S' := "") (Or.inl rfl) (by decide) rfl rfl rfl (Wn := 1) rfl rfl (by decide) d_law_159 ?_
        rintro _ _ ⟨rfl, rfl⟩
        refine Wp.perm [11, 0, 1, 2, 3, 4, 5, 6, 7, 8, 9, 10] 12 pp_11_0_1_2_3_4_5_6_7_8_9_10 (H' := [oStr true s_1 (.ref b_2) (.int 0), oUE true o_83 (.ref s_1) (.ref s_4) (.null) (.ref q_84), oAL true a80 (.int 3) (.ref e_81) (.int 3), eO e_81 [.ref s_74, .ref s_76, .ref s_74, .null, .null, .null, .null, .null, .null, .null], oStr true s_74 (.ref b_75) (.int 0), oL12 true q_84 (.ref s_74) (.ref s_76), oUE true a82 (.ref s_1) (.ref s_4) (.null) (.ref el), oStr true s_76 (.ref b_77) (.int 0), oLN false el (.ref ee) (.int 0), (de, false, .inr ((.object "java/lang/Object"), true, false, [])), oStr true s_78 (.ref b_79) (.int 0), oStr true s_4 (.ref b_5) (.int 0), (ee, false, .inr ((.object "java/lang/Object"), true, false, [])), oOb false em ]) rfl ?_
        refine Wp.callS nm_M0 (rm_eqS hw s_1 true (.ref b_2) (.int 0) _ ) (mk_M_eqS hw) (w_154 hw) (w_155 hw) rfl rfl (Wn := 0) rfl rfl (by decide) d_law_162 ?_
        rintro _ _ ⟨rfl, rfl⟩
        refine Wp.ifT (by decide) d_law_165 ?_
        refine Wp.aload rfl rfl d_law_170 ?_
        refine Wp.aload rfl rfl d_law_172 ?_
        refine Wp.perm [1, 0] 2 pp_1_0 (H' := [oUE true o_83 (.ref s_1) (.ref s_4) (.null) (.ref q_84), oStr true s_1 (.ref b_2) (.int 0), oAL true a80 (.int 3) (.ref e_81) (.int 3), eO e_81 [.ref s_74, .ref s_76, .ref s_74, .null, .null, .null, .null, .null, .null, .null], oStr true s_74 (.ref b_75) (.int 0), oL12 true q_84 (.ref s_74) (.ref s_76), oUE true a82 (.ref s_1) (.ref s_4) (.null) (.ref el), oStr true s_76 (.ref b_77) (.int 0), oLN false el (.ref ee) (.int 0), (de, false, .inr ((.object "java/lang/Object"), true, false, [])), oStr true s_78 (.ref b_79) (.int 0), oStr true s_4 (.ref b_5) (.int 0), (ee, false, .inr ((.object "java/lang/Object"), true, false, [])), oOb false em ]) rfl ?_
        refine Wp.callV nm_M0 (rm_g1 hw o_83 (.ref s_1) (.ref s_4) .null q_84 _ rfl rfl rfl) 0 rfl (mk_M_g1 hw) (w_162 hw) (w_163 hw) (w_165 hw) (w_164 hw) (S' := "") (Or.inl rfl) (by decide) rfl rfl rfl (Wn := 1) rfl rfl (by decide) d_law_174 ?_
        rintro _ _ ⟨rfl, rfl⟩
        refine Wp.perm [11, 0, 1, 2, 3, 4, 5, 6, 7, 8, 9, 10] 12 pp_11_0_1_2_3_4_5_6_7_8_9_10 (H' := [oStr true s_4 (.ref b_5) (.int 0), oUE true o_83 (.ref s_1) (.ref s_4) (.null) (.ref q_84), oStr true s_1 (.ref b_2) (.int 0), oAL true a80 (.int 3) (.ref e_81) (.int 3), eO e_81 [.ref s_74, .ref s_76, .ref s_74, .null, .null, .null, .null, .null, .null, .null], oStr true s_74 (.ref b_75) (.int 0), oL12 true q_84 (.ref s_74) (.ref s_76), oUE true a82 (.ref s_1) (.ref s_4) (.null) (.ref el), oStr true s_76 (.ref b_77) (.int 0), oLN false el (.ref ee) (.int 0), (de, false, .inr ((.object "java/lang/Object"), true, false, [])), oStr true s_78 (.ref b_79) (.int 0), (ee, false, .inr ((.object "java/lang/Object"), true, false, [])), oOb false em ]) rfl ?_
        refine Wp.callS nm_M0 (rm_eqS hw s_4 true (.ref b_5) (.int 0) _ ) (mk_M_eqS hw) (w_154 hw) (w_155 hw) rfl rfl (Wn := 0) rfl rfl (by decide) d_law_177 ?_
        rintro _ _ ⟨rfl, rfl⟩
        refine Wp.ifT (by decide) d_law_180 ?_
        refine Wp.aload rfl rfl d_law_185 ?_
        refine Wp.aload rfl rfl d_law_187 ?_
        refine Wp.perm [1, 0] 2 pp_1_0 (H' := [oUE true o_83 (.ref s_1) (.ref s_4) (.null) (.ref q_84), oStr true s_4 (.ref b_5) (.int 0), oStr true s_1 (.ref b_2) (.int 0), oAL true a80 (.int 3) (.ref e_81) (.int 3), eO e_81 [.ref s_74, .ref s_76, .ref s_74, .null, .null, .null, .null, .null, .null, .null], oStr true s_74 (.ref b_75) (.int 0), oL12 true q_84 (.ref s_74) (.ref s_76), oUE true a82 (.ref s_1) (.ref s_4) (.null) (.ref el), oStr true s_76 (.ref b_77) (.int 0), oLN false el (.ref ee) (.int 0), (de, false, .inr ((.object "java/lang/Object"), true, false, [])), oStr true s_78 (.ref b_79) (.int 0), (ee, false, .inr ((.object "java/lang/Object"), true, false, [])), oOb false em ]) rfl ?_
        refine Wp.callV nm_M0 (rm_g2 hw o_83 (.ref s_1) (.ref s_4) .null q_84 _ rfl rfl rfl) 0 rfl (mk_M_g2 hw) (w_167 hw) (w_168 hw) (w_170 hw) (w_169 hw) (S' := "") (Or.inl rfl) (by decide) rfl rfl rfl (Wn := 1) rfl rfl (by decide) d_law_189 ?_
        rintro _ _ ⟨rfl, rfl⟩
        refine Wp.callS nm_M0 (rm_eqN hw  _ ) (mk_M_eqN hw) (w_154 hw) (w_155 hw) rfl rfl (Wn := 0) rfl rfl (by decide) d_law_192 ?_
        rintro _ _ ⟨rfl, rfl⟩
        refine Wp.ifT (by decide) d_law_195 ?_
        refine Wp.aload rfl rfl d_law_200 ?_
        refine Wp.callV nm_M0 (rm_gg hw o_83 (.ref s_1) (.ref s_4) .null q_84 _ ) 0 rfl (mk_M_gg hw) (w_172 hw) (w_173 hw) (w_175 hw) (w_174 hw) (S' := "") (Or.inl rfl) (by decide) rfl rfl rfl (Wn := 0) rfl rfl (by decide) d_law_202 ?_
        rintro _ _ ⟨rfl, rfl⟩
        refine Wp.astore (L' := [.val (.int p0), .val (.int p1), .val (.int p2), .val (.int p3), .val (.int p4), .val (.int p5), .val (.ref s_1), .val (.ref s_4), .val (.null), .val (.int 2), .val (.ref s_74), .val (.ref s_76), .val (.ref s_78), .val (.ref a80), .val (.ref a82), .val (.ref o_83), .val (.ref q_84)]) rfl rfl d_law_205 ?_
        refine Wp.aload rfl rfl d_law_207 ?_
        refine Wp.perm [6, 8, 13, 0, 1, 2, 3, 4, 5, 7, 9, 10, 11, 12] 14 pp_6_8_13_0_1_2_3_4_5_7_9_10_11_12 (H' := [oL12 true q_84 (.ref s_74) (.ref s_76), oStr true s_76 (.ref b_77) (.int 0), oOb false em , oUE true o_83 (.ref s_1) (.ref s_4) (.null) (.ref q_84), oStr true s_4 (.ref b_5) (.int 0), oStr true s_1 (.ref b_2) (.int 0), oAL true a80 (.int 3) (.ref e_81) (.int 3), eO e_81 [.ref s_74, .ref s_76, .ref s_74, .null, .null, .null, .null, .null, .null, .null], oStr true s_74 (.ref b_75) (.int 0), oUE true a82 (.ref s_1) (.ref s_4) (.null) (.ref el), oLN false el (.ref ee) (.int 0), (de, false, .inr ((.object "java/lang/Object"), true, false, [])), oStr true s_78 (.ref b_79) (.int 0), (ee, false, .inr ((.object "java/lang/Object"), true, false, []))]) rfl ?_
        refine Wp.callI nm_M0 (rm_sz2 hw q_84 s_74 s_76 (.ref b_77) (.int 0) em _ hem) 0 rfl (mk_M_sz2 hw) (w_177 hw) (w_178 hw) (w_179 hw) (w_250 hw) (w_251 hw) (w_252 hw) (w_253 hw) (w_254 hw) (by decide) rfl rfl rfl (Wn := 0) rfl rfl (by decide) d_law_209 ?_
        rintro _ _ ⟨rfl, rfl⟩
        refine Wp.iload rfl d_law_214 ?_
        refine Wp.icT (by decide) d_law_216 ?_
        refine Wp.iload rfl d_law_221 ?_
        refine Wp.iconst lc_1 d_law_223 ?_
        refine Wp.icF (by decide) d_law_224 ?_
        refine Wp.aload rfl rfl d_law_227 ?_
        refine Wp.aload rfl rfl d_law_229 ?_
        refine Wp.iconst lc_0 d_law_231 ?_
        refine Wp.callI nm_M0 (rm_gt0 hw q_84 s_74 s_76 _ ) 0 rfl (mk_M_gt0 hw) (w_257 hw) (w_258 hw) (w_259 hw) (w_260 hw) (w_261 hw) (w_262 hw) (w_263 hw) (w_254 hw) (by decide) rfl rfl rfl (Wn := 1) rfl rfl (by decide) d_law_232 ?_
        rintro _ _ ⟨rfl, rfl⟩
        refine Wp.perm [8, 0, 1, 2, 3, 4, 5, 6, 7] 9 pp_8_0_1_2_3_4_5_6_7 (H' := [oStr true s_74 (.ref b_75) (.int 0), oL12 true q_84 (.ref s_74) (.ref s_76), oStr true s_76 (.ref b_77) (.int 0), oOb false em , oUE true o_83 (.ref s_1) (.ref s_4) (.null) (.ref q_84), oStr true s_4 (.ref b_5) (.int 0), oStr true s_1 (.ref b_2) (.int 0), oAL true a80 (.int 3) (.ref e_81) (.int 3), eO e_81 [.ref s_74, .ref s_76, .ref s_74, .null, .null, .null, .null, .null, .null, .null], oUE true a82 (.ref s_1) (.ref s_4) (.null) (.ref el), oLN false el (.ref ee) (.int 0), (de, false, .inr ((.object "java/lang/Object"), true, false, [])), oStr true s_78 (.ref b_79) (.int 0), (ee, false, .inr ((.object "java/lang/Object"), true, false, []))]) rfl ?_
        refine Wp.callV nm_M0 (rm_seS hw s_74 true (.ref b_75) (.int 0) _ ) 0 rfl (mk_M_seS hw) (w_157 hw) (w_158 hw) (w_160 hw) (w_159 hw) (S' := "") (Or.inl rfl) (by decide) rfl rfl rfl (Wn := 0) rfl rfl (by decide) d_law_237 ?_
        rintro _ _ ⟨rfl, rfl⟩
        refine Wp.ifT (by decide) d_law_240 ?_
        refine Wp.iload rfl d_law_245 ?_
        refine Wp.iconst lc_2 d_law_247 ?_
        refine Wp.icF (by decide) d_law_248 ?_
        refine Wp.aload rfl rfl d_law_251 ?_
        refine Wp.aload rfl rfl d_law_253 ?_
        refine Wp.iconst lc_1 d_law_255 ?_
        refine Wp.perm [1, 2, 3, 0] 4 pp_1_2_3_0 (H' := [oL12 true q_84 (.ref s_74) (.ref s_76), oStr true s_76 (.ref b_77) (.int 0), oOb false em , oStr true s_74 (.ref b_75) (.int 0), oUE true o_83 (.ref s_1) (.ref s_4) (.null) (.ref q_84), oStr true s_4 (.ref b_5) (.int 0), oStr true s_1 (.ref b_2) (.int 0), oAL true a80 (.int 3) (.ref e_81) (.int 3), eO e_81 [.ref s_74, .ref s_76, .ref s_74, .null, .null, .null, .null, .null, .null, .null], oUE true a82 (.ref s_1) (.ref s_4) (.null) (.ref el), oLN false el (.ref ee) (.int 0), (de, false, .inr ((.object "java/lang/Object"), true, false, [])), oStr true s_78 (.ref b_79) (.int 0), (ee, false, .inr ((.object "java/lang/Object"), true, false, []))]) rfl ?_
        refine Wp.callI nm_M0 (rm_gt1 hw q_84 s_74 s_76 (.ref b_77) (.int 0) em _ hem) 0 rfl (mk_M_gt1 hw) (w_257 hw) (w_258 hw) (w_259 hw) (w_260 hw) (w_261 hw) (w_262 hw) (w_263 hw) (w_254 hw) (by decide) rfl rfl rfl (Wn := 1) rfl rfl (by decide) d_law_256 ?_
        rintro _ _ ⟨rfl, rfl⟩
        refine Wp.perm [1, 0] 2 pp_1_0 (H' := [oStr true s_76 (.ref b_77) (.int 0), oL12 true q_84 (.ref s_74) (.ref s_76), oOb false em , oStr true s_74 (.ref b_75) (.int 0), oUE true o_83 (.ref s_1) (.ref s_4) (.null) (.ref q_84), oStr true s_4 (.ref b_5) (.int 0), oStr true s_1 (.ref b_2) (.int 0), oAL true a80 (.int 3) (.ref e_81) (.int 3), eO e_81 [.ref s_74, .ref s_76, .ref s_74, .null, .null, .null, .null, .null, .null, .null], oUE true a82 (.ref s_1) (.ref s_4) (.null) (.ref el), oLN false el (.ref ee) (.int 0), (de, false, .inr ((.object "java/lang/Object"), true, false, [])), oStr true s_78 (.ref b_79) (.int 0), (ee, false, .inr ((.object "java/lang/Object"), true, false, []))]) rfl ?_
        refine Wp.callV nm_M0 (rm_seS hw s_76 true (.ref b_77) (.int 0) _ ) 0 rfl (mk_M_seS hw) (w_157 hw) (w_158 hw) (w_160 hw) (w_159 hw) (S' := "") (Or.inl rfl) (by decide) rfl rfl rfl (Wn := 0) rfl rfl (by decide) d_law_261 ?_
        rintro _ _ ⟨rfl, rfl⟩
        refine Wp.ifT (by decide) d_law_264 ?_
        refine Wp.iload rfl d_law_269 ?_
        refine Wp.iconst lc_3 d_law_271 ?_
        refine Wp.icT (by decide) d_law_272 ?_
        refine Wp.aload rfl rfl d_law_293 ?_
        refine Wp.perm [9, 0, 1, 2, 3, 4, 5, 6, 7, 8] 10 pp_9_0_1_2_3_4_5_6_7_8 (H' := [oUE true a82 (.ref s_1) (.ref s_4) (.null) (.ref el), oStr true s_76 (.ref b_77) (.int 0), oL12 true q_84 (.ref s_74) (.ref s_76), oOb false em , oStr true s_74 (.ref b_75) (.int 0), oUE true o_83 (.ref s_1) (.ref s_4) (.null) (.ref q_84), oStr true s_4 (.ref b_5) (.int 0), oStr true s_1 (.ref b_2) (.int 0), oAL true a80 (.int 3) (.ref e_81) (.int 3), eO e_81 [.ref s_74, .ref s_76, .ref s_74, .null, .null, .null, .null, .null, .null, .null], oLN false el (.ref ee) (.int 0), (de, false, .inr ((.object "java/lang/Object"), true, false, [])), oStr true s_78 (.ref b_79) (.int 0), (ee, false, .inr ((.object "java/lang/Object"), true, false, []))]) rfl ?_
        refine Wp.callV nm_M0 (rm_gg hw a82 (.ref s_1) (.ref s_4) .null el _ ) 0 rfl (mk_M_gg hw) (w_172 hw) (w_173 hw) (w_175 hw) (w_174 hw) (S' := "") (Or.inl rfl) (by decide) rfl rfl rfl (Wn := 0) rfl rfl (by decide) d_law_295 ?_
        rintro _ _ ⟨rfl, rfl⟩
        refine Wp.perm [10, 13, 0, 1, 2, 3, 4, 5, 6, 7, 8, 9, 11, 12] 14 pp_10_13_0_1_2_3_4_5_6_7_8_9_11_12 (H' := [oLN false el (.ref ee) (.int 0), (ee, false, .inr ((.object "java/lang/Object"), true, false, [])), oUE true a82 (.ref s_1) (.ref s_4) (.null) (.ref el), oStr true s_76 (.ref b_77) (.int 0), oL12 true q_84 (.ref s_74) (.ref s_76), oOb false em , oStr true s_74 (.ref b_75) (.int 0), oUE true o_83 (.ref s_1) (.ref s_4) (.null) (.ref q_84), oStr true s_4 (.ref b_5) (.int 0), oStr true s_1 (.ref b_2) (.int 0), oAL true a80 (.int 3) (.ref e_81) (.int 3), eO e_81 [.ref s_74, .ref s_76, .ref s_74, .null, .null, .null, .null, .null, .null, .null], (de, false, .inr ((.object "java/lang/Object"), true, false, [])), oStr true s_78 (.ref b_79) (.int 0)]) rfl ?_
        refine Wp.callI nm_M0 (rm_szE hw el ee _ ) 0 rfl (mk_M_szE hw) (w_177 hw) (w_178 hw) (w_179 hw) (w_180 hw) (w_181 hw) (w_182 hw) (w_183 hw) (w_97 hw) (by decide) rfl rfl rfl (Wn := 0) rfl rfl (by decide) d_law_298 ?_
        rintro _ _ ⟨rfl, rfl⟩
        refine Wp.ifF (by decide) d_law_303 ?_
        refine Wp.iconst lc_1 d_law_306 ?_
        refine Wp.goto d_law_307 ?_
        refine Wp.iretN (z := 1) (by simp) rfl (by decide) d_law_311 (by decide) (by decide) ?_
        exact rfl
      · rw [hn]
        refine Wp.istore (L' := [.val (.int p0), .val (.int p1), .val (.int p2), .val (.int p3), .val (.int p4), .val (.int p5), .val (.ref s_1), .val (.ref s_4), .val (.null), .val (.int 3), .unset, .unset, .unset, .unset, .unset, .unset, .unset]) rfl d_law_50 ?_
        refine Wp.iloadN rfl d_law_52 ?_
        refine Wp.callS nm_M0 (rm_str hw p3 _ ) (mk_M_str hw) (w_0 hw) (w_1 hw) rfl rfl (Wn := 0) rfl rfl (by decide) d_law_53 ?_
        rintro _ _ ⟨s_85, b_86, rfl, rfl⟩
        refine Wp.astore (L' := [.val (.int p0), .val (.int p1), .val (.int p2), .val (.int p3), .val (.int p4), .val (.int p5), .val (.ref s_1), .val (.ref s_4), .val (.null), .val (.int 3), .val (.ref s_85), .unset, .unset, .unset, .unset, .unset, .unset]) rfl rfl d_law_56 ?_
        refine Wp.iload rfl d_law_58 ?_
        refine Wp.callS nm_M0 (rm_str hw p4 _ ) (mk_M_str hw) (w_0 hw) (w_1 hw) rfl rfl (Wn := 0) rfl rfl (by decide) d_law_60 ?_
        rintro _ _ ⟨s_87, b_88, rfl, rfl⟩
        refine Wp.astore (L' := [.val (.int p0), .val (.int p1), .val (.int p2), .val (.int p3), .val (.int p4), .val (.int p5), .val (.ref s_1), .val (.ref s_4), .val (.null), .val (.int 3), .val (.ref s_85), .val (.ref s_87), .unset, .unset, .unset, .unset, .unset]) rfl rfl d_law_63 ?_
        refine Wp.iload rfl d_law_65 ?_
        refine Wp.callS nm_M0 (rm_str hw p5 _ ) (mk_M_str hw) (w_0 hw) (w_1 hw) rfl rfl (Wn := 0) rfl rfl (by decide) d_law_67 ?_
        rintro _ _ ⟨s_89, b_90, rfl, rfl⟩
        refine Wp.astore (L' := [.val (.int p0), .val (.int p1), .val (.int p2), .val (.int p3), .val (.int p4), .val (.int p5), .val (.ref s_1), .val (.ref s_4), .val (.null), .val (.int 3), .val (.ref s_85), .val (.ref s_87), .val (.ref s_89), .unset, .unset, .unset, .unset]) rfl rfl d_law_70 ?_
        refine Wp.newO nm_M0 (w_34 hw) (w_35 hw) (w_36 hw) (nf_oAL hw) (by decide) (by decide) d_law_72 (fun a91 => ?_)
        refine Wp.dup rfl d_law_75 ?_
        refine Wp.callC nm_M0 (rm_ali hw a91 de _ hde) (mk_M_ali hw) (w_37 hw) (w_38 hw) rfl rfl rfl rfl (Wn := 1) rfl rfl (by decide) d_law_76 ?_
        rintro _ _ ⟨rfl, rfl⟩
        refine Wp.astore (L' := [.val (.int p0), .val (.int p1), .val (.int p2), .val (.int p3), .val (.int p4), .val (.int p5), .val (.ref s_1), .val (.ref s_4), .val (.null), .val (.int 3), .val (.ref s_85), .val (.ref s_87), .val (.ref s_89), .val (.ref a91), .unset, .unset, .unset]) rfl rfl d_law_79 ?_
        refine Wp.iload rfl d_law_81 ?_
        refine Wp.iconst lc_1 d_law_83 ?_
        refine Wp.icF (by decide) d_law_84 ?_
        refine Wp.aload rfl rfl d_law_87 ?_
        refine Wp.aload rfl rfl d_law_89 ?_
        refine Wp.perm [0, 9, 3, 1, 2, 4, 5, 6, 7, 8] 10 pp_0_9_3_1_2_4_5_6_7_8 (H' := [oAL true a91 (.int 0) (.ref de) (.int 0), (de, false, .inr ((.object "java/lang/Object"), true, false, [])), oStr true s_85 (.ref b_86) (.int 0), oStr true s_89 (.ref b_90) (.int 0), oStr true s_87 (.ref b_88) (.int 0), oStr true s_4 (.ref b_5) (.int 0), oStr true s_1 (.ref b_2) (.int 0), oLN false el (.ref ee) (.int 0), (ee, false, .inr ((.object "java/lang/Object"), true, false, [])), oOb false em ]) rfl ?_
        refine Wp.callV nm_M0 (rm_add_0 hw a91 de s_85 true (.ref b_86) (.int 0) _ hde) 0 rfl (mk_M_add_0 hw) (w_120 hw) (w_121 hw) (w_123 hw) (w_122 hw) (S' := "") (Or.inl rfl) (by decide) rfl rfl rfl (Wn := 0) rfl rfl (by decide) d_law_91 ?_
        rintro _ _ ⟨e_92, rfl, rfl⟩
        refine Wp.pop rfl d_law_94 ?_
        refine Wp.iload rfl d_law_95 ?_
        refine Wp.iconst lc_2 d_law_97 ?_
        refine Wp.icF (by decide) d_law_98 ?_
        refine Wp.aload rfl rfl d_law_101 ?_
        refine Wp.aload rfl rfl d_law_103 ?_
        refine Wp.perm [0, 1, 5, 2, 3, 4] 6 pp_0_1_5_2_3_4 (H' := [oAL true a91 (.int 1) (.ref e_92) (.int 1), eO e_92 [.ref s_85, .null, .null, .null, .null, .null, .null, .null, .null, .null], oStr true s_87 (.ref b_88) (.int 0), (de, false, .inr ((.object "java/lang/Object"), true, false, [])), oStr true s_85 (.ref b_86) (.int 0), oStr true s_89 (.ref b_90) (.int 0), oStr true s_4 (.ref b_5) (.int 0), oStr true s_1 (.ref b_2) (.int 0), oLN false el (.ref ee) (.int 0), (ee, false, .inr ((.object "java/lang/Object"), true, false, [])), oOb false em ]) rfl ?_
        refine Wp.callV nm_M0 (rm_add_1 hw a91 e_92 (.ref s_85) s_87 true (.ref b_88) (.int 0) _ ) 0 rfl (mk_M_add_1 hw) (w_120 hw) (w_121 hw) (w_123 hw) (w_122 hw) (S' := "") (Or.inl rfl) (by decide) rfl rfl rfl (Wn := 0) rfl rfl (by decide) d_law_105 ?_
        rintro _ _ ⟨rfl, rfl⟩
        refine Wp.pop rfl d_law_108 ?_
        refine Wp.iload rfl d_law_109 ?_
        refine Wp.iconst lc_3 d_law_111 ?_
        refine Wp.icF (by decide) d_law_112 ?_
        refine Wp.aload rfl rfl d_law_115 ?_
        refine Wp.aload rfl rfl d_law_117 ?_
        refine Wp.perm [0, 1, 5, 2, 3, 4] 6 pp_0_1_5_2_3_4 (H' := [oAL true a91 (.int 2) (.ref e_92) (.int 2), eO e_92 [.ref s_85, .ref s_87, .null, .null, .null, .null, .null, .null, .null, .null], oStr true s_89 (.ref b_90) (.int 0), oStr true s_87 (.ref b_88) (.int 0), (de, false, .inr ((.object "java/lang/Object"), true, false, [])), oStr true s_85 (.ref b_86) (.int 0), oStr true s_4 (.ref b_5) (.int 0), oStr true s_1 (.ref b_2) (.int 0), oLN false el (.ref ee) (.int 0), (ee, false, .inr ((.object "java/lang/Object"), true, false, [])), oOb false em ]) rfl ?_
        refine Wp.callV nm_M0 (rm_add_2 hw a91 e_92 (.ref s_85) (.ref s_87) s_89 true (.ref b_90) (.int 0) _ ) 0 rfl (mk_M_add_2 hw) (w_120 hw) (w_121 hw) (w_123 hw) (w_122 hw) (S' := "") (Or.inl rfl) (by decide) rfl rfl rfl (Wn := 0) rfl rfl (by decide) d_law_119 ?_
        rintro _ _ ⟨rfl, rfl⟩
        refine Wp.pop rfl d_law_122 ?_
        refine Wp.newO nm_M0 (w_58 hw) (w_59 hw) (w_60 hw) (nf_oUE hw) (by decide) (by decide) d_law_123 (fun a93 => ?_)
        refine Wp.dup rfl d_law_126 ?_
        refine Wp.aload rfl rfl d_law_127 ?_
        refine Wp.aload rfl rfl d_law_129 ?_
        refine Wp.aload rfl rfl d_law_131 ?_
        refine Wp.perm [0, 9, 1, 2, 3, 4, 5, 6, 7, 8] 10 pp_0_9_1_2_3_4_5_6_7_8 (H' := [oUE true a93 (.null) (.null) (.null) (.null), oLN false el (.ref ee) (.int 0), oAL true a91 (.int 3) (.ref e_92) (.int 3), eO e_92 [.ref s_85, .ref s_87, .ref s_89, .null, .null, .null, .null, .null, .null, .null], oStr true s_89 (.ref b_90) (.int 0), oStr true s_87 (.ref b_88) (.int 0), (de, false, .inr ((.object "java/lang/Object"), true, false, [])), oStr true s_85 (.ref b_86) (.int 0), oStr true s_4 (.ref b_5) (.int 0), oStr true s_1 (.ref b_2) (.int 0), (ee, false, .inr ((.object "java/lang/Object"), true, false, [])), oOb false em ]) rfl ?_
        refine Wp.callC nm_M0 (rm_ue3a hw a93 (.ref s_1) (.ref s_4) .null el ee _ rfl rfl rfl hel) (mk_M_ue3a hw) (w_61 hw) (w_62 hw) rfl rfl rfl rfl (Wn := 1) rfl rfl (by decide) d_law_133 ?_
        rintro _ _ ⟨rfl, rfl⟩
        refine Wp.astore (L' := [.val (.int p0), .val (.int p1), .val (.int p2), .val (.int p3), .val (.int p4), .val (.int p5), .val (.ref s_1), .val (.ref s_4), .val (.null), .val (.int 3), .val (.ref s_85), .val (.ref s_87), .val (.ref s_89), .val (.ref a91), .val (.ref a93), .unset, .unset]) rfl rfl d_law_136 ?_
        refine Wp.aload rfl rfl d_law_138 ?_
        refine Wp.aload rfl rfl d_law_140 ?_
        refine Wp.perm [0, 2, 3, 7, 5, 4, 1, 6] 8 pp_0_2_3_7_5_4_1_6 (H' := [oUE true a93 (.ref s_1) (.ref s_4) (.null) (.ref el), oAL true a91 (.int 3) (.ref e_92) (.int 3), eO e_92 [.ref s_85, .ref s_87, .ref s_89, .null, .null, .null, .null, .null, .null, .null], oStr true s_85 (.ref b_86) (.int 0), oStr true s_87 (.ref b_88) (.int 0), oStr true s_89 (.ref b_90) (.int 0), oLN false el (.ref ee) (.int 0), (de, false, .inr ((.object "java/lang/Object"), true, false, [])), oStr true s_4 (.ref b_5) (.int 0), oStr true s_1 (.ref b_2) (.int 0), (ee, false, .inr ((.object "java/lang/Object"), true, false, [])), oOb false em ]) rfl ?_
        refine Wp.callV nm_M0 (rm_wg3 hw a93 (.ref s_1) (.ref s_4) .null a91 e_92 s_85 true (.ref b_86) (.int 0) s_87 true (.ref b_88) (.int 0) s_89 true (.ref b_90) (.int 0) el em mr _ rfl rfl rfl hel hem hmr) 0 rfl (mk_M_wg3 hw) (w_100 hw) (w_101 hw) (w_103 hw) (w_102 hw) (S' := "") (Or.inl rfl) (by decide) rfl rfl rfl (Wn := 0) rfl rfl (by decide) d_law_142 ?_
        rintro _ _ ⟨o_94, q_95, qa_96, rfl, rfl⟩
        refine Wp.astore (L' := [.val (.int p0), .val (.int p1), .val (.int p2), .val (.int p3), .val (.int p4), .val (.int p5), .val (.ref s_1), .val (.ref s_4), .val (.null), .val (.int 3), .val (.ref s_85), .val (.ref s_87), .val (.ref s_89), .val (.ref a91), .val (.ref a93), .val (.ref o_94), .unset]) rfl rfl d_law_145 ?_
        refine Wp.aload rfl rfl d_law_147 ?_
        refine Wp.aload rfl rfl d_law_149 ?_
        refine Wp.perm [4, 5, 6, 0, 1, 2, 3] 7 pp_4_5_6_0_1_2_3 (H' := [oAL true a91 (.int 3) (.ref e_92) (.int 3), eO e_92 [.ref s_85, .ref s_87, .ref s_89, .null, .null, .null, .null, .null, .null, .null], oStr true s_85 (.ref b_86) (.int 0), oUE true o_94 (.ref s_1) (.ref s_4) (.null) (.ref q_95), oLN true q_95 (.ref qa_96) (.int 0), eO qa_96 [.ref s_85, .ref s_87, .ref s_89], oUE true a93 (.ref s_1) (.ref s_4) (.null) (.ref el), oStr true s_87 (.ref b_88) (.int 0), oStr true s_89 (.ref b_90) (.int 0), oLN false el (.ref ee) (.int 0), (de, false, .inr ((.object "java/lang/Object"), true, false, [])), oStr true s_4 (.ref b_5) (.int 0), oStr true s_1 (.ref b_2) (.int 0), (ee, false, .inr ((.object "java/lang/Object"), true, false, [])), oOb false em ]) rfl ?_
        refine Wp.callV nm_M0 (rm_add_3 hw a91 e_92 (.ref s_85) (.ref s_87) (.ref s_89) s_85 true (.ref b_86) (.int 0) _ ) 0 rfl (mk_M_add_3 hw) (w_120 hw) (w_121 hw) (w_123 hw) (w_122 hw) (S' := "") (Or.inl rfl) (by decide) rfl rfl rfl (Wn := 0) rfl rfl (by decide) d_law_151 ?_
        rintro _ _ ⟨rfl, rfl⟩
        refine Wp.pop rfl d_law_154 ?_
        refine Wp.aload rfl rfl d_law_155 ?_
        refine Wp.aload rfl rfl d_law_157 ?_
        refine Wp.perm [3, 0, 1, 2] 4 pp_3_0_1_2 (H' := [oUE true o_94 (.ref s_1) (.ref s_4) (.null) (.ref q_95), oAL true a91 (.int 4) (.ref e_92) (.int 4), eO e_92 [.ref s_85, .ref s_87, .ref s_89, .ref s_85, .null, .null, .null, .null, .null, .null], oStr true s_85 (.ref b_86) (.int 0), oLN true q_95 (.ref qa_96) (.int 0), eO qa_96 [.ref s_85, .ref s_87, .ref s_89], oUE true a93 (.ref s_1) (.ref s_4) (.null) (.ref el), oStr true s_87 (.ref b_88) (.int 0), oStr true s_89 (.ref b_90) (.int 0), oLN false el (.ref ee) (.int 0), (de, false, .inr ((.object "java/lang/Object"), true, false, [])), oStr true s_4 (.ref b_5) (.int 0), oStr true s_1 (.ref b_2) (.int 0), (ee, false, .inr ((.object "java/lang/Object"), true, false, [])), oOb false em ]) rfl ?_
        refine Wp.callV nm_M0 (rm_g0 hw o_94 (.ref s_1) (.ref s_4) .null q_95 _ rfl rfl rfl) 0 rfl (mk_M_g0 hw) (w_149 hw) (w_150 hw) (w_152 hw) (w_151 hw) (S' := "") (Or.inl rfl) (by decide) rfl rfl rfl (Wn := 1) rfl rfl (by decide) d_law_159 ?_
        rintro _ _ ⟨rfl, rfl⟩
        refine Wp.perm [12, 0, 1, 2, 3, 4, 5, 6, 7, 8, 9, 10, 11] 13 pp_12_0_1_2_3_4_5_6_7_8_9_10_11 (H' := [oStr true s_1 (.ref b_2) (.int 0), oUE true o_94 (.ref s_1) (.ref s_4) (.null) (.ref q_95), oAL true a91 (.int 4) (.ref e_92) (.int 4), eO e_92 [.ref s_85, .ref s_87, .ref s_89, .ref s_85, .null, .null, .null, .null, .null, .null], oStr true s_85 (.ref b_86) (.int 0), oLN true q_95 (.ref qa_96) (.int 0), eO qa_96 [.ref s_85, .ref s_87, .ref s_89], oUE true a93 (.ref s_1) (.ref s_4) (.null) (.ref el), oStr true s_87 (.ref b_88) (.int 0), oStr true s_89 (.ref b_90) (.int 0), oLN false el (.ref ee) (.int 0), (de, false, .inr ((.object "java/lang/Object"), true, false, [])), oStr true s_4 (.ref b_5) (.int 0), (ee, false, .inr ((.object "java/lang/Object"), true, false, [])), oOb false em ]) rfl ?_
        refine Wp.callS nm_M0 (rm_eqS hw s_1 true (.ref b_2) (.int 0) _ ) (mk_M_eqS hw) (w_154 hw) (w_155 hw) rfl rfl (Wn := 0) rfl rfl (by decide) d_law_162 ?_
        rintro _ _ ⟨rfl, rfl⟩
        refine Wp.ifT (by decide) d_law_165 ?_
        refine Wp.aload rfl rfl d_law_170 ?_
        refine Wp.aload rfl rfl d_law_172 ?_
        refine Wp.perm [1, 0] 2 pp_1_0 (H' := [oUE true o_94 (.ref s_1) (.ref s_4) (.null) (.ref q_95), oStr true s_1 (.ref b_2) (.int 0), oAL true a91 (.int 4) (.ref e_92) (.int 4), eO e_92 [.ref s_85, .ref s_87, .ref s_89, .ref s_85, .null, .null, .null, .null, .null, .null], oStr true s_85 (.ref b_86) (.int 0), oLN true q_95 (.ref qa_96) (.int 0), eO qa_96 [.ref s_85, .ref s_87, .ref s_89], oUE true a93 (.ref s_1) (.ref s_4) (.null) (.ref el), oStr true s_87 (.ref b_88) (.int 0), oStr true s_89 (.ref b_90) (.int 0), oLN false el (.ref ee) (.int 0), (de, false, .inr ((.object "java/lang/Object"), true, false, [])), oStr true s_4 (.ref b_5) (.int 0), (ee, false, .inr ((.object "java/lang/Object"), true, false, [])), oOb false em ]) rfl ?_
        refine Wp.callV nm_M0 (rm_g1 hw o_94 (.ref s_1) (.ref s_4) .null q_95 _ rfl rfl rfl) 0 rfl (mk_M_g1 hw) (w_162 hw) (w_163 hw) (w_165 hw) (w_164 hw) (S' := "") (Or.inl rfl) (by decide) rfl rfl rfl (Wn := 1) rfl rfl (by decide) d_law_174 ?_
        rintro _ _ ⟨rfl, rfl⟩
        refine Wp.perm [12, 0, 1, 2, 3, 4, 5, 6, 7, 8, 9, 10, 11] 13 pp_12_0_1_2_3_4_5_6_7_8_9_10_11 (H' := [oStr true s_4 (.ref b_5) (.int 0), oUE true o_94 (.ref s_1) (.ref s_4) (.null) (.ref q_95), oStr true s_1 (.ref b_2) (.int 0), oAL true a91 (.int 4) (.ref e_92) (.int 4), eO e_92 [.ref s_85, .ref s_87, .ref s_89, .ref s_85, .null, .null, .null, .null, .null, .null], oStr true s_85 (.ref b_86) (.int 0), oLN true q_95 (.ref qa_96) (.int 0), eO qa_96 [.ref s_85, .ref s_87, .ref s_89], oUE true a93 (.ref s_1) (.ref s_4) (.null) (.ref el), oStr true s_87 (.ref b_88) (.int 0), oStr true s_89 (.ref b_90) (.int 0), oLN false el (.ref ee) (.int 0), (de, false, .inr ((.object "java/lang/Object"), true, false, [])), (ee, false, .inr ((.object "java/lang/Object"), true, false, [])), oOb false em ]) rfl ?_
        refine Wp.callS nm_M0 (rm_eqS hw s_4 true (.ref b_5) (.int 0) _ ) (mk_M_eqS hw) (w_154 hw) (w_155 hw) rfl rfl (Wn := 0) rfl rfl (by decide) d_law_177 ?_
        rintro _ _ ⟨rfl, rfl⟩
        refine Wp.ifT (by decide) d_law_180 ?_
        refine Wp.aload rfl rfl d_law_185 ?_
        refine Wp.aload rfl rfl d_law_187 ?_
        refine Wp.perm [1, 0] 2 pp_1_0 (H' := [oUE true o_94 (.ref s_1) (.ref s_4) (.null) (.ref q_95), oStr true s_4 (.ref b_5) (.int 0), oStr true s_1 (.ref b_2) (.int 0), oAL true a91 (.int 4) (.ref e_92) (.int 4), eO e_92 [.ref s_85, .ref s_87, .ref s_89, .ref s_85, .null, .null, .null, .null, .null, .null], oStr true s_85 (.ref b_86) (.int 0), oLN true q_95 (.ref qa_96) (.int 0), eO qa_96 [.ref s_85, .ref s_87, .ref s_89], oUE true a93 (.ref s_1) (.ref s_4) (.null) (.ref el), oStr true s_87 (.ref b_88) (.int 0), oStr true s_89 (.ref b_90) (.int 0), oLN false el (.ref ee) (.int 0), (de, false, .inr ((.object "java/lang/Object"), true, false, [])), (ee, false, .inr ((.object "java/lang/Object"), true, false, [])), oOb false em ]) rfl ?_
        refine Wp.callV nm_M0 (rm_g2 hw o_94 (.ref s_1) (.ref s_4) .null q_95 _ rfl rfl rfl) 0 rfl (mk_M_g2 hw) (w_167 hw) (w_168 hw) (w_170 hw) (w_169 hw) (S' := "") (Or.inl rfl) (by decide) rfl rfl rfl (Wn := 1) rfl rfl (by decide) d_law_189 ?_
        rintro _ _ ⟨rfl, rfl⟩
        refine Wp.callS nm_M0 (rm_eqN hw  _ ) (mk_M_eqN hw) (w_154 hw) (w_155 hw) rfl rfl (Wn := 0) rfl rfl (by decide) d_law_192 ?_
        rintro _ _ ⟨rfl, rfl⟩
        refine Wp.ifT (by decide) d_law_195 ?_
        refine Wp.aload rfl rfl d_law_200 ?_
        refine Wp.callV nm_M0 (rm_gg hw o_94 (.ref s_1) (.ref s_4) .null q_95 _ ) 0 rfl (mk_M_gg hw) (w_172 hw) (w_173 hw) (w_175 hw) (w_174 hw) (S' := "") (Or.inl rfl) (by decide) rfl rfl rfl (Wn := 0) rfl rfl (by decide) d_law_202 ?_
        rintro _ _ ⟨rfl, rfl⟩
        refine Wp.astore (L' := [.val (.int p0), .val (.int p1), .val (.int p2), .val (.int p3), .val (.int p4), .val (.int p5), .val (.ref s_1), .val (.ref s_4), .val (.null), .val (.int 3), .val (.ref s_85), .val (.ref s_87), .val (.ref s_89), .val (.ref a91), .val (.ref a93), .val (.ref o_94), .val (.ref q_95)]) rfl rfl d_law_205 ?_
        refine Wp.aload rfl rfl d_law_207 ?_
        refine Wp.perm [6, 7, 0, 1, 2, 3, 4, 5] 8 pp_6_7_0_1_2_3_4_5 (H' := [oLN true q_95 (.ref qa_96) (.int 0), eO qa_96 [.ref s_85, .ref s_87, .ref s_89], oUE true o_94 (.ref s_1) (.ref s_4) (.null) (.ref q_95), oStr true s_4 (.ref b_5) (.int 0), oStr true s_1 (.ref b_2) (.int 0), oAL true a91 (.int 4) (.ref e_92) (.int 4), eO e_92 [.ref s_85, .ref s_87, .ref s_89, .ref s_85, .null, .null, .null, .null, .null, .null], oStr true s_85 (.ref b_86) (.int 0), oUE true a93 (.ref s_1) (.ref s_4) (.null) (.ref el), oStr true s_87 (.ref b_88) (.int 0), oStr true s_89 (.ref b_90) (.int 0), oLN false el (.ref ee) (.int 0), (de, false, .inr ((.object "java/lang/Object"), true, false, [])), (ee, false, .inr ((.object "java/lang/Object"), true, false, [])), oOb false em ]) rfl ?_
        refine Wp.callI nm_M0 (rm_sz3 hw q_95 qa_96 s_85 s_87 s_89 _ ) 0 rfl (mk_M_sz3 hw) (w_177 hw) (w_178 hw) (w_179 hw) (w_180 hw) (w_181 hw) (w_182 hw) (w_183 hw) (w_97 hw) (by decide) rfl rfl rfl (Wn := 0) rfl rfl (by decide) d_law_209 ?_
        rintro _ _ ⟨rfl, rfl⟩
        refine Wp.iload rfl d_law_214 ?_
        refine Wp.icT (by decide) d_law_216 ?_
        refine Wp.iload rfl d_law_221 ?_
        refine Wp.iconst lc_1 d_law_223 ?_
        refine Wp.icF (by decide) d_law_224 ?_
        refine Wp.aload rfl rfl d_law_227 ?_
        refine Wp.aload rfl rfl d_law_229 ?_
        refine Wp.iconst lc_0 d_law_231 ?_
        refine Wp.callI nm_M0 (rm_gn0 hw q_95 qa_96 s_85 s_87 s_89 _ ) 0 rfl (mk_M_gn0 hw) (w_257 hw) (w_258 hw) (w_259 hw) (w_279 hw) (w_280 hw) (w_281 hw) (w_282 hw) (w_97 hw) (by decide) rfl rfl rfl (Wn := 1) rfl rfl (by decide) d_law_232 ?_
        rintro _ _ ⟨rfl, rfl⟩
        refine Wp.perm [7, 0, 1, 2, 3, 4, 5, 6] 8 pp_7_0_1_2_3_4_5_6 (H' := [oStr true s_85 (.ref b_86) (.int 0), oLN true q_95 (.ref qa_96) (.int 0), eO qa_96 [.ref s_85, .ref s_87, .ref s_89], oUE true o_94 (.ref s_1) (.ref s_4) (.null) (.ref q_95), oStr true s_4 (.ref b_5) (.int 0), oStr true s_1 (.ref b_2) (.int 0), oAL true a91 (.int 4) (.ref e_92) (.int 4), eO e_92 [.ref s_85, .ref s_87, .ref s_89, .ref s_85, .null, .null, .null, .null, .null, .null], oUE true a93 (.ref s_1) (.ref s_4) (.null) (.ref el), oStr true s_87 (.ref b_88) (.int 0), oStr true s_89 (.ref b_90) (.int 0), oLN false el (.ref ee) (.int 0), (de, false, .inr ((.object "java/lang/Object"), true, false, [])), (ee, false, .inr ((.object "java/lang/Object"), true, false, [])), oOb false em ]) rfl ?_
        refine Wp.callV nm_M0 (rm_seS hw s_85 true (.ref b_86) (.int 0) _ ) 0 rfl (mk_M_seS hw) (w_157 hw) (w_158 hw) (w_160 hw) (w_159 hw) (S' := "") (Or.inl rfl) (by decide) rfl rfl rfl (Wn := 0) rfl rfl (by decide) d_law_237 ?_
        rintro _ _ ⟨rfl, rfl⟩
        refine Wp.ifT (by decide) d_law_240 ?_
        refine Wp.iload rfl d_law_245 ?_
        refine Wp.iconst lc_2 d_law_247 ?_
        refine Wp.icF (by decide) d_law_248 ?_
        refine Wp.aload rfl rfl d_law_251 ?_
        refine Wp.aload rfl rfl d_law_253 ?_
        refine Wp.iconst lc_1 d_law_255 ?_
        refine Wp.perm [1, 2, 0] 3 pp_1_2_0 (H' := [oLN true q_95 (.ref qa_96) (.int 0), eO qa_96 [.ref s_85, .ref s_87, .ref s_89], oStr true s_85 (.ref b_86) (.int 0), oUE true o_94 (.ref s_1) (.ref s_4) (.null) (.ref q_95), oStr true s_4 (.ref b_5) (.int 0), oStr true s_1 (.ref b_2) (.int 0), oAL true a91 (.int 4) (.ref e_92) (.int 4), eO e_92 [.ref s_85, .ref s_87, .ref s_89, .ref s_85, .null, .null, .null, .null, .null, .null], oUE true a93 (.ref s_1) (.ref s_4) (.null) (.ref el), oStr true s_87 (.ref b_88) (.int 0), oStr true s_89 (.ref b_90) (.int 0), oLN false el (.ref ee) (.int 0), (de, false, .inr ((.object "java/lang/Object"), true, false, [])), (ee, false, .inr ((.object "java/lang/Object"), true, false, [])), oOb false em ]) rfl ?_
        refine Wp.callI nm_M0 (rm_gn1 hw q_95 qa_96 s_85 s_87 s_89 _ ) 0 rfl (mk_M_gn1 hw) (w_257 hw) (w_258 hw) (w_259 hw) (w_279 hw) (w_280 hw) (w_281 hw) (w_282 hw) (w_97 hw) (by decide) rfl rfl rfl (Wn := 1) rfl rfl (by decide) d_law_256 ?_
        rintro _ _ ⟨rfl, rfl⟩
        refine Wp.perm [9, 0, 1, 2, 3, 4, 5, 6, 7, 8] 10 pp_9_0_1_2_3_4_5_6_7_8 (H' := [oStr true s_87 (.ref b_88) (.int 0), oLN true q_95 (.ref qa_96) (.int 0), eO qa_96 [.ref s_85, .ref s_87, .ref s_89], oStr true s_85 (.ref b_86) (.int 0), oUE true o_94 (.ref s_1) (.ref s_4) (.null) (.ref q_95), oStr true s_4 (.ref b_5) (.int 0), oStr true s_1 (.ref b_2) (.int 0), oAL true a91 (.int 4) (.ref e_92) (.int 4), eO e_92 [.ref s_85, .ref s_87, .ref s_89, .ref s_85, .null, .null, .null, .null, .null, .null], oUE true a93 (.ref s_1) (.ref s_4) (.null) (.ref el), oStr true s_89 (.ref b_90) (.int 0), oLN false el (.ref ee) (.int 0), (de, false, .inr ((.object "java/lang/Object"), true, false, [])), (ee, false, .inr ((.object "java/lang/Object"), true, false, [])), oOb false em ]) rfl ?_
        refine Wp.callV nm_M0 (rm_seS hw s_87 true (.ref b_88) (.int 0) _ ) 0 rfl (mk_M_seS hw) (w_157 hw) (w_158 hw) (w_160 hw) (w_159 hw) (S' := "") (Or.inl rfl) (by decide) rfl rfl rfl (Wn := 0) rfl rfl (by decide) d_law_261 ?_
        rintro _ _ ⟨rfl, rfl⟩
        refine Wp.ifT (by decide) d_law_264 ?_
        refine Wp.iload rfl d_law_269 ?_
        refine Wp.iconst lc_3 d_law_271 ?_
        refine Wp.icF (by decide) d_law_272 ?_
        refine Wp.aload rfl rfl d_law_275 ?_
        refine Wp.aload rfl rfl d_law_277 ?_
        refine Wp.iconst lc_2 d_law_279 ?_
        refine Wp.perm [1, 2, 0] 3 pp_1_2_0 (H' := [oLN true q_95 (.ref qa_96) (.int 0), eO qa_96 [.ref s_85, .ref s_87, .ref s_89], oStr true s_87 (.ref b_88) (.int 0), oStr true s_85 (.ref b_86) (.int 0), oUE true o_94 (.ref s_1) (.ref s_4) (.null) (.ref q_95), oStr true s_4 (.ref b_5) (.int 0), oStr true s_1 (.ref b_2) (.int 0), oAL true a91 (.int 4) (.ref e_92) (.int 4), eO e_92 [.ref s_85, .ref s_87, .ref s_89, .ref s_85, .null, .null, .null, .null, .null, .null], oUE true a93 (.ref s_1) (.ref s_4) (.null) (.ref el), oStr true s_89 (.ref b_90) (.int 0), oLN false el (.ref ee) (.int 0), (de, false, .inr ((.object "java/lang/Object"), true, false, [])), (ee, false, .inr ((.object "java/lang/Object"), true, false, [])), oOb false em ]) rfl ?_
        refine Wp.callI nm_M0 (rm_gn2 hw q_95 qa_96 s_85 s_87 s_89 _ ) 0 rfl (mk_M_gn2 hw) (w_257 hw) (w_258 hw) (w_259 hw) (w_279 hw) (w_280 hw) (w_281 hw) (w_282 hw) (w_97 hw) (by decide) rfl rfl rfl (Wn := 1) rfl rfl (by decide) d_law_280 ?_
        rintro _ _ ⟨rfl, rfl⟩
        refine Wp.perm [10, 0, 1, 2, 3, 4, 5, 6, 7, 8, 9] 11 pp_10_0_1_2_3_4_5_6_7_8_9 (H' := [oStr true s_89 (.ref b_90) (.int 0), oLN true q_95 (.ref qa_96) (.int 0), eO qa_96 [.ref s_85, .ref s_87, .ref s_89], oStr true s_87 (.ref b_88) (.int 0), oStr true s_85 (.ref b_86) (.int 0), oUE true o_94 (.ref s_1) (.ref s_4) (.null) (.ref q_95), oStr true s_4 (.ref b_5) (.int 0), oStr true s_1 (.ref b_2) (.int 0), oAL true a91 (.int 4) (.ref e_92) (.int 4), eO e_92 [.ref s_85, .ref s_87, .ref s_89, .ref s_85, .null, .null, .null, .null, .null, .null], oUE true a93 (.ref s_1) (.ref s_4) (.null) (.ref el), oLN false el (.ref ee) (.int 0), (de, false, .inr ((.object "java/lang/Object"), true, false, [])), (ee, false, .inr ((.object "java/lang/Object"), true, false, [])), oOb false em ]) rfl ?_
        refine Wp.callV nm_M0 (rm_seS hw s_89 true (.ref b_90) (.int 0) _ ) 0 rfl (mk_M_seS hw) (w_157 hw) (w_158 hw) (w_160 hw) (w_159 hw) (S' := "") (Or.inl rfl) (by decide) rfl rfl rfl (Wn := 0) rfl rfl (by decide) d_law_285 ?_
        rintro _ _ ⟨rfl, rfl⟩
        refine Wp.ifT (by decide) d_law_288 ?_
        refine Wp.aload rfl rfl d_law_293 ?_
        refine Wp.perm [10, 0, 1, 2, 3, 4, 5, 6, 7, 8, 9] 11 pp_10_0_1_2_3_4_5_6_7_8_9 (H' := [oUE true a93 (.ref s_1) (.ref s_4) (.null) (.ref el), oStr true s_89 (.ref b_90) (.int 0), oLN true q_95 (.ref qa_96) (.int 0), eO qa_96 [.ref s_85, .ref s_87, .ref s_89], oStr true s_87 (.ref b_88) (.int 0), oStr true s_85 (.ref b_86) (.int 0), oUE true o_94 (.ref s_1) (.ref s_4) (.null) (.ref q_95), oStr true s_4 (.ref b_5) (.int 0), oStr true s_1 (.ref b_2) (.int 0), oAL true a91 (.int 4) (.ref e_92) (.int 4), eO e_92 [.ref s_85, .ref s_87, .ref s_89, .ref s_85, .null, .null, .null, .null, .null, .null], oLN false el (.ref ee) (.int 0), (de, false, .inr ((.object "java/lang/Object"), true, false, [])), (ee, false, .inr ((.object "java/lang/Object"), true, false, [])), oOb false em ]) rfl ?_
        refine Wp.callV nm_M0 (rm_gg hw a93 (.ref s_1) (.ref s_4) .null el _ ) 0 rfl (mk_M_gg hw) (w_172 hw) (w_173 hw) (w_175 hw) (w_174 hw) (S' := "") (Or.inl rfl) (by decide) rfl rfl rfl (Wn := 0) rfl rfl (by decide) d_law_295 ?_
        rintro _ _ ⟨rfl, rfl⟩
        refine Wp.perm [11, 13, 0, 1, 2, 3, 4, 5, 6, 7, 8, 9, 10, 12] 14 pp_11_13_0_1_2_3_4_5_6_7_8_9_10_12 (H' := [oLN false el (.ref ee) (.int 0), (ee, false, .inr ((.object "java/lang/Object"), true, false, [])), oUE true a93 (.ref s_1) (.ref s_4) (.null) (.ref el), oStr true s_89 (.ref b_90) (.int 0), oLN true q_95 (.ref qa_96) (.int 0), eO qa_96 [.ref s_85, .ref s_87, .ref s_89], oStr true s_87 (.ref b_88) (.int 0), oStr true s_85 (.ref b_86) (.int 0), oUE true o_94 (.ref s_1) (.ref s_4) (.null) (.ref q_95), oStr true s_4 (.ref b_5) (.int 0), oStr true s_1 (.ref b_2) (.int 0), oAL true a91 (.int 4) (.ref e_92) (.int 4), eO e_92 [.ref s_85, .ref s_87, .ref s_89, .ref s_85, .null, .null, .null, .null, .null, .null], (de, false, .inr ((.object "java/lang/Object"), true, false, [])), oOb false em ]) rfl ?_
        refine Wp.callI nm_M0 (rm_szE hw el ee _ ) 0 rfl (mk_M_szE hw) (w_177 hw) (w_178 hw) (w_179 hw) (w_180 hw) (w_181 hw) (w_182 hw) (w_183 hw) (w_97 hw) (by decide) rfl rfl rfl (Wn := 0) rfl rfl (by decide) d_law_298 ?_
        rintro _ _ ⟨rfl, rfl⟩
        refine Wp.ifF (by decide) d_law_303 ?_
        refine Wp.iconst lc_1 d_law_306 ?_
        refine Wp.goto d_law_307 ?_
        refine Wp.iretN (z := 1) (by simp) rfl (by decide) d_law_311 (by decide) (by decide) ?_
        exact rfl
  · refine Wp.ifF (feq b12_3).1 d_law_12 ?_
    refine Wp.aconstNull d_law_15 ?_
    refine Wp.goto d_law_16 ?_
    refine Wp.astore (L' := [.val (.int p0), .val (.int p1), .val (.int p2), .val (.int p3), .val (.int p4), .val (.int p5), .val (.ref s_1), .val (.null), .unset, .unset, .unset, .unset, .unset, .unset, .unset, .unset, .unset]) rfl rfl d_law_23 ?_
    refine Wp.iloadN rfl d_law_25 ?_
    refine Wp.bipush lb_24 d_law_26 ?_
    refine Wp.iushr (z := (Jvm.Free.XT.ushr p2 24)) rfl d_law_28 ?_
    refine Wp.iconst lc_1 d_law_29 ?_
    refine Wp.iand (z := ((Jvm.Free.XT.ushr p2 24) &&& 1)) rfl d_law_30 ?_
    by_cases b31_97 : ((Jvm.Free.XT.ushr p2 24) &&& 1) = 0
    · refine Wp.ifT (teq b31_97).1 d_law_31 ?_
      refine Wp.iloadN rfl d_law_38 ?_
      refine Wp.callS nm_M0 (rm_str hw p2 _ ) (mk_M_str hw) (w_0 hw) (w_1 hw) rfl rfl (Wn := 0) rfl rfl (by decide) d_law_39 ?_
      rintro _ _ ⟨s_98, b_99, rfl, rfl⟩
      refine Wp.astore (L' := [.val (.int p0), .val (.int p1), .val (.int p2), .val (.int p3), .val (.int p4), .val (.int p5), .val (.ref s_1), .val (.null), .val (.ref s_98), .unset, .unset, .unset, .unset, .unset, .unset, .unset, .unset]) rfl rfl d_law_42 ?_
      refine Wp.iloadN rfl d_law_44 ?_
      refine Wp.bipush lb_24 d_law_45 ?_
      refine Wp.iushr (z := (Jvm.Free.XT.ushr p3 24)) rfl d_law_47 ?_
      refine Wp.iconst lc_3 d_law_48 ?_
      refine Wp.iand (z := ((Jvm.Free.XT.ushr p3 24) &&& 3)) rfl d_law_49 ?_
      rcases and3 ((Jvm.Free.XT.ushr p3 24)) with hn | hn | hn | hn
      · rw [hn]
        refine Wp.istore (L' := [.val (.int p0), .val (.int p1), .val (.int p2), .val (.int p3), .val (.int p4), .val (.int p5), .val (.ref s_1), .val (.null), .val (.ref s_98), .val (.int 0), .unset, .unset, .unset, .unset, .unset, .unset, .unset]) rfl d_law_50 ?_
        refine Wp.iloadN rfl d_law_52 ?_
        refine Wp.callS nm_M0 (rm_str hw p3 _ ) (mk_M_str hw) (w_0 hw) (w_1 hw) rfl rfl (Wn := 0) rfl rfl (by decide) d_law_53 ?_
        rintro _ _ ⟨s_100, b_101, rfl, rfl⟩
        refine Wp.astore (L' := [.val (.int p0), .val (.int p1), .val (.int p2), .val (.int p3), .val (.int p4), .val (.int p5), .val (.ref s_1), .val (.null), .val (.ref s_98), .val (.int 0), .val (.ref s_100), .unset, .unset, .unset, .unset, .unset, .unset]) rfl rfl d_law_56 ?_
        refine Wp.iload rfl d_law_58 ?_
        refine Wp.callS nm_M0 (rm_str hw p4 _ ) (mk_M_str hw) (w_0 hw) (w_1 hw) rfl rfl (Wn := 0) rfl rfl (by decide) d_law_60 ?_
        rintro _ _ ⟨s_102, b_103, rfl, rfl⟩
        refine Wp.astore (L' := [.val (.int p0), .val (.int p1), .val (.int p2), .val (.int p3), .val (.int p4), .val (.int p5), .val (.ref s_1), .val (.null), .val (.ref s_98), .val (.int 0), .val (.ref s_100), .val (.ref s_102), .unset, .unset, .unset, .unset, .unset]) rfl rfl d_law_63 ?_
        refine Wp.iload rfl d_law_65 ?_
        refine Wp.callS nm_M0 (rm_str hw p5 _ ) (mk_M_str hw) (w_0 hw) (w_1 hw) rfl rfl (Wn := 0) rfl rfl (by decide) d_law_67 ?_
        rintro _ _ ⟨s_104, b_105, rfl, rfl⟩
        refine Wp.astore (L' := [.val (.int p0), .val (.int p1), .val (.int p2), .val (.int p3), .val (.int p4), .val (.int p5), .val (.ref s_1), .val (.null), .val (.ref s_98), .val (.int 0), .val (.ref s_100), .val (.ref s_102), .val (.ref s_104), .unset, .unset, .unset, .unset]) rfl rfl d_law_70 ?_
        refine Wp.newO nm_M0 (w_34 hw) (w_35 hw) (w_36 hw) (nf_oAL hw) (by decide) (by decide) d_law_72 (fun a106 => ?_)
        refine Wp.dup rfl d_law_75 ?_
        refine Wp.callC nm_M0 (rm_ali hw a106 de _ hde) (mk_M_ali hw) (w_37 hw) (w_38 hw) rfl rfl rfl rfl (Wn := 1) rfl rfl (by decide) d_law_76 ?_
        rintro _ _ ⟨rfl, rfl⟩
        refine Wp.astore (L' := [.val (.int p0), .val (.int p1), .val (.int p2), .val (.int p3), .val (.int p4), .val (.int p5), .val (.ref s_1), .val (.null), .val (.ref s_98), .val (.int 0), .val (.ref s_100), .val (.ref s_102), .val (.ref s_104), .val (.ref a106), .unset, .unset, .unset]) rfl rfl d_law_79 ?_
        refine Wp.iload rfl d_law_81 ?_
        refine Wp.iconst lc_1 d_law_83 ?_
        refine Wp.icT (by decide) d_law_84 ?_
        refine Wp.iload rfl d_law_95 ?_
        refine Wp.iconst lc_2 d_law_97 ?_
        refine Wp.icT (by decide) d_law_98 ?_
        refine Wp.iload rfl d_law_109 ?_
        refine Wp.iconst lc_3 d_law_111 ?_
        refine Wp.icT (by decide) d_law_112 ?_
        refine Wp.newO nm_M0 (w_58 hw) (w_59 hw) (w_60 hw) (nf_oUE hw) (by decide) (by decide) d_law_123 (fun a107 => ?_)
        refine Wp.dup rfl d_law_126 ?_
        refine Wp.aload rfl rfl d_law_127 ?_
        refine Wp.aload rfl rfl d_law_129 ?_
        refine Wp.aload rfl rfl d_law_131 ?_
        refine Wp.perm [0, 7, 1, 2, 3, 4, 5, 6] 8 pp_0_7_1_2_3_4_5_6 (H' := [oUE true a107 (.null) (.null) (.null) (.null), oLN false el (.ref ee) (.int 0), oAL true a106 (.int 0) (.ref de) (.int 0), oStr true s_104 (.ref b_105) (.int 0), oStr true s_102 (.ref b_103) (.int 0), oStr true s_100 (.ref b_101) (.int 0), oStr true s_98 (.ref b_99) (.int 0), oStr true s_1 (.ref b_2) (.int 0), (ee, false, .inr ((.object "java/lang/Object"), true, false, [])), oOb false em , (de, false, .inr ((.object "java/lang/Object"), true, false, []))]) rfl ?_
        refine Wp.callC nm_M0 (rm_ue3a hw a107 (.ref s_1) .null (.ref s_98) el ee _ rfl rfl rfl hel) (mk_M_ue3a hw) (w_61 hw) (w_62 hw) rfl rfl rfl rfl (Wn := 1) rfl rfl (by decide) d_law_133 ?_
        rintro _ _ ⟨rfl, rfl⟩
        refine Wp.astore (L' := [.val (.int p0), .val (.int p1), .val (.int p2), .val (.int p3), .val (.int p4), .val (.int p5), .val (.ref s_1), .val (.null), .val (.ref s_98), .val (.int 0), .val (.ref s_100), .val (.ref s_102), .val (.ref s_104), .val (.ref a106), .val (.ref a107), .unset, .unset]) rfl rfl d_law_136 ?_
        refine Wp.aload rfl rfl d_law_138 ?_
        refine Wp.aload rfl rfl d_law_140 ?_
        refine Wp.perm [0, 2, 1] 3 pp_0_2_1 (H' := [oUE true a107 (.ref s_1) (.null) (.ref s_98) (.ref el), oAL true a106 (.int 0) (.ref de) (.int 0), oLN false el (.ref ee) (.int 0), oStr true s_104 (.ref b_105) (.int 0), oStr true s_102 (.ref b_103) (.int 0), oStr true s_100 (.ref b_101) (.int 0), oStr true s_98 (.ref b_99) (.int 0), oStr true s_1 (.ref b_2) (.int 0), (ee, false, .inr ((.object "java/lang/Object"), true, false, [])), oOb false em , (de, false, .inr ((.object "java/lang/Object"), true, false, []))]) rfl ?_
        refine Wp.callV nm_M0 (rm_wg0 hw a107 (.ref s_1) .null (.ref s_98) a106 el em mr de _ rfl rfl rfl hel hem hmr) 0 rfl (mk_M_wg0 hw) (w_100 hw) (w_101 hw) (w_103 hw) (w_102 hw) (S' := "") (Or.inl rfl) (by decide) rfl rfl rfl (Wn := 0) rfl rfl (by decide) d_law_142 ?_
        rintro _ _ ⟨o_108, rfl, rfl⟩
        refine Wp.astore (L' := [.val (.int p0), .val (.int p1), .val (.int p2), .val (.int p3), .val (.int p4), .val (.int p5), .val (.ref s_1), .val (.null), .val (.ref s_98), .val (.int 0), .val (.ref s_100), .val (.ref s_102), .val (.ref s_104), .val (.ref a106), .val (.ref a107), .val (.ref o_108), .unset]) rfl rfl d_law_145 ?_
        refine Wp.aload rfl rfl d_law_147 ?_
        refine Wp.aload rfl rfl d_law_149 ?_
        refine Wp.perm [2, 11, 6, 0, 1, 3, 4, 5, 7, 8, 9, 10] 12 pp_2_11_6_0_1_3_4_5_7_8_9_10 (H' := [oAL true a106 (.int 0) (.ref de) (.int 0), (de, false, .inr ((.object "java/lang/Object"), true, false, [])), oStr true s_100 (.ref b_101) (.int 0), oUE true o_108 (.ref s_1) (.null) (.ref s_98) (.ref el), oUE true a107 (.ref s_1) (.null) (.ref s_98) (.ref el), oLN false el (.ref ee) (.int 0), oStr true s_104 (.ref b_105) (.int 0), oStr true s_102 (.ref b_103) (.int 0), oStr true s_98 (.ref b_99) (.int 0), oStr true s_1 (.ref b_2) (.int 0), (ee, false, .inr ((.object "java/lang/Object"), true, false, [])), oOb false em ]) rfl ?_
        refine Wp.callV nm_M0 (rm_add_0 hw a106 de s_100 true (.ref b_101) (.int 0) _ hde) 0 rfl (mk_M_add_0 hw) (w_120 hw) (w_121 hw) (w_123 hw) (w_122 hw) (S' := "") (Or.inl rfl) (by decide) rfl rfl rfl (Wn := 0) rfl rfl (by decide) d_law_151 ?_
        rintro _ _ ⟨e_109, rfl, rfl⟩
        refine Wp.pop rfl d_law_154 ?_
        refine Wp.aload rfl rfl d_law_155 ?_
        refine Wp.aload rfl rfl d_law_157 ?_
        refine Wp.perm [4, 0, 1, 2, 3] 5 pp_4_0_1_2_3 (H' := [oUE true o_108 (.ref s_1) (.null) (.ref s_98) (.ref el), oAL true a106 (.int 1) (.ref e_109) (.int 1), eO e_109 [.ref s_100, .null, .null, .null, .null, .null, .null, .null, .null, .null], (de, false, .inr ((.object "java/lang/Object"), true, false, [])), oStr true s_100 (.ref b_101) (.int 0), oUE true a107 (.ref s_1) (.null) (.ref s_98) (.ref el), oLN false el (.ref ee) (.int 0), oStr true s_104 (.ref b_105) (.int 0), oStr true s_102 (.ref b_103) (.int 0), oStr true s_98 (.ref b_99) (.int 0), oStr true s_1 (.ref b_2) (.int 0), (ee, false, .inr ((.object "java/lang/Object"), true, false, [])), oOb false em ]) rfl ?_
        refine Wp.callV nm_M0 (rm_g0 hw o_108 (.ref s_1) .null (.ref s_98) el _ rfl rfl rfl) 0 rfl (mk_M_g0 hw) (w_149 hw) (w_150 hw) (w_152 hw) (w_151 hw) (S' := "") (Or.inl rfl) (by decide) rfl rfl rfl (Wn := 1) rfl rfl (by decide) d_law_159 ?_
        rintro _ _ ⟨rfl, rfl⟩
        refine Wp.perm [10, 0, 1, 2, 3, 4, 5, 6, 7, 8, 9] 11 pp_10_0_1_2_3_4_5_6_7_8_9 (H' := [oStr true s_1 (.ref b_2) (.int 0), oUE true o_108 (.ref s_1) (.null) (.ref s_98) (.ref el), oAL true a106 (.int 1) (.ref e_109) (.int 1), eO e_109 [.ref s_100, .null, .null, .null, .null, .null, .null, .null, .null, .null], (de, false, .inr ((.object "java/lang/Object"), true, false, [])), oStr true s_100 (.ref b_101) (.int 0), oUE true a107 (.ref s_1) (.null) (.ref s_98) (.ref el), oLN false el (.ref ee) (.int 0), oStr true s_104 (.ref b_105) (.int 0), oStr true s_102 (.ref b_103) (.int 0), oStr true s_98 (.ref b_99) (.int 0), (ee, false, .inr ((.object "java/lang/Object"), true, false, [])), oOb false em ]) rfl ?_
        refine Wp.callS nm_M0 (rm_eqS hw s_1 true (.ref b_2) (.int 0) _ ) (mk_M_eqS hw) (w_154 hw) (w_155 hw) rfl rfl (Wn := 0) rfl rfl (by decide) d_law_162 ?_
        rintro _ _ ⟨rfl, rfl⟩
        refine Wp.ifT (by decide) d_law_165 ?_
        refine Wp.aload rfl rfl d_law_170 ?_
        refine Wp.aload rfl rfl d_law_172 ?_
        refine Wp.perm [1, 0] 2 pp_1_0 (H' := [oUE true o_108 (.ref s_1) (.null) (.ref s_98) (.ref el), oStr true s_1 (.ref b_2) (.int 0), oAL true a106 (.int 1) (.ref e_109) (.int 1), eO e_109 [.ref s_100, .null, .null, .null, .null, .null, .null, .null, .null, .null], (de, false, .inr ((.object "java/lang/Object"), true, false, [])), oStr true s_100 (.ref b_101) (.int 0), oUE true a107 (.ref s_1) (.null) (.ref s_98) (.ref el), oLN false el (.ref ee) (.int 0), oStr true s_104 (.ref b_105) (.int 0), oStr true s_102 (.ref b_103) (.int 0), oStr true s_98 (.ref b_99) (.int 0), (ee, false, .inr ((.object "java/lang/Object"), true, false, [])), oOb false em ]) rfl ?_
        refine Wp.callV nm_M0 (rm_g1 hw o_108 (.ref s_1) .null (.ref s_98) el _ rfl rfl rfl) 0 rfl (mk_M_g1 hw) (w_162 hw) (w_163 hw) (w_165 hw) (w_164 hw) (S' := "") (Or.inl rfl) (by decide) rfl rfl rfl (Wn := 1) rfl rfl (by decide) d_law_174 ?_
        rintro _ _ ⟨rfl, rfl⟩
        refine Wp.callS nm_M0 (rm_eqN hw  _ ) (mk_M_eqN hw) (w_154 hw) (w_155 hw) rfl rfl (Wn := 0) rfl rfl (by decide) d_law_177 ?_
        rintro _ _ ⟨rfl, rfl⟩
        refine Wp.ifT (by decide) d_law_180 ?_
        refine Wp.aload rfl rfl d_law_185 ?_
        refine Wp.aload rfl rfl d_law_187 ?_
        refine Wp.callV nm_M0 (rm_g2 hw o_108 (.ref s_1) .null (.ref s_98) el _ rfl rfl rfl) 0 rfl (mk_M_g2 hw) (w_167 hw) (w_168 hw) (w_170 hw) (w_169 hw) (S' := "") (Or.inl rfl) (by decide) rfl rfl rfl (Wn := 1) rfl rfl (by decide) d_law_189 ?_
        rintro _ _ ⟨rfl, rfl⟩
        refine Wp.perm [10, 0, 1, 2, 3, 4, 5, 6, 7, 8, 9] 11 pp_10_0_1_2_3_4_5_6_7_8_9 (H' := [oStr true s_98 (.ref b_99) (.int 0), oUE true o_108 (.ref s_1) (.null) (.ref s_98) (.ref el), oStr true s_1 (.ref b_2) (.int 0), oAL true a106 (.int 1) (.ref e_109) (.int 1), eO e_109 [.ref s_100, .null, .null, .null, .null, .null, .null, .null, .null, .null], (de, false, .inr ((.object "java/lang/Object"), true, false, [])), oStr true s_100 (.ref b_101) (.int 0), oUE true a107 (.ref s_1) (.null) (.ref s_98) (.ref el), oLN false el (.ref ee) (.int 0), oStr true s_104 (.ref b_105) (.int 0), oStr true s_102 (.ref b_103) (.int 0), (ee, false, .inr ((.object "java/lang/Object"), true, false, [])), oOb false em ]) rfl ?_
        refine Wp.callS nm_M0 (rm_eqS hw s_98 true (.ref b_99) (.int 0) _ ) (mk_M_eqS hw) (w_154 hw) (w_155 hw) rfl rfl (Wn := 0) rfl rfl (by decide) d_law_192 ?_
        rintro _ _ ⟨rfl, rfl⟩
        refine Wp.ifT (by decide) d_law_195 ?_
        refine Wp.aload rfl rfl d_law_200 ?_
        refine Wp.perm [1, 0] 2 pp_1_0 (H' := [oUE true o_108 (.ref s_1) (.null) (.ref s_98) (.ref el), oStr true s_98 (.ref b_99) (.int 0), oStr true s_1 (.ref b_2) (.int 0), oAL true a106 (.int 1) (.ref e_109) (.int 1), eO e_109 [.ref s_100, .null, .null, .null, .null, .null, .null, .null, .null, .null], (de, false, .inr ((.object "java/lang/Object"), true, false, [])), oStr true s_100 (.ref b_101) (.int 0), oUE true a107 (.ref s_1) (.null) (.ref s_98) (.ref el), oLN false el (.ref ee) (.int 0), oStr true s_104 (.ref b_105) (.int 0), oStr true s_102 (.ref b_103) (.int 0), (ee, false, .inr ((.object "java/lang/Object"), true, false, [])), oOb false em ]) rfl ?_
        refine Wp.callV nm_M0 (rm_gg hw o_108 (.ref s_1) .null (.ref s_98) el _ ) 0 rfl (mk_M_gg hw) (w_172 hw) (w_173 hw) (w_175 hw) (w_174 hw) (S' := "") (Or.inl rfl) (by decide) rfl rfl rfl (Wn := 0) rfl rfl (by decide) d_law_202 ?_
        rintro _ _ ⟨rfl, rfl⟩
        refine Wp.astore (L' := [.val (.int p0), .val (.int p1), .val (.int p2), .val (.int p3), .val (.int p4), .val (.int p5), .val (.ref s_1), .val (.null), .val (.ref s_98), .val (.int 0), .val (.ref s_100), .val (.ref s_102), .val (.ref s_104), .val (.ref a106), .val (.ref a107), .val (.ref o_108), .val (.ref el)]) rfl rfl d_law_205 ?_
        refine Wp.aload rfl rfl d_law_207 ?_
        refine Wp.perm [8, 11, 0, 1, 2, 3, 4, 5, 6, 7, 9, 10] 12 pp_8_11_0_1_2_3_4_5_6_7_9_10 (H' := [oLN false el (.ref ee) (.int 0), (ee, false, .inr ((.object "java/lang/Object"), true, false, [])), oUE true o_108 (.ref s_1) (.null) (.ref s_98) (.ref el), oStr true s_98 (.ref b_99) (.int 0), oStr true s_1 (.ref b_2) (.int 0), oAL true a106 (.int 1) (.ref e_109) (.int 1), eO e_109 [.ref s_100, .null, .null, .null, .null, .null, .null, .null, .null, .null], (de, false, .inr ((.object "java/lang/Object"), true, false, [])), oStr true s_100 (.ref b_101) (.int 0), oUE true a107 (.ref s_1) (.null) (.ref s_98) (.ref el), oStr true s_104 (.ref b_105) (.int 0), oStr true s_102 (.ref b_103) (.int 0), oOb false em ]) rfl ?_
        refine Wp.callI nm_M0 (rm_szE hw el ee _ ) 0 rfl (mk_M_szE hw) (w_177 hw) (w_178 hw) (w_179 hw) (w_180 hw) (w_181 hw) (w_182 hw) (w_183 hw) (w_97 hw) (by decide) rfl rfl rfl (Wn := 0) rfl rfl (by decide) d_law_209 ?_
        rintro _ _ ⟨rfl, rfl⟩
        refine Wp.iload rfl d_law_214 ?_
        refine Wp.icT (by decide) d_law_216 ?_
        refine Wp.iload rfl d_law_221 ?_
        refine Wp.iconst lc_1 d_law_223 ?_
        refine Wp.icT (by decide) d_law_224 ?_
        refine Wp.iload rfl d_law_245 ?_
        refine Wp.iconst lc_2 d_law_247 ?_
        refine Wp.icT (by decide) d_law_248 ?_
        refine Wp.iload rfl d_law_269 ?_
        refine Wp.iconst lc_3 d_law_271 ?_
        refine Wp.icT (by decide) d_law_272 ?_
        refine Wp.aload rfl rfl d_law_293 ?_
        refine Wp.perm [9, 0, 1, 2, 3, 4, 5, 6, 7, 8] 10 pp_9_0_1_2_3_4_5_6_7_8 (H' := [oUE true a107 (.ref s_1) (.null) (.ref s_98) (.ref el), oLN false el (.ref ee) (.int 0), (ee, false, .inr ((.object "java/lang/Object"), true, false, [])), oUE true o_108 (.ref s_1) (.null) (.ref s_98) (.ref el), oStr true s_98 (.ref b_99) (.int 0), oStr true s_1 (.ref b_2) (.int 0), oAL true a106 (.int 1) (.ref e_109) (.int 1), eO e_109 [.ref s_100, .null, .null, .null, .null, .null, .null, .null, .null, .null], (de, false, .inr ((.object "java/lang/Object"), true, false, [])), oStr true s_100 (.ref b_101) (.int 0), oStr true s_104 (.ref b_105) (.int 0), oStr true s_102 (.ref b_103) (.int 0), oOb false em ]) rfl ?_
        refine Wp.callV nm_M0 (rm_gg hw a107 (.ref s_1) .null (.ref s_98) el _ ) 0 rfl (mk_M_gg hw) (w_172 hw) (w_173 hw) (w_175 hw) (w_174 hw) (S' := "") (Or.inl rfl) (by decide) rfl rfl rfl (Wn := 0) rfl rfl (by decide) d_law_295 ?_
        rintro _ _ ⟨rfl, rfl⟩
        refine Wp.perm [1, 2, 0] 3 pp_1_2_0 (H' := [oLN false el (.ref ee) (.int 0), (ee, false, .inr ((.object "java/lang/Object"), true, false, [])), oUE true a107 (.ref s_1) (.null) (.ref s_98) (.ref el), oUE true o_108 (.ref s_1) (.null) (.ref s_98) (.ref el), oStr true s_98 (.ref b_99) (.int 0), oStr true s_1 (.ref b_2) (.int 0), oAL true a106 (.int 1) (.ref e_109) (.int 1), eO e_109 [.ref s_100, .null, .null, .null, .null, .null, .null, .null, .null, .null], (de, false, .inr ((.object "java/lang/Object"), true, false, [])), oStr true s_100 (.ref b_101) (.int 0), oStr true s_104 (.ref b_105) (.int 0), oStr true s_102 (.ref b_103) (.int 0), oOb false em ]) rfl ?_
        refine Wp.callI nm_M0 (rm_szE hw el ee _ ) 0 rfl (mk_M_szE hw) (w_177 hw) (w_178 hw) (w_179 hw) (w_180 hw) (w_181 hw) (w_182 hw) (w_183 hw) (w_97 hw) (by decide) rfl rfl rfl (Wn := 0) rfl rfl (by decide) d_law_298 ?_
        rintro _ _ ⟨rfl, rfl⟩
        refine Wp.ifF (by decide) d_law_303 ?_
        refine Wp.iconst lc_1 d_law_306 ?_
        refine Wp.goto d_law_307 ?_
        refine Wp.iretN (z := 1) (by simp) rfl (by decide) d_law_311 (by decide) (by decide) ?_
        exact rfl
      · rw [hn]
        refine Wp.istore (L' := [.val (.int p0), .val (.int p1), .val (.int p2), .val (.int p3), .val (.int p4), .val (.int p5), .val (.ref s_1), .val (.null), .val (.ref s_98), .val (.int 1), .unset, .unset, .unset, .unset, .unset, .unset, .unset]) rfl d_law_50 ?_
        refine Wp.iloadN rfl d_law_52 ?_
        refine Wp.callS nm_M0 (rm_str hw p3 _ ) (mk_M_str hw) (w_0 hw) (w_1 hw) rfl rfl (Wn := 0) rfl rfl (by decide) d_law_53 ?_
        rintro _ _ ⟨s_110, b_111, rfl, rfl⟩
        refine Wp.astore (L' := [.val (.int p0), .val (.int p1), .val (.int p2), .val (.int p3), .val (.int p4), .val (.int p5), .val (.ref s_1), .val (.null), .val (.ref s_98), .val (.int 1), .val (.ref s_110), .unset, .unset, .unset, .unset, .unset, .unset]) rfl rfl d_law_56 ?_
        refine Wp.iload rfl d_law_58 ?_
        refine Wp.callS nm_M0 (rm_str hw p4 _ ) (mk_M_str hw) (w_0 hw) (w_1 hw) rfl rfl (Wn := 0) rfl rfl (by decide) d_law_60 ?_
        rintro _ _ ⟨s_112, b_113, rfl, rfl⟩
        refine Wp.astore (L' := [.val (.int p0), .val (.int p1), .val (.int p2), .val (.int p3), .val (.int p4), .val (.int p5), .val (.ref s_1), .val (.null), .val (.ref s_98), .val (.int 1), .val (.ref s_110), .val (.ref s_112), .unset, .unset, .unset, .unset, .unset]) rfl rfl d_law_63 ?_
        refine Wp.iload rfl d_law_65 ?_
        refine Wp.callS nm_M0 (rm_str hw p5 _ ) (mk_M_str hw) (w_0 hw) (w_1 hw) rfl rfl (Wn := 0) rfl rfl (by decide) d_law_67 ?_
        rintro _ _ ⟨s_114, b_115, rfl, rfl⟩
        refine Wp.astore (L' := [.val (.int p0), .val (.int p1), .val (.int p2), .val (.int p3), .val (.int p4), .val (.int p5), .val (.ref s_1), .val (.null), .val (.ref s_98), .val (.int 1), .val (.ref s_110), .val (.ref s_112), .val (.ref s_114), .unset, .unset, .unset, .unset]) rfl rfl d_law_70 ?_
        refine Wp.newO nm_M0 (w_34 hw) (w_35 hw) (w_36 hw) (nf_oAL hw) (by decide) (by decide) d_law_72 (fun a116 => ?_)
        refine Wp.dup rfl d_law_75 ?_
        refine Wp.callC nm_M0 (rm_ali hw a116 de _ hde) (mk_M_ali hw) (w_37 hw) (w_38 hw) rfl rfl rfl rfl (Wn := 1) rfl rfl (by decide) d_law_76 ?_
        rintro _ _ ⟨rfl, rfl⟩
        refine Wp.astore (L' := [.val (.int p0), .val (.int p1), .val (.int p2), .val (.int p3), .val (.int p4), .val (.int p5), .val (.ref s_1), .val (.null), .val (.ref s_98), .val (.int 1), .val (.ref s_110), .val (.ref s_112), .val (.ref s_114), .val (.ref a116), .unset, .unset, .unset]) rfl rfl d_law_79 ?_
        refine Wp.iload rfl d_law_81 ?_
        refine Wp.iconst lc_1 d_law_83 ?_
        refine Wp.icF (by decide) d_law_84 ?_
        refine Wp.aload rfl rfl d_law_87 ?_
        refine Wp.aload rfl rfl d_law_89 ?_
        refine Wp.perm [0, 9, 3, 1, 2, 4, 5, 6, 7, 8] 10 pp_0_9_3_1_2_4_5_6_7_8 (H' := [oAL true a116 (.int 0) (.ref de) (.int 0), (de, false, .inr ((.object "java/lang/Object"), true, false, [])), oStr true s_110 (.ref b_111) (.int 0), oStr true s_114 (.ref b_115) (.int 0), oStr true s_112 (.ref b_113) (.int 0), oStr true s_98 (.ref b_99) (.int 0), oStr true s_1 (.ref b_2) (.int 0), oLN false el (.ref ee) (.int 0), (ee, false, .inr ((.object "java/lang/Object"), true, false, [])), oOb false em ]) rfl ?_
        refine Wp.callV nm_M0 (rm_add_0 hw a116 de s_110 true (.ref b_111) (.int 0) _ hde) 0 rfl (mk_M_add_0 hw) (w_120 hw) (w_121 hw) (w_123 hw) (w_122 hw) (S' := "") (Or.inl rfl) (by decide) rfl rfl rfl (Wn := 0) rfl rfl (by decide) d_law_91 ?_
        rintro _ _ ⟨e_117, rfl, rfl⟩
        refine Wp.pop rfl d_law_94 ?_
        refine Wp.iload rfl d_law_95 ?_
        refine Wp.iconst lc_2 d_law_97 ?_
        refine Wp.icT (by decide) d_law_98 ?_
        refine Wp.iload rfl d_law_109 ?_
        refine Wp.iconst lc_3 d_law_111 ?_
        refine Wp.icT (by decide) d_law_112 ?_
        refine Wp.newO nm_M0 (w_58 hw) (w_59 hw) (w_60 hw) (nf_oUE hw) (by decide) (by decide) d_law_123 (fun a118 => ?_)
        refine Wp.dup rfl d_law_126 ?_
        refine Wp.aload rfl rfl d_law_127 ?_
        refine Wp.aload rfl rfl d_law_129 ?_
        refine Wp.aload rfl rfl d_law_131 ?_
        refine Wp.perm [0, 9, 1, 2, 3, 4, 5, 6, 7, 8] 10 pp_0_9_1_2_3_4_5_6_7_8 (H' := [oUE true a118 (.null) (.null) (.null) (.null), oLN false el (.ref ee) (.int 0), oAL true a116 (.int 1) (.ref e_117) (.int 1), eO e_117 [.ref s_110, .null, .null, .null, .null, .null, .null, .null, .null, .null], (de, false, .inr ((.object "java/lang/Object"), true, false, [])), oStr true s_110 (.ref b_111) (.int 0), oStr true s_114 (.ref b_115) (.int 0), oStr true s_112 (.ref b_113) (.int 0), oStr true s_98 (.ref b_99) (.int 0), oStr true s_1 (.ref b_2) (.int 0), (ee, false, .inr ((.object "java/lang/Object"), true, false, [])), oOb false em ]) rfl ?_
        refine Wp.callC nm_M0 (rm_ue3a hw a118 (.ref s_1) .null (.ref s_98) el ee _ rfl rfl rfl hel) (mk_M_ue3a hw) (w_61 hw) (w_62 hw) rfl rfl rfl rfl (Wn := 1) rfl rfl (by decide) d_law_133 ?_
        rintro _ _ ⟨rfl, rfl⟩
        refine Wp.astore (L' := [.val (.int p0), .val (.int p1), .val (.int p2), .val (.int p3), .val (.int p4), .val (.int p5), .val (.ref s_1), .val (.null), .val (.ref s_98), .val (.int 1), .val (.ref s_110), .val (.ref s_112), .val (.ref s_114), .val (.ref a116), .val (.ref a118), .unset, .unset]) rfl rfl d_law_136 ?_
        refine Wp.aload rfl rfl d_law_138 ?_
        refine Wp.aload rfl rfl d_law_140 ?_
        refine Wp.perm [0, 2, 3, 5, 1, 4] 6 pp_0_2_3_5_1_4 (H' := [oUE true a118 (.ref s_1) (.null) (.ref s_98) (.ref el), oAL true a116 (.int 1) (.ref e_117) (.int 1), eO e_117 [.ref s_110, .null, .null, .null, .null, .null, .null, .null, .null, .null], oStr true s_110 (.ref b_111) (.int 0), oLN false el (.ref ee) (.int 0), (de, false, .inr ((.object "java/lang/Object"), true, false, [])), oStr true s_114 (.ref b_115) (.int 0), oStr true s_112 (.ref b_113) (.int 0), oStr true s_98 (.ref b_99) (.int 0), oStr true s_1 (.ref b_2) (.int 0), (ee, false, .inr ((.object "java/lang/Object"), true, false, [])), oOb false em ]) rfl ?_
        refine Wp.callV nm_M0 (rm_wg1 hw a118 (.ref s_1) .null (.ref s_98) a116 e_117 s_110 true (.ref b_111) (.int 0) el em mr _ rfl rfl rfl hel hem hmr) 0 rfl (mk_M_wg1 hw) (w_100 hw) (w_101 hw) (w_103 hw) (w_102 hw) (S' := "") (Or.inl rfl) (by decide) rfl rfl rfl (Wn := 0) rfl rfl (by decide) d_law_142 ?_
        rintro _ _ ⟨o_119, q_120, rfl, rfl⟩
        refine Wp.astore (L' := [.val (.int p0), .val (.int p1), .val (.int p2), .val (.int p3), .val (.int p4), .val (.int p5), .val (.ref s_1), .val (.null), .val (.ref s_98), .val (.int 1), .val (.ref s_110), .val (.ref s_112), .val (.ref s_114), .val (.ref a116), .val (.ref a118), .val (.ref o_119), .unset]) rfl rfl d_law_145 ?_
        refine Wp.aload rfl rfl d_law_147 ?_
        refine Wp.aload rfl rfl d_law_149 ?_
        refine Wp.perm [3, 4, 5, 0, 1, 2] 6 pp_3_4_5_0_1_2 (H' := [oAL true a116 (.int 1) (.ref e_117) (.int 1), eO e_117 [.ref s_110, .null, .null, .null, .null, .null, .null, .null, .null, .null], oStr true s_110 (.ref b_111) (.int 0), oUE true o_119 (.ref s_1) (.null) (.ref s_98) (.ref q_120), oL12 true q_120 (.ref s_110) (.ref em), oUE true a118 (.ref s_1) (.null) (.ref s_98) (.ref el), oLN false el (.ref ee) (.int 0), (de, false, .inr ((.object "java/lang/Object"), true, false, [])), oStr true s_114 (.ref b_115) (.int 0), oStr true s_112 (.ref b_113) (.int 0), oStr true s_98 (.ref b_99) (.int 0), oStr true s_1 (.ref b_2) (.int 0), (ee, false, .inr ((.object "java/lang/Object"), true, false, [])), oOb false em ]) rfl ?_
        refine Wp.callV nm_M0 (rm_add_1 hw a116 e_117 (.ref s_110) s_110 true (.ref b_111) (.int 0) _ ) 0 rfl (mk_M_add_1 hw) (w_120 hw) (w_121 hw) (w_123 hw) (w_122 hw) (S' := "") (Or.inl rfl) (by decide) rfl rfl rfl (Wn := 0) rfl rfl (by decide) d_law_151 ?_
        rintro _ _ ⟨rfl, rfl⟩
        refine Wp.pop rfl d_law_154 ?_
        refine Wp.aload rfl rfl d_law_155 ?_
        refine Wp.aload rfl rfl d_law_157 ?_
        refine Wp.perm [3, 0, 1, 2] 4 pp_3_0_1_2 (H' := [oUE true o_119 (.ref s_1) (.null) (.ref s_98) (.ref q_120), oAL true a116 (.int 2) (.ref e_117) (.int 2), eO e_117 [.ref s_110, .ref s_110, .null, .null, .null, .null, .null, .null, .null, .null], oStr true s_110 (.ref b_111) (.int 0), oL12 true q_120 (.ref s_110) (.ref em), oUE true a118 (.ref s_1) (.null) (.ref s_98) (.ref el), oLN false el (.ref ee) (.int 0), (de, false, .inr ((.object "java/lang/Object"), true, false, [])), oStr true s_114 (.ref b_115) (.int 0), oStr true s_112 (.ref b_113) (.int 0), oStr true s_98 (.ref b_99) (.int 0), oStr true s_1 (.ref b_2) (.int 0), (ee, false, .inr ((.object "java/lang/Object"), true, false, [])), oOb false em ]) rfl ?_
        refine Wp.callV nm_M0 (rm_g0 hw o_119 (.ref s_1) .null (.ref s_98) q_120 _ rfl rfl rfl) 0 rfl (mk_M_g0 hw) (w_149 hw) (w_150 hw) (w_152 hw) (w_151 hw) (S' := "") (Or.inl rfl) (by decide) rfl rfl rfl (Wn := 1) rfl rfl (by decide) d_law_159 ?_
        rintro _ _ ⟨rfl, rfl⟩
        refine Wp.perm [11, 0, 1, 2, 3, 4, 5, 6, 7, 8, 9, 10] 12 pp_11_0_1_2_3_4_5_6_7_8_9_10 (H' := [oStr true s_1 (.ref b_2) (.int 0), oUE true o_119 (.ref s_1) (.null) (.ref s_98) (.ref q_120), oAL true a116 (.int 2) (.ref e_117) (.int 2), eO e_117 [.ref s_110, .ref s_110, .null, .null, .null, .null, .null, .null, .null, .null], oStr true s_110 (.ref b_111) (.int 0), oL12 true q_120 (.ref s_110) (.ref em), oUE true a118 (.ref s_1) (.null) (.ref s_98) (.ref el), oLN false el (.ref ee) (.int 0), (de, false, .inr ((.object "java/lang/Object"), true, false, [])), oStr true s_114 (.ref b_115) (.int 0), oStr true s_112 (.ref b_113) (.int 0), oStr true s_98 (.ref b_99) (.int 0), (ee, false, .inr ((.object "java/lang/Object"), true, false, [])), oOb false em ]) rfl ?_
        refine Wp.callS nm_M0 (rm_eqS hw s_1 true (.ref b_2) (.int 0) _ ) (mk_M_eqS hw) (w_154 hw) (w_155 hw) rfl rfl (Wn := 0) rfl rfl (by decide) d_law_162 ?_
        rintro _ _ ⟨rfl, rfl⟩
        refine Wp.ifT (by decide) d_law_165 ?_
        refine Wp.aload rfl rfl d_law_170 ?_
        refine Wp.aload rfl rfl d_law_172 ?_
        refine Wp.perm [1, 0] 2 pp_1_0 (H' := [oUE true o_119 (.ref s_1) (.null) (.ref s_98) (.ref q_120), oStr true s_1 (.ref b_2) (.int 0), oAL true a116 (.int 2) (.ref e_117) (.int 2), eO e_117 [.ref s_110, .ref s_110, .null, .null, .null, .null, .null, .null, .null, .null], oStr true s_110 (.ref b_111) (.int 0), oL12 true q_120 (.ref s_110) (.ref em), oUE true a118 (.ref s_1) (.null) (.ref s_98) (.ref el), oLN false el (.ref ee) (.int 0), (de, false, .inr ((.object "java/lang/Object"), true, false, [])), oStr true s_114 (.ref b_115) (.int 0), oStr true s_112 (.ref b_113) (.int 0), oStr true s_98 (.ref b_99) (.int 0), (ee, false, .inr ((.object "java/lang/Object"), true, false, [])), oOb false em ]) rfl ?_
        refine Wp.callV nm_M0 (rm_g1 hw o_119 (.ref s_1) .null (.ref s_98) q_120 _ rfl rfl rfl) 0 rfl (mk_M_g1 hw) (w_162 hw) (w_163 hw) (w_165 hw) (w_164 hw) (S' := "") (Or.inl rfl) (by decide) rfl rfl rfl (Wn := 1) rfl rfl (by decide) d_law_174 ?_
        rintro _ _ ⟨rfl, rfl⟩
        refine Wp.callS nm_M0 (rm_eqN hw  _ ) (mk_M_eqN hw) (w_154 hw) (w_155 hw) rfl rfl (Wn := 0) rfl rfl (by decide) d_law_177 ?_
        rintro _ _ ⟨rfl, rfl⟩
        refine Wp.ifT (by decide) d_law_180 ?_
        refine Wp.aload rfl rfl d_law_185 ?_
        refine Wp.aload rfl rfl d_law_187 ?_
        refine Wp.callV nm_M0 (rm_g2 hw o_119 (.ref s_1) .null (.ref s_98) q_120 _ rfl rfl rfl) 0 rfl (mk_M_g2 hw) (w_167 hw) (w_168 hw) (w_170 hw) (w_169 hw) (S' := "") (Or.inl rfl) (by decide) rfl rfl rfl (Wn := 1) rfl rfl (by decide) d_law_189 ?_
        rintro _ _ ⟨rfl, rfl⟩
        refine Wp.perm [11, 0, 1, 2, 3, 4, 5, 6, 7, 8, 9, 10] 12 pp_11_0_1_2_3_4_5_6_7_8_9_10 (H' := [oStr true s_98 (.ref b_99) (.int 0), oUE true o_119 (.ref s_1) (.null) (.ref s_98) (.ref q_120), oStr true s_1 (.ref b_2) (.int 0), oAL true a116 (.int 2) (.ref e_117) (.int 2), eO e_117 [.ref s_110, .ref s_110, .null, .null, .null, .null, .null, .null, .null, .null], oStr true s_110 (.ref b_111) (.int 0), oL12 true q_120 (.ref s_110) (.ref em), oUE true a118 (.ref s_1) (.null) (.ref s_98) (.ref el), oLN false el (.ref ee) (.int 0), (de, false, .inr ((.object "java/lang/Object"), true, false, [])), oStr true s_114 (.ref b_115) (.int 0), oStr true s_112 (.ref b_113) (.int 0), (ee, false, .inr ((.object "java/lang/Object"), true, false, [])), oOb false em ]) rfl ?_
        refine Wp.callS nm_M0 (rm_eqS hw s_98 true (.ref b_99) (.int 0) _ ) (mk_M_eqS hw) (w_154 hw) (w_155 hw) rfl rfl (Wn := 0) rfl rfl (by decide) d_law_192 ?_
        rintro _ _ ⟨rfl, rfl⟩
        refine Wp.ifT (by decide) d_law_195 ?_
        refine Wp.aload rfl rfl d_law_200 ?_
        refine Wp.perm [1, 0] 2 pp_1_0 (H' := [oUE true o_119 (.ref s_1) (.null) (.ref s_98) (.ref q_120), oStr true s_98 (.ref b_99) (.int 0), oStr true s_1 (.ref b_2) (.int 0), oAL true a116 (.int 2) (.ref e_117) (.int 2), eO e_117 [.ref s_110, .ref s_110, .null, .null, .null, .null, .null, .null, .null, .null], oStr true s_110 (.ref b_111) (.int 0), oL12 true q_120 (.ref s_110) (.ref em), oUE true a118 (.ref s_1) (.null) (.ref s_98) (.ref el), oLN false el (.ref ee) (.int 0), (de, false, .inr ((.object "java/lang/Object"), true, false, [])), oStr true s_114 (.ref b_115) (.int 0), oStr true s_112 (.ref b_113) (.int 0), (ee, false, .inr ((.object "java/lang/Object"), true, false, [])), oOb false em ]) rfl ?_
        refine Wp.callV nm_M0 (rm_gg hw o_119 (.ref s_1) .null (.ref s_98) q_120 _ ) 0 rfl (mk_M_gg hw) (w_172 hw) (w_173 hw) (w_175 hw) (w_174 hw) (S' := "") (Or.inl rfl) (by decide) rfl rfl rfl (Wn := 0) rfl rfl (by decide) d_law_202 ?_
        rintro _ _ ⟨rfl, rfl⟩
        refine Wp.astore (L' := [.val (.int p0), .val (.int p1), .val (.int p2), .val (.int p3), .val (.int p4), .val (.int p5), .val (.ref s_1), .val (.null), .val (.ref s_98), .val (.int 1), .val (.ref s_110), .val (.ref s_112), .val (.ref s_114), .val (.ref a116), .val (.ref a118), .val (.ref o_119), .val (.ref q_120)]) rfl rfl d_law_205 ?_
        refine Wp.aload rfl rfl d_law_207 ?_
        refine Wp.perm [6, 0, 1, 2, 3, 4, 5] 7 pp_6_0_1_2_3_4_5 (H' := [oL12 true q_120 (.ref s_110) (.ref em), oUE true o_119 (.ref s_1) (.null) (.ref s_98) (.ref q_120), oStr true s_98 (.ref b_99) (.int 0), oStr true s_1 (.ref b_2) (.int 0), oAL true a116 (.int 2) (.ref e_117) (.int 2), eO e_117 [.ref s_110, .ref s_110, .null, .null, .null, .null, .null, .null, .null, .null], oStr true s_110 (.ref b_111) (.int 0), oUE true a118 (.ref s_1) (.null) (.ref s_98) (.ref el), oLN false el (.ref ee) (.int 0), (de, false, .inr ((.object "java/lang/Object"), true, false, [])), oStr true s_114 (.ref b_115) (.int 0), oStr true s_112 (.ref b_113) (.int 0), (ee, false, .inr ((.object "java/lang/Object"), true, false, [])), oOb false em ]) rfl ?_
        refine Wp.callI nm_M0 (rm_sz1 hw q_120 s_110 em _ hem) 0 rfl (mk_M_sz1 hw) (w_177 hw) (w_178 hw) (w_179 hw) (w_250 hw) (w_251 hw) (w_252 hw) (w_253 hw) (w_254 hw) (by decide) rfl rfl rfl (Wn := 0) rfl rfl (by decide) d_law_209 ?_
        rintro _ _ ⟨rfl, rfl⟩
        refine Wp.iload rfl d_law_214 ?_
        refine Wp.icT (by decide) d_law_216 ?_
        refine Wp.iload rfl d_law_221 ?_
        refine Wp.iconst lc_1 d_law_223 ?_
        refine Wp.icF (by decide) d_law_224 ?_
        refine Wp.aload rfl rfl d_law_227 ?_
        refine Wp.aload rfl rfl d_law_229 ?_
        refine Wp.iconst lc_0 d_law_231 ?_
        refine Wp.callI nm_M0 (rm_gt0 hw q_120 s_110 em _ ) 0 rfl (mk_M_gt0 hw) (w_257 hw) (w_258 hw) (w_259 hw) (w_260 hw) (w_261 hw) (w_262 hw) (w_263 hw) (w_254 hw) (by decide) rfl rfl rfl (Wn := 1) rfl rfl (by decide) d_law_232 ?_
        rintro _ _ ⟨rfl, rfl⟩
        refine Wp.perm [6, 0, 1, 2, 3, 4, 5] 7 pp_6_0_1_2_3_4_5 (H' := [oStr true s_110 (.ref b_111) (.int 0), oL12 true q_120 (.ref s_110) (.ref em), oUE true o_119 (.ref s_1) (.null) (.ref s_98) (.ref q_120), oStr true s_98 (.ref b_99) (.int 0), oStr true s_1 (.ref b_2) (.int 0), oAL true a116 (.int 2) (.ref e_117) (.int 2), eO e_117 [.ref s_110, .ref s_110, .null, .null, .null, .null, .null, .null, .null, .null], oUE true a118 (.ref s_1) (.null) (.ref s_98) (.ref el), oLN false el (.ref ee) (.int 0), (de, false, .inr ((.object "java/lang/Object"), true, false, [])), oStr true s_114 (.ref b_115) (.int 0), oStr true s_112 (.ref b_113) (.int 0), (ee, false, .inr ((.object "java/lang/Object"), true, false, [])), oOb false em ]) rfl ?_
        refine Wp.callV nm_M0 (rm_seS hw s_110 true (.ref b_111) (.int 0) _ ) 0 rfl (mk_M_seS hw) (w_157 hw) (w_158 hw) (w_160 hw) (w_159 hw) (S' := "") (Or.inl rfl) (by decide) rfl rfl rfl (Wn := 0) rfl rfl (by decide) d_law_237 ?_
        rintro _ _ ⟨rfl, rfl⟩
        refine Wp.ifT (by decide) d_law_240 ?_
        refine Wp.iload rfl d_law_245 ?_
        refine Wp.iconst lc_2 d_law_247 ?_
        refine Wp.icT (by decide) d_law_248 ?_
        refine Wp.iload rfl d_law_269 ?_
        refine Wp.iconst lc_3 d_law_271 ?_
        refine Wp.icT (by decide) d_law_272 ?_
        refine Wp.aload rfl rfl d_law_293 ?_
        refine Wp.perm [7, 0, 1, 2, 3, 4, 5, 6] 8 pp_7_0_1_2_3_4_5_6 (H' := [oUE true a118 (.ref s_1) (.null) (.ref s_98) (.ref el), oStr true s_110 (.ref b_111) (.int 0), oL12 true q_120 (.ref s_110) (.ref em), oUE true o_119 (.ref s_1) (.null) (.ref s_98) (.ref q_120), oStr true s_98 (.ref b_99) (.int 0), oStr true s_1 (.ref b_2) (.int 0), oAL true a116 (.int 2) (.ref e_117) (.int 2), eO e_117 [.ref s_110, .ref s_110, .null, .null, .null, .null, .null, .null, .null, .null], oLN false el (.ref ee) (.int 0), (de, false, .inr ((.object "java/lang/Object"), true, false, [])), oStr true s_114 (.ref b_115) (.int 0), oStr true s_112 (.ref b_113) (.int 0), (ee, false, .inr ((.object "java/lang/Object"), true, false, [])), oOb false em ]) rfl ?_
        refine Wp.callV nm_M0 (rm_gg hw a118 (.ref s_1) .null (.ref s_98) el _ ) 0 rfl (mk_M_gg hw) (w_172 hw) (w_173 hw) (w_175 hw) (w_174 hw) (S' := "") (Or.inl rfl) (by decide) rfl rfl rfl (Wn := 0) rfl rfl (by decide) d_law_295 ?_
        rintro _ _ ⟨rfl, rfl⟩
        refine Wp.perm [8, 12, 0, 1, 2, 3, 4, 5, 6, 7, 9, 10, 11] 13 pp_8_12_0_1_2_3_4_5_6_7_9_10_11 (H' := [oLN false el (.ref ee) (.int 0), (ee, false, .inr ((.object "java/lang/Object"), true, false, [])), oUE true a118 (.ref s_1) (.null) (.ref s_98) (.ref el), oStr true s_110 (.ref b_111) (.int 0), oL12 true q_120 (.ref s_110) (.ref em), oUE true o_119 (.ref s_1) (.null) (.ref s_98) (.ref q_120), oStr true s_98 (.ref b_99) (.int 0), oStr true s_1 (.ref b_2) (.int 0), oAL true a116 (.int 2) (.ref e_117) (.int 2), eO e_117 [.ref s_110, .ref s_110, .null, .null, .null, .null, .null, .null, .null, .null], (de, false, .inr ((.object "java/lang/Object"), true, false, [])), oStr true s_114 (.ref b_115) (.int 0), oStr true s_112 (.ref b_113) (.int 0), oOb false em ]) rfl ?_
        refine Wp.callI nm_M0 (rm_szE hw el ee _ ) 0 rfl (mk_M_szE hw) (w_177 hw) (w_178 hw) (w_179 hw) (w_180 hw) (w_181 hw) (w_182 hw) (w_183 hw) (w_97 hw) (by decide) rfl rfl rfl (Wn := 0) rfl rfl (by decide) d_law_298 ?_
        rintro _ _ ⟨rfl, rfl⟩
        refine Wp.ifF (by decide) d_law_303 ?_
        refine Wp.iconst lc_1 d_law_306 ?_
        refine Wp.goto d_law_307 ?_
        refine Wp.iretN (z := 1) (by simp) rfl (by decide) d_law_311 (by decide) (by decide) ?_
        exact rfl
      · rw [hn]
        refine Wp.istore (L' := [.val (.int p0), .val (.int p1), .val (.int p2), .val (.int p3), .val (.int p4), .val (.int p5), .val (.ref s_1), .val (.null), .val (.ref s_98), .val (.int 2), .unset, .unset, .unset, .unset, .unset, .unset, .unset]) rfl d_law_50 ?_
        refine Wp.iloadN rfl d_law_52 ?_
        refine Wp.callS nm_M0 (rm_str hw p3 _ ) (mk_M_str hw) (w_0 hw) (w_1 hw) rfl rfl (Wn := 0) rfl rfl (by decide) d_law_53 ?_
        rintro _ _ ⟨s_121, b_122, rfl, rfl⟩
        refine Wp.astore (L' := [.val (.int p0), .val (.int p1), .val (.int p2), .val (.int p3), .val (.int p4), .val (.int p5), .val (.ref s_1), .val (.null), .val (.ref s_98), .val (.int 2), .val (.ref s_121), .unset, .unset, .unset, .unset, .unset, .unset]) rfl rfl d_law_56 ?_
        refine Wp.iload rfl d_law_58 ?_
        refine Wp.callS nm_M0 (rm_str hw p4 _ ) (mk_M_str hw) (w_0 hw) (w_1 hw) rfl rfl (Wn := 0) rfl rfl (by decide) d_law_60 ?_
        rintro _ _ ⟨s_123, b_124, rfl, rfl⟩
        refine Wp.astore (L' := [.val (.int p0), .val (.int p1), .val (.int p2), .val (.int p3), .val (.int p4), .val (.int p5), .val (.ref s_1), .val (.null), .val (.ref s_98), .val (.int 2), .val (.ref s_121), .val (.ref s_123), .unset, .unset, .unset, .unset, .unset]) rfl rfl d_law_63 ?_
        refine Wp.iload rfl d_law_65 ?_
        refine Wp.callS nm_M0 (rm_str hw p5 _ ) (mk_M_str hw) (w_0 hw) (w_1 hw) rfl rfl (Wn := 0) rfl rfl (by decide) d_law_67 ?_
        rintro _ _ ⟨s_125, b_126, rfl, rfl⟩
        refine Wp.astore (L' := [.val (.int p0), .val (.int p1), .val (.int p2), .val (.int p3), .val (.int p4), .val (.int p5), .val (.ref s_1), .val (.null), .val (.ref s_98), .val (.int 2), .val (.ref s_121), .val (.ref s_123), .val (.ref s_125), .unset, .unset, .unset, .unset]) rfl rfl d_law_70 ?_
        refine Wp.newO nm_M0 (w_34 hw) (w_35 hw) (w_36 hw) (nf_oAL hw) (by decide) (by decide) d_law_72 (fun a127 => ?_)
        refine Wp.dup rfl d_law_75 ?_
        refine Wp.callC nm_M0 (rm_ali hw a127 de _ hde) (mk_M_ali hw) (w_37 hw) (w_38 hw) rfl rfl rfl rfl (Wn := 1) rfl rfl (by decide) d_law_76 ?_
        rintro _ _ ⟨rfl, rfl⟩
        refine Wp.astore (L' := [.val (.int p0), .val (.int p1), .val (.int p2), .val (.int p3), .val (.int p4), .val (.int p5), .val (.ref s_1), .val (.null), .val (.ref s_98), .val (.int 2), .val (.ref s_121), .val (.ref s_123), .val (.ref s_125), .val (.ref a127), .unset, .unset, .unset]) rfl rfl d_law_79 ?_
        refine Wp.iload rfl d_law_81 ?_
        refine Wp.iconst lc_1 d_law_83 ?_
        refine Wp.icF (by decide) d_law_84 ?_
        refine Wp.aload rfl rfl d_law_87 ?_
        refine Wp.aload rfl rfl d_law_89 ?_
        refine Wp.perm [0, 9, 3, 1, 2, 4, 5, 6, 7, 8] 10 pp_0_9_3_1_2_4_5_6_7_8 (H' := [oAL true a127 (.int 0) (.ref de) (.int 0), (de, false, .inr ((.object "java/lang/Object"), true, false, [])), oStr true s_121 (.ref b_122) (.int 0), oStr true s_125 (.ref b_126) (.int 0), oStr true s_123 (.ref b_124) (.int 0), oStr true s_98 (.ref b_99) (.int 0), oStr true s_1 (.ref b_2) (.int 0), oLN false el (.ref ee) (.int 0), (ee, false, .inr ((.object "java/lang/Object"), true, false, [])), oOb false em ]) rfl ?_
        refine Wp.callV nm_M0 (rm_add_0 hw a127 de s_121 true (.ref b_122) (.int 0) _ hde) 0 rfl (mk_M_add_0 hw) (w_120 hw) (w_121 hw) (w_123 hw) (w_122 hw) (S' := "") (Or.inl rfl) (by decide) rfl rfl rfl (Wn := 0) rfl rfl (by decide) d_law_91 ?_
        rintro _ _ ⟨e_128, rfl, rfl⟩
        refine Wp.pop rfl d_law_94 ?_
        refine Wp.iload rfl d_law_95 ?_
        refine Wp.iconst lc_2 d_law_97 ?_
        refine Wp.icF (by decide) d_law_98 ?_
        refine Wp.aload rfl rfl d_law_101 ?_
        refine Wp.aload rfl rfl d_law_103 ?_
        refine Wp.perm [0, 1, 5, 2, 3, 4] 6 pp_0_1_5_2_3_4 (H' := [oAL true a127 (.int 1) (.ref e_128) (.int 1), eO e_128 [.ref s_121, .null, .null, .null, .null, .null, .null, .null, .null, .null], oStr true s_123 (.ref b_124) (.int 0), (de, false, .inr ((.object "java/lang/Object"), true, false, [])), oStr true s_121 (.ref b_122) (.int 0), oStr true s_125 (.ref b_126) (.int 0), oStr true s_98 (.ref b_99) (.int 0), oStr true s_1 (.ref b_2) (.int 0), oLN false el (.ref ee) (.int 0), (ee, false, .inr ((.object "java/lang/Object"), true, false, [])), oOb false em ]) rfl ?_
        refine Wp.callV nm_M0 (rm_add_1 hw a127 e_128 (.ref s_121) s_123 true (.ref b_124) (.int 0) _ ) 0 rfl (mk_M_add_1 hw) (w_120 hw) (w_121 hw) (w_123 hw) (w_122 hw) (S' := "") (Or.inl rfl) (by decide) rfl rfl rfl (Wn := 0) rfl rfl (by decide) d_law_105 ?_
        rintro _ _ ⟨rfl, rfl⟩
        refine Wp.pop rfl d_law_108 ?_
        refine Wp.iload rfl d_law_109 ?_
        refine Wp.iconst lc_3 d_law_111 ?_
        refine Wp.icT (by decide) d_law_112 ?_
        refine Wp.newO nm_M0 (w_58 hw) (w_59 hw) (w_60 hw) (nf_oUE hw) (by decide) (by decide) d_law_123 (fun a129 => ?_)
        refine Wp.dup rfl d_law_126 ?_
        refine Wp.aload rfl rfl d_law_127 ?_
        refine Wp.aload rfl rfl d_law_129 ?_
        refine Wp.aload rfl rfl d_law_131 ?_
        refine Wp.perm [0, 9, 1, 2, 3, 4, 5, 6, 7, 8] 10 pp_0_9_1_2_3_4_5_6_7_8 (H' := [oUE true a129 (.null) (.null) (.null) (.null), oLN false el (.ref ee) (.int 0), oAL true a127 (.int 2) (.ref e_128) (.int 2), eO e_128 [.ref s_121, .ref s_123, .null, .null, .null, .null, .null, .null, .null, .null], oStr true s_123 (.ref b_124) (.int 0), (de, false, .inr ((.object "java/lang/Object"), true, false, [])), oStr true s_121 (.ref b_122) (.int 0), oStr true s_125 (.ref b_126) (.int 0), oStr true s_98 (.ref b_99) (.int 0), oStr true s_1 (.ref b_2) (.int 0), (ee, false, .inr ((.object "java/lang/Object"), true, false, [])), oOb false em ]) rfl ?_
        refine Wp.callC nm_M0 (rm_ue3a hw a129 (.ref s_1) .null (.ref s_98) el ee _ rfl rfl rfl hel) (mk_M_ue3a hw) (w_61 hw) (w_62 hw) rfl rfl rfl rfl (Wn := 1) rfl rfl (by decide) d_law_133 ?_
        rintro _ _ ⟨rfl, rfl⟩
        refine Wp.astore (L' := [.val (.int p0), .val (.int p1), .val (.int p2), .val (.int p3), .val (.int p4), .val (.int p5), .val (.ref s_1), .val (.null), .val (.ref s_98), .val (.int 2), .val (.ref s_121), .val (.ref s_123), .val (.ref s_125), .val (.ref a127), .val (.ref a129), .unset, .unset]) rfl rfl d_law_136 ?_
        refine Wp.aload rfl rfl d_law_138 ?_
        refine Wp.aload rfl rfl d_law_140 ?_
        refine Wp.perm [0, 2, 3, 6, 4, 1, 5] 7 pp_0_2_3_6_4_1_5 (H' := [oUE true a129 (.ref s_1) (.null) (.ref s_98) (.ref el), oAL true a127 (.int 2) (.ref e_128) (.int 2), eO e_128 [.ref s_121, .ref s_123, .null, .null, .null, .null, .null, .null, .null, .null], oStr true s_121 (.ref b_122) (.int 0), oStr true s_123 (.ref b_124) (.int 0), oLN false el (.ref ee) (.int 0), (de, false, .inr ((.object "java/lang/Object"), true, false, [])), oStr true s_125 (.ref b_126) (.int 0), oStr true s_98 (.ref b_99) (.int 0), oStr true s_1 (.ref b_2) (.int 0), (ee, false, .inr ((.object "java/lang/Object"), true, false, [])), oOb false em ]) rfl ?_
        refine Wp.callV nm_M0 (rm_wg2 hw a129 (.ref s_1) .null (.ref s_98) a127 e_128 s_121 true (.ref b_122) (.int 0) s_123 true (.ref b_124) (.int 0) el em mr _ rfl rfl rfl hel hem hmr) 0 rfl (mk_M_wg2 hw) (w_100 hw) (w_101 hw) (w_103 hw) (w_102 hw) (S' := "") (Or.inl rfl) (by decide) rfl rfl rfl (Wn := 0) rfl rfl (by decide) d_law_142 ?_
        rintro _ _ ⟨o_130, q_131, rfl, rfl⟩
        refine Wp.astore (L' := [.val (.int p0), .val (.int p1), .val (.int p2), .val (.int p3), .val (.int p4), .val (.int p5), .val (.ref s_1), .val (.null), .val (.ref s_98), .val (.int 2), .val (.ref s_121), .val (.ref s_123), .val (.ref s_125), .val (.ref a127), .val (.ref a129), .val (.ref o_130), .unset]) rfl rfl d_law_145 ?_
        refine Wp.aload rfl rfl d_law_147 ?_
        refine Wp.aload rfl rfl d_law_149 ?_
        refine Wp.perm [3, 4, 5, 0, 1, 2] 6 pp_3_4_5_0_1_2 (H' := [oAL true a127 (.int 2) (.ref e_128) (.int 2), eO e_128 [.ref s_121, .ref s_123, .null, .null, .null, .null, .null, .null, .null, .null], oStr true s_121 (.ref b_122) (.int 0), oUE true o_130 (.ref s_1) (.null) (.ref s_98) (.ref q_131), oL12 true q_131 (.ref s_121) (.ref s_123), oUE true a129 (.ref s_1) (.null) (.ref s_98) (.ref el), oStr true s_123 (.ref b_124) (.int 0), oLN false el (.ref ee) (.int 0), (de, false, .inr ((.object "java/lang/Object"), true, false, [])), oStr true s_125 (.ref b_126) (.int 0), oStr true s_98 (.ref b_99) (.int 0), oStr true s_1 (.ref b_2) (.int 0), (ee, false, .inr ((.object "java/lang/Object"), true, false, [])), oOb false em ]) rfl ?_
        refine Wp.callV nm_M0 (rm_add_2 hw a127 e_128 (.ref s_121) (.ref s_123) s_121 true (.ref b_122) (.int 0) _ ) 0 rfl (mk_M_add_2 hw) (w_120 hw) (w_121 hw) (w_123 hw) (w_122 hw) (S' := "") (Or.inl rfl) (by decide) rfl rfl rfl (Wn := 0) rfl rfl (by decide) d_law_151 ?_
        rintro _ _ ⟨rfl, rfl⟩
        refine Wp.pop rfl d_law_154 ?_
        refine Wp.aload rfl rfl d_law_155 ?_
        refine Wp.aload rfl rfl d_law_157 ?_
        refine Wp.perm [3, 0, 1, 2] 4 pp_3_0_1_2 (H' := [oUE true o_130 (.ref s_1) (.null) (.ref s_98) (.ref q_131), oAL true a127 (.int 3) (.ref e_128) (.int 3), eO e_128 [.ref s_121, .ref s_123, .ref s_121, .null, .null, .null, .null, .null, .null, .null], oStr true s_121 (.ref b_122) (.int 0), oL12 true q_131 (.ref s_121) (.ref s_123), oUE true a129 (.ref s_1) (.null) (.ref s_98) (.ref el), oStr true s_123 (.ref b_124) (.int 0), oLN false el (.ref ee) (.int 0), (de, false, .inr ((.object "java/lang/Object"), true, false, [])), oStr true s_125 (.ref b_126) (.int 0), oStr true s_98 (.ref b_99) (.int 0), oStr true s_1 (.ref b_2) (.int 0), (ee, false, .inr ((.object "java/lang/Object"), true, false, [])), oOb false em ]) rfl ?_
        refine Wp.callV nm_M0 (rm_g0 hw o_130 (.ref s_1) .null (.ref s_98) q_131 _ rfl rfl rfl) 0 rfl (mk_M_g0 hw) (w_149 hw) (w_150 hw) (w_152 hw) (w_151 hw) (S' := "") (Or.inl rfl) (by decide) rfl rfl rfl (Wn := 1) rfl rfl (by decide) d_law_159 ?_
        rintro _ _ ⟨rfl, rfl⟩
        refine Wp.perm [11, 0, 1, 2, 3, 4, 5, 6, 7, 8, 9, 10] 12 pp_11_0_1_2_3_4_5_6_7_8_9_10 (H' := [oStr true s_1 (.ref b_2) (.int 0), oUE true o_130 (.ref s_1) (.null) (.ref s_98) (.ref q_131), oAL true a127 (.int 3) (.ref e_128) (.int 3), eO e_128 [.ref s_121, .ref s_123, .ref s_121, .null, .null, .null, .null, .null, .null, .null], oStr true s_121 (.ref b_122) (.int 0), oL12 true q_131 (.ref s_121) (.ref s_123), oUE true a129 (.ref s_1) (.null) (.ref s_98) (.ref el), oStr true s_123 (.ref b_124) (.int 0), oLN false el (.ref ee) (.int 0), (de, false, .inr ((.object "java/lang/Object"), true, false, [])), oStr true s_125 (.ref b_126) (.int 0), oStr true s_98 (.ref b_99) (.int 0), (ee, false, .inr ((.object "java/lang/Object"), true, false, [])), oOb false em ]) rfl ?_
        refine Wp.callS nm_M0 (rm_eqS hw s_1 true (.ref b_2) (.int 0) _ ) (mk_M_eqS hw) (w_154 hw) (w_155 hw) rfl rfl (Wn := 0) rfl rfl (by decide) d_law_162 ?_
        rintro _ _ ⟨rfl, rfl⟩
        refine Wp.ifT (by decide) d_law_165 ?_
        refine Wp.aload rfl rfl d_law_170 ?_
        refine Wp.aload rfl rfl d_law_172 ?_
        refine Wp.perm [1, 0] 2 pp_1_0 (H' := [oUE true o_130 (.ref s_1) (.null) (.ref s_98) (.ref q_131), oStr true s_1 (.ref b_2) (.int 0), oAL true a127 (.int 3) (.ref e_128) (.int 3), eO e_128 [.ref s_121, .ref s_123, .ref s_121, .null, .null, .null, .null, .null, .null, .null], oStr true s_121 (.ref b_122) (.int 0), oL12 true q_131 (.ref s_121) (.ref s_123), oUE true a129 (.ref s_1) (.null) (.ref s_98) (.ref el), oStr true s_123 (.ref b_124) (.int 0), oLN false el (.ref ee) (.int 0), (de, false, .inr ((.object "java/lang/Object"), true, false, [])), oStr true s_125 (.ref b_126) (.int 0), oStr true s_98 (.ref b_99) (.int 0), (ee, false, .inr ((.object "java/lang/Object"), true, false, [])), oOb false em ]) rfl ?_
        refine Wp.callV nm_M0 (rm_g1 hw o_130 (.ref s_1) .null (.ref s_98) q_131 _ rfl rfl rfl) 0 rfl (mk_M_g1 hw) (w_162 hw) (w_163 hw) (w_165 hw) (w_164 hw) (S' := "") (Or.inl rfl) (by decide) rfl rfl rfl (Wn := 1) rfl rfl (by decide) d_law_174 ?_
        rintro _ _ ⟨rfl, rfl⟩
        refine Wp.callS nm_M0 (rm_eqN hw  _ ) (mk_M_eqN hw) (w_154 hw) (w_155 hw) rfl rfl (Wn := 0) rfl rfl (by decide) d_law_177 ?_
        rintro _ _ ⟨rfl, rfl⟩
        refine Wp.ifT (by decide) d_law_180 ?_
        refine Wp.aload rfl rfl d_law_185 ?_
        refine Wp.aload rfl rfl d_law_187 ?_
        refine Wp.callV nm_M0 (rm_g2 hw o_130 (.ref s_1) .null (.ref s_98) q_131 _ rfl rfl rfl) 0 rfl (mk_M_g2 hw) (w_167 hw) (w_168 hw) (w_170 hw) (w_169 hw) (S' := "") (Or.inl rfl) (by decide) rfl rfl rfl (Wn := 1) rfl rfl (by decide) d_law_189 ?_
        rintro _ _ ⟨rfl, rfl⟩
        refine Wp.perm [11, 0, 1, 2, 3, 4, 5, 6, 7, 8, 9, 10] 12 pp_11_0_1_2_3_4_5_6_7_8_9_10 (H' := [oStr true s_98 (.ref b_99) (.int 0), oUE true o_130 (.ref s_1) (.null) (.ref s_98) (.ref q_131), oStr true s_1 (.ref b_2) (.int 0), oAL true a127 (.int 3) (.ref e_128) (.int 3), eO e_128 [.ref s_121, .ref s_123, .ref s_121, .null, .null, .null, .null, .null, .null, .null], oStr true s_121 (.ref b_122) (.int 0), oL12 true q_131 (.ref s_121) (.ref s_123), oUE true a129 (.ref s_1) (.null) (.ref s_98) (.ref el), oStr true s_123 (.ref b_124) (.int 0), oLN false el (.ref ee) (.int 0), (de, false, .inr ((.object "java/lang/Object"), true, false, [])), oStr true s_125 (.ref b_126) (.int 0), (ee, false, .inr ((.object "java/lang/Object"), true, false, [])), oOb false em ]) rfl ?_
        refine Wp.callS nm_M0 (rm_eqS hw s_98 true (.ref b_99) (.int 0) _ ) (mk_M_eqS hw) (w_154 hw) (w_155 hw) rfl rfl (Wn := 0) rfl rfl (by decide) d_law_192 ?_
        rintro _ _ ⟨rfl, rfl⟩
        refine Wp.ifT (by decide) d_law_195 ?_
        refine Wp.aload rfl rfl d_law_200 ?_
        refine Wp.perm [1, 0] 2 pp_1_0 (H' := [oUE true o_130 (.ref s_1) (.null) (.ref s_98) (.ref q_131), oStr true s_98 (.ref b_99) (.int 0), oStr true s_1 (.ref b_2) (.int 0), oAL true a127 (.int 3) (.ref e_128) (.int 3), eO e_128 [.ref s_121, .ref s_123, .ref s_121, .null, .null, .null, .null, .null, .null, .null], oStr true s_121 (.ref b_122) (.int 0), oL12 true q_131 (.ref s_121) (.ref s_123), oUE true a129 (.ref s_1) (.null) (.ref s_98) (.ref el), oStr true s_123 (.ref b_124) (.int 0), oLN false el (.ref ee) (.int 0), (de, false, .inr ((.object "java/lang/Object"), true, false, [])), oStr true s_125 (.ref b_126) (.int 0), (ee, false, .inr ((.object "java/lang/Object"), true, false, [])), oOb false em ]) rfl ?_
        refine Wp.callV nm_M0 (rm_gg hw o_130 (.ref s_1) .null (.ref s_98) q_131 _ ) 0 rfl (mk_M_gg hw) (w_172 hw) (w_173 hw) (w_175 hw) (w_174 hw) (S' := "") (Or.inl rfl) (by decide) rfl rfl rfl (Wn := 0) rfl rfl (by decide) d_law_202 ?_
        rintro _ _ ⟨rfl, rfl⟩
        refine Wp.astore (L' := [.val (.int p0), .val (.int p1), .val (.int p2), .val (.int p3), .val (.int p4), .val (.int p5), .val (.ref s_1), .val (.null), .val (.ref s_98), .val (.int 2), .val (.ref s_121), .val (.ref s_123), .val (.ref s_125), .val (.ref a127), .val (.ref a129), .val (.ref o_130), .val (.ref q_131)]) rfl rfl d_law_205 ?_
        refine Wp.aload rfl rfl d_law_207 ?_
        refine Wp.perm [6, 8, 13, 0, 1, 2, 3, 4, 5, 7, 9, 10, 11, 12] 14 pp_6_8_13_0_1_2_3_4_5_7_9_10_11_12 (H' := [oL12 true q_131 (.ref s_121) (.ref s_123), oStr true s_123 (.ref b_124) (.int 0), oOb false em , oUE true o_130 (.ref s_1) (.null) (.ref s_98) (.ref q_131), oStr true s_98 (.ref b_99) (.int 0), oStr true s_1 (.ref b_2) (.int 0), oAL true a127 (.int 3) (.ref e_128) (.int 3), eO e_128 [.ref s_121, .ref s_123, .ref s_121, .null, .null, .null, .null, .null, .null, .null], oStr true s_121 (.ref b_122) (.int 0), oUE true a129 (.ref s_1) (.null) (.ref s_98) (.ref el), oLN false el (.ref ee) (.int 0), (de, false, .inr ((.object "java/lang/Object"), true, false, [])), oStr true s_125 (.ref b_126) (.int 0), (ee, false, .inr ((.object "java/lang/Object"), true, false, []))]) rfl ?_
        refine Wp.callI nm_M0 (rm_sz2 hw q_131 s_121 s_123 (.ref b_124) (.int 0) em _ hem) 0 rfl (mk_M_sz2 hw) (w_177 hw) (w_178 hw) (w_179 hw) (w_250 hw) (w_251 hw) (w_252 hw) (w_253 hw) (w_254 hw) (by decide) rfl rfl rfl (Wn := 0) rfl rfl (by decide) d_law_209 ?_
        rintro _ _ ⟨rfl, rfl⟩
        refine Wp.iload rfl d_law_214 ?_
        refine Wp.icT (by decide) d_law_216 ?_
        refine Wp.iload rfl d_law_221 ?_
        refine Wp.iconst lc_1 d_law_223 ?_
        refine Wp.icF (by decide) d_law_224 ?_
        refine Wp.aload rfl rfl d_law_227 ?_
        refine Wp.aload rfl rfl d_law_229 ?_
        refine Wp.iconst lc_0 d_law_231 ?_
        refine Wp.callI nm_M0 (rm_gt0 hw q_131 s_121 s_123 _ ) 0 rfl (mk_M_gt0 hw) (w_257 hw) (w_258 hw) (w_259 hw) (w_260 hw) (w_261 hw) (w_262 hw) (w_263 hw) (w_254 hw) (by decide) rfl rfl rfl (Wn := 1) rfl rfl (by decide) d_law_232 ?_
        rintro _ _ ⟨rfl, rfl⟩
        refine Wp.perm [8, 0, 1, 2, 3, 4, 5, 6, 7] 9 pp_8_0_1_2_3_4_5_6_7 (H' := [oStr true s_121 (.ref b_122) (.int 0), oL12 true q_131 (.ref s_121) (.ref s_123), oStr true s_123 (.ref b_124) (.int 0), oOb false em , oUE true o_130 (.ref s_1) (.null) (.ref s_98) (.ref q_131), oStr true s_98 (.ref b_99) (.int 0), oStr true s_1 (.ref b_2) (.int 0), oAL true a127 (.int 3) (.ref e_128) (.int 3), eO e_128 [.ref s_121, .ref s_123, .ref s_121, .null, .null, .null, .null, .null, .null, .null], oUE true a129 (.ref s_1) (.null) (.ref s_98) (.ref el), oLN false el (.ref ee) (.int 0), (de, false, .inr ((.object "java/lang/Object"), true, false, [])), oStr true s_125 (.ref b_126) (.int 0), (ee, false, .inr ((.object "java/lang/Object"), true, false, []))]) rfl ?_
        refine Wp.callV nm_M0 (rm_seS hw s_121 true (.ref b_122) (.int 0) _ ) 0 rfl (mk_M_seS hw) (w_157 hw) (w_158 hw) (w_160 hw) (w_159 hw) (S' := "") (Or.inl rfl) (by decide) rfl rfl rfl (Wn := 0) rfl rfl (by decide) d_law_237 ?_
        rintro _ _ ⟨rfl, rfl⟩
        refine Wp.ifT (by decide) d_law_240 ?_
        refine Wp.iload rfl d_law_245 ?_
        refine Wp.iconst lc_2 d_law_247 ?_
        refine Wp.icF (by decide) d_law_248 ?_
        refine Wp.aload rfl rfl d_law_251 ?_
        refine Wp.aload rfl rfl d_law_253 ?_
        refine Wp.iconst lc_1 d_law_255 ?_
        refine Wp.perm [1, 2, 3, 0] 4 pp_1_2_3_0 (H' := [oL12 true q_131 (.ref s_121) (.ref s_123), oStr true s_123 (.ref b_124) (.int 0), oOb false em , oStr true s_121 (.ref b_122) (.int 0), oUE true o_130 (.ref s_1) (.null) (.ref s_98) (.ref q_131), oStr true s_98 (.ref b_99) (.int 0), oStr true s_1 (.ref b_2) (.int 0), oAL true a127 (.int 3) (.ref e_128) (.int 3), eO e_128 [.ref s_121, .ref s_123, .ref s_121, .null, .null, .null, .null, .null, .null, .null], oUE true a129 (.ref s_1) (.null) (.ref s_98) (.ref el), oLN false el (.ref ee) (.int 0), (de, false, .inr ((.object "java/lang/Object"), true, false, [])), oStr true s_125 (.ref b_126) (.int 0), (ee, false, .inr ((.object "java/lang/Object"), true, false, []))]) rfl ?_
        refine Wp.callI nm_M0 (rm_gt1 hw q_131 s_121 s_123 (.ref b_124) (.int 0) em _ hem) 0 rfl (mk_M_gt1 hw) (w_257 hw) (w_258 hw) (w_259 hw) (w_260 hw) (w_261 hw) (w_262 hw) (w_263 hw) (w_254 hw) (by decide) rfl rfl rfl (Wn := 1) rfl rfl (by decide) d_law_256 ?_
        rintro _ _ ⟨rfl, rfl⟩
        refine Wp.perm [1, 0] 2 pp_1_0 (H' := [oStr true s_123 (.ref b_124) (.int 0), oL12 true q_131 (.ref s_121) (.ref s_123), oOb false em , oStr true s_121 (.ref b_122) (.int 0), oUE true o_130 (.ref s_1) (.null) (.ref s_98) (.ref q_131), oStr true s_98 (.ref b_99) (.int 0), oStr true s_1 (.ref b_2) (.int 0), oAL true a127 (.int 3) (.ref e_128) (.int 3), eO e_128 [.ref s_121, .ref s_123, .ref s_121, .null, .null, .null, .null, .null, .null, .null], oUE true a129 (.ref s_1) (.null) (.ref s_98) (.ref el), oLN false el (.ref ee) (.int 0), (de, false, .inr ((.object "java/lang/Object"), true, false, [])), oStr true s_125 (.ref b_126) (.int 0), (ee, false, .inr ((.object "java/lang/Object"), true, false, []))]) rfl ?_
        refine Wp.callV nm_M0 (rm_seS hw s_123 true (.ref b_124) (.int 0) _ ) 0 rfl (mk_M_seS hw) (w_157 hw) (w_158 hw) (w_160 hw) (w_159 hw) (S' := "") (Or.inl rfl) (by decide) rfl rfl rfl (Wn := 0) rfl rfl (by decide) d_law_261 ?_
        rintro _ _ ⟨rfl, rfl⟩
        refine Wp.ifT (by decide) d_law_264 ?_
        refine Wp.iload rfl d_law_269 ?_
        refine Wp.iconst lc_3 d_law_271 ?_
        refine Wp.icT (by decide) d_law_272 ?_
        refine Wp.aload rfl rfl d_law_293 ?_
        refine Wp.perm [9, 0, 1, 2, 3, 4, 5, 6, 7, 8] 10 pp_9_0_1_2_3_4_5_6_7_8 (H' := [oUE true a129 (.ref s_1) (.null) (.ref s_98) (.ref el), oStr true s_123 (.ref b_124) (.int 0), oL12 true q_131 (.ref s_121) (.ref s_123), oOb false em , oStr true s_121 (.ref b_122) (.int 0), oUE true o_130 (.ref s_1) (.null) (.ref s_98) (.ref q_131), oStr true s_98 (.ref b_99) (.int 0), oStr true s_1 (.ref b_2) (.int 0), oAL true a127 (.int 3) (.ref e_128) (.int 3), eO e_128 [.ref s_121, .ref s_123, .ref s_121, .null, .null, .null, .null, .null, .null, .null], oLN false el (.ref ee) (.int 0), (de, false, .inr ((.object "java/lang/Object"), true, false, [])), oStr true s_125 (.ref b_126) (.int 0), (ee, false, .inr ((.object "java/lang/Object"), true, false, []))]) rfl ?_
        refine Wp.callV nm_M0 (rm_gg hw a129 (.ref s_1) .null (.ref s_98) el _ ) 0 rfl (mk_M_gg hw) (w_172 hw) (w_173 hw) (w_175 hw) (w_174 hw) (S' := "") (Or.inl rfl) (by decide) rfl rfl rfl (Wn := 0) rfl rfl (by decide) d_law_295 ?_
        rintro _ _ ⟨rfl, rfl⟩
        refine Wp.perm [10, 13, 0, 1, 2, 3, 4, 5, 6, 7, 8, 9, 11, 12] 14 pp_10_13_0_1_2_3_4_5_6_7_8_9_11_12 (H' := [oLN false el (.ref ee) (.int 0), (ee, false, .inr ((.object "java/lang/Object"), true, false, [])), oUE true a129 (.ref s_1) (.null) (.ref s_98) (.ref el), oStr true s_123 (.ref b_124) (.int 0), oL12 true q_131 (.ref s_121) (.ref s_123), oOb false em , oStr true s_121 (.ref b_122) (.int 0), oUE true o_130 (.ref s_1) (.null) (.ref s_98) (.ref q_131), oStr true s_98 (.ref b_99) (.int 0), oStr true s_1 (.ref b_2) (.int 0), oAL true a127 (.int 3) (.ref e_128) (.int 3), eO e_128 [.ref s_121, .ref s_123, .ref s_121, .null, .null, .null, .null, .null, .null, .null], (de, false, .inr ((.object "java/lang/Object"), true, false, [])), oStr true s_125 (.ref b_126) (.int 0)]) rfl ?_
        refine Wp.callI nm_M0 (rm_szE hw el ee _ ) 0 rfl (mk_M_szE hw) (w_177 hw) (w_178 hw) (w_179 hw) (w_180 hw) (w_181 hw) (w_182 hw) (w_183 hw) (w_97 hw) (by decide) rfl rfl rfl (Wn := 0) rfl rfl (by decide) d_law_298 ?_
        rintro _ _ ⟨rfl, rfl⟩
        refine Wp.ifF (by decide) d_law_303 ?_
        refine Wp.iconst lc_1 d_law_306 ?_
        refine Wp.goto d_law_307 ?_
        refine Wp.iretN (z := 1) (by simp) rfl (by decide) d_law_311 (by decide) (by decide) ?_
        exact rfl
      · rw [hn]
        refine Wp.istore (L' := [.val (.int p0), .val (.int p1), .val (.int p2), .val (.int p3), .val (.int p4), .val (.int p5), .val (.ref s_1), .val (.null), .val (.ref s_98), .val (.int 3), .unset, .unset, .unset, .unset, .unset, .unset, .unset]) rfl d_law_50 ?_
        refine Wp.iloadN rfl d_law_52 ?_
        refine Wp.callS nm_M0 (rm_str hw p3 _ ) (mk_M_str hw) (w_0 hw) (w_1 hw) rfl rfl (Wn := 0) rfl rfl (by decide) d_law_53 ?_
        rintro _ _ ⟨s_132, b_133, rfl, rfl⟩
        refine Wp.astore (L' := [.val (.int p0), .val (.int p1), .val (.int p2), .val (.int p3), .val (.int p4), .val (.int p5), .val (.ref s_1), .val (.null), .val (.ref s_98), .val (.int 3), .val (.ref s_132), .unset, .unset, .unset, .unset, .unset, .unset]) rfl rfl d_law_56 ?_
        refine Wp.iload rfl d_law_58 ?_
        refine Wp.callS nm_M0 (rm_str hw p4 _ ) (mk_M_str hw) (w_0 hw) (w_1 hw) rfl rfl (Wn := 0) rfl rfl (by decide) d_law_60 ?_
        rintro _ _ ⟨s_134, b_135, rfl, rfl⟩
        refine Wp.astore (L' := [.val (.int p0), .val (.int p1), .val (.int p2), .val (.int p3), .val (.int p4), .val (.int p5), .val (.ref s_1), .val (.null), .val (.ref s_98), .val (.int 3), .val (.ref s_132), .val (.ref s_134), .unset, .unset, .unset, .unset, .unset]) rfl rfl d_law_63 ?_
        refine Wp.iload rfl d_law_65 ?_
        refine Wp.callS nm_M0 (rm_str hw p5 _ ) (mk_M_str hw) (w_0 hw) (w_1 hw) rfl rfl (Wn := 0) rfl rfl (by decide) d_law_67 ?_
        rintro _ _ ⟨s_136, b_137, rfl, rfl⟩
        refine Wp.astore (L' := [.val (.int p0), .val (.int p1), .val (.int p2), .val (.int p3), .val (.int p4), .val (.int p5), .val (.ref s_1), .val (.null), .val (.ref s_98), .val (.int 3), .val (.ref s_132), .val (.ref s_134), .val (.ref s_136), .unset, .unset, .unset, .unset]) rfl rfl d_law_70 ?_
        refine Wp.newO nm_M0 (w_34 hw) (w_35 hw) (w_36 hw) (nf_oAL hw) (by decide) (by decide) d_law_72 (fun a138 => ?_)
        refine Wp.dup rfl d_law_75 ?_
        refine Wp.callC nm_M0 (rm_ali hw a138 de _ hde) (mk_M_ali hw) (w_37 hw) (w_38 hw) rfl rfl rfl rfl (Wn := 1) rfl rfl (by decide) d_law_76 ?_
        rintro _ _ ⟨rfl, rfl⟩
        refine Wp.astore (L' := [.val (.int p0), .val (.int p1), .val (.int p2), .val (.int p3), .val (.int p4), .val (.int p5), .val (.ref s_1), .val (.null), .val (.ref s_98), .val (.int 3), .val (.ref s_132), .val (.ref s_134), .val (.ref s_136), .val (.ref a138), .unset, .unset, .unset]) rfl rfl d_law_79 ?_
        refine Wp.iload rfl d_law_81 ?_
        refine Wp.iconst lc_1 d_law_83 ?_
        refine Wp.icF (by decide) d_law_84 ?_
        refine Wp.aload rfl rfl d_law_87 ?_
        refine Wp.aload rfl rfl d_law_89 ?_
        refine Wp.perm [0, 9, 3, 1, 2, 4, 5, 6, 7, 8] 10 pp_0_9_3_1_2_4_5_6_7_8 (H' := [oAL true a138 (.int 0) (.ref de) (.int 0), (de, false, .inr ((.object "java/lang/Object"), true, false, [])), oStr true s_132 (.ref b_133) (.int 0), oStr true s_136 (.ref b_137) (.int 0), oStr true s_134 (.ref b_135) (.int 0), oStr true s_98 (.ref b_99) (.int 0), oStr true s_1 (.ref b_2) (.int 0), oLN false el (.ref ee) (.int 0), (ee, false, .inr ((.object "java/lang/Object"), true, false, [])), oOb false em ]) rfl ?_
        refine Wp.callV nm_M0 (rm_add_0 hw a138 de s_132 true (.ref b_133) (.int 0) _ hde) 0 rfl (mk_M_add_0 hw) (w_120 hw) (w_121 hw) (w_123 hw) (w_122 hw) (S' := "") (Or.inl rfl) (by decide) rfl rfl rfl (Wn := 0) rfl rfl (by decide) d_law_91 ?_
        rintro _ _ ⟨e_139, rfl, rfl⟩
        refine Wp.pop rfl d_law_94 ?_
        refine Wp.iload rfl d_law_95 ?_
        refine Wp.iconst lc_2 d_law_97 ?_
        refine Wp.icF (by decide) d_law_98 ?_
        refine Wp.aload rfl rfl d_law_101 ?_
        refine Wp.aload rfl rfl d_law_103 ?_
        refine Wp.perm [0, 1, 5, 2, 3, 4] 6 pp_0_1_5_2_3_4 (H' := [oAL true a138 (.int 1) (.ref e_139) (.int 1), eO e_139 [.ref s_132, .null, .null, .null, .null, .null, .null, .null, .null, .null], oStr true s_134 (.ref b_135) (.int 0), (de, false, .inr ((.object "java/lang/Object"), true, false, [])), oStr true s_132 (.ref b_133) (.int 0), oStr true s_136 (.ref b_137) (.int 0), oStr true s_98 (.ref b_99) (.int 0), oStr true s_1 (.ref b_2) (.int 0), oLN false el (.ref ee) (.int 0), (ee, false, .inr ((.object "java/lang/Object"), true, false, [])), oOb false em ]) rfl ?_
        refine Wp.callV nm_M0 (rm_add_1 hw a138 e_139 (.ref s_132) s_134 true (.ref b_135) (.int 0) _ ) 0 rfl (mk_M_add_1 hw) (w_120 hw) (w_121 hw) (w_123 hw) (w_122 hw) (S' := "") (Or.inl rfl) (by decide) rfl rfl rfl (Wn := 0) rfl rfl (by decide) d_law_105 ?_
        rintro _ _ ⟨rfl, rfl⟩
        refine Wp.pop rfl d_law_108 ?_
        refine Wp.iload rfl d_law_109 ?_
        refine Wp.iconst lc_3 d_law_111 ?_
        refine Wp.icF (by decide) d_law_112 ?_
        refine Wp.aload rfl rfl d_law_115 ?_
        refine Wp.aload rfl rfl d_law_117 ?_
        refine Wp.perm [0, 1, 5, 2, 3, 4] 6 pp_0_1_5_2_3_4 (H' := [oAL true a138 (.int 2) (.ref e_139) (.int 2), eO e_139 [.ref s_132, .ref s_134, .null, .null, .null, .null, .null, .null, .null, .null], oStr true s_136 (.ref b_137) (.int 0), oStr true s_134 (.ref b_135) (.int 0), (de, false, .inr ((.object "java/lang/Object"), true, false, [])), oStr true s_132 (.ref b_133) (.int 0), oStr true s_98 (.ref b_99) (.int 0), oStr true s_1 (.ref b_2) (.int 0), oLN false el (.ref ee) (.int 0), (ee, false, .inr ((.object "java/lang/Object"), true, false, [])), oOb false em ]) rfl ?_
        refine Wp.callV nm_M0 (rm_add_2 hw a138 e_139 (.ref s_132) (.ref s_134) s_136 true (.ref b_137) (.int 0) _ ) 0 rfl (mk_M_add_2 hw) (w_120 hw) (w_121 hw) (w_123 hw) (w_122 hw) (S' := "") (Or.inl rfl) (by decide) rfl rfl rfl (Wn := 0) rfl rfl (by decide) d_law_119 ?_
        rintro _ _ ⟨rfl, rfl⟩
        refine Wp.pop rfl d_law_122 ?_
        refine Wp.newO nm_M0 (w_58 hw) (w_59 hw) (w_60 hw) (nf_oUE hw) (by decide) (by decide) d_law_123 (fun a140 => ?_)
        refine Wp.dup rfl d_law_126 ?_
        refine Wp.aload rfl rfl d_law_127 ?_
        refine Wp.aload rfl rfl d_law_129 ?_
        refine Wp.aload rfl rfl d_law_131 ?_
        refine Wp.perm [0, 9, 1, 2, 3, 4, 5, 6, 7, 8] 10 pp_0_9_1_2_3_4_5_6_7_8 (H' := [oUE true a140 (.null) (.null) (.null) (.null), oLN false el (.ref ee) (.int 0), oAL true a138 (.int 3) (.ref e_139) (.int 3), eO e_139 [.ref s_132, .ref s_134, .ref s_136, .null, .null, .null, .null, .null, .null, .null], oStr true s_136 (.ref b_137) (.int 0), oStr true s_134 (.ref b_135) (.int 0), (de, false, .inr ((.object "java/lang/Object"), true, false, [])), oStr true s_132 (.ref b_133) (.int 0), oStr true s_98 (.ref b_99) (.int 0), oStr true s_1 (.ref b_2) (.int 0), (ee, false, .inr ((.object "java/lang/Object"), true, false, [])), oOb false em ]) rfl ?_
        refine Wp.callC nm_M0 (rm_ue3a hw a140 (.ref s_1) .null (.ref s_98) el ee _ rfl rfl rfl hel) (mk_M_ue3a hw) (w_61 hw) (w_62 hw) rfl rfl rfl rfl (Wn := 1) rfl rfl (by decide) d_law_133 ?_
        rintro _ _ ⟨rfl, rfl⟩
        refine Wp.astore (L' := [.val (.int p0), .val (.int p1), .val (.int p2), .val (.int p3), .val (.int p4), .val (.int p5), .val (.ref s_1), .val (.null), .val (.ref s_98), .val (.int 3), .val (.ref s_132), .val (.ref s_134), .val (.ref s_136), .val (.ref a138), .val (.ref a140), .unset, .unset]) rfl rfl d_law_136 ?_
        refine Wp.aload rfl rfl d_law_138 ?_
        refine Wp.aload rfl rfl d_law_140 ?_
        refine Wp.perm [0, 2, 3, 7, 5, 4, 1, 6] 8 pp_0_2_3_7_5_4_1_6 (H' := [oUE true a140 (.ref s_1) (.null) (.ref s_98) (.ref el), oAL true a138 (.int 3) (.ref e_139) (.int 3), eO e_139 [.ref s_132, .ref s_134, .ref s_136, .null, .null, .null, .null, .null, .null, .null], oStr true s_132 (.ref b_133) (.int 0), oStr true s_134 (.ref b_135) (.int 0), oStr true s_136 (.ref b_137) (.int 0), oLN false el (.ref ee) (.int 0), (de, false, .inr ((.object "java/lang/Object"), true, false, [])), oStr true s_98 (.ref b_99) (.int 0), oStr true s_1 (.ref b_2) (.int 0), (ee, false, .inr ((.object "java/lang/Object"), true, false, [])), oOb false em ]) rfl ?_
        refine Wp.callV nm_M0 (rm_wg3 hw a140 (.ref s_1) .null (.ref s_98) a138 e_139 s_132 true (.ref b_133) (.int 0) s_134 true (.ref b_135) (.int 0) s_136 true (.ref b_137) (.int 0) el em mr _ rfl rfl rfl hel hem hmr) 0 rfl (mk_M_wg3 hw) (w_100 hw) (w_101 hw) (w_103 hw) (w_102 hw) (S' := "") (Or.inl rfl) (by decide) rfl rfl rfl (Wn := 0) rfl rfl (by decide) d_law_142 ?_
        rintro _ _ ⟨o_141, q_142, qa_143, rfl, rfl⟩
        refine Wp.astore (L' := [.val (.int p0), .val (.int p1), .val (.int p2), .val (.int p3), .val (.int p4), .val (.int p5), .val (.ref s_1), .val (.null), .val (.ref s_98), .val (.int 3), .val (.ref s_132), .val (.ref s_134), .val (.ref s_136), .val (.ref a138), .val (.ref a140), .val (.ref o_141), .unset]) rfl rfl d_law_145 ?_
        refine Wp.aload rfl rfl d_law_147 ?_
        refine Wp.aload rfl rfl d_law_149 ?_
        refine Wp.perm [4, 5, 6, 0, 1, 2, 3] 7 pp_4_5_6_0_1_2_3 (H' := [oAL true a138 (.int 3) (.ref e_139) (.int 3), eO e_139 [.ref s_132, .ref s_134, .ref s_136, .null, .null, .null, .null, .null, .null, .null], oStr true s_132 (.ref b_133) (.int 0), oUE true o_141 (.ref s_1) (.null) (.ref s_98) (.ref q_142), oLN true q_142 (.ref qa_143) (.int 0), eO qa_143 [.ref s_132, .ref s_134, .ref s_136], oUE true a140 (.ref s_1) (.null) (.ref s_98) (.ref el), oStr true s_134 (.ref b_135) (.int 0), oStr true s_136 (.ref b_137) (.int 0), oLN false el (.ref ee) (.int 0), (de, false, .inr ((.object "java/lang/Object"), true, false, [])), oStr true s_98 (.ref b_99) (.int 0), oStr true s_1 (.ref b_2) (.int 0), (ee, false, .inr ((.object "java/lang/Object"), true, false, [])), oOb false em ]) rfl ?_
        refine Wp.callV nm_M0 (rm_add_3 hw a138 e_139 (.ref s_132) (.ref s_134) (.ref s_136) s_132 true (.ref b_133) (.int 0) _ ) 0 rfl (mk_M_add_3 hw) (w_120 hw) (w_121 hw) (w_123 hw) (w_122 hw) (S' := "") (Or.inl rfl) (by decide) rfl rfl rfl (Wn := 0) rfl rfl (by decide) d_law_151 ?_
        rintro _ _ ⟨rfl, rfl⟩
        refine Wp.pop rfl d_law_154 ?_
        refine Wp.aload rfl rfl d_law_155 ?_
        refine Wp.aload rfl rfl d_law_157 ?_
        refine Wp.perm [3, 0, 1, 2] 4 pp_3_0_1_2 (H' := [oUE true o_141 (.ref s_1) (.null) (.ref s_98) (.ref q_142), oAL true a138 (.int 4) (.ref e_139) (.int 4), eO e_139 [.ref s_132, .ref s_134, .ref s_136, .ref s_132, .null, .null, .null, .null, .null, .null], oStr true s_132 (.ref b_133) (.int 0), oLN true q_142 (.ref qa_143) (.int 0), eO qa_143 [.ref s_132, .ref s_134, .ref s_136], oUE true a140 (.ref s_1) (.null) (.ref s_98) (.ref el), oStr true s_134 (.ref b_135) (.int 0), oStr true s_136 (.ref b_137) (.int 0), oLN false el (.ref ee) (.int 0), (de, false, .inr ((.object "java/lang/Object"), true, false, [])), oStr true s_98 (.ref b_99) (.int 0), oStr true s_1 (.ref b_2) (.int 0), (ee, false, .inr ((.object "java/lang/Object"), true, false, [])), oOb false em ]) rfl ?_
        refine Wp.callV nm_M0 (rm_g0 hw o_141 (.ref s_1) .null (.ref s_98) q_142 _ rfl rfl rfl) 0 rfl (mk_M_g0 hw) (w_149 hw) (w_150 hw) (w_152 hw) (w_151 hw) (S' := "") (Or.inl rfl) (by decide) rfl rfl rfl (Wn := 1) rfl rfl (by decide) d_law_159 ?_
        rintro _ _ ⟨rfl, rfl⟩
        refine Wp.perm [12, 0, 1, 2, 3, 4, 5, 6, 7, 8, 9, 10, 11] 13 pp_12_0_1_2_3_4_5_6_7_8_9_10_11 (H' := [oStr true s_1 (.ref b_2) (.int 0), oUE true o_141 (.ref s_1) (.null) (.ref s_98) (.ref q_142), oAL true a138 (.int 4) (.ref e_139) (.int 4), eO e_139 [.ref s_132, .ref s_134, .ref s_136, .ref s_132, .null, .null, .null, .null, .null, .null], oStr true s_132 (.ref b_133) (.int 0), oLN true q_142 (.ref qa_143) (.int 0), eO qa_143 [.ref s_132, .ref s_134, .ref s_136], oUE true a140 (.ref s_1) (.null) (.ref s_98) (.ref el), oStr true s_134 (.ref b_135) (.int 0), oStr true s_136 (.ref b_137) (.int 0), oLN false el (.ref ee) (.int 0), (de, false, .inr ((.object "java/lang/Object"), true, false, [])), oStr true s_98 (.ref b_99) (.int 0), (ee, false, .inr ((.object "java/lang/Object"), true, false, [])), oOb false em ]) rfl ?_
        refine Wp.callS nm_M0 (rm_eqS hw s_1 true (.ref b_2) (.int 0) _ ) (mk_M_eqS hw) (w_154 hw) (w_155 hw) rfl rfl (Wn := 0) rfl rfl (by decide) d_law_162 ?_
        rintro _ _ ⟨rfl, rfl⟩
        refine Wp.ifT (by decide) d_law_165 ?_
        refine Wp.aload rfl rfl d_law_170 ?_
        refine Wp.aload rfl rfl d_law_172 ?_
        refine Wp.perm [1, 0] 2 pp_1_0 (H' := [oUE true o_141 (.ref s_1) (.null) (.ref s_98) (.ref q_142), oStr true s_1 (.ref b_2) (.int 0), oAL true a138 (.int 4) (.ref e_139) (.int 4), eO e_139 [.ref s_132, .ref s_134, .ref s_136, .ref s_132, .null, .null, .null, .null, .null, .null], oStr true s_132 (.ref b_133) (.int 0), oLN true q_142 (.ref qa_143) (.int 0), eO qa_143 [.ref s_132, .ref s_134, .ref s_136], oUE true a140 (.ref s_1) (.null) (.ref s_98) (.ref el), oStr true s_134 (.ref b_135) (.int 0), oStr true s_136 (.ref b_137) (.int 0), oLN false el (.ref ee) (.int 0), (de, false, .inr ((.object "java/lang/Object"), true, false, [])), oStr true s_98 (.ref b_99) (.int 0), (ee, false, .inr ((.object "java/lang/Object"), true, false, [])), oOb false em ]) rfl ?_
        refine Wp.callV nm_M0 (rm_g1 hw o_141 (.ref s_1) .null (.ref s_98) q_142 _ rfl rfl rfl) 0 rfl (mk_M_g1 hw) (w_162 hw) (w_163 hw) (w_165 hw) (w_164 hw) (S' := "") (Or.inl rfl) (by decide) rfl rfl rfl (Wn := 1) rfl rfl (by decide) d_law_174 ?_
        rintro _ _ ⟨rfl, rfl⟩
        refine Wp.callS nm_M0 (rm_eqN hw  _ ) (mk_M_eqN hw) (w_154 hw) (w_155 hw) rfl rfl (Wn := 0) rfl rfl (by decide) d_law_177 ?_
        rintro _ _ ⟨rfl, rfl⟩
        refine Wp.ifT (by decide) d_law_180 ?_
        refine Wp.aload rfl rfl d_law_185 ?_
        refine Wp.aload rfl rfl d_law_187 ?_
        refine Wp.callV nm_M0 (rm_g2 hw o_141 (.ref s_1) .null (.ref s_98) q_142 _ rfl rfl rfl) 0 rfl (mk_M_g2 hw) (w_167 hw) (w_168 hw) (w_170 hw) (w_169 hw) (S' := "") (Or.inl rfl) (by decide) rfl rfl rfl (Wn := 1) rfl rfl (by decide) d_law_189 ?_
        rintro _ _ ⟨rfl, rfl⟩
        refine Wp.perm [12, 0, 1, 2, 3, 4, 5, 6, 7, 8, 9, 10, 11] 13 pp_12_0_1_2_3_4_5_6_7_8_9_10_11 (H' := [oStr true s_98 (.ref b_99) (.int 0), oUE true o_141 (.ref s_1) (.null) (.ref s_98) (.ref q_142), oStr true s_1 (.ref b_2) (.int 0), oAL true a138 (.int 4) (.ref e_139) (.int 4), eO e_139 [.ref s_132, .ref s_134, .ref s_136, .ref s_132, .null, .null, .null, .null, .null, .null], oStr true s_132 (.ref b_133) (.int 0), oLN true q_142 (.ref qa_143) (.int 0), eO qa_143 [.ref s_132, .ref s_134, .ref s_136], oUE true a140 (.ref s_1) (.null) (.ref s_98) (.ref el), oStr true s_134 (.ref b_135) (.int 0), oStr true s_136 (.ref b_137) (.int 0), oLN false el (.ref ee) (.int 0), (de, false, .inr ((.object "java/lang/Object"), true, false, [])), (ee, false, .inr ((.object "java/lang/Object"), true, false, [])), oOb false em ]) rfl ?_
        refine Wp.callS nm_M0 (rm_eqS hw s_98 true (.ref b_99) (.int 0) _ ) (mk_M_eqS hw) (w_154 hw) (w_155 hw) rfl rfl (Wn := 0) rfl rfl (by decide) d_law_192 ?_
        rintro _ _ ⟨rfl, rfl⟩
        refine Wp.ifT (by decide) d_law_195 ?_
        refine Wp.aload rfl rfl d_law_200 ?_
        refine Wp.perm [1, 0] 2 pp_1_0 (H' := [oUE true o_141 (.ref s_1) (.null) (.ref s_98) (.ref q_142), oStr true s_98 (.ref b_99) (.int 0), oStr true s_1 (.ref b_2) (.int 0), oAL true a138 (.int 4) (.ref e_139) (.int 4), eO e_139 [.ref s_132, .ref s_134, .ref s_136, .ref s_132, .null, .null, .null, .null, .null, .null], oStr true s_132 (.ref b_133) (.int 0), oLN true q_142 (.ref qa_143) (.int 0), eO qa_143 [.ref s_132, .ref s_134, .ref s_136], oUE true a140 (.ref s_1) (.null) (.ref s_98) (.ref el), oStr true s_134 (.ref b_135) (.int 0), oStr true s_136 (.ref b_137) (.int 0), oLN false el (.ref ee) (.int 0), (de, false, .inr ((.object "java/lang/Object"), true, false, [])), (ee, false, .inr ((.object "java/lang/Object"), true, false, [])), oOb false em ]) rfl ?_
        refine Wp.callV nm_M0 (rm_gg hw o_141 (.ref s_1) .null (.ref s_98) q_142 _ ) 0 rfl (mk_M_gg hw) (w_172 hw) (w_173 hw) (w_175 hw) (w_174 hw) (S' := "") (Or.inl rfl) (by decide) rfl rfl rfl (Wn := 0) rfl rfl (by decide) d_law_202 ?_
        rintro _ _ ⟨rfl, rfl⟩
        refine Wp.astore (L' := [.val (.int p0), .val (.int p1), .val (.int p2), .val (.int p3), .val (.int p4), .val (.int p5), .val (.ref s_1), .val (.null), .val (.ref s_98), .val (.int 3), .val (.ref s_132), .val (.ref s_134), .val (.ref s_136), .val (.ref a138), .val (.ref a140), .val (.ref o_141), .val (.ref q_142)]) rfl rfl d_law_205 ?_
        refine Wp.aload rfl rfl d_law_207 ?_
        refine Wp.perm [6, 7, 0, 1, 2, 3, 4, 5] 8 pp_6_7_0_1_2_3_4_5 (H' := [oLN true q_142 (.ref qa_143) (.int 0), eO qa_143 [.ref s_132, .ref s_134, .ref s_136], oUE true o_141 (.ref s_1) (.null) (.ref s_98) (.ref q_142), oStr true s_98 (.ref b_99) (.int 0), oStr true s_1 (.ref b_2) (.int 0), oAL true a138 (.int 4) (.ref e_139) (.int 4), eO e_139 [.ref s_132, .ref s_134, .ref s_136, .ref s_132, .null, .null, .null, .null, .null, .null], oStr true s_132 (.ref b_133) (.int 0), oUE true a140 (.ref s_1) (.null) (.ref s_98) (.ref el), oStr true s_134 (.ref b_135) (.int 0), oStr true s_136 (.ref b_137) (.int 0), oLN false el (.ref ee) (.int 0), (de, false, .inr ((.object "java/lang/Object"), true, false, [])), (ee, false, .inr ((.object "java/lang/Object"), true, false, [])), oOb false em ]) rfl ?_
        refine Wp.callI nm_M0 (rm_sz3 hw q_142 qa_143 s_132 s_134 s_136 _ ) 0 rfl (mk_M_sz3 hw) (w_177 hw) (w_178 hw) (w_179 hw) (w_180 hw) (w_181 hw) (w_182 hw) (w_183 hw) (w_97 hw) (by decide) rfl rfl rfl (Wn := 0) rfl rfl (by decide) d_law_209 ?_
        rintro _ _ ⟨rfl, rfl⟩
        refine Wp.iload rfl d_law_214 ?_
        refine Wp.icT (by decide) d_law_216 ?_
        refine Wp.iload rfl d_law_221 ?_
        refine Wp.iconst lc_1 d_law_223 ?_
        refine Wp.icF (by decide) d_law_224 ?_
        refine Wp.aload rfl rfl d_law_227 ?_
        refine Wp.aload rfl rfl d_law_229 ?_
        refine Wp.iconst lc_0 d_law_231 ?_
        refine Wp.callI nm_M0 (rm_gn0 hw q_142 qa_143 s_132 s_134 s_136 _ ) 0 rfl (mk_M_gn0 hw) (w_257 hw) (w_258 hw) (w_259 hw) (w_279 hw) (w_280 hw) (w_281 hw) (w_282 hw) (w_97 hw) (by decide) rfl rfl rfl (Wn := 1) rfl rfl (by decide) d_law_232 ?_
        rintro _ _ ⟨rfl, rfl⟩
        refine Wp.perm [7, 0, 1, 2, 3, 4, 5, 6] 8 pp_7_0_1_2_3_4_5_6 (H' := [oStr true s_132 (.ref b_133) (.int 0), oLN true q_142 (.ref qa_143) (.int 0), eO qa_143 [.ref s_132, .ref s_134, .ref s_136], oUE true o_141 (.ref s_1) (.null) (.ref s_98) (.ref q_142), oStr true s_98 (.ref b_99) (.int 0), oStr true s_1 (.ref b_2) (.int 0), oAL true a138 (.int 4) (.ref e_139) (.int 4), eO e_139 [.ref s_132, .ref s_134, .ref s_136, .ref s_132, .null, .null, .null, .null, .null, .null], oUE true a140 (.ref s_1) (.null) (.ref s_98) (.ref el), oStr true s_134 (.ref b_135) (.int 0), oStr true s_136 (.ref b_137) (.int 0), oLN false el (.ref ee) (.int 0), (de, false, .inr ((.object "java/lang/Object"), true, false, [])), (ee, false, .inr ((.object "java/lang/Object"), true, false, [])), oOb false em ]) rfl ?_
        refine Wp.callV nm_M0 (rm_seS hw s_132 true (.ref b_133) (.int 0) _ ) 0 rfl (mk_M_seS hw) (w_157 hw) (w_158 hw) (w_160 hw) (w_159 hw) (S' := "") (Or.inl rfl) (by decide) rfl rfl rfl (Wn := 0) rfl rfl (by decide) d_law_237 ?_
        rintro _ _ ⟨rfl, rfl⟩
        refine Wp.ifT (by decide) d_law_240 ?_
        refine Wp.iload rfl d_law_245 ?_
        refine Wp.iconst lc_2 d_law_247 ?_
        refine Wp.icF (by decide) d_law_248 ?_
        refine Wp.aload rfl rfl d_law_251 ?_
        refine Wp.aload rfl rfl d_law_253 ?_
        refine Wp.iconst lc_1 d_law_255 ?_
        refine Wp.perm [1, 2, 0] 3 pp_1_2_0 (H' := [oLN true q_142 (.ref qa_143) (.int 0), eO qa_143 [.ref s_132, .ref s_134, .ref s_136], oStr true s_132 (.ref b_133) (.int 0), oUE true o_141 (.ref s_1) (.null) (.ref s_98) (.ref q_142), oStr true s_98 (.ref b_99) (.int 0), oStr true s_1 (.ref b_2) (.int 0), oAL true a138 (.int 4) (.ref e_139) (.int 4), eO e_139 [.ref s_132, .ref s_134, .ref s_136, .ref s_132, .null, .null, .null, .null, .null, .null], oUE true a140 (.ref s_1) (.null) (.ref s_98) (.ref el), oStr true s_134 (.ref b_135) (.int 0), oStr true s_136 (.ref b_137) (.int 0), oLN false el (.ref ee) (.int 0), (de, false, .inr ((.object "java/lang/Object"), true, false, [])), (ee, false, .inr ((.object "java/lang/Object"), true, false, [])), oOb false em ]) rfl ?_
        refine Wp.callI nm_M0 (rm_gn1 hw q_142 qa_143 s_132 s_134 s_136 _ ) 0 rfl (mk_M_gn1 hw) (w_257 hw) (w_258 hw) (w_259 hw) (w_279 hw) (w_280 hw) (w_281 hw) (w_282 hw) (w_97 hw) (by decide) rfl rfl rfl (Wn := 1) rfl rfl (by decide) d_law_256 ?_
        rintro _ _ ⟨rfl, rfl⟩
        refine Wp.perm [9, 0, 1, 2, 3, 4, 5, 6, 7, 8] 10 pp_9_0_1_2_3_4_5_6_7_8 (H' := [oStr true s_134 (.ref b_135) (.int 0), oLN true q_142 (.ref qa_143) (.int 0), eO qa_143 [.ref s_132, .ref s_134, .ref s_136], oStr true s_132 (.ref b_133) (.int 0), oUE true o_141 (.ref s_1) (.null) (.ref s_98) (.ref q_142), oStr true s_98 (.ref b_99) (.int 0), oStr true s_1 (.ref b_2) (.int 0), oAL true a138 (.int 4) (.ref e_139) (.int 4), eO e_139 [.ref s_132, .ref s_134, .ref s_136, .ref s_132, .null, .null, .null, .null, .null, .null], oUE true a140 (.ref s_1) (.null) (.ref s_98) (.ref el), oStr true s_136 (.ref b_137) (.int 0), oLN false el (.ref ee) (.int 0), (de, false, .inr ((.object "java/lang/Object"), true, false, [])), (ee, false, .inr ((.object "java/lang/Object"), true, false, [])), oOb false em ]) rfl ?_
        refine Wp.callV nm_M0 (rm_seS hw s_134 true (.ref b_135) (.int 0) _ ) 0 rfl (mk_M_seS hw) (w_157 hw) (w_158 hw) (w_160 hw) (w_159 hw) (S' := "") (Or.inl rfl) (by decide) rfl rfl rfl (Wn := 0) rfl rfl (by decide) d_law_261 ?_
        rintro _ _ ⟨rfl, rfl⟩
        refine Wp.ifT (by decide) d_law_264 ?_
        refine Wp.iload rfl d_law_269 ?_
        refine Wp.iconst lc_3 d_law_271 ?_
        refine Wp.icF (by decide) d_law_272 ?_
        refine Wp.aload rfl rfl d_law_275 ?_
        refine Wp.aload rfl rfl d_law_277 ?_
        refine Wp.iconst lc_2 d_law_279 ?_
        refine Wp.perm [1, 2, 0] 3 pp_1_2_0 (H' := [oLN true q_142 (.ref qa_143) (.int 0), eO qa_143 [.ref s_132, .ref s_134, .ref s_136], oStr true s_134 (.ref b_135) (.int 0), oStr true s_132 (.ref b_133) (.int 0), oUE true o_141 (.ref s_1) (.null) (.ref s_98) (.ref q_142), oStr true s_98 (.ref b_99) (.int 0), oStr true s_1 (.ref b_2) (.int 0), oAL true a138 (.int 4) (.ref e_139) (.int 4), eO e_139 [.ref s_132, .ref s_134, .ref s_136, .ref s_132, .null, .null, .null, .null, .null, .null], oUE true a140 (.ref s_1) (.null) (.ref s_98) (.ref el), oStr true s_136 (.ref b_137) (.int 0), oLN false el (.ref ee) (.int 0), (de, false, .inr ((.object "java/lang/Object"), true, false, [])), (ee, false, .inr ((.object "java/lang/Object"), true, false, [])), oOb false em ]) rfl ?_
        refine Wp.callI nm_M0 (rm_gn2 hw q_142 qa_143 s_132 s_134 s_136 _ ) 0 rfl (mk_M_gn2 hw) (w_257 hw) (w_258 hw) (w_259 hw) (w_279 hw) (w_280 hw) (w_281 hw) (w_282 hw) (w_97 hw) (by decide) rfl rfl rfl (Wn := 1) rfl rfl (by decide) d_law_280 ?_
        rintro _ _ ⟨rfl, rfl⟩
        refine Wp.perm [10, 0, 1, 2, 3, 4, 5, 6, 7, 8, 9] 11 pp_10_0_1_2_3_4_5_6_7_8_9 (H' := [oStr true s_136 (.ref b_137) (.int 0), oLN true q_142 (.ref qa_143) (.int 0), eO qa_143 [.ref s_132, .ref s_134, .ref s_136], oStr true s_134 (.ref b_135) (.int 0), oStr true s_132 (.ref b_133) (.int 0), oUE true o_141 (.ref s_1) (.null) (.ref s_98) (.ref q_142), oStr true s_98 (.ref b_99) (.int 0), oStr true s_1 (.ref b_2) (.int 0), oAL true a138 (.int 4) (.ref e_139) (.int 4), eO e_139 [.ref s_132, .ref s_134, .ref s_136, .ref s_132, .null, .null, .null, .null, .null, .null], oUE true a140 (.ref s_1) (.null) (.ref s_98) (.ref el), oLN false el (.ref ee) (.int 0), (de, false, .inr ((.object "java/lang/Object"), true, false, [])), (ee, false, .inr ((.object "java/lang/Object"), true, false, [])), oOb false em ]) rfl ?_
        refine Wp.callV nm_M0 (rm_seS hw s_136 true (.ref b_137) (.int 0) _ ) 0 rfl (mk_M_seS hw) (w_157 hw) (w_158 hw) (w_160 hw) (w_159 hw) (S' := "") (Or.inl rfl) (by decide) rfl rfl rfl (Wn := 0) rfl rfl (by decide) d_law_285 ?_
        rintro _ _ ⟨rfl, rfl⟩
        refine Wp.ifT (by decide) d_law_288 ?_
        refine Wp.aload rfl rfl d_law_293 ?_
        refine Wp.perm [10, 0, 1, 2, 3, 4, 5, 6, 7, 8, 9] 11 pp_10_0_1_2_3_4_5_6_7_8_9 (H' := [oUE true a140 (.ref s_1) (.null) (.ref s_98) (.ref el), oStr true s_136 (.ref b_137) (.int 0), oLN true q_142 (.ref qa_143) (.int 0), eO qa_143 [.ref s_132, .ref s_134, .ref s_136], oStr true s_134 (.ref b_135) (.int 0), oStr true s_132 (.ref b_133) (.int 0), oUE true o_141 (.ref s_1) (.null) (.ref s_98) (.ref q_142), oStr true s_98 (.ref b_99) (.int 0), oStr true s_1 (.ref b_2) (.int 0), oAL true a138 (.int 4) (.ref e_139) (.int 4), eO e_139 [.ref s_132, .ref s_134, .ref s_136, .ref s_132, .null, .null, .null, .null, .null, .null], oLN false el (.ref ee) (.int 0), (de, false, .inr ((.object "java/lang/Object"), true, false, [])), (ee, false, .inr ((.object "java/lang/Object"), true, false, [])), oOb false em ]) rfl ?_
        refine Wp.callV nm_M0 (rm_gg hw a140 (.ref s_1) .null (.ref s_98) el _ ) 0 rfl (mk_M_gg hw) (w_172 hw) (w_173 hw) (w_175 hw) (w_174 hw) (S' := "") (Or.inl rfl) (by decide) rfl rfl rfl (Wn := 0) rfl rfl (by decide) d_law_295 ?_
        rintro _ _ ⟨rfl, rfl⟩
        refine Wp.perm [11, 13, 0, 1, 2, 3, 4, 5, 6, 7, 8, 9, 10, 12] 14 pp_11_13_0_1_2_3_4_5_6_7_8_9_10_12 (H' := [oLN false el (.ref ee) (.int 0), (ee, false, .inr ((.object "java/lang/Object"), true, false, [])), oUE true a140 (.ref s_1) (.null) (.ref s_98) (.ref el), oStr true s_136 (.ref b_137) (.int 0), oLN true q_142 (.ref qa_143) (.int 0), eO qa_143 [.ref s_132, .ref s_134, .ref s_136], oStr true s_134 (.ref b_135) (.int 0), oStr true s_132 (.ref b_133) (.int 0), oUE true o_141 (.ref s_1) (.null) (.ref s_98) (.ref q_142), oStr true s_98 (.ref b_99) (.int 0), oStr true s_1 (.ref b_2) (.int 0), oAL true a138 (.int 4) (.ref e_139) (.int 4), eO e_139 [.ref s_132, .ref s_134, .ref s_136, .ref s_132, .null, .null, .null, .null, .null, .null], (de, false, .inr ((.object "java/lang/Object"), true, false, [])), oOb false em ]) rfl ?_
        refine Wp.callI nm_M0 (rm_szE hw el ee _ ) 0 rfl (mk_M_szE hw) (w_177 hw) (w_178 hw) (w_179 hw) (w_180 hw) (w_181 hw) (w_182 hw) (w_183 hw) (w_97 hw) (by decide) rfl rfl rfl (Wn := 0) rfl rfl (by decide) d_law_298 ?_
        rintro _ _ ⟨rfl, rfl⟩
        refine Wp.ifF (by decide) d_law_303 ?_
        refine Wp.iconst lc_1 d_law_306 ?_
        refine Wp.goto d_law_307 ?_
        refine Wp.iretN (z := 1) (by simp) rfl (by decide) d_law_311 (by decide) (by decide) ?_
        exact rfl
    · refine Wp.ifF (feq b31_97).1 d_law_31 ?_
      refine Wp.aconstNull d_law_34 ?_
      refine Wp.goto d_law_35 ?_
      refine Wp.astore (L' := [.val (.int p0), .val (.int p1), .val (.int p2), .val (.int p3), .val (.int p4), .val (.int p5), .val (.ref s_1), .val (.null), .val (.null), .unset, .unset, .unset, .unset, .unset, .unset, .unset, .unset]) rfl rfl d_law_42 ?_
      refine Wp.iloadN rfl d_law_44 ?_
      refine Wp.bipush lb_24 d_law_45 ?_
      refine Wp.iushr (z := (Jvm.Free.XT.ushr p3 24)) rfl d_law_47 ?_
      refine Wp.iconst lc_3 d_law_48 ?_
      refine Wp.iand (z := ((Jvm.Free.XT.ushr p3 24) &&& 3)) rfl d_law_49 ?_
      rcases and3 ((Jvm.Free.XT.ushr p3 24)) with hn | hn | hn | hn
      · rw [hn]
        refine Wp.istore (L' := [.val (.int p0), .val (.int p1), .val (.int p2), .val (.int p3), .val (.int p4), .val (.int p5), .val (.ref s_1), .val (.null), .val (.null), .val (.int 0), .unset, .unset, .unset, .unset, .unset, .unset, .unset]) rfl d_law_50 ?_
        refine Wp.iloadN rfl d_law_52 ?_
        refine Wp.callS nm_M0 (rm_str hw p3 _ ) (mk_M_str hw) (w_0 hw) (w_1 hw) rfl rfl (Wn := 0) rfl rfl (by decide) d_law_53 ?_
        rintro _ _ ⟨s_144, b_145, rfl, rfl⟩
        refine Wp.astore (L' := [.val (.int p0), .val (.int p1), .val (.int p2), .val (.int p3), .val (.int p4), .val (.int p5), .val (.ref s_1), .val (.null), .val (.null), .val (.int 0), .val (.ref s_144), .unset, .unset, .unset, .unset, .unset, .unset]) rfl rfl d_law_56 ?_
        refine Wp.iload rfl d_law_58 ?_
        refine Wp.callS nm_M0 (rm_str hw p4 _ ) (mk_M_str hw) (w_0 hw) (w_1 hw) rfl rfl (Wn := 0) rfl rfl (by decide) d_law_60 ?_
        rintro _ _ ⟨s_146, b_147, rfl, rfl⟩
        refine Wp.astore (L' := [.val (.int p0), .val (.int p1), .val (.int p2), .val (.int p3), .val (.int p4), .val (.int p5), .val (.ref s_1), .val (.null), .val (.null), .val (.int 0), .val (.ref s_144), .val (.ref s_146), .unset, .unset, .unset, .unset, .unset]) rfl rfl d_law_63 ?_
        refine Wp.iload rfl d_law_65 ?_
        refine Wp.callS nm_M0 (rm_str hw p5 _ ) (mk_M_str hw) (w_0 hw) (w_1 hw) rfl rfl (Wn := 0) rfl rfl (by decide) d_law_67 ?_
        rintro _ _ ⟨s_148, b_149, rfl, rfl⟩
        refine Wp.astore (L' := [.val (.int p0), .val (.int p1), .val (.int p2), .val (.int p3), .val (.int p4), .val (.int p5), .val (.ref s_1), .val (.null), .val (.null), .val (.int 0), .val (.ref s_144), .val (.ref s_146), .val (.ref s_148), .unset, .unset, .unset, .unset]) rfl rfl d_law_70 ?_
        refine Wp.newO nm_M0 (w_34 hw) (w_35 hw) (w_36 hw) (nf_oAL hw) (by decide) (by decide) d_law_72 (fun a150 => ?_)
        refine Wp.dup rfl d_law_75 ?_
        refine Wp.callC nm_M0 (rm_ali hw a150 de _ hde) (mk_M_ali hw) (w_37 hw) (w_38 hw) rfl rfl rfl rfl (Wn := 1) rfl rfl (by decide) d_law_76 ?_
        rintro _ _ ⟨rfl, rfl⟩
        refine Wp.astore (L' := [.val (.int p0), .val (.int p1), .val (.int p2), .val (.int p3), .val (.int p4), .val (.int p5), .val (.ref s_1), .val (.null), .val (.null), .val (.int 0), .val (.ref s_144), .val (.ref s_146), .val (.ref s_148), .val (.ref a150), .unset, .unset, .unset]) rfl rfl d_law_79 ?_
        refine Wp.iload rfl d_law_81 ?_
        refine Wp.iconst lc_1 d_law_83 ?_
        refine Wp.icT (by decide) d_law_84 ?_
        refine Wp.iload rfl d_law_95 ?_
        refine Wp.iconst lc_2 d_law_97 ?_
        refine Wp.icT (by decide) d_law_98 ?_
        refine Wp.iload rfl d_law_109 ?_
        refine Wp.iconst lc_3 d_law_111 ?_
        refine Wp.icT (by decide) d_law_112 ?_
        refine Wp.newO nm_M0 (w_58 hw) (w_59 hw) (w_60 hw) (nf_oUE hw) (by decide) (by decide) d_law_123 (fun a151 => ?_)
        refine Wp.dup rfl d_law_126 ?_
        refine Wp.aload rfl rfl d_law_127 ?_
        refine Wp.aload rfl rfl d_law_129 ?_
        refine Wp.aload rfl rfl d_law_131 ?_
        refine Wp.perm [0, 6, 1, 2, 3, 4, 5] 7 pp_0_6_1_2_3_4_5 (H' := [oUE true a151 (.null) (.null) (.null) (.null), oLN false el (.ref ee) (.int 0), oAL true a150 (.int 0) (.ref de) (.int 0), oStr true s_148 (.ref b_149) (.int 0), oStr true s_146 (.ref b_147) (.int 0), oStr true s_144 (.ref b_145) (.int 0), oStr true s_1 (.ref b_2) (.int 0), (ee, false, .inr ((.object "java/lang/Object"), true, false, [])), oOb false em , (de, false, .inr ((.object "java/lang/Object"), true, false, []))]) rfl ?_
        refine Wp.callC nm_M0 (rm_ue3a hw a151 (.ref s_1) .null .null el ee _ rfl rfl rfl hel) (mk_M_ue3a hw) (w_61 hw) (w_62 hw) rfl rfl rfl rfl (Wn := 1) rfl rfl (by decide) d_law_133 ?_
        rintro _ _ ⟨rfl, rfl⟩
        refine Wp.astore (L' := [.val (.int p0), .val (.int p1), .val (.int p2), .val (.int p3), .val (.int p4), .val (.int p5), .val (.ref s_1), .val (.null), .val (.null), .val (.int 0), .val (.ref s_144), .val (.ref s_146), .val (.ref s_148), .val (.ref a150), .val (.ref a151), .unset, .unset]) rfl rfl d_law_136 ?_
        refine Wp.aload rfl rfl d_law_138 ?_
        refine Wp.aload rfl rfl d_law_140 ?_
        refine Wp.perm [0, 2, 1] 3 pp_0_2_1 (H' := [oUE true a151 (.ref s_1) (.null) (.null) (.ref el), oAL true a150 (.int 0) (.ref de) (.int 0), oLN false el (.ref ee) (.int 0), oStr true s_148 (.ref b_149) (.int 0), oStr true s_146 (.ref b_147) (.int 0), oStr true s_144 (.ref b_145) (.int 0), oStr true s_1 (.ref b_2) (.int 0), (ee, false, .inr ((.object "java/lang/Object"), true, false, [])), oOb false em , (de, false, .inr ((.object "java/lang/Object"), true, false, []))]) rfl ?_
        refine Wp.callV nm_M0 (rm_wg0 hw a151 (.ref s_1) .null .null a150 el em mr de _ rfl rfl rfl hel hem hmr) 0 rfl (mk_M_wg0 hw) (w_100 hw) (w_101 hw) (w_103 hw) (w_102 hw) (S' := "") (Or.inl rfl) (by decide) rfl rfl rfl (Wn := 0) rfl rfl (by decide) d_law_142 ?_
        rintro _ _ ⟨o_152, rfl, rfl⟩
        refine Wp.astore (L' := [.val (.int p0), .val (.int p1), .val (.int p2), .val (.int p3), .val (.int p4), .val (.int p5), .val (.ref s_1), .val (.null), .val (.null), .val (.int 0), .val (.ref s_144), .val (.ref s_146), .val (.ref s_148), .val (.ref a150), .val (.ref a151), .val (.ref o_152), .unset]) rfl rfl d_law_145 ?_
        refine Wp.aload rfl rfl d_law_147 ?_
        refine Wp.aload rfl rfl d_law_149 ?_
        refine Wp.perm [2, 10, 6, 0, 1, 3, 4, 5, 7, 8, 9] 11 pp_2_10_6_0_1_3_4_5_7_8_9 (H' := [oAL true a150 (.int 0) (.ref de) (.int 0), (de, false, .inr ((.object "java/lang/Object"), true, false, [])), oStr true s_144 (.ref b_145) (.int 0), oUE true o_152 (.ref s_1) (.null) (.null) (.ref el), oUE true a151 (.ref s_1) (.null) (.null) (.ref el), oLN false el (.ref ee) (.int 0), oStr true s_148 (.ref b_149) (.int 0), oStr true s_146 (.ref b_147) (.int 0), oStr true s_1 (.ref b_2) (.int 0), (ee, false, .inr ((.object "java/lang/Object"), true, false, [])), oOb false em ]) rfl ?_
        refine Wp.callV nm_M0 (rm_add_0 hw a150 de s_144 true (.ref b_145) (.int 0) _ hde) 0 rfl (mk_M_add_0 hw) (w_120 hw) (w_121 hw) (w_123 hw) (w_122 hw) (S' := "") (Or.inl rfl) (by decide) rfl rfl rfl (Wn := 0) rfl rfl (by decide) d_law_151 ?_
        rintro _ _ ⟨e_153, rfl, rfl⟩
        refine Wp.pop rfl d_law_154 ?_
        refine Wp.aload rfl rfl d_law_155 ?_
        refine Wp.aload rfl rfl d_law_157 ?_
        refine Wp.perm [4, 0, 1, 2, 3] 5 pp_4_0_1_2_3 (H' := [oUE true o_152 (.ref s_1) (.null) (.null) (.ref el), oAL true a150 (.int 1) (.ref e_153) (.int 1), eO e_153 [.ref s_144, .null, .null, .null, .null, .null, .null, .null, .null, .null], (de, false, .inr ((.object "java/lang/Object"), true, false, [])), oStr true s_144 (.ref b_145) (.int 0), oUE true a151 (.ref s_1) (.null) (.null) (.ref el), oLN false el (.ref ee) (.int 0), oStr true s_148 (.ref b_149) (.int 0), oStr true s_146 (.ref b_147) (.int 0), oStr true s_1 (.ref b_2) (.int 0), (ee, false, .inr ((.object "java/lang/Object"), true, false, [])), oOb false em ]) rfl ?_
        refine Wp.callV nm_M0 (rm_g0 hw o_152 (.ref s_1) .null .null el _ rfl rfl rfl) 0 rfl (mk_M_g0 hw) (w_149 hw) (w_150 hw) (w_152 hw) (w_151 hw) (S' := "") (Or.inl rfl) (by decide) rfl rfl rfl (Wn := 1) rfl rfl (by decide) d_law_159 ?_
        rintro _ _ ⟨rfl, rfl⟩
        refine Wp.perm [9, 0, 1, 2, 3, 4, 5, 6, 7, 8] 10 pp_9_0_1_2_3_4_5_6_7_8 (H' := [oStr true s_1 (.ref b_2) (.int 0), oUE true o_152 (.ref s_1) (.null) (.null) (.ref el), oAL true a150 (.int 1) (.ref e_153) (.int 1), eO e_153 [.ref s_144, .null, .null, .null, .null, .null, .null, .null, .null, .null], (de, false, .inr ((.object "java/lang/Object"), true, false, [])), oStr true s_144 (.ref b_145) (.int 0), oUE true a151 (.ref s_1) (.null) (.null) (.ref el), oLN false el (.ref ee) (.int 0), oStr true s_148 (.ref b_149) (.int 0), oStr true s_146 (.ref b_147) (.int 0), (ee, false, .inr ((.object "java/lang/Object"), true, false, [])), oOb false em ]) rfl ?_
        refine Wp.callS nm_M0 (rm_eqS hw s_1 true (.ref b_2) (.int 0) _ ) (mk_M_eqS hw) (w_154 hw) (w_155 hw) rfl rfl (Wn := 0) rfl rfl (by decide) d_law_162 ?_
        rintro _ _ ⟨rfl, rfl⟩
        refine Wp.ifT (by decide) d_law_165 ?_
        refine Wp.aload rfl rfl d_law_170 ?_
        refine Wp.aload rfl rfl d_law_172 ?_
        refine Wp.perm [1, 0] 2 pp_1_0 (H' := [oUE true o_152 (.ref s_1) (.null) (.null) (.ref el), oStr true s_1 (.ref b_2) (.int 0), oAL true a150 (.int 1) (.ref e_153) (.int 1), eO e_153 [.ref s_144, .null, .null, .null, .null, .null, .null, .null, .null, .null], (de, false, .inr ((.object "java/lang/Object"), true, false, [])), oStr true s_144 (.ref b_145) (.int 0), oUE true a151 (.ref s_1) (.null) (.null) (.ref el), oLN false el (.ref ee) (.int 0), oStr true s_148 (.ref b_149) (.int 0), oStr true s_146 (.ref b_147) (.int 0), (ee, false, .inr ((.object "java/lang/Object"), true, false, [])), oOb false em ]) rfl ?_
        refine Wp.callV nm_M0 (rm_g1 hw o_152 (.ref s_1) .null .null el _ rfl rfl rfl) 0 rfl (mk_M_g1 hw) (w_162 hw) (w_163 hw) (w_165 hw) (w_164 hw) (S' := "") (Or.inl rfl) (by decide) rfl rfl rfl (Wn := 1) rfl rfl (by decide) d_law_174 ?_
        rintro _ _ ⟨rfl, rfl⟩
        refine Wp.callS nm_M0 (rm_eqN hw  _ ) (mk_M_eqN hw) (w_154 hw) (w_155 hw) rfl rfl (Wn := 0) rfl rfl (by decide) d_law_177 ?_
        rintro _ _ ⟨rfl, rfl⟩
        refine Wp.ifT (by decide) d_law_180 ?_
        refine Wp.aload rfl rfl d_law_185 ?_
        refine Wp.aload rfl rfl d_law_187 ?_
        refine Wp.callV nm_M0 (rm_g2 hw o_152 (.ref s_1) .null .null el _ rfl rfl rfl) 0 rfl (mk_M_g2 hw) (w_167 hw) (w_168 hw) (w_170 hw) (w_169 hw) (S' := "") (Or.inl rfl) (by decide) rfl rfl rfl (Wn := 1) rfl rfl (by decide) d_law_189 ?_
        rintro _ _ ⟨rfl, rfl⟩
        refine Wp.callS nm_M0 (rm_eqN hw  _ ) (mk_M_eqN hw) (w_154 hw) (w_155 hw) rfl rfl (Wn := 0) rfl rfl (by decide) d_law_192 ?_
        rintro _ _ ⟨rfl, rfl⟩
        refine Wp.ifT (by decide) d_law_195 ?_
        refine Wp.aload rfl rfl d_law_200 ?_
        refine Wp.callV nm_M0 (rm_gg hw o_152 (.ref s_1) .null .null el _ ) 0 rfl (mk_M_gg hw) (w_172 hw) (w_173 hw) (w_175 hw) (w_174 hw) (S' := "") (Or.inl rfl) (by decide) rfl rfl rfl (Wn := 0) rfl rfl (by decide) d_law_202 ?_
        rintro _ _ ⟨rfl, rfl⟩
        refine Wp.astore (L' := [.val (.int p0), .val (.int p1), .val (.int p2), .val (.int p3), .val (.int p4), .val (.int p5), .val (.ref s_1), .val (.null), .val (.null), .val (.int 0), .val (.ref s_144), .val (.ref s_146), .val (.ref s_148), .val (.ref a150), .val (.ref a151), .val (.ref o_152), .val (.ref el)]) rfl rfl d_law_205 ?_
        refine Wp.aload rfl rfl d_law_207 ?_
        refine Wp.perm [7, 10, 0, 1, 2, 3, 4, 5, 6, 8, 9] 11 pp_7_10_0_1_2_3_4_5_6_8_9 (H' := [oLN false el (.ref ee) (.int 0), (ee, false, .inr ((.object "java/lang/Object"), true, false, [])), oUE true o_152 (.ref s_1) (.null) (.null) (.ref el), oStr true s_1 (.ref b_2) (.int 0), oAL true a150 (.int 1) (.ref e_153) (.int 1), eO e_153 [.ref s_144, .null, .null, .null, .null, .null, .null, .null, .null, .null], (de, false, .inr ((.object "java/lang/Object"), true, false, [])), oStr true s_144 (.ref b_145) (.int 0), oUE true a151 (.ref s_1) (.null) (.null) (.ref el), oStr true s_148 (.ref b_149) (.int 0), oStr true s_146 (.ref b_147) (.int 0), oOb false em ]) rfl ?_
        refine Wp.callI nm_M0 (rm_szE hw el ee _ ) 0 rfl (mk_M_szE hw) (w_177 hw) (w_178 hw) (w_179 hw) (w_180 hw) (w_181 hw) (w_182 hw) (w_183 hw) (w_97 hw) (by decide) rfl rfl rfl (Wn := 0) rfl rfl (by decide) d_law_209 ?_
        rintro _ _ ⟨rfl, rfl⟩
        refine Wp.iload rfl d_law_214 ?_
        refine Wp.icT (by decide) d_law_216 ?_
        refine Wp.iload rfl d_law_221 ?_
        refine Wp.iconst lc_1 d_law_223 ?_
        refine Wp.icT (by decide) d_law_224 ?_
        refine Wp.iload rfl d_law_245 ?_
        refine Wp.iconst lc_2 d_law_247 ?_
        refine Wp.icT (by decide) d_law_248 ?_
        refine Wp.iload rfl d_law_269 ?_
        refine Wp.iconst lc_3 d_law_271 ?_
        refine Wp.icT (by decide) d_law_272 ?_
        refine Wp.aload rfl rfl d_law_293 ?_
        refine Wp.perm [8, 0, 1, 2, 3, 4, 5, 6, 7] 9 pp_8_0_1_2_3_4_5_6_7 (H' := [oUE true a151 (.ref s_1) (.null) (.null) (.ref el), oLN false el (.ref ee) (.int 0), (ee, false, .inr ((.object "java/lang/Object"), true, false, [])), oUE true o_152 (.ref s_1) (.null) (.null) (.ref el), oStr true s_1 (.ref b_2) (.int 0), oAL true a150 (.int 1) (.ref e_153) (.int 1), eO e_153 [.ref s_144, .null, .null, .null, .null, .null, .null, .null, .null, .null], (de, false, .inr ((.object "java/lang/Object"), true, false, [])), oStr true s_144 (.ref b_145) (.int 0), oStr true s_148 (.ref b_149) (.int 0), oStr true s_146 (.ref b_147) (.int 0), oOb false em ]) rfl ?_
        refine Wp.callV nm_M0 (rm_gg hw a151 (.ref s_1) .null .null el _ ) 0 rfl (mk_M_gg hw) (w_172 hw) (w_173 hw) (w_175 hw) (w_174 hw) (S' := "") (Or.inl rfl) (by decide) rfl rfl rfl (Wn := 0) rfl rfl (by decide) d_law_295 ?_
        rintro _ _ ⟨rfl, rfl⟩
        refine Wp.perm [1, 2, 0] 3 pp_1_2_0 (H' := [oLN false el (.ref ee) (.int 0), (ee, false, .inr ((.object "java/lang/Object"), true, false, [])), oUE true a151 (.ref s_1) (.null) (.null) (.ref el), oUE true o_152 (.ref s_1) (.null) (.null) (.ref el), oStr true s_1 (.ref b_2) (.int 0), oAL true a150 (.int 1) (.ref e_153) (.int 1), eO e_153 [.ref s_144, .null, .null, .null, .null, .null, .null, .null, .null, .null], (de, false, .inr ((.object "java/lang/Object"), true, false, [])), oStr true s_144 (.ref b_145) (.int 0), oStr true s_148 (.ref b_149) (.int 0), oStr true s_146 (.ref b_147) (.int 0), oOb false em ]) rfl ?_
        refine Wp.callI nm_M0 (rm_szE hw el ee _ ) 0 rfl (mk_M_szE hw) (w_177 hw) (w_178 hw) (w_179 hw) (w_180 hw) (w_181 hw) (w_182 hw) (w_183 hw) (w_97 hw) (by decide) rfl rfl rfl (Wn := 0) rfl rfl (by decide) d_law_298 ?_
        rintro _ _ ⟨rfl, rfl⟩
        refine Wp.ifF (by decide) d_law_303 ?_
        refine Wp.iconst lc_1 d_law_306 ?_
        refine Wp.goto d_law_307 ?_
        refine Wp.iretN (z := 1) (by simp) rfl (by decide) d_law_311 (by decide) (by decide) ?_
        exact rfl
      · rw [hn]
        refine Wp.istore (L' := [.val (.int p0), .val (.int p1), .val (.int p2), .val (.int p3), .val (.int p4), .val (.int p5), .val (.ref s_1), .val (.null), .val (.null), .val (.int 1), .unset, .unset, .unset, .unset, .unset, .unset, .unset]) rfl d_law_50 ?_
        refine Wp.iloadN rfl d_law_52 ?_
        refine Wp.callS nm_M0 (rm_str hw p3 _ ) (mk_M_str hw) (w_0 hw) (w_1 hw) rfl rfl (Wn := 0) rfl rfl (by decide) d_law_53 ?_
        rintro _ _ ⟨s_154, b_155, rfl, rfl⟩
        refine Wp.astore (L' := [.val (.int p0), .val (.int p1), .val (.int p2), .val (.int p3), .val (.int p4), .val (.int p5), .val (.ref s_1), .val (.null), .val (.null), .val (.int 1), .val (.ref s_154), .unset, .unset, .unset, .unset, .unset, .unset]) rfl rfl d_law_56 ?_
        refine Wp.iload rfl d_law_58 ?_
        refine Wp.callS nm_M0 (rm_str hw p4 _ ) (mk_M_str hw) (w_0 hw) (w_1 hw) rfl rfl (Wn := 0) rfl rfl (by decide) d_law_60 ?_
        rintro _ _ ⟨s_156, b_157, rfl, rfl⟩
        refine Wp.astore (L' := [.val (.int p0), .val (.int p1), .val (.int p2), .val (.int p3), .val (.int p4), .val (.int p5), .val (.ref s_1), .val (.null), .val (.null), .val (.int 1), .val (.ref s_154), .val (.ref s_156), .unset, .unset, .unset, .unset, .unset]) rfl rfl d_law_63 ?_
        refine Wp.iload rfl d_law_65 ?_
        refine Wp.callS nm_M0 (rm_str hw p5 _ ) (mk_M_str hw) (w_0 hw) (w_1 hw) rfl rfl (Wn := 0) rfl rfl (by decide) d_law_67 ?_
        rintro _ _ ⟨s_158, b_159, rfl, rfl⟩
        refine Wp.astore (L' := [.val (.int p0), .val (.int p1), .val (.int p2), .val (.int p3), .val (.int p4), .val (.int p5), .val (.ref s_1), .val (.null), .val (.null), .val (.int 1), .val (.ref s_154), .val (.ref s_156), .val (.ref s_158), .unset, .unset, .unset, .unset]) rfl rfl d_law_70 ?_
        refine Wp.newO nm_M0 (w_34 hw) (w_35 hw) (w_36 hw) (nf_oAL hw) (by decide) (by decide) d_law_72 (fun a160 => ?_)
        refine Wp.dup rfl d_law_75 ?_
        refine Wp.callC nm_M0 (rm_ali hw a160 de _ hde) (mk_M_ali hw) (w_37 hw) (w_38 hw) rfl rfl rfl rfl (Wn := 1) rfl rfl (by decide) d_law_76 ?_
        rintro _ _ ⟨rfl, rfl⟩
        refine Wp.astore (L' := [.val (.int p0), .val (.int p1), .val (.int p2), .val (.int p3), .val (.int p4), .val (.int p5), .val (.ref s_1), .val (.null), .val (.null), .val (.int 1), .val (.ref s_154), .val (.ref s_156), .val (.ref s_158), .val (.ref a160), .unset, .unset, .unset]) rfl rfl d_law_79 ?_
        refine Wp.iload rfl d_law_81 ?_
        refine Wp.iconst lc_1 d_law_83 ?_
        refine Wp.icF (by decide) d_law_84 ?_
        refine Wp.aload rfl rfl d_law_87 ?_
        refine Wp.aload rfl rfl d_law_89 ?_
        refine Wp.perm [0, 8, 3, 1, 2, 4, 5, 6, 7] 9 pp_0_8_3_1_2_4_5_6_7 (H' := [oAL true a160 (.int 0) (.ref de) (.int 0), (de, false, .inr ((.object "java/lang/Object"), true, false, [])), oStr true s_154 (.ref b_155) (.int 0), oStr true s_158 (.ref b_159) (.int 0), oStr true s_156 (.ref b_157) (.int 0), oStr true s_1 (.ref b_2) (.int 0), oLN false el (.ref ee) (.int 0), (ee, false, .inr ((.object "java/lang/Object"), true, false, [])), oOb false em ]) rfl ?_
        refine Wp.callV nm_M0 (rm_add_0 hw a160 de s_154 true (.ref b_155) (.int 0) _ hde) 0 rfl (mk_M_add_0 hw) (w_120 hw) (w_121 hw) (w_123 hw) (w_122 hw) (S' := "") (Or.inl rfl) (by decide) rfl rfl rfl (Wn := 0) rfl rfl (by decide) d_law_91 ?_
        rintro _ _ ⟨e_161, rfl, rfl⟩
        refine Wp.pop rfl d_law_94 ?_
        refine Wp.iload rfl d_law_95 ?_
        refine Wp.iconst lc_2 d_law_97 ?_
        refine Wp.icT (by decide) d_law_98 ?_
        refine Wp.iload rfl d_law_109 ?_
        refine Wp.iconst lc_3 d_law_111 ?_
        refine Wp.icT (by decide) d_law_112 ?_
        refine Wp.newO nm_M0 (w_58 hw) (w_59 hw) (w_60 hw) (nf_oUE hw) (by decide) (by decide) d_law_123 (fun a162 => ?_)
        refine Wp.dup rfl d_law_126 ?_
        refine Wp.aload rfl rfl d_law_127 ?_
        refine Wp.aload rfl rfl d_law_129 ?_
        refine Wp.aload rfl rfl d_law_131 ?_
        refine Wp.perm [0, 8, 1, 2, 3, 4, 5, 6, 7] 9 pp_0_8_1_2_3_4_5_6_7 (H' := [oUE true a162 (.null) (.null) (.null) (.null), oLN false el (.ref ee) (.int 0), oAL true a160 (.int 1) (.ref e_161) (.int 1), eO e_161 [.ref s_154, .null, .null, .null, .null, .null, .null, .null, .null, .null], (de, false, .inr ((.object "java/lang/Object"), true, false, [])), oStr true s_154 (.ref b_155) (.int 0), oStr true s_158 (.ref b_159) (.int 0), oStr true s_156 (.ref b_157) (.int 0), oStr true s_1 (.ref b_2) (.int 0), (ee, false, .inr ((.object "java/lang/Object"), true, false, [])), oOb false em ]) rfl ?_
        refine Wp.callC nm_M0 (rm_ue3a hw a162 (.ref s_1) .null .null el ee _ rfl rfl rfl hel) (mk_M_ue3a hw) (w_61 hw) (w_62 hw) rfl rfl rfl rfl (Wn := 1) rfl rfl (by decide) d_law_133 ?_
        rintro _ _ ⟨rfl, rfl⟩
        refine Wp.astore (L' := [.val (.int p0), .val (.int p1), .val (.int p2), .val (.int p3), .val (.int p4), .val (.int p5), .val (.ref s_1), .val (.null), .val (.null), .val (.int 1), .val (.ref s_154), .val (.ref s_156), .val (.ref s_158), .val (.ref a160), .val (.ref a162), .unset, .unset]) rfl rfl d_law_136 ?_
        refine Wp.aload rfl rfl d_law_138 ?_
        refine Wp.aload rfl rfl d_law_140 ?_
        refine Wp.perm [0, 2, 3, 5, 1, 4] 6 pp_0_2_3_5_1_4 (H' := [oUE true a162 (.ref s_1) (.null) (.null) (.ref el), oAL true a160 (.int 1) (.ref e_161) (.int 1), eO e_161 [.ref s_154, .null, .null, .null, .null, .null, .null, .null, .null, .null], oStr true s_154 (.ref b_155) (.int 0), oLN false el (.ref ee) (.int 0), (de, false, .inr ((.object "java/lang/Object"), true, false, [])), oStr true s_158 (.ref b_159) (.int 0), oStr true s_156 (.ref b_157) (.int 0), oStr true s_1 (.ref b_2) (.int 0), (ee, false, .inr ((.object "java/lang/Object"), true, false, [])), oOb false em ]) rfl ?_
        refine Wp.callV nm_M0 (rm_wg1 hw a162 (.ref s_1) .null .null a160 e_161 s_154 true (.ref b_155) (.int 0) el em mr _ rfl rfl rfl hel hem hmr) 0 rfl (mk_M_wg1 hw) (w_100 hw) (w_101 hw) (w_103 hw) (w_102 hw) (S' := "") (Or.inl rfl) (by decide) rfl rfl rfl (Wn := 0) rfl rfl (by decide) d_law_142 ?_
        rintro _ _ ⟨o_163, q_164, rfl, rfl⟩
        refine Wp.astore (L' := [.val (.int p0), .val (.int p1), .val (.int p2), .val (.int p3), .val (.int p4), .val (.int p5), .val (.ref s_1), .val (.null), .val (.null), .val (.int 1), .val (.ref s_154), .val (.ref s_156), .val (.ref s_158), .val (.ref a160), .val (.ref a162), .val (.ref o_163), .unset]) rfl rfl d_law_145 ?_
        refine Wp.aload rfl rfl d_law_147 ?_
        refine Wp.aload rfl rfl d_law_149 ?_
        refine Wp.perm [3, 4, 5, 0, 1, 2] 6 pp_3_4_5_0_1_2 (H' := [oAL true a160 (.int 1) (.ref e_161) (.int 1), eO e_161 [.ref s_154, .null, .null, .null, .null, .null, .null, .null, .null, .null], oStr true s_154 (.ref b_155) (.int 0), oUE true o_163 (.ref s_1) (.null) (.null) (.ref q_164), oL12 true q_164 (.ref s_154) (.ref em), oUE true a162 (.ref s_1) (.null) (.null) (.ref el), oLN false el (.ref ee) (.int 0), (de, false, .inr ((.object "java/lang/Object"), true, false, [])), oStr true s_158 (.ref b_159) (.int 0), oStr true s_156 (.ref b_157) (.int 0), oStr true s_1 (.ref b_2) (.int 0), (ee, false, .inr ((.object "java/lang/Object"), true, false, [])), oOb false em ]) rfl ?_
        refine Wp.callV nm_M0 (rm_add_1 hw a160 e_161 (.ref s_154) s_154 true (.ref b_155) (.int 0) _ ) 0 rfl (mk_M_add_1 hw) (w_120 hw) (w_121 hw) (w_123 hw) (w_122 hw) (S' := "") (Or.inl rfl) (by decide) rfl rfl rfl (Wn := 0) rfl rfl (by decide) d_law_151 ?_
        rintro _ _ ⟨rfl, rfl⟩
        refine Wp.pop rfl d_law_154 ?_
        refine Wp.aload rfl rfl d_law_155 ?_
        refine Wp.aload rfl rfl d_law_157 ?_
        refine Wp.perm [3, 0, 1, 2] 4 pp_3_0_1_2 (H' := [oUE true o_163 (.ref s_1) (.null) (.null) (.ref q_164), oAL true a160 (.int 2) (.ref e_161) (.int 2), eO e_161 [.ref s_154, .ref s_154, .null, .null, .null, .null, .null, .null, .null, .null], oStr true s_154 (.ref b_155) (.int 0), oL12 true q_164 (.ref s_154) (.ref em), oUE true a162 (.ref s_1) (.null) (.null) (.ref el), oLN false el (.ref ee) (.int 0), (de, false, .inr ((.object "java/lang/Object"), true, false, [])), oStr true s_158 (.ref b_159) (.int 0), oStr true s_156 (.ref b_157) (.int 0), oStr true s_1 (.ref b_2) (.int 0), (ee, false, .inr ((.object "java/lang/Object"), true, false, [])), oOb false em ]) rfl ?_
        refine Wp.callV nm_M0 (rm_g0 hw o_163 (.ref s_1) .null .null q_164 _ rfl rfl rfl) 0 rfl (mk_M_g0 hw) (w_149 hw) (w_150 hw) (w_152 hw) (w_151 hw) (S' := "") (Or.inl rfl) (by decide) rfl rfl rfl (Wn := 1) rfl rfl (by decide) d_law_159 ?_
        rintro _ _ ⟨rfl, rfl⟩
        refine Wp.perm [10, 0, 1, 2, 3, 4, 5, 6, 7, 8, 9] 11 pp_10_0_1_2_3_4_5_6_7_8_9 (H' := [oStr true s_1 (.ref b_2) (.int 0), oUE true o_163 (.ref s_1) (.null) (.null) (.ref q_164), oAL true a160 (.int 2) (.ref e_161) (.int 2), eO e_161 [.ref s_154, .ref s_154, .null, .null, .null, .null, .null, .null, .null, .null], oStr true s_154 (.ref b_155) (.int 0), oL12 true q_164 (.ref s_154) (.ref em), oUE true a162 (.ref s_1) (.null) (.null) (.ref el), oLN false el (.ref ee) (.int 0), (de, false, .inr ((.object "java/lang/Object"), true, false, [])), oStr true s_158 (.ref b_159) (.int 0), oStr true s_156 (.ref b_157) (.int 0), (ee, false, .inr ((.object "java/lang/Object"), true, false, [])), oOb false em ]) rfl ?_
        refine Wp.callS nm_M0 (rm_eqS hw s_1 true (.ref b_2) (.int 0) _ ) (mk_M_eqS hw) (w_154 hw) (w_155 hw) rfl rfl (Wn := 0) rfl rfl (by decide) d_law_162 ?_
        rintro _ _ ⟨rfl, rfl⟩
        refine Wp.ifT (by decide) d_law_165 ?_
        refine Wp.aload rfl rfl d_law_170 ?_
        refine Wp.aload rfl rfl d_law_172 ?_
        refine Wp.perm [1, 0] 2 pp_1_0 (H' := [oUE true o_163 (.ref s_1) (.null) (.null) (.ref q_164), oStr true s_1 (.ref b_2) (.int 0), oAL true a160 (.int 2) (.ref e_161) (.int 2), eO e_161 [.ref s_154, .ref s_154, .null, .null, .null, .null, .null, .null, .null, .null], oStr true s_154 (.ref b_155) (.int 0), oL12 true q_164 (.ref s_154) (.ref em), oUE true a162 (.ref s_1) (.null) (.null) (.ref el), oLN false el (.ref ee) (.int 0), (de, false, .inr ((.object "java/lang/Object"), true, false, [])), oStr true s_158 (.ref b_159) (.int 0), oStr true s_156 (.ref b_157) (.int 0), (ee, false, .inr ((.object "java/lang/Object"), true, false, [])), oOb false em ]) rfl ?_
        refine Wp.callV nm_M0 (rm_g1 hw o_163 (.ref s_1) .null .null q_164 _ rfl rfl rfl) 0 rfl (mk_M_g1 hw) (w_162 hw) (w_163 hw) (w_165 hw) (w_164 hw) (S' := "") (Or.inl rfl) (by decide) rfl rfl rfl (Wn := 1) rfl rfl (by decide) d_law_174 ?_
        rintro _ _ ⟨rfl, rfl⟩
        refine Wp.callS nm_M0 (rm_eqN hw  _ ) (mk_M_eqN hw) (w_154 hw) (w_155 hw) rfl rfl (Wn := 0) rfl rfl (by decide) d_law_177 ?_
        rintro _ _ ⟨rfl, rfl⟩
        refine Wp.ifT (by decide) d_law_180 ?_
        refine Wp.aload rfl rfl d_law_185 ?_
        refine Wp.aload rfl rfl d_law_187 ?_
        refine Wp.callV nm_M0 (rm_g2 hw o_163 (.ref s_1) .null .null q_164 _ rfl rfl rfl) 0 rfl (mk_M_g2 hw) (w_167 hw) (w_168 hw) (w_170 hw) (w_169 hw) (S' := "") (Or.inl rfl) (by decide) rfl rfl rfl (Wn := 1) rfl rfl (by decide) d_law_189 ?_
        rintro _ _ ⟨rfl, rfl⟩
        refine Wp.callS nm_M0 (rm_eqN hw  _ ) (mk_M_eqN hw) (w_154 hw) (w_155 hw) rfl rfl (Wn := 0) rfl rfl (by decide) d_law_192 ?_
        rintro _ _ ⟨rfl, rfl⟩
        refine Wp.ifT (by decide) d_law_195 ?_
        refine Wp.aload rfl rfl d_law_200 ?_
        refine Wp.callV nm_M0 (rm_gg hw o_163 (.ref s_1) .null .null q_164 _ ) 0 rfl (mk_M_gg hw) (w_172 hw) (w_173 hw) (w_175 hw) (w_174 hw) (S' := "") (Or.inl rfl) (by decide) rfl rfl rfl (Wn := 0) rfl rfl (by decide) d_law_202 ?_
        rintro _ _ ⟨rfl, rfl⟩
        refine Wp.astore (L' := [.val (.int p0), .val (.int p1), .val (.int p2), .val (.int p3), .val (.int p4), .val (.int p5), .val (.ref s_1), .val (.null), .val (.null), .val (.int 1), .val (.ref s_154), .val (.ref s_156), .val (.ref s_158), .val (.ref a160), .val (.ref a162), .val (.ref o_163), .val (.ref q_164)]) rfl rfl d_law_205 ?_
        refine Wp.aload rfl rfl d_law_207 ?_
        refine Wp.perm [5, 0, 1, 2, 3, 4] 6 pp_5_0_1_2_3_4 (H' := [oL12 true q_164 (.ref s_154) (.ref em), oUE true o_163 (.ref s_1) (.null) (.null) (.ref q_164), oStr true s_1 (.ref b_2) (.int 0), oAL true a160 (.int 2) (.ref e_161) (.int 2), eO e_161 [.ref s_154, .ref s_154, .null, .null, .null, .null, .null, .null, .null, .null], oStr true s_154 (.ref b_155) (.int 0), oUE true a162 (.ref s_1) (.null) (.null) (.ref el), oLN false el (.ref ee) (.int 0), (de, false, .inr ((.object "java/lang/Object"), true, false, [])), oStr true s_158 (.ref b_159) (.int 0), oStr true s_156 (.ref b_157) (.int 0), (ee, false, .inr ((.object "java/lang/Object"), true, false, [])), oOb false em ]) rfl ?_
        refine Wp.callI nm_M0 (rm_sz1 hw q_164 s_154 em _ hem) 0 rfl (mk_M_sz1 hw) (w_177 hw) (w_178 hw) (w_179 hw) (w_250 hw) (w_251 hw) (w_252 hw) (w_253 hw) (w_254 hw) (by decide) rfl rfl rfl (Wn := 0) rfl rfl (by decide) d_law_209 ?_
        rintro _ _ ⟨rfl, rfl⟩
        refine Wp.iload rfl d_law_214 ?_
        refine Wp.icT (by decide) d_law_216 ?_
        refine Wp.iload rfl d_law_221 ?_
        refine Wp.iconst lc_1 d_law_223 ?_
        refine Wp.icF (by decide) d_law_224 ?_
        refine Wp.aload rfl rfl d_law_227 ?_
        refine Wp.aload rfl rfl d_law_229 ?_
        refine Wp.iconst lc_0 d_law_231 ?_
        refine Wp.callI nm_M0 (rm_gt0 hw q_164 s_154 em _ ) 0 rfl (mk_M_gt0 hw) (w_257 hw) (w_258 hw) (w_259 hw) (w_260 hw) (w_261 hw) (w_262 hw) (w_263 hw) (w_254 hw) (by decide) rfl rfl rfl (Wn := 1) rfl rfl (by decide) d_law_232 ?_
        rintro _ _ ⟨rfl, rfl⟩
        refine Wp.perm [5, 0, 1, 2, 3, 4] 6 pp_5_0_1_2_3_4 (H' := [oStr true s_154 (.ref b_155) (.int 0), oL12 true q_164 (.ref s_154) (.ref em), oUE true o_163 (.ref s_1) (.null) (.null) (.ref q_164), oStr true s_1 (.ref b_2) (.int 0), oAL true a160 (.int 2) (.ref e_161) (.int 2), eO e_161 [.ref s_154, .ref s_154, .null, .null, .null, .null, .null, .null, .null, .null], oUE true a162 (.ref s_1) (.null) (.null) (.ref el), oLN false el (.ref ee) (.int 0), (de, false, .inr ((.object "java/lang/Object"), true, false, [])), oStr true s_158 (.ref b_159) (.int 0), oStr true s_156 (.ref b_157) (.int 0), (ee, false, .inr ((.object "java/lang/Object"), true, false, [])), oOb false em ]) rfl ?_
        refine Wp.callV nm_M0 (rm_seS hw s_154 true (.ref b_155) (.int 0) _ ) 0 rfl (mk_M_seS hw) (w_157 hw) (w_158 hw) (w_160 hw) (w_159 hw) (S' := "") (Or.inl rfl) (by decide) rfl rfl rfl (Wn := 0) rfl rfl (by decide) d_law_237 ?_
        rintro _ _ ⟨rfl, rfl⟩
        refine Wp.ifT (by decide) d_law_240 ?_
        refine Wp.iload rfl d_law_245 ?_
        refine Wp.iconst lc_2 d_law_247 ?_
        refine Wp.icT (by decide) d_law_248 ?_
        refine Wp.iload rfl d_law_269 ?_
        refine Wp.iconst lc_3 d_law_271 ?_
        refine Wp.icT (by decide) d_law_272 ?_
        refine Wp.aload rfl rfl d_law_293 ?_
        refine Wp.perm [6, 0, 1, 2, 3, 4, 5] 7 pp_6_0_1_2_3_4_5 (H' := [oUE true a162 (.ref s_1) (.null) (.null) (.ref el), oStr true s_154 (.ref b_155) (.int 0), oL12 true q_164 (.ref s_154) (.ref em), oUE true o_163 (.ref s_1) (.null) (.null) (.ref q_164), oStr true s_1 (.ref b_2) (.int 0), oAL true a160 (.int 2) (.ref e_161) (.int 2), eO e_161 [.ref s_154, .ref s_154, .null, .null, .null, .null, .null, .null, .null, .null], oLN false el (.ref ee) (.int 0), (de, false, .inr ((.object "java/lang/Object"), true, false, [])), oStr true s_158 (.ref b_159) (.int 0), oStr true s_156 (.ref b_157) (.int 0), (ee, false, .inr ((.object "java/lang/Object"), true, false, [])), oOb false em ]) rfl ?_
        refine Wp.callV nm_M0 (rm_gg hw a162 (.ref s_1) .null .null el _ ) 0 rfl (mk_M_gg hw) (w_172 hw) (w_173 hw) (w_175 hw) (w_174 hw) (S' := "") (Or.inl rfl) (by decide) rfl rfl rfl (Wn := 0) rfl rfl (by decide) d_law_295 ?_
        rintro _ _ ⟨rfl, rfl⟩
        refine Wp.perm [7, 11, 0, 1, 2, 3, 4, 5, 6, 8, 9, 10] 12 pp_7_11_0_1_2_3_4_5_6_8_9_10 (H' := [oLN false el (.ref ee) (.int 0), (ee, false, .inr ((.object "java/lang/Object"), true, false, [])), oUE true a162 (.ref s_1) (.null) (.null) (.ref el), oStr true s_154 (.ref b_155) (.int 0), oL12 true q_164 (.ref s_154) (.ref em), oUE true o_163 (.ref s_1) (.null) (.null) (.ref q_164), oStr true s_1 (.ref b_2) (.int 0), oAL true a160 (.int 2) (.ref e_161) (.int 2), eO e_161 [.ref s_154, .ref s_154, .null, .null, .null, .null, .null, .null, .null, .null], (de, false, .inr ((.object "java/lang/Object"), true, false, [])), oStr true s_158 (.ref b_159) (.int 0), oStr true s_156 (.ref b_157) (.int 0), oOb false em ]) rfl ?_
        refine Wp.callI nm_M0 (rm_szE hw el ee _ ) 0 rfl (mk_M_szE hw) (w_177 hw) (w_178 hw) (w_179 hw) (w_180 hw) (w_181 hw) (w_182 hw) (w_183 hw) (w_97 hw) (by decide) rfl rfl rfl (Wn := 0) rfl rfl (by decide) d_law_298 ?_
        rintro _ _ ⟨rfl, rfl⟩
        refine Wp.ifF (by decide) d_law_303 ?_
        refine Wp.iconst lc_1 d_law_306 ?_
        refine Wp.goto d_law_307 ?_
        refine Wp.iretN (z := 1) (by simp) rfl (by decide) d_law_311 (by decide) (by decide) ?_
        exact rfl
      · rw [hn]
        refine Wp.istore (L' := [.val (.int p0), .val (.int p1), .val (.int p2), .val (.int p3), .val (.int p4), .val (.int p5), .val (.ref s_1), .val (.null), .val (.null), .val (.int 2), .unset, .unset, .unset, .unset, .unset, .unset, .unset]) rfl d_law_50 ?_
        refine Wp.iloadN rfl d_law_52 ?_
        refine Wp.callS nm_M0 (rm_str hw p3 _ ) (mk_M_str hw) (w_0 hw) (w_1 hw) rfl rfl (Wn := 0) rfl rfl (by decide) d_law_53 ?_
        rintro _ _ ⟨s_165, b_166, rfl, rfl⟩
        refine Wp.astore (L' := [.val (.int p0), .val (.int p1), .val (.int p2), .val (.int p3), .val (.int p4), .val (.int p5), .val (.ref s_1), .val (.null), .val (.null), .val (.int 2), .val (.ref s_165), .unset, .unset, .unset, .unset, .unset, .unset]) rfl rfl d_law_56 ?_
        refine Wp.iload rfl d_law_58 ?_
        refine Wp.callS nm_M0 (rm_str hw p4 _ ) (mk_M_str hw) (w_0 hw) (w_1 hw) rfl rfl (Wn := 0) rfl rfl (by decide) d_law_60 ?_
        rintro _ _ ⟨s_167, b_168, rfl, rfl⟩
        refine Wp.astore (L' := [.val (.int p0), .val (.int p1), .val (.int p2), .val (.int p3), .val (.int p4), .val (.int p5), .val (.ref s_1), .val (.null), .val (.null), .val (.int 2), .val (.ref s_165), .val (.ref s_167), .unset, .unset, .unset, .unset, .unset]) rfl rfl d_law_63 ?_
        refine Wp.iload rfl d_law_65 ?_
        refine Wp.callS nm_M0 (rm_str hw p5 _ ) (mk_M_str hw) (w_0 hw) (w_1 hw) rfl rfl (Wn := 0) rfl rfl (by decide) d_law_67 ?_
        rintro _ _ ⟨s_169, b_170, rfl, rfl⟩
        refine Wp.astore (L' := [.val (.int p0), .val (.int p1), .val (.int p2), .val (.int p3), .val (.int p4), .val (.int p5), .val (.ref s_1), .val (.null), .val (.null), .val (.int 2), .val (.ref s_165), .val (.ref s_167), .val (.ref s_169), .unset, .unset, .unset, .unset]) rfl rfl d_law_70 ?_
        refine Wp.newO nm_M0 (w_34 hw) (w_35 hw) (w_36 hw) (nf_oAL hw) (by decide) (by decide) d_law_72 (fun a171 => ?_)
        refine Wp.dup rfl d_law_75 ?_
        refine Wp.callC nm_M0 (rm_ali hw a171 de _ hde) (mk_M_ali hw) (w_37 hw) (w_38 hw) rfl rfl rfl rfl (Wn := 1) rfl rfl (by decide) d_law_76 ?_
        rintro _ _ ⟨rfl, rfl⟩
        refine Wp.astore (L' := [.val (.int p0), .val (.int p1), .val (.int p2), .val (.int p3), .val (.int p4), .val (.int p5), .val (.ref s_1), .val (.null), .val (.null), .val (.int 2), .val (.ref s_165), .val (.ref s_167), .val (.ref s_169), .val (.ref a171), .unset, .unset, .unset]) rfl rfl d_law_79 ?_
        refine Wp.iload rfl d_law_81 ?_
        refine Wp.iconst lc_1 d_law_83 ?_
        refine Wp.icF (by decide) d_law_84 ?_
        refine Wp.aload rfl rfl d_law_87 ?_
        refine Wp.aload rfl rfl d_law_89 ?_
        refine Wp.perm [0, 8, 3, 1, 2, 4, 5, 6, 7] 9 pp_0_8_3_1_2_4_5_6_7 (H' := [oAL true a171 (.int 0) (.ref de) (.int 0), (de, false, .inr ((.object "java/lang/Object"), true, false, [])), oStr true s_165 (.ref b_166) (.int 0), oStr true s_169 (.ref b_170) (.int 0), oStr true s_167 (.ref b_168) (.int 0), oStr true s_1 (.ref b_2) (.int 0), oLN false el (.ref ee) (.int 0), (ee, false, .inr ((.object "java/lang/Object"), true, false, [])), oOb false em ]) rfl ?_
        refine Wp.callV nm_M0 (rm_add_0 hw a171 de s_165 true (.ref b_166) (.int 0) _ hde) 0 rfl (mk_M_add_0 hw) (w_120 hw) (w_121 hw) (w_123 hw) (w_122 hw) (S' := "") (Or.inl rfl) (by decide) rfl rfl rfl (Wn := 0) rfl rfl (by decide) d_law_91 ?_
        rintro _ _ ⟨e_172, rfl, rfl⟩
        refine Wp.pop rfl d_law_94 ?_
        refine Wp.iload rfl d_law_95 ?_
        refine Wp.iconst lc_2 d_law_97 ?_
        refine Wp.icF (by decide) d_law_98 ?_
        refine Wp.aload rfl rfl d_law_101 ?_
        refine Wp.aload rfl rfl d_law_103 ?_
        refine Wp.perm [0, 1, 5, 2, 3, 4] 6 pp_0_1_5_2_3_4 (H' := [oAL true a171 (.int 1) (.ref e_172) (.int 1), eO e_172 [.ref s_165, .null, .null, .null, .null, .null, .null, .null, .null, .null], oStr true s_167 (.ref b_168) (.int 0), (de, false, .inr ((.object "java/lang/Object"), true, false, [])), oStr true s_165 (.ref b_166) (.int 0), oStr true s_169 (.ref b_170) (.int 0), oStr true s_1 (.ref b_2) (.int 0), oLN false el (.ref ee) (.int 0), (ee, false, .inr ((.object "java/lang/Object"), true, false, [])), oOb false em ]) rfl ?_
        refine Wp.callV nm_M0 (rm_add_1 hw a171 e_172 (.ref s_165) s_167 true (.ref b_168) (.int 0) _ ) 0 rfl (mk_M_add_1 hw) (w_120 hw) (w_121 hw) (w_123 hw) (w_122 hw) (S' := "") (Or.inl rfl) (by decide) rfl rfl rfl (Wn := 0) rfl rfl (by decide) d_law_105 ?_
        rintro _ _ ⟨rfl, rfl⟩
        refine Wp.pop rfl d_law_108 ?_
        refine Wp.iload rfl d_law_109 ?_
        refine Wp.iconst lc_3 d_law_111 ?_
        refine Wp.icT (by decide) d_law_112 ?_
        refine Wp.newO nm_M0 (w_58 hw) (w_59 hw) (w_60 hw) (nf_oUE hw) (by decide) (by decide) d_law_123 (fun a173 => ?_)
        refine Wp.dup rfl d_law_126 ?_
        refine Wp.aload rfl rfl d_law_127 ?_
        refine Wp.aload rfl rfl d_law_129 ?_
        refine Wp.aload rfl rfl d_law_131 ?_
        refine Wp.perm [0, 8, 1, 2, 3, 4, 5, 6, 7] 9 pp_0_8_1_2_3_4_5_6_7 (H' := [oUE true a173 (.null) (.null) (.null) (.null), oLN false el (.ref ee) (.int 0), oAL true a171 (.int 2) (.ref e_172) (.int 2), eO e_172 [.ref s_165, .ref s_167, .null, .null, .null, .null, .null, .null, .null, .null], oStr true s_167 (.ref b_168) (.int 0), (de, false, .inr ((.object "java/lang/Object"), true, false, [])), oStr true s_165 (.ref b_166) (.int 0), oStr true s_169 (.ref b_170) (.int 0), oStr true s_1 (.ref b_2) (.int 0), (ee, false, .inr ((.object "java/lang/Object"), true, false, [])), oOb false em ]) rfl ?_
        refine Wp.callC nm_M0 (rm_ue3a hw a173 (.ref s_1) .null .null el ee _ rfl rfl rfl hel) (mk_M_ue3a hw) (w_61 hw) (w_62 hw) rfl rfl rfl rfl (Wn := 1) rfl rfl (by decide) d_law_133 ?_
        rintro _ _ ⟨rfl, rfl⟩
        refine Wp.astore (L' := [.val (.int p0), .val (.int p1), .val (.int p2), .val (.int p3), .val (.int p4), .val (.int p5), .val (.ref s_1), .val (.null), .val (.null), .val (.int 2), .val (.ref s_165), .val (.ref s_167), .val (.ref s_169), .val (.ref a171), .val (.ref a173), .unset, .unset]) rfl rfl d_law_136 ?_
        refine Wp.aload rfl rfl d_law_138 ?_
        refine Wp.aload rfl rfl d_law_140 ?_
        refine Wp.perm [0, 2, 3, 6, 4, 1, 5] 7 pp_0_2_3_6_4_1_5 (H' := [oUE true a173 (.ref s_1) (.null) (.null) (.ref el), oAL true a171 (.int 2) (.ref e_172) (.int 2), eO e_172 [.ref s_165, .ref s_167, .null, .null, .null, .null, .null, .null, .null, .null], oStr true s_165 (.ref b_166) (.int 0), oStr true s_167 (.ref b_168) (.int 0), oLN false el (.ref ee) (.int 0), (de, false, .inr ((.object "java/lang/Object"), true, false, [])), oStr true s_169 (.ref b_170) (.int 0), oStr true s_1 (.ref b_2) (.int 0), (ee, false, .inr ((.object "java/lang/Object"), true, false, [])), oOb false em ]) rfl ?_
        refine Wp.callV nm_M0 (rm_wg2 hw a173 (.ref s_1) .null .null a171 e_172 s_165 true (.ref b_166) (.int 0) s_167 true (.ref b_168) (.int 0) el em mr _ rfl rfl rfl hel hem hmr) 0 rfl (mk_M_wg2 hw) (w_100 hw) (w_101 hw) (w_103 hw) (w_102 hw) (S' := "") (Or.inl rfl) (by decide) rfl rfl rfl (Wn := 0) rfl rfl (by decide) d_law_142 ?_
        rintro _ _ ⟨o_174, q_175, rfl, rfl⟩
        refine Wp.astore (L' := [.val (.int p0), .val (.int p1), .val (.int p2), .val (.int p3), .val (.int p4), .val (.int p5), .val (.ref s_1), .val (.null), .val (.null), .val (.int 2), .val (.ref s_165), .val (.ref s_167), .val (.ref s_169), .val (.ref a171), .val (.ref a173), .val (.ref o_174), .unset]) rfl rfl d_law_145 ?_
        refine Wp.aload rfl rfl d_law_147 ?_
        refine Wp.aload rfl rfl d_law_149 ?_
        refine Wp.perm [3, 4, 5, 0, 1, 2] 6 pp_3_4_5_0_1_2 (H' := [oAL true a171 (.int 2) (.ref e_172) (.int 2), eO e_172 [.ref s_165, .ref s_167, .null, .null, .null, .null, .null, .null, .null, .null], oStr true s_165 (.ref b_166) (.int 0), oUE true o_174 (.ref s_1) (.null) (.null) (.ref q_175), oL12 true q_175 (.ref s_165) (.ref s_167), oUE true a173 (.ref s_1) (.null) (.null) (.ref el), oStr true s_167 (.ref b_168) (.int 0), oLN false el (.ref ee) (.int 0), (de, false, .inr ((.object "java/lang/Object"), true, false, [])), oStr true s_169 (.ref b_170) (.int 0), oStr true s_1 (.ref b_2) (.int 0), (ee, false, .inr ((.object "java/lang/Object"), true, false, [])), oOb false em ]) rfl ?_
        refine Wp.callV nm_M0 (rm_add_2 hw a171 e_172 (.ref s_165) (.ref s_167) s_165 true (.ref b_166) (.int 0) _ ) 0 rfl (mk_M_add_2 hw) (w_120 hw) (w_121 hw) (w_123 hw) (w_122 hw) (S' := "") (Or.inl rfl) (by decide) rfl rfl rfl (Wn := 0) rfl rfl (by decide) d_law_151 ?_
        rintro _ _ ⟨rfl, rfl⟩
        refine Wp.pop rfl d_law_154 ?_
        refine Wp.aload rfl rfl d_law_155 ?_
        refine Wp.aload rfl rfl d_law_157 ?_
        refine Wp.perm [3, 0, 1, 2] 4 pp_3_0_1_2 (H' := [oUE true o_174 (.ref s_1) (.null) (.null) (.ref q_175), oAL true a171 (.int 3) (.ref e_172) (.int 3), eO e_172 [.ref s_165, .ref s_167, .ref s_165, .null, .null, .null, .null, .null, .null, .null], oStr true s_165 (.ref b_166) (.int 0), oL12 true q_175 (.ref s_165) (.ref s_167), oUE true a173 (.ref s_1) (.null) (.null) (.ref el), oStr true s_167 (.ref b_168) (.int 0), oLN false el (.ref ee) (.int 0), (de, false, .inr ((.object "java/lang/Object"), true, false, [])), oStr true s_169 (.ref b_170) (.int 0), oStr true s_1 (.ref b_2) (.int 0), (ee, false, .inr ((.object "java/lang/Object"), true, false, [])), oOb false em ]) rfl ?_
        refine Wp.callV nm_M0 (rm_g0 hw o_174 (.ref s_1) .null .null q_175 _ rfl rfl rfl) 0 rfl (mk_M_g0 hw) (w_149 hw) (w_150 hw) (w_152 hw) (w_151 hw) (S' := "") (Or.inl rfl) (by decide) rfl rfl rfl (Wn := 1) rfl rfl (by decide) d_law_159 ?_
        rintro _ _ ⟨rfl, rfl⟩
        refine Wp.perm [10, 0, 1, 2, 3, 4, 5, 6, 7, 8, 9] 11 pp_10_0_1_2_3_4_5_6_7_8_9 (H' := [oStr true s_1 (.ref b_2) (.int 0), oUE true o_174 (.ref s_1) (.null) (.null) (.ref q_175), oAL true a171 (.int 3) (.ref e_172) (.int 3), eO e_172 [.ref s_165, .ref s_167, .ref s_165, .null, .null, .null, .null, .null, .null, .null], oStr true s_165 (.ref b_166) (.int 0), oL12 true q_175 (.ref s_165) (.ref s_167), oUE true a173 (.ref s_1) (.null) (.null) (.ref el), oStr true s_167 (.ref b_168) (.int 0), oLN false el (.ref ee) (.int 0), (de, false, .inr ((.object "java/lang/Object"), true, false, [])), oStr true s_169 (.ref b_170) (.int 0), (ee, false, .inr ((.object "java/lang/Object"), true, false, [])), oOb false em ]) rfl ?_
        refine Wp.callS nm_M0 (rm_eqS hw s_1 true (.ref b_2) (.int 0) _ ) (mk_M_eqS hw) (w_154 hw) (w_155 hw) rfl rfl (Wn := 0) rfl rfl (by decide) d_law_162 ?_
        rintro _ _ ⟨rfl, rfl⟩
        refine Wp.ifT (by decide) d_law_165 ?_
        refine Wp.aload rfl rfl d_law_170 ?_
        refine Wp.aload rfl rfl d_law_172 ?_
        refine Wp.perm [1, 0] 2 pp_1_0 (H' := [oUE true o_174 (.ref s_1) (.null) (.null) (.ref q_175), oStr true s_1 (.ref b_2) (.int 0), oAL true a171 (.int 3) (.ref e_172) (.int 3), eO e_172 [.ref s_165, .ref s_167, .ref s_165, .null, .null, .null, .null, .null, .null, .null], oStr true s_165 (.ref b_166) (.int 0), oL12 true q_175 (.ref s_165) (.ref s_167), oUE true a173 (.ref s_1) (.null) (.null) (.ref el), oStr true s_167 (.ref b_168) (.int 0), oLN false el (.ref ee) (.int 0), (de, false, .inr ((.object "java/lang/Object"), true, false, [])), oStr true s_169 (.ref b_170) (.int 0), (ee, false, .inr ((.object "java/lang/Object"), true, false, [])), oOb false em ]) rfl ?_
        refine Wp.callV nm_M0 (rm_g1 hw o_174 (.ref s_1) .null .null q_175 _ rfl rfl rfl) 0 rfl (mk_M_g1 hw) (w_162 hw) (w_163 hw) (w_165 hw) (w_164 hw) (S' := "") (Or.inl rfl) (by decide) rfl rfl rfl (Wn := 1) rfl rfl (by decide) d_law_174 ?_
        rintro _ _ ⟨rfl, rfl⟩
        refine Wp.callS nm_M0 (rm_eqN hw  _ ) (mk_M_eqN hw) (w_154 hw) (w_155 hw) rfl rfl (Wn := 0) rfl rfl (by decide) d_law_177 ?_
        rintro _ _ ⟨rfl, rfl⟩
        refine Wp.ifT (by decide) d_law_180 ?_
        refine Wp.aload rfl rfl d_law_185 ?_
        refine Wp.aload rfl rfl d_law_187 ?_
        refine Wp.callV nm_M0 (rm_g2 hw o_174 (.ref s_1) .null .null q_175 _ rfl rfl rfl) 0 rfl (mk_M_g2 hw) (w_167 hw) (w_168 hw) (w_170 hw) (w_169 hw) (S' := "") (Or.inl rfl) (by decide) rfl rfl rfl (Wn := 1) rfl rfl (by decide) d_law_189 ?_
        rintro _ _ ⟨rfl, rfl⟩
        refine Wp.callS nm_M0 (rm_eqN hw  _ ) (mk_M_eqN hw) (w_154 hw) (w_155 hw) rfl rfl (Wn := 0) rfl rfl (by decide) d_law_192 ?_
        rintro _ _ ⟨rfl, rfl⟩
        refine Wp.ifT (by decide) d_law_195 ?_
        refine Wp.aload rfl rfl d_law_200 ?_
        refine Wp.callV nm_M0 (rm_gg hw o_174 (.ref s_1) .null .null q_175 _ ) 0 rfl (mk_M_gg hw) (w_172 hw) (w_173 hw) (w_175 hw) (w_174 hw) (S' := "") (Or.inl rfl) (by decide) rfl rfl rfl (Wn := 0) rfl rfl (by decide) d_law_202 ?_
        rintro _ _ ⟨rfl, rfl⟩
        refine Wp.astore (L' := [.val (.int p0), .val (.int p1), .val (.int p2), .val (.int p3), .val (.int p4), .val (.int p5), .val (.ref s_1), .val (.null), .val (.null), .val (.int 2), .val (.ref s_165), .val (.ref s_167), .val (.ref s_169), .val (.ref a171), .val (.ref a173), .val (.ref o_174), .val (.ref q_175)]) rfl rfl d_law_205 ?_
        refine Wp.aload rfl rfl d_law_207 ?_
        refine Wp.perm [5, 7, 12, 0, 1, 2, 3, 4, 6, 8, 9, 10, 11] 13 pp_5_7_12_0_1_2_3_4_6_8_9_10_11 (H' := [oL12 true q_175 (.ref s_165) (.ref s_167), oStr true s_167 (.ref b_168) (.int 0), oOb false em , oUE true o_174 (.ref s_1) (.null) (.null) (.ref q_175), oStr true s_1 (.ref b_2) (.int 0), oAL true a171 (.int 3) (.ref e_172) (.int 3), eO e_172 [.ref s_165, .ref s_167, .ref s_165, .null, .null, .null, .null, .null, .null, .null], oStr true s_165 (.ref b_166) (.int 0), oUE true a173 (.ref s_1) (.null) (.null) (.ref el), oLN false el (.ref ee) (.int 0), (de, false, .inr ((.object "java/lang/Object"), true, false, [])), oStr true s_169 (.ref b_170) (.int 0), (ee, false, .inr ((.object "java/lang/Object"), true, false, []))]) rfl ?_
        refine Wp.callI nm_M0 (rm_sz2 hw q_175 s_165 s_167 (.ref b_168) (.int 0) em _ hem) 0 rfl (mk_M_sz2 hw) (w_177 hw) (w_178 hw) (w_179 hw) (w_250 hw) (w_251 hw) (w_252 hw) (w_253 hw) (w_254 hw) (by decide) rfl rfl rfl (Wn := 0) rfl rfl (by decide) d_law_209 ?_
        rintro _ _ ⟨rfl, rfl⟩
        refine Wp.iload rfl d_law_214 ?_
        refine Wp.icT (by decide) d_law_216 ?_
        refine Wp.iload rfl d_law_221 ?_
        refine Wp.iconst lc_1 d_law_223 ?_
        refine Wp.icF (by decide) d_law_224 ?_
        refine Wp.aload rfl rfl d_law_227 ?_
        refine Wp.aload rfl rfl d_law_229 ?_
        refine Wp.iconst lc_0 d_law_231 ?_
        refine Wp.callI nm_M0 (rm_gt0 hw q_175 s_165 s_167 _ ) 0 rfl (mk_M_gt0 hw) (w_257 hw) (w_258 hw) (w_259 hw) (w_260 hw) (w_261 hw) (w_262 hw) (w_263 hw) (w_254 hw) (by decide) rfl rfl rfl (Wn := 1) rfl rfl (by decide) d_law_232 ?_
        rintro _ _ ⟨rfl, rfl⟩
        refine Wp.perm [7, 0, 1, 2, 3, 4, 5, 6] 8 pp_7_0_1_2_3_4_5_6 (H' := [oStr true s_165 (.ref b_166) (.int 0), oL12 true q_175 (.ref s_165) (.ref s_167), oStr true s_167 (.ref b_168) (.int 0), oOb false em , oUE true o_174 (.ref s_1) (.null) (.null) (.ref q_175), oStr true s_1 (.ref b_2) (.int 0), oAL true a171 (.int 3) (.ref e_172) (.int 3), eO e_172 [.ref s_165, .ref s_167, .ref s_165, .null, .null, .null, .null, .null, .null, .null], oUE true a173 (.ref s_1) (.null) (.null) (.ref el), oLN false el (.ref ee) (.int 0), (de, false, .inr ((.object "java/lang/Object"), true, false, [])), oStr true s_169 (.ref b_170) (.int 0), (ee, false, .inr ((.object "java/lang/Object"), true, false, []))]) rfl ?_
        refine Wp.callV nm_M0 (rm_seS hw s_165 true (.ref b_166) (.int 0) _ ) 0 rfl (mk_M_seS hw) (w_157 hw) (w_158 hw) (w_160 hw) (w_159 hw) (S' := "") (Or.inl rfl) (by decide) rfl rfl rfl (Wn := 0) rfl rfl (by decide) d_law_237 ?_
        rintro _ _ ⟨rfl, rfl⟩
        refine Wp.ifT (by decide) d_law_240 ?_
        refine Wp.iload rfl d_law_245 ?_
        refine Wp.iconst lc_2 d_law_247 ?_
        refine Wp.icF (by decide) d_law_248 ?_
        refine Wp.aload rfl rfl d_law_251 ?_
        refine Wp.aload rfl rfl d_law_253 ?_
        refine Wp.iconst lc_1 d_law_255 ?_
        refine Wp.perm [1, 2, 3, 0] 4 pp_1_2_3_0 (H' := [oL12 true q_175 (.ref s_165) (.ref s_167), oStr true s_167 (.ref b_168) (.int 0), oOb false em , oStr true s_165 (.ref b_166) (.int 0), oUE true o_174 (.ref s_1) (.null) (.null) (.ref q_175), oStr true s_1 (.ref b_2) (.int 0), oAL true a171 (.int 3) (.ref e_172) (.int 3), eO e_172 [.ref s_165, .ref s_167, .ref s_165, .null, .null, .null, .null, .null, .null, .null], oUE true a173 (.ref s_1) (.null) (.null) (.ref el), oLN false el (.ref ee) (.int 0), (de, false, .inr ((.object "java/lang/Object"), true, false, [])), oStr true s_169 (.ref b_170) (.int 0), (ee, false, .inr ((.object "java/lang/Object"), true, false, []))]) rfl ?_
        refine Wp.callI nm_M0 (rm_gt1 hw q_175 s_165 s_167 (.ref b_168) (.int 0) em _ hem) 0 rfl (mk_M_gt1 hw) (w_257 hw) (w_258 hw) (w_259 hw) (w_260 hw) (w_261 hw) (w_262 hw) (w_263 hw) (w_254 hw) (by decide) rfl rfl rfl (Wn := 1) rfl rfl (by decide) d_law_256 ?_
        rintro _ _ ⟨rfl, rfl⟩
        refine Wp.perm [1, 0] 2 pp_1_0 (H' := [oStr true s_167 (.ref b_168) (.int 0), oL12 true q_175 (.ref s_165) (.ref s_167), oOb false em , oStr true s_165 (.ref b_166) (.int 0), oUE true o_174 (.ref s_1) (.null) (.null) (.ref q_175), oStr true s_1 (.ref b_2) (.int 0), oAL true a171 (.int 3) (.ref e_172) (.int 3), eO e_172 [.ref s_165, .ref s_167, .ref s_165, .null, .null, .null, .null, .null, .null, .null], oUE true a173 (.ref s_1) (.null) (.null) (.ref el), oLN false el (.ref ee) (.int 0), (de, false, .inr ((.object "java/lang/Object"), true, false, [])), oStr true s_169 (.ref b_170) (.int 0), (ee, false, .inr ((.object "java/lang/Object"), true, false, []))]) rfl ?_
        refine Wp.callV nm_M0 (rm_seS hw s_167 true (.ref b_168) (.int 0) _ ) 0 rfl (mk_M_seS hw) (w_157 hw) (w_158 hw) (w_160 hw) (w_159 hw) (S' := "") (Or.inl rfl) (by decide) rfl rfl rfl (Wn := 0) rfl rfl (by decide) d_law_261 ?_
        rintro _ _ ⟨rfl, rfl⟩
        refine Wp.ifT (by decide) d_law_264 ?_
        refine Wp.iload rfl d_law_269 ?_
        refine Wp.iconst lc_3 d_law_271 ?_
        refine Wp.icT (by decide) d_law_272 ?_
        refine Wp.aload rfl rfl d_law_293 ?_
        refine Wp.perm [8, 0, 1, 2, 3, 4, 5, 6, 7] 9 pp_8_0_1_2_3_4_5_6_7 (H' := [oUE true a173 (.ref s_1) (.null) (.null) (.ref el), oStr true s_167 (.ref b_168) (.int 0), oL12 true q_175 (.ref s_165) (.ref s_167), oOb false em , oStr true s_165 (.ref b_166) (.int 0), oUE true o_174 (.ref s_1) (.null) (.null) (.ref q_175), oStr true s_1 (.ref b_2) (.int 0), oAL true a171 (.int 3) (.ref e_172) (.int 3), eO e_172 [.ref s_165, .ref s_167, .ref s_165, .null, .null, .null, .null, .null, .null, .null], oLN false el (.ref ee) (.int 0), (de, false, .inr ((.object "java/lang/Object"), true, false, [])), oStr true s_169 (.ref b_170) (.int 0), (ee, false, .inr ((.object "java/lang/Object"), true, false, []))]) rfl ?_
        refine Wp.callV nm_M0 (rm_gg hw a173 (.ref s_1) .null .null el _ ) 0 rfl (mk_M_gg hw) (w_172 hw) (w_173 hw) (w_175 hw) (w_174 hw) (S' := "") (Or.inl rfl) (by decide) rfl rfl rfl (Wn := 0) rfl rfl (by decide) d_law_295 ?_
        rintro _ _ ⟨rfl, rfl⟩
        refine Wp.perm [9, 12, 0, 1, 2, 3, 4, 5, 6, 7, 8, 10, 11] 13 pp_9_12_0_1_2_3_4_5_6_7_8_10_11 (H' := [oLN false el (.ref ee) (.int 0), (ee, false, .inr ((.object "java/lang/Object"), true, false, [])), oUE true a173 (.ref s_1) (.null) (.null) (.ref el), oStr true s_167 (.ref b_168) (.int 0), oL12 true q_175 (.ref s_165) (.ref s_167), oOb false em , oStr true s_165 (.ref b_166) (.int 0), oUE true o_174 (.ref s_1) (.null) (.null) (.ref q_175), oStr true s_1 (.ref b_2) (.int 0), oAL true a171 (.int 3) (.ref e_172) (.int 3), eO e_172 [.ref s_165, .ref s_167, .ref s_165, .null, .null, .null, .null, .null, .null, .null], (de, false, .inr ((.object "java/lang/Object"), true, false, [])), oStr true s_169 (.ref b_170) (.int 0)]) rfl ?_
        refine Wp.callI nm_M0 (rm_szE hw el ee _ ) 0 rfl (mk_M_szE hw) (w_177 hw) (w_178 hw) (w_179 hw) (w_180 hw) (w_181 hw) (w_182 hw) (w_183 hw) (w_97 hw) (by decide) rfl rfl rfl (Wn := 0) rfl rfl (by decide) d_law_298 ?_
        rintro _ _ ⟨rfl, rfl⟩
        refine Wp.ifF (by decide) d_law_303 ?_
        refine Wp.iconst lc_1 d_law_306 ?_
        refine Wp.goto d_law_307 ?_
        refine Wp.iretN (z := 1) (by simp) rfl (by decide) d_law_311 (by decide) (by decide) ?_
        exact rfl
      · rw [hn]
        refine Wp.istore (L' := [.val (.int p0), .val (.int p1), .val (.int p2), .val (.int p3), .val (.int p4), .val (.int p5), .val (.ref s_1), .val (.null), .val (.null), .val (.int 3), .unset, .unset, .unset, .unset, .unset, .unset, .unset]) rfl d_law_50 ?_
        refine Wp.iloadN rfl d_law_52 ?_
        refine Wp.callS nm_M0 (rm_str hw p3 _ ) (mk_M_str hw) (w_0 hw) (w_1 hw) rfl rfl (Wn := 0) rfl rfl (by decide) d_law_53 ?_
        rintro _ _ ⟨s_176, b_177, rfl, rfl⟩
        refine Wp.astore (L' := [.val (.int p0), .val (.int p1), .val (.int p2), .val (.int p3), .val (.int p4), .val (.int p5), .val (.ref s_1), .val (.null), .val (.null), .val (.int 3), .val (.ref s_176), .unset, .unset, .unset, .unset, .unset, .unset]) rfl rfl d_law_56 ?_
        refine Wp.iload rfl d_law_58 ?_
        refine Wp.callS nm_M0 (rm_str hw p4 _ ) (mk_M_str hw) (w_0 hw) (w_1 hw) rfl rfl (Wn := 0) rfl rfl (by decide) d_law_60 ?_
        rintro _ _ ⟨s_178, b_179, rfl, rfl⟩
        refine Wp.astore (L' := [.val (.int p0), .val (.int p1), .val (.int p2), .val (.int p3), .val (.int p4), .val (.int p5), .val (.ref s_1), .val (.null), .val (.null), .val (.int 3), .val (.ref s_176), .val (.ref s_178), .unset, .unset, .unset, .unset, .unset]) rfl rfl d_law_63 ?_
        refine Wp.iload rfl d_law_65 ?_
        refine Wp.callS nm_M0 (rm_str hw p5 _ ) (mk_M_str hw) (w_0 hw) (w_1 hw) rfl rfl (Wn := 0) rfl rfl (by decide) d_law_67 ?_
        rintro _ _ ⟨s_180, b_181, rfl, rfl⟩
        refine Wp.astore (L' := [.val (.int p0), .val (.int p1), .val (.int p2), .val (.int p3), .val (.int p4), .val (.int p5), .val (.ref s_1), .val (.null), .val (.null), .val (.int 3), .val (.ref s_176), .val (.ref s_178), .val (.ref s_180), .unset, .unset, .unset, .unset]) rfl rfl d_law_70 ?_
        refine Wp.newO nm_M0 (w_34 hw) (w_35 hw) (w_36 hw) (nf_oAL hw) (by decide) (by decide) d_law_72 (fun a182 => ?_)
        refine Wp.dup rfl d_law_75 ?_
        refine Wp.callC nm_M0 (rm_ali hw a182 de _ hde) (mk_M_ali hw) (w_37 hw) (w_38 hw) rfl rfl rfl rfl (Wn := 1) rfl rfl (by decide) d_law_76 ?_
        rintro _ _ ⟨rfl, rfl⟩
        refine Wp.astore (L' := [.val (.int p0), .val (.int p1), .val (.int p2), .val (.int p3), .val (.int p4), .val (.int p5), .val (.ref s_1), .val (.null), .val (.null), .val (.int 3), .val (.ref s_176), .val (.ref s_178), .val (.ref s_180), .val (.ref a182), .unset, .unset, .unset]) rfl rfl d_law_79 ?_
        refine Wp.iload rfl d_law_81 ?_
        refine Wp.iconst lc_1 d_law_83 ?_
        refine Wp.icF (by decide) d_law_84 ?_
        refine Wp.aload rfl rfl d_law_87 ?_
        refine Wp.aload rfl rfl d_law_89 ?_
        refine Wp.perm [0, 8, 3, 1, 2, 4, 5, 6, 7] 9 pp_0_8_3_1_2_4_5_6_7 (H' := [oAL true a182 (.int 0) (.ref de) (.int 0), (de, false, .inr ((.object "java/lang/Object"), true, false, [])), oStr true s_176 (.ref b_177) (.int 0), oStr true s_180 (.ref b_181) (.int 0), oStr true s_178 (.ref b_179) (.int 0), oStr true s_1 (.ref b_2) (.int 0), oLN false el (.ref ee) (.int 0), (ee, false, .inr ((.object "java/lang/Object"), true, false, [])), oOb false em ]) rfl ?_
        refine Wp.callV nm_M0 (rm_add_0 hw a182 de s_176 true (.ref b_177) (.int 0) _ hde) 0 rfl (mk_M_add_0 hw) (w_120 hw) (w_121 hw) (w_123 hw) (w_122 hw) (S' := "") (Or.inl rfl) (by decide) rfl rfl rfl (Wn := 0) rfl rfl (by decide) d_law_91 ?_
        rintro _ _ ⟨e_183, rfl, rfl⟩
        refine Wp.pop rfl d_law_94 ?_
        refine Wp.iload rfl d_law_95 ?_
        refine Wp.iconst lc_2 d_law_97 ?_
        refine Wp.icF (by decide) d_law_98 ?_
        refine Wp.aload rfl rfl d_law_101 ?_
        refine Wp.aload rfl rfl d_law_103 ?_
        refine Wp.perm [0, 1, 5, 2, 3, 4] 6 pp_0_1_5_2_3_4 (H' := [oAL true a182 (.int 1) (.ref e_183) (.int 1), eO e_183 [.ref s_176, .null, .null, .null, .null, .null, .null, .null, .null, .null], oStr true s_178 (.ref b_179) (.int 0), (de, false, .inr ((.object "java/lang/Object"), true, false, [])), oStr true s_176 (.ref b_177) (.int 0), oStr true s_180 (.ref b_181) (.int 0), oStr true s_1 (.ref b_2) (.int 0), oLN false el (.ref ee) (.int 0), (ee, false, .inr ((.object "java/lang/Object"), true, false, [])), oOb false em ]) rfl ?_
        refine Wp.callV nm_M0 (rm_add_1 hw a182 e_183 (.ref s_176) s_178 true (.ref b_179) (.int 0) _ ) 0 rfl (mk_M_add_1 hw) (w_120 hw) (w_121 hw) (w_123 hw) (w_122 hw) (S' := "") (Or.inl rfl) (by decide) rfl rfl rfl (Wn := 0) rfl rfl (by decide) d_law_105 ?_
        rintro _ _ ⟨rfl, rfl⟩
        refine Wp.pop rfl d_law_108 ?_
        refine Wp.iload rfl d_law_109 ?_
        refine Wp.iconst lc_3 d_law_111 ?_
        refine Wp.icF (by decide) d_law_112 ?_
        refine Wp.aload rfl rfl d_law_115 ?_
        refine Wp.aload rfl rfl d_law_117 ?_
        refine Wp.perm [0, 1, 5, 2, 3, 4] 6 pp_0_1_5_2_3_4 (H' := [oAL true a182 (.int 2) (.ref e_183) (.int 2), eO e_183 [.ref s_176, .ref s_178, .null, .null, .null, .null, .null, .null, .null, .null], oStr true s_180 (.ref b_181) (.int 0), oStr true s_178 (.ref b_179) (.int 0), (de, false, .inr ((.object "java/lang/Object"), true, false, [])), oStr true s_176 (.ref b_177) (.int 0), oStr true s_1 (.ref b_2) (.int 0), oLN false el (.ref ee) (.int 0), (ee, false, .inr ((.object "java/lang/Object"), true, false, [])), oOb false em ]) rfl ?_
        refine Wp.callV nm_M0 (rm_add_2 hw a182 e_183 (.ref s_176) (.ref s_178) s_180 true (.ref b_181) (.int 0) _ ) 0 rfl (mk_M_add_2 hw) (w_120 hw) (w_121 hw) (w_123 hw) (w_122 hw) (S' := "") (Or.inl rfl) (by decide) rfl rfl rfl (Wn := 0) rfl rfl (by decide) d_law_119 ?_
        rintro _ _ ⟨rfl, rfl⟩
        refine Wp.pop rfl d_law_122 ?_
        refine Wp.newO nm_M0 (w_58 hw) (w_59 hw) (w_60 hw) (nf_oUE hw) (by decide) (by decide) d_law_123 (fun a184 => ?_)
        refine Wp.dup rfl d_law_126 ?_
        refine Wp.aload rfl rfl d_law_127 ?_
        refine Wp.aload rfl rfl d_law_129 ?_
        refine Wp.aload rfl rfl d_law_131 ?_
        refine Wp.perm [0, 8, 1, 2, 3, 4, 5, 6, 7] 9 pp_0_8_1_2_3_4_5_6_7 (H' := [oUE true a184 (.null) (.null) (.null) (.null), oLN false el (.ref ee) (.int 0), oAL true a182 (.int 3) (.ref e_183) (.int 3), eO e_183 [.ref s_176, .ref s_178, .ref s_180, .null, .null, .null, .null, .null, .null, .null], oStr true s_180 (.ref b_181) (.int 0), oStr true s_178 (.ref b_179) (.int 0), (de, false, .inr ((.object "java/lang/Object"), true, false, [])), oStr true s_176 (.ref b_177) (.int 0), oStr true s_1 (.ref b_2) (.int 0), (ee, false, .inr ((.object "java/lang/Object"), true, false, [])), oOb false em ]) rfl ?_
        refine Wp.callC nm_M0 (rm_ue3a hw a184 (.ref s_1) .null .null el ee _ rfl rfl rfl hel) (mk_M_ue3a hw) (w_61 hw) (w_62 hw) rfl rfl rfl rfl (Wn := 1) rfl rfl (by decide) d_law_133 ?_
        rintro _ _ ⟨rfl, rfl⟩
        refine Wp.astore (L' := [.val (.int p0), .val (.int p1), .val (.int p2), .val (.int p3), .val (.int p4), .val (.int p5), .val (.ref s_1), .val (.null), .val (.null), .val (.int 3), .val (.ref s_176), .val (.ref s_178), .val (.ref s_180), .val (.ref a182), .val (.ref a184), .unset, .unset]) rfl rfl d_law_136 ?_
        refine Wp.aload rfl rfl d_law_138 ?_
        refine Wp.aload rfl rfl d_law_140 ?_
        refine Wp.perm [0, 2, 3, 7, 5, 4, 1, 6] 8 pp_0_2_3_7_5_4_1_6 (H' := [oUE true a184 (.ref s_1) (.null) (.null) (.ref el), oAL true a182 (.int 3) (.ref e_183) (.int 3), eO e_183 [.ref s_176, .ref s_178, .ref s_180, .null, .null, .null, .null, .null, .null, .null], oStr true s_176 (.ref b_177) (.int 0), oStr true s_178 (.ref b_179) (.int 0), oStr true s_180 (.ref b_181) (.int 0), oLN false el (.ref ee) (.int 0), (de, false, .inr ((.object "java/lang/Object"), true, false, [])), oStr true s_1 (.ref b_2) (.int 0), (ee, false, .inr ((.object "java/lang/Object"), true, false, [])), oOb false em ]) rfl ?_
        refine Wp.callV nm_M0 (rm_wg3 hw a184 (.ref s_1) .null .null a182 e_183 s_176 true (.ref b_177) (.int 0) s_178 true (.ref b_179) (.int 0) s_180 true (.ref b_181) (.int 0) el em mr _ rfl rfl rfl hel hem hmr) 0 rfl (mk_M_wg3 hw) (w_100 hw) (w_101 hw) (w_103 hw) (w_102 hw) (S' := "") (Or.inl rfl) (by decide) rfl rfl rfl (Wn := 0) rfl rfl (by decide) d_law_142 ?_
        rintro _ _ ⟨o_185, q_186, qa_187, rfl, rfl⟩
        refine Wp.astore (L' := [.val (.int p0), .val (.int p1), .val (.int p2), .val (.int p3), .val (.int p4), .val (.int p5), .val (.ref s_1), .val (.null), .val (.null), .val (.int 3), .val (.ref s_176), .val (.ref s_178), .val (.ref s_180), .val (.ref a182), .val (.ref a184), .val (.ref o_185), .unset]) rfl rfl d_law_145 ?_
        refine Wp.aload rfl rfl d_law_147 ?_
        refine Wp.aload rfl rfl d_law_149 ?_
        refine Wp.perm [4, 5, 6, 0, 1, 2, 3] 7 pp_4_5_6_0_1_2_3 (H' := [oAL true a182 (.int 3) (.ref e_183) (.int 3), eO e_183 [.ref s_176, .ref s_178, .ref s_180, .null, .null, .null, .null, .null, .null, .null], oStr true s_176 (.ref b_177) (.int 0), oUE true o_185 (.ref s_1) (.null) (.null) (.ref q_186), oLN true q_186 (.ref qa_187) (.int 0), eO qa_187 [.ref s_176, .ref s_178, .ref s_180], oUE true a184 (.ref s_1) (.null) (.null) (.ref el), oStr true s_178 (.ref b_179) (.int 0), oStr true s_180 (.ref b_181) (.int 0), oLN false el (.ref ee) (.int 0), (de, false, .inr ((.object "java/lang/Object"), true, false, [])), oStr true s_1 (.ref b_2) (.int 0), (ee, false, .inr ((.object "java/lang/Object"), true, false, [])), oOb false em ]) rfl ?_
        refine Wp.callV nm_M0 (rm_add_3 hw a182 e_183 (.ref s_176) (.ref s_178) (.ref s_180) s_176 true (.ref b_177) (.int 0) _ ) 0 rfl (mk_M_add_3 hw) (w_120 hw) (w_121 hw) (w_123 hw) (w_122 hw) (S' := "") (Or.inl rfl) (by decide) rfl rfl rfl (Wn := 0) rfl rfl (by decide) d_law_151 ?_
        rintro _ _ ⟨rfl, rfl⟩
        refine Wp.pop rfl d_law_154 ?_
        refine Wp.aload rfl rfl d_law_155 ?_
        refine Wp.aload rfl rfl d_law_157 ?_
        refine Wp.perm [3, 0, 1, 2] 4 pp_3_0_1_2 (H' := [oUE true o_185 (.ref s_1) (.null) (.null) (.ref q_186), oAL true a182 (.int 4) (.ref e_183) (.int 4), eO e_183 [.ref s_176, .ref s_178, .ref s_180, .ref s_176, .null, .null, .null, .null, .null, .null], oStr true s_176 (.ref b_177) (.int 0), oLN true q_186 (.ref qa_187) (.int 0), eO qa_187 [.ref s_176, .ref s_178, .ref s_180], oUE true a184 (.ref s_1) (.null) (.null) (.ref el), oStr true s_178 (.ref b_179) (.int 0), oStr true s_180 (.ref b_181) (.int 0), oLN false el (.ref ee) (.int 0), (de, false, .inr ((.object "java/lang/Object"), true, false, [])), oStr true s_1 (.ref b_2) (.int 0), (ee, false, .inr ((.object "java/lang/Object"), true, false, [])), oOb false em ]) rfl ?_
        refine Wp.callV nm_M0 (rm_g0 hw o_185 (.ref s_1) .null .null q_186 _ rfl rfl rfl) 0 rfl (mk_M_g0 hw) (w_149 hw) (w_150 hw) (w_152 hw) (w_151 hw) (S' := "") (Or.inl rfl) (by decide) rfl rfl rfl (Wn := 1) rfl rfl (by decide) d_law_159 ?_
        rintro _ _ ⟨rfl, rfl⟩
        refine Wp.perm [11, 0, 1, 2, 3, 4, 5, 6, 7, 8, 9, 10] 12 pp_11_0_1_2_3_4_5_6_7_8_9_10 (H' := [oStr true s_1 (.ref b_2) (.int 0), oUE true o_185 (.ref s_1) (.null) (.null) (.ref q_186), oAL true a182 (.int 4) (.ref e_183) (.int 4), eO e_183 [.ref s_176, .ref s_178, .ref s_180, .ref s_176, .null, .null, .null, .null, .null, .null], oStr true s_176 (.ref b_177) (.int 0), oLN true q_186 (.ref qa_187) (.int 0), eO qa_187 [.ref s_176, .ref s_178, .ref s_180], oUE true a184 (.ref s_1) (.null) (.null) (.ref el), oStr true s_178 (.ref b_179) (.int 0), oStr true s_180 (.ref b_181) (.int 0), oLN false el (.ref ee) (.int 0), (de, false, .inr ((.object "java/lang/Object"), true, false, [])), (ee, false, .inr ((.object "java/lang/Object"), true, false, [])), oOb false em ]) rfl ?_
        refine Wp.callS nm_M0 (rm_eqS hw s_1 true (.ref b_2) (.int 0) _ ) (mk_M_eqS hw) (w_154 hw) (w_155 hw) rfl rfl (Wn := 0) rfl rfl (by decide) d_law_162 ?_
        rintro _ _ ⟨rfl, rfl⟩
        refine Wp.ifT (by decide) d_law_165 ?_
        refine Wp.aload rfl rfl d_law_170 ?_
        refine Wp.aload rfl rfl d_law_172 ?_
        refine Wp.perm [1, 0] 2 pp_1_0 (H' := [oUE true o_185 (.ref s_1) (.null) (.null) (.ref q_186), oStr true s_1 (.ref b_2) (.int 0), oAL true a182 (.int 4) (.ref e_183) (.int 4), eO e_183 [.ref s_176, .ref s_178, .ref s_180, .ref s_176, .null, .null, .null, .null, .null, .null], oStr true s_176 (.ref b_177) (.int 0), oLN true q_186 (.ref qa_187) (.int 0), eO qa_187 [.ref s_176, .ref s_178, .ref s_180], oUE true a184 (.ref s_1) (.null) (.null) (.ref el), oStr true s_178 (.ref b_179) (.int 0), oStr true s_180 (.ref b_181) (.int 0), oLN false el (.ref ee) (.int 0), (de, false, .inr ((.object "java/lang/Object"), true, false, [])), (ee, false, .inr ((.object "java/lang/Object"), true, false, [])), oOb false em ]) rfl ?_
        refine Wp.callV nm_M0 (rm_g1 hw o_185 (.ref s_1) .null .null q_186 _ rfl rfl rfl) 0 rfl (mk_M_g1 hw) (w_162 hw) (w_163 hw) (w_165 hw) (w_164 hw) (S' := "") (Or.inl rfl) (by decide) rfl rfl rfl (Wn := 1) rfl rfl (by decide) d_law_174 ?_
        rintro _ _ ⟨rfl, rfl⟩
        refine Wp.callS nm_M0 (rm_eqN hw  _ ) (mk_M_eqN hw) (w_154 hw) (w_155 hw) rfl rfl (Wn := 0) rfl rfl (by decide) d_law_177 ?_
        rintro _ _ ⟨rfl, rfl⟩
        refine Wp.ifT (by decide) d_law_180 ?_
        refine Wp.aload rfl rfl d_law_185 ?_
        refine Wp.aload rfl rfl d_law_187 ?_
        refine Wp.callV nm_M0 (rm_g2 hw o_185 (.ref s_1) .null .null q_186 _ rfl rfl rfl) 0 rfl (mk_M_g2 hw) (w_167 hw) (w_168 hw) (w_170 hw) (w_169 hw) (S' := "") (Or.inl rfl) (by decide) rfl rfl rfl (Wn := 1) rfl rfl (by decide) d_law_189 ?_
        rintro _ _ ⟨rfl, rfl⟩
        refine Wp.callS nm_M0 (rm_eqN hw  _ ) (mk_M_eqN hw) (w_154 hw) (w_155 hw) rfl rfl (Wn := 0) rfl rfl (by decide) d_law_192 ?_
        rintro _ _ ⟨rfl, rfl⟩
        refine Wp.ifT (by decide) d_law_195 ?_
        refine Wp.aload rfl rfl d_law_200 ?_
        refine Wp.callV nm_M0 (rm_gg hw o_185 (.ref s_1) .null .null q_186 _ ) 0 rfl (mk_M_gg hw) (w_172 hw) (w_173 hw) (w_175 hw) (w_174 hw) (S' := "") (Or.inl rfl) (by decide) rfl rfl rfl (Wn := 0) rfl rfl (by decide) d_law_202 ?_
        rintro _ _ ⟨rfl, rfl⟩
        refine Wp.astore (L' := [.val (.int p0), .val (.int p1), .val (.int p2), .val (.int p3), .val (.int p4), .val (.int p5), .val (.ref s_1), .val (.null), .val (.null), .val (.int 3), .val (.ref s_176), .val (.ref s_178), .val (.ref s_180), .val (.ref a182), .val (.ref a184), .val (.ref o_185), .val (.ref q_186)]) rfl rfl d_law_205 ?_
        refine Wp.aload rfl rfl d_law_207 ?_
        refine Wp.perm [5, 6, 0, 1, 2, 3, 4] 7 pp_5_6_0_1_2_3_4 (H' := [oLN true q_186 (.ref qa_187) (.int 0), eO qa_187 [.ref s_176, .ref s_178, .ref s_180], oUE true o_185 (.ref s_1) (.null) (.null) (.ref q_186), oStr true s_1 (.ref b_2) (.int 0), oAL true a182 (.int 4) (.ref e_183) (.int 4), eO e_183 [.ref s_176, .ref s_178, .ref s_180, .ref s_176, .null, .null, .null, .null, .null, .null], oStr true s_176 (.ref b_177) (.int 0), oUE true a184 (.ref s_1) (.null) (.null) (.ref el), oStr true s_178 (.ref b_179) (.int 0), oStr true s_180 (.ref b_181) (.int 0), oLN false el (.ref ee) (.int 0), (de, false, .inr ((.object "java/lang/Object"), true, false, [])), (ee, false, .inr ((.object "java/lang/Object"), true, false, [])), oOb false em ]) rfl ?_
        refine Wp.callI nm_M0 (rm_sz3 hw q_186 qa_187 s_176 s_178 s_180 _ ) 0 rfl (mk_M_sz3 hw) (w_177 hw) (w_178 hw) (w_179 hw) (w_180 hw) (w_181 hw) (w_182 hw) (w_183 hw) (w_97 hw) (by decide) rfl rfl rfl (Wn := 0) rfl rfl (by decide) d_law_209 ?_
        rintro _ _ ⟨rfl, rfl⟩
        refine Wp.iload rfl d_law_214 ?_
        refine Wp.icT (by decide) d_law_216 ?_
        refine Wp.iload rfl d_law_221 ?_
        refine Wp.iconst lc_1 d_law_223 ?_
        refine Wp.icF (by decide) d_law_224 ?_
        refine Wp.aload rfl rfl d_law_227 ?_
        refine Wp.aload rfl rfl d_law_229 ?_
        refine Wp.iconst lc_0 d_law_231 ?_
        refine Wp.callI nm_M0 (rm_gn0 hw q_186 qa_187 s_176 s_178 s_180 _ ) 0 rfl (mk_M_gn0 hw) (w_257 hw) (w_258 hw) (w_259 hw) (w_279 hw) (w_280 hw) (w_281 hw) (w_282 hw) (w_97 hw) (by decide) rfl rfl rfl (Wn := 1) rfl rfl (by decide) d_law_232 ?_
        rintro _ _ ⟨rfl, rfl⟩
        refine Wp.perm [6, 0, 1, 2, 3, 4, 5] 7 pp_6_0_1_2_3_4_5 (H' := [oStr true s_176 (.ref b_177) (.int 0), oLN true q_186 (.ref qa_187) (.int 0), eO qa_187 [.ref s_176, .ref s_178, .ref s_180], oUE true o_185 (.ref s_1) (.null) (.null) (.ref q_186), oStr true s_1 (.ref b_2) (.int 0), oAL true a182 (.int 4) (.ref e_183) (.int 4), eO e_183 [.ref s_176, .ref s_178, .ref s_180, .ref s_176, .null, .null, .null, .null, .null, .null], oUE true a184 (.ref s_1) (.null) (.null) (.ref el), oStr true s_178 (.ref b_179) (.int 0), oStr true s_180 (.ref b_181) (.int 0), oLN false el (.ref ee) (.int 0), (de, false, .inr ((.object "java/lang/Object"), true, false, [])), (ee, false, .inr ((.object "java/lang/Object"), true, false, [])), oOb false em ]) rfl ?_
        refine Wp.callV nm_M0 (rm_seS hw s_176 true (.ref b_177) (.int 0) _ ) 0 rfl (mk_M_seS hw) (w_157 hw) (w_158 hw) (w_160 hw) (w_159 hw) (S' := "") (Or.inl rfl) (by decide) rfl rfl rfl (Wn := 0) rfl rfl (by decide) d_law_237 ?_
        rintro _ _ ⟨rfl, rfl⟩
        refine Wp.ifT (by decide) d_law_240 ?_
        refine Wp.iload rfl d_law_245 ?_
        refine Wp.iconst lc_2 d_law_247 ?_
        refine Wp.icF (by decide) d_law_248 ?_
        refine Wp.aload rfl rfl d_law_251 ?_
        refine Wp.aload rfl rfl d_law_253 ?_
        refine Wp.iconst lc_1 d_law_255 ?_
        refine Wp.perm [1, 2, 0] 3 pp_1_2_0 (H' := [oLN true q_186 (.ref qa_187) (.int 0), eO qa_187 [.ref s_176, .ref s_178, .ref s_180], oStr true s_176 (.ref b_177) (.int 0), oUE true o_185 (.ref s_1) (.null) (.null) (.ref q_186), oStr true s_1 (.ref b_2) (.int 0), oAL true a182 (.int 4) (.ref e_183) (.int 4), eO e_183 [.ref s_176, .ref s_178, .ref s_180, .ref s_176, .null, .null, .null, .null, .null, .null], oUE true a184 (.ref s_1) (.null) (.null) (.ref el), oStr true s_178 (.ref b_179) (.int 0), oStr true s_180 (.ref b_181) (.int 0), oLN false el (.ref ee) (.int 0), (de, false, .inr ((.object "java/lang/Object"), true, false, [])), (ee, false, .inr ((.object "java/lang/Object"), true, false, [])), oOb false em ]) rfl ?_
        refine Wp.callI nm_M0 (rm_gn1 hw q_186 qa_187 s_176 s_178 s_180 _ ) 0 rfl (mk_M_gn1 hw) (w_257 hw) (w_258 hw) (w_259 hw) (w_279 hw) (w_280 hw) (w_281 hw) (w_282 hw) (w_97 hw) (by decide) rfl rfl rfl (Wn := 1) rfl rfl (by decide) d_law_256 ?_
        rintro _ _ ⟨rfl, rfl⟩
        refine Wp.perm [8, 0, 1, 2, 3, 4, 5, 6, 7] 9 pp_8_0_1_2_3_4_5_6_7 (H' := [oStr true s_178 (.ref b_179) (.int 0), oLN true q_186 (.ref qa_187) (.int 0), eO qa_187 [.ref s_176, .ref s_178, .ref s_180], oStr true s_176 (.ref b_177) (.int 0), oUE true o_185 (.ref s_1) (.null) (.null) (.ref q_186), oStr true s_1 (.ref b_2) (.int 0), oAL true a182 (.int 4) (.ref e_183) (.int 4), eO e_183 [.ref s_176, .ref s_178, .ref s_180, .ref s_176, .null, .null, .null, .null, .null, .null], oUE true a184 (.ref s_1) (.null) (.null) (.ref el), oStr true s_180 (.ref b_181) (.int 0), oLN false el (.ref ee) (.int 0), (de, false, .inr ((.object "java/lang/Object"), true, false, [])), (ee, false, .inr ((.object "java/lang/Object"), true, false, [])), oOb false em ]) rfl ?_
        refine Wp.callV nm_M0 (rm_seS hw s_178 true (.ref b_179) (.int 0) _ ) 0 rfl (mk_M_seS hw) (w_157 hw) (w_158 hw) (w_160 hw) (w_159 hw) (S' := "") (Or.inl rfl) (by decide) rfl rfl rfl (Wn := 0) rfl rfl (by decide) d_law_261 ?_
        rintro _ _ ⟨rfl, rfl⟩
        refine Wp.ifT (by decide) d_law_264 ?_
        refine Wp.iload rfl d_law_269 ?_
        refine Wp.iconst lc_3 d_law_271 ?_
        refine Wp.icF (by decide) d_law_272 ?_
        refine Wp.aload rfl rfl d_law_275 ?_
        refine Wp.aload rfl rfl d_law_277 ?_
        refine Wp.iconst lc_2 d_law_279 ?_
        refine Wp.perm [1, 2, 0] 3 pp_1_2_0 (H' := [oLN true q_186 (.ref qa_187) (.int 0), eO qa_187 [.ref s_176, .ref s_178, .ref s_180], oStr true s_178 (.ref b_179) (.int 0), oStr true s_176 (.ref b_177) (.int 0), oUE true o_185 (.ref s_1) (.null) (.null) (.ref q_186), oStr true s_1 (.ref b_2) (.int 0), oAL true a182 (.int 4) (.ref e_183) (.int 4), eO e_183 [.ref s_176, .ref s_178, .ref s_180, .ref s_176, .null, .null, .null, .null, .null, .null], oUE true a184 (.ref s_1) (.null) (.null) (.ref el), oStr true s_180 (.ref b_181) (.int 0), oLN false el (.ref ee) (.int 0), (de, false, .inr ((.object "java/lang/Object"), true, false, [])), (ee, false, .inr ((.object "java/lang/Object"), true, false, [])), oOb false em ]) rfl ?_
        refine Wp.callI nm_M0 (rm_gn2 hw q_186 qa_187 s_176 s_178 s_180 _ ) 0 rfl (mk_M_gn2 hw) (w_257 hw) (w_258 hw) (w_259 hw) (w_279 hw) (w_280 hw) (w_281 hw) (w_282 hw) (w_97 hw) (by decide) rfl rfl rfl (Wn := 1) rfl rfl (by decide) d_law_280 ?_
        rintro _ _ ⟨rfl, rfl⟩
        refine Wp.perm [9, 0, 1, 2, 3, 4, 5, 6, 7, 8] 10 pp_9_0_1_2_3_4_5_6_7_8 (H' := [oStr true s_180 (.ref b_181) (.int 0), oLN true q_186 (.ref qa_187) (.int 0), eO qa_187 [.ref s_176, .ref s_178, .ref s_180], oStr true s_178 (.ref b_179) (.int 0), oStr true s_176 (.ref b_177) (.int 0), oUE true o_185 (.ref s_1) (.null) (.null) (.ref q_186), oStr true s_1 (.ref b_2) (.int 0), oAL true a182 (.int 4) (.ref e_183) (.int 4), eO e_183 [.ref s_176, .ref s_178, .ref s_180, .ref s_176, .null, .null, .null, .null, .null, .null], oUE true a184 (.ref s_1) (.null) (.null) (.ref el), oLN false el (.ref ee) (.int 0), (de, false, .inr ((.object "java/lang/Object"), true, false, [])), (ee, false, .inr ((.object "java/lang/Object"), true, false, [])), oOb false em ]) rfl ?_
        refine Wp.callV nm_M0 (rm_seS hw s_180 true (.ref b_181) (.int 0) _ ) 0 rfl (mk_M_seS hw) (w_157 hw) (w_158 hw) (w_160 hw) (w_159 hw) (S' := "") (Or.inl rfl) (by decide) rfl rfl rfl (Wn := 0) rfl rfl (by decide) d_law_285 ?_
        rintro _ _ ⟨rfl, rfl⟩
        refine Wp.ifT (by decide) d_law_288 ?_
        refine Wp.aload rfl rfl d_law_293 ?_
        refine Wp.perm [9, 0, 1, 2, 3, 4, 5, 6, 7, 8] 10 pp_9_0_1_2_3_4_5_6_7_8 (H' := [oUE true a184 (.ref s_1) (.null) (.null) (.ref el), oStr true s_180 (.ref b_181) (.int 0), oLN true q_186 (.ref qa_187) (.int 0), eO qa_187 [.ref s_176, .ref s_178, .ref s_180], oStr true s_178 (.ref b_179) (.int 0), oStr true s_176 (.ref b_177) (.int 0), oUE true o_185 (.ref s_1) (.null) (.null) (.ref q_186), oStr true s_1 (.ref b_2) (.int 0), oAL true a182 (.int 4) (.ref e_183) (.int 4), eO e_183 [.ref s_176, .ref s_178, .ref s_180, .ref s_176, .null, .null, .null, .null, .null, .null], oLN false el (.ref ee) (.int 0), (de, false, .inr ((.object "java/lang/Object"), true, false, [])), (ee, false, .inr ((.object "java/lang/Object"), true, false, [])), oOb false em ]) rfl ?_
        refine Wp.callV nm_M0 (rm_gg hw a184 (.ref s_1) .null .null el _ ) 0 rfl (mk_M_gg hw) (w_172 hw) (w_173 hw) (w_175 hw) (w_174 hw) (S' := "") (Or.inl rfl) (by decide) rfl rfl rfl (Wn := 0) rfl rfl (by decide) d_law_295 ?_
        rintro _ _ ⟨rfl, rfl⟩
        refine Wp.perm [10, 12, 0, 1, 2, 3, 4, 5, 6, 7, 8, 9, 11] 13 pp_10_12_0_1_2_3_4_5_6_7_8_9_11 (H' := [oLN false el (.ref ee) (.int 0), (ee, false, .inr ((.object "java/lang/Object"), true, false, [])), oUE true a184 (.ref s_1) (.null) (.null) (.ref el), oStr true s_180 (.ref b_181) (.int 0), oLN true q_186 (.ref qa_187) (.int 0), eO qa_187 [.ref s_176, .ref s_178, .ref s_180], oStr true s_178 (.ref b_179) (.int 0), oStr true s_176 (.ref b_177) (.int 0), oUE true o_185 (.ref s_1) (.null) (.null) (.ref q_186), oStr true s_1 (.ref b_2) (.int 0), oAL true a182 (.int 4) (.ref e_183) (.int 4), eO e_183 [.ref s_176, .ref s_178, .ref s_180, .ref s_176, .null, .null, .null, .null, .null, .null], (de, false, .inr ((.object "java/lang/Object"), true, false, [])), oOb false em ]) rfl ?_
        refine Wp.callI nm_M0 (rm_szE hw el ee _ ) 0 rfl (mk_M_szE hw) (w_177 hw) (w_178 hw) (w_179 hw) (w_180 hw) (w_181 hw) (w_182 hw) (w_183 hw) (w_97 hw) (by decide) rfl rfl rfl (Wn := 0) rfl rfl (by decide) d_law_298 ?_
        rintro _ _ ⟨rfl, rfl⟩
        refine Wp.ifF (by decide) d_law_303 ?_
        refine Wp.iconst lc_1 d_law_306 ?_
        refine Wp.goto d_law_307 ?_
        refine Wp.iretN (z := 1) (by simp) rfl (by decide) d_law_311 (by decide) (by decide) ?_
        exact rfl
set_option maxRecDepth 65536 in
set_option maxHeartbeats 40000000 in
theorem comes_1 {Post : Tables → Env → Array Value → State → Outcome → State → Prop} (hpost : ∀ tb e args s v u, (limb_1_1.after args s (.returned v) u = true ∧ limb_1_2.after args s (.returned v) u = true ∧ True) → FrameEnd s (.returned v) u (Jvm.fieldLocs frame_1_writes args s ++ Jvm.arrayLocs frame_1_arrays args s ++ Jvm.staticLocs frame_1_statics s) 64 256 → Post tb e args s (.returned v) u) :
    ArmFor flags0 classFile x code maxLocals ret World_1 tables_1 room_1 Calls_1 rest_1 Pre_1 Post := by
  intro l hfl _ _ p e ha hc hk s m args below hf hA hF happ hP
  obtain ⟨hcalls, hrest, hpre⟩ := hP
  obtain ⟨-, -, -, hnamed, -, -, -, hat⟩ := (Spec.applies_iff hf).mp happ
  obtain ⟨hg, hn⟩ := and_e (Cond.before_iff.mp (show (Jvm.Cond.and given_1 narrow_1).before args s = true from hpre))
  obtain ⟨g1, g2⟩ := and_e hg
  obtain ⟨g3, g4⟩ := and_e g2
  obtain ⟨g5, g6⟩ := and_e g4
  obtain ⟨g7, g8⟩ := and_e g6
  obtain ⟨g9, g10⟩ := and_e g8
  obtain ⟨g11, g12⟩ := and_e g10
  obtain ⟨w0, w1, w2, w3, w4, w5, rfl⟩ : ∃ w0 w1 w2 w3 w4 w5 : Value, args = #[w0, w1, w2, w3, w4, w5] := by
    have hs : args.size = 6 := by simpa [Cond.value, given_1] using g1
    obtain ⟨L⟩ := args
    match L, hs with
    | [w0, w1, w2, w3, w4, w5], _ => exact ⟨w0, w1, w2, w3, w4, w5, rfl⟩
  have hw0 := fun d (hd : d ∈ tables_1) => atoms_spec (ws := Jvm.Cond.code x code maxLocals ret :: tables_1) hat d (List.mem_cons_of_mem _ hd)
  have hfit : Fit s := fun {y c} hc i hi => by
    obtain ⟨ha, rfl⟩ := Array.getElem?_eq_some_iff.mp hc
    have q := List.all_eq_true.mp ((Array.all_eq_true_iff_forall_mem.mp hF) _ (Array.getElem_mem ha)) i (List.mem_range.mpr hi)
    simpa [Array.getElem?_eq_getElem hi] using q
  obtain ⟨hsets, hown0⟩ := atoms_of _ (rest_1_c_eq ▸ (show rest_1_c.before _ s = true from hrest))
  have hr0 := Cond.before_iff.mp hown0
  obtain ⟨i0, ei0⟩ := is_v g3
  obtain rfl : w0 = (.int i0) := Option.some.inj ei0
  obtain ⟨i1, ei1⟩ := is_v g5
  obtain rfl : w1 = (.int i1) := Option.some.inj ei1
  obtain ⟨i2, ei2⟩ := is_v g7
  obtain rfl : w2 = (.int i2) := Option.some.inj ei2
  obtain ⟨i3, ei3⟩ := is_v g9
  obtain rfl : w3 = (.int i3) := Option.some.inj ei3
  obtain ⟨i4, ei4⟩ := is_v g11
  obtain rfl : w4 = (.int i4) := Option.some.inj ei4
  obtain ⟨i5, ei5⟩ := is_v g12
  obtain rfl : w5 = (.int i5) := Option.some.inj ei5
  obtain ⟨vc, ec⟩ := is_v (Cond.before_iff.mp (hsets _ (List.mem_of_getElem? (i := 1) rfl)))
  have Sc := Sta.start ec (Or.inl (hsets _ (List.mem_of_getElem? (i := 0) rfl)))
  have cc : ¬ vc = (0 : Int32) := gotF (Cond.eq_ints ec (Term.int_eval (0))) (not_v (Cond.before_iff.mp (hsets _ (List.mem_of_getElem? (i := 2) rfl))))
  obtain ⟨cM, kM', mr, q1, q2, q3, q4⟩ := hcalls.1
  have hmr : Mir s "[Ljava/lang/Object;" mr := ⟨cM, kM', q1, q2, q3, q4⟩
  obtain ⟨de, ede⟩ := exa_v (Cond.before_iff.mp (hsets _ (List.mem_of_getElem? (i := 16) rfl)))
  have Ede := Exa.start ede (Cond.before_iff.mp (hsets _ (List.mem_of_getElem? (i := 16) rfl)))
  have hde := Sta.start ede (Or.inr ⟨hw0 _ (List.mem_of_getElem? (i := 36) rfl), (hsets _ (List.mem_of_getElem? (i := 11) rfl))⟩)
  obtain ⟨el, eel⟩ := exa_v (Cond.before_iff.mp (hsets _ (List.mem_of_getElem? (i := 20) rfl)))
  have Eel := Exa.start eel (Cond.before_iff.mp (hsets _ (List.mem_of_getElem? (i := 20) rfl)))
  have hel := Sta.start eel (Or.inl (hsets _ (List.mem_of_getElem? (i := 19) rfl)))
  obtain ⟨em, eem⟩ := exa_v (Cond.before_iff.mp (hsets _ (List.mem_of_getElem? (i := 27) rfl)))
  have Eem := Exa.start eem (Cond.before_iff.mp (hsets _ (List.mem_of_getElem? (i := 27) rfl)))
  have hem := Sta.start eem (Or.inl (hsets _ (List.mem_of_getElem? (i := 26) rfl)))
  obtain ⟨ee, eee⟩ := exa_v (Cond.before_iff.mp (hsets _ (List.mem_of_getElem? (i := 22) rfl)))
  have Eee := Exa.start eee (Cond.before_iff.mp (hsets _ (List.mem_of_getElem? (i := 22) rfl)))
  have Fel := Fld.start ((fld_at eel).symm.trans eee)
  have Fal := Fld.start ((fld_at eel).symm.trans (eqv_int (Cond.before_iff.mp (hsets _ (List.mem_of_getElem? (i := 24) rfl)))))
  have hw : Ws (l, s, #[.int i0, .int i1, .int i2, .int i3, .int i4, .int i5], s.heap.size) := ⟨hw0, ⟨_, Sc, cc⟩⟩
  have Dde : DsOk s s.heap de (.inr (.object "java/lang/Object", true, false, [])) := arStart hfit ede (Cond.before_iff.mp (hsets _ (List.mem_of_getElem? (i := 15) rfl))) (Cond.before_iff.mp (hsets _ (List.mem_of_getElem? (i := 17) rfl))) rfl (by decide) (fun i v hv => by simp at hv) (fun _ => Ede)
  have Dee : DsOk s s.heap ee (.inr (.object "java/lang/Object", true, false, [])) := arStart hfit eee (Cond.before_iff.mp (hsets _ (List.mem_of_getElem? (i := 21) rfl))) (Cond.before_iff.mp (hsets _ (List.mem_of_getElem? (i := 23) rfl))) rfl (by decide) (fun i v hv => by simp at hv) (fun _ => Eee)
  have Dem : DsOk s s.heap em (.inl ("java/lang/Object", [])) := ⟨Eem, fun _ q => (nomatch q), List.nodup_nil⟩
  have Del : DsOk s s.heap el (.inl ("java/util/ImmutableCollections$ListN", [("java/util/ImmutableCollections$ListN", "elements", "[Ljava/lang/Object;", .ref ee), ("java/util/ImmutableCollections$ListN", "allowNulls", "Z", .int 0)])) := ⟨Eel, fun f hf => by rcases List.mem_cons.mp hf with rfl | hf; exact Fel; rw [List.mem_singleton.mp hf]; exact Fal, NewFs.slots (nf_oLN hw)⟩
  have P0 : Hp (l, s, #[.int i0, .int i1, .int i2, .int i3, .int i4, .int i5], s.heap.size) s.heap [oLN false el (.ref ee) (.int 0), (ee, false, .inr ((.object "java/lang/Object"), true, false, [])), oOb false em , (de, false, .inr ((.object "java/lang/Object"), true, false, []))] := Hp.old (Hp.old (Hp.old (Hp.old hp0 Dde rfl) Dem rfl) Dee rfl) Del rfl
  obtain ⟨n, o, h1, h2, h3, v, L, rfl, ⟨N, _, -, rfl⟩, hq⟩ := (rm_law (W := (l, s, #[.int i0, .int i1, .int i2, .int i3, .int i4, .int i5], s.heap.size)) hw i0 i1 i2 i3 i4 i5 el ee em de mr hel hem hmr hde) tables_1 s.heap P0 p e ha hc hk s m _ below hf ((Spec.applies_iff_loose hf).mp happ).1 ⟨rfl, State.Warmed39.refl s, rfl⟩ trivial
  refine ⟨n, _, h1, h2, h3, hpost _ _ _ _ _ _ ⟨Cond.after_iff.mpr rfl, Cond.after_iff.mpr (eq_i res_at (Term.int_eval (1)) rfl), trivial⟩ ⟨hq.1, hq.2.1, (hq.2.2.sift fun y hy => Or.inr (N y hy)).mono (by decide) (by decide)⟩⟩
theorem main_1_1 : Claimed_1_1 := comes_1 fun _ _ _ _ _ _ h hF => ⟨h.1, hF⟩
theorem main_1_2 : Claimed_1_2 := comes_1 fun _ _ _ _ _ _ h hF => ⟨h.2.1, hF⟩
end Jvm.Pilot.@@N@@
namespace Jvm.Pilot.@@N@@
open Jvm Jvm.ClassFile Sem Op Lib Jvm.Free Jvm.Stand Jvm.Pilot.@@N@@.Jvm.D
/-! MADE BY PROGRAM (witnessworld.py) out of the Statement's table words and the real class files: 38 classes; the members and pool entries that the words name. The judged class is class 1, her method 3. -/
namespace start1
open Jvm.ClassFile
def u (s : String) : CpInfo := .utf8 (stringToUtf16 s)
/-- a pool by its gaps: so many unusable entries, then the entry; so many at the end -/
def gap : Nat → List CpInfo → List CpInfo
  | 0, r => r
  | n + 1, r => .unusable :: gap n r
def poolList (es : List (Nat × CpInfo)) (last : Nat) : List CpInfo := es.foldr (fun e r => gap e.1 (e.2 :: r)) (gap last [])
def pool (es : List (Nat × CpInfo)) (last : Nat) : Array CpInfo := ⟨poolList es last⟩
def fileOf (pool : Array CpInfo) (this : Nat) (attrs : Array Attribute := #[]) (ms : Array MethodInfo := #[]) (fl : Nat := 33) (sup : Nat := 0) (ifs : Array Nat := #[]) (fds : Array FieldInfo := #[]) : ClassFile where
  minorVersion := 0
  majorVersion := 65
  constantPool := pool
  accessFlags := fl
  thisClass := this
  superClass := sup
  interfaces := ifs
  fields := fds
  methods := ms
  attributes := attrs
def plain (name : String) (sup : Option ClassId) : Class where
  name := name
  kind := .ordinary
  loader := none
  accessFlags := 33
  super := sup
  interfaces := #[]
  cf := none
  fields := #[]
  methods := #[]
  instanceTypes := #[]
  staticTypes := #[]
  resolved := #[]
  callSites := []
  init := .initialized
  statics := none
  mirror := none

def pool0 : Array CpInfo := pool [(5, u "<init>"), (0, u "()V"), (1, .class_ 10), (1, u "java/lang/Object"), (0, u "getClass"), (0, u "()Ljava/lang/Class;")] 111

def k0c0 : Code := { maxStack := 0, maxLocals := 1, code := object_method_1_code, exceptionTable := #[], attributes := #[] }
def k0m0 : Method := { name := "<init>", desc := "()V", sig := { parameters := [], returnType := none }, accessFlags := 1, code := some k0c0 }
def k0m1 : Method := { name := "getClass", desc := "()Ljava/lang/Class;", sig := { parameters := [], returnType := some (.object "java/lang/Class") }, accessFlags := 273, code := none }
/-- java/lang/Object -/
def k0 : Class := { plain "java/lang/Object" none with
  accessFlags := 33
  interfaces := #[]
  cf := some (fileOf pool0 8 #[] #[{ accessFlags := 1, nameIndex := 5, descriptorIndex := 6, attributes := #[] }, { accessFlags := 273, nameIndex := 11, descriptorIndex := 12, attributes := #[] }] 33 0 #[] #[])
  fields := #[]
  methods := #[k0m0, k0m1]
  instanceTypes := #[]
  staticTypes := #[]
  resolved := Array.replicate 124 none
  statics := none }

def pool1 : Array CpInfo := pool [(2, .class_ 4), (0, .nameAndType 5 6), (0, u "java/lang/Object"), (0, u "<init>"), (0, u "()V"), (0, .class_ 8), (0, u "java/lang/String"), (0, .methodref 7 10), (0, .nameAndType 5 11), (0, u "([C)V"), (0, .methodref 7 13), (0, .nameAndType 14 15), (0, u "equals"), (0, u "(Ljava/lang/Object;)Z"), (0, .methodref 17 18), (0, .class_ 19), (0, .nameAndType 20 21), (0, u "com/example/keybridge/keybridge/directory/UserEntryWithGroupsPinLaw"), (0, u "str"), (0, u "(I)Ljava/lang/String;"), (0, .class_ 23), (0, u "java/util/ArrayList"), (0, .methodref 22 3), (0, .methodref 22 26), (0, .nameAndType 27 15), (0, u "add"), (0, .class_ 29), (0, u "com/example/keybridge/keybridge/directory/UserEntry"), (0, .methodref 28 31), (0, .nameAndType 5 32), (0, u "(Ljava/lang/String;Ljava/lang/String;Ljava/lang/String;)V"), (0, .methodref 28 34), (0, .nameAndType 35 36), (0, u "withGroups"), (0, u "(Ljava/util/List;)Lcom/example/keybridge/keybridge/directory/UserEntry;"), (0, .methodref 28 38), (0, .nameAndType 39 40), (0, u "getDn"), (0, u "()Ljava/lang/String;"), (0, .methodref 17 42), (0, .nameAndType 43 44), (0, u "eq"), (0, u "(Ljava/lang/String;Ljava/lang/String;)Z"), (0, .methodref 28 46), (0, .nameAndType 47 40), (0, u "getUsername"), (0, .methodref 28 49), (0, .nameAndType 50 40), (0, u "getMail"), (0, .methodref 28 52), (0, .nameAndType 53 54), (0, u "getGroups"), (0, u "()Ljava/util/List;"), (0, .interfaceMethodref 56 57), (0, .class_ 58), (0, .nameAndType 59 60), (0, u "java/util/List"), (0, u "size"), (0, u "()I"), (0, .interfaceMethodref 56 62), (0, .nameAndType 63 64), (0, u "get"), (0, u "(I)Ljava/lang/Object;"), (3, u "law"), (0, u "(IIIIII)Z")] 2

def k1m0 : Method := { name := "<init>", desc := "()V", sig := { parameters := [], returnType := none }, accessFlags := 1, code := none }
def k1c1 : Code := { maxStack := 6, maxLocals := 3, code := method_2_code, exceptionTable := #[], attributes := #[] }
def k1m1 : Method := { name := "str", desc := "(I)Ljava/lang/String;", sig := { parameters := [.int], returnType := some (.object "java/lang/String") }, accessFlags := 10, code := some k1c1 }
def k1c2 : Code := { maxStack := 2, maxLocals := 2, code := method_3_code, exceptionTable := #[], attributes := #[] }
def k1m2 : Method := { name := "eq", desc := "(Ljava/lang/String;Ljava/lang/String;)Z", sig := { parameters := [(.object "java/lang/String"), (.object "java/lang/String")], returnType := some .boolean }, accessFlags := 10, code := some k1c2 }
def k1c3 : Code := { maxStack := 5, maxLocals := 17, code := code, exceptionTable := #[], attributes := #[] }
def k1m3 : Method := { name := "law", desc := "(IIIIII)Z", sig := { parameters := [.int, .int, .int, .int, .int, .int], returnType := some .boolean }, accessFlags := 9, code := some k1c3 }
/-- com/example/keybridge/keybridge/directory/UserEntryWithGroupsPinLaw -/
def k1 : Class := { plain "com/example/keybridge/keybridge/directory/UserEntryWithGroupsPinLaw" (some 0) with
  accessFlags := 49
  interfaces := #[]
  cf := some (fileOf pool1 17 #[] #[{ accessFlags := 1, nameIndex := 5, descriptorIndex := 6, attributes := #[] }, { accessFlags := 10, nameIndex := 20, descriptorIndex := 21, attributes := #[] }, { accessFlags := 10, nameIndex := 43, descriptorIndex := 44, attributes := #[] }, { accessFlags := 9, nameIndex := 68, descriptorIndex := 69, attributes := #[] }] 49 2 #[] #[])
  fields := #[]
  methods := #[k1m0, k1m1, k1m2, k1m3]
  instanceTypes := #[]
  staticTypes := #[]
  resolved := Array.replicate 72 none
  statics := none }

def pool2 : Array CpInfo := pool [(1, .class_ 2), (0, u "java/io/Serializable"), (0, .class_ 4), (0, u "java/lang/Object")] 2

/-- java/io/Serializable -/
def k2 : Class := { plain "java/io/Serializable" (some 0) with
  accessFlags := 1537
  interfaces := #[]
  cf := some (fileOf pool2 1 #[] #[] 1537 3 #[] #[])
  fields := #[]
  methods := #[]
  instanceTypes := #[]
  staticTypes := #[]
  resolved := Array.replicate 7 none
  statics := none }

def pool3 : Array CpInfo := pool [(1, .class_ 2), (0, u "java/lang/Comparable"), (0, .class_ 4), (0, u "java/lang/Object")] 7

/-- java/lang/Comparable -/
def k3 : Class := { plain "java/lang/Comparable" (some 0) with
  accessFlags := 1537
  interfaces := #[]
  cf := some (fileOf pool3 1 #[] #[] 1537 3 #[] #[])
  fields := #[]
  methods := #[]
  instanceTypes := #[]
  staticTypes := #[]
  resolved := Array.replicate 12 none
  statics := none }

def pool4 : Array CpInfo := pool [(2, .class_ 4), (1, u "java/lang/CharSequence"), (42, .class_ 48), (0, u "java/lang/CharSequence$1CodePointIterator"), (10, .class_ 60), (0, u "java/lang/CharSequence$1CharIterator"), (5, .class_ 67), (0, u "java/lang/Object")] 63

/-- java/lang/CharSequence -/
def k4 : Class := { plain "java/lang/CharSequence" (some 0) with
  accessFlags := 1537
  interfaces := #[]
  cf := some (fileOf pool4 2 #[.nestMembers #[47, 59]] #[] 1537 66 #[] #[])
  fields := #[]
  methods := #[]
  instanceTypes := #[]
  staticTypes := #[]
  resolved := Array.replicate 131 none
  statics := none }

def pool5 : Array CpInfo := pool [(1, .class_ 2), (0, u "java/lang/constant/Constable"), (0, .class_ 4), (0, u "java/lang/Object")] 6

/-- java/lang/constant/Constable -/
def k5 : Class := { plain "java/lang/constant/Constable" (some 0) with
  accessFlags := 1537
  interfaces := #[]
  cf := some (fileOf pool5 1 #[] #[] 1537 3 #[] #[])
  fields := #[]
  methods := #[]
  instanceTypes := #[]
  staticTypes := #[]
  resolved := Array.replicate 11 none
  statics := none }

def pool6 : Array CpInfo := pool [(1, .class_ 2), (0, u "java/lang/constant/ConstantDesc"), (0, .class_ 4), (0, u "java/lang/Object")] 32

/-- java/lang/constant/ConstantDesc -/
def k6 : Class := { plain "java/lang/constant/ConstantDesc" (some 0) with
  accessFlags := 1537
  interfaces := #[]
  cf := some (fileOf pool6 1 #[] #[] 1537 3 #[] #[])
  fields := #[]
  methods := #[]
  instanceTypes := #[]
  staticTypes := #[]
  resolved := Array.replicate 37 none
  statics := none }

def pool7 : Array CpInfo := pool [(1, .methodref 2 3), (0, .class_ 4), (0, .nameAndType 5 6), (0, u "java/lang/Object"), (0, u "<init>"), (0, u "()V"), (2, .fieldref 10 11), (0, .class_ 12), (0, .nameAndType 13 14), (0, u "java/lang/String"), (0, u "value"), (0, u "[B"), (0, .fieldref 10 16), (0, .nameAndType 17 18), (0, u "coder"), (0, u "B"), (2, u "hash"), (0, u "I"), (2, u "hashIsZero"), (0, u "Z"), (0, .methodref 10 28), (0, .nameAndType 5 29), (0, u "([CIILjava/lang/Void;)V"), (8, .fieldref 10 39), (0, .nameAndType 40 26), (0, u "COMPACT_STRINGS"), (1, .class_ 44), (1, u "java/lang/StringUTF16"), (0, u "compress"), (1, .methodref 42 48), (0, .nameAndType 49 50), (0, u "coderFromArrayLen"), (0, u "([BI)B"), (126, .methodref 42 178), (0, .nameAndType 45 179), (0, u "([CII)[B"), (363, u "equals"), (29, u "(Ljava/lang/Object;)Z"), (1, .class_ 576), (0, u "java/lang/CharSequence"), (22, u "CASE_INSENSITIVE_ORDER"), (0, u "Ljava/util/Comparator;"), (409, u "([C)V"), (90, u "serialPersistentFields"), (0, u "[Ljava/io/ObjectStreamField;"), (0, .class_ 1104), (0, u "java/lang/String$CaseInsensitiveComparator"), (1, .class_ 1107), (0, u "java/io/Serializable"), (0, .class_ 1109), (0, u "java/lang/Comparable"), (0, .class_ 1111), (0, u "java/lang/constant/Constable"), (0, .class_ 1113), (0, u "java/lang/constant/ConstantDesc"), (2, u "serialVersionUID"), (0, u "J"), (3, u "REPL"), (0, u "C"), (2, u "LATIN1"), (1, u "UTF16")] 323

def k7m0 : Method := { name := "<init>", desc := "()V", sig := { parameters := [], returnType := none }, accessFlags := 1, code := none }
def k7c1 : Code := { maxStack := 5, maxLocals := 2, code := jdk_42_method_3_code, exceptionTable := #[], attributes := #[] }
def k7m1 : Method := { name := "<init>", desc := "([C)V", sig := { parameters := [(.array .char)], returnType := none }, accessFlags := 1, code := some k7c1 }
def k7c2 : Code := { maxStack := 2, maxLocals := 3, code := jdk_42_method_66_code, exceptionTable := #[], attributes := #[] }
def k7m2 : Method := { name := "equals", desc := "(Ljava/lang/Object;)Z", sig := { parameters := [(.object "java/lang/Object")], returnType := some .boolean }, accessFlags := 1, code := some k7c2 }
def k7c3 : Code := { maxStack := 4, maxLocals := 6, code := jdk_42_method_149_code, exceptionTable := #[], attributes := #[] }
def k7m3 : Method := { name := "<init>", desc := "([CIILjava/lang/Void;)V", sig := { parameters := [(.array .char), .int, .int, (.object "java/lang/Void")], returnType := none }, accessFlags := 2, code := some k7c3 }
/-- java/lang/String -/
def k7 : Class := { plain "java/lang/String" (some 0) with
  accessFlags := 49
  interfaces := #[2, 3, 4, 5, 6]
  cf := some (fileOf pool7 10 #[.nestMembers #[1103]] #[{ accessFlags := 1, nameIndex := 5, descriptorIndex := 6, attributes := #[] }, { accessFlags := 1, nameIndex := 5, descriptorIndex := 1010, attributes := #[] }, { accessFlags := 1, nameIndex := 543, descriptorIndex := 573, attributes := #[] }, { accessFlags := 2, nameIndex := 5, descriptorIndex := 29, attributes := #[] }] 49 2 #[1106, 1108, 575, 1110, 1112] #[{ accessFlags := 18, nameIndex := 13, descriptorIndex := 14, attributes := #[] }, { accessFlags := 18, nameIndex := 17, descriptorIndex := 18, attributes := #[] }, { accessFlags := 2, nameIndex := 21, descriptorIndex := 22, attributes := #[] }, { accessFlags := 2, nameIndex := 25, descriptorIndex := 26, attributes := #[] }, { accessFlags := 26, nameIndex := 1116, descriptorIndex := 1117, attributes := #[] }, { accessFlags := 24, nameIndex := 40, descriptorIndex := 26, attributes := #[] }, { accessFlags := 26, nameIndex := 1101, descriptorIndex := 1102, attributes := #[] }, { accessFlags := 26, nameIndex := 1121, descriptorIndex := 1122, attributes := #[] }, { accessFlags := 25, nameIndex := 599, descriptorIndex := 600, attributes := #[] }, { accessFlags := 24, nameIndex := 1125, descriptorIndex := 18, attributes := #[] }, { accessFlags := 24, nameIndex := 1127, descriptorIndex := 18, attributes := #[] }])
  fields := #[{ name := "value", type := (.array .byte), accessFlags := 18, slot := 0, constantValue := 0 }, { name := "coder", type := .byte, accessFlags := 18, slot := 1, constantValue := 0 }, { name := "hash", type := .int, accessFlags := 2, slot := 2, constantValue := 0 }, { name := "hashIsZero", type := .boolean, accessFlags := 2, slot := 3, constantValue := 0 }, { name := "serialVersionUID", type := .long, accessFlags := 26, slot := 0, constantValue := 0 }, { name := "COMPACT_STRINGS", type := .boolean, accessFlags := 24, slot := 1, constantValue := 0 }, { name := "serialPersistentFields", type := (.array (.object "java/io/ObjectStreamField")), accessFlags := 26, slot := 2, constantValue := 0 }, { name := "REPL", type := .char, accessFlags := 26, slot := 3, constantValue := 0 }, { name := "CASE_INSENSITIVE_ORDER", type := (.object "java/util/Comparator"), accessFlags := 25, slot := 4, constantValue := 0 }, { name := "LATIN1", type := .byte, accessFlags := 24, slot := 5, constantValue := 0 }, { name := "UTF16", type := .byte, accessFlags := 24, slot := 6, constantValue := 0 }]
  methods := #[k7m0, k7m1, k7m2, k7m3]
  instanceTypes := #[(.array .byte), .byte, .int, .boolean]
  staticTypes := #[.long, .boolean, (.array (.object "java/io/ObjectStreamField")), .char, (.object "java/util/Comparator"), .byte, .byte]
  resolved := Array.replicate 1451 none
  statics := some 0 }

def pool8 : Array CpInfo := pool [(6, .class_ 8), (1, u "java/lang/Object"), (0, u "<init>"), (0, u "()V"), (1, .class_ 14), (1, u "java/lang/StringUTF16"), (31, u "$assertionsDisabled"), (0, u "Z"), (13, u "HI_BYTE_SHIFT"), (0, u "I"), (2, u "LO_BYTE_SHIFT"), (49, .methodref 12 116), (0, .nameAndType 117 118), (0, u "compress"), (0, u "([CI[BII)I"), (3, u "([CII)[B"), (138, u "coderFromArrayLen"), (0, u "([BI)B"), (106, .class_ 371), (1, u "java/lang/StringUTF16$LinesSpliterator"), (58, u "MAX_LENGTH"), (196, .class_ 628), (0, u "java/lang/StringUTF16$CodePointsSpliterator"), (0, .class_ 630), (0, u "java/lang/StringUTF16$CharsSpliterator")] 4

def k8m0 : Method := { name := "<init>", desc := "()V", sig := { parameters := [], returnType := none }, accessFlags := 0, code := none }
def k8c1 : Code := { maxStack := 2, maxLocals := 2, code := jdk_52_method_15_code, exceptionTable := #[], attributes := #[] }
def k8m1 : Method := { name := "coderFromArrayLen", desc := "([BI)B", sig := { parameters := [(.array .byte), .int], returnType := some .byte }, accessFlags := 8, code := some k8c1 }
def k8c2 : Code := { maxStack := 5, maxLocals := 6, code := jdk_52_method_16_code, exceptionTable := #[], attributes := #[] }
def k8m2 : Method := { name := "compress", desc := "([CII)[B", sig := { parameters := [(.array .char), .int, .int], returnType := some (.array .byte) }, accessFlags := 9, code := some k8c2 }
def k8c3 : Code := { maxStack := 3, maxLocals := 7, code := jdk_52_method_21_code, exceptionTable := #[], attributes := #[] }
def k8m3 : Method := { name := "compress", desc := "([CI[BII)I", sig := { parameters := [(.array .char), .int, (.array .byte), .int, .int], returnType := some .int }, accessFlags := 9, code := some k8c3 }
/-- java/lang/StringUTF16 -/
def k8 : Class := { plain "java/lang/StringUTF16" (some 0) with
  accessFlags := 48
  interfaces := #[]
  cf := some (fileOf pool8 12 #[.nestMembers #[627, 629, 369]] #[{ accessFlags := 0, nameIndex := 9, descriptorIndex := 10, attributes := #[] }, { accessFlags := 8, nameIndex := 261, descriptorIndex := 262, attributes := #[] }, { accessFlags := 9, nameIndex := 117, descriptorIndex := 122, attributes := #[] }, { accessFlags := 9, nameIndex := 117, descriptorIndex := 118, attributes := #[] }] 48 6 #[] #[{ accessFlags := 26, nameIndex := 61, descriptorIndex := 62, attributes := #[] }, { accessFlags := 26, nameIndex := 65, descriptorIndex := 62, attributes := #[] }, { accessFlags := 24, nameIndex := 430, descriptorIndex := 62, attributes := #[] }, { accessFlags := 4120, nameIndex := 46, descriptorIndex := 47, attributes := #[] }])
  fields := #[{ name := "HI_BYTE_SHIFT", type := .int, accessFlags := 26, slot := 0, constantValue := 0 }, { name := "LO_BYTE_SHIFT", type := .int, accessFlags := 26, slot := 1, constantValue := 0 }, { name := "MAX_LENGTH", type := .int, accessFlags := 24, slot := 2, constantValue := 0 }, { name := "$assertionsDisabled", type := .boolean, accessFlags := 4120, slot := 3, constantValue := 0 }]
  methods := #[k8m0, k8m1, k8m2, k8m3]
  instanceTypes := #[]
  staticTypes := #[.int, .int, .int, .boolean]
  resolved := Array.replicate 635 none
  statics := none }

def pool9 : Array CpInfo := pool [(8, .class_ 10), (1, u "java/lang/Iterable"), (24, .class_ 36), (0, u "java/lang/Object")] 25

/-- java/lang/Iterable -/
def k9 : Class := { plain "java/lang/Iterable" (some 0) with
  accessFlags := 1537
  interfaces := #[]
  cf := some (fileOf pool9 8 #[] #[] 1537 35 #[] #[])
  fields := #[]
  methods := #[]
  instanceTypes := #[]
  staticTypes := #[]
  resolved := Array.replicate 62 none
  statics := none }

def pool10 : Array CpInfo := pool [(10, .class_ 12), (1, u "java/util/Collection"), (0, u "toArray"), (16, u "()Z"), (29, .class_ 61), (0, u "java/lang/Object"), (0, .class_ 63), (0, u "java/lang/Iterable"), (2, u "isEmpty"), (3, u "()[Ljava/lang/Object;")] 44

def k10m0 : Method := { name := "isEmpty", desc := "()Z", sig := { parameters := [], returnType := some .boolean }, accessFlags := 1025, code := none }
def k10m1 : Method := { name := "toArray", desc := "()[Ljava/lang/Object;", sig := { parameters := [], returnType := some (.array (.object "java/lang/Object")) }, accessFlags := 1025, code := none }
/-- java/util/Collection -/
def k10 : Class := { plain "java/util/Collection" (some 0) with
  accessFlags := 1537
  interfaces := #[9]
  cf := some (fileOf pool10 10 #[] #[{ accessFlags := 1025, nameIndex := 66, descriptorIndex := 30, attributes := #[] }, { accessFlags := 1025, nameIndex := 13, descriptorIndex := 70, attributes := #[] }] 1537 60 #[62] #[])
  fields := #[]
  methods := #[k10m0, k10m1]
  instanceTypes := #[]
  staticTypes := #[]
  resolved := Array.replicate 115 none
  statics := none }

def pool11 : Array CpInfo := pool [(1, .methodref 2 3), (0, .class_ 4), (0, .nameAndType 5 6), (0, u "java/lang/Object"), (0, u "<init>"), (0, u "()V"), (1, .class_ 10), (1, u "java/util/AbstractCollection"), (66, .class_ 78), (0, u "java/util/Collection")] 81

def k11c0 : Code := { maxStack := 1, maxLocals := 1, code := jdk_22_method_1_code, exceptionTable := #[], attributes := #[] }
def k11m0 : Method := { name := "<init>", desc := "()V", sig := { parameters := [], returnType := none }, accessFlags := 4, code := some k11c0 }
/-- java/util/AbstractCollection -/
def k11 : Class := { plain "java/util/AbstractCollection" (some 0) with
  accessFlags := 1057
  interfaces := #[10]
  cf := some (fileOf pool11 8 #[] #[{ accessFlags := 4, nameIndex := 5, descriptorIndex := 6, attributes := #[] }] 1057 2 #[77] #[])
  fields := #[]
  methods := #[k11m0]
  instanceTypes := #[]
  staticTypes := #[]
  resolved := Array.replicate 160 none
  statics := none }

def pool12 : Array CpInfo := pool [(8, .class_ 10), (1, u "java/util/SequencedCollection"), (15, .class_ 27), (0, u "java/lang/Object"), (0, .class_ 29), (0, u "java/util/Collection")] 27

/-- java/util/SequencedCollection -/
def k12 : Class := { plain "java/util/SequencedCollection" (some 0) with
  accessFlags := 1537
  interfaces := #[10]
  cf := some (fileOf pool12 8 #[] #[] 1537 26 #[28] #[])
  fields := #[]
  methods := #[]
  instanceTypes := #[]
  staticTypes := #[]
  resolved := Array.replicate 57 none
  statics := none }

def pool13 : Array CpInfo := pool [(8, .class_ 10), (1, u "java/util/List"), (20, u "(Ljava/lang/Object;)V"), (16, u "<init>"), (26, u "get"), (0, u "(I)Ljava/lang/Object;"), (2, u "size"), (0, u "()I"), (7, u "of"), (1, .fieldref 91 92), (0, .class_ 93), (0, .nameAndType 94 95), (0, u "java/util/ImmutableCollections"), (0, u "EMPTY_LIST"), (0, u "Ljava/util/ImmutableCollections$ListN;"), (0, .class_ 97), (0, u "java/util/ImmutableCollections$List12"), (0, .methodref 96 99), (0, .nameAndType 48 31), (0, .methodref 96 101), (0, .nameAndType 48 102), (0, u "(Ljava/lang/Object;Ljava/lang/Object;)V"), (0, .class_ 104), (0, u "java/lang/Object"), (3, u "([Ljava/lang/Object;)Ljava/util/List;"), (0, .methodref 91 110), (0, .nameAndType 111 108), (0, u "listFromArray"), (0, .methodref 91 113), (0, .nameAndType 114 115), (0, u "listCopy"), (0, u "(Ljava/util/Collection;)Ljava/util/List;"), (3, u "()Ljava/util/List;"), (0, .class_ 121), (0, u "java/util/SequencedCollection"), (112, u "copyOf")] 16

def k13m0 : Method := { name := "size", desc := "()I", sig := { parameters := [], returnType := some .int }, accessFlags := 1025, code := none }
def k13m1 : Method := { name := "get", desc := "(I)Ljava/lang/Object;", sig := { parameters := [.int], returnType := some (.object "java/lang/Object") }, accessFlags := 1025, code := none }
def k13c2 : Code := { maxStack := 1, maxLocals := 0, code := jdk_40_method_36_code, exceptionTable := #[], attributes := #[] }
def k13m2 : Method := { name := "of", desc := "()Ljava/util/List;", sig := { parameters := [], returnType := some (.object "java/util/List") }, accessFlags := 9, code := some k13c2 }
def k13c3 : Code := { maxStack := 5, maxLocals := 2, code := jdk_40_method_47_code, exceptionTable := #[], attributes := #[] }
def k13m3 : Method := { name := "of", desc := "([Ljava/lang/Object;)Ljava/util/List;", sig := { parameters := [(.array (.object "java/lang/Object"))], returnType := some (.object "java/util/List") }, accessFlags := 137, code := some k13c3 }
def k13c4 : Code := { maxStack := 1, maxLocals := 1, code := jdk_40_method_48_code, exceptionTable := #[], attributes := #[] }
def k13m4 : Method := { name := "copyOf", desc := "(Ljava/util/Collection;)Ljava/util/List;", sig := { parameters := [(.object "java/util/Collection")], returnType := some (.object "java/util/List") }, accessFlags := 9, code := some k13c4 }
/-- java/util/List -/
def k13 : Class := { plain "java/util/List" (some 0) with
  accessFlags := 1537
  interfaces := #[12]
  cf := some (fileOf pool13 8 #[] #[{ accessFlags := 1025, nameIndex := 79, descriptorIndex := 80, attributes := #[] }, { accessFlags := 1025, nameIndex := 75, descriptorIndex := 76, attributes := #[] }, { accessFlags := 9, nameIndex := 88, descriptorIndex := 119, attributes := #[] }, { accessFlags := 137, nameIndex := 88, descriptorIndex := 108, attributes := #[] }, { accessFlags := 9, nameIndex := 234, descriptorIndex := 115, attributes := #[] }] 1537 103 #[120] #[])
  fields := #[]
  methods := #[k13m0, k13m1, k13m2, k13m3, k13m4]
  instanceTypes := #[]
  staticTypes := #[]
  resolved := Array.replicate 251 none
  statics := none }

def pool14 : Array CpInfo := pool [(1, .methodref 2 3), (0, .class_ 4), (0, .nameAndType 5 6), (0, u "java/util/AbstractCollection"), (0, u "<init>"), (0, u "()V"), (0, .fieldref 8 9), (0, .class_ 10), (0, .nameAndType 11 12), (0, u "java/util/AbstractList"), (0, u "modCount"), (0, u "I"), (64, .class_ 78), (0, u "java/util/AbstractList$Itr"), (3, .class_ 83), (0, u "java/util/AbstractList$ListItr"), (9, .class_ 94), (0, u "java/util/AbstractList$RandomAccessSubList"), (3, .class_ 99), (0, u "java/util/AbstractList$SubList"), (33, .class_ 134), (0, u "java/util/List"), (73, .class_ 209), (0, u "java/util/AbstractList$SubList$1"), (0, .class_ 211), (0, u "java/util/AbstractList$RandomAccessSpliterator")] 6

def k14c0 : Code := { maxStack := 2, maxLocals := 1, code := jdk_39_method_1_code, exceptionTable := #[], attributes := #[] }
def k14m0 : Method := { name := "<init>", desc := "()V", sig := { parameters := [], returnType := none }, accessFlags := 4, code := some k14c0 }
/-- java/util/AbstractList -/
def k14 : Class := { plain "java/util/AbstractList" (some 11) with
  accessFlags := 1057
  interfaces := #[13]
  cf := some (fileOf pool14 8 #[.nestMembers #[93, 98, 208, 210, 82, 77]] #[{ accessFlags := 4, nameIndex := 5, descriptorIndex := 6, attributes := #[] }] 1057 2 #[133] #[{ accessFlags := 132, nameIndex := 11, descriptorIndex := 12, attributes := #[] }])
  fields := #[{ name := "modCount", type := .int, accessFlags := 132, slot := 0, constantValue := 0 }]
  methods := #[k14m0]
  instanceTypes := #[.int]
  staticTypes := #[]
  resolved := Array.replicate 218 none
  statics := none }

def pool15 : Array CpInfo := pool [(1, .class_ 2), (0, u "java/util/RandomAccess"), (0, .class_ 4), (0, u "java/lang/Object")] 2

/-- java/util/RandomAccess -/
def k15 : Class := { plain "java/util/RandomAccess" (some 0) with
  accessFlags := 1537
  interfaces := #[]
  cf := some (fileOf pool15 1 #[] #[] 1537 3 #[] #[])
  fields := #[]
  methods := #[]
  instanceTypes := #[]
  staticTypes := #[]
  resolved := Array.replicate 7 none
  statics := none }

def pool16 : Array CpInfo := pool [(1, .class_ 2), (0, u "java/lang/Cloneable"), (0, .class_ 4), (0, u "java/lang/Object")] 2

/-- java/lang/Cloneable -/
def k16 : Class := { plain "java/lang/Cloneable" (some 0) with
  accessFlags := 1537
  interfaces := #[]
  cf := some (fileOf pool16 1 #[] #[] 1537 3 #[] #[])
  fields := #[]
  methods := #[]
  instanceTypes := #[]
  staticTypes := #[]
  resolved := Array.replicate 7 none
  statics := none }

def pool17 : Array CpInfo := pool [(1, .methodref 2 3), (0, .class_ 4), (0, .nameAndType 5 6), (0, u "java/util/AbstractList"), (0, u "<init>"), (0, u "()V"), (0, .class_ 8), (0, u "java/lang/Object"), (0, .fieldref 10 11), (0, .class_ 12), (0, .nameAndType 13 14), (0, u "java/util/ArrayList"), (0, u "elementData"), (0, u "[Ljava/lang/Object;"), (2, u "EMPTY_ELEMENTDATA"), (21, .fieldref 10 40), (0, .nameAndType 41 14), (0, u "DEFAULTCAPACITY_EMPTY_ELEMENTDATA"), (4, u "toArray"), (0, u "()[Ljava/lang/Object;"), (0, .fieldref 10 49), (0, .nameAndType 50 51), (0, u "size"), (0, u "I"), (6, .class_ 60), (1, u "java/util/Arrays"), (0, u "copyOf"), (1, .fieldref 10 64), (0, .nameAndType 65 51), (0, u "modCount"), (0, .methodref 58 67), (0, .nameAndType 61 68), (0, u "([Ljava/lang/Object;I)[Ljava/lang/Object;"), (0, .methodref 10 70), (0, .nameAndType 71 72), (0, u "grow"), (0, u "(I)[Ljava/lang/Object;"), (6, .methodref 80 81), (0, .class_ 82), (0, .nameAndType 83 84), (0, u "java/lang/Math"), (0, u "max"), (0, u "(II)I"), (11, u "(Ljava/lang/Object;)Z"), (32, .methodref 10 130), (0, .nameAndType 71 47), (0, .methodref 10 132), (0, .nameAndType 133 134), (0, u "add"), (0, u "(Ljava/lang/Object;[Ljava/lang/Object;I)V"), (13, .class_ 149), (0, u "java/util/List"), (23, u "()Z"), (88, .class_ 263), (0, u "java/util/ArrayList$ListItr"), (3, .class_ 268), (0, u "java/util/ArrayList$Itr"), (7, .class_ 277), (0, u "java/util/ArrayList$SubList"), (12, .class_ 291), (0, u "java/util/ArrayList$ArrayListSpliterator"), (37, .class_ 330), (0, u "java/util/RandomAccess"), (0, .class_ 332), (0, u "java/lang/Cloneable"), (0, .class_ 334), (0, u "java/io/Serializable"), (0, u "serialVersionUID"), (0, u "J"), (3, u "DEFAULT_CAPACITY"), (22, u "isEmpty"), (136, .class_ 501), (0, u "java/util/ArrayList$SubList$2"), (0, .class_ 503), (0, u "java/util/ArrayList$SubList$1")] 5

def k17c0 : Code := { maxStack := 2, maxLocals := 1, code := jdk_38_method_2_code, exceptionTable := #[], attributes := #[] }
def k17m0 : Method := { name := "<init>", desc := "()V", sig := { parameters := [], returnType := none }, accessFlags := 1, code := some k17c0 }
def k17c1 : Code := { maxStack := 4, maxLocals := 4, code := jdk_38_method_6_code, exceptionTable := #[], attributes := #[] }
def k17m1 : Method := { name := "grow", desc := "(I)[Ljava/lang/Object;", sig := { parameters := [.int], returnType := some (.array (.object "java/lang/Object")) }, accessFlags := 2, code := some k17c1 }
def k17c2 : Code := { maxStack := 3, maxLocals := 1, code := jdk_38_method_7_code, exceptionTable := #[], attributes := #[] }
def k17m2 : Method := { name := "grow", desc := "()[Ljava/lang/Object;", sig := { parameters := [], returnType := some (.array (.object "java/lang/Object")) }, accessFlags := 2, code := some k17c2 }
def k17c3 : Code := { maxStack := 1, maxLocals := 1, code := jdk_38_method_9_code, exceptionTable := #[], attributes := #[] }
def k17m3 : Method := { name := "isEmpty", desc := "()Z", sig := { parameters := [], returnType := some .boolean }, accessFlags := 1, code := some k17c3 }
def k17c4 : Code := { maxStack := 2, maxLocals := 1, code := jdk_38_method_16_code, exceptionTable := #[], attributes := #[] }
def k17m4 : Method := { name := "toArray", desc := "()[Ljava/lang/Object;", sig := { parameters := [], returnType := some (.array (.object "java/lang/Object")) }, accessFlags := 1, code := some k17c4 }
def k17c5 : Code := { maxStack := 3, maxLocals := 4, code := jdk_38_method_24_code, exceptionTable := #[], attributes := #[] }
def k17m5 : Method := { name := "add", desc := "(Ljava/lang/Object;[Ljava/lang/Object;I)V", sig := { parameters := [(.object "java/lang/Object"), (.array (.object "java/lang/Object")), .int], returnType := none }, accessFlags := 2, code := some k17c5 }
def k17c6 : Code := { maxStack := 4, maxLocals := 2, code := jdk_38_method_25_code, exceptionTable := #[], attributes := #[] }
def k17m6 : Method := { name := "add", desc := "(Ljava/lang/Object;)Z", sig := { parameters := [(.object "java/lang/Object")], returnType := some .boolean }, accessFlags := 1, code := some k17c6 }
/-- java/util/ArrayList -/
def k17 : Class := { plain "java/util/ArrayList" (some 14) with
  accessFlags := 33
  interfaces := #[13, 15, 16, 2]
  cf := some (fileOf pool17 10 #[.nestMembers #[290, 276, 500, 502, 262, 267]] #[{ accessFlags := 1, nameIndex := 5, descriptorIndex := 6, attributes := #[] }, { accessFlags := 2, nameIndex := 71, descriptorIndex := 72, attributes := #[] }, { accessFlags := 2, nameIndex := 71, descriptorIndex := 47, attributes := #[] }, { accessFlags := 1, nameIndex := 363, descriptorIndex := 173, attributes := #[] }, { accessFlags := 1, nameIndex := 46, descriptorIndex := 47, attributes := #[] }, { accessFlags := 2, nameIndex := 133, descriptorIndex := 134, attributes := #[] }, { accessFlags := 1, nameIndex := 133, descriptorIndex := 96, attributes := #[] }] 33 2 #[148, 329, 331, 333] #[{ accessFlags := 26, nameIndex := 335, descriptorIndex := 336, attributes := #[] }, { accessFlags := 26, nameIndex := 340, descriptorIndex := 51, attributes := #[] }, { accessFlags := 26, nameIndex := 17, descriptorIndex := 14, attributes := #[] }, { accessFlags := 26, nameIndex := 41, descriptorIndex := 14, attributes := #[] }, { accessFlags := 128, nameIndex := 13, descriptorIndex := 14, attributes := #[] }, { accessFlags := 2, nameIndex := 50, descriptorIndex := 51, attributes := #[] }])
  fields := #[{ name := "serialVersionUID", type := .long, accessFlags := 26, slot := 0, constantValue := 0 }, { name := "DEFAULT_CAPACITY", type := .int, accessFlags := 26, slot := 1, constantValue := 0 }, { name := "EMPTY_ELEMENTDATA", type := (.array (.object "java/lang/Object")), accessFlags := 26, slot := 2, constantValue := 0 }, { name := "DEFAULTCAPACITY_EMPTY_ELEMENTDATA", type := (.array (.object "java/lang/Object")), accessFlags := 26, slot := 3, constantValue := 0 }, { name := "elementData", type := (.array (.object "java/lang/Object")), accessFlags := 128, slot := 1, constantValue := 0 }, { name := "size", type := .int, accessFlags := 2, slot := 2, constantValue := 0 }]
  methods := #[k17m0, k17m1, k17m2, k17m3, k17m4, k17m5, k17m6]
  instanceTypes := #[.int, (.array (.object "java/lang/Object")), .int]
  staticTypes := #[.long, .int, (.array (.object "java/lang/Object")), (.array (.object "java/lang/Object"))]
  resolved := Array.replicate 509 none
  statics := some 1 }

def pool18 : Array CpInfo := pool [(1, .interfaceMethodref 2 3), (0, .class_ 4), (0, .nameAndType 5 6), (0, u "java/util/List"), (0, u "of"), (0, u "()Ljava/util/List;"), (0, .methodref 8 9), (0, .class_ 10), (0, .nameAndType 11 12), (0, u "com/example/keybridge/keybridge/directory/UserEntry"), (0, u "<init>"), (0, u "(Ljava/lang/String;Ljava/lang/String;Ljava/lang/String;Ljava/util/List;)V"), (0, .methodref 14 15), (0, .class_ 16), (0, .nameAndType 11 17), (0, u "java/lang/Object"), (0, u "()V"), (0, .fieldref 8 19), (0, .nameAndType 20 21), (0, u "dn"), (0, u "Ljava/lang/String;"), (0, .fieldref 8 23), (0, .nameAndType 24 21), (0, u "username"), (0, .fieldref 8 26), (0, .nameAndType 27 21), (0, u "mail"), (0, .interfaceMethodref 2 29), (0, .nameAndType 30 31), (0, u "copyOf"), (0, u "(Ljava/util/Collection;)Ljava/util/List;"), (0, .fieldref 8 33), (0, .nameAndType 34 35), (0, u "groups"), (0, u "Ljava/util/List;"), (2, u "(Ljava/lang/String;Ljava/lang/String;Ljava/lang/String;)V"), (3, u "withGroups"), (0, u "(Ljava/util/List;)Lcom/example/keybridge/keybridge/directory/UserEntry;"), (1, u "getDn"), (0, u "()Ljava/lang/String;"), (0, u "getUsername"), (0, u "getMail"), (0, u "getGroups")] 3

def k18c0 : Code := { maxStack := 5, maxLocals := 4, code := prog_9_method_1_code, exceptionTable := #[], attributes := #[] }
def k18m0 : Method := { name := "<init>", desc := "(Ljava/lang/String;Ljava/lang/String;Ljava/lang/String;)V", sig := { parameters := [(.object "java/lang/String"), (.object "java/lang/String"), (.object "java/lang/String")], returnType := none }, accessFlags := 1, code := some k18c0 }
def k18c1 : Code := { maxStack := 2, maxLocals := 5, code := prog_9_method_2_code, exceptionTable := #[], attributes := #[] }
def k18m1 : Method := { name := "<init>", desc := "(Ljava/lang/String;Ljava/lang/String;Ljava/lang/String;Ljava/util/List;)V", sig := { parameters := [(.object "java/lang/String"), (.object "java/lang/String"), (.object "java/lang/String"), (.object "java/util/List")], returnType := none }, accessFlags := 2, code := some k18c1 }
def k18c2 : Code := { maxStack := 6, maxLocals := 2, code := prog_9_method_3_code, exceptionTable := #[], attributes := #[] }
def k18m2 : Method := { name := "withGroups", desc := "(Ljava/util/List;)Lcom/example/keybridge/keybridge/directory/UserEntry;", sig := { parameters := [(.object "java/util/List")], returnType := some (.object "com/example/keybridge/keybridge/directory/UserEntry") }, accessFlags := 1, code := some k18c2 }
def k18c3 : Code := { maxStack := 1, maxLocals := 1, code := prog_9_method_4_code, exceptionTable := #[], attributes := #[] }
def k18m3 : Method := { name := "getDn", desc := "()Ljava/lang/String;", sig := { parameters := [], returnType := some (.object "java/lang/String") }, accessFlags := 1, code := some k18c3 }
def k18c4 : Code := { maxStack := 1, maxLocals := 1, code := prog_9_method_5_code, exceptionTable := #[], attributes := #[] }
def k18m4 : Method := { name := "getUsername", desc := "()Ljava/lang/String;", sig := { parameters := [], returnType := some (.object "java/lang/String") }, accessFlags := 1, code := some k18c4 }
def k18c5 : Code := { maxStack := 1, maxLocals := 1, code := prog_9_method_6_code, exceptionTable := #[], attributes := #[] }
def k18m5 : Method := { name := "getMail", desc := "()Ljava/lang/String;", sig := { parameters := [], returnType := some (.object "java/lang/String") }, accessFlags := 1, code := some k18c5 }
def k18c6 : Code := { maxStack := 1, maxLocals := 1, code := prog_9_method_7_code, exceptionTable := #[], attributes := #[] }
def k18m6 : Method := { name := "getGroups", desc := "()Ljava/util/List;", sig := { parameters := [], returnType := some (.object "java/util/List") }, accessFlags := 1, code := some k18c6 }
/-- com/example/keybridge/keybridge/directory/UserEntry -/
def k18 : Class := { plain "com/example/keybridge/keybridge/directory/UserEntry" (some 0) with
  accessFlags := 33
  interfaces := #[]
  cf := some (fileOf pool18 8 #[] #[{ accessFlags := 1, nameIndex := 11, descriptorIndex := 38, attributes := #[] }, { accessFlags := 2, nameIndex := 11, descriptorIndex := 12, attributes := #[] }, { accessFlags := 1, nameIndex := 42, descriptorIndex := 43, attributes := #[] }, { accessFlags := 1, nameIndex := 45, descriptorIndex := 46, attributes := #[] }, { accessFlags := 1, nameIndex := 47, descriptorIndex := 46, attributes := #[] }, { accessFlags := 1, nameIndex := 48, descriptorIndex := 46, attributes := #[] }, { accessFlags := 1, nameIndex := 49, descriptorIndex := 6, attributes := #[] }] 33 14 #[] #[{ accessFlags := 18, nameIndex := 20, descriptorIndex := 21, attributes := #[] }, { accessFlags := 18, nameIndex := 24, descriptorIndex := 21, attributes := #[] }, { accessFlags := 18, nameIndex := 27, descriptorIndex := 21, attributes := #[] }, { accessFlags := 18, nameIndex := 34, descriptorIndex := 35, attributes := #[] }])
  fields := #[{ name := "dn", type := (.object "java/lang/String"), accessFlags := 18, slot := 0, constantValue := 0 }, { name := "username", type := (.object "java/lang/String"), accessFlags := 18, slot := 1, constantValue := 0 }, { name := "mail", type := (.object "java/lang/String"), accessFlags := 18, slot := 2, constantValue := 0 }, { name := "groups", type := (.object "java/util/List"), accessFlags := 18, slot := 3, constantValue := 0 }]
  methods := #[k18m0, k18m1, k18m2, k18m3, k18m4, k18m5, k18m6]
  instanceTypes := #[(.object "java/lang/String"), (.object "java/lang/String"), (.object "java/lang/String"), (.object "java/util/List")]
  staticTypes := #[]
  resolved := Array.replicate 53 none
  statics := none }

def pool19 : Array CpInfo := pool [(2, .class_ 4), (1, u "java/lang/Object"), (0, u "<init>"), (0, u "()V"), (3, .class_ 11), (0, u "java/util/ImmutableCollections$List12"), (0, .class_ 13), (0, u "java/util/ImmutableCollections$ListN"), (0, .fieldref 12 15), (0, .nameAndType 16 17), (0, u "allowNulls"), (0, u "Z"), (0, .class_ 19), (0, u "java/util/List"), (0, .interfaceMethodref 21 22), (0, .class_ 23), (0, .nameAndType 24 25), (0, u "java/util/Collection"), (0, u "isEmpty"), (0, u "()Z"), (0, .interfaceMethodref 18 27), (0, .nameAndType 28 29), (0, u "of"), (0, u "()Ljava/util/List;"), (0, .interfaceMethodref 21 31), (0, .nameAndType 32 33), (0, u "toArray"), (0, u "()[Ljava/lang/Object;"), (0, .interfaceMethodref 18 35), (0, .nameAndType 28 36), (0, u "([Ljava/lang/Object;)Ljava/util/List;"), (0, .methodref 38 39), (0, .class_ 40), (0, .nameAndType 41 42), (0, u "java/util/Objects"), (0, u "requireNonNull"), (0, u "(Ljava/lang/Object;)Ljava/lang/Object;"), (0, .methodref 12 44), (0, .nameAndType 5 45), (0, u "([Ljava/lang/Object;Z)V"), (1, .class_ 49), (1, u "java/util/ImmutableCollections"), (0, u "$assertionsDisabled"), (5, u "[Ljava/lang/Object;"), (5, u "EMPTY_LIST"), (0, u "Ljava/util/ImmutableCollections$ListN;"), (8, u "EMPTY_LIST_NULLS"), (22, u "SALT32L"), (0, u "J"), (2, u "REVERSE"), (6, u "archivedObjects"), (2, u "EMPTY"), (0, u "Ljava/lang/Object;"), (0, .class_ 112), (0, u "java/util/ImmutableCollections$SetN"), (5, u "EMPTY_SET"), (0, u "Ljava/util/ImmutableCollections$SetN;"), (0, .class_ 121), (0, u "java/util/ImmutableCollections$MapN"), (3, u "EMPTY_MAP"), (0, u "Ljava/util/ImmutableCollections$MapN;"), (4, u "EXPAND_FACTOR"), (0, u "I"), (9, u "listCopy"), (0, u "(Ljava/util/Collection;)Ljava/util/List;"), (7, u "listFromArray"), (17, .class_ 170), (0, u "java/util/ImmutableCollections$MapN$MapNIterator"), (0, .class_ 172), (0, u "java/util/ImmutableCollections$MapN$1"), (0, .class_ 174), (0, u "java/util/ImmutableCollections$Map1"), (0, .class_ 176), (0, u "java/util/ImmutableCollections$AbstractImmutableMap"), (0, .class_ 178), (0, u "java/util/ImmutableCollections$SetN$SetNIterator"), (0, .class_ 180), (0, u "java/util/ImmutableCollections$Set12"), (0, .class_ 182), (0, u "java/util/ImmutableCollections$Set12$1"), (0, .class_ 184), (0, u "java/util/ImmutableCollections$AbstractImmutableSet"), (0, .class_ 186), (0, u "java/util/ImmutableCollections$SubList"), (0, .class_ 188), (0, u "java/util/ImmutableCollections$ListItr"), (0, .class_ 190), (0, u "java/util/ImmutableCollections$AbstractImmutableList"), (0, .class_ 192), (0, u "java/util/ImmutableCollections$AbstractImmutableCollection"), (0, .class_ 194), (0, u "java/util/ImmutableCollections$Access"), (0, .class_ 196), (0, u "java/util/ImmutableCollections$Access$1")] 16

def k19m0 : Method := { name := "<init>", desc := "()V", sig := { parameters := [], returnType := none }, accessFlags := 2, code := none }
def k19c1 : Code := { maxStack := 1, maxLocals := 2, code := jdk_56_method_3_code, exceptionTable := #[], attributes := #[] }
def k19m1 : Method := { name := "listCopy", desc := "(Ljava/util/Collection;)Ljava/util/List;", sig := { parameters := [(.object "java/util/Collection")], returnType := some (.object "java/util/List") }, accessFlags := 8, code := some k19c1 }
def k19c2 : Code := { maxStack := 4, maxLocals := 3, code := jdk_56_method_4_code, exceptionTable := #[], attributes := #[] }
def k19m2 : Method := { name := "listFromArray", desc := "([Ljava/lang/Object;)Ljava/util/List;", sig := { parameters := [(.array (.object "java/lang/Object"))], returnType := some (.object "java/util/List") }, accessFlags := 136, code := some k19c2 }
/-- java/util/ImmutableCollections -/
def k19 : Class := { plain "java/util/ImmutableCollections" (some 0) with
  accessFlags := 32
  interfaces := #[]
  cf := some (fileOf pool19 47 #[.nestMembers #[120, 169, 171, 173, 175, 111, 177, 179, 181, 183, 12, 10, 185, 187, 189, 191, 193, 195]] #[{ accessFlags := 2, nameIndex := 5, descriptorIndex := 6, attributes := #[] }, { accessFlags := 8, nameIndex := 142, descriptorIndex := 143, attributes := #[] }, { accessFlags := 136, nameIndex := 151, descriptorIndex := 36, attributes := #[] }] 32 2 #[] #[{ accessFlags := 26, nameIndex := 95, descriptorIndex := 96, attributes := #[] }, { accessFlags := 26, nameIndex := 99, descriptorIndex := 17, attributes := #[] }, { accessFlags := 10, nameIndex := 106, descriptorIndex := 56, attributes := #[] }, { accessFlags := 26, nameIndex := 109, descriptorIndex := 110, attributes := #[] }, { accessFlags := 24, nameIndex := 62, descriptorIndex := 63, attributes := #[] }, { accessFlags := 24, nameIndex := 72, descriptorIndex := 63, attributes := #[] }, { accessFlags := 24, nameIndex := 118, descriptorIndex := 119, attributes := #[] }, { accessFlags := 24, nameIndex := 125, descriptorIndex := 126, attributes := #[] }, { accessFlags := 24, nameIndex := 131, descriptorIndex := 132, attributes := #[] }, { accessFlags := 4120, nameIndex := 50, descriptorIndex := 17, attributes := #[] }])
  fields := #[{ name := "SALT32L", type := .long, accessFlags := 26, slot := 0, constantValue := 0 }, { name := "REVERSE", type := .boolean, accessFlags := 26, slot := 1, constantValue := 0 }, { name := "archivedObjects", type := (.array (.object "java/lang/Object")), accessFlags := 10, slot := 2, constantValue := 0 }, { name := "EMPTY", type := (.object "java/lang/Object"), accessFlags := 26, slot := 3, constantValue := 0 }, { name := "EMPTY_LIST", type := (.object "java/util/ImmutableCollections$ListN"), accessFlags := 24, slot := 4, constantValue := 0 }, { name := "EMPTY_LIST_NULLS", type := (.object "java/util/ImmutableCollections$ListN"), accessFlags := 24, slot := 5, constantValue := 0 }, { name := "EMPTY_SET", type := (.object "java/util/ImmutableCollections$SetN"), accessFlags := 24, slot := 6, constantValue := 0 }, { name := "EMPTY_MAP", type := (.object "java/util/ImmutableCollections$MapN"), accessFlags := 24, slot := 7, constantValue := 0 }, { name := "EXPAND_FACTOR", type := .int, accessFlags := 24, slot := 8, constantValue := 0 }, { name := "$assertionsDisabled", type := .boolean, accessFlags := 4120, slot := 9, constantValue := 0 }]
  methods := #[k19m0, k19m1, k19m2]
  instanceTypes := #[]
  staticTypes := #[.long, .boolean, (.array (.object "java/lang/Object")), (.object "java/lang/Object"), (.object "java/util/ImmutableCollections$ListN"), (.object "java/util/ImmutableCollections$ListN"), (.object "java/util/ImmutableCollections$SetN"), (.object "java/util/ImmutableCollections$MapN"), .int, .boolean]
  resolved := Array.replicate 213 none
  statics := some 2 }

def pool20 : Array CpInfo := pool [(1, .methodref 2 3), (0, .class_ 4), (0, .nameAndType 5 6), (0, u "java/util/AbstractCollection"), (0, u "<init>"), (0, u "()V"), (1, .class_ 10), (1, u "java/util/ImmutableCollections"), (2, .class_ 14), (0, u "java/util/ImmutableCollections$AbstractImmutableCollection")] 41

def k20c0 : Code := { maxStack := 1, maxLocals := 1, code := jdk_47_method_1_code, exceptionTable := #[], attributes := #[] }
def k20m0 : Method := { name := "<init>", desc := "()V", sig := { parameters := [], returnType := none }, accessFlags := 0, code := some k20c0 }
/-- java/util/ImmutableCollections$AbstractImmutableCollection -/
def k20 : Class := { plain "java/util/ImmutableCollections$AbstractImmutableCollection" (some 11) with
  accessFlags := 1056
  interfaces := #[]
  cf := some (fileOf pool20 13 #[.nestHost 8] #[{ accessFlags := 0, nameIndex := 5, descriptorIndex := 6, attributes := #[] }] 1056 2 #[] #[])
  fields := #[]
  methods := #[k20m0]
  instanceTypes := #[]
  staticTypes := #[]
  resolved := Array.replicate 56 none
  statics := none }

def pool21 : Array CpInfo := pool [(1, .methodref 2 3), (0, .class_ 4), (0, .nameAndType 5 6), (0, u "java/util/ImmutableCollections$AbstractImmutableCollection"), (0, u "<init>"), (0, u "()V"), (1, .class_ 10), (1, u "java/util/ImmutableCollections"), (3, .class_ 16), (1, u "java/util/ImmutableCollections$AbstractImmutableList"), (60, .class_ 78), (0, u "java/util/List"), (45, .class_ 125), (0, u "java/util/RandomAccess")] 70

def k21c0 : Code := { maxStack := 1, maxLocals := 1, code := jdk_46_method_1_code, exceptionTable := #[], attributes := #[] }
def k21m0 : Method := { name := "<init>", desc := "()V", sig := { parameters := [], returnType := none }, accessFlags := 0, code := some k21c0 }
/-- java/util/ImmutableCollections$AbstractImmutableList -/
def k21 : Class := { plain "java/util/ImmutableCollections$AbstractImmutableList" (some 20) with
  accessFlags := 1056
  interfaces := #[13, 15]
  cf := some (fileOf pool21 14 #[.nestHost 8] #[{ accessFlags := 0, nameIndex := 5, descriptorIndex := 6, attributes := #[] }] 1056 2 #[77, 124] #[])
  fields := #[]
  methods := #[k21m0]
  instanceTypes := #[]
  staticTypes := #[]
  resolved := Array.replicate 196 none
  statics := none }

def pool22 : Array CpInfo := pool [(1, .methodref 2 3), (0, .class_ 4), (0, .nameAndType 5 6), (0, u "java/util/ImmutableCollections$AbstractImmutableList"), (0, u "<init>"), (0, u "()V"), (0, .methodref 8 9), (0, .class_ 10), (0, .nameAndType 11 12), (0, u "java/util/Objects"), (0, u "requireNonNull"), (0, u "(Ljava/lang/Object;)Ljava/lang/Object;"), (0, .fieldref 14 15), (0, .class_ 16), (0, .nameAndType 17 18), (0, u "java/util/ImmutableCollections$List12"), (0, u "e0"), (0, u "Ljava/lang/Object;"), (0, .fieldref 20 21), (0, .class_ 22), (0, .nameAndType 23 18), (0, u "java/util/ImmutableCollections"), (0, u "EMPTY"), (0, .fieldref 14 25), (0, .nameAndType 26 18), (0, u "e1"), (24, u "size"), (0, u "()I"), (17, .class_ 71), (0, u "java/io/Serializable"), (4, u "(Ljava/lang/Object;)V"), (8, u "(Ljava/lang/Object;Ljava/lang/Object;)V"), (4, u "get"), (0, u "(I)Ljava/lang/Object;")] 33

def k22c0 : Code := { maxStack := 2, maxLocals := 2, code := jdk_44_method_1_code, exceptionTable := #[], attributes := #[] }
def k22m0 : Method := { name := "<init>", desc := "(Ljava/lang/Object;)V", sig := { parameters := [(.object "java/lang/Object")], returnType := none }, accessFlags := 0, code := some k22c0 }
def k22c1 : Code := { maxStack := 2, maxLocals := 3, code := jdk_44_method_2_code, exceptionTable := #[], attributes := #[] }
def k22m1 : Method := { name := "<init>", desc := "(Ljava/lang/Object;Ljava/lang/Object;)V", sig := { parameters := [(.object "java/lang/Object"), (.object "java/lang/Object")], returnType := none }, accessFlags := 0, code := some k22c1 }
def k22c2 : Code := { maxStack := 2, maxLocals := 1, code := jdk_44_method_3_code, exceptionTable := #[], attributes := #[] }
def k22m2 : Method := { name := "size", desc := "()I", sig := { parameters := [], returnType := some .int }, accessFlags := 1, code := some k22c2 }
def k22c3 : Code := { maxStack := 2, maxLocals := 2, code := jdk_44_method_5_code, exceptionTable := #[], attributes := #[] }
def k22m3 : Method := { name := "get", desc := "(I)Ljava/lang/Object;", sig := { parameters := [.int], returnType := some (.object "java/lang/Object") }, accessFlags := 1, code := some k22c3 }
/-- java/util/ImmutableCollections$List12 -/
def k22 : Class := { plain "java/util/ImmutableCollections$List12" (some 21) with
  accessFlags := 48
  interfaces := #[2]
  cf := some (fileOf pool22 14 #[.nestHost 20] #[{ accessFlags := 0, nameIndex := 5, descriptorIndex := 76, attributes := #[] }, { accessFlags := 0, nameIndex := 5, descriptorIndex := 85, attributes := #[] }, { accessFlags := 1, nameIndex := 51, descriptorIndex := 52, attributes := #[] }, { accessFlags := 1, nameIndex := 90, descriptorIndex := 91, attributes := #[] }] 48 2 #[70] #[{ accessFlags := 18, nameIndex := 17, descriptorIndex := 18, attributes := #[] }, { accessFlags := 18, nameIndex := 26, descriptorIndex := 18, attributes := #[] }])
  fields := #[{ name := "e0", type := (.object "java/lang/Object"), accessFlags := 18, slot := 0, constantValue := 0 }, { name := "e1", type := (.object "java/lang/Object"), accessFlags := 18, slot := 1, constantValue := 0 }]
  methods := #[k22m0, k22m1, k22m2, k22m3]
  instanceTypes := #[(.object "java/lang/Object"), (.object "java/lang/Object")]
  staticTypes := #[]
  resolved := Array.replicate 125 none
  statics := none }

def pool23 : Array CpInfo := pool [(1, .methodref 2 3), (0, .class_ 4), (0, .nameAndType 5 6), (0, u "java/util/ImmutableCollections$AbstractImmutableList"), (0, u "<init>"), (0, u "()V"), (0, .fieldref 8 9), (0, .class_ 10), (0, .nameAndType 11 12), (0, u "java/util/ImmutableCollections$ListN"), (0, u "elements"), (0, u "[Ljava/lang/Object;"), (0, .fieldref 8 14), (0, .nameAndType 15 16), (0, u "allowNulls"), (0, u "Z"), (42, .class_ 60), (0, u "java/io/Serializable"), (4, u "([Ljava/lang/Object;Z)V"), (11, u "size"), (0, u "()I"), (0, u "get"), (0, u "(I)Ljava/lang/Object;"), (33, .class_ 115), (0, u "java/util/ImmutableCollections")] 3

def k23c0 : Code := { maxStack := 2, maxLocals := 3, code := jdk_45_method_1_code, exceptionTable := #[], attributes := #[] }
def k23m0 : Method := { name := "<init>", desc := "([Ljava/lang/Object;Z)V", sig := { parameters := [(.array (.object "java/lang/Object")), .boolean], returnType := none }, accessFlags := 2, code := some k23c0 }
def k23c1 : Code := { maxStack := 1, maxLocals := 1, code := jdk_45_method_3_code, exceptionTable := #[], attributes := #[] }
def k23m1 : Method := { name := "size", desc := "()I", sig := { parameters := [], returnType := some .int }, accessFlags := 1, code := some k23c1 }
def k23c2 : Code := { maxStack := 2, maxLocals := 2, code := jdk_45_method_4_code, exceptionTable := #[], attributes := #[] }
def k23m2 : Method := { name := "get", desc := "(I)Ljava/lang/Object;", sig := { parameters := [.int], returnType := some (.object "java/lang/Object") }, accessFlags := 1, code := some k23c2 }
/-- java/util/ImmutableCollections$ListN -/
def k23 : Class := { plain "java/util/ImmutableCollections$ListN" (some 21) with
  accessFlags := 48
  interfaces := #[2]
  cf := some (fileOf pool23 8 #[.nestHost 114] #[{ accessFlags := 2, nameIndex := 5, descriptorIndex := 65, attributes := #[] }, { accessFlags := 1, nameIndex := 77, descriptorIndex := 78, attributes := #[] }, { accessFlags := 1, nameIndex := 79, descriptorIndex := 80, attributes := #[] }] 48 2 #[59] #[{ accessFlags := 18, nameIndex := 11, descriptorIndex := 12, attributes := #[] }, { accessFlags := 18, nameIndex := 15, descriptorIndex := 16, attributes := #[] }])
  fields := #[{ name := "elements", type := (.array (.object "java/lang/Object")), accessFlags := 18, slot := 0, constantValue := 0 }, { name := "allowNulls", type := .boolean, accessFlags := 18, slot := 1, constantValue := 0 }]
  methods := #[k23m0, k23m1, k23m2]
  instanceTypes := #[(.array (.object "java/lang/Object")), .boolean]
  staticTypes := #[]
  resolved := Array.replicate 119 none
  statics := none }

def pool24 : Array CpInfo := pool [(1, .class_ 2), (0, u "java/lang/Math"), (1, .class_ 6), (1, u "java/lang/Object"), (0, u "<init>"), (0, u "()V"), (89, .class_ 100), (1, u "java/lang/Math$RandomNumberGeneratorHolder"), (71, u "negativeZeroFloatBits"), (0, u "J"), (2, u "negativeZeroDoubleBits"), (21, u "max"), (2, u "min"), (43, u "$assertionsDisabled"), (0, u "Z"), (88, u "(II)I"), (2, u "twoToTheDoubleScaleDown"), (0, u "D"), (4, u "twoToTheDoubleScaleUp"), (9, u "E"), (3, u "PI"), (2, u "TAU"), (2, u "DEGREES_TO_RADIANS"), (0, u "RADIANS_TO_DEGREES")] 94

def k24m0 : Method := { name := "<init>", desc := "()V", sig := { parameters := [], returnType := none }, accessFlags := 2, code := none }
def k24c1 : Code := { maxStack := 2, maxLocals := 2, code := jdk_29_method_65_code, exceptionTable := #[], attributes := #[] }
def k24m1 : Method := { name := "max", desc := "(II)I", sig := { parameters := [.int, .int], returnType := some .int }, accessFlags := 9, code := some k24c1 }
def k24c2 : Code := { maxStack := 2, maxLocals := 2, code := jdk_29_method_69_code, exceptionTable := #[], attributes := #[] }
def k24m2 : Method := { name := "min", desc := "(II)I", sig := { parameters := [.int, .int], returnType := some .int }, accessFlags := 9, code := some k24c2 }
/-- java/lang/Math -/
def k24 : Class := { plain "java/lang/Math" (some 0) with
  accessFlags := 49
  interfaces := #[]
  cf := some (fileOf pool24 1 #[.nestMembers #[98]] #[{ accessFlags := 2, nameIndex := 7, descriptorIndex := 8, attributes := #[] }, { accessFlags := 9, nameIndex := 198, descriptorIndex := 335, attributes := #[] }, { accessFlags := 9, nameIndex := 201, descriptorIndex := 335, attributes := #[] }] 49 4 #[] #[{ accessFlags := 25, nameIndex := 354, descriptorIndex := 339, attributes := #[] }, { accessFlags := 25, nameIndex := 358, descriptorIndex := 339, attributes := #[] }, { accessFlags := 25, nameIndex := 361, descriptorIndex := 339, attributes := #[] }, { accessFlags := 26, nameIndex := 364, descriptorIndex := 339, attributes := #[] }, { accessFlags := 26, nameIndex := 365, descriptorIndex := 339, attributes := #[] }, { accessFlags := 26, nameIndex := 172, descriptorIndex := 173, attributes := #[] }, { accessFlags := 26, nameIndex := 176, descriptorIndex := 173, attributes := #[] }, { accessFlags := 8, nameIndex := 344, descriptorIndex := 339, attributes := #[] }, { accessFlags := 8, nameIndex := 338, descriptorIndex := 339, attributes := #[] }, { accessFlags := 4120, nameIndex := 245, descriptorIndex := 246, attributes := #[] }])
  fields := #[{ name := "E", type := .double, accessFlags := 25, slot := 0, constantValue := 0 }, { name := "PI", type := .double, accessFlags := 25, slot := 1, constantValue := 0 }, { name := "TAU", type := .double, accessFlags := 25, slot := 2, constantValue := 0 }, { name := "DEGREES_TO_RADIANS", type := .double, accessFlags := 26, slot := 3, constantValue := 0 }, { name := "RADIANS_TO_DEGREES", type := .double, accessFlags := 26, slot := 4, constantValue := 0 }, { name := "negativeZeroFloatBits", type := .long, accessFlags := 26, slot := 5, constantValue := 0 }, { name := "negativeZeroDoubleBits", type := .long, accessFlags := 26, slot := 6, constantValue := 0 }, { name := "twoToTheDoubleScaleUp", type := .double, accessFlags := 8, slot := 7, constantValue := 0 }, { name := "twoToTheDoubleScaleDown", type := .double, accessFlags := 8, slot := 8, constantValue := 0 }, { name := "$assertionsDisabled", type := .boolean, accessFlags := 4120, slot := 9, constantValue := 0 }]
  methods := #[k24m0, k24m1, k24m2]
  instanceTypes := #[]
  staticTypes := #[.double, .double, .double, .double, .double, .long, .long, .double, .double, .boolean]
  resolved := Array.replicate 460 none
  statics := none }

def pool25 : Array CpInfo := pool [(2, .class_ 4), (1, u "java/lang/Object"), (0, u "<init>"), (0, u "()V"), (7, .class_ 16), (1, u "java/util/Arrays"), (57, .class_ 76), (1, u "java/util/Arrays$NaturalOrder"), (9, .methodref 2 87), (0, .nameAndType 88 89), (0, u "getClass"), (0, u "()Ljava/lang/Class;"), (20, .class_ 111), (0, u "[Ljava/lang/Object;"), (1, .class_ 115), (1, u "java/util/Arrays$LegacyMergeSort"), (1, u "Z"), (32, .methodref 151 152), (0, .class_ 153), (0, .nameAndType 154 155), (0, u "java/lang/System"), (0, u "arraycopy"), (0, u "(Ljava/lang/Object;ILjava/lang/Object;II)V"), (144, .methodref 14 301), (0, .nameAndType 302 303), (0, u "copyOf"), (0, u "([Ljava/lang/Object;ILjava/lang/Class;)[Ljava/lang/Object;"), (0, .methodref 305 306), (0, .class_ 307), (0, .nameAndType 308 309), (0, u "java/lang/Math"), (0, u "min"), (0, u "(II)I"), (65, .class_ 376), (0, u "java/util/Arrays$ArrayList"), (68, u "$assertionsDisabled"), (269, u "MIN_ARRAY_SORT_GRAN"), (0, u "I"), (2, u "INSERTIONSORT_THRESHOLD"), (140, u "([Ljava/lang/Object;I)[Ljava/lang/Object;"), (114, .class_ 976), (0, u "java/util/Arrays$ArrayItr")] 52

def k25m0 : Method := { name := "<init>", desc := "()V", sig := { parameters := [], returnType := none }, accessFlags := 2, code := none }
def k25c1 : Code := { maxStack := 3, maxLocals := 2, code := jdk_65_method_119_code, exceptionTable := #[], attributes := #[] }
def k25m1 : Method := { name := "copyOf", desc := "([Ljava/lang/Object;I)[Ljava/lang/Object;", sig := { parameters := [(.array (.object "java/lang/Object")), .int], returnType := some (.array (.object "java/lang/Object")) }, accessFlags := 9, code := some k25c1 }
def k25c2 : Code := { maxStack := 6, maxLocals := 4, code := jdk_65_method_120_code, exceptionTable := #[], attributes := #[] }
def k25m2 : Method := { name := "copyOf", desc := "([Ljava/lang/Object;ILjava/lang/Class;)[Ljava/lang/Object;", sig := { parameters := [(.array (.object "java/lang/Object")), .int, (.object "java/lang/Class")], returnType := some (.array (.object "java/lang/Object")) }, accessFlags := 9, code := some k25c2 }
/-- java/util/Arrays -/
def k25 : Class := { plain "java/util/Arrays" (some 0) with
  accessFlags := 49
  interfaces := #[]
  cf := some (fileOf pool25 14 #[.nestMembers #[975, 375, 113, 74]] #[{ accessFlags := 2, nameIndex := 5, descriptorIndex := 6, attributes := #[] }, { accessFlags := 9, nameIndex := 302, descriptorIndex := 860, attributes := #[] }, { accessFlags := 9, nameIndex := 302, descriptorIndex := 303, attributes := #[] }] 49 2 #[] #[{ accessFlags := 26, nameIndex := 715, descriptorIndex := 716, attributes := #[] }, { accessFlags := 26, nameIndex := 719, descriptorIndex := 716, attributes := #[] }, { accessFlags := 4120, nameIndex := 445, descriptorIndex := 117, attributes := #[] }])
  fields := #[{ name := "MIN_ARRAY_SORT_GRAN", type := .int, accessFlags := 26, slot := 0, constantValue := 0 }, { name := "INSERTIONSORT_THRESHOLD", type := .int, accessFlags := 26, slot := 1, constantValue := 0 }, { name := "$assertionsDisabled", type := .boolean, accessFlags := 4120, slot := 2, constantValue := 0 }]
  methods := #[k25m0, k25m1, k25m2]
  instanceTypes := #[]
  staticTypes := #[.int, .int, .boolean]
  resolved := Array.replicate 1029 none
  statics := none }

def pool26 : Array CpInfo := pool [(2, .class_ 4), (1, u "java/lang/Object"), (0, u "<init>"), (0, u "()V"), (1, .class_ 10), (1, u "java/lang/System"), (0, u "allowSecurityManager"), (0, u "I"), (16, u "cons"), (0, u "Ljava/io/Console;"), (77, .class_ 110), (1, u "java/lang/System$CallersHolder"), (43, u "initialErrStream"), (0, u "Ljava/io/PrintStream;"), (19, u "security"), (0, u "Ljava/lang/SecurityManager;"), (31, .class_ 209), (0, u "java/lang/System$1"), (7, u "props"), (0, u "Ljava/util/Properties;"), (2, u "lineSeparator"), (0, u "Ljava/lang/String;"), (96, .class_ 321), (1, u "java/lang/System$LoggerFinder"), (5, .class_ 328), (0, u "java/lang/System$Logger"), (67, u "err"), (2, u "out"), (91, u "notSupportedJnuEncoding"), (15, u "in"), (17, u "initialIn"), (0, u "Ljava/io/InputStream;"), (35, u "bootLayer"), (0, u "Ljava/lang/ModuleLayer;"), (99, .class_ 664), (0, u "java/lang/System$2"), (9, u "NEVER"), (2, u "MAYBE"), (49, u "arraycopy"), (0, u "(Ljava/lang/Object;ILjava/lang/Object;II)V"), (72, .class_ 802), (0, u "java/lang/System$Logger$Level")] 31

def k26m0 : Method := { name := "<init>", desc := "()V", sig := { parameters := [], returnType := none }, accessFlags := 2, code := none }
def k26m1 : Method := { name := "arraycopy", desc := "(Ljava/lang/Object;ILjava/lang/Object;II)V", sig := { parameters := [(.object "java/lang/Object"), .int, (.object "java/lang/Object"), .int, .int], returnType := none }, accessFlags := 265, code := none }
/-- java/lang/System -/
def k26 : Class := { plain "java/lang/System" (some 0) with
  accessFlags := 49
  interfaces := #[]
  cf := some (fileOf pool26 8 #[.nestMembers #[319, 327, 801, 108, 663, 208]] #[{ accessFlags := 2, nameIndex := 5, descriptorIndex := 6, attributes := #[] }, { accessFlags := 265, nameIndex := 727, descriptorIndex := 728, attributes := #[] }] 49 2 #[] #[{ accessFlags := 25, nameIndex := 507, descriptorIndex := 526, attributes := #[] }, { accessFlags := 25, nameIndex := 399, descriptorIndex := 155, attributes := #[] }, { accessFlags := 25, nameIndex := 396, descriptorIndex := 155, attributes := #[] }, { accessFlags := 10, nameIndex := 525, descriptorIndex := 526, attributes := #[] }, { accessFlags := 26, nameIndex := 674, descriptorIndex := 12, attributes := #[] }, { accessFlags := 26, nameIndex := 677, descriptorIndex := 12, attributes := #[] }, { accessFlags := 10, nameIndex := 11, descriptorIndex := 12, attributes := #[] }, { accessFlags := 74, nameIndex := 175, descriptorIndex := 176, attributes := #[] }, { accessFlags := 10, nameIndex := 491, descriptorIndex := 222, attributes := #[] }, { accessFlags := 74, nameIndex := 29, descriptorIndex := 30, attributes := #[] }, { accessFlags := 74, nameIndex := 154, descriptorIndex := 155, attributes := #[] }, { accessFlags := 10, nameIndex := 217, descriptorIndex := 218, attributes := #[] }, { accessFlags := 10, nameIndex := 221, descriptorIndex := 222, attributes := #[] }, { accessFlags := 8, nameIndex := 562, descriptorIndex := 563, attributes := #[] }])
  fields := #[{ name := "in", type := (.object "java/io/InputStream"), accessFlags := 25, slot := 0, constantValue := 0 }, { name := "out", type := (.object "java/io/PrintStream"), accessFlags := 25, slot := 1, constantValue := 0 }, { name := "err", type := (.object "java/io/PrintStream"), accessFlags := 25, slot := 2, constantValue := 0 }, { name := "initialIn", type := (.object "java/io/InputStream"), accessFlags := 10, slot := 3, constantValue := 0 }, { name := "NEVER", type := .int, accessFlags := 26, slot := 4, constantValue := 0 }, { name := "MAYBE", type := .int, accessFlags := 26, slot := 5, constantValue := 0 }, { name := "allowSecurityManager", type := .int, accessFlags := 10, slot := 6, constantValue := 0 }, { name := "security", type := (.object "java/lang/SecurityManager"), accessFlags := 74, slot := 7, constantValue := 0 }, { name := "notSupportedJnuEncoding", type := (.object "java/lang/String"), accessFlags := 10, slot := 8, constantValue := 0 }, { name := "cons", type := (.object "java/io/Console"), accessFlags := 74, slot := 9, constantValue := 0 }, { name := "initialErrStream", type := (.object "java/io/PrintStream"), accessFlags := 74, slot := 10, constantValue := 0 }, { name := "props", type := (.object "java/util/Properties"), accessFlags := 10, slot := 11, constantValue := 0 }, { name := "lineSeparator", type := (.object "java/lang/String"), accessFlags := 10, slot := 12, constantValue := 0 }, { name := "bootLayer", type := (.object "java/lang/ModuleLayer"), accessFlags := 8, slot := 13, constantValue := 0 }]
  methods := #[k26m0, k26m1]
  instanceTypes := #[]
  staticTypes := #[(.object "java/io/InputStream"), (.object "java/io/PrintStream"), (.object "java/io/PrintStream"), (.object "java/io/InputStream"), .int, .int, .int, (.object "java/lang/SecurityManager"), (.object "java/lang/String"), (.object "java/io/Console"), (.object "java/io/PrintStream"), (.object "java/util/Properties"), (.object "java/lang/String"), (.object "java/lang/ModuleLayer")]
  resolved := Array.replicate 834 none
  statics := none }

def pool27 : Array CpInfo := pool [(2, .class_ 4), (1, u "java/lang/Object"), (0, u "<init>"), (0, u "()V"), (35, .class_ 44), (1, u "java/util/Objects"), (0, u "requireNonNull"), (0, u "(Ljava/lang/Object;)Ljava/lang/Object;")] 137

def k27m0 : Method := { name := "<init>", desc := "()V", sig := { parameters := [], returnType := none }, accessFlags := 2, code := none }
def k27c1 : Code := { maxStack := 2, maxLocals := 1, code := jdk_31_method_10_code, exceptionTable := #[], attributes := #[] }
def k27m1 : Method := { name := "requireNonNull", desc := "(Ljava/lang/Object;)Ljava/lang/Object;", sig := { parameters := [(.object "java/lang/Object")], returnType := some (.object "java/lang/Object") }, accessFlags := 9, code := some k27c1 }
/-- java/util/Objects -/
def k27 : Class := { plain "java/util/Objects" (some 0) with
  accessFlags := 49
  interfaces := #[]
  cf := some (fileOf pool27 42 #[] #[{ accessFlags := 2, nameIndex := 5, descriptorIndex := 6, attributes := #[] }, { accessFlags := 9, nameIndex := 45, descriptorIndex := 46, attributes := #[] }] 49 2 #[] #[])
  fields := #[]
  methods := #[k27m0, k27m1]
  instanceTypes := #[]
  staticTypes := #[]
  resolved := Array.replicate 184 none
  statics := none }

def pool28 : Array CpInfo := pool [(4, .class_ 6), (1, u "java/lang/Object"), (0, u "<init>"), (0, u "()V"), (5, .class_ 16), (1, u "java/lang/StringLatin1"), (104, u "$assertionsDisabled"), (0, u "Z"), (98, .class_ 223), (1, u "java/lang/StringLatin1$LinesSpliterator"), (166, .class_ 391), (0, u "java/lang/StringLatin1$CharsSpliterator")] 3

def k28m0 : Method := { name := "<init>", desc := "()V", sig := { parameters := [], returnType := none }, accessFlags := 0, code := none }
/-- java/lang/StringLatin1 -/
def k28 : Class := { plain "java/lang/StringLatin1" (some 0) with
  accessFlags := 48
  interfaces := #[]
  cf := some (fileOf pool28 14 #[.nestMembers #[390, 221]] #[{ accessFlags := 0, nameIndex := 7, descriptorIndex := 8, attributes := #[] }] 48 4 #[] #[{ accessFlags := 4120, nameIndex := 121, descriptorIndex := 122, attributes := #[] }])
  fields := #[{ name := "$assertionsDisabled", type := .boolean, accessFlags := 4120, slot := 0, constantValue := 0 }]
  methods := #[k28m0]
  instanceTypes := #[]
  staticTypes := #[.boolean]
  resolved := Array.replicate 395 none
  statics := none }

def pool29 : Array CpInfo := pool [(2, .class_ 4), (1, u "java/lang/Object"), (0, u "<init>"), (0, u "()V"), (17, .class_ 26), (1, u "jdk/internal/util/Preconditions"), (28, .class_ 56), (0, u "jdk/internal/util/Preconditions$4"), (57, .class_ 115), (0, u "jdk/internal/util/Preconditions$1"), (7, u "SIOOBE_FORMATTER"), (0, u "Ljava/util/function/BiFunction;"), (0, .class_ 126), (0, u "jdk/internal/util/Preconditions$2"), (3, u "AIOOBE_FORMATTER"), (0, .class_ 132), (0, u "jdk/internal/util/Preconditions$3"), (3, u "IOOBE_FORMATTER")] 57

def k29m0 : Method := { name := "<init>", desc := "()V", sig := { parameters := [], returnType := none }, accessFlags := 1, code := none }
/-- jdk/internal/util/Preconditions -/
def k29 : Class := { plain "jdk/internal/util/Preconditions" (some 0) with
  accessFlags := 33
  interfaces := #[]
  cf := some (fileOf pool29 24 #[.nestMembers #[55, 131, 125, 114]] #[{ accessFlags := 1, nameIndex := 5, descriptorIndex := 6, attributes := #[] }] 33 2 #[] #[{ accessFlags := 25, nameIndex := 123, descriptorIndex := 124, attributes := #[] }, { accessFlags := 25, nameIndex := 130, descriptorIndex := 124, attributes := #[] }, { accessFlags := 25, nameIndex := 136, descriptorIndex := 124, attributes := #[] }])
  fields := #[{ name := "SIOOBE_FORMATTER", type := (.object "java/util/function/BiFunction"), accessFlags := 25, slot := 0, constantValue := 0 }, { name := "AIOOBE_FORMATTER", type := (.object "java/util/function/BiFunction"), accessFlags := 25, slot := 1, constantValue := 0 }, { name := "IOOBE_FORMATTER", type := (.object "java/util/function/BiFunction"), accessFlags := 25, slot := 2, constantValue := 0 }]
  methods := #[k29m0]
  instanceTypes := #[]
  staticTypes := #[(.object "java/util/function/BiFunction"), (.object "java/util/function/BiFunction"), (.object "java/util/function/BiFunction")]
  resolved := Array.replicate 194 none
  statics := some 3 }

def pool30 : Array CpInfo := pool [(9, u "<init>"), (6, .class_ 18), (1, u "java/lang/Object"), (0, u "()V"), (1, .class_ 23), (1, u "jdk/internal/util/ArraysSupport"), (0, u "LOG2_ARRAY_LONG_INDEX_SCALE"), (0, u "I"), (2, u "U"), (0, u "Ljdk/internal/misc/Unsafe;"), (8, u "BIG_ENDIAN"), (0, u "Z"), (8, u "LOG2_BYTE_BIT_SIZE"), (4, u "LOG2_ARRAY_INT_INDEX_SCALE"), (54, u "JLA"), (0, u "Ljdk/internal/access/JavaLangAccess;"), (11, u "LOG2_ARRAY_BOOLEAN_INDEX_SCALE"), (9, u "LOG2_ARRAY_BYTE_INDEX_SCALE"), (5, u "LOG2_ARRAY_CHAR_INDEX_SCALE"), (5, u "LOG2_ARRAY_SHORT_INDEX_SCALE"), (18, u "LOG2_ARRAY_FLOAT_INDEX_SCALE"), (24, u "LOG2_ARRAY_DOUBLE_INDEX_SCALE"), (89, u "T_BOOLEAN"), (2, u "T_CHAR"), (1, u "T_FLOAT"), (1, u "T_DOUBLE"), (1, u "T_BYTE"), (1, u "T_SHORT"), (1, u "T_INT"), (1, u "T_LONG"), (1, u "SOFT_MAX_ARRAY_LENGTH")] 83

def k30m0 : Method := { name := "<init>", desc := "()V", sig := { parameters := [], returnType := none }, accessFlags := 2, code := none }
/-- jdk/internal/util/ArraysSupport -/
def k30 : Class := { plain "jdk/internal/util/ArraysSupport" (some 0) with
  accessFlags := 33
  interfaces := #[]
  cf := some (fileOf pool30 21 #[] #[{ accessFlags := 2, nameIndex := 9, descriptorIndex := 19, attributes := #[] }] 33 16 #[] #[{ accessFlags := 24, nameIndex := 28, descriptorIndex := 29, attributes := #[] }, { accessFlags := 26, nameIndex := 38, descriptorIndex := 39, attributes := #[] }, { accessFlags := 25, nameIndex := 121, descriptorIndex := 25, attributes := #[] }, { accessFlags := 25, nameIndex := 131, descriptorIndex := 25, attributes := #[] }, { accessFlags := 25, nameIndex := 137, descriptorIndex := 25, attributes := #[] }, { accessFlags := 25, nameIndex := 143, descriptorIndex := 25, attributes := #[] }, { accessFlags := 25, nameIndex := 53, descriptorIndex := 25, attributes := #[] }, { accessFlags := 25, nameIndex := 24, descriptorIndex := 25, attributes := #[] }, { accessFlags := 25, nameIndex := 162, descriptorIndex := 25, attributes := #[] }, { accessFlags := 25, nameIndex := 187, descriptorIndex := 25, attributes := #[] }, { accessFlags := 26, nameIndex := 48, descriptorIndex := 25, attributes := #[] }, { accessFlags := 25, nameIndex := 277, descriptorIndex := 25, attributes := #[] }, { accessFlags := 25, nameIndex := 280, descriptorIndex := 25, attributes := #[] }, { accessFlags := 25, nameIndex := 282, descriptorIndex := 25, attributes := #[] }, { accessFlags := 25, nameIndex := 284, descriptorIndex := 25, attributes := #[] }, { accessFlags := 25, nameIndex := 286, descriptorIndex := 25, attributes := #[] }, { accessFlags := 25, nameIndex := 288, descriptorIndex := 25, attributes := #[] }, { accessFlags := 25, nameIndex := 290, descriptorIndex := 25, attributes := #[] }, { accessFlags := 25, nameIndex := 292, descriptorIndex := 25, attributes := #[] }, { accessFlags := 26, nameIndex := 108, descriptorIndex := 109, attributes := #[] }, { accessFlags := 25, nameIndex := 294, descriptorIndex := 25, attributes := #[] }])
  fields := #[{ name := "U", type := (.object "jdk/internal/misc/Unsafe"), accessFlags := 24, slot := 0, constantValue := 0 }, { name := "BIG_ENDIAN", type := .boolean, accessFlags := 26, slot := 1, constantValue := 0 }, { name := "LOG2_ARRAY_BOOLEAN_INDEX_SCALE", type := .int, accessFlags := 25, slot := 2, constantValue := 0 }, { name := "LOG2_ARRAY_BYTE_INDEX_SCALE", type := .int, accessFlags := 25, slot := 3, constantValue := 0 }, { name := "LOG2_ARRAY_CHAR_INDEX_SCALE", type := .int, accessFlags := 25, slot := 4, constantValue := 0 }, { name := "LOG2_ARRAY_SHORT_INDEX_SCALE", type := .int, accessFlags := 25, slot := 5, constantValue := 0 }, { name := "LOG2_ARRAY_INT_INDEX_SCALE", type := .int, accessFlags := 25, slot := 6, constantValue := 0 }, { name := "LOG2_ARRAY_LONG_INDEX_SCALE", type := .int, accessFlags := 25, slot := 7, constantValue := 0 }, { name := "LOG2_ARRAY_FLOAT_INDEX_SCALE", type := .int, accessFlags := 25, slot := 8, constantValue := 0 }, { name := "LOG2_ARRAY_DOUBLE_INDEX_SCALE", type := .int, accessFlags := 25, slot := 9, constantValue := 0 }, { name := "LOG2_BYTE_BIT_SIZE", type := .int, accessFlags := 26, slot := 10, constantValue := 0 }, { name := "T_BOOLEAN", type := .int, accessFlags := 25, slot := 11, constantValue := 0 }, { name := "T_CHAR", type := .int, accessFlags := 25, slot := 12, constantValue := 0 }, { name := "T_FLOAT", type := .int, accessFlags := 25, slot := 13, constantValue := 0 }, { name := "T_DOUBLE", type := .int, accessFlags := 25, slot := 14, constantValue := 0 }, { name := "T_BYTE", type := .int, accessFlags := 25, slot := 15, constantValue := 0 }, { name := "T_SHORT", type := .int, accessFlags := 25, slot := 16, constantValue := 0 }, { name := "T_INT", type := .int, accessFlags := 25, slot := 17, constantValue := 0 }, { name := "T_LONG", type := .int, accessFlags := 25, slot := 18, constantValue := 0 }, { name := "JLA", type := (.object "jdk/internal/access/JavaLangAccess"), accessFlags := 26, slot := 19, constantValue := 0 }, { name := "SOFT_MAX_ARRAY_LENGTH", type := .int, accessFlags := 25, slot := 20, constantValue := 0 }]
  methods := #[k30m0]
  instanceTypes := #[]
  staticTypes := #[(.object "jdk/internal/misc/Unsafe"), .boolean, .int, .int, .int, .int, .int, .int, .int, .int, .int, .int, .int, .int, .int, .int, .int, .int, .int, (.object "jdk/internal/access/JavaLangAccess"), .int]
  resolved := Array.replicate 378 none
  statics := none }

/-- the primitive byte -/
def k31 : Class := { plain "byte" none with kind := .primitive 'B', accessFlags := 0x411 }
/-- [B -/
def k32 : Class := { plain "[B" (some 0) with kind := .array 31 .byte, interfaces := #[16, 2], accessFlags := 1041 }

/-- the primitive char -/
def k33 : Class := { plain "char" none with kind := .primitive 'C', accessFlags := 0x411 }
/-- [C -/
def k34 : Class := { plain "[C" (some 0) with kind := .array 33 .char, interfaces := #[16, 2], accessFlags := 1041 }

/-- the primitive int -/
def k35 : Class := { plain "int" none with kind := .primitive 'I', accessFlags := 0x411 }
/-- [I -/
def k36 : Class := { plain "[I" (some 0) with kind := .array 35 .int, interfaces := #[16, 2], accessFlags := 1041 }

/-- [Ljava/lang/Object; -/
def k37 : Class := { plain "[Ljava/lang/Object;" (some 0) with kind := .array 0 (.object "java/lang/Object"), interfaces := #[16, 2], accessFlags := 1041, mirror := some 4 }

def heap : Heap := #[{ cls := 7, slots := #[.long 0, .int 1, .null, .int 0, .null, .int 0, .int 0], vm := .statics 7 },
  { cls := 17, slots := #[.long 0, .int 0, .ref 5, .ref 6], vm := .statics 17 },
  { cls := 19, slots := #[.long 0, .int 0, .null, .ref 8, .ref 7, .null, .null, .null, .int 0, .int 1], vm := .statics 19 },
  { cls := 29, slots := #[.null, .null, .null], vm := .statics 29 },
  { cls := 0, slots := #[], vm := .mirror 37 },
  { cls := 37, slots := #[], vm := .none },
  { cls := 37, slots := #[], vm := .none },
  { cls := 23, slots := #[.ref 5, .int 0], vm := .none },
  { cls := 0, slots := #[], vm := .none }]
def classes : Array Class := #[k0, k1, k2, k3, k4, k5, k6, k7, k8, k9, k10, k11, k12, k13, k14, k15, k16, k17, k18, k19, k20, k21, k22, k23, k24, k25, k26, k27, k28, k29, k30, k31, k32, k33, k34, k35, k36, k37]
def interned : List (Array UInt16 × Addr) := []
def slotsUsed : Nat := 26
def theMethod : MethodId := ⟨1, 3⟩
def args0 : Array Value := #[.int 5, .int 7, .int 9, .int 3, .int 4, .int 6]
def aboutOver (below : List Frame) : State where
  vm := { classes := classes, interned := interned.toArray }
  heap := heap
  slotsUsed := slotsUsed
  threads := #[{ frames := .invoking theMethod args0 :: below }]
def below0 : List Frame := [.native { method := ⟨0, 0⟩, args := #[] }]
def about1 : State := aboutOver below0
def p0 : Program := .bare "" "" ""
def e0 : Env := launch0.env 0 0 0
theorem w_frames : about1.frames = Frame.invoking theMethod args0 :: below0 := rfl
set_option maxRecDepth 65536 in
theorem w_args : argsFit about1.vm theMethod args0 = true := by decide +kernel
set_option maxRecDepth 65536 in
theorem w_heap : heapFits about1 = true := by decide +kernel
set_option maxRecDepth 65536 in
theorem w_runnable : about1.curStatus? = some .runnable := by decide +kernel
set_option maxRecDepth 65536 in
theorem w_alone : about1.alone = true := by decide +kernel
set_option maxRecDepth 65536 in
theorem w_named : about1.methodNamed? x = some theMethod := by decide +kernel
set_option maxRecDepth 65536 in
theorem w_hears : about1.hears theMethod below0 = true := by decide +kernel
set_option maxRecDepth 65536 in
theorem w_ripe : about1.ripe theMethod args0 below0 = true := by decide +kernel
theorem w_running : about1.status = .running := rfl
set_option maxRecDepth 65536 in
theorem w_room : about1.hasRoom e0.platform room_1 = true :=
  launch0.hasRoom_least _ room_1 (by decide +kernel) (by decide +kernel) (by decide +kernel) (by decide +kernel) (by decide +kernel) (by decide +kernel)
theorem allAtoms_all (ts : List Jvm.Cond) (a : Array Jvm.Value) (st : Jvm.State) : (allAtoms ts).before a st = ts.all (fun c => c.before a st) := by
  induction ts with
  | nil => rfl
  | cons c t ih =>
    show (Jvm.Cond.and c (allAtoms t)).before a st = _
    rw [Jvm.Cond.before_and, ih, List.all_cons]
def words1 : List Jvm.Cond := Jvm.Cond.code x code maxLocals ret :: tables_1
/-- a 'code' word, met by the world's own term for the bytes: nothing is compared byte by byte -/
theorem code_word {y : MethodName} {bytes : ByteArray} {mx : Nat} {rt : Option FieldType} {a : Array Value} {s : State} {m : MethodId} {meth : Method} {c : Code} (h1 : s.methodNamed? y = some m) (h2 : s.vm.method? m = some meth) (h3 : meth.code = some c) (h4 : c.code = bytes)
    (h5 : (c.maxLocals == mx && c.exceptionTable.isEmpty && decide (c.maxStack ≤ mostOperands) && decide (meth.sig.returnType = rt) && !meth.locks && decide (parseMethodDescriptor y.desc = some meth.sig)) = true) : (Jvm.Cond.code y bytes mx rt).before a s = true := by
  simp only [Bool.and_eq_true, beq_iff_eq, Bool.not_eq_true', decide_eq_true_eq] at h5
  obtain ⟨⟨⟨⟨⟨g1, g2⟩, g3⟩, g4⟩, g5⟩, g6⟩ := h5
  simp [Cond.before, Cond.holds, Cond.value, h1, h2, h3, h4, g1, g2, g3, g4, g5, g6]
def isCode : Jvm.Cond → Bool
  | .code _ _ _ _ => true
  | _ => false
theorem all_split {L : List Jvm.Cond} {P : Jvm.Cond → Bool} (h1 : L.all (fun c => isCode c || P c) = true) (h2 : ∀ c ∈ L.filter isCode, P c = true) : L.all P = true := by
  refine List.all_eq_true.mpr fun c hc => ?_
  have h := List.all_eq_true.mp h1 c hc
  rcases Bool.eq_false_or_eq_true (isCode c) with hi | hi
  · exact h2 c (List.mem_filter.mpr ⟨hc, hi⟩)
  · simpa [hi] using h
set_option maxRecDepth 65536 in
theorem w_c0 : (Jvm.Cond.code x code maxLocals ret).before args0 about1 = true := code_word (m := ⟨1, 3⟩) (meth := k1m3) (c := k1c3) (by decide +kernel) rfl rfl rfl (by decide +kernel)
set_option maxRecDepth 65536 in
theorem w_c1 : (Jvm.Cond.code ({ cls := "com/example/keybridge/keybridge/directory/UserEntryWithGroupsPinLaw", name := "str", desc := "(I)Ljava/lang/String;" } : Jvm.MethodName) method_2_code (3 : Nat) (Option.some (Jvm.ClassFile.FieldType.object "java/lang/String"))).before args0 about1 = true := code_word (m := ⟨1, 1⟩) (meth := k1m1) (c := k1c1) (by decide +kernel) rfl rfl rfl (by decide +kernel)
set_option maxRecDepth 65536 in
theorem w_c2 : (Jvm.Cond.code ({ cls := "java/lang/String", name := "<init>", desc := "([C)V" } : Jvm.MethodName) jdk_42_method_3_code (2 : Nat) (Option.none : Option Jvm.ClassFile.FieldType)).before args0 about1 = true := code_word (m := ⟨7, 1⟩) (meth := k7m1) (c := k7c1) (by decide +kernel) rfl rfl rfl (by decide +kernel)
set_option maxRecDepth 65536 in
theorem w_c3 : (Jvm.Cond.code ({ cls := "java/lang/String", name := "<init>", desc := "([CIILjava/lang/Void;)V" } : Jvm.MethodName) jdk_42_method_149_code (6 : Nat) (Option.none : Option Jvm.ClassFile.FieldType)).before args0 about1 = true := code_word (m := ⟨7, 3⟩) (meth := k7m3) (c := k7c3) (by decide +kernel) rfl rfl rfl (by decide +kernel)
set_option maxRecDepth 65536 in
theorem w_c4 : (Jvm.Cond.code ({ cls := "java/lang/Object", name := "<init>", desc := "()V" } : Jvm.MethodName) object_method_1_code (1 : Nat) (Option.none : Option Jvm.ClassFile.FieldType)).before args0 about1 = true := code_word (m := ⟨0, 0⟩) (meth := k0m0) (c := k0c0) (by decide +kernel) rfl rfl rfl (by decide +kernel)
set_option maxRecDepth 65536 in
theorem w_c5 : (Jvm.Cond.code ({ cls := "java/lang/StringUTF16", name := "compress", desc := "([CII)[B" } : Jvm.MethodName) jdk_52_method_16_code (6 : Nat) (Option.some (Jvm.ClassFile.FieldType.array Jvm.ClassFile.FieldType.byte))).before args0 about1 = true := code_word (m := ⟨8, 2⟩) (meth := k8m2) (c := k8c2) (by decide +kernel) rfl rfl rfl (by decide +kernel)
set_option maxRecDepth 65536 in
theorem w_c6 : (Jvm.Cond.code ({ cls := "java/lang/StringUTF16", name := "compress", desc := "([CI[BII)I" } : Jvm.MethodName) jdk_52_method_21_code (7 : Nat) (Option.some Jvm.ClassFile.FieldType.int)).before args0 about1 = true := code_word (m := ⟨8, 3⟩) (meth := k8m3) (c := k8c3) (by decide +kernel) rfl rfl rfl (by decide +kernel)
set_option maxRecDepth 65536 in
theorem w_c7 : (Jvm.Cond.code ({ cls := "java/lang/StringUTF16", name := "coderFromArrayLen", desc := "([BI)B" } : Jvm.MethodName) jdk_52_method_15_code (2 : Nat) (Option.some Jvm.ClassFile.FieldType.byte)).before args0 about1 = true := code_word (m := ⟨8, 1⟩) (meth := k8m1) (c := k8c1) (by decide +kernel) rfl rfl rfl (by decide +kernel)
set_option maxRecDepth 65536 in
theorem w_c8 : (Jvm.Cond.code ({ cls := "java/util/ArrayList", name := "<init>", desc := "()V" } : Jvm.MethodName) jdk_38_method_2_code (1 : Nat) (Option.none : Option Jvm.ClassFile.FieldType)).before args0 about1 = true := code_word (m := ⟨17, 0⟩) (meth := k17m0) (c := k17c0) (by decide +kernel) rfl rfl rfl (by decide +kernel)
set_option maxRecDepth 65536 in
theorem w_c9 : (Jvm.Cond.code ({ cls := "java/util/AbstractList", name := "<init>", desc := "()V" } : Jvm.MethodName) jdk_39_method_1_code (1 : Nat) (Option.none : Option Jvm.ClassFile.FieldType)).before args0 about1 = true := code_word (m := ⟨14, 0⟩) (meth := k14m0) (c := k14c0) (by decide +kernel) rfl rfl rfl (by decide +kernel)
set_option maxRecDepth 65536 in
theorem w_c10 : (Jvm.Cond.code ({ cls := "java/util/AbstractCollection", name := "<init>", desc := "()V" } : Jvm.MethodName) jdk_22_method_1_code (1 : Nat) (Option.none : Option Jvm.ClassFile.FieldType)).before args0 about1 = true := code_word (m := ⟨11, 0⟩) (meth := k11m0) (c := k11c0) (by decide +kernel) rfl rfl rfl (by decide +kernel)
set_option maxRecDepth 65536 in
theorem w_c11 : (Jvm.Cond.code ({ cls := "com/example/keybridge/keybridge/directory/UserEntry", name := "<init>", desc := "(Ljava/lang/String;Ljava/lang/String;Ljava/lang/String;)V" } : Jvm.MethodName) prog_9_method_1_code (4 : Nat) (Option.none : Option Jvm.ClassFile.FieldType)).before args0 about1 = true := code_word (m := ⟨18, 0⟩) (meth := k18m0) (c := k18c0) (by decide +kernel) rfl rfl rfl (by decide +kernel)
set_option maxRecDepth 65536 in
theorem w_c12 : (Jvm.Cond.code ({ cls := "java/util/List", name := "of", desc := "()Ljava/util/List;" } : Jvm.MethodName) jdk_40_method_36_code (0 : Nat) (Option.some (Jvm.ClassFile.FieldType.object "java/util/List"))).before args0 about1 = true := code_word (m := ⟨13, 2⟩) (meth := k13m2) (c := k13c2) (by decide +kernel) rfl rfl rfl (by decide +kernel)
set_option maxRecDepth 65536 in
theorem w_c13 : (Jvm.Cond.code ({ cls := "com/example/keybridge/keybridge/directory/UserEntry", name := "<init>", desc := "(Ljava/lang/String;Ljava/lang/String;Ljava/lang/String;Ljava/util/List;)V" } : Jvm.MethodName) prog_9_method_2_code (5 : Nat) (Option.none : Option Jvm.ClassFile.FieldType)).before args0 about1 = true := code_word (m := ⟨18, 1⟩) (meth := k18m1) (c := k18c1) (by decide +kernel) rfl rfl rfl (by decide +kernel)
set_option maxRecDepth 65536 in
theorem w_c14 : (Jvm.Cond.code ({ cls := "java/util/List", name := "copyOf", desc := "(Ljava/util/Collection;)Ljava/util/List;" } : Jvm.MethodName) jdk_40_method_48_code (1 : Nat) (Option.some (Jvm.ClassFile.FieldType.object "java/util/List"))).before args0 about1 = true := code_word (m := ⟨13, 4⟩) (meth := k13m4) (c := k13c4) (by decide +kernel) rfl rfl rfl (by decide +kernel)
set_option maxRecDepth 65536 in
theorem w_c15 : (Jvm.Cond.code ({ cls := "java/util/ImmutableCollections", name := "listCopy", desc := "(Ljava/util/Collection;)Ljava/util/List;" } : Jvm.MethodName) jdk_56_method_3_code (2 : Nat) (Option.some (Jvm.ClassFile.FieldType.object "java/util/List"))).before args0 about1 = true := code_word (m := ⟨19, 1⟩) (meth := k19m1) (c := k19c1) (by decide +kernel) rfl rfl rfl (by decide +kernel)
set_option maxRecDepth 65536 in
theorem w_c16 : (Jvm.Cond.code ({ cls := "com/example/keybridge/keybridge/directory/UserEntry", name := "withGroups", desc := "(Ljava/util/List;)Lcom/example/keybridge/keybridge/directory/UserEntry;" } : Jvm.MethodName) prog_9_method_3_code (2 : Nat) (Option.some (Jvm.ClassFile.FieldType.object "com/example/keybridge/keybridge/directory/UserEntry"))).before args0 about1 = true := code_word (m := ⟨18, 2⟩) (meth := k18m2) (c := k18c2) (by decide +kernel) rfl rfl rfl (by decide +kernel)
set_option maxRecDepth 65536 in
theorem w_c17 : (Jvm.Cond.code ({ cls := "java/util/ArrayList", name := "isEmpty", desc := "()Z" } : Jvm.MethodName) jdk_38_method_9_code (1 : Nat) (Option.some Jvm.ClassFile.FieldType.boolean)).before args0 about1 = true := code_word (m := ⟨17, 3⟩) (meth := k17m3) (c := k17c3) (by decide +kernel) rfl rfl rfl (by decide +kernel)
set_option maxRecDepth 65536 in
theorem w_c18 : (Jvm.Cond.code ({ cls := "java/util/ArrayList", name := "add", desc := "(Ljava/lang/Object;)Z" } : Jvm.MethodName) jdk_38_method_25_code (2 : Nat) (Option.some Jvm.ClassFile.FieldType.boolean)).before args0 about1 = true := code_word (m := ⟨17, 6⟩) (meth := k17m6) (c := k17c6) (by decide +kernel) rfl rfl rfl (by decide +kernel)
set_option maxRecDepth 65536 in
theorem w_c19 : (Jvm.Cond.code ({ cls := "java/util/ArrayList", name := "add", desc := "(Ljava/lang/Object;[Ljava/lang/Object;I)V" } : Jvm.MethodName) jdk_38_method_24_code (4 : Nat) (Option.none : Option Jvm.ClassFile.FieldType)).before args0 about1 = true := code_word (m := ⟨17, 5⟩) (meth := k17m5) (c := k17c5) (by decide +kernel) rfl rfl rfl (by decide +kernel)
set_option maxRecDepth 65536 in
theorem w_c20 : (Jvm.Cond.code ({ cls := "java/util/ArrayList", name := "grow", desc := "()[Ljava/lang/Object;" } : Jvm.MethodName) jdk_38_method_7_code (1 : Nat) (Option.some (Jvm.ClassFile.FieldType.array (Jvm.ClassFile.FieldType.object "java/lang/Object")))).before args0 about1 = true := code_word (m := ⟨17, 2⟩) (meth := k17m2) (c := k17c2) (by decide +kernel) rfl rfl rfl (by decide +kernel)
set_option maxRecDepth 65536 in
theorem w_c21 : (Jvm.Cond.code ({ cls := "java/util/ArrayList", name := "grow", desc := "(I)[Ljava/lang/Object;" } : Jvm.MethodName) jdk_38_method_6_code (4 : Nat) (Option.some (Jvm.ClassFile.FieldType.array (Jvm.ClassFile.FieldType.object "java/lang/Object")))).before args0 about1 = true := code_word (m := ⟨17, 1⟩) (meth := k17m1) (c := k17c1) (by decide +kernel) rfl rfl rfl (by decide +kernel)
set_option maxRecDepth 65536 in
theorem w_c22 : (Jvm.Cond.code ({ cls := "java/lang/Math", name := "max", desc := "(II)I" } : Jvm.MethodName) jdk_29_method_65_code (2 : Nat) (Option.some Jvm.ClassFile.FieldType.int)).before args0 about1 = true := code_word (m := ⟨24, 1⟩) (meth := k24m1) (c := k24c1) (by decide +kernel) rfl rfl rfl (by decide +kernel)
set_option maxRecDepth 65536 in
theorem w_c23 : (Jvm.Cond.code ({ cls := "com/example/keybridge/keybridge/directory/UserEntry", name := "getDn", desc := "()Ljava/lang/String;" } : Jvm.MethodName) prog_9_method_4_code (1 : Nat) (Option.some (Jvm.ClassFile.FieldType.object "java/lang/String"))).before args0 about1 = true := code_word (m := ⟨18, 3⟩) (meth := k18m3) (c := k18c3) (by decide +kernel) rfl rfl rfl (by decide +kernel)
set_option maxRecDepth 65536 in
theorem w_c24 : (Jvm.Cond.code ({ cls := "com/example/keybridge/keybridge/directory/UserEntryWithGroupsPinLaw", name := "eq", desc := "(Ljava/lang/String;Ljava/lang/String;)Z" } : Jvm.MethodName) method_3_code (2 : Nat) (Option.some Jvm.ClassFile.FieldType.boolean)).before args0 about1 = true := code_word (m := ⟨1, 2⟩) (meth := k1m2) (c := k1c2) (by decide +kernel) rfl rfl rfl (by decide +kernel)
set_option maxRecDepth 65536 in
theorem w_c25 : (Jvm.Cond.code ({ cls := "java/lang/String", name := "equals", desc := "(Ljava/lang/Object;)Z" } : Jvm.MethodName) jdk_42_method_66_code (3 : Nat) (Option.some Jvm.ClassFile.FieldType.boolean)).before args0 about1 = true := code_word (m := ⟨7, 2⟩) (meth := k7m2) (c := k7c2) (by decide +kernel) rfl rfl rfl (by decide +kernel)
set_option maxRecDepth 65536 in
theorem w_c26 : (Jvm.Cond.code ({ cls := "com/example/keybridge/keybridge/directory/UserEntry", name := "getUsername", desc := "()Ljava/lang/String;" } : Jvm.MethodName) prog_9_method_5_code (1 : Nat) (Option.some (Jvm.ClassFile.FieldType.object "java/lang/String"))).before args0 about1 = true := code_word (m := ⟨18, 4⟩) (meth := k18m4) (c := k18c4) (by decide +kernel) rfl rfl rfl (by decide +kernel)
set_option maxRecDepth 65536 in
theorem w_c27 : (Jvm.Cond.code ({ cls := "com/example/keybridge/keybridge/directory/UserEntry", name := "getMail", desc := "()Ljava/lang/String;" } : Jvm.MethodName) prog_9_method_6_code (1 : Nat) (Option.some (Jvm.ClassFile.FieldType.object "java/lang/String"))).before args0 about1 = true := code_word (m := ⟨18, 5⟩) (meth := k18m5) (c := k18c5) (by decide +kernel) rfl rfl rfl (by decide +kernel)
set_option maxRecDepth 65536 in
theorem w_c28 : (Jvm.Cond.code ({ cls := "com/example/keybridge/keybridge/directory/UserEntry", name := "getGroups", desc := "()Ljava/util/List;" } : Jvm.MethodName) prog_9_method_7_code (1 : Nat) (Option.some (Jvm.ClassFile.FieldType.object "java/util/List"))).before args0 about1 = true := code_word (m := ⟨18, 6⟩) (meth := k18m6) (c := k18c6) (by decide +kernel) rfl rfl rfl (by decide +kernel)
set_option maxRecDepth 65536 in
theorem w_c29 : (Jvm.Cond.code ({ cls := "java/util/ImmutableCollections$ListN", name := "size", desc := "()I" } : Jvm.MethodName) jdk_45_method_3_code (1 : Nat) (Option.some Jvm.ClassFile.FieldType.int)).before args0 about1 = true := code_word (m := ⟨23, 1⟩) (meth := k23m1) (c := k23c1) (by decide +kernel) rfl rfl rfl (by decide +kernel)
set_option maxRecDepth 65536 in
theorem w_c30 : (Jvm.Cond.code ({ cls := "java/util/ArrayList", name := "toArray", desc := "()[Ljava/lang/Object;" } : Jvm.MethodName) jdk_38_method_16_code (1 : Nat) (Option.some (Jvm.ClassFile.FieldType.array (Jvm.ClassFile.FieldType.object "java/lang/Object")))).before args0 about1 = true := code_word (m := ⟨17, 4⟩) (meth := k17m4) (c := k17c4) (by decide +kernel) rfl rfl rfl (by decide +kernel)
set_option maxRecDepth 65536 in
theorem w_c31 : (Jvm.Cond.code ({ cls := "java/util/Arrays", name := "copyOf", desc := "([Ljava/lang/Object;I)[Ljava/lang/Object;" } : Jvm.MethodName) jdk_65_method_119_code (2 : Nat) (Option.some (Jvm.ClassFile.FieldType.array (Jvm.ClassFile.FieldType.object "java/lang/Object")))).before args0 about1 = true := code_word (m := ⟨25, 1⟩) (meth := k25m1) (c := k25c1) (by decide +kernel) rfl rfl rfl (by decide +kernel)
set_option maxRecDepth 65536 in
theorem w_c32 : (Jvm.Cond.code ({ cls := "java/util/Arrays", name := "copyOf", desc := "([Ljava/lang/Object;ILjava/lang/Class;)[Ljava/lang/Object;" } : Jvm.MethodName) jdk_65_method_120_code (4 : Nat) (Option.some (Jvm.ClassFile.FieldType.array (Jvm.ClassFile.FieldType.object "java/lang/Object")))).before args0 about1 = true := code_word (m := ⟨25, 2⟩) (meth := k25m2) (c := k25c2) (by decide +kernel) rfl rfl rfl (by decide +kernel)
set_option maxRecDepth 65536 in
theorem w_c33 : (Jvm.Cond.code ({ cls := "java/lang/Math", name := "min", desc := "(II)I" } : Jvm.MethodName) jdk_29_method_69_code (2 : Nat) (Option.some Jvm.ClassFile.FieldType.int)).before args0 about1 = true := code_word (m := ⟨24, 2⟩) (meth := k24m2) (c := k24c2) (by decide +kernel) rfl rfl rfl (by decide +kernel)
set_option maxRecDepth 65536 in
theorem w_c34 : (Jvm.Cond.code ({ cls := "java/util/List", name := "of", desc := "([Ljava/lang/Object;)Ljava/util/List;" } : Jvm.MethodName) jdk_40_method_47_code (2 : Nat) (Option.some (Jvm.ClassFile.FieldType.object "java/util/List"))).before args0 about1 = true := code_word (m := ⟨13, 3⟩) (meth := k13m3) (c := k13c3) (by decide +kernel) rfl rfl rfl (by decide +kernel)
set_option maxRecDepth 65536 in
theorem w_c35 : (Jvm.Cond.code ({ cls := "java/util/ImmutableCollections$List12", name := "<init>", desc := "(Ljava/lang/Object;Ljava/lang/Object;)V" } : Jvm.MethodName) jdk_44_method_2_code (3 : Nat) (Option.none : Option Jvm.ClassFile.FieldType)).before args0 about1 = true := code_word (m := ⟨22, 1⟩) (meth := k22m1) (c := k22c1) (by decide +kernel) rfl rfl rfl (by decide +kernel)
set_option maxRecDepth 65536 in
theorem w_c36 : (Jvm.Cond.code ({ cls := "java/util/ImmutableCollections$AbstractImmutableList", name := "<init>", desc := "()V" } : Jvm.MethodName) jdk_46_method_1_code (1 : Nat) (Option.none : Option Jvm.ClassFile.FieldType)).before args0 about1 = true := code_word (m := ⟨21, 0⟩) (meth := k21m0) (c := k21c0) (by decide +kernel) rfl rfl rfl (by decide +kernel)
set_option maxRecDepth 65536 in
theorem w_c37 : (Jvm.Cond.code ({ cls := "java/util/ImmutableCollections$AbstractImmutableCollection", name := "<init>", desc := "()V" } : Jvm.MethodName) jdk_47_method_1_code (1 : Nat) (Option.none : Option Jvm.ClassFile.FieldType)).before args0 about1 = true := code_word (m := ⟨20, 0⟩) (meth := k20m0) (c := k20c0) (by decide +kernel) rfl rfl rfl (by decide +kernel)
set_option maxRecDepth 65536 in
theorem w_c38 : (Jvm.Cond.code ({ cls := "java/util/Objects", name := "requireNonNull", desc := "(Ljava/lang/Object;)Ljava/lang/Object;" } : Jvm.MethodName) jdk_31_method_10_code (1 : Nat) (Option.some (Jvm.ClassFile.FieldType.object "java/lang/Object"))).before args0 about1 = true := code_word (m := ⟨27, 1⟩) (meth := k27m1) (c := k27c1) (by decide +kernel) rfl rfl rfl (by decide +kernel)
set_option maxRecDepth 65536 in
theorem w_c39 : (Jvm.Cond.code ({ cls := "java/util/ImmutableCollections$List12", name := "size", desc := "()I" } : Jvm.MethodName) jdk_44_method_3_code (1 : Nat) (Option.some Jvm.ClassFile.FieldType.int)).before args0 about1 = true := code_word (m := ⟨22, 2⟩) (meth := k22m2) (c := k22c2) (by decide +kernel) rfl rfl rfl (by decide +kernel)
set_option maxRecDepth 65536 in
theorem w_c40 : (Jvm.Cond.code ({ cls := "java/util/ImmutableCollections$List12", name := "get", desc := "(I)Ljava/lang/Object;" } : Jvm.MethodName) jdk_44_method_5_code (2 : Nat) (Option.some (Jvm.ClassFile.FieldType.object "java/lang/Object"))).before args0 about1 = true := code_word (m := ⟨22, 3⟩) (meth := k22m3) (c := k22c3) (by decide +kernel) rfl rfl rfl (by decide +kernel)
set_option maxRecDepth 65536 in
theorem w_c41 : (Jvm.Cond.code ({ cls := "java/util/ImmutableCollections", name := "listFromArray", desc := "([Ljava/lang/Object;)Ljava/util/List;" } : Jvm.MethodName) jdk_56_method_4_code (3 : Nat) (Option.some (Jvm.ClassFile.FieldType.object "java/util/List"))).before args0 about1 = true := code_word (m := ⟨19, 2⟩) (meth := k19m2) (c := k19c2) (by decide +kernel) rfl rfl rfl (by decide +kernel)
set_option maxRecDepth 65536 in
theorem w_c42 : (Jvm.Cond.code ({ cls := "java/util/ImmutableCollections$ListN", name := "<init>", desc := "([Ljava/lang/Object;Z)V" } : Jvm.MethodName) jdk_45_method_1_code (3 : Nat) (Option.none : Option Jvm.ClassFile.FieldType)).before args0 about1 = true := code_word (m := ⟨23, 0⟩) (meth := k23m0) (c := k23c0) (by decide +kernel) rfl rfl rfl (by decide +kernel)
set_option maxRecDepth 65536 in
theorem w_c43 : (Jvm.Cond.code ({ cls := "java/util/ImmutableCollections$ListN", name := "get", desc := "(I)Ljava/lang/Object;" } : Jvm.MethodName) jdk_45_method_4_code (2 : Nat) (Option.some (Jvm.ClassFile.FieldType.object "java/lang/Object"))).before args0 about1 = true := code_word (m := ⟨23, 2⟩) (meth := k23m2) (c := k23c2) (by decide +kernel) rfl rfl rfl (by decide +kernel)
set_option maxRecDepth 65536 in
theorem w_c44 : (Jvm.Cond.code ({ cls := "java/util/ImmutableCollections$List12", name := "<init>", desc := "(Ljava/lang/Object;)V" } : Jvm.MethodName) jdk_44_method_1_code (2 : Nat) (Option.none : Option Jvm.ClassFile.FieldType)).before args0 about1 = true := code_word (m := ⟨22, 0⟩) (meth := k22m0) (c := k22c0) (by decide +kernel) rfl rfl rfl (by decide +kernel)
def codes1 : List Jvm.Cond := [Jvm.Cond.code x code maxLocals ret, Jvm.Cond.code ({ cls := "com/example/keybridge/keybridge/directory/UserEntryWithGroupsPinLaw", name := "str", desc := "(I)Ljava/lang/String;" } : Jvm.MethodName) method_2_code (3 : Nat) (Option.some (Jvm.ClassFile.FieldType.object "java/lang/String")), Jvm.Cond.code ({ cls := "java/lang/String", name := "<init>", desc := "([C)V" } : Jvm.MethodName) jdk_42_method_3_code (2 : Nat) (Option.none : Option Jvm.ClassFile.FieldType), Jvm.Cond.code ({ cls := "java/lang/String", name := "<init>", desc := "([CIILjava/lang/Void;)V" } : Jvm.MethodName) jdk_42_method_149_code (6 : Nat) (Option.none : Option Jvm.ClassFile.FieldType), Jvm.Cond.code ({ cls := "java/lang/Object", name := "<init>", desc := "()V" } : Jvm.MethodName) object_method_1_code (1 : Nat) (Option.none : Option Jvm.ClassFile.FieldType), Jvm.Cond.code ({ cls := "java/lang/StringUTF16", name := "compress", desc := "([CII)[B" } : Jvm.MethodName) jdk_52_method_16_code (6 : Nat) (Option.some (Jvm.ClassFile.FieldType.array Jvm.ClassFile.FieldType.byte)), Jvm.Cond.code ({ cls := "java/lang/StringUTF16", name := "compress", desc := "([CI[BII)I" } : Jvm.MethodName) jdk_52_method_21_code (7 : Nat) (Option.some Jvm.ClassFile.FieldType.int), Jvm.Cond.code ({ cls := "java/lang/StringUTF16", name := "coderFromArrayLen", desc := "([BI)B" } : Jvm.MethodName) jdk_52_method_15_code (2 : Nat) (Option.some Jvm.ClassFile.FieldType.byte), Jvm.Cond.code ({ cls := "java/util/ArrayList", name := "<init>", desc := "()V" } : Jvm.MethodName) jdk_38_method_2_code (1 : Nat) (Option.none : Option Jvm.ClassFile.FieldType), Jvm.Cond.code ({ cls := "java/util/AbstractList", name := "<init>", desc := "()V" } : Jvm.MethodName) jdk_39_method_1_code (1 : Nat) (Option.none : Option Jvm.ClassFile.FieldType), Jvm.Cond.code ({ cls := "java/util/AbstractCollection", name := "<init>", desc := "()V" } : Jvm.MethodName) jdk_22_method_1_code (1 : Nat) (Option.none : Option Jvm.ClassFile.FieldType), Jvm.Cond.code ({ cls := "com/example/keybridge/keybridge/directory/UserEntry", name := "<init>", desc := "(Ljava/lang/String;Ljava/lang/String;Ljava/lang/String;)V" } : Jvm.MethodName) prog_9_method_1_code (4 : Nat) (Option.none : Option Jvm.ClassFile.FieldType), Jvm.Cond.code ({ cls := "java/util/List", name := "of", desc := "()Ljava/util/List;" } : Jvm.MethodName) jdk_40_method_36_code (0 : Nat) (Option.some (Jvm.ClassFile.FieldType.object "java/util/List")), Jvm.Cond.code ({ cls := "com/example/keybridge/keybridge/directory/UserEntry", name := "<init>", desc := "(Ljava/lang/String;Ljava/lang/String;Ljava/lang/String;Ljava/util/List;)V" } : Jvm.MethodName) prog_9_method_2_code (5 : Nat) (Option.none : Option Jvm.ClassFile.FieldType), Jvm.Cond.code ({ cls := "java/util/List", name := "copyOf", desc := "(Ljava/util/Collection;)Ljava/util/List;" } : Jvm.MethodName) jdk_40_method_48_code (1 : Nat) (Option.some (Jvm.ClassFile.FieldType.object "java/util/List")), Jvm.Cond.code ({ cls := "java/util/ImmutableCollections", name := "listCopy", desc := "(Ljava/util/Collection;)Ljava/util/List;" } : Jvm.MethodName) jdk_56_method_3_code (2 : Nat) (Option.some (Jvm.ClassFile.FieldType.object "java/util/List")), Jvm.Cond.code ({ cls := "com/example/keybridge/keybridge/directory/UserEntry", name := "withGroups", desc := "(Ljava/util/List;)Lcom/example/keybridge/keybridge/directory/UserEntry;" } : Jvm.MethodName) prog_9_method_3_code (2 : Nat) (Option.some (Jvm.ClassFile.FieldType.object "com/example/keybridge/keybridge/directory/UserEntry")), Jvm.Cond.code ({ cls := "java/util/ArrayList", name := "isEmpty", desc := "()Z" } : Jvm.MethodName) jdk_38_method_9_code (1 : Nat) (Option.some Jvm.ClassFile.FieldType.boolean), Jvm.Cond.code ({ cls := "java/util/ArrayList", name := "add", desc := "(Ljava/lang/Object;)Z" } : Jvm.MethodName) jdk_38_method_25_code (2 : Nat) (Option.some Jvm.ClassFile.FieldType.boolean), Jvm.Cond.code ({ cls := "java/util/ArrayList", name := "add", desc := "(Ljava/lang/Object;[Ljava/lang/Object;I)V" } : Jvm.MethodName) jdk_38_method_24_code (4 : Nat) (Option.none : Option Jvm.ClassFile.FieldType), Jvm.Cond.code ({ cls := "java/util/ArrayList", name := "grow", desc := "()[Ljava/lang/Object;" } : Jvm.MethodName) jdk_38_method_7_code (1 : Nat) (Option.some (Jvm.ClassFile.FieldType.array (Jvm.ClassFile.FieldType.object "java/lang/Object"))), Jvm.Cond.code ({ cls := "java/util/ArrayList", name := "grow", desc := "(I)[Ljava/lang/Object;" } : Jvm.MethodName) jdk_38_method_6_code (4 : Nat) (Option.some (Jvm.ClassFile.FieldType.array (Jvm.ClassFile.FieldType.object "java/lang/Object"))), Jvm.Cond.code ({ cls := "java/lang/Math", name := "max", desc := "(II)I" } : Jvm.MethodName) jdk_29_method_65_code (2 : Nat) (Option.some Jvm.ClassFile.FieldType.int), Jvm.Cond.code ({ cls := "com/example/keybridge/keybridge/directory/UserEntry", name := "getDn", desc := "()Ljava/lang/String;" } : Jvm.MethodName) prog_9_method_4_code (1 : Nat) (Option.some (Jvm.ClassFile.FieldType.object "java/lang/String")), Jvm.Cond.code ({ cls := "com/example/keybridge/keybridge/directory/UserEntryWithGroupsPinLaw", name := "eq", desc := "(Ljava/lang/String;Ljava/lang/String;)Z" } : Jvm.MethodName) method_3_code (2 : Nat) (Option.some Jvm.ClassFile.FieldType.boolean), Jvm.Cond.code ({ cls := "java/lang/String", name := "equals", desc := "(Ljava/lang/Object;)Z" } : Jvm.MethodName) jdk_42_method_66_code (3 : Nat) (Option.some Jvm.ClassFile.FieldType.boolean), Jvm.Cond.code ({ cls := "com/example/keybridge/keybridge/directory/UserEntry", name := "getUsername", desc := "()Ljava/lang/String;" } : Jvm.MethodName) prog_9_method_5_code (1 : Nat) (Option.some (Jvm.ClassFile.FieldType.object "java/lang/String")), Jvm.Cond.code ({ cls := "com/example/keybridge/keybridge/directory/UserEntry", name := "getMail", desc := "()Ljava/lang/String;" } : Jvm.MethodName) prog_9_method_6_code (1 : Nat) (Option.some (Jvm.ClassFile.FieldType.object "java/lang/String")), Jvm.Cond.code ({ cls := "com/example/keybridge/keybridge/directory/UserEntry", name := "getGroups", desc := "()Ljava/util/List;" } : Jvm.MethodName) prog_9_method_7_code (1 : Nat) (Option.some (Jvm.ClassFile.FieldType.object "java/util/List")), Jvm.Cond.code ({ cls := "java/util/ImmutableCollections$ListN", name := "size", desc := "()I" } : Jvm.MethodName) jdk_45_method_3_code (1 : Nat) (Option.some Jvm.ClassFile.FieldType.int), Jvm.Cond.code ({ cls := "java/util/ArrayList", name := "toArray", desc := "()[Ljava/lang/Object;" } : Jvm.MethodName) jdk_38_method_16_code (1 : Nat) (Option.some (Jvm.ClassFile.FieldType.array (Jvm.ClassFile.FieldType.object "java/lang/Object"))), Jvm.Cond.code ({ cls := "java/util/Arrays", name := "copyOf", desc := "([Ljava/lang/Object;I)[Ljava/lang/Object;" } : Jvm.MethodName) jdk_65_method_119_code (2 : Nat) (Option.some (Jvm.ClassFile.FieldType.array (Jvm.ClassFile.FieldType.object "java/lang/Object"))), Jvm.Cond.code ({ cls := "java/util/Arrays", name := "copyOf", desc := "([Ljava/lang/Object;ILjava/lang/Class;)[Ljava/lang/Object;" } : Jvm.MethodName) jdk_65_method_120_code (4 : Nat) (Option.some (Jvm.ClassFile.FieldType.array (Jvm.ClassFile.FieldType.object "java/lang/Object"))), Jvm.Cond.code ({ cls := "java/lang/Math", name := "min", desc := "(II)I" } : Jvm.MethodName) jdk_29_method_69_code (2 : Nat) (Option.some Jvm.ClassFile.FieldType.int), Jvm.Cond.code ({ cls := "java/util/List", name := "of", desc := "([Ljava/lang/Object;)Ljava/util/List;" } : Jvm.MethodName) jdk_40_method_47_code (2 : Nat) (Option.some (Jvm.ClassFile.FieldType.object "java/util/List")), Jvm.Cond.code ({ cls := "java/util/ImmutableCollections$List12", name := "<init>", desc := "(Ljava/lang/Object;Ljava/lang/Object;)V" } : Jvm.MethodName) jdk_44_method_2_code (3 : Nat) (Option.none : Option Jvm.ClassFile.FieldType), Jvm.Cond.code ({ cls := "java/util/ImmutableCollections$AbstractImmutableList", name := "<init>", desc := "()V" } : Jvm.MethodName) jdk_46_method_1_code (1 : Nat) (Option.none : Option Jvm.ClassFile.FieldType), Jvm.Cond.code ({ cls := "java/util/ImmutableCollections$AbstractImmutableCollection", name := "<init>", desc := "()V" } : Jvm.MethodName) jdk_47_method_1_code (1 : Nat) (Option.none : Option Jvm.ClassFile.FieldType), Jvm.Cond.code ({ cls := "java/util/Objects", name := "requireNonNull", desc := "(Ljava/lang/Object;)Ljava/lang/Object;" } : Jvm.MethodName) jdk_31_method_10_code (1 : Nat) (Option.some (Jvm.ClassFile.FieldType.object "java/lang/Object")), Jvm.Cond.code ({ cls := "java/util/ImmutableCollections$List12", name := "size", desc := "()I" } : Jvm.MethodName) jdk_44_method_3_code (1 : Nat) (Option.some Jvm.ClassFile.FieldType.int), Jvm.Cond.code ({ cls := "java/util/ImmutableCollections$List12", name := "get", desc := "(I)Ljava/lang/Object;" } : Jvm.MethodName) jdk_44_method_5_code (2 : Nat) (Option.some (Jvm.ClassFile.FieldType.object "java/lang/Object")), Jvm.Cond.code ({ cls := "java/util/ImmutableCollections", name := "listFromArray", desc := "([Ljava/lang/Object;)Ljava/util/List;" } : Jvm.MethodName) jdk_56_method_4_code (3 : Nat) (Option.some (Jvm.ClassFile.FieldType.object "java/util/List")), Jvm.Cond.code ({ cls := "java/util/ImmutableCollections$ListN", name := "<init>", desc := "([Ljava/lang/Object;Z)V" } : Jvm.MethodName) jdk_45_method_1_code (3 : Nat) (Option.none : Option Jvm.ClassFile.FieldType), Jvm.Cond.code ({ cls := "java/util/ImmutableCollections$ListN", name := "get", desc := "(I)Ljava/lang/Object;" } : Jvm.MethodName) jdk_45_method_4_code (2 : Nat) (Option.some (Jvm.ClassFile.FieldType.object "java/lang/Object")), Jvm.Cond.code ({ cls := "java/util/ImmutableCollections$List12", name := "<init>", desc := "(Ljava/lang/Object;)V" } : Jvm.MethodName) jdk_44_method_1_code (2 : Nat) (Option.none : Option Jvm.ClassFile.FieldType)]
set_option maxRecDepth 65536 in
theorem codes_eq : words1.filter isCode = codes1 := rfl
theorem w_codes : ∀ c ∈ words1.filter isCode, c.before args0 about1 = true := by
  rw [codes_eq]
  intro c hc
  simp only [codes1, List.mem_cons, List.not_mem_nil, or_false] at hc
  rcases hc with rfl | rfl | rfl | rfl | rfl | rfl | rfl | rfl | rfl | rfl | rfl | rfl | rfl | rfl | rfl | rfl | rfl | rfl | rfl | rfl | rfl | rfl | rfl | rfl | rfl | rfl | rfl | rfl | rfl | rfl | rfl | rfl | rfl | rfl | rfl | rfl | rfl | rfl | rfl | rfl | rfl | rfl | rfl | rfl | rfl
  · exact w_c0
  · exact w_c1
  · exact w_c2
  · exact w_c3
  · exact w_c4
  · exact w_c5
  · exact w_c6
  · exact w_c7
  · exact w_c8
  · exact w_c9
  · exact w_c10
  · exact w_c11
  · exact w_c12
  · exact w_c13
  · exact w_c14
  · exact w_c15
  · exact w_c16
  · exact w_c17
  · exact w_c18
  · exact w_c19
  · exact w_c20
  · exact w_c21
  · exact w_c22
  · exact w_c23
  · exact w_c24
  · exact w_c25
  · exact w_c26
  · exact w_c27
  · exact w_c28
  · exact w_c29
  · exact w_c30
  · exact w_c31
  · exact w_c32
  · exact w_c33
  · exact w_c34
  · exact w_c35
  · exact w_c36
  · exact w_c37
  · exact w_c38
  · exact w_c39
  · exact w_c40
  · exact w_c41
  · exact w_c42
  · exact w_c43
  · exact w_c44
set_option maxRecDepth 65536 in
theorem w_t1 : (words1.take 24).all (fun c => isCode c || c.before args0 about1) = true := by decide +kernel
set_option maxRecDepth 65536 in
theorem w_t2 : ((words1.drop 24).take 24).all (fun c => isCode c || c.before args0 about1) = true := by decide +kernel
set_option maxRecDepth 65536 in
theorem w_t3 : (((words1.drop 24).drop 24).take 24).all (fun c => isCode c || c.before args0 about1) = true := by decide +kernel
set_option maxRecDepth 65536 in
theorem w_t4 : ((((words1.drop 24).drop 24).drop 24).take 24).all (fun c => isCode c || c.before args0 about1) = true := by decide +kernel
set_option maxRecDepth 65536 in
theorem w_t5 : (((((words1.drop 24).drop 24).drop 24).drop 24).take 24).all (fun c => isCode c || c.before args0 about1) = true := by decide +kernel
set_option maxRecDepth 65536 in
theorem w_t6 : ((((((words1.drop 24).drop 24).drop 24).drop 24).drop 24).take 24).all (fun c => isCode c || c.before args0 about1) = true := by decide +kernel
set_option maxRecDepth 65536 in
theorem w_t7 : (((((((words1.drop 24).drop 24).drop 24).drop 24).drop 24).drop 24).take 24).all (fun c => isCode c || c.before args0 about1) = true := by decide +kernel
set_option maxRecDepth 65536 in
theorem w_t8 : ((((((((words1.drop 24).drop 24).drop 24).drop 24).drop 24).drop 24).drop 24).take 24).all (fun c => isCode c || c.before args0 about1) = true := by decide +kernel
set_option maxRecDepth 65536 in
theorem w_t9 : (((((((((words1.drop 24).drop 24).drop 24).drop 24).drop 24).drop 24).drop 24).drop 24).take 24).all (fun c => isCode c || c.before args0 about1) = true := by decide +kernel
set_option maxRecDepth 65536 in
theorem w_t10 : ((((((((((words1.drop 24).drop 24).drop 24).drop 24).drop 24).drop 24).drop 24).drop 24).drop 24).take 24).all (fun c => isCode c || c.before args0 about1) = true := by decide +kernel
set_option maxRecDepth 65536 in
theorem w_t11 : (((((((((((words1.drop 24).drop 24).drop 24).drop 24).drop 24).drop 24).drop 24).drop 24).drop 24).drop 24).take 24).all (fun c => isCode c || c.before args0 about1) = true := by decide +kernel
set_option maxRecDepth 65536 in
theorem w_t12 : (((((((((((words1.drop 24).drop 24).drop 24).drop 24).drop 24).drop 24).drop 24).drop 24).drop 24).drop 24).drop 24).all (fun c => isCode c || c.before args0 about1) = true := by decide +kernel
theorem w_tables : (allAtoms (Jvm.Cond.code x code maxLocals ret :: tables_1)).before args0 about1 = true := by
  rw [allAtoms_all]
  show words1.all (fun c => c.before args0 about1) = true
  refine all_split ?_ w_codes
  rw [← List.take_append_drop 24 words1, List.all_append, w_t1, ← List.take_append_drop 24 (words1.drop 24), List.all_append, w_t2, ← List.take_append_drop 24 ((words1.drop 24).drop 24), List.all_append, w_t3, ← List.take_append_drop 24 (((words1.drop 24).drop 24).drop 24), List.all_append, w_t4, ← List.take_append_drop 24 ((((words1.drop 24).drop 24).drop 24).drop 24), List.all_append, w_t5, ← List.take_append_drop 24 (((((words1.drop 24).drop 24).drop 24).drop 24).drop 24), List.all_append, w_t6, ← List.take_append_drop 24 ((((((words1.drop 24).drop 24).drop 24).drop 24).drop 24).drop 24), List.all_append, w_t7, ← List.take_append_drop 24 (((((((words1.drop 24).drop 24).drop 24).drop 24).drop 24).drop 24).drop 24), List.all_append, w_t8, ← List.take_append_drop 24 ((((((((words1.drop 24).drop 24).drop 24).drop 24).drop 24).drop 24).drop 24).drop 24), List.all_append, w_t9, ← List.take_append_drop 24 (((((((((words1.drop 24).drop 24).drop 24).drop 24).drop 24).drop 24).drop 24).drop 24).drop 24), List.all_append, w_t10, ← List.take_append_drop 24 ((((((((((words1.drop 24).drop 24).drop 24).drop 24).drop 24).drop 24).drop 24).drop 24).drop 24).drop 24), List.all_append, w_t11, w_t12]
  rfl
set_option maxRecDepth 65536 in
theorem w_rest : rest_1_c.before args0 about1 = true := by decide +kernel
set_option maxRecDepth 65536 in
theorem w_case : (Jvm.Cond.and given_1 narrow_1).before args0 about1 = true := by decide +kernel
theorem w_applies : (headSpec (Jvm.Cond.code x code maxLocals ret :: tables_1) room_1).applies x e0.platform about1 = true :=
  (Spec.applies_iff w_frames).mpr ⟨w_running, w_runnable, w_alone, w_named, w_hears, w_ripe, w_room, w_tables⟩
theorem atStart : AtStart classFile x code maxLocals ret World_1 tables_1 room_1 Calls_1 rest_1 Pre_1 launch0 p0 e0 about1 theMethod args0 below0 :=
  ⟨lists_1, trivial, launch0.admits_env _ _ _, launch0.least_env, fairChoices_fair.cas, fairChoices_fair.clock, w_frames, w_args, w_heap, w_applies, ⟨⟨37, k37, 4, by decide +kernel, rfl, rfl, _, rfl, rfl⟩, trivial⟩, w_rest, w_case⟩
end start1
theorem witness_1 : WitnessClaimed_1 := ⟨start1.p0, start1.e0, start1.about1, start1.theMethod, start1.args0, start1.below0, start1.atStart⟩
end Jvm.Pilot.@@N@@
