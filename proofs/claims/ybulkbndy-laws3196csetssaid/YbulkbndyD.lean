/-
  'startSets[string]', 'startSets[placed]'.
-/
import Derived.Test.YbulkbndyC
namespace Go.Proofs.Ybulkbndy
open Go.RowKit Go.Maps

theorem grown_of_below {w w' : World} (h : Below w.heap.size w w') : w.grownBy w' none := ⟨h.os, h.tape, h.output, h.size, fun k hk _ => h.block k hk⟩

theorem SS.kept {w w' : World} {base s : Nat} {lv : Value} {L : List Nat} {sen : Nat → Bool} {row : Option Nat} (h : SS w base s lv L sen) (hg : w.grownBy w' row) (hr : ∀ j, row = some j → j < base) : SS w' base s lv L sen := by
  obtain ⟨⟨bi, v, al, D, m, h1, h2, h3, h4, h5, h6, h7⟩, hlo⟩ := h
  have ne : ∀ j, base ≤ j → some j ≠ row := fun j hj e => by have := hr j e.symm; omega
  refine ⟨⟨bi, v, al, D, m, (hg.block _ (Array.getElem?_eq_some_iff.1 h1).1 (ne _ hlo)).trans h1, h2.kept hg (ne _ h6), h3, h4.kept hg ?_, (hg.block _ (Array.getElem?_eq_some_iff.1 h5).1 (ne _ h7)).trans h5, h6, h7⟩, hlo⟩
  cases e : v.ownBlock with
  | none => exact .inl rfl
  | some j => exact .inr (e ▸ ne j (h4.lt j e).1)

theorem SS.base {w : World} {base base' s : Nat} {lv : Value} {L : List Nat} {sen : Nat → Bool} (h : SS w base s lv L sen) (hb : base' ≤ base) : SS w base' s lv L sen := by
  obtain ⟨⟨bi, v, al, D, m, h1, h2, h3, h4, h5, h6, h7⟩, hlo⟩ := h
  exact ⟨⟨bi, v, al, D, m, h1, h2, h3, ownsRow_base h4 hb, h5, by omega, by omega⟩, by omega⟩

/-- The list that stands at i. -/
def lvOf (g : Nat → Nat) (L : Nat → List Nat) (i : Nat) : Value := .slice (some ⟨g i, 0, none⟩) (L i).length (L i).length

/-- WHAT 'lists' IS: at the keys kl 0 .. kl (n-1), and at no other, the lists. -/
structure InD (D : DataW Value) (n : Nat) (kl : Nat → Lit) (lv : Nat → Value) : Prop where
  has : ∀ x, Maps.has D x = true ↔ ∃ i, i < n ∧ x = kl i
  val : ∀ i, i < n → ∀ z, D.atKey (kl i) z = .held (lv i)
  inj : ∀ i j, i < n → j < n → kl i = kl j → i = j
  key : ∀ i, i < n → WideAt.IsKeyLit (kl i)

section
variable {K base n : Nat} {kl : Nat → Lit} {g : Nat → Nat} {L : Nat → List Nat} {sen : Nat → Bool}

/-- THE MAP OF THE SETS MADE SO FAR: those of the lists that 'done' tells, where they are long. -/
structure SetsMap (w : World) (K base n : Nat) (kl : Nat → Lit) (g : Nat → Nat) (L : Nat → List Nat) (sen : Nat → Bool) (done : Nat → Bool) (m bs : Nat) (D : DataW Value) : Prop where
  lo : base ≤ bs
  own : w.ownsMap Yba.prog K valR bs m D
  has : ∀ x, Maps.has D x = true ↔ ∃ i, i < n ∧ done i = true ∧ 8 < (L i).length ∧ x = kl i
  set : ∀ i, i < n → done i = true → 8 < (L i).length → ∃ s, (∀ z, D.atKey (kl i) z = .held (.pointer (some ⟨s, 0, none⟩))) ∧ SS w (bs + 1) s (lvOf g L i) (L i) sen

/-- WHAT 'sets' IS when the lists that 'done' tells are done. -/
def SetsAt (w : World) (K base n : Nat) (kl : Nat → Lit) (g : Nat → Nat) (L : Nat → List Nat) (sen : Nat → Bool) (done : Nat → Bool) (m : Nat) (sv : Value) : Prop :=
  (sv = .map none ∧ ∀ i, i < n → done i = true → ¬ 8 < (L i).length) ∨
  ∃ bs D, sv = .map (some bs) ∧ SetsMap w K base n kl g L sen done m bs D ∧ (∃ i, i < n ∧ done i = true ∧ 8 < (L i).length)

theorem SetsMap.kept {w w' : World} {done : Nat → Bool} {m bs : Nat} {D : DataW Value} {row : Option Nat} (h : SetsMap w K base n kl g L sen done m bs D) (hg : w.grownBy w' row) (hr : ∀ j, row = some j → j < bs) : SetsMap w' K base n kl g L sen done m bs D :=
  ⟨h.lo, h.own.kept hg (fun e => by have := hr bs e.symm; omega), h.has, fun i hi hd hl => by
    obtain ⟨s, h1, h2⟩ := h.set i hi hd hl
    exact ⟨s, h1, h2.kept hg (fun j hj => by have := hr j hj; omega)⟩⟩

theorem SetsMap.skip {w : World} {done : Nat → Bool} {m bs i : Nat} {D : DataW Value} (h : SetsMap w K base n kl g L sen done m bs D) (hs : ¬ 8 < (L i).length) : SetsMap w K base n kl g L sen (fun j => done j || decide (j = i)) m bs D := by
  have key : ∀ j, 8 < (L j).length → (done j || decide (j = i)) = done j := fun j hj => by
    have : j ≠ i := fun e => hs (e ▸ hj)
    simp [this]
  refine ⟨h.lo, h.own, fun x => (h.has x).trans ⟨?_, ?_⟩, fun j hj hd hl => h.set j hj (by rw [← key j hl]; exact hd) hl⟩
  · rintro ⟨j, h1, h2, h3, h4⟩
    exact ⟨j, h1, by show (done j || decide (j = i)) = true; rw [key j h3]; exact h2, h3, h4⟩
  · rintro ⟨j, h1, h2, h3, h4⟩
    exact ⟨j, h1, by rw [← key j h3]; exact h2, h3, h4⟩

theorem SetsMap.empty {w : World} {done : Nat → Bool} (hno : ∀ i, i < n → done i = true → ¬ 8 < (L i).length) (hb : base ≤ w.heap.size) : SetsMap (w.alloc (.map #[] 0)) K base n kl g L sen done 0 w.heap.size (.map []) :=
  ⟨hb, World.ownsMap_made w Yba.prog K valR, fun x => ⟨fun h => by simp [Maps.has] at h, fun ⟨i, h1, h2, h3, _⟩ => absurd h3 (hno i h1 h2)⟩, fun i hi hd hl => absurd hl (hno i hi hd)⟩

theorem SetsMap.put {W2 W3 W4 : World} {done : Nat → Bool} {m bs i s : Nat} {D D0 : DataW Value} (hD : InD D0 n kl (lvOf g L)) (h : SetsMap W2 K base n kl g L sen done m bs D) (hb : Below W2.heap.size W2 W3) (hss : SS W3 W2.heap.size s (lvOf g L i) (L i) sen)
    (hown : W4.ownsMap Yba.prog K valR bs (m + 1) (D.put (kl i) (.held (.pointer (some ⟨s, 0, none⟩))))) (hg : W3.grownBy W4 (some bs)) (hi : i < n) (hl : 8 < (L i).length) :
    SetsMap W4 K base n kl g L sen (fun j => done j || decide (j = i)) (m + 1) bs (D.put (kl i) (.held (.pointer (some ⟨s, 0, none⟩)))) := by
  have hlt := h.own.lt
  have h3 := h.kept (grown_of_below hb) (fun j hj => by cases hj)
  refine ⟨h.lo, hown, fun x => ?_, fun j hj hd hlj => ?_⟩
  · by_cases e : x = kl i
    · subst e
      rw [has_put_same h.own.isMap (hD.key i hi)]
      exact ⟨fun _ => ⟨i, hi, by simp, hl, rfl⟩, fun _ => rfl⟩
    · rw [has_put_other e, h.has]
      constructor
      · rintro ⟨j, h1, h2, h4, h5⟩
        exact ⟨j, h1, by simp [h2], h4, h5⟩
      · rintro ⟨j, h1, h2, h4, h5⟩
        have hji : j ≠ i := fun e' => e (e' ▸ h5)
        exact ⟨j, h1, by simpa [hji] using h2, h4, h5⟩
  · by_cases e : j = i
    · subst e
      refine ⟨s, fun z => atKey_put_same h.own.isMap (hD.key j hj) _ _, ?_⟩
      exact (hss.base (by omega)).kept hg (fun k hk => by cases hk; omega)
    · have hne : kl j ≠ kl i := fun e' => e (hD.inj j i hj hi e')
      obtain ⟨s', h1, h2⟩ := h3.set j hj (by simpa [e] using hd) hlj
      exact ⟨s', fun z => by rw [atKey_put_other hne]; exact h1 z, h2.kept hg (fun k hk => by cases hk; omega)⟩

theorem SetsMap.congr {w : World} {done done' : Nat → Bool} {m bs : Nat} {D : DataW Value} (h : SetsMap w K base n kl g L sen done m bs D) (he : ∀ i, i < n → done' i = done i) : SetsMap w K base n kl g L sen done' m bs D := by
  refine ⟨h.lo, h.own, fun x => (h.has x).trans ⟨?_, ?_⟩, fun j hj hd hl => h.set j hj (by rw [← he j hj]; exact hd) hl⟩
  · rintro ⟨j, h1, h2, h3, h4⟩
    exact ⟨j, h1, by rw [he j h1]; exact h2, h3, h4⟩
  · rintro ⟨j, h1, h2, h3, h4⟩
    exact ⟨j, h1, by rw [← he j h1]; exact h2, h3, h4⟩

theorem left_step {D0 : DataW Value} (hD : InD D0 n kl (lvOf g L)) (left : Lit → Bool) {i : Nat} (hi : i < n) : ∀ j, j < n → (!(left (kl j) && !(kl j).sameKey (kl i))) = (!left (kl j) || decide (j = i)) := by
  intro j hj
  by_cases e : j = i
  · subst e
    rw [WideAt.sameKey_self (hD.key j hj)]
    simp
  · have hne : kl j ≠ kl i := fun e' => e (hD.inj j i hj hi e')
    rw [sameKey_ne hne]
    simp [e]

/-- THE ROUND'S HEAD. -/
def SRel (K b m0 : Nat) (D0 : DataW Value) (n : Nat) (kl : Nat → Lit) (g : Nat → Nat) (L : Nat → List Nat) (sen : Nat → Bool) (w : World) (sv : Value) (wr : World) : Prop :=
  ∃ (left : Lit → Bool) (cnt m : Nat), wr.ranges Yba.prog K valR b w.heap.size m0 D0 left cnt ∧ m + cnt ≤ m0 ∧ SetsAt wr K (w.heap.size + 1) n kl g L sen (fun i => !left (kl i)) m sv ∧ (∀ x, left x = true → Maps.has D0 x = true) ∧ Below w.heap.size w wr ∧ w.heap.size < wr.heap.size

theorem SRel.start {b m0 : Nat} {D0 : DataW Value} {w w0 : World} (hD : InD D0 n kl (lvOf g L)) (hown : w.ownsMap Yba.prog K valR b m0 D0) (hrg : w0.ranges Yba.prog K valR b w.heap.size m0 D0 (Maps.has D0) (Maps.size D0)) (hg : w.grownBy w0 none) (hs : w0.heap.size = w.heap.size + 1) :
    SRel K b m0 D0 n kl g L sen w (.map none) w0 :=
  ⟨Maps.has D0, Maps.size D0, 0, hrg, by have := hown.size_le; omega, .inl ⟨rfl, fun i hi hd => by
    have := (hD.has (kl i)).2 ⟨i, hi, rfl⟩
    simp [this] at hd⟩, fun _ h => h, (Below.refl _ _).grown hg (Nat.le_refl _) (fun k hk => by cases hk), by omega⟩

theorem SetsAt.finish {b0 m m0 : Nat} {w : World} {left : Lit → Bool} {sv : Value} (h : SetsAt w K (b0 + 1) n kl g L sen (fun i => !left (kl i)) m sv) (hall : ∀ x, left x = false) (hm : m ≤ m0) : SetsAt w K b0 n kl g L sen (fun _ => true) m0 sv := by
  rcases h with ⟨rfl, hno⟩ | ⟨bs, D, rfl, hs, i, h1, h2, h3⟩
  · exact .inl ⟨rfl, fun i hi _ => hno i hi (by simp [hall])⟩
  · have hs' := hs.congr (done' := fun _ => true) (fun i _ => by simp [hall])
    exact .inr ⟨bs, D, rfl, ⟨by have := hs.lo; omega, hs'.own.mono hm, hs'.has, hs'.set⟩, i, h1, rfl, h3⟩

section
variable {b m0 : Nat} {D0 : DataW Value} {w wr w1 : World} {left : Lit → Bool} {cnt cnt1 m i : Nat}

/-- A short list: nothing is made. -/
theorem SRel.skip {sv : Value} (hD : InD D0 n kl (lvOf g L)) (hi : i < n) (hrg1 : w1.ranges Yba.prog K valR b w.heap.size m0 D0 (fun z => left z && !z.sameKey (kl i)) cnt1) (hlt : cnt1 < cnt) (hg1 : wr.grownBy w1 (some w.heap.size))
    (hmc : m + cnt ≤ m0) (hsets : SetsAt wr K (w.heap.size + 1) n kl g L sen (fun i => !left (kl i)) m sv) (hleft : ∀ x, left x = true → Maps.has D0 x = true) (hnx : Below w.heap.size w wr) (hsz : w.heap.size < wr.heap.size) (hshort : ¬ 8 < (L i).length) :
    SRel K b m0 D0 n kl g L sen w sv w1 := by
  have hst := left_step hD left hi
  have hs1 := hg1.size
  refine ⟨_, cnt1, m, hrg1, by omega, ?_, fun x hx => hleft x (by simp at hx; exact hx.1), hnx.grown hg1 (by omega) (fun j hj => by cases hj; exact Nat.le_refl _), by omega⟩
  rcases hsets with ⟨rfl, hno⟩ | ⟨bs, D, rfl, hs, j, h1, h2, h3⟩
  · refine .inl ⟨rfl, fun j hj hd hl => ?_⟩
    have e : j ≠ i := fun e => hshort (e ▸ hl)
    have hd' := (hst j hj).symm.trans hd
    exact hno j hj (by simpa [e] using hd') hl
  · have h4 := hs.lo
    refine .inr ⟨bs, D, rfl, ((hs.kept hg1 (fun k hk => by cases hk; omega)).skip hshort).congr hst, j, h1, ?_, h3⟩
    refine (hst j h1).trans ?_
    have h2' : (!left (kl j)) = true := h2
    rw [h2']
    rfl

/-- A long list: its set is made and laid into the map of sets, which lies in W2 (the world w1, or w1 with the new map). -/
theorem SRel.more {W2 W3 W4 : World} {bs s : Nat} {D : DataW Value} (hD : InD D0 n kl (lvOf g L)) (hi : i < n) (hrg1 : w1.ranges Yba.prog K valR b w.heap.size m0 D0 (fun z => left z && !z.sameKey (kl i)) cnt1) (hlt : cnt1 < cnt) (hg1 : wr.grownBy w1 (some w.heap.size))
    (hg2 : w1.grownBy W2 none)
    (hmc : m + cnt ≤ m0) (hsm : SetsMap W2 K (w.heap.size + 1) n kl g L sen (fun i => !left (kl i)) m bs D) (hleft : ∀ x, left x = true → Maps.has D0 x = true) (hnx : Below w.heap.size w wr) (hsz : w.heap.size < wr.heap.size) (hl : 8 < (L i).length)
    (hb : Below W2.heap.size W2 W3) (hss : SS W3 W2.heap.size s (lvOf g L i) (L i) sen) (hown : W4.ownsMap Yba.prog K valR bs (m + 1) (D.put (kl i) (.held (.pointer (some ⟨s, 0, none⟩))))) (hg : W3.grownBy W4 (some bs)) (hbb : b ≠ bs) :
    SRel K b m0 D0 n kl g L sen w (.map (some bs)) W4 := by
  have hst := left_step hD left hi
  have h4 := hsm.lo
  have s1 := hg1.size
  have s2 := hg2.size
  have s3 := hb.size
  have s4 := hg.size
  refine ⟨fun z => left z && !z.sameKey (kl i), cnt1, m + 1, ?_, by omega, ?_, fun x hx => hleft x (by simp at hx; exact hx.1), ?_, by omega⟩
  · exact ((hrg1.kept hg2 (by simp) (by simp)).kept (grown_of_below hb) (by simp) (by simp)).kept hg (by simpa using hbb) (by simp; omega)
  · refine .inr ⟨bs, _, rfl, (hsm.put hD hb hss hown hg hi hl).congr hst, i, hi, ?_, hl⟩
    refine (hst i hi).trans ?_
    simp
  · exact (((hnx.grown hg1 (by omega) (fun j hj => by cases hj; exact Nat.le_refl _)).grown hg2 (by omega) (fun j hj => by cases hj)).grown (grown_of_below hb) (by omega) (fun j hj => by cases hj)).grown hg (by omega) (fun j hj => by cases hj; omega)

theorem more_left {W2 W3 W4 : World} {bs : Nat} {lf : Lit → Bool} (hrg1 : w1.ranges Yba.prog K valR b w.heap.size m0 D0 lf cnt1) (hg2 : w1.grownBy W2 none) (hb : Below W2.heap.size W2 W3) (hg : W3.grownBy W4 (some bs)) (hbb : b ≠ bs) (h4 : w.heap.size + 1 ≤ bs) :
    W4.rangeLeft b w.heap.size = cnt1 :=
  (((hrg1.kept hg2 (by simp) (by simp)).kept (grown_of_below hb) (by simp) (by simp)).kept hg (by simpa using hbb) (by simp; omega)).left_eq

end
end

end Go.Proofs.Ybulkbndy
