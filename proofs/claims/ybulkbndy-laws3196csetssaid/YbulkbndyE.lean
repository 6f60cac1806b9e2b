/-
  THE WALKS of 'startSets[string]', 'startSets[placed]'.
-/
import Derived.Test.YbulkbndyD
import Derived.DeepKeys4
import Derived.Deep.RegionWith
namespace Go.Proofs.Ybulkbndy
open Go.RowKit Go.Maps

theorem inv9 (key : Value) (kl : Lit) (h : keyOf Yba.prog 9 key = some kl) : ∃ x, key = Value.string x := by
  cases key <;> simp [keyOf, Yba.underlying9, mapKey] at h
  exact ⟨_, rfl⟩
theorem key9_eq {x : ByteArray} {kl : Lit} (h : keyOf Yba.prog 9 (.string x) = some kl) : kl = kS x := by
  simp [keyOf, Yba.underlying9, mapKey] at h
  exact h.2.symm

theorem below_undrew {B : Nat} {w w' : World} (h : Below B w.drew w') : Below B w w' := ⟨h.os, h.tape, h.output, h.size, h.block⟩

/-- What the lists are, in the world in which 'startSets' is called. -/
def Lists (w : World) (n : Nat) (g : Nat → Nat) (L : Nat → List Nat) : Prop :=
  ∀ i, i < n → (L i).length ≤ 24 ∧ (∀ j ∈ L i, j < 16) ∧ g i < w.heap.size ∧ w.ownsRow 0 9 1 (.slice (some ⟨g i, 0, none⟩) (L i).length (L i).length) (L i).length (strs' (L i))

theorem Lists.below {w w' : World} {n : Nat} {g : Nat → Nat} {L : Nat → List Nat} (h : Lists w n g L) (hb : Below w.heap.size w w') : Lists w' n g L := fun i hi => by
  obtain ⟨h1, h2, h3, h4⟩ := h i hi
  exact ⟨h1, h2, Nat.lt_of_lt_of_le h3 hb.size, h4.kept (grown_of_below hb) (.inr (by simp [Value.ownBlock]))⟩

theorem laidOut : laidOutB Yba.prog = true := by kernel_rfl
theorem law36 : Keyed Yba.prog 36 := Keyed.of_law (deep_law_laid laidOut (m := 2) (by omega) (of_decide_eq_true (by kernel_rfl)) (by kernel_rfl) (by kernel_rfl))
theorem kt36 : Yba.prog.keyType 36 = true := by kernel_rfl
theorem cells36 : Yba.prog.cellsOf 36 = 2 := by kernel_rfl
theorem cells9 : Yba.prog.cellsOf 9 = 1 := by kernel_rfl
theorem size_types : ∃ d, Yba.prog.types.size + 1 = d + 2 := ⟨Yba.prog.types.size - 1, by
  have : 36 < Yba.prog.types.size := of_decide_eq_true (by kernel_rfl)
  omega⟩
set_option maxRecDepth 100000 in
theorem key36 {o v : ByteArray} (ho : o.size ≤ maxLen) (hv : v.size ≤ maxLen) : keyOf Yba.prog 36 (.agg #[.string o, .string v]) = some (.string (keyBytes [.string o.data.toList, .string v.data.toList])) := by
  obtain ⟨d, hd⟩ := size_types
  unfold keyOf
  rw [Yba.underlying36, hd]
  simp [kt36, Value.formed, Yba.underlying36, cells36, cells9, Program.keyLits, Yba.underlying9, Value.cells, ho, hv]

set_option maxHeartbeats 400000 in
set_option maxRecDepth 100000 in
theorem startSets11 (b m0 bj n : Nat) (D0 : DataW Value) (kl : Nat → Lit) (g : Nat → Nat) (L : Nat → List Nat) (sen : Nat → Bool) (w : World) (hm0 : m0 ≤ 1024) (hown : w.ownsMap Yba.prog 9 valR b m0 D0) (hD : InD D0 n kl (lvOf g L))
    (hlists : Lists w n g L) (hnext : Next w bj sen) :
    Calls Yba.prog 11 #[.map (some b), .map (some bj)] w fun e w' => ∃ sv, e = .returned sv ∧ SetsAt w' 9 w.heap.size n kl g L sen (fun _ => true) m0 sv ∧ Below w.heap.size w w' := by
  have hmm := @run_makeMap Yba.prog
  have heq : ∀ (w : World) (r : Option Nat), _ := fun w r => run_eql_map_nil (P := Yba.prog) w 38 9 76 r Yba.underlying38
  go_enter Yba.func11, Yba.ntmps11
  go_wp2_with (at_range; refine wpList_range_own _ rfl _ 24 rfl 9 25 law9 Yba.underlying24 valR b m0 D0 rfl hown ?_; intro w0 hrg0 hg0 hs0)
  go_frame
  go_loopw [5] (fun sv wr => SRel 9 b m0 D0 n kl g L sen w sv wr) (fun _ wr => wr.rangeLeft b w.heap.size)
  case atStart => exact SRel.start hD hown hrg0 hg0 hs0
  case round =>
    clear hrg0 hg0 hs0
    obtain ⟨left, cnt, m, hrg, hmc, hsets, hleft, hnx, hsz⟩ := hrel
    have hlow : b < w.heap.size := hown.lt
    rcases hsets with ⟨rfl, hno⟩ | ⟨bs, Ds, rfl, hsm, hex⟩
    · go_wp2_with (at_next; refine wpList_next_ranges _ rfl _ rfl 9 law9 valR Value.string id inv9 (fun v y _ => ⟨v, rfl⟩) b w.heap.size m0 D0 left cnt rfl hrg ?_ ?_)
      · intro _ hall
        go_wp2
        go_ret
        exact ⟨.map none, rfl, SetsAt.finish (.inl ⟨rfl, hno⟩) hall (by omega), hnx⟩
      · intro x c kx a ps w1 cnt1 hkx hlx hvc hat hrg1 hlt hg1 hs1 hen
        obtain ⟨i, hi, rfl⟩ := (hD.has _).1 (hleft _ hlx)
        have hc : c = .slice (some ⟨g i, 0, none⟩) (L i).length (L i).length := by
          have h1 := (valR_inv hvc).1
          rw [← hat .nil, hD.val i hi] at h1
          simpa [lvOf] using h1.symm
        subst hc
        clear hat hvc
        have hW1 : Below w.heap.size w w1 := hnx.grown hg1 (by omega) (fun j hj => by cases hj; exact Nat.le_refl _)
        by_cases hlong : 8 < (L i).length
        · have hnew : SetsMap (w1.alloc (.map #[] 0)) 9 (w.heap.size + 1) n kl g L sen (fun i => !left (kl i)) 0 w1.heap.size (.map []) := SetsMap.empty hno (by omega)
          obtain ⟨l1, l2, l3, l4⟩ := (hlists.below (hW1.alloc hW1.size (.map #[] 0))) i hi
          have hnx2 := hnext.below (hW1.alloc hW1.size (.map #[] 0)) hnext.lt
          have HS1 := Hid.mk hs1
          clear hs1
          go_wp2_with (first | (go_at_call 14; refine (newStartSet (L i) l1 l2 (g i) (L i).length 0 bj sen _ l4 l3 hnx2).mono ?_; rintro e W3 ⟨s, rfl, hss, hb3⟩; have hm3 := ownsMap_below hnew.own hb3 hnew.own.lt) | (at_mapUpdate; refine wpList_mapUpdate_own _ rfl _ _ _ 38 rfl 9 76 law9 Yba.underlying38 _ w1.heap.size 0 _ rfl hm3 (by decide) _ _ _ rfl rfl hkx (.held (.pointer (some ⟨s, 0, none⟩))) [] rfl ?_; intro W4 hown4 hg4; go_frame))
          go_roundw
          case rel => exact SRel.more hD hi hrg1 hlt hg1 (World.grownBy_alloc w1 _ none) (by omega) hnew hleft hnx hsz hlong hb3 hss hown4 hg4 (by have := hW1.size; omega)
          case measure => rw [more_left hrg1 (World.grownBy_alloc w1 _ none) hb3 hg4 (by have := hW1.size; omega) hnew.lo, hrg.left_eq]; exact hlt
        · go_wp2
          go_roundw
          case rel => exact SRel.skip hD hi hrg1 hlt hg1 hmc (.inl ⟨rfl, hno⟩) hleft hnx hsz hlong
          case measure => rw [hrg1.left_eq, hrg.left_eq]; exact hlt
    · go_wp2_with (at_next; refine wpList_next_ranges _ rfl _ rfl 9 law9 valR Value.string id inv9 (fun v y _ => ⟨v, rfl⟩) b w.heap.size m0 D0 left cnt rfl hrg ?_ ?_)
      · intro _ hall
        go_wp2
        go_ret
        exact ⟨_, rfl, SetsAt.finish (.inr ⟨bs, Ds, rfl, hsm, hex⟩) hall (by omega), hnx⟩
      · intro x c kx a ps w1 cnt1 hkx hlx hvc hat hrg1 hlt hg1 hs1 hen
        obtain ⟨i, hi, rfl⟩ := (hD.has _).1 (hleft _ hlx)
        have hc : c = .slice (some ⟨g i, 0, none⟩) (L i).length (L i).length := by
          have h1 := (valR_inv hvc).1
          rw [← hat .nil, hD.val i hi] at h1
          simpa [lvOf] using h1.symm
        subst hc
        clear hat hvc
        have hW1 : Below w.heap.size w w1 := hnx.grown hg1 (by omega) (fun j hj => by cases hj; exact Nat.le_refl _)
        have HS1 := Hid.mk hs1
        clear hs1
        by_cases hlong : 8 < (L i).length
        · have hlo := hsm.lo
          have hnew := hsm.kept hg1 (fun j hj => by cases hj; omega)
          obtain ⟨l1, l2, l3, l4⟩ := (hlists.below hW1) i hi
          have hnx2 := hnext.below hW1 hnext.lt
          go_wp2_with (first | (go_at_call 14; refine (newStartSet (L i) l1 l2 (g i) (L i).length 0 bj sen _ l4 l3 hnx2).mono ?_; rintro e W3 ⟨s, rfl, hss, hb3⟩; have hm3 := ownsMap_below hnew.own hb3 hnew.own.lt) | (at_mapUpdate; refine wpList_mapUpdate_own _ rfl _ _ _ 38 rfl 9 76 law9 Yba.underlying38 _ bs m _ rfl hm3 (by unfold maxLen; omega) _ _ _ rfl rfl hkx (.held (.pointer (some ⟨s, 0, none⟩))) [] rfl ?_; intro W4 hown4 hg4; go_frame))
          go_roundw
          case rel => exact SRel.more hD hi hrg1 hlt hg1 (World.grownBy.refl w1 none) (by omega) hnew hleft hnx hsz hlong hb3 hss hown4 hg4 (by omega)
          case measure => rw [more_left hrg1 (World.grownBy.refl w1 none) hb3 hg4 (by omega) hnew.lo, hrg.left_eq]; exact hlt
        · go_wp2
          go_roundw
          case rel => exact SRel.skip hD hi hrg1 hlt hg1 hmc (.inr ⟨bs, Ds, rfl, hsm, hex⟩) hleft hnx hsz hlong
          case measure => rw [hrg1.left_eq, hrg.left_eq]; exact hlt

set_option maxHeartbeats 400000 in
set_option maxRecDepth 100000 in
theorem startSets12 (b m0 bj n : Nat) (D0 : DataW Value) (kl : Nat → Lit) (g : Nat → Nat) (L : Nat → List Nat) (sen : Nat → Bool) (w : World) (hm0 : m0 ≤ 1024) (hown : w.ownsMap Yba.prog 36 valR b m0 D0) (hD : InD D0 n kl (lvOf g L)) (ob us : Nat → ByteArray) (hks : ∀ i, i < n → keyOf Yba.prog 36 (.agg #[.string (ob i), .string (us i)]) = some (kl i))
    (hlists : Lists w n g L) (hnext : Next w bj sen) :
    Calls Yba.prog 12 #[.map (some b), .map (some bj)] w fun e w' => ∃ sv, e = .returned sv ∧ SetsAt w' 36 w.heap.size n kl g L sen (fun _ => true) m0 sv ∧ Below w.heap.size w w' := by
  have hmm := @run_makeMap Yba.prog
  have heq : ∀ (w : World) (r : Option Nat), _ := fun w r => run_eql_map_nil (P := Yba.prog) w 63 36 76 r Yba.underlying63
  go_enter Yba.func12, Yba.ntmps12
  go_wp2_with (at_range; refine wpList_range_own _ rfl _ 34 rfl 36 25 law36 Yba.underlying34 valR b m0 D0 rfl hown ?_; intro w0 hrg0 hg0 hs0)
  go_frame
  go_loopw [5] (fun sv wr => SRel 36 b m0 D0 n kl g L sen w sv wr) (fun _ wr => wr.rangeLeft b w.heap.size)
  case atStart => exact SRel.start hD hown hrg0 hg0 hs0
  case round =>
    clear hrg0 hg0 hs0
    obtain ⟨left, cnt, m, hrg, hmc, hsets, hleft, hnx, hsz⟩ := hrel
    have hlow : b < w.heap.size := hown.lt
    rcases hsets with ⟨rfl, hno⟩ | ⟨bs, Ds, rfl, hsm, hex⟩
    · go_wp2_with (at_next; refine wpList_next_ranges _ rfl _ rfl 36 law36 valR id id (fun v y _ => ⟨v, rfl⟩) (fun v y _ => ⟨v, rfl⟩) b w.heap.size m0 D0 left cnt rfl hrg ?_ ?_)
      · intro _ hall
        go_wp2
        go_ret
        exact ⟨.map none, rfl, SetsAt.finish (.inl ⟨rfl, hno⟩) hall (by omega), hnx⟩
      · intro x c kx a ps w1 cnt1 hkx hlx hvc hat hrg1 hlt hg1 hs1 hen
        obtain ⟨i, hi, rfl⟩ := (hD.has _).1 (hleft _ hlx)
        have hc : c = .slice (some ⟨g i, 0, none⟩) (L i).length (L i).length := by
          have h1 := (valR_inv hvc).1
          rw [← hat .nil, hD.val i hi] at h1
          simpa [lvOf] using h1.symm
        subst hc
        obtain rfl := law36.inj hkx (hks i hi)
        clear hat hvc
        have hrgb := hrg1.alloc (.cells #[.string (ob i), .string (us i)] 36)
        have hgb := hg1.andThen (World.grownBy_alloc w1 (.cells #[.string (ob i), .string (us i)] 36) none) (by simp)
        have hW1 : Below w.heap.size w (w1.alloc (.cells #[.string (ob i), .string (us i)] 36)) := hnx.grown hgb (by omega) (fun j hj => by cases hj; exact Nat.le_refl _)
        by_cases hlong : 8 < (L i).length
        · have hnew : SetsMap ((w1.alloc (.cells #[.string (ob i), .string (us i)] 36)).alloc (.map #[] 0)) 36 (w.heap.size + 1) n kl g L sen (fun i => !left (kl i)) 0 (w1.alloc (.cells #[.string (ob i), .string (us i)] 36)).heap.size (.map []) := SetsMap.empty hno (by simp; omega)
          obtain ⟨l1, l2, l3, l4⟩ := (hlists.below (hW1.alloc hW1.size (.map #[] 0))) i hi
          have hnx2 := hnext.below (hW1.alloc hW1.size (.map #[] 0)) hnext.lt
          have HS1 := Hid.mk hs1
          clear hs1
          go_wp2
          go_region_with (go_at_call 14; refine (newStartSet (L i) l1 l2 (g i) (L i).length 0 bj sen _ ?_ ?_ ?_).mono ?_; exact l4; exact l3; exact hnx2; rintro e W3 ⟨s, rfl, hss, hb3⟩; have hb3' := below_undrew hb3; have hm3 := ownsMap_below hnew.own hb3' hnew.own.lt; obtain ⟨W4, hrun4, hown4, hg4⟩ := hm3.update law36 Yba.underlying63 (by decide) hkx (rfl : valR (.pointer (some ⟨s, 0, none⟩)) = _); simp only [World.size_alloc] at hrun4; have cA : W3.cell? ⟨w1.heap.size, 0, none⟩ = some (.string (ob i)) := (hb3'.cell (by simp; omega)).trans (by simp); have cB : W3.cell? ⟨w1.heap.size, 1, none⟩ = some (.string (us i)) := (hb3'.cell (by simp; omega)).trans (by simp))
          all_goals
            go_wp2
            go_roundw
            case rel =>
              have hr := SRel.more hD hi hrgb hlt hgb (World.grownBy_alloc _ _ none) (by omega) hnew hleft hnx hsz hlong hb3' hss hown4 hg4 (by have := hW1.size; simp at this ⊢; omega)
              simpa using hr
            case measure => rw [more_left hrgb (World.grownBy_alloc _ _ none) hb3' hg4 (by have := hW1.size; simp at this ⊢; omega) hnew.lo, hrg.left_eq]; exact hlt
        · go_wp2
          go_roundw
          case rel => exact SRel.skip hD hi hrgb hlt hgb hmc (.inl ⟨rfl, hno⟩) hleft hnx hsz hlong
          case measure => rw [hrgb.left_eq, hrg.left_eq]; exact hlt
    · go_wp2_with (at_next; refine wpList_next_ranges _ rfl _ rfl 36 law36 valR id id (fun v y _ => ⟨v, rfl⟩) (fun v y _ => ⟨v, rfl⟩) b w.heap.size m0 D0 left cnt rfl hrg ?_ ?_)
      · intro _ hall
        go_wp2
        go_ret
        exact ⟨_, rfl, SetsAt.finish (.inr ⟨bs, Ds, rfl, hsm, hex⟩) hall (by omega), hnx⟩
      · intro x c kx a ps w1 cnt1 hkx hlx hvc hat hrg1 hlt hg1 hs1 hen
        obtain ⟨i, hi, rfl⟩ := (hD.has _).1 (hleft _ hlx)
        have hc : c = .slice (some ⟨g i, 0, none⟩) (L i).length (L i).length := by
          have h1 := (valR_inv hvc).1
          rw [← hat .nil, hD.val i hi] at h1
          simpa [lvOf] using h1.symm
        subst hc
        obtain rfl := law36.inj hkx (hks i hi)
        clear hat hvc
        have hrgb := hrg1.alloc (.cells #[.string (ob i), .string (us i)] 36)
        have hgb := hg1.andThen (World.grownBy_alloc w1 (.cells #[.string (ob i), .string (us i)] 36) none) (by simp)
        have hW1 : Below w.heap.size w (w1.alloc (.cells #[.string (ob i), .string (us i)] 36)) := hnx.grown hgb (by omega) (fun j hj => by cases hj; exact Nat.le_refl _)
        have HS1 := Hid.mk hs1
        clear hs1
        by_cases hlong : 8 < (L i).length
        · have hlo := hsm.lo
          have hnew := hsm.kept hgb (fun j hj => by cases hj; omega)
          obtain ⟨l1, l2, l3, l4⟩ := (hlists.below hW1) i hi
          have hnx2 := hnext.below hW1 hnext.lt
          go_wp2
          go_region_with (go_at_call 14; refine (newStartSet (L i) l1 l2 (g i) (L i).length 0 bj sen _ ?_ ?_ ?_).mono ?_; exact l4; exact l3; exact hnx2; rintro e W3 ⟨s, rfl, hss, hb3⟩; have hb3' := below_undrew hb3; have hm3 := ownsMap_below hnew.own hb3' hnew.own.lt; obtain ⟨W4, hrun4, hown4, hg4⟩ := hm3.update law36 Yba.underlying63 (by unfold maxLen; omega) hkx (rfl : valR (.pointer (some ⟨s, 0, none⟩)) = _); have cA : W3.cell? ⟨w1.heap.size, 0, none⟩ = some (.string (ob i)) := (hb3'.cell (by simp)).trans (by simp); have cB : W3.cell? ⟨w1.heap.size, 1, none⟩ = some (.string (us i)) := (hb3'.cell (by simp)).trans (by simp))
          all_goals
            go_wp2
            go_roundw
            case rel => exact SRel.more hD hi hrgb hlt hgb (World.grownBy.refl _ none) (by omega) hnew hleft hnx hsz hlong hb3' hss hown4 hg4 (by omega)
            case measure => rw [more_left hrgb (World.grownBy.refl _ none) hb3' hg4 (by omega) hnew.lo, hrg.left_eq]; exact hlt
        · go_wp2
          go_roundw
          case rel => exact SRel.skip hD hi hrgb hlt hgb hmc (.inr ⟨bs, Ds, rfl, hsm, hex⟩) hleft hnx hsz hlong
          case measure => rw [hrgb.left_eq, hrg.left_eq]; exact hlt

end Go.Proofs.Ybulkbndy
