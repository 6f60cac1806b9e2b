/-
  'zzs3196cidx', 'zzs3196cnames': rows that are made and filled.
-/
import Derived.Test.YbulkbndyA
namespace Go.Proofs.Ybulkbndy
open Go.RowKit

theorem Yba.info3 : (Yba.prog.info? 3).map (fun i => (i.zero, i.size, i.bytes)) = some (some (.int .i64 0), 1, 8) := by kernel_rfl
theorem Yba.info9 : (Yba.prog.info? 9).map (fun i => (i.zero, i.size, i.bytes)) = some (some (.string ⟨#[]⟩), 1, 16) := by kernel_rfl

/-- A row of n cells, the first k filled from L, the rest still z. -/
def fillTo (L : List Value) (z : Value) (k : Nat) : List Value := L.take k ++ List.replicate (L.length - k) z
theorem fillTo_zero (L : List Value) (z : Value) : fillTo L z 0 = List.replicate L.length z := by simp [fillTo]
theorem fillTo_all (L : List Value) (z : Value) {k : Nat} (h : k = L.length) : fillTo L z k = L := by subst h; simp [fillTo]
theorem fillTo_set (L : List Value) (z u : Value) (k : Nat) (h : k < L.length) (hu : L[k]? = some u) : (fillTo L z k).set k u = fillTo L z (k + 1) := by
  apply List.ext_getElem?
  intro i
  unfold fillTo
  rw [List.getElem?_set]
  by_cases hi : k = i
  · subst hi
    rw [if_pos rfl, if_pos (by simp; omega), List.getElem?_append_left (by simp; omega), List.getElem?_take, if_pos (by omega), hu]
  · rw [if_neg hi]
    by_cases hlt : i < k
    · rw [List.getElem?_append_left (by simp; omega), List.getElem?_append_left (by simp; omega), List.getElem?_take, List.getElem?_take, if_pos hlt, if_pos (by omega)]
    · rw [List.getElem?_append_right (by simp; omega), List.getElem?_append_right (by simp; omega), List.getElem?_replicate, List.getElem?_replicate]
      simp
      congr 1
      simp
      omega
theorem fillTo_length (L : List Value) (z : Value) {k : Nat} (h : k ≤ L.length) : (fillTo L z k).length = L.length := by simp [fillTo]; omega

theorem ownsRow_base {w : World} {b b' : Nat} {e : TypeId} {size : Nat} {v : Value} {n : Nat} {xs : List Value} (h : w.ownsRow b e size v n xs) (hb : b' ≤ b) : w.ownsRow b' e size v n xs := by
  refine ⟨h.1, ?_⟩
  rcases h.2 with h' | ⟨g, cap, cur, h1, h2, h3⟩
  · exact .inl h'
  · exact .inr ⟨g, cap, cur, h1, by omega, h3⟩

def i64s (l : List Nat) : List Value := l.map fun n : Nat => Value.int .i64 (n : Int)
def idxL (n s t : Nat) : List Nat := (List.range (n * 3 % 25)).map fun j => (s + j * t) % 16
def strs' (l : List Nat) : List Value := l.map fun i => Value.string (roleB i)
theorem idxL_lt (n s t : Nat) : ∀ i ∈ idxL n s t, i < 16 := by
  intro i hi
  obtain ⟨j, _, rfl⟩ := List.mem_map.1 hi
  omega
theorem idxL_len (n s t : Nat) : (idxL n s t).length = n * 3 % 25 := by simp [idxL]

def IdxRel (n s t : Nat) (w : World) (j : Value) (wr : World) : Prop :=
  ∃ k : Nat, j = .int .i64 k ∧ k ≤ n * 3 % 25 ∧ wr.ownsRow (w.heap.size + 1) 3 1 (.slice (some ⟨w.heap.size + 1, 0, none⟩) (n * 3 % 25) (n * 3 % 25)) (n * 3 % 25) (fillTo (i64s (idxL n s t)) (.int .i64 0) k) ∧
    Below (w.heap.size + 1) (w.alloc (.cells #[.int .u8 (n : Int), .int .u8 (s : Int), .int .u8 (t : Int)] 30)) wr

theorem idx_step {n s t k : Nat} {w wr : World} (hk : k < n * 3 % 25)
    (hown : wr.ownsRow (w.heap.size + 1) 3 1 (.slice (some ⟨w.heap.size + 1, 0, none⟩) (n * 3 % 25) (n * 3 % 25)) (n * 3 % 25) (fillTo (i64s (idxL n s t)) (.int .i64 0) k))
    (hnx : Below (w.heap.size + 1) (w.alloc (.cells #[.int .u8 (n : Int), .int .u8 (s : Int), .int .u8 (t : Int)] 30)) wr) :
    IdxRel n s t w (.int .i64 ((k : Int) + 1)) (wr.setCell ⟨w.heap.size + 1, k, none⟩ (.int .i64 (((s : Int) + (k : Int) * (t : Int)) % 16))) := by
  have hst := hown.stored k (.int .i64 (((s : Int) + (k : Int) * (t : Int)) % 16))
  refine ⟨k + 1, by go_num, hk, ?_, hnx.setCell (Nat.le_refl _) _⟩
  rw [← fillTo_set _ _ (.int .i64 (((s : Int) + (k : Int) * (t : Int)) % 16)) k (by simp [i64s, idxL]; omega) (by simp [i64s, idxL, hk])]
  exact hst.1

set_option maxHeartbeats 400000 in
set_option maxRecDepth 100000 in
theorem cidx (n s t : Nat) (hn : n < 256) (hs : s < 256) (ht : t < 256) (w : World) :
    Calls Yba.prog 5 #[.agg #[.int .u8 (n : Int), .int .u8 (s : Int), .int .u8 (t : Int)]] w fun e w' =>
      e = .returned (.slice (some ⟨w.heap.size + 1, 0, none⟩) (n * 3 % 25) (n * 3 % 25)) ∧
      w'.ownsRow w.heap.size 3 1 (.slice (some ⟨w.heap.size + 1, 0, none⟩) (n * 3 % 25) (n * 3 % 25)) (n * 3 % 25) (i64s (idxL n s t)) ∧ Below w.heap.size w w' := by
  obtain ⟨i0, hi, hz0, hz1, hz2⟩ := info_parts Yba.info3
  go_enter Yba.func5, Yba.ntmps5
  go_wp2_with (at_make; refine wpList_make_full _ rfl _ _ 31 rfl (w.heap.size + 1) 3 i0 (.int .i64 0) 1 Yba.underlying31 hi hz0 hz1 _ _ _ _ (n * 3 % 25) rfl rfl (by omega) (by omega) (by rw [hz2]; omega) (by unfold maxLen; omega) (by simp) ?_; intro w1 hown hgrow)
  have R0 : IdxRel n s t w (.int .i64 0) w1 := by
    refine ⟨0, rfl, Nat.zero_le _, ?_, (Below.refl _ _).grown hgrow (by simp) (fun k hk => by cases hk)⟩
    rw [World.size_alloc, Nat.mul_one] at hown
    rw [show (madeCells (Value.int .i64 0).cells (n * 3 % 25)).toList = List.replicate (n * 3 % 25) (.int .i64 0) from toList_madeCells_one _ _] at hown
    rw [fillTo_zero, show (i64s (idxL n s t)).length = n * 3 % 25 from by simp [i64s, idxL]]
    exact hown
  clear hown hgrow
  go_loopw [5] (fun j wr => IdxRel n s t w j wr) (fun j _ => n * 3 % 25 - (intOf j).toNat)
  case atStart => exact R0
  case round =>
    clear R0
    obtain ⟨k, rfl, hk, hown, hnx⟩ := hrel
    by_cases hlt : k < n * 3 % 25
    · have hkt0 : 0 ≤ (k : Int) * (t : Int) := Int.mul_nonneg (by omega) (by omega)
      have hkt1 : (k : Int) * (t : Int) ≤ 25 * 256 := Int.mul_le_mul (by omega) (by omega) (by omega) (by omega)
      have hltI : (k : Int) < (n : Int) * 3 % 25 := by omega
      have c1 : wr.cell? ⟨w.heap.size, 1, none⟩ = some (.int .u8 (s : Int)) := (hnx.cell (by simp)).trans (by simp)
      have c2 : wr.cell? ⟨w.heap.size, 2, none⟩ = some (.int .u8 (t : Int)) := (hnx.cell (by simp)).trans (by simp)
      obtain ⟨u, cu⟩ : ∃ u, wr.cell? ⟨w.heap.size + 1, k, none⟩ = some u := by
        rw [hown.cellAt k (by omega)]
        exact ⟨_, List.getElem?_eq_getElem (by rw [fillTo_length _ _ (by simp [i64s, idxL]; omega)]; simp [i64s, idxL]; omega)⟩
      have fu := hown.frozenAt k
      go_wp2
      go_roundw
      case rel => exact idx_step hlt hown hnx
      case measure => simp [intOf]; omega
    · have hltI : ¬ (k : Int) < (n : Int) * 3 % 25 := by omega
      go_wp2
      go_ret
      have hkn : k = (i64s (idxL n s t)).length := by simp [i64s, idxL]; omega
      rw [fillTo_all _ _ hkn] at hown
      exact ⟨rfl, ownsRow_base hown (by omega), (((Below.refl _ _).alloc (Nat.le_refl _) _).trans (hnx.mono (by omega)))⟩

def NamRel (L : List Nat) (w : World) (j : Value) (wr : World) : Prop :=
  ∃ k : Nat, j = .int .i64 k ∧ k ≤ L.length ∧ wr.ownsRow w.heap.size 9 1 (.slice (some ⟨w.heap.size, 0, none⟩) L.length L.length) L.length (fillTo (strs' L) (.string ⟨#[]⟩) k) ∧
    Below w.heap.size w wr

theorem nam_step {L : List Nat} {k i : Nat} {w wr : World} (hk : k < L.length) (hi : L[k]? = some i)
    (hown : wr.ownsRow w.heap.size 9 1 (.slice (some ⟨w.heap.size, 0, none⟩) L.length L.length) L.length (fillTo (strs' L) (.string ⟨#[]⟩) k))
    (hnx : Below w.heap.size w wr) :
    NamRel L w (.int .i64 ((k : Int) + 1)) (wr.setCell ⟨w.heap.size, k, none⟩ (.string (roleB i))) := by
  have hst := hown.stored k (.string (roleB i))
  refine ⟨k + 1, by go_num, hk, ?_, hnx.setCell (Nat.le_refl _) _⟩
  rw [← fillTo_set _ _ (.string (roleB i)) k (by simpa [strs'] using hk) (by simp [strs', hi])]
  exact hst.1

set_option maxHeartbeats 400000 in
set_option maxRecDepth 100000 in
theorem cnames (L : List Nat) (hL : L.length ≤ 24) (h16 : ∀ i ∈ L, i < 16) (g cap base : Nat) (w : World) (hr : w.ownsRow base 3 1 (.slice (some ⟨g, 0, none⟩) L.length cap) L.length (i64s L)) (hg : g < w.heap.size) :
    Calls Yba.prog 6 #[.slice (some ⟨g, 0, none⟩) L.length cap] w fun e w' =>
      e = .returned (.slice (some ⟨w.heap.size, 0, none⟩) L.length L.length) ∧
      w'.ownsRow w.heap.size 9 1 (.slice (some ⟨w.heap.size, 0, none⟩) L.length L.length) L.length (strs' L) ∧ Below w.heap.size w w' := by
  obtain ⟨i0, hi, hz0, hz1, hz2⟩ := info_parts Yba.info9
  go_enter Yba.func6, Yba.ntmps6
  go_wp2_with (at_make; refine wpList_make_full _ rfl _ _ 25 rfl w.heap.size 9 i0 (.string ⟨#[]⟩) 1 Yba.underlying25 hi hz0 hz1 _ _ _ _ L.length rfl rfl rfl rfl (by rw [hz2]; omega) (by unfold maxLen; omega) (Nat.le_refl _) ?_; intro w1 hown hgrow)
  have R0 : NamRel L w (.int .i64 0) w1 := by
    refine ⟨0, rfl, Nat.zero_le _, ?_, (Below.refl _ _).grown hgrow (Nat.le_refl _) (fun k hk => by cases hk)⟩
    rw [Nat.mul_one] at hown
    rw [show (madeCells (Value.string ⟨#[]⟩).cells L.length).toList = List.replicate L.length (.string ⟨#[]⟩) from toList_madeCells_one _ _] at hown
    rw [fillTo_zero, show (strs' L).length = L.length from by simp [strs']]
    exact hown
  clear hown hgrow
  go_loopw [11] (fun j wr => NamRel L w j wr) (fun j _ => L.length - (intOf j).toNat)
  case atStart => exact R0
  case round =>
    clear R0
    obtain ⟨k, rfl, hk, hown, hnx⟩ := hrel
    by_cases hlt : k < L.length
    · obtain ⟨i, hiL⟩ : ∃ i, L[k]? = some i := ⟨_, List.getElem?_eq_getElem hlt⟩
      have hi16 : i < 16 := h16 i (List.mem_of_getElem? hiL)
      have c1 : wr.cell? ⟨g, k, none⟩ = some (.int .i64 (i : Int)) := by
        refine (hnx.cell (by exact hg)).trans ?_
        rw [hr.cellAt k (by omega)]
        simp [i64s, hiL]
      obtain ⟨u, cu⟩ : ∃ u, wr.cell? ⟨w.heap.size, k, none⟩ = some u := by
        rw [hown.cellAt k (by omega)]
        exact ⟨_, List.getElem?_eq_getElem (by rw [fillTo_length _ _ (by simp [strs']; omega)]; simp [strs']; omega)⟩
      have fu := hown.frozenAt k
      have HI := Hid.mk hiL
      clear hiL
      go_wp2_with (go_at_call 4; refine (crole i hi16 _).mono ?_; rintro e w2 ⟨rfl, rfl⟩)
      go_roundw
      case rel => exact nam_step hlt HI.out hown hnx
      case measure => simp [intOf]; omega
    · go_wp2
      go_ret
      have hkn : k = (strs' L).length := by simp [strs']; omega
      rw [fillTo_all _ _ hkn] at hown
      exact ⟨rfl, hown, hnx⟩

end Go.Proofs.Ybulkbndy
