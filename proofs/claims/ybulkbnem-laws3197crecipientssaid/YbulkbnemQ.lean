/-
  'zzs3197cmodel', 'sendToAllBut'.
-/
import Derived.Test.YbulkbnemP
namespace Go.Proofs.Ybulkbnem
open Go.RowKit

theorem Yba.info3' : (Yba.prog.info? 3).map (fun i => (i.zero, i.size, i.bytes)) = some (some (.int .i64 0), 1, 8) := by kernel_rfl

/-- Those of 0 .. k-1 that zs does not list. -/
def keep (zs : List Int) (k : Nat) : List Int := ((List.range k).map fun i : Nat => (i : Int)).filter fun i => !hasB zs i
def intsV (l : List Int) : List Value := l.map (Value.int .i64)
theorem keep_yes {zs : List Int} {k : Nat} (h : hasB zs k = false) : keep zs (k + 1) = keep zs k ++ [(k : Int)] := by simp [keep, List.range_succ, h]
theorem keep_no {zs : List Int} {k : Nat} (h : hasB zs k = true) : keep zs (k + 1) = keep zs k := by simp [keep, List.range_succ, h]
theorem keep_le (zs : List Int) (k : Nat) : (keep zs k).length ≤ k := by
  have := List.length_filter_le (fun i => !hasB zs i) ((List.range k).map fun i : Nat => (i : Int))
  simpa [keep] using this

def KRel (zs : List Int) (N base : Nat) (w : World) (v i : Value) (wr : World) : Prop :=
  ∃ k : Nat, i = .int .i64 k ∧ k ≤ N ∧ wr.ownsRow base 3 1 v (keep zs k).length (intsV (keep zs k)) ∧ Below base w wr ∧ base ≤ wr.heap.size

theorem krel_yes {zs : List Int} {N base k : Nat} {w wr w1 : World} {v v' : Value} {o : Obj} (hlt : k < N) (hno : hasB zs k = false) (hown : wr.ownsRow base 3 1 v (keep zs k).length (intsV (keep zs k))) (hnx : Below base w wr) (hz : base ≤ wr.heap.size)
    (hown' : w1.ownsRow base 3 1 v' ((keep zs k).length + 1) (intsV (keep zs k) ++ [.int .i64 (k : Int)])) (hg : (wr.alloc o).grownBy w1 v.ownBlock) : KRel zs N base w v' (.int .i64 ((k : Int) + 1)) w1 := by
  have hs := hg.size
  simp only [World.size_alloc] at hs
  refine ⟨k + 1, by go_num, hlt, ?_, (hnx.alloc hz o).grown hg (by simp; omega) (fun j hj => (hown.lt j hj).1), by omega⟩
  rw [keep_yes hno]
  simpa [intsV] using hown'

set_option maxHeartbeats 400000 in
set_option maxRecDepth 100000 in
theorem model (N : Nat) (hN : N ≤ 1024) (a : Option Addr) (cap : Nat) (zs : List Int) (w : World) (hm : zs.length ≤ maxLen) (h : Nums w a zs) :
    Calls Yba.prog 17 #[.int .i64 (N : Int), .slice a zs.length cap] w fun e w' => ∃ v, e = .returned v ∧ w'.ownsRow w.heap.size 3 1 v (keep zs N).length (intsV (keep zs N)) ∧ Below w.heap.size w w' := by
  obtain ⟨i0, hi, hz0, hz1, hz2⟩ := info_parts Yba.info3'
  go_enter Yba.func17, Yba.ntmps17
  go_wp2
  go_loopw [5, 6] (fun v i wr => KRel zs N w.heap.size w v i wr) (fun _ i _ => N - (intOf i).toNat)
  case atStart => exact ⟨0, rfl, Nat.zero_le _, World.ownsRow_nil _ _ _ _, Below.refl _ _, Nat.le_refl _⟩
  case round =>
    obtain ⟨k, rfl, hk, hown, hnx, hz⟩ := hrel
    have hw := h.below hnx
    have hl := keep_le zs k
    by_cases hlt : k < N
    · cases hb : hasB zs k
      · go_wp2_with (first | (go_at_call 28; refine (member a cap zs k _ hm hw).mono ?_; rintro e w2 ⟨rfl, hw2⟩; have hw3 := hw2.symm; subst hw3) | (at_builtin; refine wpList_append_own _ rfl _ _ 35 rfl w.heap.size 3 i0 (.int .i64 0) 1 8 Yba.underlying35 hi hz0 hz1 hz2 rfl (by decide) _ _ _ rfl (hown.alloc _) ⟨wr.heap.size, 0, none⟩ 1 1 [.int .i64 (k : Int)] rfl rfl (cell_one_new _ _ _) ?c2 ?c3 ?c4 ?c5 ?_))
        case c2 => intro u hu; simp at hu; subst hu; rfl
        case c3 => unfold maxLen; omega
        case c4 => omega
        case c5 => simp; omega
        intro v' w1 hown' hgrow _
        go_wp2
        go_roundw
        case rel => exact krel_yes hlt hb hown hnx hz hown' hgrow
        case measure => simp [intOf]; omega
      · go_wp2_with (go_at_call 28; refine (member a cap zs k _ hm hw).mono ?_; rintro e w2 ⟨rfl, hw2⟩; have hw3 := hw2.symm; subst hw3)
        go_roundw
        case rel => exact ⟨k + 1, by go_num, hlt, by rw [keep_no hb]; exact hown, hnx, hz⟩
        case measure => simp [intOf]; omega
    · obtain rfl : k = N := by omega
      go_wp2
      go_ret
      exact ⟨_, rfl, hown, hnx⟩

theorem row_base {w : World} {b b' : Nat} {e : TypeId} {size : Nat} {v : Value} {n : Nat} {xs : List Value} (h : w.ownsRow b e size v n xs) (hb : b' ≤ b) : w.ownsRow b' e size v n xs := by
  refine ⟨h.1, ?_⟩
  rcases h.2 with h' | ⟨g, cap, cur, h1, h2, h3⟩
  · exact .inl h'
  · exact .inr ⟨g, cap, cur, h1, by omega, h3⟩

theorem row_form {w : World} {base : Nat} {e : TypeId} {v : Value} {n : Nat} {xs : List Value} (h : w.ownsRow base e 1 v n xs) : ∃ va vc, v = .slice va n vc := by
  rcases h.2 with ⟨rfl, rfl⟩ | ⟨g, cap, cur, rfl, r⟩
  · exact ⟨none, 0, rfl⟩
  · exact ⟨_, cap, rfl⟩

set_option maxHeartbeats 400000 in
set_option maxRecDepth 100000 in
theorem sendTo (N : Nat) (hN : N ≤ 1024) (val : Int) (sg : Option Addr) (sl sc : Nat) (fo : Bool) (a : Option Addr) (cap : Nat) (zs : List Int) (w : World) (hm : zs.length ≤ maxLen) (h : Nums w a zs) :
    Calls Yba.prog 15 #[.int .i64 (N : Int), .agg #[.int .i64 val, .slice sg sl sc, .bool fo], .slice a zs.length cap] w fun e w' => ∃ v, e = .returned (.agg #[v, .int .i64 val, .slice sg sl sc, .bool fo]) ∧ w'.ownsRow w.heap.size 3 1 v (keep zs N).length (intsV (keep zs N)) ∧ Below w.heap.size w w' := by
  obtain ⟨i0, hi, hz0, hz1, hz2⟩ := info_parts Yba.info3'
  go_enter Yba.func15, Yba.ntmps15
  go_wp2_with (at_make; refine wpList_make_own _ rfl _ _ 35 rfl (w.heap.size + 2) 3 i0 (.int .i64 0) 1 Yba.underlying35 hi hz0 hz1 _ _ _ N rfl rfl rfl (by rw [hz2]; omega) (by unfold maxLen; omega) (by simp) ?_; intro w1 hown hgrow)
  have hb1 : Below (w.heap.size + 2) ((w.alloc (.cells #[.int .i64 val, .slice sg sl sc, .bool fo] 101)).alloc (.cells #[.slice none 0 0, .int .i64 0, .slice none 0 0, .bool false] 103)) w1 := (Below.refl _ _).grown hgrow (by simp) (fun k hk => by cases hk)
  have hz1' : w.heap.size + 2 ≤ w1.heap.size := by have := hgrow.size; simp at this; omega
  clear hgrow
  go_loopw [7, 12] (fun v i wr => KRel zs N (w.heap.size + 2) ((w.alloc (.cells #[.int .i64 val, .slice sg sl sc, .bool fo] 101)).alloc (.cells #[.slice none 0 0, .int .i64 0, .slice none 0 0, .bool false] 103)) v i wr) (fun _ i _ => N - (intOf i).toNat)
  case atStart => exact ⟨0, rfl, Nat.zero_le _, by simpa [keep, intsV] using hown, hb1, hz1'⟩
  case round =>
    clear hown hb1 hz1'
    obtain ⟨k, rfl, hk, hown, hnx, hz⟩ := hrel
    have hbw : Below w.heap.size w wr := (((Below.refl _ _).alloc (Nat.le_refl _) _).alloc (by simp) _).trans (hnx.mono (by omega))
    have hw := h.below hbw
    have hl := keep_le zs k
    by_cases hlt : k < N
    · cases hb : hasB zs k
      · go_wp2_with (first | (go_at_call 27; refine (contains a cap zs k _ hm hw).mono ?_; rintro e w2 ⟨rfl, hw2⟩; have hw3 := hw2.symm; subst hw3) | (at_builtin; refine wpList_append_own _ rfl _ _ 35 rfl (w.heap.size + 2) 3 i0 (.int .i64 0) 1 8 Yba.underlying35 hi hz0 hz1 hz2 rfl (by decide) _ _ _ rfl (hown.alloc _) ⟨wr.heap.size, 0, none⟩ 1 1 [.int .i64 (k : Int)] rfl rfl (cell_one_new _ _ _) ?c2 ?c3 ?c4 ?c5 ?_))
        case c2 => intro u hu; simp at hu; subst hu; rfl
        case c3 => unfold maxLen; omega
        case c4 => omega
        case c5 => simp; omega
        intro v' w1 hown' hgrow _
        go_wp2
        go_roundw
        case rel => exact krel_yes hlt hb hown hnx hz hown' hgrow
        case measure => simp [intOf]; omega
      · go_wp2_with (go_at_call 27; refine (contains a cap zs k _ hm hw).mono ?_; rintro e w2 ⟨rfl, hw2⟩; have hw3 := hw2.symm; subst hw3)
        go_roundw
        case rel => exact ⟨k + 1, by go_num, hlt, by rw [keep_no hb]; exact hown, hnx, hz⟩
        case measure => simp [intOf]; omega
    · obtain rfl : k = N := by omega
      obtain ⟨va, vc, rfl⟩ := row_form hown
      have d0 : wr.cell? ⟨w.heap.size, 0, none⟩ = some (.int .i64 val) := (hnx.cell (by show w.heap.size < _; omega)).trans (by simp)
      have d1 : wr.cell? ⟨w.heap.size, 1, none⟩ = some (.slice sg sl sc) := (hnx.cell (by show w.heap.size < _; omega)).trans (by simp)
      have d2 : wr.cell? ⟨w.heap.size, 2, none⟩ = some (.bool fo) := (hnx.cell (by show w.heap.size < _; omega)).trans (by simp)
      have g0 : wr.cell? ⟨w.heap.size + 1, 0, none⟩ = some (.slice none 0 0) := (hnx.cell (by show w.heap.size + 1 < _; omega)).trans (by simp)
      have g1 : wr.cell? ⟨w.heap.size + 1, 1, none⟩ = some (.int .i64 0) := (hnx.cell (by show w.heap.size + 1 < _; omega)).trans (by simp)
      have g2 : wr.cell? ⟨w.heap.size + 1, 2, none⟩ = some (.slice none 0 0) := (hnx.cell (by show w.heap.size + 1 < _; omega)).trans (by simp)
      have g3 : wr.cell? ⟨w.heap.size + 1, 3, none⟩ = some (.bool false) := (hnx.cell (by show w.heap.size + 1 < _; omega)).trans (by simp)
      have f0 : wr.frozen? ⟨w.heap.size + 1, 0, none⟩ = false := (hnx.frozen (by show w.heap.size + 1 < _; omega)).trans (by simp)
      have f1 : wr.frozen? ⟨w.heap.size + 1, 1, none⟩ = false := (hnx.frozen (by show w.heap.size + 1 < _; omega)).trans (by simp)
      have f2 : wr.frozen? ⟨w.heap.size + 1, 2, none⟩ = false := (hnx.frozen (by show w.heap.size + 1 < _; omega)).trans (by simp)
      have f3 : wr.frozen? ⟨w.heap.size + 1, 3, none⟩ = false := (hnx.frozen (by show w.heap.size + 1 < _; omega)).trans (by simp)
      go_wp2
      have hb4 : Below w.heap.size w ((((wr.setCell ⟨w.heap.size + 1, 0, none⟩ (.slice va (keep zs k).length vc)).setCell ⟨w.heap.size + 1, 1, none⟩ (.int .i64 val)).setCell ⟨w.heap.size + 1, 2, none⟩ (.slice sg sl sc)).setCell ⟨w.heap.size + 1, 3, none⟩ (.bool fo)) :=
        Below.setCell (p := ⟨w.heap.size + 1, 3, none⟩) (Below.setCell (p := ⟨w.heap.size + 1, 2, none⟩) (Below.setCell (p := ⟨w.heap.size + 1, 1, none⟩) (Below.setCell (p := ⟨w.heap.size + 1, 0, none⟩) hbw (Nat.le_succ _) _) (Nat.le_succ _) _) (Nat.le_succ _) _) (Nat.le_succ _) _
      have ho4 := ownsRow_setCell_below (a := ⟨w.heap.size + 1, 3, none⟩) (ownsRow_setCell_below (a := ⟨w.heap.size + 1, 2, none⟩) (ownsRow_setCell_below (a := ⟨w.heap.size + 1, 1, none⟩) (ownsRow_setCell_below (a := ⟨w.heap.size + 1, 0, none⟩) hown (by simp) (.slice va (keep zs k).length vc)) (by simp) (.int .i64 val)) (by simp) (.slice sg sl sc)) (by simp) (.bool fo)
      exact bodyPost_ret (v := .agg #[.slice va (keep zs k).length vc, .int .i64 val, .slice sg sl sc, .bool fo]) (by simp [results, Yba.results15, go_sem, g0, g1, g2, g3]) rfl ⟨_, rfl, row_base ho4 (by omega), hb4⟩
end Go.Proofs.Ybulkbnem
