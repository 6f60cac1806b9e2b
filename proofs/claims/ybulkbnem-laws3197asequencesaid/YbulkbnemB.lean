/-
  'newPBFTClient'.
-/
import Derived.Test.YbulkbnemA
import Derived.Deep.AppendLies
import Derived.Deep.RegionLaw
namespace Go.Proofs.Ybulkbnem
open Go.RowKit

theorem Yba.info3 : (Yba.prog.info? 3).map (fun i => (i.zero, i.size, i.bytes)) = some (some (.int .i64 0), 1, 8) := by kernel_rfl

set_option maxHeartbeats 400000 in
theorem new0 (n f R T : Int) (w : World) (hT : ¬ 0 < T) :
    Calls Yba.prog 10 #[.int .i64 n, .int .i64 f, .int .i64 R, .int .i64 T] w fun e w' => e = .returned (.pointer (some ⟨w.heap.size, 0, none⟩)) ∧ w'.heap[w.heap.size]? = some (.cells (client n f R 0 (.pointer none)) 32 (0, 0)) ∧ Below w.heap.size w w' := by
  go_enter Yba.func10, Yba.ntmps10
  go_wp2
  go_ret
  exact ⟨rfl, heap_alloc_new w _, (Below.refl _ _).alloc (Nat.le_refl _) _⟩

theorem maxView (f : Int) (w : World) (h0 : 0 ≤ f) (h1 : f ≤ 100) : Calls Yba.prog 20 #[.int .i64 f] w fun e w' => e = .returned (.int .i64 (f + 1)) ∧ w' = w := by
  go_enter Yba.func20, Yba.ntmps20
  go_wp2
  go_ret
  exact ⟨rfl, rfl⟩

/-- The numbers 0 .. k-1. -/
def upTo (k : Nat) : List Value := (List.range k).map fun i : Nat => Value.int .i64 (i : Int)

def NRel (n f R T : Int) (N : Nat) (w : World) (i : Value) (wr : World) : Prop :=
  ∃ (k : Nat) (v : Value), i = .int .i64 k ∧ k ≤ N ∧ wr.heap[w.heap.size]? = some (.cells (client n f R 0 (.pointer (some ⟨w.heap.size + 1, 0, none⟩))) 32 (0, 0)) ∧
    wr.heap[w.heap.size + 1]? = some (.cells (resend T (f + 1 + 1) 0 0 false 0 v) 37 (0, 0)) ∧ wr.ownsRow (w.heap.size + 2) 3 1 v k (upTo k) ∧ Below w.heap.size w wr

theorem hide {p : Prop} (h : p) : Hid p := h

theorem nrel_start {N : Nat} {f R T : Int} {w : World} : NRel N f R T N w (.int .i64 0) ((w.alloc (.cells #[.int .i64 (N : Int), .int .i64 f, .int .i64 R, .int .i64 0, .int .i64 0, .slice none 0 0, .int .i64 0, .pointer (some ⟨w.heap.size + 1, 0, none⟩)] 32)).alloc
    (.cells #[.int .i64 T, .int .i64 (f + 1 + 1), .int .i64 0, .int .i64 0, .bool false, .int .i64 0, .int .i64 0, .slice none 0 0] 37)) := by
  have h1 := heap_alloc_new (w.alloc (.cells #[.int .i64 (N : Int), .int .i64 f, .int .i64 R, .int .i64 0, .int .i64 0, .slice none 0 0, .int .i64 0, .pointer (some ⟨w.heap.size + 1, 0, none⟩)] 32)) (.cells #[.int .i64 T, .int .i64 (f + 1 + 1), .int .i64 0, .int .i64 0, .bool false, .int .i64 0, .int .i64 0, .slice none 0 0] 37)
  simp only [World.size_alloc] at h1
  refine ⟨0, .slice none 0 0, rfl, Nat.zero_le _, ?_, h1, World.ownsRow_nil _ _ _ _, ((Below.refl _ _).alloc (Nat.le_refl _) _).alloc (by simp) _⟩
  rw [Below.heap_alloc _ _ _ (by simp)]
  exact heap_alloc_new w _

theorem nstep {W w1 : World} {C k : Nat} {cs ss : Array Value} {v : Value} {xs : List Value} (hC : Hid (W.heap[C]? = some (.cells cs 32 (0, 0)))) (hS : Hid (W.heap[C + 1]? = some (.cells ss 37 (0, 0)))) (hrow : W.ownsRow (C + 2) 3 1 v k xs) (hz : C + 2 ≤ W.heap.size) (hg : W.grownBy w1 v.ownBlock) :
    w1.heap[C]? = some (.cells cs 32 (0, 0)) ∧ w1.heap[C + 1]? = some (.cells ss 37 (0, 0)) := by
  have hne : ∀ j, j < C + 2 → some j ≠ v.ownBlock := fun j hj e => by have := (hrow.lt j e.symm).1; omega
  exact ⟨(hg.block _ (by omega) (hne _ (by omega))).trans hC, (hg.block _ (by omega) (hne _ (by omega))).trans hS⟩

theorem upTo_succ (k : Nat) : upTo (k + 1) = upTo k ++ [.int .i64 (k : Int)] := by simp [upTo, List.range_succ]

theorem nrel_next {N k g cap : Nat} {f R T : Int} {w wr w1 : World} {v : Value} {o : Obj} (hlt : k < N) (hC : w1.heap[w.heap.size]? = some (.cells (client N f R 0 (.pointer (some ⟨w.heap.size + 1, 0, none⟩))) 32 (0, 0)))
    (hS : w1.heap[w.heap.size + 1]? = some (.cells (resend T (f + 1 + 1) 0 0 false 0 v) 37 (0, 0))) (hown : w1.ownsRow (w.heap.size + 2) 3 1 (.slice (some ⟨g, 0, none⟩) (k + 1) cap) (k + 1) (upTo k ++ [.int .i64 (k : Int)]))
    (hg : ((wr.alloc o).drew).grownBy w1 v.ownBlock) (hrow : wr.ownsRow (w.heap.size + 2) 3 1 v k (upTo k)) (hnx : Below w.heap.size w wr) (hz : w.heap.size + 2 ≤ wr.heap.size) :
    NRel N f R T N w (.int .i64 ((k : Int) + 1)) (w1.setCell ⟨w.heap.size + 1, 7, none⟩ (.slice (some ⟨g, 0, none⟩) (k + 1) cap)) := by
  refine ⟨k + 1, .slice (some ⟨g, 0, none⟩) (k + 1) cap, by go_num, hlt, ?_, ?_, ?_, ?_⟩
  · rw [Below.heap_setCell _ _ _ _ (by simp)]
    exact hC
  · have := heap_setCell_same w1 (w.heap.size + 1) 7 _ 37 (.slice (some ⟨g, 0, none⟩) (k + 1) cap) hS
    rw [this]
    rfl
  · rw [upTo_succ]
    exact ownsRow_setCell_below hown (by simp) _
  · have hb : Below w.heap.size w (wr.alloc o).drew := (hnx.alloc hnx.size o).drew
    exact Below.setCell (p := ⟨w.heap.size + 1, 7, none⟩) (hb.grown hg (by show _ ≤ (wr.alloc o).heap.size; simp; omega) (fun j hj => by have := (hrow.lt j hj).1; omega)) (Nat.le_succ _) _

set_option maxHeartbeats 1000000 in
set_option maxRecDepth 100000 in
theorem newT (N : Nat) (hN : N ≤ 16) (f R T : Int) (w : World) (hf0 : 0 ≤ f) (hf1 : f ≤ 8) (hT : 0 < T) :
    Calls Yba.prog 10 #[.int .i64 (N : Int), .int .i64 f, .int .i64 R, .int .i64 T] w fun e w' => e = .returned (.pointer (some ⟨w.heap.size, 0, none⟩)) ∧
      ∃ v, w'.heap[w.heap.size]? = some (.cells (client N f R 0 (.pointer (some ⟨w.heap.size + 1, 0, none⟩))) 32 (0, 0)) ∧ w'.heap[w.heap.size + 1]? = some (.cells (resend T (f + 1 + 1) 0 0 false 0 v) 37 (0, 0)) ∧ Below w.heap.size w w' := by
  obtain ⟨i0, hi, hz0, hz1, hz2⟩ := info_parts Yba.info3
  go_enter Yba.func10, Yba.ntmps10
  go_wp2_with (go_at_call 20; refine (maxView f _ hf0 (by omega)).mono ?_; rintro e w2 ⟨rfl, hw2⟩; subst hw2)
  go_loopw [28] (fun i wr => NRel N f R T N w i wr) (fun i _ => N - (intOf i).toNat)
  case atStart => exact nrel_start
  case round =>
    obtain ⟨k, v, rfl, hk, hC, hS, hrow, hnx⟩ := hrel
    have c7 : wr.cell? ⟨w.heap.size, 7, none⟩ = some (.pointer (some ⟨w.heap.size + 1, 0, none⟩)) := cell_at hC 7
    by_cases hlt : k < N
    · have s7 : wr.cell? ⟨w.heap.size + 1, 7, none⟩ = some v := cell_at hS 7
      have lS : w.heap.size + 1 < wr.heap.size := (Array.getElem?_eq_some_iff.1 hS).1
      have hX : ((wr.alloc (.cells #[.int .i64 (k : Int)] 3)).drew).ownsRow (w.heap.size + 2) 3 1 v k (upTo k) := hrow.alloc _
      have hnews : ∀ j u, [Value.int .i64 (k : Int)][j]? = some u → ((wr.alloc (.cells #[.int .i64 (k : Int)] 3)).drew).cell? ((⟨wr.heap.size, 0, none⟩ : Addr).add j) = some u := cell_one_new wr _ _
      have cX : ((wr.alloc (.cells #[.int .i64 (k : Int)] 3)).drew).cell? ⟨w.heap.size, 7, none⟩ = some (.pointer (some ⟨w.heap.size + 1, 0, none⟩)) := (World.cell?_alloc_past _ _ _ (by show w.heap.size < _; omega)).trans c7
      have sX : ((wr.alloc (.cells #[.int .i64 (k : Int)] 3)).drew).heap[w.heap.size + 1]? = some (.cells (resend T (f + 1 + 1) 0 0 false 0 v) 37 (0, 0)) := (Below.heap_alloc _ _ _ lS).trans hS
      have hCX : ((wr.alloc (.cells #[.int .i64 (k : Int)] 3)).drew).heap[w.heap.size]? = some (.cells (client N f R 0 (.pointer (some ⟨w.heap.size + 1, 0, none⟩))) 32 (0, 0)) := (Below.heap_alloc _ _ _ (by omega)).trans hC
      have zX : w.heap.size + 2 ≤ ((wr.alloc (.cells #[.int .i64 (k : Int)] 3)).drew).heap.size := by show _ ≤ (wr.alloc _).heap.size; simp; omega
      have HC := hide hC
      have HS := hide hS
      have HCX := hide hCX
      have HSX := hide sX
      clear hC hS sX hCX
      go_wp2_with fail
      go_region_law (first | (refine step_append_lies _ rfl _ _ 35 rfl (w.heap.size + 2) 3 i0 (.int .i64 0) 1 8 Yba.underlying35 hi hz0 hz1 hz2 rfl (by decide) v k _ rfl hX ⟨wr.heap.size, 0, none⟩ 1 1 [.int .i64 (k : Int)] rfl rfl hnews (fun u hu => by simp at hu; subst hu; rfl) (by decide) (by unfold maxLen; omega) (by omega) zX _ rfl ?_; intro g cap w1 hown1 hgrow hat hltg; have st := nstep HCX HSX hX zX hgrow; have d7 : w1.cell? ⟨w.heap.size + 1, 7, none⟩ = some v := cell_at st.2 7; have g7 := free_at st.2 7; have cc : w1.cell? ⟨w.heap.size, 7, none⟩ = some (.pointer (some ⟨w.heap.size + 1, 0, none⟩)) := cell_at st.1 7))
      all_goals
        go_wp2
        go_roundw
        case rel => exact nrel_next hlt st.1 st.2 hown1 hgrow hrow hnx (by omega)
        case measure => simp [intOf]; omega
    · go_wp2
      go_ret
      exact ⟨rfl, v, hC, hS, hnx⟩
end Go.Proofs.Ybulkbnem
