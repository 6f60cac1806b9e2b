/-
  'pbftTimer.start', 'pbftClient.next'.
-/
import Derived.Test.YbulkbnemRows
import Derived.WalkKit
import Derived.WalkSpells
import Derived.WalkLawsBesides
import Derived.BigQuiet
import Derived.Deep.RegionHeld3
namespace Go.Proofs.Ybulkbnem
open Go.RowKit

set_option maxHeartbeats 400000 in
theorem start (b o : Nat) (tok : Int) (u1 u2 : Value) (wait : Int) (w : World) (h0 : 0 ≤ tok) (h1 : tok ≤ 100000) (c0 : w.cell? ⟨b, o, none⟩ = some (.int .i64 tok)) (c1 : w.cell? ⟨b, o + 1, none⟩ = some u1) (c2 : w.cell? ⟨b, o + 2, none⟩ = some u2)
    (f0 : w.frozen? ⟨b, o, none⟩ = false) (f1 : w.frozen? ⟨b, o + 1, none⟩ = false) (f2 : w.frozen? ⟨b, o + 2, none⟩ = false) :
    Calls Yba.prog 19 #[.pointer (some ⟨b, o, none⟩), .int .i64 wait] w fun e w' => e = .returned (.tuple #[]) ∧ w' = ((w.setCell ⟨b, o, none⟩ (.int .i64 (tok + 1))).setCell ⟨b, o + 1, none⟩ (.bool true)).setCell ⟨b, o + 2, none⟩ (.int .i64 wait) := by
  go_enter Yba.func19, Yba.ntmps19
  go_wp2
  go_end0
  exact ⟨rfl, rfl⟩

def client (n f R s : Int) (res : Value) : Array Value := #[.int .i64 n, .int .i64 f, .int .i64 R, .int .i64 s, .int .i64 0, .slice none 0 0, .int .i64 0, res]

theorem cell_at {w : World} {b : Nat} {cs : Array Value} {e : TypeId} {fz : Nat × Nat} (h : w.heap[b]? = some (.cells cs e fz)) (i : Nat) : w.cell? ⟨b, i, none⟩ = cs[i]? := by simp [World.cell?, h]
theorem free_at {w : World} {b : Nat} {cs : Array Value} {e : TypeId} (h : w.heap[b]? = some (.cells cs e (0, 0))) (i : Nat) : w.frozen? ⟨b, i, none⟩ = false := by simp [World.frozen?, h]

set_option maxHeartbeats 400000 in
set_option maxRecDepth 100000 in
theorem next_done (C : Nat) (n f R : Int) (res : Value) (w : World) (hC : w.heap[C]? = some (.cells (client n f R R res) 32 (0, 0))) :
    Calls Yba.prog 9 #[.pointer (some ⟨C, 0, none⟩)] w fun e w' => e = .returned (.slice none 0 0) ∧ ∃ k, w' = w.drewN k := by
  have c2 : w.cell? ⟨C, 2, none⟩ = some (.int .i64 R) := cell_at hC 2
  have c3 : w.cell? ⟨C, 3, none⟩ = some (.int .i64 R) := cell_at hC 3
  clear hC
  go_enter Yba.func9, Yba.ntmps9
  go_wp2
  go_quiet (fail)
  go_wp2
  go_ret
  exact ⟨rfl, _, rfl⟩

/-- WHAT 'next' HANDS BACK: one send, of request k, to replica 0. -/
def Sent (w : World) (o t : Nat) (k : Int) : Prop :=
  w.heap[o]? = some (.cells #[.slice (some ⟨t, 0, none⟩) 1 1, .int .u8 0, .int .i64 (-1), .int .i64 0, .int .i64 0, .int .i64 0, .int .i64 k, .bool false, .pointer none] 45 (0, 0)) ∧ w.heap[t]? = some (.cells #[.int .i64 0] 3 (0, 0))

theorem sent_of (W : World) (m : Obj) (k : Int) : Sent (((W.alloc m).alloc (.cells #[.int .i64 0] 3)).alloc (.cells #[.slice (some ⟨W.heap.size + 1, 0, none⟩) 1 1, .int .u8 0, .int .i64 (-1), .int .i64 0, .int .i64 0, .int .i64 0, .int .i64 k, .bool false, .pointer none] 45)).drew (W.heap.size + 1 + 1) (W.heap.size + 1) k := by
  have h1 := heap_alloc_new ((W.alloc m).alloc (.cells #[.int .i64 0] 3)) (.cells #[.slice (some ⟨W.heap.size + 1, 0, none⟩) 1 1, .int .u8 0, .int .i64 (-1), .int .i64 0, .int .i64 0, .int .i64 0, .int .i64 k, .bool false, .pointer none] 45)
  have h2 := heap_alloc_new (W.alloc m) (.cells #[.int .i64 0] 3)
  simp only [World.size_alloc] at h1 h2
  refine ⟨h1, ?_⟩
  show (((W.alloc m).alloc (.cells #[.int .i64 0] 3)).alloc _).heap[W.heap.size + 1]? = _
  rw [Below.heap_alloc _ _ _ (by simp)]
  exact h2

theorem old_of (W : World) (m o1 o2 : Obj) (j : Nat) (h : j < W.heap.size) : (((W.alloc m).alloc o1).alloc o2).drew.heap[j]? = W.heap[j]? := by
  show (((W.alloc m).alloc o1).alloc o2).heap[j]? = W.heap[j]?
  rw [Below.heap_alloc _ _ _ (by simp; omega), Below.heap_alloc _ _ _ (by simp; omega), Below.heap_alloc _ _ _ h]

theorem below_of {B : Nat} {w W : World} (h : Below B w W) (hB : B ≤ W.heap.size) (m o1 o2 : Obj) : Below B w (((W.alloc m).alloc o1).alloc o2).drew :=
  (((h.alloc hB m).alloc (by simp; omega) o1).alloc (by simp; omega) o2).drew

theorem below_two {w W : World} {C i j : Nat} {u v : Value} (h : Below C w W) : Below C w ((W.setCell ⟨C, i, none⟩ u).setCell ⟨C, j, none⟩ v) :=
  Below.setCell (p := ⟨C, j, none⟩) (Below.setCell (p := ⟨C, i, none⟩) h (Nat.le_refl _) u) (Nat.le_refl _) v

theorem setC {w : World} {C : Nat} {n f R s : Int} {res : Value} (hC : w.heap[C]? = some (.cells (client n f R s res) 32 (0, 0))) : ((w.setCell ⟨C, 3, none⟩ (.int .i64 (s + 1))).setCell ⟨C, 5, none⟩ (.slice none 0 0)).heap[C]? = some (.cells (client n f R (s + 1) res) 32 (0, 0)) := by
  have h1 := heap_setCell_same w C 3 _ 32 (.int .i64 (s + 1)) hC
  have h2 := heap_setCell_same _ C 5 _ 32 (.slice none 0 0) h1
  rw [h2]
  rfl

set_option maxHeartbeats 400000 in
set_option maxRecDepth 100000 in
theorem next_send (C : Nat) (n f R s : Int) (w : World) (hn : 1 ≤ n) (hn2 : n ≤ 16) (hs : 0 ≤ s) (hsR : s < R) (hR : R ≤ 512) (hC : w.heap[C]? = some (.cells (client n f R s (.pointer none)) 32 (0, 0))) :
    Calls Yba.prog 9 #[.pointer (some ⟨C, 0, none⟩)] w fun e w' => ∃ o t, e = .returned (.slice (some ⟨o, 0, none⟩) 1 1) ∧ Sent w' o t (s + 1) ∧ w'.heap[C]? = some (.cells (client n f R (s + 1) (.pointer none)) 32 (0, 0)) ∧ Below C w w' := by
  have c0 : w.cell? ⟨C, 0, none⟩ = some (.int .i64 n) := cell_at hC 0
  have c2 : w.cell? ⟨C, 2, none⟩ = some (.int .i64 R) := cell_at hC 2
  have c3 : w.cell? ⟨C, 3, none⟩ = some (.int .i64 s) := cell_at hC 3
  have c5 : w.cell? ⟨C, 5, none⟩ = some (.slice none 0 0) := cell_at hC 5
  have c6 : w.cell? ⟨C, 6, none⟩ = some (.int .i64 0) := cell_at hC 6
  have c7 : w.cell? ⟨C, 7, none⟩ = some (.pointer none) := cell_at hC 7
  have f3 := free_at hC 3
  have f5 := free_at hC 5
  have hne : (s == R) = false := by rw [beq_eq_false_iff_ne]; omega
  have hCl : C < w.heap.size := (Array.getElem?_eq_some_iff.1 hC).1
  have HC : Hid _ := hC
  clear hC
  go_enter Yba.func9, Yba.ntmps9
  go_wp2
  go_quiet (fail)
  go_wp2
  go_region
  go_wp2
  go_ret
  have hC := HC.out
  have hX := setC (w := w.drewN nq) hC
  have hz : (((w.drewN nq).setCell ⟨C, 3, none⟩ (.int .i64 (s + 1))).setCell ⟨C, 5, none⟩ (.slice none 0 0)).heap.size = w.heap.size := by simp
  have hs := sent_of (((w.drewN nq).setCell ⟨C, 3, none⟩ (.int .i64 (s + 1))).setCell ⟨C, 5, none⟩ (.slice none 0 0)) (.cells #[.int .u8 0, .int .i64 (-1), .int .i64 0, .int .i64 0, .int .i64 0, .int .i64 (s + 1), .bool false, .pointer none] 43) (s + 1)
  rw [hz] at hs
  have hb : Below C w (((w.drewN nq).setCell ⟨C, 3, none⟩ (.int .i64 (s + 1))).setCell ⟨C, 5, none⟩ (.slice none 0 0)) := below_two (below_drewN (Below.refl _ _) nq)
  exact ⟨_, _, rfl, hs, (old_of _ _ _ _ C (by rw [hz]; exact hCl)).trans hX, below_of hb (by rw [hz]; omega) _ _ _⟩

def resend (T rs resent tok : Int) (run : Bool) (st : Int) (reps : Value) : Array Value := #[.int .i64 T, .int .i64 rs, .int .i64 resent, .int .i64 tok, .bool run, .int .i64 st, .int .i64 0, reps]

theorem setS1 {W : World} {C : Nat} {T rs tok st : Int} {run : Bool} {reps : Value} {s : Int} (hS : W.heap[C + 1]? = some (.cells (resend T rs 0 tok run st reps) 37 (0, 0))) :
    (((W.setCell ⟨C, 3, none⟩ (.int .i64 (s + 1))).setCell ⟨C, 5, none⟩ (.slice none 0 0)).setCell ⟨C + 1, 2, none⟩ (.int .i64 0)).drew.heap[C + 1]? = some (.cells (resend T rs 0 tok run st reps) 37 (0, 0)) := by
  have h1 : ((W.setCell ⟨C, 3, none⟩ (.int .i64 (s + 1))).setCell ⟨C, 5, none⟩ (.slice none 0 0)).heap[C + 1]? = some (.cells (resend T rs 0 tok run st reps) 37 (0, 0)) := by
    rw [Below.heap_setCell _ _ _ _ (by simp), Below.heap_setCell _ _ _ _ (by simp)]
    exact hS
  have h2 := heap_setCell_same _ (C + 1) 2 _ 37 (.int .i64 0) h1
  exact h2

/-- The world behind 'next': X, the client written; then the timer's four cells; then three new blocks. -/
theorem resend_end {w X : World} {C : Nat} {n f R s T rs tok st : Int} {run : Bool} {reps : Value} {m : Obj} (hX : X.heap[C]? = some (.cells (client n f R (s + 1) (.pointer (some ⟨C + 1, 0, none⟩))) 32 (0, 0)))
    (hS : (X.setCell ⟨C + 1, 2, none⟩ (.int .i64 0)).drew.heap[C + 1]? = some (.cells (resend T rs 0 tok run st reps) 37 (0, 0))) (hb : Below C w X) (hz : X.heap.size = w.heap.size) :
    ∃ o t, Ending.returned (Value.slice (some ⟨w.heap.size + 1 + 1, 0, none⟩) 1 1) = .returned (.slice (some ⟨o, 0, none⟩) 1 1) ∧
      Sent ((((((((X.setCell ⟨C + 1, 2, none⟩ (.int .i64 0)).setCell ⟨C + 1, 3, none⟩ (.int .i64 (tok + 1))).setCell ⟨C + 1, 4, none⟩ (.bool true)).setCell ⟨C + 1, 5, none⟩ (.int .i64 T)).alloc m).alloc (.cells #[.int .i64 0] 3)).alloc (.cells #[.slice (some ⟨w.heap.size + 1, 0, none⟩) 1 1, .int .u8 0, .int .i64 (-1), .int .i64 0, .int .i64 0, .int .i64 0, .int .i64 (s + 1), .bool false, .pointer none] 45)).drew.drew) o t (s + 1) ∧
      ((((((((X.setCell ⟨C + 1, 2, none⟩ (.int .i64 0)).setCell ⟨C + 1, 3, none⟩ (.int .i64 (tok + 1))).setCell ⟨C + 1, 4, none⟩ (.bool true)).setCell ⟨C + 1, 5, none⟩ (.int .i64 T)).alloc m).alloc (.cells #[.int .i64 0] 3)).alloc (.cells #[.slice (some ⟨w.heap.size + 1, 0, none⟩) 1 1, .int .u8 0, .int .i64 (-1), .int .i64 0, .int .i64 0, .int .i64 0, .int .i64 (s + 1), .bool false, .pointer none] 45)).drew.drew).heap[C]? = some (.cells (client n f R (s + 1) (.pointer (some ⟨C + 1, 0, none⟩))) 32 (0, 0)) ∧
      ((((((((X.setCell ⟨C + 1, 2, none⟩ (.int .i64 0)).setCell ⟨C + 1, 3, none⟩ (.int .i64 (tok + 1))).setCell ⟨C + 1, 4, none⟩ (.bool true)).setCell ⟨C + 1, 5, none⟩ (.int .i64 T)).alloc m).alloc (.cells #[.int .i64 0] 3)).alloc (.cells #[.slice (some ⟨w.heap.size + 1, 0, none⟩) 1 1, .int .u8 0, .int .i64 (-1), .int .i64 0, .int .i64 0, .int .i64 0, .int .i64 (s + 1), .bool false, .pointer none] 45)).drew.drew).heap[C + 1]? = some (.cells (resend T rs 0 (tok + 1) true T reps) 37 (0, 0)) ∧
      Below C w ((((((((X.setCell ⟨C + 1, 2, none⟩ (.int .i64 0)).setCell ⟨C + 1, 3, none⟩ (.int .i64 (tok + 1))).setCell ⟨C + 1, 4, none⟩ (.bool true)).setCell ⟨C + 1, 5, none⟩ (.int .i64 T)).alloc m).alloc (.cells #[.int .i64 0] 3)).alloc (.cells #[.slice (some ⟨w.heap.size + 1, 0, none⟩) 1 1, .int .u8 0, .int .i64 (-1), .int .i64 0, .int .i64 0, .int .i64 0, .int .i64 (s + 1), .bool false, .pointer none] 45)).drew.drew) := by
  have hS1 : (X.setCell ⟨C + 1, 2, none⟩ (.int .i64 0)).heap[C + 1]? = some (.cells (resend T rs 0 tok run st reps) 37 (0, 0)) := hS
  have h3 := heap_setCell_same _ (C + 1) 3 _ 37 (.int .i64 (tok + 1)) hS1
  have h4 := heap_setCell_same _ (C + 1) 4 _ 37 (.bool true) h3
  have h5 := heap_setCell_same _ (C + 1) 5 _ 37 (.int .i64 T) h4
  generalize hY : (((X.setCell ⟨C + 1, 2, none⟩ (.int .i64 0)).setCell ⟨C + 1, 3, none⟩ (.int .i64 (tok + 1))).setCell ⟨C + 1, 4, none⟩ (.bool true)).setCell ⟨C + 1, 5, none⟩ (.int .i64 T) = Y at h5
  have hYz : Y.heap.size = w.heap.size := by rw [← hY, ← hz]; simp
  have hYC : Y.heap[C]? = X.heap[C]? := by
    rw [← hY, Below.heap_setCell _ _ _ _ (by simp), Below.heap_setCell _ _ _ _ (by simp), Below.heap_setCell _ _ _ _ (by simp), Below.heap_setCell _ _ _ _ (by simp)]
  have hYb : Below C w Y := by
    rw [← hY]
    exact Below.setCell (p := ⟨C + 1, 5, none⟩) (Below.setCell (p := ⟨C + 1, 4, none⟩) (Below.setCell (p := ⟨C + 1, 3, none⟩) (Below.setCell (p := ⟨C + 1, 2, none⟩) hb (Nat.le_succ _) _) (Nat.le_succ _) _) (Nat.le_succ _) _) (Nat.le_succ _) _
  have hsl : C + 1 < Y.heap.size := (Array.getElem?_eq_some_iff.1 h5).1
  have hs := sent_of Y m (s + 1)
  rw [hYz] at hs
  refine ⟨_, _, rfl, hs, ?_, ?_, ?_⟩
  · exact (old_of Y m _ _ C (by omega)).trans (hYC.trans hX)
  · exact (old_of Y m _ _ (C + 1) hsl).trans h5
  · exact (below_of hYb (by omega) _ _ _).drew

set_option maxHeartbeats 400000 in
set_option maxRecDepth 100000 in
theorem next_resend (C : Nat) (n f R s T rs tok st : Int) (run : Bool) (reps : Value) (w : World) (hn : 1 ≤ n) (hn2 : n ≤ 16) (hs : 0 ≤ s) (hsR : s < R) (hR : R ≤ 512) (ht0 : 0 ≤ tok) (ht1 : tok ≤ 512) (hC : w.heap[C]? = some (.cells (client n f R s (.pointer (some ⟨C + 1, 0, none⟩))) 32 (0, 0)))
    (hS : w.heap[C + 1]? = some (.cells (resend T rs 0 tok run st reps) 37 (0, 0))) :
    Calls Yba.prog 9 #[.pointer (some ⟨C, 0, none⟩)] w fun e w' => ∃ o t, e = .returned (.slice (some ⟨o, 0, none⟩) 1 1) ∧ Sent w' o t (s + 1) ∧ w'.heap[C]? = some (.cells (client n f R (s + 1) (.pointer (some ⟨C + 1, 0, none⟩))) 32 (0, 0)) ∧
      w'.heap[C + 1]? = some (.cells (resend T rs 0 (tok + 1) true T reps) 37 (0, 0)) ∧ Below C w w' := by
  have c0 : w.cell? ⟨C, 0, none⟩ = some (.int .i64 n) := cell_at hC 0
  have c2 : w.cell? ⟨C, 2, none⟩ = some (.int .i64 R) := cell_at hC 2
  have c3 : w.cell? ⟨C, 3, none⟩ = some (.int .i64 s) := cell_at hC 3
  have c5 : w.cell? ⟨C, 5, none⟩ = some (.slice none 0 0) := cell_at hC 5
  have c6 : w.cell? ⟨C, 6, none⟩ = some (.int .i64 0) := cell_at hC 6
  have c7 : w.cell? ⟨C, 7, none⟩ = some (.pointer (some ⟨C + 1, 0, none⟩)) := cell_at hC 7
  have s0 : w.cell? ⟨C + 1, 0, none⟩ = some (.int .i64 T) := cell_at hS 0
  have s2 : w.cell? ⟨C + 1, 2, none⟩ = some (.int .i64 0) := cell_at hS 2
  have s3 : w.cell? ⟨C + 1, 3, none⟩ = some (.int .i64 tok) := cell_at hS 3
  have s4 : w.cell? ⟨C + 1, 4, none⟩ = some (.bool run) := cell_at hS 4
  have s5 : w.cell? ⟨C + 1, 5, none⟩ = some (.int .i64 st) := cell_at hS 5
  have f3 := free_at hC 3
  have f5 := free_at hC 5
  have g2 := free_at hS 2
  have g3 := free_at hS 3
  have g4 := free_at hS 4
  have g5 := free_at hS 5
  have hne : (s == R) = false := by rw [beq_eq_false_iff_ne]; omega
  have hCl : C < w.heap.size := (Array.getElem?_eq_some_iff.1 hC).1
  have hSl : C + 1 < w.heap.size := (Array.getElem?_eq_some_iff.1 hS).1
  have HC : Hid _ := hC
  have HS : Hid _ := hS
  clear hC hS
  go_enter Yba.func9, Yba.ntmps9
  go_wp2
  go_quiet (fail)
  go_wp2
  have hS2 := setS1 (s := s) (W := w.drewN nq) HS.out
  go_region_with (go_at_call 19; refine (start (C + 1) 3 tok (.bool run) (.int .i64 st) T _ ht0 (by omega) (cell_at hS2 3) (cell_at hS2 4) (cell_at hS2 5) (free_at hS2 3) (free_at hS2 4) (free_at hS2 5)).mono ?_; rintro e W1 ⟨rfl, rfl⟩)
  go_wp2
  go_region
  go_wp2
  go_ret
  have hX := setC (w := w.drewN nq) HC.out
  exact resend_end hX hS2 (below_two (below_drewN (Below.refl C w) nq)) (by simp)
end Go.Proofs.Ybulkbnem
