/-
  'zzs3197cmember', 'slices.Index', 'slices.Contains', 'zzs3197ceq': functions that only read.
-/
import Derived.Test.YbulkbnemRows
import Derived.WalkKit
import Derived.WalkSpells
import Derived.WalkLawsBesides
import Derived.BigQuiet
namespace Go.Proofs.Ybulkbnem
open Go.RowKit

/-- A slice of ints that leads to the numbers zs. -/
def Nums (w : World) (a : Option Addr) (zs : List Int) : Prop :=
  ∀ i, i < zs.length → ∃ b off, a = some ⟨b, off, none⟩ ∧ b < w.heap.size ∧ w.cell? ⟨b, off + i, none⟩ = some (.int .i64 (zs.getD i 0))

theorem Nums.below {w w' : World} {a : Option Addr} {zs : List Int} (h : Nums w a zs) (hb : Below w.heap.size w w') : Nums w' a zs := fun i hi => by
  obtain ⟨b, off, h1, h2, h3⟩ := h i hi
  exact ⟨b, off, h1, Nat.lt_of_lt_of_le h2 hb.size, (hb.cell (by exact h2)).trans h3⟩

def hasB (zs : List Int) (v : Int) : Bool := zs.contains v
theorem hasB_yes {zs : List Int} {v : Int} {k : Nat} (hk : k < zs.length) (h : zs.getD k 0 = v) : hasB zs v = true := by
  unfold hasB
  rw [List.contains_iff_mem, ← h, List.getD, List.getElem?_eq_getElem hk]
  exact List.getElem_mem hk
theorem hasB_no {zs : List Int} {v : Int} (h : ∀ i, i < zs.length → zs.getD i 0 ≠ v) : hasB zs v = false := by
  unfold hasB
  cases hc : zs.contains v
  · rfl
  · rw [List.contains_iff_mem] at hc
    obtain ⟨i, hi, e⟩ := List.mem_iff_getElem.1 hc
    exact absurd (by rw [List.getD, List.getElem?_eq_getElem hi]; exact e) (h i hi)

def MRel (zs : List Int) (v : Int) (i : Value) : Prop := ∃ k : Nat, i = .int .i64 k ∧ k ≤ zs.length ∧ ∀ j, j < k → zs.getD j 0 ≠ v

set_option maxHeartbeats 400000 in
set_option maxRecDepth 100000 in
theorem member (a : Option Addr) (cap : Nat) (zs : List Int) (v : Int) (w : World) (hm : zs.length ≤ maxLen) (h : Nums w a zs) :
    Calls Yba.prog 28 #[.slice a zs.length cap, .int .i64 v] w fun e w' => e = .returned (.bool (hasB zs v)) ∧ w' = w := by
  unfold maxLen at hm
  go_enter Yba.func28, Yba.ntmps28
  go_wp2
  go_loop [5] (fun i => MRel zs v i) (fun i => zs.length - (intOf i).toNat)
  case atStart => exact ⟨0, rfl, Nat.zero_le _, fun j hj => by omega⟩
  case round =>
    obtain ⟨k, rfl, hk, hno⟩ := hrel
    by_cases hlt : k < zs.length
    · obtain ⟨b, off, hav, _, hc⟩ := h k hlt
      subst hav
      obtain ⟨z, hz⟩ : ∃ z, zs.getD k 0 = z := ⟨_, rfl⟩
      rw [hz] at hc
      have HZ : Hid _ := hz
      clear hz
      by_cases he : z = v
      · have he' : (z == v) = true := by simp [he]
        have HE : Hid _ := he
        clear he
        go_wp2
        go_ret
        exact ⟨by rw [hasB_yes hlt (HZ.out.trans HE.out)]; rfl, rfl⟩
      · have he' : (z == v) = false := by simp [he]
        have HE : Hid _ := he
        clear he
        go_wp2
        go_round
        case rel => exact ⟨k + 1, by go_num, hlt, fun j hj => by
          by_cases e : j = k
          · subst e; rw [HZ.out]; exact HE.out
          · exact hno j (by omega)⟩
        case measure => simp [intOf]; omega
    · go_wp2
      go_ret
      exact ⟨by rw [hasB_no (fun i hi => hno i (by omega))]; rfl, rfl⟩

set_option maxHeartbeats 400000 in
set_option maxRecDepth 100000 in
theorem index (a : Option Addr) (cap : Nat) (zs : List Int) (v : Int) (w : World) (hm : zs.length ≤ maxLen) (h : Nums w a zs) :
    Calls Yba.prog 41 #[.slice a zs.length cap, .int .i64 v] w fun e w' => ∃ r : Int, e = .returned (.int .i64 r) ∧ decide (0 ≤ r) = hasB zs v ∧ w' = w := by
  unfold maxLen at hm
  go_enter Yba.func41, Yba.ntmps41
  go_wp2
  go_loop [8] (fun i => MRel zs v i) (fun i => zs.length - (intOf i).toNat)
  case atStart => exact ⟨0, rfl, Nat.zero_le _, fun j hj => by omega⟩
  case round =>
    obtain ⟨k, rfl, hk, hno⟩ := hrel
    by_cases hlt : k < zs.length
    · obtain ⟨b, off, hav, _, hc⟩ := h k hlt
      subst hav
      obtain ⟨z, hz⟩ : ∃ z, zs.getD k 0 = z := ⟨_, rfl⟩
      rw [hz] at hc
      have HZ : Hid _ := hz
      clear hz
      by_cases he : z = v
      · have he' : (v == z) = true := by simp [he]
        have HE : Hid _ := he
        clear he
        go_wp2
        go_ret
        exact ⟨(k : Int), rfl, by rw [hasB_yes hlt (HZ.out.trans HE.out)]; simp, rfl⟩
      · have he' : (v == z) = false := by rw [beq_eq_false_iff_ne]; exact fun e => he e.symm
        have HE : Hid _ := he
        clear he
        go_wp2
        go_round
        case rel => exact ⟨k + 1, by go_num, hlt, fun j hj => by
          by_cases e : j = k
          · subst e; rw [HZ.out]; exact HE.out
          · exact hno j (by omega)⟩
        case measure => simp [intOf]; omega
    · go_wp2
      go_ret
      exact ⟨-1, rfl, by rw [hasB_no (fun i hi => hno i (by omega))]; rfl, rfl⟩

set_option maxHeartbeats 400000 in
theorem contains (a : Option Addr) (cap : Nat) (zs : List Int) (v : Int) (w : World) (hm : zs.length ≤ maxLen) (h : Nums w a zs) :
    Calls Yba.prog 27 #[.slice a zs.length cap, .int .i64 v] w fun e w' => e = .returned (.bool (hasB zs v)) ∧ w' = w := by
  go_enter Yba.func27, Yba.ntmps27
  go_wp2_with (go_at_call 41; refine (index a cap zs v _ hm h).mono ?_; rintro e w2 ⟨r, rfl, hr, hw⟩; subst hw; have HR : Hid _ := hr; clear hr)
  go_ret
  exact ⟨by rw [← HR.out]; rfl, rfl⟩

def ERel (zs : List Int) (w : World) (i : Value) (wr : World) : Prop := ∃ k q : Nat, i = .int .i64 k ∧ k ≤ zs.length ∧ wr = w.drewN q

set_option maxHeartbeats 400000 in
set_option maxRecDepth 100000 in
/-- Two slices that lead to the same numbers. -/
theorem eqs (a a' : Option Addr) (cap cap' : Nat) (zs : List Int) (w : World) (hm : zs.length ≤ maxLen) (h : Nums w a zs) (h' : Nums w a' zs) :
    Calls Yba.prog 16 #[.slice a zs.length cap, .slice a' zs.length cap'] w fun e w' => e = .returned (.bool true) ∧ ∃ q, w' = w.drewN q := by
  unfold maxLen at hm
  go_enter Yba.func16, Yba.ntmps16
  go_wp2
  go_loopw [5] (fun i wr => ERel zs w i wr) (fun i _ => zs.length - (intOf i).toNat)
  case atStart => exact ⟨0, 0, rfl, Nat.zero_le _, rfl⟩
  case round =>
    obtain ⟨k, q, rfl, hk, rfl⟩ := hrel
    by_cases hlt : k < zs.length
    · obtain ⟨b, off, hav, _, hc⟩ := h k hlt
      obtain ⟨b', off', hav', _, hc'⟩ := h' k hlt
      subst hav hav'
      obtain ⟨z, hz⟩ : ∃ z, zs.getD k 0 = z := ⟨_, rfl⟩
      rw [hz] at hc hc'
      clear hz
      go_wp2
      go_quiet (fail)
      go_wp2
      go_roundw
      case rel => exact ⟨k + 1, _, by go_num, hlt, rfl⟩
      case measure => simp [intOf]; omega
    · go_wp2
      go_ret
      exact ⟨rfl, q, rfl⟩
end Go.Proofs.Ybulkbnem
