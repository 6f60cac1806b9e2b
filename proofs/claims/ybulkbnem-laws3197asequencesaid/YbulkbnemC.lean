/-
  THE STATEMENT: 'Rows.LawS3197ASequenceSaid'.
-/
import Derived.Test.YbulkbnemB
import Derived.ProofKit
import Derived.OpenShut
import Derived.ChangeOld
import Derived.Below
namespace Go.Proofs.Ybulkbnem
open Go.ChangeShapes Go.WideShapes Go.ChangeAt Go.RowKit

def SRel (n f : Int) (R : Nat) (w : World) (i : Value) (wr : World) : Prop :=
  ∃ k : Nat, i = .int .i64 ((k : Int) + 1) ∧ k ≤ R ∧ wr.heap[w.heap.size]? = some (.cells (client n f R k (.pointer none)) 32 (0, 0)) ∧ Below w.heap.size w wr

theorem eq41 (W : World) : (Op.equalIn 9999 41 (.pointer none) (.pointer none)).run Yba.prog W = .ok true W := by kernel_rfl

theorem sent_cells {w : World} {o t : Nat} {k : Int} (h : Sent w o t k) : w.cell? ⟨o, 0, none⟩ = some (.slice (some ⟨t, 0, none⟩) 1 1) ∧ w.cell? ⟨o, 1, none⟩ = some (.int .u8 0) ∧ w.cell? ⟨o, 2, none⟩ = some (.int .i64 (-1)) ∧ w.cell? ⟨o, 3, none⟩ = some (.int .i64 0) ∧ w.cell? ⟨o, 4, none⟩ = some (.int .i64 0) ∧
    w.cell? ⟨o, 5, none⟩ = some (.int .i64 0) ∧ w.cell? ⟨o, 6, none⟩ = some (.int .i64 k) ∧ w.cell? ⟨o, 7, none⟩ = some (.bool false) ∧ w.cell? ⟨o, 8, none⟩ = some (.pointer none) ∧ w.cell? ⟨t, 0, none⟩ = some (.int .i64 0) :=
  ⟨cell_at h.1 0, cell_at h.1 1, cell_at h.1 2, cell_at h.1 3, cell_at h.1 4, cell_at h.1 5, cell_at h.1 6, cell_at h.1 7, cell_at h.1 8, cell_at h.2 0⟩

set_option maxHeartbeats 1000000 in
set_option maxRecDepth 100000 in
theorem seq0 (n f R : Nat) (a0 a1 a2 T : Int) (w : World) (h0 : 0 ≤ a0) (h0' : a0 ≤ 255) (h1 : 0 ≤ a1) (h1' : a1 ≤ 255) (h2 : 0 ≤ a2) (h2' : a2 ≤ 65535) (hn : a0 % 16 + 1 = (n : Int)) (hf : a1 % 8 = (f : Int)) (hR : a2 % 512 = (R : Int)) (hT : ¬ 0 < T) :
    Calls Yba.prog 4 #[.int .u8 a0, .int .u8 a1, .int .u16 a2, .int .i64 T] w fun e w' => e = .returned (.bool true) ∧ Below w.heap.size w w' := by
  have n1 : (1 : Int) ≤ n := by omega
  have n2 : (n : Int) ≤ 16 := by omega
  have r2 : (R : Int) ≤ 512 := by omega
  have heq := eq41
  go_enter Yba.func4, Yba.ntmps4
  go_wp2_with (go_at_call 10; refine (new0 n f R T _ hT).mono ?_; rintro e W1 ⟨rfl, hC, hb⟩)
  go_loopw [12] (fun i wr => SRel n f R w i wr) (fun i _ => R + 1 - (intOf i).toNat)
  case atStart => exact ⟨0, rfl, Nat.zero_le _, hC, hb⟩
  case round =>
    clear hC hb
    obtain ⟨k, rfl, hk, hC, hnx⟩ := hrel
    by_cases hlt : k < R
    · go_wp2_with (go_at_call 9; refine (next_send w.heap.size n f R k _ n1 n2 (by omega) (by omega) r2 hC).mono ?_; rintro e W2 ⟨o, t, rfl, hs, hC2, hb2⟩; obtain ⟨c0, c1, c2, c3, c4, c5, c6, c7, c8, c9⟩ := sent_cells hs; have cC : W2.cell? ⟨w.heap.size, 3, none⟩ = some (.int .i64 ((k : Int) + 1)) := cell_at hC2 3)
      go_roundw
      case rel => exact ⟨k + 1, by go_num, hlt, by rw [Int.natCast_succ]; exact hC2, hnx.trans hb2⟩
      case measure => simp [intOf]; omega
    · obtain rfl : k = R := by omega
      have c3 : wr.cell? ⟨w.heap.size, 3, none⟩ = some (.int .i64 (k : Int)) := cell_at hC 3
      have c7 : wr.cell? ⟨w.heap.size, 7, none⟩ = some (.pointer none) := cell_at hC 7
      have HC := hide hC
      clear hC
      go_wp2_with (go_at_call 9; refine (next_done w.heap.size n f k (.pointer none) _ HC.out).mono ?_; rintro e W2 ⟨rfl, q, hq⟩; subst hq)
      go_ret
      exact ⟨rfl, below_drewN hnx _⟩

def TRel (n f T : Int) (R : Nat) (w : World) (i : Value) (wr : World) : Prop :=
  ∃ (k : Nat) (run : Bool) (st : Int) (v : Value), i = .int .i64 ((k : Int) + 1) ∧ k ≤ R ∧ wr.heap[w.heap.size]? = some (.cells (client n f R k (.pointer (some ⟨w.heap.size + 1, 0, none⟩))) 32 (0, 0)) ∧
    wr.heap[w.heap.size + 1]? = some (.cells (resend T (f + 1 + 1) 0 k run st v) 37 (0, 0)) ∧ Below w.heap.size w wr

set_option maxHeartbeats 1000000 in
set_option maxRecDepth 100000 in
theorem seqT (n f R : Nat) (a0 a1 a2 T : Int) (w : World) (h0 : 0 ≤ a0) (h0' : a0 ≤ 255) (h1 : 0 ≤ a1) (h1' : a1 ≤ 255) (h2 : 0 ≤ a2) (h2' : a2 ≤ 65535) (hn : a0 % 16 + 1 = (n : Int)) (hf : a1 % 8 = (f : Int)) (hR : a2 % 512 = (R : Int)) (hT : 0 < T) :
    Calls Yba.prog 4 #[.int .u8 a0, .int .u8 a1, .int .u16 a2, .int .i64 T] w fun e w' => e = .returned (.bool true) ∧ Below w.heap.size w w' := by
  have n1 : (1 : Int) ≤ n := by omega
  have n2 : (n : Int) ≤ 16 := by omega
  have r2 : (R : Int) ≤ 512 := by omega
  have heq := eq41
  go_enter Yba.func4, Yba.ntmps4
  go_wp2_with (go_at_call 10; refine (newT n (by omega) f R T _ (by omega) (by omega) hT).mono ?_; rintro e W1 ⟨rfl, v, hC, hS, hb⟩)
  go_loopw [12] (fun i wr => TRel n f T R w i wr) (fun i _ => R + 1 - (intOf i).toNat)
  case atStart => exact ⟨0, false, 0, v, rfl, Nat.zero_le _, hC, hS, hb⟩
  case round =>
    clear hC hS hb
    obtain ⟨k, run, st, u, rfl, hk, hC, hS, hnx⟩ := hrel
    by_cases hlt : k < R
    · go_wp2_with (go_at_call 9; refine (next_resend w.heap.size n f R k T (f + 1 + 1) k st run u _ n1 n2 (by omega) (by omega) r2 (by omega) (by omega) hC hS).mono ?_; rintro e W2 ⟨o, t, rfl, hs, hC2, hS2, hb2⟩; obtain ⟨c0, c1, c2, c3, c4, c5, c6, c7, c8, c9⟩ := sent_cells hs; have cC : W2.cell? ⟨w.heap.size, 3, none⟩ = some (.int .i64 ((k : Int) + 1)) := cell_at hC2 3)
      go_roundw
      case rel => exact ⟨k + 1, true, T, u, by go_num, hlt, by rw [Int.natCast_succ]; exact hC2, by rw [Int.natCast_succ]; exact hS2, hnx.trans hb2⟩
      case measure => simp [intOf]; omega
    · obtain rfl : k = R := by omega
      have c3 : wr.cell? ⟨w.heap.size, 3, none⟩ = some (.int .i64 (k : Int)) := cell_at hC 3
      have c7 : wr.cell? ⟨w.heap.size, 7, none⟩ = some (.pointer (some ⟨w.heap.size + 1, 0, none⟩)) := cell_at hC 7
      have s2 : wr.cell? ⟨w.heap.size + 1, 2, none⟩ = some (.int .i64 0) := cell_at hS 2
      have s3 : wr.cell? ⟨w.heap.size + 1, 3, none⟩ = some (.int .i64 (k : Int)) := cell_at hS 3
      have HC := hide hC
      clear hC hS
      go_wp2_with (go_at_call 9; refine (next_done w.heap.size n f k (.pointer (some ⟨w.heap.size + 1, 0, none⟩)) _ HC.out).mono ?_; rintro e W2 ⟨rfl, q, hq⟩; subst hq)
      go_ret
      exact ⟨rfl, below_drewN hnx _⟩

theorem seqWalk (a0 a1 a2 a3 : Int) (w0 : (Lit.int .u8 a0).wf = true) (w1 : (Lit.int .u8 a1).wf = true) (w2 : (Lit.int .u16 a2).wf = true) (w : World) :
    Calls Yba.prog 4 #[.int .u8 a0, .int .u8 a1, .int .u16 a2, .int .i64 a3] w fun e w' => e = .returned (.bool true) ∧ Below w.heap.size w w' := by
  have b0 := bounds_u8 w0
  have b1 := bounds_u8 w1
  have b2 := bounds_u16 w2
  have e0 : a0 % 16 + 1 = ((a0 % 16 + 1).toNat : Int) := by omega
  have e1 : a1 % 8 = ((a1 % 8).toNat : Int) := by omega
  have e2 : a2 % 512 = ((a2 % 512).toNat : Int) := by omega
  by_cases hT : 0 < a3
  · exact seqT _ _ _ a0 a1 a2 a3 w (by omega) (by omega) (by omega) (by omega) (by omega) (by omega) e0 e1 e2 hT
  · exact seq0 _ _ _ a0 a1 a2 a3 w (by omega) (by omega) (by omega) (by omega) (by omega) (by omega) e0 e1 e2 hT

theorem own : ownKnob Yba.prog.godebug = none := by kernel_rfl

set_option maxRecDepth 100000 in
theorem seqLifted (os : Os) (started : os.Started) (H : Type) (enc : TypeId × Value → H) :
    ReturnsInHanded {} Yba.checked os 4 .any (Rows.lawS3197ASequenceSpec.pre6 enc Yba.prog Yba.f4 Rows.lawS3197ASequenceRow.domain false) (Rows.lawS3197ASequenceSpec.post enc Yba.prog Yba.f4 false true false false) := by
  refine returnsInHanded_of_change (C := Yba.checked) own started (by kernel_rfl) Yba.func4
    (ChangeSpec.witness6 (enc := enc) (C := Yba.checked) false ⟨#[], #[.int .u8 0, .int .u8 0, .int .u16 0, .int .i64 0], []⟩ 8 (by kernel_rfl) (by kernel_rfl) (by kernel_rfl) (by kernel_rfl)) ?_
  intro W base args ds gs before hval0 hW hcnd _
  have hval : ∀ (j : Nat) t v, Yba.f4.params[j]? = some t → args[j]? = some v → Value.okWide Yba.prog W .any base t v := hval0
  have hW' := hW
  obtain ⟨p, q, hA0, hV, rfl, hfz, hnd⟩ := hW
  have hA : DataW.TrodAll enc Yba.prog W 0 (fun _ => true) true Yba.f4.params.toList args.toList ds p := hA0
  rw [Yba.params4] at hA hval
  obtain ⟨v0, vs0, d0, ds0, p0, q0, hargs, rfl, rfl, h0, r0⟩ := trodAll_cons hA
  obtain ⟨v1, vs1, d1, ds1, p1, q1, rfl, rfl, rfl, h1, r1⟩ := trodAll_cons r0
  obtain ⟨v2, vs2, d2, ds2, p2, q2, rfl, rfl, rfl, h2, r2⟩ := trodAll_cons r1
  obtain ⟨v3, vs3, d3, ds3, p3, q3, rfl, rfl, rfl, h3, r3⟩ := trodAll_cons r2
  obtain ⟨rfl, rfl, rfl⟩ := trodAll_nil r3
  obtain rfl : args = #[v0, v1, v2, v3] := by cases args; simp_all
  obtain ⟨rfl, rfl⟩ := trodVars_none hV
  obtain ⟨a0, rfl, rfl, rfl, w0⟩ := open_int Yba.underlying5 (hval 0 5 v0 rfl rfl) h0
  obtain ⟨a1, rfl, rfl, rfl, w1⟩ := open_int Yba.underlying5 (hval 1 5 v1 rfl rfl) h1
  obtain ⟨a2, rfl, rfl, rfl, w2⟩ := open_int Yba.underlying47 (hval 2 47 v2 rfl rfl) h2
  obtain ⟨a3, rfl, rfl, rfl, w3⟩ := open_int Yba.underlying2 (hval 3 2 v3 rfl rfl) h3
  clear hA0 hval0
  refine (seqWalk a0 a1 a2 a3 w0 w1 w2 W).mono fun e W' ⟨he, bel⟩ => ?_
  subst he
  exact ⟨_, rfl, _, _, _, [], _, [], hW', trodAll_mk1 (shut_bool Yba.underlying4 _), (trodAll_cons_mk (shut_int Yba.underlying5 w0) (trodAll_cons_mk (shut_int Yba.underlying5 w1) (trodAll_cons_mk (shut_int Yba.underlying47 w2) (trodAll_cons_mk (shut_int Yba.underlying2 w3) trodAll_mk0)))), rfl, bel.frame _, fun h => by cases h⟩

theorem seqOver : Rows.lawS3197ASequenceRow.holds Yba.pinned (OpenSpec.ofChange Rows.lawS3197ASequenceSpec) :=
  OpenClaim.holds_of_wide 4 Yba.f4 rfl rfl rfl rfl rfl rfl rfl ⟨rfl, rfl, rfl, rfl, rfl⟩ rfl rfl rfl rfl rfl (by kernel_rfl) Yba.func4 (by kernel_rfl)
    (of_decide_eq_true (by kernel_rfl)) (by unfold Func.isWrapper; first | (rw [if_pos (by decide +kernel)]; kernel_rfl) | (rw [if_neg (by decide +kernel)]; exact ⟨rfl, rfl⟩))
    (fun os started H enc _ => seqLifted os started H enc)

/-- THE STATEMENT -/
theorem sequenceProved : Rows.LawS3197ASequenceSaid := seqOver
#print axioms sequenceProved
end Go.Proofs.Ybulkbnem
