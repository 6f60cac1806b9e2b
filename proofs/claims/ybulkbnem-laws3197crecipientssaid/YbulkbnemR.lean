/-
  THE LAW 'LawS3197CRecipients': the walk.
-/
import Derived.Test.YbulkbnemQ
import Derived.Laws.CopyOwn
import Derived.Deep.RegionHeld3
namespace Go.Proofs.Ybulkbnem
open Go.RowKit

def zerL (n : Nat) : List Value := List.replicate n (.int .i64 0)
theorem zerL_length (n : Nat) : (zerL n).length = n := by simp [zerL]
theorem intsV_length (l : List Int) : (intsV l).length = l.length := by simp [intsV]
theorem intsV_one (l : List Int) : ∀ u ∈ intsV l, u.oneCell' = true := by
  intro u hu
  obtain ⟨_, _, rfl⟩ := List.mem_map.1 hu
  rfl
theorem size3 : (Yba.prog.info? 3).map (·.size) = some 1 := by
  obtain ⟨i0, hi, _, hz1, _⟩ := info_parts Yba.info3'
  rw [hi]
  simp [hz1]

theorem make3 (n : Nat) (hn : n ≤ 4096) (W : World) : (Instr.makeSlice 35 (.int .i64 n) (.int .i64 n)).run Yba.prog W = .ok (.slice (some ⟨W.heap.size, 0, none⟩) n n) (W.alloc (.cells (zerL n).toArray 3)) := by
  obtain ⟨i0, hi, hz0, hz1, hz2⟩ := info_parts Yba.info3'
  have hr := run_make (P := Yba.prog) W 35 3 i0 _ Yba.underlying35 hi hz0 .i64 .i64 n n (by omega) (Int.le_refl _) (by rw [hz2]; omega) (by omega)
  have he : madeCells (Value.int .i64 0).cells n = (zerL n).toArray := by
    show madeCells #[Value.int .i64 0] n = (zerL n).toArray
    apply Array.toList_inj.1
    rw [toList_madeCells_one]
    simp [zerL]
  rw [hr, hz1, Nat.mul_one, Int.toNat_natCast, he]

theorem splice_all (L cs : List Value) (h : cs.length = L.length) : splice L 0 cs = cs := by simp [splice, h]

/-- A row that is known whole. -/
theorem nums_of_block {w : World} {g : Nat} {X : List Int} (h : w.heap[g]? = some (.cells (intsV X).toArray 3 (0, 0))) : Nums w (some ⟨g, 0, none⟩) X := fun i hi => by
  refine ⟨g, 0, rfl, (Array.getElem?_eq_some_iff.1 h).1, ?_⟩
  simp [World.cell?, h, intsV, hi, List.getD]
theorem nums_of_row {w : World} {base m : Nat} {va : Option Addr} {vc : Nat} {X : List Int} (h : w.ownsRow base 3 1 (.slice va m vc) X.length (intsV X)) : Nums w va X := fun i hi => by
  rcases h.2 with ⟨e, hn⟩ | ⟨g, cap, cur, e, hb, hg, r⟩
  · omega
  · simp only [Value.slice.injEq] at e
    obtain ⟨rfl, rfl, rfl⟩ := e
    refine ⟨g, 0, rfl, (Array.getElem?_eq_some_iff.1 hg).1, ?_⟩
    have := h.cellAt i (by omega)
    rw [Nat.zero_add, this]
    simp [intsV, hi, List.getD]
theorem Nums.src {w : World} {a : Option Addr} {X : List Int} (h : Nums w a X) (hp : 0 < (intsV X).length) : ∃ ad, a = some ad ∧ ∀ j v, (intsV X)[j]? = some v → w.cell? (ad.add j) = some v := by
  rw [intsV_length] at hp
  obtain ⟨b, off, e, _, _⟩ := h 0 hp
  refine ⟨_, e, fun j v hj => ?_⟩
  have hjl : j < X.length := by
    have := (List.getElem?_eq_some_iff.1 hj).1
    rwa [intsV_length] at this
  obtain ⟨b', off', e', _, c⟩ := h j hjl
  rw [e] at e'
  cases e'
  rw [Addr.add_lit, c, ← hj]
  simp [intsV, hjl, List.getD]

theorem copied2 {w W2 : World} {a : Option Addr} {X : List Int} (hB : Below w.heap.size w W2) (h : Nums w a X) :
    0 < (intsV X).length → some (⟨W2.heap.size, 0, none⟩ : Addr) = some ⟨W2.heap.size, 0, none⟩ ∧ ∃ ad, a = some ad ∧ ∀ j v, (intsV X)[j]? = some v → (W2.alloc (.cells (zerL X.length).toArray 3)).cell? (ad.add j) = some v :=
  fun hp => ⟨rfl, (h.below (hB.alloc hB.size _)).src hp⟩
theorem lt_of_hid {W : World} {g : Nat} {o : Obj} (h : Hid (W.heap[g]? = some o)) : g < W.heap.size := (Array.getElem?_eq_some_iff.1 h).1
theorem copied4 {W2 W4 : World} {E : Nat} {X4 X2 : List Int} (HG2 : Hid (W2.heap[E]? = some (.cells (splice (zerL X4.length) 0 (intsV X4)).toArray 3 (0, 0)))) (HG4 : Hid (W4.heap[W2.heap.size]? = some (.cells (splice (zerL X2.length) 0 (intsV X2)).toArray 3 (0, 0))))
    (hB4 : Below W2.heap.size (W2.alloc (.cells (zerL X2.length).toArray 3)) W4) (hE : E < W2.heap.size) : W4.heap[E]? = some (.cells (intsV X4).toArray 3 (0, 0)) ∧ W4.heap[W2.heap.size]? = some (.cells (intsV X2).toArray 3 (0, 0)) := by
  have e4 := splice_all (zerL X4.length) (intsV X4) (by rw [intsV_length, zerL_length])
  have e2 := splice_all (zerL X2.length) (intsV X2) (by rw [intsV_length, zerL_length])
  have g2 := HG2.out
  have g4 := HG4.out
  rw [e4] at g2
  rw [e2] at g4
  exact ⟨(hB4.block E hE).trans ((Below.heap_alloc _ _ _ hE).trans g2), g4⟩

theorem joined {a b c : World} (h1 : Below a.heap.size a b) (h2 : Below b.heap.size b c) : Below a.heap.size a c := h1.trans (h2.mono h1.size)
theorem undrew {B : Nat} {w w' : World} (h : Below B w.drew w') : Below B w w' := ⟨h.os, h.tape, h.output, h.size, h.block⟩
theorem cell_in {w : World} {b : Nat} {cs : Array Value} {e : TypeId} {fz : Nat × Nat} (h : w.heap[b]? = some (.cells cs e fz)) (i : Nat) : w.cell? ⟨b, i, none⟩ = cs[i]? := by simp [World.cell?, h]

set_option maxHeartbeats 1000000 in
set_option maxRecDepth 100000 in
theorem recip (N : Nat) (hN : N ≤ 1024) (val : Int) (a2 : Option Addr) (cap2 : Nat) (X2 : List Int) (fo : Bool) (a4 : Option Addr) (cap4 : Nat) (X4 : List Int) (w : World) (h2 : Nums w a2 X2) (h4 : Nums w a4 X4) (l2 : X2.length ≤ 4096) (l4 : X4.length ≤ 4096) :
    Calls Yba.prog 7 #[.int .i64 (N : Int), .int .i64 val, .slice a2 X2.length cap2, .bool fo, .slice a4 X4.length cap4] w fun e w' => e = .returned (.bool true) ∧ Below w.heap.size w w' := by
  have m4 := make3 X4.length l4
  have m2 := make3 X2.length l2
  have hm2 : X2.length ≤ maxLen := by unfold maxLen; omega
  have hm4 : X4.length ≤ maxLen := by unfold maxLen; omega
  have hE := heap_alloc_new w (.cells (zerL X4.length).toArray 3)
  have bE : Below w.heap.size w (w.alloc (.cells (zerL X4.length).toArray 3)) := (Below.refl _ _).alloc (Nat.le_refl _) _
  have p4 : 0 < (intsV X4).length → some (⟨w.heap.size, 0, none⟩ : Addr) = some ⟨w.heap.size, 0, none⟩ ∧ ∃ ad, a4 = some ad ∧ ∀ j v, (intsV X4)[j]? = some v → (w.alloc (.cells (zerL X4.length).toArray 3)).cell? (ad.add j) = some v := fun hp => ⟨rfl, (h4.below bE).src hp⟩
  have n4 : (intsV X4).length = Nat.min X4.length X4.length := by rw [intsV_length]; exact (Nat.min_self _).symm
  have n2 : (intsV X2).length = Nat.min X2.length X2.length := by rw [intsV_length]; exact (Nat.min_self _).symm
  have HE : Hid _ := hE
  clear hE
  go_enter Yba.func7, Yba.ntmps7
  go_wp2_with (first | (refine wpList_copy_splice rfl (.tmp 33) (.tmp 34) 35 35 rfl 3 Yba.underlying35 size3 _ _ X4.length X4.length X4.length cap4 rfl rfl w.heap.size 0 (zerL X4.length) 3 HE.out (intsV X4) n4 p4 (by rw [intsV_length, zerL_length]; omega) (intsV_one X4) w.heap.size w bE (Nat.le_refl _) ?_; intro W2 HG2 hB2; have q2 := copied2 (X := X2) hB2 h2) | (refine wpList_copy_splice rfl (.tmp 39) (.tmp 40) 35 35 rfl 3 Yba.underlying35 size3 _ _ X2.length X2.length X2.length cap2 rfl rfl W2.heap.size 0 (zerL X2.length) 3 (heap_alloc_new W2 _) (intsV X2) n2 q2 (by rw [intsV_length, zerL_length]; omega) (intsV_one X2) W2.heap.size (W2.alloc (.cells (zerL X2.length).toArray 3)) (Below.refl _ _) (Nat.le_refl _) ?_; intro W4 HG4 hB4; have hN4 := copied4 HG2 HG4 hB4 (lt_of_hid HG2); have nE := nums_of_block hN4.1; have nS := nums_of_block hN4.2) | (go_at_call 15; refine (sendTo N hN val (some ⟨W2.heap.size, 0, none⟩) X2.length X2.length fo (some ⟨w.heap.size, 0, none⟩) X4.length X4 _ hm4 nE).mono ?_; rintro e W5 ⟨v, rfl, hv, hB5⟩; obtain ⟨va, vc, rfl⟩ := row_form hv))
  have b24 : Below W2.heap.size W2 W4 := ((Below.refl W2.heap.size W2).alloc (Nat.le_refl _) _).trans hB4
  have b56 : Below W5.heap.size W5 (W5.alloc (.cells #[.slice va (keep X4 N).length vc, .int .i64 val, .slice (some ⟨W2.heap.size, 0, none⟩) X2.length X2.length, .bool fo] 103)) := (Below.refl _ _).alloc (Nat.le_refl _) _
  have b46 := joined hB5 b56
  have b26 := joined b24 b46
  have b6 := joined hB2 b26
  have n2w := h2.below b6
  have n4w := h4.below b6
  have nE6 := nE.below b46
  have nS6 := nS.below b46
  have vN := (nums_of_row hv).below b56
  have hR := heap_alloc_new W5 (.cells #[.slice va (keep X4 N).length vc, .int .i64 val, .slice (some ⟨W2.heap.size, 0, none⟩) X2.length X2.length, .bool fo] 103)
  clear hB5 b56 b46 b26 b24 hB4 nE nS hv HG2 HG4 hN4 q2 p4 n2 n4 h2 h4 m2 m4 bE hB2
  have zR : W5.heap.size < (W5.alloc (.cells #[.slice va (keep X4 N).length vc, .int .i64 val, .slice (some ⟨W2.heap.size, 0, none⟩) X2.length X2.length, .bool fo] 103)).heap.size := by simp
  generalize hW6 : W5.alloc (.cells #[.slice va (keep X4 N).length vc, .int .i64 val, .slice (some ⟨W2.heap.size, 0, none⟩) X2.length X2.length, .bool fo] 103) = W6 at *
  clear hW6
  obtain ⟨R, eR⟩ : ∃ R, R = W5.heap.size := ⟨_, rfl⟩
  rw [← eR] at hR zR ⊢
  clear eR
  have c0 : W6.cell? ⟨R, 0, none⟩ = some (.slice va (keep X4 N).length vc) := cell_in hR 0
  have c1 : W6.cell? ⟨R, 1, none⟩ = some (.int .i64 val) := cell_in hR 1
  have c2 : W6.cell? ⟨R, 2, none⟩ = some (.slice (some ⟨W2.heap.size, 0, none⟩) X2.length X2.length) := cell_in hR 2
  have c3 : W6.cell? ⟨R, 3, none⟩ = some (.bool fo) := cell_in hR 3
  have hk : (keep X4 N).length ≤ maxLen := by have := keep_le X4 N; unfold maxLen; omega
  have c0d : W6.drew.cell? ⟨R, 0, none⟩ = some (.slice va (keep X4 N).length vc) := c0
  have n4d : Nums W6.drew a4 X4 := n4w
  clear hR
  go_region_held3 (fun w' => w'.cell? ⟨R, 0, none⟩ = some (.slice va (keep X4 N).length vc)) (first | exact c0d | exact e0 | exact e0d | go_keep) (first | (go_at_call 17; refine (model N hN a4 cap4 X4 _ hm4 n4d).mono ?_; rintro e W7 ⟨u, rfl, hu, hB7⟩; obtain ⟨ua, uc, rfl⟩ := row_form hu; have hB7' := undrew hB7; have e0 : W7.cell? ⟨R, 0, none⟩ = some (.slice va (keep X4 N).length vc) := (hB7'.cell (by exact zR)).trans c0) | (go_at_call 16; refine (eqs va ua vc uc (keep X4 N) _ hk (vN.below hB7') (nums_of_row hu)).mono ?_; rintro e W8 ⟨rfl, q, rfl⟩; have e0d : (W7.drewN q).cell? ⟨R, 0, none⟩ = some (.slice va (keep X4 N).length vc) := e0))
  have d1 : W7.cell? ⟨R, 1, none⟩ = some (.int .i64 val) := (hB7'.cell (by exact zR)).trans c1
  have d2 : W7.cell? ⟨R, 2, none⟩ = some (.slice (some ⟨W2.heap.size, 0, none⟩) X2.length X2.length) := (hB7'.cell (by exact zR)).trans c2
  have d3 : W7.cell? ⟨R, 3, none⟩ = some (.bool fo) := (hB7'.cell (by exact zR)).trans c3
  have b7 := joined b6 hB7'
  have n27 := n2w.below hB7'
  have n47 := n4w.below hB7'
  have nE7 := nE6.below hB7'
  have nS7 := nS6.below hB7'
  clear c0 c1 c2 c3 c0d n4d n2w n4w nE6 nS6 vN hu e0 hB7 hB7' b6 e0d
  go_wp2_with fail
  refine (eqs (some ⟨W2.heap.size, 0, none⟩) a2 X2.length cap2 X2 _ hm2 (by exact nS7) (by exact n27)).mono ?_
  rintro e W9 ⟨rfl, q2, rfl⟩
  go_wp2_with fail
  refine (eqs (some ⟨w.heap.size, 0, none⟩) a4 X4.length cap4 X4 _ hm4 (by exact nE7) (by exact n47)).mono ?_
  rintro e W10 ⟨rfl, q3, rfl⟩
  go_wp2_with fail
  refine (eqs (some ⟨W2.heap.size, 0, none⟩) a2 X2.length cap2 X2 _ hm2 (by exact nS7) (by exact n27)).mono ?_
  rintro e W11 ⟨rfl, q4, rfl⟩
  go_wp2
  go_ret
  exact ⟨rfl, below_drewN b7 _⟩
end Go.Proofs.Ybulkbnem
