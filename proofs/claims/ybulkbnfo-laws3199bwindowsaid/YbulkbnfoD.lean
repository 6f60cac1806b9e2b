/-
  THE LAW, WALKED.
-/
import Derived.Test.YbulkbnfoC
import Derived.Lib.Builder
namespace Go.Proofs.Ybulkbnfo
open Go.RowKit

theorem neq28 (a : Addr) (w : World) : (binOp .neq 28 (.pointer (some a)) (.pointer (some a))).run Yba.prog w = .ok (.bool false) w := by
  obtain ⟨i0, hi⟩ := Option.isSome_iff_exists.1 Yba.isSome43
  exact Lib.run_neq_ptr_same w a Yba.underlying28 hi

set_option maxHeartbeats 1000000 in
set_option maxRecDepth 100000 in
theorem law (S : Nat → Int) (b : Int) (a : Option Addr) (n cap : Nat) (w : World) (hS : ∀ i, 0 ≤ S i ∧ S i ≤ 4294967295) (hb0 : 0 ≤ b) (hb1 : b ≤ 4294967295) (hn : n ≤ 1024) (hX : Src w a n S) :
    Calls Yba.prog 3 #[.int .u32 b, .slice a n cap] w fun e w' => e = .returned (.bool true) ∧ Below w.heap.size w w' := by
  have hmk := fun w => run_make_row' (P := Yba.prog) 25 28 (.pointer none) 8 Yba.underlying25 Yba.info28 rfl .i64 .i64 n (by omega) (by omega) w
  have hn' : ¬ (1024 : Int) < (n : Int) := by omega
  go_enter Yba.func3, Yba.ntmps3
  go_upto_block 0 with fail
  clear hmk
  go_cut [30] (fun _ W => Made S b w.heap.size n n w W)
  case first =>
    go_wp2_with fail
    go_loopw [30] (fun i wr => MadeK S b w.heap.size n w i wr) (fun i _ => n - (intOf i).toNat)
    case atStart => exact ⟨0, rfl, Nat.zero_le _, made0 S b n w⟩
    case round =>
      obtain ⟨k, rfl, hk, m⟩ := hrel
      by_cases hlt : k < n
      · obtain ⟨g, off, rfl, hg, hc⟩ := hX k hlt
        have hSk := hS k
        have c0 : wr.cell? ⟨g, off + k, none⟩ = some (.int .u32 (S k)) := (m.below.cell hg).trans hc
        obtain ⟨u, c1, c2⟩ := m.slot hlt
        go_wp2
        go_roundw
        case rel => exact ⟨k + 1, by go_num, hlt, m.step hlt rfl⟩
        case measure => simp [intOf]; omega
      · go_wp2
        go_meet
        case rel =>
          obtain rfl : k = n := by omega
          exact m
  case rest =>
    obtain ⟨V1, rfl⟩ : ∃ X, X = wc := ⟨_, rfl⟩
    have m : Made S b w.heap.size n n w V1 := hcut
    clear hcut
    obtain ⟨i3, hi, hz0, hz1, hz2⟩ := info_parts Yba.info3'
    have hS0 : ∀ i, 0 ≤ S i := fun i => (hS i).1
    have hV1 := m.size
    go_wp2
    go_loopw [9, 49] (fun kv i wr => WinK S b w.heap.size (w.heap.size + 2 + n) n V1 kv i wr) (fun _ i _ => n - (intOf i).toNat)
    case atStart => exact ⟨0, [], .slice none 0 0, rfl, Nat.zero_le _, by simp, Nat.le_refl _, by simpa [sumS] using hb0, m.box, .inl ⟨rfl, rfl⟩, .inl ⟨rfl, rfl⟩, Lo.refl _ _ _, by omega⟩
    case round =>
      clear hV1
      obtain ⟨k, ids, lv, rfl, hk, win⟩ := hrel
      obtain ⟨W0, rfl⟩ : ∃ X, X = wr := ⟨_, rfl⟩
      by_cases hlt : k < n
      · obtain ⟨ka, kc, rfl, hkn, hkc⟩ := win.kept.form
        have hbig := win.big
        have hlen := win.len
        go_upto_block 4 with (first | (at_make; refine wpList_make_own _ rfl _ _ 44 rfl W0.heap.size 3 i3 (.int .i64 0) 1 Yba.underlying44 hi hz0 hz1 _ _ _ (ids.length + 1) rfl rfl (by simp) (by rw [hz2]; omega) (by unfold maxLen; omega) (Nat.le_refl _) ?_; intro w1 hown1 hg1; have hB1 : Below W0.heap.size W0 w1 := (Below.refl _ _).grown hg1 (Nat.le_refl _) (fun j hj => by cases hj)) | (at_builtin; refine wpList_append_fits_any _ rfl (.tmp 56) (.tmp 57) 44 rfl W0.heap.size 3 i3 1 Yba.underlying44 hi hz1 W0.heap.size 0 (ids.length + 1) [] rfl hown1 ka ids.length kc (intV ids) rfl (by rw [intV_length]; omega) hkn (hkc _ hB1) (intV_one ids) (by omega) ?_; intro w2 hown2 hg2; have hB2 := hB1.grown hg2 hB1.size (fun j hj => by cases hj; exact Nat.le_refl _); simp only [Nat.zero_add, List.nil_append] at hown2 ⊢) | (at_builtin; refine wpList_append_fits _ rfl (.tmp 59) (.tmp 61) 44 rfl W0.heap.size 3 i3 1 Yba.underlying44 hi hz1 W0.heap.size ids.length (ids.length + 1) (intV ids) rfl (hown2.alloc _) ⟨w2.heap.size, 0, none⟩ 1 1 [.int .i64 (k : Int)] rfl rfl (cell_one_new _ _ _) (fun u hu => by simp at hu; subst hu; rfl) (Nat.le_refl _) ?_; intro w3 hown3 hg3; have hB3 := (hB2.alloc hB2.size _).grown hg3 (by have := hB2.size; simp; omega) (fun j hj => by cases hj; exact Nat.le_refl _)))
        have cd := cd_of win (by omega) hB3 hown3
        have hcl : (ids ++ [k]).length = ids.length + 1 := by simp
        have hcn := cand_lt win.lt hlt
        clear hown1 hown2 hown3 hg1 hg2 hg3 hB1 hB2 hB3 hkn hkc
        obtain ⟨cand, hcand⟩ : ∃ c, c = ids ++ [k] := ⟨_, rfl⟩
        rw [← hcand] at cd hcl hcn
        have HC : Hid (cand = ids ++ [k]) := hcand
        clear hcand
        go_cut [12, 13] (fun j s W => Scanned S b cand w3 j s W)
        case first =>
          go_wp2_with fail
          go_loopw [12, 13] (fun j s wx => Scan S b cand w3 j s wx) (fun j _ _ => (intOf j).toNat)
          case atStart => exact ⟨cand.length, by rw [hcl]; rfl, Nat.le_refl _, by simp [sumS], by simpa [sumS] using hb0, rfl⟩
          case round =>
            obtain ⟨t, rfl, ht, rfl, hle, hw⟩ := hrel
            subst hw
            rcases t with _ | u
            · go_wp2
              go_meet
              case rel =>
                have q := scan hS0 cand 0 (Nat.zero_le _) hle (.inl rfl)
                exact ⟨0, rfl, Nat.zero_le _, rfl, q.1, q.2, rfl⟩
            · obtain ⟨c, hc⟩ : ∃ c, cand[u]? = some c := ⟨_, List.getElem?_eq_getElem (by omega)⟩
              have hcn' := hcn u c hc
              obtain ⟨sg, off, rfl, hsg, hsc⟩ := hX c hcn'
              have e1 := cd.cell hc
              have e2 := src_cell m cd.lo hsg hsc
              have hs := sum_at (S := S) hc
              have h0 := sumS_nonneg hS0 (cand.drop (u + 1))
              have hSc := hS c
              have hu : u < ids.length + 1 := by omega
              by_cases hb : sumS S (cand.drop (u + 1)) + S c ≤ b
              · go_wp2
                go_roundw
                case rel => exact ⟨u, by go_num, by omega, by rw [hs], by omega, rfl⟩
                case measure => simp [intOf]
              · go_wp2
                go_meet
                case rel =>
                  have q := scan hS0 cand (u + 1) ht hle (.inr (by rw [Nat.add_sub_cancel, hs]; omega))
                  exact ⟨u + 1, by go_num, ht, rfl, q.1, q.2, rfl⟩
        case rest =>
          obtain ⟨t, rfl, ht, rfl, hdr, hke, hw⟩ := hcut
          subst hw
          have e0 := es_cell m cd.lo hlt
          have hE : ∀ i ∈ ids ++ [k], Eb w.heap.size i < w.heap.size + 2 + n ∧ Eb w.heap.size i ≠ w.heap.size ∧ wc.cell? ⟨Eb w.heap.size i, 24, none⟩ = some (.int .i64 (S i)) := by
            intro i hi
            obtain ⟨j, hj⟩ := List.mem_iff_getElem?.1 hi
            have hin := hcn j i (by rw [HC.out]; exact hj)
            exact ⟨by unfold Eb; omega, by unfold Eb; omega, ent_cell m cd.lo hin⟩
          go_upto_block 6 with (go_at_call 4; refine (add S b w.heap.size (w.heap.size + 2 + n) (Eb w.heap.size) ids k lv wc hS hb0 hb1 cd.box cd.seg (by omega) cd.big hE win.sum (by omega)).mono ?_; rintro e W4 ⟨dv, rfl, P⟩; rw [← HC.out] at P; obtain ⟨da, dc, la, lc, rfl, A⟩ := aft cd P ht hdr hke (by omega))
          clear e0 hE P
          have hneq := neq28
          have hgz := A.gb
          have ht' : t ≤ ids.length + 1 := by omega
          go_cut [15] (fun _ W => Same W4 W)
          case first =>
            go_wp2_with fail
            go_loopw [15] (fun i wx => Steps t W4 i wx) (fun i _ => t - (intOf i).toNat)
            case atStart => exact ⟨0, rfl, Nat.zero_le _, Same.refl _⟩
            case round =>
              obtain ⟨u, rfl, hu, sm⟩ := hrel
              by_cases hut : u < t
              · obtain ⟨c, hc⟩ : ∃ c, cand[u]? = some c := ⟨_, List.getElem?_eq_getElem (by omega)⟩
                have hcn' := hcn u c hc
                obtain ⟨dg, rfl, hd⟩ := A.dropped u c hut hc
                have f1 : wr.cell? ⟨dg, u, none⟩ = _ := (sm.cell _).trans hd
                have f2 : wr.cell? ⟨W0.heap.size, u, none⟩ = _ := (sm.cell _).trans (A.cell hc)
                have f3 : wr.cell? ⟨w.heap.size + 1, c, none⟩ = _ := (sm.cell _).trans (es_cell m A.lo hcn')
                have i1 : (u : Int) < (t : Int) := by omega
                have i2 : u < ids.length + 1 := by omega
                have j3 : (u : Int) < (ids.length : Int) + 1 := by omega
                have i4 : (c : Int) < (n : Int) := by omega
                go_wp2
                go_quiet (fail)
                go_wp2
                go_roundw
                case rel => exact ⟨u + 1, by go_num, hut, sm.drewN _⟩
                case measure => simp [intOf]; omega
              · go_wp2
                go_meet
                case rel => exact sm
          case rest =>
            obtain ⟨W5, rfl⟩ : ∃ X, X = wc := ⟨_, rfl⟩
            have s5 : Same W4 W5 := hcut
            clear hcut
            go_upto_region 31 with fail
            go_cut [9] (fun kv W => KeptV t ids.length W0.heap.size W5 kv W)
            case first =>
              by_cases hte : t = ids.length + 1
              · subst hte
                go_wp2
                go_meet
                case rel => exact ⟨0, 0, by simp, .inr (by omega), rfl⟩
              · go_wp2
                go_meet
                case rel => exact ⟨t, _, rfl, .inl rfl, rfl⟩
            case rest =>
              obtain ⟨kof, kcap, rfl, hkof, hw⟩ := hcut
              subst hw
              have b0 : wc.cell? ⟨w.heap.size, 0, none⟩ = some (.int .i64 b) := (s5.cell _).trans (cell_at A.box 0)
              have b1 : wc.cell? ⟨w.heap.size, 1, none⟩ = some (.slice la (ids.length + 1 - t) lc) := by rw [← hcl]; exact (s5.cell _).trans (cell_at A.box 1)
              have b2 : wc.cell? ⟨w.heap.size, 2, none⟩ = some (.int .i64 (sumS S (cand.drop t))) := (s5.cell _).trans (cell_at A.box 2)
              go_wp2
              clear b0 b2
              go_loopw [151] (fun i wx => Steps (ids.length + 1 - t) W4 i wx) (fun i _ => (ids.length + 1 - t) - (intOf i).toNat)
              case atStart => exact ⟨0, rfl, Nat.zero_le _, s5⟩
              case round =>
                obtain ⟨u, rfl, hu, sm⟩ := hrel
                clear b1
                by_cases hut : u < ids.length + 1 - t
                · obtain ⟨c, hc⟩ : ∃ c, cand[t + u]? = some c := ⟨_, List.getElem?_eq_getElem (by omega)⟩
                  obtain rfl : kof = t := by omega
                  have hcn' := hcn _ c hc
                  obtain ⟨lg, lof, rfl, hl⟩ := A.list u c hc
                  have f1 : wr.cell? ⟨lg, lof + u, none⟩ = _ := (sm.cell _).trans hl
                  have f2 : wr.cell? ⟨W0.heap.size, kof + u, none⟩ = _ := (sm.cell _).trans (A.cell hc)
                  have f3 : wr.cell? ⟨w.heap.size + 1, c, none⟩ = _ := (sm.cell _).trans (es_cell m A.lo hcn')
                  have b1 : wr.cell? ⟨w.heap.size, 1, none⟩ = some (.slice (some ⟨lg, lof, none⟩) (ids.length + 1 - kof) lc) := by rw [← hcl]; exact (sm.cell _).trans (cell_at A.box 1)
                  have i1 : (u : Int) < ((ids.length + 1 - kof : Nat) : Int) := by omega
                  have i4 : (c : Int) < (n : Int) := by omega
                  go_wp2
                  go_quiet (fail)
                  go_wp2
                  go_roundw
                  case rel => exact ⟨u + 1, by go_num, hut, sm.drewN _⟩
                  case measure => simp [intOf]; omega
                · have i1 : ¬ (u : Int) < ((ids.length + 1 - t : Nat) : Int) := by omega
                  go_wp2
                  go_roundw
                  case rel => exact ⟨k + 1, _, _, by go_num, hlt, win_next win A sm HC.out hb0 hke hkof⟩
                  case measure => simp [intOf]; omega
      · go_wp2
        go_ret
        exact ⟨rfl, all_below m win.lo⟩
end Go.Proofs.Ybulkbnfo
