/-
  THE LAW: the walk.
-/
import Derived.Test.YbulkbndyI
import Derived.Deep.CutBlock
namespace Go.Proofs.Ybulkbndy
open Go.RowKit Go.Maps

/-- 'jm' behind k rounds. -/
structure JmD (D : DataW Value) (k : Nat) (sen : Nat → Bool) : Prop where
  isMap : IsMap D
  at_ : ∀ i, i < k → ∃ a n c, D.atKey (kS (roleB i)) (.held (.slice none 0 0)) = .held (.slice a n c) ∧ decide (0 < n) = sen i
  no : ∀ i, i < 16 → k ≤ i → Maps.has D (kS (roleB i)) = false

theorem JmD.start (sen : Nat → Bool) : JmD (.map []) 0 sen := ⟨isMap_empty, fun i hi => by omega, fun i _ _ => rfl⟩
theorem JmD.put {D : DataW Value} {k : Nat} {sen : Nat → Bool} (h : JmD D k sen) (hk : k < 16) (a : Option Addr) (n c : Nat) (hs : decide (0 < n) = sen k) : JmD (D.put (kS (roleB k)) (.held (.slice a n c))) (k + 1) sen := by
  refine ⟨h.isMap.put _ _, fun i hi => ?_, fun i hi hki => ?_⟩
  · by_cases e : i = k
    · subst e
      exact ⟨a, n, c, atKey_put_same h.isMap (kS_isKey _) _ _, hs⟩
    · rw [atKey_put_other (fun e' => e (role_inj (by omega) hk (kS_inj e')))]
      exact h.at_ i (by omega)
  · rw [has_put_other (fun e' => by have := role_inj hi hk (kS_inj e'); omega)]
    exact h.no i hi (by omega)
theorem JmD.skip {D : DataW Value} {k : Nat} {sen : Nat → Bool} (h : JmD D k sen) (hk : k < 16) (hs : sen k = false) : JmD D (k + 1) sen := by
  refine ⟨h.isMap, fun i hi => ?_, fun i hi hki => h.no i hi (by omega)⟩
  by_cases e : i = k
  · subst e
    exact ⟨none, 0, 0, atKey_of_not_has (h.no i hk (Nat.le_refl _)) _, by simp [hs]⟩
  · exact h.at_ i (by omega)

def JmRel (sen : Nat → Bool) (w : World) (i : Value) (wr : World) : Prop :=
  ∃ (k : Nat) (D : DataW Value), i = .int .i64 k ∧ k ≤ 16 ∧ wr.ownsMap Yba.prog 9 valR w.heap.size k D ∧ JmD D k sen ∧ Below w.heap.size w wr
def JmDone (sen : Nat → Bool) (w wr : World) : Prop := Next wr w.heap.size sen ∧ Below w.heap.size w wr

theorem jm_done {sen : Nat → Bool} {w wr : World} {k : Nat} {D : DataW Value} (hown : wr.ownsMap Yba.prog 9 valR w.heap.size k D) (hD : JmD D k sen) (hnx : Below w.heap.size w wr) (hk : ∀ i, i < 16 → k ≤ i → sen i = false) : JmDone sen w wr := by
  refine ⟨⟨k, D, hown, fun i hi => ?_⟩, hnx⟩
  by_cases e : i < k
  · exact hD.at_ i e
  · exact ⟨none, 0, 0, atKey_of_not_has (hD.no i hi (by omega)) _, by simp [hk i hi (by omega)]⟩

/-- A slice of triples that came in. -/
def ArgAt (w : World) (a : Option Addr) (len : Nat) (U : Nat → Nat × Nat × Nat) : Prop :=
  ∀ i, i < len → ∃ b off, a = some ⟨b, off, none⟩ ∧ b < w.heap.size ∧ w.cell? ⟨b, off + i * 3, none⟩ = some (.int .u8 ((U i).1 : Int)) ∧ w.cell? ⟨b, off + i * 3 + 1, none⟩ = some (.int .u8 ((U i).2.1 : Int)) ∧
    w.cell? ⟨b, off + i * 3 + 2, none⟩ = some (.int .u8 ((U i).2.2 : Int)) ∧ (U i).1 < 256 ∧ (U i).2.1 < 256 ∧ (U i).2.2 < 256
def LL (U : Nat → Nat × Nat × Nat) (i : Nat) : List Nat := idxL (U i).1 (U i).2.1 (U i).2.2
def LRel (W0 : World) (K n b : Nat) (kl : Nat → Lit) (L : Nat → List Nat) (j : Value) (wr : World) : Prop :=
  ∃ (k : Nat) (g gi : Nat → Nat), j = .int .i64 k ∧ k ≤ n ∧ Half W0 wr K n k b kl g gi L
def LDone (W0 : World) (K n b : Nat) (kl : Nat → Lit) (L : Nat → List Nat) (wr : World) : Prop := ∃ g gi, Half W0 wr K n n b kl g gi L
def kU (pre : ByteArray) (i : Nat) : Lit := kS (pre ++ numB i)
theorem cidxU (U : Nat → Nat × Nat × Nat) (k : Nat) (b0 : (U k).1 < 256) (b1 : (U k).2.1 < 256) (b2 : (U k).2.2 < 256) (w : World) :
    Calls Yba.prog 5 #[.agg #[.int .u8 ((U k).1 : Int), .int .u8 ((U k).2.1 : Int), .int .u8 ((U k).2.2 : Int)]] w fun e w' => ∃ g,
      e = .returned (.slice (some ⟨g, 0, none⟩) (LL U k).length (LL U k).length) ∧
      w'.ownsRow w.heap.size 3 1 (.slice (some ⟨g, 0, none⟩) (LL U k).length (LL U k).length) (LL U k).length (i64s (LL U k)) ∧ Below w.heap.size w w' :=
  cidx' (U k).1 (U k).2.1 (U k).2.2 b0 b1 b2 w
theorem cell_lt {w : World} {b i : Nat} {v : Value} (h : w.cell? ⟨b, i, none⟩ = some v) : b < w.heap.size := by
  unfold World.cell? at h
  split at h
  · rename_i hh; exact (Array.getElem?_eq_some_iff.1 hh).1
  · cases h
theorem add_pre (pre : ByteArray) (hp : pre.size ≤ 1) (k : Nat) (hk : k < 1024) (W : World) : (Op.stringOp .add pre (numB k)).run Yba.prog W = .ok (.string (pre ++ numB k)) W := by
  have := num_size k hk
  exact run_string_add_sum W pre (numB k) (by omega)
theorem LL_ok (U : Nat → Nat × Nat × Nat) (i : Nat) : (LL U i).length ≤ 24 ∧ ∀ j ∈ LL U i, j < 16 := ⟨by unfold LL; rw [idxL_len]; omega, idxL_lt _ _ _⟩
theorem append_inj_right {p s t : ByteArray} (h : p ++ s = p ++ t) : s = t := by
  have h1 : (p ++ s).data = (p ++ t).data := by rw [h]
  rw [ByteArray.data_append, ByteArray.data_append] at h1
  have h2 := congrArg Array.toList h1
  simp at h2
  cases s; cases t
  simp_all
theorem kU_inj {pre : ByteArray} {i j : Nat} (hi : i < 1024) (hj : j < 1024) (h : kU pre i = kU pre j) : i = j := num_inj hi hj (append_inj_right (kS_inj h))
theorem kU_key {pre : ByteArray} (hp : pre.size ≤ 1) {i : Nat} (hi : i < 1024) : keyOf Yba.prog 9 (.string (pre ++ numB i)) = some (kU pre i) :=
  key9 (by have := num_size i hi; rw [ByteArray.size_append]; unfold maxLen; omega)

/-- The keys of 'given'. -/
def vB : ByteArray := ⟨#[118]⟩
def kP (i : Nat) : Lit := .string (keyBytes [.string ((⟨#[111]⟩ : ByteArray) ++ numB i).data.toList, .string (⟨#[118]⟩ : ByteArray).data.toList])
theorem kP_key {i : Nat} (hi : i < 1024) : keyOf Yba.prog 36 (.agg #[.string (⟨#[111]⟩ ++ numB i), .string ⟨#[118]⟩]) = some (kP i) :=
  key36 (by have := num_size i hi; rw [ByteArray.size_append]; show 1 + (numB i).size ≤ maxLen; unfold maxLen; omega) (by decide)
theorem kP_inj {i j : Nat} (hi : i < 1024) (hj : j < 1024) (h : kP i = kP j) : i = j := by
  have h1 := kP_key hi
  have h2 := kP_key hj
  rw [h] at h1
  have h3 := law36.inj h1 h2
  have h4 : Value.string (⟨#[111]⟩ ++ numB i) = Value.string (⟨#[111]⟩ ++ numB j) := congrArg (fun v => match v with | Value.agg cs => cs.getD 0 undef | _ => undef) h3
  exact num_inj hi hj (append_inj_right (Value.string.inj h4))
theorem kP_lit (i : Nat) : WideAt.IsKeyLit (kP i) := trivial
theorem below_all {a b c : World} {B : Nat} (h1 : Below B a b) (h2 : Below b.heap.size b c) (hB : B ≤ a.heap.size) : Below B a c := h1.trans (h2.mono (Nat.le_trans hB h1.size))

set_option maxHeartbeats 4000000 in
set_option maxRecDepth 100000 in
theorem law (au aa ag aj : Option Addr) (nu na ng jl cu ca cg jc : Nat) (hnu : nu ≤ 1024) (hna : na ≤ 1024) (hng : ng ≤ 1024) (hjl : jl ≤ 1024) (zs : List Int) (w : World) (hjr : JrAt w aj jl zs) (U A G : Nat → Nat × Nat × Nat) (hU : ArgAt w au nu U) (hA : ArgAt w aa na A) (hG : ArgAt w ag ng G) :
    Calls Yba.prog 3 #[.slice au nu cu, .slice aa na ca, .slice ag ng cg, .slice aj jl jc] w fun e w' => e = .returned (.bool true) ∧ Below w.heap.size w w' := by
  have hmm := @run_makeMap Yba.prog
  have q1 : decide ((1024 : Int) < (nu : Int)) = false := by simp; omega
  have q2 : decide ((1024 : Int) < (na : Int)) = false := by simp; omega
  have q3 : decide ((1024 : Int) < (ng : Int)) = false := by simp; omega
  have q4 : decide ((1024 : Int) < (jl : Int)) = false := by simp; omega
  go_enter Yba.func3, Yba.ntmps3
  go_upto_block 0 with fail
  clear q1 q2 q3 q4
  go_cut [10] (fun _ W => JmDone (senOf jl zs) w W)
  case first =>
    go_wp2_with fail
    go_loopw [10] (fun i wr => JmRel (senOf jl zs) w i wr) (fun i _ => 16 - (intOf i).toNat)
    case atStart => exact ⟨0, .map [], rfl, Nat.zero_le _, World.ownsMap_made w Yba.prog 9 valR, JmD.start _, (Below.refl _ _).alloc (Nat.le_refl _) _⟩
    case round =>
      obtain ⟨k, D, rfl, hk, hown, hD, hnx⟩ := hrel
      by_cases hk16 : k < 16
      · by_cases hlt : k < jl
        · obtain ⟨b, off, hav, hb, hc, hz0, hz1⟩ := hjr k hlt
          subst hav
          have hc' : wr.cell? ⟨b, off + k, none⟩ = _ := (hnx.cell (by exact hb)).trans hc
          have hsen : senOf jl zs k = (zs.getD k 0 % 3 == 1) := by simp [senOf, hlt]
          have hkey := key9 (s := roleB k) (by rw [role_size k hk16]; decide)
          have hmx : k < maxLen := by unfold maxLen; omega
          generalize zs.getD k 0 = z at hc' hsen hz0 hz1
          clear hc
          rcases (show z % 3 = 1 ∨ z % 3 = 2 ∨ z % 3 = 0 from by omega) with hm | hm | hm
          · have t1 : (z % 3 == 1) = true := by simp [hm]
            have HM := Hid.mk hm
            have HSen := Hid.mk hsen
            clear hm hsen
            go_wp2_with (first | (go_at_call 4; refine (crole k hk16 _).mono ?_; rintro e w2 ⟨rfl, hw2⟩; have hw3 := hw2.symm; subst hw3) | (at_mapUpdate; refine wpList_mapUpdate_own _ rfl _ _ _ 24 rfl 9 25 law9 Yba.underlying24 _ w.heap.size k _ rfl (hown.alloc _) hmx _ _ _ rfl rfl hkey (.held (.slice (some ⟨wr.heap.size, 0, none⟩) 1 1)) [] rfl ?_; intro w1 hown1 hg1; go_frame))
            go_roundw
            case rel => exact ⟨k + 1, _, by go_num, hk16, hown1, hD.put hk16 _ _ _ (by rw [HSen.out, t1]; rfl), (hnx.alloc hnx.size _).grown hg1 (by have := hnx.size; simp; omega) (fun j hj => by cases hj; exact Nat.le_refl _)⟩
            case measure => simp [intOf]; omega
          · have t1 : (z % 3 == 1) = false := by simp [hm]
            have t2 : (z % 3 == 2) = true := by simp [hm]
            have HM := Hid.mk hm
            have HSen := Hid.mk hsen
            clear hm hsen
            go_wp2_with (first | (go_at_call 4; refine (crole k hk16 _).mono ?_; rintro e w2 ⟨rfl, hw2⟩; have hw3 := hw2.symm; subst hw3) | (at_mapUpdate; refine wpList_mapUpdate_own _ rfl _ _ _ 24 rfl 9 25 law9 Yba.underlying24 _ w.heap.size k _ rfl (hown.alloc _) hmx _ _ _ rfl rfl hkey (.held (.slice (some ⟨wr.heap.size, 0, none⟩) 0 0)) [] rfl ?_; intro w1 hown1 hg1; go_frame))
            go_roundw
            case rel => exact ⟨k + 1, _, by go_num, hk16, hown1, hD.put hk16 _ _ _ (by rw [HSen.out, t1]; rfl), (hnx.alloc hnx.size _).grown hg1 (by have := hnx.size; simp; omega) (fun j hj => by cases hj; exact Nat.le_refl _)⟩
            case measure => simp [intOf]; omega
          · have t1 : (z % 3 == 1) = false := by simp [hm]
            have t2 : (z % 3 == 2) = false := by simp [hm]
            have HM := Hid.mk hm
            have HSen := Hid.mk hsen
            clear hm hsen
            go_wp2
            go_roundw
            case rel => exact ⟨k + 1, D, by go_num, hk16, hown.mono (by omega), hD.skip hk16 (by rw [HSen.out, t1]), hnx⟩
            case measure => simp [intOf]; omega
        · have hlt' : ¬ (k : Int) < (jl : Int) := by omega
          go_wp2
          go_meet
          case rel => exact jm_done hown hD hnx (fun i _ hi => by simp [senOf]; omega)
      · have hk' : ¬ (k : Int) < 16 := by omega
        go_wp2
        go_meet
        case rel => exact jm_done hown hD hnx (fun i hi hki => by omega)
  case rest =>
    obtain ⟨hnext, hnx1⟩ := hcut
    obtain ⟨V1, rfl⟩ : ∃ X, X = wc := ⟨_, rfl⟩
    have m1 := make_z Yba.underlying27 Yba.info25 nu hnu
    have m2 := make_z Yba.underlying28 Yba.info31 nu hnu
    have m3 := run_makeMapN 24 9 25 Yba.underlying24
    go_upto_block 3 with fail
    clear m1 m2 m3
    go_cut [88] (fun _ W => LDone V1 9 nu V1.heap.size (kU ⟨#[117]⟩) (LL U) W)
    case first =>
      go_wp2_with fail
      go_loopw [88] (fun j wr => LRel V1 9 nu V1.heap.size (kU ⟨#[117]⟩) (LL U) j wr) (fun j _ => nu - (intOf j).toNat)
      case atStart => exact ⟨0, fun _ => 0, fun _ => 0, rfl, Nat.zero_le _, Half.start _ _ _ _ _ _ _⟩
      case round =>
        obtain ⟨k, g, gi, rfl, hk, hh⟩ := hrel
        by_cases hlt : k < nu
        · obtain ⟨b, off, hav, hb, a0, a1, a2, b0, b1, b2⟩ := hU k hlt
          subst hav
          have hbw : Below b.succ w wr := (hnx1.mono (by omega)).trans (hh.below.mono (by have := hnx1.size; omega))
          have d0 : wr.cell? ⟨b, off + k * 3, none⟩ = _ := (hbw.cell (Nat.lt_succ_self b)).trans a0
          have d1 : wr.cell? ⟨b, off + k * 3 + 1, none⟩ = _ := (hbw.cell (Nat.lt_succ_self b)).trans a1
          have d2 : wr.cell? ⟨b, off + k * 3 + 2, none⟩ = _ := (hbw.cell (Nat.lt_succ_self b)).trans a2
          obtain ⟨D, hD, hD2⟩ := hh.mp
          obtain ⟨l24, l16⟩ := LL_ok U k
          have hmx : k < maxLen := by unfold maxLen; omega
          have hkey := kU_key (pre := ⟨#[117]⟩) (by decide) (i := k) (by omega)
          have hadd := add_pre ⟨#[117]⟩ (by decide) k (by omega)
          clear a0 a1 a2 hbw
          go_wp2_with (first | (go_at_call 5; refine (cidxU U k b0 b1 b2 _).mono ?_; rintro e W2 ⟨gi', rfl, hi2, hb2⟩; obtain ⟨⟨ux, cx⟩, fx⟩ := half_x hh hlt hb2) | (go_at_call 6; refine (cnames' (LL U k) l24 l16 gi' _ _ _ (half_row hh hi2).1 (half_row hh hi2).2).mono ?_; rintro e W4 ⟨g', rfl, hr4, hb4⟩; obtain ⟨⟨ul, cl⟩, fl⟩ := half_l hh hlt hb2 hb4))
          have s0 : (W4.setCell ⟨V1.heap.size, k, none⟩ (.slice (some ⟨g', 0, none⟩) (LL U k).length (LL U k).length)).cell? ⟨V1.heap.size, k, none⟩ = some (.slice (some ⟨g', 0, none⟩) (LL U k).length (LL U k).length) := World.cell?_setCell_same _ _ _ cl
          have s1 : (W4.setCell ⟨V1.heap.size, k, none⟩ (.slice (some ⟨g', 0, none⟩) (LL U k).length (LL U k).length)).drew.cell? ⟨V1.heap.size, k, none⟩ = some (.slice (some ⟨g', 0, none⟩) (LL U k).length (LL U k).length) := s0
          have lb4 : V1.heap.size < (W4.setCell ⟨V1.heap.size, k, none⟩ (.slice (some ⟨g', 0, none⟩) (LL U k).length (LL U k).length)).heap.size := cell_lt s0
          go_region_held3 (fun w' => w'.cell? ⟨V1.heap.size, k, none⟩ = some (.slice (some ⟨g', 0, none⟩) (LL U k).length (LL U k).length)) (first | exact s1 | exact cc | exact cc7 | go_keep) (first | (go_at_call 7; refine (cnum k (by omega) _).mono ?_; rintro e W6 ⟨rfl, hb6⟩; have hb6' := below_undrew hb6; have hm6 := half_m hD hb2 hb4 hb6'; obtain ⟨W7, hrun7, hm7, hg7⟩ := hm6.update law9 Yba.underlying24 hmx hkey (rfl : valR (.slice (some ⟨g', 0, none⟩) (LL U k).length (LL U k).length) = _); have hrun8 : (Instr.mapUpdate 24 (.map (some (V1.heap.size + 1 + 1))) (.string (⟨#[117]⟩ ++ numB k)) (.slice (some ⟨g', 0, none⟩) (LL U k).length (LL U k).length)).run Yba.prog W6 = _ := hrun7; have cc : W6.cell? ⟨V1.heap.size, k, none⟩ = some (.slice (some ⟨g', 0, none⟩) (LL U k).length (LL U k).length) := (hb6'.cell (by exact lb4)).trans s0; have cc7 : W7.cell? ⟨V1.heap.size, k, none⟩ = some (.slice (some ⟨g', 0, none⟩) (LL U k).length (LL U k).length) := hg7.cell cc (by simp)))
          go_wp2
          go_roundw
          case rel => exact ⟨k + 1, _, _, by go_num, hlt, Half.step' hh hlt hD hD2 (kS_isKey _) (fun i hi e => by have := kU_inj (by omega) (by omega) e; omega) hb2 hi2 hb4 hr4 hb6' hm7 hg7⟩
          case measure => simp [intOf]; omega
        · go_wp2
          go_meet
          case rel =>
            obtain rfl : k = nu := by omega
            exact ⟨g, gi, hh⟩
    case rest =>
      obtain ⟨gu, giu, hhu⟩ := hcut
      obtain ⟨V2, rfl⟩ : ∃ X, X = wc := ⟨_, rfl⟩
      have hnx2 := below_all hnx1 hhu.below (Nat.le_refl _)
      have m1 := make_z Yba.underlying27 Yba.info25 na hna
      have m2 := make_z Yba.underlying28 Yba.info31 na hna
      have m3 := run_makeMapN 24 9 25 Yba.underlying24
      go_upto_block 5 with fail
      clear m1 m2 m3
      go_cut [126] (fun _ W => LDone V2 9 na V2.heap.size (kU ⟨#[97]⟩) (LL A) W)
      case first =>
        go_wp2_with fail
        go_loopw [126] (fun j wr => LRel V2 9 na V2.heap.size (kU ⟨#[97]⟩) (LL A) j wr) (fun j _ => na - (intOf j).toNat)
        case atStart => exact ⟨0, fun _ => 0, fun _ => 0, rfl, Nat.zero_le _, Half.start _ _ _ _ _ _ _⟩
        case round =>
          obtain ⟨k, g, gi, rfl, hk, hh⟩ := hrel
          by_cases hlt : k < na
          · obtain ⟨b, off, hav, hb, a0, a1, a2, b0, b1, b2⟩ := hA k hlt
            subst hav
            have hbw : Below b.succ w wr := (hnx2.mono (by omega)).trans (hh.below.mono (by have := hnx2.size; omega))
            have d0 : wr.cell? ⟨b, off + k * 3, none⟩ = _ := (hbw.cell (Nat.lt_succ_self b)).trans a0
            have d1 : wr.cell? ⟨b, off + k * 3 + 1, none⟩ = _ := (hbw.cell (Nat.lt_succ_self b)).trans a1
            have d2 : wr.cell? ⟨b, off + k * 3 + 2, none⟩ = _ := (hbw.cell (Nat.lt_succ_self b)).trans a2
            obtain ⟨D, hD, hD2⟩ := hh.mp
            obtain ⟨l24, l16⟩ := LL_ok A k
            have hmx : k < maxLen := by unfold maxLen; omega
            have hkey := kU_key (pre := ⟨#[97]⟩) (by decide) (i := k) (by omega)
            have hadd := add_pre ⟨#[97]⟩ (by decide) k (by omega)
            clear a0 a1 a2 hbw
            go_wp2_with (first | (go_at_call 5; refine (cidxU A k b0 b1 b2 _).mono ?_; rintro e W2 ⟨gi', rfl, hi2, hb2⟩; obtain ⟨⟨ux, cx⟩, fx⟩ := half_x hh hlt hb2) | (go_at_call 6; refine (cnames' (LL A k) l24 l16 gi' _ _ _ (half_row hh hi2).1 (half_row hh hi2).2).mono ?_; rintro e W4 ⟨g', rfl, hr4, hb4⟩; obtain ⟨⟨ul, cl⟩, fl⟩ := half_l hh hlt hb2 hb4))
            have s0 : (W4.setCell ⟨V2.heap.size, k, none⟩ (.slice (some ⟨g', 0, none⟩) (LL A k).length (LL A k).length)).cell? ⟨V2.heap.size, k, none⟩ = some (.slice (some ⟨g', 0, none⟩) (LL A k).length (LL A k).length) := World.cell?_setCell_same _ _ _ cl
            have s1 : (W4.setCell ⟨V2.heap.size, k, none⟩ (.slice (some ⟨g', 0, none⟩) (LL A k).length (LL A k).length)).drew.cell? ⟨V2.heap.size, k, none⟩ = some (.slice (some ⟨g', 0, none⟩) (LL A k).length (LL A k).length) := s0
            have lb4 : V2.heap.size < (W4.setCell ⟨V2.heap.size, k, none⟩ (.slice (some ⟨g', 0, none⟩) (LL A k).length (LL A k).length)).heap.size := cell_lt s0
            go_region_held3 (fun w' => w'.cell? ⟨V2.heap.size, k, none⟩ = some (.slice (some ⟨g', 0, none⟩) (LL A k).length (LL A k).length)) (first | exact s1 | exact cc | exact cc7 | go_keep) (first | (go_at_call 7; refine (cnum k (by omega) _).mono ?_; rintro e W6 ⟨rfl, hb6⟩; have hb6' := below_undrew hb6; have hm6 := half_m hD hb2 hb4 hb6'; obtain ⟨W7, hrun7, hm7, hg7⟩ := hm6.update law9 Yba.underlying24 hmx hkey (rfl : valR (.slice (some ⟨g', 0, none⟩) (LL A k).length (LL A k).length) = _); have hrun8 : (Instr.mapUpdate 24 (.map (some (V2.heap.size + 1 + 1))) (.string (⟨#[97]⟩ ++ numB k)) (.slice (some ⟨g', 0, none⟩) (LL A k).length (LL A k).length)).run Yba.prog W6 = _ := hrun7; have cc : W6.cell? ⟨V2.heap.size, k, none⟩ = some (.slice (some ⟨g', 0, none⟩) (LL A k).length (LL A k).length) := (hb6'.cell (by exact lb4)).trans s0; have cc7 : W7.cell? ⟨V2.heap.size, k, none⟩ = some (.slice (some ⟨g', 0, none⟩) (LL A k).length (LL A k).length) := hg7.cell cc (by simp)))
            go_wp2
            go_roundw
            case rel => exact ⟨k + 1, _, _, by go_num, hlt, Half.step' hh hlt hD hD2 (kS_isKey _) (fun i hi e => by have := kU_inj (by omega) (by omega) e; omega) hb2 hi2 hb4 hr4 hb6' hm7 hg7⟩
            case measure => simp [intOf]; omega
          · go_wp2
            go_meet
            case rel =>
              obtain rfl : k = na := by omega
              exact ⟨g, gi, hh⟩
      case rest =>
        obtain ⟨ga, gia, hha⟩ := hcut
        obtain ⟨V3, rfl⟩ : ∃ X, X = wc := ⟨_, rfl⟩
        have hnx3 := below_all hnx2 hha.below (Nat.le_refl _)
        have m1 := make_z Yba.underlying27 Yba.info25 ng hng
        have m2 := make_z Yba.underlying28 Yba.info31 ng hng
        have m3 := run_makeMapN 34 36 25 Yba.underlying34
        go_upto_block 7 with fail
        clear m1 m2 m3
        go_cut [164] (fun _ W => LDone V3 36 ng V3.heap.size kP (LL G) W)
        case first =>
          go_wp2_with fail
          go_loopw [164] (fun j wr => LRel V3 36 ng V3.heap.size kP (LL G) j wr) (fun j _ => ng - (intOf j).toNat)
          case atStart => exact ⟨0, fun _ => 0, fun _ => 0, rfl, Nat.zero_le _, Half.start _ _ _ _ _ _ _⟩
          case round =>
            obtain ⟨k, g, gi, rfl, hk, hh⟩ := hrel
            by_cases hlt : k < ng
            · obtain ⟨b, off, hav, hb, a0, a1, a2, b0, b1, b2⟩ := hG k hlt
              subst hav
              have hbw : Below b.succ w wr := (hnx3.mono (by omega)).trans (hh.below.mono (by have := hnx3.size; omega))
              have d0 : wr.cell? ⟨b, off + k * 3, none⟩ = _ := (hbw.cell (Nat.lt_succ_self b)).trans a0
              have d1 : wr.cell? ⟨b, off + k * 3 + 1, none⟩ = _ := (hbw.cell (Nat.lt_succ_self b)).trans a1
              have d2 : wr.cell? ⟨b, off + k * 3 + 2, none⟩ = _ := (hbw.cell (Nat.lt_succ_self b)).trans a2
              obtain ⟨D, hD, hD2⟩ := hh.mp
              obtain ⟨l24, l16⟩ := LL_ok G k
              have hmx : k < maxLen := by unfold maxLen; omega
              have hkey := kP_key (i := k) (by omega)
              have hadd := add_pre ⟨#[111]⟩ (by decide) k (by omega)
              clear a0 a1 a2 hbw
              go_wp2_with (first | (go_at_call 5; refine (cidxU G k b0 b1 b2 _).mono ?_; rintro e W2 ⟨gi', rfl, hi2, hb2⟩; obtain ⟨⟨ux, cx⟩, fx⟩ := half_x hh hlt hb2) | (go_at_call 6; refine (cnames' (LL G k) l24 l16 gi' _ _ _ (half_row hh hi2).1 (half_row hh hi2).2).mono ?_; rintro e W4 ⟨g', rfl, hr4, hb4⟩; obtain ⟨⟨ul, cl⟩, fl⟩ := half_l hh hlt hb2 hb4))
              have s0 : (W4.setCell ⟨V3.heap.size, k, none⟩ (.slice (some ⟨g', 0, none⟩) (LL G k).length (LL G k).length)).cell? ⟨V3.heap.size, k, none⟩ = some (.slice (some ⟨g', 0, none⟩) (LL G k).length (LL G k).length) := World.cell?_setCell_same _ _ _ cl
              have s1 : (W4.setCell ⟨V3.heap.size, k, none⟩ (.slice (some ⟨g', 0, none⟩) (LL G k).length (LL G k).length)).drew.cell? ⟨V3.heap.size, k, none⟩ = some (.slice (some ⟨g', 0, none⟩) (LL G k).length (LL G k).length) := s0
              have lb4 : V3.heap.size < (W4.setCell ⟨V3.heap.size, k, none⟩ (.slice (some ⟨g', 0, none⟩) (LL G k).length (LL G k).length)).heap.size := cell_lt s0
              go_region_held3 (fun w' => w'.cell? ⟨V3.heap.size, k, none⟩ = some (.slice (some ⟨g', 0, none⟩) (LL G k).length (LL G k).length)) (first | exact s1 | exact cc | exact cc7 | go_keep) (first | (go_at_call 7; refine (cnum k (by omega) _).mono ?_; rintro e W6 ⟨rfl, hb6⟩; have hb6' := below_undrew hb6; have hm6 := half_m hD hb2 hb4 hb6'; obtain ⟨W7, hrun7, hm7, hg7⟩ := hm6.update law36 Yba.underlying34 hmx hkey (rfl : valR (.slice (some ⟨g', 0, none⟩) (LL G k).length (LL G k).length) = _); have hrun8 : (Instr.mapUpdate 34 (.map (some (V3.heap.size + 1 + 1))) (.agg #[.string (⟨#[111]⟩ ++ numB k), .string ⟨#[118]⟩]) (.slice (some ⟨g', 0, none⟩) (LL G k).length (LL G k).length)).run Yba.prog W6 = _ := hrun7; have cc : W6.cell? ⟨V3.heap.size, k, none⟩ = some (.slice (some ⟨g', 0, none⟩) (LL G k).length (LL G k).length) := (hb6'.cell (by exact lb4)).trans s0; have cc7 : W7.cell? ⟨V3.heap.size, k, none⟩ = some (.slice (some ⟨g', 0, none⟩) (LL G k).length (LL G k).length) := hg7.cell cc (by simp)))
              go_wp2
              go_roundw
              case rel => exact ⟨k + 1, _, _, by go_num, hlt, Half.step' hh hlt hD hD2 (kP_lit _) (fun i hi e => by have := kP_inj (by omega) (by omega) e; omega) hb2 hi2 hb4 hr4 hb6' hm7 hg7⟩
              case measure => simp [intOf]; omega
            · go_wp2
              go_meet
              case rel =>
                obtain rfl : k = ng := by omega
                exact ⟨g, gi, hh⟩
        case rest =>
          obtain ⟨gg, gig, hhg⟩ := hcut
          obtain ⟨V4, rfl⟩ : ∃ X, X = wc := ⟨_, rfl⟩
          have hnx4 := below_all hnx3 hhg.below (Nat.le_refl _)
          have b34 : Below V3.heap.size V3 V4 := hhg.below
          have b24 : Below V2.heap.size V2 V4 := below_all hha.below b34 (Nat.le_refl _)
          have b14 : Below V1.heap.size V1 V4 := below_all hhu.below b24 (Nat.le_refl _)
          obtain ⟨fu, tu, pu, qu⟩ := fam_at hhu hnu (LL_ok U) b24
          obtain ⟨fa, ta, pa, qa⟩ := fam_at hha hna (LL_ok A) b34
          obtain ⟨fg, tg, pg, qg⟩ := fam_at hhg hng (LL_ok G) (Below.refl _ _)
          have n4 := hnext.below b14 hnext.lt
          have lj : w.heap.size < V4.heap.size := Nat.lt_of_lt_of_le hnext.lt b14.size
          have jr4 := hjr.below hnx4
          clear hnext hnx1 hnx2 hnx3 b34 b24 b14 hhu hha hhg hU hA hG hjr
          go_wp2_with fail
          refine (makeSets V4.heap.size (V1.heap.size + 2) (V2.heap.size + 2) (V3.heap.size + 2) w.heap.size nu na ng nu na ng (kU ⟨#[117]⟩) (kU ⟨#[97]⟩) kP gu ga gg (LL U) (LL A) (LL G) (senOf jl zs) (fun i => ⟨#[111]⟩ ++ numB i) (fun _ => ⟨#[118]⟩) _ (.map none) (.map none) (.map none) ⟨by simp, by simp, by simp, by simp, by simp, by simp, by simp, fun i => by simp⟩ (by simp) (n4.below ((Below.refl V4.heap.size V4).alloc (Nat.le_refl _) _) lj) lj (fu.alloc pu qu _) (fa.alloc pa qa _) pa qa (fg.alloc pg qg _) pg qg (fun i hi => kP_key (by omega))).mono ?_
          rintro e V5 ⟨rfl, v1, v2, v3, hP5, hs1, hs2, hs3, hb5⟩
          have b45 : Below V4.heap.size V4 V5 := ((Below.refl V4.heap.size V4).alloc (Nat.le_refl _) _).trans hb5
          have l5 : V4.heap.size < V5.heap.size := cell_lt hP5.us
          have tu5 := tu.below b45
          have ta5 := ta.below b45
          have tg5 := tg.below b45
          have jr5 := jr4.below b45
          have hnx5 := below_all hnx4 b45 (by have := hnx4.size; omega)
          clear tu ta tg jr4 fu fa fg n4 hb5
          have c1 := hP5.us
          go_wp2_with fail
          refine (cstr nu V1.heap.size (V1.heap.size + 1) nu (V4.heap.size + 1) v1 hnu ⟨#[117]⟩ (by decide) (kU ⟨#[117]⟩) gu giu (LL U) aj jl jc zs _ tu5 jr5 hs1 ⟨fun i hi => kU_key (by decide) (by omega), fun i j hi hj e => kU_inj (by omega) (by omega) e⟩).mono ?_
          rintro e V6 ⟨rfl, hb6⟩
          have hP6 := hP5.below hb6 l5
          have hs26 := hs2.kept (grown_of_below hb6) (fun j hj => by cases hj)
          have hs36 := hs3.kept (grown_of_below hb6) (fun j hj => by cases hj)
          have ta6 := ta5.below hb6
          have tg6 := tg5.below hb6
          have jr6 := jr5.below hb6
          have hnx6 := below_all hnx5 hb6 (by have := hnx5.size; omega)
          have l6 : V4.heap.size < V6.heap.size := cell_lt hP6.us
          clear tu5 ta5 tg5 jr5 hs1 hs2 hs3 hP5 c1 hb6
          have c1 := hP6.aset
          go_wp2_with fail
          refine (cstr na V2.heap.size (V2.heap.size + 1) na (V4.heap.size + 1) v2 hna ⟨#[97]⟩ (by decide) (kU ⟨#[97]⟩) ga gia (LL A) aj jl jc zs _ ta6 jr6 hs26 ⟨fun i hi => kU_key (by decide) (by omega), fun i j hi hj e => kU_inj (by omega) (by omega) e⟩).mono ?_
          rintro e V7 ⟨rfl, hb7⟩
          have hP7 := hP6.below hb7 l6
          have hs37 := hs36.kept (grown_of_below hb7) (fun j hj => by cases hj)
          have tg7 := tg6.below hb7
          have jr7 := jr6.below hb7
          have hnx7 := below_all hnx6 hb7 (by have := hnx6.size; omega)
          have l7 : V4.heap.size < V7.heap.size := cell_lt hP7.us
          clear ta6 tg6 jr6 hs26 hs36 hP6 c1 hb7 hmm
          have hkP : Keys' 36 ng (fun i => .agg #[.string (⟨#[111]⟩ ++ numB i), .string ⟨#[118]⟩]) kP := ⟨fun i hi => kP_key (by omega), fun i j hi hj e => kP_inj (by omega) (by omega) e⟩
          rcases hs37 with ⟨rfl, hno⟩ | ⟨bs, Ds, rfl, hsm, i0, hi0, _, hl0⟩
          · have hno' : ∀ i, i < ng → ¬ 8 < (LL G i).length := fun i hi => hno i hi rfl
            have heq : ∀ (w : World) (r : Option Nat), _ := fun w r => run_eql_map_nil (P := Yba.prog) w 63 36 76 r Yba.underlying63
            go_wp2_with fail
            go_loopw [27, 229] (fun lg j wr => StrRel (LL G) ng V7 lg j wr) (fun _ j _ => ng - (intOf j).toNat)
            case atStart => exact ⟨0, rfl, Nat.zero_le _, rfl, Below.refl _ _⟩
            case round =>
              obtain ⟨k, rfl, hk, rfl, hnx⟩ := hrel
              have hP8 := hP7.below hnx l7
              have c1 := hP8.gs
              by_cases hlt : k < ng
              · have hsh := hno' k hlt
                have hadd := add_pre ⟨#[111]⟩ (by decide) k (by omega)
                have hkey : ∀ W : World, (Instr.lookup 63 (.map none) (.agg #[.string (⟨#[111]⟩ ++ numB k), .string ⟨#[118]⟩]) true).run Yba.prog W = .ok (.tuple #[.pointer none, .bool false]) W := fun W => by
                  have := Maps.look_nil (w := W) true law36 Yba.underlying63 (zero76 W) (kP_key (i := k) (by omega))
                  simpa using this
                have s1 : wr.drew.cell? ⟨V4.heap.size, 33, none⟩ = some (.map none) := c1
                have lw : V4.heap.size < wr.heap.size := cell_lt c1
                go_wp2_with fail
                go_region_held3 (fun w' => w'.cell? ⟨V4.heap.size, 33, none⟩ = some (.map none)) (first | exact s1 | exact cc | go_keep) (first | (go_at_call 7; refine (cnum k (by omega) _).mono ?_; rintro e X1 ⟨rfl, hb1⟩; have hb1' := below_undrew hb1; have cc : X1.cell? ⟨V4.heap.size, 33, none⟩ = some (.map none) := (hb1'.cell (by exact lw)).trans c1; have e1 : X1.cell? ⟨V3.heap.size, k, none⟩ = _ := (hb1'.cell (Nat.lt_of_lt_of_le tg7.lists.1 hnx.size)).trans ((hnx.cell tg7.lists.1).trans (tg7.lists.2 k hlt)); unfold lvOf at e1))
                go_wp2
                go_roundw
                case rel => exact ⟨k + 1, by go_num, hlt, by rw [longTo_no hsh], hnx.trans (hb1'.mono hnx.size)⟩
                case measure => simp [intOf]; omega
              · obtain rfl : k = ng := by omega
                have hz := longTo_zero hno'
                have hz2 : ((longTo (LL G) k : Int) == 0) = true := by rw [hz]; rfl
                clear hz
                go_wp2
                go_ret
                exact ⟨rfl, below_all hnx7 hnx (by have := hnx7.size; omega)⟩
          · go_wp2_with fail
            go_loopw [27, 229] (fun lg j wr => StrRel (LL G) ng V7 lg j wr) (fun _ j _ => ng - (intOf j).toNat)
            case atStart => exact ⟨0, rfl, Nat.zero_le _, rfl, Below.refl _ _⟩
            case round =>
              obtain ⟨k, rfl, hk, rfl, hnx⟩ := hrel
              have hP8 := hP7.below hnx l7
              have c1 := hP8.gs
              have hle := longTo_le (LL G) k
              have hsr := hsm.kept (grown_of_below hnx) (fun j hj => by cases hj)
              have htr := tg7.below hnx
              have hjrr := jr7.below hnx
              by_cases hlt : k < ng
              · have hadd := add_pre ⟨#[111]⟩ (by decide) k (by omega)
                have s1 : wr.drew.cell? ⟨V4.heap.size, 33, none⟩ = some (.map (some bs)) := c1
                have lw : V4.heap.size < wr.heap.size := cell_lt c1
                by_cases hl : 8 < (LL G k).length
                · obtain ⟨r1, r2, r3, r4⟩ := htr.rows k hlt
                  obtain ⟨q1, q2⟩ := htr.irows k hlt
                  go_wp2_with fail
                  go_region_held3 (fun w' => w'.cell? ⟨V4.heap.size, 33, none⟩ = some (.map (some bs))) (first | exact s1 | exact cc | go_keep) (first | (go_at_call 7; refine (cnum k (by omega) _).mono ?_; rintro e X1 ⟨rfl, hb1⟩; have hb1' := below_undrew hb1; have cc : X1.cell? ⟨V4.heap.size, 33, none⟩ = some (.map (some bs)) := (hb1'.cell (by exact lw)).trans c1; have e1 : X1.cell? ⟨V3.heap.size, k, none⟩ = _ := (hb1'.cell htr.lists.1).trans (htr.lists.2 k hlt); unfold lvOf at e1; have e2 : X1.cell? ⟨V3.heap.size + 1, k, none⟩ = _ := (hb1'.cell htr.idxs.1).trans (htr.idxs.2 k hlt); unfold lvOf at e2; obtain ⟨s, hrun, hss⟩ := look_long (t := 63) (hsr.kept (grown_of_below hb1') (fun j hj => by cases hj)) law36 hkP Yba.underlying63 hlt hl))
                  unfold lvOf at hss
                  have hssd := hss.drew
                  have r4d := World.ownsRow.drew (r4.kept (grown_of_below hb1') (.inr (by simp [Value.ownBlock])))
                  have q2d := World.ownsRow.drew (q2.kept (grown_of_below hb1') (.inr (by simp [Value.ownBlock])))
                  have r3d : gg k < X1.drew.heap.size := Nat.lt_of_lt_of_le r3 hb1'.size
                  have q1d : gig k < X1.drew.heap.size := Nat.lt_of_lt_of_le q1 hb1'.size
                  have hjd := hjrr.below hb1'.drew
                  go_wp2_with fail
                  go_region_held3 (fun w' => w'.cell? ⟨V3.heap.size, k, none⟩ = some (.slice (some ⟨gg k, 0, none⟩) (LL G k).length (LL G k).length) ∧ w'.cell? ⟨V3.heap.size + 1, k, none⟩ = some (.slice (some ⟨gig k, 0, none⟩) (LL G k).length (LL G k).length)) (go_keep) (first | (go_at_call 10; refine (cone (LL G k) r1 hl r2 s (gg k) (gig k) (bs + 1) (LL G k).length aj jl jc zs X1.drew hssd r4d r3d q2d q1d hjd).mono ?_; rintro e X2 ⟨rfl, hb2⟩; have cc1 : X2.cell? ⟨V3.heap.size, k, none⟩ = _ := (hb2.cell (Nat.lt_of_lt_of_le htr.lists.1 hb1'.size)).trans e1; have cc2 : X2.cell? ⟨V3.heap.size + 1, k, none⟩ = _ := (hb2.cell (Nat.lt_of_lt_of_le htr.idxs.1 hb1'.size)).trans e2))
                  go_wp2
                  go_roundw
                  case rel => exact ⟨k + 1, by go_num, hlt, by rw [longTo_yes hl]; go_num, (hnx.trans (hb1'.mono hnx.size)).trans ((below_undrew hb2).mono (Nat.le_trans hnx.size hb1'.size))⟩
                  case measure => simp [intOf]; omega
                · go_wp2_with fail
                  go_region_held3 (fun w' => w'.cell? ⟨V4.heap.size, 33, none⟩ = some (.map (some bs))) (first | exact s1 | exact cc | go_keep) (first | (go_at_call 7; refine (cnum k (by omega) _).mono ?_; rintro e X1 ⟨rfl, hb1⟩; have hb1' := below_undrew hb1; have cc : X1.cell? ⟨V4.heap.size, 33, none⟩ = some (.map (some bs)) := (hb1'.cell (by exact lw)).trans c1; have e1 : X1.cell? ⟨V3.heap.size, k, none⟩ = _ := (hb1'.cell htr.lists.1).trans (htr.lists.2 k hlt); unfold lvOf at e1; have hrun := look_short (t := 63) (hsr.kept (grown_of_below hb1') (fun j hj => by cases hj)) law36 hkP Yba.underlying63 hlt hl))
                  go_wp2
                  go_roundw
                  case rel => exact ⟨k + 1, by go_num, hlt, by rw [longTo_no hl], hnx.trans (hb1'.mono hnx.size)⟩
                  case measure => simp [intOf]; omega
              · obtain rfl : k = ng := by omega
                have hpos := longTo_pos hi0 hl0
                have hz2 : ((longTo (LL G) k : Int) == 0) = false := by rw [beq_eq_false_iff_ne]; omega
                have hsize := hsm.size law36 hkP
                go_wp2_with (at_len; refine wpList_len_own _ rfl _ 63 rfl 36 76 Yba.underlying63 _ bs _ Ds rfl hsr.own ?_)
                go_ret
                exact ⟨rfl, below_all hnx7 hnx (by have := hnx7.size; omega)⟩
end Go.Proofs.Ybulkbndy
