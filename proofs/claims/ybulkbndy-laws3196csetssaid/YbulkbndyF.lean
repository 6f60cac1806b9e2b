/-
  'zzs3196cone': the check of one startSet.
-/
import Derived.Test.YbulkbndyE
import Derived.BigQuiet
import Derived.LaidEqlPtr
import Derived.Lib.Builder
namespace Go.Proofs.Ybulkbndy
open Go.RowKit Go.Maps

/-- 'jr', which came in. -/
def JrAt (w : World) (a : Option Addr) (len : Nat) (zs : List Int) : Prop :=
  ∀ i, i < len → ∃ b off, a = some ⟨b, off, none⟩ ∧ b < w.heap.size ∧ w.cell? ⟨b, off + i, none⟩ = some (.int .u8 (zs.getD i 0)) ∧ 0 ≤ zs.getD i 0 ∧ zs.getD i 0 ≤ 255
def senOf (len : Nat) (zs : List Int) (i : Nat) : Bool := decide (i < len) && (zs.getD i 0 % 3 == 1)

theorem JrAt.below {w w' : World} {a : Option Addr} {len : Nat} {zs : List Int} (h : JrAt w a len zs) (hb : Below w.heap.size w w') : JrAt w' a len zs := fun i hi => by
  obtain ⟨b, off, h1, h2, h3, h4⟩ := h i hi
  exact ⟨b, off, h1, Nat.lt_of_lt_of_le h2 hb.size, (hb.cell (by exact h2)).trans h3, h4⟩

theorem csenior (a : Option Addr) (len cap : Nat) (zs : List Int) (i : Nat) (w : World) (h : JrAt w a len zs) :
    Calls Yba.prog 13 #[.slice a len cap, .int .i64 i] w fun e w' => e = .returned (.bool (senOf len zs i)) ∧ w' = w := by
  by_cases hi : i < len
  · obtain ⟨b, off, rfl, _, h3, h4⟩ := h i hi
    have := csenior_lt b off len cap i _ w hi h4 h3
    simpa [senOf, hi] using this
  · have := csenior_ge a len cap i w (by omega)
    simpa [senOf, hi] using this

theorem neq86 (a : Addr) (w : World) : (binOp .neq 86 (.pointer (some a)) (.pointer (some a))).run Yba.prog w = .ok (.bool false) w := by
  obtain ⟨i0, hi, _⟩ := info_parts Yba.info9
  exact Lib.run_neq_ptr_same w a Yba.underlying86 hi
theorem Yba.isSome85 : (Yba.prog.info? 85).isSome = true := by kernel_rfl
theorem eql76 (a : Addr) (w : World) : (binOp .eql 76 (.pointer (some a)) (.pointer (some a))).run Yba.prog w = .ok (.bool true) w := by
  obtain ⟨i0, hi⟩ := Option.isSome_iff_exists.1 Yba.isSome85
  exact run_eql_ptr_same w a Yba.underlying76 hi

/-- Which of the sixteen have been seen. -/
def seenB (M : List Nat) (i : Nat) : Bool := (dset M).contains i
def seenArr (M : List Nat) : Array Value := ((List.range 16).map fun i => Value.bool (seenB M i)).toArray

def CRel1 (L : List Nat) (w : World) (d j : Value) (wr : World) : Prop :=
  ∃ k : Nat, j = .int .i64 k ∧ k ≤ L.length ∧ d = .int .i64 ((dset (L.take k)).length : Int) ∧ wr.heap[w.heap.size]? = some (.cells (seenArr (L.take k)) 87 (0, 0)) ∧ Below w.heap.size w wr
/-- How many of the first k are senior. -/
def cntS (L : List Nat) (sen : Nat → Bool) (k : Nat) : Nat := ((L.take k).filter sen).length
def CRel2 (L : List Nat) (sen : Nat → Bool) (w : World) (d j : Value) (wr : World) : Prop :=
  ∃ k : Nat, j = .int .i64 k ∧ k ≤ L.length ∧ d = .int .i64 (cntS L sen k : Int) ∧ Below w.heap.size w wr
theorem cntS_le (L : List Nat) (sen : Nat → Bool) (k : Nat) : cntS L sen k ≤ k := Nat.le_trans (List.length_filter_le _ _) (List.length_take_le _ _)
theorem cntS_all (L : List Nat) (sen : Nat → Bool) : cntS L sen L.length = (L.filter sen).length := by unfold cntS; rw [List.take_length]
theorem cntS_yes {L : List Nat} {sen : Nat → Bool} {k i : Nat} (h : L[k]? = some i) (hs : sen i = true) : cntS L sen (k + 1) = cntS L sen k + 1 ∧ (L.filter sen)[cntS L sen k]? = some i := by
  have hk : k < L.length := (List.getElem?_eq_some_iff.1 h).1
  refine ⟨by unfold cntS; rw [take_snoc' h]; simp [hs], ?_⟩
  have e : L = L.take k ++ i :: L.drop (k + 1) := by
    have e1 : L[k] = i := (List.getElem?_eq_some_iff.1 h).2
    rw [← e1, ← List.drop_eq_getElem_cons hk, List.take_append_drop]
  have e2 : L.filter sen = (L.take k).filter sen ++ i :: (L.drop (k + 1)).filter sen :=
    (congrArg (List.filter sen) e).trans (by simp [List.filter_append, hs])
  rw [e2]
  unfold cntS
  rw [List.getElem?_append_right (Nat.le_refl _)]
  simp
theorem cntS_no {L : List Nat} {sen : Nat → Bool} {k i : Nat} (h : L[k]? = some i) (hs : sen i = false) : cntS L sen (k + 1) = cntS L sen k := by
  unfold cntS; rw [take_snoc' h]; simp [hs]
theorem row_any {w : World} {base : Nat} {v : Value} {n : Nat} {xs : List Value} (h : w.ownsRow base 9 1 v n xs) : ∃ va vc, v = .slice va n vc ∧ ∀ j, j < n → ∃ g, va = some ⟨g, 0, none⟩ ∧ g < w.heap.size ∧ w.cell? ⟨g, j, none⟩ = xs[j]? := by
  rcases h.2 with ⟨rfl, rfl⟩ | ⟨g, cap, cur, rfl, r⟩
  · exact ⟨none, 0, rfl, fun j hj => by omega⟩
  · exact ⟨_, cap, rfl, fun j hj => ⟨g, rfl, (h.lt g rfl).2, h.cellAt j (by omega)⟩⟩

theorem dset_le (M : List Nat) : (dset M).length ≤ M.length := by
  suffices h : ∀ (l acc : List Nat), (l.foldl (fun acc x => if acc.contains x then acc else acc ++ [x]) acc).length ≤ acc.length + l.length by
    have := h M []
    simpa [dset] using this
  intro l
  induction l with
  | nil => intro acc; simp
  | cons a l ih =>
    intro acc
    rw [List.foldl_cons]
    refine Nat.le_trans (ih _) ?_
    split <;> simp <;> omega

theorem crel1_start {L : List Nat} {w : World} {nq : Nat} : CRel1 L w (.int .i64 0) (.int .i64 0) ((w.drewN nq).alloc (.cells #[Value.bool false, Value.bool false, Value.bool false, Value.bool false, Value.bool false, Value.bool false, Value.bool false, Value.bool false, Value.bool false, Value.bool false, Value.bool false, Value.bool false, Value.bool false, Value.bool false, Value.bool false, Value.bool false] 87)) := by
  refine ⟨0, rfl, Nat.zero_le _, rfl, heap_alloc_new (w.drewN nq) _, ?_⟩
  exact (below_drewN (Below.refl _ _) nq).alloc (Nat.le_refl _) _

theorem seenB_snoc (M : List Nat) (x i : Nat) : seenB (M ++ [x]) i = (seenB M i || decide (i = x)) := by
  unfold seenB
  rw [dset_snoc]
  split
  · rename_i h
    by_cases e : i = x
    · subst e; rw [h]; rfl
    · simp [e]
  · simp

theorem seenArr_old {M : List Nat} {x : Nat} (h : seenB M x = true) : seenArr (M ++ [x]) = seenArr M := by
  unfold seenArr
  congr 1
  apply List.map_congr_left
  intro i _
  rw [seenB_snoc]
  by_cases e : i = x
  · subst e; simp [h]
  · simp [e]

theorem seenArr_new {M : List Nat} {x : Nat} (hx : x < 16) : (seenArr M).setIfInBounds x (.bool true) = seenArr (M ++ [x]) := by
  apply Array.ext_getElem?
  intro i
  rw [Array.getElem?_setIfInBounds]
  by_cases e : x = i
  · subst e
    rw [if_pos rfl, if_pos (by simpa [seenArr] using hx)]
    simp [seenArr, hx, seenB_snoc]
  · rw [if_neg e]
    by_cases hi : i < 16
    · have e' : ¬ i = x := fun h => e h.symm
      simp [seenArr, hi, seenB_snoc, e']
    · simp [seenArr, hi]

theorem crel1_new {L : List Nat} {w wr : World} {k i nq : Nat} (hlt : k < L.length) (hi : L[k]? = some i) (hi16 : i < 16) (hc : seenB (L.take k) i = false) (hs : wr.heap[w.heap.size]? = some (.cells (seenArr (L.take k)) 87 (0, 0))) (hnx : Below w.heap.size w wr) :
    CRel1 L w (.int .i64 (((dset (L.take k)).length : Int) + 1)) (.int .i64 ((k : Int) + 1)) ((wr.drewN nq).setCell ⟨w.heap.size, i, none⟩ (.bool true)) := by
  refine ⟨k + 1, by go_num, hlt, ?_, ?_, (below_drewN hnx nq).setCell (Nat.le_refl _) _⟩
  · rw [take_snoc' hi, dset_snoc, if_neg (by unfold seenB at hc; rw [hc]; simp)]
    simp
  · have := heap_setCell_same (wr.drewN nq) w.heap.size i (seenArr (L.take k)) 87 (.bool true) hs
    rw [this, take_snoc' hi, seenArr_new hi16]

theorem crel1_old {L : List Nat} {w wr : World} {k i nq : Nat} (hlt : k < L.length) (hi : L[k]? = some i) (hc : seenB (L.take k) i = true) (hs : wr.heap[w.heap.size]? = some (.cells (seenArr (L.take k)) 87 (0, 0))) (hnx : Below w.heap.size w wr) :
    CRel1 L w (.int .i64 ((dset (L.take k)).length : Int)) (.int .i64 ((k : Int) + 1)) (wr.drewN nq) := by
  refine ⟨k + 1, by go_num, hlt, ?_, ?_, below_drewN hnx nq⟩
  · rw [take_snoc' hi, dset_snoc, if_pos (by unfold seenB at hc; exact hc)]
  · rw [take_snoc' hi, seenArr_old hc]
    exact hs

set_option maxHeartbeats 1000000 in
set_option maxRecDepth 100000 in
theorem cone (L : List Nat) (hL : L.length ≤ 24) (hL8 : 8 < L.length) (h16 : ∀ i ∈ L, i < 16) (s g gi base cap : Nat) (a : Option Addr) (jl jc : Nat) (zs : List Int) (w : World)
    (hss : SS w base s (.slice (some ⟨g, 0, none⟩) L.length cap) L (senOf jl zs)) (hr : w.ownsRow 0 9 1 (.slice (some ⟨g, 0, none⟩) L.length cap) L.length (strs' L)) (hg : g < w.heap.size)
    (hri : w.ownsRow 0 3 1 (.slice (some ⟨gi, 0, none⟩) L.length L.length) L.length (i64s L)) (hgi : gi < w.heap.size) (hjr : JrAt w a jl zs) :
    Calls Yba.prog 10 #[.pointer (some ⟨s, 0, none⟩), .slice (some ⟨g, 0, none⟩) L.length cap, .slice (some ⟨gi, 0, none⟩) L.length L.length, .slice a jl jc] w fun e w' => e = .returned (.bool true) ∧ Below w.heap.size w w' := by
  obtain ⟨⟨bi, v, al, D, m, h1, h2, h3, h4, h5, h6, h7⟩, hlo⟩ := hss
  obtain ⟨va, vc, rfl, hva⟩ := row_any h4
  have hall := cntS_all L (senOf jl zs)
  generalize hN : (L.filter (senOf jl zs)).length = N at *
  have HN := Hid.mk hN
  have HA := Hid.mk hall
  clear hN hall h4
  have hsl : s < w.heap.size := (Array.getElem?_eq_some_iff.1 h1).1
  have c0 := cell_at h1 0
  have c1 := cell_at h1 1
  have c2 := cell_at h1 2
  have c3 := cell_at h1 3
  have hLpos : 0 < L.length := by omega
  have hneq := neq86
  have H1 := Hid.mk h1
  clear h1
  go_enter Yba.func10, Yba.ntmps10
  go_wp2
  go_quiet (fail)
  go_wp2
  go_loopw [10, 41] (fun d j wr => CRel1 L w d j wr) (fun _ j _ => L.length - (intOf j).toNat)
  case atStart => exact crel1_start
  case round =>
    obtain ⟨k, rfl, hk, rfl, hseen, hnx⟩ := hrel
    have d0 : wr.cell? ⟨s, 0, none⟩ = _ := (hnx.cell (by exact hsl)).trans c0
    have d1 : wr.cell? ⟨s, 1, none⟩ = _ := (hnx.cell (by exact hsl)).trans c1
    have d2 : wr.cell? ⟨s, 2, none⟩ = _ := (hnx.cell (by exact hsl)).trans c2
    have d3 : wr.cell? ⟨s, 3, none⟩ = _ := (hnx.cell (by exact hsl)).trans c3
    have hmap := ownsMap_below h2 hnx h2.lt
    have hdl := dset_le (L.take k)
    have hdk : (L.take k).length ≤ k := List.length_take_le _ _
    have C0 := Hid.mk c0
    have C2 := Hid.mk c2
    have C3 := Hid.mk c3
    clear c0 c1 c2 c3
    by_cases hlt : k < L.length
    · obtain ⟨i, hiL⟩ : ∃ i, L[k]? = some i := ⟨_, List.getElem?_eq_getElem hlt⟩
      have hi16 : i < 16 := h16 i (List.mem_of_getElem? hiL)
      have e1 : wr.cell? ⟨g, k, none⟩ = some (.string (roleB i)) := by
        refine (hnx.cell (by exact hg)).trans ?_
        rw [hr.cellAt k (by omega)]
        simp [strs', hiL]
      have e2 : wr.cell? ⟨gi, k, none⟩ = some (.int .i64 (i : Int)) := by
        refine (hnx.cell (by exact hgi)).trans ?_
        rw [hri.cellAt k (by omega)]
        simp [i64s, hiL]
      have e3 : wr.cell? ⟨w.heap.size, i, none⟩ = some (.bool (seenB (L.take k) i)) := (cell_at hseen i).trans (by simp [seenArr, hi16])
      have e4 : wr.frozen? ⟨w.heap.size, i, none⟩ = false := free_at hseen i
      have hlk : ∀ nq, (Instr.lookup 58 (.map (some bi)) (.string (roleB i)) false).run Yba.prog (wr.drewN nq) = .ok (.bool true) (wr.drewN nq) := fun nq => by
        obtain ⟨u, ps, hrun, hu⟩ := (show (wr.drewN nq).ownsMap Yba.prog 9 valR bi m D from hmap).lookup law9 Yba.underlying58 (zero4 _) (zd := .held (.bool false)) (zp := []) rfl (key9 (s := roleB i) (by rw [role_size i hi16]; decide))
        rw [h3.val i (List.mem_of_getElem? hiL)] at hu
        have := (valR_inv hu).1
        simp only [DataW.held.injEq] at this
        rw [this]
        exact hrun
      have HI := Hid.mk hiL
      have HSe := Hid.mk hseen
      clear hiL hseen
      cases hc : seenB (L.take k) i
      · go_wp2
        go_quiet (fail)
        go_wp2
        go_quiet (fail)
        go_wp2
        go_roundw
        case rel => exact crel1_new hlt HI.out hi16 hc HSe.out hnx
        case measure => simp [intOf]; omega
      · go_wp2
        go_quiet (fail)
        go_wp2
        go_quiet (fail)
        go_wp2
        go_roundw
        case rel => exact crel1_old hlt HI.out hc HSe.out hnx
        case measure => simp [intOf]; omega
    · obtain rfl : k = L.length := by omega
      rw [List.take_length] at hdl ⊢
      have hsize := h3.size
      go_wp2_with (at_len; refine wpList_len_own _ rfl _ 58 rfl 9 4 Yba.underlying58 _ bi m D rfl hmap ?_)
      have e5 : wr.cell? ⟨al, 0, none⟩ = some (.pointer (some ⟨s, 0, none⟩)) := (hnx.cell (by exact (Array.getElem?_eq_some_iff.1 h5).1)).trans (cell_at h5 0)
      clear e5
      go_loopw [13, 86] (fun d j wr => CRel2 L (senOf jl zs) w d j wr) (fun _ j _ => L.length - (intOf j).toNat)
      case atStart => exact ⟨0, rfl, Nat.zero_le _, rfl, hnx⟩
      case round =>
        clear hseen hnx d0 d1 d2 d3 hmap hdl hdk
        obtain ⟨k, rfl, hk, rfl, hnx⟩ := hrel
        have d0 : wr.cell? ⟨s, 0, none⟩ = _ := (hnx.cell (by exact hsl)).trans C0.out
        have d2 : wr.cell? ⟨s, 2, none⟩ = _ := (hnx.cell (by exact hsl)).trans C2.out
        have d3 : wr.cell? ⟨s, 3, none⟩ = _ := (hnx.cell (by exact hsl)).trans C3.out
        have hck := cntS_le L (senOf jl zs) k
        by_cases hlt : k < L.length
        · obtain ⟨i, hiL⟩ : ∃ i, L[k]? = some i := ⟨_, List.getElem?_eq_getElem hlt⟩
          have hi16 : i < 16 := h16 i (List.mem_of_getElem? hiL)
          have e1 : wr.cell? ⟨g, k, none⟩ = some (.string (roleB i)) := by
            refine (hnx.cell (by exact hg)).trans ?_
            rw [hr.cellAt k (by omega)]
            simp [strs', hiL]
          have e2 : wr.cell? ⟨gi, k, none⟩ = some (.int .i64 (i : Int)) := by
            refine (hnx.cell (by exact hgi)).trans ?_
            rw [hri.cellAt k (by omega)]
            simp [i64s, hiL]
          have hjw := hjr.below hnx
          cases hsen : senOf jl zs i
          · have HC := Hid.mk (cntS_no hiL hsen)
            clear hiL
            go_wp2_with (go_at_call 13; refine (csenior a jl jc zs i _ hjw).mono ?_; rintro e w2 ⟨rfl, rfl⟩)
            go_roundw
            case rel => exact ⟨k + 1, by go_num, hlt, by rw [HC.out], hnx⟩
            case measure => simp [intOf]; omega
          · obtain ⟨hc1, hc2⟩ := cntS_yes hiL hsen
            have hltN : cntS L (senOf jl zs) k < N := by rw [← HN.out]; exact (List.getElem?_eq_some_iff.1 hc2).1
            obtain ⟨gv, rfl, hgv, hcv⟩ := hva _ hltN
            have e3 : wr.cell? ⟨gv, cntS L (senOf jl zs) k, none⟩ = some (.string (roleB i)) := by
              refine (hnx.cell (by exact hgv)).trans (hcv.trans ?_)
              simp [strs', hc2]
            have HC := Hid.mk hc1
            clear hiL hc1 hc2 hcv
            go_wp2_with (go_at_call 13; refine (csenior a jl jc zs i _ hjw).mono ?_; rintro e w2 ⟨rfl, rfl⟩)
            go_quiet (fail)
            go_wp2
            go_roundw
            case rel => exact ⟨k + 1, by go_num, hlt, by rw [HC.out]; go_num, below_drewN hnx _⟩
            case measure => simp [intOf]; omega
        · obtain rfl : k = L.length := by omega
          rw [HA.out]
          have e5 : wr.cell? ⟨al, 0, none⟩ = some (.pointer (some ⟨s, 0, none⟩)) := (hnx.cell (by exact (Array.getElem?_eq_some_iff.1 h5).1)).trans (cell_at h5 0)
          have heq := eql76
          go_wp2
          go_ret
          exact ⟨rfl, hnx⟩
end Go.Proofs.Ybulkbndy
