/-
  'zzs3196cstr': the check of a map of sets.
-/
import Derived.Test.YbulkbndyG
import Derived.Deep.RegionHeld3
namespace Go.Proofs.Ybulkbndy
open Go.RowKit Go.Maps

/-- How many of the first k lists are long. -/
def longTo (L : Nat → List Nat) (k : Nat) : Nat := ((List.range k).filter fun i => decide (8 < (L i).length)).length
theorem longTo_yes {L : Nat → List Nat} {k : Nat} (h : 8 < (L k).length) : longTo L (k + 1) = longTo L k + 1 := by
  unfold longTo; rw [List.range_succ]; simp [h]
theorem longTo_no {L : Nat → List Nat} {k : Nat} (h : ¬ 8 < (L k).length) : longTo L (k + 1) = longTo L k := by
  unfold longTo; rw [List.range_succ]; simp [h]
theorem longTo_le (L : Nat → List Nat) (k : Nat) : longTo L k ≤ k := by
  have := List.length_filter_le (fun i => decide (8 < (L i).length)) (List.range k)
  simpa [longTo] using this
theorem longTo_pos {L : Nat → List Nat} {n i : Nat} (hi : i < n) (h : 8 < (L i).length) : 0 < longTo L n := by
  unfold longTo
  exact List.length_pos_of_mem (List.mem_filter.2 ⟨List.mem_range.2 hi, by simpa using h⟩)
theorem longTo_zero {L : Nat → List Nat} {n : Nat} (h : ∀ i, i < n → ¬ 8 < (L i).length) : longTo L n = 0 := by
  unfold longTo
  rw [List.length_eq_zero_iff, List.filter_eq_nil_iff]
  intro i hi
  simpa using h i (List.mem_range.1 hi)

theorem nodup_map {α β : Type} {f : α → β} : ∀ {l : List α}, l.Nodup → (∀ a ∈ l, ∀ b ∈ l, f a = f b → a = b) → (l.map f).Nodup
  | [], _, _ => by simp
  | a :: l, h, hf => by
    rw [List.map_cons, List.nodup_cons]
    rw [List.nodup_cons] at h
    refine ⟨fun hm => ?_, nodup_map h.2 (fun x hx y hy => hf x (by simp [hx]) y (by simp [hy]))⟩
    obtain ⟨b, hb, e⟩ := List.mem_map.1 hm
    exact h.1 (hf b (by simp [hb]) a (by simp) e ▸ hb)

section
variable {K base n : Nat} {kl : Nat → Lit} {g : Nat → Nat} {L : Nat → List Nat} {sen : Nat → Bool}

/-- The keys' own facts. -/
structure Keys' (K n : Nat) (kv : Nat → Value) (kl : Nat → Lit) : Prop where
  of : ∀ i, i < n → keyOf Yba.prog K (kv i) = some (kl i)
  inj : ∀ i j, i < n → j < n → kl i = kl j → i = j

theorem SetsMap.size {w : World} {m bs : Nat} {D : DataW Value} {kv : Nat → Value} (h : SetsMap w K base n kl g L sen (fun _ => true) m bs D) (LK : Keyed Yba.prog K) (hk : Keys' K n kv kl) : Maps.size D = longTo L n := by
  obtain ⟨es, rfl, hp, hkey⟩ := h.own.entries LK
  have hnd : (es.map Prod.fst).Nodup := by
    rw [List.Nodup, List.pairwise_map]
    exact hp
  have hnd2 : (((List.range n).filter fun i => decide (8 < (L i).length)).map kl).Nodup := by
    refine nodup_map (List.nodup_range.filter _) (fun a ha b hb e => ?_)
    exact hk.inj a b (List.mem_range.1 (List.mem_filter.1 ha).1) (List.mem_range.1 (List.mem_filter.1 hb).1) e
  have hperm := (List.perm_ext_iff_of_nodup hnd hnd2).2 (fun x => ?_)
  · have := hperm.length_eq
    simpa [Maps.size, longTo] using this
  · have hx := h.has x
    constructor
    · intro hm
      obtain ⟨p, hp1, rfl⟩ := List.mem_map.1 hm
      obtain ⟨i, h1, _, h3, h4⟩ := hx.1 (List.any_eq_true.2 ⟨p, hp1, WideAt.sameKey_self (hkey p hp1)⟩)
      exact List.mem_map.2 ⟨i, List.mem_filter.2 ⟨List.mem_range.2 h1, by simpa using h3⟩, h4.symm⟩
    · intro hm
      obtain ⟨i, hi, rfl⟩ := List.mem_map.1 hm
      obtain ⟨h1, h3⟩ := List.mem_filter.1 hi
      obtain ⟨p, hp1, hs⟩ := List.any_eq_true.1 (hx.2 ⟨i, List.mem_range.1 h1, rfl, by simpa using h3, rfl⟩)
      exact List.mem_map.2 ⟨p, hp1, WideAt.sameKey_eq hs⟩

theorem look_long {w : World} {m bs t : Nat} {D : DataW Value} {kv : Nat → Value} (h : SetsMap w K base n kl g L sen (fun _ => true) m bs D) (LK : Keyed Yba.prog K) (hk : Keys' K n kv kl) (ht : Yba.prog.underlying t = some (.map K 76)) {i : Nat} (hi : i < n) (hl : 8 < (L i).length) :
    ∃ s, (Instr.lookup t (.map (some bs)) (kv i) true).run Yba.prog w = .ok (.tuple #[.pointer (some ⟨s, 0, none⟩), .bool true]) w ∧ SS w (bs + 1) s (lvOf g L i) (L i) sen := by
  obtain ⟨v, ps, hrun, hv⟩ := h.own.look_ok LK ht (zero76 w) (zd := .held (.pointer none)) (zp := []) rfl (hk.of i hi)
  obtain ⟨s, h1, h2⟩ := h.set i hi rfl hl
  rw [h1] at hv
  have e := (valR_inv hv).1
  simp only [DataW.held.injEq] at e
  rw [(h.has (kl i)).2 ⟨i, hi, rfl, hl, rfl⟩, ← e] at hrun
  exact ⟨s, hrun, h2⟩

theorem look_short {w : World} {m bs t : Nat} {D : DataW Value} {kv : Nat → Value} (h : SetsMap w K base n kl g L sen (fun _ => true) m bs D) (LK : Keyed Yba.prog K) (hk : Keys' K n kv kl) (ht : Yba.prog.underlying t = some (.map K 76)) {i : Nat} (hi : i < n) (hl : ¬ 8 < (L i).length) :
    (Instr.lookup t (.map (some bs)) (kv i) true).run Yba.prog w = .ok (.tuple #[.pointer none, .bool false]) w := by
  obtain ⟨v, ps, hrun, hv⟩ := h.own.look_ok LK ht (zero76 w) (zd := .held (.pointer none)) (zp := []) rfl (hk.of i hi)
  have hno : Maps.has D (kl i) = false := by
    cases e : Maps.has D (kl i)
    · rfl
    · obtain ⟨j, h1, _, h3, h4⟩ := (h.has _).1 e
      rw [hk.inj i j hi h1 h4] at hl
      exact absurd h3 hl
  rw [atKey_of_not_has hno] at hv
  have e := (valR_inv hv).1
  simp only [DataW.held.injEq] at e
  rw [hno, ← e] at hrun
  exact hrun
end

theorem SS.drew {w : World} {base s : Nat} {lv : Value} {L : List Nat} {sen : Nat → Bool} (h : SS w base s lv L sen) : SS w.drew base s lv L sen :=
  h.kept (row := none) ⟨rfl, rfl, rfl, Nat.le_refl _, fun _ _ _ => rfl⟩ (fun j hj => by cases hj)

/-- A slice of slices that the law has made: n elements, each one cell. -/
def RowAt (w : World) (b n : Nat) (f : Nat → Value) : Prop := b < w.heap.size ∧ ∀ i, i < n → w.cell? ⟨b, i, none⟩ = some (f i)
theorem RowAt.below {w w' : World} {b n B : Nat} {f : Nat → Value} (h : RowAt w b n f) (hb : Below B w w') (hB : b < B) : RowAt w' b n f :=
  ⟨Nat.lt_of_lt_of_le h.1 hb.size, fun i hi => (hb.cell (by exact hB)).trans (h.2 i hi)⟩

/-- What the check is told of the lists and their indices. -/
structure Told (w : World) (n bl bx : Nat) (g gi : Nat → Nat) (L : Nat → List Nat) : Prop where
  lists : RowAt w bl n (lvOf g L)
  idxs : RowAt w bx n (lvOf gi L)
  rows : Lists w n g L
  irows : ∀ i, i < n → gi i < w.heap.size ∧ w.ownsRow 0 3 1 (.slice (some ⟨gi i, 0, none⟩) (L i).length (L i).length) (L i).length (i64s (L i))

theorem Told.below {w w' : World} {n bl bx : Nat} {g gi : Nat → Nat} {L : Nat → List Nat} (h : Told w n bl bx g gi L) (hb : Below w.heap.size w w') : Told w' n bl bx g gi L :=
  ⟨h.lists.below hb h.lists.1, h.idxs.below hb h.idxs.1, h.rows.below hb, fun i hi => ⟨Nat.lt_of_lt_of_le (h.irows i hi).1 hb.size, (h.irows i hi).2.kept (grown_of_below hb) (.inr (by simp [Value.ownBlock]))⟩⟩

def StrRel (L : Nat → List Nat) (n : Nat) (w : World) (lg j : Value) (wr : World) : Prop :=
  ∃ k : Nat, j = .int .i64 k ∧ k ≤ n ∧ lg = .int .i64 (longTo L k : Int) ∧ Below w.heap.size w wr

set_option maxHeartbeats 1000000 in
set_option maxRecDepth 100000 in
theorem cstr_nil (n bl bx : Nat) (hn : n ≤ 1024) (pre : ByteArray) (hpre : pre.size ≤ 1) (g gi : Nat → Nat) (L : Nat → List Nat) (jv : Value) (w : World) (ht : Told w n bl bx g gi L) (hno : ∀ i, i < n → ¬ 8 < (L i).length) :
    Calls Yba.prog 9 #[.map none, .string pre, .slice (some ⟨bl, 0, none⟩) n n, .slice (some ⟨bx, 0, none⟩) n n, jv] w fun e w' => e = .returned (.bool true) ∧ Below w.heap.size w w' := by
  have heq : ∀ (w : World) (r : Option Nat), _ := fun w r => run_eql_map_nil (P := Yba.prog) w 38 9 76 r Yba.underlying38
  go_enter Yba.func9, Yba.ntmps9
  go_wp2
  go_loopw [11, 17] (fun lg j wr => StrRel L n w lg j wr) (fun _ j _ => n - (intOf j).toNat)
  case atStart => exact ⟨0, rfl, Nat.zero_le _, rfl, Below.refl _ _⟩
  case round =>
    obtain ⟨k, rfl, hk, rfl, hnx⟩ := hrel
    by_cases hlt : k < n
    · have hsh := hno k hlt
      have hz := num_size k (by omega)
      have hkey : ∀ W : World, (Instr.lookup 38 (.map none) (.string (pre ++ numB k)) true).run Yba.prog W = .ok (.tuple #[.pointer none, .bool false]) W := fun W => by
        have := Maps.look_nil (w := W) true law9 Yba.underlying38 (zero76 W) (key9 (s := pre ++ numB k) (by rw [ByteArray.size_append]; unfold maxLen; omega))
        simpa using this
      go_wp2_with (go_at_call 7; refine (cnum k (by omega) _).mono ?_; rintro e W1 ⟨rfl, hb1⟩; have c1 : W1.cell? ⟨bl, k, none⟩ = _ := (hb1.cell (Nat.lt_of_lt_of_le ht.lists.1 hnx.size)).trans ((hnx.cell ht.lists.1).trans (ht.lists.2 k hlt)); unfold lvOf at c1)
      go_roundw
      case rel => exact ⟨k + 1, by go_num, hlt, by rw [longTo_no hsh], hnx.trans (hb1.mono hnx.size)⟩
      case measure => simp [intOf]; omega
    · obtain rfl : k = n := by omega
      have hz := longTo_zero hno
      have hz2 : ((longTo L k : Int) == 0) = true := by rw [hz]; rfl
      clear hz
      go_wp2
      go_ret
      exact ⟨rfl, hnx⟩

set_option maxHeartbeats 1000000 in
set_option maxRecDepth 100000 in
theorem cstr_map (n bl bx bs m base : Nat) (D : DataW Value) (hn : n ≤ 1024) (pre : ByteArray) (hpre : pre.size ≤ 1) (kl : Nat → Lit) (g gi : Nat → Nat) (L : Nat → List Nat) (a : Option Addr) (jl jc : Nat) (zs : List Int) (w : World) (ht : Told w n bl bx g gi L) (hjr : JrAt w a jl zs)
    (hs : SetsMap w 9 base n kl g L (senOf jl zs) (fun _ => true) m bs D) (hks : Keys' 9 n (fun i => .string (pre ++ numB i)) kl) (hex : ∃ i, i < n ∧ 8 < (L i).length) :
    Calls Yba.prog 9 #[.map (some bs), .string pre, .slice (some ⟨bl, 0, none⟩) n n, .slice (some ⟨bx, 0, none⟩) n n, .slice a jl jc] w fun e w' => e = .returned (.bool true) ∧ Below w.heap.size w w' := by
  go_enter Yba.func9, Yba.ntmps9
  go_wp2
  go_loopw [11, 17] (fun lg j wr => StrRel L n w lg j wr) (fun _ j _ => n - (intOf j).toNat)
  case atStart => exact ⟨0, rfl, Nat.zero_le _, rfl, Below.refl _ _⟩
  case round =>
    obtain ⟨k, rfl, hk, rfl, hnx⟩ := hrel
    have hle := longTo_le L k
    have hsr := hs.kept (grown_of_below hnx) (fun j hj => by cases hj)
    have htr := ht.below hnx
    have hjrr := hjr.below hnx
    by_cases hlt : k < n
    · have hz := num_size k (by omega)
      by_cases hl : 8 < (L k).length
      · obtain ⟨r1, r2, r3, r4⟩ := htr.rows k hlt
        obtain ⟨q1, q2⟩ := htr.irows k hlt
        go_wp2_with (go_at_call 7; refine (cnum k (by omega) _).mono ?_; rintro e W1 ⟨rfl, hb1⟩; have c1 : W1.cell? ⟨bl, k, none⟩ = _ := (hb1.cell htr.lists.1).trans (htr.lists.2 k hlt); unfold lvOf at c1; have c2 : W1.cell? ⟨bx, k, none⟩ = _ := (hb1.cell htr.idxs.1).trans (htr.idxs.2 k hlt); unfold lvOf at c2; obtain ⟨s, hrun, hss⟩ := look_long (t := 38) (hsr.kept (grown_of_below hb1) (fun j hj => by cases hj)) law9 hks Yba.underlying38 hlt hl)
        unfold lvOf at hss
        have hssd := hss.drew
        have r4d := World.ownsRow.drew (r4.kept (grown_of_below hb1) (.inr (by simp [Value.ownBlock])))
        have q2d := World.ownsRow.drew (q2.kept (grown_of_below hb1) (.inr (by simp [Value.ownBlock])))
        have r3d : g k < W1.drew.heap.size := Nat.lt_of_lt_of_le r3 hb1.size
        have q1d : gi k < W1.drew.heap.size := Nat.lt_of_lt_of_le q1 hb1.size
        have hjd := hjrr.below hb1.drew
        go_region_held3 (fun w' => w'.cell? ⟨bl, k, none⟩ = some (.slice (some ⟨g k, 0, none⟩) (L k).length (L k).length) ∧ w'.cell? ⟨bx, k, none⟩ = some (.slice (some ⟨gi k, 0, none⟩) (L k).length (L k).length)) (go_keep) (first | (go_at_call 10; refine (cone (L k) r1 hl r2 s (g k) (gi k) (bs + 1) (L k).length a jl jc zs W1.drew hssd r4d r3d q2d q1d hjd).mono ?_; rintro e W2 ⟨rfl, hb2⟩; have cc1 : W2.cell? ⟨bl, k, none⟩ = _ := (hb2.cell (Nat.lt_of_lt_of_le htr.lists.1 hb1.size)).trans c1; have cc2 : W2.cell? ⟨bx, k, none⟩ = _ := (hb2.cell (Nat.lt_of_lt_of_le htr.idxs.1 hb1.size)).trans c2))
        go_wp2
        go_roundw
        case rel => exact ⟨k + 1, by go_num, hlt, by rw [longTo_yes hl]; go_num, (hnx.trans (hb1.mono hnx.size)).trans ((below_undrew hb2).mono (Nat.le_trans hnx.size hb1.size))⟩
        case measure => simp [intOf]; omega
      · go_wp2_with (go_at_call 7; refine (cnum k (by omega) _).mono ?_; rintro e W1 ⟨rfl, hb1⟩; have c1 : W1.cell? ⟨bl, k, none⟩ = _ := (hb1.cell htr.lists.1).trans (htr.lists.2 k hlt); unfold lvOf at c1; have hrun := look_short (t := 38) (hsr.kept (grown_of_below hb1) (fun j hj => by cases hj)) law9 hks Yba.underlying38 hlt hl)
        go_roundw
        case rel => exact ⟨k + 1, by go_num, hlt, by rw [longTo_no hl], hnx.trans (hb1.mono hnx.size)⟩
        case measure => simp [intOf]; omega
    · obtain rfl : k = n := by omega
      obtain ⟨i0, hi0, hl0⟩ := hex
      have hpos := longTo_pos hi0 hl0
      have hz2 : ((longTo L k : Int) == 0) = false := by rw [beq_eq_false_iff_ne]; omega
      have hsize := hs.size law9 hks
      go_wp2_with (at_len; refine wpList_len_own _ rfl _ 38 rfl 9 76 Yba.underlying38 _ bs m D rfl hsr.own ?_)
      go_ret
      exact ⟨rfl, hnx⟩

theorem cstr (n bl bx m base : Nat) (sv : Value) (hn : n ≤ 1024) (pre : ByteArray) (hpre : pre.size ≤ 1) (kl : Nat → Lit) (g gi : Nat → Nat) (L : Nat → List Nat) (a : Option Addr) (jl jc : Nat) (zs : List Int) (w : World) (ht : Told w n bl bx g gi L) (hjr : JrAt w a jl zs)
    (hs : SetsAt w 9 base n kl g L (senOf jl zs) (fun _ => true) m sv) (hks : Keys' 9 n (fun i => .string (pre ++ numB i)) kl) :
    Calls Yba.prog 9 #[sv, .string pre, .slice (some ⟨bl, 0, none⟩) n n, .slice (some ⟨bx, 0, none⟩) n n, .slice a jl jc] w fun e w' => e = .returned (.bool true) ∧ Below w.heap.size w w' := by
  rcases hs with ⟨rfl, hno⟩ | ⟨bs, D, rfl, hs, i, h1, _, h3⟩
  · exact cstr_nil n bl bx hn pre hpre g gi L _ w ht (fun i hi => hno i hi rfl)
  · exact cstr_map n bl bx bs m base D hn pre hpre kl g gi L a jl jc zs w ht hjr hs hks ⟨i, h1, h3⟩

end Go.Proofs.Ybulkbndy
