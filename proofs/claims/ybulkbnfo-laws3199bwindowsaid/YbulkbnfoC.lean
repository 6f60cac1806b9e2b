/-
  THE LAW: its state behind the first loop, and what each later piece leaves.
-/
import Derived.Test.YbulkbnfoB
import Derived.Deep.OwnRows
namespace Go.Proofs.Ybulkbnfo
open Go.RowKit

def Eb (B i : Nat) : Nat := B + 2 + i

/-- The entries 0 .. k-1 are made. -/
structure Made (S : Nat → Int) (b : Int) (B n k : Nat) (w W : World) : Prop where
  below : Below B w W
  size : W.heap.size = B + 2 + k
  box : W.heap[B]? = some (KB b (.slice none 0 0) 0)
  es : ∃ cs, W.heap[B + 1]? = some (.cells cs 28 (0, 0)) ∧ cs.size = n ∧ ∀ i, i < k → cs[i]? = some (ptr (Eb B) i)
  ent : ∀ i, i < k → W.cell? ⟨Eb B i, 24, none⟩ = some (.int .i64 (S i))

def MadeK (S : Nat → Int) (b : Int) (B n : Nat) (w : World) (i : Value) (W : World) : Prop := ∃ k : Nat, i = .int .i64 k ∧ k ≤ n ∧ Made S b B n k w W

def Src (w : World) (a : Option Addr) (n : Nat) (S : Nat → Int) : Prop := ∀ i, i < n → ∃ g off, a = some ⟨g, off, none⟩ ∧ g < w.heap.size ∧ w.cell? ⟨g, off + i, none⟩ = some (.int .u32 (S i))

theorem made0 (S : Nat → Int) (b : Int) (n : Nat) (w : World) : Made S b w.heap.size n 0 w ((w.alloc (.cells #[.int .i64 b, .slice none 0 0, .int .i64 0] 27)).alloc (.cells (madeCells #[.pointer none] n) 28)) := by
  refine ⟨((Below.refl w.heap.size w).alloc (Nat.le_refl _) _).alloc (by simp) _, by simp, ?_, ⟨madeCells #[.pointer none] n, ?_, ?_, fun i hi => by omega⟩, fun i hi => by omega⟩
  · exact (Below.heap_alloc _ _ _ (by simp)).trans (heap_alloc_new w _)
  · have := heap_alloc_new (w.alloc (.cells #[.int .i64 b, .slice none 0 0, .int .i64 0] 27)) (.cells (madeCells #[.pointer none] n) 28)
    simpa using this
  · simp [madeCells]

theorem Made.slot {S : Nat → Int} {b : Int} {B n k : Nat} {w W : World} (m : Made S b B n k w W) (hk : k < n) : ∃ u, (∀ o, (W.alloc o).cell? ⟨B + 1, k, none⟩ = some u) ∧ ∀ o, (W.alloc o).frozen? ⟨B + 1, k, none⟩ = false := by
  obtain ⟨cs, he, hcz, hcs⟩ := m.es
  have hz := m.size
  have hal : ∀ o, (W.alloc o).heap[B + 1]? = some (.cells cs 28 (0, 0)) := fun o => (Below.heap_alloc _ _ _ (by omega)).trans he
  exact ⟨cs[k], fun o => by rw [cell_at (hal o)]; simp [hcz, hk], fun o => free_at (hal o) k⟩

theorem Made.step {S : Nat → Int} {b : Int} {B n k : Nat} {w W : World} (m : Made S b B n k w W) (hk : k < n) {cs : Array Value} (hc : cs[24]? = some (.int .i64 (S k))) : Made S b B n (k + 1) w ((W.alloc (.cells cs 43)).setCell ⟨B + 1, k, none⟩ (.pointer (some ⟨W.heap.size, 0, none⟩))) := by
  obtain ⟨es, he, hz, hes⟩ := m.es
  have hsz := m.size
  have hbel := m.below
  have hal : ∀ j, j < W.heap.size → (W.alloc (.cells cs 43)).heap[j]? = W.heap[j]? := fun j hj => Below.heap_alloc _ _ _ hj
  have hse : ∀ j, j ≠ B + 1 → ((W.alloc (.cells cs 43)).setCell ⟨B + 1, k, none⟩ (.pointer (some ⟨W.heap.size, 0, none⟩))).heap[j]? = (W.alloc (.cells cs 43)).heap[j]? := fun j hj => Below.heap_setCell _ _ _ _ hj
  refine ⟨(hbel.trans ((Below.refl B W).alloc (by omega) _)).setCell (by show B ≤ B + 1; omega) _, by simp; omega, (hse B (by omega)).trans ((hal B (by omega)).trans m.box), ⟨_, heap_setCell_same _ (B + 1) k es 28 _ ((hal (B + 1) (by omega)).trans he), by simpa using hz, fun i hi => ?_⟩, fun i hi => ?_⟩
  · rw [Array.getElem?_setIfInBounds]
    by_cases e : k = i
    · subst e
      rw [if_pos rfl, if_pos (by omega), hsz]
      rfl
    · rw [if_neg e]
      exact hes i (by omega)
  · by_cases e : i = k
    · subst e
      have h1 : ((W.alloc (.cells cs 43)).setCell ⟨B + 1, i, none⟩ (.pointer (some ⟨W.heap.size, 0, none⟩))).heap[Eb B i]? = some (.cells cs 43) := (hse _ (by unfold Eb; omega)).trans (by
        have e2 : Eb B i = W.heap.size := by unfold Eb; omega
        rw [e2]
        exact heap_alloc_new W _)
      rw [cell_at h1, hc]
    · have h1 : ((W.alloc (.cells cs 43)).setCell ⟨B + 1, k, none⟩ (.pointer (some ⟨W.heap.size, 0, none⟩))).heap[Eb B i]? = W.heap[Eb B i]? := (hse _ (by unfold Eb; omega)).trans (hal _ (by unfold Eb; omega))
      have := m.ent i (by omega)
      simp [World.cell?] at this ⊢
      rw [h1]
      exact this

theorem Yba.info3' : (Yba.prog.info? 3).map (fun i => (i.zero, i.size, i.bytes)) = some (some (.int .i64 0), 1, 8) := by kernel_rfl
theorem Yba.isSome43 : (Yba.prog.info? 43).isSome = true := by kernel_rfl

/-- Below 'base' nothing but block K is written. -/
structure Lo (K base : Nat) (V W : World) : Prop where
  os : W.os = V.os
  tape : W.tape = V.tape
  output : W.output = V.output
  size : V.heap.size ≤ W.heap.size
  block : ∀ j, j < base → j ≠ K → W.heap[j]? = V.heap[j]?
theorem Lo.refl (K base : Nat) (V : World) : Lo K base V V := ⟨rfl, rfl, rfl, Nat.le_refl _, fun _ _ _ => rfl⟩
theorem Lo.fr {K base : Nat} {V W W' : World} (h : Lo K base V W) (f : Fr K base W W') (hb : base ≤ W.heap.size) : Lo K base V W' :=
  ⟨f.os.trans h.os, f.tape.trans h.tape, f.output.trans h.output, Nat.le_trans h.size f.size, fun j hj hk => (f.block j (by omega) hk (fun hx => by omega)).trans (h.block j hj hk)⟩
theorem Lo.below {K base : Nat} {V W W' : World} (h : Lo K base V W) (f : Below W.heap.size W W') (hb : base ≤ W.heap.size) : Lo K base V W' :=
  ⟨f.os.trans h.os, f.tape.trans h.tape, f.output.trans h.output, Nat.le_trans h.size f.size, fun j hj hk => (f.block j (by omega)).trans (h.block j hj hk)⟩

/-- The same heap; the tape of draws may have gone on. -/
structure Same (V W : World) : Prop where
  os : W.os = V.os
  tape : W.tape = V.tape
  output : W.output = V.output
  heap : W.heap = V.heap
theorem Same.refl (V : World) : Same V V := ⟨rfl, rfl, rfl, rfl⟩
theorem Same.drewN {V W : World} (h : Same V W) (n : Nat) : Same V (W.drewN n) := ⟨h.os, h.tape, h.output, h.heap⟩
theorem Same.cell {V W : World} (h : Same V W) (a : Addr) : W.cell? a = V.cell? a := by unfold World.cell?; rw [h.heap]
theorem Lo.same {K base : Nat} {V W W' : World} (h : Lo K base V W) (f : Same W W') : Lo K base V W' :=
  ⟨f.os.trans h.os, f.tape.trans h.tape, f.output.trans h.output, by rw [f.heap]; exact h.size, fun j hj hk => by rw [f.heap]; exact h.block j hj hk⟩

/-- v LEADS TO THE NUMBERS xs, somewhere in a row of ints, block 'base' or later. -/
def IntSeg (W : World) (base : Nat) (v : Value) (xs : List Nat) : Prop :=
  (v = .slice none 0 0 ∧ xs = []) ∨
  ∃ g off cap cs, v = .slice (some ⟨g, off, none⟩) xs.length cap ∧ base ≤ g ∧ W.heap[g]? = some (.cells cs 3 (0, 0)) ∧ ∀ i x : Nat, xs[i]? = some x → cs[off + i]? = some (Value.int .i64 (x : Int))

def intV (l : List Nat) : List Value := l.map fun x : Nat => Value.int .i64 (x : Int)
theorem intV_length (l : List Nat) : (intV l).length = l.length := by simp [intV]
theorem intV_one (l : List Nat) : ∀ u ∈ intV l, u.oneCell' = true := by
  intro u hu
  obtain ⟨x, _, rfl⟩ := List.mem_map.1 hu
  rfl

/-- At the head of the great loop. -/
structure Win (S : Nat → Int) (b : Int) (B base : Nat) (V : World) (k : Nat) (ids : List Nat) (lv kv : Value) (W : World) : Prop where
  lt : ∀ i ∈ ids, i < k
  len : ids.length ≤ k
  sum : sumS S ids ≤ b
  box : W.heap[B]? = some (KB b lv (sumS S ids))
  seg : Seg W base lv (ids.map (ptr (Eb B)))
  kept : IntSeg W base kv ids
  lo : Lo B base V W
  big : base ≤ W.heap.size
def WinK (S : Nat → Int) (b : Int) (B base n : Nat) (V : World) (kv i : Value) (W : World) : Prop := ∃ k ids lv, i = .int .i64 (k : Nat) ∧ k ≤ n ∧ Win S b B base V k ids lv kv W

/-- Behind the making of the candidate. -/
structure Cd (S : Nat → Int) (b : Int) (B base : Nat) (V : World) (ids cand : List Nat) (lv : Value) (g : Nat) (W : World) : Prop where
  box : W.heap[B]? = some (KB b lv (sumS S ids))
  seg : Seg W base lv (ids.map (ptr (Eb B)))
  row : ∃ cs, W.heap[g]? = some (.cells cs 3 (0, 0)) ∧ ∀ i x : Nat, cand[i]? = some x → cs[i]? = some (Value.int .i64 (x : Int))
  lo : Lo B base V W
  gb : base ≤ g
  big : base ≤ W.heap.size
theorem Cd.cell {S : Nat → Int} {b : Int} {B base : Nat} {V : World} {ids cand : List Nat} {lv : Value} {g : Nat} {W : World} (h : Cd S b B base V ids cand lv g W) {i x : Nat} (hx : cand[i]? = some x) : W.cell? ⟨g, i, none⟩ = some (.int .i64 (x : Int)) := by
  obtain ⟨cs, h1, h2⟩ := h.row
  rw [cell_at h1]
  exact h2 i x hx

theorem cd_of {S : Nat → Int} {b : Int} {B base : Nat} {V : World} {k : Nat} {ids : List Nat} {lv kv : Value} {W W3 : World} {c : Nat} (h : Win S b B base V k ids lv kv W) (hB : B < base) (hb : Below W.heap.size W W3) (hown : W3.ownsRow W.heap.size 3 1 (.slice (some ⟨W.heap.size, 0, none⟩) (ids.length + 1) c) (ids.length + 1) (intV ids ++ [.int .i64 (k : Int)])) : Cd S b B base V ids (ids ++ [k]) lv W.heap.size W3 := by
  have hz := h.big
  refine ⟨(hb.block B (by omega)).trans h.box, ?_, ?_, h.lo.below hb hz, hz, Nat.le_trans hz hb.size⟩
  · rcases h.seg with h' | ⟨g, off, cap, cs, rfl, h1, h2, r⟩
    · exact .inl h'
    · exact .inr ⟨g, off, cap, cs, rfl, h1, (hb.block g (block_lt h2)).trans h2, r⟩
  · rcases hown.2 with ⟨h1, _⟩ | ⟨g, cap, cur, h1, h2, h3, h4, _, h5, h6⟩
    · cases h1
    · simp only [Value.slice.injEq, Option.some.injEq, Addr.mk.injEq] at h1
      obtain ⟨⟨rfl, _⟩, _, rfl⟩ := h1
      refine ⟨cur, h3, fun i x hx => ?_⟩
      have hl := (List.getElem?_eq_some_iff.1 hx).1
      have e : intV ids ++ [.int .i64 (k : Int)] = intV (ids ++ [k]) := by simp [intV]
      rw [e] at h6
      have : (cur.toList.take ((ids.length + 1) * 1))[i]? = some (.int .i64 (x : Int)) := by rw [h6]; unfold intV; rw [List.getElem?_map, hx]; rfl
      rw [List.getElem?_take] at this
      split at this
      · simpa using this
      · cases this

theorem es_cell {S : Nat → Int} {b : Int} {B n : Nat} {w V W : World} (m : Made S b B n n w V) (lo : Lo B (B + 2 + n) V W) {i : Nat} (hi : i < n) : W.cell? ⟨B + 1, i, none⟩ = some (.pointer (some ⟨Eb B i, 0, none⟩)) := by
  obtain ⟨cs, h1, _, h3⟩ := m.es
  rw [cell_at ((lo.block (B + 1) (by omega) (by omega)).trans h1)]
  exact h3 i hi
theorem ent_cell {S : Nat → Int} {b : Int} {B n : Nat} {w V W : World} (m : Made S b B n n w V) (lo : Lo B (B + 2 + n) V W) {i : Nat} (hi : i < n) : W.cell? ⟨Eb B i, 24, none⟩ = some (.int .i64 (S i)) := by
  have h1 := lo.block (Eb B i) (by unfold Eb; omega) (by unfold Eb; omega)
  have h2 := m.ent i hi
  simp [World.cell?] at h2 ⊢
  rw [h1]
  exact h2
theorem all_below {S : Nat → Int} {b : Int} {n : Nat} {w V W : World} (m : Made S b w.heap.size n n w V) (lo : Lo w.heap.size (w.heap.size + 2 + n) V W) : Below w.heap.size w W :=
  ⟨lo.os.trans m.below.os, lo.tape.trans m.below.tape, lo.output.trans m.below.output, Nat.le_trans m.below.size lo.size, fun j hj => (lo.block j (by omega) (by omega)).trans (m.below.block j hj)⟩
theorem src_cell {S : Nat → Int} {b : Int} {n : Nat} {w V W : World} {g off i : Nat} (m : Made S b w.heap.size n n w V) (lo : Lo w.heap.size (w.heap.size + 2 + n) V W) (hg : g < w.heap.size) (hc : w.cell? ⟨g, off + i, none⟩ = some (.int .u32 (S i))) : W.cell? ⟨g, off + i, none⟩ = some (.int .u32 (S i)) := ((all_below m lo).cell hg).trans hc

theorem IntSeg.form {W : World} {base : Nat} {v : Value} {xs : List Nat} (h : IntSeg W base v xs) : ∃ va vc, v = .slice va xs.length vc ∧ (va = none → xs.length = 0 ∧ vc = 0) ∧ ∀ W', Below W.heap.size W W' → ∀ ad, va = some ad → ∀ j u, (intV xs)[j]? = some u → W'.cell? (ad.add j) = some u := by
  rcases h with ⟨rfl, rfl⟩ | ⟨g, off, cap, cs, rfl, h1, h2, h3⟩
  · exact ⟨none, 0, rfl, fun _ => ⟨rfl, rfl⟩, fun W' _ ad had => by cases had⟩
  · refine ⟨some ⟨g, off, none⟩, cap, rfl, (fun h => by cases h), fun W' hb ad had j u hj => ?_⟩
    cases had
    rw [Addr.add_lit, cell_at ((hb.block g (block_lt h2)).trans h2)]
    simp [intV] at hj
    obtain ⟨x, hx, rfl⟩ := hj
    exact h3 j x hx

/-- THE SCAN's STATE. -/
def Scan (S : Nat → Int) (b : Int) (cand : List Nat) (V : World) (j s : Value) (W : World) : Prop := ∃ t : Nat, j = .int .i64 t ∧ t ≤ cand.length ∧ s = .int .i64 (sumS S (cand.drop t)) ∧ sumS S (cand.drop t) ≤ b ∧ W = V
def Scanned (S : Nat → Int) (b : Int) (cand : List Nat) (V : World) (j s : Value) (W : World) : Prop := ∃ t : Nat, j = .int .i64 t ∧ t ≤ cand.length ∧ s = .int .i64 (sumS S (cand.drop t)) ∧ dropS S b cand = cand.take t ∧ keepS S b cand = cand.drop t ∧ W = V
theorem sum_at {S : Nat → Int} {l : List Nat} {t c : Nat} (h : l[t]? = some c) : sumS S (l.drop t) = sumS S (l.drop (t + 1)) + S c := by
  obtain ⟨h1, h2⟩ := List.getElem?_eq_some_iff.1 h
  rw [List.drop_eq_getElem_cons h1, sumS, h2]
  omega

theorem cand_lt {n k : Nat} {ids : List Nat} (h : ∀ i ∈ ids, i < k) (hk : k < n) : ∀ i c : Nat, (ids ++ [k])[i]? = some c → c < n := by
  intro i c hc
  have := List.mem_of_getElem? hc
  rcases List.mem_append.1 this with h1 | h1
  · have := h c h1
    omega
  · simp at h1
    omega

/-- Behind the call of 'add'. -/
structure Aft (S : Nat → Int) (b : Int) (B base : Nat) (V : World) (cand : List Nat) (t g : Nat) (da la : Option Addr) (lc : Nat) (W : World) : Prop where
  box : W.heap[B]? = some (KB b (.slice la (cand.length - t) lc) (sumS S (cand.drop t)))
  seg : Seg W base (.slice la (cand.length - t) lc) ((cand.drop t).map (ptr (Eb B)))
  dropped : ∀ i c : Nat, i < t → cand[i]? = some c → ∃ dg, da = some ⟨dg, 0, none⟩ ∧ W.cell? ⟨dg, i, none⟩ = some (.pointer (some ⟨Eb B c, 0, none⟩))
  list : ∀ i c : Nat, cand[t + i]? = some c → ∃ lg lo, la = some ⟨lg, lo, none⟩ ∧ W.cell? ⟨lg, lo + i, none⟩ = some (.pointer (some ⟨Eb B c, 0, none⟩))
  row : ∃ cs, W.heap[g]? = some (.cells cs 3 (0, 0)) ∧ ∀ i x : Nat, cand[i]? = some x → cs[i]? = some (Value.int .i64 (x : Int))
  lo : Lo B base V W
  gb : base ≤ g
  big : base ≤ W.heap.size
theorem Aft.cell {S : Nat → Int} {b : Int} {B base : Nat} {V : World} {cand : List Nat} {t g : Nat} {da la : Option Addr} {lc : Nat} {W : World} (h : Aft S b B base V cand t g da la lc W) {i x : Nat} (hx : cand[i]? = some x) : W.cell? ⟨g, i, none⟩ = some (.int .i64 (x : Int)) := by
  obtain ⟨cs, h1, h2⟩ := h.row
  rw [cell_at h1]
  exact h2 i x hx

theorem aft {S : Nat → Int} {b : Int} {B base : Nat} {V : World} {ids cand : List Nat} {lv dv : Value} {t g : Nat} {W W4 : World} (cd : Cd S b B base V ids cand lv g W) (P : Post S b B base (Eb B) cand W dv W4) (ht : t ≤ cand.length) (hdr : dropS S b cand = cand.take t) (hke : keepS S b cand = cand.drop t) (hB : B < base) :
    ∃ da dc la lc, dv = .slice da t dc ∧ Aft S b B base V cand t g da la lc W4 := by
  obtain ⟨lv', h1, h2, h3, h4⟩ := P
  rw [hke] at h1 h2
  rw [hdr] at h3
  have hl : (cand.take t).length = t := by simp; omega
  rw [hl] at h3
  obtain ⟨da, dc, rfl⟩ := row_form h3
  obtain ⟨la, lc, hlv⟩ := h2.formP
  rw [List.length_drop] at hlv
  subst hlv
  obtain ⟨cs, hr, hcs⟩ := cd.row
  have hrow : W4.heap[g]? = some (.cells cs 3 (0, 0)) := (h4.block g (block_lt hr) (by have := cd.gb; omega) (fun _ c e => by rw [hr] at e; cases e)).trans hr
  refine ⟨da, dc, la, lc, rfl, h1, h2, fun i c hi hc => ?_, fun i c hc => ?_, ⟨cs, hrow, hcs⟩, cd.lo.fr h4 cd.big, cd.gb, Nat.le_trans cd.big h4.size⟩
  · rcases h3.2 with ⟨_, h0⟩ | ⟨dg, cp, cur, e1, _, e3, _, _, _, e6⟩
    · omega
    · simp only [Value.slice.injEq] at e1
      obtain ⟨rfl, _, rfl⟩ := e1
      refine ⟨dg, rfl, ?_⟩
      rw [cell_at e3]
      have : (cur.toList.take (t * 1))[i]? = some (.pointer (some ⟨Eb B c, 0, none⟩)) := by
        rw [e6, List.getElem?_map, List.getElem?_take, if_pos hi, hc]
        rfl
      rw [List.getElem?_take] at this
      split at this
      · simpa using this
      · cases this
  · have hd : (cand.drop t)[i]? = some c := by rw [List.getElem?_drop]; exact hc
    rcases h2 with ⟨_, h0⟩ | ⟨lg, lo, cp, cur, e1, _, e3, _, _, e6⟩
    · have := List.map_eq_nil_iff.1 h0
      rw [this] at hd
      simp at hd
    · simp only [Value.slice.injEq] at e1
      obtain ⟨rfl, _, rfl⟩ := e1
      refine ⟨lg, lo, rfl, ?_⟩
      rw [cell_at e3]
      exact e6 i _ (by rw [List.getElem?_map, hd]; rfl)

/-- The kept numbers: the candidate from t on. -/
def KeptV (t m g : Nat) (V : World) (kv : Value) (W : World) : Prop := ∃ kof kcap, kv = .slice (some ⟨g, kof, none⟩) (m + 1 - t) kcap ∧ (kof = t ∨ m + 1 - t = 0) ∧ W = V

def Steps (t : Nat) (V : World) (i : Value) (W : World) : Prop := ∃ u : Nat, i = .int .i64 u ∧ u ≤ t ∧ Same V W

theorem win_next {S : Nat → Int} {b : Int} {B base : Nat} {V : World} {ids cand : List Nat} {k t g : Nat} {da la : Option Addr} {lc kof kcap : Nat} {lv kv0 : Value} {W0 W W' : World} (win : Win S b B base V k ids lv kv0 W0) (A : Aft S b B base V cand t g da la lc W) (sm : Same W W') (hcand : cand = ids ++ [k]) (hb : 0 ≤ b) (hke : keepS S b cand = cand.drop t) (hkof : kof = t ∨ ids.length + 1 - t = 0) :
    Win S b B base V (k + 1) (cand.drop t) (.slice la (cand.length - t) lc) (.slice (some ⟨g, kof, none⟩) (ids.length + 1 - t) kcap) W' := by
  have hcl : cand.length = ids.length + 1 := by rw [hcand]; simp
  refine ⟨fun i hi => ?_, ?_, ?_, ?_, ?_, ?_, A.lo.same sm, by rw [sm.heap]; exact A.big⟩
  · have h1 := List.mem_of_mem_drop hi
    rw [hcand] at h1
    rcases List.mem_append.1 h1 with h2 | h2
    · have := win.lt i h2
      omega
    · simp at h2
      omega
  · have := win.len
    rw [List.length_drop]
    omega
  · rw [← hke]
    exact keep_sum_le hb cand
  · rw [sm.heap]; exact A.box
  · rcases A.seg with h' | ⟨g', off, cap, cs, e, h1, h2, r⟩
    · exact .inl h'
    · exact .inr ⟨g', off, cap, cs, e, h1, by rw [sm.heap]; exact h2, r⟩
  · obtain ⟨cs, h1, h2⟩ := A.row
    refine .inr ⟨g, kof, kcap, cs, by rw [List.length_drop, hcl], A.gb, by rw [sm.heap]; exact h1, fun i x hx => ?_⟩
    rw [List.getElem?_drop] at hx
    rcases hkof with rfl | h0
    · exact h2 _ _ hx
    · have := (List.getElem?_eq_some_iff.1 hx).1
      omega

end Go.Proofs.Ybulkbnfo
