/-
  'endedJobs.add': its contract.
-/
import Derived.Test.YbulkbnfoA
import Derived.Deep.CutBlock
import Derived.Deep.DeepCutAuto
namespace Go.Proofs.Ybulkbnfo
open Go.RowKit

def ptr (E : Nat → Nat) (i : Nat) : Value := .pointer (some ⟨E i, 0, none⟩)

/-- Nothing but block K and the rows of pointers from 'base' on is written. -/
structure Fr (K base : Nat) (w w' : World) : Prop where
  os : w'.os = w.os
  tape : w'.tape = w.tape
  output : w'.output = w.output
  size : w.heap.size ≤ w'.heap.size
  block : ∀ j, j < w.heap.size → j ≠ K → (base ≤ j → ∀ cs, w.heap[j]? ≠ some (.cells cs 28 (0, 0))) → w'.heap[j]? = w.heap[j]?

theorem Fr.refl (K base : Nat) (w : World) : Fr K base w w := ⟨rfl, rfl, rfl, Nat.le_refl _, fun _ _ _ _ => rfl⟩
theorem Fr.trans {K base : Nat} {a b c : World} (h : Fr K base a b) (k : Fr K base b c) : Fr K base a c :=
  ⟨k.os.trans h.os, k.tape.trans h.tape, k.output.trans h.output, Nat.le_trans h.size k.size, fun j hj hk hl => by
    have e := h.block j hj hk hl
    exact (k.block j (Nat.lt_of_lt_of_le hj h.size) hk (fun hb cs => by rw [e]; exact hl hb cs)).trans e⟩
theorem Fr.drewN {K base : Nat} {a b : World} (h : Fr K base a b) (n : Nat) : Fr K base a (b.drewN n) := ⟨h.os, h.tape, h.output, h.size, h.block⟩
theorem Fr.grown {K base : Nat} {b c : World} {row : Option Nat} (g : b.grownBy c row) (hr : ∀ j, row = some j → base ≤ j ∧ ∃ cs, b.heap[j]? = some (.cells cs 28 (0, 0))) : Fr K base b c :=
  ⟨g.os, g.tape, g.output, g.size, fun j hj _ hl => g.block j hj fun e => by
    obtain ⟨h1, cs, h2⟩ := hr j e.symm
    exact hl h1 cs h2⟩
theorem Fr.alloc (K base : Nat) (b : World) (o : Obj) : Fr K base b (b.alloc o) :=
  ⟨rfl, rfl, rfl, by simp, fun j hj _ _ => ((Below.refl b.heap.size b).alloc (Nat.le_refl _) o).block j hj⟩
theorem Fr.setK (K base : Nat) (b : World) (i : Nat) (u : Value) : Fr K base b (b.setCell ⟨K, i, none⟩ u) :=
  ⟨rfl, rfl, rfl, by simp, fun j _ hk _ => Below.heap_setCell _ _ _ _ hk⟩
theorem Fr.setG {K base : Nat} {b : World} {g : Nat} {cs : Array Value} (hb : base ≤ g) (h : b.heap[g]? = some (.cells cs 28 (0, 0))) (i : Nat) (u : Value) : Fr K base b (b.setCell ⟨g, i, none⟩ u) :=
  ⟨rfl, rfl, rfl, by simp, fun j _ _ hl => Below.heap_setCell _ _ _ _ (fun e => by
    have e' : j = g := e
    subst e'
    exact hl hb cs h)⟩
theorem Fr.low {K base : Nat} {a b : World} (h : Fr K base a b) {j : Nat} (hj : j < a.heap.size) (hb : j < base) (hk : j ≠ K) (i : Nat) : b.cell? ⟨j, i, none⟩ = a.cell? ⟨j, i, none⟩ := by
  have := h.block j hj hk (fun hx => by omega)
  simp [World.cell?, this]

theorem Seg.row {w : World} {base : Nat} {v : Value} {xs : List Value} (h : Seg w base v xs) : ∀ j, v.ownBlock = some j → base ≤ j ∧ ∃ cs, w.heap[j]? = some (.cells cs 28 (0, 0)) := by
  intro j hj
  rcases h with ⟨rfl, _⟩ | ⟨g', off, cap, cs, rfl, h1, h2, _⟩
  · simp [Value.ownBlock] at hj
  · simp [Value.ownBlock] at hj
    subst hj
    exact ⟨h1, cs, h2⟩
theorem own_row {w : World} {base base2 : Nat} {v : Value} {n : Nat} {xs : List Value} (h : w.ownsRow base2 28 1 v n xs) (hb : base ≤ base2) : ∀ j, v.ownBlock = some j → base ≤ j ∧ ∃ cs, w.heap[j]? = some (.cells cs 28 (0, 0)) := by
  intro j hj
  rcases h.2 with ⟨rfl, _⟩ | ⟨g, cap, cur, rfl, h2, h3, r⟩
  · simp [Value.ownBlock] at hj
  · simp [Value.ownBlock] at hj
    subst hj
    exact ⟨by omega, cur, h3⟩
theorem row_form {w : World} {base : Nat} {e : TypeId} {v : Value} {n : Nat} {xs : List Value} (h : w.ownsRow base e 1 v n xs) : ∃ va vc, v = .slice va n vc := by
  rcases h.2 with ⟨rfl, rfl⟩ | ⟨g, cap, cur, rfl, r⟩
  · exact ⟨none, 0, rfl⟩
  · exact ⟨_, cap, rfl⟩
theorem Seg.form {w : World} {base : Nat} {v : Value} {xs : List Value} (h : Seg w base v xs) : ∃ va vc, v = .slice va xs.length vc := by
  rcases h with ⟨rfl, rfl⟩ | ⟨g', off, cap, cs, rfl, r⟩
  · exact ⟨none, 0, rfl⟩
  · exact ⟨_, cap, rfl⟩
theorem Seg.drewN {w : World} {base : Nat} {v : Value} {xs : List Value} (h : Seg w base v xs) (n : Nat) : Seg (w.drewN n) base v xs := h

def lenOf : Value → Nat
  | .slice _ n _ => n
  | _ => 0

def KB (b : Int) (lv : Value) (z : Int) : Obj := .cells #[.int .i64 b, lv, .int .i64 z] 27 (0, 0)

/-- The loop's state. -/
structure St (S : Nat → Int) (b : Int) (K base base2 : Nat) (E : Nat → Nat) (cand : List Nat) (w : World) (don rem : List Nat) (lv dv : Value) (wr : World) : Prop where
  parts : cand = don ++ rem
  drop : dropS S b cand = don ++ dropS S b rem
  keep : keepS S b cand = keepS S b rem
  box : wr.heap[K]? = some (KB b lv (sumS S rem))
  seg : Seg wr base lv (rem.map (ptr E))
  apart : ∀ g, lv.ownBlock = some g → g < base2
  row : wr.ownsRow base2 28 1 dv don.length (don.map (ptr E))
  fr : Fr K base w wr
  big : base2 ≤ wr.heap.size

def LR (S : Nat → Int) (b : Int) (K base base2 : Nat) (E : Nat → Nat) (cand : List Nat) (w : World) (dv : Value) (wr : World) : Prop :=
  ∃ don rem lv, St S b K base base2 E cand w don rem lv dv wr

def Post (S : Nat → Int) (b : Int) (K base : Nat) (E : Nat → Nat) (cand : List Nat) (w : World) (dv : Value) (w' : World) : Prop :=
  ∃ lv, w'.heap[K]? = some (KB b lv (sumS S (keepS S b cand))) ∧ Seg w' base lv ((keepS S b cand).map (ptr E)) ∧ w'.ownsRow w.heap.size 28 1 dv (dropS S b cand).length ((dropS S b cand).map (ptr E)) ∧ Fr K base w w'

theorem rows_base {w : World} {b b' : Nat} {e : TypeId} {size : Nat} {v : Value} {n : Nat} {xs : List Value} (h : w.ownsRow b e size v n xs) (hb : b' ≤ b) : w.ownsRow b' e size v n xs := by
  refine ⟨h.1, ?_⟩
  rcases h.2 with h' | ⟨g, cap, cur, h1, h2, h3⟩
  · exact .inl h'
  · exact .inr ⟨g, cap, cur, h1, by omega, h3⟩

theorem Seg.formP {w : World} {base : Nat} {v : Value} {E : Nat → Nat} {ids : List Nat} (h : Seg w base v (ids.map (ptr E))) : ∃ va vc, v = .slice va ids.length vc := by
  obtain ⟨va, vc, h'⟩ := h.form
  exact ⟨va, vc, by rw [h', List.length_map]⟩

theorem box_set1 {w : World} {K : Nat} {b z : Int} {lv : Value} (h : w.heap[K]? = some (KB b lv z)) (lv' : Value) : (w.setCell ⟨K, 1, none⟩ lv').heap[K]? = some (KB b lv' z) := heap_setCell_same w K 1 _ 27 lv' h
theorem box_set2 {w : World} {K : Nat} {b z : Int} {lv : Value} (h : w.heap[K]? = some (KB b lv z)) (z' : Int) : (w.setCell ⟨K, 2, none⟩ (.int .i64 z')).heap[K]? = some (KB b lv z') := heap_setCell_same w K 2 _ 27 (.int .i64 z') h

theorem Seg.head {w : World} {base : Nat} {v : Value} {E : Nat → Nat} {d : Nat} {r : List Nat} (h : Seg w base v ((d :: r).map (ptr E))) : ∃ g off cap cs, v = .slice (some ⟨g, off, none⟩) (r.length + 1) cap ∧ base ≤ g ∧ w.heap[g]? = some (.cells cs 28 (0, 0)) ∧ r.length + 1 ≤ cap ∧ off + cap ≤ cs.size ∧ cs[off]? = some (ptr E d) ∧ ∀ i x, (r.map (ptr E))[i]? = some x → cs[off + 1 + i]? = some x := by
  rcases h with ⟨_, h⟩ | ⟨g, off, cap, cs, h1, h2, h3, h4, h5, h6⟩
  · simp at h
  · refine ⟨g, off, cap, cs, by simpa using h1, h2, h3, by simpa using h4, h5, by simpa using h6 0 (ptr E d) rfl, fun i x hx => ?_⟩
    have := h6 (i + 1) x (by simpa using hx)
    rwa [Nat.add_assoc, Nat.add_comm 1 i]

/-- Behind the round's writes, ahead of its append. -/
structure Mid (S : Nat → Int) (b : Int) (K base base2 : Nat) (E : Nat → Nat) (w : World) (don r : List Nat) (lv dv : Value) (V : World) : Prop where
  box : V.heap[K]? = some (KB b lv (sumS S r))
  seg : Seg V base lv (r.map (ptr E))
  apart : ∀ g, lv.ownBlock = some g → g < base2
  row : V.ownsRow base2 28 1 dv don.length (don.map (ptr E))
  fr : Fr K base w V
  big : base2 ≤ V.heap.size

theorem mid {S : Nat → Int} {b : Int} {K base base2 : Nat} {E : Nat → Nat} {cand : List Nat} {w wr : World} {don r : List Nat} {d g off cap : Nat} {cs : Array Value} {dv : Value} (st : St S b K base base2 E cand w don (d :: r) (.slice (some ⟨g, off, none⟩) (r.length + 1) cap) dv wr)
    (hK : K < base) (hb2 : base ≤ base2) (hbg : base ≤ g) (hg : wr.heap[g]? = some (.cells cs 28 (0, 0))) (hcap : r.length + 1 ≤ cap) (hsz : off + cap ≤ cs.size) (hcs : ∀ i x, (r.map (ptr E))[i]? = some x → cs[off + 1 + i]? = some x) (lv : Value)
    (hlv : lv = .slice (some ⟨g, off + 1, none⟩) r.length (cap - 1) ∨ (lv = .slice (some ⟨g, off, none⟩) r.length (cap - 1) ∧ r = [])) (n : Nat) :
    Mid S b K base base2 E w don r lv dv ((((wr.drewN n).setCell ⟨g, off, none⟩ (.pointer none)).setCell ⟨K, 1, none⟩ lv).setCell ⟨K, 2, none⟩ (.int .i64 (sumS S (d :: r) - S d))).drew := by
  have hne : K ≠ g := by omega
  have hgb : g < base2 := st.apart g rfl
  have e : sumS S (d :: r) - S d = sumS S r := by rw [sumS]; omega
  rw [e]
  have b0 : ((wr.drewN n).setCell ⟨g, off, none⟩ (.pointer none)).heap[K]? = some (KB b (.slice (some ⟨g, off, none⟩) (r.length + 1) cap) (sumS S (d :: r))) := (Below.heap_setCell _ _ _ _ hne).trans st.box
  have b1 := box_set2 (box_set1 b0 lv) (sumS S r)
  have g0 : ((wr.drewN n).setCell ⟨g, off, none⟩ (.pointer none)).heap[g]? = some (.cells (cs.setIfInBounds off (.pointer none)) 28 (0, 0)) := heap_setCell_same (wr.drewN n) g off cs 28 (.pointer none) hg
  have g1 : ((((wr.drewN n).setCell ⟨g, off, none⟩ (.pointer none)).setCell ⟨K, 1, none⟩ lv).setCell ⟨K, 2, none⟩ (.int .i64 (sumS S r))).heap[g]? = some (.cells (cs.setIfInBounds off (.pointer none)) 28 (0, 0)) := (Below.heap_setCell _ _ _ _ hne.symm).trans ((Below.heap_setCell _ _ _ _ hne.symm).trans g0)
  refine ⟨b1, ?_, ?_, ?_, ?_, ?_⟩
  · rcases hlv with rfl | ⟨rfl, rfl⟩
    · refine .inr ⟨g, off + 1, cap - 1, _, by simp, hbg, g1, by simp; omega, by simp; omega, fun i x hx => ?_⟩
      rw [Array.getElem?_setIfInBounds, if_neg (by omega)]
      exact hcs i x hx
    · exact .inr ⟨g, off, cap - 1, _, by simp, hbg, g1, by simp, by simp; omega, fun i x hx => by simp at hx⟩
  · intro j hj
    rcases hlv with rfl | ⟨rfl, _⟩
    · simp [Value.ownBlock] at hj; omega
    · simp [Value.ownBlock] at hj; omega
  · exact ownsRow_setCell_below (a := ⟨K, 2, none⟩) (ownsRow_setCell_below (a := ⟨K, 1, none⟩) (ownsRow_setCell_below (w := wr.drewN n) (a := ⟨g, off, none⟩) st.row (by exact hgb) (.pointer none)) (by show K < base2; omega) lv) (by show K < base2; omega) (.int .i64 (sumS S r))
  · have f0 : Fr K base w (wr.drewN n) := st.fr.drewN n
    have f1 := ((f0.trans (Fr.setG (b := wr.drewN n) hbg hg off (.pointer none))).trans (Fr.setK K base _ 1 lv)).trans (Fr.setK K base _ 2 (.int .i64 (sumS S r)))
    exact ⟨f1.os, f1.tape, f1.output, f1.size, f1.block⟩
  · have := st.big
    show base2 ≤ (((((wr.drewN n).setCell ⟨g, off, none⟩ (.pointer none)).setCell ⟨K, 1, none⟩ lv).setCell ⟨K, 2, none⟩ (.int .i64 (sumS S r)))).heap.size
    simpa using this

theorem fin {S : Nat → Int} {b : Int} {K base base2 : Nat} {E : Nat → Nat} {cand : List Nat} {w wr V w1 : World} {don r : List Nat} {d : Nat} {lv0 lv dv v' : Value} {o : Obj} (st : St S b K base base2 E cand w don (d :: r) lv0 dv wr) (m : Mid S b K base base2 E w don r lv dv V)
    (hgt : b < sumS S (d :: r)) (hK : K < base) (hb2 : base ≤ base2) (hown : w1.ownsRow base2 28 1 v' (don.length + 1) (don.map (ptr E) ++ [ptr E d])) (hg : (V.alloc o).grownBy w1 dv.ownBlock) : St S b K base base2 E cand w (don ++ [d]) r lv v' w1 := by
  have hrow : ∀ j, dv.ownBlock = some j → base2 ≤ j := fun j hj => (m.row.lt j hj).1
  have hal : ∀ j, j < V.heap.size → (V.alloc o).heap[j]? = V.heap[j]? := ((Below.refl V.heap.size V).alloc (Nat.le_refl _) o).block
  have hsz := m.big
  have hs : V.heap.size + 1 ≤ w1.heap.size := by have := hg.size; simpa using this
  have hb : ∀ j, j < base2 → w1.heap[j]? = V.heap[j]? := fun j hj => (hg.block j (by simp; omega) (fun e => by have := hrow j e.symm; omega)).trans (hal j (by omega))
  have y := step_yes hgt
  refine ⟨by rw [st.parts]; simp, ?_, ?_, (hb K (by omega)).trans m.box, ?_, m.apart, ?_, ?_, by omega⟩
  · rw [st.drop, y.1]; simp
  · rw [st.keep, y.2]
  · rcases m.seg with h | ⟨g, off, cap, cs, rfl, h1, h2, h3⟩
    · exact .inl h
    · exact .inr ⟨g, off, cap, cs, rfl, h1, (hb g (m.apart g rfl)).trans h2, h3⟩
  · simpa using hown
  · exact (m.fr.trans (Fr.alloc K base V o)).trans (Fr.grown hg fun j hj => by
      obtain ⟨h1, c, h2⟩ := own_row m.row hb2 j hj
      exact ⟨h1, c, (hal j (block_lt h2)).trans h2⟩)

theorem start1 {S : Nat → Int} {b : Int} {K base : Nat} {E : Nat → Nat} {ids : List Nat} {x : Nat} {v0 v1 : Value} {w w1 : World} (hK : K < base) (hF : Fr K base w w1)
    (hbox : w1.heap[K]? = some (KB b v0 (sumS S ids))) (hseg : Seg w1 base v1 ((ids ++ [x]).map (ptr E))) (hap : ∀ g, v1.ownBlock = some g → base ≤ g ∧ g < w1.heap.size) : LR S b K base w1.heap.size E (ids ++ [x]) w (.slice none 0 0) ((w1.setCell ⟨K, 1, none⟩ v1).setCell ⟨K, 2, none⟩ (.int .i64 (sumS S ids + S x))).drew := by
  have e : sumS S ids + S x = sumS S (ids ++ [x]) := by rw [sumS_append]; simp [sumS]
  rw [e]
  refine ⟨[], ids ++ [x], v1, rfl, rfl, rfl, box_set2 (box_set1 hbox v1) _, ?_, fun g hg => (hap g hg).2, World.ownsRow_nil _ _ _ _, ?_, ?_⟩
  · exact (hseg.setCell (a := ⟨K, 1, none⟩) (u := v1) (fun g hg => by have := (hap g hg).1; show g ≠ K; omega)).setCell (a := ⟨K, 2, none⟩) (u := .int .i64 (sumS S (ids ++ [x]))) (fun g hg => by have := (hap g hg).1; show g ≠ K; omega)
  · have f := (hF.trans (Fr.setK K base _ 1 v1)).trans (Fr.setK K base _ 2 (.int .i64 (sumS S (ids ++ [x]))))
    exact ⟨f.os, f.tape, f.output, f.size, f.block⟩
  · show w1.heap.size ≤ ((w1.setCell ⟨K, 1, none⟩ v1).setCell ⟨K, 2, none⟩ (.int .i64 (sumS S (ids ++ [x])))).heap.size
    simp

set_option maxHeartbeats 1000000 in
set_option maxRecDepth 100000 in
theorem add (S : Nat → Int) (b : Int) (K base : Nat) (E : Nat → Nat) (ids : List Nat) (x : Nat) (lv : Value) (w : World) (hS : ∀ i, 0 ≤ S i ∧ S i ≤ 4294967295) (hb0 : 0 ≤ b) (hb1 : b ≤ 4294967295)
    (hbox : w.heap[K]? = some (KB b lv (sumS S ids))) (hseg : Seg w base lv (ids.map (ptr E))) (hK : K < base) (hbase : base ≤ w.heap.size)
    (hE : ∀ i ∈ ids ++ [x], E i < base ∧ E i ≠ K ∧ w.cell? ⟨E i, 24, none⟩ = some (.int .i64 (S i))) (hsum : sumS S ids ≤ b) (hlen : ids.length ≤ 1024) :
    Calls Yba.prog 4 #[.pointer (some ⟨K, 0, none⟩), .pointer (some ⟨E x, 0, none⟩)] w fun e w' => ∃ dv, e = .returned dv ∧ Post S b K base E (ids ++ [x]) w dv w' := by
  obtain ⟨i0, hi, hz0, hz1, hz2⟩ := info_parts Yba.info28
  have hS0 : ∀ i, 0 ≤ S i := fun i => (hS i).1
  have hs0 := sumS_nonneg hS0 ids
  have hx := hE x (by simp)
  have hSx := hS x
  obtain ⟨la, lc, rfl⟩ := hseg.formP
  have c0 : w.cell? ⟨K, 0, none⟩ = some (.int .i64 b) := cell_at hbox 0
  have c1 : w.cell? ⟨K, 1, none⟩ = some (.slice la ids.length lc) := cell_at hbox 1
  have c2 : w.cell? ⟨K, 2, none⟩ = some (.int .i64 (sumS S ids)) := cell_at hbox 2
  have cx := hx.2.2
  have hKs : K < w.heap.size := by omega
  have hsegA : Seg (w.alloc (.cells #[ptr E x] 28)) base (.slice la ids.length lc) (ids.map (ptr E)) := hseg.kept (row := none) ⟨rfl, rfl, rfl, by simp, fun j hj _ => ((Below.refl w.heap.size w).alloc (Nat.le_refl _) _).block j hj⟩ (fun g _ => by simp)
  go_enter Yba.func4, Yba.ntmps4
  go_wp2_with (at_builtin; refine wpList_append_seg _ rfl _ _ rfl base (.slice la ids.length lc) (ptr E x) (ids.map (ptr E)) rfl hsegA ⟨w.heap.size, 0, none⟩ 1 rfl ?s2 rfl ?s3 ?s4 ?_)
  case s2 => exact cell_one_new _ _ _ 0 _ rfl
  case s3 => simp; omega
  case s4 => simp; omega
  intro v1 w1 hseg1 hg1 hl1
  have hF1 : Fr K base w w1 := (Fr.alloc K base w _).trans (Fr.grown hg1 hsegA.row)
  have hs1 : w.heap.size + 1 ≤ w1.heap.size := by have := hg1.size; simpa using this
  have hbox1 : w1.heap[K]? = some (KB b (.slice la ids.length lc) (sumS S ids)) := (hg1.block K (by simp; omega) (fun e => by have := (hsegA.row K e.symm).1; omega)).trans ((((Below.refl w.heap.size w).alloc (Nat.le_refl _) _).block K hKs).trans hbox)
  have hap : ∀ g, v1.ownBlock = some g → base ≤ g ∧ g < w1.heap.size := hseg1.lt
  have hseg2 : Seg w1 base v1 ((ids ++ [x]).map (ptr E)) := by rw [List.map_append]; exact hseg1
  obtain ⟨va, vc, rfl⟩ : ∃ va vc, v1 = .slice va (ids.length + 1) vc := by
    obtain ⟨va, vc, h⟩ := hseg2.formP
    exact ⟨va, vc, by rw [h]; simp⟩
  clear hsegA hg1 hl1
  have d0 : w1.cell? ⟨K, 0, none⟩ = some (.int .i64 b) := cell_at hbox1 0
  have d2 : w1.cell? ⟨K, 2, none⟩ = some (.int .i64 (sumS S ids)) := cell_at hbox1 2
  have d1 : w1.cell? ⟨K, 1, none⟩ = some (.slice la ids.length lc) := cell_at hbox1 1
  have g1 := free_at hbox1 1
  have g2 := free_at hbox1 2
  have dx : w1.cell? ⟨E x, 24, none⟩ = some (.int .i64 (S x)) := (hF1.low (by omega) hx.1 hx.2.1 _).trans cx
  have hKx : ¬ E x = K := hx.2.1
  go_wp2
  go_region
  go_wp2
  go_loopw [4] (fun dv wr => LR S b K base w1.heap.size E (ids ++ [x]) w dv wr) (fun dv _ => (ids ++ [x]).length - lenOf dv)
  case atStart => exact start1 hK hF1 hbox1 hseg2 hap
  case round =>
    clear d0 d1 d2 g1 g2 dx c0 c1 c2 cx hbox hseg hbox1 hseg1 hseg2 hap
    obtain ⟨don, rem, lv, st⟩ := hrel
    have h0 := sumS_nonneg hS0 rem
    have hl : (ids ++ [x]).length = don.length + rem.length := by rw [st.parts]; simp
    have hL : (ids ++ [x]).length ≤ 1025 := by simp; omega
    have hr2 : sumS S rem ≤ 8589934590 := by
      have h1 := sumS_append S don rem
      have h2 := sumS_nonneg hS0 don
      have h3 := sumS_append S ids [x]
      have h4 : sumS S [x] = S x := by simp [sumS]
      rw [← st.parts] at h1
      omega
    obtain ⟨da, dc, rfl⟩ := row_form st.row
    by_cases hgt : b < sumS S rem
    · obtain ⟨d, r, rfl⟩ : ∃ d r, rem = d :: r := by
        cases rem with
        | nil => simp [sumS] at hgt; omega
        | cons d r => exact ⟨d, r, rfl⟩
      obtain ⟨g, off, cap, cs, rfl, hbg, hg, hcap, hsz, hc0, hcs⟩ := st.seg.head
      have hd := hE d (by rw [st.parts]; simp)
      have hSd := hS d
      have c0 : wr.cell? ⟨K, 0, none⟩ = some (.int .i64 b) := cell_at st.box 0
      have c1 : wr.cell? ⟨K, 1, none⟩ = some (.slice (some ⟨g, off, none⟩) (r.length + 1) cap) := cell_at st.box 1
      have c2 : wr.cell? ⟨K, 2, none⟩ = some (.int .i64 (sumS S (d :: r))) := cell_at st.box 2
      have f1 := free_at st.box 1
      have f2 := free_at st.box 2
      have e0 : wr.cell? ⟨g, off, none⟩ = some (.pointer (some ⟨E d, 0, none⟩)) := (cell_at hg off).trans hc0
      have e1 := free_at hg off
      have hgK : ¬ g = K := by omega
      have hgE : ¬ E d = g := by omega
      have hgE' : ¬ E d = K := hd.2.1
      have cd : wr.cell? ⟨E d, 24, none⟩ = some (.int .i64 (S d)) := (st.fr.low (by omega) hd.1 hd.2.1 _).trans hd.2.2
      by_cases hc1 : cap = 1
      · obtain rfl : r = [] := List.eq_nil_of_length_eq_zero (by omega)
        subst hc1
        go_wp2
        go_quiet (fail)
        go_wp2
        go_region
        have m := mid st hK (by omega) hbg hg hcap hsz hcs (.slice (some ⟨g, off, none⟩) 0 0) (.inr ⟨rfl, rfl⟩) nq
        obtain ⟨V, hV⟩ : ∃ X, X = ((((wr.drewN nq).setCell ⟨g, off, none⟩ (.pointer none)).setCell ⟨K, 1, none⟩ (.slice (some ⟨g, off, none⟩) 0 0)).setCell ⟨K, 2, none⟩ (.int .i64 (sumS S [d] - S d))).drew := ⟨_, rfl⟩
        rw [← hV] at m ⊢
        clear hV
        have hVz := m.big
        go_wp2_with (at_builtin; refine wpList_append_own _ rfl _ _ 25 rfl w1.heap.size 28 i0 (.pointer none) 1 8 Yba.underlying25 hi hz0 hz1 hz2 rfl (by decide) _ _ _ rfl (m.row.alloc _) ⟨V.heap.size, 0, none⟩ 1 1 [ptr E d] rfl rfl (cell_one_new _ _ _) ?c2 ?c3 ?c4 ?c5 ?_)
        case c2 => intro u hu; simp at hu; subst hu; rfl
        case c3 => unfold maxLen; omega
        case c4 => omega
        case c5 => simp; omega
        intro v' w2 hown' hgrow _
        have st' := fin st m hgt hK (by omega) hown' hgrow
        go_wp2
        go_roundw
        case rel => exact ⟨_, _, _, st'⟩
        case measure =>
          obtain ⟨ua, uc, rfl⟩ := row_form hown'
          simp at hl
          simp [lenOf]
          omega
      · go_wp2
        go_quiet (fail)
        go_wp2
        go_region
        have m := mid st hK (by omega) hbg hg hcap hsz hcs (.slice (some ⟨g, off + 1, none⟩) r.length (cap - 1)) (.inl rfl) nq
        obtain ⟨V, hV⟩ : ∃ X, X = ((((wr.drewN nq).setCell ⟨g, off, none⟩ (.pointer none)).setCell ⟨K, 1, none⟩ (.slice (some ⟨g, off + 1, none⟩) r.length (cap - 1))).setCell ⟨K, 2, none⟩ (.int .i64 (sumS S (d :: r) - S d))).drew := ⟨_, rfl⟩
        rw [← hV] at m ⊢
        clear hV
        have hVz := m.big
        go_wp2_with (at_builtin; refine wpList_append_own _ rfl _ _ 25 rfl w1.heap.size 28 i0 (.pointer none) 1 8 Yba.underlying25 hi hz0 hz1 hz2 rfl (by decide) _ _ _ rfl (m.row.alloc _) ⟨V.heap.size, 0, none⟩ 1 1 [ptr E d] rfl rfl (cell_one_new _ _ _) ?c2 ?c3 ?c4 ?c5 ?_)
        case c2 => intro u hu; simp at hu; subst hu; rfl
        case c3 => unfold maxLen; omega
        case c4 => omega
        case c5 => simp; omega
        intro v' w2 hown' hgrow _
        have st' := fin st m hgt hK (by omega) hown' hgrow
        go_wp2
        go_roundw
        case rel => exact ⟨_, _, _, st'⟩
        case measure =>
          obtain ⟨ua, uc, rfl⟩ := row_form hown'
          simp at hl
          simp [lenOf]
          omega
    · have n := step_no hgt
      have c0 : wr.cell? ⟨K, 0, none⟩ = some (.int .i64 b) := cell_at st.box 0
      have c2 : wr.cell? ⟨K, 2, none⟩ = some (.int .i64 (sumS S rem)) := cell_at st.box 2
      go_wp2
      go_quiet (fail)
      go_wp2
      go_ret
      have q1 : keepS S b (ids ++ [x]) = rem := by rw [st.keep, n.2]
      have q2 : dropS S b (ids ++ [x]) = don := by rw [st.drop, n.1]; simp
      refine ⟨_, rfl, lv, ?_, ?_, ?_, ?_⟩
      · rw [q1]; exact st.box
      · rw [q1]; exact st.seg
      · rw [q2]; exact rows_base st.row (by omega)
      · exact st.fr.drewN _
end Go.Proofs.Ybulkbnfo
