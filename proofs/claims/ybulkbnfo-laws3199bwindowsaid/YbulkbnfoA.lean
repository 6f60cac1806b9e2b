/-
  A SLICE THAT LIES SOMEWHERE IN A ROW OF THE CALL's OWN ('Seg'), appended to; 'endedJobs.add'.
-/
import Derived.Test.YbulkbnfoRows
import Derived.Test.YbulkbnfoPlain
import Derived.WalkKit
import Derived.WalkSpells
import Derived.WalkLawsBesides
import Derived.BigQuiet
import Derived.Deep.RegionHeld3
namespace Go.Proofs.Ybulkbnfo
open Go.RowKit

theorem Yba.info28 : (Yba.prog.info? 28).map (fun i => (i.zero, i.size, i.bytes)) = some (some (.pointer none), 1, 8) := by kernel_rfl

theorem cell_at {w : World} {b : Nat} {cs : Array Value} {e : TypeId} {fz : Nat × Nat} (h : w.heap[b]? = some (.cells cs e fz)) (i : Nat) : w.cell? ⟨b, i, none⟩ = cs[i]? := by simp [World.cell?, h]
theorem free_at {w : World} {b : Nat} {cs : Array Value} {e : TypeId} (h : w.heap[b]? = some (.cells cs e (0, 0))) (i : Nat) : w.frozen? ⟨b, i, none⟩ = false := by simp [World.frozen?, h]
theorem hide {p : Prop} (h : p) : Hid p := h
theorem block_lt {w : World} {b : Nat} {o : Obj} (h : w.heap[b]? = some o) : b < w.heap.size := (Array.getElem?_eq_some_iff.1 h).1

/-- v LEADS TO THE CELLS xs, which lie somewhere in a row of pointers, block 'base' or later. -/
def Seg (w : World) (base : Nat) (v : Value) (xs : List Value) : Prop :=
  (v = .slice none 0 0 ∧ xs = []) ∨
  ∃ g off cap cs, v = .slice (some ⟨g, off, none⟩) xs.length cap ∧ base ≤ g ∧ w.heap[g]? = some (.cells cs 28 (0, 0)) ∧ xs.length ≤ cap ∧ off + cap ≤ cs.size ∧ ∀ i x, xs[i]? = some x → cs[off + i]? = some x

theorem Seg.lt {w : World} {base : Nat} {v : Value} {xs : List Value} (h : Seg w base v xs) : ∀ g, v.ownBlock = some g → base ≤ g ∧ g < w.heap.size := by
  intro g hg
  rcases h with ⟨rfl, _⟩ | ⟨g', off, cap, cs, rfl, h1, h2, _⟩
  · simp [Value.ownBlock] at hg
  · simp [Value.ownBlock] at hg
    subst hg
    exact ⟨h1, block_lt h2⟩

theorem Seg.kept {w w' : World} {base : Nat} {v : Value} {xs : List Value} {row : Option Nat} (h : Seg w base v xs) (hg : w.grownBy w' row) (hne : ∀ g, v.ownBlock = some g → some g ≠ row) : Seg w' base v xs := by
  rcases h with h | ⟨g, off, cap, cs, rfl, h1, h2, r⟩
  · exact .inl h
  · exact .inr ⟨g, off, cap, cs, rfl, h1, (hg.block g (block_lt h2) (hne g rfl)).trans h2, r⟩

theorem Seg.setCell {w : World} {base : Nat} {v : Value} {xs : List Value} {a : Addr} {u : Value} (h : Seg w base v xs) (hne : ∀ g, v.ownBlock = some g → g ≠ a.block) : Seg (w.setCell a u) base v xs := by
  rcases h with h | ⟨g, off, cap, cs, rfl, h1, h2, r⟩
  · exact .inl h
  · exact .inr ⟨g, off, cap, cs, rfl, h1, (Below.heap_setCell _ _ _ _ (hne g rfl)).trans h2, r⟩

theorem Seg.of_row {w : World} {base base' : Nat} {v : Value} {xs : List Value} (h : w.ownsRow base' 28 1 v xs.length xs) (hb : base ≤ base') : Seg w base v xs := by
  rcases h.2 with ⟨h1, h2⟩ | ⟨g, cap, cur, h1, h2, h3, h4, _, h5, h6⟩
  · exact .inl ⟨h1, List.eq_nil_of_length_eq_zero h2⟩
  · refine .inr ⟨g, 0, cap, cur, h1, by omega, h3, h4, by omega, fun i x hx => ?_⟩
    rw [Nat.mul_one] at h6
    have : (cur.toList.take xs.length)[i]? = some x := by rw [h6]; exact hx
    rw [List.getElem?_take] at this
    split at this
    · simpa using this
    · cases this

/-- 'append(v, x)': there is room, or a new row is made. -/
theorem run_append_seg {w : World} {base : Nat} {v x : Value} {xs : List Value} (h : Seg w base v xs) (ty : TypeId) (ad : Addr) (c : Nat) (hx : w.cell? ad = some x) (hone : x.oneCell' = true) (hlen : xs.length ≤ 100000) (hb : base ≤ w.heap.size) :
    ∃ v' w', (Builtin.append_ #[25, 25] ty #[v, .slice (some ad) 1 c]).run Yba.prog w = .ok v' w' ∧ Seg w' base v' (xs ++ [x]) ∧ w.grownBy w' v.ownBlock ∧ ∀ g, v'.ownBlock = some g → v.ownBlock = some g ∨ w.heap.size ≤ g := by
  obtain ⟨i0, hi, hz0, hz1, hz2⟩ := info_parts Yba.info28
  have hnews : ∀ j u, [x][j]? = some u → w.cell? (ad.add j) = some u := by
    intro j u hj
    match j, hj with
    | 0, hj =>
      simp at hj
      subst hj
      simpa [Addr.add] using hx
  have h1c : ∀ u ∈ [x], u.oneCell' = true := by
    intro u hu
    simp at hu
    subst hu
    exact hone
  rcases h with ⟨rfl, rfl⟩ | ⟨g, off, cap, cs, rfl, hbg, hg, hcap, hsz, hcs⟩
  · obtain ⟨v', w', hrun, r1, r2, _⟩ := run_append_own (P := Yba.prog) w w.heap.size 25 ty 28 i0 (.pointer none) 1 8 Yba.underlying25 hi hz0 hz1 hz2 rfl (by decide) (.slice none 0 0) 0 [] (World.ownsRow_nil w _ 28 1) ad 1 c [x] rfl hnews h1c (by decide) (by decide) (Nat.le_refl _)
    exact ⟨v', w', hrun, Seg.of_row (by simpa using r1) hb, r2, fun g hg => .inr (r1.lt g hg).1⟩
  · by_cases hr : xs.length + 1 ≤ cap
    · have hin : off + xs.length < cs.size := by omega
      have hrun := run_append_room_cells (P := Yba.prog) w 25 ty 28 i0 Yba.underlying25 hi g off xs.length cap ad 1 c [x] (by rw [hz1]; rfl) hnews h1c hr
        (fun j hj => by
          have : j = 0 := by simpa using hj
          subst this
          rw [hz1, Nat.mul_one, Nat.add_zero, cell_at hg, Array.getElem?_eq_getElem hin]
          rfl) (fun j hj => free_at hg _)
      rw [hz1, Nat.mul_one] at hrun
      refine ⟨_, _, hrun, ?_, ?_, fun g' hg' => .inl hg'⟩
      · have e : (w.setCells g (off + xs.length) [x]).heap[g]? = some (.cells (cs.setIfInBounds (off + xs.length) x) 28 (0, 0)) := heap_setCell_same w g (off + xs.length) cs 28 x hg
        refine .inr ⟨g, off, cap, cs.setIfInBounds (off + xs.length) x, by simp, hbg, e, by simpa using hr, by simpa using hsz, fun i y hy => ?_⟩
        rw [Array.getElem?_setIfInBounds]
        by_cases ei : i = xs.length
        · subst ei
          rw [if_pos rfl, if_pos hin]
          simpa using hy
        · have hil : i < xs.length := by
            have := (List.getElem?_eq_some_iff.1 hy).1
            simp at this
            omega
          rw [if_neg (by omega)]
          rw [List.getElem?_append_left hil] at hy
          exact hcs i y hy
      · exact ⟨rfl, rfl, rfl, by simp [World.setCells], fun k _ hk => Below.heap_setCell _ _ _ _ (fun e => hk (by rw [e]; rfl))⟩
    · obtain ⟨v', w', hrun, r1, r2⟩ := run_append_arg_grows (P := Yba.prog) w 25 ty 28 i0 (.pointer none) 1 8 Yba.underlying25 hi hz0 hz1 hz2 rfl (by decide) ⟨g, off, none⟩ xs.length cap xs (by omega) (fun j u hj => by rw [Addr.add_lit, cell_at hg]; exact hcs j u hj) ad 1 c [x] rfl hnews (by omega) (by unfold maxLen; omega) (by omega)
      exact ⟨v', w', hrun, Seg.of_row (by simpa using r1) hb, ⟨r2.os, r2.tape, r2.output, r2.size, fun k hk _ => r2.block k hk (by simp)⟩, fun g hg => .inr (r1.lt g hg).1⟩

/-- AT THE OPERATION, FOR THE WALK. -/
theorem wpList_append_seg (w : World) {ops : Array Oper} {rest : List Oper} {o : Oper} {a : Act} {Q : Exit → Act → World → Prop} (hgd : o.guard = none) (s x : Operand) (ho : o.op = .call { callee := .builtin .append, args := #[s, x], argTypes := #[25, 25] })
    (base : Nat) (v u : Value) (xs : List Value) (hs : a.eval s = v) (h : Seg w base v xs) (ad : Addr) (c : Nat) (hx : a.eval x = .slice (some ad) 1 c) (hu : w.cell? ad = some u) (hone : u.oneCell' = true) (hlen : xs.length ≤ 100000) (hb : base ≤ w.heap.size)
    (hK : ∀ v' w', Seg w' base v' (xs ++ [u]) → w.grownBy w' v.ownBlock → (∀ g, v'.ownBlock = some g → v.ownBlock = some g ∨ w.heap.size ≤ g) → wpList Yba.prog ops Q rest (a.put o.dst v') w') : wpList Yba.prog ops Q (o :: rest) a w := by
  refine wpList_plain hgd fun K hK' => ?_
  obtain ⟨v', w', hrun, r1, r2, r3⟩ := run_append_seg h o.type ad c hu hone hlen hb
  unfold Oper.wp
  simp [execOp, ho, resolve, invoke, builtin, hs, hx, hrun, Result.andThen]
  exact hK' _ _ (hK v' w' r1 r2 r3)

end Go.Proofs.Ybulkbnfo
