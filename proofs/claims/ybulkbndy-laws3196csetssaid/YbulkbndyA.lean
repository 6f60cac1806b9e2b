/-
  THE LEAVES: role names, 'senior', decimal numbers.
-/
import Derived.Test.YbulkbndyRows
import Derived.Test.YbulkbndyPlain
import Derived.WalkKit
import Derived.WalkSpells
import Derived.WalkLawsBesides
import Derived.Laws.AppendOwnNone
namespace Go.Proofs.Ybulkbndy
open Go.RowKit

theorem Yba.info5 : (Yba.prog.info? 5).map (fun i => (i.zero, i.size, i.bytes)) = some (some (.int .u8 0), 1, 1) := by kernel_rfl

set_option maxHeartbeats 400000 in
theorem crole (i : Nat) (h : i < 16) (w : World) :
    Calls Yba.prog 4 #[.int .i64 i] w fun e w' => e = .returned (.string (roleB i)) ∧ w' = w := by
  go_enter Yba.func4, Yba.ntmps4
  go_wp2
  go_ret
  exact ⟨rfl, rfl⟩

set_option maxHeartbeats 400000 in
theorem csenior_lt (b off len cap : Nat) (i : Nat) (x : Int) (w : World) (h : i < len) (hx : 0 ≤ x ∧ x ≤ 255) (hc : w.cell? ⟨b, off + i, none⟩ = some (.int .u8 x)) :
    Calls Yba.prog 13 #[.slice (some ⟨b, off, none⟩) len cap, .int .i64 i] w fun e w' => e = .returned (.bool (x % 3 == 1)) ∧ w' = w := by
  go_enter Yba.func13, Yba.ntmps13
  go_wp2
  go_ret
  exact ⟨rfl, rfl⟩

set_option maxHeartbeats 400000 in
theorem csenior_ge (a : Option Addr) (len cap : Nat) (i : Nat) (w : World) (h : ¬ ((i : Int) < len)) :
    Calls Yba.prog 13 #[.slice a len cap, .int .i64 i] w fun e w' => e = .returned (.bool false) ∧ w' = w := by
  go_enter Yba.func13, Yba.ntmps13
  go_wp2
  go_ret
  exact ⟨rfl, rfl⟩

def u8s (l : List Nat) : List Value := l.map fun n : Nat => Value.int .u8 (n : Int)

theorem u8_one (l : List Nat) : ∀ u ∈ u8s l, u.oneCell' = true := by
  intro u hu
  obtain ⟨_, _, rfl⟩ := List.mem_map.1 hu
  rfl

theorem cnum_zero (w : World) :
    Calls Yba.prog 7 #[.int .i64 0] w fun e w' => e = .returned (.string (numB 0)) ∧ Below w.heap.size w w' := by
  go_enter Yba.func7, Yba.ntmps7
  go_wp2
  go_ret
  exact ⟨rfl, Below.refl _ _⟩

theorem Hid.mk {p : Prop} (h : p) : Hid p := h

theorem digF_ne : ∀ (f n : Nat) (acc : List Nat), acc ≠ [] → digF f n acc ≠ []
  | 0, _, _, h => h
  | f + 1, n, acc, h => by
    unfold digF
    split
    · exact h
    · exact digF_ne f _ _ (by simp)

theorem foldl_push (l : List Nat) : ∀ s : ByteArray, (l.map (fun n : Nat => (n : Int))).foldl (fun r n => r.push (UInt8.ofNat n.toNat)) s = ⟨s.data ++ (l.map UInt8.ofNat).toArray⟩ := by
  induction l with
  | nil => intro s; simp
  | cons a l ih =>
    intro s
    rw [List.map_cons, List.foldl_cons, ih]
    simp [ByteArray.push]

theorem run_bytes_row {w : World} {base g cap : Nat} {acc : List Nat} (h : w.ownsRow base 5 1 (.slice (some ⟨g, 0, none⟩) acc.length cap) acc.length (u8s acc)) :
    (convert 23 9 (.slice (some ⟨g, 0, none⟩) acc.length cap)).run Yba.prog w = .ok (.string (bytesB acc)) w := by
  have hl := run_loadCells_list (P := Yba.prog) (w := w) ⟨g, 0, none⟩ (u8s acc) (h.cells rfl)
  have e : u8s acc = (acc.map (fun n : Nat => (n : Int))).map (Value.int .u8) := by simp [u8s]
  have := run_bytesToString (P := Yba.prog) w ⟨g, 0, none⟩ acc.length cap (acc.map (fun n : Nat => (n : Int))) (by rw [← e]; simpa [u8s] using hl)
  rw [run_convert_bytes_string w 23 9 5 _ _ _ Yba.underlying23 Yba.underlying5 Yba.underlying9, this, foldl_push]
  show Result.ok (Value.string ⟨#[] ++ (acc.map UInt8.ofNat).toArray⟩) w = _
  rw [Array.empty_append]
  rfl

/-- WHAT HOLDS AT EVERY ROUND'S HEAD of 'zzs3196cnum'. -/
def NumRel (n : Nat) (w : World) (i v : Value) (wr : World) : Prop :=
  ∃ (f m : Nat) (acc : List Nat), i = .int .i64 m ∧ m < 10 ^ f ∧ f ≤ 4 ∧ acc.length + f = 4 ∧ digF f m acc = digF 4 n [] ∧
    wr.ownsRow w.heap.size 5 1 v acc.length (u8s acc) ∧ Below w.heap.size w wr

theorem num_step {n g m cap : Nat} {acc : List Nat} {w wr w1 : World} {v' : Value} {o : Obj} (hd : digF g (m / 10) ((48 + m % 10) :: acc) = digF 4 n []) (hm : m / 10 < 10 ^ g) (hg : g ≤ 4) (hl : acc.length + (g + 1) = 4) (hnx : Below w.heap.size w wr)
    (hown : w1.ownsRow w.heap.size 5 1 v' (1 + acc.length) ([Value.int .u8 (48 + (m : Int) % 10)] ++ u8s acc)) (hgr : (wr.alloc o).grownBy w1 (Value.slice (some ⟨wr.heap.size, 0, none⟩) 1 cap).ownBlock) : NumRel n w (.int .i64 ((m : Int) / 10)) v' w1 := by
  refine ⟨g, m / 10, (48 + m % 10) :: acc, by go_num, hm, hg, by simp; omega, hd, ?_, (hnx.alloc hnx.size _).grown hgr (by have := hnx.size; simp; omega) (fun j hj => ?_)⟩
  · rw [List.length_cons, Nat.add_comm]
    simpa [u8s] using hown
  · have e : wr.heap.size = j := by simpa [Value.ownBlock] using hj
    have := hnx.size
    omega

set_option maxHeartbeats 400000 in
set_option maxRecDepth 100000 in
theorem cnum_pos (n : Nat) (h0 : 0 < n) (h : n < 1024) (w : World) :
    Calls Yba.prog 7 #[.int .i64 n] w fun e w' => e = .returned (.string (numB n)) ∧ Below w.heap.size w w' := by
  obtain ⟨i0, hi, hz0, hz1, hz2⟩ := info_parts Yba.info5
  go_enter Yba.func7, Yba.ntmps7
  go_wp2
  go_loopw [0, 3] (fun i v wr => NumRel n w i v wr)
    (fun i _ _ => (intOf i).toNat)
  case atStart => exact ⟨4, n, [], rfl, by omega, Nat.le_refl _, rfl, rfl, World.ownsRow_nil _ _ _ _, Below.refl _ _⟩
  case round =>
    obtain ⟨f, m, acc, rfl, hm, hf, hl, hd, hown, hnx⟩ := hrel
    by_cases hpos : 0 < m
    · have hmb : m < 10000 := Nat.lt_of_lt_of_le hm (Nat.le_trans (Nat.pow_le_pow_right (by omega) hf) (by decide))
      obtain ⟨g, rfl⟩ : ∃ g, f = g + 1 := ⟨f - 1, by have : f ≠ 0 := by (intro e; subst e; simp at hm; omega)
                                                     omega⟩
      have hm' : m / 10 < 10 ^ g := by rw [Nat.pow_succ] at hm; omega
      have HD : Hid (digF g (m / 10) ((48 + m % 10) :: acc) = digF 4 n []) := by rw [← hd, digF_pos _ _ _ hpos]; rfl
      have hlit := World.ownsRow_lit (base := w.heap.size) (e := 5) (size := 1) wr #[Value.int .u8 (48 + (m : Int) % 10)] 1 hnx.size (by decide) rfl
      have hone := u8_one acc
      rcases hown with ⟨hlen, ⟨rfl, hn⟩ | ⟨b, cap, cur, rfl, hb, hh, hnc, hcm, hcs, htk⟩⟩
      · obtain rfl : acc = [] := List.eq_nil_of_length_eq_zero hn
        clear hd hm
        go_wp2_with (at_builtin; refine wpList_append_own_none rfl _ _ 23 rfl w.heap.size 5 i0 1 Yba.underlying23 hi _ 1 _ rfl hlit rfl ?_)
        go_roundw
        case rel => exact ⟨g, m / 10, [48 + m % 10], by go_num, hm', by omega, by simp at hl ⊢; omega, HD.out, hlit, hnx.alloc hnx.size _⟩
        case measure => simp [intOf]; omega
      · have hcells := World.ownsRow.cells (w := wr.alloc (.cells #[Value.int .u8 (48 + (m : Int) % 10)] 5)) (base := w.heap.size) (e := 5) (size := 1) (v := .slice (some ⟨b, 0, none⟩) acc.length cap) (n := acc.length) (xs := u8s acc) (World.ownsRow.alloc ⟨hlen, .inr ⟨b, cap, cur, rfl, hb, hh, hnc, hcm, hcs, htk⟩⟩ _) (g := b) rfl
        clear hd hm
        go_wp2_with (at_builtin; refine wpList_append_own _ rfl _ _ 23 rfl w.heap.size 5 i0 (.int .u8 0) 1 1 Yba.underlying23 hi hz0 hz1 hz2 rfl (by decide) (.slice (some ⟨wr.heap.size, 0, none⟩) 1 1) 1 _ rfl hlit ⟨b, 0, none⟩ acc.length cap (u8s acc) rfl hlen hcells hone (by unfold maxLen; omega) (by omega) (by have := hnx.size; simp; omega) ?_; intro v' w1 hown' hgrow _)
        go_roundw
        case rel =>
          exact num_step HD.out hm' (by omega) hl hnx hown' hgrow
        case measure => simp [intOf]; omega
    · obtain rfl : m = 0 := by omega
      rw [digF_zero] at hd
      have hne : acc ≠ [] := by
        rw [hd, digF_pos _ _ _ h0]
        exact digF_ne _ _ _ (by simp)
      have hfin : numB n = bytesB acc := by rw [hd]; unfold numB digs; rw [if_neg (by omega)]
      have HF := Hid.mk hfin
      rcases hown with ⟨hlen, ⟨rfl, hn⟩ | ⟨b, cap, cur, rfl, hb, hh, hnc, hcm, hcs, htk⟩⟩
      · exact absurd (List.eq_nil_of_length_eq_zero hn) hne
      · have hcv := run_bytes_row (g := b) (cap := cap) (acc := acc) ⟨hlen, .inr ⟨b, cap, cur, rfl, hb, hh, hnc, hcm, hcs, htk⟩⟩
        clear hd hfin hm
        go_wp2
        go_ret
        exact ⟨by rw [HF.out]; rfl, hnx⟩

theorem cnum (n : Nat) (h : n < 1024) (w : World) :
    Calls Yba.prog 7 #[.int .i64 n] w fun e w' => e = .returned (.string (numB n)) ∧ Below w.heap.size w w' := by
  by_cases h0 : 0 < n
  · exact cnum_pos n h0 h w
  · obtain rfl : n = 0 := by omega
    exact cnum_zero w

end Go.Proofs.Ybulkbndy
