/-
  MAPS WHOSE ELEMENTS ARE TOLD AS VALUES ('valR'), and 'newStartSet'.
-/
import Derived.Test.YbulkbndyB
import Derived.Maps.RangeWalk
import Derived.Maps.Ext
namespace Go.Proofs.Ybulkbndy
open Go.RowKit Go.Maps

/-- HOW AN ELEMENT READS: as itself. -/
def valR (v : Value) : Option (DataW Value × List MemPlace) := some (.held v, [])
theorem valR_inv {v : Value} {d : DataW Value} {ps : List MemPlace} (h : valR v = some (d, ps)) : d = .held v ∧ ps = [] := by
  simp only [valR, Option.some.injEq, Prod.mk.injEq] at h
  exact ⟨h.1.symm, h.2.symm⟩

theorem law9 : Keyed Yba.prog 9 := string_keyed Yba.underlying9
/-- What a string reads as, as a key. -/
def kS (s : ByteArray) : Lit := .string s.data.toList
theorem kS_inj {s t : ByteArray} (h : kS s = kS t) : s = t := by
  unfold kS at h
  cases s with | mk a => cases t with | mk b =>
  simp at h
  rw [show a = b from by cases a; cases b; simp_all]
theorem kS_isKey (s : ByteArray) : WideAt.IsKeyLit (kS s) := trivial
theorem key9 {s : ByteArray} (h : s.size ≤ maxLen) : keyOf Yba.prog 9 (.string s) = some (kS s) := WideMaps.keyOf_string_mk Yba.underlying9 h

theorem zero25 (w : World) : (zeroValue 25).run Yba.prog w = .ok (.slice none 0 0) w := by kernel_rfl
theorem zero4 (w : World) : (zeroValue 4).run Yba.prog w = .ok (.bool false) w := by kernel_rfl
theorem zero76 (w : World) : (zeroValue 76).run Yba.prog w = .ok (.pointer none) w := by kernel_rfl

theorem run_makeMapN (t k e : TypeId) (ht : Yba.prog.underlying t = some (.map k e)) (n : Int) (w : World) : (Instr.makeMap t (some (.int .i64 n))).run Yba.prog w = .ok (.map (some w.heap.size)) (w.alloc (.map #[] 0)) := by
  simp [Instr.makeMap, run_underlying ht, asInt, newObj, Result.andThen]
  rfl

/-- The list without its repeats, in the order of the first times. -/
def dset (l : List Nat) : List Nat := l.foldl (fun acc x => if acc.contains x then acc else acc ++ [x]) []
theorem dset_snoc (l : List Nat) (x : Nat) : dset (l ++ [x]) = if (dset l).contains x then dset l else dset l ++ [x] := by
  simp [dset, List.foldl_append]

theorem mem_dset (l : List Nat) (x : Nat) : x ∈ dset l ↔ x ∈ l := by
  suffices h : ∀ (l acc : List Nat), x ∈ l.foldl (fun acc x => if acc.contains x then acc else acc ++ [x]) acc ↔ x ∈ acc ∨ x ∈ l by
    have := h l []
    simpa [dset] using this
  intro l
  induction l with
  | nil => intro acc; simp
  | cons a l ih =>
    intro acc
    rw [List.foldl_cons, ih]
    by_cases hc : acc.contains a = true
    · rw [if_pos hc]
      have ha : a ∈ acc := by simpa using hc
      constructor
      · rintro (h | h)
        · exact .inl h
        · exact .inr (List.mem_cons_of_mem _ h)
      · rintro (h | h)
        · exact .inl h
        · rcases List.mem_cons.1 h with rfl | h
          · exact .inl ha
          · exact .inr h
    · rw [if_neg hc]
      simp [List.mem_append, or_assoc]

/-- The index map of the names of M. -/
structure IdxD (D : DataW Value) (M : List Nat) : Prop where
  tidy : Tidy D
  has : ∀ kl, Maps.has D kl = true ↔ ∃ i ∈ M, kl = kS (roleB i)
  val : ∀ i ∈ M, ∀ z, D.atKey (kS (roleB i)) z = .held (.bool true)
  size : Maps.size D = (dset M).length

theorem IdxD.nil : IdxD (.map []) [] := ⟨tidy_empty, fun kl => by simp [Maps.has], fun i hi => by simp at hi, rfl⟩

theorem IdxD.put {D : DataW Value} {M : List Nat} (h : IdxD D M) (hM : ∀ i ∈ M, i < 16) {i : Nat} (hi : i < 16) : IdxD (D.put (kS (roleB i)) (.held (.bool true))) (M ++ [i]) := by
  have hk := kS_isKey (roleB i)
  refine ⟨h.tidy.put hk _, fun kl => ?_, fun j hj z => ?_, ?_⟩
  · by_cases e : kl = kS (roleB i)
    · subst e
      rw [has_put_same h.tidy.isMap hk]
      exact ⟨fun _ => ⟨i, by simp, rfl⟩, fun _ => rfl⟩
    · rw [has_put_other e, h.has]
      constructor
      · rintro ⟨j, hj, hkl⟩
        exact ⟨j, by simp [hj], hkl⟩
      · rintro ⟨j, hj, hkl⟩
        rcases List.mem_append.1 hj with hj | hj
        · exact ⟨j, hj, hkl⟩
        · simp at hj; subst hj; exact absurd hkl e
  · by_cases e : kS (roleB j) = kS (roleB i)
    · rw [e]
      exact atKey_put_same h.tidy.isMap hk _ _
    · rw [atKey_put_other e]
      rcases List.mem_append.1 hj with hj | hj
      · exact h.val j hj z
      · simp at hj; subst hj; exact absurd rfl e
  · rw [size_put h.tidy, dset_snoc]
    by_cases hc : (dset M).contains i = true
    · have hm : i ∈ M := (mem_dset M i).1 (by simpa using hc)
      rw [if_pos ((h.has _).2 ⟨i, hm, rfl⟩), if_pos hc, h.size]
    · rw [if_neg hc, if_neg, h.size]
      · simp
      · intro hh
        obtain ⟨j, hj, e⟩ := (h.has _).1 hh
        have := role_inj hi (hM j hj) (kS_inj e)
        subst this
        exact hc (by simpa using (mem_dset M i).2 hj)

/-- The map 'next': at role i an element with names in it just if 'sen i'. -/
def Next (w : World) (b : Nat) (sen : Nat → Bool) : Prop :=
  ∃ (m : Nat) (D : DataW Value), w.ownsMap Yba.prog 9 valR b m D ∧
    ∀ i, i < 16 → ∃ a n c, D.atKey (kS (roleB i)) (.held (.slice none 0 0)) = .held (.slice a n c) ∧ (decide (0 < n) = sen i)

theorem Next.look {w : World} {b : Nat} {sen : Nat → Bool} (h : Next w b sen) {i : Nat} (hi : i < 16) :
    ∃ a n c, (Instr.lookup 24 (.map (some b)) (.string (roleB i)) false).run Yba.prog w = .ok (.slice a n c) w ∧ (decide (0 < n) = sen i) := by
  obtain ⟨m, D, hown, hD⟩ := h
  obtain ⟨a, n, c, hat, hs⟩ := hD i hi
  obtain ⟨v, ps, hrun, hv⟩ := hown.lookup law9 Yba.underlying24 (zero25 w) (zd := .held (.slice none 0 0)) (zp := []) rfl (key9 (by rw [role_size i hi]; decide))
  rw [hat] at hv
  have := (valR_inv hv).1
  simp only [DataW.held.injEq] at this
  exact ⟨a, n, c, by rw [this]; exact hrun, hs⟩

theorem Next.grown {w w' : World} {b : Nat} {sen : Nat → Bool} {row : Option Nat} (h : Next w b sen) (hg : w.grownBy w' row) (hne : some b ≠ row) : Next w' b sen := by
  obtain ⟨m, D, hown, hD⟩ := h
  exact ⟨m, D, hown.kept hg hne, hD⟩
theorem Next.lt {w : World} {b : Nat} {sen : Nat → Bool} (h : Next w b sen) : b < w.heap.size := by
  obtain ⟨m, D, hown, hD⟩ := h
  exact hown.lt
theorem ownsMap_below {P : Program} {k : TypeId} {R : Value → Option (DataW Value × List MemPlace)} {w w' : World} {b n B : Nat} {D : DataW Value} (h : w.ownsMap P k R b n D) (hb : Below B w w') (hB : b < B) : w'.ownsMap P k R b n D := by
  obtain ⟨es, clock, hh, r⟩ := h
  exact ⟨es, clock, (hb.block b hB).trans hh, r⟩
theorem Next.below {w w' : World} {b B : Nat} {sen : Nat → Bool} (h : Next w b sen) (hb : Below B w w') (hB : b < B) : Next w' b sen := by
  obtain ⟨m, D, hown, hD⟩ := h
  exact ⟨m, D, ownsMap_below hown hb hB, hD⟩

/-- WHAT A startSet IS: the pointer s, made over the list 'lv' of the names of L. -/
structure SS (w : World) (base s : Nat) (lv : Value) (L : List Nat) (sen : Nat → Bool) : Prop where
  made : ∃ bi v al D m, w.heap[s]? = some (.cells #[lv, .map (some bi), v, .slice (some ⟨al, 0, none⟩) 1 1] 85 (0, 0)) ∧ w.ownsMap Yba.prog 9 valR bi m D ∧ IdxD D L ∧
    w.ownsRow base 9 1 v (L.filter sen).length (strs' (L.filter sen)) ∧ w.heap[al]? = some (.cells #[.pointer (some ⟨s, 0, none⟩)] 76 (0, 0)) ∧ base ≤ bi ∧ base ≤ al
  lo : base ≤ s

/-- WHAT HOLDS AT EVERY ROUND'S HEAD of 'newStartSet'. -/
def NSRel (L : List Nat) (sen : Nat → Bool) (lv : Value) (w : World) (j : Value) (wr : World) : Prop :=
  ∃ (k : Nat) (v : Value) (D : DataW Value), j = .int .i64 k ∧ k ≤ L.length ∧ wr.ownsMap Yba.prog 9 valR w.heap.size k D ∧ IdxD D (L.take k) ∧
    wr.ownsRow (w.heap.size + 2) 9 1 v ((L.take k).filter sen).length (strs' ((L.take k).filter sen)) ∧
    wr.heap[w.heap.size + 1]? = some (.cells #[lv, .map (some w.heap.size), v, .slice none 0 0] 85 (0, 0)) ∧ Below w.heap.size w wr

theorem cell_at {w : World} {b : Nat} {cs : Array Value} {e : TypeId} {fz : Nat × Nat} (h : w.heap[b]? = some (.cells cs e fz)) (i : Nat) : w.cell? ⟨b, i, none⟩ = cs[i]? := by simp [World.cell?, h]
theorem free_at {w : World} {b : Nat} {cs : Array Value} {e : TypeId} (h : w.heap[b]? = some (.cells cs e (0, 0))) (i : Nat) : w.frozen? ⟨b, i, none⟩ = false := by simp [World.frozen?, h]

theorem ns_start {L : List Nat} {sen : Nat → Bool} {lv : Value} {w : World} : NSRel L sen lv w (.int .i64 0) ((w.alloc (.map #[] 0)).alloc (.cells #[lv, .map (some w.heap.size), .slice none 0 0, .slice none 0 0] 85)) := by
  refine ⟨0, .slice none 0 0, .map [], rfl, Nat.zero_le _, ?_, IdxD.nil, World.ownsRow_nil _ _ _ _, ?_, ?_⟩
  · exact (World.ownsMap_made w Yba.prog 9 valR).alloc _
  · have := heap_alloc_new (w.alloc (.map #[] 0)) (.cells #[lv, .map (some w.heap.size), .slice none 0 0, .slice none 0 0] 85)
    simpa using this
  · exact ((Below.refl _ _).alloc (Nat.le_refl _) _).alloc (by simp) _

theorem take_snoc' {L : List Nat} {k i : Nat} (h : L[k]? = some i) : L.take (k + 1) = L.take k ++ [i] := by
  rw [List.take_add_one, h]; rfl
theorem ns_len (L : List Nat) (sen : Nat → Bool) (k : Nat) : ((L.take k).filter sen).length ≤ k := Nat.le_trans (List.length_filter_le _ _) (List.length_take_le _ _)

theorem row_shape {w : World} {base : Nat} {e : TypeId} {v : Value} {n : Nat} {xs : List Value} (h : w.ownsRow base e 1 v (n + 1) xs) : ∃ g cap, v = .slice (some ⟨g, 0, none⟩) (n + 1) cap := by
  rcases h.2 with ⟨_, h'⟩ | ⟨g, cap, cur, h', _⟩
  · omega
  · exact ⟨g, cap, h'⟩

section
variable {L : List Nat} {sen : Nat → Bool} {lv v : Value} {w wr w1 : World} {D : DataW Value} {k i : Nat}

theorem ns_keep1 (hS : wr.heap[w.heap.size + 1]? = some (.cells #[lv, .map (some w.heap.size), v, .slice none 0 0] 85 (0, 0))) (hg1 : wr.grownBy w1 (some w.heap.size)) :
    w1.heap[w.heap.size + 1]? = some (.cells #[lv, .map (some w.heap.size), v, .slice none 0 0] 85 (0, 0)) :=
  (hg1.block _ (Array.getElem?_eq_some_iff.1 hS).1 (by simp)).trans hS
theorem ns_row1 {n : Nat} {xs : List Value} (hrow : wr.ownsRow (w.heap.size + 2) 9 1 v n xs) (hg1 : wr.grownBy w1 (some w.heap.size)) : w1.ownsRow (w.heap.size + 2) 9 1 v n xs :=
  hrow.kept hg1 (.inr (fun e => by have := (hrow.lt _ e).1; omega))
theorem ns_keep2 {n : Nat} {xs : List Value} {o : Obj} {w2 : World} (hS : wr.heap[w.heap.size + 1]? = some (.cells #[lv, .map (some w.heap.size), v, .slice none 0 0] 85 (0, 0))) (hg1 : wr.grownBy w1 (some w.heap.size))
    (hrow : wr.ownsRow (w.heap.size + 2) 9 1 v n xs) (hg2 : (w1.alloc o).grownBy w2 v.ownBlock) :
    w2.heap[w.heap.size + 1]? = some (.cells #[lv, .map (some w.heap.size), v, .slice none 0 0] 85 (0, 0)) := by
  have h1 := ns_keep1 hS hg1
  have hlt := (Array.getElem?_eq_some_iff.1 h1).1
  refine (hg2.block _ (by simp; omega) (fun e => ?_)).trans ((Below.heap_alloc w1 o _ hlt).trans h1)
  have := (hrow.lt _ e.symm).1
  omega

theorem ns_no (hlt : k < L.length) (hi : L[k]? = some i) (hi16 : i < 16) (h16 : ∀ i ∈ L, i < 16) (hsen : sen i = false)
    (hmap1 : w1.ownsMap Yba.prog 9 valR w.heap.size (k + 1) (D.put (kS (roleB i)) (.held (.bool true)))) (hg1 : wr.grownBy w1 (some w.heap.size)) (hD : IdxD D (L.take k))
    (hrow : wr.ownsRow (w.heap.size + 2) 9 1 v ((L.take k).filter sen).length (strs' ((L.take k).filter sen)))
    (hS : wr.heap[w.heap.size + 1]? = some (.cells #[lv, .map (some w.heap.size), v, .slice none 0 0] 85 (0, 0))) (hnx : Below w.heap.size w wr) : NSRel L sen lv w (.int .i64 ((k : Int) + 1)) w1 := by
  refine ⟨k + 1, v, _, by go_num, hlt, hmap1, ?_, ?_, ns_keep1 hS hg1, hnx.grown hg1 hnx.size (fun j hj => by cases hj; exact Nat.le_refl _)⟩
  · rw [take_snoc' hi]
    exact hD.put (fun j hj => h16 j (List.mem_of_mem_take hj)) hi16
  · have e : (L.take (k + 1)).filter sen = (L.take k).filter sen := by rw [take_snoc' hi]; simp [hsen]
    rw [e]
    exact ns_row1 hrow hg1

theorem ns_yes {o : Obj} {v' : Value} {w2 : World} (hlt : k < L.length) (hi : L[k]? = some i) (hi16 : i < 16) (h16 : ∀ i ∈ L, i < 16) (hsen : sen i = true)
    (hmap1 : w1.ownsMap Yba.prog 9 valR w.heap.size (k + 1) (D.put (kS (roleB i)) (.held (.bool true)))) (hg1 : wr.grownBy w1 (some w.heap.size)) (hD : IdxD D (L.take k))
    (hrow : wr.ownsRow (w.heap.size + 2) 9 1 v ((L.take k).filter sen).length (strs' ((L.take k).filter sen)))
    (hS : wr.heap[w.heap.size + 1]? = some (.cells #[lv, .map (some w.heap.size), v, .slice none 0 0] 85 (0, 0))) (hnx : Below w.heap.size w wr)
    (hrow2 : w2.ownsRow (w.heap.size + 2) 9 1 v' (((L.take k).filter sen).length + 1) (strs' ((L.take k).filter sen) ++ [.string (roleB i)])) (hg2 : (w1.alloc o).grownBy w2 v.ownBlock) :
    NSRel L sen lv w (.int .i64 ((k : Int) + 1)) (w2.setCell ⟨w.heap.size + 1, 2, none⟩ v') := by
  have hS2 := ns_keep2 hS hg1 hrow hg2
  have hm := hmap1.lt
  have hne : some w.heap.size ≠ v.ownBlock := fun e => by have := (hrow.lt _ e.symm).1; omega
  refine ⟨k + 1, v', _, by go_num, hlt, (((hmap1.alloc o).kept hg2 hne).setCell (by simp) _), ?_, ?_, ?_, ?_⟩
  · rw [take_snoc' hi]
    exact hD.put (fun j hj => h16 j (List.mem_of_mem_take hj)) hi16
  · have e : (L.take (k + 1)).filter sen = (L.take k).filter sen ++ [i] := by rw [take_snoc' hi]; simp [hsen]
    rw [e]
    refine ownsRow_setCell_below ?_ (by simp) _
    simpa [strs'] using hrow2
  · have := heap_setCell_same w2 (w.heap.size + 1) 2 _ 85 v' hS2
    simpa using this
  · have h1 := hg1.size
    have h0 := hnx.size
    refine Below.setCell ?_ (by simp) _
    refine ((hnx.grown hg1 hnx.size (fun j hj => by cases hj; exact Nat.le_refl _)).alloc (by omega) o).grown hg2 (by simp; omega) (fun j hj => by have := (hrow.lt _ hj).1; omega)

theorem ns_end (hmap : wr.ownsMap Yba.prog 9 valR w.heap.size L.length D) (hD : IdxD D (L.take L.length)) (hrow : wr.ownsRow (w.heap.size + 2) 9 1 v ((L.take L.length).filter sen).length (strs' ((L.take L.length).filter sen)))
    (hS : wr.heap[w.heap.size + 1]? = some (.cells #[lv, .map (some w.heap.size), v, .slice none 0 0] 85 (0, 0))) :
    SS ((wr.setCell ⟨w.heap.size + 1, 3, none⟩ (.slice (some ⟨wr.heap.size, 0, none⟩) 1 1)).alloc (.cells #[.pointer (some ⟨w.heap.size + 1, 0, none⟩)] 76)) w.heap.size (w.heap.size + 1) lv L sen := by
  rw [List.take_length] at hD hrow
  have hszr : w.heap.size + 1 < wr.heap.size := (Array.getElem?_eq_some_iff.1 hS).1
  have hS3 := heap_setCell_same _ (w.heap.size + 1) 3 _ 85 (.slice (some ⟨wr.heap.size, 0, none⟩) 1 1) hS
  have hz : (wr.setCell ⟨w.heap.size + 1, 3, none⟩ (.slice (some ⟨wr.heap.size, 0, none⟩) 1 1)).heap.size = wr.heap.size := by simp
  refine ⟨⟨w.heap.size, v, wr.heap.size, D, L.length, ?_, (hmap.setCell (by simp) _).alloc _, hD, ?_, ?_, Nat.le_refl _, by omega⟩, by omega⟩
  · rw [Below.heap_alloc _ _ _ (by rw [hz]; exact hszr), hS3]
    simp
  · exact ownsRow_base ((ownsRow_setCell_below hrow (by simp) _).alloc _) (by omega)
  · have := heap_alloc_new (wr.setCell ⟨w.heap.size + 1, 3, none⟩ (.slice (some ⟨wr.heap.size, 0, none⟩) 1 1)) (.cells #[.pointer (some ⟨w.heap.size + 1, 0, none⟩)] 76)
    rw [hz] at this
    exact this

end

set_option maxHeartbeats 400000 in
set_option maxRecDepth 100000 in
theorem newStartSet (L : List Nat) (hL : L.length ≤ 24) (h16 : ∀ i ∈ L, i < 16) (g cap base bj : Nat) (sen : Nat → Bool) (w : World) (hr : w.ownsRow base 9 1 (.slice (some ⟨g, 0, none⟩) L.length cap) L.length (strs' L)) (hg : g < w.heap.size)
    (hnext : Next w bj sen) :
    Calls Yba.prog 14 #[.slice (some ⟨g, 0, none⟩) L.length cap, .map (some bj)] w fun e w' => ∃ s, e = .returned (.pointer (some ⟨s, 0, none⟩)) ∧ SS w' w.heap.size s (.slice (some ⟨g, 0, none⟩) L.length cap) L sen ∧ Below w.heap.size w w' := by
  obtain ⟨i0, hi, hz0, hz1, hz2⟩ := info_parts Yba.info9
  have hmm := run_makeMapN 58 9 4 Yba.underlying58
  go_enter Yba.func14, Yba.ntmps14
  go_wp2
  go_loopw [16] (fun j wr => NSRel L sen (.slice (some ⟨g, 0, none⟩) L.length cap) w j wr) (fun j _ => L.length - (intOf j).toNat)
  case atStart => exact ns_start
  case round =>
    obtain ⟨k, v, D, rfl, hk, hmap, hD, hrow, hS, hnx⟩ := hrel
    by_cases hlt : k < L.length
    · obtain ⟨i, hiL⟩ : ∃ i, L[k]? = some i := ⟨_, List.getElem?_eq_getElem hlt⟩
      have hi16 : i < 16 := h16 i (List.mem_of_getElem? hiL)
      have c0 : wr.cell? ⟨g, k, none⟩ = some (.string (roleB i)) := by
        refine (hnx.cell (by exact hg)).trans ?_
        rw [hr.cellAt k (by omega)]
        simp [strs', hiL]
      have c1 : wr.cell? ⟨w.heap.size + 1, 1, none⟩ = some (.map (some w.heap.size)) := cell_at hS 1
      have hszr : w.heap.size + 2 ≤ wr.heap.size := by
        have := (Array.getElem?_eq_some_iff.1 hS).1
        omega
      have HI := Hid.mk hiL
      have HS := Hid.mk hS
      clear hiL hS
      have hkey := key9 (s := roleB i) (by rw [role_size i hi16]; decide)
      cases hsen : sen i
      · go_wp2_with (at_mapUpdate; refine wpList_mapUpdate_own _ rfl _ _ _ 58 rfl 9 4 law9 Yba.underlying58 _ w.heap.size k _ rfl hmap (by unfold maxLen; omega) _ _ _ rfl rfl hkey (.held (.bool true)) [] rfl ?_; intro w1 hmap1 hg1; obtain ⟨a1, n1, cc1, hlook, hn1⟩ := ((hnext.below hnx hnext.lt).grown hg1 (by have := hnext.lt; simp; omega)).look hi16)
        go_roundw
        case rel => exact ns_no hlt HI.out hi16 h16 hsen hmap1 hg1 hD hrow HS.out hnx
        case measure => simp [intOf]; omega
      · go_wp2_with (first | (at_mapUpdate; refine wpList_mapUpdate_own _ rfl _ _ _ 58 rfl 9 4 law9 Yba.underlying58 _ w.heap.size k _ rfl hmap (by unfold maxLen; omega) _ _ _ rfl rfl hkey (.held (.bool true)) [] rfl ?_; intro w1 hmap1 hg1; obtain ⟨a1, n1, cc1, hlook, hn1⟩ := ((hnext.below hnx hnext.lt).grown hg1 (by have := hnext.lt; simp; omega)).look hi16; have c2 := cell_at (ns_keep1 HS.out hg1) 2; have hrow1 := ns_row1 hrow hg1) | (at_builtin; refine wpList_append_own _ rfl _ _ 25 rfl (w.heap.size + 2) 9 i0 (.string ⟨#[]⟩) 1 16 Yba.underlying25 hi hz0 hz1 hz2 rfl (by decide) v _ _ rfl (hrow1.alloc _) ⟨w1.heap.size, 0, none⟩ 1 1 [.string (roleB i)] rfl rfl (cell_one_new _ _ _) ?c2 ?c3 ?c4 ?c5 ?_))
        case c2 => intro u hu; simp at hu; subst hu; rfl
        case c3 => have := ns_len L sen k; unfold maxLen; omega
        case c4 => have := ns_len L sen k; omega
        case c5 => have := hg1.size; simp; omega
        intro v' w2 hrow2 hg2 _
        obtain ⟨g', cap', rfl⟩ := row_shape hrow2
        have hS2 := ns_keep2 HS.out hg1 hrow hg2
        have c22 := cell_at hS2 2
        have f22 := free_at hS2 2
        go_wp2
        go_roundw
        case rel => exact ns_yes hlt HI.out hi16 h16 hsen hmap1 hg1 hD hrow HS.out hnx hrow2 hg2
        case measure => simp [intOf]; omega
    · obtain rfl : k = L.length := by omega
      have hszr : w.heap.size + 1 < wr.heap.size := (Array.getElem?_eq_some_iff.1 hS).1
      have hS3 := (Below.heap_alloc wr (.cells #[.pointer (some ⟨w.heap.size + 1, 0, none⟩)] 76) _ hszr).trans hS
      have c3 := cell_at hS3 3
      have f3 := free_at hS3 3
      have HS := Hid.mk hS
      clear hS hS3
      go_wp2
      go_ret
      exact ⟨w.heap.size + 1, rfl, ns_end hmap hD hrow HS.out, (hnx.setCell (by simp) _).alloc (by have := hnx.size; simp; omega) _⟩

end Go.Proofs.Ybulkbndy
