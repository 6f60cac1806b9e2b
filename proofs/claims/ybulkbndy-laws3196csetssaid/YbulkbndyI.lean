/-
  THE LAW's OWN LOOPS: what a round of 'uidx[i] = ..; ulists[i] = ..; ur[..] = ulists[i]' does, outside the walk.
-/
import Derived.Test.YbulkbndyH
namespace Go.Proofs.Ybulkbndy
open Go.RowKit Go.Maps

/-- WHAT THE LOOP HAS MADE after k rounds: the rows 'lists' (block b) and 'idxs' (b + 1), the map (b + 2), and the rows they lead to. -/
structure Half (W0 wr : World) (K n k b : Nat) (kl : Nat → Lit) (g gi : Nat → Nat) (L : Nat → List Nat) : Prop where
  cl : ∃ cs : Array Value, wr.heap[b]? = some (.cells cs 25 (0, 0)) ∧ cs.size = n ∧ ∀ i, i < k → cs[i]? = some (lvOf g L i)
  cx : ∃ cs : Array Value, wr.heap[b + 1]? = some (.cells cs 31 (0, 0)) ∧ cs.size = n ∧ ∀ i, i < k → cs[i]? = some (lvOf gi L i)
  mp : ∃ D, wr.ownsMap Yba.prog K valR (b + 2) k D ∧ InD D k kl (lvOf g L)
  rows : ∀ i, i < k → b + 3 ≤ g i ∧ g i < wr.heap.size ∧ wr.ownsRow 0 9 1 (.slice (some ⟨g i, 0, none⟩) (L i).length (L i).length) (L i).length (strs' (L i))
  irows : ∀ i, i < k → b + 3 ≤ gi i ∧ gi i < wr.heap.size ∧ wr.ownsRow 0 3 1 (.slice (some ⟨gi i, 0, none⟩) (L i).length (L i).length) (L i).length (i64s (L i))
  below : Below b W0 wr

theorem InD.congr {D : DataW Value} {n : Nat} {kl : Nat → Lit} {f f' : Nat → Value} (h : InD D n kl f) (he : ∀ i, i < n → f' i = f i) : InD D n kl f' :=
  ⟨h.has, fun i hi z => by rw [he i hi]; exact h.val i hi z, h.inj, h.key⟩

theorem InD.put {D : DataW Value} {k : Nat} {kl : Nat → Lit} {f : Nat → Value} (h : InD D k kl f) (hm : IsMap D) (hk : WideAt.IsKeyLit (kl k)) (hne : ∀ i, i < k → kl i ≠ kl k) : InD (D.put (kl k) (.held (f k))) (k + 1) kl f := by
  refine ⟨fun x => ?_, fun i hi z => ?_, fun i j hi hj e => ?_, fun i hi => ?_⟩
  · by_cases e : x = kl k
    · subst e
      rw [has_put_same hm hk]
      exact ⟨fun _ => ⟨k, by omega, rfl⟩, fun _ => rfl⟩
    · rw [has_put_other e, h.has]
      exact ⟨fun ⟨i, h1, h2⟩ => ⟨i, by omega, h2⟩, fun ⟨i, h1, h2⟩ => ⟨i, by
        have : i ≠ k := fun e' => e (e' ▸ h2)
        omega, h2⟩⟩
  · by_cases e : i = k
    · subst e
      exact atKey_put_same hm hk _ _
    · rw [atKey_put_other (hne i (by omega))]
      exact h.val i (by omega) z
  · by_cases ei : i = k
    · by_cases ej : j = k
      · omega
      · exact absurd (ei ▸ e).symm (hne j (by omega))
    · by_cases ej : j = k
      · exact absurd (ej ▸ e) (hne i (by omega))
      · exact h.inj i j (by omega) (by omega) e
  · by_cases e : i = k
    · exact e ▸ hk
    · exact h.key i (by omega)

/-- A function turned at one place. -/
def upd (f : Nat → Nat) (k v : Nat) (i : Nat) : Nat := if i = k then v else f i
theorem upd_same (f : Nat → Nat) (k v : Nat) : upd f k v k = v := by simp [upd]
theorem upd_other (f : Nat → Nat) {k i : Nat} (v : Nat) (h : i ≠ k) : upd f k v i = f i := by simp [upd, h]
theorem lv_upd_other (f : Nat → Nat) (L : Nat → List Nat) {k i : Nat} (v : Nat) (h : i ≠ k) : lvOf (upd f k v) L i = lvOf f L i := by unfold lvOf; rw [upd_other f v h]
theorem lv_upd_same (f : Nat → Nat) (L : Nat → List Nat) (k v : Nat) : lvOf (upd f k v) L k = .slice (some ⟨v, 0, none⟩) (L k).length (L k).length := by unfold lvOf; rw [upd_same]

theorem ownsRow_block {w w' : World} {base : Nat} {e : TypeId} {g n cap : Nat} {xs : List Value} (h : w.ownsRow base e 1 (.slice (some ⟨g, 0, none⟩) n cap) n xs) (hb : w'.heap[g]? = w.heap[g]?) : w'.ownsRow base e 1 (.slice (some ⟨g, 0, none⟩) n cap) n xs := by
  refine ⟨h.1, ?_⟩
  rcases h.2 with h' | ⟨gg, c, cur, e1, e2, e3, r⟩
  · exact .inl h'
  · cases e1
    exact .inr ⟨_, _, cur, rfl, e2, hb.trans e3, r⟩

theorem Half.step {W0 wr W1 W2 W4 W6 W7 : World} {K n k b : Nat} {kl : Nat → Lit} {g gi : Nat → Nat} {L : Nat → List Nat} {D : DataW Value} {o : Obj} {g' gi' : Nat}
    (h : Half W0 wr K n k b kl g gi L) (hkn : k < n) (hD : wr.ownsMap Yba.prog K valR (b + 2) k D) (hD2 : InD D k kl (lvOf g L)) (hkey : WideAt.IsKeyLit (kl k)) (hne : ∀ i, i < k → kl i ≠ kl k)
    (e1 : W1 = wr.alloc o) (hb2 : Below W1.heap.size W1 W2) (hi2 : W2.ownsRow W1.heap.size 3 1 (.slice (some ⟨gi', 0, none⟩) (L k).length (L k).length) (L k).length (i64s (L k)))
    (hb4 : Below W2.heap.size (W2.setCell ⟨b + 1, k, none⟩ (.slice (some ⟨gi', 0, none⟩) (L k).length (L k).length)) W4) (hr4 : W4.ownsRow W2.heap.size 9 1 (.slice (some ⟨g', 0, none⟩) (L k).length (L k).length) (L k).length (strs' (L k)))
    (hb6 : Below W4.heap.size (W4.setCell ⟨b, k, none⟩ (.slice (some ⟨g', 0, none⟩) (L k).length (L k).length)) W6)
    (hm7 : W7.ownsMap Yba.prog K valR (b + 2) (k + 1) (D.put (kl k) (.held (.slice (some ⟨g', 0, none⟩) (L k).length (L k).length)))) (hg7 : W6.grownBy W7 (some (b + 2))) :
    Half W0 W7 K n (k + 1) b kl (upd g k g') (upd gi k gi') L := by
  obtain ⟨cs, c1, c2, c3⟩ := h.cl
  obtain ⟨xs, x1, x2, x3⟩ := h.cx
  have hm := hD.lt
  have lb : b < wr.heap.size := (Array.getElem?_eq_some_iff.1 c1).1
  have lx : b + 1 < wr.heap.size := (Array.getElem?_eq_some_iff.1 x1).1
  have s1 : W1.heap.size = wr.heap.size + 1 := by rw [e1]; simp
  have s2 := hb2.size
  have s3 : (W2.setCell ⟨b + 1, k, none⟩ (.slice (some ⟨gi', 0, none⟩) (L k).length (L k).length)).heap.size = W2.heap.size := by simp
  have s4 := hb4.size
  rw [s3] at s4
  have s5 : (W4.setCell ⟨b, k, none⟩ (.slice (some ⟨g', 0, none⟩) (L k).length (L k).length)).heap.size = W4.heap.size := by simp
  have s6 := hb6.size
  rw [s5] at s6
  have s7 := hg7.size
  have lgi : W1.heap.size ≤ gi' ∧ gi' < W2.heap.size := hi2.lt gi' rfl
  have lg : W2.heap.size ≤ g' ∧ g' < W4.heap.size := hr4.lt g' rfl
  -- an old block that is none of the three
  have old : ∀ j, j < wr.heap.size → j ≠ b → j ≠ b + 1 → j ≠ b + 2 → W7.heap[j]? = wr.heap[j]? := fun j hj n0 n1 n2 => by
    rw [hg7.block j (by omega) (fun e => n2 (by cases e; rfl)), hb6.block j (by omega), Below.heap_setCell _ _ _ _ (by exact n0), hb4.block j (by omega), Below.heap_setCell _ _ _ _ (by exact n1), hb2.block j (by omega), e1, Below.heap_alloc _ _ _ hj]
  have oldx : W2.heap[b + 1]? = some (.cells xs 31 (0, 0)) := by rw [hb2.block _ (by omega), e1, Below.heap_alloc _ _ _ lx]; exact x1
  have oldl : W4.heap[b]? = some (.cells cs 25 (0, 0)) := by rw [hb4.block _ (by omega), Below.heap_setCell _ _ _ _ (by simp), hb2.block _ (by omega), e1, Below.heap_alloc _ _ _ lb]; exact c1
  refine ⟨⟨cs.setIfInBounds k (.slice (some ⟨g', 0, none⟩) (L k).length (L k).length), ?_, by simpa using c2, fun i hi => ?_⟩, ⟨xs.setIfInBounds k (.slice (some ⟨gi', 0, none⟩) (L k).length (L k).length), ?_, by simpa using x2, fun i hi => ?_⟩, ⟨_, hm7, ?_⟩, fun i hi => ?_, fun i hi => ?_, ?_⟩
  · rw [hg7.block b (by omega) (fun e => by simp at e), hb6.block b (by omega)]
    exact heap_setCell_same W4 b k cs 25 _ oldl
  · rw [Array.getElem?_setIfInBounds]
    by_cases e : k = i
    · subst e
      rw [if_pos rfl, if_pos (by omega), lv_upd_same]
    · rw [if_neg e, lv_upd_other g L g' (fun h => e h.symm)]
      exact c3 i (by omega)
  · rw [hg7.block (b + 1) (by omega) (fun e => by simp at e), hb6.block (b + 1) (by omega), Below.heap_setCell _ _ _ _ (by simp), hb4.block (b + 1) (by omega)]
    exact heap_setCell_same W2 (b + 1) k xs 31 _ oldx
  · rw [Array.getElem?_setIfInBounds]
    by_cases e : k = i
    · subst e
      rw [if_pos rfl, if_pos (by omega), lv_upd_same]
    · rw [if_neg e, lv_upd_other gi L gi' (fun h => e h.symm)]
      exact x3 i (by omega)
  · have hp := (hD2.congr (f' := lvOf (upd g k g') L) (fun i hi => lv_upd_other g L g' (by omega))).put hD.isMap hkey hne
    rw [lv_upd_same] at hp
    exact hp
  · by_cases e : i = k
    · subst e
      rw [upd_same]
      refine ⟨by omega, by omega, ownsRow_base (ownsRow_block hr4 ?_) (Nat.zero_le _)⟩
      rw [hg7.block g' (by omega) (fun e => by simp at e; omega), hb6.block g' (by omega), Below.heap_setCell _ _ _ _ (by show g' ≠ b; omega)]
    · rw [upd_other g g' e]
      obtain ⟨r1, r2, r3⟩ := h.rows i (by omega)
      exact ⟨r1, by omega, ownsRow_block r3 (old _ r2 (by omega) (by omega) (by omega))⟩
  · by_cases e : i = k
    · subst e
      rw [upd_same]
      refine ⟨by omega, by omega, ownsRow_base (ownsRow_block hi2 ?_) (Nat.zero_le _)⟩
      rw [hg7.block gi' (by omega) (fun e => by simp at e; omega), hb6.block gi' (by omega), Below.heap_setCell _ _ _ _ (by show gi' ≠ b; omega), hb4.block gi' (by omega), Below.heap_setCell _ _ _ _ (by show gi' ≠ b + 1; omega)]
    · rw [upd_other gi gi' e]
      obtain ⟨r1, r2, r3⟩ := h.irows i (by omega)
      exact ⟨r1, by omega, ownsRow_block r3 (old _ r2 (by omega) (by omega) (by omega))⟩
  · refine h.below.trans ⟨?_, ?_, ?_, by omega, fun j hj => old j (by omega) (by omega) (by omega) (by omega)⟩
    · rw [hg7.os, hb6.os]; show W4.os = _; rw [hb4.os]; show W2.os = _; rw [hb2.os, e1]; rfl
    · rw [hg7.tape, hb6.tape]; show W4.tape = _; rw [hb4.tape]; show W2.tape = _; rw [hb2.tape, e1]; rfl
    · rw [hg7.output, hb6.output]; show W4.output = _; rw [hb4.output]; show W2.output = _; rw [hb2.output, e1]; rfl

/-- A row of n nil slices. -/
def zrow (n : Nat) : Array Value := (List.replicate n (Value.slice none 0 0)).toArray
theorem zrow_size (n : Nat) : (zrow n).size = n := by simp [zrow]

theorem Yba.info25 : (Yba.prog.info? 25).map (fun i => (i.zero, i.size, i.bytes)) = some (some (.slice none 0 0), 1, 24) := by kernel_rfl
theorem Yba.info31 : (Yba.prog.info? 31).map (fun i => (i.zero, i.size, i.bytes)) = some (some (.slice none 0 0), 1, 24) := by kernel_rfl

theorem make_z {t e : TypeId} (ht : Yba.prog.underlying t = some (.slice e)) (hinfo : (Yba.prog.info? e).map (fun i => (i.zero, i.size, i.bytes)) = some (some (.slice none 0 0), 1, 24)) (n : Nat) (hn : n ≤ 1024) (W : World) :
    (Instr.makeSlice t (.int .i64 n) (.int .i64 n)).run Yba.prog W = .ok (.slice (some ⟨W.heap.size, 0, none⟩) n n) (W.alloc (.cells (zrow n) e)) := by
  obtain ⟨i0, hi, hz0, hz1, hz2⟩ := info_parts hinfo
  have hr := run_make (P := Yba.prog) W t e i0 _ ht hi hz0 .i64 .i64 n n (by omega) (Int.le_refl _) (by rw [hz2]; omega) (by omega)
  have he : madeCells (Value.slice none 0 0).cells n = zrow n := by
    show madeCells #[Value.slice none 0 0] n = zrow n
    apply Array.toList_inj.1
    rw [toList_madeCells_one]
    simp [zrow]
  rw [hr, hz1, Nat.mul_one, Int.toNat_natCast, he]

theorem Half.start (W : World) (K n : Nat) (kl : Nat → Lit) (g gi : Nat → Nat) (L : Nat → List Nat) :
    Half W (((W.alloc (.cells (zrow n) 25)).alloc (.cells (zrow n) 31)).alloc (.map #[] 0)) K n 0 W.heap.size kl g gi L := by
  have h1 := heap_alloc_new W (.cells (zrow n) 25)
  have h2 := heap_alloc_new (W.alloc (.cells (zrow n) 25)) (.cells (zrow n) 31)
  have h3 := World.ownsMap_made ((W.alloc (.cells (zrow n) 25)).alloc (.cells (zrow n) 31)) Yba.prog K valR
  simp only [World.size_alloc] at h2 h3
  refine ⟨⟨zrow n, ?_, zrow_size n, fun i hi => by omega⟩, ⟨zrow n, ?_, zrow_size n, fun i hi => by omega⟩, ⟨_, h3, ⟨fun x => ⟨fun h => by simp [Maps.has] at h, fun ⟨i, hi, _⟩ => by omega⟩, fun i hi => by omega, fun i j hi => by omega, fun i hi => by omega⟩⟩, fun i hi => by omega, fun i hi => by omega, ?_⟩
  · rw [Below.heap_alloc _ _ _ (by simp; omega), Below.heap_alloc _ _ _ (by simp)]
    exact h1
  · rw [Below.heap_alloc _ _ _ (by simp)]
    exact h2
  · exact (((Below.refl _ _).alloc (Nat.le_refl _) _).alloc (by simp) _).alloc (by simp; omega) _

/-- WHAT THE LOOP HAS MADE, ALL OF IT. -/
theorem Half.fam {W0 wr : World} {K n b : Nat} {kl : Nat → Lit} {g gi : Nat → Nat} {L : Nat → List Nat} (h : Half W0 wr K n n b kl g gi L) (hn : n ≤ 1024) (hL : ∀ i, i < n → (L i).length ≤ 24 ∧ ∀ j ∈ L i, j < 16) : Fam wr K (b + 2) n n kl g L :=
  ⟨hn, h.mp, fun i hi => ⟨(hL i hi).1, (hL i hi).2, (h.rows i hi).2.1, (h.rows i hi).2.2⟩⟩
theorem Half.told {W0 wr : World} {K n b : Nat} {kl : Nat → Lit} {g gi : Nat → Nat} {L : Nat → List Nat} (h : Half W0 wr K n n b kl g gi L) (hL : ∀ i, i < n → (L i).length ≤ 24 ∧ ∀ j ∈ L i, j < 16) : Told wr n b (b + 1) g gi L := by
  obtain ⟨cs, c1, c2, c3⟩ := h.cl
  obtain ⟨xs, x1, x2, x3⟩ := h.cx
  exact ⟨⟨(Array.getElem?_eq_some_iff.1 c1).1, fun i hi => (cell_at c1 i).trans (c3 i hi)⟩, ⟨(Array.getElem?_eq_some_iff.1 x1).1, fun i hi => (cell_at x1 i).trans (x3 i hi)⟩,
    fun i hi => ⟨(hL i hi).1, (hL i hi).2, (h.rows i hi).2.1, (h.rows i hi).2.2⟩, fun i hi => ⟨(h.irows i hi).2.1, (h.irows i hi).2.2⟩⟩

/-! ### THE ROUND's FACTS, as the walk wants them -/
theorem cidx' (n s t : Nat) (hn : n < 256) (hs : s < 256) (ht : t < 256) (w : World) :
    Calls Yba.prog 5 #[.agg #[.int .u8 (n : Int), .int .u8 (s : Int), .int .u8 (t : Int)]] w fun e w' => ∃ g,
      e = .returned (.slice (some ⟨g, 0, none⟩) (idxL n s t).length (idxL n s t).length) ∧
      w'.ownsRow w.heap.size 3 1 (.slice (some ⟨g, 0, none⟩) (idxL n s t).length (idxL n s t).length) (idxL n s t).length (i64s (idxL n s t)) ∧ Below w.heap.size w w' := by
  refine (cidx n s t hn hs ht w).mono ?_
  rintro e w' ⟨rfl, h1, h2⟩
  rw [← idxL_len n s t] at h1 ⊢
  exact ⟨_, rfl, h1, h2⟩

theorem cnames' (L : List Nat) (hL : L.length ≤ 24) (h16 : ∀ i ∈ L, i < 16) (g cap base : Nat) (w : World) (hr : w.ownsRow base 3 1 (.slice (some ⟨g, 0, none⟩) L.length cap) L.length (i64s L)) (hg : g < w.heap.size) :
    Calls Yba.prog 6 #[.slice (some ⟨g, 0, none⟩) L.length cap] w fun e w' => ∃ g',
      e = .returned (.slice (some ⟨g', 0, none⟩) L.length L.length) ∧
      w'.ownsRow w.heap.size 9 1 (.slice (some ⟨g', 0, none⟩) L.length L.length) L.length (strs' L) ∧ Below w.heap.size w w' := by
  refine (cnames L hL h16 g cap base w hr hg).mono ?_
  rintro e w' ⟨rfl, h1, h2⟩
  exact ⟨_, rfl, h1, h2⟩

section
variable {W0 wr W2 W4 W6 : World} {K n k b : Nat} {kl : Nat → Lit} {g gi : Nat → Nat} {L : Nat → List Nat} {o : Obj}

theorem half_x (h : Half W0 wr K n k b kl g gi L) (hkn : k < n) (hb2 : Below (wr.alloc o).heap.size (wr.alloc o) W2) : (∃ u, W2.cell? ⟨b + 1, k, none⟩ = some u) ∧ W2.frozen? ⟨b + 1, k, none⟩ = false := by
  obtain ⟨xs, x1, x2, _⟩ := h.cx
  have lx : b + 1 < wr.heap.size := (Array.getElem?_eq_some_iff.1 x1).1
  have oldx : W2.heap[b + 1]? = some (.cells xs 31 (0, 0)) := by rw [hb2.block _ (by simp; omega), Below.heap_alloc _ _ _ lx]; exact x1
  exact ⟨⟨_, (cell_at oldx k).trans (Array.getElem?_eq_getElem (by omega))⟩, free_at oldx k⟩

theorem half_l {v : Value} (h : Half W0 wr K n k b kl g gi L) (hkn : k < n) (hb2 : Below (wr.alloc o).heap.size (wr.alloc o) W2) (hb4 : Below (W2.setCell ⟨b + 1, k, none⟩ v).heap.size (W2.setCell ⟨b + 1, k, none⟩ v) W4) : (∃ u, W4.cell? ⟨b, k, none⟩ = some u) ∧ W4.frozen? ⟨b, k, none⟩ = false := by
  obtain ⟨cs, c1, c2, _⟩ := h.cl
  have lb : b < wr.heap.size := (Array.getElem?_eq_some_iff.1 c1).1
  have s2 := hb2.size
  simp only [World.size_alloc] at s2
  have oldl : W4.heap[b]? = some (.cells cs 25 (0, 0)) := by rw [hb4.block _ (by simp; omega), Below.heap_setCell _ _ _ _ (by simp), hb2.block _ (by simp; omega), Below.heap_alloc _ _ _ lb]; exact c1
  exact ⟨⟨_, (cell_at oldl k).trans (Array.getElem?_eq_getElem (by omega))⟩, free_at oldl k⟩

theorem half_m {v v' : Value} {m : Nat} {D : DataW Value} (hD : wr.ownsMap Yba.prog K valR (b + 2) m D) (hb2 : Below (wr.alloc o).heap.size (wr.alloc o) W2) (hb4 : Below (W2.setCell ⟨b + 1, k, none⟩ v).heap.size (W2.setCell ⟨b + 1, k, none⟩ v) W4)
    (hb6 : Below (W4.setCell ⟨b, k, none⟩ v').heap.size (W4.setCell ⟨b, k, none⟩ v') W6) : W6.ownsMap Yba.prog K valR (b + 2) m D :=
  ((((((hD.alloc o).kept (grown_of_below hb2) (by simp)).setCell (by simp) _).kept (grown_of_below hb4) (by simp)).setCell (by simp) _).kept (grown_of_below hb6) (by simp))

theorem half_row {v : Value} {xs : List Value} {l gi' : Nat} (h : Half W0 wr K n k b kl g gi L) (hi2 : W2.ownsRow (wr.alloc o).heap.size 3 1 (.slice (some ⟨gi', 0, none⟩) l l) l xs) : (W2.setCell ⟨b + 1, k, none⟩ v).ownsRow (wr.alloc o).heap.size 3 1 (.slice (some ⟨gi', 0, none⟩) l l) l xs ∧ gi' < (W2.setCell ⟨b + 1, k, none⟩ v).heap.size := by
  obtain ⟨xs, x1, x2, _⟩ := h.cx
  have lx : b + 1 < wr.heap.size := (Array.getElem?_eq_some_iff.1 x1).1
  exact ⟨ownsRow_setCell_below hi2 (by simp; omega) _, by simpa using (hi2.lt gi' rfl).2⟩

theorem Half.step' {W7 : World} {D : DataW Value} {g' gi' : Nat}
    (h : Half W0 wr K n k b kl g gi L) (hkn : k < n) (hD : wr.ownsMap Yba.prog K valR (b + 2) k D) (hD2 : InD D k kl (lvOf g L)) (hkey : WideAt.IsKeyLit (kl k)) (hne : ∀ i, i < k → kl i ≠ kl k)
    (hb2 : Below (wr.alloc o).heap.size (wr.alloc o) W2) (hi2 : W2.ownsRow (wr.alloc o).heap.size 3 1 (.slice (some ⟨gi', 0, none⟩) (L k).length (L k).length) (L k).length (i64s (L k)))
    (hb4 : Below (W2.setCell ⟨b + 1, k, none⟩ (.slice (some ⟨gi', 0, none⟩) (L k).length (L k).length)).heap.size (W2.setCell ⟨b + 1, k, none⟩ (.slice (some ⟨gi', 0, none⟩) (L k).length (L k).length)) W4)
    (hr4 : W4.ownsRow (W2.setCell ⟨b + 1, k, none⟩ (.slice (some ⟨gi', 0, none⟩) (L k).length (L k).length)).heap.size 9 1 (.slice (some ⟨g', 0, none⟩) (L k).length (L k).length) (L k).length (strs' (L k)))
    (hb6 : Below (W4.setCell ⟨b, k, none⟩ (.slice (some ⟨g', 0, none⟩) (L k).length (L k).length)).heap.size (W4.setCell ⟨b, k, none⟩ (.slice (some ⟨g', 0, none⟩) (L k).length (L k).length)) W6)
    (hm7 : W7.ownsMap Yba.prog K valR (b + 2) (k + 1) (D.put (kl k) (.held (.slice (some ⟨g', 0, none⟩) (L k).length (L k).length)))) (hg7 : W6.grownBy W7 (some (b + 2))) :
    Half W0 W7 K n (k + 1) b kl (upd g k g') (upd gi k gi') L := by
  have e1 : (W2.setCell ⟨b + 1, k, none⟩ (.slice (some ⟨gi', 0, none⟩) (L k).length (L k).length)).heap.size = W2.heap.size := by simp
  have e2 : (W4.setCell ⟨b, k, none⟩ (.slice (some ⟨g', 0, none⟩) (L k).length (L k).length)).heap.size = W4.heap.size := by simp
  rw [e1] at hb4 hr4
  rw [e2] at hb6
  exact h.step hkn hD hD2 hkey hne rfl hb2 hi2 hb4 hr4 hb6 hm7 hg7
end

theorem fam_at {W0 wk V : World} {K n b : Nat} {kl : Nat → Lit} {g gi : Nat → Nat} {L : Nat → List Nat} (h : Half W0 wk K n n b kl g gi L) (hn : n ≤ 1024) (hL : ∀ i, (L i).length ≤ 24 ∧ ∀ j ∈ L i, j < 16) (hb : Below wk.heap.size wk V) :
    Fam V K (b + 2) n n kl g L ∧ Told V n b (b + 1) g gi L ∧ b + 2 < V.heap.size ∧ ∀ i, i < n → g i < V.heap.size := by
  have hf := h.fam hn (fun i _ => hL i)
  have hs := hb.size
  obtain ⟨D, h1, h2⟩ := h.mp
  exact ⟨hf.below hb h1.lt (fun i hi => (h.rows i hi).2.1), (h.told (fun i _ => hL i)).below hb, by have := h1.lt; omega, fun i hi => by have := (h.rows i hi).2.1; omega⟩

theorem Fam.alloc {w : World} {K b m n : Nat} {kl : Nat → Lit} {g : Nat → Nat} {L : Nat → List Nat} (h : Fam w K b m n kl g L) (hb : b < w.heap.size) (hG : ∀ i, i < n → g i < w.heap.size) (o : Obj) : Fam (w.alloc o) K b m n kl g L :=
  h.below ((Below.refl w.heap.size w).alloc (Nat.le_refl _) o) hb hG

end Go.Proofs.Ybulkbndy
