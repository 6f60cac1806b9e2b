/-
  'makeStartSets'.
-/
import Derived.Test.YbulkbndyF
import Derived.BigRegion
import Derived.Deep.DeepCutAuto
namespace Go.Proofs.Ybulkbndy
open Go.RowKit Go.Maps

theorem SetsAt.kept {K base n : Nat} {kl : Nat → Lit} {g : Nat → Nat} {L : Nat → List Nat} {sen : Nat → Bool} {w w' : World} {done : Nat → Bool} {m : Nat} {sv : Value} {row : Option Nat} (h : SetsAt w K base n kl g L sen done m sv) (hg : w.grownBy w' row) (hr : ∀ j, row = some j → j < base) : SetsAt w' K base n kl g L sen done m sv := by
  rcases h with h | ⟨bs, D, h1, h2, h3⟩
  · exact .inl h
  · exact .inr ⟨bs, D, h1, h2.kept hg (fun j hj => by have := hr j hj; have := h2.lo; omega), h3⟩

theorem SetsAt.shape {K base n : Nat} {kl : Nat → Lit} {g : Nat → Nat} {L : Nat → List Nat} {sen : Nat → Bool} {w : World} {done : Nat → Bool} {m : Nat} {sv : Value} (h : SetsAt w K base n kl g L sen done m sv) : ∃ so, sv = .map so := by
  rcases h with ⟨h, _⟩ | ⟨bs, D, h1, _⟩
  · exact ⟨none, h⟩
  · exact ⟨some bs, h1⟩

theorem grown_setCell (w : World) (a : Addr) (u : Value) : w.grownBy (w.setCell a u) (some a.block) :=
  ⟨rfl, rfl, rfl, by simp [World.setCell], fun k _ hk => Below.heap_setCell _ _ _ _ (fun e => hk (by rw [e]))⟩

/-- A map of lists as the law makes it. -/
structure Fam (w : World) (K b m n : Nat) (kl : Nat → Lit) (g : Nat → Nat) (L : Nat → List Nat) : Prop where
  m1024 : m ≤ 1024
  own : ∃ D, w.ownsMap Yba.prog K valR b m D ∧ InD D n kl (lvOf g L)
  lists : Lists w n g L

theorem Fam.below {w w' : World} {K b m n B : Nat} {kl : Nat → Lit} {g : Nat → Nat} {L : Nat → List Nat} (h : Fam w K b m n kl g L) (hb : Below B w w') (hB : b < B) (hG : ∀ i, i < n → g i < B) : Fam w' K b m n kl g L := by
  obtain ⟨D, h1, h2⟩ := h.own
  refine ⟨h.m1024, ⟨D, ownsMap_below h1 hb hB, h2⟩, fun i hi => ?_⟩
  obtain ⟨l1, l2, l3, l4⟩ := h.lists i hi
  refine ⟨l1, l2, Nat.lt_of_lt_of_le l3 hb.size, l4.1, ?_⟩
  rcases l4.2 with h' | ⟨gg, cap, cur, e1, e2, e3, r⟩
  · exact .inl h'
  · cases e1
    exact .inr ⟨g i, _, cur, rfl, e2, (hb.block _ (hG i hi)).trans e3, r⟩

/-- The Policy, of which the cells 0, 4, 32, 37 are read and the cells 1, 33, 38 are written. -/
structure Pol (w : World) (Pb bu ba bg bj : Nat) (s1 s2 s3 : Value) : Prop where
  u : w.cell? ⟨Pb, 0, none⟩ = some (.map (some bu))
  j : w.cell? ⟨Pb, 4, none⟩ = some (.map (some bj))
  g : w.cell? ⟨Pb, 32, none⟩ = some (.map (some bg))
  a : w.cell? ⟨Pb, 37, none⟩ = some (.map (some ba))
  us : w.cell? ⟨Pb, 1, none⟩ = some s1
  gs : w.cell? ⟨Pb, 33, none⟩ = some s3
  aset : w.cell? ⟨Pb, 38, none⟩ = some s2
  fr : ∀ i, w.frozen? ⟨Pb, i, none⟩ = false

theorem Pol.below {w w' : World} {Pb bu ba bg bj B : Nat} {s1 s2 s3 : Value} (h : Pol w Pb bu ba bg bj s1 s2 s3) (hb : Below B w w') (hB : Pb < B) : Pol w' Pb bu ba bg bj s1 s2 s3 :=
  ⟨(hb.cell (by exact hB)).trans h.u, (hb.cell (by exact hB)).trans h.j, (hb.cell (by exact hB)).trans h.g, (hb.cell (by exact hB)).trans h.a, (hb.cell (by exact hB)).trans h.us, (hb.cell (by exact hB)).trans h.gs, (hb.cell (by exact hB)).trans h.aset, fun i => (hb.frozen (by exact hB)).trans (h.fr i)⟩

theorem Pol.put1 {w : World} {Pb bu ba bg bj : Nat} {s1 s2 s3 : Value} (h : Pol w Pb bu ba bg bj s1 s2 s3) (v : Value) : Pol (w.setCell ⟨Pb, 1, none⟩ v) Pb bu ba bg bj v s2 s3 :=
  ⟨(World.cell?_setCell_other _ _ _ _ (by simp)).trans h.u, (World.cell?_setCell_other _ _ _ _ (by simp)).trans h.j, (World.cell?_setCell_other _ _ _ _ (by simp)).trans h.g, (World.cell?_setCell_other _ _ _ _ (by simp)).trans h.a,
   World.cell?_setCell_same _ _ _ h.us, (World.cell?_setCell_other _ _ _ _ (by simp)).trans h.gs, (World.cell?_setCell_other _ _ _ _ (by simp)).trans h.aset, fun i => (World.frozen?_setCell _ _ _ _).trans (h.fr i)⟩
theorem Pol.put2 {w : World} {Pb bu ba bg bj : Nat} {s1 s2 s3 : Value} (h : Pol w Pb bu ba bg bj s1 s2 s3) (v : Value) : Pol (w.setCell ⟨Pb, 38, none⟩ v) Pb bu ba bg bj s1 v s3 :=
  ⟨(World.cell?_setCell_other _ _ _ _ (by simp)).trans h.u, (World.cell?_setCell_other _ _ _ _ (by simp)).trans h.j, (World.cell?_setCell_other _ _ _ _ (by simp)).trans h.g, (World.cell?_setCell_other _ _ _ _ (by simp)).trans h.a,
   (World.cell?_setCell_other _ _ _ _ (by simp)).trans h.us, (World.cell?_setCell_other _ _ _ _ (by simp)).trans h.gs, World.cell?_setCell_same _ _ _ h.aset, fun i => (World.frozen?_setCell _ _ _ _).trans (h.fr i)⟩
theorem Pol.put3 {w : World} {Pb bu ba bg bj : Nat} {s1 s2 s3 : Value} (h : Pol w Pb bu ba bg bj s1 s2 s3) (v : Value) : Pol (w.setCell ⟨Pb, 33, none⟩ v) Pb bu ba bg bj s1 s2 v :=
  ⟨(World.cell?_setCell_other _ _ _ _ (by simp)).trans h.u, (World.cell?_setCell_other _ _ _ _ (by simp)).trans h.j, (World.cell?_setCell_other _ _ _ _ (by simp)).trans h.g, (World.cell?_setCell_other _ _ _ _ (by simp)).trans h.a,
   (World.cell?_setCell_other _ _ _ _ (by simp)).trans h.us, World.cell?_setCell_same _ _ _ h.gs, (World.cell?_setCell_other _ _ _ _ (by simp)).trans h.aset, fun i => (World.frozen?_setCell _ _ _ _).trans (h.fr i)⟩

section
variable {Pb bu ba bg bj mu ma mg nu na ng : Nat} {ku ka kg : Nat → Lit} {gu ga gg : Nat → Nat} {Lu La Lg : Nat → List Nat} {sen : Nat → Bool}

def Mid1 (Pb bu ba bg bj mu nu : Nat) (ku : Nat → Lit) (gu : Nat → Nat) (Lu : Nat → List Nat) (sen : Nat → Bool) (s2 s3 : Value) (w W : World) : Prop :=
  ∃ v1, Pol W Pb bu ba bg bj v1 s2 s3 ∧ SetsAt W 9 (Pb + 1) nu ku gu Lu sen (fun _ => true) mu v1 ∧ Below Pb w W ∧ Pb < W.heap.size
def Mid2 (Pb bu ba bg bj mu nu ma na : Nat) (ku ka : Nat → Lit) (gu ga : Nat → Nat) (Lu La : Nat → List Nat) (sen : Nat → Bool) (s3 : Value) (w W : World) : Prop :=
  ∃ v1 v2, Pol W Pb bu ba bg bj v1 v2 s3 ∧ SetsAt W 9 (Pb + 1) nu ku gu Lu sen (fun _ => true) mu v1 ∧ SetsAt W 9 (Pb + 1) na ka ga La sen (fun _ => true) ma v2 ∧ Below Pb w W ∧ Pb < W.heap.size

theorem SetsAt.base {K base base' n : Nat} {kl : Nat → Lit} {g : Nat → Nat} {L : Nat → List Nat} {sen : Nat → Bool} {w : World} {done : Nat → Bool} {m : Nat} {sv : Value} (h : SetsAt w K base n kl g L sen done m sv) (hb : base' ≤ base) : SetsAt w K base' n kl g L sen done m sv := by
  rcases h with h | ⟨bs, D, h1, h2, h3⟩
  · exact .inl h
  · exact .inr ⟨bs, D, h1, ⟨by have := h2.lo; omega, h2.own, h2.has, h2.set⟩, h3⟩
theorem mid1_of {w W1 : World} {s1 s2 s3 : Value} {so1 : Option Nat} (hP : Pol W1 Pb bu ba bg bj s1 s2 s3) (hs : SetsAt W1 9 w.drew.heap.size nu ku gu Lu sen (fun _ => true) mu (.map so1)) (hb : Below w.drew.heap.size w W1) (hPb : Pb < w.heap.size) :
    Mid1 Pb bu ba bg bj mu nu ku gu Lu sen s2 s3 w (W1.setCell ⟨Pb, 1, none⟩ (.map so1)) := by
  have hz := hb.size
  have hbb : Below w.heap.size w W1 := hb
  refine ⟨_, hP.put1 _, ((hs.base (base' := Pb + 1) (by exact hPb)).kept (grown_setCell W1 ⟨Pb, 1, none⟩ _) (fun j hj => by cases hj; exact Nat.lt_succ_self _)), (hbb.mono (Nat.le_of_lt hPb)).setCell (Nat.le_refl _) _, by simp; omega⟩
theorem mid2_of {w W W2 : World} {v1 s2 s3 : Value} {so2 : Option Nat} (hP : Pol W2 Pb bu ba bg bj v1 s2 s3) (hs1 : SetsAt W 9 (Pb + 1) nu ku gu Lu sen (fun _ => true) mu v1) (hs : SetsAt W2 9 W.drew.heap.size na ka ga La sen (fun _ => true) ma (.map so2))
    (hb1 : Below Pb w W) (hb : Below W.drew.heap.size W W2) (hPb : Pb < W.heap.size) :
    Mid2 Pb bu ba bg bj mu nu ma na ku ka gu ga Lu La sen s3 w (W2.setCell ⟨Pb, 38, none⟩ (.map so2)) := by
  have hz := hb.size
  have hbb : Below W.heap.size W W2 := hb
  have hg := grown_setCell W2 ⟨Pb, 38, none⟩ (.map so2)
  have hr : ∀ j, some Pb = some j → j < Pb + 1 := fun j hj => by cases hj; exact Nat.lt_succ_self _
  exact ⟨_, _, hP.put2 _, (hs1.kept (grown_of_below hbb) (fun j hj => by cases hj)).kept hg hr, (hs.base (base' := Pb + 1) (by exact hPb)).kept hg hr, (hb1.trans (hbb.mono (Nat.le_of_lt hPb))).setCell (Nat.le_refl _) _, by simp; omega⟩

theorem mid3_of {w W W3 : World} {v1 v2 s3 : Value} {so3 : Option Nat} (hP : Pol W3 Pb bu ba bg bj v1 v2 s3) (hs1 : SetsAt W 9 (Pb + 1) nu ku gu Lu sen (fun _ => true) mu v1) (hs2 : SetsAt W 9 (Pb + 1) na ka ga La sen (fun _ => true) ma v2) (hs : SetsAt W3 36 W.drew.heap.size ng kg gg Lg sen (fun _ => true) mg (.map so3))
    (hb1 : Below Pb w W) (hb : Below W.drew.heap.size W W3) (hPb : Pb < W.heap.size) :
    ∃ x1 x2 x3, Pol (W3.setCell ⟨Pb, 33, none⟩ (.map so3)) Pb bu ba bg bj x1 x2 x3 ∧ SetsAt (W3.setCell ⟨Pb, 33, none⟩ (.map so3)) 9 (Pb + 1) nu ku gu Lu sen (fun _ => true) mu x1 ∧
      SetsAt (W3.setCell ⟨Pb, 33, none⟩ (.map so3)) 9 (Pb + 1) na ka ga La sen (fun _ => true) ma x2 ∧ SetsAt (W3.setCell ⟨Pb, 33, none⟩ (.map so3)) 36 (Pb + 1) ng kg gg Lg sen (fun _ => true) mg x3 ∧ Below Pb w (W3.setCell ⟨Pb, 33, none⟩ (.map so3)) := by
  have hbb : Below W.heap.size W W3 := hb
  have hg := grown_setCell W3 ⟨Pb, 33, none⟩ (.map so3)
  have hr : ∀ j, some Pb = some j → j < Pb + 1 := fun j hj => by cases hj; exact Nat.lt_succ_self _
  exact ⟨_, _, _, hP.put3 _, (hs1.kept (grown_of_below hbb) (fun j hj => by cases hj)).kept hg hr, (hs2.kept (grown_of_below hbb) (fun j hj => by cases hj)).kept hg hr, (hs.base (base' := Pb + 1) (by exact hPb)).kept hg hr, (hb1.trans (hbb.mono (Nat.le_of_lt hPb))).setCell (Nat.le_refl _) _⟩
end

set_option maxHeartbeats 1000000 in
set_option maxRecDepth 100000 in
theorem makeSets (Pb bu ba bg bj mu ma mg nu na ng : Nat) (ku ka kg : Nat → Lit) (gu ga gg : Nat → Nat) (Lu La Lg : Nat → List Nat) (sen : Nat → Bool) (ob us : Nat → ByteArray) (w : World) (s1 s2 s3 : Value)
    (hP : Pol w Pb bu ba bg bj s1 s2 s3) (hPb : Pb < w.heap.size) (hnext : Next w bj sen) (hbj : bj < Pb)
    (hu : Fam w 9 bu mu nu ku gu Lu)
    (ha : Fam w 9 ba ma na ka ga La) (ha1 : ba < Pb) (ha2 : ∀ i, i < na → ga i < Pb)
    (hg : Fam w 36 bg mg ng kg gg Lg) (hg1 : bg < Pb) (hg2 : ∀ i, i < ng → gg i < Pb) (hks : ∀ i, i < ng → keyOf Yba.prog 36 (.agg #[.string (ob i), .string (us i)]) = some (kg i)) :
    Calls Yba.prog 8 #[.pointer (some ⟨Pb, 0, none⟩)] w fun e w' => e = .returned (.tuple #[]) ∧ ∃ v1 v2 v3, Pol w' Pb bu ba bg bj v1 v2 v3 ∧ SetsAt w' 9 (Pb + 1) nu ku gu Lu sen (fun _ => true) mu v1 ∧
      SetsAt w' 9 (Pb + 1) na ka ga La sen (fun _ => true) ma v2 ∧ SetsAt w' 36 (Pb + 1) ng kg gg Lg sen (fun _ => true) mg v3 ∧ Below Pb w w' := by
  obtain ⟨Du, hu3, hu4⟩ := hu.own
  have c0 := hP.u
  have c4 := hP.j
  have c1 := hP.us
  have f1 := hP.fr 1
  go_enter Yba.func8, Yba.ntmps8
  go_wp2
  go_cut [17] (fun _ W => Mid1 Pb bu ba bg bj mu nu ku gu Lu sen s2 s3 w W)
  case first =>
    go_region_with (go_at_call 11; refine (startSets11 bu mu bj nu Du ku gu Lu sen _ hu.m1024 ?_ hu4 ?_ ?_).mono ?_; exact hu3; exact hu.lists; exact hnext; rintro e W1 ⟨sv1, rfl, hs1, hb1⟩; obtain ⟨so1, rfl⟩ := hs1.shape; have hP1 := hP.below (below_undrew hb1) hPb; have d1 := hP1.us; have g1 := hP1.fr 1)
    all_goals
      go_wp2
      go_meet
      case rel => exact mid1_of hP1 hs1 (below_undrew hb1) hPb
  case rest =>
    clear c0 c1 c4 f1
    obtain ⟨v1, hP1, hs1, hb1, hz1⟩ := hcut
    have ha' := ha.below hb1 ha1 ha2
    obtain ⟨Da, ha3, ha4⟩ := ha'.own
    have hn' := hnext.below hb1 hbj
    have c0 := hP1.a
    have c4 := hP1.j
    have c1 := hP1.aset
    have f1 := hP1.fr 38
    go_wp2
    go_cut [29] (fun _ W => Mid2 Pb bu ba bg bj mu nu ma na ku ka gu ga Lu La sen s3 w W)
    case first =>
      go_region_with (go_at_call 11; refine (startSets11 ba ma bj na Da ka ga La sen _ ha.m1024 ?_ ha4 ?_ ?_).mono ?_; exact ha3; exact ha'.lists; exact hn'; rintro e W2 ⟨sv2, rfl, hs2, hb2⟩; obtain ⟨so2, rfl⟩ := hs2.shape; have hP2 := hP1.below (below_undrew hb2) hz1; have d1 := hP2.aset; have g1 := hP2.fr 38)
      all_goals
        go_wp2
        go_meet
        case rel => exact mid2_of hP2 hs1 hs2 hb1 (below_undrew hb2) hz1
    case rest =>
      clear c0 c1 c4 f1 hs1 hP1 hb1 hz1 ha3 ha' hn'
      obtain ⟨v1, v2, hP1, hs1, hs2, hb1, hz1⟩ := hcut
      have hg' := hg.below hb1 hg1 hg2
      obtain ⟨Dg, hg3, hg4⟩ := hg'.own
      have hn' := hnext.below hb1 hbj
      have c0 := hP1.g
      have c4 := hP1.j
      have c1 := hP1.gs
      have f1 := hP1.fr 33
      go_wp2
      go_region_with (go_at_call 12; refine (startSets12 bg mg bj ng Dg kg gg Lg sen _ hg.m1024 ?_ hg4 ob us hks ?_ ?_).mono ?_; exact hg3; exact hg'.lists; exact hn'; rintro e W3 ⟨sv3, rfl, hs3, hb3⟩; obtain ⟨so3, rfl⟩ := hs3.shape; have hP3 := hP1.below (below_undrew hb3) hz1; have d1 := hP3.gs; have g1 := hP3.fr 33)
      all_goals
        go_wp2
        go_end0
        exact ⟨rfl, mid3_of hP3 hs1 hs2 hs3 hb1 (below_undrew hb3) hz1⟩
end Go.Proofs.Ybulkbndy
