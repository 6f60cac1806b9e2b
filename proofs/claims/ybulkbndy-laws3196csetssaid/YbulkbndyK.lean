/-
  THE STATEMENT: 'Rows.LawS3196CSetsSaid'. The frame after the guide's own template; the three slices of triples opened by hand.
-/
import Derived.Test.YbulkbndyJ
import Derived.ProofKit
import Derived.OpenShut
import Derived.ChangeOld
import Derived.Below
import Derived.Deep.Slices
import Derived.Deep.Strs
namespace Go.Proofs.Ybulkbndy
open Go.ChangeShapes Go.WideShapes Go.ChangeAt Go.RowKit

theorem own : ownKnob Yba.prog.godebug = none := by kernel_rfl
theorem cells30 : Yba.prog.cellsOf 30 = 3 := by kernel_rfl
theorem cells5 : Yba.prog.cellsOf 5 = 1 := by kernel_rfl

theorem u8_of {x : Int} (h : (Lit.int .u8 x).wf = true) : 0 ≤ x ∧ x ≤ 255 := by
  have := bounds_u8 h
  omega

section
variable {H : Type} {enc : TypeId × Value → H} {W : World} {sp : Nat → Bool} {held : Bool}

set_option maxRecDepth 100000 in
/-- A slice of triples, opened. -/
theorem arg_of {a : Option Addr} {len cap fuel : Nat} {x : DataW H × List MemPlace} (h : DataW.trod enc Yba.prog W 0 sp held fuel 22 [.slice a len cap] = some x) : ∃ U, ArgAt W a len U := by
  rcases Deep.open_slice Yba.underlying22 h with ⟨hcs, _⟩ | ⟨ad, l, c, m, n, D, Pl, hcs, _, hl, _, hm, _, hx⟩
  · simp at hcs
    obtain ⟨rfl, rfl, rfl⟩ := hcs
    exact ⟨fun _ => (0, 0, 0), fun i hi => by omega⟩
  · simp at hcs
    obtain ⟨rfl, rfl, rfl⟩ := hcs
    have hlm : len ≤ m := by rw [hm]; split <;> omega
    have each : ∀ i, i < len → ∃ t : Nat × Nat × Nat, W.cell? (ad.add (i * 3)) = some (.int .u8 (t.1 : Int)) ∧ W.cell? ((ad.add (i * 3)).add 1) = some (.int .u8 (t.2.1 : Int)) ∧ W.cell? ((ad.add (i * 3)).add 2) = some (.int .u8 (t.2.2 : Int)) ∧ t.1 < 256 ∧ t.2.1 < 256 ∧ t.2.2 < 256 := by
      intro i hi
      obtain ⟨cs, h1, h2⟩ := hx i (by omega)
      rw [cells30] at h1
      obtain ⟨_, hlen, hc⟩ := World.cells?_some h1
      obtain ⟨y0, y1, y2, n', _, _, t0, t1, t2⟩ := Deep.trod_struct3 Yba.underlying30 h2
      match cs, hlen with
      | [c0, c1, c2], _ =>
        simp only [cells5, List.drop_zero, List.drop_succ_cons, List.take_succ_cons, List.take_zero] at t0 t1 t2
        obtain ⟨x0, e0, _, w0⟩ := DataW.trod_int Yba.underlying5 t0
        obtain ⟨x1, e1, _, w1⟩ := DataW.trod_int Yba.underlying5 t1
        obtain ⟨x2, e2, _, w2⟩ := DataW.trod_int Yba.underlying5 t2
        simp at e0 e1 e2
        subst e0 e1 e2
        obtain ⟨p0, q0⟩ := u8_of w0
        obtain ⟨p1, q1⟩ := u8_of w1
        obtain ⟨p2, q2⟩ := u8_of w2
        have d0 := hc 0 (by omega)
        have d1 := hc 1 (by omega)
        have d2 := hc 2 (by omega)
        refine ⟨(x0.toNat, x1.toNat, x2.toNat), ?_, ?_, ?_, (by show x0.toNat < 256; omega), (by show x1.toNat < 256; omega), (by show x2.toNat < 256; omega)⟩
        · rw [Int.toNat_of_nonneg p0]
          simpa [Addr.add] using d0
        · rw [Int.toNat_of_nonneg p1]
          simpa using d1
        · rw [Int.toNat_of_nonneg p2]
          simpa using d2
    obtain ⟨U, hU⟩ := Deep.choose_lt (α := Nat × Nat × Nat) each
    refine ⟨U, fun i hi => ?_⟩
    obtain ⟨c0, c1, c2, l0, l1, l2⟩ := hU i hi
    obtain ⟨z0, _⟩ := hU 0 (by omega)
    have hs : ad.spot = none := by
      cases hsp : ad.spot with
      | none => rfl
      | some s =>
        rw [Nat.zero_mul] at z0
        simp [Addr.add, World.cell?, hsp] at z0
        split at z0 <;> cases z0
    obtain ⟨b, off, spot⟩ := ad
    subst hs
    rw [Addr.add_lit] at c0 c1 c2
    rw [Addr.add_lit] at c1 c2
    exact ⟨b, off, rfl, cell_lt c0, c0, c1, c2, l0, l1, l2⟩

/-- A slice of bytes, opened. -/
theorem jr_of {a : Option Addr} {len cap fuel : Nat} {x : DataW H × List MemPlace} (h : DataW.trod enc Yba.prog W 0 sp held fuel 23 [.slice a len cap] = some x) : ∃ zs, JrAt W a len zs := by
  rcases open_ints Yba.underlying23 Yba.underlying5 cells5 h with ⟨hcs, _⟩ | ⟨ad, l, c, zs, hcs, _, hl, _, hz, _, hcell, hwz⟩
  · simp at hcs
    obtain ⟨rfl, rfl, rfl⟩ := hcs
    exact ⟨[], fun i hi => by omega⟩
  · simp at hcs
    obtain ⟨rfl, rfl, rfl⟩ := hcs
    have hlm : len ≤ zs.length := by rw [hz]; split <;> omega
    refine ⟨zs, fun i hi => ?_⟩
    have c0 := hcell i (by omega)
    have z0 := hcell 0 (by omega)
    have hs : ad.spot = none := by
      cases hsp : ad.spot with
      | none => rfl
      | some s =>
        simp [Addr.add, World.cell?, hsp] at z0
        split at z0 <;> cases z0
    obtain ⟨b, off, spot⟩ := ad
    subst hs
    rw [Addr.add_lit] at c0
    obtain ⟨p0, q0⟩ := u8_of (hwz (zs.getD i 0) (by rw [List.getD, List.getElem?_eq_getElem (by omega)]; exact List.getElem_mem _))
    exact ⟨b, off, rfl, cell_lt c0, c0, p0, q0⟩
end

set_option maxHeartbeats 1000000 in
set_option maxRecDepth 100000 in
/-- One list is too long: true at once. -/
theorem law_long (au aa ag aj : Option Addr) (nu na ng jl cu ca cg jc : Nat) (w : World) (h : ¬ (nu ≤ 1024 ∧ na ≤ 1024 ∧ ng ≤ 1024 ∧ jl ≤ 1024)) :
    Calls Yba.prog 3 #[.slice au nu cu, .slice aa na ca, .slice ag ng cg, .slice aj jl jc] w fun e w' => e = .returned (.bool true) ∧ Below w.heap.size w w' := by
  by_cases h1 : (1024 : Int) < (nu : Int)
  · go_enter Yba.func3, Yba.ntmps3
    go_wp2
    go_ret
    exact ⟨rfl, Below.refl _ _⟩
  · by_cases h2 : (1024 : Int) < (na : Int)
    · go_enter Yba.func3, Yba.ntmps3
      go_wp2
      go_ret
      exact ⟨rfl, Below.refl _ _⟩
    · by_cases h3 : (1024 : Int) < (ng : Int)
      · go_enter Yba.func3, Yba.ntmps3
        go_wp2
        go_ret
        exact ⟨rfl, Below.refl _ _⟩
      · have h4 : (1024 : Int) < (jl : Int) := by omega
        go_enter Yba.func3, Yba.ntmps3
        go_wp2
        go_ret
        exact ⟨rfl, Below.refl _ _⟩

theorem walk (au aa ag aj : Option Addr) (nu na ng jl cu ca cg jc : Nat) (w : World) (U A G : Nat → Nat × Nat × Nat) (zs : List Int) (hU : ArgAt w au nu U) (hA : ArgAt w aa na A) (hG : ArgAt w ag ng G) (hjr : JrAt w aj jl zs) :
    Calls Yba.prog 3 #[.slice au nu cu, .slice aa na ca, .slice ag ng cg, .slice aj jl jc] w fun e w' => e = .returned (.bool true) ∧ Below w.heap.size w w' := by
  by_cases h : nu ≤ 1024 ∧ na ≤ 1024 ∧ ng ≤ 1024 ∧ jl ≤ 1024
  · exact law au aa ag aj nu na ng jl cu ca cg jc h.1 h.2.1 h.2.2.1 h.2.2.2 zs w hjr U A G hU hA hG
  · exact law_long au aa ag aj nu na ng jl cu ca cg jc w h

/-! ### THE ROW's STEP -/
set_option maxRecDepth 100000 in
theorem lifted (os : Os) (started : os.Started) (H : Type) (enc : TypeId × Value → H) :
    ReturnsInHanded {} Yba.checked os 3 .any (Rows.lawS3196CSetsSpec.pre6 enc Yba.prog Yba.f3 Rows.lawS3196CSetsRow.domain false) (Rows.lawS3196CSetsSpec.post enc Yba.prog Yba.f3 false true false false) := by
  refine returnsInHanded_of_change (C := Yba.checked) own started (by kernel_rfl) Yba.func3
    (ChangeSpec.witness6 (enc := enc) (C := Yba.checked) false ⟨#[], #[.slice none 0 0, .slice none 0 0, .slice none 0 0, .slice none 0 0], []⟩ 8 (by kernel_rfl) (by kernel_rfl) (by kernel_rfl) (by kernel_rfl)) ?_
  intro W base args ds gs before hval0 hW hcnd _
  have hval : ∀ (j : Nat) t v, Yba.f3.params[j]? = some t → args[j]? = some v → Value.okWide Yba.prog W .any base t v := hval0
  have hW' := hW
  obtain ⟨p, q, hA0, hV, rfl, hfz, hnd⟩ := hW
  have hA : DataW.TrodAll enc Yba.prog W 0 (fun _ => true) true Yba.f3.params.toList args.toList ds p := hA0
  rw [Yba.params3] at hA hval
  obtain ⟨v0, vs0, d0, ds0, p0, q0, hargs, rfl, rfl, h0, r0⟩ := trodAll_cons hA
  obtain ⟨v1, vs1, d1, ds1, p1, q1, rfl, rfl, rfl, h1, r1⟩ := trodAll_cons r0
  obtain ⟨v2, vs2, d2, ds2, p2, q2, rfl, rfl, rfl, h2, r2⟩ := trodAll_cons r1
  obtain ⟨v3, vs3, d3, ds3, p3, q3, rfl, rfl, rfl, h3, r3⟩ := trodAll_cons r2
  obtain ⟨rfl, rfl, rfl⟩ := trodAll_nil r3
  obtain rfl : args = #[v0, v1, v2, v3] := by cases args; simp_all
  obtain ⟨rfl, rfl⟩ := trodVars_none hV
  obtain ⟨a0, len0, cap0, rfl⟩ := okWide_slice Yba.underlying22 (hval 0 22 v0 rfl rfl)
  obtain ⟨a1, len1, cap1, rfl⟩ := okWide_slice Yba.underlying22 (hval 1 22 v1 rfl rfl)
  obtain ⟨a2, len2, cap2, rfl⟩ := okWide_slice Yba.underlying22 (hval 2 22 v2 rfl rfl)
  obtain ⟨a3, len3, cap3, rfl⟩ := okWide_slice Yba.underlying23 (hval 3 23 v3 rfl rfl)
  have k0 := h0
  have k1 := h1
  have k2 := h2
  have k3 := h3
  have lt0 : ∀ x ∈ p0, x.block < W.heap.size := by obtain ⟨m, hm⟩ := k0; exact DataW.trod_lt m _ _ _ hm
  have lt1 : ∀ x ∈ p1, x.block < W.heap.size := by obtain ⟨m, hm⟩ := k1; exact DataW.trod_lt m _ _ _ hm
  have lt2 : ∀ x ∈ p2, x.block < W.heap.size := by obtain ⟨m, hm⟩ := k2; exact DataW.trod_lt m _ _ _ hm
  have lt3 : ∀ x ∈ p3, x.block < W.heap.size := by obtain ⟨m, hm⟩ := k3; exact DataW.trod_lt m _ _ _ hm
  obtain ⟨U, hU⟩ : ∃ U, ArgAt W a0 len0 U := by obtain ⟨fuel, hf⟩ := h0; exact arg_of (by simpa [Value.cells] using hf)
  obtain ⟨A, hA1⟩ : ∃ U, ArgAt W a1 len1 U := by obtain ⟨fuel, hf⟩ := h1; exact arg_of (by simpa [Value.cells] using hf)
  obtain ⟨G, hG⟩ : ∃ U, ArgAt W a2 len2 U := by obtain ⟨fuel, hf⟩ := h2; exact arg_of (by simpa [Value.cells] using hf)
  obtain ⟨zs, hjr⟩ : ∃ zs, JrAt W a3 len3 zs := by obtain ⟨fuel, hf⟩ := h3; exact jr_of (by simpa [Value.cells] using hf)
  clear hA0 hval0
  refine (walk a0 a1 a2 a3 len0 len1 len2 len3 cap0 cap1 cap2 cap3 W U A G zs hU hA1 hG hjr).mono fun e W' ⟨he, bel⟩ => ?_
  subst he
  exact ⟨_, rfl, _, _, _, [], _, [], hW', trodAll_mk1 (shut_bool Yba.underlying4 _), (trodAll_cons_mk (Below.trod laidOut (by kernel_rfl) (of_decide_eq_true (by kernel_rfl)) k0 bel lt0) (trodAll_cons_mk (Below.trod laidOut (by kernel_rfl) (of_decide_eq_true (by kernel_rfl)) k1 bel lt1) (trodAll_cons_mk (Below.trod laidOut (by kernel_rfl) (of_decide_eq_true (by kernel_rfl)) k2 bel lt2) (trodAll_cons_mk (Below.trod laidOut (by kernel_rfl) (of_decide_eq_true (by kernel_rfl)) k3 bel lt3) trodAll_mk0)))), rfl, bel.frame _, fun h => by cases h⟩

theorem over : Rows.lawS3196CSetsRow.holds Yba.pinned (OpenSpec.ofChange Rows.lawS3196CSetsSpec) :=
  OpenClaim.holds_of_wide 3 Yba.f3 rfl rfl rfl rfl rfl rfl rfl ⟨rfl, rfl, rfl, rfl, rfl⟩ rfl rfl rfl rfl rfl (by kernel_rfl) Yba.func3 (by kernel_rfl)
    (of_decide_eq_true (by kernel_rfl)) (by unfold Func.isWrapper; first | (rw [if_pos (by decide +kernel)]; kernel_rfl) | (rw [if_neg (by decide +kernel)]; exact ⟨rfl, rfl⟩))
    (fun os started H enc _ => lifted os started H enc)

/-- THE STATEMENT -/
theorem setsProved : Rows.LawS3196CSetsSaid := over
#print axioms setsProved
end Go.Proofs.Ybulkbndy
