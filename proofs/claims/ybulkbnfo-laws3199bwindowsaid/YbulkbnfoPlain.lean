/-
  PLAIN: dropping from the front while the sum is too great; scanning from the end. No Go in sight.
-/
namespace Go.Proofs.Ybulkbnfo

def sumS (S : Nat → Int) : List Nat → Int
  | [] => 0
  | x :: r => S x + sumS S r

/-- What is dropped from the front. -/
def dropS (S : Nat → Int) (b : Int) : List Nat → List Nat
  | [] => []
  | x :: r => if b < sumS S (x :: r) then x :: dropS S b r else []
/-- What is kept. -/
def keepS (S : Nat → Int) (b : Int) : List Nat → List Nat
  | [] => []
  | x :: r => if b < sumS S (x :: r) then keepS S b r else x :: r

theorem sumS_nonneg {S : Nat → Int} (h : ∀ i, 0 ≤ S i) : ∀ l, 0 ≤ sumS S l
  | [] => Int.le_refl _
  | x :: r => by
    have h1 := sumS_nonneg h r
    have h2 := h x
    unfold sumS
    omega

theorem sumS_append (S : Nat → Int) : ∀ l m, sumS S (l ++ m) = sumS S l + sumS S m
  | [], m => by simp [sumS]
  | x :: r, m => by
    rw [List.cons_append, sumS, sumS, sumS_append S r m]
    omega

theorem sumS_drop_le {S : Nat → Int} (h : ∀ i, 0 ≤ S i) : ∀ (l : List Nat) (k : Nat), sumS S (l.drop k) ≤ sumS S l
  | l, 0 => by simp
  | [], k + 1 => by simp
  | x :: r, k + 1 => by
    have h1 := sumS_drop_le h r k
    have h2 := h x
    rw [List.drop_succ_cons, sumS]
    omega

theorem drop_keep (S : Nat → Int) (b : Int) : ∀ l, dropS S b l ++ keepS S b l = l
  | [] => rfl
  | x :: r => by
    unfold dropS keepS
    split
    · rw [List.cons_append, drop_keep S b r]
    · rfl

theorem keep_sum_le {S : Nat → Int} {b : Int} (hb : 0 ≤ b) : ∀ l, sumS S (keepS S b l) ≤ b
  | [] => by simpa [keepS, sumS] using hb
  | x :: r => by
    unfold keepS
    split
    · exact keep_sum_le hb r
    · omega

/-- THE SCAN FROM THE END stops where the dropping from the front stops. -/
theorem scan {S : Nat → Int} {b : Int} (h : ∀ i, 0 ≤ S i) : ∀ (l : List Nat) (j : Nat), j ≤ l.length → sumS S (l.drop j) ≤ b → (j = 0 ∨ b < sumS S (l.drop (j - 1))) → dropS S b l = l.take j ∧ keepS S b l = l.drop j
  | [], j, hj, _, _ => by
    have : j = 0 := by simpa using hj
    subst this
    exact ⟨rfl, rfl⟩
  | x :: r, 0, _, hs, _ => by
    have hs' : ¬ b < sumS S (x :: r) := by
      have : sumS S (x :: r) ≤ b := hs
      omega
    unfold dropS keepS
    rw [if_neg hs', if_neg hs']
    exact ⟨rfl, rfl⟩
  | x :: r, j + 1, hj, hs, hc => by
    have hgt : b < sumS S ((x :: r).drop j) := by
      rcases hc with hc | hc
      · omega
      · exact hc
    have hle := sumS_drop_le h (x :: r) j
    have hbig : b < sumS S (x :: r) := by omega
    have ih := scan h r j (by simpa using hj) (by simpa using hs) (by
      by_cases e : j = 0
      · exact .inl e
      · right
        obtain ⟨i, rfl⟩ : ∃ i, j = i + 1 := ⟨j - 1, by omega⟩
        simpa using hgt)
    unfold dropS keepS
    rw [if_pos hbig, if_pos hbig, ih.1, ih.2]
    exact ⟨rfl, rfl⟩

/-- One step of the dropping. -/
theorem step_yes {S : Nat → Int} {b : Int} {x : Nat} {r : List Nat} (h : b < sumS S (x :: r)) : dropS S b (x :: r) = x :: dropS S b r ∧ keepS S b (x :: r) = keepS S b r := by
  constructor
  · show (if _ then _ else _) = _; rw [if_pos h]
  · show (if _ then _ else _) = _; rw [if_pos h]
theorem step_no {S : Nat → Int} {b : Int} : ∀ {l : List Nat}, ¬ b < sumS S l → dropS S b l = [] ∧ keepS S b l = l
  | [], _ => ⟨rfl, rfl⟩
  | x :: r, h => by
    constructor
    · show (if _ then _ else _) = _; rw [if_neg h]
    · show (if _ then _ else _) = _; rw [if_neg h]

end Go.Proofs.Ybulkbnfo
