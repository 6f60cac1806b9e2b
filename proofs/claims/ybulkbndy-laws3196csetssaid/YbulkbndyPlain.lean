/-
  PLAIN: names of roles, decimal numbers. No Go in sight.
-/
namespace Go.Proofs.Ybulkbndy

/-- The table of sixteen. -/
def tab : ByteArray := ⟨#[48, 49, 50, 51, 52, 53, 54, 55, 56, 57, 97, 98, 99, 100, 101, 102]⟩
/-- The name of role i. -/
def roleB (i : Nat) : ByteArray := ⟨#[114]⟩ ++ tab.extract i (i + 1)

/-- What is left of n, its digits laid ahead of acc. -/
def digF : Nat → Nat → List Nat → List Nat
  | 0, _, acc => acc
  | f + 1, n, acc => if n = 0 then acc else digF f (n / 10) ((48 + n % 10) :: acc)
def digs (n : Nat) : List Nat := if n = 0 then [48] else digF 4 n []
def bytesB (l : List Nat) : ByteArray := ⟨(l.map UInt8.ofNat).toArray⟩
def numB (n : Nat) : ByteArray := bytesB (digs n)
/-- The number that a row of digits says. -/
def valB (s : ByteArray) : Nat := s.data.toList.foldl (fun a c => a * 10 + (c.toNat - 48)) 0
def idxB (s : ByteArray) : Nat := s.data.toList.foldl (fun a c => a * 256 + c.toNat) 0

theorem digF_zero (f : Nat) (acc : List Nat) : digF f 0 acc = acc := by cases f <;> simp [digF]
theorem digF_pos (f n : Nat) (acc : List Nat) (h : 0 < n) : digF (f + 1) n acc = digF f (n / 10) ((48 + n % 10) :: acc) := by
  simp [digF, Nat.ne_of_gt h]

theorem val_num : ∀ n, n < 1024 → valB (numB n) = n := by decide +kernel
theorem num_inj {m n : Nat} (hm : m < 1024) (hn : n < 1024) (h : numB m = numB n) : m = n := by
  rw [← val_num m hm, ← val_num n hn, h]
theorem num_size : ∀ n, n < 1024 → (numB n).size ≤ 4 := by decide +kernel

theorem role_inj' : ∀ i, i < 16 → ∀ j, j < 16 → idxB (roleB i) = idxB (roleB j) → i = j := by decide +kernel
theorem role_inj {i j : Nat} (hi : i < 16) (hj : j < 16) (h : roleB i = roleB j) : i = j := role_inj' i hi j hj (by rw [h])
theorem role_size : ∀ i, i < 16 → (roleB i).size = 2 := by decide +kernel

end Go.Proofs.Ybulkbndy
