/-
  THE PLAIN MATHEMATICS OF THE SEAT: how many decimal digits a number has; powers of ten. No Go in sight.
-/
namespace Go.Proofs.Qxb6601016a.Plain

/-- How many decimal digits n has (0 has one). -/
def numLen (n : Nat) : Nat := if n < 10 then 1 else numLen (n / 10) + 1

theorem numLen_small {n : Nat} (h : n < 10) : numLen n = 1 := by rw [numLen, if_pos h]
theorem numLen_big {n : Nat} (h : 10 ≤ n) : numLen n = numLen (n / 10) + 1 := by rw [numLen, if_neg (by omega)]

theorem numLen_pos (n : Nat) : 1 ≤ numLen n := by
  rw [numLen]; split <;> omega

theorem pow_le_iff (k : Nat) : ∀ n : Nat, 10 ^ (k + 1) ≤ n ↔ k + 1 < numLen n := by
  induction k with
  | zero =>
    intro n
    by_cases h : n < 10
    · rw [numLen_small h]; omega
    · have h1 := numLen_pos (n / 10)
      rw [numLen_big (by omega)]; omega
  | succ k ih =>
    intro n
    by_cases h : n < 10
    · rw [numLen_small h]
      have : 10 ^ (k + 1 + 1) = 10 ^ (k + 1) * 10 := Nat.pow_succ _ _
      have h2 : 1 ≤ 10 ^ (k + 1) := Nat.one_le_pow _ _ (by omega)
      omega
    · rw [numLen_big (by omega)]
      have := ih (n / 10)
      rw [Nat.le_div_iff_mul_le (by omega)] at this
      rw [Nat.pow_succ]
      omega

theorem numLen_le {n k : Nat} (hk : 1 ≤ k) (h : n < 10 ^ k) : numLen n ≤ k := by
  obtain ⟨j, rfl⟩ : ∃ j, k = j + 1 := ⟨k - 1, by omega⟩
  have := pow_le_iff j n
  omega

theorem numLen_20 {n : Nat} (h : n ≤ 18446744073709551615) : numLen n ≤ 20 :=
  numLen_le (by omega) (by omega)

theorem numLen_mono {a b : Nat} (h : a ≤ b) : numLen a ≤ numLen b := by
  have h1 := pow_le_iff (numLen a - 2) a
  have h2 := pow_le_iff (numLen a - 2) b
  have h3 := numLen_pos a
  have h4 := numLen_pos b
  omega

/-- 10^k for k ≤ 19 fits a uint64. -/
theorem pow_19 {k : Nat} (h : k ≤ 19) : 10 ^ k ≤ 10000000000000000000 :=
  calc 10 ^ k ≤ 10 ^ 19 := Nat.pow_le_pow_right (by omega) h
    _ = 10000000000000000000 := by decide

end Go.Proofs.Qxb6601016a.Plain
