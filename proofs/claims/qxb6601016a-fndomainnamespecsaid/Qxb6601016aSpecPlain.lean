/-
  THE PLAIN MATHEMATICS OF FnDomainNameSpec: n's digits, most significant first, as the law's first loop gathers them. No Go in sight.
-/
import Derived.Test.Qxb6601016aNamePlain
namespace Go.Proofs.Qxb6601016a.Plain

/-- n's digits, least first. -/
def lsd (n : Nat) : List UInt8 := if n < 10 then [digit n] else digit n :: lsd (n / 10)

theorem lsd_small {n : Nat} (h : n < 10) : lsd n = [digit n] := by rw [lsd, if_pos h]
theorem lsd_big {n : Nat} (h : 10 ≤ n) : lsd n = digit n :: lsd (n / 10) := by rw [lsd, if_neg (by omega)]

theorem lsd_length (n : Nat) : (lsd n).length = numLen n := by
  induction n using Nat.strongRecOn with
  | ind n ih =>
    by_cases h : n < 10
    · rw [lsd_small h, numLen_small h]; rfl
    · rw [lsd_big (by omega), numLen_big (by omega)]
      have := ih (n / 10) (by omega)
      simp only [List.length_cons]; omega

/-- The labels: digit i stands at 2i, a dot behind it. -/
theorem labels_at (n : Nat) : ∀ i, i < numLen n → (labels n)[2 * i]? = (lsd n)[i]? ∧ (labels n)[2 * i + 1]? = some 46 := by
  induction n using Nat.strongRecOn with
  | ind n ih =>
    intro i hi
    by_cases h : n < 10
    · rw [numLen_small h] at hi
      obtain rfl : i = 0 := by omega
      rw [labels_small h, lsd_small h]; exact ⟨rfl, rfl⟩
    · rw [numLen_big (by omega)] at hi
      rw [labels_big (by omega), lsd_big (by omega)]
      cases i with
      | zero => exact ⟨rfl, rfl⟩
      | succ j =>
        have := ih (n / 10) (by omega) j (by omega)
        have e1 : 2 * (j + 1) = 2 * j + 1 + 1 := by omega
        rw [e1]
        simpa using this

/-- What the loop has gathered when the leading part is q: nothing of 0. -/
def lead (q : Nat) : List UInt8 := if q = 0 then [] else (lsd q).reverse

theorem lead_zero : lead 0 = [] := if_pos rfl
theorem lead_pos {q : Nat} (h : q ≠ 0) : lead q = (lsd q).reverse := if_neg h

theorem digit_mod (q d : Nat) : digit (10 * q + d) = digit d := by unfold digit; congr 2; omega

theorem lead_step (q d : Nat) (hd : d < 10) (h : d ≠ 0 ∨ q ≠ 0) : lead (10 * q + d) = lead q ++ [digit d] := by
  rw [lead_pos (by omega)]
  by_cases hq : q = 0
  · subst hq
    rw [lead_zero, lsd_small (by omega), digit_mod 0 d]; rfl
  · rw [lead_pos hq, lsd_big (by omega), digit_mod q d]
    have : (10 * q + d) / 10 = q := by omega
    rw [this, List.reverse_cons]

/-- The loop's list ahead of power m (m from 20 down to 0; at 0 it is through). -/
def gathered (n m : Nat) : List UInt8 := if m = 0 then (lsd n).reverse else lead (n / 10 ^ m)

theorem gathered_top {n : Nat} (hn : n ≤ 18446744073709551615) : gathered n 20 = [] := by
  unfold gathered
  rw [if_neg (by omega), Nat.div_eq_of_lt (by omega), lead_zero]

theorem div_step (n k : Nat) : n / 10 ^ k = 10 * (n / 10 ^ (k + 1)) + n / 10 ^ k % 10 := by
  rw [Nat.pow_succ, ← Nat.div_div_eq_div_mul]
  omega

/-- The loop lays a digit. -/
theorem gathered_push {n k p d : Nat} (hp : p = 10 ^ k) (hd : d = n / p % 10) (h : d ≠ 0 ∨ n / 10 ^ (k + 1) ≠ 0 ∨ k = 0) : gathered n k = gathered n (k + 1) ++ [digit d] := by
  subst hp
  have hs := div_step n k
  have hd10 : d < 10 := by omega
  rw [← hd] at hs
  unfold gathered
  rw [if_neg (show k + 1 ≠ 0 by omega)]
  by_cases hk : k = 0
  · subst hk
    rw [if_pos rfl]
    simp only [Nat.pow_zero, Nat.div_one] at hs
    by_cases h0 : d ≠ 0 ∨ n / 10 ^ (0 + 1) ≠ 0
    · rw [← lead_step _ d hd10 h0, ← hs, lead_pos (by omega)]
    · have h1 : n / 10 ^ (0 + 1) = 0 := by omega
      have h2 : d = 0 := by omega
      rw [h1, h2] at hs
      rw [h1, h2, lead_zero, hs, lsd_small (by omega)]; rfl
  · rw [if_neg hk, ← lead_step _ d hd10 (by omega), ← hs]

/-- The loop lays nothing. -/
theorem gathered_skip {n k p d : Nat} (hp : p = 10 ^ k) (hd : d = n / p % 10) (h0 : d = 0) (h1 : n / 10 ^ (k + 1) = 0) (hk : k ≠ 0) : gathered n k = gathered n (k + 1) := by
  subst hp
  have hs := div_step n k
  rw [← hd, h0, h1] at hs
  unfold gathered
  rw [if_neg hk, if_neg (by omega), hs, h1]

theorem gathered_room {n k : Nat} (hn : n ≤ 18446744073709551615) : (gathered n (k + 1)).length ≤ 19 := by
  unfold gathered
  rw [if_neg (by omega)]
  by_cases h : n / 10 ^ (k + 1) = 0
  · rw [h, lead_zero]; simp
  · rw [lead_pos h, List.length_reverse, lsd_length]
    apply numLen_le (by omega)
    have h1 : n / 10 ^ (k + 1) ≤ n / 10 := by
      apply Nat.div_le_div_left _ (by omega)
      calc 10 = 10 ^ 1 := rfl
        _ ≤ 10 ^ (k + 1) := Nat.pow_le_pow_right (by omega) (by omega)
    omega

/-- Whether the loop has begun: d = n / 10^k % 10. -/
theorem begun_step {n k p d : Nat} (hp : p = 10 ^ k) (hd : d = n / p % 10) : n / 10 ^ k ≠ 0 ↔ (d ≠ 0 ∨ n / 10 ^ (k + 1) ≠ 0) := by
  subst hp
  have hs := div_step n k
  rw [← hd] at hs
  omega

end Go.Proofs.Qxb6601016a.Plain
