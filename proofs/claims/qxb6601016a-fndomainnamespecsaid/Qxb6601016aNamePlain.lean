/-
  THE PLAIN MATHEMATICS OF DomainName: the labels of a number, least digit first. No Go in sight.
-/
import Derived.Test.Qxb6601016aPlain
import Derived.Lib.Strings
namespace Go.Proofs.Qxb6601016a.Plain

/-- One digit's byte. -/
def digit (n : Nat) : UInt8 := UInt8.ofNat (48 + n % 10)

theorem digit_toNat (n : Nat) : (digit n).toNat = 48 + n % 10 := by
  unfold digit
  rw [UInt8.toNat_ofNat']
  omega

/-- n's digits, least first, each followed by a dot. -/
def labels (n : Nat) : List UInt8 := if n < 10 then [digit n, 46] else digit n :: 46 :: labels (n / 10)

theorem labels_small {n : Nat} (h : n < 10) : labels n = [digit n, 46] := by rw [labels, if_pos h]
theorem labels_big {n : Nat} (h : 10 ≤ n) : labels n = digit n :: 46 :: labels (n / 10) := by rw [labels, if_neg (by omega)]

theorem labels_length (n : Nat) : (labels n).length = 2 * numLen n := by
  induction n using Nat.strongRecOn with
  | ind n ih =>
    by_cases h : n < 10
    · rw [labels_small h, numLen_small h]; rfl
    · rw [labels_big (by omega), numLen_big (by omega)]
      have := ih (n / 10) (by omega)
      simp only [List.length_cons]; omega

theorem labels_ne (n : Nat) : labels n ≠ [] := by
  intro h
  have := labels_length n
  have := numLen_pos n
  rw [h] at *
  simp at *; omega

/-- What is written behind the labels: the suffix less one final dot, and a dot, where there is any. -/
def tail (t : List UInt8) : List UInt8 := if t = [] then [] else t ++ [46]

/-- The suffix less one final dot. -/
def trim (s : List UInt8) : List UInt8 := Lib.trimSuffix s [46]

/-- The domain name of n under s. -/
def name (n : Nat) (s : List UInt8) : List UInt8 := labels n ++ tail (trim s)

theorem trim_le (s : List UInt8) : (trim s).length ≤ s.length := Lib.trimSuffix_le s [46]

theorem hasSuffix_dot (s : List UInt8) : Lib.hasSuffix s [46] = true ↔ s.getLast? = some 46 := by
  unfold Lib.hasSuffix
  rw [List.isSuffixOf_iff_suffix]
  constructor
  · rintro ⟨t, rfl⟩; simp
  · intro h
    obtain ⟨t, rfl⟩ := List.getLast?_eq_some_iff.1 h
    exact ⟨t, rfl⟩

theorem trim_dot (s : List UInt8) : trim (s ++ [46]) = s := by
  unfold trim Lib.trimSuffix
  rw [if_pos ((hasSuffix_dot _).2 (by simp))]
  simp

theorem trim_not {s : List UInt8} (h : s.getLast? ≠ some 46) : trim s = s := by
  unfold trim Lib.trimSuffix
  rw [if_neg (fun e => h ((hasSuffix_dot _).1 e))]

theorem labels_last (n : Nat) : ∃ l, labels n = l ++ [46] := by
  induction n using Nat.strongRecOn with
  | ind n ih =>
    by_cases h : n < 10
    · exact ⟨[digit n], by rw [labels_small h]; rfl⟩
    · obtain ⟨l, hl⟩ := ih (n / 10) (by omega)
      exact ⟨digit n :: 46 :: l, by rw [labels_big (by omega), hl]; rfl⟩

/-- A domain name ends in a dot. -/
theorem name_last (n : Nat) (s : List UInt8) : ∃ l, name n s = l ++ [46] := by
  unfold name tail
  by_cases h : trim s = []
  · rw [if_pos h, List.append_nil]; exact labels_last n
  · rw [if_neg h, ← List.append_assoc]; exact ⟨_, rfl⟩

theorem name_dot (n : Nat) {s : List UInt8} (h : s.getLast? ≠ some 46) : name n (s ++ [46]) = name n s := by
  unfold name
  rw [trim_dot, trim_not h]

theorem name_length (n : Nat) (s : List UInt8) : (name n s).length ≤ 2 * numLen n + s.length + 1 := by
  unfold name tail
  have := trim_le s
  rw [List.length_append, labels_length]
  split
  · simp; omega
  · rw [List.length_append]; simp; omega

/-- A digit behind n comes first in the name. -/
theorem name_prepend (n d : Nat) (s : List UInt8) (hn : n ≠ 0) (hd : d ≤ 9) : name (10 * n + d) s = digit d :: 46 :: name n s := by
  unfold name
  have h1 : (10 * n + d) / 10 = n := by omega
  have h2 : digit (10 * n + d) = digit d := by unfold digit; congr 2; omega
  rw [labels_big (by omega), h1, h2]
  rfl

end Go.Proofs.Qxb6601016a.Plain
