/-
  THE PLAIN MATHEMATICS OF THE ASCII FOLD: no Go in sight.
-/
namespace Go.Proofs.Qxb6601016a.Plain

/-- An ASCII capital as its small letter, any other byte as it is. -/
def low8 (c : UInt8) : UInt8 := if 65 ≤ c ∧ c ≤ 90 then c + 32 else c

theorem low8_in {c : UInt8} (h1 : 65 ≤ c.toNat) (h2 : c.toNat ≤ 90) : (low8 c).toNat = c.toNat + 32 := by
  have h : 65 ≤ c ∧ c ≤ 90 := by simp [UInt8.le_iff_toNat_le]; omega
  rw [low8, if_pos h, UInt8.toNat_add]
  simp; omega

theorem low8_out {c : UInt8} (h : ¬ (65 ≤ c.toNat ∧ c.toNat ≤ 90)) : (low8 c).toNat = c.toNat := by
  have h : ¬ (65 ≤ c ∧ c ≤ 90) := by simp [UInt8.le_iff_toNat_le]; omega
  rw [low8, if_neg h]

/-- The two strings are equal when ASCII letters are compared without regard to case. -/
def eqFold (a b : List UInt8) : Bool := a.map low8 == b.map low8

theorem eqFold_refl (a : List UInt8) : eqFold a a = true := by simp [eqFold]
theorem eqFold_symm (a b : List UInt8) : eqFold a b = eqFold b a := by
  unfold eqFold; rw [Bool.eq_iff_iff]; simp only [beq_iff_eq]; exact eq_comm

theorem eqFold_len {a b : List UInt8} (h : a.length ≠ b.length) : eqFold a b = false := by
  unfold eqFold
  rw [beq_eq_false_iff_ne]
  intro e
  exact h (by simpa using congrArg List.length e)

/-- The same through the first k bytes. -/
def upTo (a b : List UInt8) (k : Nat) : Prop := ∀ j, j < k → (a[j]?).map low8 = (b[j]?).map low8

theorem upTo_zero (a b : List UInt8) : upTo a b 0 := fun j h => by omega

theorem upTo_succ {a b : List UInt8} {k : Nat} (h : upTo a b k) {x y : UInt8} (ha : a[k]? = some x) (hb : b[k]? = some y) (e : low8 x = low8 y) : upTo a b (k + 1) := by
  intro j hj
  rcases Nat.lt_or_ge j k with h' | h'
  · exact h j h'
  · obtain rfl : j = k := by omega
    rw [ha, hb]; simp [e]

theorem upTo_all {a b : List UInt8} (hl : a.length = b.length) (h : upTo a b a.length) : eqFold a b = true := by
  unfold eqFold
  rw [beq_iff_eq]
  apply List.ext_getElem?
  intro i
  simp only [List.getElem?_map]
  rcases Nat.lt_or_ge i a.length with h' | h'
  · exact h i h'
  · rw [List.getElem?_eq_none h', List.getElem?_eq_none (by omega)]

theorem eqFold_at {a b : List UInt8} {k : Nat} {x y : UInt8} (ha : a[k]? = some x) (hb : b[k]? = some y) (e : low8 x ≠ low8 y) : eqFold a b = false := by
  unfold eqFold
  rw [beq_eq_false_iff_ne]
  intro h
  have := congrArg (fun l : List UInt8 => l[k]?) h
  simp [ha, hb] at this
  exact e this

/-! ### The law's own test on two bytes: equal, or apart in the bit 32 alone and a letter -/

def lowN (x : Nat) : Nat := if 65 ≤ x ∧ x ≤ 90 then x + 32 else x

theorem low8_toNat (c : UInt8) : (low8 c).toNat = lowN c.toNat := by
  unfold lowN
  split
  · next h => exact low8_in h.1 h.2
  · next h => exact low8_out h

theorem table_flip : ∀ x : Fin 256, lowN x.1 = lowN (x.1 ^^^ 32) ↔ (97 ≤ x.1 ||| 32 ∧ x.1 ||| 32 ≤ 122) := by decide +kernel
theorem table_up : ∀ x : Fin 256, 65 ≤ x.1 → x.1 ≤ 90 → x.1 ^^^ (x.1 + 32) = 32 ∧ (x.1 + 32) ^^^ x.1 = 32 := by decide +kernel

theorem flip_of_xor {x y : Nat} (h : x ^^^ y = 32) : y = x ^^^ 32 := by
  rw [← h, ← Nat.xor_assoc, Nat.xor_self, Nat.zero_xor]

theorem lowN_iff {x y : Nat} (hx : x < 256) (hy : y < 256) (hne : x ≠ y) : lowN x = lowN y ↔ (x ^^^ y = 32 ∧ 97 ≤ x ||| 32 ∧ x ||| 32 ≤ 122) := by
  constructor
  · intro h
    have hxy : x ^^^ y = 32 := by
      unfold lowN at h
      by_cases h1 : 65 ≤ x ∧ x ≤ 90
      · by_cases h2 : 65 ≤ y ∧ y ≤ 90
        · rw [if_pos h1, if_pos h2] at h; omega
        · rw [if_pos h1, if_neg h2] at h
          have := (table_up ⟨x, hx⟩ h1.1 h1.2).1
          rw [← h]; exact this
      · by_cases h2 : 65 ≤ y ∧ y ≤ 90
        · rw [if_neg h1, if_pos h2] at h
          have := (table_up ⟨y, hy⟩ h2.1 h2.2).2
          rw [h]; exact this
        · rw [if_neg h1, if_neg h2] at h; omega
    refine ⟨hxy, ?_⟩
    have := table_flip ⟨x, hx⟩
    rw [flip_of_xor hxy] at h
    exact this.1 h
  · rintro ⟨hxy, h2⟩
    rw [flip_of_xor hxy]
    exact (table_flip ⟨x, hx⟩).2 h2

theorem low8_yes {x y : UInt8} (h1 : x.toNat ^^^ y.toNat = 32) (h2 : 97 ≤ x.toNat ||| 32) (h3 : x.toNat ||| 32 ≤ 122) : low8 x = low8 y := by
  apply UInt8.toNat_inj.1
  rw [low8_toNat, low8_toNat]
  by_cases hne : x.toNat = y.toNat
  · rw [hne]
  · exact (lowN_iff x.toNat_lt y.toNat_lt hne).2 ⟨h1, h2, h3⟩

theorem low8_no {x y : UInt8} (hne : x.toNat ≠ y.toNat) (h : ¬ (x.toNat ^^^ y.toNat = 32 ∧ 97 ≤ x.toNat ||| 32 ∧ x.toNat ||| 32 ≤ 122)) : low8 x ≠ low8 y := by
  intro e
  have e' := congrArg UInt8.toNat e
  rw [low8_toNat, low8_toNat] at e'
  exact h ((lowN_iff x.toNat_lt y.toNat_lt hne).1 e')

end Go.Proofs.Qxb6601016a.Plain
