/-
  THE WALK OF FnEqualFoldASCIIReflexiveSymmetric (function 10).
-/
import Derived.Test.Qxb6601016aRows
import Derived.WalkKit
import Derived.ProofKit
import Derived.Test.Qxb6601016aFold
namespace Go.Proofs.Qxb6601016a
open Go.RowKit
set_option linter.unusedVariables false

theorem bytes20_yes (a b : ByteArray) (h : a.size + b.size ≤ 1048576) (w : World) :
    Calls Try.prog 20 #[.string a, .string b] w fun e w' => e = .returned (.bool true) ∧ w' = w := by
  go_enter Try.func20, Try.ntmps20
  go_wp2
  go_ret
  exact ⟨rfl, rfl⟩

theorem bytes20_no (a b : ByteArray) (ha : a.size ≤ maxLen) (hb : b.size ≤ maxLen) (h : 1048576 < a.size + b.size) (w : World) :
    Calls Try.prog 20 #[.string a, .string b] w fun e w' => e = .returned (.bool false) ∧ w' = w := by
  unfold maxLen at ha hb
  by_cases h1 : 1048576 < a.size
  · go_enter Try.func20, Try.ntmps20
    go_wp2
    go_ret
    exact ⟨rfl, rfl⟩
  · by_cases h2 : 1048576 < b.size
    · go_enter Try.func20, Try.ntmps20
      go_wp2
      go_ret
      exact ⟨rfl, rfl⟩
    · go_enter Try.func20, Try.ntmps20
      go_wp2
      go_ret
      exact ⟨rfl, rfl⟩

/-- Draws behind draws. -/
theorem drewN_trans {w w1 w2 : World} (h1 : ∃ n, w1 = w.drewN n) (h2 : ∃ n, w2 = w1.drewN n) : ∃ n, w2 = w.drewN n := by
  obtain ⟨m, rfl⟩ := h2
  exact drewN_more h1 m

theorem foldSymm_calls (a b : ByteArray) (ha : a.size ≤ maxLen) (hb : b.size ≤ maxLen) (w : World) :
    Calls Try.prog 10 #[.string a, .string b] w fun e w' => e = .returned (.bool true) ∧ ∃ n, w' = w.drewN n := by
  by_cases hs : a.size + b.size ≤ 1048576
  · have r1 := Plain.eqFold_refl a.data.toList
    have r2 := Plain.eqFold_refl b.data.toList
    have h1 : ¬ 1048576 < a.size := by omega
    have h2 : ¬ 1048576 < b.size := by omega
    obtain ⟨t, ht⟩ : ∃ t, Hid (Plain.eqFold a.data.toList b.data.toList = t) := ⟨_, rfl⟩
    have ht' : Hid (Plain.eqFold b.data.toList a.data.toList = t) := by
      show _ = _
      rw [Plain.eqFold_symm]; exact ht.out
    go_enter Try.func10, Try.ntmps10
    go_wp2_with fail
    refine (bytes20_yes a b hs _).mono ?_
    rintro e w1 ⟨rfl, rfl⟩
    go_wp2_with fail
    refine (zzfold_calls a a ha ha _).mono ?_
    rintro e w2 ⟨rfl, hw2⟩
    have hw2 := (show Hid _ from hw2)
    rw [r1]
    go_wp2_with fail
    refine (zzfold_calls b b hb hb _).mono ?_
    rintro e w3 ⟨rfl, hw3⟩
    have hw3 := (show Hid _ from hw3)
    rw [r2]
    go_wp2_with fail
    refine (zzfold_calls a b ha hb _).mono ?_
    rintro e w4 ⟨rfl, hw4⟩
    have hw4 := (show Hid _ from hw4)
    rw [ht.out]
    go_wp2_with fail
    refine (zzfold_calls b a hb ha _).mono ?_
    rintro e w5 ⟨rfl, hw5⟩
    have hw5 := (show Hid _ from hw5)
    rw [ht'.out]
    go_wp2_with fail
    go_ret
    exact ⟨ret_bool (by simp), drewN_trans (drewN_trans (drewN_trans hw2.out hw3.out) hw4.out) hw5.out⟩
  · have hs' : 1048576 < a.size + b.size := by omega
    go_enter Try.func10, Try.ntmps10
    go_wp2_with fail
    refine (bytes20_no a b ha hb hs' _).mono ?_
    rintro e w1 ⟨rfl, rfl⟩
    go_wp2_with fail
    go_ret
    exact ⟨rfl, 0, rfl⟩
end Go.Proofs.Qxb6601016a
