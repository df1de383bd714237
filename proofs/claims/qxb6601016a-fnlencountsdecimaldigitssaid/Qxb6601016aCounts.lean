/-
  THE WALK OF FnLenCountsDecimalDigits (function 3).
-/
import Derived.Test.Qxb6601016aRows
import Derived.WalkKit
import Derived.ProofKit
import Derived.Test.Qxb6601016aLens
namespace Go.Proofs.Qxb6601016a
open Go.RowKit

theorem counts_calls (n : Nat) (hn : n ≤ 18446744073709551615) (w : World) :
    Calls Try.prog 3 #[.int .u64 n] w fun e w' => e = .returned (.bool true) ∧ w' = w := by
  have hN := Plain.numLen_20 hn
  go_enter Try.func3, Try.ntmps3
  go_wp2
  go_loop [3, 4] (fun x y => ∃ s k : Nat, 1 ≤ k ∧ k ≤ 20 ∧ s ≤ 20 ∧ x = .int .i64 s ∧ y = .int .i64 k ∧ Hid (s = min (Plain.numLen n) k)) (fun _ y => 20 - (intOf y).toNat)
  case atStart => exact ⟨1, 1, by omega, by omega, by omega, rfl, rfl, by have := Plain.numLen_pos n; show _ = _; omega⟩
  case round =>
    obtain ⟨s, k, hk1, hk2, hs, rfl, rfl, hsk⟩ := hrel
    by_cases hlt : k ≤ 19
    · obtain ⟨q, hq⟩ : ∃ q : Nat, Hid (q = 10 ^ k) := ⟨10 ^ k, rfl⟩
      have hqb : q ≤ 10000000000000000000 := by rw [hq.out]; exact Plain.pow_19 hlt
      have hiff : Hid (q ≤ n ↔ k < Plain.numLen n) := by
        obtain ⟨j, rfl⟩ : ∃ j, k = j + 1 := ⟨k - 1, by omega⟩
        show _ ↔ _
        rw [hq.out]; exact Plain.pow_le_iff j n
      by_cases hqn : q ≤ n
      · go_wp2_with fail
        refine (pow_calls k q hlt hq _).mono ?_
        rintro e w1 ⟨rfl, rfl⟩
        go_wp2_with fail
        go_round
        case rel => exact ⟨s + 1, k + 1, by omega, by omega, by have := hsk.out; have := hiff.out.1 hqn; omega, by go_num, by go_num, by have := hsk.out; have := hiff.out.1 hqn; show _ = _; omega⟩
        case measure => simp [intOf]; omega
      · go_wp2_with fail
        refine (pow_calls k q hlt hq _).mono ?_
        rintro e w1 ⟨rfl, rfl⟩
        go_wp2_with fail
        go_round
        case rel => exact ⟨s, k + 1, by omega, by omega, hs, by go_num, by go_num, by have := hsk.out; have := mt hiff.out.2 hqn; show _ = _; omega⟩
        case measure => simp [intOf]; omega
    · have hsl : Hid (Plain.numLen n = s) := by have := hsk.out; show _ = _; omega
      have heq : (((Plain.numLen n : Nat) : Int) == (s : Int)) = true := by rw [hsl.out]; simp
      go_wp2_with fail
      refine (len_calls n hn _).mono ?_
      rintro e w1 ⟨rfl, rfl⟩
      go_wp2_with fail
      go_ret
      exact ⟨rfl, rfl⟩
end Go.Proofs.Qxb6601016a
