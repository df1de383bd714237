/-
  THE CONTRACTS OF (e164.Number).Len (function 13) AND lawPow10 (function 12).
-/
import Derived.Test.Qxb6601016aRows
import Derived.WalkKit
import Derived.ProofKit
import Derived.Test.Qxb6601016aPlain
namespace Go.Proofs.Qxb6601016a
open Go.RowKit

theorem ret_int {k : IntKind} {a b : Int} (h : a = b) : Ending.returned (.int k a) = .returned (.int k b) := by rw [h]

/-- A uint64 argument as a natural number. -/
theorem nat_u64 {n : Int} (h : (Lit.int .u64 n).wf = true) : ∃ x : Nat, n = x ∧ x ≤ 18446744073709551615 := by
  simp [Lit.wf, IntKind.min, IntKind.max, IntKind.signed, IntKind.bits] at h
  exact ⟨n.toNat, by omega, by omega⟩

/-- (e164.Number).Len: how many decimal digits n has. -/
theorem len_calls (n : Nat) (hn : n ≤ 18446744073709551615) (w : World) :
    Calls Try.prog 13 #[.int .u64 n] w fun e w' => e = .returned (.int .i64 (Plain.numLen n : Nat)) ∧ w' = w := by
  have hN := Plain.numLen_20 hn
  go_enter Try.func13, Try.ntmps13
  go_wp2
  go_loop [0, 3] (fun x l => ∃ c k : Nat, c ≤ 18446744073709551615 ∧ x = .int .u64 c ∧ l = .int .i64 k ∧ Hid (k + Plain.numLen c = Plain.numLen n + 1)) (fun x _ => (intOf x).toNat)
  case atStart => exact ⟨n, 1, hn, rfl, rfl, Nat.add_comm _ _⟩
  case round =>
    obtain ⟨c, k, hc, rfl, rfl, hkn⟩ := hrel
    have hkb : k ≤ 20 := by have := hkn.out; have := Plain.numLen_pos c; omega
    go_wp2
    · have hge : 10 ≤ (c : Int) := by assumption
      go_round
      case rel => exact ⟨c / 10, k + 1, by omega, by go_num, by go_num, by have h1 := hkn.out; have h2 := Plain.numLen_big (n := c) (by omega); show k + 1 + _ = _; omega⟩
      case measure => simp [intOf]; omega
    · have hlt : (c : Int) < 10 := by assumption
      go_ret
      exact ⟨ret_int (by have h1 := hkn.out; have h2 := Plain.numLen_small (n := c) (by omega); omega), rfl⟩

/-- lawPow10(k): 10^k, for k ≤ 19. -/
theorem pow_calls (k q : Nat) (hk : k ≤ 19) (hq : Hid (q = 10 ^ k)) (w : World) :
    Calls Try.prog 12 #[.int .i64 k] w fun e w' => e = .returned (.int .u64 q) ∧ w' = w := by
  go_enter Try.func12, Try.ntmps12
  go_wp2
  go_loop [3, 4] (fun x y => ∃ p i : Nat, i ≤ k ∧ x = .int .u64 p ∧ y = .int .i64 i ∧ Hid (p = 10 ^ i)) (fun _ y => k - (intOf y).toNat)
  case atStart => exact ⟨1, 0, by omega, rfl, rfl, rfl⟩
  case round =>
    obtain ⟨p, i, hi, rfl, rfl, hp⟩ := hrel
    by_cases hlt : i < k
    · have hb : p ≤ 1000000000000000000 := by
        rw [hp.out]
        exact Nat.le_trans (Nat.pow_le_pow_right (by omega) (show i ≤ 18 by omega)) (by decide)
      go_wp2
      go_round
      case rel => exact ⟨p * 10, i + 1, by omega, by go_num, by go_num, by have h1 := hp.out; show _ = _; rw [Nat.pow_succ, h1]⟩
      case measure => simp [intOf]; omega
    · have hik : i = k := by omega
      go_wp2
      go_ret
      exact ⟨ret_int (by rw [hp.out, hq.out, hik]), rfl⟩
end Go.Proofs.Qxb6601016a
