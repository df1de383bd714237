/-
  THE CONTRACTS OF lowerASCII (31), equalFoldASCII (27), ZZequalFoldASCII (19).
-/
import Derived.Test.Qxb6601016aRows
import Derived.WalkKit
import Derived.ProofKit
import Derived.Deep.QuietTactic
import Derived.BigQuiet
import Derived.Test.Qxb6601016aFoldPlain
namespace Go.Proofs.Qxb6601016a
open Go.RowKit
set_option linter.unusedVariables false

theorem ret_u8 {a b : Int} (h : a = b) : Ending.returned (.int .u8 a) = .returned (.int .u8 b) := by rw [h]

theorem ret_bool {a b : Bool} (h : a = b) : Ending.returned (.bool a) = .returned (.bool b) := by rw [h]

theorem low_calls (c : UInt8) (w : World) :
    Calls Try.prog 31 #[.int .u8 c.toNat] w fun e w' => e = .returned (.int .u8 (Plain.low8 c).toNat) ∧ w' = w := by
  have hb : c.toNat < 256 := c.toNat_lt
  by_cases h1 : 65 ≤ c.toNat
  · by_cases h2 : c.toNat ≤ 90
    · have hl := Plain.low8_in h1 h2
      have H : Hid ((Plain.low8 c).toNat = c.toNat + 32) := hl
      clear hl
      go_enter Try.func31, Try.ntmps31
      go_wp2
      go_ret
      exact ⟨ret_u8 (by rw [H.out]; go_num), rfl⟩
    · have H : Hid ((Plain.low8 c).toNat = c.toNat) := Plain.low8_out (by omega)
      go_enter Try.func31, Try.ntmps31
      go_wp2
      go_ret
      exact ⟨ret_u8 (by rw [H.out]), rfl⟩
  · have H : Hid ((Plain.low8 c).toNat = c.toNat) := Plain.low8_out (by omega)
    go_enter Try.func31, Try.ntmps31
    go_wp2
    go_ret
    exact ⟨ret_u8 (by rw [H.out]), rfl⟩

theorem at_list (s : ByteArray) (k : Nat) (h : k < s.size) : s.data.toList[k]? = some s[k] := by
  rw [List.getElem?_eq_getElem (by simpa using h)]; rfl

theorem drewN_more {w wr : World} (h : ∃ n, wr = w.drewN n) (m : Nat) : ∃ n, wr.drewN m = w.drewN n := by
  obtain ⟨n, rfl⟩ := h
  exact ⟨n + m, by simp⟩

theorem fold_calls (a b : ByteArray) (ha : a.size ≤ maxLen) (hb : b.size ≤ maxLen) (w : World) :
    Calls Try.prog 27 #[.string a, .string b] w fun e w' => e = .returned (.bool (Plain.eqFold a.data.toList b.data.toList)) ∧ ∃ n, w' = w.drewN n := by
  unfold maxLen at ha hb
  by_cases hl : a.size = b.size
  · go_enter Try.func27, Try.ntmps27
    go_wp2
    go_loopw [5] (fun x wr => ∃ k : Nat, k ≤ b.size ∧ x = .int .i64 k ∧ Hid (∃ n, wr = w.drewN n) ∧ Plain.upTo a.data.toList b.data.toList k) (fun x _ => b.size - (intOf x).toNat)
    case atStart => exact ⟨0, by omega, rfl, ⟨0, rfl⟩, Plain.upTo_zero _ _⟩
    case round =>
      obtain ⟨k, hk, rfl, hwr, hu⟩ := hrel
      by_cases hlt : k < b.size
      · have hlt' : k < a.size := by omega
        by_cases he : Plain.low8 a[k] = Plain.low8 b[k]
        · have HE : Hid (Plain.low8 a[k] = Plain.low8 b[k]) := he
          have hne : ((((Plain.low8 a[k]).toNat : Nat) : Int) != (((Plain.low8 b[k]).toNat : Nat) : Int)) = false := by rw [he]; simp
          clear he
          go_wp2
          go_quiet ((go_at_call 31; exact Calls.quiet_of_same (low_calls _ _)))
          go_wp2
          go_roundw
          case rel => exact ⟨k + 1, by omega, by go_num, drewN_more hwr.out _, Plain.upTo_succ hu (at_list a k hlt') (at_list b k hlt) HE.out⟩
          case measure => simp [intOf]; omega
        · have HF : Hid (Plain.eqFold a.data.toList b.data.toList = false) := Plain.eqFold_at (at_list a k hlt') (at_list b k hlt) he
          have hne : ((((Plain.low8 a[k]).toNat : Nat) : Int) != (((Plain.low8 b[k]).toNat : Nat) : Int)) = true := by
            rw [bne_iff_ne]
            intro e
            exact he (UInt8.toNat_inj.1 (by omega))
          clear he
          go_wp2
          go_quiet ((go_at_call 31; exact Calls.quiet_of_same (low_calls _ _)))
          go_wp2
          go_ret
          exact ⟨ret_bool HF.out.symm, drewN_more hwr.out _⟩
      · have HF : Hid (Plain.eqFold a.data.toList b.data.toList = true) := Plain.upTo_all (by simpa using hl) (by
          have : a.data.toList.length = k := by have h1 : a.data.toList.length = a.size := by simp
                                                omega
          rw [this]; exact hu)
        go_wp2
        go_ret
        exact ⟨ret_bool HF.out.symm, hwr.out⟩
  · have HF : Hid (Plain.eqFold a.data.toList b.data.toList = false) := Plain.eqFold_len (by simpa using hl)
    have hne : (((a.size : Nat) : Int) != ((b.size : Nat) : Int)) = true := by rw [bne_iff_ne]; omega
    go_enter Try.func27, Try.ntmps27
    go_wp2
    go_ret
    exact ⟨ret_bool HF.out.symm, 0, rfl⟩

theorem zzfold_calls (a b : ByteArray) (ha : a.size ≤ maxLen) (hb : b.size ≤ maxLen) (w : World) :
    Calls Try.prog 19 #[.string a, .string b] w fun e w' => e = .returned (.bool (Plain.eqFold a.data.toList b.data.toList)) ∧ ∃ n, w' = w.drewN n := by
  go_enter Try.func19, Try.ntmps19
  go_wp2_with fail
  refine (fold_calls a b ha hb _).mono ?_
  rintro e w1 ⟨rfl, hw⟩
  go_wp2_with fail
  go_ret
  exact ⟨rfl, hw⟩
end Go.Proofs.Qxb6601016a
