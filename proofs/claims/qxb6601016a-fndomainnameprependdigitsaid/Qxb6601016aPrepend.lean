/-
  THE WALK OF FnDomainNamePrependDigit (function 8).
-/
import Derived.Test.Qxb6601016aRows
import Derived.WalkKit
import Derived.ProofKit
import Derived.Below
import Derived.Test.Qxb6601016aName
namespace Go.Proofs.Qxb6601016a
open Go.RowKit
set_option linter.unusedVariables false

/-- A uint8 argument as a natural number. -/
theorem nat_u8 {n : Int} (h : (Lit.int .u8 n).wf = true) : ∃ x : Nat, n = x ∧ x ≤ 255 := by
  simp [Lit.wf, IntKind.min, IntKind.max, IntKind.signed, IntKind.bits] at h
  exact ⟨n.toNat, by omega, by omega⟩

theorem bytes17_yes (n d : Int) (s : ByteArray) (h : s.size ≤ 1048576) (w : World) :
    Calls Try.prog 17 #[.int .u64 n, .int .u8 d, .string s] w fun e w' => e = .returned (.bool true) ∧ w' = w := by
  go_enter Try.func17, Try.ntmps17
  go_wp2
  go_ret
  exact ⟨rfl, rfl⟩

theorem bytes17_no (n d : Int) (s : ByteArray) (h : 1048576 < s.size) (w : World) :
    Calls Try.prog 17 #[.int .u64 n, .int .u8 d, .string s] w fun e w' => e = .returned (.bool false) ∧ w' = w := by
  go_enter Try.func17, Try.ntmps17
  go_wp2
  go_ret
  exact ⟨rfl, rfl⟩

theorem ret_bool8 {a b : Bool} (h : a = b) : Ending.returned (.bool a) = .returned (.bool b) := by rw [h]

theorem first_is (c : UInt8) (nm : List UInt8) (d : Nat) (hc : c = Plain.digit d) (hd : ¬ 9 < d) (h : 0 < (⟨(c :: 46 :: nm).toArray⟩ : ByteArray).size) : (((⟨(c :: 46 :: nm).toArray⟩ : ByteArray)[0].toNat : Nat) : Int) = 48 + (d : Int) := by
  have h1 : some c = some (⟨(c :: 46 :: nm).toArray⟩ : ByteArray)[0] := at_mk (c :: 46 :: nm) 0 h
  rw [← Option.some.inj h1, hc, Plain.digit_toNat]
  omega

theorem rest_is (c : UInt8) (nm : List UInt8) : (((⟨(c :: 46 :: nm).toArray⟩ : ByteArray).extract 2 (nm.length + 1 + 1)).toList == nm) = true := by
  rw [Lib.extract_toList]
  simp

theorem prepend_calls (n d : Nat) (s : ByteArray) (hn : n ≤ 18446744073709551615) (hd : d ≤ 255) (w : World) :
    Calls Try.prog 8 #[.int .u64 n, .int .u8 d, .string s] w fun e w' => e = .returned (.bool true) ∧ Below w.heap.size w w' := by
  by_cases hs : s.size ≤ 1048576
  · by_cases h0 : n = 0
    · subst h0
      go_enter Try.func8, Try.ntmps8
      go_wp2_with fail
      refine (bytes17_yes _ _ s hs _).mono ?_
      rintro e w1 ⟨rfl, rfl⟩
      go_wp2_with fail
      go_ret
      exact ⟨rfl, Below.refl _ _⟩
    · have h0' : ((n : Int) == 0) = false := by rw [beq_eq_false_iff_ne]; omega
      clear h0
      by_cases h1 : 1844674407370955160 < n
      · go_enter Try.func8, Try.ntmps8
        go_wp2_with fail
        refine (bytes17_yes _ _ s hs _).mono ?_
        rintro e w1 ⟨rfl, rfl⟩
        go_wp2_with fail
        go_ret
        exact ⟨rfl, Below.refl _ _⟩
      · by_cases h2 : 9 < d
        · go_enter Try.func8, Try.ntmps8
          go_wp2_with fail
          refine (bytes17_yes _ _ s hs _).mono ?_
          rintro e w1 ⟨rfl, rfl⟩
          go_wp2_with fail
          go_ret
          exact ⟨rfl, Below.refl _ _⟩
        · obtain ⟨nm, hnm⟩ : ∃ nm, Hid (nm = Plain.name n s.data.toList) := ⟨_, rfl⟩
          obtain ⟨hp, hq, _⟩ := name_bounds n s nm hnm.out hn hs
          obtain ⟨c, hc⟩ : ∃ c, Hid (c = Plain.digit d) := ⟨_, rfl⟩
          have hnm2 : Hid (c :: 46 :: nm = Plain.name (10 * n + d) s.data.toList) := by
            show _ = _
            rw [Plain.name_prepend n d _ (by intro h; rw [h] at h0'; cases h0') (by omega), ← hnm.out, ← hc.out]
          go_enter Try.func8, Try.ntmps8
          go_wp2_with fail
          refine (bytes17_yes _ _ s hs _).mono ?_
          rintro e w1 ⟨rfl, rfl⟩
          go_wp2_with fail
          refine (named_int _ (10 * n + d) (by omega) s (c :: 46 :: nm) hnm2 (by omega) (by omega) _).mono ?_
          rintro e w2 ⟨rfl, hB2⟩
          go_wp2_with fail
          refine (named_calls n s nm hnm hn (by omega) _).mono ?_
          rintro e w3 ⟨rfl, hB3⟩
          go_wp2_with fail
          · go_ret
            exact ⟨ret_bool8 (rest_is c nm), hB2.trans (hB3.mono hB2.size)⟩
          · exact absurd (first_is c nm d hc.out h2 _) (by assumption)
  · have hs' : 1048576 < s.size := by omega
    go_enter Try.func8, Try.ntmps8
    go_wp2_with fail
    refine (bytes17_no _ _ s hs' _).mono ?_
    rintro e w1 ⟨rfl, rfl⟩
    go_wp2_with fail
    go_ret
    exact ⟨rfl, Below.refl _ _⟩
end Go.Proofs.Qxb6601016a
