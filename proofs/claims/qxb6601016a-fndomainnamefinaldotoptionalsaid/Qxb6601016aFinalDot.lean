/-
  THE WALK OF FnDomainNameFinalDotOptional (function 7).
-/
import Derived.Test.Qxb6601016aRows
import Derived.WalkKit
import Derived.ProofKit
import Derived.Below
import Derived.Test.Qxb6601016aName
namespace Go.Proofs.Qxb6601016a
open Go.RowKit
set_option linter.unusedVariables false

theorem ret_bool7 {a b : Bool} (h : a = b) : Ending.returned (.bool a) = .returned (.bool b) := by rw [h]

theorem bytes16_yes (n : Int) (s : ByteArray) (h : s.size ≤ 1048576) (w : World) :
    Calls Try.prog 16 #[.int .u64 n, .string s] w fun e w' => e = .returned (.bool true) ∧ w' = w := by
  go_enter Try.func16, Try.ntmps16
  go_wp2
  go_ret
  exact ⟨rfl, rfl⟩

theorem bytes16_no (n : Int) (s : ByteArray) (h : 1048576 < s.size) (w : World) :
    Calls Try.prog 16 #[.int .u64 n, .string s] w fun e w' => e = .returned (.bool false) ∧ w' = w := by
  go_enter Try.func16, Try.ntmps16
  go_wp2
  go_ret
  exact ⟨rfl, rfl⟩

theorem app_list (s : ByteArray) : (s ++ (⟨#[46]⟩ : ByteArray)).data.toList = s.data.toList ++ [46] := by
  rw [ByteArray.data_append]; simp

theorem app_size (s : ByteArray) : (s ++ (⟨#[46]⟩ : ByteArray)).size = s.size + 1 := by
  rw [ByteArray.size_append]; rfl

theorem last_list (s : ByteArray) (h : 0 < s.size) : s.data.toList.getLast? = some s[s.size - 1] := by
  rw [List.getLast?_eq_getElem?]
  have : s.data.toList.length = s.size := by simp
  rw [this, List.getElem?_eq_getElem (by omega)]
  rfl

theorem not_dot (s : ByteArray) (h : 0 < s.size) (hne : ((s[s.size - 1].toNat : Int) == 46) = false) : s.data.toList.getLast? ≠ some 46 := by
  rw [last_list s h]
  intro e
  rw [Option.some.inj e] at hne
  cases hne

theorem not_dot_empty (s : ByteArray) (h : ¬ 0 < s.size) : s.data.toList.getLast? ≠ some 46 := by
  have h1 : s.data.toList.length = s.size := by simp
  have : s.data.toList = [] := List.eq_nil_of_length_eq_zero (by omega)
  rw [this]; simp

theorem last_is (nm : List UInt8) (hl : ∃ l, nm = l ++ [46]) (h : nm.length - 1 < (⟨nm.toArray⟩ : ByteArray).size) : ((((⟨nm.toArray⟩ : ByteArray)[nm.length - 1].toNat : Nat) : Int) == 46) = true := by
  have h1 := at_mk nm (nm.length - 1) h
  obtain ⟨l, hl⟩ := hl
  have h2 : nm[nm.length - 1]? = some 46 := by rw [hl]; simp
  rw [h2] at h1
  rw [← Option.some.inj h1]
  rfl

theorem finalDot_calls (n : Nat) (s : ByteArray) (hn : n ≤ 18446744073709551615) (w : World) :
    Calls Try.prog 7 #[.int .u64 n, .string s] w fun e w' => e = .returned (.bool true) ∧ Below w.heap.size w w' := by
  by_cases hs : s.size ≤ 1048576
  · go_enter Try.func7, Try.ntmps7
    go_wp2_with fail
    refine (bytes16_yes _ s hs _).mono ?_
    rintro e w1 ⟨rfl, rfl⟩
    obtain ⟨nm, hnm⟩ : ∃ nm, Hid (nm = Plain.name n s.data.toList) := ⟨_, rfl⟩
    obtain ⟨hp, hq, hlast⟩ := name_bounds n s nm hnm.out hn hs
    have hlast : Hid _ := hlast
    go_wp2_with fail
    · go_ret
      exact ⟨rfl, Below.refl _ _⟩
    · have hnd := not_dot s (by assumption) (by assumption)
      have hnm2 : Hid (nm = Plain.name n (s ++ (⟨#[46]⟩ : ByteArray)).data.toList) := by
        show _ = _
        rw [app_list, Plain.name_dot n hnd]; exact hnm.out
      clear hnd
      refine (named_calls n s nm hnm hn (by omega) _).mono ?_
      rintro e w2 ⟨rfl, hB⟩
      go_wp2_with fail
      refine (named_calls n (s ++ (⟨#[46]⟩ : ByteArray)) nm hnm2 hn (by rw [app_size]; omega) _).mono ?_
      rintro e w3 ⟨rfl, hB3⟩
      go_wp2_with fail
      go_ret
      exact ⟨ret_bool7 (last_is nm hlast.out _), hB.trans (hB3.mono hB.size)⟩
    · have hnd := not_dot_empty s (by assumption)
      have hnm2 : Hid (nm = Plain.name n (s ++ (⟨#[46]⟩ : ByteArray)).data.toList) := by
        show _ = _
        rw [app_list, Plain.name_dot n hnd]; exact hnm.out
      clear hnd
      refine (named_calls n s nm hnm hn (by omega) _).mono ?_
      rintro e w2 ⟨rfl, hB⟩
      go_wp2_with fail
      refine (named_calls n (s ++ (⟨#[46]⟩ : ByteArray)) nm hnm2 hn (by rw [app_size]; omega) _).mono ?_
      rintro e w3 ⟨rfl, hB3⟩
      go_wp2_with fail
      go_ret
      exact ⟨ret_bool7 (last_is nm hlast.out _), hB.trans (hB3.mono hB.size)⟩
  · have hs' : 1048576 < s.size := by omega
    go_enter Try.func7, Try.ntmps7
    go_wp2_with fail
    refine (bytes16_no _ s hs' _).mono ?_
    rintro e w1 ⟨rfl, rfl⟩
    go_wp2_with fail
    go_ret
    exact ⟨rfl, Below.refl _ _⟩
end Go.Proofs.Qxb6601016a
