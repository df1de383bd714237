/-
  THE WALK OF FnEqualFoldASCIISpec (function 9).
-/
import Derived.Test.Qxb6601016aRows
import Derived.WalkKit
import Derived.ProofKit
import Derived.Test.Qxb6601016aFold
namespace Go.Proofs.Qxb6601016a
open Go.RowKit
set_option linter.unusedVariables false

theorem bytes18_yes (a b : ByteArray) (h : a.size + b.size ≤ 1048576) (w : World) :
    Calls Try.prog 18 #[.string a, .string b] w fun e w' => e = .returned (.bool true) ∧ w' = w := by
  go_enter Try.func18, Try.ntmps18
  go_wp2
  go_ret
  exact ⟨rfl, rfl⟩

theorem bytes18_no (a b : ByteArray) (ha : a.size ≤ maxLen) (hb : b.size ≤ maxLen) (h : 1048576 < a.size + b.size) (w : World) :
    Calls Try.prog 18 #[.string a, .string b] w fun e w' => e = .returned (.bool false) ∧ w' = w := by
  unfold maxLen at ha hb
  by_cases h1 : 1048576 < a.size
  · go_enter Try.func18, Try.ntmps18
    go_wp2
    go_ret
    exact ⟨rfl, rfl⟩
  · by_cases h2 : 1048576 < b.size
    · go_enter Try.func18, Try.ntmps18
      go_wp2
      go_ret
      exact ⟨rfl, rfl⟩
    · go_enter Try.func18, Try.ntmps18
      go_wp2
      go_ret
      exact ⟨rfl, rfl⟩

/-! ### The law's test on two bytes, in the walk's own forms -/

theorem bits_or32 (x : UInt8) : bits BinOp.or IntKind.u8 (x.toNat : Int) 32 = ((x.toNat ||| 32 : Nat) : Int) :=
  (bits_nat .u8 8 (by decide) wraps_u8 x.toNat 32 x.toNat_lt (by decide)).2

theorem bits_xor8 (x y : UInt8) : bits BinOp.xor IntKind.u8 (x.toNat : Int) (y.toNat : Int) = ((x.toNat ^^^ y.toNat : Nat) : Int) := by
  have hx : x.toNat % 2 ^ IntKind.u8.bits = x.toNat := Nat.mod_eq_of_lt x.toNat_lt
  have hy : y.toNat % 2 ^ IntKind.u8.bits = y.toNat := Nat.mod_eq_of_lt y.toNat_lt
  simp only [bits, BitVec.ofInt_natCast, BitVec.toNat_xor, BitVec.toNat_ofNat, hx, hy]
  have h : x.toNat ^^^ y.toNat < 2 ^ 8 := Nat.xor_lt_two_pow x.toNat_lt y.toNat_lt
  exact wraps_u8 _ (Int.natCast_nonneg _) (by omega)

theorem tst_eq {x y : UInt8} (h : ((x.toNat : Int) == (y.toNat : Int)) = true) : Plain.low8 x = Plain.low8 y := by
  rw [beq_iff_eq] at h
  rw [UInt8.toNat_inj.1 (by omega : x.toNat = y.toNat)]

theorem tst_yes {x y : UInt8} (h2 : bits BinOp.xor IntKind.u8 (x.toNat : Int) (y.toNat : Int) = 32) (h1 : 97 ≤ bits BinOp.or IntKind.u8 (x.toNat : Int) 32) (h0 : bits BinOp.or IntKind.u8 (x.toNat : Int) 32 ≤ 122) : Plain.low8 x = Plain.low8 y := by
  rw [bits_xor8] at h2
  rw [bits_or32] at h1 h0
  exact Plain.low8_yes (by omega) (by omega) (by omega)

theorem tst_ne {x y : UInt8} (h : ((x.toNat : Int) == (y.toNat : Int)) = false) : x.toNat ≠ y.toNat := by
  rw [beq_eq_false_iff_ne] at h; omega

theorem tst_no1 {x y : UInt8} (h : ((x.toNat : Int) == (y.toNat : Int)) = false) (h2 : ¬ bits BinOp.xor IntKind.u8 (x.toNat : Int) (y.toNat : Int) = 32) : Plain.low8 x ≠ Plain.low8 y := by
  rw [bits_xor8] at h2
  exact Plain.low8_no (tst_ne h) (by omega)

theorem tst_no2 {x y : UInt8} (h : ((x.toNat : Int) == (y.toNat : Int)) = false) (h1 : bits BinOp.or IntKind.u8 (x.toNat : Int) 32 < 97) : Plain.low8 x ≠ Plain.low8 y := by
  rw [bits_or32] at h1
  exact Plain.low8_no (tst_ne h) (by omega)

theorem tst_no3 {x y : UInt8} (h : ((x.toNat : Int) == (y.toNat : Int)) = false) (h1 : 122 < bits BinOp.or IntKind.u8 (x.toNat : Int) 32) : Plain.low8 x ≠ Plain.low8 y := by
  rw [bits_or32] at h1
  exact Plain.low8_no (tst_ne h) (by omega)

theorem foldSpec_calls (a b : ByteArray) (ha : a.size ≤ maxLen) (hb : b.size ≤ maxLen) (w : World) :
    Calls Try.prog 9 #[.string a, .string b] w fun e w' => e = .returned (.bool true) ∧ ∃ n, w' = w.drewN n := by
  by_cases hs : a.size + b.size ≤ 1048576
  · by_cases hl : a.size = b.size
    · go_enter Try.func9, Try.ntmps9
      go_wp2_with fail
      refine (bytes18_yes a b hs _).mono ?_
      rintro e w1 ⟨rfl, rfl⟩
      go_wp2_with fail
      go_loop [5, 6, 7, 8, 9] (fun x y _ _ _ => ∃ k : Nat, k ≤ b.size ∧ x = .bool true ∧ y = .int .i64 k ∧ Plain.upTo a.data.toList b.data.toList k) (fun _ y _ _ _ => b.size - (intOf y).toNat)
      case atStart => exact ⟨0, by omega, rfl, rfl, Plain.upTo_zero _ _⟩
      case round =>
        obtain ⟨k, hk, rfl, rfl, hu⟩ := hrel
        by_cases hlt : k < b.size
        · have hlt' : k < a.size := by omega
          go_wp2_with fail
          · have he : Plain.low8 a[k] = Plain.low8 b[k] := tst_eq (by assumption)
            go_round
            case rel => exact ⟨k + 1, by omega, rfl, by go_num, Plain.upTo_succ hu (at_list a k hlt') (at_list b k hlt) he⟩
            case measure => simp [intOf]; omega
          · have he : Plain.low8 a[k] = Plain.low8 b[k] := tst_yes (by assumption) (by assumption) (by assumption)
            go_round
            case rel => exact ⟨k + 1, by omega, rfl, by go_num, Plain.upTo_succ hu (at_list a k hlt') (at_list b k hlt) he⟩
            case measure => simp [intOf]; omega
          · have he : Plain.low8 a[k] ≠ Plain.low8 b[k] := tst_no3 (by assumption) (by assumption)
            have hF := Plain.eqFold_at (at_list a k hlt') (at_list b k hlt) he
            clear he
            refine (zzfold_calls a b ha hb _).mono ?_
            rintro e w2 ⟨rfl, hw⟩
            have hw := (show Hid _ from hw)
            go_wp2_with fail
            go_ret
            exact ⟨rfl, hw.out⟩
          · have he : Plain.low8 a[k] ≠ Plain.low8 b[k] := tst_no2 (by assumption) (by assumption)
            have hF := Plain.eqFold_at (at_list a k hlt') (at_list b k hlt) he
            clear he
            refine (zzfold_calls a b ha hb _).mono ?_
            rintro e w2 ⟨rfl, hw⟩
            have hw := (show Hid _ from hw)
            go_wp2_with fail
            go_ret
            exact ⟨rfl, hw.out⟩
          · have he : Plain.low8 a[k] ≠ Plain.low8 b[k] := tst_no1 (by assumption) (by assumption)
            have hF := Plain.eqFold_at (at_list a k hlt') (at_list b k hlt) he
            clear he
            refine (zzfold_calls a b ha hb _).mono ?_
            rintro e w2 ⟨rfl, hw⟩
            have hw := (show Hid _ from hw)
            go_wp2_with fail
            go_ret
            exact ⟨rfl, hw.out⟩
        · have hF : Plain.eqFold a.data.toList b.data.toList = true := Plain.upTo_all (by simpa using hl) (by
            have : a.data.toList.length = k := by have h1 : a.data.toList.length = a.size := by simp
                                                  omega
            rw [this]; exact hu)
          go_wp2_with fail
          refine (zzfold_calls a b ha hb _).mono ?_
          rintro e w2 ⟨rfl, hw⟩
          have hw := (show Hid _ from hw)
          go_wp2_with fail
          go_ret
          exact ⟨rfl, hw.out⟩
    · have hF : Plain.eqFold a.data.toList b.data.toList = false := Plain.eqFold_len (by simpa using hl)
      have hne : (((a.size : Nat) : Int) == ((b.size : Nat) : Int)) = false := by rw [beq_eq_false_iff_ne]; omega
      go_enter Try.func9, Try.ntmps9
      go_wp2_with fail
      refine (bytes18_yes a b hs _).mono ?_
      rintro e w1 ⟨rfl, rfl⟩
      go_wp2_with fail
      refine (zzfold_calls a b ha hb _).mono ?_
      rintro e w2 ⟨rfl, hw⟩
      have hw := (show Hid _ from hw)
      go_wp2_with fail
      go_ret
      exact ⟨rfl, hw.out⟩
  · have hs' : 1048576 < a.size + b.size := by omega
    go_enter Try.func9, Try.ntmps9
    go_wp2_with fail
    refine (bytes18_no a b ha hb hs' _).mono ?_
    rintro e w1 ⟨rfl, rfl⟩
    go_wp2_with fail
    go_ret
    exact ⟨rfl, 0, rfl⟩
end Go.Proofs.Qxb6601016a
