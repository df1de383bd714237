/-
  THE WALK OF FnLenIsHalfTheRootDomainName (function 5).
-/
import Derived.Test.Qxb6601016aRows
import Derived.WalkKit
import Derived.ProofKit
import Derived.Below
import Derived.Test.Qxb6601016aName
namespace Go.Proofs.Qxb6601016a
open Go.RowKit
set_option linter.unusedVariables false

theorem half_calls (n : Nat) (hn : n ≤ 18446744073709551615) (w : World) :
    Calls Try.prog 5 #[.int .u64 n] w fun e w' => e = .returned (.bool true) ∧ Below w.heap.size w w' := by
  have hN := Plain.numLen_20 hn
  obtain ⟨nm, hnm⟩ : ∃ nm, Hid (nm = Plain.name n (⟨#[]⟩ : ByteArray).data.toList) := ⟨_, rfl⟩
  have hlen : ((nm.length : Int) == 2 * ((Plain.numLen n : Nat) : Int)) = true := by
    have h1 : nm = Plain.labels n ++ [] := hnm.out
    rw [h1, List.append_nil, Plain.labels_length, beq_iff_eq]
    omega
  go_enter Try.func5, Try.ntmps5
  go_wp2_with fail
  refine (named_calls n ⟨#[]⟩ nm hnm hn (by decide) _).mono ?_
  rintro e w1 ⟨rfl, hB⟩
  go_wp2_with fail
  refine (len_calls n hn _).mono ?_
  rintro e w2 ⟨rfl, rfl⟩
  go_wp2_with fail
  go_ret
  exact ⟨rfl, hB⟩
end Go.Proofs.Qxb6601016a
