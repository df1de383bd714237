/-
  No cell of these rows narrows 'for every input' (looked for: loops, veiled, ifaces, maps, wideKeys, modest, calm, conditions, laid).
  DERIVED. THE GIVEN ROWS OF THIS SEAT. 9 by the template 'for every input the law returns true; each argument reads behind the call as it read before'; 0 by the template 'total and deterministic' (their statements: Qxb6601016aTotals.lean).
  GIVEN WITH THE SEED: the statements are not yours to turn. If you find one false, say at which input.
  Laid BY PROGRAM, IN A SANDBOX (cutbox-rows.mjs): the forced cells as the released guide's own fill.sh prints them over the translation 2aaf96f98688ebac… (all of the seat's roots in one cut). By AI agents, Wed Nov 11 2026. No macro, syntax, notation, axiom, sorry.
-/
import Derived.Test.Qxb6601016aChecked
import GoSem.Claim
import GoSem.ClaimJoined
import GoSem.ClaimMapViews
import Derived.JoinedTies
import Derived.KernelRfl
namespace Go.Proofs.Qxb6601016a
/- THE CELL 'sum', in the pinned program and in every row, IS THE sha256 OF THE DUMP (.gsa) THAT Qxb6601016aProg.lean LOADS. Nothing in Lean hashes anything: it is a label: what it is worth is what the hold of that sum in a sandbox is worth. -/
noncomputable def Try.pinned : Pinned := { name := "qxb6601016a", sum := "2aaf96f98688ebac5628cb69e4f3bd3c83b6c23e1e529dcde815a69eb0946487", checked := Try.checked }
namespace Rows
def none {H : Type} : Left H := { results := [], args := [] }

/-- 'zzlaws_pkg_e164_b1.FnLenCountsDecimalDigits': WHATEVER THE INPUT: true; the input reads as it did. -/
def fnLenCountsDecimalDigitsSpec : ChangeSpec := { name := "fnLenCountsDecimalDigits", fn := fun _ => fun
  | [d] => { results := [.lit (.bool true)], args := [d] }
  | _ => none }
def fnLenCountsDecimalDigitsRow : OpenClaim := { program := "qxb6601016a", sum := "2aaf96f98688ebac5628cb69e4f3bd3c83b6c23e1e529dcde815a69eb0946487", func := "example.com/dialspan/dialspan/zzlaws_pkg_e164_b1.FnLenCountsDecimalDigits", spec := "fnLenCountsDecimalDigits", apart := false }
def FnLenCountsDecimalDigitsSaid : Prop := fnLenCountsDecimalDigitsRow.holds Try.pinned (OpenSpec.ofChange fnLenCountsDecimalDigitsSpec)

/-- ITS FALSE NEIGHBOUR: 'it returns false'. Refute it at one input. -/
def fnLenCountsDecimalDigitsWrong : ChangeSpec := { name := "fnLenCountsDecimalDigits", fn := fun _ => fun
  | [d] => { results := [.lit (.bool false)], args := [d] }
  | _ => none }
def FnLenCountsDecimalDigitsWrongFalsely : Prop := fnLenCountsDecimalDigitsRow.holds Try.pinned (OpenSpec.ofChange fnLenCountsDecimalDigitsWrong)

/-- 'zzlaws_pkg_e164_b1.FnLenMonotoneAndBounded': WHATEVER THE INPUT: true; the input reads as it did. -/
def fnLenMonotoneAndBoundedSpec : ChangeSpec := { name := "fnLenMonotoneAndBounded", fn := fun _ => fun
  | [d1, d2] => { results := [.lit (.bool true)], args := [d1, d2] }
  | _ => none }
def fnLenMonotoneAndBoundedRow : OpenClaim := { program := "qxb6601016a", sum := "2aaf96f98688ebac5628cb69e4f3bd3c83b6c23e1e529dcde815a69eb0946487", func := "example.com/dialspan/dialspan/zzlaws_pkg_e164_b1.FnLenMonotoneAndBounded", spec := "fnLenMonotoneAndBounded", apart := false }
def FnLenMonotoneAndBoundedSaid : Prop := fnLenMonotoneAndBoundedRow.holds Try.pinned (OpenSpec.ofChange fnLenMonotoneAndBoundedSpec)

/-- ITS FALSE NEIGHBOUR: 'it returns false'. Refute it at one input. -/
def fnLenMonotoneAndBoundedWrong : ChangeSpec := { name := "fnLenMonotoneAndBounded", fn := fun _ => fun
  | [d1, d2] => { results := [.lit (.bool false)], args := [d1, d2] }
  | _ => none }
def FnLenMonotoneAndBoundedWrongFalsely : Prop := fnLenMonotoneAndBoundedRow.holds Try.pinned (OpenSpec.ofChange fnLenMonotoneAndBoundedWrong)

/-- 'zzlaws_pkg_e164_b1.FnLenIsHalfTheRootDomainName': WHATEVER THE INPUT: true; the input reads as it did. -/
def fnLenIsHalfTheRootDomainNameSpec : ChangeSpec := { name := "fnLenIsHalfTheRootDomainName", fn := fun _ => fun
  | [d] => { results := [.lit (.bool true)], args := [d] }
  | _ => none }
def fnLenIsHalfTheRootDomainNameRow : OpenClaim := { program := "qxb6601016a", sum := "2aaf96f98688ebac5628cb69e4f3bd3c83b6c23e1e529dcde815a69eb0946487", func := "example.com/dialspan/dialspan/zzlaws_pkg_e164_b1.FnLenIsHalfTheRootDomainName", spec := "fnLenIsHalfTheRootDomainName", inPlace := ["internal/abi.NoEscape", "internal/bytealg.MakeNoZero"], apart := false }
def FnLenIsHalfTheRootDomainNameSaid : Prop := fnLenIsHalfTheRootDomainNameRow.holds Try.pinned (OpenSpec.ofChange fnLenIsHalfTheRootDomainNameSpec)

/-- ITS FALSE NEIGHBOUR: 'it returns false'. Refute it at one input. -/
def fnLenIsHalfTheRootDomainNameWrong : ChangeSpec := { name := "fnLenIsHalfTheRootDomainName", fn := fun _ => fun
  | [d] => { results := [.lit (.bool false)], args := [d] }
  | _ => none }
def FnLenIsHalfTheRootDomainNameWrongFalsely : Prop := fnLenIsHalfTheRootDomainNameRow.holds Try.pinned (OpenSpec.ofChange fnLenIsHalfTheRootDomainNameWrong)

/-- 'zzlaws_pkg_e164_b1.FnDomainNameSpec': WHATEVER THE INPUT: true; the input reads as it did. -/
def fnDomainNameSpecSpec : ChangeSpec := { name := "fnDomainNameSpec", fn := fun _ => fun
  | [d1, d2] => { results := [.lit (.bool true)], args := [d1, d2] }
  | _ => none }
def fnDomainNameSpecRow : OpenClaim := { program := "qxb6601016a", sum := "2aaf96f98688ebac5628cb69e4f3bd3c83b6c23e1e529dcde815a69eb0946487", func := "example.com/dialspan/dialspan/zzlaws_pkg_e164_b1.FnDomainNameSpec", spec := "fnDomainNameSpec", inPlace := ["internal/abi.NoEscape", "internal/bytealg.MakeNoZero"], apart := false }
def FnDomainNameSpecSaid : Prop := fnDomainNameSpecRow.holds Try.pinned (OpenSpec.ofChange fnDomainNameSpecSpec)

/-- ITS FALSE NEIGHBOUR: 'it returns false'. Refute it at one input. -/
def fnDomainNameSpecWrong : ChangeSpec := { name := "fnDomainNameSpec", fn := fun _ => fun
  | [d1, d2] => { results := [.lit (.bool false)], args := [d1, d2] }
  | _ => none }
def FnDomainNameSpecWrongFalsely : Prop := fnDomainNameSpecRow.holds Try.pinned (OpenSpec.ofChange fnDomainNameSpecWrong)

/-- 'zzlaws_pkg_e164_b1.FnDomainNameFinalDotOptional': WHATEVER THE INPUT: true; the input reads as it did. -/
def fnDomainNameFinalDotOptionalSpec : ChangeSpec := { name := "fnDomainNameFinalDotOptional", fn := fun _ => fun
  | [d1, d2] => { results := [.lit (.bool true)], args := [d1, d2] }
  | _ => none }
def fnDomainNameFinalDotOptionalRow : OpenClaim := { program := "qxb6601016a", sum := "2aaf96f98688ebac5628cb69e4f3bd3c83b6c23e1e529dcde815a69eb0946487", func := "example.com/dialspan/dialspan/zzlaws_pkg_e164_b1.FnDomainNameFinalDotOptional", spec := "fnDomainNameFinalDotOptional", inPlace := ["internal/abi.NoEscape", "internal/bytealg.MakeNoZero"], apart := false }
def FnDomainNameFinalDotOptionalSaid : Prop := fnDomainNameFinalDotOptionalRow.holds Try.pinned (OpenSpec.ofChange fnDomainNameFinalDotOptionalSpec)

/-- ITS FALSE NEIGHBOUR: 'it returns false'. Refute it at one input. -/
def fnDomainNameFinalDotOptionalWrong : ChangeSpec := { name := "fnDomainNameFinalDotOptional", fn := fun _ => fun
  | [d1, d2] => { results := [.lit (.bool false)], args := [d1, d2] }
  | _ => none }
def FnDomainNameFinalDotOptionalWrongFalsely : Prop := fnDomainNameFinalDotOptionalRow.holds Try.pinned (OpenSpec.ofChange fnDomainNameFinalDotOptionalWrong)

/-- 'zzlaws_pkg_e164_b1.FnDomainNamePrependDigit': WHATEVER THE INPUT: true; the input reads as it did. -/
def fnDomainNamePrependDigitSpec : ChangeSpec := { name := "fnDomainNamePrependDigit", fn := fun _ => fun
  | [d1, d2, d3] => { results := [.lit (.bool true)], args := [d1, d2, d3] }
  | _ => none }
def fnDomainNamePrependDigitRow : OpenClaim := { program := "qxb6601016a", sum := "2aaf96f98688ebac5628cb69e4f3bd3c83b6c23e1e529dcde815a69eb0946487", func := "example.com/dialspan/dialspan/zzlaws_pkg_e164_b1.FnDomainNamePrependDigit", spec := "fnDomainNamePrependDigit", inPlace := ["internal/abi.NoEscape", "internal/bytealg.MakeNoZero"], apart := false }
def FnDomainNamePrependDigitSaid : Prop := fnDomainNamePrependDigitRow.holds Try.pinned (OpenSpec.ofChange fnDomainNamePrependDigitSpec)

/-- ITS FALSE NEIGHBOUR: 'it returns false'. Refute it at one input. -/
def fnDomainNamePrependDigitWrong : ChangeSpec := { name := "fnDomainNamePrependDigit", fn := fun _ => fun
  | [d1, d2, d3] => { results := [.lit (.bool false)], args := [d1, d2, d3] }
  | _ => none }
def FnDomainNamePrependDigitWrongFalsely : Prop := fnDomainNamePrependDigitRow.holds Try.pinned (OpenSpec.ofChange fnDomainNamePrependDigitWrong)

/-- 'zzlaws_pkg_e164_b1.FnEqualFoldASCIISpec': WHATEVER THE INPUT: true; the input reads as it did. -/
def fnEqualFoldASCIISpecSpec : ChangeSpec := { name := "fnEqualFoldASCIISpec", fn := fun _ => fun
  | [d1, d2] => { results := [.lit (.bool true)], args := [d1, d2] }
  | _ => none }
def fnEqualFoldASCIISpecRow : OpenClaim := { program := "qxb6601016a", sum := "2aaf96f98688ebac5628cb69e4f3bd3c83b6c23e1e529dcde815a69eb0946487", func := "example.com/dialspan/dialspan/zzlaws_pkg_e164_b1.FnEqualFoldASCIISpec", spec := "fnEqualFoldASCIISpec", apart := false }
def FnEqualFoldASCIISpecSaid : Prop := fnEqualFoldASCIISpecRow.holds Try.pinned (OpenSpec.ofChange fnEqualFoldASCIISpecSpec)

/-- ITS FALSE NEIGHBOUR: 'it returns false'. Refute it at one input. -/
def fnEqualFoldASCIISpecWrong : ChangeSpec := { name := "fnEqualFoldASCIISpec", fn := fun _ => fun
  | [d1, d2] => { results := [.lit (.bool false)], args := [d1, d2] }
  | _ => none }
def FnEqualFoldASCIISpecWrongFalsely : Prop := fnEqualFoldASCIISpecRow.holds Try.pinned (OpenSpec.ofChange fnEqualFoldASCIISpecWrong)

/-- 'zzlaws_pkg_e164_b1.FnEqualFoldASCIIReflexiveSymmetric': WHATEVER THE INPUT: true; the input reads as it did. -/
def fnEqualFoldASCIIReflexiveSymmetricSpec : ChangeSpec := { name := "fnEqualFoldASCIIReflexiveSymmetric", fn := fun _ => fun
  | [d1, d2] => { results := [.lit (.bool true)], args := [d1, d2] }
  | _ => none }
def fnEqualFoldASCIIReflexiveSymmetricRow : OpenClaim := { program := "qxb6601016a", sum := "2aaf96f98688ebac5628cb69e4f3bd3c83b6c23e1e529dcde815a69eb0946487", func := "example.com/dialspan/dialspan/zzlaws_pkg_e164_b1.FnEqualFoldASCIIReflexiveSymmetric", spec := "fnEqualFoldASCIIReflexiveSymmetric", apart := false }
def FnEqualFoldASCIIReflexiveSymmetricSaid : Prop := fnEqualFoldASCIIReflexiveSymmetricRow.holds Try.pinned (OpenSpec.ofChange fnEqualFoldASCIIReflexiveSymmetricSpec)

/-- ITS FALSE NEIGHBOUR: 'it returns false'. Refute it at one input. -/
def fnEqualFoldASCIIReflexiveSymmetricWrong : ChangeSpec := { name := "fnEqualFoldASCIIReflexiveSymmetric", fn := fun _ => fun
  | [d1, d2] => { results := [.lit (.bool false)], args := [d1, d2] }
  | _ => none }
def FnEqualFoldASCIIReflexiveSymmetricWrongFalsely : Prop := fnEqualFoldASCIIReflexiveSymmetricRow.holds Try.pinned (OpenSpec.ofChange fnEqualFoldASCIIReflexiveSymmetricWrong)

/-- 'zzlaws_pkg_e164_b1.FnEqualFoldASCIITransitive': WHATEVER THE INPUT: true; the input reads as it did. -/
def fnEqualFoldASCIITransitiveSpec : ChangeSpec := { name := "fnEqualFoldASCIITransitive", fn := fun _ => fun
  | [d1, d2, d3] => { results := [.lit (.bool true)], args := [d1, d2, d3] }
  | _ => none }
def fnEqualFoldASCIITransitiveRow : OpenClaim := { program := "qxb6601016a", sum := "2aaf96f98688ebac5628cb69e4f3bd3c83b6c23e1e529dcde815a69eb0946487", func := "example.com/dialspan/dialspan/zzlaws_pkg_e164_b1.FnEqualFoldASCIITransitive", spec := "fnEqualFoldASCIITransitive", apart := false }
def FnEqualFoldASCIITransitiveSaid : Prop := fnEqualFoldASCIITransitiveRow.holds Try.pinned (OpenSpec.ofChange fnEqualFoldASCIITransitiveSpec)

/-- ITS FALSE NEIGHBOUR: 'it returns false'. Refute it at one input. -/
def fnEqualFoldASCIITransitiveWrong : ChangeSpec := { name := "fnEqualFoldASCIITransitive", fn := fun _ => fun
  | [d1, d2, d3] => { results := [.lit (.bool false)], args := [d1, d2, d3] }
  | _ => none }
def FnEqualFoldASCIITransitiveWrongFalsely : Prop := fnEqualFoldASCIITransitiveRow.holds Try.pinned (OpenSpec.ofChange fnEqualFoldASCIITransitiveWrong)

end Rows
end Go.Proofs.Qxb6601016a
