/-
  No cell of these rows narrows 'for every input' (looked for: loops, veiled, ifaces, maps, wideKeys, modest, calm, conditions, laid).
  DERIVED. THE GIVEN ROWS OF THIS SEAT. 6 by the template 'for every input the law returns true; each argument reads behind the call as it read before'; 0 by the template 'total and deterministic' (their statements: Qxb6617157aTotals.lean).
  GIVEN WITH THE SEED: the statements are not yours to turn. If you find one false, say at which input.
  Laid BY PROGRAM, IN A SANDBOX (cutbox-rows.mjs): the forced cells as the released guide's own fill.sh prints them over the translation c3cd24d2039f8d76… (all of the seat's roots in one cut). By AI agents, Wed Nov 11 2026. No macro, syntax, notation, axiom, sorry.
-/
import Derived.Test.Qxb6617157aChecked
import GoSem.Claim
import GoSem.ClaimJoined
import GoSem.ClaimMapViews
import Derived.JoinedTies
import Derived.KernelRfl
namespace Go.Proofs.Qxb6617157a
/- THE CELL 'sum', in the pinned program and in every row, IS THE sha256 OF THE DUMP (.gsa) THAT Qxb6617157aProg.lean LOADS. Nothing in Lean hashes anything: it is a label: what it is worth is what the hold of that sum in a sandbox is worth. -/
noncomputable def Try.pinned : Pinned := { name := "qxb6617157a", sum := "c3cd24d2039f8d76b47fe1dcec0eab7d3228edc0906fd7045251dcc9df7c61b8", checked := Try.checked }
namespace Rows
def none {H : Type} : Left H := { results := [], args := [] }

/-- 'zzlaws_pkg_decimal_b1.FnMagnitudeNegationAndCharacter': WHATEVER THE INPUT: true; the input reads as it did. -/
def fnMagnitudeNegationAndCharacterSpec : ChangeSpec := { name := "fnMagnitudeNegationAndCharacter", fn := fun _ => fun
  | [d] => { results := [.lit (.bool true)], args := [d] }
  | _ => none }
def fnMagnitudeNegationAndCharacterRow : OpenClaim := { program := "qxb6617157a", sum := "c3cd24d2039f8d76b47fe1dcec0eab7d3228edc0906fd7045251dcc9df7c61b8", func := "example.com/tuoguan/tuoguan/zzlaws_pkg_decimal_b1.FnMagnitudeNegationAndCharacter", spec := "fnMagnitudeNegationAndCharacter", apart := false }
def FnMagnitudeNegationAndCharacterSaid : Prop := fnMagnitudeNegationAndCharacterRow.holds Try.pinned (OpenSpec.ofChange fnMagnitudeNegationAndCharacterSpec)

/-- ITS FALSE NEIGHBOUR: 'it returns false'. Refute it at one input. -/
def fnMagnitudeNegationAndCharacterWrong : ChangeSpec := { name := "fnMagnitudeNegationAndCharacter", fn := fun _ => fun
  | [d] => { results := [.lit (.bool false)], args := [d] }
  | _ => none }
def FnMagnitudeNegationAndCharacterWrongFalsely : Prop := fnMagnitudeNegationAndCharacterRow.holds Try.pinned (OpenSpec.ofChange fnMagnitudeNegationAndCharacterWrong)

/-- 'zzlaws_pkg_decimal_b1.FnMagnitudeMultiplicativeUpToSign': WHATEVER THE INPUT: true; the input reads as it did. -/
def fnMagnitudeMultiplicativeUpToSignSpec : ChangeSpec := { name := "fnMagnitudeMultiplicativeUpToSign", fn := fun _ => fun
  | [d1, d2] => { results := [.lit (.bool true)], args := [d1, d2] }
  | _ => none }
def fnMagnitudeMultiplicativeUpToSignRow : OpenClaim := { program := "qxb6617157a", sum := "c3cd24d2039f8d76b47fe1dcec0eab7d3228edc0906fd7045251dcc9df7c61b8", func := "example.com/tuoguan/tuoguan/zzlaws_pkg_decimal_b1.FnMagnitudeMultiplicativeUpToSign", spec := "fnMagnitudeMultiplicativeUpToSign", apart := false }
def FnMagnitudeMultiplicativeUpToSignSaid : Prop := fnMagnitudeMultiplicativeUpToSignRow.holds Try.pinned (OpenSpec.ofChange fnMagnitudeMultiplicativeUpToSignSpec)

/-- ITS FALSE NEIGHBOUR: 'it returns false'. Refute it at one input. -/
def fnMagnitudeMultiplicativeUpToSignWrong : ChangeSpec := { name := "fnMagnitudeMultiplicativeUpToSign", fn := fun _ => fun
  | [d1, d2] => { results := [.lit (.bool false)], args := [d1, d2] }
  | _ => none }
def FnMagnitudeMultiplicativeUpToSignWrongFalsely : Prop := fnMagnitudeMultiplicativeUpToSignRow.holds Try.pinned (OpenSpec.ofChange fnMagnitudeMultiplicativeUpToSignWrong)

/-- 'zzlaws_pkg_decimal_b1.FnWriteDigitAtEveryPlaceAndSign': WHATEVER THE INPUT: true; the input reads as it did. -/
def fnWriteDigitAtEveryPlaceAndSignSpec : ChangeSpec := { name := "fnWriteDigitAtEveryPlaceAndSign", fn := fun _ => fun
  | [d1, d2, d3, d4] => { results := [.lit (.bool true)], args := [d1, d2, d3, d4] }
  | _ => none }
def fnWriteDigitAtEveryPlaceAndSignRow : OpenClaim := { program := "qxb6617157a", sum := "c3cd24d2039f8d76b47fe1dcec0eab7d3228edc0906fd7045251dcc9df7c61b8", func := "example.com/tuoguan/tuoguan/zzlaws_pkg_decimal_b1.FnWriteDigitAtEveryPlaceAndSign", spec := "fnWriteDigitAtEveryPlaceAndSign", inPlace := ["internal/abi.NoEscape", "internal/bytealg.MakeNoZero"], apart := false }
def FnWriteDigitAtEveryPlaceAndSignSaid : Prop := fnWriteDigitAtEveryPlaceAndSignRow.holds Try.pinned (OpenSpec.ofChange fnWriteDigitAtEveryPlaceAndSignSpec)

/-- ITS FALSE NEIGHBOUR: 'it returns false'. Refute it at one input. -/
def fnWriteDigitAtEveryPlaceAndSignWrong : ChangeSpec := { name := "fnWriteDigitAtEveryPlaceAndSign", fn := fun _ => fun
  | [d1, d2, d3, d4] => { results := [.lit (.bool false)], args := [d1, d2, d3, d4] }
  | _ => none }
def FnWriteDigitAtEveryPlaceAndSignWrongFalsely : Prop := fnWriteDigitAtEveryPlaceAndSignRow.holds Try.pinned (OpenSpec.ofChange fnWriteDigitAtEveryPlaceAndSignWrong)

/-- 'zzlaws_pkg_decimal_b1.FnWriteOneMoreScaleAddsAZero': WHATEVER THE INPUT: true; the input reads as it did. -/
def fnWriteOneMoreScaleAddsAZeroSpec : ChangeSpec := { name := "fnWriteOneMoreScaleAddsAZero", fn := fun _ => fun
  | [d1, d2, d3, d4] => { results := [.lit (.bool true)], args := [d1, d2, d3, d4] }
  | _ => none }
def fnWriteOneMoreScaleAddsAZeroRow : OpenClaim := { program := "qxb6617157a", sum := "c3cd24d2039f8d76b47fe1dcec0eab7d3228edc0906fd7045251dcc9df7c61b8", func := "example.com/tuoguan/tuoguan/zzlaws_pkg_decimal_b1.FnWriteOneMoreScaleAddsAZero", spec := "fnWriteOneMoreScaleAddsAZero", inPlace := ["internal/abi.NoEscape", "internal/bytealg.MakeNoZero"], apart := false }
def FnWriteOneMoreScaleAddsAZeroSaid : Prop := fnWriteOneMoreScaleAddsAZeroRow.holds Try.pinned (OpenSpec.ofChange fnWriteOneMoreScaleAddsAZeroSpec)

/-- ITS FALSE NEIGHBOUR: 'it returns false'. Refute it at one input. -/
def fnWriteOneMoreScaleAddsAZeroWrong : ChangeSpec := { name := "fnWriteOneMoreScaleAddsAZero", fn := fun _ => fun
  | [d1, d2, d3, d4] => { results := [.lit (.bool false)], args := [d1, d2, d3, d4] }
  | _ => none }
def FnWriteOneMoreScaleAddsAZeroWrongFalsely : Prop := fnWriteOneMoreScaleAddsAZeroRow.holds Try.pinned (OpenSpec.ofChange fnWriteOneMoreScaleAddsAZeroWrong)

/-- 'zzlaws_pkg_decimal_b1.FnIsDigitsInsertOneByte': WHATEVER THE INPUT: true; the input reads as it did. -/
def fnIsDigitsInsertOneByteSpec : ChangeSpec := { name := "fnIsDigitsInsertOneByte", fn := fun _ => fun
  | [d1, d2, d3] => { results := [.lit (.bool true)], args := [d1, d2, d3] }
  | _ => none }
def fnIsDigitsInsertOneByteRow : OpenClaim := { program := "qxb6617157a", sum := "c3cd24d2039f8d76b47fe1dcec0eab7d3228edc0906fd7045251dcc9df7c61b8", func := "example.com/tuoguan/tuoguan/zzlaws_pkg_decimal_b1.FnIsDigitsInsertOneByte", spec := "fnIsDigitsInsertOneByte", apart := false }
def FnIsDigitsInsertOneByteSaid : Prop := fnIsDigitsInsertOneByteRow.holds Try.pinned (OpenSpec.ofChange fnIsDigitsInsertOneByteSpec)

/-- ITS FALSE NEIGHBOUR: 'it returns false'. Refute it at one input. -/
def fnIsDigitsInsertOneByteWrong : ChangeSpec := { name := "fnIsDigitsInsertOneByte", fn := fun _ => fun
  | [d1, d2, d3] => { results := [.lit (.bool false)], args := [d1, d2, d3] }
  | _ => none }
def FnIsDigitsInsertOneByteWrongFalsely : Prop := fnIsDigitsInsertOneByteRow.holds Try.pinned (OpenSpec.ofChange fnIsDigitsInsertOneByteWrong)

/-- 'zzlaws_pkg_decimal_b1.FnIsDigitsOfWrittenText': WHATEVER THE INPUT: true; the input reads as it did. -/
def fnIsDigitsOfWrittenTextSpec : ChangeSpec := { name := "fnIsDigitsOfWrittenText", fn := fun _ => fun
  | [d1, d2, d3, d4] => { results := [.lit (.bool true)], args := [d1, d2, d3, d4] }
  | _ => none }
def fnIsDigitsOfWrittenTextRow : OpenClaim := { program := "qxb6617157a", sum := "c3cd24d2039f8d76b47fe1dcec0eab7d3228edc0906fd7045251dcc9df7c61b8", func := "example.com/tuoguan/tuoguan/zzlaws_pkg_decimal_b1.FnIsDigitsOfWrittenText", spec := "fnIsDigitsOfWrittenText", inPlace := ["internal/abi.NoEscape", "internal/bytealg.MakeNoZero"], apart := false }
def FnIsDigitsOfWrittenTextSaid : Prop := fnIsDigitsOfWrittenTextRow.holds Try.pinned (OpenSpec.ofChange fnIsDigitsOfWrittenTextSpec)

/-- ITS FALSE NEIGHBOUR: 'it returns false'. Refute it at one input. -/
def fnIsDigitsOfWrittenTextWrong : ChangeSpec := { name := "fnIsDigitsOfWrittenText", fn := fun _ => fun
  | [d1, d2, d3, d4] => { results := [.lit (.bool false)], args := [d1, d2, d3, d4] }
  | _ => none }
def FnIsDigitsOfWrittenTextWrongFalsely : Prop := fnIsDigitsOfWrittenTextRow.holds Try.pinned (OpenSpec.ofChange fnIsDigitsOfWrittenTextWrong)

end Rows
end Go.Proofs.Qxb6617157a
