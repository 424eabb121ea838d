/-
  No cell of these rows narrows 'for every input' (looked for: loops, veiled, ifaces, maps, wideKeys, modest, calm, conditions, laid).
  DERIVED. THE GIVEN ROWS OF THIS SEAT. 5 by the template 'for every input the law returns true; each argument reads behind the call as it read before'; 0 by the template 'total and deterministic' (their statements: Qxb6602046aTotals.lean).
  GIVEN WITH THE SEED: the statements are not yours to turn. If you find one false, say at which input.
  Laid BY PROGRAM, IN A SANDBOX (cutbox-rows.mjs): the forced cells as the released guide's own fill.sh prints them over the translation 3c3883fb8d1eb07f… (all of the seat's roots in one cut). By AI agents, Wed Nov 11 2026. No macro, syntax, notation, axiom, sorry.
-/
import Derived.Test.Qxb6602046aChecked
import GoSem.Claim
import GoSem.ClaimJoined
import GoSem.ClaimMapViews
import Derived.JoinedTies
import Derived.KernelRfl
namespace Go.Proofs.Qxb6602046a
/- THE CELL 'sum', in the pinned program and in every row, IS THE sha256 OF THE DUMP (.gsa) THAT Qxb6602046aProg.lean LOADS. Nothing in Lean hashes anything: it is a label: what it is worth is what the hold of that sum in a sandbox is worth. -/
noncomputable def Try.pinned : Pinned := { name := "qxb6602046a", sum := "3c3883fb8d1eb07f4e6134d3533b0849deb16b7ab487d2868a3431239c330c18", checked := Try.checked }
namespace Rows
def none {H : Type} : Left H := { results := [], args := [] }

/-- 'zzlaws_number_b1.FnIsPlainDecimalMatchesAutomaton': WHATEVER THE INPUT: true; the input reads as it did. -/
def fnIsPlainDecimalMatchesAutomatonSpec : ChangeSpec := { name := "fnIsPlainDecimalMatchesAutomaton", fn := fun _ => fun
  | [d1, d2] => { results := [.lit (.bool true)], args := [d1, d2] }
  | _ => none }
def fnIsPlainDecimalMatchesAutomatonRow : OpenClaim := { program := "qxb6602046a", sum := "3c3883fb8d1eb07f4e6134d3533b0849deb16b7ab487d2868a3431239c330c18", func := "example.com/tuoguan/tuoguan/zzlaws_number_b1.FnIsPlainDecimalMatchesAutomaton", spec := "fnIsPlainDecimalMatchesAutomaton", apart := false }
def FnIsPlainDecimalMatchesAutomatonSaid : Prop := fnIsPlainDecimalMatchesAutomatonRow.holds Try.pinned (OpenSpec.ofChange fnIsPlainDecimalMatchesAutomatonSpec)

/-- ITS FALSE NEIGHBOUR: 'it returns false'. Refute it at one input. -/
def fnIsPlainDecimalMatchesAutomatonWrong : ChangeSpec := { name := "fnIsPlainDecimalMatchesAutomaton", fn := fun _ => fun
  | [d1, d2] => { results := [.lit (.bool false)], args := [d1, d2] }
  | _ => none }
def FnIsPlainDecimalMatchesAutomatonWrongFalsely : Prop := fnIsPlainDecimalMatchesAutomatonRow.holds Try.pinned (OpenSpec.ofChange fnIsPlainDecimalMatchesAutomatonWrong)

/-- 'zzlaws_number_b1.FnIsPlainDecimalMonotoneInMaxPlaces': WHATEVER THE INPUT: true; the input reads as it did. -/
def fnIsPlainDecimalMonotoneInMaxPlacesSpec : ChangeSpec := { name := "fnIsPlainDecimalMonotoneInMaxPlaces", fn := fun _ => fun
  | [d1, d2, d3] => { results := [.lit (.bool true)], args := [d1, d2, d3] }
  | _ => none }
def fnIsPlainDecimalMonotoneInMaxPlacesRow : OpenClaim := { program := "qxb6602046a", sum := "3c3883fb8d1eb07f4e6134d3533b0849deb16b7ab487d2868a3431239c330c18", func := "example.com/tuoguan/tuoguan/zzlaws_number_b1.FnIsPlainDecimalMonotoneInMaxPlaces", spec := "fnIsPlainDecimalMonotoneInMaxPlaces", apart := false }
def FnIsPlainDecimalMonotoneInMaxPlacesSaid : Prop := fnIsPlainDecimalMonotoneInMaxPlacesRow.holds Try.pinned (OpenSpec.ofChange fnIsPlainDecimalMonotoneInMaxPlacesSpec)

/-- ITS FALSE NEIGHBOUR: 'it returns false'. Refute it at one input. -/
def fnIsPlainDecimalMonotoneInMaxPlacesWrong : ChangeSpec := { name := "fnIsPlainDecimalMonotoneInMaxPlaces", fn := fun _ => fun
  | [d1, d2, d3] => { results := [.lit (.bool false)], args := [d1, d2, d3] }
  | _ => none }
def FnIsPlainDecimalMonotoneInMaxPlacesWrongFalsely : Prop := fnIsPlainDecimalMonotoneInMaxPlacesRow.holds Try.pinned (OpenSpec.ofChange fnIsPlainDecimalMonotoneInMaxPlacesWrong)

/-- 'zzlaws_number_b1.FnIsPlainDecimalMinusPrefix': WHATEVER THE INPUT: true; the input reads as it did. -/
def fnIsPlainDecimalMinusPrefixSpec : ChangeSpec := { name := "fnIsPlainDecimalMinusPrefix", fn := fun _ => fun
  | [d1, d2] => { results := [.lit (.bool true)], args := [d1, d2] }
  | _ => none }
def fnIsPlainDecimalMinusPrefixRow : OpenClaim := { program := "qxb6602046a", sum := "3c3883fb8d1eb07f4e6134d3533b0849deb16b7ab487d2868a3431239c330c18", func := "example.com/tuoguan/tuoguan/zzlaws_number_b1.FnIsPlainDecimalMinusPrefix", spec := "fnIsPlainDecimalMinusPrefix", apart := false }
def FnIsPlainDecimalMinusPrefixSaid : Prop := fnIsPlainDecimalMinusPrefixRow.holds Try.pinned (OpenSpec.ofChange fnIsPlainDecimalMinusPrefixSpec)

/-- ITS FALSE NEIGHBOUR: 'it returns false'. Refute it at one input. -/
def fnIsPlainDecimalMinusPrefixWrong : ChangeSpec := { name := "fnIsPlainDecimalMinusPrefix", fn := fun _ => fun
  | [d1, d2] => { results := [.lit (.bool false)], args := [d1, d2] }
  | _ => none }
def FnIsPlainDecimalMinusPrefixWrongFalsely : Prop := fnIsPlainDecimalMinusPrefixRow.holds Try.pinned (OpenSpec.ofChange fnIsPlainDecimalMinusPrefixWrong)

/-- 'zzlaws_number_b1.FnLeadingDigitsIsLongestDigitPrefix': WHATEVER THE INPUT: true; the input reads as it did. -/
def fnLeadingDigitsIsLongestDigitPrefixSpec : ChangeSpec := { name := "fnLeadingDigitsIsLongestDigitPrefix", fn := fun _ => fun
  | [d] => { results := [.lit (.bool true)], args := [d] }
  | _ => none }
def fnLeadingDigitsIsLongestDigitPrefixRow : OpenClaim := { program := "qxb6602046a", sum := "3c3883fb8d1eb07f4e6134d3533b0849deb16b7ab487d2868a3431239c330c18", func := "example.com/tuoguan/tuoguan/zzlaws_number_b1.FnLeadingDigitsIsLongestDigitPrefix", spec := "fnLeadingDigitsIsLongestDigitPrefix", apart := false }
def FnLeadingDigitsIsLongestDigitPrefixSaid : Prop := fnLeadingDigitsIsLongestDigitPrefixRow.holds Try.pinned (OpenSpec.ofChange fnLeadingDigitsIsLongestDigitPrefixSpec)

/-- ITS FALSE NEIGHBOUR: 'it returns false'. Refute it at one input. -/
def fnLeadingDigitsIsLongestDigitPrefixWrong : ChangeSpec := { name := "fnLeadingDigitsIsLongestDigitPrefix", fn := fun _ => fun
  | [d] => { results := [.lit (.bool false)], args := [d] }
  | _ => none }
def FnLeadingDigitsIsLongestDigitPrefixWrongFalsely : Prop := fnLeadingDigitsIsLongestDigitPrefixRow.holds Try.pinned (OpenSpec.ofChange fnLeadingDigitsIsLongestDigitPrefixWrong)

/-- 'zzlaws_number_b1.FnLeadingDigitsOfConcatenation': WHATEVER THE INPUT: true; the input reads as it did. -/
def fnLeadingDigitsOfConcatenationSpec : ChangeSpec := { name := "fnLeadingDigitsOfConcatenation", fn := fun _ => fun
  | [d1, d2] => { results := [.lit (.bool true)], args := [d1, d2] }
  | _ => none }
def fnLeadingDigitsOfConcatenationRow : OpenClaim := { program := "qxb6602046a", sum := "3c3883fb8d1eb07f4e6134d3533b0849deb16b7ab487d2868a3431239c330c18", func := "example.com/tuoguan/tuoguan/zzlaws_number_b1.FnLeadingDigitsOfConcatenation", spec := "fnLeadingDigitsOfConcatenation", apart := false }
def FnLeadingDigitsOfConcatenationSaid : Prop := fnLeadingDigitsOfConcatenationRow.holds Try.pinned (OpenSpec.ofChange fnLeadingDigitsOfConcatenationSpec)

/-- ITS FALSE NEIGHBOUR: 'it returns false'. Refute it at one input. -/
def fnLeadingDigitsOfConcatenationWrong : ChangeSpec := { name := "fnLeadingDigitsOfConcatenation", fn := fun _ => fun
  | [d1, d2] => { results := [.lit (.bool false)], args := [d1, d2] }
  | _ => none }
def FnLeadingDigitsOfConcatenationWrongFalsely : Prop := fnLeadingDigitsOfConcatenationRow.holds Try.pinned (OpenSpec.ofChange fnLeadingDigitsOfConcatenationWrong)

end Rows
end Go.Proofs.Qxb6602046a
