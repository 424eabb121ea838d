/-
  No cell of these rows narrows 'for every input' (looked for: loops, veiled, ifaces, maps, wideKeys, modest, calm, conditions, laid).
  DERIVED. THE GIVEN ROWS OF THIS SEAT. 3 by the template 'for every input the law returns true; each argument reads behind the call as it read before'; 0 by the template 'total and deterministic' (their statements: Qxb6601772aTotals.lean).
  GIVEN WITH THE SEED: the statements are not yours to turn. If you find one false, say at which input.
  Laid BY PROGRAM, IN A SANDBOX (cutbox-rows.mjs): the forced cells as the released guide's own fill.sh prints them over the translation a875561c6d235a2c… (all of the seat's roots in one cut). By AI agents, Wed Nov 11 2026. No macro, syntax, notation, axiom, sorry.
-/
import Derived.Test.Qxb6601772aChecked
import GoSem.Claim
import GoSem.ClaimJoined
import GoSem.ClaimMapViews
import Derived.JoinedTies
import Derived.KernelRfl
namespace Go.Proofs.Qxb6601772a
/- THE CELL 'sum', in the pinned program and in every row, IS THE sha256 OF THE DUMP (.gsa) THAT Qxb6601772aProg.lean LOADS. Nothing in Lean hashes anything: it is a label: what it is worth is what the hold of that sum in a sandbox is worth. -/
noncomputable def Try.pinned : Pinned := { name := "qxb6601772a", sum := "a875561c6d235a2ce281cf04f6e114115bfbb3df6b83e9de4619f3372ef4fa5d", checked := Try.checked }
namespace Rows
def none {H : Type} : Left H := { results := [], args := [] }

/-- 'zzlaws_history_b1.FnNumberAccessesWhole': WHATEVER THE INPUT: true; the input reads as it did. -/
def fnNumberAccessesWholeSpec : ChangeSpec := { name := "fnNumberAccessesWhole", fn := fun _ => fun
  | [d1, d2, d3, d4, d5] => { results := [.lit (.bool true)], args := [d1, d2, d3, d4, d5] }
  | _ => none }
def fnNumberAccessesWholeRow : OpenClaim := { program := "qxb6601772a", sum := "a875561c6d235a2ce281cf04f6e114115bfbb3df6b83e9de4619f3372ef4fa5d", func := "example.com/precedent/precedent/zzlaws_history_b1.FnNumberAccessesWhole", spec := "fnNumberAccessesWhole", plainKeys := false, apart := false }
def FnNumberAccessesWholeSaid : Prop := fnNumberAccessesWholeRow.holds Try.pinned (OpenSpec.ofChange fnNumberAccessesWholeSpec)

/-- ITS FALSE NEIGHBOUR: 'it returns false'. Refute it at one input. -/
def fnNumberAccessesWholeWrong : ChangeSpec := { name := "fnNumberAccessesWhole", fn := fun _ => fun
  | [d1, d2, d3, d4, d5] => { results := [.lit (.bool false)], args := [d1, d2, d3, d4, d5] }
  | _ => none }
def FnNumberAccessesWholeWrongFalsely : Prop := fnNumberAccessesWholeRow.holds Try.pinned (OpenSpec.ofChange fnNumberAccessesWholeWrong)

/-- 'zzlaws_history_b1.FnNumberAccessesIgnoresOldOutput': WHATEVER THE INPUT: true; the input reads as it did. -/
def fnNumberAccessesIgnoresOldOutputSpec : ChangeSpec := { name := "fnNumberAccessesIgnoresOldOutput", fn := fun _ => fun
  | [d1, d2, d3, d4, d5, d6, d7, d8] => { results := [.lit (.bool true)], args := [d1, d2, d3, d4, d5, d6, d7, d8] }
  | _ => none }
def fnNumberAccessesIgnoresOldOutputRow : OpenClaim := { program := "qxb6601772a", sum := "a875561c6d235a2ce281cf04f6e114115bfbb3df6b83e9de4619f3372ef4fa5d", func := "example.com/precedent/precedent/zzlaws_history_b1.FnNumberAccessesIgnoresOldOutput", spec := "fnNumberAccessesIgnoresOldOutput", plainKeys := false, apart := false }
def FnNumberAccessesIgnoresOldOutputSaid : Prop := fnNumberAccessesIgnoresOldOutputRow.holds Try.pinned (OpenSpec.ofChange fnNumberAccessesIgnoresOldOutputSpec)

/-- ITS FALSE NEIGHBOUR: 'it returns false'. Refute it at one input. -/
def fnNumberAccessesIgnoresOldOutputWrong : ChangeSpec := { name := "fnNumberAccessesIgnoresOldOutput", fn := fun _ => fun
  | [d1, d2, d3, d4, d5, d6, d7, d8] => { results := [.lit (.bool false)], args := [d1, d2, d3, d4, d5, d6, d7, d8] }
  | _ => none }
def FnNumberAccessesIgnoresOldOutputWrongFalsely : Prop := fnNumberAccessesIgnoresOldOutputRow.holds Try.pinned (OpenSpec.ofChange fnNumberAccessesIgnoresOldOutputWrong)

/-- 'zzlaws_history_b1.FnNewLockTableWhole': WHATEVER THE INPUT: true; the input reads as it did. -/
def fnNewLockTableWholeSpec : ChangeSpec := { name := "fnNewLockTableWhole", fn := fun _ => fun
  | [d1, d2, d3] => { results := [.lit (.bool true)], args := [d1, d2, d3] }
  | _ => none }
def fnNewLockTableWholeRow : OpenClaim := { program := "qxb6601772a", sum := "a875561c6d235a2ce281cf04f6e114115bfbb3df6b83e9de4619f3372ef4fa5d", func := "example.com/precedent/precedent/zzlaws_history_b1.FnNewLockTableWhole", spec := "fnNewLockTableWhole", plainKeys := false, apart := false }
def FnNewLockTableWholeSaid : Prop := fnNewLockTableWholeRow.holds Try.pinned (OpenSpec.ofChange fnNewLockTableWholeSpec)

/-- ITS FALSE NEIGHBOUR: 'it returns false'. Refute it at one input. -/
def fnNewLockTableWholeWrong : ChangeSpec := { name := "fnNewLockTableWhole", fn := fun _ => fun
  | [d1, d2, d3] => { results := [.lit (.bool false)], args := [d1, d2, d3] }
  | _ => none }
def FnNewLockTableWholeWrongFalsely : Prop := fnNewLockTableWholeRow.holds Try.pinned (OpenSpec.ofChange fnNewLockTableWholeWrong)

end Rows
end Go.Proofs.Qxb6601772a
