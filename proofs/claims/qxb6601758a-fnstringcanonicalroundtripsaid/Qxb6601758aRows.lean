/-
  No cell of these rows narrows 'for every input' (looked for: loops, veiled, ifaces, maps, wideKeys, modest, calm, conditions, laid).
  DERIVED. THE GIVEN ROWS OF THIS SEAT. 1 by the template 'for every input the law returns true; each argument reads behind the call as it read before'; 0 by the template 'total and deterministic' (their statements: Qxb6601758aTotals.lean).
  GIVEN WITH THE SEED: the statements are not yours to turn. If you find one false, say at which input.
  Laid BY PROGRAM, IN A SANDBOX (cutbox-rows.mjs): the forced cells as the released guide's own fill.sh prints them over the translation 0f1266208bdc2d99… (all of the seat's roots in one cut). By AI agents, Wed Nov 11 2026. No macro, syntax, notation, axiom, sorry.
-/
import Derived.Test.Qxb6601758aChecked
import GoSem.Claim
import GoSem.ClaimJoined
import GoSem.ClaimMapViews
import Derived.JoinedTies
import Derived.KernelRfl
namespace Go.Proofs.Qxb6601758a
/- THE CELL 'sum', in the pinned program and in every row, IS THE sha256 OF THE DUMP (.gsa) THAT Qxb6601758aProg.lean LOADS. Nothing in Lean hashes anything: it is a label: what it is worth is what the hold of that sum in a sandbox is worth. -/
noncomputable def Try.pinned : Pinned := { name := "qxb6601758a", sum := "0f1266208bdc2d994e0ed2a1feecc41e49817d647382e0882b21a5e7744e8c2d", checked := Try.checked }
namespace Rows
def none {H : Type} : Left H := { results := [], args := [] }

/-- 'zzlaws_internal_amount_b1.FnStringCanonicalRoundTrip': WHATEVER THE INPUT: true; the input reads as it did. -/
def fnStringCanonicalRoundTripSpec : ChangeSpec := { name := "fnStringCanonicalRoundTrip", fn := fun _ => fun
  | [d1, d2, d3] => { results := [.lit (.bool true)], args := [d1, d2, d3] }
  | _ => none }
def fnStringCanonicalRoundTripRow : OpenClaim := { program := "qxb6601758a", sum := "0f1266208bdc2d994e0ed2a1feecc41e49817d647382e0882b21a5e7744e8c2d", func := "example.com/tillstone/tillstone/zzlaws_internal_amount_b1.FnStringCanonicalRoundTrip", spec := "fnStringCanonicalRoundTrip", apart := false }
def FnStringCanonicalRoundTripSaid : Prop := fnStringCanonicalRoundTripRow.holds Try.pinned (OpenSpec.ofChange fnStringCanonicalRoundTripSpec)

/-- ITS FALSE NEIGHBOUR: 'it returns false'. Refute it at one input. -/
def fnStringCanonicalRoundTripWrong : ChangeSpec := { name := "fnStringCanonicalRoundTrip", fn := fun _ => fun
  | [d1, d2, d3] => { results := [.lit (.bool false)], args := [d1, d2, d3] }
  | _ => none }
def FnStringCanonicalRoundTripWrongFalsely : Prop := fnStringCanonicalRoundTripRow.holds Try.pinned (OpenSpec.ofChange fnStringCanonicalRoundTripWrong)

end Rows
end Go.Proofs.Qxb6601758a
