/-
  No cell of these rows narrows 'for every input' (looked for: loops, veiled, ifaces, maps, wideKeys, modest, calm, conditions, laid).
  DERIVED. THE GIVEN ROWS OF THIS SEAT. 2 by the template 'for every input the law returns true; each argument reads behind the call as it read before'; 0 by the template 'total and deterministic' (their statements: Qxb6601799aTotals.lean).
  GIVEN WITH THE SEED: the statements are not yours to turn. If you find one false, say at which input.
  Laid BY PROGRAM, IN A SANDBOX (cutbox-rows.mjs): the forced cells as the released guide's own fill.sh prints them over the translation b328660e3b342371… (all of the seat's roots in one cut). By AI agents, Wed Nov 11 2026. No macro, syntax, notation, axiom, sorry.
-/
import Derived.Test.Qxb6601799aChecked
import GoSem.Claim
import GoSem.ClaimJoined
import GoSem.ClaimMapViews
import Derived.JoinedTies
import Derived.KernelRfl
namespace Go.Proofs.Qxb6601799a
/- THE CELL 'sum', in the pinned program and in every row, IS THE sha256 OF THE DUMP (.gsa) THAT Qxb6601799aProg.lean LOADS. Nothing in Lean hashes anything: it is a label: what it is worth is what the hold of that sum in a sandbox is worth. -/
noncomputable def Try.pinned : Pinned := { name := "qxb6601799a", sum := "b328660e3b342371657f22019b927c4b1220aedbd3dc4fbb2c4110337b72ebdf", checked := Try.checked }
namespace Rows
def none {H : Type} : Left H := { results := [], args := [] }

/-- 'zzlaws_internal_check_b1.FnLinkScriptKeepsOnlyConflictEdges': WHATEVER THE INPUT: true; the input reads as it did. -/
def fnLinkScriptKeepsOnlyConflictEdgesSpec : ChangeSpec := { name := "fnLinkScriptKeepsOnlyConflictEdges", fn := fun _ => fun
  | [d1, d2] => { results := [.lit (.bool true)], args := [d1, d2] }
  | _ => none }
def fnLinkScriptKeepsOnlyConflictEdgesRow : OpenClaim := { program := "qxb6601799a", sum := "b328660e3b342371657f22019b927c4b1220aedbd3dc4fbb2c4110337b72ebdf", func := "example.com/seriatim/seriatim/zzlaws_internal_check_b1.FnLinkScriptKeepsOnlyConflictEdges", spec := "fnLinkScriptKeepsOnlyConflictEdges", apart := false }
def FnLinkScriptKeepsOnlyConflictEdgesSaid : Prop := fnLinkScriptKeepsOnlyConflictEdgesRow.holds Try.pinned (OpenSpec.ofChange fnLinkScriptKeepsOnlyConflictEdgesSpec)

/-- ITS FALSE NEIGHBOUR: 'it returns false'. Refute it at one input. -/
def fnLinkScriptKeepsOnlyConflictEdgesWrong : ChangeSpec := { name := "fnLinkScriptKeepsOnlyConflictEdges", fn := fun _ => fun
  | [d1, d2] => { results := [.lit (.bool false)], args := [d1, d2] }
  | _ => none }
def FnLinkScriptKeepsOnlyConflictEdgesWrongFalsely : Prop := fnLinkScriptKeepsOnlyConflictEdgesRow.holds Try.pinned (OpenSpec.ofChange fnLinkScriptKeepsOnlyConflictEdgesWrong)

/-- 'zzlaws_internal_check_b1.FnLinkScriptReachesEveryConflict': WHATEVER THE INPUT: true; the input reads as it did. -/
def fnLinkScriptReachesEveryConflictSpec : ChangeSpec := { name := "fnLinkScriptReachesEveryConflict", fn := fun _ => fun
  | [d1, d2] => { results := [.lit (.bool true)], args := [d1, d2] }
  | _ => none }
def fnLinkScriptReachesEveryConflictRow : OpenClaim := { program := "qxb6601799a", sum := "b328660e3b342371657f22019b927c4b1220aedbd3dc4fbb2c4110337b72ebdf", func := "example.com/seriatim/seriatim/zzlaws_internal_check_b1.FnLinkScriptReachesEveryConflict", spec := "fnLinkScriptReachesEveryConflict", apart := false }
def FnLinkScriptReachesEveryConflictSaid : Prop := fnLinkScriptReachesEveryConflictRow.holds Try.pinned (OpenSpec.ofChange fnLinkScriptReachesEveryConflictSpec)

/-- ITS FALSE NEIGHBOUR: 'it returns false'. Refute it at one input. -/
def fnLinkScriptReachesEveryConflictWrong : ChangeSpec := { name := "fnLinkScriptReachesEveryConflict", fn := fun _ => fun
  | [d1, d2] => { results := [.lit (.bool false)], args := [d1, d2] }
  | _ => none }
def FnLinkScriptReachesEveryConflictWrongFalsely : Prop := fnLinkScriptReachesEveryConflictRow.holds Try.pinned (OpenSpec.ofChange fnLinkScriptReachesEveryConflictWrong)

end Rows
end Go.Proofs.Qxb6601799a
