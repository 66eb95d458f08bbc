/-
  No cell of these rows narrows 'for every input' (looked for: loops, veiled, ifaces, maps, wideKeys, modest, calm, conditions, laid).
  DERIVED. THE GIVEN ROWS OF THIS SEAT. 1 by the template 'for every input the law returns true; each argument reads behind the call as it read before'; 0 by the template 'total and deterministic' (their statements: Qxb6617693aTotals.lean).
  GIVEN WITH THE SEED: the statements are not yours to turn. If you find one false, say at which input.
  Laid BY PROGRAM, IN A SANDBOX (cutbox-rows.mjs): the forced cells as the released guide's own fill.sh prints them over the translation 3c267a40e094b2b8… (all of the seat's roots in one cut). By AI agents, Wed Nov 11 2026. No macro, syntax, notation, axiom, sorry.
-/
import Derived.Test.Qxb6617693aChecked
import GoSem.Claim
import GoSem.ClaimJoined
import GoSem.ClaimMapViews
import Derived.JoinedTies
import Derived.KernelRfl
namespace Go.Proofs.Qxb6617693a
/- THE CELL 'sum', in the pinned program and in every row, IS THE sha256 OF THE DUMP (.gsa) THAT Qxb6617693aProg.lean LOADS. Nothing in Lean hashes anything: it is a label: what it is worth is what the hold of that sum in a sandbox is worth. -/
noncomputable def Try.pinned : Pinned := { name := "qxb6617693a", sum := "3c267a40e094b2b84fba1bda1ef7d2c2f3f86f9169d811a90ea3b2a34dc0a809", checked := Try.checked }
namespace Rows
def none {H : Type} : Left H := { results := [], args := [] }

/-- 'zzlaws_internal_stored_b1.FnRoundStepsPatchesOnlyLastAtItsLatest': WHATEVER THE INPUT: true; the input reads as it did. -/
def fnRoundStepsPatchesOnlyLastAtItsLatestSpec : ChangeSpec := { name := "fnRoundStepsPatchesOnlyLastAtItsLatest", fn := fun _ => fun
  | [d1, d2, d3, d4, d5, d6, d7] => { results := [.lit (.bool true)], args := [d1, d2, d3, d4, d5, d6, d7] }
  | _ => none }
def fnRoundStepsPatchesOnlyLastAtItsLatestRow : OpenClaim := { program := "qxb6617693a", sum := "3c267a40e094b2b84fba1bda1ef7d2c2f3f86f9169d811a90ea3b2a34dc0a809", func := "example.com/resumable-workflow-engine/resumable-workflow-engine/zzlaws_internal_stored_b1.FnRoundStepsPatchesOnlyLastAtItsLatest", spec := "fnRoundStepsPatchesOnlyLastAtItsLatest", apart := false }
def FnRoundStepsPatchesOnlyLastAtItsLatestSaid : Prop := fnRoundStepsPatchesOnlyLastAtItsLatestRow.holds Try.pinned (OpenSpec.ofChange fnRoundStepsPatchesOnlyLastAtItsLatestSpec)

/-- ITS FALSE NEIGHBOUR: 'it returns false'. Refute it at one input. -/
def fnRoundStepsPatchesOnlyLastAtItsLatestWrong : ChangeSpec := { name := "fnRoundStepsPatchesOnlyLastAtItsLatest", fn := fun _ => fun
  | [d1, d2, d3, d4, d5, d6, d7] => { results := [.lit (.bool false)], args := [d1, d2, d3, d4, d5, d6, d7] }
  | _ => none }
def FnRoundStepsPatchesOnlyLastAtItsLatestWrongFalsely : Prop := fnRoundStepsPatchesOnlyLastAtItsLatestRow.holds Try.pinned (OpenSpec.ofChange fnRoundStepsPatchesOnlyLastAtItsLatestWrong)

end Rows
end Go.Proofs.Qxb6617693a
