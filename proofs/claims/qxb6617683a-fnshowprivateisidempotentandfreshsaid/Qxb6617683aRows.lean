/-
  No cell of these rows narrows 'for every input' (looked for: loops, veiled, ifaces, maps, wideKeys, modest, calm, conditions, laid).
  DERIVED. THE GIVEN ROWS OF THIS SEAT. 2 by the template 'for every input the law returns true; each argument reads behind the call as it read before'; 0 by the template 'total and deterministic' (their statements: Qxb6617683aTotals.lean).
  GIVEN WITH THE SEED: the statements are not yours to turn. If you find one false, say at which input.
  Laid BY PROGRAM, IN A SANDBOX (cutbox-rows.mjs): the forced cells as the released guide's own fill.sh prints them over the translation d43b1bfec7a05b17… (all of the seat's roots in one cut). By AI agents, Wed Nov 11 2026. No macro, syntax, notation, axiom, sorry.
-/
import Derived.Test.Qxb6617683aChecked
import GoSem.Claim
import GoSem.ClaimJoined
import GoSem.ClaimMapViews
import Derived.JoinedTies
import Derived.KernelRfl
namespace Go.Proofs.Qxb6617683a
/- THE CELL 'sum', in the pinned program and in every row, IS THE sha256 OF THE DUMP (.gsa) THAT Qxb6617683aProg.lean LOADS. Nothing in Lean hashes anything: it is a label: what it is worth is what the hold of that sum in a sandbox is worth. -/
noncomputable def Try.pinned : Pinned := { name := "qxb6617683a", sum := "d43b1bfec7a05b1766852843ed3065e70a547f9a8b7c758f38736f9fdcd055fd", checked := Try.checked }
namespace Rows
def none {H : Type} : Left H := { results := [], args := [] }

/-- 'zzlaws_root_b1.FnShowPrivateSplitsAtAnyCut': WHATEVER THE INPUT: true; the input reads as it did. -/
def fnShowPrivateSplitsAtAnyCutSpec : ChangeSpec := { name := "fnShowPrivateSplitsAtAnyCut", fn := fun _ => fun
  | [d1, d2] => { results := [.lit (.bool true)], args := [d1, d2] }
  | _ => none }
def fnShowPrivateSplitsAtAnyCutRow : OpenClaim := { program := "qxb6617683a", sum := "d43b1bfec7a05b1766852843ed3065e70a547f9a8b7c758f38736f9fdcd055fd", func := "example.com/blobwright/blobwright/zzlaws_root_b1.FnShowPrivateSplitsAtAnyCut", spec := "fnShowPrivateSplitsAtAnyCut", apart := false }
def FnShowPrivateSplitsAtAnyCutSaid : Prop := fnShowPrivateSplitsAtAnyCutRow.holds Try.pinned (OpenSpec.ofChange fnShowPrivateSplitsAtAnyCutSpec)

/-- ITS FALSE NEIGHBOUR: 'it returns false'. Refute it at one input. -/
def fnShowPrivateSplitsAtAnyCutWrong : ChangeSpec := { name := "fnShowPrivateSplitsAtAnyCut", fn := fun _ => fun
  | [d1, d2] => { results := [.lit (.bool false)], args := [d1, d2] }
  | _ => none }
def FnShowPrivateSplitsAtAnyCutWrongFalsely : Prop := fnShowPrivateSplitsAtAnyCutRow.holds Try.pinned (OpenSpec.ofChange fnShowPrivateSplitsAtAnyCutWrong)

/-- 'zzlaws_root_b1.FnShowPrivateIsIdempotentAndFresh': WHATEVER THE INPUT: true; the input reads as it did. -/
def fnShowPrivateIsIdempotentAndFreshSpec : ChangeSpec := { name := "fnShowPrivateIsIdempotentAndFresh", fn := fun _ => fun
  | [d1, d2] => { results := [.lit (.bool true)], args := [d1, d2] }
  | _ => none }
def fnShowPrivateIsIdempotentAndFreshRow : OpenClaim := { program := "qxb6617683a", sum := "d43b1bfec7a05b1766852843ed3065e70a547f9a8b7c758f38736f9fdcd055fd", func := "example.com/blobwright/blobwright/zzlaws_root_b1.FnShowPrivateIsIdempotentAndFresh", spec := "fnShowPrivateIsIdempotentAndFresh", apart := false }
def FnShowPrivateIsIdempotentAndFreshSaid : Prop := fnShowPrivateIsIdempotentAndFreshRow.holds Try.pinned (OpenSpec.ofChange fnShowPrivateIsIdempotentAndFreshSpec)

/-- ITS FALSE NEIGHBOUR: 'it returns false'. Refute it at one input. -/
def fnShowPrivateIsIdempotentAndFreshWrong : ChangeSpec := { name := "fnShowPrivateIsIdempotentAndFresh", fn := fun _ => fun
  | [d1, d2] => { results := [.lit (.bool false)], args := [d1, d2] }
  | _ => none }
def FnShowPrivateIsIdempotentAndFreshWrongFalsely : Prop := fnShowPrivateIsIdempotentAndFreshRow.holds Try.pinned (OpenSpec.ofChange fnShowPrivateIsIdempotentAndFreshWrong)

end Rows
end Go.Proofs.Qxb6617683a
