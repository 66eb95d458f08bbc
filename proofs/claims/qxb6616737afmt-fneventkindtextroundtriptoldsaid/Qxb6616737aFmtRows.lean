/-
  NARROWER THAN 'FOR EVERY INPUT', by the rows' own cells (each row's printed sentence says how): FnEventKindTextRoundTrip: laid.
  DERIVED. THE GIVEN ROWS OF THIS SEAT. 1 by the template 'for every input the law returns true; each argument reads behind the call as it read before'; 0 by the template 'total and deterministic' (their statements: Qxb6616737aFmtTotals.lean).
  GIVEN WITH THE SEED: the statements are not yours to turn. If you find one false, say at which input.
  Laid BY PROGRAM, IN A SANDBOX (cutbox-rows.mjs): the forced cells as the released guide's own fill.sh prints them over the translation 9b5749492721e6b7… (all of the seat's roots in one cut). By AI agents, Wed Nov 11 2026. No macro, syntax, notation, axiom, sorry.
-/
import Derived.Test.Qxb6616737aFmtChecked
import GoSem.Claim
import GoSem.ClaimJoined
import GoSem.ClaimMapViews
import Derived.JoinedTies
import Derived.KernelRfl
namespace Go.Proofs.Qxb6616737aFmt
/- THE CELL 'sum', in the pinned program and in every row, IS THE sha256 OF THE DUMP (.gsa) THAT Qxb6616737aFmtProg.lean LOADS. Nothing in Lean hashes anything: it is a label: what it is worth is what the hold of that sum in a sandbox is worth. -/
noncomputable def Tryf.pinned : Pinned := { name := "qxb6616737afmt", sum := "9b5749492721e6b78f9259451ee4b2b0c617c4a141880ad19cb9c0d50f83c374", checked := Tryf.checked }
namespace Rows
def none {H : Type} : Left H := { results := [], args := [] }

/- WHAT THE LISTED PACKAGE-LEVEL VARIABLES READ AS WHEN THE CALL BEGINS. Each datum BY PROGRAM (the guide's laid-datum.mjs) off the statement by which the dump's own 'gosem.cut.vars' lays the variable. In a bare row this is a premise. The card (Qxb6616737aFmtCards.lean) ties it to the program's text. -/
def laid_example_com_tideline_tideline_history_eventNames {H : Type} : DataW H := .agg [.lit (.string [69, 118, 101, 110, 116, 75, 105, 110, 100]), .lit (.string [101, 118, 101, 110, 116]), .slice [.lit (.string [115, 116, 111, 112]), .lit (.string [115, 116, 97, 114, 116]), .lit (.string [109, 111, 100, 101, 61, 115, 116, 97, 110, 100, 97, 114, 100]), .lit (.string [109, 111, 100, 101, 61, 117, 110, 108, 105, 109, 105, 116, 101, 100])] []]

/-- 'zzlaws_history_b1.FnEventKindTextRoundTrip': WHATEVER THE INPUT: true; the input reads as it did. -/
def fnEventKindTextRoundTripSpec : ChangeSpec := { name := "fnEventKindTextRoundTrip", vars := ["example.com/tideline/tideline/history.eventNames"], fn := fun _ => fun
  | [d1, d2, g1] => { results := [.lit (.bool true)], args := [d1, d2], vars := [g1] }
  | _ => none }
def fnEventKindTextRoundTripRow : OpenClaim := { program := "qxb6616737afmt", sum := "9b5749492721e6b78f9259451ee4b2b0c617c4a141880ad19cb9c0d50f83c374", func := "example.com/tideline/tideline/zzlaws_history_b1.FnEventKindTextRoundTrip", spec := "fnEventKindTextRoundTrip", stops := ["fmt.Sprintf", "fmt.errorf"], inPlace := ["fmt.Sprintf", "internal/abi.NoEscape", "internal/bytealg.MakeNoZero", "fmt.errorf"], named := ["example.com/tideline/tideline/history.eventNames"], apart := false, laid := [("example.com/tideline/tideline/history.eventNames", laid_example_com_tideline_tideline_history_eventNames)] }
/-- NO THEOREM (fmt's text is open here; it may be false): for the released tool's asking of the row's closed facts alone. THE STATEMENT IS 'FnEventKindTextRoundTripToldSaid' (Qxb6616737aFmtCards.lean). -/
def FnEventKindTextRoundTripFormAsk : Prop := fnEventKindTextRoundTripRow.holds Tryf.pinned (OpenSpec.ofChange fnEventKindTextRoundTripSpec)

/-- ITS FALSE NEIGHBOUR: 'it returns false'. Refute it at one input. -/
def fnEventKindTextRoundTripWrong : ChangeSpec := { name := "fnEventKindTextRoundTrip", vars := ["example.com/tideline/tideline/history.eventNames"], fn := fun _ => fun
  | [d1, d2, g1] => { results := [.lit (.bool false)], args := [d1, d2], vars := [g1] }
  | _ => none }
def FnEventKindTextRoundTripWrongFormAsk : Prop := fnEventKindTextRoundTripRow.holds Tryf.pinned (OpenSpec.ofChange fnEventKindTextRoundTripWrong)

end Rows
end Go.Proofs.Qxb6616737aFmt
