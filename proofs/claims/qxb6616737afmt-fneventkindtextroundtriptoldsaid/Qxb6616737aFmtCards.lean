/-
  DERIVED. GIVEN WITH THE SEED: THE CARDS: each row of Qxb6616737aFmtRows.lean that lists a variable, with what it lists TIED to the program's text (the seventh form; the later family's looks); each row that meets fmt, with fmt's text TOLD by the authors' own Lean function (tested against real Go, not proved from fmt's source: count such statements apart). THE CARD IS WHAT COUNTS. Prove the row's statement (the work); the ties are given (Qxb6616737aFmtTie.lean); close each card by the builder's one call (the guide's Derived/Test/ToyasCard.lean, 'card_holds'). Laid BY PROGRAM, IN A SANDBOX (cutbox-door.mjs). By AI agents, Wed Nov 11 2026. No macro, syntax, notation, axiom, sorry.
-/
import Derived.Test.Qxb6616737aFmtRows
import GoSem.ClaimSeven
namespace Go.Proofs.Qxb6616737aFmt
namespace Rows

/-- THE TOLD AND TIED CARD OF 'zzlaws_history_b1.FnEventKindTextRoundTrip'. -/
def fnEventKindTextRoundTripCard : Claim7 := { stood := { row := fnEventKindTextRoundTripRow, standIns := [], harness := (true, "551dc224e3e4cabe4e4be3a1f131a05c31c68d6d470f90fee6c81264725e7e14"), looks := false }, told := true, laidByText := true, laidKinds := [.widerDeep], laidTests := true, laidLooks := .later, goes := false }
def FnEventKindTextRoundTripToldSaid : Prop := Claim7.holds Tryf.pinned (.plain (OpenSpec.ofChange fnEventKindTextRoundTripSpec)) fnEventKindTextRoundTripCard
/-- ITS FALSE NEIGHBOUR. Refute it at one input. -/
def FnEventKindTextRoundTripToldWrongFalsely : Prop := Claim7.holds Tryf.pinned (.plain (OpenSpec.ofChange fnEventKindTextRoundTripWrong)) fnEventKindTextRoundTripCard
end Rows
end Go.Proofs.Qxb6616737aFmt
