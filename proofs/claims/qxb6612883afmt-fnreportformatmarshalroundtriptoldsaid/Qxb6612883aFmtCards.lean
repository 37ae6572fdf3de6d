/-
  DERIVED. GIVEN WITH THE SEED: THE CARDS: each row of Qxb6612883aFmtRows.lean that lists a variable, with what it lists TIED to the program's text (the seventh form; the later family's looks); each row that meets fmt, with fmt's text TOLD by the authors' own Lean function (tested against real Go, not proved from fmt's source: count such statements apart). THE CARD IS WHAT COUNTS. Prove the row's statement (the work); the ties are given (Qxb6612883aFmtTie.lean); close each card by the builder's one call (the guide's Derived/Test/ToyasCard.lean, 'card_holds'). Laid BY PROGRAM, IN A SANDBOX (cutbox-door.mjs). By AI agents, Wed Nov 11 2026. No macro, syntax, notation, axiom, sorry.
-/
import Derived.Test.Qxb6612883aFmtRows
import GoSem.ClaimSeven
namespace Go.Proofs.Qxb6612883aFmt
namespace Rows

/-- THE TOLD AND TIED CARD OF 'zzlaws_internal_core_b1.FnReportFormatMarshalRoundTrip'. -/
def fnReportFormatMarshalRoundTripCard : Claim7 := { stood := { row := fnReportFormatMarshalRoundTripRow, standIns := [], harness := (true, "b8847c3444e4f043ad60c2e533cda22f8f0b9a16df3354ffbbec58d3a5edbabf"), looks := false }, told := true, laidByText := true, laidKinds := [.widerDeep], laidTests := true, laidLooks := .later, goes := false }
def FnReportFormatMarshalRoundTripToldSaid : Prop := Claim7.holds Tryf.pinned (.plain (OpenSpec.ofChange fnReportFormatMarshalRoundTripSpec)) fnReportFormatMarshalRoundTripCard
/-- ITS FALSE NEIGHBOUR. Refute it at one input. -/
def FnReportFormatMarshalRoundTripToldWrongFalsely : Prop := Claim7.holds Tryf.pinned (.plain (OpenSpec.ofChange fnReportFormatMarshalRoundTripWrong)) fnReportFormatMarshalRoundTripCard
end Rows
end Go.Proofs.Qxb6612883aFmt
