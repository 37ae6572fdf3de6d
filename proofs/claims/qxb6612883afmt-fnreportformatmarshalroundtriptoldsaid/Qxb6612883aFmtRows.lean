/-
  NARROWER THAN 'FOR EVERY INPUT', by the rows' own cells (each row's printed sentence says how): FnReportFormatMarshalRoundTrip: laid.
  DERIVED. THE GIVEN ROWS OF THIS SEAT. 1 by the template 'for every input the law returns true; each argument reads behind the call as it read before'; 0 by the template 'total and deterministic' (their statements: Qxb6612883aFmtTotals.lean).
  GIVEN WITH THE SEED: the statements are not yours to turn. If you find one false, say at which input.
  Laid BY PROGRAM, IN A SANDBOX (cutbox-rows.mjs): the forced cells as the released guide's own fill.sh prints them over the translation f4409ecae63ac113… (all of the seat's roots in one cut). By AI agents, Wed Nov 11 2026. No macro, syntax, notation, axiom, sorry.
-/
import Derived.Test.Qxb6612883aFmtChecked
import GoSem.Claim
import GoSem.ClaimJoined
import GoSem.ClaimMapViews
import Derived.JoinedTies
import Derived.KernelRfl
namespace Go.Proofs.Qxb6612883aFmt
/- THE CELL 'sum', in the pinned program and in every row, IS THE sha256 OF THE DUMP (.gsa) THAT Qxb6612883aFmtProg.lean LOADS. Nothing in Lean hashes anything: it is a label: what it is worth is what the hold of that sum in a sandbox is worth. -/
noncomputable def Tryf.pinned : Pinned := { name := "qxb6612883afmt", sum := "f4409ecae63ac113292370888287402ad3d7d8541b294632588b1e3d370ef3d3", checked := Tryf.checked }
namespace Rows
def none {H : Type} : Left H := { results := [], args := [] }

/- WHAT THE LISTED PACKAGE-LEVEL VARIABLES READ AS WHEN THE CALL BEGINS. Each datum BY PROGRAM (the guide's laid-datum.mjs) off the statement by which the dump's own 'gosem.cut.vars' lays the variable. In a bare row this is a premise. The card (Qxb6612883aFmtCards.lean) ties it to the program's text. -/
def laid_example_com_proviso_proviso_internal_core_reportFormatNames {H : Type} : DataW H := .agg [.lit (.string [116, 101, 120, 116]), .lit (.string [106, 115, 111, 110])]

/-- 'zzlaws_internal_core_b1.FnReportFormatMarshalRoundTrip': WHATEVER THE INPUT: true; the input reads as it did. -/
def fnReportFormatMarshalRoundTripSpec : ChangeSpec := { name := "fnReportFormatMarshalRoundTrip", vars := ["example.com/proviso/proviso/internal/core.reportFormatNames"], fn := fun _ => fun
  | [d, g1] => { results := [.lit (.bool true)], args := [d], vars := [g1] }
  | _ => none }
def fnReportFormatMarshalRoundTripRow : OpenClaim := { program := "qxb6612883afmt", sum := "f4409ecae63ac113292370888287402ad3d7d8541b294632588b1e3d370ef3d3", func := "example.com/proviso/proviso/zzlaws_internal_core_b1.FnReportFormatMarshalRoundTrip", spec := "fnReportFormatMarshalRoundTrip", stops := ["fmt.errorf"], inPlace := ["internal/abi.NoEscape", "internal/bytealg.MakeNoZero", "fmt.errorf"], named := ["example.com/proviso/proviso/internal/core.reportFormatNames"], apart := false, laid := [("example.com/proviso/proviso/internal/core.reportFormatNames", laid_example_com_proviso_proviso_internal_core_reportFormatNames)] }
/-- NO THEOREM (fmt's text is open here; it may be false): for the released tool's asking of the row's closed facts alone. THE STATEMENT IS 'FnReportFormatMarshalRoundTripToldSaid' (Qxb6612883aFmtCards.lean). -/
def FnReportFormatMarshalRoundTripFormAsk : Prop := fnReportFormatMarshalRoundTripRow.holds Tryf.pinned (OpenSpec.ofChange fnReportFormatMarshalRoundTripSpec)

/-- ITS FALSE NEIGHBOUR: 'it returns false'. Refute it at one input. -/
def fnReportFormatMarshalRoundTripWrong : ChangeSpec := { name := "fnReportFormatMarshalRoundTrip", vars := ["example.com/proviso/proviso/internal/core.reportFormatNames"], fn := fun _ => fun
  | [d, g1] => { results := [.lit (.bool false)], args := [d], vars := [g1] }
  | _ => none }
def FnReportFormatMarshalRoundTripWrongFormAsk : Prop := fnReportFormatMarshalRoundTripRow.holds Tryf.pinned (OpenSpec.ofChange fnReportFormatMarshalRoundTripWrong)

end Rows
end Go.Proofs.Qxb6612883aFmt
