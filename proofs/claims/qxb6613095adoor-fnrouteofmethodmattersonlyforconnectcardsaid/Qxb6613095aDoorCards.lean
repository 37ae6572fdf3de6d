/-
  DERIVED. GIVEN WITH THE SEED: THE CARDS: each row of Qxb6613095aDoorRows.lean that lists a variable, with what it lists TIED to the program's text (the seventh form; the later family's looks); each row that meets fmt, with fmt's text TOLD by the authors' own Lean function (tested against real Go, not proved from fmt's source: count such statements apart). THE CARD IS WHAT COUNTS. Prove the row's statement (the work); the ties are given (Qxb6613095aDoorTie.lean); close each card by the builder's one call (the guide's Derived/Test/ToyasCard.lean, 'card_holds'). Laid BY PROGRAM, IN A SANDBOX (cutbox-door.mjs). By AI agents, Wed Nov 11 2026. No macro, syntax, notation, axiom, sorry.
-/
import Derived.Test.Qxb6613095aDoorRows
import GoSem.ClaimSeven
namespace Go.Proofs.Qxb6613095aDoor
namespace Rows

/-- THE TIED CARD OF 'zzlaws_root_b1.FnRouteOfMethodMattersOnlyForConnect'. -/
def fnRouteOfMethodMattersOnlyForConnectCard : Claim7 := { stood := { row := fnRouteOfMethodMattersOnlyForConnectRow, standIns := [], harness := (true, "a537f0b46003c4a3fdc80fa4df5faccaa711aaff9c755cf6138d392e7fcd0103"), looks := false }, kinds := [], alts := [], laidByText := true, laidKinds := [.data], laidTests := true, laidLooks := .later }
def FnRouteOfMethodMattersOnlyForConnectCardSaid : Prop := Claim7.holds Tryd.pinned (.plain (OpenSpec.ofChange fnRouteOfMethodMattersOnlyForConnectSpec)) fnRouteOfMethodMattersOnlyForConnectCard

/-- THE TIED CARD OF 'zzlaws_root_b1.FnTraceParentFromMatchesW3CAndJoinedFields'. -/
def fnTraceParentFromMatchesW3CAndJoinedFieldsCard : Claim7 := { stood := { row := fnTraceParentFromMatchesW3CAndJoinedFieldsRow, standIns := [], harness := (true, "a537f0b46003c4a3fdc80fa4df5faccaa711aaff9c755cf6138d392e7fcd0103"), looks := false }, kinds := [], alts := [], laidByText := true, laidKinds := [.data, .pinned], laidTests := true, laidLooks := .later }
def FnTraceParentFromMatchesW3CAndJoinedFieldsCardSaid : Prop := Claim7.holds Tryd.pinned (.plain (OpenSpec.ofChange fnTraceParentFromMatchesW3CAndJoinedFieldsSpec)) fnTraceParentFromMatchesW3CAndJoinedFieldsCard

/-- THE TIED CARD OF 'zzlaws_root_b1.FnTraceParentFromRefusesDuplicatesAndKeepsItsState'. -/
def fnTraceParentFromRefusesDuplicatesAndKeepsItsStateCard : Claim7 := { stood := { row := fnTraceParentFromRefusesDuplicatesAndKeepsItsStateRow, standIns := [], harness := (true, "a537f0b46003c4a3fdc80fa4df5faccaa711aaff9c755cf6138d392e7fcd0103"), looks := false }, kinds := [], alts := [], laidByText := true, laidKinds := [.data, .pinned], laidTests := true, laidLooks := .later }
def FnTraceParentFromRefusesDuplicatesAndKeepsItsStateCardSaid : Prop := Claim7.holds Tryd.pinned (.plain (OpenSpec.ofChange fnTraceParentFromRefusesDuplicatesAndKeepsItsStateSpec)) fnTraceParentFromRefusesDuplicatesAndKeepsItsStateCard
end Rows
end Go.Proofs.Qxb6613095aDoor
