/-
  No cell of these rows narrows 'for every input' (looked for: loops, veiled, ifaces, maps, wideKeys, modest, calm, conditions, laid).
  DERIVED. THE GIVEN ROWS OF THIS SEAT. 2 by the template 'for every input the law returns true; each argument reads behind the call as it read before'; 0 by the template 'total and deterministic' (their statements: Qxb6613457aTotals.lean).
  GIVEN WITH THE SEED: the statements are not yours to turn. If you find one false, say at which input.
  Laid BY PROGRAM, IN A SANDBOX (cutbox-rows.mjs): the forced cells as the released guide's own fill.sh prints them over the translation 3d50d76e4046388e… (all of the seat's roots in one cut). By AI agents, Wed Nov 11 2026. No macro, syntax, notation, axiom, sorry.
-/
import Derived.Test.Qxb6613457aChecked
import GoSem.Claim
import GoSem.ClaimJoined
import GoSem.ClaimMapViews
import Derived.JoinedTies
import Derived.KernelRfl
namespace Go.Proofs.Qxb6613457a
/- THE CELL 'sum', in the pinned program and in every row, IS THE sha256 OF THE DUMP (.gsa) THAT Qxb6613457aProg.lean LOADS. Nothing in Lean hashes anything: it is a label: what it is worth is what the hold of that sum in a sandbox is worth. -/
noncomputable def Try.pinned : Pinned := { name := "qxb6613457a", sum := "3d50d76e4046388eb24dcc797f4d63240aa8f4e36e1ce819bd99150ca8790fa4", checked := Try.checked }
namespace Rows
def none {H : Type} : Left H := { results := [], args := [] }

/-- 'zzlaws_root_b1.FnRequestValuesMatchAssociationModel': WHATEVER THE INPUT: true; the input reads as it did. -/
def fnRequestValuesMatchAssociationModelSpec : ChangeSpec := { name := "fnRequestValuesMatchAssociationModel", fn := fun _ => fun
  | [d] => { results := [.lit (.bool true)], args := [d] }
  | _ => none }
def fnRequestValuesMatchAssociationModelRow : OpenClaim := { program := "qxb6613457a", sum := "3d50d76e4046388eb24dcc797f4d63240aa8f4e36e1ce819bd99150ca8790fa4", func := "example.com/orb-weaver/orb-weaver/zzlaws_root_b1.FnRequestValuesMatchAssociationModel", spec := "fnRequestValuesMatchAssociationModel", apart := false }
def FnRequestValuesMatchAssociationModelSaid : Prop := fnRequestValuesMatchAssociationModelRow.holds Try.pinned (OpenSpec.ofChange fnRequestValuesMatchAssociationModelSpec)

/-- ITS FALSE NEIGHBOUR: 'it returns false'. Refute it at one input. -/
def fnRequestValuesMatchAssociationModelWrong : ChangeSpec := { name := "fnRequestValuesMatchAssociationModel", fn := fun _ => fun
  | [d] => { results := [.lit (.bool false)], args := [d] }
  | _ => none }
def FnRequestValuesMatchAssociationModelWrongFalsely : Prop := fnRequestValuesMatchAssociationModelRow.holds Try.pinned (OpenSpec.ofChange fnRequestValuesMatchAssociationModelWrong)

/-- 'zzlaws_root_b1.FnRequestValuesSetMovesNoKey': WHATEVER THE INPUT: true; the input reads as it did. -/
def fnRequestValuesSetMovesNoKeySpec : ChangeSpec := { name := "fnRequestValuesSetMovesNoKey", fn := fun _ => fun
  | [d1, d2, d3] => { results := [.lit (.bool true)], args := [d1, d2, d3] }
  | _ => none }
def fnRequestValuesSetMovesNoKeyRow : OpenClaim := { program := "qxb6613457a", sum := "3d50d76e4046388eb24dcc797f4d63240aa8f4e36e1ce819bd99150ca8790fa4", func := "example.com/orb-weaver/orb-weaver/zzlaws_root_b1.FnRequestValuesSetMovesNoKey", spec := "fnRequestValuesSetMovesNoKey", apart := false }
def FnRequestValuesSetMovesNoKeySaid : Prop := fnRequestValuesSetMovesNoKeyRow.holds Try.pinned (OpenSpec.ofChange fnRequestValuesSetMovesNoKeySpec)

/-- ITS FALSE NEIGHBOUR: 'it returns false'. Refute it at one input. -/
def fnRequestValuesSetMovesNoKeyWrong : ChangeSpec := { name := "fnRequestValuesSetMovesNoKey", fn := fun _ => fun
  | [d1, d2, d3] => { results := [.lit (.bool false)], args := [d1, d2, d3] }
  | _ => none }
def FnRequestValuesSetMovesNoKeyWrongFalsely : Prop := fnRequestValuesSetMovesNoKeyRow.holds Try.pinned (OpenSpec.ofChange fnRequestValuesSetMovesNoKeyWrong)

end Rows
end Go.Proofs.Qxb6613457a
