/-
  No cell of these rows narrows 'for every input' (looked for: loops, veiled, ifaces, maps, wideKeys, modest, calm, conditions, laid).
  DERIVED. THE GIVEN ROWS OF THIS SEAT. 2 by the template 'for every input the law returns true; each argument reads behind the call as it read before'; 0 by the template 'total and deterministic' (their statements: Qxb6612807aTotals.lean).
  GIVEN WITH THE SEED: the statements are not yours to turn. If you find one false, say at which input.
  Laid BY PROGRAM, IN A SANDBOX (cutbox-rows.mjs): the forced cells as the released guide's own fill.sh prints them over the translation 9056c58aafea34c5… (all of the seat's roots in one cut). By AI agents, Wed Nov 11 2026. No macro, syntax, notation, axiom, sorry.
-/
import Derived.Test.Qxb6612807aChecked
import GoSem.Claim
import GoSem.ClaimJoined
import GoSem.ClaimMapViews
import Derived.JoinedTies
import Derived.KernelRfl
namespace Go.Proofs.Qxb6612807a
/- THE CELL 'sum', in the pinned program and in every row, IS THE sha256 OF THE DUMP (.gsa) THAT Qxb6612807aProg.lean LOADS. Nothing in Lean hashes anything: it is a label: what it is worth is what the hold of that sum in a sandbox is worth. -/
noncomputable def Try.pinned : Pinned := { name := "qxb6612807a", sum := "9056c58aafea34c59e34c2e93e95742c1c4f47fa4aa8669252e5fc85235a7a12", checked := Try.checked }
namespace Rows
def none {H : Type} : Left H := { results := [], args := [] }

/-- 'zzlaws_pkg_registry_b1.FnAnswerOfferDecidedByTheFirstRow': WHATEVER THE INPUT: true; the input reads as it did. -/
def fnAnswerOfferDecidedByTheFirstRowSpec : ChangeSpec := { name := "fnAnswerOfferDecidedByTheFirstRow", fn := fun _ => fun
  | [d1, d2] => { results := [.lit (.bool true)], args := [d1, d2] }
  | _ => none }
def fnAnswerOfferDecidedByTheFirstRowRow : OpenClaim := { program := "qxb6612807a", sum := "9056c58aafea34c59e34c2e93e95742c1c4f47fa4aa8669252e5fc85235a7a12", func := "example.com/zhaomu/zhaomu/zzlaws_pkg_registry_b1.FnAnswerOfferDecidedByTheFirstRow", spec := "fnAnswerOfferDecidedByTheFirstRow", apart := false }
def FnAnswerOfferDecidedByTheFirstRowSaid : Prop := fnAnswerOfferDecidedByTheFirstRowRow.holds Try.pinned (OpenSpec.ofChange fnAnswerOfferDecidedByTheFirstRowSpec)

/-- ITS FALSE NEIGHBOUR: 'it returns false'. Refute it at one input. -/
def fnAnswerOfferDecidedByTheFirstRowWrong : ChangeSpec := { name := "fnAnswerOfferDecidedByTheFirstRow", fn := fun _ => fun
  | [d1, d2] => { results := [.lit (.bool false)], args := [d1, d2] }
  | _ => none }
def FnAnswerOfferDecidedByTheFirstRowWrongFalsely : Prop := fnAnswerOfferDecidedByTheFirstRowRow.holds Try.pinned (OpenSpec.ofChange fnAnswerOfferDecidedByTheFirstRowWrong)

/-- 'zzlaws_pkg_registry_b1.FnAnswerOfferAgreesWithEveryRowOfAOneKindFile': WHATEVER THE INPUT: true; the input reads as it did. -/
def fnAnswerOfferAgreesWithEveryRowOfAOneKindFileSpec : ChangeSpec := { name := "fnAnswerOfferAgreesWithEveryRowOfAOneKindFile", fn := fun _ => fun
  | [d] => { results := [.lit (.bool true)], args := [d] }
  | _ => none }
def fnAnswerOfferAgreesWithEveryRowOfAOneKindFileRow : OpenClaim := { program := "qxb6612807a", sum := "9056c58aafea34c59e34c2e93e95742c1c4f47fa4aa8669252e5fc85235a7a12", func := "example.com/zhaomu/zhaomu/zzlaws_pkg_registry_b1.FnAnswerOfferAgreesWithEveryRowOfAOneKindFile", spec := "fnAnswerOfferAgreesWithEveryRowOfAOneKindFile", apart := false }
def FnAnswerOfferAgreesWithEveryRowOfAOneKindFileSaid : Prop := fnAnswerOfferAgreesWithEveryRowOfAOneKindFileRow.holds Try.pinned (OpenSpec.ofChange fnAnswerOfferAgreesWithEveryRowOfAOneKindFileSpec)

/-- ITS FALSE NEIGHBOUR: 'it returns false'. Refute it at one input. -/
def fnAnswerOfferAgreesWithEveryRowOfAOneKindFileWrong : ChangeSpec := { name := "fnAnswerOfferAgreesWithEveryRowOfAOneKindFile", fn := fun _ => fun
  | [d] => { results := [.lit (.bool false)], args := [d] }
  | _ => none }
def FnAnswerOfferAgreesWithEveryRowOfAOneKindFileWrongFalsely : Prop := fnAnswerOfferAgreesWithEveryRowOfAOneKindFileRow.holds Try.pinned (OpenSpec.ofChange fnAnswerOfferAgreesWithEveryRowOfAOneKindFileWrong)

end Rows
end Go.Proofs.Qxb6612807a
