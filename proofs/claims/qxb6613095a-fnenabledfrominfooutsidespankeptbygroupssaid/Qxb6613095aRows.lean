/-
  No cell of these rows narrows 'for every input' (looked for: loops, veiled, ifaces, maps, wideKeys, modest, calm, conditions, laid).
  DERIVED. THE GIVEN ROWS OF THIS SEAT. 1 by the template 'for every input the law returns true; each argument reads behind the call as it read before'; 0 by the template 'total and deterministic' (their statements: Qxb6613095aTotals.lean).
  GIVEN WITH THE SEED: the statements are not yours to turn. If you find one false, say at which input.
  Laid BY PROGRAM, IN A SANDBOX (cutbox-rows.mjs): the forced cells as the released guide's own fill.sh prints them over the translation ea626a4031e5b04f… (all of the seat's roots in one cut). By AI agents, Wed Nov 11 2026. No macro, syntax, notation, axiom, sorry.
-/
import Derived.Test.Qxb6613095aChecked
import GoSem.Claim
import GoSem.ClaimJoined
import GoSem.ClaimMapViews
import Derived.JoinedTies
import Derived.KernelRfl
namespace Go.Proofs.Qxb6613095a
/- THE CELL 'sum', in the pinned program and in every row, IS THE sha256 OF THE DUMP (.gsa) THAT Qxb6613095aProg.lean LOADS. Nothing in Lean hashes anything: it is a label: what it is worth is what the hold of that sum in a sandbox is worth. -/
noncomputable def Try.pinned : Pinned := { name := "qxb6613095a", sum := "ea626a4031e5b04ff78a367c43ecb0d5a055db3c2fa57d5a32c58cc8939eaceb", checked := Try.checked }
namespace Rows
def none {H : Type} : Left H := { results := [], args := [] }

/-- 'zzlaws_root_b1.FnEnabledFromInfoOutsideSpanKeptByGroups': WHATEVER THE INPUT: true; the input reads as it did. -/
def fnEnabledFromInfoOutsideSpanKeptByGroupsSpec : ChangeSpec := { name := "fnEnabledFromInfoOutsideSpanKeptByGroups", fn := fun _ => fun
  | [d1, d2] => { results := [.lit (.bool true)], args := [d1, d2] }
  | _ => none }
def fnEnabledFromInfoOutsideSpanKeptByGroupsRow : OpenClaim := { program := "qxb6613095a", sum := "ea626a4031e5b04ff78a367c43ecb0d5a055db3c2fa57d5a32c58cc8939eaceb", func := "example.com/lucentspan/lucentspan/zzlaws_root_b1.FnEnabledFromInfoOutsideSpanKeptByGroups", spec := "fnEnabledFromInfoOutsideSpanKeptByGroups", unfollowed := true, recurses := true, apart := false }
def FnEnabledFromInfoOutsideSpanKeptByGroupsSaid : Prop := fnEnabledFromInfoOutsideSpanKeptByGroupsRow.holds Try.pinned (OpenSpec.ofChange fnEnabledFromInfoOutsideSpanKeptByGroupsSpec)

/-- ITS FALSE NEIGHBOUR: 'it returns false'. Refute it at one input. -/
def fnEnabledFromInfoOutsideSpanKeptByGroupsWrong : ChangeSpec := { name := "fnEnabledFromInfoOutsideSpanKeptByGroups", fn := fun _ => fun
  | [d1, d2] => { results := [.lit (.bool false)], args := [d1, d2] }
  | _ => none }
def FnEnabledFromInfoOutsideSpanKeptByGroupsWrongFalsely : Prop := fnEnabledFromInfoOutsideSpanKeptByGroupsRow.holds Try.pinned (OpenSpec.ofChange fnEnabledFromInfoOutsideSpanKeptByGroupsWrong)

end Rows
end Go.Proofs.Qxb6613095a
