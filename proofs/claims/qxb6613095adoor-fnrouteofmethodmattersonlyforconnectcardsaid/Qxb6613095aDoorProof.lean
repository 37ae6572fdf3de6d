import Derived.Test.Qxb6613095aDoorRows
import Derived.Test.Qxb6613095aDoorTie
import Derived.Test.Qxb6613095aDoorCards
import Derived.Test.Qxb6613095aDoorLaw
import Derived.ProofKit
import Derived.LaidMore
import Derived.OpenShut
import Derived.ShutString
import Derived.Stop.Joined
import Derived.Lib.LaidTab
namespace Go.Proofs.Qxb6613095aDoor
open Go.ChangeShapes Go.WideShapes Go.ChangeAt Go.RowKit
open Go.ChangeMaps (open_string shut_string)
set_option linter.unusedVariables false

theorem own : ownKnob Tryd.prog.godebug = none := by kernel_rfl

/-- The table's name and its numbers, as the row lists them. -/
def nmTab : String := (Rows.fnRouteOfMethodMattersOnlyForConnectRow.laid.headD ("", .nil)).1
def numOf : DataW Unit → Int | .lit (.int _ n) => n | _ => 0
def tb : List Int := match (Rows.laid_net_url_table : DataW Unit) with | .agg l => l.map numOf | _ => []

theorem tb_laid : Rows.fnRouteOfMethodMattersOnlyForConnectRow.laid = [(nmTab, Lib.tabData .u8 tb)] := by kernel_rfl
theorem tb_len : tb.length = 256 := by kernel_rfl
theorem gTab : Tryd.prog.globalNamed nmTab = some 0 := by kernel_rfl
theorem tTab : (Tryd.prog.globals[0]?).map (·.type) = some 110 := by kernel_rfl
theorem tb_47 : se (fun i => tb.getD i 0) 47 = false := by decide +kernel

theorem of_laid {W : World} (h : laidMetH Tryd.prog Rows.fnRouteOfMethodMattersOnlyForConnectRow.laid W) : Tab (fun i => tb.getD i 0) W ∧ 0 < W.heap.size := by
  rw [MakeChecks.laidMetH_plain _ _ _ (by kernel_rfl), tb_laid] at h
  have hT := Lib.tabIs_of_head gTab tTab Tryd.underlying110 Tryd.underlying69 (by kernel_rfl) (by kernel_rfl) h
  have hc : ∀ i, i < 256 → W.cell? ⟨0, i, none⟩ = some (.int .u8 (tb.getD i 0)) := fun i hi => by
    have hi' : i < tb.length := by rw [tb_len]; exact hi
    have := World.var?_cell gTab hT i
    rw [this]
    simp [hi']
  exact ⟨hc, block_lt_of_cell (hc 0 (by omega))⟩

/-- The door's own heap meets the condition. -/
theorem door_met (os : Os) (args : Array Value) : laidMetH Tryd.prog Rows.fnRouteOfMethodMattersOnlyForConnectRow.laid ((World.doorLaid Tryd.prog 24 os).forCall (fun _ _ => 0) ⟨#[], args, []⟩).memory :=
  laidMetH_of_parts3 (fuel := 8) (laidMet_of_run' 8 (by kernel_rfl) (by kernel_rfl)) (by kernel_rfl) (by kernel_rfl)

set_option maxRecDepth 100000 in
theorem lifted (os : Os) (started : os.Started) (H : Type) (enc : TypeId × Value → H) :
    ReturnsInHanded {} Tryd.checked os 3 .any (fun w args => (Rows.fnRouteOfMethodMattersOnlyForConnectSpec.pre enc Tryd.prog Tryd.f3 [] false w args ∧ laidMetH Tryd.prog Rows.fnRouteOfMethodMattersOnlyForConnectRow.laid w) ∧ sizedMet enc Tryd.prog Tryd.f3 (OpenSpec.ofChange Rows.fnRouteOfMethodMattersOnlyForConnectSpec) false w args)
      (Rows.fnRouteOfMethodMattersOnlyForConnectSpec.post enc Tryd.prog Tryd.f3 false true false false) := by
  refine returnsInHanded_of_change_and (C := Tryd.checked) (X := fun w _ => laidMetH Tryd.prog Rows.fnRouteOfMethodMattersOnlyForConnectRow.laid w) (fun _ _ _ hh h => h.of_heap hh) own started (by kernel_rfl) Tryd.func3
    (ChangeSpec.witness_shaped (enc := enc) (C := Tryd.checked) (os := os) (X := fun w _ => laidMetH Tryd.prog Rows.fnRouteOfMethodMattersOnlyForConnectRow.laid w) false (World.doorLaid Tryd.prog 24 os) #[.string ByteArray.empty, .string ByteArray.empty, .string ByteArray.empty] 8 rfl (World.shaped_of_RefB (by kernel_rfl) (by kernel_rfl)) (by kernel_rfl) (by kernel_rfl) (by kernel_rfl) (door_met os _)) ?_
  intro W base args ds gs before hval0 hW _ _ hL _
  have hval : ∀ (j : Nat) t v, Tryd.f3.params[j]? = some t → args[j]? = some v → Value.okWide Tryd.prog W .any base t v := hval0
  have hW' := hW
  obtain ⟨p, q, hA0, hV, rfl, hfz, hnd⟩ := hW
  have hA : DataW.TrodAll enc Tryd.prog W 0 (fun _ => true) true Tryd.f3.params.toList args.toList ds p := hA0
  rw [Tryd.params3] at hA hval
  obtain ⟨v0, vs0, d0, ds0, p0, q0, hargs, rfl, rfl, h0, r0⟩ := trodAll_cons hA
  obtain ⟨v1, vs1, d1, ds1, p1, q1, rfl, rfl, rfl, h1, r1⟩ := trodAll_cons r0
  obtain ⟨v2, vs2, d2, ds2, p2, q2, rfl, rfl, rfl, h2, r2⟩ := trodAll_cons r1
  obtain ⟨rfl, rfl, rfl⟩ := trodAll_nil r2
  obtain rfl : args = #[v0, v1, v2] := by cases args; simp_all
  obtain ⟨rfl, rfl⟩ := trodVars_none hV
  obtain ⟨a0, rfl, rfl, rfl, w0⟩ := open_string Tryd.underlying9 (hval 0 9 v0 rfl rfl) h0
  obtain ⟨a1, rfl, rfl, rfl, w1⟩ := open_string Tryd.underlying9 (hval 1 9 v1 rfl rfl) h1
  obtain ⟨a2, rfl, rfl, rfl, w2⟩ := open_string Tryd.underlying9 (hval 2 9 v2 rfl rfl) h2
  obtain ⟨hT, hz⟩ := of_laid hL
  clear hA0 hval0
  simp only [List.append_nil] at hW'
  refine (law_any _ a0 a1 a2 W hT tb_47 hz w0 w1 w2).mono fun e W' ⟨he, bel⟩ => ?_
  subst he
  exact ⟨_, rfl, _, _, _, [], [], [], hW', trodAll_mk1 (shut_bool Tryd.underlying4 _), (trodAll_cons_mk (shut_string Tryd.underlying9 w0) (trodAll_cons_mk (shut_string Tryd.underlying9 w1) (trodAll_cons_mk (shut_string Tryd.underlying9 w2) trodAll_mk0))), rfl, bel.frame _, fun h => by cases h⟩

theorem row_holds : Rows.FnRouteOfMethodMattersOnlyForConnectSaid :=
  OpenClaim.holds_of_wide 3 Tryd.f3 rfl rfl rfl rfl rfl rfl rfl ⟨rfl, rfl, rfl, rfl, rfl⟩ rfl rfl rfl rfl rfl (by kernel_rfl) Tryd.func3 (by kernel_rfl)
    (of_decide_eq_true (by kernel_rfl)) (by unfold Func.isWrapper; first | (rw [if_pos (by decide +kernel)]; kernel_rfl) | (rw [if_neg (by decide +kernel)]; exact ⟨rfl, rfl⟩))
    (fun os started H enc _ => lifted os started H enc)
end Go.Proofs.Qxb6613095aDoor
