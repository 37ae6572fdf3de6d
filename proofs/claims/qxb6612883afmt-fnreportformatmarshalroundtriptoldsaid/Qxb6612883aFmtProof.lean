import Derived.Test.Qxb6612883aFmtRows
import Derived.Test.Qxb6612883aFmtTie
import Derived.Test.Qxb6612883aFmtCards
import Derived.Test.Qxb6612883aFmtLaw
import Derived.ProofKit
import Derived.LaidMore
import Derived.OpenShut
import Derived.Stop.Joined
import Derived.Stop.JoinedTold
import Derived.Deep.DeepWitnessRef
namespace Go.Proofs.Qxb6612883aFmt
open Go.ChangeShapes Go.WideShapes Go.ChangeAt Go.RowKit
set_option linter.unusedVariables false

theorem own : ownKnob Tryf.prog.godebug = none := by kernel_rfl
theorem laidOut : laidOutB Tryf.prog = true := by kernel_rfl
/-- The variable's name, as the specification bears it. -/
def nmVar : String := Rows.fnReportFormatMarshalRoundTripSpec.vars.headD ""
theorem gNames : Tryf.prog.globalNamed nmVar = some 0 := by kernel_rfl
theorem tNames : (Tryf.prog.globals[0]?).map (·.type) = some 32 := by kernel_rfl

/-- The door's own heap meets the condition. -/
theorem door_met (os : Os) (args : Array Value) : laidMetH Tryf.prog Rows.fnReportFormatMarshalRoundTripRow.laid ((World.doorLaid Tryf.prog 14 os).forCall (fun _ _ => 0) ⟨#[], args, []⟩).memory :=
  laidMetH_of_parts3 (fuel := 8) (laidMet_of_run' 8 (by kernel_rfl) (by kernel_rfl)) (by kernel_rfl) (by kernel_rfl)

/-- WHAT THE CONDITION GIVES THE WALKS: the two names' cells. -/
theorem of_laid {W : World} (h : laidMetH Tryf.prog Rows.fnReportFormatMarshalRoundTripRow.laid W) : Names W ∧ 0 < W.heap.size := by
  rw [MakeChecks.laidMetH_plain _ _ _ (by kernel_rfl)] at h
  obtain ⟨ps, ⟨g0, t0, cs0, f0, p0, q0, hg0, ht0, hv0, hd0, _, _⟩, _, _⟩ := h
  obtain rfl := Option.some.inj (gNames.symm.trans hg0)
  obtain rfl := Option.some.inj (tNames.symm.trans ht0)
  obtain ⟨xs, m1, rfl, hx1, hlen, hn3, hel⟩ := DataW.trod_array Tryf.underlying32 hd0
  have c9 : Tryf.prog.cellsOf 9 = 1 := by kernel_rfl
  have c32 : Tryf.prog.cellsOf 32 = 2 := by kernel_rfl
  have h0 := hel 0 (by decide)
  have h1 := hel 1 (by decide)
  have k0 := World.var?_cell hg0 hv0 0
  have k1 := World.var?_cell hg0 hv0 1
  obtain ⟨l1⟩ := cs0
  rw [c32] at hlen
  rw [c9] at h0 h1
  match l1, hlen, h0, h1, k0, k1 with
  | [a, b], _, h0, h1, k0, k1 =>
    simp only [Prod.mk.injEq] at hx1
    match xs, hn3, hx1, h0, h1 with
    | [x0, x1], _, hx1, h0, h1 =>
      obtain ⟨s0, e0, y0, _⟩ := DataW.trod_string Tryf.underlying9 (show DataW.trod _ Tryf.prog W 0 _ false m1 9 _ = some x0 from h0)
      obtain ⟨s1, e1, y1, _⟩ := DataW.trod_string Tryf.underlying9 (show DataW.trod _ Tryf.prog W 0 _ false m1 9 _ = some x1 from h1)
      simp at e0 e1
      subst e0 e1 y0 y1
      have hx := hx1.1
      simp only [Rows.laid_example_com_proviso_proviso_internal_core_reportFormatNames, List.map_cons, List.map_nil, DataW.agg.injEq, List.cons.injEq, DataW.lit.injEq, Lit.string.injEq, and_true] at hx
      have z0 : s0 = txt := by
        obtain ⟨⟨l⟩⟩ := s0
        simp only at hx
        rw [← hx.1]
        rfl
      have z1 : s1 = jsn := by
        obtain ⟨⟨l⟩⟩ := s1
        simp only at hx
        rw [← hx.2]
        rfl
      subst z0 z1
      have c0 : W.cell? ⟨0, 0, none⟩ = some (.string txt) := by simpa using k0
      have c1 : W.cell? ⟨0, 1, none⟩ = some (.string jsn) := by simpa using k1
      exact ⟨⟨c0, c1⟩, block_lt_of_cell c0⟩

theorem witness_row (os : Os) {H : Type} (enc : TypeId × Value → H) :
    (OpenSpec.ofChange Rows.fnReportFormatMarshalRoundTripSpec).preRow enc Tryf.prog Tryf.f3 Rows.fnReportFormatMarshalRoundTripRow.domain false Rows.fnReportFormatMarshalRoundTripRow.laid ((World.doorLaid Tryf.prog 14 os).forCall (fun _ _ => 0) ⟨#[], #[.int .u8 0], []⟩).memory #[.int .u8 0] :=
  OpenSpec.preRow_of_B rfl 8 (by kernel_rfl) (by kernel_rfl) (door_met os _)

theorem law_any (f : Int) (hf : 0 ≤ f) (w : World) (h : Names w) (h0 : 0 < w.heap.size) :
    Calls Tryf.prog 3 #[.int .u8 f] w fun e w' => e = .returned (.bool true) ∧ Below w.heap.size w w' := by
  by_cases h1 : 1 < f
  · exact law_high f h1 w
  · obtain ⟨n, rfl⟩ := Int.eq_ofNat_of_zero_le hf
    exact law_low n (1 - n) (by omega) (by omega) w h h0

set_option maxRecDepth 100000 in
theorem lifted (os : Os) (started : os.Started) (H : Type) (enc : TypeId × Value → H) :
    ReturnsInTold none {} Tryf.checked os 3 .any Input.okWide ((OpenSpec.ofChange Rows.fnReportFormatMarshalRoundTripSpec).preRow enc Tryf.prog Tryf.f3 Rows.fnReportFormatMarshalRoundTripRow.domain false Rows.fnReportFormatMarshalRoundTripRow.laid)
      (fun F => ((OpenSpec.ofChange Rows.fnReportFormatMarshalRoundTripSpec).at F).post enc Tryf.prog Tryf.f3 false true false false) (aloneAtReturn Tryf.prog) nothingAlways := by
  refine returnsInTold_of_row (C := Tryf.checked) (s := OpenSpec.ofChange Rows.fnReportFormatMarshalRoundTripSpec) (by kernel_rfl) own started (by kernel_rfl) Tryf.func3
    (OpenSpec.witness_stopped_atRef (enc := enc) (C := Tryf.checked) false (World.doorLaid Tryf.prog 14 os) #[.int .u8 0] rfl (by kernel_rfl) (by kernel_rfl) (by kernel_rfl) (witness_row os enc)) ?_
  intro F W base args ds gs before _ hF hval0 hW _ _ _ hL _
  have hval : ∀ (j : Nat) t v, Tryf.f3.params[j]? = some t → args[j]? = some v → Value.okWide Tryf.prog W .any base t v := hval0
  have hW' := hW
  obtain ⟨p, q, hA0, hV0, rfl, _, _⟩ := hW
  have hA : DataW.TrodAll enc Tryf.prog W 0 (fun _ => true) true Tryf.f3.params.toList args.toList ds p := hA0
  have hV : DataW.TrodVars enc Tryf.prog W (fun _ => true) [nmVar] gs q := hV0
  rw [Tryf.params3] at hA hval
  obtain ⟨v0, d0, rfl, rfl, h0⟩ := trodAll_one hA
  obtain ⟨a0, rfl, rfl, rfl, w0⟩ := open_int Tryf.underlying5 (hval 0 5 v0 rfl rfl) h0
  obtain ⟨g, t, cs, fuel, d, pv, rfl, hg, ht, hv, hd, rfl⟩ := trodVars_one hV
  obtain ⟨hn, hpos⟩ := of_laid hL
  obtain rfl := Option.some.inj (gNames.symm.trans hg)
  obtain rfl := Option.some.inj (tNames.symm.trans ht)
  have hlt : ∀ x ∈ pv, x.block < W.heap.size := DataW.trod_lt fuel _ _ _ hd
  clear hA0 hval0 hV0
  have hb0 : 0 ≤ a0 := by
    have e1 : IntKind.u8.min = 0 := rfl
    simp [Lit.wf, e1] at w0
    omega
  refine (law_any a0 hb0 W hn hpos).mono fun e W' ⟨he, bel⟩ => ?_
  subst he
  have hd' : DataW.trod enc Tryf.prog W' 0 (fun b => decide (b < W.heap.size)) true fuel 32 cs.toList = some (d, pv) :=
    DataW.trod_stays (kids_book laidOut (by kernel_rfl)) (book_sized (by kernel_rfl)) (fun h => by cases h) ⟨of_decide_eq_true (by kernel_rfl), book_self 32⟩ hd (fun x hx => bel.same (hlt x hx)) (fun x hx => by simpa using hlt x hx)
  exact ⟨_, rfl, _, _, _, [], [], _, hW', trodAll_mk1 (shut_bool Tryf.underlying4 _), trodAll_mk1 (shut_int Tryf.underlying5 w0), trodVars_mk1 hg ht (var?_below bel hg hpos hv) hd', bel.frame _, fun h => by cases h⟩
end Go.Proofs.Qxb6612883aFmt
