import Derived.Test.Qxb6612807aRows
import Derived.Test.Qxb6612807aWalks
import Derived.ProofKit
import Derived.SliceStrings
import Derived.ChangeOld
import Derived.OpenShut
namespace Go.Proofs.Qxb6612807a
open Go.ChangeShapes Go.WideShapes Go.ChangeAt Go.RowKit
set_option linter.unusedVariables false

theorem own : ownKnob Try.prog.godebug = none := by kernel_rfl
theorem laidOut : laidOutB Try.prog = true := by kernel_rfl

/-- An argument that is a slice of strings, opened into what the walks ask. -/
theorem strs_opened {H : Type} {enc : TypeId × Value → H} {W : World} {a : Option Addr} {len cap : Nat} {d : DataW H} {p : List MemPlace}
    (h : DataW.Trod enc Try.prog W 0 (fun _ => true) true 22 (.slice a len cap) d p) :
    ∃ ss, StrsAt W a len ss ∧ len ≤ maxLen ∧ (a = none → len = 0 ∧ cap = 0) := by
  obtain ⟨fuel, hf⟩ := h
  rcases open_strings Try.underlying22 Try.underlying9 (by kernel_rfl) hf with ⟨hcs, _⟩ | ⟨x, l, c, zs, hcs, _, hl, hm, hz, _, hcell, hwz⟩
  · simp [Value.cells] at hcs
    obtain ⟨rfl, rfl, rfl⟩ := hcs
    exact ⟨[], ⟨rfl, .inl rfl⟩, by simp [maxLen], fun _ => ⟨rfl, rfl⟩⟩
  · simp [Value.cells] at hcs
    obtain ⟨rfl, rfl, rfl⟩ := hcs
    simp only [if_true] at hz
    refine ⟨zs.take len, ⟨by simp; omega, ?_⟩, by omega, fun h => by cases h⟩
    by_cases h0 : len = 0
    · exact .inl h0
    · obtain ⟨b, off, spot⟩ := x
      have hc := hcell 0 (by omega)
      have hspot : spot = none := by simpa [Addr.add] using World.cell?_spot hc
      subst hspot
      refine .inr ⟨b, off, rfl, fun i hi => ?_⟩
      have := hcell i (by omega)
      rw [Addr.add_lit] at this
      rw [this]
      simp [List.getD, hi]

end Go.Proofs.Qxb6612807a
