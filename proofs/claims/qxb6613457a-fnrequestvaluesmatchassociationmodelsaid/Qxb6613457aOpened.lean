import Derived.Test.Qxb6613457aRows
import Derived.Test.Qxb6613457aApply
import Derived.ProofKit
import Derived.ChangeOld
import Derived.OpenShut
import Derived.Deep.SlicePairs
namespace Go.Proofs.Qxb6613457a
open Go.ChangeShapes Go.WideShapes Go.ChangeAt Go.RowKit
set_option linter.unusedVariables false

theorem own : ownKnob Try.prog.godebug = none := by kernel_rfl
theorem laidOut : laidOutB Try.prog = true := by kernel_rfl

/-- An argument that is a slice of calls, opened into what the walks ask. -/
theorem calls_opened {H : Type} {enc : TypeId × Value → H} {W : World} {a : Option Addr} {len cap : Nat} {d : DataW H} {p : List MemPlace}
    (h : DataW.Trod enc Try.prog W 0 (fun _ => true) true 22 (.slice a len cap) d p) :
    ∃ cs, CallsAt W a len cs ∧ len ≤ maxLen := by
  obtain ⟨fuel, hf⟩ := h
  rcases Go.Deep.open_slice_pairs Try.underlying22 Try.underlying29 (by kernel_rfl) rfl rfl (by kernel_rfl) (by kernel_rfl) hf with ⟨hcs, _⟩ | ⟨x, l, c, m, n, V0, V1, D0, D1, P0, P1, hcs, _, hl, hm, hmm, _, hcell⟩
  · simp [Value.cells] at hcs
    obtain ⟨rfl, rfl, rfl⟩ := hcs
    exact ⟨[], ⟨rfl, .inl rfl⟩, by simp [maxLen]⟩
  · simp [Value.cells] at hcs
    obtain ⟨rfl, rfl, rfl⟩ := hcs
    simp only [if_true] at hmm
    subst hmm
    have hpair : ∀ i, i < len → ∃ q : Int × Int, W.cell? (x.add (i * 2)) = some (.int .i64 q.1) ∧ W.cell? (x.add (i * 2 + 1)) = some (.int .i64 q.2) := by
      intro i hi
      obtain ⟨c0, c1, t0, t1⟩ := hcell i (by omega)
      obtain ⟨y0, e0, _⟩ := DataW.trod_int Try.underlying3 t0
      obtain ⟨y1, e1, _⟩ := DataW.trod_int Try.underlying3 t1
      simp only [List.cons.injEq, and_true] at e0 e1
      exact ⟨(y0, y1), by rw [c0, e0], by rw [c1, e1]⟩
    obtain ⟨F, hF⟩ := Go.Deep.choose_lt hpair
    refine ⟨(List.range len).map F, ⟨by simp, ?_⟩, by omega⟩
    by_cases h0 : len = 0
    · exact .inl h0
    · obtain ⟨b, off, spot⟩ := x
      have hc := (hF 0 (by omega)).1
      have hspot : spot = none := by simpa [Addr.add] using World.cell?_spot hc
      subst hspot
      refine .inr ⟨b, off, rfl, fun i hi => ?_⟩
      have hg : ((List.range len).map F).getD i (0, 0) = F i := by simp [List.getD, hi]
      rw [hg]
      have h1 := hF i hi
      rw [Addr.add_lit, Addr.add_lit] at h1
      exact h1
end Go.Proofs.Qxb6613457a
