import Derived.Test.Qxb6613095aDoorProof
import Derived.SevenTiedAt
namespace Go.Proofs.Qxb6613095aDoor
open Go

theorem proved : Rows.FnRouteOfMethodMattersOnlyForConnectCardSaid :=
  Claim7.holds_tied_plain_at .later [] [.data] true (true, "a537f0b46003c4a3fdc80fa4df5faccaa711aaff9c755cf6138d392e7fcd0103") false
    row_holds (fun _ h => by cases h) (by kernel_rfl) (fun _ h => by cases h) fnRouteOfMethodMattersOnlyForConnect_row_tie rfl ⟨rfl, rfl⟩ (by kernel_rfl) rfl
    (fun f fn hf hfn => by
      obtain rfl : f = 3 := Option.some.inj ((show Tryd.prog.funcNamed Rows.fnRouteOfMethodMattersOnlyForConnectRow.func = some 3 by kernel_rfl).symm.trans hf) |>.symm
      obtain rfl : fn = Tryd.f3 := (Option.some.inj (Tryd.func3.symm.trans hfn)).symm
      exact ⟨by kernel_rfl, fun j t ht => by
        rw [Tryd.params3] at ht
        have hm : t ∈ [9, 9, 9] := by simpa using Array.mem_of_getElem? ht
        have hall : ([9, 9, 9].all fun u => !Tryd.prog.wantsStandIn u) = true := by kernel_rfl
        exact (show Tryd.prog.wantsStandIn t = false by simpa using List.all_eq_true.1 hall t hm)⟩)
    (by kernel_rfl)
end Go.Proofs.Qxb6613095aDoor
