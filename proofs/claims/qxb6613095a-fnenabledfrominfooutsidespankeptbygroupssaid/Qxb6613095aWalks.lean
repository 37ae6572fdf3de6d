import Derived.Test.Qxb6613095aProg
import Derived.WalkKit
import Derived.WalkSpells
import Derived.WalkLawsBesides
import Derived.WalkSmall
namespace Go.Proofs.Qxb6613095a
open Go.RowKit

theorem bytes_any (l : Int) (s : ByteArray) (w : World) (hs : s.size ≤ maxLen) :
    Calls Try.prog 4 #[.int .i64 l, .string s] w fun e w' => (∃ b : Bool, e = .returned (.bool b)) ∧ w = w' := by
  unfold maxLen at hs
  go_enter Try.func4, Try.ntmps4
  go_wp2
  all_goals
    go_ret
    simp

theorem background_any (w : World) :
    Calls Try.prog 11 #[] w fun e w' => e = .returned (.iface 96 (.agg #[])) ∧ w = w' := by
  go_enter Try.func11, Try.ntmps11
  go_wp2
  go_ret
  exact ⟨rfl, rfl⟩

theorem value_any (k : Value) (w : World) :
    Calls Try.prog 44 #[.agg #[], k] w fun e w' => e = .returned .nilIface ∧ Below w.heap.size w w' := by
  go_enter Try.func44, Try.ntmps44
  go_wp2
  go_ret
  exact ⟨rfl, by first | exact Below.refl _ _ | exact (Below.refl _ _).alloc (Nat.le_refl _) _⟩

theorem method_value (w : World) : (method 433 96 (.agg #[]) "Value").run Try.prog w = .ok (44, .agg #[]) w := by kernel_rfl

theorem assert_none (w : World) : (Instr.typeAssert .nilIface 20 92 true).run Try.prog w = .ok (.tuple #[.pointer none, .bool false]) w := by kernel_rfl

set_option maxRecDepth 100000 in
theorem spanFrom_any (p : Option Addr) (w : World) :
    Calls Try.prog 13 #[.pointer p, .iface 96 (.agg #[])] w fun e w' => e = .returned (.pointer none) ∧ Below w.heap.size w w' := by
  have hm := method_value
  have ha := assert_none
  go_enter Try.func13, Try.ntmps13
  go_wp2_with (go_at_call 44; refine (value_any _ _).mono ?_; rintro e w1 ⟨rfl, b1⟩)
  go_ret
  exact ⟨rfl, b1⟩

theorem enabled_any (b : Nat) (p : Option Addr) (l : Int) (w : World) (h : w.cell? ⟨b, 0, none⟩ = some (.pointer p)) :
    Calls Try.prog 10 #[.pointer (some ⟨b, 0, none⟩), .iface 96 (.agg #[]), .int .i64 l] w fun e w' => e = .returned (.bool (decide (0 ≤ l))) ∧ Below w.heap.size w w' := by
  by_cases hl : 0 ≤ l
  · go_enter Try.func10, Try.ntmps10
    go_wp2
    go_ret
    simp [hl]
    exact Below.refl _ _
  · go_enter Try.func10, Try.ntmps10
    go_wp2_with (go_at_call 13; refine (spanFrom_any _ _).mono ?_; rintro e w1 ⟨rfl, b1⟩)
    go_ret
    simp [hl]
    exact b1

theorem outside_any (b : Nat) (p : Option Addr) (l : Int) (w : World) (h : w.cell? ⟨b, 0, none⟩ = some (.pointer p)) :
    Calls Try.prog 8 #[.pointer (some ⟨b, 0, none⟩), .int .i64 l] w fun e w' => e = .returned (.bool (decide (0 ≤ l))) ∧ Below w.heap.size w w' := by
  go_enter Try.func8, Try.ntmps8
  go_wp2_with fail
  refine (background_any _).mono ?_
  rintro e w1 ⟨rfl, rfl⟩
  go_wp2_with fail
  refine (enabled_any b p l w h).mono ?_
  rintro e w2 ⟨rfl, b2⟩
  go_wp2
  go_ret
  exact ⟨rfl, b2⟩
end Go.Proofs.Qxb6613095a
