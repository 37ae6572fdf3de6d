import Derived.Test.Qxb6612807aProg
import Derived.WalkKit
import Derived.WalkSpells
import Derived.WalkLawsBesides
namespace Go.Proofs.Qxb6612807a
open Go.RowKit

/-- Is the code 130 or 149? -/
def isOff (s : ByteArray) : Bool := s.toList == [49, 51, 48] || s.toList == [49, 52, 57]

theorem ret_bool {a b : Bool} (h : a = b) : Ending.returned (.bool a) = .returned (.bool b) := by rw [h]

theorem isOfferCode_any (s : ByteArray) (w : World) :
    Calls Try.prog 11 #[.string s] w fun e w' => e = .returned (.bool (isOff s)) ∧ w = w' := by
  go_enter Try.func11, Try.ntmps11
  go_wp2
  all_goals
    go_ret
    exact ⟨ret_bool (by simp [isOff, *]), rfl⟩

theorem answersOffer_any (s : ByteArray) (w : World) :
    Calls Try.prog 13 #[.string s] w fun e w' => e = .returned (.bool (isOff s)) ∧ w = w' := by
  go_enter Try.func13, Try.ntmps13
  go_wp2
  all_goals
    go_ret
    exact ⟨ret_bool (by simp [isOff, *]), rfl⟩

/-- It returns a bool; which one is not said. -/
def AnyBool (e : Ending) : Prop := ∃ b : Bool, e = .returned (.bool b)

/-- What the walks ask of a slice of strings: it is empty, or its cells hold the strings. -/
def StrsAt (w : World) (ao : Option Addr) (len : Nat) (ss : List ByteArray) : Prop :=
  ss.length = len ∧ (len = 0 ∨ ∃ b off, ao = some ⟨b, off, none⟩ ∧ ∀ i, i < len → w.cell? ⟨b, off + i, none⟩ = some (.string (ss.getD i ByteArray.empty)))

theorem size_any (t : Int) (ao : Option Addr) (len cap : Nat) (ss : List ByteArray) (w : World) (h : StrsAt w ao len ss) (hm : len ≤ maxLen) :
    Calls Try.prog 6 #[.int .i64 t, .slice ao len cap] w fun e w' => (∃ n : Int, e = .returned (.int .i64 n)) ∧ w = w' := by
  unfold maxLen at hm
  obtain ⟨_, h⟩ := h
  by_cases ht : 1048576 < t
  · go_enter Try.func6, Try.ntmps6
    go_wp2
    go_ret
    exact ⟨⟨_, rfl⟩, rfl⟩
  by_cases hl : (1048576 : Int) < len
  · go_enter Try.func6, Try.ntmps6
    go_wp2
    go_ret
    exact ⟨⟨_, rfl⟩, rfl⟩
  go_enter Try.func6, Try.ntmps6
  go_wp2
  go_loop [0, 5] (fun t i => ∃ k : Nat, k ≤ len ∧ i = .int .i64 k ∧ ∃ n, t = .int .i64 n) (fun _ i => len - (intOf i).toNat)
  case atStart => exact ⟨0, Nat.zero_le _, rfl, _, rfl⟩
  case round =>
    obtain ⟨k, hk, rfl, n, rfl⟩ := hrel
    by_cases hlt : k < len
    · rcases h with h | ⟨b, off, rfl, hc⟩
      · omega
      have hck := hc k hlt
      clear hc
      go_wp2
      all_goals first
        | (go_ret; exact ⟨⟨_, rfl⟩, rfl⟩)
        | (go_round
           case rel => exact ⟨k + 1, by omega, by go_num, _, rfl⟩
           case measure => simp [intOf]; omega)
    · clear h
      go_wp2
      go_ret
      exact ⟨⟨_, rfl⟩, rfl⟩

theorem bytes1_any (ao : Option Addr) (len cap : Nat) (ss : List ByteArray) (w : World) (h : StrsAt w ao len ss) (hm : len ≤ maxLen) :
    Calls Try.prog 10 #[.slice ao len cap] w fun e w' => AnyBool e ∧ w = w' := by
  unfold maxLen at hm
  obtain ⟨_, h⟩ := h
  by_cases hl : (1048576 : Int) < len
  · go_enter Try.func10, Try.ntmps10
    go_wp2
    go_ret
    exact ⟨⟨_, rfl⟩, rfl⟩
  go_enter Try.func10, Try.ntmps10
  go_wp2
  go_loop [3, 4] (fun t i => ∃ k : Nat, k ≤ len ∧ i = .int .i64 k ∧ ∃ n, t = .int .i64 n) (fun _ i => len - (intOf i).toNat)
  case atStart => exact ⟨0, Nat.zero_le _, rfl, _, rfl⟩
  case round =>
    obtain ⟨k, hk, rfl, n, rfl⟩ := hrel
    by_cases hlt : k < len
    · rcases h with h | ⟨b, off, rfl, hc⟩
      · omega
      have hck := hc k hlt
      clear hc
      go_wp2
      all_goals first
        | (go_ret; exact ⟨⟨_, rfl⟩, rfl⟩)
        | (go_round
           case rel => exact ⟨k + 1, by omega, by go_num, _, rfl⟩
           case measure => simp [intOf]; omega)
    · clear h
      go_wp2
      go_ret
      exact ⟨⟨_, rfl⟩, rfl⟩

theorem bytes2_any (ao : Option Addr) (len cap : Nat) (ss : List ByteArray) (ao2 : Option Addr) (len2 cap2 : Nat) (ss2 : List ByteArray) (w : World) (h : StrsAt w ao len ss) (hm : len ≤ maxLen) (h2 : StrsAt w ao2 len2 ss2) (hm2 : len2 ≤ maxLen) :
    Calls Try.prog 5 #[.slice ao len cap, .slice ao2 len2 cap2] w fun e w' => AnyBool e ∧ w = w' := by
  unfold maxLen at hm hm2
  obtain ⟨_, h⟩ := h
  obtain ⟨_, h2⟩ := h2
  by_cases hl : (1048576 : Int) < len
  · go_enter Try.func5, Try.ntmps5
    go_wp2
    go_ret
    exact ⟨⟨_, rfl⟩, rfl⟩
  go_enter Try.func5, Try.ntmps5
  go_wp2
  go_loop [5, 6] (fun t i => ∃ k : Nat, k ≤ len ∧ i = .int .i64 k ∧ ∃ n, t = .int .i64 n) (fun _ i => len - (intOf i).toNat)
  case atStart => exact ⟨0, Nat.zero_le _, rfl, _, rfl⟩
  case round =>
    obtain ⟨k, hk, rfl, n, rfl⟩ := hrel
    by_cases hlt : k < len
    · rcases h with h | ⟨b, off, rfl, hc⟩
      · omega
      have hck := hc k hlt
      clear hc h2
      go_wp2
      all_goals first
        | (go_ret; exact ⟨⟨_, rfl⟩, rfl⟩)
        | (go_round
           case rel => exact ⟨k + 1, by omega, by go_num, _, rfl⟩
           case measure => simp [intOf]; omega)
    · clear h
      by_cases hl2 : (1048576 : Int) < len2
      · go_wp2
        go_ret
        exact ⟨⟨_, rfl⟩, rfl⟩
      go_wp2
      · go_ret
        exact ⟨⟨_, rfl⟩, rfl⟩
      go_loop [5, 7] (fun t i => ∃ k : Nat, k ≤ len2 ∧ i = .int .i64 k ∧ ∃ n, t = .int .i64 n) (fun _ i => len2 - (intOf i).toNat)
      case atStart => exact ⟨0, Nat.zero_le _, rfl, _, rfl⟩
      case round =>
        obtain ⟨k, hk, rfl, n, rfl⟩ := hrel
        by_cases hlt : k < len2
        · rcases h2 with h | ⟨b, off, rfl, hc⟩
          · omega
          have hck := hc k hlt
          clear hc
          go_wp2
          all_goals first
            | (go_ret; exact ⟨⟨_, rfl⟩, rfl⟩)
            | (go_round
               case rel => exact ⟨k + 1, by omega, by go_num, _, rfl⟩
               case measure => simp [intOf]; omega)
        · clear h2
          go_wp2
          go_ret
          exact ⟨⟨_, rfl⟩, rfl⟩

theorem info38 : (Try.prog.info? 38).map (fun i => (i.zero.isSome, i.size, i.bytes)) = some (true, 32, 320) := by kernel_rfl

theorem info38_parts : ∃ i z, Try.prog.info? 38 = some i ∧ i.zero = some z ∧ i.size = 32 ∧ i.bytes = 320 := by
  obtain ⟨i, hi, hz⟩ := Option.map_eq_some_iff.1 info38
  simp only [Prod.mk.injEq] at hz
  obtain ⟨z, hz0⟩ := Option.isSome_iff_exists.1 hz.1
  exact ⟨i, z, hi, hz0, hz.2.1, hz.2.2⟩

theorem ofOffer_any (g off : Nat) (s : ByteArray) (w : World) (hc : w.cell? ⟨g, off + 7, none⟩ = some (.string s)) :
    Calls Try.prog 12 #[.pointer (some ⟨g, off, none⟩)] w fun e w' => e = .returned (.bool (isOff s)) ∧ w = w' := by
  go_enter Try.func12, Try.ntmps12
  go_wp2_with (go_at_call 13; refine (answersOffer_any _ _).mono ?_; rintro e w' ⟨rfl, rfl⟩)
  go_ret
  exact ⟨rfl, rfl⟩

/-- The first of the strings is an offer's code. -/
def firstOff (ss : List ByteArray) : Bool := match ss with | [] => false | s :: _ => isOff s

theorem answerOffer_any (g len cap : Nat) (ss : List ByteArray) (w : World) (hl : ss.length = len) (hc : ∀ i, i < len → w.cell? ⟨g, i * 32 + 7, none⟩ = some (.string (ss.getD i ByteArray.empty))) :
    Calls Try.prog 7 #[.slice (some ⟨g, 0, none⟩) len cap] w fun e w' => e = .returned (.bool (firstOff ss)) ∧ w = w' := by
  match ss, hl, hc with
  | [], hl, hc =>
    subst hl
    go_enter Try.func7, Try.ntmps7
    go_wp2
    go_ret
    exact ⟨rfl, rfl⟩
  | s :: ss', hl, hc =>
    have hp : (0 : Int) < (len : Int) := by simp at hl; omega
    have h0 : w.cell? ⟨g, 0 + 7, none⟩ = some (.string s) := hc 0 (by omega)
    clear hc
    go_enter Try.func7, Try.ntmps7
    go_wp2_with (go_at_call 12; refine (ofOffer_any _ _ s _ h0).mono ?_; rintro e w' ⟨rfl, rfl⟩)
    go_ret
    exact ⟨rfl, rfl⟩

theorem firstIsOffer_any (ao : Option Addr) (len cap : Nat) (ss : List ByteArray) (w : World) (h : StrsAt w ao len ss) :
    Calls Try.prog 9 #[.slice ao len cap] w fun e w' => e = .returned (.bool (firstOff ss)) ∧ w = w' := by
  obtain ⟨hl, h⟩ := h
  match ss, hl, h with
  | [], hl, h =>
    subst hl
    clear h
    go_enter Try.func9, Try.ntmps9
    go_wp2
    go_ret
    exact ⟨rfl, rfl⟩
  | s :: ss', hl, h =>
    have hp : (0 : Int) < (len : Int) := by simp at hl; omega
    rcases h with h | ⟨b, off, rfl, hc⟩
    · omega
    have h0 : w.cell? ⟨b, off, none⟩ = some (.string s) := hc 0 (by omega)
    clear hc
    go_enter Try.func9, Try.ntmps9
    go_wp2_with (go_at_call 11; refine (isOfferCode_any _ _).mono ?_; rintro e w' ⟨rfl, rfl⟩)
    go_ret
    exact ⟨rfl, rfl⟩
end Go.Proofs.Qxb6612807a
