import Derived.Test.Qxb6613095aDoorProg
import Derived.WalkKit
import Derived.WalkSpells
import Derived.WalkLawsBesides
import Derived.WalkSmall
import Derived.Lib.Strings
import Derived.Lib.PathFns
namespace Go.Proofs.Qxb6613095aDoor
open Go.RowKit

/-- It returns a bool; which one is not said. -/
def AnyBool (e : Ending) : Prop := ∃ b : Bool, e = .returned (.bool b)

theorem bytes_any (a b c : ByteArray) (w : World) (ha : a.size ≤ maxLen) (hb : b.size ≤ maxLen) (hc : c.size ≤ maxLen) :
    Calls Tryd.prog 6 #[.string a, .string b, .string c] w fun e w' => AnyBool e ∧ w = w' := by
  unfold maxLen at ha hb hc
  go_enter Tryd.func6, Tryd.ntmps6
  go_wp2
  all_goals
    go_ret
    exact ⟨⟨_, rfl⟩, rfl⟩

/-- Does the string end in a slash? -/
def endsSlash (l : List UInt8) : Bool := l.getLast? == some 47

theorem ends_nil (s : ByteArray) (h : s.size = 0) : endsSlash s.data.toList = false := by
  obtain ⟨⟨l⟩⟩ := s
  have : l = [] := List.length_eq_zero_iff.1 h
  subst this
  rfl

theorem ends_last (s : ByteArray) (h : s.size - 1 < s.size) : endsSlash s.data.toList = (((s[s.size - 1]'h).toNat : Int) == 47) := by
  rw [Lib.Pa.beq47]
  have := Lib.Pa.at_eq s (s.size - 1) h
  unfold endsSlash
  rw [List.getLast?_eq_getElem?, ← Lib.size_eq, this]
  rfl

theorem ends_extract (s : ByteArray) (h : 0 < s.size) : ((s.extract (s.size - 1) s.size).toList == [47]) = endsSlash s.data.toList := by
  have hl : s.data.toList.drop (s.size - 1) = [s[s.size - 1]'(by omega)] := by
    have := Lib.Pa.at_eq s (s.size - 1) (by omega)
    have hlen : s.data.toList.length = s.size := (Lib.size_eq s).symm
    obtain ⟨h1, h2⟩ := List.getElem?_eq_some_iff.1 this
    rw [List.drop_eq_getElem_cons h1, h2, List.drop_of_length_le (by omega)]
  rw [ends_last s (by omega), Lib.Pa.beq47, Lib.toList_data, Lib.extract_data, hl]
  rw [show s.size - (s.size - 1) = 1 by omega]
  simp

theorem ret_bool {a b : Bool} (h : a = b) : Ending.returned (.bool a) = .returned (.bool b) := by rw [h]

theorem ends_any (s : ByteArray) (w : World) (hs : s.size ≤ maxLen) :
    Calls Tryd.prog 8 #[.string s] w fun e w' => e = .returned (.bool (endsSlash s.data.toList)) ∧ w = w' := by
  unfold maxLen at hs
  by_cases h0 : s.size = 0
  · rw [ends_nil s h0]
    have hp : ¬ (0 : Int) < s.size := by omega
    clear h0
    go_enter Tryd.func8, Tryd.ntmps8
    go_wp2
    go_ret
    exact ⟨rfl, rfl⟩
  · have hp : (0 : Int) < s.size := by omega
    rw [ends_last s (by omega)]
    go_enter Tryd.func8, Tryd.ntmps8
    go_wp2
    go_ret
    exact ⟨rfl, rfl⟩

theorem suffix_lite (s : ByteArray) (w : World) (hs : s.size ≤ maxLen) :
    Calls Tryd.prog 28 #[.string s, .string ⟨#[47]⟩] w fun e w' => e = .returned (.bool (endsSlash s.data.toList)) ∧ w = w' := by
  unfold maxLen at hs
  by_cases h0 : s.size = 0
  · rw [ends_nil s h0]
    have hp : ¬ (1 : Int) ≤ s.size := by omega
    clear h0
    go_enter Tryd.func28, Tryd.ntmps28
    go_wp2
    go_ret
    exact ⟨rfl, rfl⟩
  · have hp : (1 : Int) ≤ s.size := by omega
    rw [← ends_extract s (by omega)]
    go_enter Tryd.func28, Tryd.ntmps28
    go_wp2
    go_ret
    exact ⟨rfl, rfl⟩

theorem suffix_any (s : ByteArray) (w : World) (hs : s.size ≤ maxLen) :
    Calls Tryd.prog 21 #[.string s, .string ⟨#[47]⟩] w fun e w' => e = .returned (.bool (endsSlash s.data.toList)) ∧ w = w' := by
  go_enter Tryd.func21, Tryd.ntmps21
  go_wp2_with (go_at_call 28; refine (suffix_lite s _ hs).mono ?_; rintro e w' ⟨rfl, rfl⟩)
  go_ret
  exact ⟨rfl, rfl⟩

/-- net/url's table, as far as it lies in memory. -/
def Tab (T : Nat → Int) (w : World) : Prop := ∀ i, i < 256 → w.cell? ⟨0, i, none⟩ = some (.int .u8 (T i))

/-- Must the byte be escaped in a path? -/
def se (T : Nat → Int) (c : UInt8) : Bool := bits .and .u8 (T c.toNat) 1 == 0

theorem should_any (T : Nat → Int) (c : UInt8) (w : World) (h : Tab T w) :
    Calls Tryd.prog 42 #[.int .u8 (c.toNat : Int), .int .u8 1] w fun e w' => e = .returned (.bool (se T c)) ∧ w = w' := by
  have hc := h c.toNat (by have := c.toNat_lt; omega)
  have hlt := c.toNat_lt
  go_enter Tryd.func42, Tryd.ntmps42
  go_wp2
  go_ret
  exact ⟨rfl, rfl⟩

theorem should_at (T : Nat → Int) (c : UInt8) (b : Bool) (w : World) (h : Tab T w) (hb : se T c = b) :
    Calls Tryd.prog 42 #[.int .u8 (c.toNat : Int), .int .u8 1] w fun e w' => e = .returned (.bool b) ∧ w = w' := by
  subst hb; exact should_any T c w h
end Go.Proofs.Qxb6613095aDoor
