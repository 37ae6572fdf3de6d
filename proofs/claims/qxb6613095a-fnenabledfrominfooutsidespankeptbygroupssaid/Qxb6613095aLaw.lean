import Derived.Test.Qxb6613095aGroup
namespace Go.Proofs.Qxb6613095a
open Go.RowKit

theorem assert_handler (a : Addr) (w : World) : (Instr.typeAssert (.iface 25 (.pointer (some a))) 84 25 false).run Try.prog w = .ok (.pointer (some a)) w := by kernel_rfl

theorem group_any (b : Nat) (p : Option Addr) (s : ByteArray) (n : Nat) (hn : n < 2) (w : World) (h : HandlerAt w b p n) :
    Calls Try.prog 7 #[.pointer (some ⟨b, 0, none⟩), .string s] w fun e w' => ∃ b' n', n' ≤ n + 1 ∧ e = .returned (.pointer (some ⟨b', 0, none⟩)) ∧ HandlerAt w' b' p n' ∧ Below w.heap.size w w' := by
  have ha := assert_handler
  have H : Hid (HandlerAt w b p n) := h
  clear h
  go_enter Try.func7, Try.ntmps7
  go_wp2_with fail
  refine (withGroup_any b p s n hn w H.out).mono ?_
  rintro e w1 ⟨b', n', hn', rfl, hh, hb⟩
  have HH : Hid (HandlerAt w1 b' p n') := hh
  clear hh
  go_wp2
  go_ret
  exact ⟨b', n', hn', rfl, HH.out, hb⟩

theorem recorder_any (w : World) :
    Calls Try.prog 5 #[] w fun e w' => e = .returned (.pointer (some ⟨w.heap.size, 0, none⟩)) ∧ Below w.heap.size w w' := by
  go_enter Try.func5, Try.ntmps5
  go_wp2
  go_ret
  exact ⟨rfl, (Below.refl _ _).alloc (Nat.le_refl _) _⟩

theorem handler_any (p : Option Addr) (w : World) :
    Calls Try.prog 6 #[.pointer p] w fun e w' => e = .returned (.pointer (some ⟨w.heap.size, 0, none⟩)) ∧ HandlerAt w' w.heap.size p 0 ∧ Below w.heap.size w w' := by
  go_enter Try.func6, Try.ntmps6
  go_wp2
  go_ret
  exact ⟨rfl, handler_new _ _ _ _ (.inl ⟨rfl, rfl⟩), (Below.refl _ _).alloc (Nat.le_refl _) _⟩

theorem ret_bool {a b : Bool} (h : a = b) : Ending.returned (.bool a) = .returned (.bool b) := by rw [h]

theorem outside_at (b : Nat) (p : Option Addr) (l : Int) (c : Bool) (w : World) (h : w.cell? ⟨b, 0, none⟩ = some (.pointer p)) (hc : decide (0 ≤ l) = c) :
    Calls Try.prog 8 #[.pointer (some ⟨b, 0, none⟩), .int .i64 l] w fun e w' => e = .returned (.bool c) ∧ Below w.heap.size w w' := by
  subst hc; exact outside_any b p l w h

theorem walk (l : Int) (s : ByteArray) (hs : s.size ≤ maxLen) (w : World) :
    Calls Try.prog 3 #[.int .i64 l, .string s] w fun e w' => e = .returned (.bool true) ∧ Below w.heap.size w w' := by
  have hs' := hs
  unfold maxLen at hs'
  go_enter Try.func3, Try.ntmps3
  go_wp2_with fail
  refine (bytes_any l s w hs).mono ?_
  rintro e w0 ⟨⟨b, rfl⟩, rfl⟩
  cases b with
  | false =>
    go_wp2
    go_ret
    exact ⟨rfl, Below.refl _ _⟩
  | true =>
  by_cases hl : (1048576 : Int) < s.size
  · go_wp2
    go_ret
    exact ⟨rfl, Below.refl _ _⟩
  go_wp2_with fail
  refine (recorder_any _).mono ?_
  rintro e w1 ⟨rfl, b1⟩
  go_wp2_with fail
  refine (handler_any _ _).mono ?_
  rintro e w2 ⟨rfl, H2, b2⟩
  have b2' : Below w.heap.size w w2 := b1.trans (b2.mono b1.size)
  have HH2 : Hid (HandlerAt w2 w1.heap.size (some ⟨w.heap.size, 0, none⟩) 0) := H2
  clear H2
  go_wp2_with fail
  refine (group_any w1.heap.size _ s 0 (by omega) w2 HH2.out).mono ?_
  rintro e w3 ⟨bg, ng, hng, rfl, H3, b3⟩
  have b3' : Below w.heap.size w w3 := b2'.trans (b3.mono b2'.size)
  have HH3 : Hid (HandlerAt w3 bg (some ⟨w.heap.size, 0, none⟩) ng) := H3
  have HA3 : Hid (HandlerAt w3 w1.heap.size (some ⟨w.heap.size, 0, none⟩) 0) := HH2.out.below b3
  clear H3 HH2 b3 b2'
  go_wp2_with fail
  refine (group_any bg _ s ng (by omega) w3 HH3.out).mono ?_
  rintro e w4 ⟨bq, nq, hnq, rfl, H4, b4⟩
  have b4' : Below w.heap.size w w4 := b3'.trans (b4.mono b3'.size)
  have HA4 : Hid (HandlerAt w4 w1.heap.size (some ⟨w.heap.size, 0, none⟩) 0) := HA3.out.below b4
  have HB4 : Hid (HandlerAt w4 bg (some ⟨w.heap.size, 0, none⟩) ng) := HH3.out.below b4
  have HC4 : Hid (HandlerAt w4 bq (some ⟨w.heap.size, 0, none⟩) nq) := H4
  clear H4 HH3 HA3 b4 b3' b2 b1
  by_cases hz : 0 ≤ l
  · go_wp2_with fail
    refine (outside_at w1.heap.size _ l true w4 HA4.out.1 (by simp [hz])).mono ?_
    rintro e w5 ⟨rfl, b5⟩
    have b5' : Below w.heap.size w w5 := b4'.trans (b5.mono b4'.size)
    have HB5 : Hid (HandlerAt w5 bg (some ⟨w.heap.size, 0, none⟩) ng) := HB4.out.below b5
    have HC5 : Hid (HandlerAt w5 bq (some ⟨w.heap.size, 0, none⟩) nq) := HC4.out.below b5
    go_wp2_with fail
    refine (outside_at bg _ l true w5 HB5.out.1 (by simp [hz])).mono ?_
    rintro e w6 ⟨rfl, b6⟩
    have b6' : Below w.heap.size w w6 := b5'.trans (b6.mono b5'.size)
    have HC6 : Hid (HandlerAt w6 bq (some ⟨w.heap.size, 0, none⟩) nq) := HC5.out.below b6
    go_wp2_with fail
    refine (outside_at bq _ l true w6 HC6.out.1 (by simp [hz])).mono ?_
    rintro e w7 ⟨rfl, b7⟩
    have b7' : Below w.heap.size w w7 := b6'.trans (b7.mono b6'.size)
    go_wp2
    go_ret
    exact ⟨rfl, b7'⟩
  · go_wp2_with fail
    refine (outside_at w1.heap.size _ l false w4 HA4.out.1 (by simp [hz])).mono ?_
    rintro e w5 ⟨rfl, b5⟩
    have b5' : Below w.heap.size w w5 := b4'.trans (b5.mono b4'.size)
    have HB5 : Hid (HandlerAt w5 bg (some ⟨w.heap.size, 0, none⟩) ng) := HB4.out.below b5
    have HC5 : Hid (HandlerAt w5 bq (some ⟨w.heap.size, 0, none⟩) nq) := HC4.out.below b5
    go_wp2_with fail
    refine (outside_at bg _ l false w5 HB5.out.1 (by simp [hz])).mono ?_
    rintro e w6 ⟨rfl, b6⟩
    have b6' : Below w.heap.size w w6 := b5'.trans (b6.mono b5'.size)
    have HC6 : Hid (HandlerAt w6 bq (some ⟨w.heap.size, 0, none⟩) nq) := HC5.out.below b6
    go_wp2_with fail
    refine (outside_at bq _ l false w6 HC6.out.1 (by simp [hz])).mono ?_
    rintro e w7 ⟨rfl, b7⟩
    have b7' : Below w.heap.size w w7 := b6'.trans (b7.mono b6'.size)
    go_wp2
    go_ret
    exact ⟨ret_bool (a := !decide (0 ≤ l)) (by simp; omega), b7'⟩
end Go.Proofs.Qxb6613095a
