import Derived.Test.Qxb6613457aApply
namespace Go.Proofs.Qxb6613457a
open Go.RowKit

def mloc : Option (Nat × Int) → Int × Int
  | some p => (4, p.2)
  | none => (-1, 0)

/-- Where a key sits, and its value. -/
def loc (k : Int) (s : Ls × Ls) : Int × Int :=
  match look k s.1 0 with
  | some p => ((p.1 : Nat), p.2)
  | none => mloc (look k s.2 0)

set_option maxHeartbeats 1000000 in
theorem locate_hit (b : Nat) (inl : Ls) (mb : Option Nat) (L : Ls) (k : Int) (w : World) (h : RV w b inl mb L) (n : Nat) (x : Int) (hn : n < inl.length) (hx : inl[n]? = some (k, x)) (hf : ∀ j, j < n → ∀ p, inl[j]? = some p → p.1 ≠ k) :
    Calls Try.prog 15 #[.pointer (some ⟨b, 0, none⟩), .int .i64 k] w fun e w' => e = .returned (.tuple #[.int .i64 n, .int .i64 x]) ∧ w = w' := by
  have hlen := h.len
  generalize hlp : inl.length = len at *
  have hlp : Hid (inl.length = len) := hlp
  go_enter Try.func15, Try.ntmps15
  go_wp2_with fail
  refine (n_any b inl mb L w h).mono ?_
  rintro e w' ⟨rfl, rfl⟩
  rw [hlp.out]
  go_wp2_with fail
  go_loop [7] (fun i => ∃ t : Nat, t ≤ n ∧ i = .int .i64 t) (fun i => n + 1 - (intOf i).toNat)
  case atStart => exact ⟨0, Nat.zero_le _, rfl⟩
  case round =>
    obtain ⟨t, ht, rfl⟩ := hrel
    by_cases htn : t < n
    · obtain ⟨p, hp⟩ : ∃ p, inl[t]? = some p := ⟨inl[t]'(by have := hlp.out; omega), List.getElem?_eq_getElem _⟩
      have hne : (p.1 == k) = false := by simpa using hf t htn p hp
      have hin := inline_some b inl mb L w h t p hp
      clear hf hx hp h
      go_wp2_with fail
      refine hin.mono ?_
      rintro e w' ⟨rfl, rfl⟩
      go_wp2
      go_round
      case rel => exact ⟨t + 1, by omega, by go_num⟩
      case measure => simp [intOf]; omega
    · obtain rfl : t = n := by omega
      have hin := inline_some b inl mb L w h t _ hx
      clear hf hx h
      go_wp2_with fail
      refine hin.mono ?_
      rintro e w' ⟨rfl, rfl⟩
      go_wp2
      go_ret2
      exact ⟨rfl, rfl⟩

set_option maxHeartbeats 1000000 in
theorem locate_miss (b : Nat) (inl : Ls) (mb : Option Nat) (L : Ls) (k : Int) (w : World) (h : RV w b inl mb L) (hf : ∀ p ∈ inl, p.1 ≠ k) (x : Option (Nat × Int)) (hx : look k L 0 = x) :
    Calls Try.prog 15 #[.pointer (some ⟨b, 0, none⟩), .int .i64 k] w fun e w' => e = .returned (.tuple #[.int .i64 (mloc x).1, .int .i64 (mloc x).2]) ∧ w = w' := by
  have hlen := h.len
  generalize hlp : inl.length = len at *
  have hlp : Hid (inl.length = len) := hlp
  go_enter Try.func15, Try.ntmps15
  go_wp2_with fail
  refine (n_any b inl mb L w h).mono ?_
  rintro e w' ⟨rfl, rfl⟩
  rw [hlp.out]
  go_wp2_with fail
  go_loop [7] (fun i => ∃ t : Nat, t ≤ len ∧ i = .int .i64 t) (fun i => len + 1 - (intOf i).toNat)
  case atStart => exact ⟨0, Nat.zero_le _, rfl⟩
  case round =>
    obtain ⟨t, ht, rfl⟩ := hrel
    by_cases htn : t < len
    · obtain ⟨p, hp⟩ : ∃ p, inl[t]? = some p := ⟨inl[t]'(by have := hlp.out; omega), List.getElem?_eq_getElem _⟩
      have hne : (p.1 == k) = false := by simpa using hf p (List.mem_of_getElem? hp)
      have hin := inline_some b inl mb L w h t p hp
      clear hf hx hp h
      go_wp2_with fail
      refine hin.mono ?_
      rintro e w' ⟨rfl, rfl⟩
      go_wp2
      go_round
      case rel => exact ⟨t + 1, by omega, by go_num⟩
      case measure => simp [intOf]; omega
    · cases x with
      | none =>
        have hin := get_none b inl mb L k w h hx
        clear hf hx h
        go_wp2_with fail
        refine hin.mono ?_
        rintro e w' ⟨rfl, rfl⟩
        go_wp2
        go_ret2
        exact ⟨rfl, rfl⟩
      | some p =>
        have hin := get_some b inl mb L k w h p.1 p.2 hx
        clear hf hx h
        go_wp2_with fail
        refine hin.mono ?_
        rintro e w' ⟨rfl, rfl⟩
        go_wp2
        go_ret2
        exact ⟨rfl, rfl⟩

theorem locate_any (b : Nat) (s : Ls × Ls) (mb : Option Nat) (k : Int) (w : World) (h : RV w b s.1 mb s.2) :
    Calls Try.prog 15 #[.pointer (some ⟨b, 0, none⟩), .int .i64 k] w fun e w' => e = .returned (.tuple #[.int .i64 (loc k s).1, .int .i64 (loc k s).2]) ∧ w = w' := by
  rcases look_spec k 0 s.1 0 with ⟨h1, h2, h3⟩ | ⟨n, x, h1, h2, h3, h4⟩
  · refine (locate_miss b s.1 mb s.2 k w h h3 _ rfl).mono ?_
    rintro e w' ⟨rfl, rfl⟩
    refine ⟨?_, rfl⟩
    unfold loc
    rw [h1]
  · refine (locate_hit b s.1 mb s.2 k w h n x h2 h3 (look_first k s.1 0 n x h1)).mono ?_
    rintro e w' ⟨rfl, rfl⟩
    refine ⟨?_, rfl⟩
    unfold loc
    rw [h1]
    simp

/-- The value that the last call with the key set; 0 if there is none. -/
def lastv (cs : Ls) (k : Int) : Nat → Int
  | 0 => 0
  | n + 1 => if (cs.getD n (0, 0)).1 == k then (cs.getD n (0, 0)).2 else lastv cs k n

theorem last_any (ao : Option Addr) (len cap : Nat) (cs : Ls) (k : Int) (w : World) (hc : CallsAt w ao len cs) (hm : len ≤ maxLen) :
    Calls Try.prog 10 #[.slice ao len cap, .int .i64 k] w fun e w' => e = .returned (.int .i64 (lastv cs k len)) ∧ w = w' := by
  unfold maxLen at hm
  obtain ⟨hl, hc⟩ := hc
  go_enter Try.func10, Try.ntmps10
  go_wp2
  go_loop [5] (fun i => ∃ t : Nat, t ≤ len ∧ i = .int .i64 ((t : Int) - 1) ∧ lastv cs k t = lastv cs k len) (fun i => (intOf i + 1).toNat)
  case atStart => exact ⟨len, Nat.le_refl _, by go_num, rfl⟩
  case round =>
    obtain ⟨t, ht, rfl, hv⟩ := hrel
    cases t with
    | zero =>
      have hv0 : lastv cs k len = 0 := hv.symm
      clear hv
      go_wp2
      go_ret
      exact ⟨rfl, rfl⟩
    | succ t =>
      rcases hc with hc | ⟨cb, off, rfl, hc⟩
      · omega
      obtain ⟨hc1, hc2⟩ := hc t (by omega)
      have e1 : ((t + 1 : Nat) : Int) - 1 = t := by omega
      rw [e1]
      simp only [lastv] at hv
      clear hc e1
      generalize cs.getD t (0, 0) = p at *
      obtain ⟨x, y⟩ := p
      simp only at hc1 hc2 hv
      by_cases hx : x = k
      · have hxb : (x == k) = true := by simpa using hx
        rw [if_pos hxb] at hv
        go_wp2
        go_ret
        exact ⟨rfl, rfl⟩
      · have hxb : (x == k) = false := by simpa using hx
        rw [hxb] at hv
        simp only [Bool.false_eq_true, if_false] at hv
        have hv : Hid _ := hv
        go_wp2
        go_round
        case rel => exact ⟨t, by omega, by go_num, hv.out⟩
        case measure => simp [intOf]

def AnyB (e : Ending) : Prop := ∃ x : Bool, e = .returned (.bool x)

theorem bytes5_any (ao : Option Addr) (len cap : Nat) (w : World) (hm : len ≤ maxLen) :
    Calls Try.prog 5 #[.slice ao len cap] w fun e w' => AnyB e ∧ w = w' := by
  unfold maxLen at hm
  go_enter Try.func5, Try.ntmps5
  by_cases h : 1048576 < len
  · go_wp2
    go_ret
    exact ⟨⟨_, rfl⟩, rfl⟩
  · go_wp2
    go_ret
    exact ⟨⟨_, rfl⟩, rfl⟩

theorem bytes14_any (ao : Option Addr) (len cap : Nat) (x y : Int) (w : World) (hm : len ≤ maxLen) :
    Calls Try.prog 14 #[.slice ao len cap, .int .i64 x, .int .i64 y] w fun e w' => AnyB e ∧ w = w' := by
  unfold maxLen at hm
  go_enter Try.func14, Try.ntmps14
  by_cases h : 1048576 < len
  · go_wp2
    go_ret
    exact ⟨⟨_, rfl⟩, rfl⟩
  · go_wp2
    go_ret
    exact ⟨⟨_, rfl⟩, rfl⟩
end Go.Proofs.Qxb6613457a
