import Derived.Test.Qxb6612807aLawA
import Derived.BigQuiet
import Derived.WalkSmall
namespace Go.Proofs.Qxb6612807a
open Go.RowKit

theorem isOffer_q (s : ByteArray) (w : World) (n : Nat) :
    Calls Try.prog 11 #[.string s] (w.drewN n) fun e w'' => e = .returned (.bool (isOff s)) ∧ ∃ m, w'' = w.drewN m :=
  Calls.quiet_of_same ((isOfferCode_any s _).mono fun _ _ h => ⟨h.1, h.2.symm⟩)

theorem ofOffer_c (g off : Nat) (s : ByteArray) (c : Bool) (w : World) (hc : w.cell? ⟨g, off + 7, none⟩ = some (.string s)) (hs : isOff s = c) :
    Calls Try.prog 12 #[.pointer (some ⟨g, off, none⟩)] w fun e w' => e = .returned (.bool c) ∧ w = w' := by
  subst hs; exact ofOffer_any g off s w hc

/-- Do the first k rows all say yes, each of them saying c? Does one of them? -/
def evc (c : Bool) (k : Nat) : Bool := k == 0 || c
def smc (c : Bool) (k : Nat) : Bool := !(k == 0) && c

theorem firstOff_smc (ss : List ByteArray) (c : Bool) (hc : c = isOff (ss.getD 0 ByteArray.empty)) : firstOff ss = smc c ss.length := by
  cases ss with
  | nil => rfl
  | cons s t => subst hc; simp [firstOff, smc, List.getD]

theorem lawB_any (ao : Option Addr) (len cap : Nat) (ss : List ByteArray) (w : World) (h : StrsAt w ao len ss) (hm : len ≤ maxLen) :
    Calls Try.prog 4 #[.slice ao len cap] w fun e w' => e = .returned (.bool true) ∧ Below w.heap.size w w' := by
  have HM := hm
  unfold maxLen at HM
  have hls := h.1
  go_enter Try.func4, Try.ntmps4
  go_wp2_with fail
  refine (bytes1_any _ _ _ _ _ h hm).mono ?_
  rintro e w' ⟨⟨b, rfl⟩, rfl⟩
  cases b with
  | false =>
    go_wp2
    go_ret
    exact ⟨rfl, Below.refl _ _⟩
  | true =>
  by_cases hl : (65536 : Int) < len
  · go_wp2
    go_ret
    exact ⟨rfl, Below.refl _ _⟩
  go_wp2_with fail
  refine (size_any _ _ _ _ _ _ h hm).mono ?_
  rintro e w1 ⟨⟨n, rfl⟩, rfl⟩
  by_cases hs : 1048576 < n
  · go_wp2
    go_ret
    exact ⟨rfl, Below.refl _ _⟩
  go_wp2_with fail
  go_loopw [3] (fun i wr => ∃ k : Nat, 1 ≤ k ∧ k ≤ len + 1 ∧ i = .int .i64 k ∧ Below w.heap.size w wr ∧ ∀ j, j < k → j < len → isOff (ss.getD j ByteArray.empty) = isOff (ss.getD 0 ByteArray.empty)) (fun i _ => len + 1 - (intOf i).toNat)
  case atStart => exact ⟨1, Nat.le_refl _, by omega, rfl, Below.refl _ _, fun j hj _ => by rw [show j = 0 by omega]⟩
  case round =>
    obtain ⟨k, hk1, hk, rfl, hbel, hall⟩ := hrel
    have h := h.below hbel
    by_cases hlt : k < len
    · obtain ⟨_, h⟩ := h
      rcases h with h | ⟨b, off, rfl, hc⟩
      · omega
      obtain ⟨s, hs⟩ : ∃ s, s = ss.getD k ByteArray.empty := ⟨_, rfl⟩
      obtain ⟨s0, hs0⟩ : ∃ s, s = ss.getD 0 ByteArray.empty := ⟨_, rfl⟩
      have hck := hc k hlt
      have hc0 := hc 0 (by omega)
      rw [Nat.add_zero, ← hs0] at hc0
      rw [← hs] at hck
      clear hc
      have HA : Hid (isOff s = isOff s0 → ∀ j, j < k + 1 → j < len → isOff (ss.getD j ByteArray.empty) = isOff (ss.getD 0 ByteArray.empty)) := by
        intro he j hj hjl
        by_cases hjk : j = k
        · subst hjk; rw [← hs, ← hs0, he]
        · exact hall j (by omega) hjl
      clear hall hs hs0 hls
      have hp : (0 : Int) < len := by omega
      go_wp2
      go_quiet ((go_at_call 11; exact isOffer_q _ _ _))
      go_wp2
      · go_ret
        exact ⟨rfl, below_drewN hbel _⟩
      · have he : (!isOff s == isOff s0) = false := by assumption
        go_roundw
        case rel => exact ⟨k + 1, by omega, by omega, by go_num, below_drewN hbel _, HA.out (by simpa using he)⟩
        case measure => simp [intOf]; omega
    · obtain ⟨c, hcc⟩ : ∃ c, c = isOff (ss.getD 0 ByteArray.empty) := ⟨_, rfl⟩
      have hall' : Hid (∀ j, j < len → isOff (ss.getD j ByteArray.empty) = c) := fun j hj => by rw [hcc]; exact hall j (by omega) hj
      have hfo : Hid (firstOff ss = smc c len) := by rw [← hls]; exact firstOff_smc ss c hcc
      clear hall hcc
      go_wp2_with fail
      refine (conf_any _ _ _ _ _ h (by omega)).mono ?_
      rintro e w2 ⟨rfl, c2, b2⟩
      have b2' : Below w.heap.size w w2 := hbel.trans (b2.mono hbel.size)
      have h2 := h.below b2
      go_wp2_with fail
      refine (answerOffer_any _ _ _ _ _ hls c2).mono ?_
      rintro e w' ⟨rfl, rfl⟩
      rw [hfo.out]
      go_wp2_with fail
      go_loop [6, 7, 8] (fun ev sm i => ∃ k : Nat, k ≤ len ∧ i = .int .i64 k ∧ ev = .bool (evc c k) ∧ sm = .bool (smc c k)) (fun _ _ i => len - (intOf i).toNat)
      case atStart => exact ⟨0, Nat.zero_le _, rfl, rfl, rfl⟩
      case round =>
        obtain ⟨k, hk, rfl, rfl, rfl⟩ := hrel
        by_cases hlt : k < len
        · have hsk := hall'.out k hlt
          have hck := c2 k hlt
          generalize ss.getD k ByteArray.empty = s at hsk hck
          have HS : Hid (isOff s = c) := hsk
          clear hsk
          cases c with
          | true =>
            go_wp2_with (go_at_call 12; refine (ofOffer_c _ _ s true _ hck HS.out).mono ?_; rintro e w' ⟨rfl, rfl⟩)
            go_round
            case rel => exact ⟨k + 1, by omega, by go_num, by simp [evc], by simp [smc]⟩
            case measure => simp [intOf]; omega
          | false =>
            go_wp2_with (go_at_call 12; refine (ofOffer_c _ _ s false _ hck HS.out).mono ?_; rintro e w' ⟨rfl, rfl⟩)
            go_round
            case rel => exact ⟨k + 1, by omega, by go_num, by simp [evc], by simp [smc]⟩
            case measure => simp [intOf]; omega
        · obtain rfl : k = len := by omega
          go_wp2_with fail
          refine (firstIsOffer_any _ _ _ _ _ h2).mono ?_
          rintro e w' ⟨rfl, rfl⟩
          rw [hfo.out]
          by_cases h0 : k = 0
          · have hp : ¬ (0 : Int) < (k : Int) := by omega
            have e1 : smc c k = false := by simp [smc, h0]
            have e2 : evc c k = true := by simp [evc, h0]
            rw [e1, e2]
            clear e1 e2 h0
            go_wp2
            go_ret
            exact ⟨rfl, b2'⟩
          · have hp : (0 : Int) < (k : Int) := by omega
            have e1 : smc c k = c := by simp [smc, h0]
            have e2 : evc c k = c := by simp [evc, h0]
            rw [e1, e2]
            clear e1 e2 h0
            cases c with
            | true =>
              go_wp2
              go_ret
              exact ⟨rfl, b2'⟩
            | false =>
              go_wp2
              go_ret
              exact ⟨rfl, b2'⟩
end Go.Proofs.Qxb6612807a
