import Derived.Test.Qxb6612807aConf
namespace Go.Proofs.Qxb6612807a
open Go.RowKit

theorem StrsAt.below {w w' : World} {ao : Option Addr} {len : Nat} {ss : List ByteArray} (h : StrsAt w ao len ss) (hb : Below w.heap.size w w') : StrsAt w' ao len ss := by
  refine ⟨h.1, ?_⟩
  rcases h.2 with h0 | ⟨b, off, he, hc⟩
  · exact .inl h0
  · exact .inr ⟨b, off, he, fun i hi => (hb.cell (block_lt_of_cell (hc i hi))).trans (hc i hi)⟩

theorem StrsAt.news {w : World} {ao : Option Addr} {len : Nat} {ss : List ByteArray} (h : StrsAt w ao len ss) :
    ∀ ad, ao = some ad → ∀ j u, (ss.map Value.string)[j]? = some u → w.cell? (ad.add j) = some u := by
  intro ad had j u hu
  have hj : j < len := by
    have := (List.getElem?_eq_some_iff.1 hu).1
    simp at this
    have := h.1
    omega
  rcases h.2 with h0 | ⟨b, off, he, hc⟩
  · omega
  · rw [he] at had
    obtain rfl := Option.some.inj had
    rw [Addr.add_lit, hc j hj]
    have hj' : j < ss.length := by rw [h.1]; exact hj
    simp [hj'] at hu
    simp [hj', hu]

theorem strs_oneCell (ss : List ByteArray) : ∀ u ∈ ss.map Value.string, u.oneCell' = true := by
  intro u hu
  obtain ⟨_, _, rfl⟩ := List.mem_map.1 hu
  rfl

/-- A row of strings that the call owns, read as a slice of strings. -/
theorem StrsAt.own {w : World} {base g n cap : Nat} {ss : List ByteArray} (h : w.ownsRow base 9 1 (.slice (some ⟨g, 0, none⟩) n cap) n (ss.map Value.string)) : StrsAt w (some ⟨g, 0, none⟩) n ss := by
  have hl : ss.length = n := by have := h.1; simpa using this
  refine ⟨hl, .inr ⟨g, 0, rfl, fun i hi => ?_⟩⟩
  rw [Nat.zero_add, h.cellAt i (by omega)]
  have hi' : i < ss.length := by omega
  simp [hi']

theorem info9 : (Try.prog.info? 9).map (fun i => (i.zero, i.size, i.bytes)) = some (some (.string ByteArray.empty), 1, 16) := by kernel_rfl

theorem lawA_any (ao : Option Addr) (len cap : Nat) (ss : List ByteArray) (ao2 : Option Addr) (len2 cap2 : Nat) (ss2 : List ByteArray) (w : World) (h : StrsAt w ao len ss) (hm : len ≤ maxLen) (hn : ao = none → len = 0 ∧ cap = 0) (h2 : StrsAt w ao2 len2 ss2) (hm2 : len2 ≤ maxLen) (hn2 : ao2 = none → len2 = 0 ∧ cap2 = 0) :
    Calls Try.prog 3 #[.slice ao len cap, .slice ao2 len2 cap2] w fun e w' => e = .returned (.bool true) ∧ Below w.heap.size w w' := by
  obtain ⟨i0, hi, hz0, hz1, hz2⟩ := info_parts info9
  have HM := hm; have HM2 := hm2
  unfold maxLen at HM HM2
  go_enter Try.func3, Try.ntmps3
  go_wp2_with fail
  refine (bytes2_any _ _ _ _ _ _ _ _ _ h hm h2 hm2).mono ?_
  rintro e w' ⟨⟨b, rfl⟩, rfl⟩
  cases b with
  | false =>
    go_wp2
    go_ret
    exact ⟨rfl, Below.refl _ _⟩
  | true =>
  by_cases hl : (65536 : Int) < len
  · go_wp2
    go_ret
    exact ⟨rfl, Below.refl _ _⟩
  by_cases hl2 : (65536 : Int) < len2
  · go_wp2
    go_ret
    exact ⟨rfl, Below.refl _ _⟩
  go_wp2_with fail
  refine (size_any _ _ _ _ _ _ h hm).mono ?_
  rintro e w1 ⟨⟨n, rfl⟩, rfl⟩
  go_wp2_with fail
  refine (size_any _ _ _ _ _ _ h2 hm2).mono ?_
  rintro e w1 ⟨⟨n2, rfl⟩, rfl⟩
  by_cases hs : 1048576 < n2
  · go_wp2
    go_ret
    exact ⟨rfl, Below.refl _ _⟩
  have hbb : i0.bytes * (len + len2) ≤ 281474976710656 := by rw [hz2]; omega
  have hmm : len + len2 ≤ maxLen := by unfold maxLen; omega
  have hls := h.1
  have hls2 := h2.1
  go_wp2_with (first
    | (at_make; refine wpList_make_own _ rfl _ _ 22 rfl w.heap.size 9 i0 (.string ByteArray.empty) 1 Try.underlying22 hi hz0 hz1 _ _ _ (len + len2) rfl rfl (by omega) hbb hmm (Nat.le_refl _) ?_; intro w1 hown1 hgrow1; have hb1 : Below w.heap.size w w1 := (Below.refl _ _).grown hgrow1 (Nat.le_refl _) (by simp); have h1 := h.below hb1)
    | (at_builtin; refine wpList_append_fits_any _ rfl (.tmp 33) (.tmp 34) 22 rfl w.heap.size 9 i0 1 Try.underlying22 hi hz1 w.heap.size 0 (len + len2) [] rfl hown1 ao len cap (ss.map Value.string) rfl (by simp [hls]) hn h1.news (strs_oneCell _) (by omega) ?_; intro w2 hown2 hgrow2; simp only [Nat.zero_add, List.nil_append] at hown2; have hb2 : Below w.heap.size w w2 := hb1.grown hgrow2 hb1.size (by simp); have h12 := h2.below hb2)
    | (at_builtin; refine wpList_append_fits_any _ rfl (.tmp 36) (.tmp 37) 22 rfl w.heap.size 9 i0 1 Try.underlying22 hi hz1 w.heap.size len (len + len2) (ss.map Value.string) rfl hown2 ao2 len2 cap2 (ss2.map Value.string) rfl (by simp [hls2]) hn2 h12.news (strs_oneCell _) (by omega) ?_; intro w3 hown3 hgrow3; have hb3 : Below w.heap.size w w3 := hb2.grown hgrow3 hb2.size (by simp)))
  clear hown1 hown2 hgrow1 hgrow2 hgrow3 h12 h1 hb1 hb2 hbb hmm hi hz0 hz1 hz2
  have h3 := h.below hb3
  rw [← List.map_append] at hown3
  have hj3 := StrsAt.own hown3
  have hm3 := h2.below hb3
  clear hown3
  refine (conf_any _ _ _ _ _ h3 (by omega)).mono ?_
  rintro e w4 ⟨rfl, c4, b4⟩
  go_wp2_with fail
  refine (answerOffer_any _ _ _ ss _ hls c4).mono ?_
  rintro e w' ⟨rfl, rfl⟩
  have b4' : Below w.heap.size w w4 := hb3.trans (b4.mono hb3.size)
  have hj4 := hj3.below b4
  clear hj3 c4 h3 hm3
  go_wp2_with fail
  refine (conf_any _ _ _ _ _ hj4 (by omega)).mono ?_
  rintro e w5 ⟨rfl, c5, b5⟩
  go_wp2_with fail
  refine (answerOffer_any _ _ _ _ _ hj4.1 c5).mono ?_
  rintro e w' ⟨rfl, rfl⟩
  have b5' : Below w.heap.size w w5 := b4'.trans (b5.mono b4'.size)
  have hm5 := h2.below b5'
  clear hj4 c5
  go_wp2_with fail
  refine (conf_any _ _ _ _ _ hm5 (by omega)).mono ?_
  rintro e w6 ⟨rfl, c6, b6⟩
  go_wp2_with fail
  refine (answerOffer_any _ _ _ ss2 _ hls2 c6).mono ?_
  rintro e w' ⟨rfl, rfl⟩
  have b6' : Below w.heap.size w w6 := b5'.trans (b6.mono b5'.size)
  have h6 := h.below b6'
  have hm6 := h2.below b6'
  clear c6 hm5
  by_cases hp : (0 : Int) < (len : Int)
  · have ej : firstOff (ss ++ ss2) = firstOff ss := by
      cases ss with
      | nil => simp at hls; omega
      | cons s t => rfl
    rw [ej]
    clear ej
    go_wp2_with fail
    refine (firstIsOffer_any _ _ _ _ _ h6).mono ?_
    rintro e w' ⟨rfl, rfl⟩
    go_wp2_with fail
    refine (firstIsOffer_any _ _ _ _ _ hm6).mono ?_
    rintro e w' ⟨rfl, rfl⟩
    go_wp2
    go_ret
    exact ⟨ret_bool (by simp), b6'⟩
  · have ej : firstOff (ss ++ ss2) = firstOff ss2 := by
      cases ss with
      | nil => rfl
      | cons s t => simp at hls; omega
    rw [ej]
    clear ej
    go_wp2_with fail
    refine (firstIsOffer_any _ _ _ _ _ h6).mono ?_
    rintro e w' ⟨rfl, rfl⟩
    go_wp2_with fail
    refine (firstIsOffer_any _ _ _ _ _ hm6).mono ?_
    rintro e w' ⟨rfl, rfl⟩
    go_wp2
    go_ret
    exact ⟨ret_bool (by simp), b6'⟩
end Go.Proofs.Qxb6612807a
