import Derived.Test.Qxb6613095aDoorRoute
import Derived.Deep.RegionWith
namespace Go.Proofs.Qxb6613095aDoor
open Go.RowKit

theorem zzroute_at (T : Nat → Int) (m pat p v : ByteArray) (w : World) (hT : Tab T w) (h47 : se T 47 = false) (hs : p.size ≤ 1000000) (hz : 0 < w.heap.size) (hv : RT m p pat = v) :
    Calls Tryd.prog 7 #[.string m, .string p, .string pat] w fun e w' => e = .returned (.string v) ∧ Below w.heap.size w w' := by
  subst hv; exact zzroute_any T m pat p w hT h47 hs hz

theorem ends_at (s : ByteArray) (b : Bool) (w : World) (hs : s.size ≤ maxLen) (hb : endsSlash s.data.toList = b) :
    Calls Tryd.prog 8 #[.string s] w fun e w' => e = .returned (.bool b) ∧ w = w' := by
  subst hb; exact ends_any s w hs

theorem ba_eq {s t : ByteArray} (h : (s.toList == t.toList) = true) : s = t := by
  rw [Lib.toList_data, Lib.toList_data] at h
  obtain ⟨⟨a⟩⟩ := s
  obtain ⟨⟨b⟩⟩ := t
  have : a = b := by simpa using h
  rw [this]

theorem RT_slashed (p pat : ByteArray) : RT ⟨#[67, 79, 78, 78, 69, 67, 84]⟩ (p ++ ⟨#[47]⟩) pat = pat := by
  unfold RT
  have : endsSlash (p ++ ⟨#[47]⟩).data.toList = true := by
    rw [ByteArray.data_append, Array.toList_append]
    exact ends_snoc _ 47
  rw [this]
  simp

/-- Of a pattern that a client's path could have made: it is rooted and ends in a slash. -/
theorem pat_rooted (p pat : ByteArray) (h : (pat.toList == (clP p ++ ⟨#[47]⟩).toList) = true) : endsSlash pat.data.toList = true ∧ pat.toList.isEmpty = false ∧ ∃ hp : 0 < pat.size, (((pat[0]'hp).toNat : Int) == 47) = true := by
  have e := ba_eq h
  have hd : pat.data.toList = (clP p).data.toList ++ [47] := by
    rw [e, ByteArray.data_append, Array.toList_append]
  have hh : (clP p).data.toList.head? = some 47 := by
    have hj := J_head p
    unfold clP
    split
    · rw [ByteArray.data_append, Array.toList_append, List.head?_append, hj]; rfl
    · exact hj
  have hp : 0 < pat.size := by rw [Lib.size_eq, hd]; simp
  refine ⟨by rw [hd]; exact ends_snoc _ 47, ?_, hp, ?_⟩
  · rw [Lib.toList_data, hd]; simp
  · rw [Lib.Pa.beq47]
    have := Lib.Pa.at_eq pat 0 hp
    rw [hd] at this
    have h0 : ((clP p).data.toList ++ [47])[0]? = some 47 := by
      rw [← List.head?_eq_getElem?, List.head?_append, hh]; rfl
    rw [h0] at this
    have := Option.some.inj this
    rw [← this]; rfl

set_option maxHeartbeats 1000000 in
theorem law_any (T : Nat → Int) (m p pat : ByteArray) (w : World) (hT : Tab T w) (h47 : se T 47 = false) (hz : 0 < w.heap.size) (hm : m.size ≤ maxLen) (hp : p.size ≤ maxLen) (hpat : pat.size ≤ maxLen) :
    Calls Tryd.prog 3 #[.string m, .string p, .string pat] w fun e w' => e = .returned (.bool true) ∧ Below w.heap.size w w' := by
  have HT : Hid (Tab T w) := hT
  clear hT
  have HM := hm; have HP := hp; have HPT := hpat
  unfold maxLen at hm hp hpat
  go_enter Tryd.func3, Tryd.ntmps3
  go_wp2_with fail
  refine (bytes_any m p pat w HM HP HPT).mono ?_
  rintro e w0 ⟨⟨b, rfl⟩, rfl⟩
  cases b with
  | false =>
    go_wp2
    go_ret
    exact ⟨rfl, Below.refl _ _⟩
  | true =>
  by_cases hl1 : (262144 : Int) < m.size
  · go_wp2
    go_ret
    exact ⟨rfl, Below.refl _ _⟩
  by_cases hl2 : (262144 : Int) < p.size
  · go_wp2
    go_ret
    exact ⟨rfl, Below.refl _ _⟩
  by_cases hl3 : (262144 : Int) < pat.size
  · go_wp2
    go_ret
    exact ⟨rfl, Below.refl _ _⟩
  have hsum : ¬ 9223372036854775807 < p.size + 1 := by omega
  have hap : (p ++ (⟨#[47]⟩ : ByteArray)).size ≤ 1000000 := by
    rw [ByteArray.size_append]
    have : (⟨#[47]⟩ : ByteArray).size = 1 := rfl
    omega
  go_wp2_with fail
  refine (zzroute_at T m pat p _ w HT.out h47 (by omega) hz rfl).mono ?_
  rintro e w1 ⟨rfl, b1⟩
  have HT1 : Hid (Tab T w1) := HT.out.below b1 hz
  have hz1 : 0 < w1.heap.size := Nat.lt_of_lt_of_le hz b1.size
  go_wp2_with fail
  refine (zzroute_at T _ pat p _ w1 HT1.out h47 (by omega) hz1 rfl).mono ?_
  rintro e w2 ⟨rfl, b2⟩
  have b2' : Below w.heap.size w w2 := b1.trans (b2.mono b1.size)
  have HT2 : Hid (Tab T w2) := HT1.out.below b2 hz1
  have hz2 : 0 < w2.heap.size := Nat.lt_of_lt_of_le hz1 b2.size
  go_wp2_with fail
  refine (zzroute_at T _ pat _ _ w2 HT2.out h47 hap hz2 (RT_slashed p pat)).mono ?_
  rintro e w3 ⟨rfl, b3⟩
  have b3' : Below w.heap.size w w3 := b2'.trans (b3.mono b2'.size)
  clear b1 b2 b3 b2' HT HT1 HT2 h47 hap
  cases hb : (!endsSlash p.data.toList && (pat.toList == (clP p ++ ⟨#[47]⟩).toList)) with
  | false =>
    have e1 : RT ⟨#[67, 79, 78, 78, 69, 67, 84]⟩ p pat = pat := by unfold RT; rw [hb]; simp
    have e2 : RT m p pat = pat := by unfold RT; rw [hb]; simp
    rw [e1, e2]
    clear e1 e2 hb
    cases hc : (m.toList == [67, 79, 78, 78, 69, 67, 84]) with
    | false =>
      go_wp2
      go_ret
      exact ⟨rfl, b3'⟩
    | true =>
      go_wp2
      go_ret
      exact ⟨rfl, b3'⟩
  | true =>
    have e1 : RT ⟨#[67, 79, 78, 78, 69, 67, 84]⟩ p pat = ⟨#[]⟩ := by
      unfold RT
      rw [hb]
      have : ((⟨#[67, 79, 78, 78, 69, 67, 84]⟩ : ByteArray).toList == [67, 79, 78, 78, 69, 67, 84]) = true := by rw [Lib.toList_data]; rfl
      rw [this]
      rfl
    rw [e1]
    clear e1
    have hbb := hb
    rw [Bool.and_eq_true] at hbb
    obtain ⟨q1, q2, hpp, q3⟩ := pat_rooted p pat hbb.2
    have q4 : endsSlash p.data.toList = false := by simpa using hbb.1
    have HQ1 : Hid (endsSlash pat.data.toList = true) := q1
    have HQ4 : Hid (endsSlash p.data.toList = false) := q4
    cases hc : (m.toList == [67, 79, 78, 78, 69, 67, 84]) with
    | false =>
      have e2 : RT m p pat = pat := by unfold RT; rw [hc]; simp
      rw [e2]
      clear e2 hb hbb q1 q4
      go_wp2_with (first
        | (go_at_call_of 8 (Value.string pat); refine (ends_at pat true _ HPT HQ1.out).mono ?_; rintro e w' ⟨rfl, rfl⟩)
        | (go_at_call_of 8 (Value.string p); refine (ends_at p false _ HP HQ4.out).mono ?_; rintro e w' ⟨rfl, rfl⟩))
      go_ret
      exact ⟨rfl, b3'⟩
    | true =>
      have e2 : RT m p pat = ⟨#[]⟩ := by unfold RT; rw [hc, hb]; rfl
      rw [e2]
      clear e2 hb hbb q1 q4
      go_wp2_with (first
        | (go_at_call_of 8 (Value.string pat); refine (ends_at pat true _ HPT HQ1.out).mono ?_; rintro e w' ⟨rfl, rfl⟩)
        | (go_at_call_of 8 (Value.string p); refine (ends_at p false _ HP HQ4.out).mono ?_; rintro e w' ⟨rfl, rfl⟩))
      go_ret
      exact ⟨rfl, b3'⟩
end Go.Proofs.Qxb6613095aDoor
