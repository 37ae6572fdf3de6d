import Derived.Test.Qxb6613095aDoorEsc
namespace Go.Proofs.Qxb6613095aDoor
open Go.RowKit

theorem esc_len (T : Nat → Int) (l : List UInt8) : (esc T l).length ≤ 3 * l.length := by
  induction l with
  | nil => simp [esc]
  | cons a l ih =>
    have h : esc T (a :: l) = escB T a ++ esc T l := by simp [esc]
    have hb : (escB T a).length ≤ 3 := by unfold escB; split <;> simp
    rw [h, List.length_append, List.length_cons]
    omega

theorem hx_ne (i : Nat) (h : i < 16) : (hx i == 47) = false := by
  have : ∀ i : Fin 16, (hx i.val == 47) = false := by decide
  exact this ⟨i, h⟩

theorem esc_ends (T : Nat → Int) (h47 : se T 47 = false) (l : List UInt8) : endsSlash (esc T l) = endsSlash l := by
  rcases List.eq_nil_or_concat l with rfl | ⟨l', c, rfl⟩
  · rfl
  · have h : esc T (l' ++ [c]) = esc T l' ++ escB T c := by unfold esc; rw [List.flatMap_append, List.flatMap_singleton]
    rw [List.concat_eq_append, h, ends_snoc]
    unfold escB
    cases hs : se T c with
    | false => simp only [Bool.false_eq_true, if_false]; rw [ends_snoc]
    | true =>
      simp only [if_true]
      have hc : (c == 47) = false := by
        cases h : (c == 47) with
        | false => rfl
        | true =>
          have : c = 47 := by simpa using h
          rw [this, h47] at hs
          cases hs
      rw [hc, show esc T l' ++ [37, hx (c.toNat / 16), hx (c.toNat % 16)] = (esc T l' ++ [37, hx (c.toNat / 16)]) ++ [hx (c.toNat % 16)] by simp, ends_snoc]
      exact hx_ne _ (by omega)

/-- What EscapedPath gives of a URL with that path and no raw path. -/
def escP (T : Nat → Int) (s : ByteArray) : ByteArray := if s.data.toList = [42] then s else ⟨(esc T s.data.toList).toArray⟩

theorem escP_ends (T : Nat → Int) (h47 : se T 47 = false) (s : ByteArray) : endsSlash (escP T s).data.toList = endsSlash s.data.toList := by
  unfold escP
  split
  · rfl
  · exact esc_ends T h47 _

theorem escP_size (T : Nat → Int) (s : ByteArray) : (escP T s).size ≤ 3 * s.size := by
  unfold escP
  split
  · omega
  · have := esc_len T s.data.toList
    rw [← Lib.size_eq] at this
    exact this

theorem escaped_any (T : Nat → Int) (u : Nat) (s : ByteArray) (w : World) (h : Tab T w) (h47 : se T 47 = false) (hs : s.size ≤ 1000000) (h0 : 0 < w.heap.size)
    (hp : w.cell? ⟨u, 4, none⟩ = some (.string s)) (hr : w.cell? ⟨u, 7, none⟩ = some (.string ⟨#[]⟩)) :
    Calls Tryd.prog 22 #[.pointer (some ⟨u, 0, none⟩)] w fun e w' => e = .returned (.string (escP T s)) ∧ Below w.heap.size w w' := by
  have HT : Hid (Tab T w) := h
  clear h
  by_cases hst : s.data.toList = [42]
  · have he : escP T s = s := by unfold escP; rw [if_pos hst]
    have hst' : s = ⟨#[42]⟩ := by
      obtain ⟨⟨l⟩⟩ := s
      have : l = [42] := hst
      rw [this]
    rw [he]
    subst hst'
    clear he
    go_enter Tryd.func22, Tryd.ntmps22
    go_wp2
    go_ret
    exact ⟨rfl, Below.refl _ _⟩
  · have hne : (s.toList == [42]) = false := by
      rw [Lib.toList_data]
      simp [hst]
    have he : escP T s = ⟨(esc T s.data.toList).toArray⟩ := by unfold escP; rw [if_neg hst]
    generalize escP T s = q at he ⊢
    have HQ : Hid (q = ⟨(esc T s.data.toList).toArray⟩) := he
    clear he hst
    go_enter Tryd.func22, Tryd.ntmps22
    go_wp2_with fail
    refine (escape_any T s w HT.out h47 hs h0).mono ?_
    rintro e w1 ⟨⟨t, rfl, _, _, ht⟩, b1⟩
    rw [ht, ← HQ.out]
    clear ht
    go_wp2
    go_ret
    exact ⟨rfl, b1⟩
end Go.Proofs.Qxb6613095aDoor
