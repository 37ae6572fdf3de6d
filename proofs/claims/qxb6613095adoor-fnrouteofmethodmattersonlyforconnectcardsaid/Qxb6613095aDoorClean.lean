import Derived.Test.Qxb6613095aDoorPath
import Derived.Test.Qxb6613095aDoorShelf
import Derived.Lib.CleanLen
import Derived.Lib.CleanSame
import Derived.Lib.JoinSame2
namespace Go.Proofs.Qxb6613095aDoor
open Go.RowKit

/-- What path.Join gives of a slash and p. -/
def J (p : ByteArray) : ByteArray := ⟨(Lib.Pa.join [[47], p.data.toList]).toArray⟩

theorem J_head (p : ByteArray) : (J p).data.toList.head? = some 47 := by
  show (Lib.Pa.join [[47], p.data.toList]).head? = some 47
  unfold Lib.Pa.join
  have hf : ∃ t, [47].intercalate ([[47], p.data.toList].filter (· ≠ [])) = (47 : UInt8) :: t ∧ [[47], p.data.toList].filter (· ≠ []) ≠ [] := by
    by_cases hp : p.data.toList = []
    · rw [hp]; exact ⟨[], by decide, by decide⟩
    · refine ⟨47 :: p.data.toList, ?_, ?_⟩ <;> simp [hp, List.intercalate]
  obtain ⟨t, ht, hne⟩ := hf
  rw [if_neg hne, ht, Lib.Pa.clean_eq_cleanEls]
  unfold Lib.Pa.cleanEls
  simp

theorem J_size (p : ByteArray) : (J p).size ≤ p.size + 3 := by
  have := Lib.Pa.join_length_le [[47], p.data.toList]
  have e : (J p).size = (Lib.Pa.join [[47], p.data.toList]).length := rfl
  have e2 := Lib.size_eq p
  rw [e]
  simp only [Lib.Pa.lens, List.map_cons, List.map_nil, List.sum_cons, List.sum_nil, List.length_cons, List.length_nil] at this
  omega

/-- What cleanPath gives. -/
def clP (p : ByteArray) : ByteArray := if (endsSlash p.data.toList && !((J p).toList == [47])) = true then J p ++ ⟨#[47]⟩ else J p

theorem suffix_at (s : ByteArray) (b : Bool) (w : World) (hs : s.size ≤ maxLen) (hb : endsSlash s.data.toList = b) :
    Calls Tryd.prog 21 #[.string s, .string ⟨#[47]⟩] w fun e w' => e = .returned (.bool b) ∧ w = w' := by
  subst hb; exact suffix_any s w hs

theorem two_cells (w : World) (a b : ByteArray) : ∀ (j : Nat) x, [a, b][j]? = some x → (w.alloc (.cells #[.string a, .string b] 9)).cell? ⟨w.heap.size, 0 + j, none⟩ = some (.string x) := by
  intro j x hx
  have k := World.cell?_alloc_mark w #[.string a, .string b] 9 (0, 0) (0 + j)
  rw [k]
  match j, hx with
  | 0, hx => simp at hx; subst hx; rfl
  | 1, hx => simp at hx; subst hx; rfl

theorem clean_any (p : ByteArray) (w : World) (hs : p.size ≤ 1000000) :
    Calls Tryd.prog 23 #[.string p] w fun e w' => e = .returned (.string (clP p)) ∧ Below w.heap.size w w' := by
  have hsm : p.size ≤ maxLen := by unfold maxLen; omega
  have hlen : Lib.Pa.lens ([⟨#[47]⟩, p].map (·.data.toList)) + 2 ≤ 281474976710656 := by
    have e2 := Lib.size_eq p
    simp only [Lib.Pa.lens, List.map_cons, List.map_nil, List.sum_cons, List.sum_nil, List.length_cons, List.length_nil]
    omega
  have hJ := Tryd.path_Join_rules w.heap.size 0 2 [⟨#[47]⟩, p] (w.alloc (.cells #[.string ⟨#[47]⟩, .string p] 9)) (two_cells w _ _) (by simp) hlen
  have HJ : Hid (Calls Tryd.prog 32 #[.slice (some ⟨w.heap.size, 0, none⟩) 2 2] (w.alloc (.cells #[.string ⟨#[47]⟩, .string p] 9)) fun e w' => e = .returned (.string (J p)) ∧ Below (w.alloc (.cells #[.string ⟨#[47]⟩, .string p] 9)).heap.size (w.alloc (.cells #[.string ⟨#[47]⟩, .string p] 9)) w') := hJ
  clear hJ hlen
  have hjs := J_size p
  unfold clP
  generalize J p = jp at HJ hjs ⊢
  cases hb : endsSlash p.data.toList with
  | false =>
    have HB : Hid (endsSlash p.data.toList = false) := hb
    clear hb
    go_enter Tryd.func23, Tryd.ntmps23
    go_wp2_with fail
    refine HJ.out.mono ?_
    rintro e w1 ⟨rfl, b1⟩
    have b1' : Below w.heap.size w w1 := ((Below.refl _ _).alloc (Nat.le_refl _) _).trans (b1.mono (by simp))
    clear b1
    go_wp2_with (go_at_call 21; refine (suffix_at p false _ hsm HB.out).mono ?_; rintro e w' ⟨rfl, rfl⟩)
    go_ret
    exact ⟨by simp, b1'⟩
  | true =>
    have HB : Hid (endsSlash p.data.toList = true) := hb
    clear hb
    cases hj : (jp.toList == [47]) with
    | true =>
      go_enter Tryd.func23, Tryd.ntmps23
      go_wp2_with fail
      refine HJ.out.mono ?_
      rintro e w1 ⟨rfl, b1⟩
      have b1' : Below w.heap.size w w1 := ((Below.refl _ _).alloc (Nat.le_refl _) _).trans (b1.mono (by simp))
      clear b1
      go_wp2_with (go_at_call 21; refine (suffix_at p true _ hsm HB.out).mono ?_; rintro e w' ⟨rfl, rfl⟩)
      go_ret
      exact ⟨by simp, b1'⟩
    | false =>
      go_enter Tryd.func23, Tryd.ntmps23
      go_wp2_with fail
      refine HJ.out.mono ?_
      rintro e w1 ⟨rfl, b1⟩
      have b1' : Below w.heap.size w w1 := ((Below.refl _ _).alloc (Nat.le_refl _) _).trans (b1.mono (by simp))
      clear b1
      go_wp2_with (go_at_call 21; refine (suffix_at p true _ hsm HB.out).mono ?_; rintro e w' ⟨rfl, rfl⟩)
      go_ret
      exact ⟨by simp, b1'⟩
end Go.Proofs.Qxb6613095aDoor
