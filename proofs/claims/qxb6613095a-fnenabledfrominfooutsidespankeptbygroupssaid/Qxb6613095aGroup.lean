import Derived.Test.Qxb6613095aWalks
import Derived.ArgAppend
namespace Go.Proofs.Qxb6613095a
open Go.RowKit

theorem clip_some (b off n cap : Nat) (w : World) (h : n ≤ cap) (hn : 0 < n) :
    Calls Try.prog 12 #[.slice (some ⟨b, off, none⟩) n cap] w fun e w' => e = .returned (.slice (some ⟨b, off, none⟩) n n) ∧ w = w' := by
  go_enter Try.func12, Try.ntmps12
  go_wp2
  go_ret
  exact ⟨rfl, rfl⟩

theorem clip_nil (w : World) :
    Calls Try.prog 12 #[.slice none 0 0] w fun e w' => e = .returned (.slice none 0 0) ∧ w = w' := by
  go_enter Try.func12, Try.ntmps12
  go_wp2
  go_ret
  exact ⟨rfl, rfl⟩

/-- The groups' slice: nil, or a row of n strings. -/
def Groups (w : World) (v : Value) (n : Nat) : Prop :=
  (v = .slice none 0 0 ∧ n = 0) ∨ ∃ (b off cap : Nat) (ss : List ByteArray), v = .slice (some ⟨b, off, none⟩) n cap ∧ 0 < n ∧ n ≤ cap ∧ ss.length = n ∧ b < w.heap.size ∧ ∀ j u, (ss.map Value.string)[j]? = some u → w.cell? ⟨b, off + j, none⟩ = some u

/-- A handler in memory, as the law makes them: its recorder, no attributes, n groups. -/
def HandlerAt (w : World) (b : Nat) (p : Option Addr) (n : Nat) : Prop :=
  w.cell? ⟨b, 0, none⟩ = some (.pointer p) ∧ w.cell? ⟨b, 1, none⟩ = some (.slice none 0 0) ∧ w.cell? ⟨b, 2, none⟩ = some (.slice none 0 0) ∧ w.cell? ⟨b, 4, none⟩ = some (.int .i64 0) ∧
    ∃ v, w.cell? ⟨b, 3, none⟩ = some v ∧ Groups w v n

theorem Groups.below {w w' : World} {v : Value} {n : Nat} (h : Groups w v n) (hb : Below w.heap.size w w') : Groups w' v n := by
  rcases h with h | ⟨b, off, cap, ss, e1, e2, e3, e4, e5, hc⟩
  · exact .inl h
  · exact .inr ⟨b, off, cap, ss, e1, e2, e3, e4, Nat.lt_of_lt_of_le e5 hb.size, fun j u hu => (hb.cell (p := ⟨b, off + j, none⟩) e5).trans (hc j u hu)⟩

theorem HandlerAt.below {w w' : World} {b : Nat} {p : Option Addr} {n : Nat} (h : HandlerAt w b p n) (hb : Below w.heap.size w w') : HandlerAt w' b p n := by
  obtain ⟨h0, h1, h2, h4, v, h3, hg⟩ := h
  have hlt : b < w.heap.size := block_lt_of_cell h0
  have k : ∀ o, w'.cell? ⟨b, o, none⟩ = w.cell? ⟨b, o, none⟩ := fun o => hb.cell (p := ⟨b, o, none⟩) hlt
  exact ⟨(k 0).trans h0, (k 1).trans h1, (k 2).trans h2, (k 4).trans h4, v, (k 3).trans h3, hg.below hb⟩

theorem info9 : (Try.prog.info? 9).map (fun i => (i.zero, i.size, i.bytes)) = some (some (.string ByteArray.empty), 1, 16) := by kernel_rfl

theorem withGroup_empty (b : Nat) (w : World) :
    Calls Try.prog 9 #[.pointer (some ⟨b, 0, none⟩), .string ⟨#[]⟩] w fun e w' => e = .returned (.iface 25 (.pointer (some ⟨b, 0, none⟩))) ∧ w = w' := by
  go_enter Try.func9, Try.ntmps9
  go_wp2
  go_ret
  exact ⟨rfl, rfl⟩

theorem handler_new (w : World) (p : Option Addr) (v : Value) (n : Nat) (h : Groups w v n) :
    HandlerAt (w.alloc (.cells #[.pointer p, .slice none 0 0, .slice none 0 0, v, .int .i64 0] 82)) w.heap.size p n := by
  have k : ∀ o, (w.alloc (.cells #[.pointer p, .slice none 0 0, .slice none 0 0, v, .int .i64 0] 82)).cell? ⟨w.heap.size, o, none⟩ = (#[.pointer p, .slice none 0 0, .slice none 0 0, v, .int .i64 0] : Array Value)[o]? := fun o => World.cell?_alloc_mark w _ 82 (0, 0) o
  exact ⟨k 0, k 1, k 2, k 4, v, k 3, h.below ((Below.refl _ _).alloc (Nat.le_refl _) _)⟩

/-- What an owned row of strings gives. -/
theorem Groups.own {w : World} {base n : Nat} {v : Value} {ss : List ByteArray} (h : w.ownsRow base 9 1 v n (ss.map Value.string)) (hn : 0 < n) : Groups w v n ∧ ∃ g cap, v = .slice (some ⟨g, 0, none⟩) n cap := by
  have hl : ss.length = n := by have := h.1; simpa using this
  rcases h.2 with ⟨_, h0⟩ | ⟨g, cap, cur, rfl, _, hg, hc, _⟩
  · omega
  · refine ⟨.inr ⟨g, 0, cap, ss, rfl, hn, hc, hl, (Array.getElem?_eq_some_iff.1 hg).1, fun j u hu => ?_⟩, g, cap, rfl⟩
    have hj : j < n := by
      have := (List.getElem?_eq_some_iff.1 hu).1
      simp at this
      omega
    rw [Nat.zero_add, h.cellAt j (by omega), hu]

theorem one_string (w : World) (s : ByteArray) : ∀ j u, [Value.string s][j]? = some u → (w.alloc (.cells #[.string s] 9)).cell? ((⟨w.heap.size, 0, none⟩ : Addr).add j) = some u := by
  intro j u hj
  match j, hj with
  | 0, hj => simp at hj; subst hj; simp [Addr.add]

set_option maxRecDepth 100000 in
theorem withGroup_nil (b : Nat) (p : Option Addr) (s : ByteArray) (w : World) (hs : s.toList.isEmpty = false)
    (h0 : w.cell? ⟨b, 0, none⟩ = some (.pointer p)) (h1 : w.cell? ⟨b, 1, none⟩ = some (.slice none 0 0)) (h2 : w.cell? ⟨b, 2, none⟩ = some (.slice none 0 0)) (h3 : w.cell? ⟨b, 3, none⟩ = some (.slice none 0 0)) (h4 : w.cell? ⟨b, 4, none⟩ = some (.int .i64 0)) :
    Calls Try.prog 9 #[.pointer (some ⟨b, 0, none⟩), .string s] w fun e w' => ∃ b', e = .returned (.iface 25 (.pointer (some ⟨b', 0, none⟩))) ∧ HandlerAt w' b' p 1 ∧ Below w.heap.size w w' := by
  obtain ⟨i0, hi, hz0, hz1, hz2⟩ := info_parts info9
  have hlt := block_lt_of_cell h0
  have hns := one_string w s
  go_enter Try.func9, Try.ntmps9
  go_wp2_with (first
    | (go_at_call 12; refine (clip_nil _).mono ?_; rintro e w' ⟨rfl, rfl⟩)
    | (at_builtin; refine wpList_append_grows _ rfl (.tmp 15) (.tmp 17) 80 rfl 9 i0 (.string ByteArray.empty) 1 16 Try.underlying80 hi hz0 hz1 hz2 rfl (by decide) none 0 0 [] rfl (fun _ => ⟨rfl, rfl⟩) rfl (fun _ h => by cases h) ⟨w.heap.size, 0, none⟩ 1 1 [.string s] rfl rfl hns (by intro u hu; simp at hu; subst hu; rfl) (by omega) (by unfold maxLen; omega) (by omega) ?_))
  intro v' w1 hown hgrow
  have hb1 : Below w.heap.size w w1 := ((Below.refl _ _).alloc (Nat.le_refl _) _).grown hgrow (by simp) (by simp)
  have hz : w.heap.size < w1.heap.size := by have := hgrow.size; simp at this; omega
  obtain ⟨hG, g, cap, hv⟩ := Groups.own (ss := [s]) hown (by omega)
  have hlt' : b < w.heap.size := hlt
  have k : ∀ o, w1.cell? ⟨b, o, none⟩ = w.cell? ⟨b, o, none⟩ := fun o => hb1.cell (p := ⟨b, o, none⟩) hlt'
  have k0 := (k 0).trans h0
  have k1 := (k 1).trans h1
  have k2 := (k 2).trans h2
  have k3 := (k 3).trans h3
  have k4 := (k 4).trans h4
  rw [hv]
  have HG : Hid (Groups w1 (.slice (some ⟨g, 0, none⟩) 1 cap) 1) := by rw [← hv]; exact hG
  clear hG hown hgrow hv h0 h1 h2 h3 h4 hns k
  go_wp2
  go_ret
  exact ⟨_, rfl, handler_new _ _ _ _ HG.out, hb1.alloc (by omega) _⟩

set_option maxRecDepth 100000 in
theorem withGroup_one (b : Nat) (p : Option Addr) (s : ByteArray) (w : World) (hs : s.toList.isEmpty = false) (gb goff gcap : Nat) (g1 : ByteArray) (hgc : 1 ≤ gcap) (hgb : gb < w.heap.size) (hg1 : w.cell? ⟨gb, goff, none⟩ = some (.string g1))
    (h0 : w.cell? ⟨b, 0, none⟩ = some (.pointer p)) (h1 : w.cell? ⟨b, 1, none⟩ = some (.slice none 0 0)) (h2 : w.cell? ⟨b, 2, none⟩ = some (.slice none 0 0)) (h3 : w.cell? ⟨b, 3, none⟩ = some (.slice (some ⟨gb, goff, none⟩) 1 gcap)) (h4 : w.cell? ⟨b, 4, none⟩ = some (.int .i64 0)) :
    Calls Try.prog 9 #[.pointer (some ⟨b, 0, none⟩), .string s] w fun e w' => ∃ b', e = .returned (.iface 25 (.pointer (some ⟨b', 0, none⟩))) ∧ HandlerAt w' b' p 2 ∧ Below w.heap.size w w' := by
  obtain ⟨i0, hi, hz0, hz1, hz2⟩ := info_parts info9
  have hlt := block_lt_of_cell h0
  have hns := one_string w s
  have hol : ∀ x, some (⟨gb, goff, none⟩ : Addr) = some x → ∀ j u, [Value.string g1][j]? = some u → (w.alloc (.cells #[.string s] 9)).cell? (x.add j) = some u := by
    intro x hx j u hj
    obtain rfl := Option.some.inj hx
    match j, hj with
    | 0, hj =>
      simp at hj
      subst hj
      have : ((⟨gb, goff, none⟩ : Addr).add 0) = ⟨gb, goff, none⟩ := by simp [Addr.add]
      rw [this, World.cell?_alloc_lt w _ _ hgb]
      exact hg1
  go_enter Try.func9, Try.ntmps9
  go_wp2_with (first
    | (go_at_call 12; refine (clip_some _ _ _ _ _ hgc (by omega)).mono ?_; rintro e w' ⟨rfl, rfl⟩)
    | (at_builtin; refine wpList_append_grows _ rfl (.tmp 15) (.tmp 17) 80 rfl 9 i0 (.string ByteArray.empty) 1 16 Try.underlying80 hi hz0 hz1 hz2 rfl (by decide) (some ⟨gb, goff, none⟩) 1 1 [.string g1] rfl (fun h => by cases h) rfl hol ⟨w.heap.size, 0, none⟩ 1 1 [.string s] rfl rfl hns (by intro u hu; simp at hu; subst hu; rfl) (by omega) (by unfold maxLen; omega) (by omega) ?_))
  intro v' w1 hown hgrow
  have hb1 : Below w.heap.size w w1 := ((Below.refl _ _).alloc (Nat.le_refl _) _).grown hgrow (by simp) (by simp)
  have hz : w.heap.size < w1.heap.size := by have := hgrow.size; simp at this; omega
  obtain ⟨hG, g, cap, hv⟩ := Groups.own (ss := [g1, s]) hown (by omega)
  have hlt' : b < w.heap.size := hlt
  have k : ∀ o, w1.cell? ⟨b, o, none⟩ = w.cell? ⟨b, o, none⟩ := fun o => hb1.cell (p := ⟨b, o, none⟩) hlt'
  have k0 := (k 0).trans h0
  have k1 := (k 1).trans h1
  have k2 := (k 2).trans h2
  have k3 := (k 3).trans h3
  have k4 := (k 4).trans h4
  rw [hv]
  have HG : Hid (Groups w1 (.slice (some ⟨g, 0, none⟩) 2 cap) 2) := by rw [← hv]; exact hG
  clear hG hown hgrow hv h0 h1 h2 h3 h4 hns k hol
  go_wp2
  go_ret
  exact ⟨_, rfl, handler_new _ _ _ _ HG.out, hb1.alloc (by omega) _⟩

/-- 'h.WithGroup(name)' on a handler of no group or one. -/
theorem withGroup_any (b : Nat) (p : Option Addr) (s : ByteArray) (n : Nat) (hn : n < 2) (w : World) (h : HandlerAt w b p n) :
    Calls Try.prog 9 #[.pointer (some ⟨b, 0, none⟩), .string s] w fun e w' => ∃ b' n', n' ≤ n + 1 ∧ e = .returned (.iface 25 (.pointer (some ⟨b', 0, none⟩))) ∧ HandlerAt w' b' p n' ∧ Below w.heap.size w w' := by
  by_cases hs : s = ⟨#[]⟩
  · subst hs
    refine (withGroup_empty b w).mono ?_
    rintro e w' ⟨rfl, rfl⟩
    exact ⟨b, n, by omega, rfl, h, Below.refl _ _⟩
  have hse : s.toList.isEmpty = false := by
    obtain ⟨⟨l⟩⟩ := s
    cases l with
    | nil => exact absurd rfl hs
    | cons a l => simp [ByteArray.toList_eq]
  obtain ⟨h0, h1, h2, h4, v, h3, hg⟩ := h
  rcases hg with ⟨rfl, rfl⟩ | ⟨gb, off, cap, ss, rfl, e2, e3, e4, e5, hc⟩
  · refine (withGroup_nil b p s w hse h0 h1 h2 h3 h4).mono ?_
    rintro e w' ⟨b', rfl, hh, hb⟩
    exact ⟨b', 1, by omega, rfl, hh, hb⟩
  · obtain rfl : n = 1 := by omega
    obtain ⟨g1, rfl⟩ : ∃ g1, ss = [g1] := by
      match ss, e4 with
      | [x], _ => exact ⟨x, rfl⟩
    refine (withGroup_one b p s w hse gb off cap g1 e3 e5 (hc 0 _ rfl) h0 h1 h2 h3 h4).mono ?_
    rintro e w' ⟨b', rfl, hh, hb⟩
    exact ⟨b', 2, by omega, rfl, hh, hb⟩
end Go.Proofs.Qxb6613095a
