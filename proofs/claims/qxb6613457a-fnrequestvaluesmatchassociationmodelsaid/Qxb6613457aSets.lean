import Derived.Test.Qxb6613457aSet
namespace Go.Proofs.Qxb6613457a
open Go.RowKit

abbrev Ls := List (Int × Int)

/-- What 'set' makes of the inline pairs and of the map's. -/
def sets (k v : Int) (s : Ls × Ls) : Ls × Ls :=
  if (look k s.1 0).isSome = true ∨ s.1.length < 4 then (upd k v s.1, s.2) else (s.1, upd k v s.2)

theorem look_first (k : Int) : ∀ (L : Ls) (i n : Nat) (x : Int), look k L i = some (i + n, x) → ∀ j, j < n → ∀ p, L[j]? = some p → p.1 ≠ k
  | [], i, n, x, h => by simp [look] at h
  | q :: L, i, n, x, h => by
    intro j hj p hp
    by_cases hk : k = q.1
    · simp [look, hk] at h
      omega
    · simp only [look, beq_iff_eq, hk, if_false] at h
      cases n with
      | zero => omega
      | succ n =>
        have h' : look k L (i + 1) = some (i + 1 + n, x) := by rw [h]; congr 2; omega
        cases j with
        | zero => simp at hp; subst hp; exact fun e => hk e.symm
        | succ j => exact look_first k L (i + 1) n x h' j (by omega) p (by simpa using hp)

theorem upd_ne (k v : Int) (L : Ls) : upd k v L ≠ [] := by
  cases L with
  | nil => simp [upd]
  | cons p L => simp only [upd]; split <;> simp

/-- What 'set' leaves behind. -/
def Setted (w w' : World) (b : Nat) (inl : Ls) (mb : Option Nat) (L : Ls) (k v : Int) : Prop :=
  ∃ mb', RV w' b (sets k v (inl, L)).1 mb' (sets k v (inl, L)).2 ∧ Keep w w' b mb ∧ ∀ m, mb' = some m → mb = some m ∨ w.heap.size ≤ m

theorem RV.bsize {w : World} {b : Nat} {inl L : Ls} {mb : Option Nat} (h : RV w b inl mb L) : b < w.heap.size := World.block_lt_of_cell? _ _ h.cn

theorem RV.msize {w : World} {b m : Nat} {inl L : Ls} (h : RV w b inl (some m) L) : m < w.heap.size := by
  rcases h.mp with ⟨h1, _⟩ | ⟨m', h1, _, ⟨es, c, h3, _⟩, _⟩
  · cases h1
  · cases h1
    exact (Array.getElem?_eq_some_iff.1 h3).1

theorem set_any (b : Nat) (inl : Ls) (mb : Option Nat) (L : Ls) (k v : Int) (w : World) (h : RV w b inl mb L) :
    Calls Try.prog 17 #[.pointer (some ⟨b, 0, none⟩), .iface 3 (.int .i64 k), .iface 3 (.int .i64 v)] w fun e w' => e = .returned (.tuple #[]) ∧ Setted w w' b inl mb L k v := by
  rcases look_spec k v inl 0 with ⟨h1, h2, h3⟩ | ⟨n, x, h1, h2, h3, h4⟩
  · by_cases hl : inl.length < 4
    · refine (set_new b inl mb L k v w h hl h3).mono fun e w' ⟨he, ht, hw⟩ => ⟨he, mb, ?_, ⟨hw.2.1.trans rfl, ht, hw.2.2.trans rfl, by rw [hw.1]; simp, fun j _ hj _ => ?_⟩, fun m hm => .inl hm⟩
      · have hs : sets k v (inl, L) = (inl ++ [(k, v)], L) := by simp [sets, hl, h2]
        rw [hs]
        exact (h.push k v hl).of_blocks (by rw [hw.1]) (fun m _ => by rw [hw.1])
      · rw [hw.1, Below.heap_setCell _ _ _ j hj, Below.heap_setCell _ _ _ j hj, Below.heap_setCell _ _ _ j hj]
    · have hl4 : inl.length = 4 := by have := h.len; omega
      have hs : sets k v (inl, L) = (inl, upd k v L) := by simp [sets, h1, hl]
      unfold Setted
      rw [hs]
      rcases h.mp with ⟨rfl, rfl⟩ | ⟨m, rfl, hmb, ⟨es, c, hb, hes⟩, _⟩
      · have he0 : Ents (#[] : Array MapEntry).toList [] := rfl
        have hbs := h.bsize
        have hsz : (w.setCell ⟨b, 9, none⟩ (.map (some w.heap.size))).heap.size = w.heap.size := World.size_setCell ..
        have hbX : ((w.setCell ⟨b, 9, none⟩ (.map (some w.heap.size))).alloc (.map #[] 0)).heap[w.heap.size]? = some (.map #[] 0) := by
          simp only [World.alloc]
          rw [Array.getElem?_push, if_pos hsz.symm]
        obtain ⟨es', c', hO, hE⟩ := updO_ents #[] 0 [] he0 k v
        refine (set_first b inl k v w h hl4 h3 _ (update_any w.heap.size #[] 0 [] he0 k v _ hbX)).mono fun e w' ⟨he, hw⟩ => ⟨he, some w.heap.size, ?_, ⟨by rw [hw]; rfl, by rw [hw]; rfl, by rw [hw]; rfl, by rw [hw]; simp [World.alloc], fun j hj hjb _ => ?_⟩, fun m hm => .inr (by cases hm; exact Nat.le_refl _)⟩
        · have hbl : w'.heap[b]? = (w.setCell ⟨b, 9, none⟩ (.map (some w.heap.size))).heap[b]? := by
            rw [hw]
            simp only
            rw [Array.getElem?_setIfInBounds_ne (by omega), Below.heap_alloc _ _ _ (by omega)]
          have c := fun o : Nat => World.cell?_of_block (w := w.setCell ⟨b, 9, none⟩ (.map (some w.heap.size))) (w' := w') (a := ⟨b, o, none⟩) hbl
          have f := fun o : Nat => World.frozen?_of_block (w := w.setCell ⟨b, 9, none⟩ (.map (some w.heap.size))) (w' := w') (a := ⟨b, o, none⟩) hbl
          have o := fun (i : Nat) (hi : i ≠ 9) => World.cell?_setCell_other w (a := ⟨b, 9, none⟩) (b := ⟨b, i, none⟩) (v := .map (some w.heap.size)) (fun e => hi (congrArg Addr.off e).symm)
          refine ⟨h.len, fun i hi => ?_, fun i hi => ?_, ?_, ?_, fun i hi => ?_, .inr ⟨_, rfl, by omega, ⟨es', c', ?_, hE⟩, upd_ne _ _ _⟩⟩
          · rw [c, o _ (by omega), h.ck i hi]
          · rw [c, o _ (by omega), h.cv i hi]
          · rw [c, o _ (by omega), h.cn]
          · rw [c, World.cell?_setCell_same _ _ _ h.cm]
          · rw [f]; simpa using h.fz i hi
          · rw [hw, ← hO]
            simp [World.alloc]
        · rw [hw]
          simp only
          rw [Array.getElem?_setIfInBounds_ne (by omega), Below.heap_alloc _ _ _ (by omega), Below.heap_setCell _ _ _ _ hjb]
      · obtain ⟨es', c', hO, hE⟩ := updO_ents es c L hes k v
        refine (set_more b m inl L k v w h hl4 h3 _ (update_any m es c L hes k v w hb)).mono fun e w' ⟨he, hw⟩ => ⟨he, some m, ?_, ⟨by rw [hw], by rw [hw], by rw [hw], by rw [hw]; simp, fun j hj hjb hjm => ?_⟩, fun m' hm => .inl hm⟩
        · have hbl : w'.heap[b]? = w.heap[b]? := by
            rw [hw]
            simp only
            rw [Array.getElem?_setIfInBounds_ne hmb]
          have c := fun o : Nat => World.cell?_of_block (w := w) (w' := w') (a := ⟨b, o, none⟩) hbl
          have f := fun o : Nat => World.frozen?_of_block (w := w) (w' := w') (a := ⟨b, o, none⟩) hbl
          refine ⟨h.len, fun i hi => (c _).trans (h.ck i hi), fun i hi => (c _).trans (h.cv i hi), (c _).trans h.cn, (c _).trans h.cm, fun i hi => (f _).trans (h.fz i hi), .inr ⟨m, rfl, hmb, ⟨es', c', ?_, hE⟩, upd_ne _ _ _⟩⟩
          rw [hw, ← hO]
          simp [h.msize]
        · rw [hw]
          simp only
          rw [Array.getElem?_setIfInBounds_ne (fun e => hjm (by rw [e]))]
  · have hl := look_first k inl 0 n x h1
    refine (set_hit b inl mb L k v n x w h h2 h3 hl).mono fun e w' ⟨he, hw⟩ => ⟨he, mb, ?_, ⟨by rw [hw]; rfl, by rw [hw]; rfl, by rw [hw]; rfl, by rw [hw]; simp, fun j _ hj _ => ?_⟩, fun m hm => .inl hm⟩
    · have hs : sets k v (inl, L) = (inl.set n (k, v), L) := by simp [sets, h1, h4]
      rw [hs, hw]
      exact h.put n k x v h3
    · rw [hw, Below.heap_setCell _ _ _ j hj]

theorem setInt_any (b : Nat) (inl : Ls) (mb : Option Nat) (L : Ls) (k v : Int) (w : World) (h : RV w b inl mb L) :
    Calls Try.prog 16 #[.pointer (some ⟨b, 0, none⟩), .int .i64 k, .int .i64 v] w fun e w' => e = .returned (.tuple #[]) ∧ Setted w w' b inl mb L k v := by
  have hs := set_any b inl mb L k v w h
  clear h
  go_enter Try.func16, Try.ntmps16
  go_wp2_with fail
  refine hs.mono fun e w' ⟨he, hw⟩ => ?_
  subst he
  go_wp2
  go_end0
  exact ⟨rfl, hw⟩

theorem n_any (b : Nat) (inl : Ls) (mb : Option Nat) (L : Ls) (w : World) (h : RV w b inl mb L) :
    Calls Try.prog 8 #[.pointer (some ⟨b, 0, none⟩)] w fun e w' => e = .returned (.int .i64 (inl.length : Nat)) ∧ w = w' := by
  have cn := h.cn
  go_enter Try.func8, Try.ntmps8
  go_wp2
  go_ret
  exact ⟨rfl, rfl⟩

theorem isNil_any (b : Nat) (inl : Ls) (mb : Option Nat) (L : Ls) (w : World) (h : RV w b inl mb L) :
    Calls Try.prog 11 #[.pointer (some ⟨b, 0, none⟩)] w fun e w' => e = .returned (.bool (L.isEmpty)) ∧ w = w' := by
  have cm := h.cm
  have hn := run_eql_map_nil (P := Try.prog) w 43 _ _ mb Try.underlying43
  have he : mb.isNone = L.isEmpty := by
    rcases h.mp with ⟨rfl, rfl⟩ | ⟨m, rfl, _, _, h4⟩
    · rfl
    · cases L with
      | nil => exact absurd rfl h4
      | cons p L => rfl
  rw [he] at hn
  clear he h
  go_enter Try.func11, Try.ntmps11
  go_wp2
  go_ret
  exact ⟨rfl, rfl⟩

theorem moreLen_any (b : Nat) (inl : Ls) (mb : Option Nat) (L : Ls) (w : World) (h : RV w b inl mb L) :
    Calls Try.prog 12 #[.pointer (some ⟨b, 0, none⟩)] w fun e w' => e = .returned (.int .i64 (L.length : Nat)) ∧ w = w' := by
  have cm := h.cm
  have hl : ∀ ty, (Builtin.len_ #[43] ty #[.map mb]).run Try.prog w = .ok (.int .i64 (L.length : Nat)) w := by
    intro ty
    rcases h.mp with ⟨rfl, rfl⟩ | ⟨m, rfl, _, ⟨es, c, hb, hes⟩, h4⟩
    · simp [Builtin.len_, run_underlying Try.underlying43, goInt]
    · have := congrArg List.length hes
      simp at this
      simp [Builtin.len_, run_underlying Try.underlying43, MapKept.run_getObj_map hb, goInt, this]
  clear h
  go_enter Try.func12, Try.ntmps12
  go_wp2
  go_ret
  exact ⟨rfl, rfl⟩

theorem as_int (v : Int) (w : World) : (Instr.typeAssert (.iface 3 (.int .i64 v)) 20 3 true).run Try.prog w = .ok (.tuple #[.int .i64 v, .bool true]) w := by kernel_rfl
theorem as_nil (w : World) : (Instr.typeAssert .nilIface 20 3 true).run Try.prog w = .ok (.tuple #[.int .i64 0, .bool false]) w := by kernel_rfl

theorem get_some (b : Nat) (inl : Ls) (mb : Option Nat) (L : Ls) (k : Int) (w : World) (h : RV w b inl mb L) (j : Nat) (x : Int) (hx : look k L 0 = some (j, x)) :
    Calls Try.prog 13 #[.pointer (some ⟨b, 0, none⟩), .int .i64 k] w fun e w' => e = .returned (.tuple #[.int .i64 x, .bool true]) ∧ w = w' := by
  have cm := h.cm
  have hl : (Instr.lookup 43 (.map mb) (.iface 3 (.int .i64 k)) false).run Try.prog w = .ok (.iface 3 (.int .i64 x)) w := by
    rcases h.mp with ⟨rfl, rfl⟩ | ⟨m, rfl, _, hm, h4⟩
    · simp [look] at hx
    · rw [lookup_some m k L w hm, got, hx]
  have ha := as_int x
  clear h hx
  go_enter Try.func13, Try.ntmps13
  go_wp2
  go_ret2
  exact ⟨rfl, rfl⟩

theorem get_none (b : Nat) (inl : Ls) (mb : Option Nat) (L : Ls) (k : Int) (w : World) (h : RV w b inl mb L) (hx : look k L 0 = none) :
    Calls Try.prog 13 #[.pointer (some ⟨b, 0, none⟩), .int .i64 k] w fun e w' => e = .returned (.tuple #[.int .i64 0, .bool false]) ∧ w = w' := by
  have cm := h.cm
  have hl : (Instr.lookup 43 (.map mb) (.iface 3 (.int .i64 k)) false).run Try.prog w = .ok .nilIface w := by
    rcases h.mp with ⟨rfl, rfl⟩ | ⟨m, rfl, _, hm, h4⟩
    · exact lookup_none k w
    · rw [lookup_some m k L w hm, got, hx]
  have ha := as_nil
  clear h hx
  go_enter Try.func13, Try.ntmps13
  go_wp2
  go_ret2
  exact ⟨rfl, rfl⟩

theorem inline_some (b : Nat) (inl : Ls) (mb : Option Nat) (L : Ls) (w : World) (h : RV w b inl mb L) (i : Nat) (p : Int × Int) (hp : inl[i]? = some p) :
    Calls Try.prog 9 #[.pointer (some ⟨b, 0, none⟩), .int .i64 i] w fun e w' => e = .returned (.tuple #[.int .i64 p.1, .int .i64 p.2, .bool true]) ∧ w = w' := by
  have hi : i < 4 := by
    have h1 := h.len
    have h2 := (List.getElem?_eq_some_iff.1 hp).1
    omega
  have ck := h.ck i hi
  have cv := h.cv i hi
  rw [keyC, hp] at ck
  rw [valC, hp] at cv
  simp only at ck cv
  have ha := as_int
  clear h hp
  obtain ⟨k, v⟩ := p
  go_enter Try.func9, Try.ntmps9
  go_wp2
  go_ret3
  exact ⟨rfl, rfl⟩

theorem inline_none (b : Nat) (inl : Ls) (mb : Option Nat) (L : Ls) (w : World) (h : RV w b inl mb L) (i : Nat) (hi : i < 4) (hp : inl[i]? = none) :
    Calls Try.prog 9 #[.pointer (some ⟨b, 0, none⟩), .int .i64 i] w fun e w' => e = .returned (.tuple #[.int .i64 0, .int .i64 0, .bool false]) ∧ w = w' := by
  have ck := h.ck i hi
  have cv := h.cv i hi
  rw [keyC, hp] at ck
  rw [valC, hp] at cv
  simp only at ck cv
  have ha := as_nil
  clear h hp
  go_enter Try.func9, Try.ntmps9
  go_wp2
  go_ret3
  exact ⟨rfl, rfl⟩
end Go.Proofs.Qxb6613457a
