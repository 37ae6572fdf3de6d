import Derived.Test.Qxb6612883aFmtIndex
namespace Go.Proofs.Qxb6612883aFmt
open Go.RowKit

theorem law_high (f : Int) (hf : 1 < f) (w : World) :
    Calls Tryf.prog 3 #[.int .u8 f] w fun e w' => e = .returned (.bool true) ∧ Below w.heap.size w w' := by
  go_enter Tryf.func3, Tryf.ntmps3
  go_wp2
  go_ret
  exact ⟨rfl, Below.refl _ _⟩

theorem nm_ne (f o : Nat) (hf : f < 2) (ho : f + o = 1) : (((((nm f).data.toList.getD 0 0).toNat : Nat) : Int) == ((((nm o).data.toList.getD 0 0).toNat : Nat) : Int)) = false := by
  rcases (show (f = 0 ∧ o = 1) ∨ (f = 1 ∧ o = 0) by omega) with ⟨rfl, rfl⟩ | ⟨rfl, rfl⟩ <;> decide +kernel

theorem nm_len (f : Nat) : (nm f).data.toList.length = 4 := by unfold nm; split <;> rfl

/-- A cell of one value, new. -/
theorem one_new (w : World) (v : Value) (t : TypeId) : (w.alloc (.cells #[v] t)).cell? ⟨w.heap.size, 0, none⟩ = some v ∧ (w.alloc (.cells #[v] t)).frozen? ⟨w.heap.size, 0, none⟩ = false := by
  constructor
  · exact World.cell?_alloc_mark w #[v] t (0, 0) 0
  · rw [World.frozen?_alloc_mark w #[v] t 0 0 0]
    rfl

/-- 'g := other; g.UnmarshalText(text)': g lies in a new box. -/
theorem unmarshal_box (f : Nat) (hf : f < 2) (g cap : Nat) (u : Value) (w : World) (h : Names w) (h0 : 0 < w.heap.size) (hb : BytesAt w g (nm f).data.toList) (hg : g < w.heap.size) :
    Calls Tryf.prog 7 #[.pointer (some ⟨w.heap.size, 0, none⟩), .slice (some ⟨g, 0, none⟩) 4 cap] (w.alloc (.cells #[u] 22)) fun e w' => e = .returned .nilIface ∧ w'.cell? ⟨w.heap.size, 0, none⟩ = some (.int .u8 (f : Int)) ∧ w.heap.size < w'.heap.size ∧ Below w.heap.size w w' := by
  have ba : Below w.heap.size w (w.alloc (.cells #[u] 22)) := (Below.refl _ _).alloc (Nat.le_refl _) _
  refine (unmarshal_nm f hf w.heap.size g cap u _ (h.below ba h0) (hb.below ba hg) (one_new w u 22).1 (one_new w u 22).2).mono ?_
  rintro e w' ⟨rfl, hc, hz, hbel⟩
  refine ⟨rfl, hc, ?_, ba.trans hbel⟩
  rw [hz]
  simp

theorem far_cell (w : World) (p b j : Nat) (v : Value) (h : p ≠ b) : (w.setCell ⟨p, 0, none⟩ v).cell? ⟨b, j, none⟩ = w.cell? ⟨b, j, none⟩ := by
  apply World.cell?_setCell_other
  intro e
  simp only [Addr.mk.injEq] at e
  exact h e.1

theorem law_low (f o : Nat) (hf : f < 2) (ho : f + o = 1) (w : World) (h : Names w) (h0 : 0 < w.heap.size) :
    Calls Tryf.prog 3 #[.int .u8 (f : Int)] w fun e w' => e = .returned (.bool true) ∧ Below w.heap.size w w' := by
  have HO : Hid (1 - (f : Int) = (o : Int)) := by show _ = _; omega
  go_enter Tryf.func3, Tryf.ntmps3
  go_wp2_with fail
  rw [HO.out]
  refine (marshal_nm f hf _ h).mono ?_
  rintro e w1 ⟨c1, rfl, B1, F1, z1, b1⟩
  have h1 := h.below b1 h0
  have z1' : w.heap.size < w1.heap.size := by omega
  clear z1
  go_wp2_with fail
  rw [← nm_len f]
  refine (clone_any w.heap.size c1 _ w1 B1 z1' (by rw [nm_len]; omega)).mono ?_
  rintro e w2 ⟨rfl, BO, z2, b2⟩
  rw [nm_len f]
  have b2' : Below w.heap.size w w2 := b1.trans (b2.mono (by omega))
  have B12 := B1.below b2 z1'
  have F12 : w2.frozen? ⟨w.heap.size, 0, none⟩ = false := (b2.frozen (p := ⟨w.heap.size, 0, none⟩) z1').trans F1
  have h2 := h.below b2' h0
  generalize w1.heap.size = O at *
  clear B1 F1 b1 h1 b2
  go_wp2_with fail
  refine (marshal_nm o (by omega) _ h2).mono ?_
  rintro e w3 ⟨c3, rfl, B3, F3, z3, b3⟩
  have b3' : Below w.heap.size w w3 := b2'.trans (b3.mono (by omega))
  have B13 := B12.below b3 (by omega)
  have BO3 := BO.below b3 (by omega)
  have F13 : w3.frozen? ⟨w.heap.size, 0, none⟩ = false := (b3.frozen (p := ⟨w.heap.size, 0, none⟩) (by simp; omega)).trans F12
  have h3 := h.below b3' h0
  have z3' : w2.heap.size < w3.heap.size := by omega
  clear z3 F3 b3 B12 BO F12 h2 b2'
  generalize w2.heap.size = M at *
  go_wp2_with fail
  refine (equal_not w.heap.size c1 M c3 _ _ w3 (B13 0 (by rw [nm_len]; omega)) (B3 0 (by rw [nm_len]; omega)) (nm_ne f o hf ho)).mono ?_
  rintro e w4 ⟨rfl, n4, hw4⟩
  have b4 : Below w3.heap.size w3 w4 := by rw [hw4]; exact below_drewN (Below.refl _ _) _
  have b4' : Below w.heap.size w w4 := b3'.trans (b4.mono (by omega))
  have B14 := B13.below b4 (by omega)
  have BO4 := BO3.below b4 (by omega)
  have B34 := B3.below b4 (by omega)
  have F14 : w4.frozen? ⟨w.heap.size, 0, none⟩ = false := (b4.frozen (p := ⟨w.heap.size, 0, none⟩) (by simp; omega)).trans F13
  have z4 : M < w4.heap.size := Nat.lt_of_lt_of_le z3' b4.size
  clear hw4 b4 b3' B13 BO3 B3 F13 h3 z3'
  -- g := other; g.UnmarshalText(t1)
  go_wp2_with fail
  have h4 := h.below b4' h0
  refine (unmarshal_box f hf w.heap.size c1 _ w4 h4 (by omega) B14 (by omega)).mono ?_
  rintro e w5 ⟨rfl, hc5, z5, b5⟩
  have b5' : Below w.heap.size w w5 := b4'.trans (b5.mono (by omega))
  have B15 := B14.below b5 (by omega)
  have BO5 := BO4.below b5 (by omega)
  have B35 := B34.below b5 (by omega)
  have F15 : w5.frozen? ⟨w.heap.size, 0, none⟩ = false := (b5.frozen (p := ⟨w.heap.size, 0, none⟩) (by simp; omega)).trans F14
  have h5 := h.below b5' h0
  have z5' : M < w5.heap.size := by omega
  clear b5 b4' B14 BO4 B34 F14 h4
  -- h := rf; h.UnmarshalText(t2)
  go_wp2_with fail
  refine (unmarshal_box o (by omega) M c3 _ w5 h5 (by omega) B35 (by omega)).mono ?_
  rintro e w6 ⟨rfl, hc6, z6, b6⟩
  have b6' : Below w.heap.size w w6 := b5'.trans (b6.mono (by omega))
  have B16 := B15.below b6 (by omega)
  have BO6 := BO5.below b6 (by omega)
  have F16 : w6.frozen? ⟨w.heap.size, 0, none⟩ = false := (b6.frozen (p := ⟨w.heap.size, 0, none⟩) (by simp; omega)).trans F15
  have h6 := h.below b6' h0
  have z6' : M < w6.heap.size := by omega
  have hc16 := B16 0 (by rw [nm_len]; omega)
  clear b6 b5' B15 BO5 F15 h5 B35 hc5 z5 z5' B16
  generalize (nm f).data.toList.getD 0 0 = q at hc16
  -- t1[0] = 'X'; rf.MarshalText()
  go_wp2_with fail
  have b7' : Below w.heap.size w (w6.setCell ⟨w.heap.size, 0, none⟩ (.int .u8 88)) := b6'.setCell (p := ⟨w.heap.size, 0, none⟩) (Nat.le_refl _) _
  have BO7 : BytesAt (w6.setCell ⟨w.heap.size, 0, none⟩ (.int .u8 88)) O (nm f).data.toList := fun j hj => by
    rw [far_cell w6 w.heap.size O j _ (by omega)]
    exact BO6 j hj
  have z7 : M < (w6.setCell ⟨w.heap.size, 0, none⟩ (.int .u8 88)).heap.size := by simpa [World.setCell] using z6'
  have h7 := h.below b7' h0
  generalize w6.setCell ⟨w.heap.size, 0, none⟩ (.int .u8 88) = w7 at *
  clear b6' BO6 F16 h6 hc16 hc6
  refine (marshal_nm f hf _ h7).mono ?_
  rintro e w8 ⟨c8, rfl, B8, F8, z8, b8⟩
  have b8' : Below w.heap.size w w8 := b7'.trans (b8.mono (by omega))
  have BO8 := BO7.below b8 (by omega)
  have h8 := h.below b8' h0
  have z8' : w7.heap.size < w8.heap.size := by omega
  clear z8 F8 b8 BO7 h7 b7'
  generalize w7.heap.size = T at *
  go_wp2_with fail
  have E := equal_same T c8 O 4 (nm f).data.toList w8 B8 BO8 (by rw [nm_len]; omega)
  rw [nm_len f] at E
  refine E.mono ?_
  clear E
  rintro e w9 ⟨rfl, n9, hw9⟩
  have b9 : Below w8.heap.size w8 w9 := by rw [hw9]; exact below_drewN (Below.refl _ _) _
  have b9' : Below w.heap.size w w9 := b8'.trans (b9.mono (by omega))
  have B9 := B8.below b9 (by omega)
  have h9 := h.below b9' h0
  have z9 : T < w9.heap.size := Nat.lt_of_lt_of_le z8' b9.size
  clear hw9 b9 b8' B8 BO8 h8 z8'
  go_wp2_with fail
  refine (unmarshal_box f hf T c8 _ w9 h9 (by omega) B9 (by omega)).mono ?_
  rintro e w10 ⟨rfl, hc10, z10, b10⟩
  have b10' : Below w.heap.size w w10 := b9'.trans (b10.mono (by omega))
  clear b10 b9' B9 h9
  go_wp2
  go_ret
  exact ⟨rfl, b10'⟩
end Go.Proofs.Qxb6612883aFmt
