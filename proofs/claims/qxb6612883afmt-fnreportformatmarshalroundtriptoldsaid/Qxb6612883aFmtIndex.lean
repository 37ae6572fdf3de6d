import Derived.Test.Qxb6612883aFmtWalks
import Derived.LoopN
namespace Go.Proofs.Qxb6612883aFmt
open Go.RowKit

/-- Two rows of four bytes whose first bytes differ. -/
theorem equal_not (g1 c1 g2 c2 : Nat) (b1 b2 : UInt8) (w : World) (h1 : w.cell? ⟨g1, 0, none⟩ = some (.int .u8 (b1.toNat : Int))) (h2 : w.cell? ⟨g2, 0, none⟩ = some (.int .u8 (b2.toNat : Int))) (hne : ((b1.toNat : Int) == (b2.toNat : Int)) = false) :
    Calls Tryf.prog 6 #[.slice (some ⟨g1, 0, none⟩) 4 c1, .slice (some ⟨g2, 0, none⟩) 4 c2] w fun e w' => e = .returned (.bool false) ∧ ∃ n, w' = w.drewN n := by
  go_enter Tryf.func6, Tryf.ntmps6
  go_wp2
  refine wp_loop_rounds 1 ?_
  rw [rounds_succ]
  go_wp2
  go_quiet (fail)
  go_wp2
  go_ret
  exact ⟨rfl, _, rfl⟩

theorem index0 (s : ByteArray) (w : World) (h0 : w.cell? ⟨0, 0, none⟩ = some (.string s)) :
    Calls Tryf.prog 8 #[.slice (some ⟨0, 0, none⟩) 2 2, .string s] w fun e w' => e = .returned (.int .i64 0) ∧ w = w' := by
  go_enter Tryf.func8, Tryf.ntmps8
  go_wp2
  refine wp_loop_rounds 1 ?_
  rw [rounds_succ]
  go_wp2
  go_ret
  exact ⟨rfl, rfl⟩

theorem index1 (s t : ByteArray) (w : World) (h0 : w.cell? ⟨0, 0, none⟩ = some (.string t)) (h1 : w.cell? ⟨0, 1, none⟩ = some (.string s)) (hne : (s.toList == t.toList) = false) :
    Calls Tryf.prog 8 #[.slice (some ⟨0, 0, none⟩) 2 2, .string s] w fun e w' => e = .returned (.int .i64 1) ∧ w = w' := by
  go_enter Tryf.func8, Tryf.ntmps8
  go_wp2
  refine wp_loop_rounds 2 ?_
  rw [rounds_succ]
  go_wp2
  rw [rounds_succ]
  go_wp2
  go_ret
  exact ⟨rfl, rfl⟩

theorem conv_back (g cap : Nat) (s : ByteArray) (w : World) (h : BytesAt w g s.data.toList) :
    (convert 23 9 (.slice (some ⟨g, 0, none⟩) s.size cap)).run Tryf.prog w = .ok (.string s) w := by
  have := run_convert_bytes_back (P := Tryf.prog) w 23 9 5 ⟨g, 0, none⟩ cap s.data.toList Tryf.underlying23 Tryf.underlying5 Tryf.underlying9 (fun j hj => by
    have := h j hj
    rw [Addr.add_lit, Nat.zero_add, this, List.getD_eq_getElem?_getD, List.getElem?_eq_getElem hj]
    rfl)
  rw [Array.length_toList] at this
  exact this

theorem BytesAt.drewN {w : World} {g : Nat} {bs : List UInt8} (h : BytesAt w g bs) (n : Nat) : BytesAt (w.drewN n) g bs := h

/-- *f becomes the number that the names' index gives. -/
theorem unmarshal_at (i : Nat) (hi : i < 2) (p g cap : Nat) (u : Value) (s : ByteArray) (w : World) (hb : BytesAt w g s.data.toList) (hp : w.cell? ⟨p, 0, none⟩ = some u) (hf : w.frozen? ⟨p, 0, none⟩ = false)
    (hx : ∀ n, Calls Tryf.prog 8 #[.slice (some ⟨0, 0, none⟩) 2 2, .string s] (w.drewN n) fun e w' => e = .returned (.int .i64 (i : Int)) ∧ w.drewN n = w') :
    Calls Tryf.prog 7 #[.pointer (some ⟨p, 0, none⟩), .slice (some ⟨g, 0, none⟩) s.size cap] w fun e w' => e = .returned .nilIface ∧ ∃ n, w' = (w.drewN n).setCell ⟨p, 0, none⟩ (.int .u8 (i : Int)) := by
  have hcv := fun n => conv_back g cap s (w.drewN n) (hb.drewN n)
  have HX : Hid (∀ n, Calls Tryf.prog 8 #[.slice (some ⟨0, 0, none⟩) 2 2, .string s] (w.drewN n) fun e w' => e = .returned (.int .i64 (i : Int)) ∧ ∃ m, w' = w.drewN m) := fun n => (hx n).mono fun _ _ h => ⟨h.1, n, h.2.symm⟩
  clear hx hb
  go_enter Tryf.func7, Tryf.ntmps7
  go_wp2
  go_quiet ((go_at_call 8; exact HX.out _))
  go_wp2
  go_ret
  exact ⟨rfl, _, rfl⟩

def txt : ByteArray := ⟨#[116, 101, 120, 116]⟩
def jsn : ByteArray := ⟨#[106, 115, 111, 110]⟩

theorem names_apart : (jsn.toList == txt.toList) = false := by decide +kernel

/-- The two names lie in the package-level variable. -/
def Names (w : World) : Prop := w.cell? ⟨0, 0, none⟩ = some (.string txt) ∧ w.cell? ⟨0, 1, none⟩ = some (.string jsn)

theorem Names.below {B : Nat} {w w' : World} (h : Names w) (hb : Below B w w') (hB : 0 < B) : Names w' := ⟨(hb.cell hB).trans h.1, (hb.cell hB).trans h.2⟩

/-- The name of format f. -/
def nm (f : Nat) : ByteArray := if f = 0 then txt else jsn

theorem nm_size (f : Nat) : (nm f).size = 4 := by unfold nm; split <;> rfl

theorem index_nm (f : Nat) (hf : f < 2) (w : World) (h : Names w) :
    Calls Tryf.prog 8 #[.slice (some ⟨0, 0, none⟩) 2 2, .string (nm f)] w fun e w' => e = .returned (.int .i64 (f : Int)) ∧ w = w' := by
  rcases (show f = 0 ∨ f = 1 by omega) with rfl | rfl
  · exact index0 txt w h.1
  · exact index1 jsn txt w h.1 h.2 names_apart

theorem marshal_nm (f : Nat) (hf : f < 2) (w : World) (h : Names w) :
    Calls Tryf.prog 4 #[.int .u8 f] w fun e w' => ∃ cap, e = .returned (.tuple #[.slice (some ⟨w.heap.size, 0, none⟩) 4 cap, .nilIface]) ∧ BytesAt w' w.heap.size (nm f).data.toList ∧ w'.frozen? ⟨w.heap.size, 0, none⟩ = false ∧ w'.heap.size = w.heap.size + 1 ∧ Below w.heap.size w w' := by
  have hc : w.cell? ⟨0, f, none⟩ = some (.string (nm f)) := by
    rcases (show f = 0 ∨ f = 1 by omega) with rfl | rfl
    · exact h.1
    · exact h.2
  refine (marshal_any f (nm f) w hf hc).mono ?_
  rintro e w' ⟨cap, rfl, rfl⟩
  rw [nm_size]
  exact ⟨cap, rfl, laid_bytes _ _ _, laid_free _ _ _ (by rw [nm_size]; decide), laid_size _ _ _, laid_below _ _ _⟩

theorem unmarshal_nm (f : Nat) (hf : f < 2) (p g cap : Nat) (u : Value) (w : World) (h : Names w) (hb : BytesAt w g (nm f).data.toList) (hp : w.cell? ⟨p, 0, none⟩ = some u) (hfz : w.frozen? ⟨p, 0, none⟩ = false) :
    Calls Tryf.prog 7 #[.pointer (some ⟨p, 0, none⟩), .slice (some ⟨g, 0, none⟩) 4 cap] w fun e w' => e = .returned .nilIface ∧ w'.cell? ⟨p, 0, none⟩ = some (.int .u8 (f : Int)) ∧ w'.heap.size = w.heap.size ∧ Below p w w' := by
  have := unmarshal_at f hf p g cap u (nm f) w hb hp hfz (fun n => index_nm f hf (w.drewN n) h)
  rw [nm_size] at this
  refine this.mono ?_
  rintro e w' ⟨rfl, n, rfl⟩
  refine ⟨rfl, ?_, ?_, ?_⟩
  · exact World.cell?_setCell_same (w.drewN n) ⟨p, 0, none⟩ _ hp
  · simp [World.setCell]
  · exact (below_drewN (Below.refl _ _) n).setCell (p := ⟨p, 0, none⟩) (Nat.le_refl _) _
end Go.Proofs.Qxb6612883aFmt
