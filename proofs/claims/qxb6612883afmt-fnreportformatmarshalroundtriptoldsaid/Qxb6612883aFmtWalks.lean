import Derived.Test.Qxb6612883aFmtProg
import Derived.WalkKit
import Derived.WalkSpells
import Derived.WalkLawsBesides
import Derived.BigQuiet
import Derived.WalkSmall
import Derived.Deep.RegionWith
namespace Go.Proofs.Qxb6612883aFmt
open Go.RowKit

/-- The bytes bs lie at the head of block g. -/
def BytesAt (w : World) (g : Nat) (bs : List UInt8) : Prop := ∀ j, j < bs.length → w.cell? ⟨g, j, none⟩ = some (.int .u8 ((bs.getD j 0).toNat : Int))

theorem BytesAt.below {B : Nat} {w w' : World} {g : Nat} {bs : List UInt8} (h : BytesAt w g bs) (hb : Below B w w') (hg : g < B) : BytesAt w' g bs :=
  fun j hj => (hb.cell hg).trans (h j hj)

/-- A new row of a string's bytes, as '[]byte(s)' lays it. -/
def laidBytes (w : World) (s : ByteArray) (cap : Nat) : World := w.drew.alloc (.cells (bytesRow s cap) 5 ((bytesRow s cap).size, (bytesRow s cap).size + 1))

theorem laid_size (w : World) (s : ByteArray) (cap : Nat) : (laidBytes w s cap).heap.size = w.heap.size + 1 := by
  show (w.heap.push _).size = _
  simp

theorem laid_below (w : World) (s : ByteArray) (cap : Nat) : Below w.heap.size w (laidBytes w s cap) := (Below.refl _ _).drew.alloc (Nat.le_refl _) _

theorem laid_bytes (w : World) (s : ByteArray) (cap : Nat) : BytesAt (laidBytes w s cap) w.heap.size s.data.toList := by
  intro j hj
  have hj' : j < s.data.size := by simpa using hj
  have := World.cell?_alloc_mark w.drew (bytesRow s cap) 5 ((bytesRow s cap).size, (bytesRow s cap).size + 1) j
  rw [bytesRow_at s cap j hj'] at this
  have e : s.data.toList.getD j 0 = s.data[j] := by rw [List.getD_eq_getElem?_getD, List.getElem?_eq_getElem hj]; simp
  rw [e]
  exact this

theorem laid_free (w : World) (s : ByteArray) (cap : Nat) (h : 0 < s.size) : (laidBytes w s cap).frozen? ⟨w.heap.size, 0, none⟩ = false := by
  have := World.frozen?_alloc_mark w.drew (bytesRow s cap) 5 (bytesRow s cap).size ((bytesRow s cap).size + 1) 0
  have hb : 0 < (bytesRow s cap).size := by
    have h' : 0 < s.data.size := h
    unfold bytesRow; simp; omega
  have hz : (decide ((bytesRow s cap).size ≤ 0) && decide (0 < (bytesRow s cap).size + 1)) = false := by rw [decide_eq_false (by omega)]; rfl
  rw [hz] at this
  exact this

theorem marshal_any (f : Nat) (s : ByteArray) (w : World) (hf : f < 2) (h : w.cell? ⟨0, f, none⟩ = some (.string s)) :
    Calls Tryf.prog 4 #[.int .u8 f] w fun e w' => ∃ cap, e = .returned (.tuple #[.slice (some ⟨w.heap.size, 0, none⟩) s.size cap, .nilIface]) ∧ w' = laidBytes w s cap := by
  have hcv := fun w s => run_bytes_of_string (P := Tryf.prog) w 9 23 5 s Tryf.underlying9 Tryf.underlying23 Tryf.underlying5
  go_enter Tryf.func4, Tryf.ntmps4
  go_wp2
  go_ret2
  exact ⟨_, rfl, rfl⟩

theorem info5 : (Tryf.prog.info? 5).map (fun i => (i.zero, i.size, i.bytes)) = some (some (.int .u8 0), 1, 1) := by kernel_rfl

theorem clone_any (g cap : Nat) (bs : List UInt8) (w : World) (h : BytesAt w g bs) (hg : g < w.heap.size) (hl : bs.length ≤ 1000) :
    Calls Tryf.prog 5 #[.slice (some ⟨g, 0, none⟩) bs.length cap] w fun e w' => e = .returned (.slice (some ⟨w.heap.size, 0, none⟩) bs.length bs.length) ∧ BytesAt w' w.heap.size bs ∧ w.heap.size < w'.heap.size ∧ Below w.heap.size w w' := by
  obtain ⟨i0, hi, hz0, hz1, hz2⟩ := info_parts info5
  generalize hlen : bs.length = len at *
  have hb : i0.bytes * len ≤ 281474976710656 := by rw [hz2]; omega
  have hm : len ≤ maxLen := by unfold maxLen; omega
  have hnil := fun w : World => Lib.run_eql_slice_nil (P := Tryf.prog) w 23 5 (some ⟨g, 0, none⟩) len cap 0 0 Tryf.underlying23
  go_enter Tryf.func5, Tryf.ntmps5
  go_wp2_with (at_make; refine wpList_make_full _ rfl _ _ 23 rfl w.heap.size 5 i0 (.int .u8 0) 1 Tryf.underlying23 hi hz0 hz1 _ _ _ _ len rfl rfl rfl rfl hb hm (Nat.le_refl _) ?_; intro w1 hown hgrow)
  go_loopw [4] (fun i wr => ∃ k : Nat, k ≤ len ∧ i = .int .i64 k ∧ Below w.heap.size w wr ∧ w.heap.size < wr.heap.size ∧ ∃ xs, wr.ownsRow w.heap.size 5 1 (.slice (some ⟨w.heap.size, 0, none⟩) len len) len xs ∧ ∀ j, j < k → xs[j]? = some (.int .u8 ((bs.getD j 0).toNat : Int))) (fun i _ => len - (intOf i).toNat)
  case atStart =>
    refine ⟨0, Nat.zero_le _, rfl, (Below.refl _ _).grown hgrow (Nat.le_refl _) (by simp), ?_, _, hown, by simp⟩
    rcases hown.2 with ⟨h', _⟩ | ⟨g', cap', cur, h', _, hg', _⟩
    · simp at h'
    · simp only [Value.slice.injEq, Option.some.injEq, Addr.mk.injEq, and_true, true_and] at h'
      obtain ⟨rfl, _⟩ := h'
      exact (Array.getElem?_eq_some_iff.1 hg').1
  case round =>
    obtain ⟨k, hk, rfl, hbel, hsz, xs, hown, hxs⟩ := hrel
    by_cases hlt : k < len
    · obtain ⟨b, hs⟩ : ∃ b, b = bs.getD k 0 := ⟨_, rfl⟩
      have hck : wr.cell? ⟨g, k, none⟩ = some (.int .u8 (b.toNat : Int)) := by rw [hs]; exact (hbel.cell hg).trans (h k (by omega))
      have hlx : k < xs.length := by rw [hown.1]; omega
      have hcx : ∃ u, wr.cell? ⟨w.heap.size, k, none⟩ = some u := ⟨xs[k]'hlx, by rw [hown.cellAt _ (by rw [← hown.1]; exact hlx)]; simp [hlx]⟩
      obtain ⟨u, hcx⟩ := hcx
      have hfx : wr.frozen? ⟨w.heap.size, k, none⟩ = false := hown.frozenAt _
      have hst := hown.stored k (.int .u8 (b.toNat : Int))
      have R : Hid (Below w.heap.size w (wr.setCell ⟨w.heap.size, k, none⟩ (.int .u8 (b.toNat : Int))) ∧ w.heap.size < (wr.setCell ⟨w.heap.size, k, none⟩ (.int .u8 (b.toNat : Int))).heap.size ∧ ∃ xs, (wr.setCell ⟨w.heap.size, k, none⟩ (.int .u8 (b.toNat : Int))).ownsRow w.heap.size 5 1 (.slice (some ⟨w.heap.size, 0, none⟩) len len) len xs ∧ ∀ j, j < k + 1 → xs[j]? = some (.int .u8 ((bs.getD j 0).toNat : Int))) := by
        refine ⟨hbel.setCell (Nat.le_refl _) _, by simpa [World.setCell] using hsz, _, hst.1, fun j hj => ?_⟩
        by_cases hjk : j = k
        · subst hjk
          rw [List.getElem?_set_self hlx, hs]
        · rw [List.getElem?_set_ne (by omega)]
          exact hxs j (by omega)
      clear hst hs hxs hown hbel h
      go_wp2
      go_roundw
      case rel => exact ⟨k + 1, by omega, by go_num, R.out⟩
      case measure => simp [intOf]; omega
    · go_wp2
      go_ret
      obtain rfl : k = len := by omega
      refine ⟨rfl, fun j hj => ?_, hsz, hbel⟩
      rw [hlen] at hj
      rw [hown.cellAt _ (by omega)]
      exact hxs j hj

/-- Two rows of the same bytes. -/
theorem equal_same (g1 c1 g2 c2 : Nat) (bs : List UInt8) (w : World) (h1 : BytesAt w g1 bs) (h2 : BytesAt w g2 bs) (hl : bs.length ≤ 1000) :
    Calls Tryf.prog 6 #[.slice (some ⟨g1, 0, none⟩) bs.length c1, .slice (some ⟨g2, 0, none⟩) bs.length c2] w fun e w' => e = .returned (.bool true) ∧ ∃ n, w' = w.drewN n := by
  generalize hlen : bs.length = len at *
  go_enter Tryf.func6, Tryf.ntmps6
  go_wp2
  go_loopw [5] (fun i wr => ∃ k : Nat, k ≤ len ∧ i = .int .i64 k ∧ ∃ n, wr = w.drewN n) (fun i _ => len - (intOf i).toNat)
  case atStart => exact ⟨0, Nat.zero_le _, rfl, 0, rfl⟩
  case round =>
    obtain ⟨k, hk, rfl, n, rfl⟩ := hrel
    by_cases hlt : k < len
    · have hc1 := h1 k (by omega)
      have hc2 := h2 k (by omega)
      generalize bs.getD k 0 = b at hc1 hc2
      clear h1 h2
      go_wp2
      go_quiet (fail)
      go_wp2
      go_roundw
      case rel => exact ⟨k + 1, by omega, by go_num, _, rfl⟩
      case measure => simp [intOf]; omega
    · clear h1 h2
      go_wp2
      go_ret
      exact ⟨rfl, _, rfl⟩
end Go.Proofs.Qxb6612883aFmt
