import Derived.Test.Qxb6613457aSets
import Derived.Deep.RegionWith
namespace Go.Proofs.Qxb6613457a
open Go.RowKit

/-- The calls of a script in memory. -/
def CallsAt (w : World) (ao : Option Addr) (len : Nat) (cs : Ls) : Prop :=
  cs.length = len ∧ (len = 0 ∨ ∃ b off, ao = some ⟨b, off, none⟩ ∧ ∀ i, i < len → w.cell? ⟨b, off + i * 2, none⟩ = some (.int .i64 (cs.getD i (0, 0)).1) ∧ w.cell? ⟨b, off + i * 2 + 1, none⟩ = some (.int .i64 (cs.getD i (0, 0)).2))

theorem CallsAt.below {w w' : World} {ao : Option Addr} {len : Nat} {cs : Ls} (h : CallsAt w ao len cs) (hb : Below w.heap.size w w') : CallsAt w' ao len cs := by
  obtain ⟨h1, h2⟩ := h
  refine ⟨h1, h2.imp id ?_⟩
  rintro ⟨b, off, e, hc⟩
  exact ⟨b, off, e, fun i hi => ⟨(hb.cell (World.block_lt_of_cell? _ _ (hc i hi).1)).trans (hc i hi).1, (hb.cell (World.block_lt_of_cell? _ _ (hc i hi).2)).trans (hc i hi).2⟩⟩

def runs (l : Ls) : Ls × Ls := l.foldl (fun s c => sets c.1 c.2 s) ([], [])

theorem runs_take (cs : Ls) (k : Nat) (hk : k < cs.length) : runs (cs.take (k + 1)) = sets (cs.getD k (0, 0)).1 (cs.getD k (0, 0)).2 (runs (cs.take k)) := by
  have : cs.take (k + 1) = cs.take k ++ [cs.getD k (0, 0)] := by
    rw [List.take_add_one]
    simp [List.getElem?_eq_getElem hk, List.getD]
  rw [this, runs, runs, List.foldl_append]
  rfl

/-- The state of the call's own memory over the world w0 that it began with. -/
def St (w0 w : World) (b : Nat) (s : Ls × Ls) : Prop := ∃ mb, RV w b s.1 mb s.2 ∧ (∀ m, mb = some m → w0.heap.size ≤ m) ∧ Below w0.heap.size w0 w

theorem Setted.st {w0 w w' : World} {b : Nat} {s : Ls × Ls} {mb : Option Nat} {k v : Int} (hb : w0.heap.size ≤ b) (hm : ∀ m, mb = some m → w0.heap.size ≤ m) (h : Below w0.heap.size w0 w) (hs : Setted w w' b s.1 mb s.2 k v) : St w0 w' b (sets k v s) := by
  obtain ⟨mb', h1, h2, h3⟩ := hs
  refine ⟨mb', h1, fun m e => ?_, h2.os.trans h.os, h2.tape.trans h.tape, h2.output.trans h.output, Nat.le_trans h.size h2.size, fun j hj => ?_⟩
  · rcases h3 m e with h4 | h4
    · exact hm m h4
    · exact Nat.le_trans h.size h4
  · rw [h2.block j (Nat.lt_of_lt_of_le hj h.size) (by omega) (fun e => by have := hm j e; omega), h.block j hj]

set_option maxHeartbeats 1000000 in
theorem apply_any (w0 : World) (b : Nat) (ao : Option Addr) (len cap : Nat) (cs : Ls) (w : World) (hc : CallsAt w0 ao len cs) (hm : len ≤ maxLen) (hb : w0.heap.size ≤ b) (h : St w0 w b ([], [])) :
    Calls Try.prog 7 #[.pointer (some ⟨b, 0, none⟩), .slice ao len cap] w fun e w' => e = .returned (.tuple #[]) ∧ St w0 w' b (runs cs) := by
  unfold maxLen at hm
  go_enter Try.func7, Try.ntmps7
  go_wp2
  go_loopw [4] (fun i wr => ∃ k : Nat, k ≤ len ∧ i = .int .i64 k ∧ St w0 wr b (runs (cs.take k))) (fun i _ => len - (intOf i).toNat)
  case atStart => exact ⟨0, Nat.zero_le _, rfl, h⟩
  case round =>
    obtain ⟨k, hk, rfl, hst⟩ := hrel
    obtain ⟨hl, hc⟩ := hc
    by_cases hlt : k < len
    · rcases hc with hc | ⟨cb, off, rfl, hc⟩
      · omega
      have hnext := runs_take cs k (by omega)
      obtain ⟨mb, hrv, hmb, hbel⟩ := hst
      obtain ⟨hc1, hc2⟩ := hc k hlt
      have hc1 := (hbel.cell (World.block_lt_of_cell? _ _ hc1)).trans hc1
      have hc2 := (hbel.cell (World.block_lt_of_cell? _ _ hc2)).trans hc2
      generalize cs.getD k (0, 0) = p at *
      obtain ⟨x, y⟩ := p
      simp only at hc1 hc2
      have R : Hid (∀ w' : World, Setted wr.drew w' b (runs (cs.take k)).1 mb (runs (cs.take k)).2 x y → St w0 w' b (runs (cs.take (k + 1)))) := by
        intro w' hs
        rw [hnext]
        exact hs.st hb hmb hbel.drew
      clear hnext hc hbel hmb h
      generalize runs (cs.take k) = s at *
      obtain ⟨inl, L⟩ := s
      simp only at hrv R
      have hrv' : RV wr.drew b inl mb L := hrv.of_blocks rfl fun _ _ => rfl
      clear hrv
      go_wp2
      go_region_with (go_at_call 16; refine (setInt_any b inl mb L x y wr.drew hrv').mono ?_; rintro e w' ⟨rfl, hs⟩)
      all_goals go_wp2
      all_goals go_roundw
      all_goals first
        | exact ⟨k + 1, by omega, by go_num, R.out _ (by assumption)⟩
        | (simp [intOf]; omega)
    · obtain rfl : k = len := by omega
      rw [List.take_of_length_le (by omega)] at hst
      go_wp2
      go_end0
      exact ⟨rfl, hst⟩
end Go.Proofs.Qxb6613457a
