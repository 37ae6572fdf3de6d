import Derived.Test.Qxb6612807aWalks
namespace Go.Proofs.Qxb6612807a
open Go.RowKit

theorem conf_any (ao : Option Addr) (len cap : Nat) (ss : List ByteArray) (w : World) (h : StrsAt w ao len ss) (hm : len ≤ 131072) :
    Calls Try.prog 8 #[.slice ao len cap] w fun e w' => e = .returned (.slice (some ⟨w.heap.size, 0, none⟩) len len) ∧
      (∀ i, i < len → w'.cell? ⟨w.heap.size, i * 32 + 7, none⟩ = some (.string (ss.getD i ByteArray.empty))) ∧ Below w.heap.size w w' := by
  obtain ⟨hl, h⟩ := h
  obtain ⟨i0, z, hi, hz0, hz1, hz2⟩ := info38_parts
  have hb : i0.bytes * len ≤ 281474976710656 := by rw [hz2]; omega
  have hm' : len ≤ maxLen := by unfold maxLen; omega
  go_enter Try.func8, Try.ntmps8
  go_wp2_with (at_make; refine wpList_make_full _ rfl _ _ 26 rfl w.heap.size 38 i0 z 32 Try.underlying26 hi hz0 hz1 _ _ _ _ len rfl rfl rfl rfl hb hm' (Nat.le_refl _) ?_; intro w1 hown hgrow)
  go_loopw [4] (fun i wr => ∃ k : Nat, k ≤ len ∧ i = .int .i64 k ∧ Below w.heap.size w wr ∧ ∃ xs, wr.ownsRow w.heap.size 38 32 (.slice (some ⟨w.heap.size, 0, none⟩) len len) len xs ∧ ∀ j, j < k → xs[j * 32 + 7]? = some (.string (ss.getD j ByteArray.empty))) (fun i _ => len - (intOf i).toNat)
  case atStart => exact ⟨0, Nat.zero_le _, rfl, (Below.refl _ _).grown hgrow (Nat.le_refl _) (by simp), _, hown, by simp⟩
  case round =>
    obtain ⟨k, hk, rfl, hbel, xs, hown, hxs⟩ := hrel
    by_cases hlt : k < len
    · rcases h with h | ⟨b, off, rfl, hc⟩
      · omega
      obtain ⟨s, hs⟩ : ∃ s, s = ss.getD k ByteArray.empty := ⟨_, rfl⟩
      have hck : wr.cell? ⟨b, off + k, none⟩ = some (.string s) := by rw [hs]; exact (hbel.cell (block_lt_of_cell (hc k hlt))).trans (hc k hlt)
      have hlx : k * 32 + 7 < xs.length := by rw [hown.1]; omega
      have hcx : ∃ u, wr.cell? ⟨w.heap.size, k * 32 + 7, none⟩ = some u := ⟨xs[k * 32 + 7]'hlx, by rw [hown.cellAt _ (by rw [← hown.1]; exact hlx)]; simp [hlx]⟩
      obtain ⟨u, hcx⟩ := hcx
      have hfx : wr.frozen? ⟨w.heap.size, k * 32 + 7, none⟩ = false := hown.frozenAt _
      have hst := hown.stored (k * 32 + 7) (.string s)
      have R : Hid (Below w.heap.size w (wr.setCell ⟨w.heap.size, k * 32 + 7, none⟩ (.string s)) ∧ ∃ xs, (wr.setCell ⟨w.heap.size, k * 32 + 7, none⟩ (.string s)).ownsRow w.heap.size 38 32 (.slice (some ⟨w.heap.size, 0, none⟩) len len) len xs ∧ ∀ j, j < k + 1 → xs[j * 32 + 7]? = some (.string (ss.getD j ByteArray.empty))) := by
        refine ⟨hbel.setCell (Nat.le_refl _) _, _, hst.1, fun j hj => ?_⟩
        by_cases hjk : j = k
        · subst hjk
          rw [List.getElem?_set_self hlx, hs]
        · rw [List.getElem?_set_ne (by omega)]
          exact hxs j (by omega)
      clear hc hst hs hxs hown hbel
      go_wp2
      go_roundw
      case rel => exact ⟨k + 1, by omega, by go_num, R.out⟩
      case measure => simp [intOf]; omega
    · go_wp2
      go_ret
      obtain rfl : k = len := by omega
      refine ⟨rfl, fun i hi => ?_, hbel⟩
      rw [hown.cellAt _ (by omega)]
      exact hxs i hi
end Go.Proofs.Qxb6612807a
