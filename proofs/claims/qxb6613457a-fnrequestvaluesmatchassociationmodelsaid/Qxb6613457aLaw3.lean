import Derived.Test.Qxb6613457aAssoc
import Derived.OwnWalk
import Derived.Maps.AppendAt
namespace Go.Proofs.Qxb6613457a
open Go.RowKit

theorem info3y : (Try.prog.info? 3).map (fun i => (i.zero, i.size, i.bytes)) = some (some (.int .i64 0), 1, 8) := by kernel_rfl

/-- The round's state while the distinct keys are gathered. -/
structure L3 (w wr : World) (c : Nat) (mb : Option Nat) (s : Ls × Ls) (len : Nat) (ds : List Int) : Prop where
  bel : Below w.heap.size w wr
  rv : RV wr w.heap.size s.1 mb s.2
  own : wr.ownsRow w.heap.size 3 1 (.slice (some ⟨c, 0, none⟩) ds.length len) ds.length (ds.map (Value.int .i64))

theorem L3.drew {w wr : World} {c : Nat} {mb : Option Nat} {s : Ls × Ls} {len : Nat} {ds : List Int} (h : L3 w wr c mb s len ds) : L3 w wr.drew c mb s len ds :=
  ⟨h.bel.drew, h.rv.of_blocks rfl fun _ _ => rfl, h.own⟩

theorem L3.cell {w wr : World} {c : Nat} {mb : Option Nat} {s : Ls × Ls} {len : Nat} {ds : List Int} (h : L3 w wr c mb s len ds) (j : Nat) (hj : j < ds.length) : wr.cell? ⟨c, j, none⟩ = some (.int .i64 (ds.getD j 0)) := by
  rw [h.own.cellAt j (by omega)]
  simp [List.getD, hj]

theorem L3.append {w wr w' : World} {c : Nat} {mb : Option Nat} {s : Ls × Ls} {len : Nat} {ds : List Int} (h : L3 w wr c mb s len ds) (hb : w.heap.size ≠ c) (hm : mb ≠ some c) (hwc : w.heap.size ≤ c) (o : Obj) (x : Int)
    (hg : (wr.alloc o).grownBy w' (some c)) (hown : w'.ownsRow w.heap.size 3 1 (.slice (some ⟨c, 0, none⟩) (ds.length + 1) len) (ds.length + 1) (ds.map (Value.int .i64) ++ [.int .i64 x])) : L3 w w' c mb s len (ds ++ [x]) := by
  have hsz : w.heap.size ≤ (wr.alloc o).heap.size := by have := h.bel.size; simp; omega
  have bel' : Below w.heap.size w (wr.alloc o) := h.bel.alloc h.bel.size o
  have blk : ∀ k, k < wr.heap.size → k ≠ c → w'.heap[k]? = wr.heap[k]? := fun k hk hkc => by
    have := hg.block k (by simp; omega) (by simpa using fun e => hkc e)
    rw [this, Below.heap_alloc _ _ _ hk]
  refine ⟨bel'.grown hg hsz (fun k e => by cases e; exact hwc), h.rv.of_blocks (blk _ h.rv.bsize hb) (fun m e => ?_), by simpa using hown⟩
  subst e
  exact blk m h.rv.msize (fun e => hm (by rw [e]))

set_option maxRecDepth 100000 in
set_option maxHeartbeats 4000000 in
theorem law3 (ao : Option Addr) (len cap : Nat) (cs : Ls) (w : World) (hc : CallsAt w ao len cs) (hm : len ≤ maxLen) :
    Calls Try.prog 3 #[.slice ao len cap] w fun e w' => e = .returned (.bool true) ∧ Below w.heap.size w w' := by
  have hmk : Hid (len ≤ maxLen) := hm
  have hm : len ≤ 9223372036854775807 := by unfold maxLen at hm; omega
  go_enter Try.func3, Try.ntmps3
  go_wp2_with fail
  refine (bytes5_any _ _ _ _ hmk.out).mono ?_
  rintro e w' ⟨⟨x, rfl⟩, rfl⟩
  cases x with
  | false =>
    go_wp2
    go_ret
    exact ⟨rfl, Below.refl _ _⟩
  | true =>
  by_cases hlen : 4096 < len
  · go_wp2
    go_ret
    exact ⟨rfl, Below.refl _ _⟩
  go_wp2_with fail
  refine (new_any w).mono ?_
  rintro e w1 ⟨rfl, rv1, bel1⟩
  go_wp2_with fail
  refine (apply_any w w.heap.size ao len cap cs w1 hc hmk.out (Nat.le_refl _) ⟨none, rv1, fun m e => (by cases e), bel1⟩).mono ?_
  rintro e w2 ⟨rfl, mb, rv2, hmb, bel2⟩
  clear rv1 bel1
  obtain ⟨i0, hi, hz0, hz1, hz2⟩ := info_parts info3y
  have hb8 : i0.bytes * len ≤ 281474976710656 := by rw [hz2]; omega
  have hcl : cs.length = len := hc.1
  have HG : Hid (Laid (runs cs) (dstn cs len) (fun k => lastv cs k len)) := by rw [← hcl]; exact laid_runs cs
  generalize runs cs = s at *
  go_wp2_with (at_make; refine wpList_make_own w2 rfl _ _ 27 rfl w.heap.size 3 i0 _ 1 Try.underlying27 hi hz0 hz1 _ _ _ len rfl rfl rfl hb8 hmk.out bel2.size ?_; intro w3 hown1 hgrow1)
  have st0 : L3 w w3 w2.heap.size mb s len (dstn cs 0) := by
    have g1 : Below w2.heap.size w2 w3 := (Below.refl _ _).grown hgrow1 (Nat.le_refl _) (by simp)
    exact ⟨bel2.grown hgrow1 bel2.size (by simp), rv2.of_blocks (g1.block _ rv2.bsize) (fun m e => g1.block m (by subst e; exact rv2.msize)), hown1⟩
  have hbc : w.heap.size ≠ w2.heap.size := by have := rv2.bsize; omega
  have hmc : mb ≠ some w2.heap.size := fun e => by
    have : w2.heap.size < w2.heap.size := by rw [e] at rv2; exact rv2.msize
    omega
  have hwc : w.heap.size ≤ w2.heap.size := bel2.size
  clear hgrow1 hown1 bel2 rv2 hmb hb8
  generalize w2.heap.size = c at *
  clear w2
  have HC : Hid (CallsAt w ao len cs) := hc
  clear hc
  go_loopw [4, 5] (fun dv i wr => ∃ k : Nat, k ≤ len ∧ i = .int .i64 k ∧ dv = .slice (some ⟨c, 0, none⟩) (dstn cs k).length len ∧ L3 w wr c mb s len (dstn cs k)) (fun _ i _ => len - (intOf i).toNat)
  case atStart => exact ⟨0, Nat.zero_le _, rfl, rfl, st0⟩
  case round =>
    obtain ⟨k, hk, rfl, rfl, hst⟩ := hrel
    clear st0
    by_cases hlt : k < len
    · obtain ⟨cb, off, rfl, hcx⟩ : ∃ cb off, ao = some ⟨cb, off, none⟩ ∧ ∀ wr', Below w.heap.size w wr' → wr'.cell? ⟨cb, off + k * 2, none⟩ = some (.int .i64 (cs.getD k (0, 0)).1) := by
        rcases HC.out.2 with h0 | ⟨cb, off, e, h1⟩
        · omega
        · exact ⟨cb, off, e, fun wr' hb => (hb.cell (World.block_lt_of_cell? _ _ (h1 k hlt).1)).trans (h1 k hlt).1⟩
      have hnext : dstn cs (k + 1) = if (cs.getD k (0, 0)).1 ∈ dstn cs k then dstn cs k else dstn cs k ++ [(cs.getD k (0, 0)).1] := rfl
      have hdl := dstn_len cs k
      have HN : Hid _ := hnext
      clear hnext
      generalize dstn cs k = ds at *
      generalize (cs.getD k (0, 0)).1 = x at *
      go_wp2_with fail
      go_loopw [6, 7] (fun sn j wr => ∃ t : Nat, t ≤ ds.length ∧ j = .int .i64 t ∧ sn = .bool false ∧ L3 w wr c mb s len ds ∧ ∀ u, u < t → ds.getD u 0 ≠ x) (fun _ j _ => ds.length - (intOf j).toNat)
      case atStart => exact ⟨0, Nat.zero_le _, rfl, rfl, hst, fun u hu => (by omega)⟩
      case round =>
        obtain ⟨t, ht, rfl, rfl, hst, hno⟩ := hrel
        have hxw := hcx wr hst.bel
        by_cases htl : t < ds.length
        · have hcd := hst.cell t htl
          obtain ⟨y, hy⟩ : ∃ y, ds.getD t 0 = y := ⟨_, rfl⟩
          rw [hy] at hcd
          have HY : Hid (ds.getD t 0 = y) := hy
          have HO : Hid (∀ u, u < t → ds.getD u 0 ≠ x) := hno
          have hstd : L3 w wr.drew c mb s len ds := hst.drew
          clear hst hno hy hcx
          by_cases hyx : y = x
          · have hyb : (y == x) = true := by simpa using hyx
            have hmem : x ∈ ds := by
              rw [← hyx, ← HY.out]
              simp [List.getD, htl]
            have HE : Hid (dstn cs (k + 1) = ds) := by rw [HN.out, if_pos hmem]; rfl
            clear hyx hmem
            go_wp2_with fail
            go_region
            all_goals go_wp2_with fail
            all_goals go_roundw
            all_goals first
              | exact ⟨k + 1, by omega, by go_num, by rw [HE.out], by rw [HE.out]; exact hstd⟩
              | (simp [intOf]; omega)
          · have hyb : (y == x) = false := by simpa using hyx
            clear hyx
            go_wp2_with fail
            go_region
            all_goals go_wp2_with fail
            all_goals go_roundw
            all_goals first
              | exact ⟨t + 1, by omega, by go_num, rfl, hstd, fun u hu => (by
                  by_cases hut : u = t
                  · rw [hut, HY.out]; simpa using hyb
                  · exact HO.out u (by omega))⟩
              | (simp [intOf]; omega)
        · have hmem : x ∉ ds := fun hm => by
            obtain ⟨u, hu, e⟩ := List.getElem_of_mem hm
            exact hno u (by omega) (by simp [List.getD, hu, e])
          have HE : Hid (dstn cs (k + 1) = ds ++ [x]) := by rw [HN.out, if_neg hmem]; rfl
          have R : Hid (∀ o w', (wr.alloc o).grownBy w' (some c) → w'.ownsRow w.heap.size 3 1 (.slice (some ⟨c, 0, none⟩) (ds.length + 1) len) (ds.length + 1) (ds.map (Value.int .i64) ++ [.int .i64 x]) → L3 w w' c mb s len (ds ++ [x])) := fun o w' hg ho => hst.append hbc hmc hwc o x hg ho
          have hown := hst.own
          clear hmem hno hst hcx
          go_wp2_with (at_builtin; refine wpList_append_fits _ rfl (.tmp 54) (.tmp 60) 27 rfl w.heap.size 3 i0 1 Try.underlying27 hi hz1 c ds.length len (ds.map (Value.int .i64)) rfl (hown.alloc _) ⟨wr.heap.size, 0, none⟩ 1 1 [.int .i64 x] rfl rfl (cell_one_new _ _ _) (by intro u hu; simp at hu; subst hu; rfl) (by omega) ?_; intro w4 hown4 hgrow4)
          go_roundw
          case rel => exact ⟨k + 1, by omega, by go_num, by rw [HE.out]; simp, by rw [HE.out]; exact R.out _ _ hgrow4 hown4⟩
          case measure => simp [intOf]; omega
    · obtain rfl : k = len := by omega
      have hdl := dstn_len cs k
      have hcell := fun j hj => hst.cell j hj
      have rv := hst.rv
      have bel := hst.bel
      have hlast := fun y => last_any ao k cap cs y wr (HC.out.below bel) hmk.out
      have g1 := HG.out.len
      have g2 := HG.out.inl
      have g3 := HG.out.out
      have g4 := HG.out.nil
      have g5 := HG.out.more
      have g6 := HG.out.low
      have g7 := HG.out.high
      clear hst HG HC hi hz0 hz1 hz2 hcl hbc hmc hwc i0
      generalize dstn cs k = ds at *
      have HC : Hid (∀ j, j < ds.length → wr.cell? ⟨c, j, none⟩ = some (.int .i64 (ds.getD j 0))) := hcell
      have hn := n_any w.heap.size s.1 mb s.2 wr rv
      have G2 : Hid (∀ i, i < 4 → i < ds.length → s.1[i]? = some (ds.getD i 0, lastv cs (ds.getD i 0) k)) := g2
      have G3 : Hid (∀ i, ds.length ≤ i → s.1[i]? = none) := g3
      have G6 : Hid (∀ j, j < 4 → j < ds.length → look (ds.getD j 0) s.2 0 = none) := g6
      have G7 : Hid (∀ j, 4 ≤ j → j < ds.length → ∃ q, look (ds.getD j 0) s.2 0 = some (q, lastv cs (ds.getD j 0) k)) := g7
      clear g2 g3 g6 g7 hcell
      generalize ds.length = d at *
      by_cases hd : d ≤ 4
      · have e1 : s.1.length = d := by omega
        rw [e1] at hn
        have hnil := isNil_any w.heap.size s.1 mb s.2 wr rv
        rw [g4 hd] at hnil
        simp only [List.isEmpty_nil] at hnil
        clear g1 g4 g5 e1
        go_wp2_with fail
        refine hn.mono ?_
        rintro e w' ⟨rfl, rfl⟩
        clear hn
        go_wp2_with fail
        go_loop [10] (fun i => ∃ t : Nat, t ≤ 4 ∧ i = .int .i64 t) (fun i => 4 - (intOf i).toNat)
        case atStart => exact ⟨0, Nat.zero_le _, rfl⟩
        case round =>
          obtain ⟨t, ht, rfl⟩ := hrel
          by_cases ht4 : t < 4
          · by_cases htd : t < d
            · have hct := HC.out t htd
              have hin := inline_some w.heap.size s.1 mb s.2 wr rv t _ (G2.out t ht4 htd)
              have hla := hlast (ds.getD t 0)
              clear hlast hnil rv
              generalize ds.getD t 0 = y at *
              generalize lastv cs y k = z at *
              go_wp2_with fail
              refine hin.mono ?_
              rintro e w' ⟨rfl, rfl⟩
              clear hin
              go_wp2_with fail
              refine hla.mono ?_
              rintro e w' ⟨rfl, rfl⟩
              clear hla
              go_wp2_with fail
              go_round
              case rel => exact ⟨t + 1, by omega, by go_num⟩
              case measure => simp [intOf]; omega
            · have hin := inline_none w.heap.size s.1 mb s.2 wr rv t ht4 (G3.out t (by omega))
              clear hlast hnil rv
              go_wp2_with fail
              refine hin.mono ?_
              rintro e w' ⟨rfl, rfl⟩
              clear hin
              go_wp2_with fail
              go_round
              case rel => exact ⟨t + 1, by omega, by go_num⟩
              case measure => simp [intOf]; omega
          · obtain rfl : t = 4 := by omega
            clear hlast rv
            go_wp2_with fail
            refine hnil.mono ?_
            rintro e w' ⟨rfl, rfl⟩
            go_wp2
            go_ret
            exact ⟨rfl, bel⟩
      · have e1 : s.1.length = 4 := by omega
        rw [e1] at hn
        have hml := moreLen_any w.heap.size s.1 mb s.2 wr rv
        rw [show ((s.2.length : Nat) : Int) = (d : Int) - 4 by have := g5 (by omega); omega] at hml
        clear g1 g4 g5 e1
        go_wp2_with fail
        refine hn.mono ?_
        rintro e w' ⟨rfl, rfl⟩
        clear hn
        go_wp2_with fail
        go_loop [10] (fun i => ∃ t : Nat, t ≤ 4 ∧ i = .int .i64 t) (fun i => 4 - (intOf i).toNat)
        case atStart => exact ⟨0, Nat.zero_le _, rfl⟩
        case round =>
          obtain ⟨t, ht, rfl⟩ := hrel
          by_cases ht4 : t < 4
          · have htd : t < d := by omega
            have hct := HC.out t htd
            have hin := inline_some w.heap.size s.1 mb s.2 wr rv t _ (G2.out t ht4 htd)
            have hla := hlast (ds.getD t 0)
            clear hlast hml rv
            generalize ds.getD t 0 = y at *
            generalize lastv cs y k = z at *
            go_wp2_with fail
            refine hin.mono ?_
            rintro e w' ⟨rfl, rfl⟩
            clear hin
            go_wp2_with fail
            refine hla.mono ?_
            rintro e w' ⟨rfl, rfl⟩
            clear hla
            go_wp2_with fail
            go_round
            case rel => exact ⟨t + 1, by omega, by go_num⟩
            case measure => simp [intOf]; omega
          · obtain rfl : t = 4 := by omega
            go_wp2_with fail
            refine hml.mono ?_
            rintro e w' ⟨rfl, rfl⟩
            clear hml
            go_wp2_with fail
            go_loop [14] (fun i => ∃ j : Nat, j ≤ d ∧ i = .int .i64 j) (fun i => d - (intOf i).toNat)
            case atStart => exact ⟨0, Nat.zero_le _, rfl⟩
            case round =>
              obtain ⟨j, hj, rfl⟩ := hrel
              by_cases hjd : j < d
              · have hct := HC.out j hjd
                have hla := hlast (ds.getD j 0)
                by_cases hj4 : j < 4
                · have hge := get_none w.heap.size s.1 mb s.2 (ds.getD j 0) wr rv (G6.out j hj4 hjd)
                  clear hlast hla rv
                  generalize ds.getD j 0 = y at *
                  go_wp2_with fail
                  refine hge.mono ?_
                  rintro e w' ⟨rfl, rfl⟩
                  clear hge
                  go_wp2_with fail
                  go_round
                  case rel => exact ⟨j + 1, by omega, by go_num⟩
                  case measure => simp [intOf]; omega
                · obtain ⟨q, hq⟩ := G7.out j (by omega) hjd
                  have hge := get_some w.heap.size s.1 mb s.2 (ds.getD j 0) wr rv q _ hq
                  clear hlast hq rv
                  generalize ds.getD j 0 = y at *
                  generalize lastv cs y k = z at *
                  go_wp2_with fail
                  refine hge.mono ?_
                  rintro e w' ⟨rfl, rfl⟩
                  clear hge
                  go_wp2_with fail
                  refine hla.mono ?_
                  rintro e w' ⟨rfl, rfl⟩
                  clear hla
                  go_wp2_with fail
                  go_round
                  case rel => exact ⟨j + 1, by omega, by go_num⟩
                  case measure => simp [intOf]; omega
              · clear hlast rv
                go_wp2
                go_ret
                exact ⟨rfl, bel⟩
end Go.Proofs.Qxb6613457a
