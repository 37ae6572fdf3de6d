import Derived.Test.Qxb6613457aPlain
import Derived.OwnWalk
namespace Go.Proofs.Qxb6613457a
open Go.RowKit

theorem info3z : (Try.prog.info? 3).map (fun i => (i.zero, i.size, i.bytes)) = some (some (.int .i64 0), 1, 8) := by kernel_rfl

/-- A row of the call's own: len cells; the first k hold f's numbers. -/
structure Row (w : World) (c len k : Nat) (f : Nat → Int) : Prop where
  some : ∀ j, j < len → ∃ u, w.cell? ⟨c, j, none⟩ = some u
  fz : ∀ j, j < len → w.frozen? ⟨c, j, none⟩ = false
  val : ∀ j, j < k → w.cell? ⟨c, j, none⟩ = .some (.int .i64 (f j))

theorem Row.of_block {w w' : World} {c len k : Nat} {f : Nat → Int} (h : Row w c len k f) (hb : w'.heap[c]? = w.heap[c]?) : Row w' c len k f := by
  have c' := fun o : Nat => World.cell?_of_block (w := w) (w' := w') (a := ⟨c, o, none⟩) hb
  have f' := fun o : Nat => World.frozen?_of_block (w := w) (w' := w') (a := ⟨c, o, none⟩) hb
  refine ⟨fun j hj => ?_, fun j hj => (f' j).trans (h.fz j hj), fun j hj => (c' j).trans (h.val j hj)⟩
  obtain ⟨u, hu⟩ := h.some j hj
  exact ⟨u, (c' j).trans hu⟩

theorem Row.store {w : World} {c len k : Nat} {f : Nat → Int} (h : Row w c len k f) (hk : k < len) : Row (w.setCell ⟨c, k, none⟩ (.int .i64 (f k))) c len (k + 1) f := by
  obtain ⟨u, hu⟩ := h.some k hk
  have o := fun (i : Nat) (hi : i ≠ k) => World.cell?_setCell_other w (a := ⟨c, k, none⟩) (b := ⟨c, i, none⟩) (v := .int .i64 (f k)) (fun e => hi (congrArg Addr.off e).symm)
  have s := World.cell?_setCell_same w ⟨c, k, none⟩ (.int .i64 (f k)) hu
  refine ⟨fun j hj => ?_, fun j hj => by simpa using h.fz j hj, fun j hj => ?_⟩
  · by_cases hjk : j = k
    · subst hjk; exact ⟨_, s⟩
    · rw [o j hjk]; exact h.some j hj
  · by_cases hjk : j = k
    · subst hjk; exact s
    · rw [o j hjk]; exact h.val j (by omega)

theorem Row.of_own {w : World} {base c len : Nat} {xs : List Value} (f : Nat → Int) (h : w.ownsRow base 3 1 (.slice (.some ⟨c, 0, none⟩) len len) len xs) : Row w c len 0 f := by
  refine ⟨fun j hj => ?_, fun j _ => h.frozenAt j, fun j hj => by omega⟩
  have hl := h.1
  have hj' : j < xs.length := by omega
  exact ⟨xs[j], by rw [h.cellAt j (by omega)]; simp [hj']⟩

/-- The round's state in the first loop. -/
structure Loop1 (w wr : World) (b c1 c2 : Nat) (mb : Option Nat) (s : Ls × Ls) (cs : Ls) (len k : Nat) : Prop where
  bel : Below w.heap.size w wr
  rv : RV wr b s.1 mb s.2
  r1 : Row wr c1 len k (fun j => (loc (cs.getD j (0, 0)).1 s).1)
  r2 : Row wr c2 len k (fun j => (loc (cs.getD j (0, 0)).1 s).2)

structure Apart (w : World) (b c1 c2 : Nat) (mb : Option Nat) : Prop where
  b0 : w.heap.size ≤ b
  b1 : w.heap.size ≤ c1
  b2 : w.heap.size ≤ c2
  n12 : c1 ≠ c2
  nb1 : b ≠ c1
  nb2 : b ≠ c2
  nm1 : mb ≠ some c1
  nm2 : mb ≠ some c2
  mm : ∀ m, mb = some m → w.heap.size ≤ m

theorem Loop1.next {w wr : World} {b c1 c2 : Nat} {mb : Option Nat} {s : Ls × Ls} {cs : Ls} {len k : Nat} (h : Loop1 w wr b c1 c2 mb s cs len k) (d : Apart w b c1 c2 mb) (hk : k < len) (x l v : Int) (hx : (cs.getD k (0, 0)).1 = x) (hl : loc x s = (l, v)) :
    Loop1 w ((wr.setCell ⟨c1, k, none⟩ (.int .i64 l)).setCell ⟨c2, k, none⟩ (.int .i64 v)) b c1 c2 mb s cs len (k + 1) := by
  have e1 : l = (loc (cs.getD k (0, 0)).1 s).1 := by rw [hx, hl]
  have e2 : v = (loc (cs.getD k (0, 0)).1 s).2 := by rw [hx, hl]
  refine ⟨(h.bel.setCell d.b1 _).setCell d.b2 _, h.rv.of_blocks ?_ ?_, ?_, ?_⟩
  · rw [Below.heap_setCell _ _ _ _ d.nb2, Below.heap_setCell _ _ _ _ d.nb1]
  · intro m hm
    rw [Below.heap_setCell _ _ _ _ (fun e => d.nm2 (by rw [hm, e])), Below.heap_setCell _ _ _ _ (fun e => d.nm1 (by rw [hm, e]))]
  · have := h.r1.store hk
    rw [← e1] at this
    exact this.of_block (Below.heap_setCell _ _ _ _ d.n12)
  · have := (h.r2.of_block (Below.heap_setCell wr ⟨c1, k, none⟩ (.int .i64 l) _ d.n12.symm)).store hk
    rw [← e2] at this
    exact this

set_option maxRecDepth 100000 in
set_option maxHeartbeats 2000000 in
theorem law4 (ao : Option Addr) (len cap : Nat) (cs : Ls) (key value : Int) (w : World) (hc : CallsAt w ao len cs) (hm : len ≤ maxLen) :
    Calls Try.prog 4 #[.slice ao len cap, .int .i64 key, .int .i64 value] w fun e w' => e = .returned (.bool true) ∧ Below w.heap.size w w' := by
  have hmk : Hid (len ≤ maxLen) := hm
  have hm : len ≤ 9223372036854775807 := by unfold maxLen at hm; omega
  go_enter Try.func4, Try.ntmps4
  go_wp2_with fail
  refine (bytes14_any _ _ _ _ _ _ hmk.out).mono ?_
  rintro e w' ⟨⟨x, rfl⟩, rfl⟩
  cases x with
  | false =>
    go_wp2
    go_ret
    exact ⟨rfl, Below.refl _ _⟩
  | true =>
  by_cases hlen : 65536 < len
  · go_wp2
    go_ret
    exact ⟨rfl, Below.refl _ _⟩
  go_wp2_with fail
  refine (new_any w).mono ?_
  rintro e w1 ⟨rfl, rv1, bel1⟩
  go_wp2_with fail
  refine (apply_any w w.heap.size ao len cap cs w1 hc hmk.out (Nat.le_refl _) ⟨none, rv1, fun m e => (by cases e), bel1⟩).mono ?_
  rintro e w2 ⟨rfl, mb, rv2, hmb, bel2⟩
  clear rv1 bel1
  go_wp2_with fail
  refine (n_any _ _ _ _ _ rv2).mono ?_
  rintro e w' ⟨rfl, rfl⟩
  go_wp2_with fail
  refine (moreLen_any _ _ _ _ _ rv2).mono ?_
  rintro e w' ⟨rfl, rfl⟩
  obtain ⟨i0, hi, hz0, hz1, hz2⟩ := info_parts info3z
  have hb8 : i0.bytes * len ≤ 281474976710656 := by rw [hz2]; omega
  have hmov := moved key value (runs cs) (runs_inv cs)
  have hM := runs_size cs
  have hcl : cs.length = len := hc.1
  rw [hcl] at hM
  generalize hS : runs cs = s at *
  go_wp2_with (first
    | (at_make; refine wpList_make_full w2 rfl _ _ 27 rfl w.heap.size 3 i0 _ 1 Try.underlying27 hi hz0 hz1 _ _ _ _ len rfl rfl rfl rfl hb8 hmk.out bel2.size ?_; intro w3 hown1 hgrow1; have bel3 : Below w.heap.size w w3 := bel2.grown hgrow1 bel2.size (by simp))
    | (at_make; refine wpList_make_full w3 rfl _ _ 27 rfl w.heap.size 3 i0 _ 1 Try.underlying27 hi hz0 hz1 _ _ _ _ len rfl rfl rfl rfl hb8 hmk.out bel3.size ?_; intro w4 hown2 hgrow2; have bel4 : Below w.heap.size w w4 := bel3.grown hgrow2 bel3.size (by simp)))
  have rv4 : RV w4 w.heap.size s.1 mb s.2 := by
    have g1 : Below w2.heap.size w2 w3 := (Below.refl _ _).grown hgrow1 (Nat.le_refl _) (by simp)
    have g2 : Below w3.heap.size w3 w4 := (Below.refl _ _).grown hgrow2 (Nat.le_refl _) (by simp)
    have g : ∀ k, k < w2.heap.size → w4.heap[k]? = w2.heap[k]? := fun k hk => (g2.block k (Nat.lt_of_lt_of_le hk g1.size)).trans (g1.block k hk)
    exact rv2.of_blocks (g _ rv2.bsize) (fun m e => g m (by subst e; exact rv2.msize))
  have hc1 : w2.heap.size < w3.heap.size := (hown1.lt _ rfl).2
  have L1 : Loop1 w w4 w.heap.size w2.heap.size w3.heap.size mb s cs len 0 := by
    have g2 : Below w3.heap.size w3 w4 := (Below.refl _ _).grown hgrow2 (Nat.le_refl _) (by simp)
    exact ⟨bel4, rv4, (Row.of_own _ hown1).of_block (g2.block _ hc1), Row.of_own _ hown2⟩
  have D : Apart w w.heap.size w2.heap.size w3.heap.size mb := by
    have hbs := rv2.bsize
    refine ⟨Nat.le_refl _, bel2.size, bel3.size, by omega, by omega, by omega, fun e => ?_, fun e => ?_, hmb⟩
    · have : w2.heap.size < w2.heap.size := by rw [e] at rv2; exact rv2.msize
      omega
    · have : w3.heap.size < w2.heap.size := by rw [e] at rv2; exact rv2.msize
      omega
  clear rv4 hc1 hgrow1 hgrow2 hown1 hown2 bel2 bel3 bel4 rv2 hmb hb8 hi hz0 hz1 hz2
  have hN : s.1.length ≤ 4 := L1.rv.len
  generalize w2.heap.size = c1 at *
  generalize w3.heap.size = c2 at *
  clear w2 w3
  have HS : Hid (runs cs = s) := hS
  have HM : Hid (Moved key value s (sets key value s)) := hmov
  clear hS hmov
  go_loopw [12] (fun i wr => ∃ k : Nat, k ≤ len ∧ i = .int .i64 k ∧ Loop1 w wr w.heap.size c1 c2 mb s cs len k) (fun i _ => len - (intOf i).toNat)
  case atStart => exact ⟨0, Nat.zero_le _, rfl, L1⟩
  case round =>
    obtain ⟨k, hk, rfl, hst⟩ := hrel
    clear L1
    by_cases hlt : k < len
    · obtain ⟨hl, hc⟩ := hc
      rcases hc with hc | ⟨cb, off, rfl, hc⟩
      · omega
      have hcx := (hst.bel.cell (World.block_lt_of_cell? _ _ (hc k hlt).1)).trans (hc k hlt).1
      obtain ⟨x, hx⟩ : ∃ x, (cs.getD k (0, 0)).1 = x := ⟨_, rfl⟩
      obtain ⟨⟨l, v⟩, hlv⟩ : ∃ p, loc x s = p := ⟨_, rfl⟩
      have hloc := locate_any w.heap.size s mb x wr hst.rv
      rw [hlv] at hloc
      rw [hx] at hcx
      obtain ⟨u1, hu1⟩ := hst.r1.some k hlt
      obtain ⟨u2, hu2⟩ := hst.r2.some k hlt
      have hf1 := hst.r1.fz k hlt
      have hf2 := hst.r2.fz k hlt
      have hne := D.n12
      have R : Hid _ := hst.next D hlt x l v hx hlv
      clear hst hc hx hlv D HS HM
      go_wp2_with fail
      refine hloc.mono ?_
      rintro e w' ⟨rfl, rfl⟩
      go_wp2
      go_roundw
      case rel => exact ⟨k + 1, by omega, by go_num, R.out⟩
      case measure => simp [intOf]; omega
    · obtain rfl : k = len := by omega
      have HC : Hid (CallsAt w ao k cs) := hc
      clear hc
      obtain ⟨⟨pl, pv⟩, hp⟩ : ∃ p, loc key s = p := ⟨_, rfl⟩
      have hloc := locate_any w.heap.size s mb key wr hst.rv
      rw [hp] at hloc
      have hset := setInt_any w.heap.size s.1 mb s.2 key value wr hst.rv
      have HL : Hid (Loop1 w wr w.heap.size c1 c2 mb s cs k k) := hst
      have HD : Hid (Apart w w.heap.size c1 c2 mb) := D
      have HP : Hid (loc key s = (pl, pv)) := hp
      clear hst D hp HS
      go_wp2_with fail
      refine hloc.mono ?_
      rintro e w' ⟨rfl, rfl⟩
      clear hloc
      go_wp2_with fail
      refine hset.mono ?_
      rintro e w5 ⟨rfl, mb', rv5, kp, hmb'⟩
      clear hset
      have bel5 : Below w.heap.size w w5 := by
        have hL := HL.out
        have hD := HD.out
        refine ⟨kp.os.trans hL.bel.os, kp.tape.trans hL.bel.tape, kp.output.trans hL.bel.output, Nat.le_trans hL.bel.size kp.size, fun j hj => ?_⟩
        rw [kp.block j (Nat.lt_of_lt_of_le hj hL.bel.size) (by omega) (fun e => by have := hD.mm j e; omega), hL.bel.block j hj]
      have hrow : ∀ c, c ≠ w.heap.size → mb ≠ some c → ∀ f, Row wr c k k f → ∀ j, j < k → w5.cell? ⟨c, j, none⟩ = some (.int .i64 (f j)) := by
        intro c h1 h2 f hr j hj
        have hcj := hr.val j hj
        exact (World.cell?_of_block (w := wr) (w' := w5) (a := ⟨c, j, none⟩) (kp.block c (World.block_lt_of_cell? _ _ hcj) h1 h2)).trans hcj
      have hr1 := hrow c1 HD.out.nb1.symm HD.out.nm1 _ HL.out.r1
      have hr2 := hrow c2 HD.out.nb2.symm HD.out.nm2 _ HL.out.r2
      have hc5 : k = 0 ∨ ∃ b off, ao = some ⟨b, off, none⟩ ∧ ∀ i, i < k → w5.cell? ⟨b, off + i * 2, none⟩ = some (.int .i64 (cs.getD i (0, 0)).1) := by
        refine HC.out.2.imp id ?_
        rintro ⟨b, off, e, h1⟩
        exact ⟨b, off, e, fun i hi => (bel5.cell (World.block_lt_of_cell? _ _ (h1 i hi).1)).trans (h1 i hi).1⟩
      clear hrow kp hmb' HL HD HC
      have rv5 : RV w5 w.heap.size (sets key value s).1 mb' (sets key value s).2 := rv5
      generalize sets key value s = t at *
      go_wp2_with fail
      go_loop [17] (fun i => ∃ j : Nat, j ≤ k ∧ i = .int .i64 j) (fun i => k - (intOf i).toNat)
      case atStart => exact ⟨0, Nat.zero_le _, rfl⟩
      case round =>
        obtain ⟨j, hj, rfl⟩ := hrel
        by_cases hjlt : j < k
        · rcases hc5 with hc5 | ⟨cb, off, rfl, hc5⟩
          · omega
          have hcx := hc5 j hjlt
          have h1 := hr1 j hjlt
          have h2 := hr2 j hjlt
          generalize (cs.getD j (0, 0)).1 = x at *
          clear hr1 hr2 hc5
          by_cases hxk : x = key
          · have hxb : (x == key) = true := by simpa using hxk
            clear hxk
            go_wp2_with fail
            go_round
            case rel => exact ⟨j + 1, by omega, by go_num⟩
            case measure => simp [intOf]; omega
          · have hxb : (x == key) = false := by simpa using hxk
            clear hxk
            have hloc := locate_any w.heap.size t mb' x w5 rv5
            rw [HM.out.other x hxb] at hloc
            generalize loc x s = q at *
            obtain ⟨l, v⟩ := q
            simp only at h1 h2 hloc
            go_wp2_with fail
            refine hloc.mono ?_
            rintro e w' ⟨rfl, rfl⟩
            clear hloc
            go_wp2_with fail
            go_round
            case rel => exact ⟨j + 1, by omega, by go_num⟩
            case measure => simp [intOf]; omega
        · clear hr1 hr2 hc5
          have hloc := locate_any w.heap.size t mb' key w5 rv5
          have hn5 := n_any w.heap.size t.1 mb' t.2 w5 rv5
          have hm5 := moreLen_any w.heap.size t.1 mb' t.2 w5 rv5
          have hv := HM.out.value
          rw [hv] at hloc
          clear hv
          by_cases hpl : 0 ≤ pl
          · obtain ⟨q1, q2, q3⟩ := HM.out.kept (by rw [HP.out]; exact hpl)
            rw [HP.out] at q1
            rw [q1] at hloc
            rw [q2] at hn5
            rw [q3] at hm5
            clear q1 q2 q3
            go_wp2_with fail
            refine hloc.mono ?_
            rintro e w' ⟨rfl, rfl⟩
            go_wp2_with fail
            refine hn5.mono ?_
            rintro e w' ⟨rfl, rfl⟩
            go_wp2_with fail
            refine hm5.mono ?_
            rintro e w' ⟨rfl, rfl⟩
            go_wp2
            go_ret
            exact ⟨rfl, bel5⟩
          · have hpl' : ¬ 0 ≤ (loc key s).1 := by rw [HP.out]; exact hpl
            by_cases hn4 : s.1.length < 4
            · obtain ⟨q1, q2, q3⟩ := HM.out.next hpl' hn4
              rw [q1] at hloc
              rw [q2] at hn5
              rw [q3] at hm5
              rw [show ((s.1.length + 1 : Nat) : Int) = (s.1.length : Int) + 1 by omega] at hn5
              clear q1 q2 q3 hpl'
              go_wp2_with fail
              refine hloc.mono ?_
              rintro e w' ⟨rfl, rfl⟩
              go_wp2_with fail
              refine hn5.mono ?_
              rintro e w' ⟨rfl, rfl⟩
              go_wp2_with fail
              refine hm5.mono ?_
              rintro e w' ⟨rfl, rfl⟩
              go_wp2
              go_ret
              exact ⟨rfl, bel5⟩
            · obtain ⟨q1, q2, q3⟩ := HM.out.more hpl' hn4
              rw [q1] at hloc
              rw [q2] at hn5
              rw [q3] at hm5
              rw [show ((s.2.length + 1 : Nat) : Int) = (s.2.length : Int) + 1 by omega] at hm5
              clear q1 q2 q3 hpl'
              go_wp2_with fail
              refine hloc.mono ?_
              rintro e w' ⟨rfl, rfl⟩
              go_wp2_with fail
              refine hn5.mono ?_
              rintro e w' ⟨rfl, rfl⟩
              go_wp2_with fail
              refine hm5.mono ?_
              rintro e w' ⟨rfl, rfl⟩
              go_wp2
              go_ret
              exact ⟨rfl, bel5⟩
end Go.Proofs.Qxb6613457a
