import Derived.Test.Qxb6613457aMap
import Derived.BigRegion
import Derived.BigQuiet
import Derived.WalkSmall
import Derived.Carry
namespace Go.Proofs.Qxb6613457a
open Go.RowKit

def keyC (inl : List (Int × Int)) (i : Nat) : Value := match inl[i]? with | some p => .iface 3 (.int .i64 p.1) | none => .nilIface
def valC (inl : List (Int × Int)) (i : Nat) : Value := match inl[i]? with | some p => .iface 3 (.int .i64 p.2) | none => .nilIface

/-- The request's values in memory: the block b; the inline pairs; the map's block, if any, and its entries. -/
structure RV (w : World) (b : Nat) (inl : List (Int × Int)) (mb : Option Nat) (L : List (Int × Int)) : Prop where
  len : inl.length ≤ 4
  ck : ∀ i, i < 4 → w.cell? ⟨b, i * 2, none⟩ = some (keyC inl i)
  cv : ∀ i, i < 4 → w.cell? ⟨b, i * 2 + 1, none⟩ = some (valC inl i)
  cn : w.cell? ⟨b, 8, none⟩ = some (.int .i64 (inl.length : Nat))
  cm : w.cell? ⟨b, 9, none⟩ = some (.map mb)
  fz : ∀ i, i < 10 → w.frozen? ⟨b, i, none⟩ = false
  mp : (mb = none ∧ L = []) ∨ ∃ m, mb = some m ∧ m ≠ b ∧ MapAt w m L ∧ L ≠ []

theorem new_any (w : World) : Calls Try.prog 6 #[] w fun e w' => e = .returned (.pointer (some ⟨w.heap.size, 0, none⟩)) ∧ RV w' w.heap.size [] none [] ∧ Below w.heap.size w w' := by
  go_enter Try.func6, Try.ntmps6
  go_wp2
  go_ret
  refine ⟨rfl, ?_, (Below.refl _ _).alloc (Nat.le_refl _) _⟩
  have k := fun (X : Array Value) (o : Nat) => World.cell?_alloc_mark w X 45 (0, 0) o
  have f := fun (X : Array Value) (o : Nat) => World.frozen?_alloc_mark w X 45 0 0 o
  refine ⟨by simp, fun i hi => ?_, fun i hi => ?_, ?_, ?_, fun i hi => ?_, .inl ⟨rfl, rfl⟩⟩
  · rw [k]
    match i, hi with
    | 0, _ => rfl
    | 1, _ => rfl
    | 2, _ => rfl
    | 3, _ => rfl
  · rw [k]
    match i, hi with
    | 0, _ => rfl
    | 1, _ => rfl
    | 2, _ => rfl
    | 3, _ => rfl
  · rw [k]; rfl
  · rw [k]; rfl
  · rw [f]; simp

/-- Behind the call only the block b and the map's block have turned; new blocks may have come. -/
structure Keep (w w' : World) (b : Nat) (mb : Option Nat) : Prop where
  os : w'.os = w.os
  tape : w'.tape = w.tape
  output : w'.output = w.output
  size : w.heap.size ≤ w'.heap.size
  block : ∀ k, k < w.heap.size → k ≠ b → mb ≠ some k → w'.heap[k]? = w.heap[k]?

theorem MapAt.of_block {w w' : World} {m : Nat} {L : List (Int × Int)} (h : MapAt w m L) (hb : w'.heap[m]? = w.heap[m]?) : MapAt w' m L := by
  obtain ⟨es, c, h1, h2⟩ := h
  exact ⟨es, c, hb.trans h1, h2⟩

theorem RV.of_blocks {w w' : World} {b : Nat} {inl : List (Int × Int)} {mb : Option Nat} {L : List (Int × Int)} (h : RV w b inl mb L) (hb : w'.heap[b]? = w.heap[b]?) (hm : ∀ m, mb = some m → w'.heap[m]? = w.heap[m]?) : RV w' b inl mb L := by
  have c := fun o : Nat => World.cell?_of_block (w := w) (w' := w') (a := ⟨b, o, none⟩) hb
  have f := fun o : Nat => World.frozen?_of_block (w := w) (w' := w') (a := ⟨b, o, none⟩) hb
  refine ⟨h.len, fun i hi => (c _).trans (h.ck i hi), fun i hi => (c _).trans (h.cv i hi), (c _).trans h.cn, (c _).trans h.cm, fun i hi => (f _).trans (h.fz i hi), ?_⟩
  rcases h.mp with h1 | ⟨m, h1, h2, h3, h4⟩
  · exact .inl h1
  · exact .inr ⟨m, h1, h2, h3.of_block (hm m h1), h4⟩

theorem RV.mapOther {w : World} {b : Nat} {inl : List (Int × Int)} {mb : Option Nat} {L : List (Int × Int)} (h : RV w b inl mb L) {w' : World} (hk : ∀ k, k ≠ b → w'.heap[k]? = w.heap[k]?) : (mb = none ∧ L = []) ∨ ∃ m, mb = some m ∧ m ≠ b ∧ MapAt w' m L ∧ L ≠ [] := by
  rcases h.mp with h1 | ⟨m, h1, h2, h3, h4⟩
  · exact .inl h1
  · exact .inr ⟨m, h1, h2, h3.of_block (hk m h2), h4⟩

theorem RV.put {w : World} {b : Nat} {inl : List (Int × Int)} {mb : Option Nat} {L : List (Int × Int)} (h : RV w b inl mb L) (n : Nat) (k x v : Int) (hx : inl[n]? = some (k, x)) : RV (w.setCell ⟨b, n * 2 + 1, none⟩ (.iface 3 (.int .i64 v))) b (inl.set n (k, v)) mb L := by
  have hn : n < inl.length := (List.getElem?_eq_some_iff.1 hx).1
  have hl := h.len
  have o := fun (i : Nat) (hi : i ≠ n * 2 + 1) => World.cell?_setCell_other w (a := ⟨b, n * 2 + 1, none⟩) (b := ⟨b, i, none⟩) (v := .iface 3 (.int .i64 v)) (fun e => hi (congrArg Addr.off e).symm)
  refine ⟨by simpa using hl, fun i hi => ?_, fun i hi => ?_, ?_, ?_, fun i hi => ?_, h.mapOther fun j hj => Below.heap_setCell w _ _ j hj⟩
  · rw [o _ (by omega), h.ck i hi, keyC, keyC]
    by_cases hin : i = n
    · subst hin
      rw [hx]
      simp [hn]
    · simp [Ne.symm hin]
  · by_cases hin : i = n
    · subst hin
      rw [World.cell?_setCell_same _ _ _ (h.cv i hi), valC]
      simp [hn]
    · rw [o _ (by omega), h.cv i hi, valC, valC]
      simp [Ne.symm hin]
  · rw [o _ (by omega), h.cn]; simp
  · rw [o _ (by omega), h.cm]
  · simpa using h.fz i hi

theorem RV.push {w : World} {b : Nat} {inl : List (Int × Int)} {mb : Option Nat} {L : List (Int × Int)} (h : RV w b inl mb L) (k v : Int) (hl : inl.length < 4) :
    RV (((w.setCell ⟨b, inl.length * 2, none⟩ (.iface 3 (.int .i64 k))).setCell ⟨b, inl.length * 2 + 1, none⟩ (.iface 3 (.int .i64 v))).setCell ⟨b, 8, none⟩ (.int .i64 ((inl.length : Int) + 1))) b (inl ++ [(k, v)]) mb L := by
  have o := fun (w : World) (j i : Nat) (v : Value) (hi : i ≠ j) => World.cell?_setCell_other w (a := ⟨b, j, none⟩) (b := ⟨b, i, none⟩) (v := v) (fun e => hi (congrArg Addr.off e).symm)
  refine ⟨by simp; omega, fun i hi => ?_, fun i hi => ?_, ?_, ?_, fun i hi => ?_, h.mapOther fun j hj => ?_⟩
  · rw [o _ _ _ _ (by omega), o _ _ _ _ (by omega)]
    by_cases hin : i = inl.length
    · subst hin
      rw [World.cell?_setCell_same _ _ _ (h.ck _ hl), keyC]
      simp
    · rw [o _ _ _ _ (by omega), h.ck i hi, keyC, keyC]
      by_cases hlt : i < inl.length
      · simp [List.getElem?_append_left hlt]
      · rw [List.getElem?_eq_none (by omega : inl.length ≤ i), List.getElem?_eq_none (by simp; omega : (inl ++ [(k, v)]).length ≤ i)]
  · rw [o _ _ _ _ (by omega)]
    by_cases hin : i = inl.length
    · subst hin
      rw [World.cell?_setCell_same _ _ _ ((o _ _ _ _ (by omega)).trans (h.cv _ hl)), valC]
      simp
    · rw [o _ _ _ _ (by omega), o _ _ _ _ (by omega), h.cv i hi, valC, valC]
      by_cases hlt : i < inl.length
      · simp [List.getElem?_append_left hlt]
      · rw [List.getElem?_eq_none (by omega : inl.length ≤ i), List.getElem?_eq_none (by simp; omega : (inl ++ [(k, v)]).length ≤ i)]
  · rw [World.cell?_setCell_same _ _ _ ((o _ _ _ _ (by omega)).trans ((o _ _ _ _ (by omega)).trans h.cn))]
    simp
  · rw [o _ _ _ _ (by omega), o _ _ _ _ (by omega), o _ _ _ _ (by omega), h.cm]
  · simpa using h.fz i hi
  · rw [Below.heap_setCell _ _ _ j hj, Below.heap_setCell _ _ _ j hj, Below.heap_setCell _ _ _ j hj]

set_option maxHeartbeats 400000 in
theorem set_hit (b : Nat) (inl : List (Int × Int)) (mb : Option Nat) (L : List (Int × Int)) (k v : Int) (n : Nat) (x : Int) (w : World) (h : RV w b inl mb L) (hn : n < inl.length) (hx : inl[n]? = some (k, x)) (hf : ∀ j, j < n → ∀ p, inl[j]? = some p → p.1 ≠ k) :
    Calls Try.prog 17 #[.pointer (some ⟨b, 0, none⟩), .iface 3 (.int .i64 k), .iface 3 (.int .i64 v)] w fun e w' => e = .returned (.tuple #[]) ∧ w' = w.setCell ⟨b, n * 2 + 1, none⟩ (.iface 3 (.int .i64 v)) := by
  have he := eql_any
  have hlen := h.len
  have cn := h.cn
  have hcv := h.cv n (by omega)
  have hfz := h.fz (n * 2 + 1) (by omega)
  generalize hlp : inl.length = len at *
  go_enter Try.func17, Try.ntmps17
  go_wp2
  go_loop [11] (fun i => ∃ t : Nat, t ≤ n ∧ i = .int .i64 t) (fun i => n + 1 - (intOf i).toNat)
  case atStart => exact ⟨0, Nat.zero_le _, rfl⟩
  case round =>
    obtain ⟨t, ht, rfl⟩ := hrel
    by_cases htn : t < n
    · obtain ⟨p, hp⟩ : ∃ p, inl[t]? = some p := ⟨inl[t]'(by omega), List.getElem?_eq_getElem _⟩
      have hne : (p.1 == k) = false := by simpa using hf t htn p hp
      have hc : w.cell? ⟨b, t * 2, none⟩ = some (.iface 3 (.int .i64 p.1)) := by rw [h.ck t (by omega), keyC, hp]
      clear hf hx hp h hcv
      go_wp2
      go_round
      case rel => exact ⟨t + 1, by omega, by go_num⟩
      case measure => simp [intOf]; omega
    · obtain rfl : t = n := by omega
      have hc : w.cell? ⟨b, t * 2, none⟩ = some (.iface 3 (.int .i64 k)) := by rw [h.ck t (by omega), keyC, hx]
      clear hf hx h
      go_wp2
      refine bodyPost_ret (results_none rfl _ _ _) rfl ?_
      exact ⟨rfl, rfl⟩

set_option maxHeartbeats 1000000 in
theorem set_new (b : Nat) (inl : List (Int × Int)) (mb : Option Nat) (L : List (Int × Int)) (k v : Int) (w : World) (h : RV w b inl mb L) (hl : inl.length < 4) (hf : ∀ p ∈ inl, p.1 ≠ k) :
    Calls Try.prog 17 #[.pointer (some ⟨b, 0, none⟩), .iface 3 (.int .i64 k), .iface 3 (.int .i64 v)] w fun e w' => e = .returned (.tuple #[]) ∧
      w'.tape = w.tape ∧ w'.Alike (((w.setCell ⟨b, inl.length * 2, none⟩ (.iface 3 (.int .i64 k))).setCell ⟨b, inl.length * 2 + 1, none⟩ (.iface 3 (.int .i64 v))).setCell ⟨b, 8, none⟩ (.int .i64 ((inl.length : Int) + 1))) := by
  have he := eql_any
  have hlen := h.len
  have cn := h.cn
  have hck := h.ck inl.length hl
  have hcv := h.cv inl.length hl
  have hf0 := h.fz (inl.length * 2) (by omega)
  have hf1 := h.fz (inl.length * 2 + 1) (by omega)
  have hf8 := h.fz 8 (by omega)
  obtain ⟨u1, hu1⟩ : ∃ u, w.cell? ⟨b, inl.length * 2, none⟩ = some u := ⟨_, hck⟩
  obtain ⟨u2, hu2⟩ : ∃ u, w.cell? ⟨b, inl.length * 2 + 1, none⟩ = some u := ⟨_, hcv⟩
  clear hck hcv
  have hls : ∀ t, t < inl.length → ∃ q, w.cell? ⟨b, t * 2, none⟩ = some (.iface 3 (.int .i64 q)) ∧ q ≠ k := fun t ht => by
    refine ⟨(inl[t]'ht).1, ?_, hf _ (List.getElem_mem ht)⟩
    rw [h.ck t (by omega), keyC, List.getElem?_eq_getElem ht]
  clear h hf
  generalize inl.length = len at *
  go_enter Try.func17, Try.ntmps17
  go_wp2
  go_loop [11] (fun i => ∃ t : Nat, t ≤ len ∧ i = .int .i64 t) (fun i => len + 1 - (intOf i).toNat)
  case atStart => exact ⟨0, Nat.zero_le _, rfl⟩
  case round =>
    obtain ⟨t, ht, rfl⟩ := hrel
    by_cases htn : t < len
    · obtain ⟨q, hc, hq⟩ := hls t htn
      have hne : (q == k) = false := by simpa using hq
      clear hls hq
      go_wp2
      go_round
      case rel => exact ⟨t + 1, by omega, by go_num⟩
      case measure => simp [intOf]; omega
    · clear hls
      go_wp2
      go_region
      go_wp2
      refine bodyPost_ret (results_none rfl _ _ _) rfl ?_
      exact ⟨rfl, rfl, rfl, rfl, rfl⟩

set_option maxHeartbeats 1000000 in
theorem set_more (b m : Nat) (inl : List (Int × Int)) (L : List (Int × Int)) (k v : Int) (w : World) (h : RV w b inl (some m) L) (hl : inl.length = 4) (hf : ∀ p ∈ inl, p.1 ≠ k) (O : Obj)
    (hup : (Instr.mapUpdate 43 (.map (some m)) (.iface 3 (.int .i64 k)) (.iface 3 (.int .i64 v))).run Try.prog w = .ok () { w with heap := w.heap.setIfInBounds m O }) :
    Calls Try.prog 17 #[.pointer (some ⟨b, 0, none⟩), .iface 3 (.int .i64 k), .iface 3 (.int .i64 v)] w fun e w' => e = .returned (.tuple #[]) ∧ w' = { w with heap := w.heap.setIfInBounds m O } := by
  have he := eql_any
  have cn := h.cn
  have cm := h.cm
  have hn := run_eql_map_nil (P := Try.prog) w 43 _ _ (some m) Try.underlying43
  have hls : ∀ t, t < 4 → ∃ q, w.cell? ⟨b, t * 2, none⟩ = some (.iface 3 (.int .i64 q)) ∧ q ≠ k := fun t ht => by
    have ht' : t < inl.length := by omega
    refine ⟨(inl[t]'ht').1, ?_, hf _ (List.getElem_mem ht')⟩
    rw [h.ck t (by omega), keyC, List.getElem?_eq_getElem ht']
  clear h hf
  rw [hl] at cn
  clear hl
  go_enter Try.func17, Try.ntmps17
  go_wp2
  go_loop [11] (fun i => ∃ t : Nat, t ≤ 4 ∧ i = .int .i64 t) (fun i => 5 - (intOf i).toNat)
  case atStart => exact ⟨0, Nat.zero_le _, rfl⟩
  case round =>
    obtain ⟨t, ht, rfl⟩ := hrel
    by_cases htn : t < 4
    · obtain ⟨q, hc, hq⟩ := hls t htn
      have hne : (q == k) = false := by simpa using hq
      clear hls hq
      go_wp2
      go_round
      case rel => exact ⟨t + 1, by omega, by go_num⟩
      case measure => simp [intOf]; omega
    · obtain rfl : t = 4 := by omega
      clear hls
      go_wp2
      go_end0
      exact ⟨rfl, rfl⟩

set_option maxHeartbeats 1000000 in
theorem set_first (b : Nat) (inl : List (Int × Int)) (k v : Int) (w : World) (h : RV w b inl none []) (hl : inl.length = 4) (hf : ∀ p ∈ inl, p.1 ≠ k) (O : Obj)
    (hup : (Instr.mapUpdate 43 (.map (some w.heap.size)) (.iface 3 (.int .i64 k)) (.iface 3 (.int .i64 v))).run Try.prog ((w.setCell ⟨b, 9, none⟩ (.map (some w.heap.size))).alloc (.map #[] 0)) = .ok () { (w.setCell ⟨b, 9, none⟩ (.map (some w.heap.size))).alloc (.map #[] 0) with heap := ((w.setCell ⟨b, 9, none⟩ (.map (some w.heap.size))).alloc (.map #[] 0)).heap.setIfInBounds w.heap.size O }) :
    Calls Try.prog 17 #[.pointer (some ⟨b, 0, none⟩), .iface 3 (.int .i64 k), .iface 3 (.int .i64 v)] w fun e w' => e = .returned (.tuple #[]) ∧ w' = { (w.setCell ⟨b, 9, none⟩ (.map (some w.heap.size))).alloc (.map #[] 0) with heap := ((w.setCell ⟨b, 9, none⟩ (.map (some w.heap.size))).alloc (.map #[] 0)).heap.setIfInBounds w.heap.size O } := by
  have he := eql_any
  have cn := h.cn
  have cm := h.cm
  have hf9 := h.fz 9 (by omega)
  have hbs : b < w.heap.size := World.block_lt_of_cell? _ _ cn
  have hmm := @run_makeMap Try.prog
  have hn := run_eql_map_nil (P := Try.prog) w 43 _ _ none Try.underlying43
  have hls : ∀ t, t < 4 → ∃ q, w.cell? ⟨b, t * 2, none⟩ = some (.iface 3 (.int .i64 q)) ∧ q ≠ k := fun t ht => by
    have ht' : t < inl.length := by omega
    refine ⟨(inl[t]'ht').1, ?_, hf _ (List.getElem_mem ht')⟩
    rw [h.ck t (by omega), keyC, List.getElem?_eq_getElem ht']
  clear h hf
  rw [hl] at cn
  clear hl
  go_enter Try.func17, Try.ntmps17
  go_wp2
  go_loop [11] (fun i => ∃ t : Nat, t ≤ 4 ∧ i = .int .i64 t) (fun i => 5 - (intOf i).toNat)
  case atStart => exact ⟨0, Nat.zero_le _, rfl⟩
  case round =>
    obtain ⟨t, ht, rfl⟩ := hrel
    by_cases htn : t < 4
    · obtain ⟨q, hc, hq⟩ := hls t htn
      have hne : (q == k) = false := by simpa using hq
      clear hls hq
      go_wp2
      go_round
      case rel => exact ⟨t + 1, by omega, by go_num⟩
      case measure => simp [intOf]; omega
    · obtain rfl : t = 4 := by omega
      clear hls
      go_wp2
      go_end0
      exact ⟨rfl, rfl⟩
end Go.Proofs.Qxb6613457a
