import Derived.Test.Qxb6613457aProg
import Derived.WalkKit
import Derived.WalkSpells
import Derived.WalkLawsBesides
import Derived.LaidEql
import Derived.ProofKit
namespace Go.Proofs.Qxb6613457a
open Go.RowKit

theorem info3 : (Try.prog.info? 3).map (fun i => (i.comparable, i.size, i.bytes)) = some (true, 1, 8) := by kernel_rfl
theorem und20 : ∃ ms, Try.prog.underlying 20 = some (.interface ms) := ⟨_, Try.underlying20⟩

theorem comparable3 : ∃ i, Try.prog.info? 3 = some i ∧ i.comparable = true := by
  obtain ⟨i, hinfo, hc⟩ := Option.map_eq_some_iff.1 info3
  simp only [Prod.mk.injEq] at hc
  exact ⟨i, hinfo, hc.1⟩

theorem equalIn_any (d : Nat) (a b : Int) (w : World) : (Op.equalIn (d + 2) 20 (.iface 3 (.int .i64 a)) (.iface 3 (.int .i64 b))).run Try.prog w = .ok (a == b) w := by
  obtain ⟨ms, hi⟩ := und20
  obtain ⟨i, hinfo, hcomp⟩ := comparable3
  simp [Op.equalIn, run_underlying hi, run_underlying Try.underlying3, typeInfo, hinfo, hcomp]

theorem equal_any (a b : Int) (w : World) : (Op.equal 20 (.iface 3 (.int .i64 a)) (.iface 3 (.int .i64 b))).run Try.prog w = .ok (a == b) w := by
  simp [Op.equal, Op.maxDepth, equalIn_any 9998 a b w]

theorem eql_any (a b : Int) (w : World) : (binOp .eql 20 (.iface 3 (.int .i64 a)) (.iface 3 (.int .i64 b))).run Try.prog w = .ok (.bool (a == b)) w := by
  simp only [binOp]
  simp [equal_any]

theorem check_n (em : Bool) (n : Nat) (k : Int) (w : World) : (Instr.checkKey em (n + 2) 20 (.iface 3 (.int .i64 k))).run Try.prog w = .ok () w := by
  obtain ⟨ms, hi⟩ := und20
  obtain ⟨i, hinfo, hcomp⟩ := comparable3
  simp [Instr.checkKey, run_underlying hi, run_underlying Try.underlying3, typeInfo, hinfo, hcomp]

theorem check_any (em : Bool) (k : Int) (w : World) : (Instr.checkKey em 10000 20 (.iface 3 (.int .i64 k))).run Try.prog w = .ok () w := check_n em 9998 k w

/-- The entry at a key: its place and its value. -/
def look (k : Int) : List (Int × Int) → Nat → Option (Nat × Int)
  | [], _ => none
  | p :: L, i => if k == p.1 then some (i, p.2) else look k L (i + 1)

/-- The entries, as values. -/
def Ents (es : List MapEntry) (L : List (Int × Int)) : Prop := es.map (fun e => (e.key, e.val)) = L.map (fun p => (Value.iface 3 (.int .i64 p.1), Value.iface 3 (.int .i64 p.2)))

theorem find_asking (k : Int) (w : World) : ∀ (es : List MapEntry) (L : List (Int × Int)) (i : Nat), Ents es L →
    (Instr.findAsking 20 (.iface 3 (.int .i64 k)) es i).run Try.prog w = .ok ((look k L i).map fun p => (p.1, Value.iface 3 (.int .i64 p.2))) w
  | [], [], i, _ => by simp [Instr.findAsking, look]
  | [], p :: L, i, h => by simp [Ents] at h
  | e :: es, [], i, h => by simp [Ents] at h
  | e :: es, p :: L, i, h => by
    simp only [Ents, List.map_cons, List.cons.injEq, Prod.mk.injEq] at h
    obtain ⟨⟨h1, h2⟩, h3⟩ := h
    have ih := find_asking k w es L (i + 1) h3
    simp only [Instr.findAsking, Sem.run_bind, h1, equal_any, Result.andThen]
    by_cases hk : k = p.1
    · simp [hk, look, h2]
    · simp [hk, look, ih]

theorem find_any (k : Int) (w : World) (es : List MapEntry) (L : List (Int × Int)) (h : Ents es L) :
    (Instr.findKey 20 (.iface 3 (.int .i64 k)) es).run Try.prog w = .ok ((look k L 0).map fun p => (p.1, Value.iface 3 (.int .i64 p.2))) w := by
  obtain ⟨ms, hi⟩ := und20
  cases es with
  | nil =>
    cases L with
    | nil => simp [Instr.findKey, run_underlying hi, Instr.findNow, look]
    | cons p L => simp [Ents] at h
  | cons e es =>
    have hn : Instr.findNow (.interface ms) (.iface 3 (.int .i64 k)) (e :: es) 0 = none := by simp [Instr.findNow, Instr.sameNow]
    simp only [Instr.findKey, Sem.run_bind, run_underlying hi, Result.andThen, hn]
    exact find_asking k w (e :: es) L 0 h

/-- The map's block m holds the entries L. -/
def MapAt (w : World) (m : Nat) (L : List (Int × Int)) : Prop := ∃ es clock, w.heap[m]? = some (.map es clock) ∧ Ents es.toList L

/-- What a look-up gives, as a value. -/
def got (k : Int) (L : List (Int × Int)) : Value := match look k L 0 with | some p => .iface 3 (.int .i64 p.2) | none => .nilIface

theorem zero20 (w : World) : (zeroValue 20).run Try.prog w = .ok .nilIface w := by kernel_rfl

theorem lookup_some (m : Nat) (k : Int) (L : List (Int × Int)) (w : World) (h : MapAt w m L) :
    (Instr.lookup 43 (.map (some m)) (.iface 3 (.int .i64 k)) false).run Try.prog w = .ok (got k L) w := by
  obtain ⟨es, clock, hb, he⟩ := h
  simp only [Instr.lookup, Sem.run_bind, run_underlying Try.underlying43, Result.andThen, MapKept.run_getObj_map hb, Sem.run_pure, check_any, find_any k w es.toList L he, got]
  cases hl : look k L 0 with
  | none => rfl
  | some p => simp

theorem lookup_none (k : Int) (w : World) :
    (Instr.lookup 43 (.map none) (.iface 3 (.int .i64 k)) false).run Try.prog w = .ok .nilIface w := by
  have he : Ents [] [] := rfl
  simp only [Instr.lookup, Sem.run_bind, run_underlying Try.underlying43, Result.andThen, Sem.run_pure, check_any, find_any k w [] [] he, look]
  rfl

/-- What an update makes of the entries. -/
def upd (k v : Int) : List (Int × Int) → List (Int × Int)
  | [] => [(k, v)]
  | p :: L => if k == p.1 then (k, v) :: L else p :: upd k v L

theorem look_spec (k v : Int) : ∀ (L : List (Int × Int)) (i : Nat), (look k L i = none ∧ upd k v L = L ++ [(k, v)] ∧ ∀ p ∈ L, p.1 ≠ k) ∨ ∃ n x, look k L i = some (i + n, x) ∧ n < L.length ∧ L[n]? = some (k, x) ∧ upd k v L = L.set n (k, v)
  | [], i => .inl ⟨rfl, rfl, by simp⟩
  | p :: L, i => by
    by_cases hk : k = p.1
    · exact .inr ⟨0, p.2, by simp [look, hk], by simp, by simp [hk], by simp [upd, hk]⟩
    · rcases look_spec k v L (i + 1) with ⟨h1, h2, h3⟩ | ⟨n, x, h1, h2, h3, h4⟩
      · refine .inl ⟨by simp [look, hk, h1], by simp [upd, hk, h2], fun q hq => ?_⟩
        rcases List.mem_cons.1 hq with rfl | hq
        · exact fun e => hk e.symm
        · exact h3 q hq
      · exact .inr ⟨n + 1, x, by simp [look, hk, h1]; omega, by simpa using h2, by simpa using h3, by simp [upd, hk, h4]⟩

theorem same_int (n : Nat) (k : Int) : Instr.sameBits (n + 1) (.iface 3 (.int .i64 k)) (.iface 3 (.int .i64 k)) = true := by
  simp [Instr.sameBits]

theorem stays_int (k : Int) (w : World) : (Instr.keyThatStays (.iface 3 (.int .i64 k)) (.iface 3 (.int .i64 k))).run Try.prog w = .ok (.iface 3 (.int .i64 k)) w := by
  unfold Instr.keyThatStays
  rw [same_int 9999 k]
  simp

/-- The map's block behind 'm[k] = v'. -/
def updO (es : Array MapEntry) (clock : Nat) (L : List (Int × Int)) (k v : Int) : Obj :=
  match look k L 0 with
  | some p => .map (es.modify p.1 fun e => { e with key := .iface 3 (.int .i64 k), val := .iface 3 (.int .i64 v) }) clock
  | none => .map (es.push { key := .iface 3 (.int .i64 k), val := .iface 3 (.int .i64 v), born := clock }) (clock + 1)

theorem update_any (m : Nat) (es : Array MapEntry) (clock : Nat) (L : List (Int × Int)) (he : Ents es.toList L) (k v : Int) (w : World) (hb : w.heap[m]? = some (.map es clock)) :
    (Instr.mapUpdate 43 (.map (some m)) (.iface 3 (.int .i64 k)) (.iface 3 (.int .i64 v))).run Try.prog w = .ok () { w with heap := w.heap.setIfInBounds m (updO es clock L k v) } := by
  simp only [Instr.mapUpdate, Sem.run_bind, run_underlying Try.underlying43, Result.andThen, MapKept.run_getObj_map hb, check_any, find_any k w es.toList L he]
  rcases look_spec k v L 0 with ⟨h1, _, _⟩ | ⟨n, x, h1, h2, h3, _⟩
  · rw [h1]
    simp only [Option.map_none]
    rw [MapKept.run_setObj_map _ hb, updO, h1]
  · rw [h1]
    simp only [Option.map_some, Nat.zero_add]
    have hn : n < es.size := by
      have := congrArg List.length he
      simp at this
      omega
    have hk : ((es[n]?).map (·.key)).getD (.iface 3 (.int .i64 k)) = .iface 3 (.int .i64 k) := by
      have := congrArg (fun l => l[n]?) he
      simp [h3, hn] at this
      simp [hn, this.1]
    rw [hk, Sem.run_bind, stays_int]
    simp only [Result.andThen]
    rw [MapKept.run_setObj_map _ hb, updO, h1]
    simp

theorem updO_ents (es : Array MapEntry) (clock : Nat) (L : List (Int × Int)) (he : Ents es.toList L) (k v : Int) : ∃ es' c', updO es clock L k v = .map es' c' ∧ Ents es'.toList (upd k v L) := by
  rcases look_spec k v L 0 with ⟨h1, h2, _⟩ | ⟨n, x, h1, h2, h3, h4⟩
  · refine ⟨_, _, by rw [updO, h1], ?_⟩
    rw [h2]
    unfold Ents at he ⊢
    simp [he]
  · refine ⟨_, _, by rw [updO, h1], ?_⟩
    rw [h4]
    unfold Ents at he ⊢
    have hn : n < es.size := by
      have := congrArg List.length he
      simp at this
      omega
    apply List.ext_getElem?
    intro j
    have hj := congrArg (fun l => l[j]?) he
    simp only [List.getElem?_map, Array.getElem?_toList] at hj
    simp only [List.getElem?_map, Array.getElem?_toList, Nat.zero_add, Array.getElem?_modify]
    by_cases e : n = j
    · subst e
      rw [List.getElem?_set_self h2]
      simp [hn]
    · rw [if_neg e, List.getElem?_set_ne e]
      exact hj
end Go.Proofs.Qxb6613457a
