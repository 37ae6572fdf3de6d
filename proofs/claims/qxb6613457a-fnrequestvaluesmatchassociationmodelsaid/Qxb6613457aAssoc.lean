import Derived.Test.Qxb6613457aPlain
namespace Go.Proofs.Qxb6613457a

/-- The distinct keys of the first n calls, in order of first appearance. -/
def dstn (cs : Ls) : Nat → List Int
  | 0 => []
  | n + 1 => if (cs.getD n (0, 0)).1 ∈ dstn cs n then dstn cs n else dstn cs n ++ [(cs.getD n (0, 0)).1]

theorem dstn_len (cs : Ls) : ∀ n, (dstn cs n).length ≤ n
  | 0 => Nat.le_refl _
  | n + 1 => by
    have := dstn_len cs n
    simp only [dstn]
    split
    · omega
    · simp; omega

theorem keys_upd (k v : Int) : ∀ L : Ls, (upd k v L).map Prod.fst = if k ∈ L.map Prod.fst then L.map Prod.fst else L.map Prod.fst ++ [k]
  | [] => by simp [upd]
  | p :: L => by
    by_cases hk : k = p.1
    · simp [upd, hk]
    · have ih := keys_upd k v L
      simp only [upd, beq_iff_eq, hk, if_false, List.map_cons, List.mem_cons, false_or, ih]
      split <;> simp

theorem vals_upd (k v : Int) (lv : Int → Int) : ∀ L : Ls, (∀ p ∈ L, p.2 = lv p.1) → (L.map Prod.fst).Nodup → ∀ p ∈ upd k v L, p.2 = if k == p.1 then v else lv p.1
  | [], _, _, p, hp => by
    simp only [upd, List.mem_singleton] at hp
    subst hp
    simp
  | q :: L, h, hn, p, hp => by
    simp only [List.map_cons, List.nodup_cons] at hn
    by_cases hk : k = q.1
    · simp only [upd, beq_iff_eq, hk, if_true, List.mem_cons] at hp
      rcases hp with rfl | hp
      · simp [hk]
      · have hne : k ≠ p.1 := fun e => hn.1 (by rw [← hk, e]; exact List.mem_map_of_mem hp)
        simp [hne]
        exact h p (List.mem_cons_of_mem _ hp)
    · simp only [upd, beq_iff_eq, hk, if_false, List.mem_cons] at hp
      rcases hp with rfl | hp
      · simp [hk]
        exact h p List.mem_cons_self
      · exact vals_upd k v lv L (fun p hp => h p (List.mem_cons_of_mem _ hp)) hn.2 p hp

/-- The two lists hold the distinct keys, in order, each with its value. -/
structure Good (s : Ls × Ls) (ds : List Int) (lv : Int → Int) : Prop where
  keys : s.1.map Prod.fst ++ s.2.map Prod.fst = ds
  len : s.1.length = min 4 ds.length
  v1 : ∀ p ∈ s.1, p.2 = lv p.1
  v2 : ∀ p ∈ s.2, p.2 = lv p.1
  nodup : ds.Nodup

theorem look_mem (k : Int) (L : Ls) : look k L 0 = none ↔ k ∉ L.map Prod.fst := by
  rcases look_spec k 0 L 0 with ⟨h1, _, h3⟩ | ⟨n, x, h1, h2, h3, _⟩
  · refine ⟨fun _ hm => ?_, fun _ => h1⟩
    obtain ⟨p, hp, e⟩ := List.mem_map.1 hm
    exact h3 p hp e
  · refine ⟨fun h => (by rw [h] at h1; cases h1), fun h => absurd ?_ h⟩
    exact List.mem_map.2 ⟨(k, x), List.mem_of_getElem? h3, rfl⟩

theorem good_step (s : Ls × Ls) (ds : List Int) (lv : Int → Int) (k v : Int) (h : Good s ds lv) :
    Good (sets k v s) (if k ∈ ds then ds else ds ++ [k]) (fun q => if k == q then v else lv q) := by
  obtain ⟨hk, hl, h1, h2, hn⟩ := h
  subst hk
  obtain ⟨n1, n2, n12⟩ := List.nodup_append.1 hn
  have hnd : (if k ∈ s.1.map Prod.fst ++ s.2.map Prod.fst then s.1.map Prod.fst ++ s.2.map Prod.fst else s.1.map Prod.fst ++ s.2.map Prod.fst ++ [k]).Nodup := by
    split
    · exact hn
    · rename_i hm
      refine List.nodup_append.2 ⟨hn, by simp, fun a ha b hb => ?_⟩
      simp only [List.mem_singleton] at hb
      subst hb
      exact fun e => hm (e ▸ ha)
  have hlen : s.1.length = min 4 (s.1.length + s.2.length) := by simpa using hl
  by_cases hk1 : k ∈ s.1.map Prod.fst
  · have hlk : (look k s.1 0).isSome = true := by
      cases hx : look k s.1 0 with
      | none => exact absurd hk1 ((look_mem k s.1).1 hx)
      | some p => rfl
    have hs : sets k v s = (upd k v s.1, s.2) := by simp [sets, hlk]
    have hin : k ∈ s.1.map Prod.fst ++ s.2.map Prod.fst := List.mem_append_left _ hk1
    rw [if_pos hin] at hnd ⊢
    rw [hs]
    have ku : (upd k v s.1).map Prod.fst = s.1.map Prod.fst := by rw [keys_upd, if_pos hk1]
    have kl : (upd k v s.1).length = s.1.length := by simpa using congrArg List.length ku
    refine ⟨by rw [ku], by simp [kl]; omega, vals_upd k v lv s.1 h1 n1, fun p hp => ?_, hnd⟩
    have hne : k ≠ p.1 := n12 k hk1 p.1 (List.mem_map_of_mem hp)
    simp [hne]
    exact h2 p hp
  · have hlk : look k s.1 0 = none := (look_mem k s.1).2 hk1
    by_cases h4 : s.1.length < 4
    · have hs : sets k v s = (upd k v s.1, s.2) := by simp [sets, h4]
      have hnil : s.2 = [] := List.length_eq_zero_iff.1 (by omega)
      have hout : k ∉ s.1.map Prod.fst ++ s.2.map Prod.fst := by simpa [hnil] using hk1
      rw [if_neg hout] at hnd ⊢
      rw [hs]
      have ku : (upd k v s.1).map Prod.fst = s.1.map Prod.fst ++ [k] := by rw [keys_upd, if_neg hk1]
      have kl : (upd k v s.1).length = s.1.length + 1 := by simpa using congrArg List.length ku
      refine ⟨by simp [ku, hnil], by simp [kl, hnil]; omega, vals_upd k v lv s.1 h1 n1, fun p hp => ?_, hnd⟩
      simp [hnil] at hp
    · have hs : sets k v s = (s.1, upd k v s.2) := by simp [sets, hlk, h4]
      rw [hs]
      have ku := keys_upd k v s.2
      have hv1 : ∀ p ∈ s.1, p.2 = if k == p.1 then v else lv p.1 := fun p hp => by
        have hne : k ≠ p.1 := fun e => hk1 (e ▸ List.mem_map_of_mem hp)
        simp [hne]
        exact h1 p hp
      by_cases hk2 : k ∈ s.2.map Prod.fst
      · have hin : k ∈ s.1.map Prod.fst ++ s.2.map Prod.fst := List.mem_append_right _ hk2
        rw [if_pos hin] at hnd ⊢
        rw [if_pos hk2] at ku
        exact ⟨by rw [ku], by simpa using hlen, hv1, vals_upd k v lv s.2 h2 n2, hnd⟩
      · have hout : k ∉ s.1.map Prod.fst ++ s.2.map Prod.fst := fun h => (List.mem_append.1 h).elim hk1 hk2
        rw [if_neg hout] at hnd ⊢
        rw [if_neg hk2] at ku
        exact ⟨by rw [ku, List.append_assoc], by simp; omega, hv1, vals_upd k v lv s.2 h2 n2, hnd⟩

theorem good_runs (cs : Ls) : ∀ n, n ≤ cs.length → Good (runs (cs.take n)) (dstn cs n) (fun k => lastv cs k n)
  | 0, _ => ⟨rfl, rfl, fun p hp => (by simp [runs] at hp), fun p hp => (by simp [runs] at hp), List.nodup_nil⟩
  | n + 1, h => by
    have ih := good_runs cs n (by omega)
    rw [runs_take cs n (by omega)]
    exact good_step _ _ _ _ _ ih

/-- What the law asks, at each place. -/
structure Laid (s : Ls × Ls) (ds : List Int) (lv : Int → Int) : Prop where
  len : s.1.length = min 4 ds.length
  inl : ∀ i, i < 4 → i < ds.length → s.1[i]? = some (ds.getD i 0, lv (ds.getD i 0))
  out : ∀ i, ds.length ≤ i → s.1[i]? = none
  nil : ds.length ≤ 4 → s.2 = []
  more : 4 < ds.length → s.2.length + 4 = ds.length
  low : ∀ j, j < 4 → j < ds.length → look (ds.getD j 0) s.2 0 = none
  high : ∀ j, 4 ≤ j → j < ds.length → ∃ q, look (ds.getD j 0) s.2 0 = some (q, lv (ds.getD j 0))

theorem look_at : ∀ (L : Ls) (i n : Nat) (p : Int × Int), (L.map Prod.fst).Nodup → L[n]? = some p → look p.1 L i = some (i + n, p.2)
  | [], i, n, p, _, h => by simp at h
  | q :: L, i, n, p, hn, h => by
    simp only [List.map_cons, List.nodup_cons] at hn
    cases n with
    | zero => simp at h; subst h; simp [look]
    | succ n =>
      have h' : L[n]? = some p := by simpa using h
      have hne : p.1 ≠ q.1 := fun e => hn.1 (e ▸ List.mem_map_of_mem (List.mem_of_getElem? h'))
      simp only [look, beq_iff_eq, hne, if_false]
      rw [look_at L (i + 1) n p hn.2 h']
      congr 2
      omega

theorem laid_of_good (s : Ls × Ls) (ds : List Int) (lv : Int → Int) (h : Good s ds lv) : Laid s ds lv := by
  obtain ⟨hk, hl, h1, h2, hn⟩ := h
  have hlen : s.1.length + s.2.length = ds.length := by rw [← hk]; simp
  have hnn := hn
  rw [← hk] at hnn
  obtain ⟨n1, n2, n12⟩ := List.nodup_append.1 hnn
  have g1 : ∀ i, (hi : i < s.1.length) → ds.getD i 0 = (s.1[i]).1 := fun i hi => by
    rw [← hk, List.getD, List.getElem?_append_left (by simpa using hi)]
    simp [hi]
  have g2 : ∀ i, (hi : i < s.2.length) → ds.getD (s.1.length + i) 0 = (s.2[i]).1 := fun i hi => by
    rw [← hk, List.getD, List.getElem?_append_right (by simp)]
    simp [hi]
  refine ⟨hl, fun i hi hd => ?_, fun i hi => List.getElem?_eq_none (by omega), fun hd => List.length_eq_zero_iff.1 (by omega), fun hd => by omega, fun j hj hd => ?_, fun j hj hd => ?_⟩
  · have hi1 : i < s.1.length := by omega
    rw [g1 i hi1, ← h1 _ (List.getElem_mem hi1), List.getElem?_eq_getElem hi1]
  · have hi1 : j < s.1.length := by omega
    rw [g1 j hi1, look_mem]
    intro hm
    exact n12 _ (List.mem_map_of_mem (List.getElem_mem hi1)) _ hm rfl
  · have hi2 : j - s.1.length < s.2.length := by omega
    have e : s.1.length + (j - s.1.length) = j := by omega
    have g := g2 _ hi2
    rw [e] at g
    have hp := look_at s.2 0 (j - s.1.length) (s.2[j - s.1.length]) n2 (List.getElem?_eq_getElem hi2)
    rw [← g, h2 _ (List.getElem_mem hi2), ← g] at hp
    exact ⟨_, hp⟩

theorem laid_runs (cs : Ls) : Laid (runs cs) (dstn cs cs.length) (fun k => lastv cs k cs.length) := by
  have := good_runs cs cs.length (Nat.le_refl _)
  rw [List.take_length] at this
  exact laid_of_good _ _ _ this
end Go.Proofs.Qxb6613457a
