import Derived.Test.Qxb6613457aLocate
namespace Go.Proofs.Qxb6613457a

theorem look_upd_other (k k' v : Int) (hne : k' ≠ k) : ∀ (L : Ls) (i : Nat), look k' (upd k v L) i = look k' L i
  | [], i => by simp [upd, look, hne]
  | p :: L, i => by
    by_cases hk : k = p.1
    · have h2 : k' ≠ p.1 := fun e => hne (e.trans hk.symm)
      simp [upd, hk, look, h2]
    · simp [upd, hk, look, look_upd_other k k' v hne L (i + 1)]

theorem look_upd_miss (k v : Int) : ∀ (L : Ls) (i : Nat), look k L i = none → look k (upd k v L) i = some (i + L.length, v)
  | [], i, _ => by simp [upd, look]
  | p :: L, i, h => by
    by_cases hk : k = p.1
    · simp [look, hk] at h
    · simp only [look, beq_iff_eq, hk, if_false] at h
      simp [upd, hk, look, look_upd_miss k v L (i + 1) h]
      omega

theorem look_upd_hit (k v : Int) : ∀ (L : Ls) (i : Nat) (p : Nat × Int), look k L i = some p → look k (upd k v L) i = some (p.1, v)
  | [], i, p, h => by simp [look] at h
  | q :: L, i, p, h => by
    by_cases hk : k = q.1
    · simp [look, hk] at h
      subst h
      simp [upd, hk, look]
    · simp only [look, beq_iff_eq, hk, if_false] at h
      simp [upd, hk, look, look_upd_hit k v L (i + 1) p h]

theorem length_upd_miss (k v : Int) (L : Ls) (h : look k L 0 = none) : (upd k v L).length = L.length + 1 := by
  rcases look_spec k v L 0 with ⟨_, h2, _⟩ | ⟨n, x, h1, _⟩
  · simp [h2]
  · rw [h] at h1; cases h1

theorem length_upd_hit (k v : Int) (L : Ls) (p : Nat × Int) (h : look k L 0 = some p) : (upd k v L).length = L.length := by
  rcases look_spec k v L 0 with ⟨h1, _⟩ | ⟨n, x, _, _, _, h4⟩
  · rw [h] at h1; cases h1
  · simp [h4]

/-- The map is used only where the inline place is full. -/
def Inv (s : Ls × Ls) : Prop := s.1.length ≤ 4 ∧ (s.2 ≠ [] → s.1.length = 4)

theorem Inv.sets {s : Ls × Ls} (h : Inv s) (k v : Int) : Inv (sets k v s) := by
  unfold Qxb6613457a.sets
  cases hl : look k s.1 0 with
  | some p =>
    simp only [Option.isSome_some, true_or, if_true]
    exact ⟨by rw [length_upd_hit k v _ p hl]; exact h.1, fun e => by rw [length_upd_hit k v _ p hl]; exact h.2 e⟩
  | none =>
    by_cases h4 : s.1.length < 4
    · simp only [h4, or_true, if_true]
      refine ⟨by rw [length_upd_miss k v _ hl]; exact h4, fun e => ?_⟩
      have := h.2 e
      omega
    · simp only [Option.isSome_none, Bool.false_eq_true, h4, or_self, if_false]
      exact ⟨h.1, fun _ => Nat.le_antisymm h.1 (Nat.le_of_not_lt h4)⟩

theorem inv_runs : ∀ (l : Ls) (s : Ls × Ls), Inv s → Inv (l.foldl (fun s c => sets c.1 c.2 s) s)
  | [], _, h => h
  | c :: l, _, h => inv_runs l _ (h.sets c.1 c.2)

theorem runs_inv (l : Ls) : Inv (runs l) := inv_runs l _ ⟨by simp, fun h => absurd rfl h⟩

theorem length_upd_le (k v : Int) (L : Ls) : (upd k v L).length ≤ L.length + 1 := by
  cases h : look k L 0 with
  | none => rw [length_upd_miss k v L h]; exact Nat.le_refl _
  | some p => rw [length_upd_hit k v L p h]; omega

theorem size_sets (k v : Int) (s : Ls × Ls) : (sets k v s).1.length + (sets k v s).2.length ≤ s.1.length + s.2.length + 1 := by
  unfold sets
  have h1 := length_upd_le k v s.1
  have h2 := length_upd_le k v s.2
  split
  · simp only; omega
  · simp only; omega

theorem size_runs : ∀ (l : Ls) (s : Ls × Ls), (l.foldl (fun s c => sets c.1 c.2 s) s).1.length + (l.foldl (fun s c => sets c.1 c.2 s) s).2.length ≤ s.1.length + s.2.length + l.length
  | [], _ => Nat.le_refl _
  | c :: l, s => by
    have h1 := size_runs l (sets c.1 c.2 s)
    have h2 := size_sets c.1 c.2 s
    simp only [List.foldl_cons, List.length_cons]
    omega

theorem runs_size (l : Ls) : (runs l).2.length ≤ l.length := by
  have := size_runs l ([], [])
  unfold runs
  simp only [List.length_nil] at this
  omega

/-- What one more 'set' does to the places of keys. -/
structure Moved (k v : Int) (s t : Ls × Ls) : Prop where
  other : ∀ k', (k' == k) = false → loc k' t = loc k' s
  value : (loc k t).2 = v
  kept : 0 ≤ (loc k s).1 → (loc k t).1 = (loc k s).1 ∧ t.1.length = s.1.length ∧ t.2.length = s.2.length
  next : ¬ 0 ≤ (loc k s).1 → s.1.length < 4 → (loc k t).1 = s.1.length ∧ t.1.length = s.1.length + 1 ∧ t.2.length = s.2.length
  more : ¬ 0 ≤ (loc k s).1 → ¬ s.1.length < 4 → (loc k t).1 = 4 ∧ t.1.length = 4 ∧ t.2.length = s.2.length + 1

theorem moved (k v : Int) (s : Ls × Ls) (h : Inv s) : Moved k v s (sets k v s) := by
  obtain ⟨h1, h2⟩ := h
  cases hl : look k s.1 0 with
  | some p =>
    have hs : sets k v s = (upd k v s.1, s.2) := by simp [sets, hl]
    rw [hs]
    have e1 : loc k s = ((p.1 : Int), p.2) := by simp [loc, hl]
    have e2 : loc k (upd k v s.1, s.2) = ((p.1 : Int), v) := by simp [loc, look_upd_hit k v _ _ _ hl]
    refine ⟨fun k' hk => ?_, by rw [e2], fun _ => ⟨by rw [e1, e2], length_upd_hit k v _ _ hl, rfl⟩, fun hn => absurd ?_ hn, fun hn => absurd ?_ hn⟩
    · simp only [loc, look_upd_other k k' v (by simpa using hk)]
    · rw [e1]; simp
    · rw [e1]; simp
  | none =>
    by_cases h4 : s.1.length < 4
    · have hs : sets k v s = (upd k v s.1, s.2) := by simp [sets, h4]
      rw [hs]
      have hnil : s.2 = [] := by
        cases he : s.2 with
        | nil => rfl
        | cons q L => have := h2 (by simp [he]); omega
      have e1 : loc k s = (-1, 0) := by simp [loc, hl, hnil, look, mloc]
      have e2 : loc k (upd k v s.1, s.2) = ((s.1.length : Int), v) := by simp [loc, look_upd_miss k v _ _ hl]
      refine ⟨fun k' hk => ?_, by rw [e2], fun hp => absurd hp (by rw [e1]; simp), fun _ _ => ⟨by rw [e2], length_upd_miss k v _ hl, rfl⟩, fun _ hn => absurd h4 hn⟩
      simp only [loc, look_upd_other k k' v (by simpa using hk)]
    · have hs : sets k v s = (s.1, upd k v s.2) := by simp [sets, hl, h4]
      rw [hs]
      have h44 : s.1.length = 4 := by omega
      cases hm : look k s.2 0 with
      | some p =>
        have e1 : loc k s = (4, p.2) := by simp [loc, hl, hm, mloc]
        have e2 : loc k (s.1, upd k v s.2) = (4, v) := by simp [loc, hl, look_upd_hit k v _ _ _ hm, mloc]
        refine ⟨fun k' hk => ?_, by rw [e2], fun _ => ⟨by rw [e1, e2], rfl, length_upd_hit k v _ _ hm⟩, fun hn => absurd ?_ hn, fun hn => absurd ?_ hn⟩
        · simp only [loc, look_upd_other k k' v (by simpa using hk)]
        · rw [e1]; simp
        · rw [e1]; simp
      | none =>
        have e1 : loc k s = (-1, 0) := by simp [loc, hl, hm, mloc]
        have e2 : loc k (s.1, upd k v s.2) = (4, v) := by simp [loc, hl, look_upd_miss k v _ _ hm, mloc]
        refine ⟨fun k' hk => ?_, by rw [e2], fun hp => absurd hp (by rw [e1]; simp), fun _ hn => absurd hn h4, fun _ _ => ⟨by rw [e2], h44, length_upd_miss k v _ hm⟩⟩
        simp only [loc, look_upd_other k k' v (by simpa using hk)]
end Go.Proofs.Qxb6613457a
