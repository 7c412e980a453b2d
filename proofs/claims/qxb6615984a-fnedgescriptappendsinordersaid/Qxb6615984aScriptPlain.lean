/-
  A SCRIPT OF EDGES OVER LISTS: plain laws. No Go in sight.
-/
namespace Go.Proofs.Qxb6615984a

/-- The rows behind the first k edges of the script: edge j goes from s j to d j. -/
def runE (s : Nat → Nat) (d : Nat → Int) (R : Nat → List Int) : Nat → Nat → List Int
  | 0, i => R i
  | k + 1, i => if i = s k then runE s d R k i ++ [d k] else runE s d R k i

theorem runE_hit (s : Nat → Nat) (d : Nat → Int) (R : Nat → List Int) (k : Nat) : runE s d R (k + 1) (s k) = runE s d R k (s k) ++ [d k] := by simp [runE]
theorem runE_miss (s : Nat → Nat) (d : Nat → Int) (R : Nat → List Int) {k i : Nat} (h : i ≠ s k) : runE s d R (k + 1) i = runE s d R k i := by simp [runE, h]

theorem runE_prefix (s : Nat → Nat) (d : Nat → Int) (R : Nat → List Int) (i k : Nat) : ∀ m, k ≤ m → runE s d R k i <+: runE s d R m i := by
  intro m
  induction m with
  | zero => intro h; obtain rfl : k = 0 := by omega
            exact List.prefix_rfl
  | succ m ih =>
    intro h
    by_cases e : k = m + 1
    · subst e; exact List.prefix_rfl
    · refine (ih (by omega)).trans ?_
      by_cases hi : i = s m
      · subst hi; rw [runE_hit]; exact List.prefix_append _ _
      · rw [runE_miss _ _ _ hi]; exact List.prefix_rfl

theorem prefix_getD {a b : List Int} (h : a <+: b) (j : Nat) (hj : j < a.length) : b.getD j 0 = a.getD j 0 := by
  obtain ⟨t, rfl⟩ := h
  simp [List.getD, List.getElem?_append_left hj]

theorem runE_len (s : Nat → Nat) (d : Nat → Int) (R : Nat → List Int) (i : Nat) : ∀ k, (runE s d R k i).length ≤ (R i).length + k := by
  intro k
  induction k with
  | zero => exact Nat.le_refl _
  | succ k ih =>
    by_cases hi : i = s k
    · subst hi; rw [runE_hit]; simp; omega
    · rw [runE_miss _ _ _ hi]; omega

/-- The old numbers stay where they were. -/
theorem runE_old (s : Nat → Nat) (d : Nat → Int) (R : Nat → List Int) (i m j : Nat) (hj : j < (R i).length) : (runE s d R m i).getD j 0 = (R i).getD j 0 :=
  prefix_getD (runE_prefix s d R i 0 m (Nat.zero_le _)) j hj

theorem runE_ge (s : Nat → Nat) (d : Nat → Int) (R : Nat → List Int) (i k m : Nat) (h : k ≤ m) : (runE s d R k i).length ≤ (runE s d R m i).length :=
  (runE_prefix s d R i k m h).length_le

/-- Edge k's target lies right behind what the earlier edges made. -/
theorem runE_at (s : Nat → Nat) (d : Nat → Int) (R : Nat → List Int) {k m : Nat} (h : k < m) : (runE s d R k (s k)).length < (runE s d R m (s k)).length ∧ (runE s d R m (s k)).getD (runE s d R k (s k)).length 0 = d k := by
  have hp := runE_prefix s d R (s k) (k + 1) m (by omega)
  have hl := hp.length_le
  rw [runE_hit] at hp hl
  simp at hl
  refine ⟨by omega, ?_⟩
  rw [prefix_getD hp _ (by simp)]
  simp [List.getD]

end Go.Proofs.Qxb6615984a
