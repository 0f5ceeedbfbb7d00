/-
  Plain mathematics of LawS0632APlace: the running sums.
-/
namespace Go.Proofs.Ybulkmbi

/-- the sum of the first k steps -/
def cumF (zs : List Int) : Nat → Int
  | 0 => 0
  | k + 1 => cumF zs k + (1 + zs.getD k 0 % 4)

theorem cumF_bd (zs : List Int) (k : Nat) : (k : Int) ≤ cumF zs k ∧ cumF zs k ≤ 4 * (k : Int) := by
  induction k with
  | zero => simp [cumF]
  | succ k ih => simp only [cumF]; omega

theorem cumF_lt (zs : List Int) (i j : Nat) (h : i < j) : cumF zs i < cumF zs j := by
  induction j with
  | zero => omega
  | succ j ih =>
    have h1 : cumF zs j < cumF zs (j + 1) := by simp only [cumF]; omega
    rcases Nat.eq_or_lt_of_le (Nat.le_of_lt_succ h) with e | e
    · rw [e]; exact h1
    · have := ih e; omega

/-- the versions: n running sums -/
def vsF (zs : List Int) (n : Nat) : List Int := (List.range n).map fun i => cumF zs (i + 1)
theorem vsF_length (zs : List Int) (n : Nat) : (vsF zs n).length = n := by simp [vsF]
theorem vsF_at (zs : List Int) (n i : Nat) (h : i < n) : (vsF zs n).getD i 0 = cumF zs (i + 1) := by
  simp [vsF, List.getD, h]
theorem vsF_sorted (zs : List Int) (n : Nat) : ∀ i j, i < j → j < (vsF zs n).length → (vsF zs n).getD i 0 < (vsF zs n).getD j 0 := by
  intro i j h1 h2
  rw [vsF_length] at h2
  rw [vsF_at zs n i (by omega), vsF_at zs n j h2]
  exact cumF_lt zs _ _ (by omega)
theorem vsF_bd (zs : List Int) (n : Nat) (hn : n ≤ 1024) : ∀ i, i < (vsF zs n).length → 0 ≤ (vsF zs n).getD i 0 ∧ (vsF zs n).getD i 0 ≤ 4096 := by
  intro i h
  rw [vsF_length] at h
  rw [vsF_at zs n i h]
  have := cumF_bd zs (i + 1)
  omega
end Go.Proofs.Ybulkmbi
