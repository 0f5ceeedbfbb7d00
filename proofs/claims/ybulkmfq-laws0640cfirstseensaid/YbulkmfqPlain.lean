/-
  Plain mathematics of the two laws on namesAgree: when do names and texts agree.
-/
namespace Go.Proofs.Ybulkmfq

/-- every name that appears again stands for the same text -/
def Agree (fN fV : Nat → ByteArray) (n : Nat) : Prop := ∀ i, i < n → ∀ j, j < i → fN j = fN i → fV j = fV i

theorem Agree.sym {fN fV : Nat → ByteArray} {n : Nat} (h : Agree fN fV n) {i j : Nat} (hi : i < n) (hj : j < n) (e : fN j = fN i) : fV j = fV i := by
  rcases Nat.lt_trichotomy j i with c | c | c
  · exact h i hi j c e
  · rw [c]
  · exact (h j hj i c e.symm).symm

theorem agree_ext {fN fV gN gV : Nat → ByteArray} {n k : Nat} (hk : k < n) (eN : ∀ i, i < n → gN i = fN i) (eV : ∀ i, i < n → gV i = fV i) (lN : gN n = fN k) (lV : gV n = fV k) :
    Agree gN gV (n + 1) ↔ Agree fN fV n := by
  constructor
  · intro h i hi j hj e
    have := h i (by omega) j hj (by rw [eN i hi, eN j (by omega)]; exact e)
    rwa [eV i hi, eV j (by omega)] at this
  · intro h i hi j hj e
    rcases Nat.eq_or_lt_of_le (Nat.le_of_lt_succ hi) with c | c
    · subst c
      rw [eN j hj, lN] at e
      rw [eV j hj, lV]
      exact h.sym hk hj e
    · rw [eN i c, eN j (by omega)] at e
      rw [eV i c, eV j (by omega)]
      exact h i c j hj e

theorem agree_no {gN gV : Nat → ByteArray} {n k : Nat} (hk : k < n) (lN : gN k = gN n) (lV : gV k ≠ gV n) : ¬ Agree gN gV (n + 1) :=
  fun h => lV (h n (by omega) k hk lN)

/-- the place of the first name that is x, from place f on, k at most -/
def FirstAt (fN : Nat → ByteArray) (i f : Nat) : Prop := f ≤ i ∧ fN f = fN i ∧ ∀ j, j < f → fN j ≠ fN i

theorem first_exists (fN : Nat → ByteArray) (i : Nat) : ∃ f, FirstAt fN i f := by
  have key : ∀ k, k ≤ i → (∀ j, j < k → fN j ≠ fN i) ∨ ∃ f, f < k ∧ FirstAt fN i f := by
    intro k
    induction k with
    | zero => intro _; exact .inl fun j hj => absurd hj (Nat.not_lt_zero _)
    | succ k ih =>
      intro hk
      rcases ih (by omega) with h | ⟨f, hf, h⟩
      · by_cases e : fN k = fN i
        · exact .inr ⟨k, by omega, by omega, e, h⟩
        · refine .inl fun j hj => ?_
          rcases Nat.eq_or_lt_of_le (Nat.le_of_lt_succ hj) with c | c
          · rw [c]; exact e
          · exact h j c
      · exact .inr ⟨f, by omega, h⟩
  rcases key i (Nat.le_refl _) with h | ⟨f, _, h⟩
  · exact ⟨i, Nat.le_refl _, rfl, h⟩
  · exact ⟨f, h⟩

/-- the law's other wording: each text is that of the name's first place -/
def FirstSeen (fN fV : Nat → ByteArray) (n : Nat) : Prop := ∀ i, i < n → ∀ f, FirstAt fN i f → fV f = fV i

theorem firstSeen_iff (fN fV : Nat → ByteArray) (n : Nat) : FirstSeen fN fV n ↔ Agree fN fV n := by
  constructor
  · intro h i hi j hj e
    obtain ⟨f, hf⟩ := first_exists fN i
    have h1 := h i hi f hf
    have hfj : f ≤ j := by
      rcases Nat.lt_or_ge j f with c | c
      · exact absurd e (hf.2.2 j c)
      · exact c
    have h2 := h j (by omega) f ⟨hfj, hf.2.1.trans e.symm, fun k hk => by rw [e]; exact hf.2.2 k hk⟩
    rw [← h2, h1]
  · intro h i hi f hf
    exact h.sym hi (by have := hf.1; omega) hf.2.1
end Go.Proofs.Ybulkmfq
