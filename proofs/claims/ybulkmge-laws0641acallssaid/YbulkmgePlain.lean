/-
  Plain mathematics of the two laws on depend's expressions: what a node comes to.
-/
namespace Go.Proofs.Ybulkmge

/-- what a node comes to: its three-valued value (0: not known, 1: false, 2: true), the conditions that are asked, in order, whether one of these is known, its value under a filling -/
structure Attr where
  m : Int
  log : List Nat
  kn : Bool
  f : Int → Bool

/-- what decides an operator: 1 an 'and', 2 an 'or' -/
def decOf (isOr : Bool) : Int := if isOr then 2 else 1

def leafA (val : Nat → Int) (bit : Int → Nat → Bool) (c : Nat) : Attr :=
  { m := val c, log := [c], kn := !(val c == 0), f := fun x => if val c = 0 then bit x c else val c == 2 }
def notA (a : Attr) : Attr := { m := if a.m = 0 then 0 else 3 - a.m, log := a.log, kn := a.kn, f := fun x => !a.f x }
def goA (dec : Int) : Bool → List Attr → Int × List Nat × Bool
  | unk, [] => (if unk then 0 else 3 - dec, [], false)
  | unk, a :: r => if a.m = dec then (dec, a.log, a.kn) else
      ((goA dec (unk || a.m == 0) r).1, a.log ++ (goA dec (unk || a.m == 0) r).2.1, a.kn || (goA dec (unk || a.m == 0) r).2.2)
def allF (isOr : Bool) (l : List (Int → Bool)) (x : Int) : Bool := if isOr then l.any (· x) else l.all (· x)
def naryA (isOr : Bool) (l : List Attr) : Attr :=
  { m := (goA (decOf isOr) false l).1, log := (goA (decOf isOr) false l).2.1, kn := (goA (decOf isOr) false l).2.2, f := allF isOr (l.map (·.f)) }

/-- what holds of every node's attributes -/
structure Sound (n : Nat) (a : Attr) : Prop where
  lo : 0 ≤ a.m
  hi : a.m ≤ 2
  val : a.m ≠ 0 → ∀ x, a.f x = (a.m == 2)
  kn : a.kn = false → a.m = 0
  len : a.log.length ≤ n

theorem sound_leaf (val : Nat → Int) (bit : Int → Nat → Bool) (hv : ∀ c, 0 ≤ val c ∧ val c ≤ 2) (c n : Nat) (hn : 1 ≤ n) : Sound n (leafA val bit c) where
  lo := (hv c).1
  hi := (hv c).2
  val h x := by simp only [leafA] at h ⊢; simp [h]
  kn h := by simpa [leafA] using h
  len := by simp [leafA]; omega

theorem sound_not {n : Nat} {a : Attr} (h : Sound n a) : Sound n (notA a) where
  lo := by have := h.hi; simp only [notA]; split <;> omega
  hi := by
    have := h.lo
    simp only [notA]
    split
    · omega
    · omega
  val h1 x := by
    have h0 : a.m ≠ 0 := by intro e; simp [notA, e] at h1
    have := h.val h0 x
    have h2 := h.lo
    have h3 := h.hi
    simp only [notA, this, h0, if_false]
    rcases (show a.m = 1 ∨ a.m = 2 from by omega) with e | e <;> simp [e]
  kn h1 := by
    have := h.kn h1
    simp [notA, this]
  len := h.len

theorem go_len {n : Nat} (dec : Int) : ∀ (l : List Attr) (unk : Bool), (∀ a ∈ l, Sound n a) → (goA dec unk l).2.1.length ≤ l.length * n
  | [], _, _ => by simp [goA]
  | a :: r, unk, h => by
    have h1 := (h a (by simp)).len
    have h2 := go_len dec r (unk || a.m == 0) (fun b hb => h b (by simp [hb]))
    simp only [goA]
    split
    · simp only [List.length_cons, Nat.add_mul]; omega
    · simp only [List.length_append, List.length_cons, Nat.add_mul]; omega

theorem go_range (dec : Int) (h1 : 1 ≤ dec) (h2 : dec ≤ 2) : ∀ (l : List Attr) (unk : Bool), 0 ≤ (goA dec unk l).1 ∧ (goA dec unk l).1 ≤ 2
  | [], unk => by simp only [goA]; split <;> omega
  | a :: r, unk => by
    have := go_range dec h1 h2 r (unk || a.m == 0)
    simp only [goA]
    split
    · exact ⟨by omega, by omega⟩
    · exact this

/-- no child is known: the operator is not known, whatever stood before -/
theorem go_kn {n : Nat} (dec : Int) (h1 : 1 ≤ dec) : ∀ (l : List Attr) (unk : Bool), (∀ a ∈ l, Sound n a) → (goA dec unk l).2.2 = false → (unk = true ∨ l ≠ []) → (goA dec unk l).1 = 0
  | [], unk, _, _, hu => by
    rcases hu with h | h
    · simp [goA, h]
    · exact absurd rfl h
  | a :: r, unk, h, hk, _ => by
    have ha := h a (by simp)
    simp only [goA] at hk ⊢
    split at hk
    · have := ha.kn hk
      omega
    · rename_i hd
      rw [if_neg hd]
      have hk2 : a.kn = false ∧ (goA dec (unk || a.m == 0) r).2.2 = false := by simpa using hk
      have hm := ha.kn hk2.1
      exact go_kn dec h1 r _ (fun b hb => h b (by simp [hb])) hk2.2 (.inl (by simp [hm]))

theorem go_dec (isOr : Bool) : ∀ (l : List Attr) (unk : Bool), (goA (decOf isOr) unk l).1 = decOf isOr → ∃ a ∈ l, a.m = decOf isOr
  | [], unk, h => by
    simp only [goA] at h
    cases isOr <;> simp [decOf] at h <;> split at h <;> omega
  | a :: r, unk, h => by
    simp only [goA] at h
    split at h
    · rename_i hd; exact ⟨a, by simp, hd⟩
    · obtain ⟨b, hb, e⟩ := go_dec isOr r _ h
      exact ⟨b, by simp [hb], e⟩
theorem go_neu {n : Nat} (isOr : Bool) : ∀ (l : List Attr) (unk : Bool), (∀ a ∈ l, Sound n a) → (goA (decOf isOr) unk l).1 = 3 - decOf isOr → unk = false ∧ ∀ a ∈ l, a.m = 3 - decOf isOr
  | [], unk, _, h => by
    simp only [goA] at h
    refine ⟨?_, by simp⟩
    cases unk
    · rfl
    · cases isOr <;> simp [decOf] at h
  | a :: r, unk, hs, h => by
    have ha := hs a (by simp)
    have h1 := ha.lo
    have h2 := ha.hi
    simp only [goA] at h
    split at h
    · cases isOr <;> simp [decOf] at h
    · rename_i hd
      obtain ⟨hu, hr⟩ := go_neu isOr r _ (fun b hb => hs b (by simp [hb])) h
      have hu2 : unk = false ∧ ¬ a.m = 0 := by simpa using hu
      refine ⟨hu2.1, fun b hb => ?_⟩
      rcases List.mem_cons.1 hb with e | e
      · subst e
        have := hu2.2
        cases isOr <;> simp [decOf] at hd ⊢ <;> omega
      · exact hr b e

theorem allF_dec {n : Nat} {isOr : Bool} {l : List Attr} (hs : ∀ a ∈ l, Sound n a) {a : Attr} (ha : a ∈ l) (h : a.m = decOf isOr) (x : Int) : allF isOr (l.map (·.f)) x = (decOf isOr == 2) := by
  have h1 : a.m ≠ 0 := by rw [h]; cases isOr <;> simp [decOf]
  have hv := (hs a ha).val h1 x
  cases isOr
  · simp only [allF, decOf] at h ⊢
    simp only [if_false, Bool.false_eq_true] at h ⊢
    rw [h] at hv
    rw [show ((1 : Int) == 2) = false from rfl] at hv ⊢
    rw [List.all_eq_false]
    exact ⟨a.f, by simpa using ⟨a, ha, rfl⟩, by simp [hv]⟩
  · simp only [allF, decOf] at h ⊢
    simp only [if_true] at h ⊢
    rw [h] at hv
    rw [show ((2 : Int) == 2) = true from rfl] at hv ⊢
    rw [List.any_eq_true]
    exact ⟨a.f, by simpa using ⟨a, ha, rfl⟩, hv⟩
/-- children that neither decide nor are unknown are neutral -/
theorem allF_filter {n : Nat} {isOr : Bool} (x : Int) : ∀ (l : List Attr), (∀ a ∈ l, Sound n a) → (∀ a ∈ l, a.m ≠ decOf isOr) → allF isOr (l.map (·.f)) x = allF isOr ((l.filter (fun a => a.m == 0)).map (·.f)) x
  | [], _, _ => rfl
  | a :: r, hs, hd => by
    have ih := allF_filter x r (fun b hb => hs b (by simp [hb])) (fun b hb => hd b (by simp [hb]))
    have ha := hs a (by simp)
    have h1 := ha.lo
    have h2 := ha.hi
    have h3 := hd a (by simp)
    by_cases h0 : a.m = 0
    · rw [List.filter_cons_of_pos (by simp [h0])]
      cases isOr <;> simp only [allF, List.map_cons, List.any_cons, List.all_cons] at ih ⊢ <;> simp only [Bool.false_eq_true, if_false, if_true] at ih ⊢ <;> rw [ih]
    · rw [List.filter_cons_of_neg (by simp [h0])]
      have hv := ha.val h0 x
      cases isOr
      · simp only [decOf] at h3
        have : a.m = 2 := by simp at h3; omega
        simp only [allF, List.map_cons, List.all_cons] at ih ⊢
        simp only [Bool.false_eq_true, if_false] at ih ⊢
        rw [ih, hv, this]; rfl
      · simp only [decOf] at h3
        have : a.m = 1 := by simp at h3; omega
        simp only [allF, List.map_cons, List.any_cons] at ih ⊢
        simp only [if_true] at ih ⊢
        rw [ih, hv, this]; rfl

/-- a known value of the operator is its value under every filling -/
theorem go_val {n : Nat} (isOr : Bool) (x : Int) (l : List Attr) (hs : ∀ a ∈ l, Sound n a) (h : (goA (decOf isOr) false l).1 ≠ 0) : allF isOr (l.map (·.f)) x = ((goA (decOf isOr) false l).1 == 2) := by
  have hr := go_range (decOf isOr) (by cases isOr <;> simp [decOf]) (by cases isOr <;> simp [decOf]) l false
  by_cases hd : (goA (decOf isOr) false l).1 = decOf isOr
  · obtain ⟨a, ha, e⟩ := go_dec isOr l false hd
    rw [allF_dec hs ha e, hd]
  · have hn : (goA (decOf isOr) false l).1 = 3 - decOf isOr := by
      cases isOr <;> simp [decOf] at hd ⊢ <;> simp [decOf] at hr h <;> omega
    obtain ⟨_, hall⟩ := go_neu isOr l false hs hn
    rw [allF_filter x l hs (fun a ha e => by rw [hall a ha] at e; cases isOr <;> simp [decOf] at e), hn]
    have : l.filter (fun a => a.m == 0) = [] := by
      rw [List.filter_eq_nil_iff]
      intro a ha
      rw [hall a ha]
      cases isOr <;> simp [decOf]
    rw [this]
    cases isOr <;> rfl

theorem sound_nary {n : Nat} {isOr : Bool} {l : List Attr} (hs : ∀ a ∈ l, Sound n a) (h1 : l ≠ []) (h3 : l.length ≤ 3) : Sound (3 * n) (naryA isOr l) where
  lo := (go_range (decOf isOr) (by cases isOr <;> simp [decOf]) (by cases isOr <;> simp [decOf]) l false).1
  hi := (go_range (decOf isOr) (by cases isOr <;> simp [decOf]) (by cases isOr <;> simp [decOf]) l false).2
  val h x := go_val isOr x l hs h
  kn h := go_kn (decOf isOr) (by cases isOr <;> simp [decOf]) l false hs h (.inr h1)
  len := Nat.le_trans (go_len (decOf isOr) l false hs) (Nat.mul_le_mul_right n h3)

/-- the logs of a list of children, one behind the other -/
def logs (l : List Attr) : List Nat := (l.map (·.log)).flatten
/-- children that do not decide are gone through -/
theorem go_append (dec : Int) : ∀ (p r : List Attr) (unk : Bool), (∀ a ∈ p, a.m ≠ dec) →
    goA dec unk (p ++ r) = ((goA dec (unk || p.any (fun a => a.m == 0)) r).1, logs p ++ (goA dec (unk || p.any (fun a => a.m == 0)) r).2.1, p.any (·.kn) || (goA dec (unk || p.any (fun a => a.m == 0)) r).2.2)
  | [], r, unk, _ => by simp [logs]
  | a :: p, r, unk, h => by
    have ha := h a (by simp)
    have ih := go_append dec p r (unk || a.m == 0) (fun b hb => h b (by simp [hb]))
    simp only [List.cons_append, goA, if_neg ha, ih, logs, List.map_cons, List.flatten_cons, List.any_cons, Bool.or_assoc, List.append_assoc]

/-- none that is asked is known: all are asked, and none is known -/
theorem go_all_kn {n : Nat} (dec : Int) : ∀ (l : List Attr) (unk : Bool), (∀ a ∈ l, Sound n a) → dec ≠ 0 → (goA dec unk l).2.2 = false → ∀ a ∈ l, a.kn = false
  | [], _, _, _, _ => by simp
  | a :: r, unk, hs, hd, h => by
    simp only [goA] at h
    split at h
    · rename_i e
      exact absurd ((hs a (by simp)).kn h) (by rw [e]; exact hd)
    · have h2 : a.kn = false ∧ (goA dec (unk || a.m == 0) r).2.2 = false := by simpa using h
      intro b hb
      rcases List.mem_cons.1 hb with e | e
      · rw [e]; exact h2.1
      · exact go_all_kn dec r _ (fun c hc => hs c (by simp [hc])) hd h2.2 b e

theorem dec_ne (isOr : Bool) : decOf isOr ≠ 0 := by cases isOr <;> simp [decOf]
theorem sound_mono {n n' : Nat} {a : Attr} (h : Sound n a) (hn : n ≤ n') : Sound n' a := ⟨h.lo, h.hi, h.val, h.kn, Nat.le_trans h.len hn⟩

theorem split_at {α : Type} (l : List α) (k : Nat) (h : k < l.length) : l = l.take k ++ (l[k] :: l.drop (k + 1)) := by
  rw [← List.drop_eq_getElem_cons h, List.take_append_drop]
theorem nary_hit {isOr : Bool} {l : List Attr} {k : Nat} (h : k < l.length) (hno : ∀ a ∈ l.take k, a.m ≠ decOf isOr) (hd : l[k].m = decOf isOr) :
    (naryA isOr l).m = decOf isOr ∧ (naryA isOr l).log = logs (l.take k) ++ l[k].log ∧ (naryA isOr l).kn = ((l.take k).any (·.kn) || l[k].kn) := by
  have e := go_append (decOf isOr) (l.take k) (l[k] :: l.drop (k + 1)) false hno
  rw [← split_at l k h] at e
  simp only [naryA, e, goA, if_pos hd]
  exact ⟨trivial, trivial, trivial⟩
theorem nary_end {isOr : Bool} {l : List Attr} (hno : ∀ a ∈ l, a.m ≠ decOf isOr) :
    (naryA isOr l).m = (if l.any (fun a => a.m == 0) then 0 else 3 - decOf isOr) ∧ (naryA isOr l).log = logs l ∧ (naryA isOr l).kn = l.any (·.kn) := by
  have e := go_append (decOf isOr) l [] false hno
  rw [List.append_nil] at e
  simp only [naryA, e, goA, Bool.false_or, List.append_nil, Bool.or_false]
  exact ⟨trivial, trivial, trivial⟩
theorem nary_log_ge {isOr : Bool} {l : List Attr} {k : Nat} (h : k < l.length) (hno : ∀ a ∈ l.take k, a.m ≠ decOf isOr) : (logs (l.take k)).length + l[k].log.length ≤ (naryA isOr l).log.length := by
  have e := go_append (decOf isOr) (l.take k) (l[k] :: l.drop (k + 1)) false hno
  rw [← split_at l k h] at e
  simp only [naryA, e, List.length_append, goA]
  split
  · exact Nat.le_refl _
  · simp only [List.length_append]; omega
theorem logs_take_succ {l : List Attr} {k : Nat} (h : k < l.length) : logs (l.take (k + 1)) = logs (l.take k) ++ l[k].log := by
  unfold logs
  rw [List.take_succ_eq_append_getElem h, List.map_append, List.flatten_append]; simp
theorem any_take_succ {α : Type} (f : α → Bool) {l : List α} {k : Nat} (h : k < l.length) : (l.take (k + 1)).any f = ((l.take k).any f || f l[k]) := by
  rw [List.take_succ_eq_append_getElem h, List.any_append]; simp
theorem ne_take_succ {l : List Attr} {k : Nat} {x : Int} (h : k < l.length) (h1 : ∀ a ∈ l.take k, a.m ≠ x) (h2 : l[k].m ≠ x) : ∀ a ∈ l.take (k + 1), a.m ≠ x := by
  intro a ha
  rw [List.take_succ_eq_append_getElem h] at ha
  rcases List.mem_append.1 ha with e | e
  · exact h1 a e
  · simp at e; subst e; exact h2
end Go.Proofs.Ybulkmge
