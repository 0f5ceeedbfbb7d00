/-
  An expression in memory: what is told of a node's fields, and what keeps it.
-/
import Derived.Test.YbulkmgeProg
import Derived.Test.YbulkmgePlain
import Derived.WalkKit
import Derived.WalkSpells
import Derived.WalkLawsBesides
import Derived.Lib.SmallJoins
namespace Go.Proofs.Ybulkmge
open Go.RowKit
set_option linter.unusedVariables false

/-- from here on the world is a letter, of which Φ holds -/
theorem wp_gen {P : Program} {c : Code} {Q : Exit → Act → World → Prop} {a : Act} {W : World} (Φ : World → Prop) (h : Φ W) (k : ∀ W1, Φ W1 → c.wp P Q a W1) : c.wp P Q a W := k W h
theorem cell_blk {w : World} {g : Nat} {cs : Array Value} {t : TypeId} {fr : Nat × Nat} (h : w.heap[g]? = some (.cells cs t fr)) (i : Nat) : w.cell? ⟨g, i, none⟩ = cs[i]? := by simp [World.cell?, h]
theorem free_blk {w : World} {g : Nat} {cs : Array Value} {t : TypeId} (h : w.heap[g]? = some (.cells cs t (0, 0))) (i : Nat) : w.frozen? ⟨g, i, none⟩ = false := by simp [World.frozen?, h]

/-- a node's three cells, in block b from off on -/
structure Node3 (w : World) (b off : Nat) (o c : Int) (p : Option Addr) (n cap : Nat) : Prop where
  c0 : w.cell? ⟨b, off, none⟩ = some (.int .i64 o)
  c1 : w.cell? ⟨b, off + 1, none⟩ = some (.int .i64 c)
  c2 : w.cell? ⟨b, off + 2, none⟩ = some (.slice p n cap)

/-- block b is a row of nodes -/
def Rowed (w : World) (b : Nat) : Prop := ∃ cs, w.heap[b]? = some (.cells cs 37 (0, 0))
/-- b is a row of nodes of S, and bears such a node from off on -/
structure NodeIn (S : Nat → Prop) (w : World) (b off : Nat) (o c : Int) (p : Option Addr) (n cap : Nat) : Prop where
  s : S b
  row : Rowed w b
  at3 : Node3 w b off o c p n cap

def minus (S : Nat → Prop) (b : Nat) (k : Nat) : Prop := S k ∧ k ≠ b

/-- the rows of nodes of S are as they were -/
def KeepS (S : Nat → Prop) (w w' : World) : Prop := ∀ k, S k → Rowed w k → w'.heap[k]? = w.heap[k]?

theorem NodeIn.keep {S : Nat → Prop} {w w' : World} {b off : Nat} {o c : Int} {p : Option Addr} {n cap : Nat} (h : NodeIn S w b off o c p n cap) (k : KeepS S w w') : NodeIn S w' b off o c p n cap := by
  have e := k b h.s h.row
  have ec : ∀ i, w'.cell? ⟨b, i, none⟩ = w.cell? ⟨b, i, none⟩ := fun i => World.cell?_of_block (w := w) e
  obtain ⟨cs, hr⟩ := h.row
  exact ⟨h.s, ⟨cs, e.trans hr⟩, ⟨(ec _).trans h.at3.c0, (ec _).trans h.at3.c1, (ec _).trans h.at3.c2⟩⟩
theorem NodeIn.mono {S S' : Nat → Prop} {w : World} {b off : Nat} {o c : Int} {p : Option Addr} {n cap : Nat} (h : NodeIn S w b off o c p n cap) (hs : ∀ k, S k → S' k) : NodeIn S' w b off o c p n cap := ⟨hs _ h.s, h.row, h.at3⟩

section
variable (val : Nat → Int) (bit : Int → Nat → Bool) (nc : Nat)

/-- the expression as it was built, with what it comes to -/
def Orig : Nat → (Nat → Prop) → World → Int → Int → Option Addr → Nat → Nat → Attr → Prop
  | 0, _, _, o, c, _, _, _, A => o = 0 ∧ ∃ k : Nat, c = k ∧ k < nc ∧ A = leafA val bit k
  | d + 1, S, w, o, c, p, n, cap, A =>
    (o = 0 ∧ ∃ k : Nat, c = k ∧ k < nc ∧ A = leafA val bit k) ∨
    (o = 1 ∧ ∃ b o' c' p' n' cap' A', p = some ⟨b, 0, none⟩ ∧ n = 1 ∧ NodeIn S w b 0 o' c' p' n' cap' ∧ Orig d (minus S b) w o' c' p' n' cap' A' ∧ A = notA A') ∨
    ((o = 2 ∨ o = 3) ∧ ∃ b l, p = some ⟨b, 0, none⟩ ∧ n = List.length l ∧ 2 ≤ l.length ∧ (l.length ≤ 3 ∧ l.length ≤ cap) ∧
      (∀ i (h : i < l.length), ∃ o' c' p' n' cap', NodeIn S w b (i * 3) o' c' p' n' cap' ∧ Orig d (minus S b) w o' c' p' n' cap' l[i]) ∧ A = naryA (o == 3) l)

/-- an expression none of whose conditions is known, with its value under each filling -/
def Good : Nat → (Nat → Prop) → World → Int → Int → Option Addr → Nat → Nat → (Int → Bool) → Prop
  | 0, _, _, o, c, _, _, _, F => o = 0 ∧ ∃ k : Nat, c = k ∧ k < nc ∧ val k = 0 ∧ F = (leafA val bit k).f
  | d + 1, S, w, o, c, p, n, _, F =>
    (o = 0 ∧ ∃ k : Nat, c = k ∧ k < nc ∧ val k = 0 ∧ F = (leafA val bit k).f) ∨
    (o = 1 ∧ ∃ b o' c' p' n' cap' F', p = some ⟨b, 0, none⟩ ∧ n = 1 ∧ NodeIn S w b 0 o' c' p' n' cap' ∧ Good d S w o' c' p' n' cap' F' ∧ F = fun x => !F' x) ∨
    ((o = 2 ∨ o = 3) ∧ ∃ b l, p = some ⟨b, 0, none⟩ ∧ n = List.length l ∧ 2 ≤ l.length ∧ l.length ≤ 3 ∧
      (∀ i (h : i < l.length), ∃ o' c' p' n' cap', NodeIn S w b (i * 3) o' c' p' n' cap' ∧ Good d S w o' c' p' n' cap' l[i]) ∧ F = allF (o == 3) l)

/-- an expression that can be evaluated, with its value under each filling -/
def Ev : Nat → World → Int → Int → Option Addr → Nat → Nat → (Int → Bool) → Prop
  | 0, _, o, c, _, _, _, F => o = 0 ∧ ∃ k : Nat, c = k ∧ k < nc ∧ F = (leafA val bit k).f
  | d + 1, w, o, c, p, n, _, F =>
    (o = 0 ∧ ∃ k : Nat, c = k ∧ k < nc ∧ F = (leafA val bit k).f) ∨
    (o = 1 ∧ ∃ b o' c' p' n' cap' F', p = some ⟨b, 0, none⟩ ∧ n = 1 ∧ Node3 w b 0 o' c' p' n' cap' ∧ Ev d w o' c' p' n' cap' F' ∧ F = fun x => !F' x) ∨
    ((o = 2 ∨ o = 3) ∧ ∃ b l, p = some ⟨b, 0, none⟩ ∧ n = List.length l ∧ l.length ≤ 3 ∧
      (∀ i (h : i < l.length), ∃ o' c' p' n' cap', Node3 w b (i * 3) o' c' p' n' cap' ∧ Ev d w o' c' p' n' cap' l[i]) ∧ F = allF (o == 3) l)

variable {val bit nc}

theorem orig_sound (hv : ∀ c, 0 ≤ val c ∧ val c ≤ 2) : ∀ (d : Nat) {S : Nat → Prop} {w : World} {o c : Int} {p : Option Addr} {n cap : Nat} {A : Attr}, Orig val bit nc d S w o c p n cap A → Sound (3 ^ d) A
  | 0, _, _, _, _, _, _, _, _, h => by
    obtain ⟨_, k, _, _, rfl⟩ := h
    exact sound_leaf val bit hv k _ (by simp)
  | d + 1, _, _, _, _, _, _, _, _, h => by
    have hp : 1 ≤ 3 ^ d := Nat.one_le_pow _ _ (by omega)
    rcases h with ⟨_, k, _, _, rfl⟩ | ⟨_, b, o', c', p', n', cap', A', _, _, _, h, rfl⟩ | ⟨_, b, l, _, _, h2, h3, h, rfl⟩
    · exact sound_leaf val bit hv k _ (by rw [Nat.pow_succ]; omega)
    · exact sound_mono (sound_not (orig_sound hv d h)) (by rw [Nat.pow_succ]; omega)
    · rw [Nat.pow_succ, Nat.mul_comm]
      exact sound_nary (n := 3 ^ d) (l := l) (fun a ha => by
        obtain ⟨i, hi, e⟩ := List.getElem_of_mem ha
        obtain ⟨o', c', p', n', cap', _, h'⟩ := h i hi
        exact e ▸ orig_sound hv d h') (by intro e; simp [e] at h2) h3.1

theorem orig_keep : ∀ (d : Nat) {S : Nat → Prop} {w w' : World} {o c : Int} {p : Option Addr} {n cap : Nat} {A : Attr}, Orig val bit nc d S w o c p n cap A → KeepS S w w' → Orig val bit nc d S w' o c p n cap A
  | 0, _, _, _, _, _, _, _, _, _, h, _ => h
  | d + 1, _, _, _, _, _, _, _, _, _, h, k => by
    rcases h with h | ⟨e, b, o', c', p', n', cap', A', h1, h2, h3, h4, h5⟩ | ⟨e, b, l, h1, h2, h3, h4, h5, h6⟩
    · exact .inl h
    · exact .inr (.inl ⟨e, b, o', c', p', n', cap', A', h1, h2, h3.keep k, orig_keep d h4 (fun j hj => k j hj.1), h5⟩)
    · refine .inr (.inr ⟨e, b, l, h1, h2, h3, h4, fun i hi => ?_, h6⟩)
      obtain ⟨o', c', p', n', cap', q1, q2⟩ := h5 i hi
      exact ⟨o', c', p', n', cap', q1.keep k, orig_keep d q2 (fun j hj => k j hj.1)⟩

theorem orig_mono : ∀ (d : Nat) {S S' : Nat → Prop} {w : World} {o c : Int} {p : Option Addr} {n cap : Nat} {A : Attr}, Orig val bit nc d S w o c p n cap A → (∀ k, S k → S' k) → Orig val bit nc d S' w o c p n cap A
  | 0, _, _, _, _, _, _, _, _, _, h, _ => h
  | d + 1, _, _, _, _, _, _, _, _, _, h, k => by
    rcases h with h | ⟨e, b, o', c', p', n', cap', A', h1, h2, h3, h4, h5⟩ | ⟨e, b, l, h1, h2, h3, h4, h5, h6⟩
    · exact .inl h
    · exact .inr (.inl ⟨e, b, o', c', p', n', cap', A', h1, h2, h3.mono k, orig_mono d h4 (fun j hj => ⟨k j hj.1, hj.2⟩), h5⟩)
    · refine .inr (.inr ⟨e, b, l, h1, h2, h3, h4, fun i hi => ?_, h6⟩)
      obtain ⟨o', c', p', n', cap', q1, q2⟩ := h5 i hi
      exact ⟨o', c', p', n', cap', q1.mono k, orig_mono d q2 (fun j hj => ⟨k j hj.1, hj.2⟩)⟩

theorem orig_lift : ∀ (d : Nat) {S : Nat → Prop} {w : World} {o c : Int} {p : Option Addr} {n cap : Nat} {A : Attr}, Orig val bit nc d S w o c p n cap A → Orig val bit nc (d + 1) S w o c p n cap A
  | 0, _, _, _, _, _, _, _, _, h => .inl h
  | d + 1, _, _, _, _, _, _, _, _, h => by
    rcases h with h | ⟨e, b, o', c', p', n', cap', A', h1, h2, h3, h4, h5⟩ | ⟨e, b, l, h1, h2, h3, h4, h5, h6⟩
    · exact .inl h
    · exact .inr (.inl ⟨e, b, o', c', p', n', cap', A', h1, h2, h3, orig_lift d h4, h5⟩)
    · refine .inr (.inr ⟨e, b, l, h1, h2, h3, h4, fun i hi => ?_, h6⟩)
      obtain ⟨o', c', p', n', cap', q1, q2⟩ := h5 i hi
      exact ⟨o', c', p', n', cap', q1, orig_lift d q2⟩

theorem good_keep : ∀ (d : Nat) {S : Nat → Prop} {w w' : World} {o c : Int} {p : Option Addr} {n cap : Nat} {F : Int → Bool}, Good val bit nc d S w o c p n cap F → KeepS S w w' → Good val bit nc d S w' o c p n cap F
  | 0, _, _, _, _, _, _, _, _, _, h, _ => h
  | d + 1, _, _, _, _, _, _, _, _, _, h, k => by
    rcases h with h | ⟨e, b, o', c', p', n', cap', A', h1, h2, h3, h4, h5⟩ | ⟨e, b, l, h1, h2, h3, h4, h5, h6⟩
    · exact .inl h
    · exact .inr (.inl ⟨e, b, o', c', p', n', cap', A', h1, h2, h3.keep k, good_keep d h4 k, h5⟩)
    · refine .inr (.inr ⟨e, b, l, h1, h2, h3, h4, fun i hi => ?_, h6⟩)
      obtain ⟨o', c', p', n', cap', q1, q2⟩ := h5 i hi
      exact ⟨o', c', p', n', cap', q1.keep k, good_keep d q2 k⟩
theorem good_mono : ∀ (d : Nat) {S S' : Nat → Prop} {w : World} {o c : Int} {p : Option Addr} {n cap : Nat} {F : Int → Bool}, Good val bit nc d S w o c p n cap F → (∀ k, S k → S' k) → Good val bit nc d S' w o c p n cap F
  | 0, _, _, _, _, _, _, _, _, _, h, _ => h
  | d + 1, _, _, _, _, _, _, _, _, _, h, k => by
    rcases h with h | ⟨e, b, o', c', p', n', cap', A', h1, h2, h3, h4, h5⟩ | ⟨e, b, l, h1, h2, h3, h4, h5, h6⟩
    · exact .inl h
    · exact .inr (.inl ⟨e, b, o', c', p', n', cap', A', h1, h2, h3.mono k, good_mono d h4 k, h5⟩)
    · refine .inr (.inr ⟨e, b, l, h1, h2, h3, h4, fun i hi => ?_, h6⟩)
      obtain ⟨o', c', p', n', cap', q1, q2⟩ := h5 i hi
      exact ⟨o', c', p', n', cap', q1.mono k, good_mono d q2 k⟩
theorem good_lift : ∀ (d : Nat) {S : Nat → Prop} {w : World} {o c : Int} {p : Option Addr} {n cap : Nat} {F : Int → Bool}, Good val bit nc d S w o c p n cap F → Good val bit nc (d + 1) S w o c p n cap F
  | 0, _, _, _, _, _, _, _, _, h => .inl h
  | d + 1, _, _, _, _, _, _, _, _, h => by
    rcases h with h | ⟨e, b, o', c', p', n', cap', A', h1, h2, h3, h4, h5⟩ | ⟨e, b, l, h1, h2, h3, h4, h5, h6⟩
    · exact .inl h
    · exact .inr (.inl ⟨e, b, o', c', p', n', cap', A', h1, h2, h3, good_lift d h4, h5⟩)
    · refine .inr (.inr ⟨e, b, l, h1, h2, h3, h4, fun i hi => ?_, h6⟩)
      obtain ⟨o', c', p', n', cap', q1, q2⟩ := h5 i hi
      exact ⟨o', c', p', n', cap', q1, good_lift d q2⟩

theorem ev_of_good : ∀ (d : Nat) {S : Nat → Prop} {w : World} {o c : Int} {p : Option Addr} {n cap : Nat} {F : Int → Bool}, Good val bit nc d S w o c p n cap F → Ev val bit nc d w o c p n cap F
  | 0, _, _, _, _, _, _, _, _, ⟨e, k, e1, e2, _, e3⟩ => ⟨e, k, e1, e2, e3⟩
  | d + 1, _, _, _, _, _, _, _, _, h => by
    rcases h with ⟨e, k, e1, e2, _, e3⟩ | ⟨e, b, o', c', p', n', cap', A', h1, h2, h3, h4, h5⟩ | ⟨e, b, l, h1, h2, h3, h4, h5, h6⟩
    · exact .inl ⟨e, k, e1, e2, e3⟩
    · exact .inr (.inl ⟨e, b, o', c', p', n', cap', A', h1, h2, h3.at3, ev_of_good d h4, h5⟩)
    · refine .inr (.inr ⟨e, b, l, h1, h2, h4, fun i hi => ?_, h6⟩)
      obtain ⟨o', c', p', n', cap', q1, q2⟩ := h5 i hi
      exact ⟨o', c', p', n', cap', q1.at3, ev_of_good d q2⟩

theorem ev_of_orig : ∀ (d : Nat) {S : Nat → Prop} {w : World} {o c : Int} {p : Option Addr} {n cap : Nat} {A : Attr}, Orig val bit nc d S w o c p n cap A → Ev val bit nc d w o c p n cap A.f
  | 0, _, _, _, _, _, _, _, _, ⟨e, k, e1, e2, e3⟩ => ⟨e, k, e1, e2, by rw [e3]⟩
  | d + 1, _, _, _, _, _, _, _, _, h => by
    rcases h with ⟨e, k, e1, e2, e3⟩ | ⟨e, b, o', c', p', n', cap', A', h1, h2, h3, h4, h5⟩ | ⟨e, b, l, h1, h2, h3, h4, h5, h6⟩
    · exact .inl ⟨e, k, e1, e2, by rw [e3]⟩
    · exact .inr (.inl ⟨e, b, o', c', p', n', cap', A'.f, h1, h2, h3.at3, ev_of_orig d h4, by rw [h5]; rfl⟩)
    · refine .inr (.inr ⟨e, b, l.map (·.f), h1, by simpa using h2, by simpa using h4.1, fun i hi => ?_, by rw [h6]; rfl⟩)
      obtain ⟨o', c', p', n', cap', q1, q2⟩ := h5 i (by simpa using hi)
      exact ⟨o', c', p', n', cap', q1.at3, by simpa using ev_of_orig d q2⟩

/-- no condition that is asked is known: so none is, and all are asked -/
theorem good_of_orig (hv : ∀ c, 0 ≤ val c ∧ val c ≤ 2) : ∀ (d : Nat) {S : Nat → Prop} {w : World} {o c : Int} {p : Option Addr} {n cap : Nat} {A : Attr}, Orig val bit nc d S w o c p n cap A → A.kn = false → Good val bit nc d S w o c p n cap A.f
  | 0, _, _, _, _, _, _, _, _, ⟨e, k, e1, e2, e3⟩, hk => ⟨e, k, e1, e2, by subst e3; simpa [leafA] using hk, by rw [e3]⟩
  | d + 1, _, _, _, _, _, _, _, _, h, hk => by
    rcases h with ⟨e, k, e1, e2, e3⟩ | ⟨e, b, o', c', p', n', cap', A', h1, h2, h3, h4, h5⟩ | ⟨e, b, l, h1, h2, h3, h4, h5, h6⟩
    · exact .inl ⟨e, k, e1, e2, by subst e3; simpa [leafA] using hk, by rw [e3]⟩
    · refine .inr (.inl ⟨e, b, o', c', p', n', cap', A'.f, h1, h2, h3, good_mono d (good_of_orig hv d h4 (by subst h5; exact hk)) (fun j hj => hj.1), by rw [h5]; rfl⟩)
    · have hs : ∀ a ∈ l, Sound (3 ^ d) a := fun a ha => by
        obtain ⟨i, hi, e⟩ := List.getElem_of_mem ha
        obtain ⟨o', c', p', n', cap', _, h'⟩ := h5 i hi
        exact e ▸ orig_sound hv d h'
      subst h6
      have hall : ∀ a ∈ l, a.kn = false := go_all_kn _ l false hs (dec_ne _) hk
      refine .inr (.inr ⟨e, b, l.map (·.f), h1, by simpa using h2, by simpa using h3, by simpa using h4.1, fun i hi => ?_, rfl⟩)
      have hi' : i < l.length := by simpa using hi
      obtain ⟨o', c', p', n', cap', q1, q2⟩ := h5 i hi'
      exact ⟨o', c', p', n', cap', q1, by simpa using good_mono d (good_of_orig hv d q2 (hall _ (List.getElem_mem hi'))) (fun j hj => hj.1)⟩
end
end Go.Proofs.Ybulkmge
