/-
  Rows of nodes that a call itself makes.
-/
import Derived.Test.YbulkmgeBuild2
namespace Go.Proofs.Ybulkmge
open Go.RowKit
set_option linter.unusedVariables false

/-- a node's fields -/
structure NF where
  o : Int
  c : Int
  p : Option Addr
  n : Nat
  cap : Nat
def NF.cells (x : NF) : List Value := [.int .i64 x.o, .int .i64 x.c, .slice x.p x.n x.cap]
def flat (ns : List NF) : List Value := (ns.map NF.cells).flatten
theorem flat_length : ∀ ns : List NF, (flat ns).length = ns.length * 3
  | [] => rfl
  | x :: r => by
    have := flat_length r
    simp only [flat, List.map_cons, List.flatten_cons, List.length_append, List.length_cons] at this ⊢
    rw [this]; simp [NF.cells]; omega
theorem flat_at : ∀ (ns : List NF) (i : Nat) (h : i < ns.length), (flat ns)[i * 3]? = some (.int .i64 ns[i].o) ∧ (flat ns)[i * 3 + 1]? = some (.int .i64 ns[i].c) ∧ (flat ns)[i * 3 + 2]? = some (.slice ns[i].p ns[i].n ns[i].cap)
  | x :: r, 0, _ => by simp [flat, NF.cells]
  | x :: r, i + 1, h => by
    have ih := flat_at r i (by simpa using h)
    have e : flat (x :: r) = x.cells ++ flat r := by simp [flat]
    have hl : x.cells.length = 3 := rfl
    rw [e]
    refine ⟨?_, ?_, ?_⟩
    · rw [List.getElem?_append_right (by rw [hl]; omega), hl, show (i + 1) * 3 - 3 = i * 3 from by omega]; simpa using ih.1
    · rw [List.getElem?_append_right (by rw [hl]; omega), hl, show (i + 1) * 3 + 1 - 3 = i * 3 + 1 from by omega]; simpa using ih.2.1
    · rw [List.getElem?_append_right (by rw [hl]; omega), hl, show (i + 1) * 3 + 2 - 3 = i * 3 + 2 from by omega]; simpa using ih.2.2
theorem flat_snoc (ns : List NF) (x : NF) : flat (ns ++ [x]) = flat ns ++ x.cells := by simp [flat]

def NodeF (w : World) (b off : Nat) (x : NF) : Prop := Node3 w b off x.o x.c x.p x.n x.cap
def OrigF (val : Nat → Int) (bit : Int → Nat → Bool) (nc d : Nat) (S : Nat → Prop) (w : World) (x : NF) (A : Attr) : Prop := Orig val bit nc d S w x.o x.c x.p x.n x.cap A
def GoodF (val : Nat → Int) (bit : Int → Nat → Bool) (nc d : Nat) (S : Nat → Prop) (w : World) (x : NF) (F : Int → Bool) : Prop := Good val bit nc d S w x.o x.c x.p x.n x.cap F

theorem own_rowed {w : World} {base g k cap : Nat} {xs : List Value} (h : w.ownsRow base 37 3 (.slice (some ⟨g, 0, none⟩) k cap) k xs) : Rowed w g := by
  rcases h.2 with ⟨e, _⟩ | ⟨g', cap', cur, e, _, hh, _⟩
  · cases e
  · simp at e; obtain ⟨rfl, rfl⟩ := e; exact ⟨_, hh⟩
theorem own_node {w : World} {base g k cap : Nat} {ns : List NF} (h : w.ownsRow base 37 3 (.slice (some ⟨g, 0, none⟩) k cap) k (flat ns)) (hk : ns.length = k) (i : Nat) (hi : i < ns.length) : NodeF w g (i * 3) ns[i] := by
  obtain ⟨e0, e1, e2⟩ := flat_at ns i hi
  exact ⟨(h.cellAt (i * 3) (by omega)).trans e0, (h.cellAt (i * 3 + 1) (by omega)).trans e1, (h.cellAt (i * 3 + 2) (by omega)).trans e2⟩
theorem own_block {w w' : World} {base g k cap : Nat} {xs : List Value} (h : w.ownsRow base 37 3 (.slice (some ⟨g, 0, none⟩) k cap) k xs) (e : w'.heap[g]? = w.heap[g]?) : w'.ownsRow base 37 3 (.slice (some ⟨g, 0, none⟩) k cap) k xs := by
  refine ⟨h.1, ?_⟩
  rcases h.2 with ⟨e', _⟩ | ⟨g', cap', cur, e', hb, hh, r⟩
  · cases e'
  · simp at e'; obtain ⟨rfl, rfl⟩ := e'; exact .inr ⟨g, cap, cur, rfl, hb, e.trans hh, r⟩
theorem own_frozen {w : World} {base g k cap : Nat} {xs : List Value} (h : w.ownsRow base 37 3 (.slice (some ⟨g, 0, none⟩) k cap) k xs) : ∃ cs, w.heap[g]? = some (.cells cs 37 (0, 0)) := by
  rcases h.2 with ⟨e, _⟩ | ⟨g', cap', cur, e, _, hh, _⟩
  · cases e
  · simp at e; obtain ⟨rfl, rfl⟩ := e; exact ⟨_, hh⟩

/-- the blocks of an expression lie in the heap -/
theorem orig_in {val : Nat → Int} {bit : Int → Nat → Bool} {nc : Nat} : ∀ (d : Nat) {S : Nat → Prop} {w : World} {o c : Int} {p : Option Addr} {n cap : Nat} {A : Attr}, Orig val bit nc d S w o c p n cap A → Orig val bit nc d (fun k => S k ∧ k < w.heap.size) w o c p n cap A
  | 0, _, _, _, _, _, _, _, _, h => h
  | d + 1, S, w, _, _, _, _, _, _, h => by
    have hx : ∀ b k, (minus S b k ∧ k < w.heap.size) → minus (fun k => S k ∧ k < w.heap.size) b k := fun b k h => ⟨⟨h.1.1, h.2⟩, h.1.2⟩
    rcases h with h | ⟨e, b, o', c', p', n', cap', A', h1, h2, h3, h4, h5⟩ | ⟨e, b, l, h1, h2, h3, h4, h5, h6⟩
    · exact .inl h
    · exact .inr (.inl ⟨e, b, o', c', p', n', cap', A', h1, h2, ⟨⟨h3.s, h3.row.lt⟩, h3.row, h3.at3⟩, orig_mono d (orig_in d h4) (hx b), h5⟩)
    · refine .inr (.inr ⟨e, b, l, h1, h2, h3, h4, fun i hi => ?_, h6⟩)
      obtain ⟨o', c', p', n', cap', q1, q2⟩ := h5 i hi
      exact ⟨o', c', p', n', cap', ⟨⟨q1.s, q1.row.lt⟩, q1.row, q1.at3⟩, orig_mono d (orig_in d q2) (hx b)⟩

theorem info37 : (Yba.prog.info? 37).map (fun i => (i.zero, i.size, i.bytes)) = some (some (.agg #[.int .i64 0, .int .i64 0, .slice none 0 0]), 3, 40) := by kernel_rfl
theorem make35 (w : World) : (Instr.makeSlice 35 (.int .i64 0) (.int .i64 3)).run Yba.prog w = .ok (.slice (some ⟨w.heap.size, 0, none⟩) 0 3) (w.alloc (.cells #[.int .i64 0, .int .i64 0, .slice none 0 0, .int .i64 0, .int .i64 0, .slice none 0 0, .int .i64 0, .int .i64 0, .slice none 0 0] 37)) := by kernel_rfl
theorem own_made (w : World) : (w.alloc (.cells #[.int .i64 0, .int .i64 0, .slice none 0 0, .int .i64 0, .int .i64 0, .slice none 0 0, .int .i64 0, .int .i64 0, .slice none 0 0] 37)).ownsRow w.heap.size 37 3 (.slice (some ⟨w.heap.size, 0, none⟩) 0 3) 0 (flat []) :=
  ⟨rfl, .inr ⟨w.heap.size, 3, _, rfl, Nat.le_refl _, heap_alloc_new w _, by omega, by unfold maxLen; omega, rfl, rfl⟩⟩
end Go.Proofs.Ybulkmge
