/-
  Rows of strings that the call itself makes: blocks that are known whole.
-/
import Derived.Test.YbulkmfqAgree
import Derived.Laws.CopyOwn
import Derived.Lib.SmallJoins
import Derived.Deep.DeepCutAuto
namespace Go.Proofs.Ybulkmfq
open Go.RowKit
set_option linter.unusedVariables false

/-- from here on the world is a letter, of which Φ holds -/
theorem wp_gen {P : Program} {c : Code} {Q : Exit → Act → World → Prop} {a : Act} {W : World} (Φ : World → Prop) (h : Φ W) (k : ∀ W1, Φ W1 → c.wp P Q a W1) : c.wp P Q a W := k W h
theorem cell_blk {w : World} {g : Nat} {cs : Array Value} {t : TypeId} {fr : Nat × Nat} (h : w.heap[g]? = some (.cells cs t fr)) (i : Nat) : w.cell? ⟨g, i, none⟩ = cs[i]? := by simp [World.cell?, h]
theorem free_blk {w : World} {g : Nat} {cs : Array Value} {t : TypeId} (h : w.heap[g]? = some (.cells cs t (0, 0))) (i : Nat) : w.frozen? ⟨g, i, none⟩ = false := by simp [World.frozen?, h]

def E9 (n : Nat) : Array Value := madeCells #[.string { data := #[] }] n
theorem E9_size (n : Nat) : (E9 n).size = n := size_madeCells _ _
theorem E9_at (n i : Nat) (h : i < n) : (E9 n)[i]? = some (.string { data := #[] }) := by
  have e : (E9 n).toList = List.replicate n (.string { data := #[] }) := toList_madeCells_one _ n
  rw [← Array.getElem?_toList, e]
  simp [h]
theorem info9 : (Yba.prog.info? 9).map (fun i => (i.zero, i.size, i.bytes)) = some (some (.string { data := #[] }), 1, 16) := by kernel_rfl
theorem make23 (n m : Nat) (hnm : n ≤ m) (hn : m ≤ 1025) (w : World) : (Instr.makeSlice 23 (.int .i64 n) (.int .i64 m)).run Yba.prog w = .ok (.slice (some ⟨w.heap.size, 0, none⟩) n m) (w.alloc (.cells (E9 m) 9)) := by
  obtain ⟨i0, hi, hz0, hz1, hz2⟩ := info_parts info9
  have := run_make (P := Yba.prog) w 23 9 i0 (.string { data := #[] }) Yba.underlying23 hi hz0 .i64 .i64 n m (by omega) (by omega) (by rw [hz2]; omega) (by omega)
  rw [this, hz1]
  simp [E9, Value.cells]

/-- block g is a row of m strings of the call's own -/
def RowF (w : World) (g m : Nat) (f : Nat → ByteArray) : Prop := ∃ arr : Array Value, w.heap[g]? = some (.cells arr 9 (0, 0)) ∧ arr.size = m ∧ ∀ i, i < m → arr[i]? = some (.string (f i))
theorem RowF.made (w : World) (m : Nat) : RowF (w.alloc (.cells (E9 m) 9)) w.heap.size m (fun _ => { data := #[] }) :=
  ⟨E9 m, heap_alloc_new w _, E9_size m, fun i hi => E9_at m i hi⟩
theorem RowF.at {w : World} {g m : Nat} {f : Nat → ByteArray} (h : RowF w g m f) (i : Nat) (hi : i < m) : w.cell? ⟨g, i, none⟩ = some (.string (f i)) := by
  obtain ⟨arr, h1, h2, h3⟩ := h
  rw [cell_blk h1]; exact h3 i hi
theorem RowF.free {w : World} {g m : Nat} {f : Nat → ByteArray} (h : RowF w g m f) (i : Nat) : w.frozen? ⟨g, i, none⟩ = false := by
  obtain ⟨arr, h1, h2, h3⟩ := h
  exact free_blk h1 i
theorem RowF.lt {w : World} {g m : Nat} {f : Nat → ByteArray} (h : RowF w g m f) : g < w.heap.size := by
  obtain ⟨arr, h1, _⟩ := h
  exact (Array.getElem?_eq_some_iff.1 h1).1
theorem RowF.congr {w : World} {g m : Nat} {f f' : Nat → ByteArray} (h : RowF w g m f) (e : ∀ i, i < m → f i = f' i) : RowF w g m f' := by
  obtain ⟨arr, h1, h2, h3⟩ := h
  exact ⟨arr, h1, h2, fun i hi => by rw [← e i hi]; exact h3 i hi⟩
theorem RowF.put {w : World} {g m : Nat} {f : Nat → ByteArray} (h : RowF w g m f) (k : Nat) (v : ByteArray) : RowF (w.setCell ⟨g, k, none⟩ (.string v)) g m (fun i => if i = k then v else f i) := by
  obtain ⟨arr, h1, h2, h3⟩ := h
  refine ⟨_, Go.Joins.block_setCell h1 _, by simp [h2], fun i hi => ?_⟩
  by_cases e : i = k
  · subst e; simp [h2, hi]
  · rw [Array.getElem?_setIfInBounds_ne (by omega)]; simp only [e, if_false]; exact h3 i hi
theorem RowF.other {w : World} {g m : Nat} {f : Nat → ByteArray} (h : RowF w g m f) {a : Addr} (ha : g ≠ a.block) (v : Value) : RowF (w.setCell a v) g m f := by
  obtain ⟨arr, h1, h2, h3⟩ := h
  exact ⟨arr, (Below.heap_setCell w a v g ha).trans h1, h2, h3⟩
theorem RowF.alloc {w : World} {g m : Nat} {f : Nat → ByteArray} (h : RowF w g m f) (o : Obj) : RowF (w.alloc o) g m f := by
  have := h.lt
  obtain ⟨arr, h1, h2, h3⟩ := h
  exact ⟨arr, (Below.heap_alloc w o g this).trans h1, h2, h3⟩
theorem RowF.below {B : Nat} {w w' : World} {g m : Nat} {f : Nat → ByteArray} (h : RowF w g m f) (hb : Below B w w') (hg : g < B) : RowF w' g m f := by
  obtain ⟨arr, h1, h2, h3⟩ := h
  exact ⟨arr, (hb.block g hg).trans h1, h2, h3⟩
theorem RowF.drewN {w : World} {g m : Nat} {f : Nat → ByteArray} (h : RowF w g m f) (q : Nat) : RowF (w.drewN q) g m f := h

/-- 'copy' of n strings to the head of such a row, from whatever source -/
theorem wpList_copy_rowF {w : World} {ops : Array Oper} {rest : List Oper} {o : Oper} {a : Act} {Q : Exit → Act → World → Prop} (hgd : o.guard = none) (d s : Operand)
    (ho : o.op = .call { callee := .builtin .copy, args := #[d, s], argTypes := #[23, 23] })
    (sp : Option Addr) (dLen dCap sLen sCap g m n : Nat) (f src : Nat → ByteArray) (hd : a.eval d = .slice (some ⟨g, 0, none⟩) dLen dCap) (hs : a.eval s = .slice sp sLen sCap)
    (hrow : RowF w g m f) (hn : Nat.min sLen dLen = n) (hm : n ≤ m) (hpos : 0 < n → ∃ ad, sp = some ad ∧ ∀ j, j < n → w.cell? (ad.add j) = some (.string (src j)))
    (h : ∀ w', RowF w' g m (fun i => if i < n then src i else f i) → Below g w w' → wpList Yba.prog ops Q rest (a.put o.dst (goInt n)) w') :
    wpList Yba.prog ops Q (o :: rest) a w := by
  obtain ⟨arr, h1, h2, h3⟩ := hrow
  have hlen : ((List.range n).map fun i => Value.string (src i)).length = n := by simp
  refine wpList_copy_splice hgd d s 23 23 ho 9 Yba.underlying23 (by kernel_rfl) _ sp dLen dCap sLen sCap hd hs g 0 arr.toList 9 (by simpa using h1) ((List.range n).map fun i => Value.string (src i)) (by rw [hlen, hn]) ?_ (by simp [h2]; omega) ?_ g w (Below.refl _ _) (Nat.le_refl _) ?_
  · intro hp
    rw [hlen] at hp
    obtain ⟨ad, e1, e2⟩ := hpos hp
    refine ⟨rfl, ad, e1, fun j v hj => ?_⟩
    rw [List.getElem?_map] at hj
    rcases Nat.lt_or_ge j n with c | c
    · simp [c] at hj
      rw [← hj]; exact e2 j c
    · simp [c] at hj
  · intro v hv
    simp at hv
    obtain ⟨i, _, rfl⟩ := hv
    rfl
  · intro w' hg hb
    rw [hlen]
    refine h w' ⟨_, hg.out, ?_, fun i hi => ?_⟩ hb
    · simp only [List.size_toArray]
      rw [length_splice _ _ _ (by simp [h2]; omega)]; simpa using h2
    · simp only [List.getElem?_toArray, splice, List.take_zero, List.nil_append, Nat.zero_add]
      by_cases c : i < n
      · rw [List.getElem?_append_left (by simpa using c)]
        simp [c]
      · rw [List.getElem?_append_right (by simpa using c), List.getElem?_drop]
        simp only [c, if_false]
        rw [hlen, show n + (i - n) = i from by omega, Array.getElem?_toList]
        exact h3 i hi
end Go.Proofs.Ybulkmfq
