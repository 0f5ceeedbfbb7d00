import Derived.Test.YbulkmbiAWalk3
import Derived.Test.YbulkmbiAPlain
import Derived.Lib.SmallJoins
namespace Go.Proofs.Ybulkmbi
open Go.RowKit
set_option linter.unusedVariables false

/-- n zeros of int32 -/
def Z32 (n : Nat) : Array Value := madeCells #[.int .i32 0] n
theorem Z32_size (n : Nat) : (Z32 n).size = n := size_madeCells _ _
theorem info21 : (Yba.prog.info? 21).map (fun i => (i.zero, i.size, i.bytes)) = some (some (.int .i32 0), 1, 4) := by kernel_rfl
theorem make25 (n : Nat) (hn : n ≤ 1024) (w : World) : (Instr.makeSlice 25 (.int .i64 n) (.int .i64 n)).run Yba.prog w = .ok (.slice (some ⟨w.heap.size, 0, none⟩) n n) (w.alloc (.cells (Z32 n) 21)) := by
  obtain ⟨i0, hi, hz0, hz1, hz2⟩ := info_parts info21
  have := run_make (P := Yba.prog) w 25 21 i0 (.int .i32 0) Yba.underlying25 hi hz0 .i64 .i64 n n (by omega) (by omega) (by rw [hz2]; omega) (by omega)
  rw [this, hz1]
  simp [Z32, Value.cells]

theorem make28 (w : World) : (Instr.makeSlice 28 (.int .i64 2) (.int .i64 2)).run Yba.prog w = .ok (.slice (some ⟨w.heap.size, 0, none⟩) 2 2) (w.alloc (.cells #[.slice none 0 0, .slice none 0 0] 25)) := by kernel_rfl
theorem make25three (w : World) : (Instr.makeSlice 25 (.int .i64 3) (.int .i64 3)).run Yba.prog w = .ok (.slice (some ⟨w.heap.size, 0, none⟩) 3 3) (w.alloc (.cells #[.int .i32 0, .int .i32 0, .int .i32 0] 21)) := by kernel_rfl

/-- block g is a row of n int32 cells that may be written, of which the first k are said -/
def Row (w : World) (g n k : Nat) (f : Nat → Int) : Prop := ∃ arr : Array Value, w.heap[g]? = some (.cells arr 21 (0, 0)) ∧ arr.size = n ∧ ∀ i, i < k → arr[i]? = some (.int .i32 (f i))
theorem Row.made (w : World) (n : Nat) (f : Nat → Int) : Row (w.alloc (.cells (Z32 n) 21)) w.heap.size n 0 f :=
  ⟨Z32 n, heap_alloc_new w _, Z32_size n, fun i hi => absurd hi (Nat.not_lt_zero _)⟩
theorem Row.old {w : World} {g n k : Nat} {f : Nat → Int} (h : Row w g n k f) (i : Nat) (hi : i < n) : ∃ v, w.cell? ⟨g, i, none⟩ = some v := by
  obtain ⟨arr, h1, h2, _⟩ := h
  rw [cell_blk h1]
  exact ⟨arr[i]'(by omega), by simp [h2, hi]⟩
theorem Row.free {w : World} {g n k : Nat} {f : Nat → Int} (h : Row w g n k f) (i : Nat) : w.frozen? ⟨g, i, none⟩ = false := by
  obtain ⟨arr, h1, h2, _⟩ := h
  exact free_blk h1 i
theorem Row.at {w : World} {g n k : Nat} {f : Nat → Int} (h : Row w g n k f) (i : Nat) (hi : i < k) : w.cell? ⟨g, i, none⟩ = some (.int .i32 (f i)) := by
  obtain ⟨arr, h1, h2, h3⟩ := h
  rw [cell_blk h1]; exact h3 i hi
theorem Row.lt {w : World} {g n k : Nat} {f : Nat → Int} (h : Row w g n k f) : g < w.heap.size := by
  obtain ⟨arr, h1, _⟩ := h
  exact (Array.getElem?_eq_some_iff.1 h1).1
theorem Row.put {w : World} {g n k : Nat} {f : Nat → Int} (h : Row w g n k f) (hk : k < n) (v : Int) (hv : v = f k) : Row (w.setCell ⟨g, k, none⟩ (.int .i32 v)) g n (k + 1) f := by
  obtain ⟨arr, h1, h2, h3⟩ := h
  refine ⟨_, Go.Joins.block_setCell h1 _, by simp [h2], fun i hi => ?_⟩
  rcases Nat.eq_or_lt_of_le (Nat.le_of_lt_succ hi) with e | e
  · subst e; simp [h2, hk, hv]
  · rw [Array.getElem?_setIfInBounds_ne (by omega)]; exact h3 i e
theorem Row.other {w : World} {g n k : Nat} {f : Nat → Int} (h : Row w g n k f) {a : Addr} (ha : g ≠ a.block) (v : Value) : Row (w.setCell a v) g n k f := by
  obtain ⟨arr, h1, h2, h3⟩ := h
  exact ⟨arr, (Below.heap_setCell w a v g ha).trans h1, h2, h3⟩
theorem Row.alloc {w : World} {g n k : Nat} {f : Nat → Int} (h : Row w g n k f) (o : Obj) : Row (w.alloc o) g n k f := by
  have := h.lt
  obtain ⟨arr, h1, h2, h3⟩ := h
  exact ⟨arr, (Below.heap_alloc w o g this).trans h1, h2, h3⟩
theorem Row.below {B : Nat} {w w' : World} {g n k : Nat} {f : Nat → Int} (h : Row w g n k f) (hb : Below B w w') (hg : g < B) : Row w' g n k f := by
  obtain ⟨arr, h1, h2, h3⟩ := h
  exact ⟨arr, (hb.block g hg).trans h1, h2, h3⟩
theorem Row.vrow {w : World} {g n : Nat} {zs : List Int} (h : Row w g n n (fun i => cumF zs (i + 1))) : VRow w g (vsF zs n) := by
  intro i hi
  rw [vsF_length] at hi
  rw [vsF_at zs n i hi]
  exact h.at i hi

/-- the reading once its versions are laid -/
structure S1 (w W : World) (g gv r g1 x : Nat) (vs : List Int) : Prop where
  bel : Below w.heap.size w W
  lg : w.heap.size ≤ g
  lr : w.heap.size ≤ r
  ug : g < W.heap.size
  ugv : gv < W.heap.size
  ur : r < W.heap.size
  ug1 : g1 < W.heap.size
  ne : g ≠ r
  ngv : gv ≠ g
  ng1 : g1 ≠ g
  nr1 : g1 ≠ r
  ngr : gv ≠ r
  map : W.heap[r]? = some (.map #[] 0)
  c13 : W.cell? ⟨g, 13, none⟩ = some (.slice none 0 0)
  c14 : W.cell? ⟨g, 14, none⟩ = some (.slice (some ⟨gv, 0, none⟩) 2 2)
  c16 : W.cell? ⟨g, 16, none⟩ = some (.map (some r))
  fz : ∀ i, W.frozen? ⟨g, i, none⟩ = false
  cgv : W.cell? ⟨gv, x, none⟩ = some (.slice (some ⟨g1, 0, none⟩) vs.length vs.length)
  row : VRow W g1 vs

theorem cell_other {w : World} {a b : Addr} {v : Value} (h : b ≠ a) : (w.setCell b v).cell? a = w.cell? a := World.cell?_setCell_other _ _ _ _ h
theorem cell_same {w : World} {a : Addr} {u v : Value} (h : w.cell? a = some u) : (w.setCell a v).cell? a = some v := World.cell?_setCell_same _ _ _ h

theorem stage1 {w wr W : World} {g r x : Nat} {vs : List Int} {A B : Value} (hM : Made wr W g r) (hb : Below w.heap.size w wr) (hv : VRow wr w.heap.size vs) (hsz : wr.heap.size = w.heap.size + 2)
    (hx : (#[A, B] : Array Value)[x]? = some (.slice (some ⟨w.heap.size, 0, none⟩) vs.length vs.length)) :
    S1 w ((W.setCell ⟨g, 14, none⟩ (.slice (some ⟨W.heap.size, 0, none⟩) 2 2)).alloc (.cells #[A, B] 25)) g W.heap.size r w.heap.size x vs := by
  have h1 := hM.lg
  have h2 := hM.lr
  have h3 := hM.ug
  have h4 := hM.ur
  have h5 := hM.ne
  have hs := hM.bel.size
  have hcell : ∀ b i, b < W.heap.size → b ≠ g ∨ i ≠ 14 → ((W.setCell ⟨g, 14, none⟩ (.slice (some ⟨W.heap.size, 0, none⟩) 2 2)).alloc (.cells #[A, B] 25)).cell? ⟨b, i, none⟩ = W.cell? ⟨b, i, none⟩ := by
    intro b i hbl hne
    rw [World.cell?_alloc_past _ _ _ (by simpa using hbl)]
    exact cell_other (by intro h; simp at h; omega)
  have hheap : ∀ b, b < W.heap.size → b ≠ g → ((W.setCell ⟨g, 14, none⟩ (.slice (some ⟨W.heap.size, 0, none⟩) 2 2)).alloc (.cells #[A, B] 25)).heap[b]? = W.heap[b]? := by
    intro b hbl hne
    rw [Below.heap_alloc _ _ _ (by simpa using hbl)]
    exact Below.heap_setCell _ _ _ _ hne
  refine ⟨?_, by omega, by omega, by simp; omega, by simp, by simp; omega, by simp; omega, h5, by omega, by omega, by omega, by omega, ?_, ?_, ?_, ?_, ?_, ?_, ?_⟩
  · exact ((hb.trans (hM.bel.mono (by omega))).setCell (by simp; omega) _).alloc (by simp; omega) _
  · rw [hheap r h4 (by omega)]; exact hM.map
  · rw [hcell g 13 h3 (by omega)]; exact hM.c13
  · rw [World.cell?_alloc_past _ _ _ (by simpa using h3)]
    exact cell_same hM.c14
  · rw [hcell g 16 h3 (by omega)]; exact hM.c16
  · intro i
    rw [World.frozen?_alloc_old _ _ _ (by simp; omega), World.frozen?_setCell]
    exact hM.fz i
  · have := World.cell?_alloc_new (W.setCell ⟨g, 14, none⟩ (.slice (some ⟨W.heap.size, 0, none⟩) 2 2)) #[A, B] 25 x
    rw [← hx]; simpa using this
  · intro i hi
    rw [hcell w.heap.size i (by omega) (by omega)]
    exact (hM.bel.cell (p := ⟨w.heap.size, i, none⟩) (by simp; omega)).trans (hv i hi)

open Go.ChangeMaps (setBlock)

/-- the reading once the commits are laid too; M: what the map's block holds -/
structure S2 (w W : World) (g gv gc r g1 T x : Nat) (vs : List Int) (c : Int) (M : Obj) : Prop where
  bel : Below w.heap.size w W
  lr : w.heap.size ≤ r
  c14 : W.cell? ⟨g, 14, none⟩ = some (.slice (some ⟨gv, 0, none⟩) 2 2)
  cgv : W.cell? ⟨gv, x, none⟩ = some (.slice (some ⟨g1, 0, none⟩) vs.length vs.length)
  ms : MS W g gc r g1 T vs c M
  ne : g ≠ r
  ngr : gv ≠ r
  ncr : gc ≠ r
  nr1 : g1 ≠ r

theorem stage2 {w W : World} {g gv r g1 x T : Nat} {vs : List Int} {c : Int} (h : S1 w W g gv r g1 x vs) (hT : T < 3) :
    S2 w ((W.setCell ⟨g, 13, none⟩ (.slice (some ⟨W.heap.size, 0, none⟩) 3 3)).alloc (.cells ([Value.int .i32 0, .int .i32 0, .int .i32 0].set T (.int .i32 c)).toArray 21)) g gv W.heap.size r g1 T x vs c (.map #[] 0) := by
  have h3 := h.ug
  have h4 := h.ur
  have h5 := h.ugv
  have h6 := h.ug1
  have n1 := h.ne
  have n2 := h.ngv
  have n3 := h.ng1
  have l1 := h.lg
  have hs := h.bel.size
  have hcell : ∀ b i, b < W.heap.size → b ≠ g ∨ i ≠ 13 → ((W.setCell ⟨g, 13, none⟩ (.slice (some ⟨W.heap.size, 0, none⟩) 3 3)).alloc (.cells ([Value.int .i32 0, .int .i32 0, .int .i32 0].set T (.int .i32 c)).toArray 21)).cell? ⟨b, i, none⟩ = W.cell? ⟨b, i, none⟩ := by
    intro b i hbl hne
    rw [World.cell?_alloc_past _ _ _ (by simpa using hbl)]
    exact cell_other (by intro h; simp at h; omega)
  refine ⟨?_, h.lr, ?_, ?_, ⟨?_, ?_, ?_, ?_, ?_, by simp; omega, by simp, by simp; omega, by simp; omega⟩, n1, h.ngr, by omega, h.nr1⟩
  · exact (h.bel.setCell (by simp; omega) _).alloc (by simp; omega) _
  · rw [hcell g 14 h3 (by omega)]; exact h.c14
  · rw [hcell gv x h5 (by omega)]; exact h.cgv
  · rw [World.cell?_alloc_past _ _ _ (by simpa using h3)]
    exact cell_same h.c13
  · have := World.cell?_alloc_new (W.setCell ⟨g, 13, none⟩ (.slice (some ⟨W.heap.size, 0, none⟩) 3 3)) ([Value.int .i32 0, .int .i32 0, .int .i32 0].set T (.int .i32 c)).toArray 21 T
    rw [World.size_setCell] at this
    rw [this]; simp [hT]
  · rw [hcell g 16 h3 (by omega)]; exact h.c16
  · rw [Below.heap_alloc _ _ _ (by simpa using h4), Below.heap_setCell _ _ _ _ (by simp; omega)]; exact h.map
  · intro i hi
    rw [hcell g1 i h6 (by omega)]; exact h.row i hi

theorem heap_setBlock_ne (W : World) (r : Nat) (o : Obj) (k : Nat) (h : k ≠ r) : (setBlock W r o).heap[k]? = W.heap[k]? := by
  simp only [setBlock]
  rw [Array.getElem?_setIfInBounds_ne (by omega)]
theorem cell_setBlock_ne (W : World) (r : Nat) (o : Obj) (k i : Nat) (h : k ≠ r) : (setBlock W r o).cell? ⟨k, i, none⟩ = W.cell? ⟨k, i, none⟩ :=
  World.cell?_of_block (w := W) (heap_setBlock_ne W r o k h)

theorem S2.turn {w W : World} {g gv gc r g1 T x : Nat} {vs : List Int} {c : Int} {M : Obj} (h : S2 w W g gv gc r g1 T x vs c M) (M' : Obj) : S2 w (setBlock W r M') g gv gc r g1 T x vs c M' := by
  have hsz : (setBlock W r M').heap.size = W.heap.size := by simp [setBlock]
  have hms := h.ms
  refine ⟨?_, h.lr, ?_, ?_, ⟨?_, ?_, ?_, ?_, ?_, ?_, ?_, ?_, ?_⟩, h.ne, h.ngr, h.ncr, h.nr1⟩
  · exact h.bel.trans ⟨rfl, rfl, rfl, by omega, fun k hk => heap_setBlock_ne _ _ _ _ (by have := h.lr; omega)⟩
  · rw [cell_setBlock_ne _ _ _ _ _ h.ne]; exact h.c14
  · rw [cell_setBlock_ne _ _ _ _ _ h.ngr]; exact h.cgv
  · rw [cell_setBlock_ne _ _ _ _ _ h.ne]; exact hms.c13
  · rw [cell_setBlock_ne _ _ _ _ _ h.ncr]; exact hms.cgc
  · rw [cell_setBlock_ne _ _ _ _ _ h.ne]; exact hms.c16
  · simp [setBlock, hms.lr]
  · intro i hi
    rw [cell_setBlock_ne _ _ _ _ _ h.nr1]; exact hms.row i hi
  · rw [hsz]; exact hms.lg
  · rw [hsz]; exact hms.lgc
  · rw [hsz]; exact hms.lr
  · rw [hsz]; exact hms.lg1

theorem placed_a {vs : List Int} {c r1 res : Int} {y : Option Int} (hc : 0 < c) (h1 : IsIdx vs (c - 1) r1) (h0 : 0 ≤ r1) (h : Placed vs c y res) : res = r1 := by
  rcases h with ⟨_, _, h⟩ | ⟨h | h, _⟩
  · exact h.uniq h1
  · omega
  · have := h1.uniq h; omega
theorem placed_b {vs : List Int} {c res : Int} {y : Option Int} (hc : c ≤ 0 ∨ IsIdx vs (c - 1) (-1)) (h : Placed vs c y res) : Early vs y res := by
  rcases h with ⟨h1, h2, h⟩ | ⟨_, h⟩
  · rcases hc with hc | hc
    · omega
    · have := h.uniq hc; omega
  · exact h
theorem ret_boolA {a b : Bool} (h : a = b) : Ending.returned (.bool a) = .returned (.bool b) := by rw [h]
end Go.Proofs.Ybulkmbi
