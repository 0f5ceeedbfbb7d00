import Derived.Test.YbulkmgeEval3b
namespace Go.Proofs.Ybulkmge
open Go.RowKit
set_option linter.unusedVariables false

def rng (lo hi k : Nat) : Prop := lo ≤ k ∧ k < hi
/-- the builder: what is left to be read -/
structure Bld (B bb : Nat) (a : Option Addr) (len cap : Nat) (z : Nat → Int) (w : World) (kp : Nat) : Prop where
  blk : w.heap[bb]? = some (.cells #[.slice a len cap, .int .i64 kp] 58 (0, 0))
  ops : Vals B w a len z
  le : kp ≤ len

/-- in the midst of a build: RB the block of the result, begun in w -/
structure Mid (B bb : Nat) (a : Option Addr) (len cap : Nat) (z : Nat → Int) (w W : World) (kp : Nat) : Prop where
  bld : Bld B bb a len cap z W kp
  frame : Frame w.heap.size (fun j => j = bb) w W
  res : ∃ x y u, W.heap[w.heap.size]? = some (.cells #[x, y, u] 37 (0, 0))
  lt : bb < w.heap.size
  hB : B ≤ bb

theorem Bld.alloc {B bb : Nat} {a : Option Addr} {len cap kp : Nat} {z : Nat → Int} {w : World} (h : Bld B bb a len cap z w kp) (hB : B ≤ w.heap.size) (o : Obj) : Bld B bb a len cap z (w.alloc o) kp :=
  ⟨(Below.heap_alloc w o bb (Array.getElem?_eq_some_iff.1 h.blk).1).trans h.blk, h.ops.below ((Below.refl _ _).alloc hB o), h.le⟩
theorem Mid.start {B bb : Nat} {a : Option Addr} {len cap kp : Nat} {z : Nat → Int} {w : World} (h : Bld B bb a len cap z w kp) (hB : B ≤ bb) : Mid B bb a len cap z w (w.alloc (.cells #[.int .i64 0, .int .i64 0, .slice none 0 0] 37)) kp := by
  have hlt : bb < w.heap.size := (Array.getElem?_eq_some_iff.1 h.blk).1
  exact ⟨h.alloc (by omega) _, (Frame.refl _ _ _).alloc (Nat.le_refl _) _, ⟨_, _, _, heap_alloc_new w _⟩, hlt, hB⟩
theorem Mid.drewN {B bb : Nat} {a : Option Addr} {len cap kp : Nat} {z : Nat → Int} {w W : World} (h : Mid B bb a len cap z w W kp) (q : Nat) : Mid B bb a len cap z w (W.drewN q) kp :=
  ⟨⟨h.bld.blk, h.bld.ops, h.bld.le⟩, h.frame.drewN q, h.res, h.lt, h.hB⟩
theorem Mid.next {B bb : Nat} {a : Option Addr} {len cap kp : Nat} {z : Nat → Int} {w W : World} (h : Mid B bb a len cap z w W kp) (hk : kp < len) : Mid B bb a len cap z w (W.setCell ⟨bb, 1, none⟩ (.int .i64 ((kp : Int) + 1))) (kp + 1) := by
  obtain ⟨x, y, u, hr⟩ := h.res
  refine ⟨⟨by rw [Go.Joins.block_setCell h.bld.blk]; rfl, h.bld.ops.below ((Below.refl _ _).setCell h.hB _), by omega⟩, h.frame.setCell (.inl rfl) _, ⟨x, y, u, (Below.heap_setCell W ⟨bb, 1, none⟩ _ _ (by have := h.lt; simp; omega)).trans hr⟩, h.lt, h.hB⟩

/-- the result's three cells stored -/
def set3 (W : World) (b : Nat) (x y u : Value) : World := ((W.setCell ⟨b, 0, none⟩ x).setCell ⟨b, 1, none⟩ y).setCell ⟨b, 2, none⟩ u
theorem set3_block (W : World) (b : Nat) (x y u : Value) (k : Nat) (h : k ≠ b) : (set3 W b x y u).heap[k]? = W.heap[k]? := by
  unfold set3
  rw [Below.heap_setCell _ _ _ _ h, Below.heap_setCell _ _ _ _ h, Below.heap_setCell _ _ _ _ h]
theorem set3_frame (W : World) (b : Nat) (x y u : Value) (E : Nat) (X : Nat → Prop) (h : E ≤ b) : Frame E X W (set3 W b x y u) := by
  have h0 : Frame E X W (W.setCell ⟨b, 0, none⟩ x) := (Frame.refl E X W).setCell (p := ⟨b, 0, none⟩) (.inr h) x
  have h1 : Frame E X W ((W.setCell ⟨b, 0, none⟩ x).setCell ⟨b, 1, none⟩ y) := h0.setCell (p := ⟨b, 1, none⟩) (.inr h) y
  exact h1.setCell (p := ⟨b, 2, none⟩) (.inr h) u
theorem Mid.done {B bb : Nat} {a : Option Addr} {len cap kp : Nat} {z : Nat → Int} {w W : World} (h : Mid B bb a len cap z w W kp) (x y u : Value) : Bld B bb a len cap z (set3 W w.heap.size x y u) kp ∧ Frame w.heap.size (fun j => j = bb) w (set3 W w.heap.size x y u) := by
  have hlt := h.lt
  have hB := h.hB
  have f : Frame w.heap.size (fun j => j = bb) W (set3 W w.heap.size x y u) := set3_frame W _ x y u _ _ (Nat.le_refl _)
  exact ⟨⟨(set3_block W _ x y u bb (by omega)).trans h.bld.blk, h.bld.ops.below (f.below (by omega) (fun k hk e => by omega)), h.bld.le⟩, h.frame.trans f⟩

set_option maxRecDepth 100000 in
set_option maxHeartbeats 1000000 in
theorem build_end (B bb : Nat) (a : Option Addr) (len cap kp nc depth : Nat) (z : Nat → Int) (w : World) (hl : len ≤ 1024) (hnc : nc ≤ 1024) (hn0 : 0 < nc) (hd : depth ≤ 5) (hB : B ≤ bb) (h : Bld B bb a len cap z w kp) (hk3 : len ≤ kp) :
    Calls Yba.prog 13 #[.pointer (some ⟨bb, 0, none⟩), .int .i64 nc, .int .i64 depth] w fun e w' => ∃ k : Nat, k < nc ∧ e = .returned (.agg #[.int .i64 0, .int .i64 k, .slice none 0 0]) ∧ Bld B bb a len cap z w' kp ∧ Frame w.heap.size (fun j => j = bb) w w' := by
  have hk2 : kp ≤ len := h.le
  have hd1 : decide ((len : Int) ≤ (kp : Int)) = true := by simp; omega
  go_enter Yba.func13, Yba.ntmps13
  go_upto_region 1 with fail
  refine wp_gen (fun W => Mid B bb a len cap z w W kp) (Mid.start h hB) ?_
  intro W hM
  have c0 : W.cell? ⟨bb, 0, none⟩ = some (.slice a len cap) := cell_blk hM.bld.blk 0
  have c1 : W.cell? ⟨bb, 1, none⟩ = some (.int .i64 kp) := cell_blk hM.bld.blk 1
  go_quiet (fail)
  go_wp2_with fail
  go_quiet (fail)
  go_upto_region 6 with fail
  refine wp_gen (fun W' => Mid B bb a len cap z w W' kp) (by exact (hM.drewN _).drewN _) ?_
  clear c0 c1 hM h
  intro W' hM
  obtain ⟨x, y, u, hr⟩ := hM.res
  have r0 : W'.cell? ⟨w.heap.size, 0, none⟩ = some x := cell_blk hr 0
  have r1 : W'.cell? ⟨w.heap.size, 1, none⟩ = some y := cell_blk hr 1
  have r2 : W'.cell? ⟨w.heap.size, 2, none⟩ = some u := cell_blk hr 2
  have rf : ∀ i, W'.frozen? ⟨w.heap.size, i, none⟩ = false := fun i => free_blk hr i
  go_wp2_with fail
  exact bodyPost_ret (v := .agg #[.int .i64 0, .int .i64 0, .slice none 0 0]) (by simp [results, Yba.results13, go_sem, r0, r1, r2]) rfl ⟨0, hn0, rfl, (hM.done _ _ _).1, (hM.done _ _ _).2⟩
end Go.Proofs.Ybulkmge
