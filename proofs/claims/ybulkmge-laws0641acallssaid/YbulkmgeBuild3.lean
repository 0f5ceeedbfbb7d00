import Derived.Test.YbulkmgeRow
namespace Go.Proofs.Ybulkmge
open Go.RowKit
set_option linter.unusedVariables false

/-- what zzs0641abuild does, d levels above the bottom -/
def BuildC (B bb : Nat) (a : Option Addr) (len cap nc : Nat) (z : Nat → Int) (val : Nat → Int) (bit : Int → Nat → Bool) (d : Nat) : Prop :=
  ∀ (depth : Nat) (w : World) (kp : Nat), depth + d = 5 → B ≤ bb → Bld B bb a len cap z w kp →
    Calls Yba.prog 13 #[.pointer (some ⟨bb, 0, none⟩), .int .i64 nc, .int .i64 depth] w fun e w' => ∃ (x : NF) (A : Attr) (kp' : Nat), e = .returned (.agg #[.int .i64 x.o, .int .i64 x.c, .slice x.p x.n x.cap]) ∧
      OrigF val bit nc d (rng w.heap.size w'.heap.size) w' x A ∧ Bld B bb a len cap z w' kp' ∧ Frame w.heap.size (fun j => j = bb) w w'

/-- behind a call of build in the midst of a build -/
theorem Mid.call {B bb : Nat} {a : Option Addr} {len cap kp kp' : Nat} {z : Nat → Int} {w W W1 : World} (h : Mid B bb a len cap z w W kp) (hb : Bld B bb a len cap z W1 kp') (hf : Frame W.heap.size (fun j => j = bb) W W1) : Mid B bb a len cap z w W1 kp' := by
  obtain ⟨x, y, u, hr⟩ := h.res
  have hl : w.heap.size < W.heap.size := (Array.getElem?_eq_some_iff.1 hr).1
  exact ⟨hb, h.frame.trans (hf.mono (by omega) (fun _ _ e => e)), ⟨x, y, u, (hf.block _ hl (by have := h.lt; omega)).trans hr⟩, h.lt, h.hB⟩
theorem Mid.grown {B bb : Nat} {a : Option Addr} {len cap kp : Nat} {z : Nat → Int} {w W W1 : World} {row : Option Nat} (h : Mid B bb a len cap z w W kp) (hg : W.grownBy W1 row) (hr : ∀ k, row = some k → w.heap.size < k) : Mid B bb a len cap z w W1 kp := by
  obtain ⟨x, y, u, hres⟩ := h.res
  have hl : w.heap.size < W.heap.size := (Array.getElem?_eq_some_iff.1 hres).1
  have hlt := h.lt
  have hB := h.hB
  have f : Frame w.heap.size (fun j => j = bb) W W1 := (Frame.refl _ _ _).grown hg (by omega) (fun k hk => .inr (Nat.le_of_lt (hr k hk)))
  refine ⟨⟨(hg.block bb (by omega) (fun e => by have := hr bb e.symm; omega)).trans h.bld.blk, h.bld.ops.below (f.below (by omega) (fun k hk e => by omega)), h.bld.le⟩, h.frame.trans f, ⟨x, y, u, (hg.block _ hl (fun e => by have := hr _ e.symm; omega)).trans hres⟩, hlt, hB⟩
theorem Mid.alloc {B bb : Nat} {a : Option Addr} {len cap kp : Nat} {z : Nat → Int} {w W : World} (h : Mid B bb a len cap z w W kp) (o : Obj) : Mid B bb a len cap z w (W.alloc o) kp := h.grown (World.grownBy_alloc W o none) (fun k hk => by cases hk)

theorem set3_size (W : World) (b : Nat) (x y u : Value) : (set3 W b x y u).heap.size = W.heap.size := by simp [set3]
theorem not_fin {val : Nat → Int} {bit : Int → Nat → Bool} {nc d lo : Nat} {W' W1 : World} {x : NF} {A : Attr} (hO : OrigF val bit nc d (rng W'.heap.size W1.heap.size) W1 x A) (hlw : lo < W'.heap.size) (hs1 : W'.heap.size ≤ W1.heap.size) (u0 u1 u2 : Value) :
    OrigF val bit nc (d + 1) (rng lo (set3 (W1.alloc (.cells #[.int .i64 x.o, .int .i64 x.c, .slice x.p x.n x.cap] 37)) lo u0 u1 u2).heap.size) (set3 (W1.alloc (.cells #[.int .i64 x.o, .int .i64 x.c, .slice x.p x.n x.cap] 37)) lo u0 u1 u2) ⟨1, 0, some ⟨W1.heap.size, 0, none⟩, 1, 1⟩ (notA A) := by
  have hz : (set3 (W1.alloc (.cells #[.int .i64 x.o, .int .i64 x.c, .slice x.p x.n x.cap] 37)) lo u0 u1 u2).heap.size = W1.heap.size + 1 := by rw [set3_size]; simp
  have hb : (set3 (W1.alloc (.cells #[.int .i64 x.o, .int .i64 x.c, .slice x.p x.n x.cap] 37)) lo u0 u1 u2).heap[W1.heap.size]? = some (.cells #[.int .i64 x.o, .int .i64 x.c, .slice x.p x.n x.cap] 37 (0, 0)) := (set3_block _ _ _ _ _ _ (by omega)).trans (heap_alloc_new W1 _)
  have hk : KeepS (rng W'.heap.size W1.heap.size) W1 (set3 (W1.alloc (.cells #[.int .i64 x.o, .int .i64 x.c, .slice x.p x.n x.cap] 37)) lo u0 u1 u2) := fun k hk _ => (set3_block _ _ _ _ _ _ (by have := hk.1; omega)).trans (Below.heap_alloc _ _ _ hk.2)
  refine .inr (.inl ⟨rfl, W1.heap.size, x.o, x.c, x.p, x.n, x.cap, A, rfl, rfl, ⟨⟨by omega, by omega⟩, ⟨_, hb⟩, ⟨cell_blk hb 0, cell_blk hb 1, cell_blk hb 2⟩⟩, orig_mono d (orig_keep d hO hk) (fun k hk => ⟨⟨by have := hk.1; omega, by have := hk.2; omega⟩, by have := hk.2; omega⟩), rfl⟩)

set_option maxRecDepth 100000 in
set_option maxHeartbeats 1000000 in
theorem build_not (B bb : Nat) (a : Option Addr) (len cap kp nc depth d : Nat) (z val : Nat → Int) (bit : Int → Nat → Bool) (w : World) (hl : len ≤ 1024) (hnc : nc ≤ 1024) (hn0 : 0 < nc) (hd5 : depth + (d + 1) = 5) (hB : B ≤ bb) (h : Bld B bb a len cap z w kp) (hk3 : kp < len) (hv : z kp % 4 = 1)
    (ih : Hid (BuildC B bb a len cap nc z val bit d)) :
    Calls Yba.prog 13 #[.pointer (some ⟨bb, 0, none⟩), .int .i64 nc, .int .i64 depth] w fun e w' => ∃ (x : NF) (A : Attr) (kp' : Nat), e = .returned (.agg #[.int .i64 x.o, .int .i64 x.c, .slice x.p x.n x.cap]) ∧
      OrigF val bit nc (d + 1) (rng w.heap.size w'.heap.size) w' x A ∧ Bld B bb a len cap z w' kp' ∧ Frame w.heap.size (fun j => j = bb) w w' := by
  have hd1 : decide ((len : Int) ≤ (kp : Int)) = false := by simp; omega
  have hd2 : (kp : Int) < (len : Int) := by omega
  have hd3 : (depth : Int) < 5 := by omega
  have hd4 : depth + 1 + d = 5 := by omega
  have HD : Hid (depth + 1 + d = 5) := hd4
  clear hd5 hd4
  obtain ⟨b, o, ea, hbB, hz, hz0, hz1⟩ := h.ops kp hk3
  subst ea
  have hbl : b < w.heap.size := by have := (Array.getElem?_eq_some_iff.1 h.blk).1; omega
  go_enter Yba.func13, Yba.ntmps13
  go_upto_region 1 with fail
  refine wp_gen (fun W => Mid B bb (some ⟨b, o, none⟩) len cap z w W kp ∧ W.cell? ⟨b, o + kp, none⟩ = some (.int .u8 (z kp))) ⟨Mid.start h hB, by rw [World.cell?_alloc_past _ _ _ hbl]; exact hz⟩ ?_
  rintro W ⟨hM, hzW⟩
  have c0 : W.cell? ⟨bb, 0, none⟩ = some (.slice (some ⟨b, o, none⟩) len cap) := cell_blk hM.bld.blk 0
  have c1 : W.cell? ⟨bb, 1, none⟩ = some (.int .i64 kp) := cell_blk hM.bld.blk 1
  have c2 := free_blk hM.bld.blk 1
  clear hz h
  go_quiet (fail)
  go_wp2_with fail
  go_quiet (fail)
  go_upto_region 9 with fail
  refine wp_gen (fun W' => Mid B bb (some ⟨b, o, none⟩) len cap z w W' (kp + 1)) (by exact (hM.drewN _).next hk3) ?_
  clear c0 c1 c2 hM hzW
  intro W' hM
  go_wp2_with fail
  rw [show ((depth : Int) + 1) = ((depth + 1 : Nat) : Int) from by omega]
  refine (ih.out (depth + 1) W' (kp + 1) HD.out hB hM.bld).mono ?_
  rintro e W1 ⟨x, A, kp', rfl, hO, hb1, hf1⟩
  have hM1 := hM.call hb1 hf1
  have hs1 : W'.heap.size ≤ W1.heap.size := hf1.size
  have hlw : w.heap.size < W'.heap.size := by obtain ⟨x, y, u, hr⟩ := hM.res; exact (Array.getElem?_eq_some_iff.1 hr).1
  have hM2 := hM1.alloc (.cells #[.int .i64 x.o, .int .i64 x.c, .slice x.p x.n x.cap] 37)
  obtain ⟨rx, ry, ru, hr⟩ := hM2.res
  have r0 : (W1.alloc (.cells #[.int .i64 x.o, .int .i64 x.c, .slice x.p x.n x.cap] 37)).cell? ⟨w.heap.size, 0, none⟩ = some rx := cell_blk hr 0
  have r1 : (W1.alloc (.cells #[.int .i64 x.o, .int .i64 x.c, .slice x.p x.n x.cap] 37)).cell? ⟨w.heap.size, 1, none⟩ = some ry := cell_blk hr 1
  have r2 : (W1.alloc (.cells #[.int .i64 x.o, .int .i64 x.c, .slice x.p x.n x.cap] 37)).cell? ⟨w.heap.size, 2, none⟩ = some ru := cell_blk hr 2
  have rf : ∀ i, (W1.alloc (.cells #[.int .i64 x.o, .int .i64 x.c, .slice x.p x.n x.cap] 37)).frozen? ⟨w.heap.size, i, none⟩ = false := fun i => free_blk hr i
  clear hM hM1 hb1 hf1
  go_wp2_with fail
  exact bodyPost_ret (v := .agg #[.int .i64 1, .int .i64 0, .slice (some ⟨W1.heap.size, 0, none⟩) 1 1]) (by simp [results, Yba.results13, go_sem, r0, r1, r2]) rfl ⟨⟨1, 0, some ⟨W1.heap.size, 0, none⟩, 1, 1⟩, notA A, kp', rfl, not_fin hO hlw hs1 _ _ _, (hM2.done _ _ _).1, (hM2.done _ _ _).2⟩

end Go.Proofs.Ybulkmge
