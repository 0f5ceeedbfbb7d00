import Derived.Test.YbulkmgeBuild
namespace Go.Proofs.Ybulkmge
open Go.RowKit
set_option linter.unusedVariables false

theorem rem_at (x : Int) (nc : Nat) (h0 : 0 ≤ x) (hn : 0 < nc) : ∃ m : Nat, m < nc ∧ x.tmod (nc : Int) = (m : Int) := by
  have h1 : 0 ≤ x % (nc : Int) := Int.emod_nonneg _ (by omega)
  have h2 : x % (nc : Int) < (nc : Int) := Int.emod_lt_of_pos _ (by omega)
  exact ⟨(x % (nc : Int)).toNat, by omega, by rw [Int.tmod_eq_emod_of_nonneg h0]; omega⟩

set_option maxRecDepth 100000 in
set_option maxHeartbeats 1000000 in
theorem build_deep (B bb : Nat) (a : Option Addr) (len cap kp nc depth : Nat) (z : Nat → Int) (w : World) (hl : len ≤ 1024) (hnc : nc ≤ 1024) (hn0 : 0 < nc) (hd5 : depth = 5) (hB : B ≤ bb) (h : Bld B bb a len cap z w kp) (hk3 : kp < len) :
    Calls Yba.prog 13 #[.pointer (some ⟨bb, 0, none⟩), .int .i64 nc, .int .i64 depth] w fun e w' => ∃ k : Nat, k < nc ∧ e = .returned (.agg #[.int .i64 0, .int .i64 k, .slice none 0 0]) ∧ Bld B bb a len cap z w' (kp + 1) ∧ Frame w.heap.size (fun j => j = bb) w w' := by
  subst hd5
  have hd1 : decide ((len : Int) ≤ (kp : Int)) = false := by simp; omega
  have hd2 : (kp : Int) < (len : Int) := by omega
  obtain ⟨b, o, rfl, hbB, hz, hz0, hz1⟩ := h.ops kp hk3
  obtain ⟨m, hm, hmod⟩ := rem_at (z kp) nc hz0 hn0
  have hbl : b < w.heap.size := by have := (Array.getElem?_eq_some_iff.1 h.blk).1; omega
  go_enter Yba.func13, Yba.ntmps13
  go_upto_region 1 with fail
  refine wp_gen (fun W => Mid B bb (some ⟨b, o, none⟩) len cap z w W kp ∧ W.cell? ⟨b, o + kp, none⟩ = some (.int .u8 (z kp))) ⟨Mid.start h hB, by rw [World.cell?_alloc_past _ _ _ hbl]; exact hz⟩ ?_
  rintro W ⟨hM, hzW⟩
  have c0 : W.cell? ⟨bb, 0, none⟩ = some (.slice (some ⟨b, o, none⟩) len cap) := cell_blk hM.bld.blk 0
  have c1 : W.cell? ⟨bb, 1, none⟩ = some (.int .i64 kp) := cell_blk hM.bld.blk 1
  have c2 := free_blk hM.bld.blk 1
  clear hz h
  go_quiet (fail)
  go_wp2_with fail
  go_quiet (fail)
  go_wp2_with fail
  go_quiet (fail)
  go_upto_region 6 with fail
  refine wp_gen (fun W' => Mid B bb (some ⟨b, o, none⟩) len cap z w W' (kp + 1)) (by exact (hM.drewN _).next hk3) ?_
  clear c0 c1 c2 hM hzW
  intro W' hM
  obtain ⟨x, y, u, hr⟩ := hM.res
  have r0 : W'.cell? ⟨w.heap.size, 0, none⟩ = some x := cell_blk hr 0
  have r1 : W'.cell? ⟨w.heap.size, 1, none⟩ = some y := cell_blk hr 1
  have r2 : W'.cell? ⟨w.heap.size, 2, none⟩ = some u := cell_blk hr 2
  have rf : ∀ i, W'.frozen? ⟨w.heap.size, i, none⟩ = false := fun i => free_blk hr i
  go_wp2_with fail
  exact bodyPost_ret (v := .agg #[.int .i64 0, .int .i64 m, .slice none 0 0]) (by simp [results, Yba.results13, go_sem, r0, r1, r2]) rfl ⟨m, hm, rfl, (hM.done _ _ _).1, (hM.done _ _ _).2⟩

set_option maxRecDepth 100000 in
set_option maxHeartbeats 1000000 in
theorem build_cond (B bb : Nat) (a : Option Addr) (len cap kp nc depth : Nat) (z : Nat → Int) (w : World) (hl : len ≤ 1024) (hnc : nc ≤ 1024) (hn0 : 0 < nc) (hd5 : depth < 5) (hB : B ≤ bb) (h : Bld B bb a len cap z w kp) (hk3 : kp < len) (hv : z kp % 4 = 0) :
    Calls Yba.prog 13 #[.pointer (some ⟨bb, 0, none⟩), .int .i64 nc, .int .i64 depth] w fun e w' => ∃ k : Nat, k < nc ∧ e = .returned (.agg #[.int .i64 0, .int .i64 k, .slice none 0 0]) ∧ Bld B bb a len cap z w' (kp + 1) ∧ Frame w.heap.size (fun j => j = bb) w w' := by
  have hd1 : decide ((len : Int) ≤ (kp : Int)) = false := by simp; omega
  have hd2 : (kp : Int) < (len : Int) := by omega
  have hd3 : (depth : Int) < 5 := by omega
  obtain ⟨b, o, rfl, hbB, hz, hz0, hz1⟩ := h.ops kp hk3
  obtain ⟨m, hm, hmod⟩ := rem_at (z kp / 4) nc (by omega) hn0
  have hbl : b < w.heap.size := by have := (Array.getElem?_eq_some_iff.1 h.blk).1; omega
  go_enter Yba.func13, Yba.ntmps13
  go_upto_region 1 with fail
  refine wp_gen (fun W => Mid B bb (some ⟨b, o, none⟩) len cap z w W kp ∧ W.cell? ⟨b, o + kp, none⟩ = some (.int .u8 (z kp))) ⟨Mid.start h hB, by rw [World.cell?_alloc_past _ _ _ hbl]; exact hz⟩ ?_
  rintro W ⟨hM, hzW⟩
  have c0 : W.cell? ⟨bb, 0, none⟩ = some (.slice (some ⟨b, o, none⟩) len cap) := cell_blk hM.bld.blk 0
  have c1 : W.cell? ⟨bb, 1, none⟩ = some (.int .i64 kp) := cell_blk hM.bld.blk 1
  have c2 := free_blk hM.bld.blk 1
  clear hz h
  go_quiet (fail)
  go_wp2_with fail
  go_quiet (fail)
  go_upto_region 9 with fail
  refine wp_gen (fun W' => Mid B bb (some ⟨b, o, none⟩) len cap z w W' (kp + 1)) (by exact (hM.drewN _).next hk3) ?_
  clear c0 c1 c2 hM hzW
  intro W' hM
  obtain ⟨x, y, u, hr⟩ := hM.res
  have r0 : W'.cell? ⟨w.heap.size, 0, none⟩ = some x := cell_blk hr 0
  have r1 : W'.cell? ⟨w.heap.size, 1, none⟩ = some y := cell_blk hr 1
  have r2 : W'.cell? ⟨w.heap.size, 2, none⟩ = some u := cell_blk hr 2
  have rf : ∀ i, W'.frozen? ⟨w.heap.size, i, none⟩ = false := fun i => free_blk hr i
  go_wp2_with fail
  exact bodyPost_ret (v := .agg #[.int .i64 0, .int .i64 m, .slice none 0 0]) (by simp [results, Yba.results13, go_sem, r0, r1, r2]) rfl ⟨m, hm, rfl, (hM.done _ _ _).1, (hM.done _ _ _).2⟩
end Go.Proofs.Ybulkmge
