import Derived.Test.YbulkmgeBuild4
namespace Go.Proofs.Ybulkmge
open Go.RowKit
set_option linter.unusedVariables false

set_option maxRecDepth 100000 in
set_option maxHeartbeats 1000000 in
theorem build_or (B bb : Nat) (a : Option Addr) (len cap kp nc depth d : Nat) (z val : Nat → Int) (bit : Int → Nat → Bool) (w : World) (hl : len ≤ 1024) (hnc : nc ≤ 1024) (hn0 : 0 < nc) (hd5 : depth + (d + 1) = 5) (hB : B ≤ bb) (h : Bld B bb a len cap z w kp) (hk3 : kp < len) (hv : z kp % 4 = 3)
    (ih : Hid (BuildC B bb a len cap nc z val bit d)) :
    Calls Yba.prog 13 #[.pointer (some ⟨bb, 0, none⟩), .int .i64 nc, .int .i64 depth] w fun e w' => ∃ (x : NF) (A : Attr) (kp' : Nat), e = .returned (.agg #[.int .i64 x.o, .int .i64 x.c, .slice x.p x.n x.cap]) ∧
      OrigF val bit nc (d + 1) (rng w.heap.size w'.heap.size) w' x A ∧ Bld B bb a len cap z w' kp' ∧ Frame w.heap.size (fun j => j = bb) w w' := by
  have hd1 : decide ((len : Int) ≤ (kp : Int)) = false := by simp; omega
  have hd2 : (kp : Int) < (len : Int) := by omega
  have hd3 : (depth : Int) < 5 := by omega
  have hd6 : decide (len ≤ kp) = false := by simp; omega
  have hd7 : decide ((5 : Int) ≤ (depth : Int)) = false := by simp; omega
  have hd4 : depth + 1 + d = 5 := by omega
  have HD : Hid (depth + 1 + d = 5) := hd4
  clear hd5 hd4
  obtain ⟨b, o, ea, hbB, hz, hz0, hz1⟩ := h.ops kp hk3
  subst ea
  have hbl : b < w.heap.size := by have := (Array.getElem?_eq_some_iff.1 h.blk).1; omega
  go_enter Yba.func13, Yba.ntmps13
  go_upto_region 1 with fail
  refine wp_gen (fun W => Mid B bb (some ⟨b, o, none⟩) len cap z w W kp ∧ W.cell? ⟨b, o + kp, none⟩ = some (.int .u8 (z kp))) ⟨Mid.start h hB, by rw [World.cell?_alloc_past _ _ _ hbl]; exact hz⟩ ?_
  rintro W ⟨hM, hzW⟩
  have c0 : W.cell? ⟨bb, 0, none⟩ = some (.slice (some ⟨b, o, none⟩) len cap) := cell_blk hM.bld.blk 0
  have c1 : W.cell? ⟨bb, 1, none⟩ = some (.int .i64 kp) := cell_blk hM.bld.blk 1
  have c2 := free_blk hM.bld.blk 1
  clear hz h
  go_quiet (fail)
  go_wp2_with fail
  go_quiet (fail)
  go_upto_region 9 with fail
  refine wp_gen (fun W' => Mid B bb (some ⟨b, o, none⟩) len cap z w W' (kp + 1)) (by exact (hM.drewN _).next hk3) ?_
  clear c0 c1 c2 hM hzW
  intro W' hM
  have hmk := make35
  obtain ⟨i0, hi, hi0, hi1, hi2⟩ := info_parts info37
  obtain ⟨r, hr, hr1⟩ : ∃ r : Nat, z kp / 4 % 2 = (r : Int) ∧ r ≤ 1 := ⟨(z kp / 4 % 2).toNat, by omega, by omega⟩
  have hst := NRow.start (val := val) (bit := bit) (nc := nc) (d := d) hM
  clear hM
  go_wp2_with fail
  clear hv hr
  go_loopw [11, 12] (fun v i wr => ∃ (j : Nat) (ns : List NF) (As : List Attr) (kq : Nat), j ≤ 2 + r ∧ v = .slice (some ⟨W'.heap.size, 0, none⟩) j 3 ∧ i = .int .i64 j ∧ NRow B bb (some ⟨b, o, none⟩) len cap z val bit nc d w W'.heap.size wr kq j ns As) (fun _ i _ => (2 + r) - (intOf i).toNat)
  case atStart => exact ⟨0, [], [], kp + 1, Nat.zero_le _, rfl, rfl, hst⟩
  case round =>
    clear hst hmk
    obtain ⟨j, ns, As, kq, hj, rfl, rfl, hN⟩ := hrel
    generalize W'.heap.size = R at *
    by_cases hlt : j < 2 + r
    · have hlt' : (j : Int) < 2 + (r : Int) := by omega
      go_wp2_with fail
      rw [show ((depth : Int) + 1) = ((depth + 1 : Nat) : Int) from by omega]
      refine (ih.out (depth + 1) wr kq HD.out hB hN.mid.bld).mono ?_
      rintro e W1 ⟨x, A, kp', rfl, hO, hb1, hf1⟩
      have hR : R < wr.heap.size := (own_rowed hN.own).lt
      have hN1 := hN.call hb1 hf1
      have hownA := hN1.own.alloc (.cells #[.int .i64 x.o, .int .i64 x.c, .slice x.p x.n x.cap] 37)
      have hnews := news3 W1 x
      have hone := one3 x
      have HSTEP : Hid (∀ W2, W2.ownsRow R 37 3 (.slice (some ⟨R, 0, none⟩) (j + 1) 3) (j + 1) (flat ns ++ x.cells) → (W1.alloc (.cells #[.int .i64 x.o, .int .i64 x.c, .slice x.p x.n x.cap] 37)).grownBy W2 (some R) → NRow B bb (some ⟨b, o, none⟩) len cap z val bit nc d w R W2 kp' (j + 1) (ns ++ [x]) (As ++ [A])) := fun W2 q1 q2 => hN1.step hO hR q1 q2
      clear hN hb1 hf1 hO hN1
      go_wp2_with (at_builtin; refine wpList_append_fits _ rfl _ _ 35 rfl R 37 i0 3 Yba.underlying35 hi hi1 R j 3 (flat ns) rfl hownA ⟨W1.heap.size, 0, none⟩ 1 1 x.cells rfl rfl hnews hone (by omega) ?_; intro W2 hown2 hgrow2)
      have hN2 := HSTEP.out W2 hown2 hgrow2
      go_roundw
      case rel => first | exact ⟨j + 1, ns ++ [x], As ++ [A], kp', by omega, rfl, by go_num, hN2⟩ | ((repeat apply Exists.intro); exact ⟨⟨j + 1, ns ++ [x], As ++ [A], kp', by omega, rfl, by go_num, hN2⟩, rfl⟩)
      case measure => simp [intOf]; omega
    · have hjr : j = 2 + r := by omega
      have hge : 2 ≤ j := by omega
      have hle : j ≤ 3 := by omega
      have HJ : Hid (j = 2 + r) := hjr
      clear hjr
      obtain ⟨rx, ry, ru, hr⟩ := hN.mid.res
      have r0 : wr.cell? ⟨w.heap.size, 0, none⟩ = some rx := cell_blk hr 0
      have r1 : wr.cell? ⟨w.heap.size, 1, none⟩ = some ry := cell_blk hr 1
      have r2 : wr.cell? ⟨w.heap.size, 2, none⟩ = some ru := cell_blk hr 2
      have rf : ∀ i, wr.frozen? ⟨w.heap.size, i, none⟩ = false := fun i => free_blk hr i
      go_wp2_with fail
      exact bodyPost_ret (v := .agg #[.int .i64 3, .int .i64 0, .slice (some ⟨R, 0, none⟩) j 3]) (by simp [results, Yba.results13, go_sem, r0, r1, r2]) rfl ⟨⟨3, 0, some ⟨R, 0, none⟩, j, 3⟩, _, kq, rfl, nary_fin hN hge hle 3 (by omega) _ _ _, (hN.mid.done _ _ _).1, (hN.mid.done _ _ _).2⟩


theorem orig_leaf {val : Nat → Int} {bit : Int → Nat → Bool} {nc : Nat} (d : Nat) (S : Nat → Prop) (w : World) (k : Nat) (hk : k < nc) (p : Option Addr) (n cap : Nat) : Orig val bit nc d S w 0 k p n cap (leafA val bit k) := by
  cases d with
  | zero => exact ⟨rfl, k, rfl, hk, rfl⟩
  | succ d => exact .inl ⟨rfl, k, rfl, hk, rfl⟩

theorem build_all (B bb : Nat) (a : Option Addr) (len cap nc : Nat) (z val : Nat → Int) (bit : Int → Nat → Bool) (hl : len ≤ 1024) (hnc : nc ≤ 1024) (hn0 : 0 < nc) : ∀ d, BuildC B bb a len cap nc z val bit d := by
  intro d
  induction d with
  | zero =>
    intro depth w kp hd hB h
    rcases Nat.lt_or_ge kp len with hk | hk
    · refine (build_deep B bb a len cap kp nc depth z w hl hnc hn0 (by omega) hB h hk).mono ?_
      rintro e w' ⟨k, hk2, rfl, hb, hf⟩
      exact ⟨⟨0, k, none, 0, 0⟩, _, _, rfl, orig_leaf 0 _ w' k hk2 _ _ _, hb, hf⟩
    · refine (build_end B bb a len cap kp nc depth z w hl hnc hn0 (by omega) hB h hk).mono ?_
      rintro e w' ⟨k, hk2, rfl, hb, hf⟩
      exact ⟨⟨0, k, none, 0, 0⟩, _, _, rfl, orig_leaf 0 _ w' k hk2 _ _ _, hb, hf⟩
  | succ d ih =>
    intro depth w kp hd hB h
    rcases Nat.lt_or_ge kp len with hk | hk
    · obtain ⟨_, _, _, _, _, hz0, hz1⟩ := h.ops kp hk
      rcases (show z kp % 4 = 0 ∨ z kp % 4 = 1 ∨ z kp % 4 = 2 ∨ z kp % 4 = 3 from by omega) with hv | hv | hv | hv
      · refine (build_cond B bb a len cap kp nc depth z w hl hnc hn0 (by omega) hB h hk hv).mono ?_
        rintro e w' ⟨k, hk2, rfl, hb, hf⟩
        exact ⟨⟨0, k, none, 0, 0⟩, _, _, rfl, orig_leaf (d + 1) _ w' k hk2 _ _ _, hb, hf⟩
      · exact build_not B bb a len cap kp nc depth d z val bit w hl hnc hn0 hd hB h hk hv ih
      · exact build_and B bb a len cap kp nc depth d z val bit w hl hnc hn0 hd hB h hk hv ih
      · exact build_or B bb a len cap kp nc depth d z val bit w hl hnc hn0 hd hB h hk hv ih
    · refine (build_end B bb a len cap kp nc depth z w hl hnc hn0 (by omega) hB h hk).mono ?_
      rintro e w' ⟨k, hk2, rfl, hb, hf⟩
      exact ⟨⟨0, k, none, 0, 0⟩, _, _, rfl, orig_leaf (d + 1) _ w' k hk2 _ _ _, hb, hf⟩
end Go.Proofs.Ybulkmge
