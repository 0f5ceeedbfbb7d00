import Derived.Test.YbulkmgeBuild3
namespace Go.Proofs.Ybulkmge
open Go.RowKit
set_option linter.unusedVariables false

/-- the operands of an operator, j of them built: R the row's block -/
structure NRow (B bb : Nat) (a : Option Addr) (len cap : Nat) (z val : Nat → Int) (bit : Int → Nat → Bool) (nc d : Nat) (w : World) (R : Nat) (W : World) (kp j : Nat) (ns : List NF) (As : List Attr) : Prop where
  mid : Mid B bb a len cap z w W kp
  own : W.ownsRow R 37 3 (.slice (some ⟨R, 0, none⟩) j 3) j (flat ns)
  l1 : ns.length = j
  l2 : As.length = j
  orig : ∀ i (h1 : i < ns.length) (h2 : i < As.length), OrigF val bit nc d (fun k => R < k) W ns[i] As[i]
  lo : w.heap.size < R

theorem NRow.start {B bb : Nat} {a : Option Addr} {len cap : Nat} {z val : Nat → Int} {bit : Int → Nat → Bool} {nc d : Nat} {w W' : World} {kp : Nat} (h : Mid B bb a len cap z w W' kp) :
    NRow B bb a len cap z val bit nc d w W'.heap.size (W'.alloc (.cells #[.int .i64 0, .int .i64 0, .slice none 0 0, .int .i64 0, .int .i64 0, .slice none 0 0, .int .i64 0, .int .i64 0, .slice none 0 0] 37)) kp 0 [] [] := by
  have hlw : w.heap.size < W'.heap.size := by obtain ⟨x, y, u, hr⟩ := h.res; exact (Array.getElem?_eq_some_iff.1 hr).1
  exact ⟨h.alloc _, own_made W', rfl, rfl, fun i h1 => absurd h1 (Nat.not_lt_zero _), hlw⟩

theorem news3 (w : World) (x : NF) : ∀ j u, x.cells[j]? = some u → (w.alloc (.cells #[.int .i64 x.o, .int .i64 x.c, .slice x.p x.n x.cap] 37)).cell? ((⟨w.heap.size, 0, none⟩ : Addr).add j) = some u := by
  have hb : (w.alloc (.cells #[.int .i64 x.o, .int .i64 x.c, .slice x.p x.n x.cap] 37)).heap[w.heap.size]? = some (.cells #[.int .i64 x.o, .int .i64 x.c, .slice x.p x.n x.cap] 37 (0, 0)) := heap_alloc_new w _
  intro j u hj
  have e : (⟨w.heap.size, 0, none⟩ : Addr).add j = ⟨w.heap.size, j, none⟩ := by
    unfold Addr.add; split
    · rename_i h; subst h; rfl
    · simp
  rw [e, cell_blk hb, List.getElem?_toArray]
  exact hj
theorem one3 (x : NF) : ∀ u ∈ x.cells, u.oneCell' = true := by
  intro u hu
  simp [NF.cells] at hu
  rcases hu with rfl | rfl | rfl <;> rfl

theorem NRow.call {B bb : Nat} {a : Option Addr} {len cap : Nat} {z val : Nat → Int} {bit : Int → Nat → Bool} {nc d : Nat} {w W W1 : World} {R kp kp' j : Nat} {ns : List NF} {As : List Attr} (h : NRow B bb a len cap z val bit nc d w R W kp j ns As)
    (hb : Bld B bb a len cap z W1 kp') (hf : Frame W.heap.size (fun k => k = bb) W W1) : NRow B bb a len cap z val bit nc d w R W1 kp' j ns As := by
  have hR : R < W.heap.size := (own_rowed h.own).lt
  have hlt := h.mid.lt
  have hlo := h.lo
  refine ⟨h.mid.call hb hf, own_block h.own (hf.block R hR (by omega)), h.l1, h.l2, fun i h1 h2 => ?_, hlo⟩
  exact orig_keep d (h.orig i h1 h2) (fun k hk hr => hf.block k hr.lt (by have : R < k := hk; omega))

theorem NRow.step {B bb : Nat} {a : Option Addr} {len cap : Nat} {z val : Nat → Int} {bit : Int → Nat → Bool} {nc d : Nat} {w W W2 : World} {R E kp j : Nat} {ns : List NF} {As : List Attr} {x : NF} {A : Attr} (h : NRow B bb a len cap z val bit nc d w R W kp j ns As)
    (hO : OrigF val bit nc d (rng E W.heap.size) W x A) (hE : R < E) (hown : W2.ownsRow R 37 3 (.slice (some ⟨R, 0, none⟩) (j + 1) 3) (j + 1) (flat ns ++ x.cells)) (hg : (W.alloc (.cells #[.int .i64 x.o, .int .i64 x.c, .slice x.p x.n x.cap] 37)).grownBy W2 (some R)) :
    NRow B bb a len cap z val bit nc d w R W2 kp (j + 1) (ns ++ [x]) (As ++ [A]) := by
  have hlo := h.lo
  have hkeep : ∀ k, k < W.heap.size → k ≠ R → W2.heap[k]? = W.heap[k]? := fun k h1 h2 => (hg.block k (by simp; omega) (by simpa using h2)).trans (Below.heap_alloc _ _ _ h1)
  refine ⟨(h.mid.alloc _).grown hg (fun k hk => by cases hk; exact hlo), by rw [flat_snoc]; exact hown, by simp [h.l1], by simp [h.l2], fun i h1 h2 => ?_, hlo⟩
  have l1 := h.l1
  have l2 := h.l2
  by_cases hi : i < j
  · have e1 : (ns ++ [x])[i] = ns[i] := List.getElem_append_left (by omega)
    have e2 : (As ++ [A])[i] = As[i] := List.getElem_append_left (by omega)
    rw [e1, e2]
    exact orig_keep d (h.orig i (by omega) (by omega)) (fun k hk hr => hkeep k hr.lt (by have : R < k := hk; omega))
  · have hij : i = j := by simp at h1; omega
    subst hij
    have e1 : (ns ++ [x])[i] = x := by rw [List.getElem_append_right (by omega)]; simp [l1]
    have e2 : (As ++ [A])[i] = A := by rw [List.getElem_append_right (by omega)]; simp [l2]
    rw [e1, e2]
    exact orig_mono d (orig_keep d hO (fun k hk hr => hkeep k hr.lt (by have := hk.1; omega))) (fun k hk => by have := hk.1; show R < k; omega)

theorem nary_fin {B bb : Nat} {a : Option Addr} {len cap : Nat} {z val : Nat → Int} {bit : Int → Nat → Bool} {nc d : Nat} {w W : World} {R kp j : Nat} {ns : List NF} {As : List Attr} (h : NRow B bb a len cap z val bit nc d w R W kp j ns As) (h2 : 2 ≤ j) (h3 : j ≤ 3) (o : Int) (ho : o = 2 ∨ o = 3) (u0 u1 u2 : Value) :
    OrigF val bit nc (d + 1) (rng w.heap.size (set3 W w.heap.size u0 u1 u2).heap.size) (set3 W w.heap.size u0 u1 u2) ⟨o, 0, some ⟨R, 0, none⟩, j, 3⟩ (naryA (o == 3) As) := by
  have hlo := h.lo
  have l1 := h.l1
  have l2 := h.l2
  have hR : R < W.heap.size := (own_rowed h.own).lt
  have hz : (set3 W w.heap.size u0 u1 u2).heap.size = W.heap.size := set3_size _ _ _ _ _
  have hown := own_block h.own (set3_block W w.heap.size u0 u1 u2 R (by omega))
  refine .inr (.inr ⟨ho, R, As, rfl, l2.symm, by omega, ⟨by omega, by show As.length ≤ 3; omega⟩, fun i hi => ?_, rfl⟩)
  have hin : i < ns.length := by omega
  refine ⟨ns[i].o, ns[i].c, ns[i].p, ns[i].n, ns[i].cap, ⟨⟨by omega, by omega⟩, own_rowed hown, own_node hown l1 i hin⟩, ?_⟩
  have hk := orig_keep d (orig_in d (h.orig i hin hi)) (w' := set3 W w.heap.size u0 u1 u2) (fun k hk hr => set3_block _ _ _ _ _ _ (by have : R < k := hk.1; omega))
  exact orig_mono d hk (fun k hk => ⟨⟨by have : R < k := hk.1; omega, by have := hk.2; omega⟩, by have : R < k := hk.1; omega⟩)

set_option maxRecDepth 100000 in
set_option maxHeartbeats 1000000 in
theorem build_and (B bb : Nat) (a : Option Addr) (len cap kp nc depth d : Nat) (z val : Nat → Int) (bit : Int → Nat → Bool) (w : World) (hl : len ≤ 1024) (hnc : nc ≤ 1024) (hn0 : 0 < nc) (hd5 : depth + (d + 1) = 5) (hB : B ≤ bb) (h : Bld B bb a len cap z w kp) (hk3 : kp < len) (hv : z kp % 4 = 2)
    (ih : Hid (BuildC B bb a len cap nc z val bit d)) :
    Calls Yba.prog 13 #[.pointer (some ⟨bb, 0, none⟩), .int .i64 nc, .int .i64 depth] w fun e w' => ∃ (x : NF) (A : Attr) (kp' : Nat), e = .returned (.agg #[.int .i64 x.o, .int .i64 x.c, .slice x.p x.n x.cap]) ∧
      OrigF val bit nc (d + 1) (rng w.heap.size w'.heap.size) w' x A ∧ Bld B bb a len cap z w' kp' ∧ Frame w.heap.size (fun j => j = bb) w w' := by
  have hd1 : decide ((len : Int) ≤ (kp : Int)) = false := by simp; omega
  have hd2 : (kp : Int) < (len : Int) := by omega
  have hd3 : (depth : Int) < 5 := by omega
  have hd6 : decide (len ≤ kp) = false := by simp; omega
  have hd7 : decide ((5 : Int) ≤ (depth : Int)) = false := by simp; omega
  have hd4 : depth + 1 + d = 5 := by omega
  have HD : Hid (depth + 1 + d = 5) := hd4
  clear hd5 hd4
  obtain ⟨b, o, ea, hbB, hz, hz0, hz1⟩ := h.ops kp hk3
  subst ea
  have hbl : b < w.heap.size := by have := (Array.getElem?_eq_some_iff.1 h.blk).1; omega
  go_enter Yba.func13, Yba.ntmps13
  go_upto_region 1 with fail
  refine wp_gen (fun W => Mid B bb (some ⟨b, o, none⟩) len cap z w W kp ∧ W.cell? ⟨b, o + kp, none⟩ = some (.int .u8 (z kp))) ⟨Mid.start h hB, by rw [World.cell?_alloc_past _ _ _ hbl]; exact hz⟩ ?_
  rintro W ⟨hM, hzW⟩
  have c0 : W.cell? ⟨bb, 0, none⟩ = some (.slice (some ⟨b, o, none⟩) len cap) := cell_blk hM.bld.blk 0
  have c1 : W.cell? ⟨bb, 1, none⟩ = some (.int .i64 kp) := cell_blk hM.bld.blk 1
  have c2 := free_blk hM.bld.blk 1
  clear hz h
  go_quiet (fail)
  go_wp2_with fail
  go_quiet (fail)
  go_upto_region 9 with fail
  refine wp_gen (fun W' => Mid B bb (some ⟨b, o, none⟩) len cap z w W' (kp + 1)) (by exact (hM.drewN _).next hk3) ?_
  clear c0 c1 c2 hM hzW
  intro W' hM
  have hmk := make35
  obtain ⟨i0, hi, hi0, hi1, hi2⟩ := info_parts info37
  obtain ⟨r, hr, hr1⟩ : ∃ r : Nat, z kp / 4 % 2 = (r : Int) ∧ r ≤ 1 := ⟨(z kp / 4 % 2).toNat, by omega, by omega⟩
  have hst := NRow.start (val := val) (bit := bit) (nc := nc) (d := d) hM
  clear hM
  go_wp2_with fail
  clear hv hr
  go_loopw [11, 12] (fun v i wr => ∃ (j : Nat) (ns : List NF) (As : List Attr) (kq : Nat), j ≤ 2 + r ∧ v = .slice (some ⟨W'.heap.size, 0, none⟩) j 3 ∧ i = .int .i64 j ∧ NRow B bb (some ⟨b, o, none⟩) len cap z val bit nc d w W'.heap.size wr kq j ns As) (fun _ i _ => (2 + r) - (intOf i).toNat)
  case atStart => exact ⟨0, [], [], kp + 1, Nat.zero_le _, rfl, rfl, hst⟩
  case round =>
    clear hst hmk
    obtain ⟨j, ns, As, kq, hj, rfl, rfl, hN⟩ := hrel
    generalize W'.heap.size = R at *
    by_cases hlt : j < 2 + r
    · have hlt' : (j : Int) < 2 + (r : Int) := by omega
      go_wp2_with fail
      rw [show ((depth : Int) + 1) = ((depth + 1 : Nat) : Int) from by omega]
      refine (ih.out (depth + 1) wr kq HD.out hB hN.mid.bld).mono ?_
      rintro e W1 ⟨x, A, kp', rfl, hO, hb1, hf1⟩
      have hR : R < wr.heap.size := (own_rowed hN.own).lt
      have hN1 := hN.call hb1 hf1
      have hownA := hN1.own.alloc (.cells #[.int .i64 x.o, .int .i64 x.c, .slice x.p x.n x.cap] 37)
      have hnews := news3 W1 x
      have hone := one3 x
      have HSTEP : Hid (∀ W2, W2.ownsRow R 37 3 (.slice (some ⟨R, 0, none⟩) (j + 1) 3) (j + 1) (flat ns ++ x.cells) → (W1.alloc (.cells #[.int .i64 x.o, .int .i64 x.c, .slice x.p x.n x.cap] 37)).grownBy W2 (some R) → NRow B bb (some ⟨b, o, none⟩) len cap z val bit nc d w R W2 kp' (j + 1) (ns ++ [x]) (As ++ [A])) := fun W2 q1 q2 => hN1.step hO hR q1 q2
      clear hN hb1 hf1 hO hN1
      go_wp2_with (at_builtin; refine wpList_append_fits _ rfl _ _ 35 rfl R 37 i0 3 Yba.underlying35 hi hi1 R j 3 (flat ns) rfl hownA ⟨W1.heap.size, 0, none⟩ 1 1 x.cells rfl rfl hnews hone (by omega) ?_; intro W2 hown2 hgrow2)
      have hN2 := HSTEP.out W2 hown2 hgrow2
      go_roundw
      case rel => first | exact ⟨j + 1, ns ++ [x], As ++ [A], kp', by omega, rfl, by go_num, hN2⟩ | ((repeat apply Exists.intro); exact ⟨⟨j + 1, ns ++ [x], As ++ [A], kp', by omega, rfl, by go_num, hN2⟩, rfl⟩)
      case measure => simp [intOf]; omega
    · have hjr : j = 2 + r := by omega
      have hge : 2 ≤ j := by omega
      have hle : j ≤ 3 := by omega
      have HJ : Hid (j = 2 + r) := hjr
      clear hjr
      obtain ⟨rx, ry, ru, hr⟩ := hN.mid.res
      have r0 : wr.cell? ⟨w.heap.size, 0, none⟩ = some rx := cell_blk hr 0
      have r1 : wr.cell? ⟨w.heap.size, 1, none⟩ = some ry := cell_blk hr 1
      have r2 : wr.cell? ⟨w.heap.size, 2, none⟩ = some ru := cell_blk hr 2
      have rf : ∀ i, wr.frozen? ⟨w.heap.size, i, none⟩ = false := fun i => free_blk hr i
      go_wp2_with fail
      exact bodyPost_ret (v := .agg #[.int .i64 2, .int .i64 0, .slice (some ⟨R, 0, none⟩) j 3]) (by simp [results, Yba.results13, go_sem, r0, r1, r2]) rfl ⟨⟨2, 0, some ⟨R, 0, none⟩, j, 3⟩, _, kq, rfl, nary_fin hN hge hle 2 (by omega) _ _ _, (hN.mid.done _ _ _).1, (hN.mid.done _ _ _).2⟩

end Go.Proofs.Ybulkmge
