import Derived.Test.YbulkmgeBuild5
namespace Go.Proofs.Ybulkmge
open Go.RowKit
set_option linter.unusedVariables false

theorem info53 : (Yba.prog.info? 53).map (fun i => (i.zero.isSome, decide (i.bytes ≤ 100000))) = some (true, true) := by kernel_rfl
theorem make33 (n : Nat) (hn : n ≤ 1024) : ∃ C : Array Value, ∀ w : World, (Instr.makeSlice 33 (.int .i64 n) (.int .i64 n)).run Yba.prog w = .ok (.slice (some ⟨w.heap.size, 0, none⟩) n n) (w.alloc (.cells C 53)) := by
  have h := info53
  cases hi : Yba.prog.info? 53 with
  | none => rw [hi] at h; simp at h
  | some i =>
    rw [hi] at h
    simp at h
    obtain ⟨h1, h2⟩ := h
    obtain ⟨zv, hz⟩ := Option.isSome_iff_exists.1 h1
    have hb : i.bytes * n ≤ 100000 * 1024 := Nat.mul_le_mul h2 hn
    have hb' : (i.bytes : Int) * (n : Int) ≤ 281474976710656 := by
      have : ((i.bytes * n : Nat) : Int) ≤ ((100000 * 1024 : Nat) : Int) := by exact_mod_cast hb
      rw [Int.natCast_mul] at this
      omega
    refine ⟨madeCells zv.cells (n * i.size), fun w => ?_⟩
    have := run_make (P := Yba.prog) w 33 53 i zv Yba.underlying33 hi hz .i64 .i64 n n (by omega) (by omega) hb' (by omega)
    rw [this]
    simp

/-- the expression as zzs0641amake hands it over: eb its block, cb its conditions' -/
structure Made (B : Nat) (w W : World) (eb cb nc : Nat) (val : Nat → Int) (bit : Int → Nat → Bool) (x : NF) (A : Attr) : Prop where
  bel : Below B w W
  blk : W.heap[eb]? = some (.cells #[.slice (some ⟨cb, 0, none⟩) nc nc, .int .i64 x.o, .int .i64 x.c, .slice x.p x.n x.cap] 39 (0, 0))
  orig : OrigF val bit nc 5 (rng B eb) W x A
  lo : B ≤ eb

theorem made_fin {w W1 : World} {o0 o1 : Obj} {C : Array Value} {nc : Nat} {val : Nat → Int} {bit : Int → Nat → Bool} {x : NF} {A : Attr} (hO : OrigF val bit nc 5 (rng (w.alloc o0).heap.size W1.heap.size) W1 x A) (hf : Frame (w.alloc o0).heap.size (fun j => j = w.heap.size) (w.alloc o0) W1) :
    Made w.heap.size w ((((W1.alloc o1).alloc (.cells C 53)).alloc (.cells #[.slice (some ⟨W1.heap.size + 1, 0, none⟩) nc nc, .int .i64 x.o, .int .i64 x.c, .slice x.p x.n x.cap] 39)).drew) (W1.heap.size + 1 + 1) (W1.heap.size + 1) nc val bit x A := by
  have hs : w.heap.size + 1 ≤ W1.heap.size := by have := hf.size; simpa using this
  have b1 : Below w.heap.size w W1 := ((Below.refl _ _).alloc (Nat.le_refl _) o0).trans (hf.below (by simp) (fun k hk e => by omega))
  have hb : ((((W1.alloc o1).alloc (.cells C 53)).alloc (.cells #[.slice (some ⟨W1.heap.size + 1, 0, none⟩) nc nc, .int .i64 x.o, .int .i64 x.c, .slice x.p x.n x.cap] 39)).drew).heap[W1.heap.size + 1 + 1]? = some (.cells #[.slice (some ⟨W1.heap.size + 1, 0, none⟩) nc nc, .int .i64 x.o, .int .i64 x.c, .slice x.p x.n x.cap] 39 (0, 0)) := by
    show (((W1.alloc o1).alloc (.cells C 53)).alloc (.cells #[.slice (some ⟨W1.heap.size + 1, 0, none⟩) nc nc, .int .i64 x.o, .int .i64 x.c, .slice x.p x.n x.cap] 39)).heap[W1.heap.size + 1 + 1]? = _
    have := heap_alloc_new ((W1.alloc o1).alloc (.cells C 53)) (.cells #[.slice (some ⟨W1.heap.size + 1, 0, none⟩) nc nc, .int .i64 x.o, .int .i64 x.c, .slice x.p x.n x.cap] 39)
    rw [show ((W1.alloc o1).alloc (.cells C 53)).heap.size = W1.heap.size + 1 + 1 from by simp] at this
    exact this
  have hk : KeepS (rng (w.alloc o0).heap.size W1.heap.size) W1 ((((W1.alloc o1).alloc (.cells C 53)).alloc (.cells #[.slice (some ⟨W1.heap.size + 1, 0, none⟩) nc nc, .int .i64 x.o, .int .i64 x.c, .slice x.p x.n x.cap] 39)).drew) := fun k hk _ => by
    have := hk.2
    show (((W1.alloc o1).alloc (.cells C 53)).alloc (.cells #[.slice (some ⟨W1.heap.size + 1, 0, none⟩) nc nc, .int .i64 x.o, .int .i64 x.c, .slice x.p x.n x.cap] 39)).heap[k]? = _
    rw [Below.heap_alloc _ _ _ (by simp; omega), Below.heap_alloc _ _ _ (by simp; omega), Below.heap_alloc _ _ _ this]
  refine ⟨(((b1.alloc (by omega) _).alloc (by simp; omega) _).alloc (by simp; omega) _).drew, hb, orig_mono 5 (orig_keep 5 hO hk) (fun k hk => ?_), by omega⟩
  have h1 := hk.1
  have h2 := hk.2
  simp at h1
  exact ⟨by omega, by omega⟩

set_option maxRecDepth 100000 in
set_option maxHeartbeats 1000000 in
theorem make5 (a0 a1 : Option Addr) (len0 cap0 len1 cap1 nc : Nat) (z val : Nat → Int) (bit : Int → Nat → Bool) (w : World) (hl0 : len0 ≤ 1024) (hl1 : len1 ≤ 1024) (hnc : nc = if len1 = 0 then 1 else len1) (hv : Vals w.heap.size w a0 len0 z) :
    Calls Yba.prog 5 #[.slice a0 len0 cap0, .slice a1 len1 cap1] w fun e w' => ∃ (eb cb : Nat) (x : NF) (A : Attr), e = .returned (.tuple #[.pointer (some ⟨eb, 0, none⟩), .int .i64 nc]) ∧ Made w.heap.size w w' eb cb nc val bit x A := by
  have hnc1 : nc ≤ 1024 := by split at hnc <;> omega
  have hnc0 : 0 < nc := by split at hnc <;> omega
  have HB := build_all w.heap.size w.heap.size a0 len0 cap0 nc z val bit hl0 hnc1 hnc0 5
  have HBH : Hid (BuildC w.heap.size w.heap.size a0 len0 cap0 nc z val bit 5) := HB
  clear HB
  obtain ⟨C, hC⟩ := make33 nc hnc1
  have hbl : Bld w.heap.size w.heap.size a0 len0 cap0 z (w.alloc (.cells #[.slice a0 len0 cap0, .int .i64 0] 58)) 0 := ⟨heap_alloc_new w _, hv.below ((Below.refl _ _).alloc (Nat.le_refl _) _), Nat.zero_le _⟩
  by_cases h0 : len1 = 0
  · have e1 : nc = 1 := by rw [hnc]; simp [h0]
    subst e1
    have hC1 : ∀ w : World, (Instr.makeSlice 33 (.int .i64 1) (.int .i64 1)).run Yba.prog w = .ok (.slice (some ⟨w.heap.size, 0, none⟩) 1 1) (w.alloc (.cells C 53)) := hC
    clear hC
    have h0' : ((len1 : Int) == 0) = true := by simp [h0]
    clear h0 hnc
    go_enter Yba.func5, Yba.ntmps5
    go_wp2_with fail
    refine (HBH.out 0 _ 0 rfl (Nat.le_refl _) hbl).mono ?_
    rintro e W1 ⟨x, A, kp', rfl, hO, hb1, hf1⟩
    clear hbl HBH
    go_upto_region 6 with fail
    have hq0 : (W1.alloc (.cells #[.int .i64 x.o, .int .i64 x.c, .slice x.p x.n x.cap] 37)).cell? ⟨W1.heap.size, 0, none⟩ = some (.int .i64 x.o) := cell_blk (heap_alloc_new W1 _) 0
    have hq1 : (W1.alloc (.cells #[.int .i64 x.o, .int .i64 x.c, .slice x.p x.n x.cap] 37)).cell? ⟨W1.heap.size, 1, none⟩ = some (.int .i64 x.c) := cell_blk (heap_alloc_new W1 _) 1
    have hq2 : (W1.alloc (.cells #[.int .i64 x.o, .int .i64 x.c, .slice x.p x.n x.cap] 37)).cell? ⟨W1.heap.size, 2, none⟩ = some (.slice x.p x.n x.cap) := cell_blk (heap_alloc_new W1 _) 2
    go_region_held3 (fun w' => w'.cell? ⟨W1.heap.size, 0, none⟩ = some (.int .i64 x.o) ∧ w'.cell? ⟨W1.heap.size, 1, none⟩ = some (.int .i64 x.c) ∧ w'.cell? ⟨W1.heap.size, 2, none⟩ = some (.slice x.p x.n x.cap)) (go_keep) (fail)
    all_goals go_wp2_with fail
    go_ret2
    exact ⟨_, _, x, A, rfl, made_fin hO hf1⟩
  · have e1 : nc = len1 := by rw [hnc]; simp [h0]
    subst e1
    have h0' : ((nc : Int) == 0) = false := by simp; omega
    clear h0 hnc
    go_enter Yba.func5, Yba.ntmps5
    go_wp2_with fail
    refine (HBH.out 0 _ 0 rfl (Nat.le_refl _) hbl).mono ?_
    rintro e W1 ⟨x, A, kp', rfl, hO, hb1, hf1⟩
    clear hbl HBH
    go_upto_region 6 with fail
    have hq0 : (W1.alloc (.cells #[.int .i64 x.o, .int .i64 x.c, .slice x.p x.n x.cap] 37)).cell? ⟨W1.heap.size, 0, none⟩ = some (.int .i64 x.o) := cell_blk (heap_alloc_new W1 _) 0
    have hq1 : (W1.alloc (.cells #[.int .i64 x.o, .int .i64 x.c, .slice x.p x.n x.cap] 37)).cell? ⟨W1.heap.size, 1, none⟩ = some (.int .i64 x.c) := cell_blk (heap_alloc_new W1 _) 1
    have hq2 : (W1.alloc (.cells #[.int .i64 x.o, .int .i64 x.c, .slice x.p x.n x.cap] 37)).cell? ⟨W1.heap.size, 2, none⟩ = some (.slice x.p x.n x.cap) := cell_blk (heap_alloc_new W1 _) 2
    go_region_held3 (fun w' => w'.cell? ⟨W1.heap.size, 0, none⟩ = some (.int .i64 x.o) ∧ w'.cell? ⟨W1.heap.size, 1, none⟩ = some (.int .i64 x.c) ∧ w'.cell? ⟨W1.heap.size, 2, none⟩ = some (.slice x.p x.n x.cap)) (go_keep) (fail)
    all_goals go_wp2_with fail
    go_ret2
    exact ⟨_, _, x, A, rfl, made_fin hO hf1⟩
end Go.Proofs.Ybulkmge
