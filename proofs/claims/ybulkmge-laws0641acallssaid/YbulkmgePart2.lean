import Derived.Test.YbulkmgePart
namespace Go.Proofs.Ybulkmge
open Go.RowKit
set_option linter.unusedVariables false

theorem not_good {val : Nat → Int} {bit : Int → Nat → Bool} {nc d : Nat} {S : Nat → Prop} {ab B : Nat} {w1 : World} {x : NF} {F' : Int → Bool} (hg : GoodF val bit nc d (sup (minus S ab) B) w1 x F') (hB : B ≤ w1.heap.size) :
    GoodF val bit nc (d + 1) (sup S B) ((w1.alloc (.cells #[.int .i64 x.o, .int .i64 x.c, .slice x.p x.n x.cap] 37)).alloc (.cells #[.int .i64 1, .int .i64 0, .slice (some ⟨w1.heap.size, 0, none⟩) 1 1] 37)) ⟨1, 0, some ⟨w1.heap.size, 0, none⟩, 1, 1⟩ (fun y => !F' y) := by
  have hb : ((w1.alloc (.cells #[.int .i64 x.o, .int .i64 x.c, .slice x.p x.n x.cap] 37)).alloc (.cells #[.int .i64 1, .int .i64 0, .slice (some ⟨w1.heap.size, 0, none⟩) 1 1] 37)).heap[w1.heap.size]? = some (.cells #[.int .i64 x.o, .int .i64 x.c, .slice x.p x.n x.cap] 37 (0, 0)) := (Below.heap_alloc _ _ _ (by simp)).trans (heap_alloc_new w1 _)
  refine .inr (.inl ⟨rfl, w1.heap.size, x.o, x.c, x.p, x.n, x.cap, F', rfl, rfl, ⟨.inr hB, ⟨_, hb⟩, ⟨cell_blk hb 0, cell_blk hb 1, cell_blk hb 2⟩⟩, ?_, rfl⟩)
  exact good_mono d (good_keep d hg (((Keep37.refl w1).alloc _).alloc _ |>.keepS _)) (fun k hk => hk.elim (fun q => .inl q.1) .inr)

set_option maxRecDepth 100000 in
set_option maxHeartbeats 1000000 in
theorem not14 (F : Nat) (caps : Array Value) (nc : Nat) (val : Nat → Int) (bit : Int → Nat → Bool) (hv : ∀ c, 0 ≤ val c ∧ val c ≤ 2) (E : Nat) (X : Nat → Prop) (I : World → List Nat → Prop) (hIg : Hid (∀ w w' row L, I w L → w.grownBy w' row → (∀ k, row = some k → Rowed w k ∧ E ≤ k) → I w' L)) (d b off ab cp : Nat) (c : Int) (y : NF) (A' : Attr) (S : Nat → Prop) (w : World) (L : List Nat)
    (hS : ∀ k, S k → k < E ∧ ¬ X k) (hb : b < E) (hbX : ¬ X b) (hSb : ¬ S b) (hE : E ≤ w.heap.size) (hL : L.length + A'.log.length ≤ 1000) (h3 : Node3 w b off 1 c (some ⟨ab, 0, none⟩) 1 cp) (h4 : NodeIn S w ab 0 y.o y.c y.p y.n y.cap) (h5 : OrigF val bit nc d (minus S ab) w y A') (hI : I w L) (ih : Hid (PartC F caps val bit nc E X I d)) :
    Calls Yba.prog 14 #[.pointer (some ⟨b, off, none⟩), .func (.func F) #[] caps] w fun e w' => PartQ val bit nc E X I (d + 1) (notA A') S w L b off e w' := by
  have h3' := h3
  obtain ⟨c0, c1, c2⟩ := h3
  have hsd : Sound (3 ^ d) A' := orig_sound hv d h5
  go_enter Yba.func14, Yba.ntmps14
  go_wp2_with fail
  refine (ih.out ab 0 y A' (minus S ab) w L (fun k hk => hS k hk.1) (hS ab h4.s).1 (hS ab h4.s).2 (fun h => h.2 rfl) hE hL h4.at3 h5 hI).mono ?_
  rintro e w1 ⟨hP, hI1, hF1, hK1⟩
  have hn1 := h3'.of_block (hF1.block b hb hbX)
  have d2 := hn1.c2
  have hab1 : Rowed w1 ab := h4.row.keep hK1
  have hm1 := hsd.lo
  have hm2 := hsd.hi
  rcases hP with ⟨hm, rfl⟩ | ⟨hm, b2, off2, x, rfl, hx, hg, hk0, hk1⟩
  · have hme : (notA A').m = 3 - A'.m := by simp [notA, hm]
    have HME : Hid ((notA A').m = 3 - A'.m) := hme
    clear hme
    go_wp2_with fail
    go_ret2
    refine ⟨.inl ⟨by rw [HME.out]; omega, ret_pb ?_⟩, hI1, hF1, hK1⟩
    rw [HME.out]
    rcases (show A'.m = 1 ∨ A'.m = 2 from by omega) with e | e <;> simp [e]
  · have hme : (notA A').m = 0 := by simp [notA, hm]
    have HME : Hid ((notA A').m = 0) := hme
    have HM : Hid (A'.m = 0) := hm
    clear hme hm
    by_cases hkn : A'.kn = true
    · obtain ⟨hsup, hrow⟩ := hk1 hkn
      have hne : b2 ≠ ab := by
        rcases hsup with q | q
        · exact q.2
        · have := h4.row.lt; omega
      obtain ⟨ca, ha⟩ := hrow
      obtain ⟨cb, hb'⟩ := hab1
      have hpe := peq_other (a := ⟨b2, off2, none⟩) (b := ⟨ab, 0, none⟩) (fun e => hne (congrArg Addr.block e)) ha hb'
      obtain ⟨x0, x1, x2⟩ := hx
      have HK : Hid (A'.kn = true) := hkn
      clear hkn hk0 hk1
      have hfin := not_good (S := S) (ab := ab) (B := w.heap.size) hg hF1.size
      have HFIN : Hid (GoodF val bit nc (d + 1) (sup S w.heap.size) ((w1.alloc (.cells #[.int .i64 x.o, .int .i64 x.c, .slice x.p x.n x.cap] 37)).alloc (.cells #[.int .i64 1, .int .i64 0, .slice (some ⟨w1.heap.size, 0, none⟩) 1 1] 37)) ⟨1, 0, some ⟨w1.heap.size, 0, none⟩, 1, 1⟩ (fun y => !A'.f y)) := hfin
      clear hfin
      have hE1 : E ≤ w1.heap.size := Nat.le_trans hE hF1.size
      go_wp2_with fail
      go_ret2
      have hbl := heap_alloc_new (w1.alloc (.cells #[.int .i64 x.o, .int .i64 x.c, .slice x.p x.n x.cap] 37)) (.cells #[.int .i64 1, .int .i64 0, .slice (some ⟨w1.heap.size, 0, none⟩) 1 1] 37)
      rw [show (w1.alloc (.cells #[.int .i64 x.o, .int .i64 x.c, .slice x.p x.n x.cap] 37)).heap.size = w1.heap.size + 1 from by simp] at hbl
      refine ⟨.inr ⟨HME.out, w1.heap.size + 1, 0, ⟨1, 0, some ⟨w1.heap.size, 0, none⟩, 1, 1⟩, rfl, ⟨cell_blk hbl 0, cell_blk hbl 1, cell_blk hbl 2⟩, HFIN.out, fun h => ?_, fun _ => ⟨.inr (by have := hF1.size; omega), ⟨_, hbl⟩⟩⟩, ?_, (hF1.alloc hE1 _).alloc (by simp; omega) _, (hK1.alloc _).alloc _⟩
      · have : (notA A').kn = true := HK.out
        rw [this] at h; cases h
      · exact hIg.out _ _ none _ (hIg.out _ _ none _ hI1 (World.grownBy_alloc _ _ _) (fun k hk => by cases hk)) (World.grownBy_alloc _ _ _) (fun k hk => by cases hk)
    · have hkf : A'.kn = false := by simpa using hkn
      obtain ⟨rfl, rfl⟩ := hk0 hkf
      have hpe := peq_same ⟨b2, 0, none⟩ w1
      have HKF : Hid (A'.kn = false) := hkf
      have hO : Orig val bit nc (d + 1) S w 1 c (some ⟨b2, 0, none⟩) 1 cp (notA A') := .inr (.inl ⟨rfl, b2, y.o, y.c, y.p, y.n, y.cap, A', rfl, rfl, h4, h5, rfl⟩)
      have hG := good_of_orig hv (d + 1) (orig_keep (d + 1) hO (hK1.keepS S)) hkf
      have HG : Hid (Good val bit nc (d + 1) S w1 1 c (some ⟨b2, 0, none⟩) 1 cp (notA A').f) := hG
      clear hkn hk0 hk1 hkf hG hO
      go_wp2_with fail
      go_ret2
      refine ⟨.inr ⟨HME.out, b, off, ⟨1, c, some ⟨b2, 0, none⟩, 1, cp⟩, rfl, hn1, good_mono (d + 1) HG.out (fun k hk => .inl hk), fun _ => ⟨rfl, rfl⟩, fun h => ?_⟩, hI1, hF1, hK1⟩
      have : (notA A').kn = false := HKF.out
      rw [this] at h; cases h
end Go.Proofs.Ybulkmge
