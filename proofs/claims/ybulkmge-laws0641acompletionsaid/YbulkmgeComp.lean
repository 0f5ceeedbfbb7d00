import Derived.Test.YbulkmgeLaws
namespace Go.Proofs.Ybulkmge
open Go.RowKit
set_option linter.unusedVariables false

/-- the world behind Expr.Partial, some orders drawn since -/
structure Aft (B : Nat) (w w2 W : World) : Prop where
  heap : W.heap = w2.heap
  bel : Below B w W
theorem Aft.drewN {B : Nat} {w w2 W : World} (h : Aft B w w2 W) (q : Nat) : Aft B w w2 (W.drewN q) := ⟨h.heap, below_drewN h.bel q⟩
theorem Aft.cell {B : Nat} {w w2 W : World} (h : Aft B w w2 W) (p : Addr) : W.cell? p = w2.cell? p := by simp [World.cell?, h.heap]
theorem Aft.keep {B : Nat} {w w2 W : World} (h : Aft B w w2 W) (S : Nat → Prop) : KeepS S w2 W := fun k _ _ => by rw [h.heap]
theorem Aft.vals {B : Nat} {w w2 W : World} (h : Aft B w w2 W) {C : Nat} {a : Option Addr} {len : Nat} {z : Nat → Int} (hv : Vals C w2 a len z) : Vals C W a len z := fun k hk => by
  obtain ⟨b, o, e, h1, h2, h3⟩ := hv k hk
  exact ⟨b, o, e, h1, (h.cell _).trans h2, h3⟩
theorem Aft.node {B : Nat} {w w2 W : World} (h : Aft B w w2 W) {b off : Nat} {x : NF} (hn : NodeF w2 b off x) : NodeF W b off x := ⟨(h.cell _).trans hn.1, (h.cell _).trans hn.2, (h.cell _).trans hn.3⟩

set_option maxRecDepth 100000 in
set_option maxHeartbeats 1000000 in
theorem comp_walk (a0 a1 : Option Addr) (len0 cap0 len1 cap1 : Nat) (z0 z1 : Nat → Int) (f : Int) (w : World) (hl0 : len0 ≤ 1024) (hl1 : len1 ≤ 1024) (hf0 : 0 ≤ f) (hf1 : f ≤ 18446744073709551615) (hv0 : Vals w.heap.size w a0 len0 z0) (hv1 : Vals w.heap.size w a1 len1 z1) :
    Calls Yba.prog 4 #[.slice a0 len0 cap0, .slice a1 len1 cap1, .int .u64 f] w fun e w' => e = .returned (.bool true) ∧ Below w.heap.size w w' := by
  obtain ⟨nc, hnc⟩ : ∃ nc : Nat, nc = if len1 = 0 then 1 else len1 := ⟨_, rfl⟩
  have hnc1 : nc ≤ 1024 := by split at hnc <;> omega
  have hnc0 : 0 < nc := by split at hnc <;> omega
  have hb0 : Below w.heap.size w (w.alloc (.cells #[.slice a1 len1 cap1] 22)) := (Below.refl _ _).alloc (Nat.le_refl _) _
  have HM : Hid (Calls Yba.prog 5 #[.slice a0 len0 cap0, .slice a1 len1 cap1] (w.alloc (.cells #[.slice a1 len1 cap1] 22)) fun e w' => ∃ (eb cb : Nat) (x : NF) (A : Attr), e = .returned (.tuple #[.pointer (some ⟨eb, 0, none⟩), .int .i64 nc]) ∧ Made (w.alloc (.cells #[.slice a1 len1 cap1] 22)).heap.size (w.alloc (.cells #[.slice a1 len1 cap1] 22)) w' eb cb nc (valF len1 z1) bitF x A) :=
    make5 a0 a1 len0 cap0 len1 cap1 nc z0 (valF len1 z1) bitF _ hl0 hl1 hnc ((hv0.below hb0).mono (by simp))
  have HNC : Hid (nc = if len1 = 0 then 1 else len1) := hnc
  have HV1 : Hid (Vals w.heap.size w a1 len1 z1) := hv1
  clear hnc hv0 hv1
  have hg0 : ¬ (1024 : Int) < (len0 : Int) := by omega
  have hg1 : ¬ (1024 : Int) < (len1 : Int) := by omega
  have hg0' : decide ((1024 : Int) < (len0 : Int)) = false := decide_eq_false hg0
  have hg1' : decide ((1024 : Int) < (len1 : Int)) = false := decide_eq_false hg1
  go_enter Yba.func4, Yba.ntmps4
  go_wp2_with fail
  refine HM.out.mono ?_
  rintro e W1 ⟨eb, cb, x, A, rfl, hMd⟩
  clear HM
  have hsz := hMd.bel.size
  have hsz1 : w.heap.size + 1 ≤ W1.heap.size := by simpa using hsz
  have heb : eb < W1.heap.size := (Array.getElem?_eq_some_iff.1 hMd.blk).1
  have hbel1 : Below w.heap.size w W1 := hb0.trans (hMd.bel.mono (by simp))
  have hbox1 : W1.heap[w.heap.size]? = some (.cells #[.slice a1 len1 cap1] 22 (0, 0)) := (hMd.bel.block _ (by simp)).trans (heap_alloc_new w _)
  have hS := m_log hMd.orig
  have HX : Hid (Calls Yba.prog 8 #[.pointer (some ⟨eb, 0, none⟩), .func (.func 10) #[] #[.pointer (some ⟨w.heap.size, 0, none⟩)]] W1 fun e w' => ExprP (valF len1 z1) bitF nc cb A eb W1.heap.size (sup (rng (w.alloc (.cells #[.slice a1 len1 cap1] 22)).heap.size eb) W1.heap.size) e w' ∧ I10 w.heap.size W1.heap.size w.heap.size a1 len1 cap1 z1 w' ∧ Frame W1.heap.size (fun _ => False) W1 w' ∧ Keep37 W1 w') :=
    expr8 10 #[.pointer (some ⟨w.heap.size, 0, none⟩)] nc (valF len1 z1) bitF W1.heap.size (fun _ => False) (fun w' _ => I10 w.heap.size W1.heap.size w.heap.size a1 len1 cap1 z1 w') (grow10 (by omega) (by omega)) (part_all 10 _ nc (valF len1 z1) bitF (valF_bd len1 z1) W1.heap.size (fun _ => False) _ (clos10 hl1 hnc1) enter10 (grow10 (by omega) (by omega)) 5) eb cb x A (rng (w.alloc (.cells #[.slice a1 len1 cap1] 22)).heap.size eb) W1 [] (fun k hk => ⟨Nat.lt_trans hk.2 heb, id⟩) heb id (fun h => Nat.lt_irrefl _ h.2) (Nat.le_refl _) (by have := hS.len; simp; omega) hMd.blk hMd.orig ⟨hbox1, HV1.out.below hbel1, Nat.le_refl _⟩
  have HMD : Hid (Made (w.alloc (.cells #[.slice a1 len1 cap1] 22)).heap.size (w.alloc (.cells #[.slice a1 len1 cap1] 22)) W1 eb cb nc (valF len1 z1) bitF x A) := hMd
  clear hMd
  go_wp2_with fail
  refine HX.out.mono ?_
  rintro e w2 ⟨hP, hI, hF, hK⟩
  clear HX
  have hblk : w2.heap[eb]? = _ := (hF.block eb heb id).trans HMD.out.blk
  have hO2 := orig_keep 5 HMD.out.orig (hK.keepS _)
  have hbel2 : Below w.heap.size w w2 := hbel1.trans (hF.below (by omega) (fun _ _ => id))
  have HE : Hid (∀ W, Aft w.heap.size w w2 W → Calls Yba.prog 11 #[.pointer (some ⟨eb, 1, none⟩), .slice a1 len1 cap1, .int .u64 f] W fun e w' => e = .returned (.bool (A.f f)) ∧ w' = W) := fun W hW => by
    refine (eval11 w.heap.size a1 len1 cap1 nc z1 f hl1 hnc1 hf0 hf1 5 eb 1 x.n x.cap x.o x.c x.p A.f W (hW.vals hI.vals) (hW.node (x := x) ⟨cell_blk hblk 1, cell_blk hblk 2, cell_blk hblk 3⟩) (ev_of_orig 5 (orig_keep 5 hO2 (hW.keep _)))).mono ?_
    rintro e w' ⟨he, rfl⟩
    exact ⟨he, rfl⟩
  have hA2 : Aft w.heap.size w w2 w2 := ⟨rfl, hbel2⟩
  have cbox : w2.cell? ⟨w.heap.size, 0, none⟩ = some (.slice a1 len1 cap1) := cell_blk hI.box 0
  have ceb : w2.cell? ⟨eb, 0, none⟩ = some (.slice (some ⟨cb, 0, none⟩) nc nc) := cell_blk hblk 0
  rcases hP with ⟨hm, rfl⟩ | ⟨hm, rb, y, cs, rfl, hrb, crb, hny, hgd, _, _⟩
  · have hval := hS.val hm f
    go_wp2_with fail
    go_quiet ((go_at_call 11; exact Calls.quiet_of_same (HE.out _ (hA2.drewN _))))
    rw [hval]
    go_wp2_with fail
    go_ret
    exact ⟨ret_bool (by simp), (hA2.drewN _).bel⟩
  · go_wp2_with fail
    go_quiet ((go_at_call 11; exact Calls.quiet_of_same (HE.out _ (hA2.drewN _))))
    go_upto_region 7 with fail
    refine wp_gen (fun W' => Aft w.heap.size w w2 W') (by exact hA2.drewN _) ?_
    intro W3 hA3
    have c3 := (hA3.cell _).trans crb
    have c3e := (hA3.cell _).trans ceb
    have hcne := cne_same ⟨cb, 0, none⟩
    have hq0 : ((nc : Int) == (nc : Int)) = true := by simp
    have hq1 : (0 : Int) < (nc : Int) := by omega
    have HOK : Hid (∀ W, Aft w.heap.size w w2 W → Calls Yba.prog 12 #[.pointer (some ⟨rb, 1, none⟩), .slice a1 len1 cap1, .int .i64 nc] W fun e w' => e = .returned (.bool true) ∧ w' = W) := fun W hW => by
      refine (ok12 w.heap.size a1 len1 cap1 nc z1 hl1 hnc1 5 rb 1 y.n y.cap y.o y.c y.p A.f _ W (hW.vals hI.vals) (hW.node hny) (good_keep 5 hgd (hW.keep _))).mono ?_
      rintro e w' ⟨he, rfl⟩
      exact ⟨he, rfl⟩
    have HER : Hid (∀ W, Aft w.heap.size w w2 W → Calls Yba.prog 11 #[.pointer (some ⟨rb, 1, none⟩), .slice a1 len1 cap1, .int .u64 f] W fun e w' => e = .returned (.bool (A.f f)) ∧ w' = W) := fun W hW => by
      refine (eval11 w.heap.size a1 len1 cap1 nc z1 f hl1 hnc1 hf0 hf1 5 rb 1 y.n y.cap y.o y.c y.p A.f W (hW.vals hI.vals) (hW.node hny) (ev_of_good 5 (good_keep 5 hgd (hW.keep _)))).mono ?_
      rintro e w' ⟨he, rfl⟩
      exact ⟨he, rfl⟩
    clear hrb hny hgd
    go_wp2_with fail
    go_quiet (fail)
    go_upto_region 13 with fail
    refine wp_gen (fun W' => Aft w.heap.size w w2 W') (by exact hA3.drewN _) ?_
    clear c3 c3e hA3
    intro W4 hA4
    have c4 := (hA4.cell _).trans cbox
    go_quiet ((go_at_call 12; exact Calls.quiet_of_same (HOK.out _ (hA4.drewN _))))
    go_upto_region 15 with fail
    refine wp_gen (fun W' => Aft w.heap.size w w2 W') (by exact hA4.drewN _) ?_
    clear c4 hA4
    intro W5 hA5
    have c5 := (hA5.cell _).trans cbox
    go_quiet ((go_at_call 11; exact Calls.quiet_of_same (HER.out _ (hA5.drewN _))))
    go_wp2_with fail
    go_ret
    exact ⟨ret_bool (by simp), (hA5.drewN _).bel⟩
end Go.Proofs.Ybulkmge
