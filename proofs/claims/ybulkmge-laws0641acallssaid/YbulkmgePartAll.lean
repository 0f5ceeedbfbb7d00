import Derived.Test.YbulkmgeAnd14
import Derived.Test.YbulkmgeOr14
namespace Go.Proofs.Ybulkmge
open Go.RowKit
set_option linter.unusedVariables false

theorem part_all (F : Nat) (caps : Array Value) (nc : Nat) (val : Nat → Int) (bit : Int → Nat → Bool) (hv : ∀ c, 0 ≤ val c ∧ val c ≤ 2) (E : Nat) (X : Nat → Prop) (I : World → List Nat → Prop) (hC : ClosC F caps nc val E X I) (hF : ∀ args w, (callFunc F args).run Yba.prog w = .ok (.enter F args) w)
    (hIg : ∀ w w' row L, I w L → w.grownBy w' row → (∀ k, row = some k → Rowed w k ∧ E ≤ k) → I w' L) : ∀ d, PartC F caps val bit nc E X I d := by
  intro d
  induction d with
  | zero =>
    intro b off x A S w L hS hb hbX hSb hE hL h3 he hI
    obtain ⟨eo, k, ec, hk, rfl⟩ := he
    unfold NodeF at h3
    rw [eo, ec] at h3
    exact leaf14 F caps nc val bit hv E X I hC hF 0 b off k x.n x.cap x.p S w L hk (by omega) h3 hb hbX hI
  | succ d ih =>
    intro b off x A S w L hS hb hbX hSb hE hL h3 he hI
    unfold NodeF at h3
    rcases he with ⟨eo, k, ec, hk, rfl⟩ | ⟨eo, b', o', c', p', n', cap', A', ep, en, h4, h5, rfl⟩ | ⟨ho, b', l, ep, en, h2, ⟨h3l, hcap⟩, h5, rfl⟩
    · rw [eo, ec] at h3
      exact leaf14 F caps nc val bit hv E X I hC hF (d + 1) b off k x.n x.cap x.p S w L hk (by omega) h3 hb hbX hI
    · rw [eo, ep, en] at h3
      exact not14 F caps nc val bit hv E X I hIg d b off b' x.cap x.c ⟨o', c', p', n', cap'⟩ A' S w L hS hb hbX hSb hE hL h3 h4 h5 hI ih
    · rw [ep, en] at h3
      obtain ⟨ns, hns, hch⟩ := children h5
      rcases ho with eo | eo
      · rw [eo] at h3 hL ⊢
        exact and14 F caps nc val bit hv E X I hIg d b off b' x.cap x.c ns l S w L hS hb hbX hSb hE hL h3 h2 h3l hcap hns hch hI ih
      · rw [eo] at h3 hL ⊢
        exact or14 F caps nc val bit hv E X I hIg d b off b' x.cap x.c ns l S w L hS hb hbX hSb hE hL h3 h2 h3l hcap hns hch hI ih

/-- what Expr.Partial hands over: eb the expression's block -/
def ExprP (val : Nat → Int) (bit : Int → Nat → Bool) (nc cb : Nat) (A : Attr) (eb : Nat) (B : Nat) (S : Nat → Prop) (e : Ending) (w' : World) : Prop :=
  (A.m ≠ 0 ∧ e = .returned (.tuple #[.pointer none, .bool (A.m == 2)])) ∨
  (A.m = 0 ∧ ∃ (rb : Nat) (x : NF) (cs : Array Value), e = .returned (.tuple #[.pointer (some ⟨rb, 0, none⟩), .bool false]) ∧ w'.heap[rb]? = some (.cells cs 39 (0, 0)) ∧ w'.cell? ⟨rb, 0, none⟩ = some (.slice (some ⟨cb, 0, none⟩) nc nc) ∧ NodeF w' rb 1 x ∧ GoodF val bit nc 5 S w' x A.f ∧ (A.kn = false → rb = eb) ∧ (A.kn = true → B ≤ rb))

/-- the new expression's block is laid, and an order drawn -/
theorem expr_new {val : Nat → Int} {bit : Int → Nat → Bool} {nc cb eb B E : Nat} {A : Attr} {S X : Nat → Prop} {I : World → List Nat → Prop} {w w1 : World} {L : List Nat} {y : NF} (hIg : ∀ w w' row L, I w L → w.grownBy w' row → (∀ k, row = some k → Rowed w k ∧ E ≤ k) → I w' L) (hkn : A.kn = true) (hm : A.m = 0) (hB : B ≤ w1.heap.size) (hE1 : E ≤ w1.heap.size) (hI1 : I w1 L) (hF1 : Frame E X w w1) (hK1 : Keep37 w w1) (hg : GoodF val bit nc 5 S w1 y A.f) :
    ExprP val bit nc cb A eb B S (.returned (.tuple #[.pointer (some ⟨w1.heap.size, 0, none⟩), .bool false])) ((w1.alloc (.cells #[.slice (some ⟨cb, 0, none⟩) nc nc, .int .i64 y.o, .int .i64 y.c, .slice y.p y.n y.cap] 39)).drew) ∧
    I ((w1.alloc (.cells #[.slice (some ⟨cb, 0, none⟩) nc nc, .int .i64 y.o, .int .i64 y.c, .slice y.p y.n y.cap] 39)).drew) L ∧ Frame E X w ((w1.alloc (.cells #[.slice (some ⟨cb, 0, none⟩) nc nc, .int .i64 y.o, .int .i64 y.c, .slice y.p y.n y.cap] 39)).drew) ∧ Keep37 w ((w1.alloc (.cells #[.slice (some ⟨cb, 0, none⟩) nc nc, .int .i64 y.o, .int .i64 y.c, .slice y.p y.n y.cap] 39)).drew) := by
  have hb : ((w1.alloc (.cells #[.slice (some ⟨cb, 0, none⟩) nc nc, .int .i64 y.o, .int .i64 y.c, .slice y.p y.n y.cap] 39)).drew).heap[w1.heap.size]? = some (.cells #[.slice (some ⟨cb, 0, none⟩) nc nc, .int .i64 y.o, .int .i64 y.c, .slice y.p y.n y.cap] 39 (0, 0)) := by
    show (w1.heap.push _)[w1.heap.size]? = _
    simp
  have hk : Keep37 w1 ((w1.alloc (.cells #[.slice (some ⟨cb, 0, none⟩) nc nc, .int .i64 y.o, .int .i64 y.c, .slice y.p y.n y.cap] 39)).drew) := fun j hj => Below.heap_alloc w1 _ j hj.lt
  have hfr := hF1.alloc hE1 (.cells #[.slice (some ⟨cb, 0, none⟩) nc nc, .int .i64 y.o, .int .i64 y.c, .slice y.p y.n y.cap] 39)
  refine ⟨.inr ⟨hm, w1.heap.size, y, _, rfl, hb, cell_blk hb 0, ⟨cell_blk hb 1, cell_blk hb 2, cell_blk hb 3⟩, good_keep 5 hg (hk.keepS _), fun h => (by rw [hkn] at h; cases h), fun _ => hB⟩, hIg _ _ none _ hI1 ?_ (fun k hk => by cases hk), ⟨hfr.base.drew, hfr.block⟩, hK1.trans hk⟩
  have hgb := World.grownBy_alloc w1 (.cells #[.slice (some ⟨cb, 0, none⟩) nc nc, .int .i64 y.o, .int .i64 y.c, .slice y.p y.n y.cap] 39) none
  exact ⟨hgb.os, hgb.tape, hgb.output, hgb.size, hgb.block⟩

set_option maxRecDepth 100000 in
set_option maxHeartbeats 1000000 in
theorem expr8 (F : Nat) (caps : Array Value) (nc : Nat) (val : Nat → Int) (bit : Int → Nat → Bool) (E : Nat) (X : Nat → Prop) (I : World → List Nat → Prop) (hIg : Hid (∀ w w' row L, I w L → w.grownBy w' row → (∀ k, row = some k → Rowed w k ∧ E ≤ k) → I w' L)) (ih : Hid (PartC F caps val bit nc E X I 5)) (eb cb : Nat) (x : NF) (A : Attr) (S : Nat → Prop) (w : World) (L : List Nat)
    (hS : ∀ k, S k → k < E ∧ ¬ X k) (hb : eb < E) (hbX : ¬ X eb) (hSb : ¬ S eb) (hE : E ≤ w.heap.size) (hL : L.length + A.log.length ≤ 1000) (hblk : w.heap[eb]? = some (.cells #[.slice (some ⟨cb, 0, none⟩) nc nc, .int .i64 x.o, .int .i64 x.c, .slice x.p x.n x.cap] 39 (0, 0))) (hO : OrigF val bit nc 5 S w x A) (hI : I w L) :
    Calls Yba.prog 8 #[.pointer (some ⟨eb, 0, none⟩), .func (.func F) #[] caps] w fun e w' => ExprP val bit nc cb A eb w.heap.size (sup S w.heap.size) e w' ∧ I w' (L ++ A.log) ∧ Frame E X w w' ∧ Keep37 w w' := by
  have hnode : NodeF w eb 1 x := ⟨cell_blk hblk 1, cell_blk hblk 2, cell_blk hblk 3⟩
  have HC : Hid (Calls Yba.prog 14 #[.pointer (some ⟨eb, 1, none⟩), .func (.func F) #[] caps] w fun e w' => PartQ val bit nc E X I 5 A S w L eb 1 e w') := ih.out eb 1 x A S w L hS hb hbX hSb hE hL hnode hO hI
  go_enter Yba.func8, Yba.ntmps8
  go_wp2_with fail
  refine HC.out.mono ?_
  rintro e w1 ⟨hP, hI1, hF1, hK1⟩
  have hblk1 := (hF1.block eb hb hbX).trans hblk
  have hE1 : E ≤ w1.heap.size := Nat.le_trans hE hF1.size
  clear HC
  rcases hP with ⟨hm, rfl⟩ | ⟨hm, b2, off2, y, rfl, hy, hg, hk0, hk1⟩
  · go_wp2_with fail
    go_ret2
    exact ⟨.inl ⟨hm, rfl⟩, hI1, hF1, hK1⟩
  · by_cases hkn : A.kn = true
    · obtain ⟨hsup, hrow⟩ := hk1 hkn
      have hne : b2 ≠ eb := by
        rcases hsup with q | q
        · exact fun e => hSb (e ▸ q)
        · omega
      have hroww := hrow
      obtain ⟨ca, ha⟩ := hrow
      have hpe := peq_other (a := ⟨b2, off2, none⟩) (b := ⟨eb, 1, none⟩) (fun e => hne (congrArg Addr.block e)) ha hblk1
      have hy' := hy
      obtain ⟨y0, y1, y2⟩ := hy
      have q0 : w1.cell? ⟨eb, 0, none⟩ = some (.slice (some ⟨cb, 0, none⟩) nc nc) := cell_blk hblk1 0
      have HKN : Hid (A.kn = true) := hkn
      have HM : Hid (A.m = 0) := hm
      clear hkn hm hk0 hk1
      go_wp2_with fail
      go_region_held3 (fun w' => w'.cell? ⟨eb, 0, none⟩ = some (.slice (some ⟨cb, 0, none⟩) nc nc) ∧ w'.cell? ⟨b2, off2, none⟩ = some (.int .i64 y.o) ∧ w'.cell? ⟨b2, off2 + 1, none⟩ = some (.int .i64 y.c) ∧ w'.cell? ⟨b2, off2 + 2, none⟩ = some (.slice y.p y.n y.cap)) (go_keep) (fail)
      all_goals go_wp2_with fail
      go_ret2
      exact expr_new hIg.out HKN.out HM.out hF1.size hE1 hI1 hF1 hK1 hg
    · have hkf : A.kn = false := by simpa using hkn
      obtain ⟨rfl, rfl⟩ := hk0 hkf
      have hpe := peq_same ⟨b2, 1, none⟩ w1
      have HKF : Hid (A.kn = false) := hkf
      have HM : Hid (A.m = 0) := hm
      clear hkn hk0 hk1 hkf hm
      go_wp2_with fail
      go_ret2
      exact ⟨.inr ⟨HM.out, b2, y, _, rfl, hblk1, cell_blk hblk1 0, hy, hg, fun _ => rfl, fun h => by rw [HKF.out] at h; cases h⟩, hI1, hF1, hK1⟩
end Go.Proofs.Ybulkmge
