import Derived.Test.YbulkmgeFrame
namespace Go.Proofs.Ybulkmge
open Go.RowKit
set_option linter.unusedVariables false

/-- the blocks of LawS0641ACalls: gb the variable got, vb the box of the values; the first B blocks came in -/
structure I6 (B E gb vb : Nat) (a : Option Addr) (len cap : Nat) (z : Nat → Int) (w : World) (L : List Nat) : Prop where
  log : Log E gb w L
  box : w.heap[vb]? = some (.cells #[.slice a len cap] 22 (0, 0))
  vals : Vals B w a len z
  hE : E ≤ w.heap.size

theorem ret2_bool {a b c d : Bool} (h : a = c) (k : b = d) : Ending.returned (.tuple #[.bool a, .bool b]) = .returned (.tuple #[.bool c, .bool d]) := by rw [h, k]
theorem far_block {E : Nat} {w w1 : World} {v : Value} {n : Nat} {xs : List Value} {o : Obj} (hown : w.ownsRow E 3 1 v n xs) (hg : (w.alloc o).grownBy w1 v.ownBlock) {k : Nat} {cs : Array Value} {t : TypeId} {fr : Nat × Nat} (h : w.heap[k]? = some (.cells cs t fr)) (ht : t ≠ 3) : w1.heap[k]? = some (.cells cs t fr) := by
  have hl : k < w.heap.size := (Array.getElem?_eq_some_iff.1 h).1
  refine (hg.block k (by simp; omega) (fun e => ?_)).trans ((Below.heap_alloc w o k hl).trans h)
  obtain ⟨cs', fr', e'⟩ := own_type hown e.symm
  rw [h] at e'
  simp at e'
  exact ht e'.2.1

/-- the log once more number c is behind it -/
theorem log_step {E gb : Nat} {w w1 : World} {L : List Nat} {v : Value} {g cap c : Nat} (h1 : w.heap[gb]? = some (.cells #[v] 26 (0, 0))) (h2 : w.ownsRow E 3 1 v L.length (L.map fun k : Nat => Value.int .i64 k))
    (hown : w1.ownsRow E 3 1 (.slice (some ⟨g, 0, none⟩) (L.length + 1) cap) (L.length + 1) ((L.map fun k : Nat => Value.int .i64 k) ++ [.int .i64 c])) (hg : (w.alloc (.cells #[.int .i64 c] 3)).grownBy w1 v.ownBlock) :
    Log E gb (w1.setCell ⟨gb, 0, none⟩ (.slice (some ⟨g, 0, none⟩) (L.length + 1) cap)) (L ++ [c]) := by
  have hb := far_block h2 hg h1 (by decide)
  refine ⟨_, by rw [Go.Joins.block_setCell hb]; rfl, ?_⟩
  have e1 : (L ++ [c]).length = L.length + 1 := by simp
  have e2 : ((L ++ [c]).map fun k : Nat => Value.int .i64 k) = (L.map fun k : Nat => Value.int .i64 k) ++ [.int .i64 c] := by simp
  rw [e1, e2]
  rcases hown.2 with ⟨e, _⟩ | ⟨g', cap', cur, e, hge, hh, r1, r2, r3, r4⟩
  · cases e
  · simp at e
    obtain ⟨e3, e4⟩ := e
    subst e3 e4
    have hne : g ≠ gb := by
      intro e; subst e; rw [hb] at hh; simp at hh
    exact ⟨hown.1, .inr ⟨g, cap, cur, rfl, hge, (Below.heap_setCell w1 ⟨gb, 0, none⟩ _ g hne).trans hh, r1, r2, r3, r4⟩⟩

set_option maxRecDepth 100000 in
set_option maxHeartbeats 400000 in
theorem call6 (B E gb vb : Nat) (a : Option Addr) (len cap c : Nat) (z : Nat → Int) (w : World) (L : List Nat) (hl : len ≤ 1024) (hc : c ≤ 1024) (hL : L.length ≤ 1000) (hB : B ≤ gb) (hgE : gb < E)
    (h : I6 B E gb vb a len cap z w L) :
    Calls Yba.prog 6 #[.int .i64 c, .pointer (some ⟨gb, 0, none⟩), .pointer (some ⟨vb, 0, none⟩)] w fun e w' => e = .returned (.tuple #[.bool (valF len z c == 2), .bool (!(valF len z c == 0))]) ∧ I6 B E gb vb a len cap z w' (L ++ [c]) ∧ Frame E (fun k => k = gb) w w' ∧ Keep37 w w' := by
  obtain ⟨⟨v, h1, h2⟩, hbox, hv, hE⟩ := h
  obtain ⟨i0, hi, hz0, hz1, hz2⟩ := info_parts info3
  have c1 : w.cell? ⟨gb, 0, none⟩ = some v := cell_blk h1 0
  have c2 : w.cell? ⟨vb, 0, none⟩ = some (.slice a len cap) := cell_blk hbox 0
  have hfin : ∀ g cp w1, w1.ownsRow E 3 1 (.slice (some ⟨g, 0, none⟩) (L.length + 1) cp) (L.length + 1) ((L.map fun k : Nat => Value.int .i64 k) ++ [.int .i64 c]) → (w.alloc (.cells #[.int .i64 c] 3)).grownBy w1 v.ownBlock →
      I6 B E gb vb a len cap z (w1.setCell ⟨gb, 0, none⟩ (.slice (some ⟨g, 0, none⟩) (L.length + 1) cp)) (L ++ [c]) ∧ Frame E (fun k => k = gb) w (w1.setCell ⟨gb, 0, none⟩ (.slice (some ⟨g, 0, none⟩) (L.length + 1) cp)) ∧ Keep37 w (w1.setCell ⟨gb, 0, none⟩ (.slice (some ⟨g, 0, none⟩) (L.length + 1) cp)) := by
    intro g cp w1 hown hg
    have hb := far_block h2 hg h1 (by decide)
    have hbx := far_block h2 hg hbox (by decide)
    have hf : Frame E (fun k => k = gb) w w1 := ((Frame.refl E _ w).alloc hE _).grown hg (by simp; omega) (fun k hk => .inr (h2.lt k hk).1)
    have hk : Keep37 w w1 := ((Keep37.refl w).alloc _).grown hg (fun k hk => by
      obtain ⟨cs, fr, e⟩ := own_type h2 hk
      have := (h2.lt k hk).2
      exact not_rowed ((Below.heap_alloc w _ k this).trans e) (by decide))
    have hf2 : Frame E (fun k => k = gb) w (w1.setCell ⟨gb, 0, none⟩ (.slice (some ⟨g, 0, none⟩) (L.length + 1) cp)) := hf.setCell (.inl rfl) _
    refine ⟨⟨log_step h1 h2 hown hg, ?_, ?_, ?_⟩, hf2, hk.setCell (not_rowed hb (by decide)) _⟩
    · refine (Below.heap_setCell w1 ⟨gb, 0, none⟩ _ vb ?_).trans hbx
      intro e; simp at e; subst e; rw [h1] at hbox; simp at hbox
    · exact hv.below (hf2.below (by omega) (fun k hk e => by omega))
    · simp; have := hf.size; omega
  have H : Hid (∀ g cp w1, w1.ownsRow E 3 1 (.slice (some ⟨g, 0, none⟩) (L.length + 1) cp) (L.length + 1) ((L.map fun k : Nat => Value.int .i64 k) ++ [.int .i64 c]) → (w.alloc (.cells #[.int .i64 c] 3)).grownBy w1 v.ownBlock →
      I6 B E gb vb a len cap z (w1.setCell ⟨gb, 0, none⟩ (.slice (some ⟨g, 0, none⟩) (L.length + 1) cp)) (L ++ [c]) ∧ Frame E (fun k => k = gb) w (w1.setCell ⟨gb, 0, none⟩ (.slice (some ⟨g, 0, none⟩) (L.length + 1) cp)) ∧ Keep37 w (w1.setCell ⟨gb, 0, none⟩ (.slice (some ⟨g, 0, none⟩) (L.length + 1) cp))) := hfin
  clear hfin
  have hfar : ∀ w1, (w.alloc (.cells #[.int .i64 c] 3)).grownBy w1 v.ownBlock → w1.cell? ⟨gb, 0, none⟩ = some v ∧ w1.frozen? ⟨gb, 0, none⟩ = false ∧ (∀ u, (w1.setCell ⟨gb, 0, none⟩ u).cell? ⟨vb, 0, none⟩ = some (.slice a len cap)) ∧ (∀ u, Vals B (w1.setCell ⟨gb, 0, none⟩ u) a len z) := by
    intro w1 hg
    have hb := far_block h2 hg h1 (by decide)
    have hbx := far_block h2 hg hbox (by decide)
    have hne : vb ≠ gb := by intro e; subst e; rw [h1] at hbox; simp at hbox
    have hf : Frame E (fun k => k = gb) w w1 := ((Frame.refl E _ w).alloc hE _).grown hg (by simp; omega) (fun k hk => .inr (h2.lt k hk).1)
    refine ⟨cell_blk hb 0, free_blk hb 0, fun u => ?_, fun u => hv.below ((hf.setCell (.inl rfl) u).below (by omega) (fun k hk e => by omega))⟩
    rw [World.cell?_setCell_other _ _ _ _ (fun e => hne (congrArg Addr.block e).symm)]
    exact cell_blk hbx 0
  have HF : Hid (∀ w1, (w.alloc (.cells #[.int .i64 c] 3)).grownBy w1 v.ownBlock → w1.cell? ⟨gb, 0, none⟩ = some v ∧ w1.frozen? ⟨gb, 0, none⟩ = false ∧ (∀ u, (w1.setCell ⟨gb, 0, none⟩ u).cell? ⟨vb, 0, none⟩ = some (.slice a len cap)) ∧ (∀ u, Vals B (w1.setCell ⟨gb, 0, none⟩ u) a len z)) := hfar
  clear hfar
  go_enter Yba.func6, Yba.ntmps6
  go_upto_region 2 with (at_builtin; refine wpList_append_lies _ rfl _ _ 26 rfl E 3 i0 (.int .i64 0) 1 8 Yba.underlying26 hi hz0 hz1 hz2 rfl (by omega) v L.length _ rfl (h2.alloc _) ⟨w.heap.size, 0, none⟩ 1 1 [.int .i64 c] rfl rfl (cell_one_new _ _ _) (ints_oneCell .i64 [(c : Int)]) (by omega) (by unfold maxLen; omega) (by omega) (by simp; omega) (w.heap.size + 1) (by simp) ?_; intro g cp w1 hown1 hgrow hat hlt; obtain ⟨q1, q2, q3, q4⟩ := HF.out w1 hgrow)
  obtain ⟨r1, r2, r3⟩ := H.out g cp w1 hown1 hgrow
  have hv2 := q4 (.slice (some ⟨g, 0, none⟩) (L.length + 1) cp)
  have hc3 := q3 (.slice (some ⟨g, 0, none⟩) (L.length + 1) cp)
  refine wp_gen (fun W => I6 B E gb vb a len cap z W (L ++ [c]) ∧ Frame E (fun k => k = gb) w W ∧ Keep37 w W ∧ W.cell? ⟨vb, 0, none⟩ = some (.slice a len cap) ∧ Vals B W a len z) ⟨r1, r2, r3, hc3, hv2⟩ ?_
  rintro W ⟨s1, s2, s3, s4, s5⟩
  clear r1 r2 r3 hv2 hc3 q1 q2 q3 q4 hown1 hgrow hat hlt H HF h1 h2 c1 c2 hbox hv
  go_wp2_with (go_at_call 7; refine (aval7 B a len cap c z _ hl (by omega) s5).mono ?_; rintro e w1 ⟨rfl, rfl⟩)
  go_ret2
  exact ⟨ret2_bool rfl rfl, s1, s2, s3⟩

/-- the state of LawS0641ACompletion's closure: nothing is logged -/
structure I10 (B E vb : Nat) (a : Option Addr) (len cap : Nat) (z : Nat → Int) (w : World) : Prop where
  box : w.heap[vb]? = some (.cells #[.slice a len cap] 22 (0, 0))
  vals : Vals B w a len z
  hE : E ≤ w.heap.size
set_option maxRecDepth 100000 in
set_option maxHeartbeats 400000 in
theorem call10 (B E vb : Nat) (a : Option Addr) (len cap c : Nat) (z : Nat → Int) (w : World) (hl : len ≤ 1024) (hc : c ≤ 1024) (h : I10 B E vb a len cap z w) :
    Calls Yba.prog 10 #[.int .i64 c, .pointer (some ⟨vb, 0, none⟩)] w fun e w' => e = .returned (.tuple #[.bool (valF len z c == 2), .bool (!(valF len z c == 0))]) ∧ w = w' := by
  obtain ⟨hbox, hv, hE⟩ := h
  have c2 : w.cell? ⟨vb, 0, none⟩ = some (.slice a len cap) := cell_blk hbox 0
  go_enter Yba.func10, Yba.ntmps10
  go_wp2_with (go_at_call 7; refine (aval7 B a len cap c z _ hl (by omega) hv).mono ?_; rintro e w1 ⟨rfl, rfl⟩)
  go_ret2
  exact ⟨ret2_bool rfl rfl, rfl⟩
end Go.Proofs.Ybulkmge
