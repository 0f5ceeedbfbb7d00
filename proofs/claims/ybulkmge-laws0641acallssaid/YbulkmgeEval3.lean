import Derived.Test.YbulkmgeKnown
import Derived.Deep.RegionLaw
import Derived.BigRegion
import Derived.Deep.DrawnRows
namespace Go.Proofs.Ybulkmge
open Go.RowKit
set_option linter.unusedVariables false

/-- the state of eval3: lb the variable that logs, kb the variable that tells whether one was known -/
structure J9 (B E lb kb : Nat) (a : Option Addr) (len : Nat) (z : Nat → Int) (w : World) (L : List Nat) (K : Bool) : Prop where
  log : Log E lb w L
  knb : w.heap[kb]? = some (.cells #[.bool K] 4 (0, 0))
  vals : Vals B w a len z
  hE : E ≤ w.heap.size

/-- the log lies on behind a store into another variable that is no row of numbers -/
theorem log_set {E lb kb : Nat} {w : World} {L : List Nat} (h : Log E lb w L) (hne : lb ≠ kb) {cs : Array Value} {t : TypeId} {fr : Nat × Nat} (hk : w.heap[kb]? = some (.cells cs t fr)) (ht : t ≠ 3) (u : Value) : Log E lb (w.setCell ⟨kb, 0, none⟩ u) L := by
  obtain ⟨v, h1, h2⟩ := h
  refine ⟨v, (Below.heap_setCell w ⟨kb, 0, none⟩ u lb hne).trans h1, h2.1, ?_⟩
  rcases h2.2 with h | ⟨g, cap, cur, e, hge, hh, r⟩
  · exact .inl h
  · refine .inr ⟨g, cap, cur, e, hge, (Below.heap_setCell w ⟨kb, 0, none⟩ u g ?_).trans hh, r⟩
    intro e; simp at e; subst e; rw [hk] at hh; simp at hh; exact ht hh.2.1

def two (x y k : Nat) : Prop := k = x ∨ k = y

set_option maxRecDepth 100000 in
set_option maxHeartbeats 1000000 in
theorem leaf9 (B E lb kb : Nat) (a : Option Addr) (len cap : Nat) (z : Nat → Int) (b off k n cp0 : Nat) (p : Option Addr) (w : World) (L : List Nat) (K : Bool) (hl : len ≤ 1024) (hk : k ≤ 1024) (hL : L.length ≤ 1000)
    (hB1 : B ≤ lb) (hB2 : B ≤ kb) (hE1 : lb < E) (hE2 : kb < E) (hb1 : b < E) (hb2 : ¬ two lb kb b)
    (h3 : Node3 w b off 0 k p n cp0) (hJ : J9 B E lb kb a len z w L K) :
    Calls Yba.prog 9 #[.pointer (some ⟨b, off, none⟩), .slice a len cap, .pointer (some ⟨lb, 0, none⟩), .pointer (some ⟨kb, 0, none⟩)] w fun e w' => e = .returned (.int .u8 (leafA (valF len z) bitF k).m) ∧ J9 B E lb kb a len z w' (L ++ (leafA (valF len z) bitF k).log) (K || (leafA (valF len z) bitF k).kn) ∧ Frame E (two lb kb) w w' := by
  obtain ⟨⟨v, h1, h2⟩, hkb, hv, hE⟩ := hJ
  obtain ⟨i0, hi, hz0, hz1, hz2⟩ := info_parts info3
  have c1 : w.cell? ⟨lb, 0, none⟩ = some v := cell_blk h1 0
  have hnb : lb ≠ kb := by intro e; subst e; rw [h1] at hkb; simp at hkb
  have hbl : b ≠ lb := fun e => hb2 (.inl e)
  have hfar : ∀ W w1, W.heap = (w.alloc (.cells #[.int .i64 k] 3)).heap → Below 0 w W → W.grownBy w1 v.ownBlock → w1.cell? ⟨lb, 0, none⟩ = some v ∧ w1.frozen? ⟨lb, 0, none⟩ = false ∧ w1.cell? ⟨b, off + 1, none⟩ = some (.int .i64 k) ∧ Frame E (two lb kb) w w1 ∧ (w.alloc (.cells #[.int .i64 k] 3)).grownBy w1 v.ownBlock := by
    intro W w1 hW hb0 hg0
    have hg : (w.alloc (.cells #[.int .i64 k] 3)).grownBy w1 v.ownBlock := ⟨hg0.os.trans hb0.os, hg0.tape.trans hb0.tape, hg0.output.trans hb0.output, by rw [← hW]; exact hg0.size, fun j hj hne => by rw [← hW]; exact hg0.block j (by rw [hW]; exact hj) hne⟩
    have hb := far_block h2 hg h1 (by decide)
    have hf : Frame E (two lb kb) w w1 := ((Frame.refl E _ w).alloc hE _).grown hg (by simp; omega) (fun k hk => .inr (h2.lt k hk).1)
    exact ⟨cell_blk hb 0, free_blk hb 0, ((h3.of_block (hf.block b hb1 hb2)).c1), hf, hg⟩
  have HF : Hid (∀ W w1, W.heap = (w.alloc (.cells #[.int .i64 k] 3)).heap → Below 0 w W → W.grownBy w1 v.ownBlock → w1.cell? ⟨lb, 0, none⟩ = some v ∧ w1.frozen? ⟨lb, 0, none⟩ = false ∧ w1.cell? ⟨b, off + 1, none⟩ = some (.int .i64 k) ∧ Frame E (two lb kb) w w1 ∧ (w.alloc (.cells #[.int .i64 k] 3)).grownBy w1 v.ownBlock) := hfar
  have h3' := h3
  obtain ⟨n0, n1, n2⟩ := h3
  clear hfar
  have hlt1 : lb < w.heap.size := by omega
  have hlt2 : b < w.heap.size := by omega
  go_enter Yba.func9, Yba.ntmps9
  go_upto_region 3 with fail
  go_region_law (first | (refine step_append_lies _ (by rfl) _ _ _ (by rfl) E 3 i0 (.int .i64 0) 1 8 Yba.underlying26 hi hz0 hz1 hz2 rfl (by omega) v L.length _ (by rfl) (by exact (h2.alloc _)) ⟨w.heap.size, 0, none⟩ 1 1 [.int .i64 k] (by rfl) rfl (cell_one_new _ _ _) (ints_oneCell .i64 [(k : Int)]) (by omega) (by unfold maxLen; omega) (by omega) (by simp; omega) (w.heap.size + 1) (by simp) ?_; intro g cp w1 hown1 hgrow hat hlt; obtain ⟨q1, q2, q3, q4, q5⟩ := HF.out _ w1 (by rfl) (by exact ((Below.refl 0 w).alloc (Nat.zero_le _) _).drew) hgrow))
  all_goals
    go_upto_region 4 with fail
    have hkb1 : w1.heap[kb]? = some (.cells #[.bool K] 4 (0, 0)) := far_block h2 q5 hkb (by decide)
    have f2 : Frame E (two lb kb) w (w1.setCell ⟨lb, 0, none⟩ (.slice (some ⟨g, 0, none⟩) (L.length + 1) cp)) := q4.setCell (.inl (.inl rfl)) _
    refine wp_gen (fun W => Log E lb W (L ++ [k]) ∧ W.heap[kb]? = some (.cells #[.bool K] 4 (0, 0)) ∧ Vals B W a len z ∧ E ≤ W.heap.size ∧ Frame E (two lb kb) w W ∧ Node3 W b off 0 k p n cp0) ⟨log_step h1 h2 hown1 q5, (Below.heap_setCell w1 ⟨lb, 0, none⟩ _ kb (fun e => hnb e.symm)).trans hkb1, hv.below (f2.below (by omega) (fun j hj e => by rcases e with e | e <;> omega)), Nat.le_trans hE f2.size, f2, h3'.of_block (f2.block b hb1 hb2)⟩ ?_
    rintro W ⟨s1, s2, s3, s4, s5, ⟨m0, m1, m2⟩⟩
    clear q1 q2 q3 q4 q5 hown1 hgrow hat hlt hkb1 f2 n0 n1 n2 h3' hv hkb h1 h2 c1 HF hlt1 hlt2
    have hbd := valF_bd len z k
    have k1 : W.cell? ⟨kb, 0, none⟩ = some (.bool K) := cell_blk s2 0
    have k2 := free_blk s2 0
    by_cases h0 : valF len z k = 0
    · have h0' : (valF len z k != 0) = false := by simp [h0]
      have hkn : (K || (leafA (valF len z) bitF k).kn) = K := by simp [leafA, h0]
      have HKN : Hid ((K || (leafA (valF len z) bitF k).kn) = K) := hkn
      clear h0 hkn
      go_wp2_with (go_at_call 7; refine (aval7 B a len cap k z _ hl (by omega) s3).mono ?_; rintro e w2 ⟨rfl, rfl⟩)
      go_ret
      rw [HKN.out]
      exact ⟨rfl, ⟨s1, s2, s3, s4⟩, s5⟩
    · have h0' : (valF len z k != 0) = true := by simp [h0]
      have hkn : (K || (leafA (valF len z) bitF k).kn) = true := by simp [leafA, h0]
      have HKN : Hid ((K || (leafA (valF len z) bitF k).kn) = true) := hkn
      clear h0 hkn
      go_wp2_with (go_at_call 7; refine (aval7 B a len cap k z _ hl (by omega) s3).mono ?_; rintro e w2 ⟨rfl, rfl⟩)
      go_ret
      rw [HKN.out]
      have f3 : Frame E (two lb kb) w (W.setCell ⟨kb, 0, none⟩ (.bool true)) := s5.setCell (.inl (.inr rfl)) _
      have f4 : Frame E (two lb kb) W (W.setCell ⟨kb, 0, none⟩ (.bool true)) := (Frame.refl _ _ _).setCell (.inl (.inr rfl)) _
      exact ⟨rfl, ⟨log_set s1 hnb s2 (by decide) _, by rw [Go.Joins.block_setCell s2]; rfl, s3.below (f4.below (by omega) (fun j hj e => by rcases e with e | e <;> omega)), Nat.le_trans s4 f4.size⟩, f3⟩
end Go.Proofs.Ybulkmge
