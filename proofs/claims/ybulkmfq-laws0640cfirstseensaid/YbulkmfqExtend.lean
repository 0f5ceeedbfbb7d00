import Derived.Test.YbulkmfqRowF
namespace Go.Proofs.Ybulkmfq
open Go.RowKit
set_option linter.unusedVariables false

/-- the first n of f, empty strings behind them -/
def cutF (n : Nat) (f : Nat → ByteArray) (i : Nat) : ByteArray := if i < n then f i else { data := #[] }
/-- f with v at place n -/
def putF (n : Nat) (v : ByteArray) (f : Nat → ByteArray) (i : Nat) : ByteArray := if i = n then v else f i

theorem cutF_lt {n : Nat} {f : Nat → ByteArray} {i : Nat} (h : i < n) : cutF n f i = f i := by simp [cutF, h]
theorem putF_at (n : Nat) (v : ByteArray) (f : Nat → ByteArray) : putF n v f n = v := by simp [putF]
theorem putF_ne {n : Nat} {v : ByteArray} {f : Nat → ByteArray} {i : Nat} (h : i ≠ n) : putF n v f i = f i := by simp [putF, h]

theorem cut_step1 {k len1 : Nat} {fV : Nat → ByteArray} (h : k < len1) (i : Nat) : (if i = k then fV k else cutF k (cutF len1 fV) i) = cutF (k + 1) (cutF len1 fV) i := by
  by_cases e : i = k
  · subst e; simp [cutF, h]
  · simp only [e, if_false]; unfold cutF
    by_cases c : i < k
    · simp [c, show i < k + 1 from by omega]
    · simp [c, show ¬ i < k + 1 from by omega]
theorem cut_step2 {k len1 : Nat} {fV : Nat → ByteArray} (h : len1 ≤ k) (i : Nat) : cutF k (cutF len1 fV) i = cutF (k + 1) (cutF len1 fV) i := by
  unfold cutF
  by_cases e : i = k
  · subst e; simp [show ¬ i < len1 from by omega]
  · by_cases c : i < k
    · simp [c, show i < k + 1 from by omega]
    · simp [c, show ¬ i < k + 1 from by omega]
theorem ret_bool {a b : Bool} (h : a = b) : Ending.returned (.bool a) = .returned (.bool b) := by rw [h]
theorem add_zero (g j : Nat) : (⟨g, 0, none⟩ : Addr).add j = ⟨g, j, none⟩ := by
  unfold Addr.add; split
  · rename_i h; subst h; rfl
  · simp
theorem ne_append (a : ByteArray) : a ≠ a ++ { data := #[33] } := by
  intro h
  have := congrArg ByteArray.size h
  rw [ByteArray.size_append] at this
  have e : ({ data := #[33] } : ByteArray).size = 1 := rfl
  omega
theorem add_block (ad : Addr) (j : Nat) : (ad.add j).block = ad.block := by unfold Addr.add; split <;> rfl

set_option maxRecDepth 100000 in
set_option maxHeartbeats 1000000 in
theorem extend_walk (a0 a1 : Option Addr) (n cap0 len1 cap1 : Nat) (kk : Int) (fN fV : Nat → ByteArray) (w : World) (hn : n ≤ 1024) (hl1 : len1 ≤ 9223372036854775807) (hk0 : 0 ≤ kk) (hk1 : kk ≤ 255)
    (hpN : 0 < n → ∃ ad : Addr, a0 = some ad ∧ ad.block < w.heap.size ∧ ∀ j, j < n → w.cell? (ad.add j) = some (.string (fN j)))
    (hpV : ∀ k, k < len1 → ∃ b o, a1 = some ⟨b, o, none⟩ ∧ b < w.heap.size ∧ w.cell? ⟨b, o + k, none⟩ = some (.string (fV k)))
    (hsz : ∀ k, (fV k).size ≤ 1000000000000000000) :
    Calls Yba.prog 4 #[.slice a0 n cap0, .slice a1 len1 cap1, .int .u8 kk] w fun e w' => e = .returned (.bool true) ∧ Below w.heap.size w w' := by
  have hmk : ∀ w, (Instr.makeSlice 23 (.int .i64 n) (.int .i64 ((n : Int) + 1))).run Yba.prog w = .ok (.slice (some ⟨w.heap.size, 0, none⟩) n (n + 1)) (w.alloc (.cells (E9 (n + 1)) 9)) := fun w => make23 n (n + 1) (by omega) (by omega) w
  have hrow0 := RowF.made w (n + 1)
  have hsrc : 0 < n → ∃ ad, a0 = some ad ∧ ∀ j, j < n → (w.alloc (.cells (E9 (n + 1)) 9)).cell? (ad.add j) = some (.string (fN j)) := fun h => by
    obtain ⟨ad, e1, e2, e3⟩ := hpN h
    refine ⟨ad, e1, fun j hj => ?_⟩
    rw [World.cell?_alloc_lt _ _ _ (by rw [add_block]; exact e2)]; exact e3 j hj
  go_enter Yba.func4, Yba.ntmps4
  go_upto_region 6 with (refine wpList_copy_rowF rfl _ _ rfl a0 n (n + 1) n cap0 w.heap.size (n + 1) n (fun _ => { data := #[] }) fN rfl rfl hrow0 (Nat.min_self n) (Nat.le_succ n) hsrc ?_; intro w1 r1 b1)
  have hb1 : Below w.heap.size w w1 := ((Below.refl w.heap.size w).alloc (Nat.le_refl _) _).trans b1
  have hz1 : w.heap.size < w1.heap.size := by have := b1.size; simp at this; omega
  clear hrow0 hsrc b1 hpN
  go_wp2_with fail
  go_loopw [10] (fun i wr => ∃ k : Nat, k ≤ n ∧ i = .int .i64 k ∧ RowF wr w.heap.size (n + 1) (cutF n fN) ∧ RowF wr w1.heap.size (n + 1) (cutF k (cutF len1 fV)) ∧ Below w.heap.size w wr) (fun i _ => n - (intOf i).toNat)
  case atStart => exact ⟨0, Nat.zero_le _, rfl, r1.alloc _, (RowF.made w1 (n + 1)).congr (fun i _ => by simp [cutF]), hb1.alloc (by omega) _⟩
  case round =>
    clear hmk
    obtain ⟨k, hk, rfl, r2, r3, hb⟩ := hrel
    by_cases hlt : k < n
    · by_cases hkl : k < len1
      · obtain ⟨b, o, ha, hbl, hc⟩ := hpV k hkl
        have hc' := (hb.cell (p := ⟨b, o + k, none⟩) hbl).trans hc
        have hold := r3.at k (by omega)
        have hfr := r3.free k
        have hkl' : (k : Int) < (len1 : Int) := by omega
        subst ha
        clear hc hpV
        go_wp2
        go_roundw
        case rel => exact ⟨k + 1, by omega, by go_num, r2.other (by simp; omega) _, (r3.put k (fV k)).congr (fun i _ => cut_step1 hkl i), hb.setCell (by simp; omega) _⟩
        case measure => simp [intOf]; omega
      · have hkl' : (len1 : Int) ≤ (k : Int) := by omega
        clear hpV
        go_wp2
        go_roundw
        case rel => exact ⟨k + 1, by omega, by go_num, r2, r3.congr (fun i _ => cut_step2 (by omega) i), hb⟩
        case measure => simp [intOf]; omega
    · have hkn : k = n := by omega
      subst hkn
      have hsV : ∀ i, (cutF k (cutF len1 fV) i).size ≤ 1000000000000000000 := fun i => by
        unfold cutF; split
        · split
          · exact hsz _
          · exact Nat.zero_le _
        · exact Nat.zero_le _
      clear hpV hsz r1 hb1 hlt hk
      generalize w1.heap.size = g2 at *
      generalize cutF k fN = N1 at *
      generalize cutF k (cutF len1 fV) = V1 at *
      go_wp2_with fail
      refine (agree7 w.heap.size g2 k (k + 1) (k + 1) N1 V1 wr (by omega) (fun i hi => r2.at i (by omega)) (fun i hi => r3.at i (by omega))).mono ?_
      rintro e w2 ⟨⟨base, hbase, rfl⟩, q, rfl⟩
      by_cases h0 : k = 0
      · have h0' : ((k : Int) == 0) = true := by simp [h0]
        have hb1 : base = true := hbase.2 (fun i hi => absurd hi (by omega))
        clear h0
        go_wp2_with fail
        go_ret
        exact ⟨ret_bool rfl, below_drewN hb q⟩
      · have h0' : ((k : Int) == 0) = false := by simp; omega
        go_upto_region 15 with fail
        refine wp_gen (fun W => RowF W w.heap.size (k + 1) N1 ∧ RowF W g2 (k + 1) V1 ∧ Below w.heap.size w W) ⟨r2, r3, below_drewN hb q⟩ ?_
        rintro W0 ⟨p1, p2, pb⟩
        clear r2 r3 hb
        have hi0 : 0 ≤ kk % (k : Int) := Int.emod_nonneg _ (by omega)
        have hi1 : kk % (k : Int) < (k : Int) := Int.emod_lt_of_pos _ (by omega)
        obtain ⟨d, hd⟩ : ∃ d : Nat, kk % (k : Int) = (d : Int) := ⟨_, (Int.toNat_of_nonneg hi0).symm⟩
        have hdk : d < k := by omega
        have hdk' : (d : Int) < (k : Int) := by omega
        have hdm : kk.tmod (k : Int) = (d : Int) := by rw [Int.tmod_eq_emod_of_nonneg hk0]; exact hd
        clear hi0 hi1 hd
        have hmk2 : ∀ w, (Instr.makeSlice 23 (.int .i64 ((k : Int) + 1)) (.int .i64 ((k : Int) + 1))).run Yba.prog w = .ok (.slice (some ⟨w.heap.size, 0, none⟩) (k + 1) (k + 1)) (w.alloc (.cells (E9 (k + 1)) 9)) := fun w => make23 (k + 1) (k + 1) (by omega) (by omega) w
        have s1 : 0 < k → ∃ ad, some (⟨w.heap.size, 0, none⟩ : Addr) = some ad ∧ ∀ j, j < k → (W0.alloc (.cells (E9 (k + 1)) 9)).cell? (ad.add j) = some (.string (N1 j)) := fun _ => ⟨_, rfl, fun j hj => by rw [add_zero]; exact (p1.alloc _).at j (by omega)⟩
        have hmade := RowF.made W0 (k + 1)
        go_upto_region 18 with (refine wpList_copy_rowF rfl _ _ rfl _ (k + 1) (k + 1) k (k + 1) W0.heap.size (k + 1) k (fun _ => { data := #[] }) N1 rfl rfl hmade (Nat.min_eq_left (Nat.le_succ k)) (Nat.le_succ k) s1 ?_; intro W1 q1 qb)
        have g0 : w.heap.size < W0.heap.size := p1.lt
        have g1 : g2 < W0.heap.size := p2.lt
        have hb1 : Below W0.heap.size W0 W1 := ((Below.refl _ _).alloc (Nat.le_refl _) _).trans qb
        have q2 := p1.below hb1 g0
        have q3 := p2.below hb1 g1
        have pb1 := pb.trans (hb1.mono (by omega))
        generalize W0.heap.size = g3 at *
        clear p1 p2 pb s1 hmade qb hb1
        have c1 := q2.at d (by omega)
        have c2 := q1.at k (by omega)
        have c3 := q1.free k
        go_upto_region 19 with fail
        refine wp_gen (fun W => RowF W w.heap.size (k + 1) N1 ∧ RowF W g2 (k + 1) V1 ∧ RowF W g3 (k + 1) (putF k (N1 d) (cutF k N1)) ∧ Below w.heap.size w W) ⟨q2.other (by simp; omega) _, q3.other (by simp; omega) _, q1.put k (N1 d), pb1.setCell (by simp; omega) _⟩ ?_
        rintro W2 ⟨p1, p2, p3, pb⟩
        clear c1 c2 c3 q1 q2 q3 pb1
        have s1 : 0 < k → ∃ ad, some (⟨g2, 0, none⟩ : Addr) = some ad ∧ ∀ j, j < k → (W2.alloc (.cells (E9 (k + 1)) 9)).cell? (ad.add j) = some (.string (V1 j)) := fun _ => ⟨_, rfl, fun j hj => by rw [add_zero]; exact (p2.alloc _).at j (by omega)⟩
        have hmade := RowF.made W2 (k + 1)
        go_upto_region 21 with (refine wpList_copy_rowF rfl _ _ rfl _ (k + 1) (k + 1) k (k + 1) W2.heap.size (k + 1) k (fun _ => { data := #[] }) V1 rfl rfl hmade (Nat.min_eq_left (Nat.le_succ k)) (Nat.le_succ k) s1 ?_; intro W3 q4 qb)
        have g4 : w.heap.size < W2.heap.size := p1.lt
        have g5 : g2 < W2.heap.size := p2.lt
        have g6 : g3 < W2.heap.size := p3.lt
        have hb1 : Below W2.heap.size W2 W3 := ((Below.refl _ _).alloc (Nat.le_refl _) _).trans qb
        have q1 := p1.below hb1 g4
        have q2 := p2.below hb1 g5
        have q3 := p3.below hb1 g6
        have pb1 := pb.trans (hb1.mono (by omega))
        generalize W2.heap.size = gg4 at *
        clear p1 p2 p3 pb s1 hmade qb hb1
        have c1 := q2.at d (by omega)
        have c2 := q4.at k (by omega)
        have c3 := q4.free k
        go_upto_region 22 with fail
        refine wp_gen (fun W => RowF W w.heap.size (k + 1) N1 ∧ RowF W g2 (k + 1) V1 ∧ RowF W g3 (k + 1) (putF k (N1 d) (cutF k N1)) ∧ RowF W gg4 (k + 1) (putF k (V1 d) (cutF k V1)) ∧ Below w.heap.size w W) ⟨q1.other (by simp; omega) _, q2.other (by simp; omega) _, q3.other (by simp; omega) _, q4.put k (V1 d), pb1.setCell (by simp; omega) _⟩ ?_
        rintro W4 ⟨p1, p2, p3, p4, pb⟩
        clear c1 c2 c3 q1 q2 q3 q4 pb1
        go_wp2_with fail
        refine (agree7 g3 gg4 (k + 1) (k + 1) (k + 1) _ _ W4 (by omega) (fun i hi => p3.at i hi) (fun i hi => p4.at i hi)).mono ?_
        rintro e w5 ⟨⟨b2, hb2, rfl⟩, q', rfl⟩
        have heq : b2 = base := by
          have := agree_ext (fN := N1) (fV := V1) (gN := putF k (N1 d) (cutF k N1)) (gV := putF k (V1 d) (cutF k V1)) hdk (fun i hi => by rw [putF_ne (by omega), cutF_lt hi]) (fun i hi => by rw [putF_ne (by omega), cutF_lt hi]) (putF_at _ _ _) (putF_at _ _ _)
          rw [Bool.eq_iff_iff, hb2, hbase, this]
        have hne : (b2 != base) = false := by simp [heq]
        have hne' : (b2 == base) = true := by simp [heq]
        clear heq hb2 hbase
        go_upto_region 24 with fail
        refine wp_gen (fun W => RowF W g2 (k + 1) V1 ∧ RowF W g3 (k + 1) (putF k (N1 d) (cutF k N1)) ∧ Below w.heap.size w W) ⟨p2, p3, below_drewN pb q'⟩ ?_
        clear p1 p2 p3 p4 pb hne hne'
        rintro W5 ⟨p2, p3, pb⟩
        have s1 : 0 < k → ∃ ad, some (⟨g2, 0, none⟩ : Addr) = some ad ∧ ∀ j, j < k → (W5.alloc (.cells (E9 (k + 1)) 9)).cell? (ad.add j) = some (.string (V1 j)) := fun _ => ⟨_, rfl, fun j hj => by rw [add_zero]; exact (p2.alloc _).at j (by omega)⟩
        have hmade := RowF.made W5 (k + 1)
        go_upto_region 26 with (refine wpList_copy_rowF rfl _ _ rfl _ (k + 1) (k + 1) k (k + 1) W5.heap.size (k + 1) k (fun _ => { data := #[] }) V1 rfl rfl hmade (Nat.min_eq_left (Nat.le_succ k)) (Nat.le_succ k) s1 ?_; intro W6 q4 qb)
        have g7 : g2 < W5.heap.size := p2.lt
        have g8 : g3 < W5.heap.size := p3.lt
        have g9 : w.heap.size ≤ W5.heap.size := pb.size
        have hb1 : Below W5.heap.size W5 W6 := ((Below.refl _ _).alloc (Nat.le_refl _) _).trans qb
        have q2 := p2.below hb1 g7
        have q3 := p3.below hb1 g8
        have pb1 := pb.trans (hb1.mono (by omega))
        generalize W5.heap.size = g5' at *
        clear p2 p3 pb s1 hmade qb hb1
        have c1 := q2.at d (by omega)
        have c2 := q4.at k (by omega)
        have c3 := q4.free k
        have hsd := hsV d
        go_upto_region 27 with fail
        refine wp_gen (fun W => RowF W g3 (k + 1) (putF k (N1 d) (cutF k N1)) ∧ RowF W g5' (k + 1) (putF k (V1 d ++ { data := #[33] }) (cutF k V1)) ∧ Below w.heap.size w W) ⟨q3.other (by simp; omega) _, q4.put k _, pb1.setCell (by simp; omega) _⟩ ?_
        rintro W7 ⟨p3, p4, pb⟩
        clear c1 c2 c3 q2 q3 q4 pb1
        go_wp2_with fail
        refine (agree7 g3 g5' (k + 1) (k + 1) (k + 1) _ _ W7 (by omega) (fun i hi => p3.at i hi) (fun i hi => p4.at i hi)).mono ?_
        rintro e w8 ⟨⟨b3, hb3, rfl⟩, q'', rfl⟩
        have hf : b3 = false := by
          have := agree_no (gN := putF k (N1 d) (cutF k N1)) (gV := putF k (V1 d ++ { data := #[33] }) (cutF k V1)) hdk (by rw [putF_at, putF_ne (by omega), cutF_lt hdk]) (by rw [putF_at, putF_ne (by omega), cutF_lt hdk]; exact ne_append _)
          rw [← Bool.not_eq_true, hb3]; exact this
        subst hf
        go_wp2_with fail
        go_ret
        exact ⟨ret_bool rfl, below_drewN pb q''⟩
end Go.Proofs.Ybulkmfq
