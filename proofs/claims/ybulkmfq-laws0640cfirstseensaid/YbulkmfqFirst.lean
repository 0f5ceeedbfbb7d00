import Derived.Test.YbulkmfqRowF
import Derived.Test.YbulkmfqExtend
namespace Go.Proofs.Ybulkmfq
open Go.RowKit
set_option linter.unusedVariables false

theorem FirstAt.uniq {fN : Nat → ByteArray} {i f f' : Nat} (h : FirstAt fN i f) (h' : FirstAt fN i f') : f = f' := by
  rcases Nat.lt_trichotomy f f' with c | c | c
  · exact absurd h.2.1 (h'.2.2 f c)
  · exact c
  · exact absurd h'.2.1 (h.2.2 f' c)
theorem seen_ok {fN fV : Nat → ByteArray} {k f : Nat} (hf : FirstAt fN k f) (e : fV f = fV k) : FirstSeen fN fV (k + 1) ↔ FirstSeen fN fV k := by
  constructor
  · intro h i hi; exact h i (by omega)
  · intro h i hi f' hf'
    rcases Nat.eq_or_lt_of_le (Nat.le_of_lt_succ hi) with c | c
    · subst c; rw [hf'.uniq hf]; exact e
    · exact h i c f' hf'
theorem seen_no {fN fV : Nat → ByteArray} {k f : Nat} (hf : FirstAt fN k f) (e : fV f ≠ fV k) : ¬ FirstSeen fN fV (k + 1) := fun h => e (h k (by omega) f hf)

/-- what zzs0640cname and zzs0640cval answer -/
def nameF (x : Int) : ByteArray := if x % 3 = 0 then { data := #[97] } else if x % 3 = 1 then { data := #[98] } else { data := #[99] }
def valF (x : Int) : ByteArray := if x % 2 = 0 then { data := #[120] } else { data := #[121] }

set_option maxHeartbeats 400000 in
theorem name5 (x : Int) (w : World) (h0 : 0 ≤ x) (h1 : x ≤ 255) : Calls Yba.prog 5 #[.int .u8 x] w fun e w' => e = .returned (.string (nameF x)) ∧ w = w' := by
  by_cases a : x % 3 = 0
  · have e : nameF x = { data := #[97] } := by simp [nameF, a]
    rw [e]
    go_enter Yba.func5, Yba.ntmps5
    go_wp2
    go_ret
    exact ⟨rfl, rfl⟩
  by_cases b : x % 3 = 1
  · have e : nameF x = { data := #[98] } := by simp [nameF, b]
    rw [e]
    go_enter Yba.func5, Yba.ntmps5
    go_wp2
    go_ret
    exact ⟨rfl, rfl⟩
  · have e : nameF x = { data := #[99] } := by simp [nameF, a, b]
    rw [e]
    go_enter Yba.func5, Yba.ntmps5
    go_wp2
    go_ret
    exact ⟨rfl, rfl⟩
set_option maxHeartbeats 400000 in
theorem val6 (x : Int) (w : World) (h0 : 0 ≤ x) (h1 : x ≤ 255) : Calls Yba.prog 6 #[.int .u8 x] w fun e w' => e = .returned (.string (valF x)) ∧ w = w' := by
  by_cases a : x % 2 = 0
  · have e : valF x = { data := #[120] } := by simp [valF, a]
    rw [e]
    go_enter Yba.func6, Yba.ntmps6
    go_wp2
    go_ret
    exact ⟨rfl, rfl⟩
  · have e : valF x = { data := #[121] } := by simp [valF, a]
    rw [e]
    go_enter Yba.func6, Yba.ntmps6
    go_wp2
    go_ret
    exact ⟨rfl, rfl⟩

theorem cut_put {k : Nat} {f : Nat → ByteArray} {v : ByteArray} (h : v = f k) (i : Nat) : (if i = k then v else cutF k f i) = cutF (k + 1) f i := by
  by_cases e : i = k
  · subst e; simp [cutF, h]
  · simp only [e, if_false]; unfold cutF
    by_cases c : i < k
    · simp [c, show i < k + 1 from by omega]
    · simp [c, show ¬ i < k + 1 from by omega]

set_option maxRecDepth 100000 in
set_option maxHeartbeats 1000000 in
theorem first_walk (a0 a1 : Option Addr) (n cap0 len1 cap1 : Nat) (z0 z1 : Nat → Int) (w : World) (hn : n ≤ 1024) (hl1 : len1 ≤ 9223372036854775807)
    (hz0 : ∀ k, 0 ≤ z0 k ∧ z0 k ≤ 255) (hz1 : ∀ k, 0 ≤ z1 k ∧ z1 k ≤ 255)
    (hp0 : ∀ k, k < n → ∃ b o, a0 = some ⟨b, o, none⟩ ∧ b < w.heap.size ∧ w.cell? ⟨b, o + k, none⟩ = some (.int .u8 (z0 k)))
    (hp1 : ∀ k, k < len1 → ∃ b o, a1 = some ⟨b, o, none⟩ ∧ b < w.heap.size ∧ w.cell? ⟨b, o + k, none⟩ = some (.int .u8 (z1 k))) :
    Calls Yba.prog 3 #[.slice a0 n cap0, .slice a1 len1 cap1] w fun e w' => e = .returned (.bool true) ∧ Below w.heap.size w w' := by
  have hmk : ∀ w, (Instr.makeSlice 23 (.int .i64 n) (.int .i64 n)).run Yba.prog w = .ok (.slice (some ⟨w.heap.size, 0, none⟩) n n) (w.alloc (.cells (E9 n) 9)) := fun w => make23 n n (by omega) (by omega) w
  go_enter Yba.func3, Yba.ntmps3
  go_wp2
  go_loopw [7] (fun i wr => ∃ k : Nat, k ≤ n ∧ i = .int .i64 k ∧ RowF wr w.heap.size n (cutF k fun i => nameF (z0 i)) ∧ RowF wr (w.heap.size + 1) n (cutF k fun i => valF (if i < len1 then z1 i else 0)) ∧ Below w.heap.size w wr) (fun i _ => n - (intOf i).toNat)
  case atStart => exact ⟨0, Nat.zero_le _, rfl, ((RowF.made w n).alloc _).congr (fun i _ => by simp [cutF]), by
    have := (RowF.made (w.alloc (.cells (E9 n) 9)) n).congr (f' := cutF 0 fun i => valF (if i < len1 then z1 i else 0)) (fun i _ => by simp [cutF])
    simpa using this, ((Below.refl _ _).alloc (Nat.le_refl _) _).alloc (by simp) _⟩
  case round =>
    clear hmk
    obtain ⟨k, hk, rfl, r1, r2, hb⟩ := hrel
    by_cases hlt : k < n
    · obtain ⟨b, o, ha, hbl, hc⟩ := hp0 k hlt
      have hc' := (hb.cell (p := ⟨b, o + k, none⟩) hbl).trans hc
      have hold1 := r1.at k hlt
      have hold2 := r2.at k hlt
      have hfr1 := r1.free k
      have hfr2 := r2.free k
      have hzk := hz0 k
      have hzk1 := hz1 k
      have en : ∀ i, (if i = k then nameF (z0 k) else cutF k (fun i => nameF (z0 i)) i) = cutF (k + 1) (fun i => nameF (z0 i)) i := fun i => cut_put rfl i
      subst ha
      clear hc hp0 hz0 hz1
      by_cases hkl : k < len1
      · obtain ⟨b', o', ha', hbl', hc1⟩ := hp1 k hkl
        have hc1' := (hb.cell (p := ⟨b', o' + k, none⟩) hbl').trans hc1
        have hkl' : (k : Int) < (len1 : Int) := by omega
        have ev : ∀ i, (if i = k then valF (z1 k) else cutF k (fun i => valF (if i < len1 then z1 i else 0)) i) = cutF (k + 1) (fun i => valF (if i < len1 then z1 i else 0)) i := fun i => cut_put (by simp [hkl]) i
        subst ha'
        clear hc1 hp1
        have EN : Hid (∀ i, (if i = k then nameF (z0 k) else cutF k (fun i => nameF (z0 i)) i) = cutF (k + 1) (fun i => nameF (z0 i)) i) := en
        have EV : Hid (∀ i, (if i = k then valF (z1 k) else cutF k (fun i => valF (if i < len1 then z1 i else 0)) i) = cutF (k + 1) (fun i => valF (if i < len1 then z1 i else 0)) i) := ev
        clear en ev
        go_wp2_with (first | (go_at_call 5; refine (name5 _ _ (by omega) (by omega)).mono ?_; rintro e w5 ⟨rfl, rfl⟩) | (go_at_call 6; refine (val6 _ _ (by omega) (by omega)).mono ?_; rintro e w6 ⟨rfl, rfl⟩))
        go_roundw
        case rel => exact ⟨k + 1, by omega, by go_num, ((r1.put k _).other (by simp) _).congr (fun i _ => EN.out i), ((r2.other (by simp) _).put k _).congr (fun i _ => EV.out i), (hb.setCell (by simp) _).setCell (by simp) _⟩
        case measure => simp [intOf]; omega
      · have hkl' : (len1 : Int) ≤ (k : Int) := by omega
        have EN : Hid (∀ i, (if i = k then nameF (z0 k) else cutF k (fun i => nameF (z0 i)) i) = cutF (k + 1) (fun i => nameF (z0 i)) i) := en
        have EV : Hid (∀ i, (if i = k then valF 0 else cutF k (fun i => valF (if i < len1 then z1 i else 0)) i) = cutF (k + 1) (fun i => valF (if i < len1 then z1 i else 0)) i) := fun i => cut_put (by simp [hkl]) i
        clear en hp1
        go_wp2_with (first | (go_at_call 5; refine (name5 _ _ (by omega) (by omega)).mono ?_; rintro e w5 ⟨rfl, rfl⟩) | (go_at_call 6; refine (val6 _ _ (by omega) (by omega)).mono ?_; rintro e w6 ⟨rfl, rfl⟩))
        go_roundw
        case rel => exact ⟨k + 1, by omega, by go_num, ((r1.put k _).other (by simp) _).congr (fun i _ => EN.out i), ((r2.other (by simp) _).put k _).congr (fun i _ => EV.out i), (hb.setCell (by simp) _).setCell (by simp) _⟩
        case measure => simp [intOf]; omega
    · have hkn : k = n := by omega
      subst hkn
      clear hp0 hp1 hz0 hz1 hk
      generalize (cutF k fun i => nameF (z0 i)) = N at *
      generalize (cutF k fun i => valF (if i < len1 then z1 i else 0)) = V at *
      have hN : ∀ i, i < k → wr.cell? ⟨w.heap.size, i, none⟩ = some (.string (N i)) := fun i hi => r1.at i hi
      have hV : ∀ i, i < k → wr.cell? ⟨w.heap.size + 1, i, none⟩ = some (.string (V i)) := fun i hi => r2.at i hi
      clear r1 r2
      go_wp2_with fail
      refine (agree7 w.heap.size (w.heap.size + 1) k k k N V wr (by omega) hN hV).mono ?_
      rintro e w2 ⟨⟨got, hgot, rfl⟩, q, rfl⟩
      rw [← firstSeen_iff] at hgot
      go_wp2_with fail
      go_loopw [10, 11] (fun b i wr2 => ∃ (j p : Nat) (want : Bool), j ≤ k ∧ b = .bool want ∧ i = .int .i64 j ∧ (want = true ↔ FirstSeen N V j) ∧ wr2 = wr.drewN p) (fun _ i _ => k - (intOf i).toNat)
      case atStart => exact ⟨0, q, true, Nat.zero_le _, rfl, rfl, ⟨fun _ i hi => absurd hi (Nat.not_lt_zero _), fun _ => rfl⟩, rfl⟩
      case round =>
        obtain ⟨j, p, want, hj, rfl, rfl, hwant, rfl⟩ := hrel
        by_cases hjk : j < k
        · have hjk' : (j : Int) < (k : Int) := by omega
          go_wp2_with fail
          go_loopw [12] (fun f wr3 => ∃ l p2 : Nat, l ≤ j ∧ f = .int .i64 l ∧ (∀ i, i < l → N i ≠ N j) ∧ wr3 = wr.drewN p2) (fun f _ => j - (intOf f).toNat)
          case atStart => exact ⟨0, p, Nat.zero_le _, rfl, fun i hi => absurd hi (Nat.not_lt_zero _), rfl⟩
          case round =>
            obtain ⟨l, p2, hl, rfl, hno, rfl⟩ := hrel
            by_cases hlj : l < j
            · have hlj' : (l : Int) < (k : Int) := by omega
              have c1 := hN l (by omega)
              have c2 := hN j hjk
              have hd : decide ((l : Int) < (j : Int)) = true := by simp; omega
              by_cases he : N l = N j
              · have he' : ((N l).toList == (N j).toList) = true := by simp [he]
                have HE : Hid (N l = N j) := he
                clear he
                have hf : FirstAt N j l := ⟨hl, HE.out, hno⟩
                go_wp2_with fail
                go_quiet (fail)
                clear c1 c2
                have hlk' : (l : Int) < (k : Int) := by omega
                have d1 := hV l (by omega)
                have d2 := hV j hjk
                by_cases hv : V l = V j
                · have hv' : ((V l).toList == (V j).toList) = true := by simp [hv]
                  have hw2 : Hid (want = true ↔ FirstSeen N V (j + 1)) := hwant.trans (seen_ok hf hv).symm
                  clear hv
                  go_upto_region 21 with fail
                  go_quiet (fail)
                  go_wp2_with fail
                  go_roundw
                  case rel => exact ⟨j + 1, _, want, by omega, rfl, by go_num, hw2.out, rfl⟩
                  case measure => simp [intOf]; omega
                · have hv' := beq_ne hv
                  have hw2 : Hid (false = true ↔ FirstSeen N V (j + 1)) := ⟨fun h => by simp at h, fun h => absurd h (seen_no hf hv)⟩
                  go_upto_region 21 with fail
                  go_quiet (fail)
                  go_wp2_with fail
                  go_roundw
                  case rel => exact ⟨j + 1, _, false, by omega, rfl, by go_num, hw2.out, rfl⟩
                  case measure => simp [intOf]; omega
              · have he' := beq_ne he
                go_wp2_with fail
                go_quiet (fail)
                go_wp2_with fail
                go_roundw
                case rel => exact ⟨l + 1, _, by omega, by go_num, fun i hi => by
                  rcases Nat.eq_or_lt_of_le (Nat.le_of_lt_succ hi) with c | c
                  · rw [c]; exact he
                  · exact hno i c, rfl⟩
                case measure => simp [intOf]; omega
            · have hd : decide ((l : Int) < (j : Int)) = false := by simp; omega
              have hf : FirstAt N j l := ⟨hl, by rw [show l = j from by omega], hno⟩
              go_wp2_with fail
              go_quiet (fail)
              have hlk' : (l : Int) < (k : Int) := by omega
              have d1 := hV l (by omega)
              have d2 := hV j hjk
              by_cases hv : V l = V j
              · have hv' : ((V l).toList == (V j).toList) = true := by simp [hv]
                have hw2 : Hid (want = true ↔ FirstSeen N V (j + 1)) := hwant.trans (seen_ok hf hv).symm
                clear hv
                go_upto_region 21 with fail
                go_quiet (fail)
                go_wp2_with fail
                go_roundw
                case rel => exact ⟨j + 1, _, want, by omega, rfl, by go_num, hw2.out, rfl⟩
                case measure => simp [intOf]; omega
              · have hv' := beq_ne hv
                have hw2 : Hid (false = true ↔ FirstSeen N V (j + 1)) := ⟨fun h => by simp at h, fun h => absurd h (seen_no hf hv)⟩
                go_upto_region 21 with fail
                go_quiet (fail)
                go_wp2_with fail
                go_roundw
                case rel => exact ⟨j + 1, _, false, by omega, rfl, by go_num, hw2.out, rfl⟩
                case measure => simp [intOf]; omega
        · have hkj : k = j := by omega
          have heq : got = want := by
            rw [Bool.eq_iff_iff, hgot, hwant, hkj]
          go_wp2_with fail
          go_ret
          exact ⟨ret_bool (by simp), below_drewN hb p⟩
end Go.Proofs.Ybulkmfq
