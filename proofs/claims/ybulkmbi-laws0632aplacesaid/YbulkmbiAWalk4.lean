import Derived.Test.YbulkmbiAStage
namespace Go.Proofs.Ybulkmbi
open Go.RowKit
set_option linter.unusedVariables false

set_option maxRecDepth 100000 in
set_option maxHeartbeats 4000000 in
theorem law_place (a0 : Option Addr) (len cap : Nat) (zs : List Int) (t : Int) (onO : Bool) (cp : Int) (hasE : Bool) (ep : Int) (w : World) (hlen : len ≤ 1024)
    (hcell : ∀ k, k < len → ∃ b o, a0 = some ⟨b, o, none⟩ ∧ b < w.heap.size ∧ w.cell? ⟨b, o + k, none⟩ = some (.int .u8 (zs.getD k 0)))
    (hz : ∀ k, 0 ≤ zs.getD k 0 ∧ zs.getD k 0 ≤ 255)
    (ht : -128 ≤ t ∧ t ≤ 127) (hcp : 0 ≤ cp ∧ cp ≤ 65535) (hep : 0 ≤ ep ∧ ep ≤ 65535) :
    Calls Yba.prog 3 #[.slice a0 len cap, .int .i8 t, .bool onO, .int .u16 cp, .bool hasE, .int .u16 ep] w fun e w' => e = .returned (.bool true) ∧ Below w.heap.size w w' := by
  have hmk := make25 len hlen
  go_enter Yba.func3, Yba.ntmps3
  go_wp2
  go_loopw [14, 15] (fun c i wr => ∃ k : Nat, k ≤ len ∧ c = .int .i32 (cumF zs k) ∧ i = .int .i64 k ∧ Row wr w.heap.size len k (fun i => cumF zs (i + 1)) ∧ Below w.heap.size w wr ∧ wr.heap.size = w.heap.size + 1) (fun _ i _ => len - (intOf i).toNat)
  case atStart => exact ⟨0, Nat.zero_le _, rfl, rfl, Row.made w len _, (Below.refl _ _).alloc (Nat.le_refl _) _, by simp⟩
  case round =>
    obtain ⟨k, hk, rfl, rfl, hrow, hb, hsz⟩ := hrel
    by_cases hlt : k < len
    · obtain ⟨b, o, ha, hbl, hc⟩ := hcell k hlt
      have hc' := (hb.cell (p := ⟨b, o + k, none⟩) hbl).trans hc
      obtain ⟨old, hold⟩ := hrow.old k hlt
      have hfr := hrow.free k
      have hzk := hz k
      have hcum := cumF_bd zs k
      have hstep : cumF zs (k + 1) = cumF zs k + (1 + zs.getD k 0 % 4) := rfl
      generalize cumF zs k = C at *
      generalize zs.getD k 0 = z at *
      have HS : Hid (cumF zs (k + 1) = C + (1 + z % 4)) := hstep
      subst ha
      clear hstep hc hcell hz hmk
      go_wp2
      go_roundw
      case rel => exact ⟨k + 1, by omega, by rw [HS.out], by go_num, hrow.put hlt _ HS.out.symm, hb.setCell (Nat.le_refl _) _, by simpa using hsz⟩
      case measure => simp [intOf]; omega
    · have hkn : k = len := by omega
      subst hkn
      clear hcell hz hlt hk
      go_wp2
      go_loopw [17] (fun i wr2 => ∃ j : Nat, j ≤ k ∧ i = .int .i64 j ∧ Row wr2 w.heap.size k k (fun i => cumF zs (i + 1)) ∧ Row wr2 (w.heap.size + 1) k 0 (fun _ => 0) ∧ Below w.heap.size w wr2 ∧ wr2.heap.size = w.heap.size + 2) (fun i _ => k - (intOf i).toNat)
      case atStart => exact ⟨0, Nat.zero_le _, rfl, hrow.alloc _, by have := Row.made wr k (fun _ => 0); rwa [hsz] at this, hb.alloc (by omega) _, by simp [hsz]⟩
      case round =>
        clear hmk hrow hb hsz
        obtain ⟨j, hj, rfl, hrow, hrow2, hb, hsz⟩ := hrel
        by_cases hlt : j < k
        · have hc := hrow.at j hlt
          obtain ⟨old, hold⟩ := hrow2.old j hlt
          have hfr := hrow2.free j
          have hcum := cumF_bd zs (j + 1)
          generalize cumF zs (j + 1) = C at *
          go_wp2
          go_roundw
          case rel => exact ⟨j + 1, by omega, by go_num, hrow.other (by simp) _, by
            obtain ⟨arr, h1, h2, h3⟩ := hrow2
            exact ⟨_, Go.Joins.block_setCell h1 _, by simp [h2], fun i hi => absurd hi (Nat.not_lt_zero _)⟩, hb.setCell (by simp) _, by simpa using hsz⟩
          case measure => simp [intOf]; omega
        · have hv := hrow.vrow
          have hlv := vsF_length zs k
          have hsv := vsF_sorted zs k
          have hbv := vsF_bd zs k hlen
          have hg1 : w.heap.size < wr.heap.size := by omega
          clear hrow hrow2 hj
          generalize vsF zs k = vs at *
          subst hlv
          cases onO
          · go_wp2_with fail
            refine (new6 wr).mono ?_
            rintro e W ⟨g, r, rfl, hM⟩
            have k13 := hM.c13
            have k14 := hM.c14
            have k16 := hM.c16
            have kf := hM.fz
            have kg := hM.ug
            have hmk2 := make28
            go_upto_region 22 with fail
            refine wp_gen (fun W1 => S1 w W1 g W.heap.size r w.heap.size 0 vs) (stage1 hM hb hv hsz rfl) ?_
            intro W1 hS
            clear k13 k14 k16 kf kg hmk2 hM hb hv hsz hg1
            generalize W.heap.size = gv at *
            by_cases hT : 0 ≤ t
            · obtain ⟨T, hT1, hT2⟩ : ∃ T : Nat, t.tmod 3 = (T : Int) ∧ T < 3 := ⟨(t % 3).toNat, by rw [Int.tmod_eq_emod_of_nonneg hT]; omega, by omega⟩
              have hT3 : (T : Int) < 3 := by omega
              go_wp2_with fail
              refine (pick7 w.heap.size vs cp W1 hlen hcp.1 hcp.2 hS.row hbv).mono ?_
              rintro e w2 ⟨⟨c, hc1, hc2, rfl⟩, rfl⟩
              have k13 := hS.c13
              have kf := hS.fz 13
              have kg := hS.ug
              have hmk3 := make25three
              go_upto_region 29 with fail
              refine wp_gen (fun W2 => S2 w W2 g gv w2.heap.size r w.heap.size T 0 vs (c + 1) (.map #[] 0)) (stage2 hS hT2) ?_
              intro W2 hS2
              clear k13 kf kg hmk3 hS
              generalize w2.heap.size = gc at *
              go_wp2_with fail
              refine (pick7 w.heap.size vs ep W2 hlen hep.1 hep.2 hS2.ms.row hbv).mono ?_
              rintro e w3 ⟨⟨E, hE1, hE2, rfl⟩, rfl⟩
              have k16 := hS2.ms.c16
              cases hasE
              · have hup := upd_empty r 0 T 1 (.int .i32 (E + 1)) w3 hS2.ms.map
                go_upto_region 34 with (at_mapUpdate; refine wpList_mapUpdate_run _ rfl _ _ _ 31 rfl (.map (some r)) (key2 T 1) (.int .i32 (E + 1)) rfl rfl rfl _ hup ?_)
                refine wp_gen (fun W4 => S2 w W4 g gv gc r w.heap.size T 0 vs (c + 1) (.map #[{ key := key2 T 1, val := .int .i32 (E + 1), born := 0 }] 1)) (hS2.turn _) ?_
                intro W4 hS4
                clear k16 hup hS2
                have hlk : Looks r T 0 (.map #[{ key := key2 T 1, val := .int .i32 (E + 1), born := 0 }] 1) .none := fun W h => look_miss r 1 0 T 0 T 1 _ W (by simp) h
                go_wp2_with fail
                refine (place_any g gv gc r w.heap.size T 0 vs (c + 1) .none _ W4 hlen hT2 (by omega) hsv (by omega) (by omega) hS4.c14 hS4.cgv hS4.ms hlk).mono ?_
                rintro e w5 ⟨⟨res, hres, rfl⟩, hb5⟩
                have hbel : Below w.heap.size w w5 := hS4.bel.trans (hb5.mono hS4.bel.size)
                have hrow5 : VRow w5 w.heap.size vs := hS4.ms.row.below hb5 hS4.ms.lg1
                clear hS4 hb5 hlk
                by_cases hc : 0 < c + 1
                · go_wp2_with fail
                  refine (idx9 w.heap.size vs _ w5 hlen hrow5).mono ?_
                  rintro e w6 ⟨⟨r1, hr1, hr2, hr3, rfl⟩, rfl⟩
                  have hr1' : IsIdx vs (c + 1 - 1) r1 := by first | exact hr1 | (rw [show c + 1 - 1 = c from by omega]; exact hr1)
                  clear hr1
                  by_cases h0 : 0 ≤ r1
                  · go_wp2_with fail
                    go_ret
                    exact ⟨ret_boolA (by rw [placed_a hc hr1' h0 hres]; simp), hbel⟩
                  · have hm : r1 = -1 := by omega
                    have hq := placed_b (.inr (hm ▸ hr1')) hres
                    have HM : Hid (r1 = -1) := hm
                    clear hr1' hm
                    go_wp2_with fail
                    go_ret
                    exact ⟨ret_boolA (by rw [HM.out, show res = -1 from hq]; simp), hbel⟩
                · have hq := placed_b (.inl (by omega)) hres
                  go_wp2_with fail
                  go_ret
                  exact ⟨ret_boolA (by rw [show res = -1 from hq]; simp), hbel⟩
              · have hup := upd_empty r 0 T 0 (.int .i32 E) w3 hS2.ms.map
                go_upto_region 33 with (at_mapUpdate; refine wpList_mapUpdate_run _ rfl _ _ _ 31 rfl (.map (some r)) (key2 T 0) (.int .i32 E) rfl rfl rfl _ hup ?_)
                refine wp_gen (fun W3 => S2 w W3 g gv gc r w.heap.size T 0 vs (c + 1) (.map #[{ key := key2 T 0, val := .int .i32 E, born := 0 }] 1)) (hS2.turn _) ?_
                intro W3 hS3
                clear k16 hup hS2
                have k16 := hS3.ms.c16
                have hup := upd_one r 1 0 T 1 T 0 (.int .i32 (E + 1)) (.int .i32 E) W3 (by simp) hS3.ms.map
                go_upto_region 34 with (at_mapUpdate; refine wpList_mapUpdate_run _ rfl _ _ _ 31 rfl (.map (some r)) (key2 T 1) (.int .i32 (E + 1)) rfl rfl rfl _ hup ?_)
                refine wp_gen (fun W4 => S2 w W4 g gv gc r w.heap.size T 0 vs (c + 1) (.map #[{ key := key2 T 0, val := .int .i32 E, born := 0 }, { key := key2 T 1, val := .int .i32 (E + 1), born := 1 }] 2)) (hS3.turn _) ?_
                intro W4 hS4
                clear k16 hup hS3
                have hlk : Looks r T 0 (.map #[{ key := key2 T 0, val := .int .i32 E, born := 0 }, { key := key2 T 1, val := .int .i32 (E + 1), born := 1 }] 2) (.some E) := fun W h => look_hit r 2 0 T 0 _ _ W h
                go_wp2_with fail
                refine (place_any g gv gc r w.heap.size T 0 vs (c + 1) (.some E) _ W4 hlen hT2 (by omega) hsv (by omega) (by omega) hS4.c14 hS4.cgv hS4.ms hlk).mono ?_
                rintro e w5 ⟨⟨res, hres, rfl⟩, hb5⟩
                have hbel : Below w.heap.size w w5 := hS4.bel.trans (hb5.mono hS4.bel.size)
                have hrow5 : VRow w5 w.heap.size vs := hS4.ms.row.below hb5 hS4.ms.lg1
                clear hS4 hb5 hlk
                by_cases hc : 0 < c + 1
                · go_wp2_with fail
                  refine (idx9 w.heap.size vs _ w5 hlen hrow5).mono ?_
                  rintro e w6 ⟨⟨r1, hr1, hr2, hr3, rfl⟩, rfl⟩
                  have hr1' : IsIdx vs (c + 1 - 1) r1 := by first | exact hr1 | (rw [show c + 1 - 1 = c from by omega]; exact hr1)
                  clear hr1
                  by_cases h0 : 0 ≤ r1
                  · go_wp2_with fail
                    go_ret
                    exact ⟨ret_boolA (by rw [placed_a hc hr1' h0 hres]; simp), hbel⟩
                  · have hm : r1 = -1 := by omega
                    have hq := placed_b (.inr (hm ▸ hr1')) hres
                    have HM : Hid (r1 = -1) := hm
                    clear hr1' hm
                    go_wp2_with fail
                    refine (idx9 w.heap.size vs E w6 hlen hrow5).mono ?_
                    rintro e w7 ⟨⟨r2, hs1, hs2, hs3, rfl⟩, rfl⟩
                    go_wp2_with fail
                    go_ret
                    exact ⟨ret_boolA (by rw [IsIdx.uniq hq hs1]; simp), hbel⟩
                · have hq := placed_b (.inl (by omega)) hres
                  go_wp2_with fail
                  refine (idx9 w.heap.size vs E w5 hlen hrow5).mono ?_
                  rintro e w7 ⟨⟨r2, hs1, hs2, hs3, rfl⟩, rfl⟩
                  go_wp2_with fail
                  go_ret
                  exact ⟨ret_boolA (by rw [IsIdx.uniq hq hs1]; simp), hbel⟩
            · go_wp2_with fail
              refine (pick7 w.heap.size vs cp W1 hlen hcp.1 hcp.2 hS.row hbv).mono ?_
              rintro e w2 ⟨⟨c, hc1, hc2, rfl⟩, rfl⟩
              have k13 := hS.c13
              have kf := hS.fz 13
              have kg := hS.ug
              have hmk3 := make25three
              have hlg := hS.lg
              have hs2 := hS.bel.size
              have hbel : Below w.heap.size w ((w2.setCell ⟨g, 13, none⟩ (.slice (some ⟨w2.heap.size, 0, none⟩) 3 3)).alloc (.cells #[.int .i32 0, .int .i32 0, .int .i32 0] 21)) := (hS.bel.setCell (by simp; omega) _).alloc (by simp; omega) _
              have hrow : VRow ((w2.setCell ⟨g, 13, none⟩ (.slice (some ⟨w2.heap.size, 0, none⟩) 3 3)).alloc (.cells #[.int .i32 0, .int .i32 0, .int .i32 0] 21)) w.heap.size vs := fun i hi => by
                rw [World.cell?_alloc_past _ _ _ (by simpa using hS.ug1), cell_other (by intro h; simp at h; have := hS.ng1; omega)]
                exact hS.row i hi
              go_upto_region 29 with fail
              refine wp_gen (fun W2 => Below w.heap.size w W2 ∧ VRow W2 w.heap.size vs) ⟨hbel, hrow⟩ ?_
              rintro W2 ⟨hb2, hr2⟩
              clear k13 kf kg hmk3 hlg hs2 hbel hrow hS
              go_wp2_with fail
              refine (pick7 w.heap.size vs ep W2 hlen hep.1 hep.2 hr2 hbv).mono ?_
              rintro e w3 ⟨⟨E, hE1, hE2, rfl⟩, rfl⟩
              go_wp2_with fail
              refine (place_neg g 0 (-1) (by omega) _ (by omega)).mono ?_
              rintro e w4 ⟨rfl, rfl⟩
              go_wp2_with fail
              go_ret
              exact ⟨ret_boolA rfl, hb2⟩
          · go_wp2_with fail
            refine (new6 wr).mono ?_
            rintro e W ⟨g, r, rfl, hM⟩
            have k13 := hM.c13
            have k14 := hM.c14
            have k16 := hM.c16
            have kf := hM.fz
            have kg := hM.ug
            have hmk2 := make28
            go_upto_region 22 with fail
            refine wp_gen (fun W1 => S1 w W1 g W.heap.size r w.heap.size 1 vs) (stage1 hM hb hv hsz rfl) ?_
            intro W1 hS
            clear k13 k14 k16 kf kg hmk2 hM hb hv hsz hg1
            generalize W.heap.size = gv at *
            by_cases hT : 0 ≤ t
            · obtain ⟨T, hT1, hT2⟩ : ∃ T : Nat, t.tmod 3 = (T : Int) ∧ T < 3 := ⟨(t % 3).toNat, by rw [Int.tmod_eq_emod_of_nonneg hT]; omega, by omega⟩
              have hT3 : (T : Int) < 3 := by omega
              go_wp2_with fail
              refine (pick7 w.heap.size vs cp W1 hlen hcp.1 hcp.2 hS.row hbv).mono ?_
              rintro e w2 ⟨⟨c, hc1, hc2, rfl⟩, rfl⟩
              have k13 := hS.c13
              have kf := hS.fz 13
              have kg := hS.ug
              have hmk3 := make25three
              go_upto_region 29 with fail
              refine wp_gen (fun W2 => S2 w W2 g gv w2.heap.size r w.heap.size T 1 vs (c + 1) (.map #[] 0)) (stage2 hS hT2) ?_
              intro W2 hS2
              clear k13 kf kg hmk3 hS
              generalize w2.heap.size = gc at *
              go_wp2_with fail
              refine (pick7 w.heap.size vs ep W2 hlen hep.1 hep.2 hS2.ms.row hbv).mono ?_
              rintro e w3 ⟨⟨E, hE1, hE2, rfl⟩, rfl⟩
              have k16 := hS2.ms.c16
              cases hasE
              · have hup := upd_empty r 0 T 0 (.int .i32 (E + 1)) w3 hS2.ms.map
                go_upto_region 34 with (at_mapUpdate; refine wpList_mapUpdate_run _ rfl _ _ _ 31 rfl (.map (some r)) (key2 T 0) (.int .i32 (E + 1)) rfl rfl rfl _ hup ?_)
                refine wp_gen (fun W4 => S2 w W4 g gv gc r w.heap.size T 1 vs (c + 1) (.map #[{ key := key2 T 0, val := .int .i32 (E + 1), born := 0 }] 1)) (hS2.turn _) ?_
                intro W4 hS4
                clear k16 hup hS2
                have hlk : Looks r T 1 (.map #[{ key := key2 T 0, val := .int .i32 (E + 1), born := 0 }] 1) .none := fun W h => look_miss r 1 0 T 1 T 0 _ W (by simp) h
                go_wp2_with fail
                refine (place_any g gv gc r w.heap.size T 1 vs (c + 1) .none _ W4 hlen hT2 (by omega) hsv (by omega) (by omega) hS4.c14 hS4.cgv hS4.ms hlk).mono ?_
                rintro e w5 ⟨⟨res, hres, rfl⟩, hb5⟩
                have hbel : Below w.heap.size w w5 := hS4.bel.trans (hb5.mono hS4.bel.size)
                have hrow5 : VRow w5 w.heap.size vs := hS4.ms.row.below hb5 hS4.ms.lg1
                clear hS4 hb5 hlk
                by_cases hc : 0 < c + 1
                · go_wp2_with fail
                  refine (idx9 w.heap.size vs _ w5 hlen hrow5).mono ?_
                  rintro e w6 ⟨⟨r1, hr1, hr2, hr3, rfl⟩, rfl⟩
                  have hr1' : IsIdx vs (c + 1 - 1) r1 := by first | exact hr1 | (rw [show c + 1 - 1 = c from by omega]; exact hr1)
                  clear hr1
                  by_cases h0 : 0 ≤ r1
                  · go_wp2_with fail
                    go_ret
                    exact ⟨ret_boolA (by rw [placed_a hc hr1' h0 hres]; simp), hbel⟩
                  · have hm : r1 = -1 := by omega
                    have hq := placed_b (.inr (hm ▸ hr1')) hres
                    have HM : Hid (r1 = -1) := hm
                    clear hr1' hm
                    go_wp2_with fail
                    go_ret
                    exact ⟨ret_boolA (by rw [HM.out, show res = -1 from hq]; simp), hbel⟩
                · have hq := placed_b (.inl (by omega)) hres
                  go_wp2_with fail
                  go_ret
                  exact ⟨ret_boolA (by rw [show res = -1 from hq]; simp), hbel⟩
              · have hup := upd_empty r 0 T 1 (.int .i32 E) w3 hS2.ms.map
                go_upto_region 33 with (at_mapUpdate; refine wpList_mapUpdate_run _ rfl _ _ _ 31 rfl (.map (some r)) (key2 T 1) (.int .i32 E) rfl rfl rfl _ hup ?_)
                refine wp_gen (fun W3 => S2 w W3 g gv gc r w.heap.size T 1 vs (c + 1) (.map #[{ key := key2 T 1, val := .int .i32 E, born := 0 }] 1)) (hS2.turn _) ?_
                intro W3 hS3
                clear k16 hup hS2
                have k16 := hS3.ms.c16
                have hup := upd_one r 1 0 T 0 T 1 (.int .i32 (E + 1)) (.int .i32 E) W3 (by simp) hS3.ms.map
                go_upto_region 34 with (at_mapUpdate; refine wpList_mapUpdate_run _ rfl _ _ _ 31 rfl (.map (some r)) (key2 T 0) (.int .i32 (E + 1)) rfl rfl rfl _ hup ?_)
                refine wp_gen (fun W4 => S2 w W4 g gv gc r w.heap.size T 1 vs (c + 1) (.map #[{ key := key2 T 1, val := .int .i32 E, born := 0 }, { key := key2 T 0, val := .int .i32 (E + 1), born := 1 }] 2)) (hS3.turn _) ?_
                intro W4 hS4
                clear k16 hup hS3
                have hlk : Looks r T 1 (.map #[{ key := key2 T 1, val := .int .i32 E, born := 0 }, { key := key2 T 0, val := .int .i32 (E + 1), born := 1 }] 2) (.some E) := fun W h => look_hit r 2 0 T 1 _ _ W h
                go_wp2_with fail
                refine (place_any g gv gc r w.heap.size T 1 vs (c + 1) (.some E) _ W4 hlen hT2 (by omega) hsv (by omega) (by omega) hS4.c14 hS4.cgv hS4.ms hlk).mono ?_
                rintro e w5 ⟨⟨res, hres, rfl⟩, hb5⟩
                have hbel : Below w.heap.size w w5 := hS4.bel.trans (hb5.mono hS4.bel.size)
                have hrow5 : VRow w5 w.heap.size vs := hS4.ms.row.below hb5 hS4.ms.lg1
                clear hS4 hb5 hlk
                by_cases hc : 0 < c + 1
                · go_wp2_with fail
                  refine (idx9 w.heap.size vs _ w5 hlen hrow5).mono ?_
                  rintro e w6 ⟨⟨r1, hr1, hr2, hr3, rfl⟩, rfl⟩
                  have hr1' : IsIdx vs (c + 1 - 1) r1 := by first | exact hr1 | (rw [show c + 1 - 1 = c from by omega]; exact hr1)
                  clear hr1
                  by_cases h0 : 0 ≤ r1
                  · go_wp2_with fail
                    go_ret
                    exact ⟨ret_boolA (by rw [placed_a hc hr1' h0 hres]; simp), hbel⟩
                  · have hm : r1 = -1 := by omega
                    have hq := placed_b (.inr (hm ▸ hr1')) hres
                    have HM : Hid (r1 = -1) := hm
                    clear hr1' hm
                    go_wp2_with fail
                    refine (idx9 w.heap.size vs E w6 hlen hrow5).mono ?_
                    rintro e w7 ⟨⟨r2, hs1, hs2, hs3, rfl⟩, rfl⟩
                    go_wp2_with fail
                    go_ret
                    exact ⟨ret_boolA (by rw [IsIdx.uniq hq hs1]; simp), hbel⟩
                · have hq := placed_b (.inl (by omega)) hres
                  go_wp2_with fail
                  refine (idx9 w.heap.size vs E w5 hlen hrow5).mono ?_
                  rintro e w7 ⟨⟨r2, hs1, hs2, hs3, rfl⟩, rfl⟩
                  go_wp2_with fail
                  go_ret
                  exact ⟨ret_boolA (by rw [IsIdx.uniq hq hs1]; simp), hbel⟩
            · go_wp2_with fail
              refine (pick7 w.heap.size vs cp W1 hlen hcp.1 hcp.2 hS.row hbv).mono ?_
              rintro e w2 ⟨⟨c, hc1, hc2, rfl⟩, rfl⟩
              have k13 := hS.c13
              have kf := hS.fz 13
              have kg := hS.ug
              have hmk3 := make25three
              have hlg := hS.lg
              have hs2 := hS.bel.size
              have hbel : Below w.heap.size w ((w2.setCell ⟨g, 13, none⟩ (.slice (some ⟨w2.heap.size, 0, none⟩) 3 3)).alloc (.cells #[.int .i32 0, .int .i32 0, .int .i32 0] 21)) := (hS.bel.setCell (by simp; omega) _).alloc (by simp; omega) _
              have hrow : VRow ((w2.setCell ⟨g, 13, none⟩ (.slice (some ⟨w2.heap.size, 0, none⟩) 3 3)).alloc (.cells #[.int .i32 0, .int .i32 0, .int .i32 0] 21)) w.heap.size vs := fun i hi => by
                rw [World.cell?_alloc_past _ _ _ (by simpa using hS.ug1), cell_other (by intro h; simp at h; have := hS.ng1; omega)]
                exact hS.row i hi
              go_upto_region 29 with fail
              refine wp_gen (fun W2 => Below w.heap.size w W2 ∧ VRow W2 w.heap.size vs) ⟨hbel, hrow⟩ ?_
              rintro W2 ⟨hb2, hr2⟩
              clear k13 kf kg hmk3 hlg hs2 hbel hrow hS
              go_wp2_with fail
              refine (pick7 w.heap.size vs ep W2 hlen hep.1 hep.2 hr2 hbv).mono ?_
              rintro e w3 ⟨⟨E, hE1, hE2, rfl⟩, rfl⟩
              go_wp2_with fail
              refine (place_neg g 1 (-1) (by omega) _ (by omega)).mono ?_
              rintro e w4 ⟨rfl, rfl⟩
              go_wp2_with fail
              go_ret
              exact ⟨ret_boolA rfl, hb2⟩
end Go.Proofs.Ybulkmbi
