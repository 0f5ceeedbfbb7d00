import Derived.Test.YbulkmgeNaryP
namespace Go.Proofs.Ybulkmge
open Go.RowKit
set_option linter.unusedVariables false

set_option maxRecDepth 100000 in
set_option maxHeartbeats 4000000 in
theorem or14 (F : Nat) (caps : Array Value) (nc : Nat) (val : Nat → Int) (bit : Int → Nat → Bool) (hv : ∀ c, 0 ≤ val c ∧ val c ≤ 2) (E : Nat) (X : Nat → Prop) (I : World → List Nat → Prop) (hIg : Hid (∀ w w' row L, I w L → w.grownBy w' row → (∀ k, row = some k → Rowed w k ∧ E ≤ k) → I w' L)) (d b off ab cp : Nat) (c : Int) (ns0 : List NF) (l : List Attr) (S : Nat → Prop) (w : World) (L : List Nat)
    (hS : ∀ k, S k → k < E ∧ ¬ X k) (hb : b < E) (hbX : ¬ X b) (hSb : ¬ S b) (hE : E ≤ w.heap.size) (hL : L.length + (naryA true l).log.length ≤ 1000) (h3 : Node3 w b off 3 c (some ⟨ab, 0, none⟩) l.length cp) (h2l : 2 ≤ l.length) (h3l : l.length ≤ 3) (hcap : l.length ≤ cp) (hns : ns0.length = l.length)
    (hch : ∀ i (h1 : i < ns0.length) (h2 : i < l.length), NodeIn S w ab (i * 3) ns0[i].o ns0[i].c ns0[i].p ns0[i].n ns0[i].cap ∧ OrigF val bit nc d (minus S ab) w ns0[i] l[i]) (hI : I w L) (ih : Hid (PartC F caps val bit nc E X I d)) :
    Calls Yba.prog 14 #[.pointer (some ⟨b, off, none⟩), .func (.func F) #[] caps] w fun e w' => PartQ val bit nc E X I (d + 1) (naryA true l) S w L b off e w' := by
  have h3' := h3
  obtain ⟨c0, c1, c2⟩ := h3
  have hdec : Hid (decOf true = 2) := rfl
  have hgoodw : ∀ wr, Keep37 w wr → (naryA true l).kn = false → GoodF val bit nc (d + 1) (sup S w.heap.size) wr ⟨3, c, some ⟨ab, 0, none⟩, l.length, cp⟩ (naryA true l).f := by
    intro wr hK hkn
    have hO : Orig val bit nc (d + 1) S w 3 c (some ⟨ab, 0, none⟩) l.length cp (naryA true l) := .inr (.inr ⟨by omega, ab, l, rfl, rfl, h2l, ⟨h3l, hcap⟩, fun i hi => ⟨_, _, _, _, _, (hch i (by omega) hi).1, (hch i (by omega) hi).2⟩, rfl⟩)
    exact good_mono (d + 1) (good_of_orig hv (d + 1) (orig_keep (d + 1) hO (hK.keepS S)) hkn) (fun k hk => .inl hk)
  go_enter Yba.func14, Yba.ntmps14
  go_wp2_with fail
  go_loopw [11, 12, 75] (fun kv dv i wr => ∃ k : Nat, k ≤ l.length ∧ i = .int .i64 k ∧ NaryR E X I true l w L k wr ∧ KeptV val bit nc d S ab l w k kv dv wr) (fun _ _ i _ => l.length - (intOf i).toNat)
  case atStart => exact ⟨0, Nat.zero_le _, rfl, ⟨fun x hx => by simp at hx, by simpa [logs] using hI, Frame.refl _ _ _, Keep37.refl _⟩, .inl ⟨rfl, rfl, fun x hx => by simp at hx⟩⟩
  case round =>
    clear c0 c1 c2
    obtain ⟨k, hk, rfl, hR, hKV⟩ := hrel
    have hn1 := h3'.of_block (hR.frame.block b hb hbX)
    have c0 := hn1.c0
    have c2 := hn1.c2
    have hcl : (l.length : Int) ≤ (cp : Int) := by omega
    have hl3 : (l.length : Int) ≤ 3 := by omega
    by_cases hlt : k < l.length
    · have hlt' : (k : Int) < (l.length : Int) := by omega
      obtain ⟨hcn, hco⟩ := hch k (by omega) hlt
      have hsd : Sound (3 ^ d) l[k] := orig_sound hv d hco
      have m1 := hsd.lo
      have m2 := hsd.hi
      have hge := nary_log_ge hlt hR.no
      have hcnr := hcn.keep (hR.keep.keepS S)
      have hcor := orig_keep d hco (hR.keep.keepS (minus S ab))
      have hE1 : E ≤ wr.heap.size := Nat.le_trans hE hR.frame.size
      have hcall := ih.out ab (k * 3) (ns0[k]'(by omega)) l[k] (minus S ab) wr (L ++ logs (l.take k)) (fun j hj => hS j hj.1) (hS ab hcn.s).1 (hS ab hcn.s).2 (fun h => h.2 rfl) hE1 (by simp only [List.length_append]; omega) hcnr.at3 hcor hR.inv
      have HCALL : Hid (Calls Yba.prog 14 #[.pointer (some ⟨ab, k * 3, none⟩), .func (.func F) #[] caps] wr fun e w' => PartQ val bit nc E X I d l[k] (minus S ab) wr (L ++ logs (l.take k)) ab (k * 3) e w') := hcall
      clear hcall hcor hge
      have habw : ab < w.heap.size := hcn.row.lt
      rcases hKV with ⟨rfl, rfl, hkf⟩ | ⟨rfl, hany, kb, r, kcap, ns, rfl, hKp⟩
      · go_wp2_with fail
        refine HCALL.out.mono ?_
        rintro e w1 ⟨hP, hI1, hF1, hK1⟩
        have hn2 := hn1.of_block (hF1.block b hb hbX)
        have d0 := hn2.c0
        have d2 := hn2.c2
        clear c0 c2 HCALL
        rcases hP with ⟨hm, rfl⟩ | ⟨hm, b2, off2, x, rfl, hx, hg, hk0, hk1⟩
        · by_cases hd : l[k].m = 2
          · have hh : (l[k].m == 2) = true := by simp [hd]
            obtain ⟨e1, e2, e3⟩ := nary_hit (isOr := true) hlt hR.no (hd.trans hdec.out.symm)
            rw [hh]
            have HE1 : Hid ((naryA true l).m = decOf true) := e1
            have HE2 : Hid ((naryA true l).log = logs (l.take k) ++ l[k].log) := e2
            clear hd hm e1 e2 e3 hh
            go_wp2_with fail
            go_ret2
            exact ⟨.inl ⟨by rw [HE1.out]; exact dec_ne _, ret_pb (by rw [HE1.out]; rfl)⟩, by rw [HE2.out, ← List.append_assoc]; exact hI1, hR.frame.trans hF1, hR.keep.trans hK1⟩
          · have hh : (l[k].m == 2) = false := by
              rcases (show l[k].m = 1 ∨ l[k].m = 2 from by omega) with e | e <;> simp [e] at hd ⊢
            rw [hh]
            have hR2 := hR.step hlt (fun e => hd (e.trans hdec.out)) hI1 hF1 hK1
            have hst := Kept.start (B := w.heap.size) hv hns hch (Nat.le_of_lt hlt) (by omega) hkf hR2.keep
            have hKV2 : KeptV val bit nc d S ab l w (k + 1) (.slice (some ⟨ab, 0, none⟩) k k) (.bool true) w1 := .inr ⟨rfl, any_kn hlt hsd (.inl hm), ab, k, k, _, rfl, by rw [keptF_neg hlt hm]; exact hst⟩
            have HKV2 : Hid (KeptV val bit nc d S ab l w (k + 1) (.slice (some ⟨ab, 0, none⟩) k k) (.bool true) w1) := hKV2
            have hpn := pne_nil ⟨ab, k * 3, none⟩ w1
            clear hKV2 hst hd hm hh
            go_wp2_with fail
            go_roundw
            case rel => first | exact ⟨k + 1, by omega, by go_num, hR2, HKV2.out⟩ | ((repeat apply Exists.intro); exact ⟨⟨k + 1, by omega, by go_num, hR2, HKV2.out⟩, rfl⟩)
            case measure => simp [intOf]; omega
        · have hnd : l[k].m ≠ decOf true := by rw [hm]; exact fun e => dec_ne true e.symm
          have hR2 := hR.step hlt hnd hI1 hF1 hK1
          clear hnd
          by_cases hkn : l[k].kn = true
          · obtain ⟨hsup, hrow⟩ := hk1 hkn
            have hne : b2 ≠ ab := by
              rcases hsup with q | q
              · exact q.2
              · have := hR.frame.size; omega
            have hroww := hrow
            obtain ⟨ca, ha⟩ := hrow
            obtain ⟨cb, hb'⟩ := hcn.row.keep hR2.keep
            have hpn := pne_other (a := ⟨b2, off2, none⟩) (b := ⟨ab, k * 3, none⟩) (fun e => hne (congrArg Addr.block e)) ha hb'
            have hany2 := any_kn hlt hsd (.inr (.inl hkn))
            have hst := Kept.start (B := w.heap.size) hv hns hch (Nat.le_of_lt hlt) (by omega) hkf hR.keep
            have hxg := hst.beside (fun j hj => by have := (hS j hj).1; omega) hR.frame.size hg
            have hst1 := hst.keep hK1
            obtain ⟨i0, hi, hi0, hi1, hi2⟩ := info_parts info37
            have hnl : (ns0.take k).length = k := hst.l1
            have hKa := (hst1).keep ((Keep37.refl w1).alloc (.cells #[.int .i64 x.o, .int .i64 x.c, .slice x.p x.n x.cap] 37))
            have hlo : (flat (ns0.take k)).length = k * 3 := by rw [flat_length, (hst1).l1]
            have holds := flat_cells hKa.node
            have hnews := news3 w1 x
            have hone := one3 x
            have HST : Hid (∀ v' w2, w2.ownsRow (w1.alloc (.cells #[.int .i64 x.o, .int .i64 x.c, .slice x.p x.n x.cap] 37)).heap.size 37 3 v' (k + 1) (flat (ns0.take k) ++ x.cells) → (w1.alloc (.cells #[.int .i64 x.o, .int .i64 x.c, .slice x.p x.n x.cap] 37)).grownBy w2 none → ∃ g kc, v' = .slice (some ⟨g, 0, none⟩) (k + 1) kc ∧ NaryR E X I true l w L (k + 1) w2 ∧ KeptV val bit nc d S ab l w (k + 1) v' (.bool true) w2) := app_new hR2 hIg.out hE hlt (hst1) hxg hm hany2
            obtain ⟨x0, x1, x2⟩ := hx
            clear hkn hk0 hk1 hg hst hst1 hm hsup hany2 hxg hKa
            go_wp2_with (at_builtin; refine wpList_append_grows _ rfl _ _ 35 rfl 37 i0 (.agg #[.int .i64 0, .int .i64 0, .slice none 0 0]) 3 40 Yba.underlying35 hi hi0 hi1 hi2 rfl (by omega) (some ⟨ab, 0, none⟩) k k (flat (ns0.take k)) rfl (fun h => by cases h) hlo holds ⟨w1.heap.size, 0, none⟩ 1 1 x.cells rfl rfl hnews hone (by omega) (by unfold maxLen; omega) (by omega) ?_; intro v' w2 hown2 hgrow2; obtain ⟨g, kc, hv', hR3, hKV3⟩ := HST.out v' w2 hown2 hgrow2; subst hv')
            go_roundw
            case rel => first | exact ⟨k + 1, by omega, by go_num, hR3, hKV3⟩ | ((repeat apply Exists.intro); exact ⟨⟨k + 1, by omega, by go_num, hR3, hKV3⟩, rfl⟩)
            case measure => simp [intOf]; omega
          · have hkff : l[k].kn = false := by simpa using hkn
            obtain ⟨rfl, rfl⟩ := hk0 hkff
            have hpn := pne_same ⟨b2, k * 3, none⟩ w1
            have hKV2 : KeptV val bit nc d S b2 l w (k + 1) (.slice none 0 0) (.bool false) w1 := .inl ⟨rfl, rfl, kn_take_succ hlt hkf hkff⟩
            have HKV2 : Hid (KeptV val bit nc d S b2 l w (k + 1) (.slice none 0 0) (.bool false) w1) := hKV2
            clear hkn hk0 hk1 hkff hKV2 hm
            go_wp2_with fail
            go_roundw
            case rel => first | exact ⟨k + 1, by omega, by go_num, hR2, HKV2.out⟩ | ((repeat apply Exists.intro); exact ⟨⟨k + 1, by omega, by go_num, hR2, HKV2.out⟩, rfl⟩)
            case measure => simp [intOf]; omega
      · go_wp2_with fail
        refine HCALL.out.mono ?_
        rintro e w1 ⟨hP, hI1, hF1, hK1⟩
        have hn2 := hn1.of_block (hF1.block b hb hbX)
        have d0 := hn2.c0
        have d2 := hn2.c2
        clear c0 c2 HCALL
        rcases hP with ⟨hm, rfl⟩ | ⟨hm, b2, off2, x, rfl, hx, hg, hk0, hk1⟩
        · by_cases hd : l[k].m = 2
          · have hh : (l[k].m == 2) = true := by simp [hd]
            obtain ⟨e1, e2, e3⟩ := nary_hit (isOr := true) hlt hR.no (hd.trans hdec.out.symm)
            rw [hh]
            have HE1 : Hid ((naryA true l).m = decOf true) := e1
            have HE2 : Hid ((naryA true l).log = logs (l.take k) ++ l[k].log) := e2
            clear hd hm e1 e2 e3 hh
            go_wp2_with fail
            go_ret2
            exact ⟨.inl ⟨by rw [HE1.out]; exact dec_ne _, ret_pb (by rw [HE1.out]; rfl)⟩, by rw [HE2.out, ← List.append_assoc]; exact hI1, hR.frame.trans hF1, hR.keep.trans hK1⟩
          · have hh : (l[k].m == 2) = false := by
              rcases (show l[k].m = 1 ∨ l[k].m = 2 from by omega) with e | e <;> simp [e] at hd ⊢
            rw [hh]
            have hR2 := hR.step hlt (fun e => hd (e.trans hdec.out)) hI1 hF1 hK1
            have hKV2 : KeptV val bit nc d S ab l w (k + 1) (.slice (some ⟨kb, 0, none⟩) r kcap) (.bool true) w1 := .inr ⟨rfl, any_kn hlt hsd (.inl hm), kb, r, kcap, ns, rfl, by rw [keptF_neg hlt hm]; exact hKp.keep hK1⟩
            have HKV2 : Hid (KeptV val bit nc d S ab l w (k + 1) (.slice (some ⟨kb, 0, none⟩) r kcap) (.bool true) w1) := hKV2
            clear hKV2 hd hm hh
            go_wp2_with fail
            go_roundw
            case rel => first | exact ⟨k + 1, by omega, by go_num, hR2, HKV2.out⟩ | ((repeat apply Exists.intro); exact ⟨⟨k + 1, by omega, by go_num, hR2, HKV2.out⟩, rfl⟩)
            case measure => simp [intOf]; omega
        · have hnd : l[k].m ≠ decOf true := by rw [hm]; exact fun e => dec_ne true e.symm
          have hR2 := hR.step hlt hnd hI1 hF1 hK1
          clear hnd
          have hany2 := any_kn hlt hsd (.inr (.inr hany))
          have hxg := hKp.beside (fun j hj => by have := (hS j hj).1; omega) hR.frame.size hg
          have hKp1 := hKp.keep hK1
          obtain ⟨i0, hi, hi0, hi1, hi2⟩ := info_parts info37
          have hrl : r ≤ k := by
            have h1 := hKp.l2
            have h2 : (keptF l k).length ≤ (l.take k).length := by unfold keptF; rw [List.length_map]; exact List.length_filter_le _ _
            simp at h2; omega
          rcases hKp1.how with ⟨hkb, hkc⟩ | ⟨hkB, hown⟩
          · subst hkb hkc
            have hKa := (hKp1).keep ((Keep37.refl w1).alloc (.cells #[.int .i64 x.o, .int .i64 x.c, .slice x.p x.n x.cap] 37))
            have hlo : (flat (ns)).length = kcap * 3 := by rw [flat_length, (hKp1).l1]
            have holds := flat_cells hKa.node
            have hnews := news3 w1 x
            have hone := one3 x
            have HST : Hid (∀ v' w2, w2.ownsRow (w1.alloc (.cells #[.int .i64 x.o, .int .i64 x.c, .slice x.p x.n x.cap] 37)).heap.size 37 3 v' (kcap + 1) (flat (ns) ++ x.cells) → (w1.alloc (.cells #[.int .i64 x.o, .int .i64 x.c, .slice x.p x.n x.cap] 37)).grownBy w2 none → ∃ g kc, v' = .slice (some ⟨g, 0, none⟩) (kcap + 1) kc ∧ NaryR E X I true l w L (k + 1) w2 ∧ KeptV val bit nc d S kb l w (k + 1) v' (.bool true) w2) := app_new hR2 hIg.out hE hlt (hKp1) hxg hm hany2
            obtain ⟨x0, x1, x2⟩ := hx
            clear hk0 hk1 hg hKp hKp1 hm hany2 hxg hKa
            go_wp2_with (at_builtin; refine wpList_append_grows _ rfl _ _ 35 rfl 37 i0 (.agg #[.int .i64 0, .int .i64 0, .slice none 0 0]) 3 40 Yba.underlying35 hi hi0 hi1 hi2 rfl (by omega) (some ⟨kb, 0, none⟩) kcap kcap (flat (ns)) rfl (fun h => by cases h) hlo holds ⟨w1.heap.size, 0, none⟩ 1 1 x.cells rfl rfl hnews hone (by omega) (by unfold maxLen; omega) (by omega) ?_; intro v' w2 hown2 hgrow2; obtain ⟨g, kc, hv', hR3, hKV3⟩ := HST.out v' w2 hown2 hgrow2; subst hv')
            go_roundw
            case rel => first | exact ⟨k + 1, by omega, by go_num, hR3, hKV3⟩ | ((repeat apply Exists.intro); exact ⟨⟨k + 1, by omega, by go_num, hR3, hKV3⟩, rfl⟩)
            case measure => simp [intOf]; omega
          · have hownA := hown.alloc (.cells #[.int .i64 x.o, .int .i64 x.c, .slice x.p x.n x.cap] 37)
            have hnews := news3 w1 x
            have hone := one3 x
            have hszB : w.heap.size ≤ (w1.alloc (.cells #[.int .i64 x.o, .int .i64 x.c, .slice x.p x.n x.cap] 37)).heap.size := by have := hR2.frame.size; simp; omega
            have HST : Hid (∀ g kc w2, w2.ownsRow w.heap.size 37 3 (.slice (some ⟨g, 0, none⟩) (r + 1) kc) (r + 1) (flat ns ++ x.cells) → (w1.alloc (.cells #[.int .i64 x.o, .int .i64 x.c, .slice x.p x.n x.cap] 37)).grownBy w2 (some kb) → (some kb = some g ∨ g = w1.heap.size + 1) → NaryR E X I true l w L (k + 1) w2 ∧ KeptV val bit nc d S ab l w (k + 1) (.slice (some ⟨g, 0, none⟩) (r + 1) kc) (.bool true) w2) := app_old hR2 hIg.out hE hlt hkB hKp1 hxg hm hany2
            obtain ⟨x0, x1, x2⟩ := hx
            clear hk0 hk1 hg hKp hKp1 hm hany2 hxg
            go_wp2_with (at_builtin; refine wpList_append_lies _ rfl _ _ 35 rfl w.heap.size 37 i0 (.agg #[.int .i64 0, .int .i64 0, .slice none 0 0]) 3 40 Yba.underlying35 hi hi0 hi1 hi2 rfl (by omega) (.slice (some ⟨kb, 0, none⟩) r kcap) r (flat ns) rfl hownA ⟨w1.heap.size, 0, none⟩ 1 1 x.cells rfl rfl hnews hone (by omega) (by unfold maxLen; omega) (by omega) hszB (w1.heap.size + 1) (by simp) ?_; intro g kc w2 hown2 hgrow2 hat2 hlt2; obtain ⟨hR3, hKV3⟩ := HST.out g kc w2 hown2 hgrow2 hat2)
            go_roundw
            case rel => first | exact ⟨k + 1, by omega, by go_num, hR3, hKV3⟩ | ((repeat apply Exists.intro); exact ⟨⟨k + 1, by omega, by go_num, hR3, hKV3⟩, rfl⟩)
            case measure => simp [intOf]; omega
    · have hkl : k = l.length := by omega
      have ht : l.take k = l := by rw [hkl, List.take_length]
      have hno : ∀ x ∈ l, x.m ≠ decOf true := by have := hR.no; rwa [ht] at this
      obtain ⟨e1, e2, e3⟩ := nary_end (isOr := true) hno
      have hinv : I wr (L ++ (naryA true l).log) := by have := hR.inv; rw [ht] at this; rw [e2]; exact this
      have hs : ∀ x ∈ l, Sound (3 ^ d) x := fun x hx => by
        obtain ⟨i, hi, e⟩ := List.getElem_of_mem hx
        exact e ▸ orig_sound hv d (hch i (by omega) hi).2
      have hab : S ab := (hch 0 (by omega) (by omega)).1.s
      have HE3 : Hid ((naryA true l).kn = l.any (fun x => x.kn)) := e3
      clear e1 e2 e3 hch
      rcases hKV with ⟨rfl, rfl, hkf⟩ | ⟨rfl, hany, kb, r, kcap, ns, rfl, hKp⟩
      · have hkn : (naryA true l).kn = false := by
          rw [HE3.out, List.any_eq_false]
          intro x hx; rw [ht] at hkf; simp [hkf x hx]
        have hm0 := go_m0 hs hkn h2l
        have HM0 : Hid ((naryA true l).m = 0) := hm0
        have HKN : Hid ((naryA true l).kn = false) := hkn
        have HG := hgoodw wr hR.keep hkn
        clear hkn hm0 hkf HE3
        go_wp2_with fail
        go_ret2
        exact ⟨.inr ⟨HM0.out, b, off, ⟨3, c, some ⟨ab, 0, none⟩, l.length, cp⟩, rfl, hn1, HG, fun _ => ⟨rfl, rfl⟩, fun h => by rw [HKN.out] at h; cases h⟩, hinv, hR.frame, hR.keep⟩
      · have hkn : (naryA true l).kn = true := by rw [HE3.out, ← ht]; exact hany
        have HKN : Hid ((naryA true l).kn = true) := hkn
        rw [hkl] at hKp
        have hrl : r ≤ l.length := by
          have h1 := hKp.l2
          have h2 : (keptF l l.length).length ≤ (l.take l.length).length := by unfold keptF; rw [List.length_map]; exact List.length_filter_le _ _
          simp at h2; omega
        have hff := f_kept (isOr := true) hs hno
        have HFF : Hid ((naryA true l).f = allF true (keptF l l.length)) := hff
        have hE1 : E ≤ wr.heap.size := Nat.le_trans hE hR.frame.size
        clear hkn hany hff HE3
        by_cases hr0 : r = 0
        · have hnil : keptF l l.length = [] := List.eq_nil_of_length_eq_zero (by rw [hKp.l2, hr0])
          have hm3 := PartP.none (b := b) (off := off) (w' := wr) (S := S) (isOr := true) hs (by omega) hno hnil
          have HM3 : Hid ((naryA true l).m = 3 - decOf true) := hm3
          have hr0' : ((r : Int) == 0) = true := by simp [hr0]
          clear hnil hm3 hr0
          go_wp2_with fail
          go_ret2
          exact ⟨.inl ⟨by rw [HM3.out, hdec.out]; decide, ret_pb (by rw [HM3.out, hdec.out]; rfl)⟩, hinv, hR.frame, hR.keep⟩
        · have hnn : keptF l l.length ≠ [] := by
            intro e; have := hKp.l2; rw [e] at this; simp at this; omega
          have hm0 := m_zero (isOr := true) hno hnn
          have HM0 : Hid ((naryA true l).m = 0) := hm0
          have hr0' : ((r : Int) == 0) = false := by simp; omega
          clear hnn hm0
          by_cases hr1 : r = 1
          · subst hr1
            obtain ⟨x, G, eG, hxn, hxg⟩ := fin_one hKp hab
            have hsup := Kept.supp (w := wr) hKp hab
            have HG : Hid (keptF l l.length = [G]) := eG
            clear hr0 hr0' eG
            go_wp2_with fail
            go_ret2
            exact ⟨.inr ⟨HM0.out, kb, 0, x, rfl, hxn, (by rw [HFF.out, HG.out, allF_one]; exact hxg), (fun h => by rw [HKN.out] at h; cases h), fun _ => ⟨hsup, hKp.row⟩⟩, hinv, hR.frame, hR.keep⟩
          · have hr1' : ((r : Int) == 1) = false := by simp; omega
            have hfm := fin_many hKp hab (by omega) (by omega) 3 (by omega) (.cells #[.int .i64 3, .int .i64 0, .slice (some ⟨kb, 0, none⟩) r kcap] 37)
            have HFM : Hid (GoodF val bit nc (d + 1) (sup S w.heap.size) (wr.alloc (.cells #[.int .i64 3, .int .i64 0, .slice (some ⟨kb, 0, none⟩) r kcap] 37)) ⟨3, 0, some ⟨kb, 0, none⟩, r, kcap⟩ (allF true (keptF l l.length))) := hfm
            have hbl : (wr.alloc (.cells #[.int .i64 3, .int .i64 0, .slice (some ⟨kb, 0, none⟩) r kcap] 37)).heap[wr.heap.size]? = some (.cells #[.int .i64 3, .int .i64 0, .slice (some ⟨kb, 0, none⟩) r kcap] 37 (0, 0)) := heap_alloc_new wr _
            have HBL : Hid ((wr.alloc (.cells #[.int .i64 3, .int .i64 0, .slice (some ⟨kb, 0, none⟩) r kcap] 37)).heap[wr.heap.size]? = some (.cells #[.int .i64 3, .int .i64 0, .slice (some ⟨kb, 0, none⟩) r kcap] 37 (0, 0))) := hbl
            clear hr0 hr1 hfm hbl
            go_wp2_with fail
            go_ret2
            exact ⟨.inr ⟨HM0.out, wr.heap.size, 0, ⟨3, 0, some ⟨kb, 0, none⟩, r, kcap⟩, rfl, ⟨cell_blk HBL.out 0, cell_blk HBL.out 1, cell_blk HBL.out 2⟩, (by rw [HFF.out]; exact HFM.out), (fun h => by rw [HKN.out] at h; cases h), fun _ => ⟨.inr hR.frame.size, ⟨_, HBL.out⟩⟩⟩, hIg.out _ _ none _ hinv (World.grownBy_alloc _ _ _) (fun k hk => by cases hk), hR.frame.alloc hE1 _, hR.keep.alloc _⟩
end Go.Proofs.Ybulkmge
