import Derived.Test.YbulkmgeEval3
namespace Go.Proofs.Ybulkmge
open Go.RowKit
set_option linter.unusedVariables false

theorem ret_u8 {a b : Int} (h : a = b) : Ending.returned (.int .u8 a) = .returned (.int .u8 b) := by rw [h]
theorem keepS_of_frame {E : Nat} {X S : Nat → Prop} {w w' : World} (h : Frame E X w w') (hS : ∀ k, S k → k < E ∧ ¬ X k) : KeepS S w w' := fun k hk _ => h.block k (hS k hk).1 (hS k hk).2

set_option maxRecDepth 100000 in
set_option maxHeartbeats 2000000 in
theorem eval9 (B E lb kb : Nat) (a : Option Addr) (len cap nc : Nat) (z : Nat → Int) (hl : len ≤ 1024) (hnc : nc ≤ 1024) (hB1 : B ≤ lb) (hB2 : B ≤ kb) (hE1 : lb < E) (hE2 : kb < E) :
    ∀ (d b off n cp : Nat) (o c : Int) (p : Option Addr) (A : Attr) (S : Nat → Prop) (w : World) (L : List Nat) (K : Bool), (∀ k, S k → k < E ∧ ¬ two lb kb k) → b < E → ¬ two lb kb b → Node3 w b off o c p n cp → Orig (valF len z) bitF nc d S w o c p n cp A →
      L.length + A.log.length ≤ 1000 → J9 B E lb kb a len z w L K →
      Calls Yba.prog 9 #[.pointer (some ⟨b, off, none⟩), .slice a len cap, .pointer (some ⟨lb, 0, none⟩), .pointer (some ⟨kb, 0, none⟩)] w fun e w' => e = .returned (.int .u8 A.m) ∧ J9 B E lb kb a len z w' (L ++ A.log) (K || A.kn) ∧ Frame E (two lb kb) w w' := by
  intro d
  induction d with
  | zero =>
    intro b off n cp o c p A S w L K hS hb1 hb2 h3 he hL hJ
    obtain ⟨rfl, k, rfl, hk, rfl⟩ := he
    exact leaf9 B E lb kb a len cap z b off k n cp p w L K hl (by omega) (by omega) hB1 hB2 hE1 hE2 hb1 hb2 h3 hJ
  | succ d ih =>
    intro b off n cp o c p A S w L K hS hb1 hb2 h3 he hL hJ
    have HI : Hid (∀ (b off n cp : Nat) (o c : Int) (p : Option Addr) (A : Attr) (S : Nat → Prop) (w : World) (L : List Nat) (K : Bool), (∀ k, S k → k < E ∧ ¬ two lb kb k) → b < E → ¬ two lb kb b → Node3 w b off o c p n cp → Orig (valF len z) bitF nc d S w o c p n cp A →
      L.length + A.log.length ≤ 1000 → J9 B E lb kb a len z w L K →
      Calls Yba.prog 9 #[.pointer (some ⟨b, off, none⟩), .slice a len cap, .pointer (some ⟨lb, 0, none⟩), .pointer (some ⟨kb, 0, none⟩)] w fun e w' => e = .returned (.int .u8 A.m) ∧ J9 B E lb kb a len z w' (L ++ A.log) (K || A.kn) ∧ Frame E (two lb kb) w w') := ih
    clear ih
    rcases he with ⟨rfl, k, rfl, hk, rfl⟩ | ⟨rfl, b', o', c', p', n', cap', A', rfl, rfl, h4, h5, rfl⟩ | ⟨ho, b', l, rfl, rfl, h2l, h3l, h5, rfl⟩
    · exact leaf9 B E lb kb a len cap z b off k n cp p w L K hl (by omega) (by omega) hB1 hB2 hE1 hE2 hb1 hb2 h3 hJ
    · have hsd := orig_sound (valF_bd len z) d h5
      obtain ⟨c0, c1, c2⟩ := h3
      have hS' : ∀ k, minus S b' k → k < E ∧ ¬ two lb kb k := fun k hk => hS k hk.1
      go_enter Yba.func9, Yba.ntmps9
      go_wp2_with fail
      refine (HI.out b' 0 n' cap' o' c' p' A' (minus S b') _ L K hS' (hS b' h4.s).1 (hS b' h4.s).2 h4.at3 h5 hL hJ).mono ?_
      rintro e w1 ⟨rfl, hJ1, hF⟩
      have m1 := hsd.lo
      have m2 := hsd.hi
      have em : (notA A').m = if A'.m = 0 then 0 else 3 - A'.m := rfl
      have EM : Hid ((notA A').m = if A'.m = 0 then 0 else 3 - A'.m) := em
      clear em
      by_cases h0 : A'.m = 0
      · have h0' : (A'.m == 0) = true := by simp [h0]
        have e0 : (notA A').m = 0 := by rw [EM.out]; simp [h0]
        clear EM h0
        go_wp2_with fail
        go_ret
        exact ⟨ret_u8 (by first | rfl | exact e0.symm), hJ1, hF⟩
      · have h0' : (A'.m == 0) = false := by simp [h0]
        have e0 : (notA A').m = 3 - A'.m := by rw [EM.out]; simp [h0]
        clear EM
        go_wp2_with fail
        go_ret
        exact ⟨ret_u8 (by first | rfl | exact e0.symm), hJ1, hF⟩
    · rcases ho with rfl | rfl
      · have eo : ((2 : Int) == 3) = false := rfl
        rw [eo] at hL ⊢
        clear eo
        have hdec : decOf false = 1 := rfl
        have HDEC : Hid (decOf false = 1) := hdec
        clear hdec
        have hc0 := h3.c0
        have hc2 := h3.c2
        go_enter Yba.func9, Yba.ntmps9
        go_wp2_with fail
        go_loopw [12, 68] (fun u i wr => ∃ k : Nat, k ≤ l.length ∧ i = .int .i64 k ∧ u = .bool ((l.take k).any (fun a => a.m == 0)) ∧ (∀ x ∈ l.take k, x.m ≠ decOf false) ∧ J9 B E lb kb a len z wr (L ++ logs (l.take k)) (K || (l.take k).any (·.kn)) ∧ Frame E (two lb kb) w wr) (fun _ i _ => l.length - (intOf i).toNat)
        case atStart => exact ⟨0, Nat.zero_le _, rfl, rfl, fun x hx => by simp at hx, by simpa [logs] using hJ, Frame.refl _ _ _⟩
        case round =>
          clear hc0 hc2
          obtain ⟨k, hk, rfl, rfl, hno, hJk, hFk⟩ := hrel
          have h3k := h3.of_block (hFk.block b hb1 hb2)
          have hc0 := h3k.c0
          have hc2 := h3k.c2
          by_cases hlt : k < l.length
          · obtain ⟨o', c', p', n', cap', h6, h7⟩ := h5 k hlt
            have hsd := orig_sound (valF_bd len z) d h7
            have m1 := hsd.lo
            have m2 := hsd.hi
            have hge := nary_log_ge hlt hno
            have hS' : ∀ j, minus S b' j → j < E ∧ ¬ two lb kb j := fun j hj => hS j hj.1
            have h6k := h6.keep (keepS_of_frame hFk hS)
            have h7k := orig_keep d h7 (keepS_of_frame hFk hS')
            have hhit : l[k].m = decOf false → (naryA false l).m = 1 ∧ (naryA false l).log = logs (l.take k) ++ l[k].log ∧ (naryA false l).kn = ((l.take k).any (·.kn) || l[k].kn) := fun e => nary_hit hlt hno e
            have hls := logs_take_succ hlt
            have hk1 := any_take_succ (fun x : Attr => x.kn) hlt
            have hu1 := any_take_succ (fun x : Attr => x.m == 0) hlt
            have hne1 := fun h => ne_take_succ hlt hno h
            have HS1 : Hid (logs (l.take (k + 1)) = logs (l.take k) ++ l[k].log) := hls
            have HS2 : Hid ((l.take (k + 1)).any (fun x : Attr => x.kn) = ((l.take k).any (fun x : Attr => x.kn) || l[k].kn)) := hk1
            have HS3 : Hid ((l.take (k + 1)).any (fun x : Attr => x.m == 0) = ((l.take k).any (fun x : Attr => x.m == 0) || l[k].m == 0)) := hu1
            have HS4 : Hid (l[k].m ≠ decOf false → ∀ x ∈ l.take (k + 1), x.m ≠ decOf false) := hne1
            have HS5 : Hid (l[k].m = decOf false → (naryA false l).m = 1 ∧ (naryA false l).log = logs (l.take k) ++ l[k].log ∧ (naryA false l).kn = ((l.take k).any (·.kn) || l[k].kn)) := hhit
            clear hls hk1 hu1 hne1 hhit
            go_wp2_with fail
            refine (HI.out b' (k * 3) n' cap' o' c' p' l[k] (minus S b') wr (L ++ logs (l.take k)) (K || (l.take k).any (·.kn)) hS' (hS b' h6.s).1 (hS b' h6.s).2 h6k.at3 h7k (by simp only [List.length_append]; omega) hJk).mono ?_
            rintro e w1 ⟨rfl, hJ1, hF1⟩
            clear h6 h7 h6k h7k hsd hge
            generalize l[k] = ak at *
            by_cases hd : ak.m = 1
            · have hd' : (ak.m == 1) = true := by simp [hd]
              obtain ⟨e1, e2, e3⟩ := HS5.out (hd.trans HDEC.out.symm)
              clear hd HS1 HS2 HS3 HS4 HS5
              have HE1 : Hid ((naryA false l).m = 1) := e1
              have HE2 : Hid ((naryA false l).log = logs (l.take k) ++ ak.log) := e2
              have HE3 : Hid ((naryA false l).kn = ((l.take k).any (·.kn) || ak.kn)) := e3
              clear e1 e2 e3
              go_wp2_with fail
              go_ret
              refine ⟨ret_u8 HE1.out.symm, ?_, hFk.trans hF1⟩
              rw [HE2.out, HE3.out, ← List.append_assoc, ← Bool.or_assoc]
              exact hJ1
            · have hd' : (ak.m == 1) = false := by simp [hd]
              have hnd := HS4.out (fun e => hd (e.trans HDEC.out))
              have HND : Hid (∀ x ∈ l.take (k + 1), x.m ≠ decOf false) := hnd
              have HJ2 : Hid (J9 B E lb kb a len z w1 (L ++ logs (l.take (k + 1))) (K || (l.take (k + 1)).any (fun x : Attr => x.kn))) := by
                show J9 B E lb kb a len z w1 (L ++ logs (l.take (k + 1))) (K || (l.take (k + 1)).any (fun x : Attr => x.kn))
                rw [HS1.out, HS2.out, ← List.append_assoc, ← Bool.or_assoc]; exact hJ1
              clear hnd
              by_cases h0 : ak.m = 0
              · have h0' : (ak.m == 0) = true := by simp [h0]
                clear h0 hd
                go_wp2_with fail
                go_roundw
                case rel => exact ⟨k + 1, by omega, by go_num, by rw [HS3.out, h0']; simp, HND.out, HJ2.out, hFk.trans hF1⟩
                case measure => simp [intOf]; omega
              · have h0' : (ak.m == 0) = false := by simp [h0]
                clear h0 hd
                go_wp2_with fail
                go_roundw
                case rel => exact ⟨k + 1, by omega, by go_num, by rw [HS3.out, h0']; simp, HND.out, HJ2.out, hFk.trans hF1⟩
                case measure => simp [intOf]; omega
          · have hkl : k = l.length := by omega
            have ht : l.take k = l := by rw [hkl, List.take_length]
            rw [ht] at hno hJk ⊢
            obtain ⟨e1, e2, e3⟩ := nary_end hno
            rw [HDEC.out] at e1
            have hfin : J9 B E lb kb a len z wr (L ++ (naryA false l).log) (K || (naryA false l).kn) := by rw [e2, e3]; exact hJk
            have HE1 : Hid ((naryA false l).m = if l.any (fun x => x.m == 0) then 0 else 3 - 1) := e1
            clear e1 e2 e3 hJk ht
            cases hu : l.any (fun x => x.m == 0)
            · go_wp2_with fail
              go_ret
              exact ⟨ret_u8 (by rw [HE1.out, hu]; rfl), hfin, hFk⟩
            · go_wp2_with fail
              go_ret
              exact ⟨ret_u8 (by rw [HE1.out, hu]; rfl), hfin, hFk⟩
      · have eo : ((3 : Int) == 3) = true := rfl
        rw [eo] at hL ⊢
        clear eo
        have hdec : decOf true = 2 := rfl
        have HDEC : Hid (decOf true = 2) := hdec
        clear hdec
        have hc0 := h3.c0
        have hc2 := h3.c2
        go_enter Yba.func9, Yba.ntmps9
        go_wp2_with fail
        go_loopw [12, 68] (fun u i wr => ∃ k : Nat, k ≤ l.length ∧ i = .int .i64 k ∧ u = .bool ((l.take k).any (fun a => a.m == 0)) ∧ (∀ x ∈ l.take k, x.m ≠ decOf true) ∧ J9 B E lb kb a len z wr (L ++ logs (l.take k)) (K || (l.take k).any (·.kn)) ∧ Frame E (two lb kb) w wr) (fun _ i _ => l.length - (intOf i).toNat)
        case atStart => exact ⟨0, Nat.zero_le _, rfl, rfl, fun x hx => by simp at hx, by simpa [logs] using hJ, Frame.refl _ _ _⟩
        case round =>
          clear hc0 hc2
          obtain ⟨k, hk, rfl, rfl, hno, hJk, hFk⟩ := hrel
          have h3k := h3.of_block (hFk.block b hb1 hb2)
          have hc0 := h3k.c0
          have hc2 := h3k.c2
          by_cases hlt : k < l.length
          · obtain ⟨o', c', p', n', cap', h6, h7⟩ := h5 k hlt
            have hsd := orig_sound (valF_bd len z) d h7
            have m1 := hsd.lo
            have m2 := hsd.hi
            have hge := nary_log_ge hlt hno
            have hS' : ∀ j, minus S b' j → j < E ∧ ¬ two lb kb j := fun j hj => hS j hj.1
            have h6k := h6.keep (keepS_of_frame hFk hS)
            have h7k := orig_keep d h7 (keepS_of_frame hFk hS')
            have hhit : l[k].m = decOf true → (naryA true l).m = 2 ∧ (naryA true l).log = logs (l.take k) ++ l[k].log ∧ (naryA true l).kn = ((l.take k).any (·.kn) || l[k].kn) := fun e => nary_hit hlt hno e
            have hls := logs_take_succ hlt
            have hk1 := any_take_succ (fun x : Attr => x.kn) hlt
            have hu1 := any_take_succ (fun x : Attr => x.m == 0) hlt
            have hne1 := fun h => ne_take_succ hlt hno h
            have HS1 : Hid (logs (l.take (k + 1)) = logs (l.take k) ++ l[k].log) := hls
            have HS2 : Hid ((l.take (k + 1)).any (fun x : Attr => x.kn) = ((l.take k).any (fun x : Attr => x.kn) || l[k].kn)) := hk1
            have HS3 : Hid ((l.take (k + 1)).any (fun x : Attr => x.m == 0) = ((l.take k).any (fun x : Attr => x.m == 0) || l[k].m == 0)) := hu1
            have HS4 : Hid (l[k].m ≠ decOf true → ∀ x ∈ l.take (k + 1), x.m ≠ decOf true) := hne1
            have HS5 : Hid (l[k].m = decOf true → (naryA true l).m = 2 ∧ (naryA true l).log = logs (l.take k) ++ l[k].log ∧ (naryA true l).kn = ((l.take k).any (·.kn) || l[k].kn)) := hhit
            clear hls hk1 hu1 hne1 hhit
            go_wp2_with fail
            refine (HI.out b' (k * 3) n' cap' o' c' p' l[k] (minus S b') wr (L ++ logs (l.take k)) (K || (l.take k).any (·.kn)) hS' (hS b' h6.s).1 (hS b' h6.s).2 h6k.at3 h7k (by simp only [List.length_append]; omega) hJk).mono ?_
            rintro e w1 ⟨rfl, hJ1, hF1⟩
            clear h6 h7 h6k h7k hsd hge
            generalize l[k] = ak at *
            by_cases hd : ak.m = 2
            · have hd' : (ak.m == 2) = true := by simp [hd]
              obtain ⟨e1, e2, e3⟩ := HS5.out (hd.trans HDEC.out.symm)
              clear hd HS1 HS2 HS3 HS4 HS5
              have HE1 : Hid ((naryA true l).m = 2) := e1
              have HE2 : Hid ((naryA true l).log = logs (l.take k) ++ ak.log) := e2
              have HE3 : Hid ((naryA true l).kn = ((l.take k).any (·.kn) || ak.kn)) := e3
              clear e1 e2 e3
              go_wp2_with fail
              go_ret
              refine ⟨ret_u8 HE1.out.symm, ?_, hFk.trans hF1⟩
              rw [HE2.out, HE3.out, ← List.append_assoc, ← Bool.or_assoc]
              exact hJ1
            · have hd' : (ak.m == 2) = false := by simp [hd]
              have hnd := HS4.out (fun e => hd (e.trans HDEC.out))
              have HND : Hid (∀ x ∈ l.take (k + 1), x.m ≠ decOf true) := hnd
              have HJ2 : Hid (J9 B E lb kb a len z w1 (L ++ logs (l.take (k + 1))) (K || (l.take (k + 1)).any (fun x : Attr => x.kn))) := by
                show J9 B E lb kb a len z w1 (L ++ logs (l.take (k + 1))) (K || (l.take (k + 1)).any (fun x : Attr => x.kn))
                rw [HS1.out, HS2.out, ← List.append_assoc, ← Bool.or_assoc]; exact hJ1
              clear hnd
              by_cases h0 : ak.m = 0
              · have h0' : (ak.m == 0) = true := by simp [h0]
                clear h0 hd
                go_wp2_with fail
                go_roundw
                case rel => exact ⟨k + 1, by omega, by go_num, by rw [HS3.out, h0']; simp, HND.out, HJ2.out, hFk.trans hF1⟩
                case measure => simp [intOf]; omega
              · have h0' : (ak.m == 0) = false := by simp [h0]
                clear h0 hd
                go_wp2_with fail
                go_roundw
                case rel => exact ⟨k + 1, by omega, by go_num, by rw [HS3.out, h0']; simp, HND.out, HJ2.out, hFk.trans hF1⟩
                case measure => simp [intOf]; omega
          · have hkl : k = l.length := by omega
            have ht : l.take k = l := by rw [hkl, List.take_length]
            rw [ht] at hno hJk ⊢
            obtain ⟨e1, e2, e3⟩ := nary_end hno
            rw [HDEC.out] at e1
            have hfin : J9 B E lb kb a len z wr (L ++ (naryA true l).log) (K || (naryA true l).kn) := by rw [e2, e3]; exact hJk
            have HE1 : Hid ((naryA true l).m = if l.any (fun x => x.m == 0) then 0 else 3 - 2) := e1
            clear e1 e2 e3 hJk ht
            cases hu : l.any (fun x => x.m == 0)
            · go_wp2_with fail
              go_ret
              exact ⟨ret_u8 (by rw [HE1.out, hu]; rfl), hfin, hFk⟩
            · go_wp2_with fail
              go_ret
              exact ⟨ret_u8 (by rw [HE1.out, hu]; rfl), hfin, hFk⟩
end Go.Proofs.Ybulkmge
