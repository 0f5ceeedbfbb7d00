import Derived.Test.YbulkmgeLaws
import Derived.Test.YbulkmgeEval3b
namespace Go.Proofs.Ybulkmge
open Go.RowKit
set_option linter.unusedVariables false

theorem Log.same {E gb : Nat} {w w' : World} {L : List Nat} (h : Log E gb w L) (hs : ∀ k, k < w.heap.size → w'.heap[k]? = w.heap[k]?) : Log E gb w' L := by
  obtain ⟨v, h1, h2⟩ := h
  refine ⟨v, (hs gb (Array.getElem?_eq_some_iff.1 h1).1).trans h1, h2.1, ?_⟩
  rcases h2.2 with h | ⟨g, cap, cur, e, hge, hh, r⟩
  · exact .inl h
  · exact .inr ⟨g, cap, cur, e, hge, (hs g (Array.getElem?_eq_some_iff.1 hh).1).trans hh, r⟩

/-- what a walk reads of a log -/
theorem Log.view {E gb : Nat} {w : World} {L : List Nat} (h : Log E gb w L) : ∃ p cap, w.cell? ⟨gb, 0, none⟩ = some (.slice p L.length cap) ∧ ∀ j (hj : j < L.length), ∃ g, p = some ⟨g, 0, none⟩ ∧ w.cell? ⟨g, j, none⟩ = some (.int .i64 (L[j] : Nat)) := by
  obtain ⟨v, h1, h2⟩ := h
  have h3 := h2
  rcases h2.2 with ⟨rfl, h0⟩ | ⟨g, cap, cur, rfl, hge, hh, r⟩
  · refine ⟨none, 0, by rw [h0]; exact cell_blk h1 0, fun j hj => by omega⟩
  · refine ⟨some ⟨g, 0, none⟩, cap, cell_blk h1 0, fun j hj => ⟨g, rfl, ?_⟩⟩
    rw [h3.cellAt j (by omega)]
    simp [hj]

/-- the world behind the second evaluation -/
structure Fin9 (B E E' gb lb kb : Nat) (w w2 : World) (A : Attr) (W : World) : Prop where
  got : Log E gb W A.log
  want : Log E' lb W A.log
  knb : W.heap[kb]? = some (.cells #[.bool A.kn] 4 (0, 0))
  same : ∀ k, k < w2.heap.size → W.heap[k]? = w2.heap[k]?
  bel : Below B w W
theorem Fin9.drewN {B E E' gb lb kb : Nat} {w w2 : World} {A : Attr} {W : World} (h : Fin9 B E E' gb lb kb w w2 A W) (q : Nat) : Fin9 B E E' gb lb kb w w2 A (W.drewN q) := ⟨h.got, h.want, h.knb, h.same, below_drewN h.bel q⟩

/-- the world ahead of it -/
structure Pre9 (B : Nat) (a : Option Addr) (len : Nat) (z : Nat → Int) (w w2 W : World) : Prop where
  j9 : J9 B (w2.heap.size + 2) w2.heap.size (w2.heap.size + 1) a len z W [] false
  same : ∀ k, k < w2.heap.size → W.heap[k]? = w2.heap[k]?
  bel : Below B w W
theorem Pre9.drewN {B : Nat} {a : Option Addr} {len : Nat} {z : Nat → Int} {w w2 W : World} (h : Pre9 B a len z w w2 W) (q : Nat) : Pre9 B a len z w w2 (W.drewN q) := ⟨⟨h.j9.log, h.j9.knb, h.j9.vals, h.j9.hE⟩, h.same, below_drewN h.bel q⟩
theorem Pre9.drew {B : Nat} {a : Option Addr} {len : Nat} {z : Nat → Int} {w w2 W : World} (h : Pre9 B a len z w w2 W) : Pre9 B a len z w w2 W.drew := ⟨⟨h.j9.log, h.j9.knb, h.j9.vals, h.j9.hE⟩, h.same, h.bel.drew⟩
theorem pre9_alloc {B : Nat} {a : Option Addr} {len : Nat} {z : Nat → Int} {w w2 : World} (hv : Vals B w2 a len z) (hb : Below B w w2) (hB : B ≤ w2.heap.size) : Pre9 B a len z w w2 ((w2.alloc (.cells #[.slice none 0 0] 26)).alloc (.cells #[.bool false] 4)) := by
  have h1 : ((w2.alloc (.cells #[.slice none 0 0] 26)).alloc (.cells #[.bool false] 4)).heap[w2.heap.size]? = some (.cells #[.slice none 0 0] 26 (0, 0)) := (Below.heap_alloc _ _ _ (by simp)).trans (heap_alloc_new w2 _)
  have h2 := heap_alloc_new (w2.alloc (.cells #[.slice none 0 0] 26)) (.cells #[.bool false] 4)
  rw [show (w2.alloc (.cells #[.slice none 0 0] 26)).heap.size = w2.heap.size + 1 from by simp] at h2
  have hb2 : Below B w2 ((w2.alloc (.cells #[.slice none 0 0] 26)).alloc (.cells #[.bool false] 4)) := ((Below.refl _ _).alloc hB _).alloc (by simp; omega) _
  exact ⟨⟨⟨_, h1, World.ownsRow_nil _ _ _ _⟩, h2, hv.below hb2, by simp⟩, fun k hk => (Below.heap_alloc _ _ _ (by simp; omega)).trans (Below.heap_alloc _ _ _ hk), hb.trans hb2⟩
theorem pre9_set {B : Nat} {a : Option Addr} {len : Nat} {z : Nat → Int} {w w2 W : World} (h : Pre9 B a len z w w2 W) (hB : B ≤ w2.heap.size) : Pre9 B a len z w w2 (W.setCell ⟨w2.heap.size + 1, 0, none⟩ (.bool false)) := by
  have hb : Below (w2.heap.size + 1) W (W.setCell ⟨w2.heap.size + 1, 0, none⟩ (.bool false)) := (Below.refl _ _).setCell (by simp) _
  refine ⟨⟨log_set h.j9.log (by omega) h.j9.knb (by decide) _, ?_, h.j9.vals.below (hb.mono (by omega)), Nat.le_trans h.j9.hE hb.size⟩, fun k hk => (hb.block k (by omega)).trans (h.same k hk), h.bel.trans (hb.mono (by omega))⟩
  exact one_setCell h.j9.knb

theorem fin9 {B E gb : Nat} {a : Option Addr} {len : Nat} {z : Nat → Int} {w w2 W W' : World} {A : Attr} (h : Pre9 B a len z w w2 W) (hB : B ≤ w2.heap.size) (hlog : Log E gb w2 A.log) (hj : J9 B (w2.heap.size + 2) w2.heap.size (w2.heap.size + 1) a len z W' ([] ++ A.log) (false || A.kn)) (hf : Frame (w2.heap.size + 2) (two w2.heap.size (w2.heap.size + 1)) W W') : Fin9 B E (w2.heap.size + 2) gb w2.heap.size (w2.heap.size + 1) w w2 A W' := by
  have hs : ∀ k, k < w2.heap.size → W'.heap[k]? = w2.heap[k]? := fun k hk => (hf.block k (by omega) (fun e => by rcases e with e | e <;> omega)).trans (h.same k hk)
  refine ⟨hlog.same hs, by simpa using hj.log, by simpa using hj.knb, hs, h.bel.trans (hf.below (by omega) (fun k hk e => by rcases e with e | e <;> omega))⟩

set_option maxRecDepth 100000 in
set_option maxHeartbeats 1000000 in
theorem calls_walk (a0 a1 : Option Addr) (len0 cap0 len1 cap1 : Nat) (z0 z1 : Nat → Int) (w : World) (hl0 : len0 ≤ 1024) (hl1 : len1 ≤ 1024) (hv0 : Vals w.heap.size w a0 len0 z0) (hv1 : Vals w.heap.size w a1 len1 z1) :
    Calls Yba.prog 3 #[.slice a0 len0 cap0, .slice a1 len1 cap1] w fun e w' => e = .returned (.bool true) ∧ Below w.heap.size w w' := by
  obtain ⟨nc, hnc⟩ : ∃ nc : Nat, nc = if len1 = 0 then 1 else len1 := ⟨_, rfl⟩
  have hnc1 : nc ≤ 1024 := by split at hnc <;> omega
  have hnc0 : 0 < nc := by split at hnc <;> omega
  have hb0 : Below w.heap.size w (w.alloc (.cells #[.slice a1 len1 cap1] 22)) := (Below.refl _ _).alloc (Nat.le_refl _) _
  have HM : Hid (Calls Yba.prog 5 #[.slice a0 len0 cap0, .slice a1 len1 cap1] (w.alloc (.cells #[.slice a1 len1 cap1] 22)) fun e w' => ∃ (eb cb : Nat) (x : NF) (A : Attr), e = .returned (.tuple #[.pointer (some ⟨eb, 0, none⟩), .int .i64 nc]) ∧ Made (w.alloc (.cells #[.slice a1 len1 cap1] 22)).heap.size (w.alloc (.cells #[.slice a1 len1 cap1] 22)) w' eb cb nc (valF len1 z1) bitF x A) :=
    make5 a0 a1 len0 cap0 len1 cap1 nc z0 (valF len1 z1) bitF _ hl0 hl1 hnc ((hv0.below hb0).mono (by simp))
  have HV1 : Hid (Vals w.heap.size w a1 len1 z1) := hv1
  clear hnc hv0 hv1
  have hg0 : ¬ (1024 : Int) < (len0 : Int) := by omega
  have hg1 : ¬ (1024 : Int) < (len1 : Int) := by omega
  have hg0' : decide ((1024 : Int) < (len0 : Int)) = false := decide_eq_false hg0
  have hg1' : decide ((1024 : Int) < (len1 : Int)) = false := decide_eq_false hg1
  go_enter Yba.func3, Yba.ntmps3
  go_wp2_with fail
  refine HM.out.mono ?_
  rintro e W1 ⟨eb, cb, x, A, rfl, hMd⟩
  clear HM
  have hsz := hMd.bel.size
  have hsz1 : w.heap.size + 1 ≤ W1.heap.size := by simpa using hsz
  have heb : eb < W1.heap.size := (Array.getElem?_eq_some_iff.1 hMd.blk).1
  have hlo : w.heap.size + 1 ≤ eb := by have := hMd.lo; simpa using this
  have hbel1 : Below w.heap.size w W1 := hb0.trans (hMd.bel.mono (by simp))
  have hbox1 : W1.heap[w.heap.size]? = some (.cells #[.slice a1 len1 cap1] 22 (0, 0)) := (hMd.bel.block _ (by simp)).trans (heap_alloc_new w _)
  have hS := m_log hMd.orig
  obtain ⟨V, hV⟩ : ∃ V, V = W1.alloc (.cells #[.slice none 0 0] 26) := ⟨_, rfl⟩
  have hVs : V.heap.size = W1.heap.size + 1 := by rw [hV]; simp
  have hVk : ∀ k, k < W1.heap.size → V.heap[k]? = W1.heap[k]? := fun k hk => by rw [hV]; exact Below.heap_alloc _ _ _ hk
  have hVg : V.heap[W1.heap.size]? = some (.cells #[.slice none 0 0] 26 (0, 0)) := by rw [hV]; exact heap_alloc_new W1 _
  have hVb : Below w.heap.size w V := by rw [hV]; exact hbel1.alloc (by omega) _
  have hVl : Log (W1.heap.size + 1) W1.heap.size V [] := ⟨_, hVg, World.ownsRow_nil _ _ _ _⟩
  have hVo : OrigF (valF len1 z1) bitF nc 5 (rng (w.alloc (.cells #[.slice a1 len1 cap1] 22)).heap.size eb) V x A := orig_keep 5 hMd.orig (fun k hk _ => hVk k (by have := hk.2; omega))
  have HX : Hid (Calls Yba.prog 8 #[.pointer (some ⟨eb, 0, none⟩), .func (.func 6) #[] #[.pointer (some ⟨W1.heap.size, 0, none⟩), .pointer (some ⟨w.heap.size, 0, none⟩)]] V fun e w' => ExprP (valF len1 z1) bitF nc cb A eb V.heap.size (sup (rng (w.alloc (.cells #[.slice a1 len1 cap1] 22)).heap.size eb) V.heap.size) e w' ∧ I6 w.heap.size (W1.heap.size + 1) W1.heap.size w.heap.size a1 len1 cap1 z1 w' ([] ++ A.log) ∧ Frame (W1.heap.size + 1) (fun k => k = W1.heap.size) V w' ∧ Keep37 V w') :=
    expr8 6 #[.pointer (some ⟨W1.heap.size, 0, none⟩), .pointer (some ⟨w.heap.size, 0, none⟩)] nc (valF len1 z1) bitF (W1.heap.size + 1) (fun k => k = W1.heap.size) (I6 w.heap.size (W1.heap.size + 1) W1.heap.size w.heap.size a1 len1 cap1 z1) (grow6 (by omega) (by omega)) (part_all 6 _ nc (valF len1 z1) bitF (valF_bd len1 z1) (W1.heap.size + 1) (fun k => k = W1.heap.size) _ (clos6 hl1 hnc1 (by omega) (by omega)) enter6 (grow6 (by omega) (by omega)) 5) eb cb x A (rng (w.alloc (.cells #[.slice a1 len1 cap1] 22)).heap.size eb) V [] (fun k hk => by have := hk.2; exact ⟨by omega, by omega⟩) (by omega) (by omega) (fun h => Nat.lt_irrefl _ h.2) (by omega) (by have := hS.len; simp; omega) ((hVk eb heb).trans hMd.blk) hVo ⟨hVl, (hVk _ (by omega)).trans hbox1, HV1.out.below hVb, by omega⟩
  have HVB : Hid (V.heap[eb]? = _) := (hVk eb heb).trans hMd.blk
  have HVO : Hid (OrigF (valF len1 z1) bitF nc 5 (rng (w.alloc (.cells #[.slice a1 len1 cap1] 22)).heap.size eb) V x A) := hVo
  clear hMd hVo hVl hVg hVk
  go_upto_region 6 with fail
  rw [← hV]
  clear hV
  go_wp2_with fail
  refine HX.out.mono ?_
  rintro e w2 ⟨hP, hI, hF, hK⟩
  clear HX
  have hs2 := hF.size
  have hblk : w2.heap[eb]? = _ := (hF.block eb (by omega) (by omega)).trans HVB.out
  have hO2 := orig_keep 5 HVO.out (hK.keepS _)
  have hbel2 : Below w.heap.size w w2 := hVb.trans (hF.below (by omega) (fun k hk e => by omega))
  have HE : Hid (∀ W, Pre9 w.heap.size a1 len1 z1 w w2 W → Calls Yba.prog 9 #[.pointer (some ⟨eb, 1, none⟩), .slice a1 len1 cap1, .pointer (some ⟨w2.heap.size, 0, none⟩), .pointer (some ⟨w2.heap.size + 1, 0, none⟩)] W fun e w' => e = .returned (.int .u8 A.m) ∧ Fin9 w.heap.size (W1.heap.size + 1) (w2.heap.size + 2) W1.heap.size w2.heap.size (w2.heap.size + 1) w w2 A w') := fun W hW => by
    have hbW := (hW.same eb (by omega)).trans hblk
    refine (eval9 w.heap.size (w2.heap.size + 2) w2.heap.size (w2.heap.size + 1) a1 len1 cap1 nc z1 hl1 hnc1 (by omega) (by omega) (by omega) (by omega) 5 eb 1 x.n x.cap x.o x.c x.p A (rng (w.alloc (.cells #[.slice a1 len1 cap1] 22)).heap.size eb) W [] false (fun k hk => ⟨by have := hk.2; omega, fun e => by have := hk.2; rcases e with e | e <;> omega⟩) (by omega) (fun e => by rcases e with e | e <;> omega) ⟨cell_blk hbW 1, cell_blk hbW 2, cell_blk hbW 3⟩ (orig_keep 5 hO2 (fun k hk _ => hW.same k (by have := hk.2; omega))) (by have := hS.len; simp; omega) hW.j9).mono ?_
    rintro e w' ⟨he, hj, hf⟩
    exact ⟨he, fin9 hW (by omega) (by simpa using hI.log) hj hf⟩
  have HPR : Hid (Pre9 w.heap.size a1 len1 z1 w w2 ((w2.alloc (.cells #[.slice none 0 0] 26)).alloc (.cells #[.bool false] 4))) := pre9_alloc hI.vals hbel2 (by omega)
  have hbx : w2.heap[w.heap.size]? = some (.cells #[.slice a1 len1 cap1] 22 (0, 0)) := hI.box
  have hsl : A.log.length ≤ 243 := hS.len
  obtain ⟨q, hd, rfl, hQ⟩ : ∃ (q : Option Addr) (hd : Bool), e = .returned (.tuple #[.pointer q, .bool hd]) ∧ ((A.m ≠ 0 ∧ q = none ∧ hd = (A.m == 2)) ∨ (A.m = 0 ∧ hd = false ∧ ∃ (rb : Nat) (cs : Array Value), q = some ⟨rb, 0, none⟩ ∧ w2.heap[rb]? = some (.cells cs 39 (0, 0)) ∧ (A.kn = false → rb = eb) ∧ (A.kn = true → V.heap.size ≤ rb))) := by
    rcases hP with ⟨hm, rfl⟩ | ⟨hm, rb, y, cs, rfl, hrb, crb, hny, hgd, hk0, hk1⟩
    · exact ⟨none, _, rfl, .inl ⟨hm, rfl, rfl⟩⟩
    · exact ⟨some ⟨rb, 0, none⟩, false, rfl, .inr ⟨hm, rfl, rb, cs, rfl, hrb, hk0, hk1⟩⟩
  have HQ : Hid ((A.m ≠ 0 ∧ q = none ∧ hd = (A.m == 2)) ∨ (A.m = 0 ∧ hd = false ∧ ∃ (rb : Nat) (cs : Array Value), q = some ⟨rb, 0, none⟩ ∧ w2.heap[rb]? = some (.cells cs 39 (0, 0)) ∧ (A.kn = false → rb = eb) ∧ (A.kn = true → V.heap.size ≤ rb))) := hQ
  have HS : Hid (Sound 243 A) := hS
  clear hP hQ hS hI hK hF HVO hO2
  go_upto_region 9 with fail
  refine wp_gen (fun W => Pre9 w.heap.size a1 len1 z1 w w2 W) (by first | exact HPR.out | exact pre9_set HPR.out (by omega)) ?_
  clear HPR
  intro W3 hP3
  have c3 : W3.cell? ⟨w.heap.size, 0, none⟩ = some (.slice a1 len1 cap1) := cell_blk ((hP3.same _ (by omega)).trans hbx) 0
  go_region_with ((go_at_call 9; refine (HE.out _ hP3.drew).mono ?_; rintro e w4 ⟨rfl, hF9⟩))
  have HF9 : Hid (Fin9 w.heap.size (W1.heap.size + 1) (w2.heap.size + 2) W1.heap.size w2.heap.size (w2.heap.size + 1) w w2 A w4) := hF9
  obtain ⟨p4, cp4, g4, _⟩ := hF9.got.view
  obtain ⟨p5, cp5, g5, _⟩ := hF9.want.view
  clear hF9 hP3 c3 HE
  have hqq : ((A.log.length : Int) == (A.log.length : Int)) = true := by simp
  go_wp2_with fail
  go_loopw [48] (fun i W => ∃ k : Nat, k ≤ A.log.length ∧ i = .int .i64 k ∧ Fin9 w.heap.size (W1.heap.size + 1) (w2.heap.size + 2) W1.heap.size w2.heap.size (w2.heap.size + 1) w w2 A W) (fun i _ => A.log.length - (intOf i).toNat)
  case atStart => exact ⟨0, Nat.zero_le _, rfl, HF9.out⟩
  case round =>
    obtain ⟨k, hk, rfl, hFk⟩ := hrel
    obtain ⟨p6, cp6, g6, r6⟩ := hFk.got.view
    obtain ⟨p7, cp7, g7, r7⟩ := hFk.want.view
    by_cases hlt : k < A.log.length
    · obtain ⟨gg, rfl, e6⟩ := r6 k hlt
      obtain ⟨gl, rfl, e7⟩ := r7 k hlt
      have hlt' : (k : Int) < (A.log.length : Int) := by omega
      have hlt2 : decide ((k : Int) < (A.log.length : Int)) = true := decide_eq_true hlt'
      have hee : ((A.log[k] : Int) == (A.log[k] : Int)) = true := by simp
      clear r6 r7
      go_wp2_with fail
      go_quiet (fail)
      go_wp2_with fail
      go_round
      case rel => exact ⟨k + 1, by omega, by go_num, hFk.drewN _⟩
      case measure => simp [intOf]; omega
    · have hkl : k = A.log.length := by omega
      have hlt' : ¬ (k : Int) < (A.log.length : Int) := by omega
      have hlt2 : decide ((k : Int) < (A.log.length : Int)) = false := decide_eq_false hlt'
      have hbl := hFk.bel
      have ckn : wr.cell? ⟨w2.heap.size + 1, 0, none⟩ = some (.bool A.kn) := cell_blk hFk.knb 0
      have hsm := hFk.same
      have hml := HS.out.lo
      have hmh := HS.out.hi
      clear r6 r7 g6 g7 hFk
      rcases HQ.out with ⟨hm, rfl, rfl⟩ | ⟨hm, rfl, rb, cs, rfl, hrb, hk0, hk1⟩
      · have hm' : (A.m == 0) = false := by simp [hm]
        clear hsm HQ
        go_wp2_with fail
        go_ret
        exact ⟨ret_bool (by simp), hbl⟩
      · have hrs : rb < w2.heap.size := (Array.getElem?_eq_some_iff.1 hrb).1
        have hrw := (hsm rb hrs).trans hrb
        have hew := (hsm eb (by omega)).trans hblk
        rw [hm]
        by_cases hkn : A.kn = true
        · have hge := hk1 hkn
          have hxe := xne_other (a := ⟨rb, 0, none⟩) (b := ⟨eb, 0, none⟩) (fun e => by have := congrArg Addr.block e; simp at this; omega) hrw hew
          rw [hkn] at ckn
          clear hsm HQ hk0 hk1 hkn
          go_wp2_with fail
          go_ret
          exact ⟨rfl, hbl⟩
        · have hkf : A.kn = false := by simpa using hkn
          have hre := hk0 hkf
          subst hre
          have hxe := xeq_same ⟨rb, 0, none⟩ wr
          rw [hkf] at ckn
          clear hsm HQ hk0 hk1 hkn hkf
          go_wp2_with fail
          go_ret
          exact ⟨rfl, hbl⟩
end Go.Proofs.Ybulkmge
