import Derived.Test.YbulkmbiAWalk1
import Derived.Test.YbulkmbiMaps
import Derived.Deep.DeepCutAuto
namespace Go.Proofs.Ybulkmbi
open Go.RowKit
set_option linter.unusedVariables false

/-- from here on the world is a letter, of which Φ holds -/
theorem wp_gen {P : Program} {c : Code} {Q : Exit → Act → World → Prop} {a : Act} {W : World} (Φ : World → Prop) (h : Φ W) (k : ∀ W1, Φ W1 → c.wp P Q a W1) : c.wp P Q a W := k W h

theorem VRow.below {B : Nat} {w w' : World} {g : Nat} {vs : List Int} (h : VRow w g vs) (hb : Below B w w') (hg : g < B) : VRow w' g vs :=
  fun i hi => (hb.cell (p := ⟨g, i, none⟩) hg).trans (h i hi)

set_option maxHeartbeats 400000 in
theorem place_neg (g x : Nat) (t : Int) (ht : t < 0) (W : World) (hx : x ≤ 1) :
    Calls Yba.prog 8 #[.pointer (some ⟨g, 0, none⟩), .int .i64 t, .int .i64 x] W fun e w' => e = .returned (.int .i64 (-1)) ∧ w' = W := by
  go_enter Yba.func8, Yba.ntmps8
  go_wp2
  go_ret
  exact ⟨rfl, rfl⟩

/-- what placeOf reads of the reading behind its versions -/
structure MS (W : World) (g gc r g1 t : Nat) (vs : List Int) (c : Int) (M : Obj) : Prop where
  c13 : W.cell? ⟨g, 13, none⟩ = some (.slice (some ⟨gc, 0, none⟩) 3 3)
  cgc : W.cell? ⟨gc, t, none⟩ = some (.int .i32 c)
  c16 : W.cell? ⟨g, 16, none⟩ = some (.map (some r))
  map : W.heap[r]? = some M
  row : VRow W g1 vs
  lg : g < W.heap.size
  lgc : gc < W.heap.size
  lr : r < W.heap.size
  lg1 : g1 < W.heap.size

theorem MS.below {W W' : World} {g gc r g1 t : Nat} {vs : List Int} {c : Int} {M : Obj} (h : MS W g gc r g1 t vs c M) (hb : Below W.heap.size W W') : MS W' g gc r g1 t vs c M where
  c13 := (hb.cell (p := ⟨g, 13, none⟩) h.lg).trans h.c13
  cgc := (hb.cell (p := ⟨gc, t, none⟩) h.lgc).trans h.cgc
  c16 := (hb.cell (p := ⟨g, 16, none⟩) h.lg).trans h.c16
  map := (hb.block r h.lr).trans h.map
  row := h.row.below hb h.lg1
  lg := Nat.lt_of_lt_of_le h.lg hb.size
  lgc := Nat.lt_of_lt_of_le h.lgc hb.size
  lr := Nat.lt_of_lt_of_le h.lr hb.size
  lg1 := Nat.lt_of_lt_of_le h.lg1 hb.size

/-- what the look-up of the early version answers, wherever the map lies as it is -/
def Looks (r t x : Nat) (M : Obj) (e : Option Int) : Prop := ∀ W : World, W.heap[r]? = some M →
  (Instr.lookup 31 (.map (some r)) (.agg #[.int .i32 t, .int .i32 x]) true).run Yba.prog W = .ok (.tuple #[.int .i32 (e.getD 0), .bool e.isSome]) W

/-- what the early version gives -/
def Early (vs : List Int) (e : Option Int) (res : Int) : Prop := match e with | some y => IsIdx vs y res | none => res = -1
/-- what placeOf answers -/
def Placed (vs : List Int) (c : Int) (e : Option Int) (res : Int) : Prop :=
  (0 < c ∧ 0 ≤ res ∧ IsIdx vs (c - 1) res) ∨ ((c ≤ 0 ∨ IsIdx vs (c - 1) (-1)) ∧ Early vs e res)

theorem IsIdx.ge {vs : List Int} {x r : Int} (h : IsIdx vs x r) : 0 ≤ r ∨ r = -1 := by
  rcases h with ⟨i, _, _, _, rfl⟩ | ⟨rfl, _⟩
  · exact .inl (by omega)
  · exact .inr rfl

set_option maxRecDepth 100000 in
set_option maxHeartbeats 1000000 in
theorem place_some (g gv gc r g1 t x : Nat) (vs : List Int) (c y : Int) (M : Obj) (W : World) (hn : vs.length ≤ 1024) (ht : t < 3) (hx : x < 2)
    (hs : ∀ i j, i < j → j < vs.length → vs.getD i 0 < vs.getD j 0) (hc2 : c ≤ 1000000) (hc1 : -1000000 ≤ c)
    (c14 : W.cell? ⟨g, 14, none⟩ = some (.slice (some ⟨gv, 0, none⟩) 2 2)) (cgv : W.cell? ⟨gv, x, none⟩ = some (.slice (some ⟨g1, 0, none⟩) vs.length vs.length))
    (ms : MS W g gc r g1 t vs c M) (lk : Looks r t x M (some y)) :
    Calls Yba.prog 8 #[.pointer (some ⟨g, 0, none⟩), .int .i64 t, .int .i64 x] W fun e w' => (∃ res, Placed vs c (some y) res ∧ e = .returned (.int .i64 res)) ∧ Below W.heap.size W w' := by
  have ht' : (t : Int) < 3 := by omega
  have hx' : (x : Int) < 2 := by omega
  go_enter Yba.func8, Yba.ntmps8
  go_upto_region 4 with fail
  have b1 := (Below.refl W.heap.size W).alloc (Nat.le_refl _) (.cells #[.slice (some ⟨g1, 0, none⟩) vs.length vs.length] 25)
  refine wp_gen (fun W1 => Below W.heap.size W W1 ∧ W1.cell? ⟨W.heap.size, 0, none⟩ = some (.slice (some ⟨g1, 0, none⟩) vs.length vs.length) ∧ W.heap.size < W1.heap.size) ⟨b1, by simp, by simp⟩ ?_
  rintro W1 ⟨hb, cB, hB⟩
  clear b1 c14 cgv
  have ms1 := ms.below hb
  have k13 := ms1.c13
  have kgc := ms1.cgc
  by_cases hc : 0 < c
  · go_wp2_with fail
    refine (find13 W.heap.size g1 vs (c - 1) W1 hn hs hB ms1.lg1 cB ms1.row).mono ?_
    rintro e w2 ⟨⟨res, hres, hr1, hr2, rfl⟩, hb2⟩
    by_cases hr : 0 ≤ res
    · go_wp2_with fail
      go_ret
      exact ⟨⟨res, .inl ⟨hc, hr, hres⟩, rfl⟩, hb.trans (hb2.mono (by omega))⟩
    · have hr0 : res = -1 := by omega
      have hres0 : IsIdx vs (c - 1) (-1) := hr0 ▸ hres
      clear hres hr0
      have ms2 := ms1.below hb2
      have k16 := ms2.c16
      have hlk : (Instr.lookup 31 (.map (some r)) (.agg #[.int .i32 t, .int .i32 x]) true).run Yba.prog w2 = .ok (.tuple #[.int .i32 y, .bool true]) w2 := lk w2 ms2.map
      have cB2 := (hb2.cell (p := ⟨W.heap.size, 0, none⟩) hB).trans cB
      clear k13 kgc
      go_wp2_with (at_lookup; refine wpList_lookup_run _ rfl _ _ 31 true rfl _ _ _ rfl rfl hlk ?_)
      refine (find13 W.heap.size g1 vs y w2 hn hs (Nat.lt_of_lt_of_le hB hb2.size) ms2.lg1 cB2 ms2.row).mono ?_
      rintro e w3 ⟨⟨res2, hq, hr3, hr4, rfl⟩, hb3⟩
      clear hlk
      go_wp2_with fail
      go_ret
      exact ⟨⟨res2, .inr ⟨.inr hres0, hq⟩, rfl⟩, (hb.trans (hb2.mono (by omega))).trans (hb3.mono (by have := hb2.size; omega))⟩
  · have k16 := ms1.c16
    have hlk : (Instr.lookup 31 (.map (some r)) (.agg #[.int .i32 t, .int .i32 x]) true).run Yba.prog W1 = .ok (.tuple #[.int .i32 y, .bool true]) W1 := lk W1 ms1.map
    go_wp2_with (at_lookup; refine wpList_lookup_run _ rfl _ _ 31 true rfl _ _ _ rfl rfl hlk ?_)
    refine (find13 W.heap.size g1 vs y W1 hn hs hB ms1.lg1 cB ms1.row).mono ?_
    rintro e w3 ⟨⟨res2, hq, hr3, hr4, rfl⟩, hb3⟩
    clear hlk
    go_wp2_with fail
    go_ret
    exact ⟨⟨res2, .inr ⟨.inl (by omega), hq⟩, rfl⟩, hb.trans (hb3.mono (by omega))⟩

set_option maxRecDepth 100000 in
set_option maxHeartbeats 1000000 in
theorem place_none (g gv gc r g1 t x : Nat) (vs : List Int) (c : Int) (M : Obj) (W : World) (hn : vs.length ≤ 1024) (ht : t < 3) (hx : x < 2)
    (hs : ∀ i j, i < j → j < vs.length → vs.getD i 0 < vs.getD j 0) (hc2 : c ≤ 1000000) (hc1 : -1000000 ≤ c)
    (c14 : W.cell? ⟨g, 14, none⟩ = some (.slice (some ⟨gv, 0, none⟩) 2 2)) (cgv : W.cell? ⟨gv, x, none⟩ = some (.slice (some ⟨g1, 0, none⟩) vs.length vs.length))
    (ms : MS W g gc r g1 t vs c M) (lk : Looks r t x M none) :
    Calls Yba.prog 8 #[.pointer (some ⟨g, 0, none⟩), .int .i64 t, .int .i64 x] W fun e w' => (∃ res, Placed vs c none res ∧ e = .returned (.int .i64 res)) ∧ Below W.heap.size W w' := by
  have ht' : (t : Int) < 3 := by omega
  have hx' : (x : Int) < 2 := by omega
  go_enter Yba.func8, Yba.ntmps8
  go_upto_region 4 with fail
  have b1 := (Below.refl W.heap.size W).alloc (Nat.le_refl _) (.cells #[.slice (some ⟨g1, 0, none⟩) vs.length vs.length] 25)
  refine wp_gen (fun W1 => Below W.heap.size W W1 ∧ W1.cell? ⟨W.heap.size, 0, none⟩ = some (.slice (some ⟨g1, 0, none⟩) vs.length vs.length) ∧ W.heap.size < W1.heap.size) ⟨b1, by simp, by simp⟩ ?_
  rintro W1 ⟨hb, cB, hB⟩
  clear b1 c14 cgv
  have ms1 := ms.below hb
  have k13 := ms1.c13
  have kgc := ms1.cgc
  by_cases hc : 0 < c
  · go_wp2_with fail
    refine (find13 W.heap.size g1 vs (c - 1) W1 hn hs hB ms1.lg1 cB ms1.row).mono ?_
    rintro e w2 ⟨⟨res, hres, hr1, hr2, rfl⟩, hb2⟩
    by_cases hr : 0 ≤ res
    · go_wp2_with fail
      go_ret
      exact ⟨⟨res, .inl ⟨hc, hr, hres⟩, rfl⟩, hb.trans (hb2.mono (by omega))⟩
    · have hr0 : res = -1 := by omega
      have hres0 : IsIdx vs (c - 1) (-1) := hr0 ▸ hres
      clear hres hr0
      have ms2 := ms1.below hb2
      have k16 := ms2.c16
      have hlk : (Instr.lookup 31 (.map (some r)) (.agg #[.int .i32 t, .int .i32 x]) true).run Yba.prog w2 = .ok (.tuple #[.int .i32 0, .bool false]) w2 := lk w2 ms2.map
      have cB2 := (hb2.cell (p := ⟨W.heap.size, 0, none⟩) hB).trans cB
      clear k13 kgc
      go_wp2_with (at_lookup; refine wpList_lookup_run _ rfl _ _ 31 true rfl _ _ _ rfl rfl hlk ?_)
      go_ret
      exact ⟨⟨-1, .inr ⟨.inr hres0, rfl⟩, rfl⟩, hb.trans (hb2.mono (by omega))⟩
  · have k16 := ms1.c16
    have hlk : (Instr.lookup 31 (.map (some r)) (.agg #[.int .i32 t, .int .i32 x]) true).run Yba.prog W1 = .ok (.tuple #[.int .i32 0, .bool false]) W1 := lk W1 ms1.map
    go_wp2_with (at_lookup; refine wpList_lookup_run _ rfl _ _ 31 true rfl _ _ _ rfl rfl hlk ?_)
    go_ret
    exact ⟨⟨-1, .inr ⟨.inl (by omega), rfl⟩, rfl⟩, hb⟩

theorem place_any (g gv gc r g1 t x : Nat) (vs : List Int) (c : Int) (y : Option Int) (M : Obj) (W : World) (hn : vs.length ≤ 1024) (ht : t < 3) (hx : x < 2)
    (hs : ∀ i j, i < j → j < vs.length → vs.getD i 0 < vs.getD j 0) (hc2 : c ≤ 1000000) (hc1 : -1000000 ≤ c)
    (c14 : W.cell? ⟨g, 14, none⟩ = some (.slice (some ⟨gv, 0, none⟩) 2 2)) (cgv : W.cell? ⟨gv, x, none⟩ = some (.slice (some ⟨g1, 0, none⟩) vs.length vs.length))
    (ms : MS W g gc r g1 t vs c M) (lk : Looks r t x M y) :
    Calls Yba.prog 8 #[.pointer (some ⟨g, 0, none⟩), .int .i64 t, .int .i64 x] W fun e w' => (∃ res, Placed vs c y res ∧ e = .returned (.int .i64 res)) ∧ Below W.heap.size W w' := by
  cases y with
  | none => exact place_none g gv gc r g1 t x vs c M W hn ht hx hs hc2 hc1 c14 cgv ms lk
  | some y => exact place_some g gv gc r g1 t x vs c y M W hn ht hx hs hc2 hc1 c14 cgv ms lk
end Go.Proofs.Ybulkmbi
