import Derived.Test.YbulkmbiAWalk2
namespace Go.Proofs.Ybulkmbi
open Go.RowKit
set_option linter.unusedVariables false

/-- what newMultiversion(nil, true) leaves: the struct's block g, the map's block r -/
structure Made (w W : World) (g r : Nat) : Prop where
  bel : Below w.heap.size w W
  lg : w.heap.size ≤ g
  lr : w.heap.size ≤ r
  ug : g < W.heap.size
  ur : r < W.heap.size
  ne : g ≠ r
  map : W.heap[r]? = some (.map #[] 0)
  c13 : W.cell? ⟨g, 13, none⟩ = some (.slice none 0 0)
  c14 : W.cell? ⟨g, 14, none⟩ = some (.slice none 0 0)
  c16 : W.cell? ⟨g, 16, none⟩ = some (.map (some r))
  fz : ∀ i, W.frozen? ⟨g, i, none⟩ = false

theorem cell_blk {w : World} {g : Nat} {cs : Array Value} {t : TypeId} {fr : Nat × Nat} (h : w.heap[g]? = some (.cells cs t fr)) (i : Nat) : w.cell? ⟨g, i, none⟩ = cs[i]? := by simp [World.cell?, h]
theorem free_blk {w : World} {g : Nat} {cs : Array Value} {t : TypeId} (h : w.heap[g]? = some (.cells cs t (0, 0))) (i : Nat) : w.frozen? ⟨g, i, none⟩ = false := by simp [World.frozen?, h]

theorem made_of (w : World) (o1 o2 o3 o4 o5 o7 : Obj) (a0 a1 a2 a3 a4 a5 a6 a7 a8 a9 a10 a11 a12 a15 : Value) :
    Made w ((((((((w.alloc o1).alloc o2).alloc o3).alloc o4).alloc o5).alloc (.cells #[a0, a1, a2, a3, a4, a5, a6, a7, a8, a9, a10, a11, a12, .slice none 0 0, .slice none 0 0, a15, .map (some (w.heap.size + 1 + 1 + 1 + 1 + 1 + 1 + 1))] 41)).alloc o7).alloc (.map #[] 0)) (w.heap.size + 5) (w.heap.size + 7) := by
  have h5 : ((((((((w.alloc o1).alloc o2).alloc o3).alloc o4).alloc o5).alloc (.cells #[a0, a1, a2, a3, a4, a5, a6, a7, a8, a9, a10, a11, a12, .slice none 0 0, .slice none 0 0, a15, .map (some (w.heap.size + 1 + 1 + 1 + 1 + 1 + 1 + 1))] 41)).alloc o7).alloc (.map #[] 0)).heap[w.heap.size + 5]? = some (.cells #[a0, a1, a2, a3, a4, a5, a6, a7, a8, a9, a10, a11, a12, .slice none 0 0, .slice none 0 0, a15, .map (some (w.heap.size + 1 + 1 + 1 + 1 + 1 + 1 + 1))] 41) := by
    rw [Below.heap_alloc _ _ _ (by simp), Below.heap_alloc _ _ _ (by simp)]
    have := heap_alloc_new (((((w.alloc o1).alloc o2).alloc o3).alloc o4).alloc o5) (.cells #[a0, a1, a2, a3, a4, a5, a6, a7, a8, a9, a10, a11, a12, .slice none 0 0, .slice none 0 0, a15, .map (some (w.heap.size + 1 + 1 + 1 + 1 + 1 + 1 + 1))] 41)
    simpa using this
  refine ⟨?_, by omega, by omega, by simp, by simp, by omega, ?_, ?_, ?_, ?_, ?_⟩
  · exact ((((((((Below.refl _ _).alloc (Nat.le_refl _) _).alloc (by simp) _).alloc (by simp; omega) _).alloc (by simp; omega) _).alloc (by simp; omega) _).alloc (by simp; omega) _).alloc (by simp; omega) _).alloc (by simp; omega) _
  · have := heap_alloc_new (((((((w.alloc o1).alloc o2).alloc o3).alloc o4).alloc o5).alloc (.cells #[a0, a1, a2, a3, a4, a5, a6, a7, a8, a9, a10, a11, a12, .slice none 0 0, .slice none 0 0, a15, .map (some (w.heap.size + 1 + 1 + 1 + 1 + 1 + 1 + 1))] 41)).alloc o7) (.map #[] 0)
    simpa using this
  · exact cell_blk h5 13
  · exact cell_blk h5 14
  · exact cell_blk h5 16
  · exact fun i => free_blk h5 i

set_option maxRecDepth 100000 in
set_option maxHeartbeats 400000 in
theorem new6 (w : World) :
    Calls Yba.prog 6 #[.pointer none, .bool true] w fun e w' => ∃ g r, e = .returned (.pointer (some ⟨g, 0, none⟩)) ∧ Made w w' g r := by
  have hmm := @run_makeMap Yba.prog
  go_enter Yba.func6, Yba.ntmps6
  go_wp2
  go_ret
  exact ⟨w.heap.size + 5, w.heap.size + 7, rfl, made_of w _ _ _ _ _ _ _ _ _ _ _ _ _ _ _ _ _ _ _ _⟩

theorem half_u16 (p : Int) (hp0 : 0 ≤ p) (hp1 : p ≤ 65535) : wrap64 (IntKind.u16.wrap (p.tdiv 2)) = p / 2 := by
  rw [Int.tdiv_eq_ediv_of_nonneg hp0]
  simp only [wrap64, IntKind.wrap, IntKind.signed, IntKind.bits]
  simp
  omega

/-- what the pick can be -/
theorem pick7 (g : Nat) (vs : List Int) (p : Int) (w : World) (hn : vs.length ≤ 1024) (hp0 : 0 ≤ p) (hp1 : p ≤ 65535) (cv : VRow w g vs) (hb : ∀ i, i < vs.length → 0 ≤ vs.getD i 0 ∧ vs.getD i 0 ≤ 4096) :
    Calls Yba.prog 7 #[.slice (some ⟨g, 0, none⟩) vs.length vs.length, .int .u16 p] w fun e w' => (∃ r, -2 ≤ r ∧ r ≤ 4096 ∧ e = .returned (.int .i32 r)) ∧ w' = w := by
  by_cases h1 : 0 < vs.length
  · have h1' : (0 : Int) < (vs.length : Int) := by omega
    by_cases h2 : p % 2 = 0
    · have hm0 : 0 ≤ p / 2 % (vs.length : Int) := Int.emod_nonneg _ (by omega)
      have hm1 : p / 2 % (vs.length : Int) < (vs.length : Int) := Int.emod_lt_of_pos _ (by omega)
      obtain ⟨m, hm⟩ : ∃ m : Nat, p / 2 % (vs.length : Int) = (m : Int) := ⟨_, (Int.toNat_of_nonneg hm0).symm⟩
      have hml : m < vs.length := by omega
      have hml' : (m : Int) < (vs.length : Int) := by omega
      have hw : (wrap64 (IntKind.u16.wrap (p.tdiv 2))).tmod (vs.length : Int) = (m : Int) := by
        rw [half_u16 p hp0 hp1, Int.tmod_eq_emod_of_nonneg (by omega), hm]
      have cm := cv m hml
      have bm := hb m hml
      generalize vs.getD m 0 = v at cm bm
      clear hb cv hm hm0 hm1
      go_enter Yba.func7, Yba.ntmps7
      go_wp2
      go_ret
      exact ⟨⟨v, by omega, by omega, rfl⟩, rfl⟩
    · clear hb cv
      go_enter Yba.func7, Yba.ntmps7
      go_wp2
      go_ret
      exact ⟨⟨_, by omega, by omega, rfl⟩, rfl⟩
  · have h1' : (vs.length : Int) ≤ 0 := by omega
    clear hb cv
    go_enter Yba.func7, Yba.ntmps7
    go_wp2
    go_ret
    exact ⟨⟨_, by omega, by omega, rfl⟩, rfl⟩
end Go.Proofs.Ybulkmbi
