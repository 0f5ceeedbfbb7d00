import Derived.Test.YbulkmbiProg
import Derived.WalkKit
import Derived.WalkSpells
import Derived.WalkLawsBesides
import Derived.Deep.QuietTactic
import Derived.BigQuiet
import Derived.Deep.RegionHeld3
namespace Go.Proofs.Ybulkmbi
open Go.RowKit
set_option linter.unusedVariables false

set_option maxHeartbeats 400000 in
theorem less15 (B1 B2 g n i : Nat) (x v : Int) (w : World) (hi : (i : Int) < (n : Int)) (hn : n ≤ 1024)
    (c1 : w.cell? ⟨B1, 0, none⟩ = some (.slice (some ⟨g, 0, none⟩) n n)) (c2 : w.cell? ⟨B2, 0, none⟩ = some (.int .i32 x)) (cv : w.cell? ⟨g, i, none⟩ = some (.int .i32 v)) :
    Calls Yba.prog 15 #[.int .i64 i, .pointer (some ⟨B1, 0, none⟩), .pointer (some ⟨B2, 0, none⟩)] w fun e w' => e = .returned (.bool (decide (x ≤ v))) ∧ ∃ q, w' = w.drewN q := by
  go_enter Yba.func15, Yba.ntmps15
  go_wp2
  go_quiet (fail)
  go_wp2
  go_ret
  exact ⟨rfl, _, rfl⟩

/-- a row of int32 numbers from the head of block g -/
def VRow (w : World) (g : Nat) (vs : List Int) : Prop := ∀ i, i < vs.length → w.cell? ⟨g, i, none⟩ = some (.int .i32 (vs.getD i 0))

set_option maxHeartbeats 400000 in
theorem search14 (B1 B2 g : Nat) (vs : List Int) (x : Int) (w : World) (hn : vs.length ≤ 1024)
    (hs : ∀ i j, i < j → j < vs.length → vs.getD i 0 < vs.getD j 0)
    (c1 : w.cell? ⟨B1, 0, none⟩ = some (.slice (some ⟨g, 0, none⟩) vs.length vs.length)) (c2 : w.cell? ⟨B2, 0, none⟩ = some (.int .i32 x)) (cv : VRow w g vs) :
    Calls Yba.prog 14 #[.int .i64 vs.length, .func (.func 15) #[] #[.pointer (some ⟨B1, 0, none⟩), .pointer (some ⟨B2, 0, none⟩)]] w fun e w' => (∃ i : Nat, i ≤ vs.length ∧ (∀ j, j < i → vs.getD j 0 < x) ∧ (∀ j, i ≤ j → j < vs.length → x ≤ vs.getD j 0) ∧ e = .returned (.int .i64 i)) ∧ ∃ q, w' = w.drewN q := by
  go_enter Yba.func14, Yba.ntmps14
  go_wp2
  go_loopw [5, 6] (fun i j wr => ∃ a b q : Nat, a ≤ b ∧ b ≤ vs.length ∧ i = .int .i64 a ∧ j = .int .i64 b ∧ (∀ k, k < a → vs.getD k 0 < x) ∧ (∀ k, b ≤ k → k < vs.length → x ≤ vs.getD k 0) ∧ wr = w.drewN q) (fun i j _ => (intOf j).toNat - (intOf i).toNat)
  case atStart => exact ⟨0, vs.length, 0, Nat.zero_le _, Nat.le_refl _, rfl, rfl, fun k hk => absurd hk (Nat.not_lt_zero _), fun k h1 h2 => absurd h2 (by omega), rfl⟩
  case round =>
    obtain ⟨a, b, q, hab, hb, rfl, rfl, hlo, hhi, rfl⟩ := hrel
    by_cases hlt : a < b
    · go_wp2_with fail
      obtain ⟨m, hm1, hm2, hm3⟩ : ∃ m : Nat, ((a : Int) + (b : Int)) / 2 = (m : Int) ∧ a ≤ m ∧ m < b := ⟨(a + b) / 2, by omega, by omega, by omega⟩
      rw [hm1]
      clear hm1
      have cm := cv m (by omega)
      obtain ⟨v, hv⟩ : ∃ v, v = vs.getD m 0 := ⟨_, rfl⟩
      rw [← hv] at cm
      have HV : Hid (v = vs.getD m 0) := hv
      clear hv
      refine (less15 B1 B2 g vs.length m x v _ (by omega) hn (by simpa using c1) (by simpa using c2) (by simpa using cm)).mono ?_
      rintro e w1 ⟨rfl, q2, rfl⟩
      by_cases hx : x ≤ v
      · go_wp2_with fail
        go_roundw
        case rel => exact ⟨a, m, _, by omega, by omega, rfl, rfl, hlo, fun k h1 h2 => by
          have e := HV.out
          rcases Nat.eq_or_lt_of_le h1 with h | h
          · subst h; omega
          · have := hs m k h h2; omega, rfl⟩
        case measure => simp [intOf]; omega
      · have hd : decide (x ≤ v) = false := by simpa using hx
        go_wp2_with fail
        go_roundw
        case rel => exact ⟨m + 1, b, _, by omega, by omega, by go_num, rfl, fun k h1 => by
          have e := HV.out
          rcases Nat.eq_or_lt_of_le (Nat.le_of_lt_succ h1) with h | h
          · subst h; omega
          · have := hs k m h (by omega); omega, hhi, rfl⟩
        case measure => simp [intOf]; omega
    · go_wp2_with fail
      go_ret
      exact ⟨⟨a, by omega, hlo, fun j h1 h2 => hhi j (by omega) h2, rfl⟩, q, rfl⟩

/-- r is the first place of x in vs, or -1 where there is none -/
def IsIdx (vs : List Int) (x r : Int) : Prop := (∃ i : Nat, i < vs.length ∧ vs.getD i 0 = x ∧ (∀ j, j < i → vs.getD j 0 ≠ x) ∧ r = i) ∨ (r = -1 ∧ ∀ j, j < vs.length → vs.getD j 0 ≠ x)
theorem IsIdx.uniq {vs : List Int} {x r r' : Int} (h : IsIdx vs x r) (h' : IsIdx vs x r') : r = r' := by
  rcases h with ⟨i, hi, ei, li, rfl⟩ | ⟨rfl, n⟩ <;> rcases h' with ⟨i', hi', ei', li', rfl⟩ | ⟨rfl, n'⟩
  · rcases Nat.lt_trichotomy i i' with h | h | h
    · exact absurd ei (li' i h)
    · rw [h]
    · exact absurd ei' (li i' h)
  · exact absurd ei (n' i hi)
  · exact absurd ei' (n i' hi')
  · rfl

set_option maxHeartbeats 400000 in
theorem idx9 (g : Nat) (vs : List Int) (x : Int) (w : World) (hn : vs.length ≤ 1024) (cv : VRow w g vs) :
    Calls Yba.prog 9 #[.slice (some ⟨g, 0, none⟩) vs.length vs.length, .int .i32 x] w fun e w' => (∃ r, IsIdx vs x r ∧ -1 ≤ r ∧ r ≤ 1024 ∧ e = .returned (.int .i64 r)) ∧ w' = w := by
  go_enter Yba.func9, Yba.ntmps9
  go_wp2
  go_loop [5] (fun i => ∃ a : Nat, a ≤ vs.length ∧ i = .int .i64 a ∧ (∀ k, k < a → vs.getD k 0 ≠ x)) (fun i => vs.length - (intOf i).toNat)
  case atStart => exact ⟨0, Nat.zero_le _, rfl, fun k hk => absurd hk (Nat.not_lt_zero _)⟩
  case round =>
    obtain ⟨a, ha, rfl, hlo⟩ := hrel
    by_cases hlt : a < vs.length
    · have cm := cv a hlt
      obtain ⟨v, hv⟩ : ∃ v, v = vs.getD a 0 := ⟨_, rfl⟩
      rw [← hv] at cm
      have HV : Hid (v = vs.getD a 0) := hv
      clear hv
      by_cases hx : v = x
      · have hx' : (v == x) = true := by simp [hx]
        have HX : Hid (v = x) := hx
        clear hx
        go_wp2
        go_ret
        exact ⟨⟨a, .inl ⟨a, hlt, HV.out.symm.trans HX.out, hlo, rfl⟩, by omega, by omega, rfl⟩, rfl⟩
      · have hx' : (v == x) = false := by simp [hx]
        go_wp2
        go_round
        case rel => exact ⟨a + 1, by omega, by go_num, fun k h1 => by
          rcases Nat.eq_or_lt_of_le (Nat.le_of_lt_succ h1) with h | h
          · subst h; rw [← HV.out]; exact hx
          · exact hlo k h⟩
        case measure => simp [intOf]; omega
    · go_wp2
      go_ret
      exact ⟨⟨-1, .inr ⟨rfl, fun j hj => hlo j (by omega)⟩, by omega, by omega, rfl⟩, rfl⟩

set_option maxHeartbeats 400000 in
theorem find13 (B1 g : Nat) (vs : List Int) (x : Int) (w : World) (hn : vs.length ≤ 1024)
    (hs : ∀ i j, i < j → j < vs.length → vs.getD i 0 < vs.getD j 0)
    (hB : B1 < w.heap.size) (hg : g < w.heap.size)
    (c1 : w.cell? ⟨B1, 0, none⟩ = some (.slice (some ⟨g, 0, none⟩) vs.length vs.length)) (cv : VRow w g vs) :
    Calls Yba.prog 13 #[.int .i32 x, .pointer (some ⟨B1, 0, none⟩)] w fun e w' => (∃ r, IsIdx vs x r ∧ -1 ≤ r ∧ r ≤ 1024 ∧ e = .returned (.int .i64 r)) ∧ Below w.heap.size w w' := by
  have hB' : B1 ≠ w.heap.size := by omega
  have hg' : g ≠ w.heap.size := by omega
  have cv1 : VRow (w.alloc (.cells #[.int .i32 x] 21)) g vs := fun i hi => by
    have := cv i hi
    rw [World.cell?_alloc_past _ _ _ hg]; exact this
  go_enter Yba.func13, Yba.ntmps13
  go_wp2_with fail
  refine (search14 B1 w.heap.size g vs x _ hn hs (by rw [World.cell?_alloc_past _ _ _ hB]; exact c1) (by simp) cv1).mono ?_
  rintro e w1 ⟨⟨i, hi, hlo, hhi, rfl⟩, q, rfl⟩
  by_cases hl : i = vs.length
  · have hl1 : ((i : Int) == (vs.length : Int)) = true := by simp [hl]
    have HL : Hid (i = vs.length) := hl
    clear hl
    go_wp2_with fail
    go_quiet (fail)
    go_wp2
    go_ret
    exact ⟨⟨-1, .inr ⟨rfl, fun j hj => by have := hlo j (by rw [HL.out]; exact hj); omega⟩, by omega, by omega, rfl⟩, below_drewN (below_drewN ((Below.refl _ _).alloc (Nat.le_refl _) _) _) _⟩
  · have hlt : (i : Int) < (vs.length : Int) := by omega
    have hl1 : ((i : Int) == (vs.length : Int)) = false := by simp; omega
    have cm := cv i (by omega)
    obtain ⟨v, hv⟩ : ∃ v, v = vs.getD i 0 := ⟨_, rfl⟩
    rw [← hv] at cm
    have HV : Hid (v = vs.getD i 0) := hv
    clear hv hl
    by_cases hx : v = x
    · have hx' : (v != x) = false := by simp [hx]
      have HX : Hid (v = x) := hx
      clear hx
      go_wp2_with fail
      go_quiet (fail)
      go_wp2
      go_ret
      exact ⟨⟨i, .inl ⟨i, by omega, HV.out.symm.trans HX.out, fun j hj => by have := hlo j hj; omega, rfl⟩, by omega, by omega, rfl⟩, below_drewN (below_drewN ((Below.refl _ _).alloc (Nat.le_refl _) _) _) _⟩
    · have hx' : (v != x) = true := by simp [hx]
      go_wp2_with fail
      go_quiet (fail)
      go_wp2
      go_ret
      exact ⟨⟨-1, .inr ⟨rfl, fun j hj => by
        have e := HV.out
        rcases Nat.lt_trichotomy j i with h | h | h
        · have := hlo j h; omega
        · rw [h, ← e]; exact hx
        · have h1 := hs i j h hj
          have h2 := hhi i (Nat.le_refl _) (by omega)
          omega⟩, by omega, by omega, rfl⟩, below_drewN (below_drewN ((Below.refl _ _).alloc (Nat.le_refl _) _) _) _⟩
end Go.Proofs.Ybulkmbi
