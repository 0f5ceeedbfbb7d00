import Derived.Test.YbulkmfqProg
import Derived.Test.YbulkmfqPlain
import Derived.WalkKit
import Derived.WalkSpells
import Derived.WalkLawsBesides
import Derived.Deep.QuietTactic
import Derived.BigQuiet
import Derived.Deep.RegionHeld3
namespace Go.Proofs.Ybulkmfq
open Go.RowKit
set_option linter.unusedVariables false

theorem beq_ne {a b : ByteArray} (h : a ≠ b) : (a.toList == b.toList) = false := by
  rw [beq_eq_false_iff_ne]
  intro e
  rw [ByteArray.toList_eq, ByteArray.toList_eq] at e
  exact h (ByteArray.ext (Array.toList_inj.1 e))

set_option maxRecDepth 100000 in
set_option maxHeartbeats 1000000 in
theorem agree7 (g1 g2 n c1 c2 : Nat) (fN fV : Nat → ByteArray) (w : World) (hn : n ≤ 1025)
    (hN : ∀ i, i < n → w.cell? ⟨g1, i, none⟩ = some (.string (fN i))) (hV : ∀ i, i < n → w.cell? ⟨g2, i, none⟩ = some (.string (fV i))) :
    Calls Yba.prog 7 #[.slice (some ⟨g1, 0, none⟩) n c1, .slice (some ⟨g2, 0, none⟩) n c2] w fun e w' => (∃ b : Bool, (b = true ↔ Agree fN fV n) ∧ e = .returned (.bool b)) ∧ ∃ q, w' = w.drewN q := by
  go_enter Yba.func7, Yba.ntmps7
  go_wp2
  go_loopw [9] (fun i wr => ∃ k q : Nat, k ≤ n ∧ i = .int .i64 k ∧ Agree fN fV k ∧ wr = w.drewN q) (fun i _ => n - (intOf i).toNat)
  case atStart => exact ⟨0, 0, Nat.zero_le _, rfl, fun i hi => absurd hi (Nat.not_lt_zero _), rfl⟩
  case round =>
    obtain ⟨k, q, hk, rfl, hag, rfl⟩ := hrel
    by_cases hlt : k < n
    · go_wp2
      go_loopw [13] (fun i wr => ∃ j q : Nat, j ≤ k ∧ i = .int .i64 j ∧ (∀ l, l < j → fN l = fN k → fV l = fV k) ∧ wr = w.drewN q) (fun i _ => k - (intOf i).toNat)
      case atStart => exact ⟨0, q, Nat.zero_le _, rfl, fun l hl => absurd hl (Nat.not_lt_zero _), rfl⟩
      case round =>
        obtain ⟨j, q2, hj, rfl, hin, rfl⟩ := hrel
        by_cases hjk : j < k
        · have hNj := hN j (by omega)
          have hNk := hN k hlt
          have hVj := hV j (by omega)
          have hVk := hV k hlt
          have i1 : (j : Int) < (n : Int) := by omega
          have i2 : (k : Int) < (n : Int) := by omega
          by_cases he : fN j = fN k
          · have he' : ((fN j).toList == (fN k).toList) = true := by simp [he]
            have HE : Hid (fN j = fN k) := he
            clear he
            by_cases hv : fV j = fV k
            · have hv' : ((fV j).toList == (fV k).toList) = true := by simp [hv]
              have HV : Hid (fV j = fV k) := hv
              clear hv
              go_wp2
              go_quiet (fail)
              go_wp2
              go_roundw
              case rel => exact ⟨j + 1, _, by omega, by go_num, fun l hl e => by
                rcases Nat.eq_or_lt_of_le (Nat.le_of_lt_succ hl) with c | c
                · rw [c]; exact HV.out
                · exact hin l c e, rfl⟩
              case measure => simp [intOf]; omega
            · have hv' := beq_ne hv
              go_wp2
              go_quiet (fail)
              go_wp2
              go_ret
              exact ⟨⟨false, ⟨fun h => by simp at h, fun h => absurd (h k hlt j hjk HE.out) hv⟩, rfl⟩, _, World.drewN_drewN _ _ _⟩
          · have he' := beq_ne he
            go_wp2
            go_quiet (fail)
            go_wp2
            go_roundw
            case rel => exact ⟨j + 1, _, by omega, by go_num, fun l hl e => by
              rcases Nat.eq_or_lt_of_le (Nat.le_of_lt_succ hl) with c | c
              · rw [c] at e; exact absurd e he
              · exact hin l c e, rfl⟩
            case measure => simp [intOf]; omega
        · go_wp2
          go_roundw
          case rel => exact ⟨k + 1, _, by omega, by go_num, fun i hi l hl e => by
              rcases Nat.eq_or_lt_of_le (Nat.le_of_lt_succ hi) with c | c
              · subst c; exact hin l (by omega) e
              · exact hag i c l hl e, rfl⟩
          case measure => simp [intOf]; omega
    · go_wp2
      go_ret
      exact ⟨⟨true, ⟨fun _ => by rw [show n = k from by omega]; exact hag, fun _ => rfl⟩, rfl⟩, _, rfl⟩
end Go.Proofs.Ybulkmfq
