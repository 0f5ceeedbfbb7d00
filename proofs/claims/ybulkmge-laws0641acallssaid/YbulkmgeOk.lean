import Derived.Test.YbulkmgeEval
namespace Go.Proofs.Ybulkmge
open Go.RowKit
set_option linter.unusedVariables false

set_option maxRecDepth 100000 in
set_option maxHeartbeats 400000 in
theorem leaf12 (B : Nat) (a : Option Addr) (len cap nc : Nat) (z : Nat → Int) (b off k n cp : Nat) (p : Option Addr) (w : World) (hl : len ≤ 1024) (hnc : nc ≤ 1024) (hk : k < nc) (hv : Vals B w a len z)
    (h3 : Node3 w b off 0 k p n cp) (h0 : valF len z k = 0) :
    Calls Yba.prog 12 #[.pointer (some ⟨b, off, none⟩), .slice a len cap, .int .i64 nc] w fun e w' => e = .returned (.bool true) ∧ w = w' := by
  obtain ⟨c0, c1, c2⟩ := h3
  have hb : (valF len z k == 0) = true := by simp [h0]
  have hk' : (k : Int) < (nc : Int) := by omega
  go_enter Yba.func12, Yba.ntmps12
  go_wp2_with (go_at_call 7; refine (aval7 B a len cap k z _ hl (by omega) hv).mono ?_; rintro e w1 ⟨rfl, rfl⟩)
  go_ret
  exact ⟨ret_bool (by first | rfl | exact hb), rfl⟩

set_option maxRecDepth 100000 in
set_option maxHeartbeats 1000000 in
theorem ok12 (B : Nat) (a : Option Addr) (len cap nc : Nat) (z : Nat → Int) (hl : len ≤ 1024) (hnc : nc ≤ 1024) :
    ∀ (d : Nat) (b off n cp : Nat) (o c : Int) (p : Option Addr) (F : Int → Bool) (S : Nat → Prop) (w : World), Vals B w a len z → Node3 w b off o c p n cp → Good (valF len z) bitF nc d S w o c p n cp F →
      Calls Yba.prog 12 #[.pointer (some ⟨b, off, none⟩), .slice a len cap, .int .i64 nc] w fun e w' => e = .returned (.bool true) ∧ w = w' := by
  intro d
  induction d with
  | zero =>
    intro b off n cp o c p F S w hv h3 he
    obtain ⟨rfl, k, rfl, hk, h0, rfl⟩ := he
    exact leaf12 B a len cap nc z b off k n cp p w hl hnc hk hv h3 h0
  | succ d ih =>
    intro b off n cp o c p F S w hv h3 he
    have HI : Hid (∀ (b off n cp : Nat) (o c : Int) (p : Option Addr) (F : Int → Bool) (S : Nat → Prop) (w : World), Vals B w a len z → Node3 w b off o c p n cp → Good (valF len z) bitF nc d S w o c p n cp F →
      Calls Yba.prog 12 #[.pointer (some ⟨b, off, none⟩), .slice a len cap, .int .i64 nc] w fun e w' => e = .returned (.bool true) ∧ w = w') := ih
    clear ih
    rcases he with ⟨rfl, k, rfl, hk, h0, rfl⟩ | ⟨rfl, b', o', c', p', n', cap', F', rfl, rfl, h4, h5, rfl⟩ | ⟨ho, b', l, rfl, rfl, h2, h4, h5, rfl⟩
    · exact leaf12 B a len cap nc z b off k n cp p w hl hnc hk hv h3 h0
    · obtain ⟨c0, c1, c2⟩ := h3
      go_enter Yba.func12, Yba.ntmps12
      go_wp2_with fail
      refine (HI.out b' 0 n' cap' o' c' p' F' S _ hv h4.at3 h5).mono ?_
      rintro e w1 ⟨rfl, rfl⟩
      go_wp2_with fail
      go_ret
      exact ⟨rfl, rfl⟩
    · obtain ⟨c0, c1, c2⟩ := h3
      have hgo : ∀ r : Int, r = 2 ∨ r = 3 → r = o → True := fun _ _ _ => trivial
      clear hgo
      rcases ho with rfl | rfl
      all_goals
        go_enter Yba.func12, Yba.ntmps12
        go_wp2_with fail
        go_loop [68] (fun i => ∃ k : Nat, k ≤ l.length ∧ i = .int .i64 k) (fun i => l.length - (intOf i).toNat)
        case atStart => exact ⟨0, Nat.zero_le _, rfl⟩
        case round =>
          obtain ⟨k, hk, rfl⟩ := hrel
          by_cases hlt : k < l.length
          · obtain ⟨o', c', p', n', cap', h6, h7⟩ := h5 k hlt
            go_wp2_with fail
            refine (HI.out b' (k * 3) n' cap' o' c' p' l[k] S _ hv h6.at3 h7).mono ?_
            rintro e w1 ⟨rfl, rfl⟩
            go_wp2_with fail
            go_round
            case rel => exact ⟨k + 1, by omega, by go_num⟩
            case measure => simp [intOf]; omega
          · go_wp2_with fail
            go_ret
            exact ⟨rfl, rfl⟩
end Go.Proofs.Ybulkmge
