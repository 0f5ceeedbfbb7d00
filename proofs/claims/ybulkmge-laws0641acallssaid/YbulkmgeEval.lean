import Derived.Test.YbulkmgeMem
import Derived.Deep.DeepCutAuto
import Derived.Deep.QuietTactic
import Derived.BigQuiet
import Derived.Deep.RegionHeld3
namespace Go.Proofs.Ybulkmge
open Go.RowKit
set_option linter.unusedVariables false

/-- the slice of values that came in lies in the first B blocks -/
def Vals (B : Nat) (w : World) (a : Option Addr) (len : Nat) (z : Nat → Int) : Prop := ∀ k, k < len → ∃ b o, a = some ⟨b, o, none⟩ ∧ b < B ∧ w.cell? ⟨b, o + k, none⟩ = some (.int .u8 (z k)) ∧ 0 ≤ z k ∧ z k ≤ 255
theorem Vals.below {B : Nat} {w w' : World} {a : Option Addr} {len : Nat} {z : Nat → Int} (h : Vals B w a len z) (hb : Below B w w') : Vals B w' a len z := fun k hk => by
  obtain ⟨b, o, e, h1, h2, h3⟩ := h k hk
  exact ⟨b, o, e, h1, (hb.cell (p := ⟨b, o + k, none⟩) h1).trans h2, h3⟩
/-- the value of a condition -/
def valF (len : Nat) (z : Nat → Int) (c : Nat) : Int := if c < len then z c % 3 else 0
theorem valF_bd (len : Nat) (z : Nat → Int) (c : Nat) : 0 ≤ valF len z c ∧ valF len z c ≤ 2 := by
  unfold valF; split <;> omega

set_option maxRecDepth 100000 in
set_option maxHeartbeats 400000 in
theorem aval7 (B : Nat) (a : Option Addr) (len cap c : Nat) (z : Nat → Int) (w : World) (hl : len ≤ 1024) (hc : c ≤ 2000) (hv : Vals B w a len z) :
    Calls Yba.prog 7 #[.slice a len cap, .int .i64 c] w fun e w' => e = .returned (.int .u8 (valF len z c)) ∧ w = w' := by
  by_cases h : c < len
  · obtain ⟨b, o, rfl, h1, h2, h3, h4⟩ := hv c h
    have e : valF len z c = z c % 3 := by simp [valF, h]
    rw [e]
    clear hv e
    go_enter Yba.func7, Yba.ntmps7
    go_wp2
    go_ret
    exact ⟨rfl, rfl⟩
  · have e : valF len z c = 0 := by simp [valF, h]
    rw [e]
    clear hv e
    go_enter Yba.func7, Yba.ntmps7
    go_wp2
    go_ret
    exact ⟨rfl, rfl⟩

/-- the bit of a filling for a condition -/
def bitF (x : Int) (k : Nat) : Bool := bits BinOp.and IntKind.u64 (x / 2 ^ (k % 64)) 1 == 1
theorem ret_bool {a b : Bool} (h : a = b) : Ending.returned (.bool a) = .returned (.bool b) := by rw [h]

set_option maxRecDepth 100000 in
set_option maxHeartbeats 400000 in
theorem leaf11 (B : Nat) (a : Option Addr) (len cap : Nat) (z : Nat → Int) (x : Int) (b off k n cp : Nat) (p : Option Addr) (w : World) (hl : len ≤ 1024) (hk : k < 1025) (hv : Vals B w a len z)
    (h3 : Node3 w b off 0 k p n cp) (hx0 : 0 ≤ x) (hx1 : x ≤ 18446744073709551615) :
    Calls Yba.prog 11 #[.pointer (some ⟨b, off, none⟩), .slice a len cap, .int .u64 x] w fun e w' => e = .returned (.bool ((leafA (valF len z) bitF k).f x)) ∧ w = w' := by
  obtain ⟨c0, c1, c2⟩ := h3
  have hbd := valF_bd len z k
  by_cases h0 : valF len z k = 0
  · have ef : (leafA (valF len z) bitF k).f x = bitF x k := by simp [leafA, h0]
    rw [ef]
    have hb : (valF len z k == 0) = true := by simp [h0]
    go_enter Yba.func11, Yba.ntmps11
    go_wp2_with (go_at_call 7; refine (aval7 B a len cap k z _ hl (by omega) hv).mono ?_; rintro e w1 ⟨rfl, rfl⟩)
    go_ret
    exact ⟨rfl, rfl⟩
  · have ef : (leafA (valF len z) bitF k).f x = (valF len z k == 2) := by simp [leafA, h0]
    rw [ef]
    have hb : (valF len z k == 0) = false := by simp [h0]
    clear ef
    go_enter Yba.func11, Yba.ntmps11
    go_wp2_with (go_at_call 7; refine (aval7 B a len cap k z _ hl (by omega) hv).mono ?_; rintro e w1 ⟨rfl, rfl⟩)
    go_ret
    exact ⟨rfl, rfl⟩

theorem allF_take (isOr : Bool) (l : List (Int → Bool)) (i : Nat) (h : i < l.length) (x : Int) : allF isOr (l.take (i + 1)) x = if isOr then allF isOr (l.take i) x || l[i] x else allF isOr (l.take i) x && l[i] x := by
  cases isOr
  · simp only [allF, Bool.false_eq_true, if_false]
    rw [List.take_succ_eq_append_getElem h, List.all_append]; simp
  · simp only [allF, if_true]
    rw [List.take_succ_eq_append_getElem h, List.any_append]; simp

set_option maxRecDepth 100000 in
set_option maxHeartbeats 1000000 in
theorem eval11 (B : Nat) (a : Option Addr) (len cap nc : Nat) (z : Nat → Int) (x : Int) (hl : len ≤ 1024) (hnc : nc ≤ 1024) (hx0 : 0 ≤ x) (hx1 : x ≤ 18446744073709551615) :
    ∀ (d : Nat) (b off n cp : Nat) (o c : Int) (p : Option Addr) (F : Int → Bool) (w : World), Vals B w a len z → Node3 w b off o c p n cp → Ev (valF len z) bitF nc d w o c p n cp F →
      Calls Yba.prog 11 #[.pointer (some ⟨b, off, none⟩), .slice a len cap, .int .u64 x] w fun e w' => e = .returned (.bool (F x)) ∧ w = w' := by
  intro d
  induction d with
  | zero =>
    intro b off n cp o c p F w hv h3 he
    obtain ⟨rfl, k, rfl, hk, rfl⟩ := he
    exact leaf11 B a len cap z x b off k n cp p w hl (by omega) hv h3 hx0 hx1
  | succ d ih =>
    intro b off n cp o c p F w hv h3 he
    have IH := ih
    have HI : Hid (∀ (b off n cp : Nat) (o c : Int) (p : Option Addr) (F : Int → Bool) (w : World), Vals B w a len z → Node3 w b off o c p n cp → Ev (valF len z) bitF nc d w o c p n cp F →
      Calls Yba.prog 11 #[.pointer (some ⟨b, off, none⟩), .slice a len cap, .int .u64 x] w fun e w' => e = .returned (.bool (F x)) ∧ w = w') := ih
    clear ih IH
    rcases he with ⟨rfl, k, rfl, hk, rfl⟩ | ⟨rfl, b', o', c', p', n', cap', F', rfl, rfl, h4, h5, rfl⟩ | ⟨ho, b', l, rfl, rfl, h4, h5, rfl⟩
    · exact leaf11 B a len cap z x b off k n cp p w hl (by omega) hv h3 hx0 hx1
    · obtain ⟨c0, c1, c2⟩ := h3
      go_enter Yba.func11, Yba.ntmps11
      go_wp2_with fail
      refine (HI.out b' 0 n' cap' o' c' p' F' _ hv h4 h5).mono ?_
      rintro e w1 ⟨rfl, rfl⟩
      go_wp2_with fail
      go_ret
      exact ⟨rfl, rfl⟩
    · obtain ⟨c0, c1, c2⟩ := h3
      rcases ho with rfl | rfl
      · go_enter Yba.func11, Yba.ntmps11
        go_wp2_with fail
        go_loop [8, 56] (fun r i => ∃ k : Nat, k ≤ l.length ∧ i = .int .i64 k ∧ r = .bool (allF false (l.take k) x)) (fun _ i => l.length - (intOf i).toNat)
        case atStart => exact ⟨0, Nat.zero_le _, rfl, rfl⟩
        case round =>
          obtain ⟨k, hk, rfl, rfl⟩ := hrel
          by_cases hlt : k < l.length
          · obtain ⟨o', c', p', n', cap', h6, h7⟩ := h5 k hlt
            have hst := allF_take false l k hlt x
            have HS : Hid (allF false (l.take (k + 1)) x = if false then allF false (l.take k) x || l[k] x else allF false (l.take k) x && l[k] x) := hst
            clear hst
            go_wp2_with fail
            refine (HI.out b' (k * 3) n' cap' o' c' p' l[k] _ hv h6 h7).mono ?_
            rintro e w1 ⟨rfl, rfl⟩
            generalize l[k] x = v at *
            cases v
            · go_wp2_with fail
              go_round
              case rel => exact ⟨k + 1, by omega, by go_num, by rw [HS.out]; simp⟩
              case measure => simp [intOf]; omega
            · go_wp2_with fail
              go_round
              case rel => exact ⟨k + 1, by omega, by go_num, by rw [HS.out]; simp⟩
              case measure => simp [intOf]; omega
          · have hkl : k = l.length := by omega
            go_wp2_with fail
            go_ret
            exact ⟨ret_bool (by first | rfl | (rw [hkl, List.take_length]; rfl) | (rw [List.take_length]; rfl)), rfl⟩
      · go_enter Yba.func11, Yba.ntmps11
        go_wp2_with fail
        go_loop [10, 76] (fun r i => ∃ k : Nat, k ≤ l.length ∧ i = .int .i64 k ∧ r = .bool (allF true (l.take k) x)) (fun _ i => l.length - (intOf i).toNat)
        case atStart => exact ⟨0, Nat.zero_le _, rfl, rfl⟩
        case round =>
          obtain ⟨k, hk, rfl, rfl⟩ := hrel
          by_cases hlt : k < l.length
          · obtain ⟨o', c', p', n', cap', h6, h7⟩ := h5 k hlt
            have hst := allF_take true l k hlt x
            have HS : Hid (allF true (l.take (k + 1)) x = if true then allF true (l.take k) x || l[k] x else allF true (l.take k) x && l[k] x) := hst
            clear hst
            go_wp2_with fail
            refine (HI.out b' (k * 3) n' cap' o' c' p' l[k] _ hv h6 h7).mono ?_
            rintro e w1 ⟨rfl, rfl⟩
            generalize l[k] x = v at *
            cases v
            · go_wp2_with fail
              go_round
              case rel => exact ⟨k + 1, by omega, by go_num, by rw [HS.out]; simp⟩
              case measure => simp [intOf]; omega
            · go_wp2_with fail
              go_round
              case rel => exact ⟨k + 1, by omega, by go_num, by rw [HS.out]; simp⟩
              case measure => simp [intOf]; omega
          · have hkl : k = l.length := by omega
            go_wp2_with fail
            go_ret
            exact ⟨ret_bool (by first | rfl | (rw [hkl, List.take_length]; rfl) | (rw [List.take_length]; rfl)), rfl⟩
end Go.Proofs.Ybulkmge
