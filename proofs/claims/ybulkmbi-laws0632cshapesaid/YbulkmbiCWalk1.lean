import Derived.Test.YbulkmbiProg
import Derived.WalkKit
import Derived.WalkSpells
import Derived.WalkLawsBesides
import Derived.Deep.QuietTactic
import Derived.BigQuiet
import Derived.Deep.RegionWith
import Derived.BigRegion
import Derived.Deep.RegionHeld3
namespace Go.Proofs.Ybulkmbi
open Go.RowKit
set_option linter.unusedVariables false

def ndB : ByteArray := { data := #[32, 109, 117, 115, 116, 32, 98, 101, 32, 97, 32, 100, 101, 99, 105, 109, 97, 108, 32, 105, 110, 116, 101, 103, 101, 114] }
def orB : ByteArray := { data := #[32, 105, 115, 32, 111, 117, 116, 32, 111, 102, 32, 114, 97, 110, 103, 101] }
def tnB : ByteArray := { data := #[116, 114, 97, 110, 115, 97, 99, 116, 105, 111, 110, 32, 110, 117, 109, 98, 101, 114] }

set_option maxHeartbeats 400000 in
theorem fault1 (n : Int) (w : World) (h0 : 0 ≤ n) (h1 : n ≤ 255) (h : n % 3 = 1) :
    Calls Yba.prog 12 #[.int .u8 n] w fun e w' => e = .returned (.string ndB) ∧ w' = w := by
  go_enter Yba.func12, Yba.ntmps12
  go_wp2
  go_ret
  exact ⟨rfl, rfl⟩
set_option maxHeartbeats 400000 in
theorem fault2 (n : Int) (w : World) (h0 : 0 ≤ n) (h1 : n ≤ 255) (h : n % 3 = 2) :
    Calls Yba.prog 12 #[.int .u8 n] w fun e w' => e = .returned (.string orB) ∧ w' = w := by
  go_enter Yba.func12, Yba.ntmps12
  go_wp2
  go_ret
  exact ⟨rfl, rfl⟩
set_option maxHeartbeats 400000 in
theorem fault0 (n : Int) (w : World) (h0 : 0 ≤ n) (h1 : n ≤ 255) (h : n % 3 = 0) :
    Calls Yba.prog 12 #[.int .u8 n] w fun e w' => e = .returned (.string { data := #[] }) ∧ w' = w := by
  go_enter Yba.func12, Yba.ntmps12
  go_wp2
  go_ret
  exact ⟨rfl, rfl⟩

/-- what zzs0632cfault answers -/
def faultB (n : Int) : ByteArray := if n % 3 = 1 then ndB else if n % 3 = 2 then orB else { data := #[] }
theorem fault_any (n : Int) (w : World) (h0 : 0 ≤ n) (h1 : n ≤ 255) :
    Calls Yba.prog 12 #[.int .u8 n] w fun e w' => e = .returned (.string (faultB n)) ∧ w' = w := by
  by_cases a : n % 3 = 1
  · have e : faultB n = ndB := by simp [faultB, a]
    rw [e]; exact fault1 n w h0 h1 a
  by_cases b : n % 3 = 2
  · have e : faultB n = orB := by simp [faultB, b]
    rw [e]; exact fault2 n w h0 h1 b
  · have e : faultB n = { data := #[] } := by simp [faultB, a, b]
    rw [e]; exact fault0 n w h0 h1 (by omega)

set_option maxHeartbeats 400000 in
theorem build_any (b n d : Bool) (m f : Int) (w : World) (h0 : 0 ≤ f) (h1 : f ≤ 255) :
    Calls Yba.prog 10 #[.agg #[.bool b, .bool n, .bool d, .int .u64 m, .int .u8 f]] w fun e w' => e = .returned (.agg #[.bool b, .bool n, .bool d, .int .u64 m, .string (faultB f)]) ∧ Below w.heap.size w w' := by
  go_enter Yba.func10, Yba.ntmps10
  go_wp2
  go_region_held3 (fun w' => w'.cell? ⟨w.heap.size, 0, none⟩ = some (.bool b) ∧ w'.cell? ⟨w.heap.size, 1, none⟩ = some (.bool n) ∧ w'.cell? ⟨w.heap.size, 2, none⟩ = some (.bool d) ∧ w'.cell? ⟨w.heap.size, 3, none⟩ = some (.int .u64 m) ∧ w'.cell? ⟨w.heap.size, 4, none⟩ = some (.int .u8 f)) (go_keep)
    ((go_at_call 12; refine (fault_any _ _ (by omega) (by omega)).mono ?_; rintro e w1 ⟨rfl, rfl⟩))
  go_wp2
  exact bodyPost_ret (v := .agg #[.bool b, .bool n, .bool d, .int .u64 m, .string (faultB f)]) (by simp [results, Yba.results10, go_sem]) rfl ⟨rfl, (((Below.refl _ _).alloc (Nat.le_refl _) _).alloc (by simp) _).drew⟩

set_option maxHeartbeats 400000 in
theorem result_fault (g : Nat) (f s : ByteArray) (w : World) (hf : f.toList.isEmpty = false) (hs : s.size + f.size ≤ 9223372036854775807)
    (c4 : w.cell? ⟨g, 4, none⟩ = some (.string f)) :
    Calls Yba.prog 16 #[.pointer (some ⟨g, 0, none⟩), .string s] w fun e w' => e = .returned (.tuple #[.int .i64 0, .string (s ++ f)]) ∧ ∃ q, w' = w.drewN q := by
  go_enter Yba.func16, Yba.ntmps16
  go_wp2
  go_quiet (fail)
  go_wp2
  go_ret2
  exact ⟨rfl, _, rfl⟩

set_option maxHeartbeats 400000 in
theorem result_nod (g : Nat) (s : ByteArray) (w : World) (hs : s.size ≤ 1000)
    (c4 : w.cell? ⟨g, 4, none⟩ = some (.string { data := #[] })) (c2 : w.cell? ⟨g, 2, none⟩ = some (.bool false)) :
    Calls Yba.prog 16 #[.pointer (some ⟨g, 0, none⟩), .string s] w fun e w' => e = .returned (.tuple #[.int .i64 0, .string (s ++ ndB)]) ∧ w' = w := by
  go_enter Yba.func16, Yba.ntmps16
  go_wp2
  go_ret2
  exact ⟨rfl, rfl⟩

theorem ret_neg (m : Int) (h0 : 0 ≤ m) (h1 : m ≤ 18446744073709551615) : wrap64 (IntKind.u64.wrap (-m)) = wrap64 (-(wrap64 m)) := by
  simp only [wrap64, IntKind.wrap, IntKind.signed, IntKind.bits]
  simp
  omega
theorem ret2_int {a b : Int} {s : ByteArray} (h : a = b) : Ending.returned (.tuple #[.int .i64 a, .string s]) = .returned (.tuple #[.int .i64 b, .string s]) := by rw [h]

set_option maxHeartbeats 400000 in
theorem result_neg (g : Nat) (s : ByteArray) (m : Int) (w : World) (h0 : 0 ≤ m) (h1 : m ≤ 18446744073709551615)
    (c4 : w.cell? ⟨g, 4, none⟩ = some (.string { data := #[] })) (c2 : w.cell? ⟨g, 2, none⟩ = some (.bool true)) (c1 : w.cell? ⟨g, 1, none⟩ = some (.bool true)) (c3 : w.cell? ⟨g, 3, none⟩ = some (.int .u64 m)) :
    Calls Yba.prog 16 #[.pointer (some ⟨g, 0, none⟩), .string s] w fun e w' => e = .returned (.tuple #[.int .i64 (wrap64 (-(wrap64 m))), .string { data := #[] }]) ∧ w' = w := by
  go_enter Yba.func16, Yba.ntmps16
  go_wp2
  go_ret2
  exact ⟨ret2_int (ret_neg m h0 h1), rfl⟩

set_option maxHeartbeats 400000 in
theorem result_pos (g : Nat) (s : ByteArray) (m : Int) (w : World) (h0 : 0 ≤ m) (h1 : m ≤ 18446744073709551615)
    (c4 : w.cell? ⟨g, 4, none⟩ = some (.string { data := #[] })) (c2 : w.cell? ⟨g, 2, none⟩ = some (.bool true)) (c1 : w.cell? ⟨g, 1, none⟩ = some (.bool false)) (c3 : w.cell? ⟨g, 3, none⟩ = some (.int .u64 m)) :
    Calls Yba.prog 16 #[.pointer (some ⟨g, 0, none⟩), .string s] w fun e w' => e = .returned (.tuple #[.int .i64 (wrap64 m), .string { data := #[] }]) ∧ w' = w := by
  go_enter Yba.func16, Yba.ntmps16
  go_wp2
  go_ret2
  exact ⟨rfl, rfl⟩

/-- the number that the decimal holds -/
def vOf (n : Bool) (m : Int) : Int := if n then wrap64 (-(wrap64 m)) else wrap64 m
theorem result_num (g : Nat) (s : ByteArray) (m : Int) (n : Bool) (w : World) (h0 : 0 ≤ m) (h1 : m ≤ 18446744073709551615)
    (c4 : w.cell? ⟨g, 4, none⟩ = some (.string { data := #[] })) (c2 : w.cell? ⟨g, 2, none⟩ = some (.bool true)) (c1 : w.cell? ⟨g, 1, none⟩ = some (.bool n)) (c3 : w.cell? ⟨g, 3, none⟩ = some (.int .u64 m)) :
    Calls Yba.prog 16 #[.pointer (some ⟨g, 0, none⟩), .string s] w fun e w' => e = .returned (.tuple #[.int .i64 (vOf n m), .string { data := #[] }]) ∧ w' = w := by
  cases n
  · exact result_pos g s m w h0 h1 c4 c2 c1 c3
  · exact result_neg g s m w h0 h1 c4 c2 c1 c3

def boB : ByteArray := { data := #[116, 114, 97, 110, 115, 97, 99, 116, 105, 111, 110, 32, 110, 117, 109, 98, 101, 114, 32, 109, 117, 115, 116, 32, 98, 101, 32, 97, 116, 32, 108, 101, 97, 115, 116, 32, 49] }

set_option maxHeartbeats 400000 in
theorem txn_fault (g : Nat) (f : ByteArray) (w : World) (hf : f.toList.isEmpty = false) (hs : f.size ≤ 1000) (hne : (tnB ++ f).toList.isEmpty = false)
    (c4 : w.cell? ⟨g, 4, none⟩ = some (.string f)) :
    Calls Yba.prog 11 #[.pointer (some ⟨g, 0, none⟩)] w fun e w' => e = .returned (.tuple #[.int .i64 0, .string (tnB ++ f)]) ∧ ∃ q, w' = w.drewN q := by
  have ht : tnB.size = 18 := rfl
  go_enter Yba.func11, Yba.ntmps11
  go_wp2_with (go_at_call 16; refine (result_fault g f tnB _ hf (by omega) (by assumption)).mono ?_; rintro e w1 ⟨rfl, q, rfl⟩)
  go_ret2
  exact ⟨rfl, _, rfl⟩

set_option maxHeartbeats 400000 in
theorem txn_nod (g : Nat) (w : World) 
    (c4 : w.cell? ⟨g, 4, none⟩ = some (.string { data := #[] })) (c2 : w.cell? ⟨g, 2, none⟩ = some (.bool false)) :
    Calls Yba.prog 11 #[.pointer (some ⟨g, 0, none⟩)] w fun e w' => e = .returned (.tuple #[.int .i64 0, .string (tnB ++ ndB)]) ∧ ∃ q, w' = w.drewN q := by
  have ht : tnB.size = 18 := rfl
  have hne : (tnB ++ ndB).toList.isEmpty = false := by decide +kernel
  go_enter Yba.func11, Yba.ntmps11
  go_wp2_with (go_at_call 16; refine (result_nod g tnB _ (by omega) (by assumption) (by assumption)).mono ?_; rintro e w1 ⟨rfl, rfl⟩)
  go_ret2
  exact ⟨rfl, 0, rfl⟩

set_option maxHeartbeats 400000 in
theorem txn_low (g : Nat) (m : Int) (n : Bool) (w : World) (h0 : 0 ≤ m) (h1 : m ≤ 18446744073709551615)
    (c4 : w.cell? ⟨g, 4, none⟩ = some (.string { data := #[] })) (c2 : w.cell? ⟨g, 2, none⟩ = some (.bool true)) (c1 : w.cell? ⟨g, 1, none⟩ = some (.bool n)) (c3 : w.cell? ⟨g, 3, none⟩ = some (.int .u64 m)) (hv : vOf n m < 1) :
    Calls Yba.prog 11 #[.pointer (some ⟨g, 0, none⟩)] w fun e w' => e = .returned (.tuple #[.int .i64 0, .string boB]) ∧ ∃ q, w' = w.drewN q := by
  go_enter Yba.func11, Yba.ntmps11
  go_wp2_with (go_at_call 16; refine (result_num g tnB m n _ h0 h1 (by assumption) (by assumption) (by assumption) (by assumption)).mono ?_; rintro e w1 ⟨rfl, rfl⟩)
  go_ret2
  exact ⟨rfl, 0, rfl⟩

set_option maxHeartbeats 400000 in
theorem txn_num (g : Nat) (m : Int) (n : Bool) (w : World) (h0 : 0 ≤ m) (h1 : m ≤ 18446744073709551615)
    (c4 : w.cell? ⟨g, 4, none⟩ = some (.string { data := #[] })) (c2 : w.cell? ⟨g, 2, none⟩ = some (.bool true)) (c1 : w.cell? ⟨g, 1, none⟩ = some (.bool n)) (c3 : w.cell? ⟨g, 3, none⟩ = some (.int .u64 m)) (hv : 1 ≤ vOf n m) :
    Calls Yba.prog 11 #[.pointer (some ⟨g, 0, none⟩)] w fun e w' => e = .returned (.tuple #[.int .i64 (vOf n m), .string { data := #[] }]) ∧ ∃ q, w' = w.drewN q := by
  go_enter Yba.func11, Yba.ntmps11
  go_wp2_with (go_at_call 16; refine (result_num g tnB m n _ h0 h1 (by assumption) (by assumption) (by assumption) (by assumption)).mono ?_; rintro e w1 ⟨rfl, rfl⟩)
  go_ret2
  exact ⟨rfl, 0, rfl⟩
end Go.Proofs.Ybulkmbi
