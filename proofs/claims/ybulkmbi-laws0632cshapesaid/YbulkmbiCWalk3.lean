import Derived.Test.YbulkmbiCWalk2
namespace Go.Proofs.Ybulkmbi
open Go.RowKit
set_option linter.unusedVariables false

theorem below_fin2 {w w1 : World} {o o2 o3 : Obj} (hb : Below (w.alloc o).heap.size (w.alloc o) w1) (q : Nat) : Below w.heap.size w (((w1.alloc o2).alloc o3).drewN q) :=
  below_drewN (((((Below.refl _ _).alloc (Nat.le_refl _) o).trans (hb.mono (by simp))).alloc (by have := hb.size; simp at this; omega) _).alloc (by have := hb.size; simp at this ⊢; omega) _) q

set_option maxHeartbeats 400000 in
theorem shape_fault (b n d : Bool) (m f : Int) (fb : ByteArray) (w : World) (h0 : 0 ≤ f) (h1 : f ≤ 255) (hm0 : 0 ≤ m) (hm1 : m ≤ 18446744073709551615) (h : Hid (faultB f = fb)) (hf : fb.toList.isEmpty = false) (hs : fb.size ≤ 1000) (hne : (tnB ++ fb).toList.isEmpty = false) :
    Calls Yba.prog 5 #[.agg #[.bool b, .bool n, .bool d, .int .u64 m, .int .u8 f]] w fun e w' => e = .returned (.bool true) ∧ Below w.heap.size w w' := by
  have ht : tnB.size = 18 := rfl
  go_enter Yba.func5, Yba.ntmps5
  go_wp2_with fail
  refine (build_at b n d m f _ _ h0 h1 h).mono ?_
  rintro e w1 ⟨rfl, hb⟩
  obtain ⟨hc, hfz⟩ := bcell hb
  have hz : w.heap.size < w1.heap.size := by have := hb.size; simp at this; omega
  go_wp2_with fail
  refine (txn_fault w1.heap.size fb _ hf hs hne (by simp)).mono ?_
  rintro e w2 ⟨rfl, q, rfl⟩
  go_wp2_with fail
  go_ret
  exact ⟨ret_bool (by rfl), below_fin2 hb q⟩

set_option maxHeartbeats 400000 in
theorem shape_nod (b n : Bool) (m f : Int) (w : World) (h0 : 0 ≤ f) (h1 : f ≤ 255) (hm0 : 0 ≤ m) (hm1 : m ≤ 18446744073709551615) (h : Hid (faultB f = { data := #[] })) (hne : (tnB ++ ndB).toList.isEmpty = false) :
    Calls Yba.prog 5 #[.agg #[.bool b, .bool n, .bool false, .int .u64 m, .int .u8 f]] w fun e w' => e = .returned (.bool true) ∧ Below w.heap.size w w' := by
  have ht : tnB.size = 18 := rfl
  go_enter Yba.func5, Yba.ntmps5
  go_wp2_with fail
  refine (build_at b n false m f _ _ h0 h1 h).mono ?_
  rintro e w1 ⟨rfl, hb⟩
  obtain ⟨hc, hfz⟩ := bcell hb
  have hz : w.heap.size < w1.heap.size := by have := hb.size; simp at this; omega
  go_wp2_with fail
  refine (txn_nod w1.heap.size _ (by simp) (by simp)).mono ?_
  rintro e w2 ⟨rfl, q, rfl⟩
  go_wp2_with fail
  go_ret
  exact ⟨ret_bool (by rfl), below_fin2 hb q⟩

set_option maxHeartbeats 400000 in
theorem shape_low_true (b : Bool) (m f : Int) (w : World) (h0 : 0 ≤ f) (h1 : f ≤ 255) (hm0 : 0 ≤ m) (hm1 : m ≤ 18446744073709551615) (h : Hid (faultB f = { data := #[] })) (hv : wrap64 (-(wrap64 m)) < 1) (hne : boB.toList.isEmpty = false) :
    Calls Yba.prog 5 #[.agg #[.bool b, .bool true, .bool true, .int .u64 m, .int .u8 f]] w fun e w' => e = .returned (.bool true) ∧ Below w.heap.size w w' := by
  have ht : tnB.size = 18 := rfl
  go_enter Yba.func5, Yba.ntmps5
  go_wp2_with fail
  refine (build_at b true true m f _ _ h0 h1 h).mono ?_
  rintro e w1 ⟨rfl, hb⟩
  obtain ⟨hc, hfz⟩ := bcell hb
  have hz : w.heap.size < w1.heap.size := by have := hb.size; simp at this; omega
  go_wp2_with fail
  refine (txn_low w1.heap.size m true _ hm0 hm1 (by simp) (by simp) (by simp) (by simp) hv).mono ?_
  rintro e w2 ⟨rfl, q, rfl⟩
  go_wp2_with fail
  go_ret
  exact ⟨ret_bool (by rfl), below_fin2 hb q⟩

set_option maxHeartbeats 400000 in
theorem shape_num_true (b : Bool) (m f : Int) (w : World) (h0 : 0 ≤ f) (h1 : f ≤ 255) (hm0 : 0 ≤ m) (hm1 : m ≤ 18446744073709551615) (h : Hid (faultB f = { data := #[] })) (hv : 1 ≤ wrap64 (-(wrap64 m))) (hv2 : 1 ≤ vOf true m) :
    Calls Yba.prog 5 #[.agg #[.bool b, .bool true, .bool true, .int .u64 m, .int .u8 f]] w fun e w' => e = .returned (.bool true) ∧ Below w.heap.size w w' := by
  have ht : tnB.size = 18 := rfl
  go_enter Yba.func5, Yba.ntmps5
  go_wp2_with fail
  refine (build_at b true true m f _ _ h0 h1 h).mono ?_
  rintro e w1 ⟨rfl, hb⟩
  obtain ⟨hc, hfz⟩ := bcell hb
  have hz : w.heap.size < w1.heap.size := by have := hb.size; simp at this; omega
  go_wp2_with fail
  refine (txn_num w1.heap.size m true _ hm0 hm1 (by simp) (by simp) (by simp) (by simp) hv).mono ?_
  rintro e w2 ⟨rfl, q, rfl⟩
  go_wp2_with fail
  go_ret
  exact ⟨ret_bool (by first | rfl | simp), below_fin2 hb q⟩

set_option maxHeartbeats 400000 in
theorem shape_low_false (b : Bool) (m f : Int) (w : World) (h0 : 0 ≤ f) (h1 : f ≤ 255) (hm0 : 0 ≤ m) (hm1 : m ≤ 18446744073709551615) (h : Hid (faultB f = { data := #[] })) (hv : wrap64 m < 1) (hne : boB.toList.isEmpty = false) :
    Calls Yba.prog 5 #[.agg #[.bool b, .bool false, .bool true, .int .u64 m, .int .u8 f]] w fun e w' => e = .returned (.bool true) ∧ Below w.heap.size w w' := by
  have ht : tnB.size = 18 := rfl
  go_enter Yba.func5, Yba.ntmps5
  go_wp2_with fail
  refine (build_at b false true m f _ _ h0 h1 h).mono ?_
  rintro e w1 ⟨rfl, hb⟩
  obtain ⟨hc, hfz⟩ := bcell hb
  have hz : w.heap.size < w1.heap.size := by have := hb.size; simp at this; omega
  go_wp2_with fail
  refine (txn_low w1.heap.size m false _ hm0 hm1 (by simp) (by simp) (by simp) (by simp) hv).mono ?_
  rintro e w2 ⟨rfl, q, rfl⟩
  go_wp2_with fail
  go_ret
  exact ⟨ret_bool (by rfl), below_fin2 hb q⟩

set_option maxHeartbeats 400000 in
theorem shape_num_false (b : Bool) (m f : Int) (w : World) (h0 : 0 ≤ f) (h1 : f ≤ 255) (hm0 : 0 ≤ m) (hm1 : m ≤ 18446744073709551615) (h : Hid (faultB f = { data := #[] })) (hv : 1 ≤ wrap64 m) (hv2 : 1 ≤ vOf false m) :
    Calls Yba.prog 5 #[.agg #[.bool b, .bool false, .bool true, .int .u64 m, .int .u8 f]] w fun e w' => e = .returned (.bool true) ∧ Below w.heap.size w w' := by
  have ht : tnB.size = 18 := rfl
  go_enter Yba.func5, Yba.ntmps5
  go_wp2_with fail
  refine (build_at b false true m f _ _ h0 h1 h).mono ?_
  rintro e w1 ⟨rfl, hb⟩
  obtain ⟨hc, hfz⟩ := bcell hb
  have hz : w.heap.size < w1.heap.size := by have := hb.size; simp at this; omega
  go_wp2_with fail
  refine (txn_num w1.heap.size m false _ hm0 hm1 (by simp) (by simp) (by simp) (by simp) hv).mono ?_
  rintro e w2 ⟨rfl, q, rfl⟩
  go_wp2_with fail
  go_ret
  exact ⟨ret_bool (by first | rfl | simp), below_fin2 hb q⟩

theorem shape_any (b n d : Bool) (m f : Int) (w : World) (h0 : 0 ≤ f) (h1 : f ≤ 255) (hm0 : 0 ≤ m) (hm1 : m ≤ 18446744073709551615) :
    Calls Yba.prog 5 #[.agg #[.bool b, .bool n, .bool d, .int .u64 m, .int .u8 f]] w fun e w' => e = .returned (.bool true) ∧ Below w.heap.size w w' := by
  rcases faultB_cases f with h | h | h
  · exact shape_fault b n d m f ndB w h0 h1 hm0 hm1 h (by decide +kernel) (by decide) (by decide +kernel)
  · exact shape_fault b n d m f orB w h0 h1 hm0 hm1 h (by decide +kernel) (by decide) (by decide +kernel)
  · cases d
    · exact shape_nod b n m f w h0 h1 hm0 hm1 h (by decide +kernel)
    · cases n
      · rcases Int.lt_or_le (wrap64 m) 1 with hv | hv
        · exact shape_low_false b m f w h0 h1 hm0 hm1 h hv (by decide +kernel)
        · exact shape_num_false b m f w h0 h1 hm0 hm1 h hv hv
      · rcases Int.lt_or_le (wrap64 (-(wrap64 m))) 1 with hv | hv
        · exact shape_low_true b m f w h0 h1 hm0 hm1 h hv (by decide +kernel)
        · exact shape_num_true b m f w h0 h1 hm0 hm1 h hv hv
end Go.Proofs.Ybulkmbi
