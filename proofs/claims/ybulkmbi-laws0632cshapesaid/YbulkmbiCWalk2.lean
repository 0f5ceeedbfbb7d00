import Derived.Test.YbulkmbiCWalk1
namespace Go.Proofs.Ybulkmbi
open Go.RowKit
set_option linter.unusedVariables false

theorem build_at (b n d : Bool) (m f : Int) (fb : ByteArray) (w : World) (h0 : 0 ≤ f) (h1 : f ≤ 255) (h : Hid (faultB f = fb)) :
    Calls Yba.prog 10 #[.agg #[.bool b, .bool n, .bool d, .int .u64 m, .int .u8 f]] w fun e w' => e = .returned (.agg #[.bool b, .bool n, .bool d, .int .u64 m, .string fb]) ∧ Below w.heap.size w w' := by
  have := h.out; subst this
  exact build_any b n d m f w h0 h1
theorem fault_at (n : Int) (fb : ByteArray) (w : World) (h0 : 0 ≤ n) (h1 : n ≤ 255) (h : Hid (faultB n = fb)) :
    Calls Yba.prog 12 #[.int .u8 n] w fun e w' => e = .returned (.string fb) ∧ w' = w := by
  have := h.out; subst this
  exact fault_any n w h0 h1

theorem bcell {W w1 : World} (hb : Below W.heap.size W w1) : (∀ b o, b < W.heap.size → w1.cell? ⟨b, o, none⟩ = W.cell? ⟨b, o, none⟩) ∧ (∀ b o, b < W.heap.size → w1.frozen? ⟨b, o, none⟩ = W.frozen? ⟨b, o, none⟩) :=
  ⟨fun b o h => hb.cell (p := ⟨b, o, none⟩) h, fun b o h => hb.frozen (p := ⟨b, o, none⟩) h⟩

theorem ret_bool {a b : Bool} (h : a = b) : Ending.returned (.bool a) = .returned (.bool b) := by rw [h]
theorem below_fin {w w1 : World} {o : Obj} {o2 : Obj} (hb : Below (w.alloc o).heap.size (w.alloc o) w1) (q : Nat) : Below w.heap.size w ((w1.alloc o2).drewN q) :=
  below_drewN ((((Below.refl _ _).alloc (Nat.le_refl _) o).trans (hb.mono (by simp))).alloc (by have := hb.size; simp at this; omega) _) q

set_option maxHeartbeats 400000 in
theorem exact_fault (b n d : Bool) (m f : Int) (fb : ByteArray) (w : World) (h0 : 0 ≤ f) (h1 : f ≤ 255) (hm0 : 0 ≤ m) (hm1 : m ≤ 18446744073709551615) (h : Hid (faultB f = fb))
    (hf : fb.toList.isEmpty = false) (hs : fb.size ≤ 1000) (hne : (tnB ++ fb).toList.isEmpty = false) :
    Calls Yba.prog 4 #[.agg #[.bool b, .bool n, .bool d, .int .u64 m, .int .u8 f]] w fun e w' => e = .returned (.bool true) ∧ Below w.heap.size w w' := by
  have ht : tnB.size = 18 := rfl
  go_enter Yba.func4, Yba.ntmps4
  go_wp2_with fail
  refine (build_at b n d m f fb _ h0 h1 h).mono ?_
  rintro e w1 ⟨rfl, hb⟩
  obtain ⟨hc, hfz⟩ := bcell hb
  have hz : w.heap.size < w1.heap.size := by have := hb.size; simp at this; omega
  go_wp2_with fail
  refine (txn_fault w1.heap.size fb _ hf hs hne (by simp)).mono ?_
  rintro e w2 ⟨rfl, q, rfl⟩
  go_wp2_with fail
  refine (fault_at f fb _ h0 h1 h).mono ?_
  rintro e w2 ⟨rfl, rfl⟩
  go_wp2_with fail
  go_ret
  exact ⟨ret_bool (beq_self_eq_true (tnB ++ fb).toList), below_fin hb q⟩

set_option maxHeartbeats 400000 in
theorem exact_nod (b n : Bool) (m f : Int) (w : World) (h0 : 0 ≤ f) (h1 : f ≤ 255) (hm0 : 0 ≤ m) (hm1 : m ≤ 18446744073709551615) (h : Hid (faultB f = { data := #[] })) :
    Calls Yba.prog 4 #[.agg #[.bool b, .bool n, .bool false, .int .u64 m, .int .u8 f]] w fun e w' => e = .returned (.bool true) ∧ Below w.heap.size w w' := by
  have ht : tnB.size = 18 := rfl
  go_enter Yba.func4, Yba.ntmps4
  go_wp2_with fail
  refine (build_at b n false m f _ _ h0 h1 h).mono ?_
  rintro e w1 ⟨rfl, hb⟩
  obtain ⟨hc, hfz⟩ := bcell hb
  have hz : w.heap.size < w1.heap.size := by have := hb.size; simp at this; omega
  go_wp2_with fail
  refine (txn_nod w1.heap.size _ (by simp) (by simp)).mono ?_
  rintro e w2 ⟨rfl, q, rfl⟩
  go_wp2_with fail
  refine (fault_at f _ _ h0 h1 h).mono ?_
  rintro e w2 ⟨rfl, rfl⟩
  go_wp2_with fail
  go_ret
  exact ⟨ret_bool (by decide +kernel), below_fin hb q⟩

set_option maxHeartbeats 400000 in
theorem exact_low_true (b : Bool) (m f : Int) (w : World) (h0 : 0 ≤ f) (h1 : f ≤ 255) (hm0 : 0 ≤ m) (hm1 : m ≤ 18446744073709551615) (h : Hid (faultB f = { data := #[] })) (hv : wrap64 (-(wrap64 m)) < 1) :
    Calls Yba.prog 4 #[.agg #[.bool b, .bool true, .bool true, .int .u64 m, .int .u8 f]] w fun e w' => e = .returned (.bool true) ∧ Below w.heap.size w w' := by
  have ht : tnB.size = 18 := rfl
  go_enter Yba.func4, Yba.ntmps4
  go_wp2_with fail
  refine (build_at b true true m f _ _ h0 h1 h).mono ?_
  rintro e w1 ⟨rfl, hb⟩
  obtain ⟨hc, hfz⟩ := bcell hb
  have hz : w.heap.size < w1.heap.size := by have := hb.size; simp at this; omega
  go_wp2_with fail
  refine (txn_low w1.heap.size m true _ hm0 hm1 (by simp) (by simp) (by simp) (by simp) hv).mono ?_
  rintro e w2 ⟨rfl, q, rfl⟩
  go_wp2_with fail
  refine (fault_at f _ _ h0 h1 h).mono ?_
  rintro e w2 ⟨rfl, rfl⟩
  go_wp2_with fail
  go_ret
  exact ⟨ret_bool (by decide +kernel), below_fin hb q⟩

set_option maxHeartbeats 400000 in
theorem exact_num_true (b : Bool) (m f : Int) (w : World) (h0 : 0 ≤ f) (h1 : f ≤ 255) (hm0 : 0 ≤ m) (hm1 : m ≤ 18446744073709551615) (h : Hid (faultB f = { data := #[] })) (hv : 1 ≤ wrap64 (-(wrap64 m))) :
    Calls Yba.prog 4 #[.agg #[.bool b, .bool true, .bool true, .int .u64 m, .int .u8 f]] w fun e w' => e = .returned (.bool true) ∧ Below w.heap.size w w' := by
  have ht : tnB.size = 18 := rfl
  go_enter Yba.func4, Yba.ntmps4
  go_wp2_with fail
  refine (build_at b true true m f _ _ h0 h1 h).mono ?_
  rintro e w1 ⟨rfl, hb⟩
  obtain ⟨hc, hfz⟩ := bcell hb
  have hz : w.heap.size < w1.heap.size := by have := hb.size; simp at this; omega
  go_wp2_with fail
  refine (txn_num w1.heap.size m true _ hm0 hm1 (by simp) (by simp) (by simp) (by simp) hv).mono ?_
  rintro e w2 ⟨rfl, q, rfl⟩
  go_wp2_with fail
  refine (fault_at f _ _ h0 h1 h).mono ?_
  rintro e w2 ⟨rfl, rfl⟩
  go_wp2_with fail
  go_ret
  exact ⟨ret_bool rfl, below_fin hb q⟩

set_option maxHeartbeats 400000 in
theorem exact_low_false (b : Bool) (m f : Int) (w : World) (h0 : 0 ≤ f) (h1 : f ≤ 255) (hm0 : 0 ≤ m) (hm1 : m ≤ 18446744073709551615) (h : Hid (faultB f = { data := #[] })) (hv : wrap64 m < 1) :
    Calls Yba.prog 4 #[.agg #[.bool b, .bool false, .bool true, .int .u64 m, .int .u8 f]] w fun e w' => e = .returned (.bool true) ∧ Below w.heap.size w w' := by
  have ht : tnB.size = 18 := rfl
  go_enter Yba.func4, Yba.ntmps4
  go_wp2_with fail
  refine (build_at b false true m f _ _ h0 h1 h).mono ?_
  rintro e w1 ⟨rfl, hb⟩
  obtain ⟨hc, hfz⟩ := bcell hb
  have hz : w.heap.size < w1.heap.size := by have := hb.size; simp at this; omega
  go_wp2_with fail
  refine (txn_low w1.heap.size m false _ hm0 hm1 (by simp) (by simp) (by simp) (by simp) hv).mono ?_
  rintro e w2 ⟨rfl, q, rfl⟩
  go_wp2_with fail
  refine (fault_at f _ _ h0 h1 h).mono ?_
  rintro e w2 ⟨rfl, rfl⟩
  go_wp2_with fail
  go_ret
  exact ⟨ret_bool (by decide +kernel), below_fin hb q⟩

set_option maxHeartbeats 400000 in
theorem exact_num_false (b : Bool) (m f : Int) (w : World) (h0 : 0 ≤ f) (h1 : f ≤ 255) (hm0 : 0 ≤ m) (hm1 : m ≤ 18446744073709551615) (h : Hid (faultB f = { data := #[] })) (hv : 1 ≤ wrap64 m) :
    Calls Yba.prog 4 #[.agg #[.bool b, .bool false, .bool true, .int .u64 m, .int .u8 f]] w fun e w' => e = .returned (.bool true) ∧ Below w.heap.size w w' := by
  have ht : tnB.size = 18 := rfl
  go_enter Yba.func4, Yba.ntmps4
  go_wp2_with fail
  refine (build_at b false true m f _ _ h0 h1 h).mono ?_
  rintro e w1 ⟨rfl, hb⟩
  obtain ⟨hc, hfz⟩ := bcell hb
  have hz : w.heap.size < w1.heap.size := by have := hb.size; simp at this; omega
  go_wp2_with fail
  refine (txn_num w1.heap.size m false _ hm0 hm1 (by simp) (by simp) (by simp) (by simp) hv).mono ?_
  rintro e w2 ⟨rfl, q, rfl⟩
  go_wp2_with fail
  refine (fault_at f _ _ h0 h1 h).mono ?_
  rintro e w2 ⟨rfl, rfl⟩
  go_wp2_with fail
  go_ret
  exact ⟨ret_bool rfl, below_fin hb q⟩

theorem faultB_cases (f : Int) : faultB f = ndB ∨ faultB f = orB ∨ faultB f = { data := #[] } := by
  unfold faultB
  split
  · exact .inl rfl
  split
  · exact .inr (.inl rfl)
  · exact .inr (.inr rfl)

theorem exact_any (b n d : Bool) (m f : Int) (w : World) (h0 : 0 ≤ f) (h1 : f ≤ 255) (hm0 : 0 ≤ m) (hm1 : m ≤ 18446744073709551615) :
    Calls Yba.prog 4 #[.agg #[.bool b, .bool n, .bool d, .int .u64 m, .int .u8 f]] w fun e w' => e = .returned (.bool true) ∧ Below w.heap.size w w' := by
  rcases faultB_cases f with h | h | h
  · exact exact_fault b n d m f ndB w h0 h1 hm0 hm1 h (by decide +kernel) (by decide) (by decide +kernel)
  · exact exact_fault b n d m f orB w h0 h1 hm0 hm1 h (by decide +kernel) (by decide) (by decide +kernel)
  · cases d
    · exact exact_nod b n m f w h0 h1 hm0 hm1 h
    · cases n
      · rcases Int.lt_or_le (wrap64 m) 1 with hv | hv
        · exact exact_low_false b m f w h0 h1 hm0 hm1 h hv
        · exact exact_num_false b m f w h0 h1 hm0 hm1 h hv
      · rcases Int.lt_or_le (wrap64 (-(wrap64 m))) 1 with hv | hv
        · exact exact_low_true b m f w h0 h1 hm0 hm1 h hv
        · exact exact_num_true b m f w h0 h1 hm0 hm1 h hv
end Go.Proofs.Ybulkmbi
