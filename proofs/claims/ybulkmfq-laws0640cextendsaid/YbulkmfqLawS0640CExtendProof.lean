/-
  LawS0640CExtend: the row, out of the walk.
-/
import Derived.Test.YbulkmfqRows
import Derived.Test.YbulkmfqExtend
import Derived.WalkKit
import Derived.ProofKit
import Derived.OpenShut
import Derived.ShutString
import Derived.ChangeOld
import Derived.Below
import Derived.SizedLaws
import Derived.SliceStrings
namespace Go.Proofs.Ybulkmfq.lawS0640CExtend
open Go.ChangeShapes Go.WideShapes Go.ChangeAt Go.RowKit
open Go.ChangeMaps (open_string shut_string)
set_option linter.unusedVariables false

theorem own : ownKnob Yba.prog.godebug = none := by kernel_rfl
theorem laidOut : laidOutB Yba.prog = true := by kernel_rfl
theorem cells9 : Yba.prog.cellsOf 9 = 1 := by kernel_rfl

/-- what the walk is told of a slice of strings that came in -/
def IsStrs (w : World) (a : Option Addr) (len cap : Nat) (ss : List ByteArray) : Prop :=
  (a = none ∧ len = 0 ∧ cap = 0 ∧ ss = []) ∨
  ∃ x, a = some x ∧ len ≤ cap ∧ cap ≤ maxLen ∧ ss.length = cap ∧ ∀ i, i < ss.length → w.cell? (x.add i) = some (.string (ss.getD i ByteArray.empty))

theorem mem_weightsAll {H : Type} (P : Program) (e : TypeId) (s : ByteArray) : ∀ (l : List ByteArray), s ∈ l → s.data.toList.length ∈ DataW.weightsAll (H := H) P e (strs l)
  | [], h => by simp at h
  | x :: l, h => by
    simp only [strs, List.map_cons, DataW.weightsAll, DataW.weights, List.mem_append]
    rcases List.mem_cons.1 h with e1 | e1
    · subst e1; exact .inl (by simp)
    · exact .inr (mem_weightsAll P e s l e1)

theorem sized_strs {H : Type} {P : Program} {ts : List TypeId} {ds : List (DataW H)} (h : (DataW.weightsEach P ts ds).all (· ≤ reachBytes) = true) {j : Nat} {t e : TypeId} {ss : List ByteArray} {len : Nat} (ht : ts[j]? = some t) (hd : ds[j]? = some (.slice (strs (ss.take len)) (strs (ss.drop len)))) (hu : P.underlying t = some (.slice e)) :
    ∀ s ∈ ss, s.size ≤ 1000000000000000000 := by
  intro s hs
  have hm : s.data.toList.length ∈ DataW.weights (H := H) P t (.slice (strs (ss.take len)) (strs (ss.drop len))) := by
    simp only [DataW.weights, hu, List.mem_cons, List.mem_append]
    right
    rw [← List.take_append_drop len ss] at hs
    rcases List.mem_append.1 hs with h1 | h1
    · exact .inl (mem_weightsAll P e s _ h1)
    · exact .inr (mem_weightsAll P e s _ h1)
  have := List.all_eq_true.1 h _ (DataW.weights_mem_each ht hd _ hm)
  have h2 : s.data.toList.length ≤ reachBytes := by simpa using this
  have e1 : s.data.toList.length = s.size := by simp
  have e2 : reachBytes ≤ 1000000000000000000 := by decide
  omega

theorem lt_of_cell {w : World} {b o : Nat} {v : Value} (h : w.cell? ⟨b, o, none⟩ = some v) : b < w.heap.size := by
  rcases Nat.lt_or_ge b w.heap.size with h1 | h1
  · exact h1
  · simp [World.cell?, Array.getElem?_eq_none h1] at h

theorem strs_at {w : World} {a : Addr} {ss : List ByteArray} (h : ∀ i, i < ss.length → w.cell? (a.add i) = some (.string (ss.getD i ByteArray.empty))) (hp : 0 < ss.length) :
    ∃ b off, a = ⟨b, off, none⟩ ∧ b < w.heap.size ∧ ∀ j, j < ss.length → w.cell? ⟨b, off + j, none⟩ = some (.string (ss.getD j ByteArray.empty)) := by
  obtain ⟨b, off, spot⟩ := a
  have hspot : spot = none := by simpa [Addr.add] using World.cell?_spot (h 0 hp)
  subst hspot
  have hc : ∀ j, j < ss.length → w.cell? ⟨b, off + j, none⟩ = some (.string (ss.getD j ByteArray.empty)) := by
    intro j hj
    have := h j hj
    unfold Addr.add at this
    split at this
    · rename_i e; subst e; simpa using this
    · exact this
  exact ⟨b, off, rfl, lt_of_cell (hc 0 hp), hc⟩

set_option maxRecDepth 100000 in
set_option maxHeartbeats 400000 in
theorem walk_big (a0 a1 : Option Addr) (len0 cap0 len1 cap1 : Nat) (a2 : Int) (w : World) (hb : 1024 < len0) (hm : len0 ≤ 9223372036854775807) :
    Calls Yba.prog 4 #[.slice a0 len0 cap0, .slice a1 len1 cap1, .int .u8 a2] w fun e w' => e = .returned (.bool true) ∧ Below w.heap.size w w' := by
  have hb' : (1024 : Int) < (len0 : Int) := by omega
  go_enter Yba.func4, Yba.ntmps4
  go_wp2
  go_ret
  exact ⟨rfl, Below.refl _ _⟩

theorem walk (a0 a1 : Option Addr) (len0 cap0 len1 cap1 : Nat) (s0 s1 : List ByteArray) (a2 : Int) (w : World) (w0 : IsStrs w a0 len0 cap0 s0) (w1 : IsStrs w a1 len1 cap1 s1) (hsz : ∀ s ∈ s1, s.size ≤ 1000000000000000000) (w2 : (Lit.int .u8 a2).wf = true) :
    Calls Yba.prog 4 #[.slice a0 len0 cap0, .slice a1 len1 cap1, .int .u8 a2] w fun e w' => e = .returned (.bool true) ∧ Below w.heap.size w w' := by
  have hmax : ∀ {a len cap ss}, IsStrs w a len cap ss → len ≤ 9223372036854775807 := by
    intro a len cap ss h
    rcases h with ⟨_, rfl, _⟩ | ⟨x, _, h1, h2, _⟩
    · omega
    · unfold maxLen at h2; omega
  rcases Nat.lt_or_ge 1024 len0 with hb | hb
  · exact walk_big a0 a1 len0 cap0 len1 cap1 a2 w hb (hmax w0)
  · simp [Lit.wf, IntKind.min, IntKind.max, IntKind.signed, IntKind.bits] at w2
    refine extend_walk a0 a1 len0 cap0 len1 cap1 a2 (fun i => s0.getD i ByteArray.empty) (fun i => s1.getD i ByteArray.empty) w hb (hmax w1) (by omega) (by omega) ?_ ?_ ?_
    · intro hp
      rcases w0 with ⟨_, rfl, _⟩ | ⟨x, rfl, h1, h2, h3, h4⟩
      · omega
      · obtain ⟨b, off, rfl, hbl, hc⟩ := strs_at h4 (by omega)
        exact ⟨_, rfl, hbl, fun j hj => h4 j (by omega)⟩
    · intro k hk
      rcases w1 with ⟨_, rfl, _⟩ | ⟨x, rfl, h1, h2, h3, h4⟩
      · omega
      · obtain ⟨b, off, rfl, hbl, hc⟩ := strs_at h4 (by omega)
        exact ⟨b, off, rfl, hbl, hc k (by omega)⟩
    · intro k
      rcases Nat.lt_or_ge k s1.length with h | h
      · have e : s1.getD k ByteArray.empty = s1[k] := by simp [List.getD, h]
        rw [e]; exact hsz _ (List.getElem_mem h)
      · have e : s1.getD k ByteArray.empty = ByteArray.empty := by simp [List.getD, h]
        rw [e]; exact Nat.zero_le _

set_option maxRecDepth 100000 in
theorem lifted (os : Os) (started : os.Started) (H : Type) (enc : TypeId × Value → H) :
    ReturnsInHanded {} Yba.checked os 4 .any (Rows.lawS0640CExtendSpec.pre6 enc Yba.prog Yba.f4 Rows.lawS0640CExtendRow.domain false) (Rows.lawS0640CExtendSpec.post enc Yba.prog Yba.f4 false true false false) := by
  refine returnsInHanded_of_change_sized (C := Yba.checked) own started (by kernel_rfl) Yba.func4
    (ChangeSpec.witness6 (enc := enc) (C := Yba.checked) false ⟨#[], #[.slice none 0 0, .slice none 0 0, .int .u8 0], []⟩ 8 (by kernel_rfl) (by kernel_rfl) (by kernel_rfl) (by kernel_rfl)) ?_
  intro W base args ds gs before hval0 hW _ hsz0 _
  have hsz : (DataW.weightsEach Yba.prog (Yba.f4.params.toList ++ Rows.lawS0640CExtendSpec.plain.varTypes Yba.prog) (ds ++ gs)).all (· ≤ reachBytes) = true := hsz0
  clear hsz0
  have hval : ∀ (j : Nat) t v, Yba.f4.params[j]? = some t → args[j]? = some v → Value.okWide Yba.prog W .any base t v := hval0
  have hW' := hW
  obtain ⟨p, q, hA0, hV, rfl, hfz, hnd⟩ := hW
  have hA : DataW.TrodAll enc Yba.prog W 0 (fun _ => true) true Yba.f4.params.toList args.toList ds p := hA0
  rw [Yba.params4] at hA hval hsz
  obtain ⟨v0, vs0, d0, ds0, p0, q0, hargs, rfl, rfl, h0, r0⟩ := trodAll_cons hA
  obtain ⟨v1, vs1, d1, ds1, p1, q1, rfl, rfl, rfl, h1, r1⟩ := trodAll_cons r0
  obtain ⟨v2, vs2, d2, ds2, p2, q2, rfl, rfl, rfl, h2, r2⟩ := trodAll_cons r1
  obtain ⟨rfl, rfl, rfl⟩ := trodAll_nil r2
  obtain rfl : args = #[v0, v1, v2] := by cases args; simp_all
  obtain ⟨rfl, rfl⟩ := trodVars_none hV
  obtain ⟨a0, len0, cap0, rfl⟩ := okWide_slice Yba.underlying23 (hval 0 23 v0 rfl rfl)
  obtain ⟨a1, len1, cap1, rfl⟩ := okWide_slice Yba.underlying23 (hval 1 23 v1 rfl rfl)
  have k0 := h0
  have k1 := h1
  have lt0 : ∀ x ∈ p0, x.block < W.heap.size := by obtain ⟨m, hm⟩ := k0; exact DataW.trod_lt m _ _ _ hm
  have lt1 : ∀ x ∈ p1, x.block < W.heap.size := by obtain ⟨m, hm⟩ := k1; exact DataW.trod_lt m _ _ _ hm
  obtain ⟨s0, w0⟩ : ∃ ss, IsStrs W a0 len0 cap0 ss := by
    obtain ⟨fuel, hf⟩ := h0
    rcases open_strings Yba.underlying23 Yba.underlying9 cells9 hf with ⟨hcs, _⟩ | ⟨x, l, c, zs, hcs, _, hl, hm, hz, _, hcell, hwz⟩
    · simp [Value.cells] at hcs
      obtain ⟨rfl, rfl, rfl⟩ := hcs
      exact ⟨[], .inl ⟨rfl, rfl, rfl, rfl⟩⟩
    · simp [Value.cells] at hcs
      obtain ⟨rfl, rfl, rfl⟩ := hcs
      exact ⟨zs, .inr ⟨_, rfl, hl, hm, by simpa using hz, hcell⟩⟩
  obtain ⟨s1, w1, z1⟩ : ∃ ss, IsStrs W a1 len1 cap1 ss ∧ ∀ s ∈ ss, s.size ≤ 1000000000000000000 := by
    obtain ⟨fuel, hf⟩ := h1
    rcases open_strings Yba.underlying23 Yba.underlying9 cells9 hf with ⟨hcs, _⟩ | ⟨x, l, c, zs, hcs, _, hl, hm, hz, hx, hcell, hwz⟩
    · simp [Value.cells] at hcs
      obtain ⟨rfl, rfl, rfl⟩ := hcs
      exact ⟨[], .inl ⟨rfl, rfl, rfl, rfl⟩, fun s hs => by simp at hs⟩
    · simp [Value.cells] at hcs
      obtain ⟨rfl, rfl, rfl⟩ := hcs
      simp only [Prod.mk.injEq] at hx
      exact ⟨zs, .inr ⟨_, rfl, hl, hm, by simpa using hz, hcell⟩, sized_strs hsz (j := 1) (t := 23) (e := 9) (len := len1) rfl (by rw [← hx.1]; rfl) Yba.underlying23⟩
  obtain ⟨a2, rfl, rfl, rfl, w2⟩ := open_int Yba.underlying5 (hval 2 5 v2 rfl rfl) h2
  clear hA0 hval0
  refine (walk a0 a1 len0 cap0 len1 cap1 s0 s1 a2 W w0 w1 z1 w2).mono fun e W' ⟨he, bel⟩ => ?_
  subst he
  exact ⟨_, rfl, _, _, _, [], _, [], hW', trodAll_mk1 (shut_bool Yba.underlying4 _), (trodAll_cons_mk (Below.trod laidOut (by kernel_rfl) (of_decide_eq_true (by kernel_rfl)) k0 bel lt0) (trodAll_cons_mk (Below.trod laidOut (by kernel_rfl) (of_decide_eq_true (by kernel_rfl)) k1 bel lt1) (trodAll_cons_mk (shut_int Yba.underlying5 w2) trodAll_mk0))), rfl, bel.frame _, fun h => by cases h⟩

theorem over : Rows.lawS0640CExtendRow.holds Yba.pinned (OpenSpec.ofChange Rows.lawS0640CExtendSpec) :=
  OpenClaim.holds_of_wide 4 Yba.f4 rfl rfl rfl rfl rfl rfl rfl ⟨rfl, rfl, rfl, rfl, rfl⟩ rfl rfl rfl rfl rfl (by kernel_rfl) Yba.func4 (by kernel_rfl)
    (of_decide_eq_true (by kernel_rfl)) (by unfold Func.isWrapper; first | (rw [if_pos (by decide +kernel)]; kernel_rfl) | (rw [if_neg (by decide +kernel)]; exact ⟨rfl, rfl⟩))
    (fun os started H enc _ => lifted os started H enc)

/-- THE STATEMENT -/
theorem proved : Rows.LawS0640CExtendSaid := over
end Go.Proofs.Ybulkmfq.lawS0640CExtend
