import Derived.Test.YbulkmgeMake
import Derived.Test.YbulkmgePartAll
namespace Go.Proofs.Ybulkmge
open Go.RowKit
set_option linter.unusedVariables false

theorem info39 : (Yba.prog.info? 39).map (fun i => decide (i.size ≠ 0)) = some true := by kernel_rfl
theorem info39' : ∃ i, Yba.prog.info? 39 = some i ∧ i.size ≠ 0 := by
  have h := info39
  cases hi : Yba.prog.info? 39 with
  | none => rw [hi] at h; simp at h
  | some i => rw [hi] at h; simp at h; exact ⟨i, rfl, h⟩
theorem info53s : (Yba.prog.info? 53).isSome = true := by kernel_rfl
theorem under23 : Yba.prog.underlying 23 = some (.pointer 39) := Yba.underlying23
theorem under45 : Yba.prog.underlying 45 = some (.pointer 53) := Yba.underlying45
theorem xeq_same (a : Addr) (w : World) : (binOp .eql 23 (.pointer (some a)) (.pointer (some a))).run Yba.prog w = .ok (.bool true) w := by
  obtain ⟨i0, hi, _⟩ := info39'
  exact run_eql_ptr_same w a under23 hi
theorem xne_other {a b : Addr} {w : World} {ca cb : Array Value} {ta tb : TypeId} (hne : a ≠ b) (ha : w.heap[a.block]? = some (.cells ca ta (0, 0))) (hb : w.heap[b.block]? = some (.cells cb tb (0, 0))) : (binOp .neq 23 (.pointer (some a)) (.pointer (some b))).run Yba.prog w = .ok (.bool true) w := by
  obtain ⟨i0, hi, hsz⟩ := info39'
  have h : ∀ d : Nat, (Op.equalIn (d + 1) 23 (.pointer (some a)) (.pointer (some b))).run Yba.prog w = .ok false w := fun d => by
    simp [Op.equalIn, run_underlying under23, sizeOf, typeInfo, hi, hsz, run_sameAddr_other w hne ha hb]
  simp only [binOp]
  simp [Op.equal, Op.maxDepth, h 9999]
theorem cne_same (a : Addr) (w : World) : (binOp .neq 45 (.pointer (some a)) (.pointer (some a))).run Yba.prog w = .ok (.bool false) w := by
  obtain ⟨i0, hi⟩ := Option.isSome_iff_exists.1 info53s
  have h : ∀ d : Nat, (Op.equalIn (d + 1) 45 (.pointer (some a)) (.pointer (some a))).run Yba.prog w = .ok true w := fun d => by
    simp [Op.equalIn, run_underlying under45, sizeOf, typeInfo, hi, run_sameAddr_same]
  simp only [binOp]
  simp [Op.equal, Op.maxDepth, h 9999]

theorem Vals.mono {B B' : Nat} {w : World} {a : Option Addr} {len : Nat} {z : Nat → Int} (h : Vals B w a len z) (hB : B ≤ B') : Vals B' w a len z := fun k hk => by
  obtain ⟨b, o, e, h1, h2⟩ := h k hk
  exact ⟨b, o, e, by omega, h2⟩

theorem grown_below {B : Nat} {w w' : World} {row : Option Nat} (hg : w.grownBy w' row) (hB : B ≤ w.heap.size) (hr : ∀ k, row = some k → B ≤ k) : Below B w w' :=
  ⟨hg.os, hg.tape, hg.output, hg.size, fun k hk => hg.block k (by omega) (fun e => by have := hr k e.symm; omega)⟩

theorem grow6 {B E gb vb : Nat} {a : Option Addr} {len cap : Nat} {z : Nat → Int} (hBE : B ≤ E) (hvb : vb < E) : ∀ w w' row L, I6 B E gb vb a len cap z w L → w.grownBy w' row → (∀ k, row = some k → Rowed w k ∧ E ≤ k) → I6 B E gb vb a len cap z w' L := by
  intro w w' row L h hg hr
  have hE := h.hE
  have hb := grown_below hg hE (fun k hk => (hr k hk).2)
  exact ⟨h.log.grown hg (fun k hk => (hr k hk).1), (hb.block vb hvb).trans h.box, h.vals.below (hb.mono hBE), Nat.le_trans hE hb.size⟩
theorem grow10 {B E vb : Nat} {a : Option Addr} {len cap : Nat} {z : Nat → Int} (hBE : B ≤ E) (hvb : vb < E) : ∀ w w' row (L : List Nat), I10 B E vb a len cap z w → w.grownBy w' row → (∀ k, row = some k → Rowed w k ∧ E ≤ k) → I10 B E vb a len cap z w' := by
  intro w w' row L h hg hr
  have hE := h.hE
  have hb := grown_below hg hE (fun k hk => (hr k hk).2)
  exact ⟨(hb.block vb hvb).trans h.box, h.vals.below (hb.mono hBE), Nat.le_trans hE hb.size⟩

theorem clos6 {B E gb vb : Nat} {a : Option Addr} {len cap nc : Nat} {z : Nat → Int} (hl : len ≤ 1024) (hnc : nc ≤ 1024) (hB : B ≤ gb) (hgE : gb < E) : ClosC 6 #[.pointer (some ⟨gb, 0, none⟩), .pointer (some ⟨vb, 0, none⟩)] nc (valF len z) E (fun k => k = gb) (I6 B E gb vb a len cap z) := by
  intro c w L hc hL hI
  exact call6 B E gb vb a len cap c z w L hl (by omega) hL hB hgE hI
theorem clos10 {B E vb : Nat} {a : Option Addr} {len cap nc : Nat} {z : Nat → Int} (hl : len ≤ 1024) (hnc : nc ≤ 1024) : ClosC 10 #[.pointer (some ⟨vb, 0, none⟩)] nc (valF len z) E (fun _ => False) (fun w _ => I10 B E vb a len cap z w) := by
  intro c w L hc hL hI
  refine (call10 B E vb a len cap c z w hl (by omega) hI).mono ?_
  rintro e w' ⟨he, rfl⟩
  exact ⟨he, hI, Frame.refl _ _ _, Keep37.refl _⟩

theorem m_log {len : Nat} {z : Nat → Int} {bit : Int → Nat → Bool} {nc : Nat} {S : Nat → Prop} {w : World} {x : NF} {A : Attr} (h : OrigF (valF len z) bit nc 5 S w x A) : Sound 243 A := orig_sound (valF_bd len z) 5 h
end Go.Proofs.Ybulkmge
