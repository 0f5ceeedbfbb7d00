/-
  The operands that are kept, while an operator's are gone through.
-/
import Derived.Test.YbulkmgePart2
namespace Go.Proofs.Ybulkmge
open Go.RowKit
set_option linter.unusedVariables false

def supK (S : Nat → Prop) (ab B kb k : Nat) : Prop := (minus S ab k ∨ B ≤ k) ∧ k ≠ kb

structure Kept (val : Nat → Int) (bit : Int → Nat → Bool) (nc d : Nat) (S : Nat → Prop) (ab B : Nat) (w : World) (kb r kcap : Nat) (ns : List NF) (Fs : List (Int → Bool)) : Prop where
  l1 : ns.length = r
  l2 : Fs.length = r
  node : ∀ i (h : i < ns.length), NodeF w kb (i * 3) ns[i]
  good : ∀ i (h1 : i < ns.length) (h2 : i < Fs.length), GoodF val bit nc d (supK S ab B kb) w ns[i] Fs[i]
  row : Rowed w kb
  how : (kb = ab ∧ kcap = r) ∨ (B ≤ kb ∧ w.ownsRow B 37 3 (.slice (some ⟨kb, 0, none⟩) r kcap) r (flat ns))

section
variable {val : Nat → Int} {bit : Int → Nat → Bool} {nc d : Nat} {S : Nat → Prop} {ab B : Nat}

theorem Kept.keep {w w1 : World} {kb r kcap : Nat} {ns : List NF} {Fs : List (Int → Bool)} (h : Kept val bit nc d S ab B w kb r kcap ns Fs) (k : Keep37 w w1) : Kept val bit nc d S ab B w1 kb r kcap ns Fs where
  l1 := h.l1
  l2 := h.l2
  node i hi := (h.node i hi).of_block (k kb h.row)
  good i h1 h2 := good_keep d (h.good i h1 h2) (k.keepS _)
  row := h.row.keep k
  how := h.how.elim .inl (fun q => .inr ⟨q.1, own_block q.2 (k kb h.row)⟩)

theorem Kept.app {w w2 : World} {kb r kcap kb' kcap' : Nat} {ns : List NF} {Fs : List (Int → Bool)} {x : NF} {F : Int → Bool} {o : Obj} {row : Option Nat} (h : Kept val bit nc d S ab B w kb r kcap ns Fs)
    (hx : GoodF val bit nc d (supK S ab B kb) w x F) (hg : (w.alloc o).grownBy w2 row) (hrow : ∀ k, row = some k → k = kb) (hkb : kb' = kb ∨ w.heap.size ≤ kb') (hB : B ≤ kb')
    (hown : w2.ownsRow B 37 3 (.slice (some ⟨kb', 0, none⟩) (r + 1) kcap') (r + 1) (flat ns ++ x.cells)) : Kept val bit nc d S ab B w2 kb' (r + 1) kcap' (ns ++ [x]) (Fs ++ [F]) := by
  have l1 := h.l1
  have l2 := h.l2
  rw [← flat_snoc] at hown
  have hkeep : ∀ k, k < w.heap.size → k ≠ kb → w2.heap[k]? = w.heap[k]? := fun k h1 h2 => (hg.block k (by simp; omega) (fun e => h2 (hrow k e.symm))).trans (Below.heap_alloc _ _ _ h1)
  have hgood : ∀ {y : NF} {G : Int → Bool}, GoodF val bit nc d (supK S ab B kb) w y G → GoodF val bit nc d (supK S ab B kb') w2 y G := by
    intro y G hy
    have h1 := good_keep d (good_in d hy) (w' := w2) (fun k hk hr => hkeep k hr.lt hk.1.2)
    exact good_mono d h1 (fun k hk => ⟨hk.1.1, by have h3 := hk.1.2; have h4 := hk.2; rcases hkb with e | e <;> omega⟩)
  refine ⟨by simp [l1], by simp [l2], fun i hi => own_node hown (by simp [l1]) i hi, fun i h1 h2 => ?_, own_rowed hown, .inr ⟨hB, hown⟩⟩
  by_cases hi : i < r
  · have e1 : (ns ++ [x])[i] = ns[i] := List.getElem_append_left (by omega)
    have e2 : (Fs ++ [F])[i] = Fs[i] := List.getElem_append_left (by omega)
    rw [e1, e2]
    exact hgood (h.good i (by omega) (by omega))
  · have hij : i = r := by simp at h1; omega
    subst hij
    have e1 : (ns ++ [x])[i] = x := by rw [List.getElem_append_right (by omega)]; simp [l1]
    have e2 : (Fs ++ [F])[i] = F := by rw [List.getElem_append_right (by omega)]; simp [l2]
    rw [e1, e2]
    exact hgood hx

/-- the blocks of an operand that is left lie beside the kept row -/
theorem Kept.beside {w w1 : World} {kb r kcap : Nat} {ns : List NF} {Fs : List (Int → Bool)} {x : NF} {F : Int → Bool} (h : Kept val bit nc d S ab B w kb r kcap ns Fs) (hS : ∀ k, S k → k < B) (hB : B ≤ w.heap.size)
    (hx : GoodF val bit nc d (sup (minus S ab) w.heap.size) w1 x F) : GoodF val bit nc d (supK S ab B kb) w1 x F := by
  refine good_mono d hx (fun k hk => ?_)
  rcases hk with q | q
  · refine ⟨.inl q, ?_⟩
    rcases h.how with ⟨e, _⟩ | ⟨e, _⟩
    · rw [e]; exact q.2
    · have := hS k q.1; omega
  · exact ⟨.inr (by omega), by have := h.row.lt; omega⟩

/-- a pointer's load into a slice of one: the cells to be appended -/
theorem flat_cells {w : World} {kb : Nat} {ns : List NF} (h : ∀ i (h : i < ns.length), NodeF w kb (i * 3) ns[i]) : ∀ b, some (⟨kb, 0, none⟩ : Addr) = some b → ∀ j u, (flat ns)[j]? = some u → w.cell? (b.add j) = some u := by
  intro b hb j u hj
  cases hb
  have e : (⟨kb, 0, none⟩ : Addr).add j = ⟨kb, j, none⟩ := by
    unfold Addr.add; split
    · rename_i h; subst h; rfl
    · simp
  rw [e]
  have hl : j < ns.length * 3 := by
    rw [← flat_length]
    exact (List.getElem?_eq_some_iff.1 hj).1
  have hq : j / 3 < ns.length := by omega
  obtain ⟨f0, f1, f2⟩ := flat_at ns (j / 3) hq
  obtain ⟨n0, n1, n2⟩ := h (j / 3) hq
  rcases (show j = j / 3 * 3 ∨ j = j / 3 * 3 + 1 ∨ j = j / 3 * 3 + 2 from by omega) with e | e | e
  · rw [e, f0] at hj; rw [e]; exact n0.trans hj
  · rw [e, f1] at hj; rw [e]; exact n1.trans hj
  · rw [e, f2] at hj; rw [e]; exact n2.trans hj

/-- the fields of an operator's operands, as a list -/
theorem children {w : World} {l : List Attr} (h : ∀ i (h : i < l.length), ∃ o' c' p' n' cap', NodeIn S w ab (i * 3) o' c' p' n' cap' ∧ Orig val bit nc d (minus S ab) w o' c' p' n' cap' l[i]) :
    ∃ ns : List NF, ns.length = l.length ∧ ∀ i (h1 : i < ns.length) (h2 : i < l.length), NodeIn S w ab (i * 3) ns[i].o ns[i].c ns[i].p ns[i].n ns[i].cap ∧ OrigF val bit nc d (minus S ab) w ns[i] l[i] := by
  have h' : ∀ i : Fin l.length, ∃ x : NF, NodeIn S w ab (i.1 * 3) x.o x.c x.p x.n x.cap ∧ OrigF val bit nc d (minus S ab) w x l[i.1] := fun i => by
    obtain ⟨o', c', p', n', cap', q1, q2⟩ := h i.1 i.2
    exact ⟨⟨o', c', p', n', cap'⟩, q1, q2⟩
  obtain ⟨f, hf⟩ := Classical.axiomOfChoice h'
  refine ⟨List.ofFn f, by simp, fun i h1 h2 => ?_⟩
  simpa using hf ⟨i, h2⟩

theorem filter_all {l : List Attr} (h : ∀ a ∈ l, a.m = 0) : l.filter (fun a => a.m == 0) = l := by
  rw [List.filter_eq_self]
  intro a ha
  simp [h a ha]

/-- the row as it was, cut behind its first k operands, none of which is known -/
theorem Kept.start {w w1 : World} {l : List Attr} {ns : List NF} {k : Nat} (hv : ∀ c, 0 ≤ val c ∧ val c ≤ 2) (hns : ns.length = l.length) (h : ∀ i (h1 : i < ns.length) (h2 : i < l.length), NodeIn S w ab (i * 3) ns[i].o ns[i].c ns[i].p ns[i].n ns[i].cap ∧ OrigF val bit nc d (minus S ab) w ns[i] l[i])
    (hk : k ≤ l.length) (h0 : 0 < l.length) (hkn : ∀ a ∈ l.take k, a.kn = false) (hK : Keep37 w w1) : Kept val bit nc d S ab B w1 ab k k (ns.take k) (((l.take k).filter (fun a => a.m == 0)).map (·.f)) := by
  have hm0 : ∀ a ∈ l.take k, a.m = 0 := by
    intro a ha
    obtain ⟨i, hi, e⟩ := List.getElem_of_mem ha
    have hi' : i < l.length := by simp at hi; omega
    have hs : Sound (3 ^ d) l[i] := orig_sound hv d (h i (by omega) hi').2
    have e2 : (l.take k)[i] = l[i] := by simp
    rw [← e, e2]
    exact hs.kn (by rw [← e2, e]; exact hkn a ha)
  rw [filter_all hm0]
  refine ⟨by simp; omega, by simp; omega, fun i hi => ?_, fun i h1 h2 => ?_, (h 0 (by omega) h0).1.row.keep hK, .inl ⟨rfl, rfl⟩⟩
  · have hi' : i < ns.length := by simp at hi; omega
    have e : (ns.take k)[i] = ns[i] := by simp
    rw [e]
    have := (h i hi' (by omega)).1
    exact this.at3.of_block (hK ab this.row)
  · have hi' : i < ns.length := by simp at h1; omega
    have hik : i < k := by simp at h1; omega
    have e : (ns.take k)[i] = ns[i] := by simp
    have e2 : ((l.take k).map (·.f))[i] = l[i].f := by simp
    have e3 : (l.take k)[i]'(by simp; omega) = l[i] := by simp
    rw [e, e2]
    have hO := (h i hi' (by omega)).2
    have hkn' : l[i].kn = false := by rw [← e3]; exact hkn _ (List.getElem_mem _)
    exact good_mono d (good_of_orig hv d (orig_keep d hO (hK.keepS _)) hkn') (fun j hj => ⟨.inl hj, hj.2⟩)
end
end Go.Proofs.Ybulkmge
