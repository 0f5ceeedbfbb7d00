/-
  An operator's operands gone through: what each step does to the loop's relation.
-/
import Derived.Test.YbulkmgeKept
namespace Go.Proofs.Ybulkmge
open Go.RowKit
set_option linter.unusedVariables false

/-- the functions of the operands among the first k that are not known -/
def keptF (l : List Attr) (k : Nat) : List (Int → Bool) := ((l.take k).filter (fun a => a.m == 0)).map (·.f)
theorem keptF_pos {l : List Attr} {k : Nat} (h : k < l.length) (h0 : l[k].m = 0) : keptF l (k + 1) = keptF l k ++ [l[k].f] := by
  unfold keptF
  rw [List.take_succ_eq_append_getElem h, List.filter_append, List.map_append]
  simp [h0]
theorem keptF_neg {l : List Attr} {k : Nat} (h : k < l.length) (h0 : l[k].m ≠ 0) : keptF l (k + 1) = keptF l k := by
  unfold keptF
  rw [List.take_succ_eq_append_getElem h, List.filter_append, List.map_append]
  simp [h0]
theorem kn_take_succ {l : List Attr} {k : Nat} (h : k < l.length) (h1 : ∀ a ∈ l.take k, a.kn = false) (h2 : l[k].kn = false) : ∀ a ∈ l.take (k + 1), a.kn = false := by
  intro a ha
  rw [List.take_succ_eq_append_getElem h] at ha
  rcases List.mem_append.1 ha with e | e
  · exact h1 a e
  · simp at e; subst e; exact h2

section
variable (val : Nat → Int) (bit : Int → Nat → Bool) (nc E : Nat) (X : Nat → Prop) (I : World → List Nat → Prop) (d : Nat) (S : Nat → Prop) (ab : Nat) (isOr : Bool) (l : List Attr) (w : World) (L : List Nat)

/-- what is kept, by the two variables -/
def KeptV (k : Nat) (kv dv : Value) (wr : World) : Prop :=
  (dv = .bool false ∧ kv = .slice none 0 0 ∧ ∀ x ∈ l.take k, x.kn = false) ∨
  (dv = .bool true ∧ (l.take k).any (·.kn) = true ∧ ∃ kb r kcap ns, kv = .slice (some ⟨kb, 0, none⟩) r kcap ∧ Kept val bit nc d S ab w.heap.size wr kb r kcap ns (keptF l k))

structure NaryR (k : Nat) (wr : World) : Prop where
  no : ∀ x ∈ l.take k, x.m ≠ decOf isOr
  inv : I wr (L ++ logs (l.take k))
  frame : Frame E X w wr
  keep : Keep37 w wr
end

section
variable {val : Nat → Int} {bit : Int → Nat → Bool} {nc E : Nat} {X : Nat → Prop} {I : World → List Nat → Prop} {d : Nat} {S : Nat → Prop} {ab : Nat} {isOr : Bool} {l : List Attr} {w : World} {L : List Nat}

theorem NaryR.step {k : Nat} {wr w1 : World} (h : NaryR E X I isOr l w L k wr) (hk : k < l.length) (hd : l[k].m ≠ decOf isOr) (hI : I w1 (L ++ logs (l.take k) ++ l[k].log)) (hF : Frame E X wr w1) (hK : Keep37 wr w1) : NaryR E X I isOr l w L (k + 1) w1 :=
  ⟨ne_take_succ hk h.no hd, by rw [logs_take_succ hk, ← List.append_assoc]; exact hI, h.frame.trans hF, h.keep.trans hK⟩

/-- behind an append to the kept row -/
theorem NaryR.grown {k : Nat} {w1 w2 : World} {o : Obj} {row : Option Nat} (h : NaryR E X I isOr l w L k w1) (hIg : ∀ w w' row L, I w L → w.grownBy w' row → (∀ k, row = some k → Rowed w k ∧ E ≤ k) → I w' L) (hE : E ≤ w.heap.size) (hg : (w1.alloc o).grownBy w2 row) (hr : ∀ j, row = some j → Rowed w1 j ∧ w.heap.size ≤ j) : NaryR E X I isOr l w L k w2 := by
  have hs := h.frame.size
  have hr' : ∀ j, row = some j → Rowed (w1.alloc o) j ∧ E ≤ j := fun j hj => ⟨(hr j hj).1.keep ((Keep37.refl w1).alloc o), Nat.le_trans hE (hr j hj).2⟩
  refine ⟨h.no, hIg _ _ row _ (hIg _ _ none _ h.inv (World.grownBy_alloc w1 o none) (fun j hj => by cases hj)) hg hr', (h.frame.alloc (by omega) o).grown hg (by simp; omega) (fun j hj => .inr (by have := (hr j hj).2; omega)), fun j hj => ?_⟩
  exact (hg.block j (by simp; have := hj.lt; omega) (fun e => by have := (hr j e.symm).2; have := hj.lt; omega)).trans ((h.keep.alloc o) j hj)

theorem any_kn {n : Nat} {k : Nat} (hk : k < l.length) (hs : Sound n l[k]) (h : l[k].m ≠ 0 ∨ l[k].kn = true ∨ (l.take k).any (·.kn) = true) : (l.take (k + 1)).any (·.kn) = true := by
  rw [any_take_succ _ hk]
  rcases h with h | h | h
  · have : l[k].kn = true := by
      cases e : l[k].kn
      · exact absurd (hs.kn e) h
      · rfl
    simp [this]
  · simp [h]
  · simp [h]

theorem app_new {k : Nat} {w1 : World} {o : Obj} {kb r kcap : Nat} {ns : List NF} {x : NF} (hR : NaryR E X I isOr l w L (k + 1) w1) (hIg : ∀ w w' row L, I w L → w.grownBy w' row → (∀ k, row = some k → Rowed w k ∧ E ≤ k) → I w' L) (hE : E ≤ w.heap.size) (hk : k < l.length)
    (hKp : Kept val bit nc d S ab w.heap.size w1 kb r kcap ns (keptF l k)) (hx : GoodF val bit nc d (supK S ab w.heap.size kb) w1 x l[k].f) (h0 : l[k].m = 0) (hany : (l.take (k + 1)).any (·.kn) = true) :
    ∀ v' w2, w2.ownsRow (w1.alloc o).heap.size 37 3 v' (r + 1) (flat ns ++ x.cells) → (w1.alloc o).grownBy w2 none → ∃ g kc, v' = .slice (some ⟨g, 0, none⟩) (r + 1) kc ∧ NaryR E X I isOr l w L (k + 1) w2 ∧ KeptV val bit nc d S ab l w (k + 1) v' (.bool true) w2 := by
  intro v' w2 hown hg
  have hs := hR.frame.size
  obtain ⟨g, kc, rfl⟩ := Go.Joins.ownsRow_form hown (by omega)
  have hgl : (w1.alloc o).heap.size ≤ g := (hown.lt g rfl).1
  simp at hgl
  have hown' := Go.Joins.ownsRow_le hown (base' := w.heap.size) (by simp; omega)
  refine ⟨g, kc, rfl, hR.grown hIg hE hg (fun j hj => by cases hj), .inr ⟨rfl, hany, g, r + 1, kc, ns ++ [x], rfl, ?_⟩⟩
  rw [keptF_pos hk h0]
  exact hKp.app hx hg (fun j hj => by cases hj) (.inr (by omega)) (by omega) hown'
theorem app_old {k : Nat} {w1 : World} {o : Obj} {kb r kcap : Nat} {ns : List NF} {x : NF} (hR : NaryR E X I isOr l w L (k + 1) w1) (hIg : ∀ w w' row L, I w L → w.grownBy w' row → (∀ k, row = some k → Rowed w k ∧ E ≤ k) → I w' L) (hE : E ≤ w.heap.size) (hk : k < l.length) (hB : w.heap.size ≤ kb)
    (hKp : Kept val bit nc d S ab w.heap.size w1 kb r kcap ns (keptF l k)) (hx : GoodF val bit nc d (supK S ab w.heap.size kb) w1 x l[k].f) (h0 : l[k].m = 0) (hany : (l.take (k + 1)).any (·.kn) = true) :
    ∀ g kc w2, w2.ownsRow w.heap.size 37 3 (.slice (some ⟨g, 0, none⟩) (r + 1) kc) (r + 1) (flat ns ++ x.cells) → (w1.alloc o).grownBy w2 (some kb) → (some kb = some g ∨ g = w1.heap.size + 1) → NaryR E X I isOr l w L (k + 1) w2 ∧ KeptV val bit nc d S ab l w (k + 1) (.slice (some ⟨g, 0, none⟩) (r + 1) kc) (.bool true) w2 := by
  intro g kc w2 hown hg hat
  have hs := hR.frame.size
  refine ⟨hR.grown hIg hE hg (fun j hj => by cases hj; exact ⟨hKp.row, hB⟩), .inr ⟨rfl, hany, g, r + 1, kc, ns ++ [x], rfl, ?_⟩⟩
  rw [keptF_pos hk h0]
  have hg2 : g = kb ∨ w1.heap.size ≤ g := by
    rcases hat with e | e
    · exact .inl (by cases e; rfl)
    · exact .inr (by omega)
  exact hKp.app hx hg (fun j hj => by cases hj; rfl) hg2 (by rcases hg2 with e | e <;> omega) hown

theorem pne_nil (a : Addr) (w : World) : (binOp .neq 32 (.pointer none) (.pointer (some a))).run Yba.prog w = .ok (.bool true) w := by
  have h : ∀ d : Nat, (Op.equalIn (d + 1) 32 (.pointer none) (.pointer (some a))).run Yba.prog w = .ok false w := fun d => by
    simp [Op.equalIn, run_underlying under32]
  simp only [binOp]
  simp [Op.equal, Op.maxDepth, h 9999]

theorem PartP.none {S : Nat → Prop} {b off : Nat} {w' : World} (hs : ∀ a ∈ l, Sound (3 ^ d) a) (h1 : 0 < l.length) (hno : ∀ x ∈ l, x.m ≠ decOf isOr) (h0 : keptF l l.length = []) :
    (naryA isOr l).m = 3 - decOf isOr := by
  have e := (nary_end (isOr := isOr) hno).1
  rw [e]
  have : l.any (fun a => a.m == 0) = false := by
    rw [List.any_eq_false]
    intro a ha h2
    have hm : a.m = 0 := by simpa using h2
    have hmem : a ∈ (l.take l.length).filter (fun a => a.m == 0) := by
      rw [List.take_length, List.mem_filter]; exact ⟨ha, by simp [hm]⟩
    unfold keptF at h0
    rw [List.map_eq_nil_iff] at h0
    rw [h0] at hmem
    simp at hmem
  rw [this]; rfl
theorem m_zero (hno : ∀ x ∈ l, x.m ≠ decOf isOr) (h0 : keptF l l.length ≠ []) : (naryA isOr l).m = 0 := by
  have e := (nary_end (isOr := isOr) hno).1
  rw [e]
  have : l.any (fun a => a.m == 0) = true := by
    rw [List.any_eq_true]
    unfold keptF at h0
    rw [List.take_length] at h0
    cases hf : l.filter (fun a => a.m == 0) with
    | nil => rw [hf] at h0; exact absurd rfl h0
    | cons a r =>
      have : a ∈ l.filter (fun a => a.m == 0) := by rw [hf]; simp
      rw [List.mem_filter] at this
      exact ⟨a, this.1, this.2⟩
  rw [this]; rfl
theorem f_kept {n : Nat} (hs : ∀ a ∈ l, Sound n a) (hno : ∀ x ∈ l, x.m ≠ decOf isOr) : (naryA isOr l).f = allF isOr (keptF l l.length) := by
  funext x
  have := allF_filter (isOr := isOr) x l hs hno
  unfold keptF
  rw [List.take_length]
  exact this
theorem Kept.supp {w : World} {B kb r kcap : Nat} {wr : World} {ns : List NF} {Fs : List (Int → Bool)} (h : Kept val bit nc d S ab B wr kb r kcap ns Fs) (hab : S ab) : sup S B kb := by
  rcases h.how with ⟨e, _⟩ | ⟨e, _⟩
  · exact .inl (e ▸ hab)
  · exact .inr e
theorem supK_sup {B kb : Nat} : ∀ k, supK S ab B kb k → sup S B k := fun k hk => hk.1.elim (fun q => .inl q.1) .inr
theorem fin_many {B kb r kcap : Nat} {wr : World} {ns : List NF} {Fs : List (Int → Bool)} (h : Kept val bit nc d S ab B wr kb r kcap ns Fs) (hab : S ab) (h2 : 2 ≤ r) (h3 : r ≤ 3) (o : Int) (ho : o = 2 ∨ o = 3) (ob : Obj) :
    GoodF val bit nc (d + 1) (sup S B) (wr.alloc ob) ⟨o, 0, some ⟨kb, 0, none⟩, r, kcap⟩ (allF (o == 3) Fs) := by
  have hk := h.keep ((Keep37.refl wr).alloc ob)
  have l1 := h.l1
  have l2 := h.l2
  refine .inr (.inr ⟨ho, kb, Fs, rfl, l2.symm, by omega, by omega, fun i hi => ?_, rfl⟩)
  have hin : i < ns.length := by omega
  exact ⟨ns[i].o, ns[i].c, ns[i].p, ns[i].n, ns[i].cap, ⟨Kept.supp (w := wr) h hab, hk.row, hk.node i hin⟩, good_mono d (hk.good i hin hi) supK_sup⟩
theorem fin_one {B kb kcap : Nat} {wr : World} {ns : List NF} {Fs : List (Int → Bool)} (h : Kept val bit nc d S ab B wr kb 1 kcap ns Fs) (hab : S ab) : ∃ (x : NF) (F : Int → Bool), Fs = [F] ∧ NodeF wr kb 0 x ∧ GoodF val bit nc (d + 1) (sup S B) wr x F := by
  have l1 := h.l1
  have l2 := h.l2
  refine ⟨ns[0], Fs[0], ?_, ?_, good_lift d (good_mono d (h.good 0 (by omega) (by omega)) supK_sup)⟩
  · match Fs, l2 with
    | [F], _ => rfl
  · simpa using h.node 0 (by omega)
theorem go_m0 {n : Nat} (hs : ∀ a ∈ l, Sound n a) (hk : (naryA isOr l).kn = false) (h2 : 2 ≤ l.length) : (naryA isOr l).m = 0 :=
  go_kn (decOf isOr) (by cases isOr <;> simp [decOf]) l false hs hk (.inr (by intro e; simp [e] at h2))
theorem allF_one (isOr : Bool) (F : Int → Bool) : allF isOr [F] = F := by
  funext x
  cases isOr <;> simp [allF]
end
end Go.Proofs.Ybulkmge
