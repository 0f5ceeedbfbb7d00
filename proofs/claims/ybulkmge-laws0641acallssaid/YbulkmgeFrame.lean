/-
  What a call leaves as it was; the log of the conditions asked, in memory.
-/
import Derived.Test.YbulkmgeOk
import Derived.Deep.AppendLies
namespace Go.Proofs.Ybulkmge
open Go.RowKit
set_option linter.unusedVariables false

/-- below block E all is as it was, but for the blocks X -/
structure Frame (E : Nat) (X : Nat → Prop) (w w' : World) : Prop where
  base : Below 0 w w'
  block : ∀ k, k < E → ¬ X k → w'.heap[k]? = w.heap[k]?
/-- the rows of nodes are as they were -/
def Keep37 (w w' : World) : Prop := ∀ k, Rowed w k → w'.heap[k]? = w.heap[k]?

theorem Frame.refl (E : Nat) (X : Nat → Prop) (w : World) : Frame E X w w := ⟨Below.refl _ _, fun _ _ _ => rfl⟩
theorem Frame.trans {E : Nat} {X : Nat → Prop} {a b c : World} (h : Frame E X a b) (k : Frame E X b c) : Frame E X a c := ⟨h.base.trans k.base, fun j h1 h2 => (k.block j h1 h2).trans (h.block j h1 h2)⟩
theorem Frame.size {E : Nat} {X : Nat → Prop} {w w' : World} (h : Frame E X w w') : w.heap.size ≤ w'.heap.size := h.base.size
theorem Frame.ofBelow {E : Nat} {X : Nat → Prop} {w w' : World} (h : Below E w w') : Frame E X w w' := ⟨h.mono (Nat.zero_le _), fun k hk _ => h.block k hk⟩
theorem Frame.below {E B : Nat} {X : Nat → Prop} {w w' : World} (h : Frame E X w w') (hB : B ≤ E) (hX : ∀ k, k < B → ¬ X k) : Below B w w' := ⟨h.base.os, h.base.tape, h.base.output, h.base.size, fun k hk => h.block k (by omega) (hX k hk)⟩
theorem Frame.mono {E E' : Nat} {X X' : Nat → Prop} {w w' : World} (h : Frame E X w w') (hE : E' ≤ E) (hX : ∀ k, k < E' → X k → X' k) : Frame E' X' w w' := ⟨h.base, fun k hk hn => h.block k (by omega) (fun hx => hn (hX k hk hx))⟩
theorem Frame.alloc {E : Nat} {X : Nat → Prop} {a w : World} (h : Frame E X a w) (hE : E ≤ w.heap.size) (o : Obj) : Frame E X a (w.alloc o) := ⟨h.base.alloc (Nat.zero_le _) o, fun k hk hn => (Below.heap_alloc w o k (by omega)).trans (h.block k hk hn)⟩
theorem Frame.drewN {E : Nat} {X : Nat → Prop} {a w : World} (h : Frame E X a w) (q : Nat) : Frame E X a (w.drewN q) := ⟨below_drewN h.base q, fun k hk hn => h.block k hk hn⟩
theorem Frame.setCell {E : Nat} {X : Nat → Prop} {a w : World} (h : Frame E X a w) {p : Addr} (hp : X p.block ∨ E ≤ p.block) (u : Value) : Frame E X a (w.setCell p u) :=
  ⟨h.base.setCell (Nat.zero_le _) u, fun k hk hn => (Below.heap_setCell w p u k (fun e => hp.elim (fun q => hn (e ▸ q)) (fun q => by omega))).trans (h.block k hk hn)⟩
theorem Frame.grown {E : Nat} {X : Nat → Prop} {a w w' : World} {row : Option Nat} (h : Frame E X a w) (hg : w.grownBy w' row) (hE : E ≤ w.heap.size) (hr : ∀ k, row = some k → X k ∨ E ≤ k) : Frame E X a w' :=
  ⟨h.base.grown hg (Nat.zero_le _) (fun k _ => Nat.zero_le _), fun k hk hn => by
    refine Eq.trans ?_ (h.block k hk hn)
    exact hg.block k (by omega) (fun e => (hr k e.symm).elim (fun q => hn q) (fun q => by omega))⟩

theorem Keep37.refl (w : World) : Keep37 w w := fun _ _ => rfl
theorem Rowed.keep {w w' : World} (k : Keep37 w w') {b : Nat} (h : Rowed w b) : Rowed w' b := by
  obtain ⟨cs, e⟩ := h
  exact ⟨cs, (k b ⟨cs, e⟩).trans e⟩
theorem Keep37.trans {a b c : World} (h : Keep37 a b) (k : Keep37 b c) : Keep37 a c := fun j hj => (k j (hj.keep h)).trans (h j hj)
theorem Rowed.lt {w : World} {b : Nat} (h : Rowed w b) : b < w.heap.size := by
  obtain ⟨cs, e⟩ := h
  exact (Array.getElem?_eq_some_iff.1 e).1
theorem Keep37.alloc {a w : World} (h : Keep37 a w) (o : Obj) : Keep37 a (w.alloc o) := fun j hj => (Below.heap_alloc w o j (hj.keep h).lt).trans (h j hj)
theorem Keep37.drewN {a w : World} (h : Keep37 a w) (q : Nat) : Keep37 a (w.drewN q) := h
theorem Keep37.setCell {a w : World} (h : Keep37 a w) {p : Addr} (hp : ¬ Rowed w p.block) (u : Value) : Keep37 a (w.setCell p u) := fun j hj =>
  (Below.heap_setCell w p u j (fun e => hp (e ▸ hj.keep h))).trans (h j hj)
theorem Keep37.grown {a w w' : World} {row : Option Nat} (h : Keep37 a w) (hg : w.grownBy w' row) (hr : ∀ k, row = some k → ¬ Rowed w k) : Keep37 a w' := fun j hj =>
  (hg.block j (hj.keep h).lt (fun e => hr j e.symm (hj.keep h))).trans (h j hj)
theorem Keep37.ofBelow {w w' : World} (h : Below w.heap.size w w') : Keep37 w w' := fun j hj => h.block j hj.lt
theorem Keep37.keepS {w w' : World} (h : Keep37 w w') (S : Nat → Prop) : KeepS S w w' := fun k _ hr => h k hr

theorem not_rowed {w : World} {b : Nat} {cs : Array Value} {t : TypeId} {fr : Nat × Nat} (h : w.heap[b]? = some (.cells cs t fr)) (ht : t ≠ 37) : ¬ Rowed w b := by
  rintro ⟨cs', e⟩
  rw [h] at e
  simp at e
  exact ht e.2.1

theorem Node3.of_block {w w' : World} {b off : Nat} {o c : Int} {p : Option Addr} {n cap : Nat} (h : Node3 w b off o c p n cap) (e : w'.heap[b]? = w.heap[b]?) : Node3 w' b off o c p n cap := by
  have ec : ∀ i, w'.cell? ⟨b, i, none⟩ = w.cell? ⟨b, i, none⟩ := fun i => World.cell?_of_block (w := w) e
  exact ⟨(ec _).trans h.c0, (ec _).trans h.c1, (ec _).trans h.c2⟩

/-- the variable in block gb holds a slice of the call's own that holds the log L -/
def Log (E gb : Nat) (w : World) (L : List Nat) : Prop := ∃ v, w.heap[gb]? = some (.cells #[v] 26 (0, 0)) ∧ w.ownsRow E 3 1 v L.length (L.map fun k : Nat => Value.int .i64 k)

theorem Log.lt {E gb : Nat} {w : World} {L : List Nat} (h : Log E gb w L) : gb < w.heap.size := by
  obtain ⟨v, h1, _⟩ := h
  exact (Array.getElem?_eq_some_iff.1 h1).1
theorem own_type {E : Nat} {w : World} {v : Value} {n : Nat} {xs : List Value} (h : w.ownsRow E 3 1 v n xs) {k : Nat} (hk : v.ownBlock = some k) : ∃ cs fr, w.heap[k]? = some (.cells cs 3 fr) := by
  rcases h.2 with ⟨rfl, _⟩ | ⟨g, cap, cur, rfl, _, hg, _⟩
  · simp [Value.ownBlock] at hk
  · simp [Value.ownBlock] at hk
    subst hk
    exact ⟨_, _, hg⟩
theorem Log.grown {E gb : Nat} {w w' : World} {L : List Nat} {row : Option Nat} (h : Log E gb w L) (hg : w.grownBy w' row) (hr : ∀ k, row = some k → Rowed w k) : Log E gb w' L := by
  have hl := h.lt
  obtain ⟨v, h1, h2⟩ := h
  refine ⟨v, (hg.block gb hl (fun e => not_rowed h1 (by decide) (hr gb e.symm))).trans h1, h2.kept hg ?_⟩
  cases hv : v.ownBlock with
  | none => exact .inl rfl
  | some k =>
    obtain ⟨cs, fr, e⟩ := own_type h2 hv
    exact .inr (fun er => not_rowed e (by decide) (hr k er.symm))
theorem Log.alloc {E gb : Nat} {w : World} {L : List Nat} (h : Log E gb w L) (o : Obj) : Log E gb (w.alloc o) L := h.grown (World.grownBy_alloc w o none) (fun k hk => by cases hk)
theorem info3 : (Yba.prog.info? 3).map (fun i => (i.zero, i.size, i.bytes)) = some (some (.int .i64 0), 1, 8) := by kernel_rfl
end Go.Proofs.Ybulkmge
