import Derived.Test.YbulkmgeMake
import Derived.LaidEqlPtr
namespace Go.Proofs.Ybulkmge
open Go.RowKit
set_option linter.unusedVariables false

/-- what is asked of the function value known: F its function, caps what it captured -/
def ClosC (F : Nat) (caps : Array Value) (nc : Nat) (val : Nat → Int) (E : Nat) (X : Nat → Prop) (I : World → List Nat → Prop) : Prop :=
  ∀ (c : Nat) (w : World) (L : List Nat), c < nc → L.length ≤ 1000 → I w L →
    Calls Yba.prog F (#[.int .i64 c] ++ caps) w fun e w' => e = .returned (.tuple #[.bool (val c == 2), .bool (!(val c == 0))]) ∧ I w' (L ++ [c]) ∧ Frame E X w w' ∧ Keep37 w w'

theorem enter6 : ∀ args w, (callFunc 6 args).run Yba.prog w = .ok (.enter 6 args) w := by
  intro args w
  kernel_rfl
theorem enter10 : ∀ args w, (callFunc 10 args).run Yba.prog w = .ok (.enter 10 args) w := by
  intro args w
  kernel_rfl

theorem good_in {val : Nat → Int} {bit : Int → Nat → Bool} {nc : Nat} : ∀ (d : Nat) {S : Nat → Prop} {w : World} {o c : Int} {p : Option Addr} {n cap : Nat} {F : Int → Bool}, Good val bit nc d S w o c p n cap F → Good val bit nc d (fun k => S k ∧ k < w.heap.size) w o c p n cap F
  | 0, _, _, _, _, _, _, _, _, h => h
  | d + 1, _, _, _, _, _, _, _, _, h => by
    rcases h with h | ⟨e, b, o', c', p', n', cap', A', h1, h2, h3, h4, h5⟩ | ⟨e, b, l, h1, h2, h3, h4, h5, h6⟩
    · exact .inl h
    · exact .inr (.inl ⟨e, b, o', c', p', n', cap', A', h1, h2, ⟨⟨h3.s, h3.row.lt⟩, h3.row, h3.at3⟩, good_in d h4, h5⟩)
    · refine .inr (.inr ⟨e, b, l, h1, h2, h3, h4, fun i hi => ?_, h6⟩)
      obtain ⟨o', c', p', n', cap', q1, q2⟩ := h5 i hi
      exact ⟨o', c', p', n', cap', ⟨⟨q1.s, q1.row.lt⟩, q1.row, q1.at3⟩, good_in d q2⟩

/-- the blocks of what is left: blocks of the expression, or new ones -/
def sup (S : Nat → Prop) (B : Nat) (k : Nat) : Prop := S k ∨ B ≤ k

/-- what the reading of known values leaves of a node at ⟨b, off⟩ -/
def PartP (val : Nat → Int) (bit : Int → Nat → Bool) (nc d : Nat) (A : Attr) (S : Nat → Prop) (w : World) (b off : Nat) (e : Ending) (w' : World) : Prop :=
  (A.m ≠ 0 ∧ e = .returned (.tuple #[.pointer none, .bool (A.m == 2)])) ∨
  (A.m = 0 ∧ ∃ (b' off' : Nat) (x : NF), e = .returned (.tuple #[.pointer (some ⟨b', off', none⟩), .bool false]) ∧ NodeF w' b' off' x ∧ GoodF val bit nc d (sup S w.heap.size) w' x A.f ∧
    (A.kn = false → b' = b ∧ off' = off) ∧ (A.kn = true → sup S w.heap.size b' ∧ Rowed w' b'))

/-- the whole of what such a call does -/
def PartQ (val : Nat → Int) (bit : Int → Nat → Bool) (nc E : Nat) (X : Nat → Prop) (I : World → List Nat → Prop) (d : Nat) (A : Attr) (S : Nat → Prop) (w : World) (L : List Nat) (b off : Nat) (e : Ending) (w' : World) : Prop :=
  PartP val bit nc d A S w b off e w' ∧ I w' (L ++ A.log) ∧ Frame E X w w' ∧ Keep37 w w'

theorem ret_pb {a : Option Addr} {x y : Bool} (h : x = y) : Ending.returned (.tuple #[.pointer a, .bool x]) = .returned (.tuple #[.pointer a, .bool y]) := by rw [h]

set_option maxRecDepth 100000 in
set_option maxHeartbeats 400000 in
theorem leaf14 (F : Nat) (caps : Array Value) (nc : Nat) (val : Nat → Int) (bit : Int → Nat → Bool) (hv : ∀ c, 0 ≤ val c ∧ val c ≤ 2) (E : Nat) (X : Nat → Prop) (I : World → List Nat → Prop) (hC : Hid (ClosC F caps nc val E X I)) (hF : ∀ args w, (callFunc F args).run Yba.prog w = .ok (.enter F args) w) (d b off k n cp : Nat) (p : Option Addr) (S : Nat → Prop) (w : World) (L : List Nat) (hk : k < nc) (hL : L.length ≤ 1000) (h3 : Node3 w b off 0 k p n cp) (hb : b < E) (hbX : ¬ X b) (hI : I w L) :
    Calls Yba.prog 14 #[.pointer (some ⟨b, off, none⟩), .func (.func F) #[] caps] w fun e w' => PartQ val bit nc E X I d (leafA val bit k) S w L b off e w' := by
  have h3' := h3
  obtain ⟨c0, c1, c2⟩ := h3
  by_cases h0 : val k = 0
  · have e1 : (val k == 2) = false := by simp [h0]
    have e2 : (val k == 0) = true := by simp [h0]
    have H0 : Hid (val k = 0) := h0
    clear h0
    go_enter Yba.func14, Yba.ntmps14
    go_wp2_with fail
    refine (hC.out k w L hk hL hI).mono ?_
    rintro e w1 ⟨rfl, hI1, hF1, hK1⟩
    go_wp2_with fail
    go_ret2
    refine ⟨.inr ⟨H0.out, b, off, ⟨0, k, p, n, cp⟩, rfl, h3'.of_block (hF1.block b hb hbX), ?_, fun _ => ⟨rfl, rfl⟩, fun h => ?_⟩, hI1, hF1, hK1⟩
    · show Good val bit nc d _ w1 0 k p n cp _
      cases d with
      | zero => exact ⟨rfl, k, rfl, hk, H0.out, rfl⟩
      | succ d => exact .inl ⟨rfl, k, rfl, hk, H0.out, rfl⟩
    · simp [leafA, H0.out] at h
  · have e2 : (val k == 0) = false := by simp [h0]
    go_enter Yba.func14, Yba.ntmps14
    go_wp2_with fail
    refine (hC.out k w L hk hL hI).mono ?_
    rintro e w1 ⟨rfl, hI1, hF1, hK1⟩
    go_wp2_with fail
    go_ret2
    exact ⟨.inl ⟨h0, rfl⟩, hI1, hF1, hK1⟩

theorem under32 : Yba.prog.underlying 32 = some (.pointer 37) := Yba.underlying32
theorem peq_same (a : Addr) (w : World) : (binOp .eql 32 (.pointer (some a)) (.pointer (some a))).run Yba.prog w = .ok (.bool true) w := by
  obtain ⟨i0, hi, _⟩ := info_parts info37
  exact run_eql_ptr_same w a under32 hi
theorem peq_other {a b : Addr} {w : World} {ca cb : Array Value} {ta tb : TypeId} (hne : a ≠ b) (ha : w.heap[a.block]? = some (.cells ca ta (0, 0))) (hb : w.heap[b.block]? = some (.cells cb tb (0, 0))) : (binOp .eql 32 (.pointer (some a)) (.pointer (some b))).run Yba.prog w = .ok (.bool false) w := by
  obtain ⟨i0, hi, _, hz, _⟩ := info_parts info37
  exact run_eql_ptr_other w under32 hi (by rw [hz]; decide) hne ha hb
theorem pne_same (a : Addr) (w : World) : (binOp .neq 32 (.pointer (some a)) (.pointer (some a))).run Yba.prog w = .ok (.bool false) w := by
  obtain ⟨i0, hi, _⟩ := info_parts info37
  have h : ∀ d : Nat, (Op.equalIn (d + 1) 32 (.pointer (some a)) (.pointer (some a))).run Yba.prog w = .ok true w := fun d => by
    simp [Op.equalIn, run_underlying under32, sizeOf, typeInfo, hi, run_sameAddr_same]
  simp only [binOp]
  simp [Op.equal, Op.maxDepth, h 9999]
theorem pne_other {a b : Addr} {w : World} {ca cb : Array Value} {ta tb : TypeId} (hne : a ≠ b) (ha : w.heap[a.block]? = some (.cells ca ta (0, 0))) (hb : w.heap[b.block]? = some (.cells cb tb (0, 0))) : (binOp .neq 32 (.pointer (some a)) (.pointer (some b))).run Yba.prog w = .ok (.bool true) w := by
  obtain ⟨i0, hi, _, hz, _⟩ := info_parts info37
  have hsz : i0.size ≠ 0 := by rw [hz]; decide
  have h : ∀ d : Nat, (Op.equalIn (d + 1) 32 (.pointer (some a)) (.pointer (some b))).run Yba.prog w = .ok false w := fun d => by
    simp [Op.equalIn, run_underlying under32, sizeOf, typeInfo, hi, hsz, run_sameAddr_other w hne ha hb]
  simp only [binOp]
  simp [Op.equal, Op.maxDepth, h 9999]

/-- the contract, d levels above the bottom -/
def PartC (F : Nat) (caps : Array Value) (val : Nat → Int) (bit : Int → Nat → Bool) (nc E : Nat) (X : Nat → Prop) (I : World → List Nat → Prop) (d : Nat) : Prop :=
  ∀ (b off : Nat) (x : NF) (A : Attr) (S : Nat → Prop) (w : World) (L : List Nat), (∀ k, S k → k < E ∧ ¬ X k) → b < E → ¬ X b → ¬ S b → E ≤ w.heap.size → L.length + A.log.length ≤ 1000 → NodeF w b off x → OrigF val bit nc d S w x A → I w L →
    Calls Yba.prog 14 #[.pointer (some ⟨b, off, none⟩), .func (.func F) #[] caps] w fun e w' => PartQ val bit nc E X I d A S w L b off e w'

end Go.Proofs.Ybulkmge
