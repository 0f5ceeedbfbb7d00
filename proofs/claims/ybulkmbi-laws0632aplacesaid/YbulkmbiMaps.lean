/-
  The map of LawS0632APlace: keys are structs of two int32; at most two entries. The runs of its three operations.
-/
import Derived.Test.YbulkmbiProg
import Derived.WalkKit
import Derived.WalkSpells
import Derived.WalkLawsBesides
import Derived.WideKeyRuns
import Derived.ChangeMaps4
import Derived.Maps.OwnOps
namespace Go.Proofs.Ybulkmbi
open Go.RowKit
open Go.ChangeMaps (setBlock)
set_option linter.unusedVariables false

theorem stood44 : Yba.prog.stoodInHeld 44 = false := by kernel_rfl
theorem fields44 : Yba.prog.underlying 44 = some (.struct (Yba.prog.fieldsOf 44)) := by kernel_rfl
/-- the key of two numbers -/
def key2 (a b : Int) : Value := .agg #[.int .i32 a, .int .i32 b]
theorem eq44 (a b c d : Int) (w : World) : (Op.equal 44 (key2 a b) (key2 c d)).run Yba.prog w = .ok (a == c && b == d) w := by
  rw [key2, key2, Op.equal, Op.maxDepth, run_equalIn_struct _ _ _ _ _ fields44 stood44]
  go_simp
  by_cases h1 : a = c <;> by_cases h2 : b = d <;> simp [h1, h2]
theorem ck21 (n : Nat) (a : Int) (e : Bool) (w : World) : (Instr.checkKey e (n + 1) 21 (.int .i32 a)).run Yba.prog w = .ok () w := by
  unfold Instr.checkKey
  simp [run_underlying Yba.underlying21]
theorem ck44' (n : Nat) (a b : Int) (e : Bool) (w : World) : (Instr.checkKey e (n + 2) 44 (key2 a b)).run Yba.prog w = .ok () w := by
  have p0 : ∀ w, (part 21 #[.int .i32 a, .int .i32 b] 0).run Yba.prog w = .ok (.int .i32 a) w := fun w => by go_simp
  have p1 : ∀ w, (part 21 #[.int .i32 a, .int .i32 b] 1).run Yba.prog w = .ok (.int .i32 b) w := fun w => by go_simp
  have k1 := ck21 n a e
  have k2 := ck21 n b e
  unfold Instr.checkKey
  simp [key2, run_underlying Yba.underlying44, p0, p1, k1, k2]
theorem ck44 (a b : Int) (e : Bool) (w : World) : (Instr.checkKey e 10000 44 (key2 a b)).run Yba.prog w = .ok () w := ck44' 9998 a b e w
theorem find44 (a b : Int) (es : List MapEntry) (w : World) : (Instr.findKey 44 (key2 a b) es).run Yba.prog w = (Instr.findAsking 44 (key2 a b) es).run Yba.prog w :=
  run_findKey_eq w (by rw [Yba.underlying44]) _ _

theorem upd_empty (r c : Nat) (a b : Int) (v : Value) (w : World) (h : w.heap[r]? = some (.map #[] c)) :
    (Instr.mapUpdate 31 (.map (some r)) (key2 a b) v).run Yba.prog w = .ok () (setBlock w r (.map #[{ key := key2 a b, val := v, born := c }] (c + 1))) := by
  simp [Instr.mapUpdate, run_underlying Yba.underlying31, MapKept.run_getObj_map h, ck44, find44, Instr.findAsking, MapKept.run_setObj_map _ h, Result.andThen, setBlock]

theorem upd_one (r c b1 : Nat) (a b a' b' : Int) (v v' : Value) (w : World) (hne : (a == a' && b == b') = false) (h : w.heap[r]? = some (.map #[{ key := key2 a' b', val := v', born := b1 }] c)) :
    (Instr.mapUpdate 31 (.map (some r)) (key2 a b) v).run Yba.prog w = .ok () (setBlock w r (.map #[{ key := key2 a' b', val := v', born := b1 }, { key := key2 a b, val := v, born := c }] (c + 1))) := by
  simp [Instr.mapUpdate, run_underlying Yba.underlying31, MapKept.run_getObj_map h, ck44, find44, Instr.findAsking, eq44, hne, MapKept.run_setObj_map _ h, Result.andThen, setBlock]

theorem look_hit (r c b1 : Nat) (a b : Int) (v : Value) (l : List MapEntry) (w : World) (h : w.heap[r]? = some (.map ⟨{ key := key2 a b, val := v, born := b1 } :: l⟩ c)) :
    (Instr.lookup 31 (.map (some r)) (key2 a b) true).run Yba.prog w = .ok (.tuple #[v, .bool true]) w := by
  simp [Instr.lookup, run_underlying Yba.underlying31, MapKept.run_getObj_map h, ck44, find44, Instr.findAsking, eq44, Result.andThen]

theorem look_miss (r c b1 : Nat) (a b a' b' : Int) (v : Value) (w : World) (hne : (a == a' && b == b') = false) (h : w.heap[r]? = some (.map #[{ key := key2 a' b', val := v, born := b1 }] c)) :
    (Instr.lookup 31 (.map (some r)) (key2 a b) true).run Yba.prog w = .ok (.tuple #[.int .i32 0, .bool false]) w := by
  simp [Instr.lookup, run_underlying Yba.underlying31, MapKept.run_getObj_map h, ck44, find44, Instr.findAsking, eq44, hne, Result.andThen]

/-- a look-up at the operation, out of its run's equation -/
theorem wpList_lookup_run {P : Program} (w : World) {ops : Array Oper} {rest : List Oper} {o : Oper} {a : Act} {Q : Exit → Act → World → Prop}
    (hg : o.guard = none) (m x : Operand) (t : TypeId) (ok : Bool) (hop : o.op = Op.lookup t m x ok) (mv key val : Value) (hm : a.eval m = mv) (hx : a.eval x = key)
    (hrun : (Instr.lookup t mv key ok).run P w = .ok val w) (hK : wpList P ops Q rest (a.put o.dst val) w) : wpList P ops Q (o :: rest) a w := by
  refine wpList_plain hg fun K' hK' => ?_
  unfold Oper.wp
  simp [execOp, hop, hm, hx, hrun, Result.andThen]
  exact hK' _ _ hK
/-- a store into a map at the operation, out of its run's equation -/
theorem wpList_mapUpdate_run {P : Program} (w : World) {ops : Array Oper} {rest : List Oper} {o : Oper} {a : Act} {Q : Exit → Act → World → Prop}
    (hg : o.guard = none) (m x v : Operand) (t : TypeId) (hop : o.op = Op.mapUpdate t m x v) (mv key val : Value) (hm : a.eval m = mv) (hx : a.eval x = key) (hv : a.eval v = val) (w' : World)
    (hrun : (Instr.mapUpdate t mv key val).run P w = .ok () w') (hK : wpList P ops Q rest (a.put o.dst undef) w') : wpList P ops Q (o :: rest) a w := by
  refine wpList_plain hg fun K' hK' => ?_
  unfold Oper.wp
  simp [execOp, hop, hm, hx, hv, hrun, Result.andThen]
  exact hK' _ _ hK
end Go.Proofs.Ybulkmbi
