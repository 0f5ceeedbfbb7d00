/-
  No cell of these rows narrows 'for every input' (looked for: loops, veiled, ifaces, maps, wideKeys, modest, calm, conditions, laid).
  DERIVED. THE GIVEN ROWS OF THIS SEAT. 3 by the template 'for every input the law returns true; each argument reads behind the call as it read before'; 0 by the template 'total and deterministic' (their statements: YbulkmbiTotals.lean).
  GIVEN WITH THE SEED: the statements are not yours to turn. If you find one false, say at which input.
  Laid BY PROGRAM, IN A SANDBOX (cutbox-rows.mjs): the forced cells as the released guide's own fill.sh prints them over the translation adfc3b2a3bcda708… (all of the seat's roots in one cut). By AI agents, Wed Nov 11 2026. No macro, syntax, notation, axiom, sorry.
-/
import Derived.Test.YbulkmbiChecked
import GoSem.Claim
import GoSem.ClaimJoined
import GoSem.ClaimMapViews
import Derived.JoinedTies
import Derived.KernelRfl
namespace Go.Proofs.Ybulkmbi
/- THE CELL 'sum', in the pinned program and in every row, IS THE sha256 OF THE DUMP (.gsa) THAT YbulkmbiProg.lean LOADS. Nothing in Lean hashes anything: it is a label: what it is worth is what the hold of that sum in a sandbox is worth. -/
noncomputable def Yba.pinned : Pinned := { name := "ybulkmbi", sum := "adfc3b2a3bcda7083d0ef01d018e3347ce6025860ac59acf101a1a7476d1525b", checked := Yba.checked }
namespace Rows
def none {H : Type} : Left H := { results := [], args := [] }

/-- 'history.LawS0632APlace': WHATEVER THE INPUT: true; the input reads as it did. -/
def lawS0632APlaceSpec : ChangeSpec := { name := "lawS0632APlace", fn := fun _ => fun
  | [d1, d2, d3, d4, d5, d6] => { results := [.lit (.bool true)], args := [d1, d2, d3, d4, d5, d6] }
  | _ => none }
def lawS0632APlaceRow : OpenClaim := { program := "ybulkmbi", sum := "adfc3b2a3bcda7083d0ef01d018e3347ce6025860ac59acf101a1a7476d1525b", func := "example.com/lockpoint/lockpoint/history.LawS0632APlace", spec := "lawS0632APlace", unfollowed := true, recurses := true, plainKeys := false, apart := false }
def LawS0632APlaceSaid : Prop := lawS0632APlaceRow.holds Yba.pinned (OpenSpec.ofChange lawS0632APlaceSpec)

/-- ITS FALSE NEIGHBOUR: 'it returns false'. Refute it at one input. -/
def lawS0632APlaceWrong : ChangeSpec := { name := "lawS0632APlace", fn := fun _ => fun
  | [d1, d2, d3, d4, d5, d6] => { results := [.lit (.bool false)], args := [d1, d2, d3, d4, d5, d6] }
  | _ => none }
def LawS0632APlaceWrongFalsely : Prop := lawS0632APlaceRow.holds Yba.pinned (OpenSpec.ofChange lawS0632APlaceWrong)

/-- 'history.LawS0632CExact': WHATEVER THE INPUT: true; the input reads as it did. -/
def lawS0632CExactSpec : ChangeSpec := { name := "lawS0632CExact", fn := fun _ => fun
  | [d] => { results := [.lit (.bool true)], args := [d] }
  | _ => none }
def lawS0632CExactRow : OpenClaim := { program := "ybulkmbi", sum := "adfc3b2a3bcda7083d0ef01d018e3347ce6025860ac59acf101a1a7476d1525b", func := "example.com/lockpoint/lockpoint/history.LawS0632CExact", spec := "lawS0632CExact", plainKeys := false, apart := false }
def LawS0632CExactSaid : Prop := lawS0632CExactRow.holds Yba.pinned (OpenSpec.ofChange lawS0632CExactSpec)

/-- ITS FALSE NEIGHBOUR: 'it returns false'. Refute it at one input. -/
def lawS0632CExactWrong : ChangeSpec := { name := "lawS0632CExact", fn := fun _ => fun
  | [d] => { results := [.lit (.bool false)], args := [d] }
  | _ => none }
def LawS0632CExactWrongFalsely : Prop := lawS0632CExactRow.holds Yba.pinned (OpenSpec.ofChange lawS0632CExactWrong)

/-- 'history.LawS0632CShape': WHATEVER THE INPUT: true; the input reads as it did. -/
def lawS0632CShapeSpec : ChangeSpec := { name := "lawS0632CShape", fn := fun _ => fun
  | [d] => { results := [.lit (.bool true)], args := [d] }
  | _ => none }
def lawS0632CShapeRow : OpenClaim := { program := "ybulkmbi", sum := "adfc3b2a3bcda7083d0ef01d018e3347ce6025860ac59acf101a1a7476d1525b", func := "example.com/lockpoint/lockpoint/history.LawS0632CShape", spec := "lawS0632CShape", plainKeys := false, apart := false }
def LawS0632CShapeSaid : Prop := lawS0632CShapeRow.holds Yba.pinned (OpenSpec.ofChange lawS0632CShapeSpec)

/-- ITS FALSE NEIGHBOUR: 'it returns false'. Refute it at one input. -/
def lawS0632CShapeWrong : ChangeSpec := { name := "lawS0632CShape", fn := fun _ => fun
  | [d] => { results := [.lit (.bool false)], args := [d] }
  | _ => none }
def LawS0632CShapeWrongFalsely : Prop := lawS0632CShapeRow.holds Yba.pinned (OpenSpec.ofChange lawS0632CShapeWrong)

end Rows
end Go.Proofs.Ybulkmbi
