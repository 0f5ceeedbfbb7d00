/-
  No cell of these rows narrows 'for every input' (looked for: loops, veiled, ifaces, maps, wideKeys, modest, calm, conditions, laid).
  DERIVED. THE GIVEN ROWS OF THIS SEAT. 2 by the template 'for every input the law returns true; each argument reads behind the call as it read before'; 0 by the template 'total and deterministic' (their statements: YbulkmgeTotals.lean).
  GIVEN WITH THE SEED: the statements are not yours to turn. If you find one false, say at which input.
  Laid BY PROGRAM, IN A SANDBOX (cutbox-rows.mjs): the forced cells as the released guide's own fill.sh prints them over the translation 065cc7430fbd1e9f… (all of the seat's roots in one cut). By AI agents, Wed Nov 11 2026. No macro, syntax, notation, axiom, sorry.
-/
import Derived.Test.YbulkmgeChecked
import GoSem.Claim
import GoSem.ClaimJoined
import GoSem.ClaimMapViews
import Derived.JoinedTies
import Derived.KernelRfl
namespace Go.Proofs.Ybulkmge
/- THE CELL 'sum', in the pinned program and in every row, IS THE sha256 OF THE DUMP (.gsa) THAT YbulkmgeProg.lean LOADS. Nothing in Lean hashes anything: it is a label: what it is worth is what the hold of that sum in a sandbox is worth. -/
noncomputable def Yba.pinned : Pinned := { name := "ybulkmge", sum := "065cc7430fbd1e9f9b12570d9cd7de560064b6c7f15d71bb7458817258424ba2", checked := Yba.checked }
namespace Rows
def none {H : Type} : Left H := { results := [], args := [] }

/-- 'depend.LawS0641ACalls': WHATEVER THE INPUT: true; the input reads as it did. -/
def lawS0641ACallsSpec : ChangeSpec := { name := "lawS0641ACalls", fn := fun _ => fun
  | [d1, d2] => { results := [.lit (.bool true)], args := [d1, d2] }
  | _ => none }
def lawS0641ACallsRow : OpenClaim := { program := "ybulkmge", sum := "065cc7430fbd1e9f9b12570d9cd7de560064b6c7f15d71bb7458817258424ba2", func := "example.com/batchwright/batchwright/internal/depend.LawS0641ACalls", spec := "lawS0641ACalls", unfollowed := true, recurses := true, apart := false }
def LawS0641ACallsSaid : Prop := lawS0641ACallsRow.holds Yba.pinned (OpenSpec.ofChange lawS0641ACallsSpec)

/-- ITS FALSE NEIGHBOUR: 'it returns false'. Refute it at one input. -/
def lawS0641ACallsWrong : ChangeSpec := { name := "lawS0641ACalls", fn := fun _ => fun
  | [d1, d2] => { results := [.lit (.bool false)], args := [d1, d2] }
  | _ => none }
def LawS0641ACallsWrongFalsely : Prop := lawS0641ACallsRow.holds Yba.pinned (OpenSpec.ofChange lawS0641ACallsWrong)

/-- 'depend.LawS0641ACompletion': WHATEVER THE INPUT: true; the input reads as it did. -/
def lawS0641ACompletionSpec : ChangeSpec := { name := "lawS0641ACompletion", fn := fun _ => fun
  | [d1, d2, d3] => { results := [.lit (.bool true)], args := [d1, d2, d3] }
  | _ => none }
def lawS0641ACompletionRow : OpenClaim := { program := "ybulkmge", sum := "065cc7430fbd1e9f9b12570d9cd7de560064b6c7f15d71bb7458817258424ba2", func := "example.com/batchwright/batchwright/internal/depend.LawS0641ACompletion", spec := "lawS0641ACompletion", unfollowed := true, recurses := true, apart := false }
def LawS0641ACompletionSaid : Prop := lawS0641ACompletionRow.holds Yba.pinned (OpenSpec.ofChange lawS0641ACompletionSpec)

/-- ITS FALSE NEIGHBOUR: 'it returns false'. Refute it at one input. -/
def lawS0641ACompletionWrong : ChangeSpec := { name := "lawS0641ACompletion", fn := fun _ => fun
  | [d1, d2, d3] => { results := [.lit (.bool false)], args := [d1, d2, d3] }
  | _ => none }
def LawS0641ACompletionWrongFalsely : Prop := lawS0641ACompletionRow.holds Yba.pinned (OpenSpec.ofChange lawS0641ACompletionWrong)

end Rows
end Go.Proofs.Ybulkmge
