/-
  No cell of these rows narrows 'for every input' (looked for: loops, veiled, ifaces, maps, wideKeys, modest, calm, conditions, laid).
  DERIVED. THE GIVEN ROWS OF THIS SEAT. 2 by the template 'for every input the law returns true; each argument reads behind the call as it read before'; 0 by the template 'total and deterministic' (their statements: YbulkmfqTotals.lean).
  GIVEN WITH THE SEED: the statements are not yours to turn. If you find one false, say at which input.
  Laid BY PROGRAM, IN A SANDBOX (cutbox-rows.mjs): the forced cells as the released guide's own fill.sh prints them over the translation 48b17dd2b795a339… (all of the seat's roots in one cut). By AI agents, Wed Nov 11 2026. No macro, syntax, notation, axiom, sorry.
-/
import Derived.Test.YbulkmfqChecked
import GoSem.Claim
import GoSem.ClaimJoined
import GoSem.ClaimMapViews
import Derived.JoinedTies
import Derived.KernelRfl
namespace Go.Proofs.Ybulkmfq
/- THE CELL 'sum', in the pinned program and in every row, IS THE sha256 OF THE DUMP (.gsa) THAT YbulkmfqProg.lean LOADS. Nothing in Lean hashes anything: it is a label: what it is worth is what the hold of that sum in a sandbox is worth. -/
noncomputable def Yba.pinned : Pinned := { name := "ybulkmfq", sum := "48b17dd2b795a3390a5f7e4ae2f0b7ba5034784dad1d820428541ead32035c71", checked := Yba.checked }
namespace Rows
def none {H : Type} : Left H := { results := [], args := [] }

/-- 'enforce.LawS0640CFirstSeen': WHATEVER THE INPUT: true; the input reads as it did. -/
def lawS0640CFirstSeenSpec : ChangeSpec := { name := "lawS0640CFirstSeen", fn := fun _ => fun
  | [d1, d2] => { results := [.lit (.bool true)], args := [d1, d2] }
  | _ => none }
def lawS0640CFirstSeenRow : OpenClaim := { program := "ybulkmfq", sum := "48b17dd2b795a3390a5f7e4ae2f0b7ba5034784dad1d820428541ead32035c71", func := "example.com/enforce/enforce.LawS0640CFirstSeen", spec := "lawS0640CFirstSeen", apart := false }
def LawS0640CFirstSeenSaid : Prop := lawS0640CFirstSeenRow.holds Yba.pinned (OpenSpec.ofChange lawS0640CFirstSeenSpec)

/-- ITS FALSE NEIGHBOUR: 'it returns false'. Refute it at one input. -/
def lawS0640CFirstSeenWrong : ChangeSpec := { name := "lawS0640CFirstSeen", fn := fun _ => fun
  | [d1, d2] => { results := [.lit (.bool false)], args := [d1, d2] }
  | _ => none }
def LawS0640CFirstSeenWrongFalsely : Prop := lawS0640CFirstSeenRow.holds Yba.pinned (OpenSpec.ofChange lawS0640CFirstSeenWrong)

/-- 'enforce.LawS0640CExtend': WHATEVER THE INPUT: true; the input reads as it did. -/
def lawS0640CExtendSpec : ChangeSpec := { name := "lawS0640CExtend", fn := fun _ => fun
  | [d1, d2, d3] => { results := [.lit (.bool true)], args := [d1, d2, d3] }
  | _ => none }
def lawS0640CExtendRow : OpenClaim := { program := "ybulkmfq", sum := "48b17dd2b795a3390a5f7e4ae2f0b7ba5034784dad1d820428541ead32035c71", func := "example.com/enforce/enforce.LawS0640CExtend", spec := "lawS0640CExtend", apart := false }
def LawS0640CExtendSaid : Prop := lawS0640CExtendRow.holds Yba.pinned (OpenSpec.ofChange lawS0640CExtendSpec)

/-- ITS FALSE NEIGHBOUR: 'it returns false'. Refute it at one input. -/
def lawS0640CExtendWrong : ChangeSpec := { name := "lawS0640CExtend", fn := fun _ => fun
  | [d1, d2, d3] => { results := [.lit (.bool false)], args := [d1, d2, d3] }
  | _ => none }
def LawS0640CExtendWrongFalsely : Prop := lawS0640CExtendRow.holds Yba.pinned (OpenSpec.ofChange lawS0640CExtendWrong)

end Rows
end Go.Proofs.Ybulkmfq
