/-
  No cell of these rows narrows 'for every input' (looked for: loops, veiled, ifaces, maps, wideKeys, modest, calm, conditions, laid).
  DERIVED. THE GIVEN ROWS OF THIS SEAT. 2 by the template 'for every input the law returns true; each argument reads behind the call as it read before'; 0 by the template 'total and deterministic' (their statements: YbulkshkTotals.lean).
  GIVEN WITH THE SEED: the statements are not yours to turn. If you find one false, say at which input.
  Laid BY PROGRAM, IN A SANDBOX (cutbox-rows.mjs): the forced cells as the released guide's own fill.sh prints them over the translation 365c76429e27ceb8… (all of the seat's roots in one cut). By AI agents, Wed Nov 11 2026. No macro, syntax, notation, axiom, sorry.
-/
import Derived.Test.YbulkshkChecked
import GoSem.Claim
import GoSem.ClaimJoined
import GoSem.ClaimMapViews
import Derived.JoinedTies
import Derived.KernelRfl
namespace Go.Proofs.Ybulkshk
/- THE CELL 'sum', in the pinned program and in every row, IS THE sha256 OF THE DUMP (.gsa) THAT YbulkshkProg.lean LOADS. Nothing in Lean hashes anything: it is a label: what it is worth is what the hold of that sum in a sandbox is worth. -/
noncomputable def Yba.pinned : Pinned := { name := "ybulkshk", sum := "365c76429e27ceb8fb644fcbdaa9f532af63fa0010391b9d7ff438dbb6425ec6", checked := Yba.checked }
namespace Rows
def none {H : Type} : Left H := { results := [], args := [] }

/-- 'exchange.LawS0933CExact': WHATEVER THE INPUT: true; the input reads as it did. -/
def lawS0933CExactSpec : ChangeSpec := { name := "lawS0933CExact", fn := fun _ => fun
  | [d] => { results := [.lit (.bool true)], args := [d] }
  | _ => none }
def lawS0933CExactRow : OpenClaim := { program := "ybulkshk", sum := "365c76429e27ceb8fb644fcbdaa9f532af63fa0010391b9d7ff438dbb6425ec6", func := "example.com/granary/granary/exchange.LawS0933CExact", spec := "lawS0933CExact", apart := false }
def LawS0933CExactSaid : Prop := lawS0933CExactRow.holds Yba.pinned (OpenSpec.ofChange lawS0933CExactSpec)

/-- ITS FALSE NEIGHBOUR: 'it returns false'. Refute it at one input. -/
def lawS0933CExactWrong : ChangeSpec := { name := "lawS0933CExact", fn := fun _ => fun
  | [d] => { results := [.lit (.bool false)], args := [d] }
  | _ => none }
def LawS0933CExactWrongFalsely : Prop := lawS0933CExactRow.holds Yba.pinned (OpenSpec.ofChange lawS0933CExactWrong)

/-- 'exchange.LawS0933CSides': WHATEVER THE INPUT: true; the input reads as it did. -/
def lawS0933CSidesSpec : ChangeSpec := { name := "lawS0933CSides", fn := fun _ => fun
  | [d] => { results := [.lit (.bool true)], args := [d] }
  | _ => none }
def lawS0933CSidesRow : OpenClaim := { program := "ybulkshk", sum := "365c76429e27ceb8fb644fcbdaa9f532af63fa0010391b9d7ff438dbb6425ec6", func := "example.com/granary/granary/exchange.LawS0933CSides", spec := "lawS0933CSides", apart := false }
def LawS0933CSidesSaid : Prop := lawS0933CSidesRow.holds Yba.pinned (OpenSpec.ofChange lawS0933CSidesSpec)

/-- ITS FALSE NEIGHBOUR: 'it returns false'. Refute it at one input. -/
def lawS0933CSidesWrong : ChangeSpec := { name := "lawS0933CSides", fn := fun _ => fun
  | [d] => { results := [.lit (.bool false)], args := [d] }
  | _ => none }
def LawS0933CSidesWrongFalsely : Prop := lawS0933CSidesRow.holds Yba.pinned (OpenSpec.ofChange lawS0933CSidesWrong)

end Rows
end Go.Proofs.Ybulkshk
