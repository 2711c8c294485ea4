/-
  No cell of these rows narrows 'for every input' (looked for: loops, veiled, ifaces, maps, wideKeys, modest, calm, conditions, laid).
  DERIVED. THE GIVEN ROWS OF THIS SEAT. 4 by the template 'for every input the law returns true; each argument reads behind the call as it read before'; 0 by the template 'total and deterministic' (their statements: YbulksgwTotals.lean).
  GIVEN WITH THE SEED: the statements are not yours to turn. If you find one false, say at which input.
  Laid BY PROGRAM, IN A SANDBOX (cutbox-rows.mjs): the forced cells as the released guide's own fill.sh prints them over the translation 187ed9146f555eec… (all of the seat's roots in one cut). By AI agents, Wed Nov 11 2026. No macro, syntax, notation, axiom, sorry.
-/
import Derived.Test.YbulksgwChecked
import GoSem.Claim
import GoSem.ClaimJoined
import GoSem.ClaimMapViews
import Derived.JoinedTies
import Derived.KernelRfl
namespace Go.Proofs.Ybulksgw
/- THE CELL 'sum', in the pinned program and in every row, IS THE sha256 OF THE DUMP (.gsa) THAT YbulksgwProg.lean LOADS. Nothing in Lean hashes anything: it is a label: what it is worth is what the hold of that sum in a sandbox is worth. -/
noncomputable def Yba.pinned : Pinned := { name := "ybulksgw", sum := "187ed9146f555eecb5e21eac4b0f9ccea16f1c2a8a54664a9d8326376de72f84", checked := Yba.checked }
namespace Rows
def none {H : Type} : Left H := { results := [], args := [] }

/-- 'apportion.LawS0932BDefinition': WHATEVER THE INPUT: true; the input reads as it did. -/
def lawS0932BDefinitionSpec : ChangeSpec := { name := "lawS0932BDefinition", fn := fun _ => fun
  | [d] => { results := [.lit (.bool true)], args := [d] }
  | _ => none }
def lawS0932BDefinitionRow : OpenClaim := { program := "ybulksgw", sum := "187ed9146f555eecb5e21eac4b0f9ccea16f1c2a8a54664a9d8326376de72f84", func := "example.com/apportion/apportion.LawS0932BDefinition", spec := "lawS0932BDefinition", apart := false }
def LawS0932BDefinitionSaid : Prop := lawS0932BDefinitionRow.holds Yba.pinned (OpenSpec.ofChange lawS0932BDefinitionSpec)

/-- ITS FALSE NEIGHBOUR: 'it returns false'. Refute it at one input. -/
def lawS0932BDefinitionWrong : ChangeSpec := { name := "lawS0932BDefinition", fn := fun _ => fun
  | [d] => { results := [.lit (.bool false)], args := [d] }
  | _ => none }
def LawS0932BDefinitionWrongFalsely : Prop := lawS0932BDefinitionRow.holds Yba.pinned (OpenSpec.ofChange lawS0932BDefinitionWrong)

/-- 'apportion.LawS0932BProduct': WHATEVER THE INPUT: true; the input reads as it did. -/
def lawS0932BProductSpec : ChangeSpec := { name := "lawS0932BProduct", fn := fun _ => fun
  | [d1, d2] => { results := [.lit (.bool true)], args := [d1, d2] }
  | _ => none }
def lawS0932BProductRow : OpenClaim := { program := "ybulksgw", sum := "187ed9146f555eecb5e21eac4b0f9ccea16f1c2a8a54664a9d8326376de72f84", func := "example.com/apportion/apportion.LawS0932BProduct", spec := "lawS0932BProduct", apart := false }
def LawS0932BProductSaid : Prop := lawS0932BProductRow.holds Yba.pinned (OpenSpec.ofChange lawS0932BProductSpec)

/-- ITS FALSE NEIGHBOUR: 'it returns false'. Refute it at one input. -/
def lawS0932BProductWrong : ChangeSpec := { name := "lawS0932BProduct", fn := fun _ => fun
  | [d1, d2] => { results := [.lit (.bool false)], args := [d1, d2] }
  | _ => none }
def LawS0932BProductWrongFalsely : Prop := lawS0932BProductRow.holds Yba.pinned (OpenSpec.ofChange lawS0932BProductWrong)

/-- 'apportion.LawS0932CExact': WHATEVER THE INPUT: true; the input reads as it did. -/
def lawS0932CExactSpec : ChangeSpec := { name := "lawS0932CExact", fn := fun _ => fun
  | [d1, d2, d3, d4] => { results := [.lit (.bool true)], args := [d1, d2, d3, d4] }
  | _ => none }
def lawS0932CExactRow : OpenClaim := { program := "ybulksgw", sum := "187ed9146f555eecb5e21eac4b0f9ccea16f1c2a8a54664a9d8326376de72f84", func := "example.com/apportion/apportion.LawS0932CExact", spec := "lawS0932CExact", apart := false }
def LawS0932CExactSaid : Prop := lawS0932CExactRow.holds Yba.pinned (OpenSpec.ofChange lawS0932CExactSpec)

/-- ITS FALSE NEIGHBOUR: 'it returns false'. Refute it at one input. -/
def lawS0932CExactWrong : ChangeSpec := { name := "lawS0932CExact", fn := fun _ => fun
  | [d1, d2, d3, d4] => { results := [.lit (.bool false)], args := [d1, d2, d3, d4] }
  | _ => none }
def LawS0932CExactWrongFalsely : Prop := lawS0932CExactRow.holds Yba.pinned (OpenSpec.ofChange lawS0932CExactWrong)

/-- 'apportion.LawS0932CSplit': WHATEVER THE INPUT: true; the input reads as it did. -/
def lawS0932CSplitSpec : ChangeSpec := { name := "lawS0932CSplit", fn := fun _ => fun
  | [d1, d2, d3, d4] => { results := [.lit (.bool true)], args := [d1, d2, d3, d4] }
  | _ => none }
def lawS0932CSplitRow : OpenClaim := { program := "ybulksgw", sum := "187ed9146f555eecb5e21eac4b0f9ccea16f1c2a8a54664a9d8326376de72f84", func := "example.com/apportion/apportion.LawS0932CSplit", spec := "lawS0932CSplit", apart := false }
def LawS0932CSplitSaid : Prop := lawS0932CSplitRow.holds Yba.pinned (OpenSpec.ofChange lawS0932CSplitSpec)

/-- ITS FALSE NEIGHBOUR: 'it returns false'. Refute it at one input. -/
def lawS0932CSplitWrong : ChangeSpec := { name := "lawS0932CSplit", fn := fun _ => fun
  | [d1, d2, d3, d4] => { results := [.lit (.bool false)], args := [d1, d2, d3, d4] }
  | _ => none }
def LawS0932CSplitWrongFalsely : Prop := lawS0932CSplitRow.holds Yba.pinned (OpenSpec.ofChange lawS0932CSplitWrong)

end Rows
end Go.Proofs.Ybulksgw
