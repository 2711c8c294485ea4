/-
  No cell of these rows narrows 'for every input' (looked for: loops, veiled, ifaces, maps, wideKeys, modest, calm, conditions, laid).
  DERIVED. THE GIVEN ROWS OF THIS SEAT. 2 by the template 'for every input the law returns true; each argument reads behind the call as it read before'; 0 by the template 'total and deterministic' (their statements: YbulkshkFmtTotals.lean).
  GIVEN WITH THE SEED: the statements are not yours to turn. If you find one false, say at which input.
  Laid BY PROGRAM, IN A SANDBOX (cutbox-rows.mjs): the forced cells as the released guide's own fill.sh prints them over the translation 03c00807604f0124… (all of the seat's roots in one cut). By AI agents, Wed Nov 11 2026. No macro, syntax, notation, axiom, sorry.
-/
import Derived.Test.YbulkshkFmtChecked
import GoSem.Claim
import GoSem.ClaimJoined
import GoSem.ClaimMapViews
import Derived.JoinedTies
import Derived.KernelRfl
namespace Go.Proofs.YbulkshkFmt
/- THE CELL 'sum', in the pinned program and in every row, IS THE sha256 OF THE DUMP (.gsa) THAT YbulkshkFmtProg.lean LOADS. Nothing in Lean hashes anything: it is a label: what it is worth is what the hold of that sum in a sandbox is worth. -/
noncomputable def Ybaf.pinned : Pinned := { name := "ybulkshkfmt", sum := "03c00807604f012424029c877b5bf1a248c08c36830973f4f705e165616701e7", checked := Ybaf.checked }
namespace Rows
def none {H : Type} : Left H := { results := [], args := [] }

/-- 'exchange.LawS0933AExact': WHATEVER THE INPUT: true; the input reads as it did. -/
def lawS0933AExactSpec : ChangeSpec := { name := "lawS0933AExact", fn := fun _ => fun
  | [d] => { results := [.lit (.bool true)], args := [d] }
  | _ => none }
def lawS0933AExactRow : OpenClaim := { program := "ybulkshkfmt", sum := "03c00807604f012424029c877b5bf1a248c08c36830973f4f705e165616701e7", func := "example.com/granary/granary/exchange.LawS0933AExact", spec := "lawS0933AExact", stops := ["fmt.errorf"], inPlace := ["fmt.errorf"], apart := false }
/-- NO THEOREM (fmt's text is open here; it may be false): for the released tool's asking of the row's closed facts alone. THE STATEMENT IS 'LawS0933AExactToldSaid' (YbulkshkFmtCards.lean). -/
def LawS0933AExactFormAsk : Prop := lawS0933AExactRow.holds Ybaf.pinned (OpenSpec.ofChange lawS0933AExactSpec)

/-- ITS FALSE NEIGHBOUR: 'it returns false'. Refute it at one input. -/
def lawS0933AExactWrong : ChangeSpec := { name := "lawS0933AExact", fn := fun _ => fun
  | [d] => { results := [.lit (.bool false)], args := [d] }
  | _ => none }
def LawS0933AExactWrongFormAsk : Prop := lawS0933AExactRow.holds Ybaf.pinned (OpenSpec.ofChange lawS0933AExactWrong)

/-- 'exchange.LawS0933AEdges': WHATEVER THE INPUT: true; the input reads as it did. -/
def lawS0933AEdgesSpec : ChangeSpec := { name := "lawS0933AEdges", fn := fun _ => fun
  | [d] => { results := [.lit (.bool true)], args := [d] }
  | _ => none }
def lawS0933AEdgesRow : OpenClaim := { program := "ybulkshkfmt", sum := "03c00807604f012424029c877b5bf1a248c08c36830973f4f705e165616701e7", func := "example.com/granary/granary/exchange.LawS0933AEdges", spec := "lawS0933AEdges", stops := ["fmt.errorf"], inPlace := ["fmt.errorf"], apart := false }
/-- NO THEOREM (fmt's text is open here; it may be false): for the released tool's asking of the row's closed facts alone. THE STATEMENT IS 'LawS0933AEdgesToldSaid' (YbulkshkFmtCards.lean). -/
def LawS0933AEdgesFormAsk : Prop := lawS0933AEdgesRow.holds Ybaf.pinned (OpenSpec.ofChange lawS0933AEdgesSpec)

/-- ITS FALSE NEIGHBOUR: 'it returns false'. Refute it at one input. -/
def lawS0933AEdgesWrong : ChangeSpec := { name := "lawS0933AEdges", fn := fun _ => fun
  | [d] => { results := [.lit (.bool false)], args := [d] }
  | _ => none }
def LawS0933AEdgesWrongFormAsk : Prop := lawS0933AEdgesRow.holds Ybaf.pinned (OpenSpec.ofChange lawS0933AEdgesWrong)

end Rows
end Go.Proofs.YbulkshkFmt
