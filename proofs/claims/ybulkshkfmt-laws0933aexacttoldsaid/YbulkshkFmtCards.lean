/-
  DERIVED. GIVEN WITH THE SEED: THE CARDS: each row of YbulkshkFmtRows.lean that lists a variable, with what it lists TIED to the program's text (the seventh form; the later family's looks); each row that meets fmt, with fmt's text TOLD by the authors' own Lean function (tested against real Go, not proved from fmt's source: count such statements apart). THE CARD IS WHAT COUNTS. Prove the row's statement (the work); the ties are given (YbulkshkFmtTie.lean); close each card by the builder's one call (the guide's Derived/Test/ToyasCard.lean, 'card_holds'). Laid BY PROGRAM, IN A SANDBOX (cutbox-door.mjs). By AI agents, Wed Nov 11 2026. No macro, syntax, notation, axiom, sorry.
-/
import Derived.Test.YbulkshkFmtRows
import GoSem.ClaimSeven
namespace Go.Proofs.YbulkshkFmt
namespace Rows

/-- THE TOLD CARD OF 'exchange.LawS0933AExact'. -/
def lawS0933AExactCard : Claim7 := { stood := { row := lawS0933AExactRow, standIns := [], harness := (true, "30f11305045dff36d4b4d3449f1675e3e5d5bb15d5a2435a960c7464c7496649"), looks := false }, told := true, goes := false }
def LawS0933AExactToldSaid : Prop := Claim7.holds Ybaf.pinned (.plain (OpenSpec.ofChange lawS0933AExactSpec)) lawS0933AExactCard
/-- ITS FALSE NEIGHBOUR. Refute it at one input. -/
def LawS0933AExactToldWrongFalsely : Prop := Claim7.holds Ybaf.pinned (.plain (OpenSpec.ofChange lawS0933AExactWrong)) lawS0933AExactCard

/-- THE TOLD CARD OF 'exchange.LawS0933AEdges'. -/
def lawS0933AEdgesCard : Claim7 := { stood := { row := lawS0933AEdgesRow, standIns := [], harness := (true, "30f11305045dff36d4b4d3449f1675e3e5d5bb15d5a2435a960c7464c7496649"), looks := false }, told := true, goes := false }
def LawS0933AEdgesToldSaid : Prop := Claim7.holds Ybaf.pinned (.plain (OpenSpec.ofChange lawS0933AEdgesSpec)) lawS0933AEdgesCard
/-- ITS FALSE NEIGHBOUR. Refute it at one input. -/
def LawS0933AEdgesToldWrongFalsely : Prop := Claim7.holds Ybaf.pinned (.plain (OpenSpec.ofChange lawS0933AEdgesWrong)) lawS0933AEdgesCard
end Rows
end Go.Proofs.YbulkshkFmt
