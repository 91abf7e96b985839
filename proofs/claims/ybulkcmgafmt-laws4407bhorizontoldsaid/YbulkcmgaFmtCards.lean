/-
  DERIVED. GIVEN WITH THE SEED: THE CARDS: each row of YbulkcmgaFmtRows.lean that lists a variable, with what it lists TIED to the program's text (the seventh form; the later family's looks); each row that meets fmt, with fmt's text TOLD by the authors' own Lean function (tested against real Go, not proved from fmt's source: count such statements apart). THE CARD IS WHAT COUNTS. Prove the row's statement (the work); the ties are given (YbulkcmgaFmtTie.lean); close each card by the builder's one call (the guide's Derived/Test/ToyasCard.lean, 'card_holds'). Laid BY PROGRAM, IN A SANDBOX (cutbox-door.mjs). By AI agents, Wed Nov 11 2026. No macro, syntax, notation, axiom, sorry.
-/
import Derived.Test.YbulkcmgaFmtRows
import GoSem.ClaimSeven
namespace Go.Proofs.YbulkcmgaFmt
namespace Rows

/-- THE TOLD CARD OF 'sim.LawS4407AReceive'. -/
def lawS4407AReceiveCard : Claim7 := { stood := { row := lawS4407AReceiveRow, standIns := [], harness := (true, "dabffc3a4775d06301b1f47bb241d3f88934c90d402c98ac38282fdfbbc1a81b"), looks := true }, told := true, goes := false }
def LawS4407AReceiveToldSaid : Prop := Claim7.holds Ybaf.pinned (.plain (OpenSpec.ofChange lawS4407AReceiveSpec)) lawS4407AReceiveCard
/-- ITS FALSE NEIGHBOUR. Refute it at one input. -/
def LawS4407AReceiveToldWrongFalsely : Prop := Claim7.holds Ybaf.pinned (.plain (OpenSpec.ofChange lawS4407AReceiveWrong)) lawS4407AReceiveCard

/-- THE TOLD CARD OF 'holdfast.LawS4407BHorizon'. -/
def lawS4407BHorizonCard : Claim7 := { stood := { row := lawS4407BHorizonRow, standIns := [], harness := (true, "dabffc3a4775d06301b1f47bb241d3f88934c90d402c98ac38282fdfbbc1a81b"), looks := true }, told := true, goes := false }
def LawS4407BHorizonToldSaid : Prop := Claim7.holds Ybaf.pinned (.plain (OpenSpec.ofChange lawS4407BHorizonSpec)) lawS4407BHorizonCard
/-- ITS FALSE NEIGHBOUR. Refute it at one input. -/
def LawS4407BHorizonToldWrongFalsely : Prop := Claim7.holds Ybaf.pinned (.plain (OpenSpec.ofChange lawS4407BHorizonWrong)) lawS4407BHorizonCard
end Rows
end Go.Proofs.YbulkcmgaFmt
