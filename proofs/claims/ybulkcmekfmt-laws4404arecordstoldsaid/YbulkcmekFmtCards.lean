/-
  DERIVED. GIVEN WITH THE SEED: THE CARDS: each row of YbulkcmekFmtRows.lean that lists a variable, with what it lists TIED to the program's text (the seventh form; the later family's looks); each row that meets fmt, with fmt's text TOLD by the authors' own Lean function (tested against real Go, not proved from fmt's source: count such statements apart). THE CARD IS WHAT COUNTS. Prove the row's statement (the work); the ties are given (YbulkcmekFmtTie.lean); close each card by the builder's one call (the guide's Derived/Test/ToyasCard.lean, 'card_holds'). Laid BY PROGRAM, IN A SANDBOX (cutbox-door.mjs). By AI agents, Wed Nov 11 2026. No macro, syntax, notation, axiom, sorry.
-/
import Derived.Test.YbulkcmekFmtRows
import GoSem.ClaimSeven
namespace Go.Proofs.YbulkcmekFmt
namespace Rows

/-- THE TOLD AND TIED CARD OF 'pcap.LawS4404ARecords'. -/
def lawS4404ARecordsCard : Claim7 := { stood := { row := lawS4404ARecordsRow, standIns := [], harness := (true, "3d80fb654e12d00235472e2a4003a458ec11150d4a7a281d9ee4e28ef7f44009"), looks := true }, told := true, laidByText := true, laidKinds := [.sentinel, .sentinel, .sentinel, .sentinel], laidTests := true, laidLooks := .later, goes := false }
def LawS4404ARecordsToldSaid : Prop := Claim7.holds Ybaf.pinned (.plain (OpenSpec.ofChange lawS4404ARecordsSpec)) lawS4404ARecordsCard
/-- ITS FALSE NEIGHBOUR. Refute it at one input. -/
def LawS4404ARecordsToldWrongFalsely : Prop := Claim7.holds Ybaf.pinned (.plain (OpenSpec.ofChange lawS4404ARecordsWrong)) lawS4404ARecordsCard

/-- THE TOLD AND TIED CARD OF 'pcap.LawS4404ARaw'. -/
def lawS4404ARawCard : Claim7 := { stood := { row := lawS4404ARawRow, standIns := [], harness := (true, "3d80fb654e12d00235472e2a4003a458ec11150d4a7a281d9ee4e28ef7f44009"), looks := true }, told := true, laidByText := true, laidKinds := [.sentinel, .sentinel, .sentinel, .sentinel], laidTests := true, laidLooks := .later, goes := false }
def LawS4404ARawToldSaid : Prop := Claim7.holds Ybaf.pinned (.plain (OpenSpec.ofChange lawS4404ARawSpec)) lawS4404ARawCard
/-- ITS FALSE NEIGHBOUR. Refute it at one input. -/
def LawS4404ARawToldWrongFalsely : Prop := Claim7.holds Ybaf.pinned (.plain (OpenSpec.ofChange lawS4404ARawWrong)) lawS4404ARawCard
end Rows
end Go.Proofs.YbulkcmekFmt
