/-
  DERIVED. GIVEN WITH THE SEED: THE CARDS: each row of YbulkcmekDoorRows.lean that lists a variable, with what it lists TIED to the program's text (the seventh form; the later family's looks); each row that meets fmt, with fmt's text TOLD by the authors' own Lean function (tested against real Go, not proved from fmt's source: count such statements apart). THE CARD IS WHAT COUNTS. Prove the row's statement (the work); the ties are given (YbulkcmekDoorTie.lean); close each card by the builder's one call (the guide's Derived/Test/ToyasCard.lean, 'card_holds'). Laid BY PROGRAM, IN A SANDBOX (cutbox-door.mjs). By AI agents, Wed Nov 11 2026. No macro, syntax, notation, axiom, sorry.
-/
import Derived.Test.YbulkcmekDoorRows
import GoSem.ClaimSeven
namespace Go.Proofs.YbulkcmekDoor
namespace Rows

/-- THE TIED CARD OF 'flowtag.LawS4404BModel'. -/
def lawS4404BModelCard : Claim7 := { stood := { row := lawS4404BModelRow, standIns := [], harness := (true, "a386ed42fb9c517c60a4361a7ea1e318aaa3926e02693a4f9eda3e8364df9d11"), looks := false }, kinds := [], alts := [], laidByText := true, laidKinds := [.called], laidTests := true, laidLooks := .later }
def LawS4404BModelCardSaid : Prop := Claim7.holds Ybad.pinned (.plain (OpenSpec.ofChange lawS4404BModelSpec)) lawS4404BModelCard

/-- THE TIED CARD OF 'flowtag.LawS4404CV4'. -/
def lawS4404CV4Card : Claim7 := { stood := { row := lawS4404CV4Row, standIns := [], harness := (true, "a386ed42fb9c517c60a4361a7ea1e318aaa3926e02693a4f9eda3e8364df9d11"), looks := false }, kinds := [], alts := [], laidByText := true, laidKinds := [.called, .called, .zero], laidTests := true, laidLooks := .later }
def LawS4404CV4CardSaid : Prop := Claim7.holds Ybad.pinned (.plain (OpenSpec.ofChange lawS4404CV4Spec)) lawS4404CV4Card

/-- THE TIED CARD OF 'flowtag.LawS4404CInvalid'. -/
def lawS4404CInvalidCard : Claim7 := { stood := { row := lawS4404CInvalidRow, standIns := [], harness := (true, "a386ed42fb9c517c60a4361a7ea1e318aaa3926e02693a4f9eda3e8364df9d11"), looks := false }, kinds := [], alts := [], laidByText := true, laidKinds := [.called, .called, .zero], laidTests := true, laidLooks := .later }
def LawS4404CInvalidCardSaid : Prop := Claim7.holds Ybad.pinned (.plain (OpenSpec.ofChange lawS4404CInvalidSpec)) lawS4404CInvalidCard
end Rows
end Go.Proofs.YbulkcmekDoor
