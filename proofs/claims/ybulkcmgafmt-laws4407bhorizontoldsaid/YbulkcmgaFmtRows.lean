/-
  No cell of these rows narrows 'for every input' (looked for: loops, veiled, ifaces, maps, wideKeys, modest, calm, conditions, laid).
  DERIVED. THE GIVEN ROWS OF THIS SEAT. 2 by the template 'for every input the law returns true; each argument reads behind the call as it read before'; 0 by the template 'total and deterministic' (their statements: YbulkcmgaFmtTotals.lean).
  GIVEN WITH THE SEED: the statements are not yours to turn. If you find one false, say at which input.
  Laid BY PROGRAM, IN A SANDBOX (cutbox-rows.mjs): the forced cells as the released guide's own fill.sh prints them over the translation 5ae64fdbfc6b3504… (all of the seat's roots in one cut). By AI agents, Wed Nov 11 2026. No macro, syntax, notation, axiom, sorry.
-/
import Derived.Test.YbulkcmgaFmtChecked
import GoSem.Claim
import GoSem.ClaimJoined
import GoSem.ClaimMapViews
import Derived.JoinedTies
import Derived.KernelRfl
namespace Go.Proofs.YbulkcmgaFmt
/- THE CELL 'sum', in the pinned program and in every row, IS THE sha256 OF THE DUMP (.gsa) THAT YbulkcmgaFmtProg.lean LOADS. Nothing in Lean hashes anything: it is a label: what it is worth is what the hold of that sum in a sandbox is worth. -/
noncomputable def Ybaf.pinned : Pinned := { name := "ybulkcmgafmt", sum := "5ae64fdbfc6b35041053d5bf87316fe3b747d767f5d5659b52efad94f2a0e1e0", checked := Ybaf.checked }
namespace Rows
def none {H : Type} : Left H := { results := [], args := [] }

/-- 'sim.LawS4407AReceive': WHATEVER THE INPUT: true; the input reads as it did. -/
def lawS4407AReceiveSpec : ChangeSpec := { name := "lawS4407AReceive", fn := fun _ => fun
  | [d1, d2, d3, d4, d5, d6, d7, d8, d9, d10, d11] => { results := [.lit (.bool true)], args := [d1, d2, d3, d4, d5, d6, d7, d8, d9, d10, d11] }
  | _ => none }
def lawS4407AReceiveRow : OpenClaim := { program := "ybulkcmgafmt", sum := "5ae64fdbfc6b35041053d5bf87316fe3b747d767f5d5659b52efad94f2a0e1e0", func := "example.com/holdfast/holdfast/internal/sim.LawS4407AReceive", spec := "lawS4407AReceive", stops := ["fmt.errorf"], inPlace := ["fmt.errorf"], unfollowed := true, recurses := true, plainKeys := false, apart := false }
/-- NO THEOREM (fmt's text is open here; it may be false): for the released tool's asking of the row's closed facts alone. THE STATEMENT IS 'LawS4407AReceiveToldSaid' (YbulkcmgaFmtCards.lean). -/
def LawS4407AReceiveFormAsk : Prop := lawS4407AReceiveRow.holds Ybaf.pinned (OpenSpec.ofChange lawS4407AReceiveSpec)

/-- ITS FALSE NEIGHBOUR: 'it returns false'. Refute it at one input. -/
def lawS4407AReceiveWrong : ChangeSpec := { name := "lawS4407AReceive", fn := fun _ => fun
  | [d1, d2, d3, d4, d5, d6, d7, d8, d9, d10, d11] => { results := [.lit (.bool false)], args := [d1, d2, d3, d4, d5, d6, d7, d8, d9, d10, d11] }
  | _ => none }
def LawS4407AReceiveWrongFormAsk : Prop := lawS4407AReceiveRow.holds Ybaf.pinned (OpenSpec.ofChange lawS4407AReceiveWrong)

/-- 'holdfast.LawS4407BHorizon': WHATEVER THE INPUT: true; the input reads as it did. -/
def lawS4407BHorizonSpec : ChangeSpec := { name := "lawS4407BHorizon", fn := fun _ => fun
  | [d1, d2, d3] => { results := [.lit (.bool true)], args := [d1, d2, d3] }
  | _ => none }
def lawS4407BHorizonRow : OpenClaim := { program := "ybulkcmgafmt", sum := "5ae64fdbfc6b35041053d5bf87316fe3b747d767f5d5659b52efad94f2a0e1e0", func := "example.com/holdfast/holdfast.LawS4407BHorizon", spec := "lawS4407BHorizon", stops := ["fmt.errorf"], inPlace := ["fmt.errorf"], unfollowed := true, recurses := true, plainKeys := false, apart := false }
/-- NO THEOREM (fmt's text is open here; it may be false): for the released tool's asking of the row's closed facts alone. THE STATEMENT IS 'LawS4407BHorizonToldSaid' (YbulkcmgaFmtCards.lean). -/
def LawS4407BHorizonFormAsk : Prop := lawS4407BHorizonRow.holds Ybaf.pinned (OpenSpec.ofChange lawS4407BHorizonSpec)

/-- ITS FALSE NEIGHBOUR: 'it returns false'. Refute it at one input. -/
def lawS4407BHorizonWrong : ChangeSpec := { name := "lawS4407BHorizon", fn := fun _ => fun
  | [d1, d2, d3] => { results := [.lit (.bool false)], args := [d1, d2, d3] }
  | _ => none }
def LawS4407BHorizonWrongFormAsk : Prop := lawS4407BHorizonRow.holds Ybaf.pinned (OpenSpec.ofChange lawS4407BHorizonWrong)

end Rows
end Go.Proofs.YbulkcmgaFmt
