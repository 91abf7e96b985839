/-
  NARROWER THAN 'FOR EVERY INPUT', by the rows' own cells (each row's printed sentence says how): LawS4404BModel: laid · LawS4404CV4: laid · LawS4404CInvalid: laid.
  DERIVED. THE GIVEN ROWS OF THIS SEAT. 3 by the template 'for every input the law returns true; each argument reads behind the call as it read before'; 0 by the template 'total and deterministic' (their statements: YbulkcmekDoorTotals.lean).
  GIVEN WITH THE SEED: the statements are not yours to turn. If you find one false, say at which input.
  Laid BY PROGRAM, IN A SANDBOX (cutbox-rows.mjs): the forced cells as the released guide's own fill.sh prints them over the translation e791e2ab4b5f5e05… (all of the seat's roots in one cut). By AI agents, Wed Nov 11 2026. No macro, syntax, notation, axiom, sorry.
-/
import Derived.Test.YbulkcmekDoorChecked
import GoSem.Claim
import GoSem.ClaimJoined
import GoSem.ClaimMapViews
import Derived.JoinedTies
import Derived.KernelRfl
namespace Go.Proofs.YbulkcmekDoor
/- THE CELL 'sum', in the pinned program and in every row, IS THE sha256 OF THE DUMP (.gsa) THAT YbulkcmekDoorProg.lean LOADS. Nothing in Lean hashes anything: it is a label: what it is worth is what the hold of that sum in a sandbox is worth. -/
noncomputable def Ybad.pinned : Pinned := { name := "ybulkcmekdoor", sum := "e791e2ab4b5f5e057dbf4ffa9217e0c5e5e4fdf183666b29b918a3819b38b10e", checked := Ybad.checked }
namespace Rows
def none {H : Type} : Left H := { results := [], args := [] }

/- WHAT THE LISTED PACKAGE-LEVEL VARIABLES READ AS WHEN THE CALL BEGINS. Each datum BY PROGRAM (the guide's laid-datum.mjs) off the statement by which the dump's own 'gosem.cut.vars' lays the variable. In a bare row this is a premise. The card (YbulkcmekDoorCards.lean) ties it to the program's text. -/
def laid_net_netip_z4 {H : Type} : DataW H := .agg [.ptr (.agg [.lit (.bool false), .lit (.string [])])]
def laid_net_netip_z6noz {H : Type} : DataW H := .agg [.ptr (.agg [.lit (.bool true), .lit (.string [])])]
def laid_net_netip_z0 {H : Type} : DataW H := .agg [.nil]

/-- 'flowtag.LawS4404BModel': WHATEVER THE INPUT: true; the input reads as it did. -/
def lawS4404BModelSpec : ChangeSpec := { name := "lawS4404BModel", fn := fun _ => fun
  | [d1, d2, d3, d4] => { results := [.lit (.bool true)], args := [d1, d2, d3, d4] }
  | _ => none }
def lawS4404BModelRow : OpenClaim := { program := "ybulkcmekdoor", sum := "e791e2ab4b5f5e057dbf4ffa9217e0c5e5e4fdf183666b29b918a3819b38b10e", func := "example.com/flowtag/flowtag.LawS4404BModel", spec := "lawS4404BModel", named := ["encoding/binary.BigEndian", "net/netip.z4"], apart := false, laid := [("net/netip.z4", laid_net_netip_z4)] }
def LawS4404BModelSaid : Prop := lawS4404BModelRow.holds Ybad.pinned (OpenSpec.ofChange lawS4404BModelSpec)

/-- ITS FALSE NEIGHBOUR: 'it returns false'. Refute it at one input. -/
def lawS4404BModelWrong : ChangeSpec := { name := "lawS4404BModel", fn := fun _ => fun
  | [d1, d2, d3, d4] => { results := [.lit (.bool false)], args := [d1, d2, d3, d4] }
  | _ => none }
def LawS4404BModelWrongFalsely : Prop := lawS4404BModelRow.holds Ybad.pinned (OpenSpec.ofChange lawS4404BModelWrong)

/-- 'flowtag.LawS4404CV4': WHATEVER THE INPUT: true; the input reads as it did. -/
def lawS4404CV4Spec : ChangeSpec := { name := "lawS4404CV4", fn := fun _ => fun
  | [d1, d2, d3, d4, d5] => { results := [.lit (.bool true)], args := [d1, d2, d3, d4, d5] }
  | _ => none }
def lawS4404CV4Row : OpenClaim := { program := "ybulkcmekdoor", sum := "e791e2ab4b5f5e057dbf4ffa9217e0c5e5e4fdf183666b29b918a3819b38b10e", func := "example.com/flowtag/flowtag.LawS4404CV4", spec := "lawS4404CV4", named := ["net/netip.z4", "net/netip.z0", "net/netip.z6noz"], apart := false, laid := [("net/netip.z4", laid_net_netip_z4), ("net/netip.z6noz", laid_net_netip_z6noz), ("net/netip.z0", laid_net_netip_z0)] }
def LawS4404CV4Said : Prop := lawS4404CV4Row.holds Ybad.pinned (OpenSpec.ofChange lawS4404CV4Spec)

/-- ITS FALSE NEIGHBOUR: 'it returns false'. Refute it at one input. -/
def lawS4404CV4Wrong : ChangeSpec := { name := "lawS4404CV4", fn := fun _ => fun
  | [d1, d2, d3, d4, d5] => { results := [.lit (.bool false)], args := [d1, d2, d3, d4, d5] }
  | _ => none }
def LawS4404CV4WrongFalsely : Prop := lawS4404CV4Row.holds Ybad.pinned (OpenSpec.ofChange lawS4404CV4Wrong)

/-- 'flowtag.LawS4404CInvalid': WHATEVER THE INPUT: true; the input reads as it did. -/
def lawS4404CInvalidSpec : ChangeSpec := { name := "lawS4404CInvalid", fn := fun _ => fun
  | [d1, d2, d3, d4, d5] => { results := [.lit (.bool true)], args := [d1, d2, d3, d4, d5] }
  | _ => none }
def lawS4404CInvalidRow : OpenClaim := { program := "ybulkcmekdoor", sum := "e791e2ab4b5f5e057dbf4ffa9217e0c5e5e4fdf183666b29b918a3819b38b10e", func := "example.com/flowtag/flowtag.LawS4404CInvalid", spec := "lawS4404CInvalid", named := ["net/netip.z0", "net/netip.z4", "net/netip.z6noz"], apart := false, laid := [("net/netip.z4", laid_net_netip_z4), ("net/netip.z6noz", laid_net_netip_z6noz), ("net/netip.z0", laid_net_netip_z0)] }
def LawS4404CInvalidSaid : Prop := lawS4404CInvalidRow.holds Ybad.pinned (OpenSpec.ofChange lawS4404CInvalidSpec)

/-- ITS FALSE NEIGHBOUR: 'it returns false'. Refute it at one input. -/
def lawS4404CInvalidWrong : ChangeSpec := { name := "lawS4404CInvalid", fn := fun _ => fun
  | [d1, d2, d3, d4, d5] => { results := [.lit (.bool false)], args := [d1, d2, d3, d4, d5] }
  | _ => none }
def LawS4404CInvalidWrongFalsely : Prop := lawS4404CInvalidRow.holds Ybad.pinned (OpenSpec.ofChange lawS4404CInvalidWrong)

end Rows
end Go.Proofs.YbulkcmekDoor
