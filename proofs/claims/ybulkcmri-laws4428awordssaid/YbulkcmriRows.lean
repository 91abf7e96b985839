/-
  No cell of these rows narrows 'for every input' (looked for: loops, veiled, ifaces, maps, wideKeys, modest, calm, conditions, laid).
  DERIVED. THE GIVEN ROWS OF THIS SEAT. 1 by the template 'for every input the law returns true; each argument reads behind the call as it read before'; 0 by the template 'total and deterministic' (their statements: YbulkcmriTotals.lean).
  GIVEN WITH THE SEED: the statements are not yours to turn. If you find one false, say at which input.
  Laid BY PROGRAM, IN A SANDBOX (cutbox-rows.mjs): the forced cells as the released guide's own fill.sh prints them over the translation b18e7dc7bda620c9… (all of the seat's roots in one cut). By AI agents, Wed Nov 11 2026. No macro, syntax, notation, axiom, sorry.
-/
import Derived.Test.YbulkcmriChecked
import GoSem.Claim
import GoSem.ClaimJoined
import GoSem.ClaimMapViews
import Derived.JoinedTies
import Derived.KernelRfl
namespace Go.Proofs.Ybulkcmri
/- THE CELL 'sum', in the pinned program and in every row, IS THE sha256 OF THE DUMP (.gsa) THAT YbulkcmriProg.lean LOADS. Nothing in Lean hashes anything: it is a label: what it is worth is what the hold of that sum in a sandbox is worth. -/
noncomputable def Yba.pinned : Pinned := { name := "ybulkcmri", sum := "b18e7dc7bda620c97b4df0afd840fddd1dae550572ca6f5f28fd9b8a4266b62c", checked := Yba.checked }
namespace Rows
def none {H : Type} : Left H := { results := [], args := [] }

/-- 'exact.LawS4428AWords': WHATEVER THE INPUT: true; the input reads as it did. -/
def lawS4428AWordsSpec : ChangeSpec := { name := "lawS4428AWords", fn := fun _ => fun
  | [d1, d2] => { results := [.lit (.bool true)], args := [d1, d2] }
  | _ => none }
def lawS4428AWordsRow : OpenClaim := { program := "ybulkcmri", sum := "b18e7dc7bda620c97b4df0afd840fddd1dae550572ca6f5f28fd9b8a4266b62c", func := "example.com/zhuanzhai/zhuanzhai/exact.LawS4428AWords", spec := "lawS4428AWords", apart := false }
def LawS4428AWordsSaid : Prop := lawS4428AWordsRow.holds Yba.pinned (OpenSpec.ofChange lawS4428AWordsSpec)

/-- ITS FALSE NEIGHBOUR: 'it returns false'. Refute it at one input. -/
def lawS4428AWordsWrong : ChangeSpec := { name := "lawS4428AWords", fn := fun _ => fun
  | [d1, d2] => { results := [.lit (.bool false)], args := [d1, d2] }
  | _ => none }
def LawS4428AWordsWrongFalsely : Prop := lawS4428AWordsRow.holds Yba.pinned (OpenSpec.ofChange lawS4428AWordsWrong)

end Rows
end Go.Proofs.Ybulkcmri
