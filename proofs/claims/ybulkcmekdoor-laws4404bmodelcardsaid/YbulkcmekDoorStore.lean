import Derived.Test.YbulkcmekDoorRow22
import Derived.WalkKit
namespace Go.Proofs.YbulkcmekDoor
open Go Go.RowKit

/-- A whole struct or array stored over a row of its own: the world behind it is a letter, of which the row and 'Below' are known. -/
theorem wpList_store_row {P : Program} {ops : Array Oper} {rest : List Oper} {op : Oper} {a : Act} {w : World} {Q : Exit → Act → World → Prop} (hgd : op.guard = none) (ty : TypeId) (x y : Operand) (ho : op.op = .store ty x y)
    (b t n : Nat) (f : Nat → Value) (cells : List Value) (hx : a.eval x = .pointer (some ⟨b, 0, none⟩)) (hy : a.eval y = .agg cells.toArray) (hr : w.rowIs b t n f) (hn : cells.length = n)
    (hi : (P.info? ty).map (·.size) = some n) (h1 : cells.toArray.all (·.oneCell') = true) (B : Nat) (w0 : World) (hb : Below B w0 w) (hB : B ≤ b)
    (h : ∀ w', Hid (w'.rowIs b t n (fun i => cells.getD i undef)) → Hid (Below B w0 w') → Hid (b < w'.heap.size) → wpList P ops Q rest (a.put op.dst undef) w') : wpList P ops Q (op :: rest) a w := by
  subst hn
  refine wpList_store_mid hgd ty x y ho b 0 cells.toArray hx hy (there_row (by simpa using hr)) (by simpa using hi) h1 ?_
  have hrow := row_laid cells f w hr rfl
  exact h (w.setCells b 0 cells) hrow (below_cells hB cells 0 w hb) hrow.lt

end Go.Proofs.YbulkcmekDoor
