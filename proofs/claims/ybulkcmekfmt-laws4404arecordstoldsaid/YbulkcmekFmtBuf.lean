import Derived.Test.YbulkcmekFmtSrc
import Derived.Deep.RegionWith
namespace Go.Proofs.YbulkcmekFmt
open Go Go.RowKit

/-- The seven cells of a bufio.Reader over the source at S, its buffer at U. -/
def bufF (U S r v : Nat) (e : Value) (lb lr : Int) (i : Nat) : Value :=
  if i = 0 then .slice (some ⟨U, 0, none⟩) 4096 4096 else if i = 1 then .iface 56 (.pointer (some ⟨S, 0, none⟩)) else if i = 2 then .int .i64 r else if i = 3 then .int .i64 v else if i = 4 then e else if i = 5 then .int .i64 lb else .int .i64 lr

theorem seven {i : Nat} (h : i < 7) : i = 0 ∨ i = 1 ∨ i = 2 ∨ i = 3 ∨ i = 4 ∨ i = 5 ∨ i = 6 := by omega

section
variable {w : World} {B U S r v : Nat} {e : Value} {lb lr : Int}
theorem buf_r (h : w.rowIs B 88 7 (bufF U S r v e lb lr)) (x : Nat) : (w.setCell ⟨B, 2, none⟩ (.int .i64 x)).rowIs B 88 7 (bufF U S x v e lb lr) :=
  (h.set 2 _).congr fun i hi => by rcases seven hi with rfl | rfl | rfl | rfl | rfl | rfl | rfl <;> rfl
theorem buf_v (h : w.rowIs B 88 7 (bufF U S r v e lb lr)) (x : Nat) : (w.setCell ⟨B, 3, none⟩ (.int .i64 x)).rowIs B 88 7 (bufF U S r x e lb lr) :=
  (h.set 3 _).congr fun i hi => by rcases seven hi with rfl | rfl | rfl | rfl | rfl | rfl | rfl <;> rfl
theorem buf_e (h : w.rowIs B 88 7 (bufF U S r v e lb lr)) (x : Value) : (w.setCell ⟨B, 4, none⟩ x).rowIs B 88 7 (bufF U S r v x lb lr) :=
  (h.set 4 _).congr fun i hi => by rcases seven hi with rfl | rfl | rfl | rfl | rfl | rfl | rfl <;> rfl
theorem buf_lb (h : w.rowIs B 88 7 (bufF U S r v e lb lr)) (x : Int) : (w.setCell ⟨B, 5, none⟩ (.int .i64 x)).rowIs B 88 7 (bufF U S r v e x lr) :=
  (h.set 5 _).congr fun i hi => by rcases seven hi with rfl | rfl | rfl | rfl | rfl | rfl | rfl <;> rfl
theorem buf_lr (h : w.rowIs B 88 7 (bufF U S r v e lb lr)) (x : Int) : (w.setCell ⟨B, 6, none⟩ (.int .i64 x)).rowIs B 88 7 (bufF U S r v e lb x) :=
  (h.set 6 _).congr fun i hi => by rcases seven hi with rfl | rfl | rfl | rfl | rfl | rfl | rfl <;> rfl
end

/-- readErr: it hands the error back and clears it. -/
theorem readErr (B U S r v : Nat) (x : Value) (lb lr : Int) (w : World) (h : w.rowIs B 88 7 (bufF U S r v x lb lr)) :
    Calls Ybaf.prog 42 #[.pointer (some ⟨B, 0, none⟩)] w fun e w' => e = .returned x ∧ w'.rowIs B 88 7 (bufF U S r v .nilIface lb lr) ∧ Only [B] w w' := by
  have c4 : w.cell? ⟨B, 4, none⟩ = some x := at_cell h 4 (by decide) rfl
  have fz := h.frozen 4
  have HB := hid h
  clear h
  go_enter Ybaf.func42, Ybaf.ntmps42
  go_wp2
  go_ret
  exact ⟨rfl, buf_e HB.out _, (Only.refl _ _).setCell (by simp) _⟩

end Go.Proofs.YbulkcmekFmt
