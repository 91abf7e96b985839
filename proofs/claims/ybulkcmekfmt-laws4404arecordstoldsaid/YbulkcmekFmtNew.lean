import Derived.Test.YbulkcmekFmtUtil
namespace Go.Proofs.YbulkcmekFmt
open Go Go.RowKit Go.Extern.Stop Go.Stop Go.Extern

theorem assert35 (x : Value) (w : World) : (Instr.typeAssert (.iface 56 x) 70 35 true).run Ybaf.prog w = .ok (.tuple #[.pointer none, .bool false]) w := by kernel_rfl

theorem reset_any (B U S : Nat) (f : Nat → Value) (w : World) (hB : w.rowIs B 88 7 f) :
    Calls Ybaf.prog 22 #[.pointer (some ⟨B, 0, none⟩), .slice (some ⟨U, 0, none⟩) 4096 4096, .iface 56 (.pointer (some ⟨S, 0, none⟩))] w fun e w' => e = .returned (.tuple #[]) ∧ w'.rowIs B 88 7 (bufF U S 0 0 .nilIface (-1) (-1)) ∧ Only [B] w w' := by
  have c0 : w.cell? ⟨B, 0, none⟩ = some (f 0) := hB.cell (by decide)
  have c1 : w.cell? ⟨B, 1, none⟩ = some (f 1) := hB.cell (by decide)
  have c2 : w.cell? ⟨B, 2, none⟩ = some (f 2) := hB.cell (by decide)
  have c3 : w.cell? ⟨B, 3, none⟩ = some (f 3) := hB.cell (by decide)
  have c4 : w.cell? ⟨B, 4, none⟩ = some (f 4) := hB.cell (by decide)
  have c5 : w.cell? ⟨B, 5, none⟩ = some (f 5) := hB.cell (by decide)
  have c6 : w.cell? ⟨B, 6, none⟩ = some (f 6) := hB.cell (by decide)
  have f0 := hB.frozen 0
  have f1 := hB.frozen 1
  have f2 := hB.frozen 2
  have f3 := hB.frozen 3
  have f4 := hB.frozen 4
  have f5 := hB.frozen 5
  have f6 := hB.frozen 6
  have HB := hid hB
  clear hB
  go_enter Ybaf.func22, Ybaf.ntmps22
  go_wp2
  go_end0
  refine ⟨rfl, ?_, ((((((((Only.refl _ _).setCell (by simp) _).setCell (by simp) _).setCell (by simp) _).setCell (by simp) _).setCell (by simp) _).setCell (by simp) _).setCell (by simp) _)⟩
  refine (((((((HB.out.set 0 _).set 1 _).set 2 _).set 3 _).set 4 _).set 5 _).set 6 _).congr fun i hi => ?_
  rcases seven hi with rfl | rfl | rfl | rfl | rfl | rfl | rfl <;> rfl

abbrev zb : Array Value := #[.slice none 0 0, .nilIface, .int .i64 0, .int .i64 0, .nilIface, .int .i64 0, .int .i64 0]
theorem zb_row (w : World) : (w.alloc (.cells zb 88)).rowIs w.heap.size 88 7 (fun i => zb.getD i undef) :=
  World.rowIs_alloc w zb 88 (fun i => zb.getD i undef) (fun i hi => by simp [Array.getElem?_eq_getElem hi])

set_option maxHeartbeats 1000000 in
set_option maxRecDepth 100000 in
theorem newReaderSize (S : Nat) (w : World) :
    Calls Ybaf.prog 18 #[.iface 56 (.pointer (some ⟨S, 0, none⟩)), .int .i64 4096] w fun e w' => e = .returned (.pointer (some ⟨w.heap.size, 0, none⟩)) ∧ w'.rowIs w.heap.size 88 7 (bufF (w.heap.size + 1) S 0 0 .nilIface (-1) (-1)) ∧ w'.rowIs (w.heap.size + 1) 5 4096 (fun _ => .int .u8 0) ∧ Below w.heap.size w w' := by
  have hmk : ∀ w : World, (Instr.makeSlice 24 (.int .i64 4096) (.int .i64 4096)).run Ybaf.prog w = .ok (.slice (some ⟨w.heap.size, 0, none⟩) 4096 4096) (w.alloc (.cells (madeCells #[.int .u8 0] 4096) 5)) := make_lc .i64 .i64 4096 4096 (by decide) (by decide)
  have hA := assert35
  have hr1 := made_row (w.alloc (.cells zb 88)) 4096
  rw [show (w.alloc (.cells zb 88)).heap.size = w.heap.size + 1 by simp] at hr1
  have K := hid (reset_any w.heap.size (w.heap.size + 1) S _ ((w.alloc (.cells zb 88)).alloc (.cells (madeCells #[.int .u8 0] 4096) 5)) ((zb_row w).alloc _))
  go_enter Ybaf.func18, Ybaf.ntmps18
  go_wp2_with (first
    | (go_at_call 22; refine K.out.mono ?_; rintro e w2 ⟨rfl, h1, h2⟩))
  go_ret
  exact ⟨rfl, h1, h2.row hr1 (by simp), (((Below.refl _ w).alloc (Nat.le_refl _) _).alloc (by simp) _).trans (h2.below (by simp; omega) (by simp))⟩

theorem newReader (S : Nat) (w : World) :
    Calls Ybaf.prog 12 #[.iface 56 (.pointer (some ⟨S, 0, none⟩))] w fun e w' => e = .returned (.pointer (some ⟨w.heap.size, 0, none⟩)) ∧ w'.rowIs w.heap.size 88 7 (bufF (w.heap.size + 1) S 0 0 .nilIface (-1) (-1)) ∧ w'.rowIs (w.heap.size + 1) 5 4096 (fun _ => .int .u8 0) ∧ Below w.heap.size w w' := by
  have K := hid (newReaderSize S w)
  go_enter Ybaf.func12, Ybaf.ntmps12
  go_wp2_with (first
    | (go_at_call 18; refine K.out.mono ?_; rintro e w2 ⟨rfl, h1⟩))
  go_ret
  exact ⟨rfl, h1⟩

end Go.Proofs.YbulkcmekFmt
