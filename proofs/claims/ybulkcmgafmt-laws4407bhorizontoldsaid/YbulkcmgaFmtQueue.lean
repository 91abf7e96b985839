import Derived.Test.YbulkcmgaFmtHeap
namespace Go.Proofs.YbulkcmgaFmt
open Go Go.RowKit Go.Extern.Stop Go.Stop Go.Extern

/-- An arrival's cells. -/
def arC (round : Int) (p b : ByteArray) : List Value := [.int .u64 round, .string p, .string b, .slice none 0 0, .bool true, .int .i64 0, .slice none 0 0, .bool true]

set_option maxHeartbeats 2000000 in
set_option maxRecDepth 100000 in
theorem push_is (NB : Nat) (att round : Int) (p b : ByteArray) (w : World) (h3 : At w NB 3 (.slice none 0 0)) (h4 : At w NB 4 (.int .u64 0)) :
    Calls Ybaf.prog 20 #[.pointer (some ⟨NB, 3, none⟩), .int .i64 att, .agg (arC round p b).toArray] w fun e w' => e = .returned (.tuple #[]) ∧ ∃ g, One w' NB 3 66 g (evC att 0 round p b) ∧ w'.cell? ⟨NB, 4, none⟩ = some (.int .u64 1) ∧ w.heap.size ≤ g ∧ Only [NB] w w' ∧ Rest w w' NB [3, 4] := by
  have lN := h3.lt
  have B1 := (Below.refl _ w).alloc (Nat.le_refl _) (.cells (arC round p b).toArray 64)
  have R1 : Has (w.alloc (.cells (arC round p b).toArray 64)) w.heap.size 64 (arC round p b) := ⟨_, heap_alloc_new w _, by simp⟩
  have HN := hidn (And.intro h3 h4)
  clear h3 h4
  unfold arC at *
  go_enter Ybaf.func20, Ybaf.ntmps20
  go_upto_region 1 with (fail)
  generalize w.alloc _ = w1 at B1 R1 ⊢
  have d0 : w1.cell? ⟨w.heap.size, 0, none⟩ = some (.int .u64 round) := R1.cell 0 rfl
  have d1 : w1.cell? ⟨w.heap.size, 1, none⟩ = some (.string p) := R1.cell 1 rfl
  have d2 : w1.cell? ⟨w.heap.size, 2, none⟩ = some (.string b) := R1.cell 2 rfl
  have d3 : w1.cell? ⟨w.heap.size, 3, none⟩ = some (.slice none 0 0) := R1.cell 3 rfl
  have d4 : w1.cell? ⟨w.heap.size, 4, none⟩ = some (.bool true) := R1.cell 4 rfl
  have d5 : w1.cell? ⟨w.heap.size, 5, none⟩ = some (.int .i64 0) := R1.cell 5 rfl
  have d6 : w1.cell? ⟨w.heap.size, 6, none⟩ = some (.slice none 0 0) := R1.cell 6 rfl
  have d7 : w1.cell? ⟨w.heap.size, 7, none⟩ = some (.bool true) := R1.cell 7 rfl
  have hq := (HN.out.2.below B1 lN).cell
  refine region_quiet_tail (C := fun W => ∃ q, W = w1.drewN q) 12 (by kernel_rfl) (by kernel_rfl) ⟨1, rfl⟩ ?_
  simp only [List.take_succ_cons, List.take_zero, List.drop_succ_cons, List.drop_zero]
  repeat (go_big_quiet_step (fail))
  refine wpQuiet_nil ?_
  rintro W ⟨q, rfl⟩
  have B2 := below_drewN B1 q
  clear B1 R1 d0 d1 d2 d3 d4 d5 d6 d7 hq
  generalize w1.drewN q = w2 at B2 ⊢
  have K := hidn (hpush_is NB att 0 round p b w2 (HN.out.1.below B2 lN))
  unfold evC at K
  have HB := hidn B2
  have H4 := hidn (HN.out.2.below B2 lN)
  clear B2
  go_wp2_with (go_at_call 21; refine K.out.mono ?_; rintro e w3 ⟨rfl, g, y1, y2, y3, y4⟩; obtain ⟨z1, z2⟩ := y4.at H4.out (by decide))
  go_end0
  have s2 := HB.out.size
  have o4 : Only [NB] w3 (w3.setCell ⟨NB, 4, none⟩ (.int .u64 1)) := (Only.refl _ _).setCell (by simp) _
  have r4 := Rest.set w3 NB 4 (.int .u64 1)
  obtain ⟨⟨cap, a1⟩, a2⟩ := y1
  refine ⟨rfl, g, ⟨⟨cap, (r4 3 (by decide)).1.trans a1⟩, a2.only o4 (by simp; omega)⟩, by go_simp, by omega, (Only.of_below HB.out).trans (y3.trans o4), ?_⟩
  exact (Rest.of_block (HB.out.block NB lN)).trans ((y4.mono (by simp)).trans (r4.mono (by simp)))

end Go.Proofs.YbulkcmgaFmt
