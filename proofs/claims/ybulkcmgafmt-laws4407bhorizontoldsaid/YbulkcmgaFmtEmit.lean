import Derived.Test.YbulkcmgaFmtObs
namespace Go.Proofs.YbulkcmgaFmt
open Go Go.RowKit Go.Extern.Stop Go.Stop Go.Extern

abbrev obsV (LN LD : Nat) : Value := .func (.func 6) #[] #[.pointer (some ⟨LN, 0, none⟩), .pointer (some ⟨LD, 0, none⟩)]

set_option maxHeartbeats 1000000 in
theorem emit_is (NB LN LD g cap : Nat) (nd t round : Int) (p b : ByteArray) (w : World) (hne : LN ≠ LD) (hN : At w LN 0 (.slice none 0 0)) (hD : At w LD 0 (.slice none 0 0)) (hF : w.cell? ⟨NB, 5, none⟩ = some (obsV LN LD)) (hG : Has w g 45 (decC t 4 round p b)) :
    Calls Ybaf.prog 18 #[.pointer (some ⟨NB, 0, none⟩), .int .i64 nd, .slice (some ⟨g, 0, none⟩) 1 cap] w fun e w' => e = .returned (.tuple #[]) ∧ ∃ g1 g2, One w' LN 0 3 g1 [.int .i64 nd] ∧ One w' LD 0 45 g2 (decC t 4 round p b) ∧ w.heap.size ≤ g1 ∧ w.heap.size ≤ g2 ∧ Only [LN, LD] w w' := by
  have d0 : w.cell? ⟨g, 0, none⟩ = some (.int .i64 t) := hG.cell 0 rfl
  have d1 : w.cell? ⟨g, 1, none⟩ = some (.int .u8 4) := hG.cell 1 rfl
  have d2 : w.cell? ⟨g, 2, none⟩ = some (.int .u64 round) := hG.cell 2 rfl
  have d3 : w.cell? ⟨g, 3, none⟩ = some (.string p) := hG.cell 3 rfl
  have d4 : w.cell? ⟨g, 4, none⟩ = some (.string b) := hG.cell 4 rfl
  have d5 : w.cell? ⟨g, 5, none⟩ = some (.string ⟨#[]⟩) := hG.cell 5 rfl
  have d6 : w.cell? ⟨g, 6, none⟩ = some (.slice none 0 0) := hG.cell 6 rfl
  have d7 : w.cell? ⟨g, 7, none⟩ = some (.slice none 0 0) := hG.cell 7 rfl
  have HG := hidn (And.intro hN (And.intro hD hF))
  have lN := hN.lt
  have lD := hD.lt
  have lB : NB < w.heap.size := World.block_lt_of_cell? w ⟨NB, 5, none⟩ hF
  clear hG hN hD hF
  go_enter Ybaf.func18, Ybaf.ntmps18
  go_wp2
  refine wp_loop_rounds 2 ?_
  rw [rounds_succ]
  go_upto_region 3 with (fail)
  have B1 := (Below.refl _ w).alloc (Nat.le_refl _) (.cells (decC t 4 round p b).toArray 45)
  have R1 : Has (w.alloc (.cells (decC t 4 round p b).toArray 45)) w.heap.size 45 (decC t 4 round p b) := ⟨_, heap_alloc_new w _, by simp⟩
  unfold decC at B1 R1
  clear d0 d1 d2 d3 d4 d5 d6 d7
  generalize w.alloc _ = w1 at B1 R1 ⊢
  have d0 : w1.cell? ⟨w.heap.size, 0, none⟩ = some (.int .i64 t) := R1.cell 0 rfl
  have d1 : w1.cell? ⟨w.heap.size, 1, none⟩ = some (.int .u8 4) := R1.cell 1 rfl
  have d2 : w1.cell? ⟨w.heap.size, 2, none⟩ = some (.int .u64 round) := R1.cell 2 rfl
  have d3 : w1.cell? ⟨w.heap.size, 3, none⟩ = some (.string p) := R1.cell 3 rfl
  have d4 : w1.cell? ⟨w.heap.size, 4, none⟩ = some (.string b) := R1.cell 4 rfl
  have d5 : w1.cell? ⟨w.heap.size, 5, none⟩ = some (.string ⟨#[]⟩) := R1.cell 5 rfl
  have d6 : w1.cell? ⟨w.heap.size, 6, none⟩ = some (.slice none 0 0) := R1.cell 6 rfl
  have d7 : w1.cell? ⟨w.heap.size, 7, none⟩ = some (.slice none 0 0) := R1.cell 7 rfl
  have hf := (B1.cell (p := ⟨NB, 5, none⟩) lB).trans HG.out.2.2
  refine region_quiet_tail (C := fun W => ∃ q, W = w1.drewN q) 6 (by kernel_rfl) (by kernel_rfl) ⟨1, rfl⟩ ?_
  simp only [List.take_succ_cons, List.take_zero, List.drop_succ_cons, List.drop_zero]
  repeat (go_big_quiet_step (fail))
  refine wpQuiet_nil ?_
  rintro W ⟨q, rfl⟩
  have B2 := below_drewN B1 q
  clear B1 R1 d0 d1 d2 d3 d4 d5 d6 d7 hf
  generalize w1.drewN q = w2 at B2 ⊢
  have K := hidn (observe_is LN LD nd t round p b w2 hne (HG.out.1.below B2 lN) (HG.out.2.1.below B2 lD))
  unfold decC at K
  have HB := hidn B2
  clear B2
  go_wp2_with (go_at_call 6; refine K.out.mono ?_; rintro e w3 ⟨rfl, g1, g2, y1, y2, y3, y4, y5⟩)
  try (rw [rounds_succ]; go_wp2)
  go_end0
  have := HB.out.size
  exact ⟨rfl, g1, g2, y1, y2, by omega, by omega, (Only.of_below HB.out).trans y5⟩

end Go.Proofs.YbulkcmgaFmt
