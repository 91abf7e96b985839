import Derived.Test.YbulkcmgaFmtRecv
namespace Go.Proofs.YbulkcmgaFmt
open Go Go.RowKit Go.Extern.Stop Go.Stop Go.Extern

/-- The slice in cell LN has one element, xs; it lies at g. -/
def One (w : World) (L o : Nat) (e : TypeId) (g : Nat) (xs : List Value) : Prop := (∃ cap, w.cell? ⟨L, o, none⟩ = some (.slice (some ⟨g, 0, none⟩) 1 cap)) ∧ Has w g e xs

set_option maxHeartbeats 1000000 in
theorem observe_is (LN LD : Nat) (nd t round : Int) (p b : ByteArray) (w : World) (hne : LN ≠ LD) (hN : At w LN 0 (.slice none 0 0)) (hD : At w LD 0 (.slice none 0 0)) :
    Calls Ybaf.prog 6 #[.int .i64 nd, .agg (decC t 4 round p b).toArray, .pointer (some ⟨LN, 0, none⟩), .pointer (some ⟨LD, 0, none⟩)] w fun e w' => e = .returned (.tuple #[]) ∧ ∃ g1 g2, One w' LN 0 3 g1 [.int .i64 nd] ∧ One w' LD 0 45 g2 (decC t 4 round p b) ∧ w.heap.size ≤ g1 ∧ w.heap.size ≤ g2 ∧ Only [LN, LD] w w' := by
  have lN := hN.lt
  have lD := hD.lt
  have B1 := (Below.refl _ w).alloc (Nat.le_refl _) (.cells (decC t 4 round p b).toArray 45)
  have B2 := B1.alloc (by simp) (.cells #[.int .i64 nd] 3)
  have R1 : Has (w.alloc (.cells (decC t 4 round p b).toArray 45)) w.heap.size 45 (decC t 4 round p b) := ⟨_, heap_alloc_new w _, by simp⟩
  have N := hidn (news_cells (w.alloc (.cells (decC t 4 round p b).toArray 45)) [.int .i64 nd] 3)
  rw [show (w.alloc (.cells (decC t 4 round p b).toArray 45)).heap.size = w.heap.size + 1 by simp] at N
  have HB1 := hidn B1
  have HB2 := hidn B2
  have HR := hidn R1
  have c1 := (B2.cell (p := ⟨LN, 0, none⟩) lN).trans hN.cell
  have k1 := (B1.cell (p := ⟨LN, 0, none⟩) lN).trans hN.cell
  have HN := hidn hN
  have HD := hidn hD
  clear B1 B2 R1 hN hD
  go_enter Ybaf.func6, Ybaf.ntmps6
  go_upto_region 2 with (at_builtin; refine wpList_append_nil rfl _ _ 39 rfl 3 1 8 _ Ybaf.underlying39 info3 rfl (by decide) (by decide) rfl ⟨w.heap.size + 1, 0, none⟩ 1 [.int .i64 nd] rfl rfl N.out (by simp [Value.oneCell']) ?_; intro g cap w1 x1 x2 x3; have y := (HN.out.below HB2.out lN).below x3.out (by simp; omega); obtain ⟨y1, y2⟩ := y)
  have hg : w.heap.size + 2 ≤ g := by simpa using x2.out
  have O1 : Only [LN, LD] w w1 := (Only.of_below HB2.out).trans (Only.of_below x3.out)
  have O1' : Only [] w1 w1 := Only.refl _ _
  have o2 : Only [LN] w1 (w1.setCell ⟨LN, 0, none⟩ (.slice (some ⟨g, 0, none⟩) 1 cap)) := (Only.refl _ _).setCell (by simp) _
  have D1 := HD.out.below HB2.out lD
  have D2 := (D1.below x3.out (by simp; omega)).only o2 (by simp; omega)
  have R2 := ((HR.out.of_block (w' := w1) ((x3.out.block w.heap.size (by simp; omega)).trans (Below.heap_alloc _ _ _ (by simp)))).only o2 (by simp; omega))
  have G2 := x1.out.only o2 (by simp; omega)
  have C2 : (w1.setCell ⟨LN, 0, none⟩ (.slice (some ⟨g, 0, none⟩) 1 cap)).cell? ⟨LN, 0, none⟩ = some (.slice (some ⟨g, 0, none⟩) 1 cap) := by go_simp
  have O2 := O1.trans (o2.mono (S' := [LN, LD]) (by simp))
  clear x1 x2 x3 y1 y2 o2 O1 O1' D1 HB1 HB2 HR HN HD c1 k1 N
  generalize w1.setCell ⟨LN, 0, none⟩ (.slice (some ⟨g, 0, none⟩) 1 cap) = w2 at D2 R2 G2 C2 O2 ⊢
  have s2 := O2.size
  have B3 := (Below.refl _ w2).alloc (Nat.le_refl _) (.cells (decC t 4 round p b).toArray 45)
  have N := hidn (news_cells w2 (decC t 4 round p b) 45)
  have HB3 := hidn B3
  have d0 : w2.cell? ⟨w.heap.size, 0, none⟩ = some (.int .i64 t) := R2.cell 0 rfl
  have d1 : w2.cell? ⟨w.heap.size, 1, none⟩ = some (.int .u8 4) := R2.cell 1 rfl
  have d2 : w2.cell? ⟨w.heap.size, 2, none⟩ = some (.int .u64 round) := R2.cell 2 rfl
  have d3 : w2.cell? ⟨w.heap.size, 3, none⟩ = some (.string p) := R2.cell 3 rfl
  have d4 : w2.cell? ⟨w.heap.size, 4, none⟩ = some (.string b) := R2.cell 4 rfl
  have d5 : w2.cell? ⟨w.heap.size, 5, none⟩ = some (.string ⟨#[]⟩) := R2.cell 5 rfl
  have d6 : w2.cell? ⟨w.heap.size, 6, none⟩ = some (.slice none 0 0) := R2.cell 6 rfl
  have d7 : w2.cell? ⟨w.heap.size, 7, none⟩ = some (.slice none 0 0) := R2.cell 7 rfl
  have dd := D2.cell
  have HD := hidn D2
  have HG := hidn (And.intro G2 (And.intro C2 O2))
  have lD2 := D2.lt
  clear B3 R2 D2 G2 C2 O2
  go_wp2_with (at_builtin; refine wpList_append_nil rfl _ _ 38 rfl 45 8 120 _ Ybaf.underlying38 info45 rfl (by decide) (by decide) rfl ⟨w2.heap.size, 0, none⟩ 1 (decC t 4 round p b) rfl rfl N.out (by simp [decC, Value.oneCell']) ?_; intro g2 cap2 w3 x1 x2 x3; obtain ⟨y1, y2⟩ := (HD.out.below HB3.out lD2).below x3.out (by simp; omega))
  go_end0
  obtain ⟨G2, C2, O2⟩ := HG.out
  have hg2 : w2.heap.size + 1 ≤ g2 := by simpa using x2.out
  have o3 : Only [] w2 w3 := (Only.of_below HB3.out).trans (Only.of_below x3.out)
  have o4 : Only [LD] w3 (w3.setCell ⟨LD, 0, none⟩ (.slice (some ⟨g2, 0, none⟩) 1 cap2)) := (Only.refl _ _).setCell (by simp) _
  have o5 := (o3.mono (S' := [LD]) (by simp)).trans o4
  refine ⟨rfl, g, g2, ⟨⟨cap, (o5.cell (p := ⟨LN, 0, none⟩) (by simp; omega) (by simp; omega)).trans C2⟩, G2.only o5 (by simp; omega)⟩, ⟨⟨cap2, by go_simp⟩, x1.out.only o4 (by simp; omega)⟩, by omega, by omega, O2.trans (o5.mono (by simp))⟩

end Go.Proofs.YbulkcmgaFmt
