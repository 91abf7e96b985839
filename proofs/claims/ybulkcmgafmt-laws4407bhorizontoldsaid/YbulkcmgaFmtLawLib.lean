import Derived.Test.YbulkcmgaFmtGo
namespace Go.Proofs.YbulkcmgaFmt
open Go Go.RowKit Go.Extern.Stop Go.Stop Go.Extern

/-- The words that a slice of uint64 holds. -/
def WordsAt (w : World) (a : Option Addr) (len : Nat) (Y : Nat → Int) : Prop := 0 < len → ∃ b off, a = some ⟨b, off, none⟩ ∧ b < w.heap.size ∧ ∀ i, i < len → w.cell? ⟨b, off + i, none⟩ = some (.int .u64 (Y i))

theorem info29 : (Ybaf.prog.info? 29).map (fun i => (i.zero, i.size, i.bytes)) = some (some (.pointer none), 1, 8) := by kernel_rfl

theorem make26 (L : Nat) (h : L ≤ 1000) (w : World) :
    (Instr.makeSlice 26 (.int .i64 (L : Int)) (.int .i64 (L : Int))).run Ybaf.prog w = .ok (.slice (some ⟨w.heap.size, 0, none⟩) L L) (w.alloc (.cells (madeCells #[.int .u64 0] L) 22)) := by
  obtain ⟨i, hi, hzz⟩ := Option.map_eq_some_iff.1 info22
  simp only [Prod.mk.injEq] at hzz
  obtain ⟨hz, hs, hb⟩ := hzz
  have hr := run_make (P := Ybaf.prog) w 26 22 i (.int .u64 0) Ybaf.underlying26 hi hz .i64 .i64 L L (by omega) (by omega) (by rw [hb]; omega) (by omega)
  simp only [Int.toNat_natCast, hs, Nat.mul_one] at hr
  exact hr

theorem make28 (L : Nat) (h : L ≤ 1000) (w : World) :
    (Instr.makeSlice 28 (.int .i64 (L : Int)) (.int .i64 (L : Int))).run Ybaf.prog w = .ok (.slice (some ⟨w.heap.size, 0, none⟩) L L) (w.alloc (.cells (madeCells #[.pointer none] L) 29)) := by
  obtain ⟨i, hi, hzz⟩ := Option.map_eq_some_iff.1 info29
  simp only [Prod.mk.injEq] at hzz
  obtain ⟨hz, hs, hb⟩ := hzz
  have hr := run_make (P := Ybaf.prog) w 28 29 i (.pointer none) Ybaf.underlying28 hi hz .i64 .i64 L L (by omega) (by omega) (by rw [hb]; omega) (by omega)
  simp only [Int.toNat_natCast, hs, Nat.mul_one] at hr
  exact hr

/-- A row of words. -/
def Wrow (w : World) (S L : Nat) (f : Nat → Int) : Prop := w.rowIs S 22 L (fun j => .int .u64 (f j))
theorem Wrow.cell {w : World} {S L : Nat} {f : Nat → Int} (h : Wrow w S L f) {j : Nat} (hj : j < L) : w.cell? ⟨S, j, none⟩ = some (.int .u64 (f j)) := World.rowIs.cell h hj
theorem Wrow.frozen {w : World} {S L : Nat} {f : Nat → Int} (h : Wrow w S L f) (j : Nat) : w.frozen? ⟨S, j, none⟩ = false := World.rowIs.frozen h j
theorem Wrow.set {w : World} {S L : Nat} {f : Nat → Int} (h : Wrow w S L f) (j : Nat) (v : Int) : Wrow (w.setCell ⟨S, j, none⟩ (.int .u64 v)) S L (fun a => if a = j then v else f a) :=
  (World.rowIs.set h j (.int .u64 v)).congr fun a _ => by by_cases e : a = j <;> simp [e]
theorem Wrow.has {w : World} {S L : Nat} {f : Nat → Int} (h : Wrow w S L f) : Has w S 22 (wordsL f L) := by
  obtain ⟨c, h1, h2, h3⟩ := h
  refine ⟨c, h1, ?_⟩
  rw [wordsL_len]
  apply List.ext_getElem?
  intro a
  rw [List.getElem?_take]
  by_cases ha : a < L
  · rw [if_pos ha, wordsL_get ha]
    have := h3 a ha
    simpa using this
  · rw [if_neg ha]
    simp [wordsL, ha]

set_option maxHeartbeats 1000000 in
theorem equal_c (S g L c d : Nat) (f : Nat → Int) (w : World) (hL : L ≤ 8) (h1 : ∀ j, j < L → w.cell? ⟨S, j, none⟩ = some (.int .u64 (f j))) (h2 : ∀ j, j < L → w.cell? ⟨g, j, none⟩ = some (.int .u64 (f j))) :
    Calls Ybaf.prog 8 #[.slice (some ⟨S, 0, none⟩) L c, .slice (some ⟨g, 0, none⟩) L d] w fun e w' => e = .returned (.bool true) ∧ ∃ q, w' = w.drewN q := by
  have k1 := hidn h1
  have k2 := hidn h2
  clear h1 h2
  go_enter Ybaf.func8, Ybaf.ntmps8
  go_wp2
  go_loopw [13] (fun i wr => ∃ k : Nat, k ≤ L ∧ i = .int .i64 k ∧ ∃ q, wr = w.drewN q) (fun i _ => L - (intOf i).toNat)
  case atStart => exact ⟨0, Nat.zero_le _, rfl, 0, rfl⟩
  case round =>
    obtain ⟨k, hk, rfl, q, rfl⟩ := hrel
    by_cases hlt : k < L
    · have a1 := k1.out k hlt
      have a2 := k2.out k hlt
      have hlt' : (k : Int) < (L : Int) := by omega
      go_wp2
      go_quiet (fail)
      go_wp2
      go_roundw
      case rel => exact ⟨k + 1, by omega, by go_num, _, rfl⟩
      case measure => simp [intOf]; omega
    · have hlt' : ¬ (k : Int) < (L : Int) := by omega
      go_wp2
      go_ret
      exact ⟨rfl, _, rfl⟩

/-- The rules made so far: that of node i is zero. -/
structure Made (w wr : World) (R nn i j : Nat) : Prop where
  below : Below R w wr
  row : ∃ h, wr.rowIs R 29 nn h ∧ (i < j → ∃ Q, h i = .pointer (some ⟨Q, 0, none⟩) ∧ R < Q ∧ Zero wr Q)

end Go.Proofs.YbulkcmgaFmt
