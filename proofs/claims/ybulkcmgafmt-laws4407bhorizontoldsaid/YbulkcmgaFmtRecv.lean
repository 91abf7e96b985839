import Derived.Test.YbulkcmgaFmtDecide
import Derived.Deep.DeepCutAuto
import Derived.Deep.RegionWith
import Derived.Deep.RegionHeld3
namespace Go.Proofs.YbulkcmgaFmt
open Go Go.RowKit Go.Extern.Stop Go.Stop Go.Extern

theorem Only.new {S T : List Nat} {w w1 w2 : World} (h : Only S w w1) (k : Only T w1 w2) (hT : ∀ k ∈ T, w.heap.size ≤ k) : Only S w w2 :=
  ⟨k.os.trans h.os, k.tape.trans h.tape, k.output.trans h.output, Nat.le_trans h.size k.size, fun j hj hS => (k.block j (Nat.lt_of_lt_of_le hj h.size) (fun hm => by have := hT j hm; omega)).trans (h.block j hj hS)⟩

/-- The receipt's cells. -/
def rcC (round : Int) (p b : ByteArray) : List Value := [.int .u64 round, .string p, .string b, .slice none 0 0, .bool true]

/-- The cells of a zero rule that the road reads. -/
structure Zero (w : World) (Q : Nat) : Prop where
  hold : w.cell? ⟨Q, 0, none⟩ = some (.bool false)
  now : At w Q 3 (.int .i64 0)
  ended : w.cell? ⟨Q, 4, none⟩ = some (.bool false)
  queue : w.cell? ⟨Q, 10, none⟩ = some (.slice none 0 0)

theorem Zero.lt {w : World} {Q : Nat} (h : Zero w Q) : Q < w.heap.size := h.now.lt
theorem Zero.below {w w' : World} {Q B : Nat} (h : Zero w Q) (k : Below B w w') (hb : Q < B) : Zero w' Q :=
  ⟨(k.cell (p := ⟨Q, 0, none⟩) hb).trans h.hold, h.now.below k hb, (k.cell (p := ⟨Q, 4, none⟩) hb).trans h.ended, (k.cell (p := ⟨Q, 10, none⟩) hb).trans h.queue⟩
theorem Zero.only {S : List Nat} {w w' : World} {Q : Nat} (h : Zero w Q) (k : Only S w w') (hb : Q ∉ S) : Zero w' Q :=
  ⟨(k.cell (p := ⟨Q, 0, none⟩) h.lt hb).trans h.hold, h.now.only k hb, (k.cell (p := ⟨Q, 4, none⟩) h.lt hb).trans h.ended, (k.cell (p := ⟨Q, 10, none⟩) h.lt hb).trans h.queue⟩

set_option maxHeartbeats 2000000 in
set_option maxRecDepth 100000 in
theorem ar_no (F : Interp) (Q : Nat) (t round : Int) (p b : ByteArray) (h : t < 0) (w : World) (hF : F.answers w.tape) (hZ : Zero w Q) :
    Calls Ybaf.prog 16 #[.pointer (some ⟨Q, 0, none⟩), .slice none 0 0, .int .i64 t, .agg (rcC round p b).toArray] w fun e w' => ∃ X s, e = .returned (.tuple #[.slice none 0 0, .iface 122 (.pointer (some ⟨X, 0, none⟩))]) ∧ w'.cell? ⟨X, 0, none⟩ = some (.string s) ∧ Below w.heap.size w w' := by
  have B := ((Below.refl _ w).alloc (Nat.le_refl _) (.cells #[.int .i64 t] 2)).alloc (by simp) (.cells (rcC round p b).toArray 54)
  have c0 : ((w.alloc (.cells #[.int .i64 t] 2)).alloc (.cells (rcC round p b).toArray 54)).cell? ⟨w.heap.size, 0, none⟩ = some (.int .i64 t) := by go_simp
  have hl : w.heap.size < ((w.alloc (.cells #[.int .i64 t] 2)).alloc (.cells (rcC round p b).toArray 54)).heap.size := by simp; omega
  have Z1 := hidn (hZ.below B hZ.lt)
  unfold rcC at *
  clear hZ
  go_enter Ybaf.func16, Ybaf.ntmps16
  go_upto_region 1 with (fail)
  generalize (w.alloc (.cells #[.int .i64 t] 2)).alloc _ = w1 at B c0 hl Z1 ⊢
  refine region_quiet_tail (C := fun W => ∃ q, W = w1.drewN q) 4 (by kernel_rfl) (by kernel_rfl) ⟨1, rfl⟩ ?_
  simp only [List.take_succ_cons, List.take_zero, List.drop_succ_cons, List.drop_zero]
  repeat (go_big_quiet_step (fail))
  refine wpQuiet_nil ?_
  rintro W ⟨q, rfl⟩
  have BW := hidn (below_drewN B q)
  have ZW : Zero (w1.drewN q) Q := ⟨Z1.out.hold, Z1.out.now, Z1.out.ended, Z1.out.queue⟩
  have K := hidn (checkReceipt_no F Q t h (w1.drewN q) (by rw [BW.out.tape]; exact hF) ZW.now.cell ZW.ended)
  generalize w1.drewN q = W at BW K ⊢
  clear B c0 hl Z1 ZW
  go_wp2_with (go_at_call 26; refine K.out.mono ?_; rintro e w2 ⟨X, s, rfl, x1, x2⟩)
  go_ret2
  exact ⟨X, s, rfl, x1, BW.out.trans (x2.mono BW.out.size)⟩

set_option maxHeartbeats 2000000 in
set_option maxRecDepth 100000 in
theorem ar_ok (Q : Nat) (t round : Int) (p b : ByteArray) (h : 0 ≤ t ∧ t ≤ 9223372036854775807) (w : World) (hZ : Zero w Q) :
    Calls Ybaf.prog 16 #[.pointer (some ⟨Q, 0, none⟩), .slice none 0 0, .int .i64 t, .agg (rcC round p b).toArray] w fun e w' => ∃ g cap, e = .returned (.tuple #[.slice (some ⟨g, 0, none⟩) 1 cap, .nilIface]) ∧ w.heap.size ≤ g ∧ Has w' g 45 (decC t 4 round p b) ∧ Only [Q] w w' := by
  have B := ((Below.refl _ w).alloc (Nat.le_refl _) (.cells #[.int .i64 t] 2)).alloc (by simp) (.cells (rcC round p b).toArray 54)
  have c0 : ((w.alloc (.cells #[.int .i64 t] 2)).alloc (.cells (rcC round p b).toArray 54)).cell? ⟨w.heap.size, 0, none⟩ = some (.int .i64 t) := by go_simp
  have r0 : ((w.alloc (.cells #[.int .i64 t] 2)).alloc (.cells (rcC round p b).toArray 54)).cell? ⟨w.heap.size + 1, 0, none⟩ = some (.int .u64 round) := by unfold rcC; go_simp
  have r1 : ((w.alloc (.cells #[.int .i64 t] 2)).alloc (.cells (rcC round p b).toArray 54)).cell? ⟨w.heap.size + 1, 1, none⟩ = some (.string p) := by unfold rcC; go_simp
  have r2 : ((w.alloc (.cells #[.int .i64 t] 2)).alloc (.cells (rcC round p b).toArray 54)).cell? ⟨w.heap.size + 1, 2, none⟩ = some (.string b) := by unfold rcC; go_simp
  have r4 : ((w.alloc (.cells #[.int .i64 t] 2)).alloc (.cells (rcC round p b).toArray 54)).cell? ⟨w.heap.size + 1, 4, none⟩ = some (.bool true) := by unfold rcC; go_simp
  have hl : w.heap.size + 1 < ((w.alloc (.cells #[.int .i64 t] 2)).alloc (.cells (rcC round p b).toArray 54)).heap.size := by simp
  have hQ := hZ.lt
  have Z1 := hidn (hZ.below B hZ.lt)
  have HT := hidn h
  unfold rcC at *
  clear hZ h
  go_enter Ybaf.func16, Ybaf.ntmps16
  go_upto_region 1 with (fail)
  generalize (w.alloc (.cells #[.int .i64 t] 2)).alloc _ = w1 at B c0 r0 r1 r2 r4 hl Z1 ⊢
  refine region_quiet_tail (C := fun W => ∃ q, W = w1.drewN q) 4 (by kernel_rfl) (by kernel_rfl) ⟨1, rfl⟩ ?_
  simp only [List.take_succ_cons, List.take_zero, List.drop_succ_cons, List.drop_zero]
  repeat (go_big_quiet_step (fail))
  refine wpQuiet_nil ?_
  rintro W ⟨q, rfl⟩
  have B2 := below_drewN B q
  replace Z1 : Zero (w1.drewN q) Q := ⟨Z1.out.hold, Z1.out.now, Z1.out.ended, Z1.out.queue⟩
  have d0 : (w1.drewN q).cell? ⟨w.heap.size, 0, none⟩ = some (.int .i64 t) := c0
  have e0 : (w1.drewN q).cell? ⟨w.heap.size + 1, 0, none⟩ = some (.int .u64 round) := r0
  have e1 : (w1.drewN q).cell? ⟨w.heap.size + 1, 1, none⟩ = some (.string p) := r1
  have e2 : (w1.drewN q).cell? ⟨w.heap.size + 1, 2, none⟩ = some (.string b) := r2
  have e4 : (w1.drewN q).cell? ⟨w.heap.size + 1, 4, none⟩ = some (.bool true) := r4
  have hl2 : w.heap.size + 1 < (w1.drewN q).heap.size := hl
  clear B c0 r0 r1 r2 r4 hl
  generalize w1.drewN q = W at B2 Z1 d0 e0 e1 e2 e4 hl2 ⊢
  have K := hidn (checkReceipt_ok Q t HT.out.1 W Z1.now.cell Z1.ended)
  have z0 := Z1.hold
  have HZ := hidn Z1
  have HB := hidn B2
  clear Z1 B2
  go_upto_region 4 with (go_at_call 26; refine K.out.mono ?_; rintro e w2 ⟨rfl, rfl⟩)
  go_quiet (fail)
  go_upto_region 6 with (fail)
  have B3 := below_drewN HB.out nq
  have Z3 : Zero (w2.drewN nq) Q := ⟨HZ.out.hold, HZ.out.now, HZ.out.ended, HZ.out.queue⟩
  have f0 : (w2.drewN nq).cell? ⟨w.heap.size, 0, none⟩ = some (.int .i64 t) := d0
  have g0 : (w2.drewN nq).cell? ⟨w.heap.size + 1, 0, none⟩ = some (.int .u64 round) := e0
  have g1 : (w2.drewN nq).cell? ⟨w.heap.size + 1, 1, none⟩ = some (.string p) := e1
  have g2 : (w2.drewN nq).cell? ⟨w.heap.size + 1, 2, none⟩ = some (.string b) := e2
  have g4 : (w2.drewN nq).cell? ⟨w.heap.size + 1, 4, none⟩ = some (.bool true) := e4
  have hl3 : w.heap.size + 1 < (w2.drewN nq).heap.size := hl2
  clear d0 e0 e1 e2 e4 hl2 HZ HB K z0
  generalize w2.drewN nq = w3 at B3 Z3 f0 g0 g1 g2 g4 hl3 ⊢
  have z3 := Z3.now.1
  have z3' := Z3.now.2
  have z10 := Z3.queue
  have hQ3 : Q < w3.heap.size := Z3.lt
  have HB := hidn B3
  clear B3 Z3
  go_cut [11] (fun s11 wd => ∃ O, s11 = .pointer (some ⟨O, 0, none⟩) ∧ w.heap.size + 1 < O ∧ At wd O 0 (.slice none 0 0) ∧ Only [Q] w3 wd)
  case first =>
    have hneQ : ¬ w.heap.size = Q := by omega
    have hneQ' : ¬ Q = w.heap.size := by omega
    have hneQ3 : ¬ Q = w3.heap.size := by omega
    have hlw : w.heap.size < w3.heap.size := by omega
    go_region_held3 (fun W => W.cell? ⟨w.heap.size, 0, none⟩ = some (.int .i64 t)) (go_keep) (first
      | (go_at_call 28; refine (receipt_is Q t 0 HT.out _ ?_ ?_).mono ?_; go_simp; go_simp; rintro e w5 ⟨rfl, rfl⟩)
      | (go_at_call 27; refine (due_none Q _ _ _ ?_).mono ?_; go_simp; rintro e w6 ⟨rfl, rfl⟩))
    all_goals go_wp2
    all_goals go_meet
    all_goals exact ⟨w3.heap.size, rfl, hl3, ⟨by go_simp, by go_simp⟩, (((Only.refl [Q] w3).setCell (by simp) _).alloc _).drew⟩
  case rest =>
    obtain ⟨O, rfl, hO, x1, x2⟩ := hcut
    rename World => w5
    have OQ := hidn x2
    have hlO := x1.lt
    have n1 : w.heap.size ∉ [Q] := by simp; omega
    have n2 : w.heap.size + 1 ∉ [Q] := by simp; omega
    have m0 := (x2.cell (p := ⟨w.heap.size, 0, none⟩) (Nat.lt_of_succ_lt hl3) n1).trans f0
    have l0 := (x2.cell (p := ⟨w.heap.size + 1, 0, none⟩) hl3 n2).trans g0
    have l1 := (x2.cell (p := ⟨w.heap.size + 1, 1, none⟩) hl3 n2).trans g1
    have l2 := (x2.cell (p := ⟨w.heap.size + 1, 2, none⟩) hl3 n2).trans g2
    have l4 := (x2.cell (p := ⟨w.heap.size + 1, 4, none⟩) hl3 n2).trans g4
    have K29 := hidn (decide_is O w.heap.size (w.heap.size + 1) t round p b w5 x1 m0 l0 l1)
    clear x1 x2 m0 l0 l1 f0 g0 g1 g2 g4 z3 z3' z10
    go_wp2_with (go_at_call 29; refine K29.out.mono ?_; rintro e w6 ⟨rfl, g, cap, y1, y2, y3, y4⟩)
    go_ret2
    have s5 := OQ.out.size
    have s3 := HB.out.size
    exact ⟨g, cap, rfl, by omega, y2, ((Only.of_below HB.out).trans OQ.out).new y4 (by simp; omega)⟩

end Go.Proofs.YbulkcmgaFmt
