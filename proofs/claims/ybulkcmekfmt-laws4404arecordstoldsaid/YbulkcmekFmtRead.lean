import Derived.Test.YbulkcmekFmtBuf
namespace Go.Proofs.YbulkcmekFmt
open Go Go.RowKit

set_option maxHeartbeats 1000000 in
set_option maxRecDepth 100000 in
/-- Read, something lies in the buffer. -/
theorem read_have (B U S V off m c t k r v n : Nat) (lb lr : Int) (g f : Nat → Value) (Z : Nat → Int) (w : World) (hB : w.rowIs B 88 7 (bufF U S r v .nilIface lb lr)) (hU : w.rowIs U 5 4096 g) (hV : w.rowIs V t k f)
    (hBU : B ≠ U) (hBV : B ≠ V) (hUV : U ≠ V) (hr : r < v) (hv : v ≤ 4096) (hm : ((m : Int) == 0) = false) (hfit : off + m ≤ k) (hg : ∀ i, r ≤ i → i < v → g i = .int .u8 (Z (i - r))) (hn : n = Nat.min (v - r) m) :
    Calls Ybaf.prog 39 #[.pointer (some ⟨B, 0, none⟩), .slice (some ⟨V, off, none⟩) m c] w fun e w' => e = .returned (.tuple #[.int .i64 n, .nilIface]) ∧
      (∃ x y, w'.rowIs B 88 7 (bufF U S (r + n) v .nilIface x y)) ∧ w'.rowIs V t k (laidOver f off n (fun j => .int .u8 (Z j))) ∧ Only [B, V] w w' := by
  have c0 : w.cell? ⟨B, 0, none⟩ = some (.slice (some ⟨U, 0, none⟩) 4096 4096) := at_cell hB 0 (by decide) rfl
  have c2 : w.cell? ⟨B, 2, none⟩ = some (.int .i64 r) := at_cell hB 2 (by decide) rfl
  have c3 : w.cell? ⟨B, 3, none⟩ = some (.int .i64 v) := at_cell hB 3 (by decide) rfl
  have hm0 : m ≠ 0 := by intro h; subst h; simp at hm
  have hn1 : n ≤ m := hn ▸ Nat.min_le_right _ _
  have hn2 : n ≤ v - r := hn ▸ Nat.min_le_left _ _
  have hn3 : 0 < n := by rw [hn]; exact Nat.lt_min.2 ⟨by omega, by omega⟩
  have hrv : ((r : Int) == (v : Int)) = false := by simp; omega
  have hne : ¬ (4096 : Nat) = r := by omega
  have a1 : (r : Int) ≤ (v : Int) := by omega
  have a2 : (v : Int) ≤ (4096 : Int) := by omega
  go_enter Ybaf.func39, Ybaf.ntmps39
  go_wp2
  go_quiet (fail)
  go_wp2
  refine region_quiet_tail (C := fun W => ∃ q, W = w.drewN q) 14 (by kernel_rfl) (by kernel_rfl) ⟨_, World.drew_drewN ..⟩ ?_
  simp only [List.take_succ_cons, List.take_zero, List.drop_succ_cons, List.drop_zero]
  repeat (go_big_quiet_step (fail))
  refine wpQuiet_nil ?_
  intro W hW
  have hB2 : W.rowIs B 88 7 (bufF U S r v .nilIface lb lr) := by obtain ⟨_, rfl⟩ := hW; exact hB
  have hU2 : W.rowIs U 5 4096 g := by obtain ⟨_, rfl⟩ := hW; exact hU
  have hV2 : W.rowIs V t k f := by obtain ⟨_, rfl⟩ := hW; exact hV
  have hO2 : Only [B, V] w W := by obtain ⟨_, rfl⟩ := hW; exact (Only.refl _ _).drewN _
  refine wpList_copy_over rfl (.tmp 109) (.tmp 122) 24 24 rfl 5 Ybaf.underlying24 info5s V off m c (some ⟨U, r, none⟩) (v - r) (4096 - r) rfl rfl t k f hV2 n hn (by omega) (fun j => .int .u8 (Z j)) (fun _ => rfl) ?_ ?_
  · intro _
    refine ⟨_, rfl, fun j hj => ?_⟩
    rw [Addr.add_mid, hU2.cell (by omega), hg (r + j) (by omega) (by omega), Nat.add_sub_cancel_left]
  intro w3 R3 O3
  have hB3 := O3.out.row hB2 (by simpa using hBV)
  have hU3 := O3.out.row hU2 (by simpa using hUV)
  have HO := hid (hO2.trans (O3.out.mono (by simp)))
  have hlast : w3.cell? ⟨U, r + n - 1, none⟩ = some (.int .u8 (Z (n - 1))) := by
    rw [hU3.cell (by omega), hg (r + n - 1) (by omega) (by omega)]
    congr 3; omega
  have HV3 := hid R3.out
  clear hB hU hV hg hB2 hU2 hV2 hO2 hn O3 hW c0 c2 c3 R3
  have u2 : w3.cell? ⟨B, 2, none⟩ = some (.int .i64 r) := at_cell hB3 2 (by decide) rfl
  have fz2 := hB3.frozen 2
  have HB3 := hid hB3
  have HU3 := hid hU3
  clear hB3 hU3
  go_wp2
  have hB4 : (w3.setCell ⟨B, 2, none⟩ (.int .i64 (r + n))).rowIs B 88 7 (bufF U S (r + n) v .nilIface lb lr) := buf_r HB3.out (r + n)
  have hU4 : (w3.setCell ⟨B, 2, none⟩ (.int .i64 (r + n))).rowIs U 5 4096 g := HU3.out.setOther (a := ⟨B, 2, none⟩) (fun e => hBU e.symm) _
  have hV4 : (w3.setCell ⟨B, 2, none⟩ (.int .i64 (r + n))).rowIs V t k (laidOver f off n (fun j => .int .u8 (Z j))) := HV3.out.setOther (a := ⟨B, 2, none⟩) (fun e => hBV e.symm) _
  have hO4 : Only [B, V] w (w3.setCell ⟨B, 2, none⟩ (.int .i64 (r + n))) := HO.out.setCell (by simp) _
  have hl4 : (w3.setCell ⟨B, 2, none⟩ (.int .i64 (r + n))).cell? ⟨U, r + n - 1, none⟩ = some (.int .u8 (Z (n - 1))) := by
    rw [hU4.cell (by omega), ← hlast, HU3.out.cell (by omega)]
  generalize hw4 : w3.setCell ⟨B, 2, none⟩ (.int .i64 (r + n)) = w4 at hB4 hU4 hV4 hO4 hl4 ⊢
  clear hw4 HB3 HU3 HV3 HO u2 fz2 hlast
  have v0 : w4.cell? ⟨B, 0, none⟩ = some (.slice (some ⟨U, 0, none⟩) 4096 4096) := at_cell hB4 0 (by decide) rfl
  have v2 : w4.cell? ⟨B, 2, none⟩ = some (.int .i64 (r + n)) := at_cell hB4 2 (by decide) rfl
  have i0 : (0 : Int) ≤ (r + n - 1 : Int) := by omega
  have i1 : (r + n - 1 : Int) < 4096 := by omega
  refine region_quiet_tail (C := fun W => ∃ q, W = w4.drewN q) 15 (by kernel_rfl) (by kernel_rfl) ⟨1, rfl⟩ ?_
  simp only [List.take_succ_cons, List.take_zero, List.drop_succ_cons, List.drop_zero]
  repeat (go_big_quiet_step (fail))
  refine wpQuiet_nil ?_
  intro W hW
  have hB5 : W.rowIs B 88 7 (bufF U S (r + n) v .nilIface lb lr) := by obtain ⟨_, rfl⟩ := hW; exact hB4
  have hV5 := hid (show W.rowIs V t k (laidOver f off n (fun j => .int .u8 (Z j))) by obtain ⟨_, rfl⟩ := hW; exact hV4)
  have hO5 := hid (show Only [B, V] w W by obtain ⟨_, rfl⟩ := hW; exact hO4.drewN _)
  have f5 := hB5.frozen 5
  have f6 := hB5.frozen 6
  have u5 : W.cell? ⟨B, 5, none⟩ = some (.int .i64 lb) := at_cell hB5 5 (by decide) rfl
  have u6 : W.cell? ⟨B, 6, none⟩ = some (.int .i64 lr) := at_cell hB5 6 (by decide) rfl
  have HB5 := hid hB5
  clear hB4 hU4 hV4 hO4 hl4 v0 v2 hW hB5
  go_wp2
  go_ret2
  refine ⟨rfl, ⟨_, _, buf_lr (buf_lb HB5.out _) _⟩, ?_, (hO5.out.setCell (by simp) _).setCell (by simp) _⟩
  exact (hV5.out.setOther (a := ⟨B, 5, none⟩) (fun e => hBV e.symm) _).setOther (a := ⟨B, 6, none⟩) (fun e => hBV e.symm) _

end Go.Proofs.YbulkcmekFmt
