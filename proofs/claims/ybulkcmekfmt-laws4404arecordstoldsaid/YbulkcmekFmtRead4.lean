import Derived.Test.YbulkcmekFmtRead3
namespace Go.Proofs.YbulkcmekFmt
open Go Go.RowKit

set_option maxHeartbeats 2000000 in
set_option maxRecDepth 100000 in
/-- Read into a small slice, the buffer empty: the buffer is filled, then read from. -/
theorem read_small (B U S V off m c t k N cap r pos n1 n : Nat) (lb lr : Int) (g f : Nat → Value) (ao : Option Addr) (Y : Nat → Int) (w : World) (hB : w.rowIs B 88 7 (bufF U S r r .nilIface lb lr)) (hS : w.rowIs S 58 2 (srcF ao N cap pos))
    (hU : w.rowIs U 5 4096 g) (hV : w.rowIs V t k f) (hY : Bytes w ao N Y) (hA : ∀ b x, ao = some ⟨b, x, none⟩ → b ∉ [B]) (hBS : B ≠ S) (hBU : B ≠ U) (hBV : B ≠ V) (hSU : S ≠ U) (hSV : S ≠ V) (hUV : U ≠ V) (hm : ((m : Int) == 0) = false)
    (hsm : ¬ (4096 : Int) ≤ (m : Int)) (hp : pos < N) (hN : N ≤ 1048576) (hcap : N ≤ cap) (hfit : off + m ≤ k) (hn1 : n1 = Nat.min (N - pos) 4096) (hn : n = Nat.min n1 m) :
    Calls Ybaf.prog 39 #[.pointer (some ⟨B, 0, none⟩), .slice (some ⟨V, off, none⟩) m c] w fun e w' => e = .returned (.tuple #[.int .i64 n, .nilIface]) ∧ (∃ x y, w'.rowIs B 88 7 (bufF U S n n1 .nilIface x y)) ∧
      w'.rowIs S 58 2 (srcF ao N cap (pos + n1)) ∧ w'.rowIs U 5 4096 (laidOver g 0 n1 (fun j => .int .u8 (Y (pos + j)))) ∧ w'.rowIs V t k (laidOver f off n (fun j => .int .u8 (Y (pos + j)))) ∧ Only [B, S, U, V] w w' := by
  have c0 : w.cell? ⟨B, 0, none⟩ = some (.slice (some ⟨U, 0, none⟩) 4096 4096) := at_cell hB 0 (by decide) rfl
  have c2 : w.cell? ⟨B, 2, none⟩ = some (.int .i64 r) := at_cell hB 2 (by decide) rfl
  have c3 : w.cell? ⟨B, 3, none⟩ = some (.int .i64 r) := at_cell hB 3 (by decide) rfl
  have c4 : w.cell? ⟨B, 4, none⟩ = some .nilIface := at_cell hB 4 (by decide) rfl
  have f2 := hB.frozen 2
  have f3 := hB.frozen 3
  have hm0 : m ≠ 0 := by intro h; subst h; simp at hm
  have l1 : n1 ≤ 4096 := hn1 ▸ Nat.min_le_right _ _
  have l2 : 0 < n1 := by rw [hn1]; exact Nat.lt_min.2 ⟨by omega, by omega⟩
  have l3 : n ≤ m := hn ▸ Nat.min_le_right _ _
  have l4 : n ≤ n1 := hn ▸ Nat.min_le_left _ _
  have l5 : 0 < n := by rw [hn]; exact Nat.lt_min.2 ⟨by omega, by omega⟩
  have e1 : ¬ (n1 : Int) < 0 := by omega
  have e2 : ((n1 : Int) == 0) = false := by simp; omega
  have hrv : ((r : Int) == (r : Int)) = true := by simp
  have mR := Ybaf.methodRead
  go_enter Ybaf.func39, Ybaf.ntmps39
  go_wp2
  go_quiet (fail)
  go_wp2
  have hB1 := buf_v (buf_r (w := w.drewN nq) hB 0) 0
  have hO1 := ((((Only.refl [B] w).drewN nq).setCell (a := ⟨B, 2, none⟩) (by simp) (.int .i64 0)).setCell (a := ⟨B, 3, none⟩) (by simp) (.int .i64 0))
  have hS1 := hO1.row hS (by simpa using fun e => hBS e.symm)
  have hU1 := hO1.row hU (by simpa using fun e => hBU e.symm)
  have hV1 := hO1.row hV (by simpa using fun e => hBV e.symm)
  have hY1 := hY.only hO1 fun _ => hA
  generalize ((w.drewN nq).setCell ⟨B, 2, none⟩ (.int .i64 0)).setCell ⟨B, 3, none⟩ (.int .i64 0) = w2 at hB1 hS1 hO1 hU1 hV1 hY1 ⊢
  clear hB hS hU hV hY c0 c2 c3 c4 f2 f3
  have d0 : w2.cell? ⟨B, 0, none⟩ = some (.slice (some ⟨U, 0, none⟩) 4096 4096) := at_cell hB1 0 (by decide) rfl
  have d1 : w2.cell? ⟨B, 1, none⟩ = some (.iface 56 (.pointer (some ⟨S, 0, none⟩))) := at_cell hB1 1 (by decide) rfl
  have K1 : Hid (Calls Ybaf.prog 60 #[.pointer (some ⟨S, 0, none⟩), .slice (some ⟨U, 0, none⟩) 4096 4096] w2.drew fun e w1 => e = .returned (.tuple #[.int .i64 n1, .nilIface]) ∧
      w1.cell? ⟨B, 3, none⟩ = some (.int .i64 0) ∧ w1.cell? ⟨B, 4, none⟩ = some .nilIface ∧ w1.frozen? ⟨B, 3, none⟩ = false ∧ w1.frozen? ⟨B, 4, none⟩ = false ∧
      Hid (w1.rowIs B 88 7 (bufF U S 0 0 .nilIface lb lr) ∧ w1.rowIs S 58 2 (srcF ao N cap (pos + n1)) ∧ w1.rowIs U 5 4096 (laidOver g 0 n1 (fun j => .int .u8 (Y (pos + j)))) ∧ w1.rowIs V t k f ∧ Only [B, S, U, V] w w1)) := by
    refine hid ((src_some S U 0 4096 4096 5 4096 g ao N cap pos Y w2.drew hS1 hU1 hSU hY1 (by decide) hp hN hcap (by omega) n1 hn1).mono ?_)
    rintro e w1 ⟨rfl, s1, v1, o1⟩
    have hB2 := o1.row (b := B) hB1 (by simp; exact ⟨hBS, hBU⟩)
    have hV2 := o1.row (b := V) hV1 (by simp; exact ⟨fun e => hSV e.symm, fun e => hUV e.symm⟩)
    exact ⟨rfl, at_cell hB2 3 (by decide) rfl, at_cell hB2 4 (by decide) rfl, hB2.frozen 3, hB2.frozen 4, hB2, s1, v1, hV2, (hO1.mono (by simp)).drew.trans (o1.mono (by simp))⟩
  have Hn := hid hn
  clear hB1 hS1 hU1 hV1 hY1 hn hn1
  go_region_with (first
    | (go_at_call 60; refine K1.out.mono ?_; rintro e w1 ⟨rfl, q3, q4, f3, f4, H⟩))
  all_goals go_wp2
  all_goals (
    have hB5 := buf_v (buf_e H.out.1 .nilIface) n1
    have hO5 := ((H.out.2.2.2.2.setCell (a := ⟨B, 4, none⟩) (by simp) .nilIface).setCell (a := ⟨B, 3, none⟩) (by simp) (.int .i64 n1))
    have hS5 := ((H.out.2.1.setOther (a := ⟨B, 4, none⟩) (fun e => hBS e.symm) .nilIface).setOther (a := ⟨B, 3, none⟩) (fun e => hBS e.symm) (.int .i64 n1))
    have hU5 := ((H.out.2.2.1.setOther (a := ⟨B, 4, none⟩) (fun e => hBU e.symm) .nilIface).setOther (a := ⟨B, 3, none⟩) (fun e => hBU e.symm) (.int .i64 n1))
    have hV5 := ((H.out.2.2.2.1.setOther (a := ⟨B, 4, none⟩) (fun e => hBV e.symm) .nilIface).setOther (a := ⟨B, 3, none⟩) (fun e => hBV e.symm) (.int .i64 n1))
    clear H q3 q4 f3 f4
    generalize (w1.setCell ⟨B, 4, none⟩ .nilIface).setCell ⟨B, 3, none⟩ (.int .i64 n1) = w5 at hB5 hO5 hS5 hU5 hV5 ⊢
    have c0 : w5.cell? ⟨B, 0, none⟩ = some (.slice (some ⟨U, 0, none⟩) 4096 4096) := at_cell hB5 0 (by decide) rfl
    have c2 : w5.cell? ⟨B, 2, none⟩ = some (.int .i64 0) := at_cell hB5 2 (by decide) rfl
    have c3 : w5.cell? ⟨B, 3, none⟩ = some (.int .i64 n1) := at_cell hB5 3 (by decide) rfl
    have a1 : (0 : Int) ≤ (n1 : Int) := by omega
    have a2 : (n1 : Int) ≤ (4096 : Int) := by omega
    refine region_quiet_tail (C := fun W => ∃ q, W = w5.drewN q) 14 (by kernel_rfl) (by kernel_rfl) ⟨1, rfl⟩ ?_
    simp only [List.take_succ_cons, List.take_zero, List.drop_succ_cons, List.drop_zero]
    repeat (go_big_quiet_step (fail))
    refine wpQuiet_nil ?_
    rintro W ⟨q, rfl⟩
    refine wpList_copy_over rfl (.tmp 109) (.tmp 122) 24 24 rfl 5 Ybaf.underlying24 info5s V off m c (some ⟨U, 0, none⟩) n1 4096 rfl rfl t k f hV5 n Hn.out (by omega) (fun j => .int .u8 (Y (pos + j))) (fun _ => rfl) ?_ ?_
    · intro _
      refine ⟨_, rfl, fun j hj => ?_⟩
      rw [Addr.add_mid, World.rowIs.cell (w := w5.drewN q) hU5 (by omega)]
      unfold laidOver
      rw [if_pos (by omega), Nat.zero_add, Nat.sub_zero]
    intro w3 R3 O3
    have hO6 := hid ((hO5.drewN q).trans (O3.out.mono (by simp)))
    have hB6 := O3.out.row (b := B) hB5 (by simpa using hBV)
    have hU6 := O3.out.row (b := U) hU5 (by simpa using hUV)
    have hS6 := hid (O3.out.row (b := S) hS5 (by simpa using hSV))
    clear hB5 hO5 hS5 hU5 hV5 c0 c2 c3 O3
    have u2 : w3.cell? ⟨B, 2, none⟩ = some (.int .i64 0) := at_cell hB6 2 (by decide) rfl
    have fz2 := hB6.frozen 2
    have HB6 := hid hB6
    have HU6 := hid hU6
    clear hB6 hU6
    go_wp2
    have hB4 : (w3.setCell ⟨B, 2, none⟩ (.int .i64 n)).rowIs B 88 7 (bufF U S n n1 .nilIface lb lr) := buf_r HB6.out n
    have hU4 := HU6.out.setOther (a := ⟨B, 2, none⟩) (fun e => hBU e.symm) (.int .i64 n)
    have hV4 := R3.out.setOther (a := ⟨B, 2, none⟩) (fun e => hBV e.symm) (.int .i64 n)
    have hS4 := hS6.out.setOther (a := ⟨B, 2, none⟩) (fun e => hBS e.symm) (.int .i64 n)
    have hO4 := hO6.out.setCell (a := ⟨B, 2, none⟩) (by simp) (.int .i64 n)
    have hl4 : (w3.setCell ⟨B, 2, none⟩ (.int .i64 n)).cell? ⟨U, n - 1, none⟩ = some (.int .u8 (Y (pos + (n - 1)))) := by
      rw [hU4.cell (by omega)]
      unfold laidOver
      rw [if_pos (by omega), Nat.sub_zero]
    generalize w3.setCell ⟨B, 2, none⟩ (.int .i64 n) = w4 at hB4 hU4 hV4 hS4 hO4 hl4 ⊢
    clear HB6 HU6 R3 hS6 hO6 u2 fz2
    have v0 : w4.cell? ⟨B, 0, none⟩ = some (.slice (some ⟨U, 0, none⟩) 4096 4096) := at_cell hB4 0 (by decide) rfl
    have v2 : w4.cell? ⟨B, 2, none⟩ = some (.int .i64 n) := at_cell hB4 2 (by decide) rfl
    have i0 : (0 : Int) ≤ (n - 1 : Int) := by omega
    have i1 : (n - 1 : Int) < 4096 := by omega
    refine region_quiet_tail (C := fun W => ∃ q, W = w4.drewN q) 15 (by kernel_rfl) (by kernel_rfl) ⟨1, rfl⟩ ?_
    simp only [List.take_succ_cons, List.take_zero, List.drop_succ_cons, List.drop_zero]
    repeat (go_big_quiet_step (fail))
    refine wpQuiet_nil ?_
    rintro W ⟨q, rfl⟩
    have f5 := hB4.frozen 5
    have f6 := hB4.frozen 6
    have u5 : w4.cell? ⟨B, 5, none⟩ = some (.int .i64 lb) := at_cell hB4 5 (by decide) rfl
    have u6 : w4.cell? ⟨B, 6, none⟩ = some (.int .i64 lr) := at_cell hB4 6 (by decide) rfl
    have HB5 := hid hB4
    have HR := hid (And.intro hS4 (And.intro hU4 (And.intro hV4 hO4)))
    clear hB4 hU4 hV4 hO4 hS4 hl4 v0 v2
    go_wp2
    go_ret2
    refine ⟨rfl, ⟨_, _, buf_lr (buf_lb (w := w4.drewN q) HB5.out _) _⟩, ?_, ?_, ?_, ((HR.out.2.2.2.drewN q).setCell (by simp) _).setCell (by simp) _⟩
    · exact (World.rowIs.setOther (w := w4.drewN q) (a := ⟨B, 5, none⟩) HR.out.1 (fun e => hBS e.symm) _).setOther (a := ⟨B, 6, none⟩) (fun e => hBS e.symm) _
    · exact (World.rowIs.setOther (w := w4.drewN q) (a := ⟨B, 5, none⟩) HR.out.2.1 (fun e => hBU e.symm) _).setOther (a := ⟨B, 6, none⟩) (fun e => hBU e.symm) _
    · exact (World.rowIs.setOther (w := w4.drewN q) (a := ⟨B, 5, none⟩) HR.out.2.2.1 (fun e => hBV e.symm) _).setOther (a := ⟨B, 6, none⟩) (fun e => hBV e.symm) _)

end Go.Proofs.YbulkcmekFmt
