import Derived.Test.YbulkcmekFmtRead2
namespace Go.Proofs.YbulkcmekFmt
open Go Go.RowKit

theorem Bytes.only {L : List Nat} {w w' : World} {ao : Option Addr} {N : Nat} {Y : Nat → Int} (h : Bytes w ao N Y) (o : Only L w w') (ha : 0 < N → ∀ b x, ao = some ⟨b, x, none⟩ → b ∉ L) : Bytes w' ao N Y := fun hN => by
  obtain ⟨b, x, hao, hb, hc⟩ := h hN
  exact ⟨b, x, hao, Nat.lt_of_lt_of_le hb o.size, fun i hi => (o.cell (p := ⟨b, x + i, none⟩) hb (ha hN b x hao)).trans (hc i hi)⟩

set_option maxHeartbeats 1000000 in
set_option maxRecDepth 100000 in
/-- Read into a small slice, the buffer empty, the source at its end. -/
theorem read_small_eof (B U S m c N cap r pos : Nat) (lb lr : Int) (ad ao : Option Addr) (ea : Addr) (w : World) (hB : w.rowIs B 88 7 (bufF U S r r .nilIface lb lr)) (hS : w.rowIs S 58 2 (srcF ao N cap pos))
    (hE : w.cell? ⟨0, 0, none⟩ = some (errV ea)) (hB0 : B ≠ 0) (hBS : B ≠ S) (hm : ((m : Int) == 0) = false) (hsm : ¬ (4096 : Int) ≤ (m : Int)) (hp : N ≤ pos) :
    Calls Ybaf.prog 39 #[.pointer (some ⟨B, 0, none⟩), .slice ad m c] w fun e w' => e = .returned (.tuple #[.int .i64 0, errV ea]) ∧ w'.rowIs B 88 7 (bufF U S 0 0 .nilIface lb lr) ∧ Only [B] w w' := by
  have c0 : w.cell? ⟨B, 0, none⟩ = some (.slice (some ⟨U, 0, none⟩) 4096 4096) := at_cell hB 0 (by decide) rfl
  have c2 : w.cell? ⟨B, 2, none⟩ = some (.int .i64 r) := at_cell hB 2 (by decide) rfl
  have c3 : w.cell? ⟨B, 3, none⟩ = some (.int .i64 r) := at_cell hB 3 (by decide) rfl
  have c4 : w.cell? ⟨B, 4, none⟩ = some .nilIface := at_cell hB 4 (by decide) rfl
  have f2 := hB.frozen 2
  have f3 := hB.frozen 3
  have hrv : ((r : Int) == (r : Int)) = true := by simp
  have mR := Ybaf.methodRead
  go_enter Ybaf.func39, Ybaf.ntmps39
  go_wp2
  go_quiet (fail)
  go_wp2
  have hB1 := buf_v (buf_r (w := w.drewN nq) hB 0) 0
  have hS1 := ((World.rowIs.setOther (w := w.drewN nq) (a := ⟨B, 2, none⟩) hS (fun e => hBS e.symm) (.int .i64 0)).setOther (a := ⟨B, 3, none⟩) (fun e => hBS e.symm) (.int .i64 0))
  have hO1 := ((((Only.refl [B] w).drewN nq).setCell (a := ⟨B, 2, none⟩) (by simp) (.int .i64 0)).setCell (a := ⟨B, 3, none⟩) (by simp) (.int .i64 0))
  have hE1 := (hO1.cell (p := ⟨0, 0, none⟩) (Nat.lt_of_le_of_lt (Nat.zero_le _) hB.lt) (by simp; exact fun e => hB0 e.symm)).trans hE
  generalize ((w.drewN nq).setCell ⟨B, 2, none⟩ (.int .i64 0)).setCell ⟨B, 3, none⟩ (.int .i64 0) = w2 at hB1 hS1 hO1 hE1 ⊢
  clear hB hS hE c0 c2 c3 c4 f2 f3
  have d0 : w2.cell? ⟨B, 0, none⟩ = some (.slice (some ⟨U, 0, none⟩) 4096 4096) := at_cell hB1 0 (by decide) rfl
  have d1 : w2.cell? ⟨B, 1, none⟩ = some (.iface 56 (.pointer (some ⟨S, 0, none⟩))) := at_cell hB1 1 (by decide) rfl
  have d4 : w2.cell? ⟨B, 4, none⟩ = some .nilIface := at_cell hB1 4 (by decide) rfl
  have f4 := hB1.frozen 4
  go_region_with (first
    | (go_at_call 60; refine (src_eof S 4096 4096 (some ⟨U, 0, none⟩) ao N cap pos (errV ea) _ ?_ ?_ (by decide) hp).mono ?_; exact hS1; exact hE1; rintro e w1 ⟨rfl, q, rfl⟩))
  all_goals go_wp2_with (first
    | (go_at_call 42; refine (readErr B U S 0 0 (errV ea) lb lr _ ?_).mono ?_; exact buf_e hB1 _; rintro e w1 ⟨rfl, h1, h2⟩))
  all_goals go_ret2
  all_goals exact ⟨rfl, h1, ((hO1.drewN _).setCell (by simp) _).trans h2⟩

end Go.Proofs.YbulkcmekFmt
