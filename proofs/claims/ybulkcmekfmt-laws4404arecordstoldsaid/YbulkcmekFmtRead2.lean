import Derived.Test.YbulkcmekFmtRead
namespace Go.Proofs.YbulkcmekFmt
open Go Go.RowKit

theorem Ybaf.methodRead (x : Value) (w : World) : (Go.method 238 56 x "Read").run Ybaf.prog w = .ok (60, x) w := by kernel_rfl

/-- An error of errors.New's make, at ea. -/
abbrev errV (ea : Addr) : Value := .iface 91 (.pointer (some ea))

set_option maxHeartbeats 1000000 in
set_option maxRecDepth 100000 in
/-- Read into a large slice, the buffer empty, the source at its end. -/
theorem read_big_eof (B U S m c N cap r pos : Nat) (lb lr : Int) (ad ao : Option Addr) (ea : Addr) (w : World) (hB : w.rowIs B 88 7 (bufF U S r r .nilIface lb lr)) (hS : w.rowIs S 58 2 (srcF ao N cap pos))
    (hE : w.cell? ⟨0, 0, none⟩ = some (errV ea)) (hm : ((m : Int) == 0) = false) (hbig : (4096 : Int) ≤ (m : Int)) (hp : N ≤ pos) :
    Calls Ybaf.prog 39 #[.pointer (some ⟨B, 0, none⟩), .slice ad m c] w fun e w' => e = .returned (.tuple #[.int .i64 0, errV ea]) ∧ w'.rowIs B 88 7 (bufF U S r r .nilIface lb lr) ∧ Only [B] w w' := by
  have c0 : w.cell? ⟨B, 0, none⟩ = some (.slice (some ⟨U, 0, none⟩) 4096 4096) := at_cell hB 0 (by decide) rfl
  have c1 : w.cell? ⟨B, 1, none⟩ = some (.iface 56 (.pointer (some ⟨S, 0, none⟩))) := at_cell hB 1 (by decide) rfl
  have c2 : w.cell? ⟨B, 2, none⟩ = some (.int .i64 r) := at_cell hB 2 (by decide) rfl
  have c3 : w.cell? ⟨B, 3, none⟩ = some (.int .i64 r) := at_cell hB 3 (by decide) rfl
  have c4 : w.cell? ⟨B, 4, none⟩ = some .nilIface := at_cell hB 4 (by decide) rfl
  have f4 := hB.frozen 4
  have hrv : ((r : Int) == (r : Int)) = true := by simp
  have mR := Ybaf.methodRead
  go_enter Ybaf.func39, Ybaf.ntmps39
  go_wp2
  go_quiet (fail)
  go_wp2_with (first
    | (go_at_call 60; refine (src_eof S m c ad ao N cap pos (errV ea) _ ?_ ?_ hm hp).mono ?_; exact hS; exact hE; rintro e w1 ⟨rfl, q, rfl⟩)
    | (go_at_call 42; refine (readErr B U S r r (errV ea) lb lr _ ?_).mono ?_; exact buf_e hB _; rintro e w1 ⟨rfl, h1, h2⟩))
  go_ret2
  exact ⟨rfl, h1, (((Only.refl _ w).drewN _).setCell (by simp) _).trans h2⟩

set_option maxHeartbeats 1000000 in
set_option maxRecDepth 100000 in
/-- Read into a large slice, the buffer empty: straight from the source. -/
theorem read_big (B U S V off m c t k N cap r pos n : Nat) (lb lr : Int) (f : Nat → Value) (ao : Option Addr) (Y : Nat → Int) (w : World) (hB : w.rowIs B 88 7 (bufF U S r r .nilIface lb lr)) (hS : w.rowIs S 58 2 (srcF ao N cap pos))
    (hV : w.rowIs V t k f) (hY : Bytes w ao N Y) (hBS : B ≠ S) (hBV : B ≠ V) (hSV : S ≠ V) (hm : ((m : Int) == 0) = false) (hbig : (4096 : Int) ≤ (m : Int)) (hp : pos < N) (hN : N ≤ 1048576) (hcap : N ≤ cap) (hfit : off + m ≤ k)
    (hn : n = Nat.min (N - pos) m) :
    Calls Ybaf.prog 39 #[.pointer (some ⟨B, 0, none⟩), .slice (some ⟨V, off, none⟩) m c] w fun e w' => e = .returned (.tuple #[.int .i64 n, .nilIface]) ∧ (∃ x y, w'.rowIs B 88 7 (bufF U S r r .nilIface x y)) ∧
      w'.rowIs S 58 2 (srcF ao N cap (pos + n)) ∧ w'.rowIs V t k (laidOver f off n (fun j => .int .u8 (Y (pos + j)))) ∧ Only [B, S, V] w w' := by
  have c0 : w.cell? ⟨B, 0, none⟩ = some (.slice (some ⟨U, 0, none⟩) 4096 4096) := at_cell hB 0 (by decide) rfl
  have c1 : w.cell? ⟨B, 1, none⟩ = some (.iface 56 (.pointer (some ⟨S, 0, none⟩))) := at_cell hB 1 (by decide) rfl
  have c2 : w.cell? ⟨B, 2, none⟩ = some (.int .i64 r) := at_cell hB 2 (by decide) rfl
  have c3 : w.cell? ⟨B, 3, none⟩ = some (.int .i64 r) := at_cell hB 3 (by decide) rfl
  have c4 : w.cell? ⟨B, 4, none⟩ = some .nilIface := at_cell hB 4 (by decide) rfl
  have hm0 : m ≠ 0 := by intro h; subst h; simp at hm
  have hn1 : n ≤ m := hn ▸ Nat.min_le_right _ _
  have hn3 : 0 < n := by rw [hn]; exact Nat.lt_min.2 ⟨by omega, by omega⟩
  have hn4 : n ≤ N - pos := hn ▸ Nat.min_le_left _ _
  have hrv : ((r : Int) == (r : Int)) = true := by simp
  have hnn : ¬ (n : Int) < 0 := by omega
  have hnp : (0 : Int) < (n : Int) := by omega
  have i0 : (0 : Int) ≤ (n - 1 : Int) := by omega
  have i1 : (n - 1 : Int) < (m : Int) := by omega
  have mR := Ybaf.methodRead
  have K1 : ∀ q : Nat, Hid (Calls Ybaf.prog 60 #[.pointer (some ⟨S, 0, none⟩), .slice (some ⟨V, off, none⟩) m c] (w.drewN q) fun e w1 => e = .returned (.tuple #[.int .i64 n, .nilIface]) ∧
      w1.cell? ⟨B, 4, none⟩ = some .nilIface ∧ w1.cell? ⟨B, 5, none⟩ = some (.int .i64 lb) ∧ w1.cell? ⟨B, 6, none⟩ = some (.int .i64 lr) ∧ w1.frozen? ⟨B, 4, none⟩ = false ∧ w1.frozen? ⟨B, 5, none⟩ = false ∧ w1.frozen? ⟨B, 6, none⟩ = false ∧
      w1.cell? ⟨V, off + (n - 1), none⟩ = some (.int .u8 (Y (pos + (n - 1)))) ∧
      Hid (w1.rowIs B 88 7 (bufF U S r r .nilIface lb lr) ∧ w1.rowIs S 58 2 (srcF ao N cap (pos + n)) ∧ w1.rowIs V t k (laidOver f off n (fun j => .int .u8 (Y (pos + j)))) ∧ Only [B, S, V] w w1)) := fun q => by
    refine hid ((src_some S V off m c t k f ao N cap pos Y (w.drewN q) hS hV hSV hY hm hp hN hcap hfit n hn).mono ?_)
    rintro e w1 ⟨rfl, s1, v1, o1⟩
    have hB1 := o1.row (b := B) hB (by simp; exact ⟨hBS, hBV⟩)
    refine ⟨rfl, at_cell hB1 4 (by decide) rfl, at_cell hB1 5 (by decide) rfl, at_cell hB1 6 (by decide) rfl, hB1.frozen 4, hB1.frozen 5, hB1.frozen 6, ?_, hB1, s1, v1, ((Only.refl _ w).drewN q).trans (o1.mono (by simp))⟩
    rw [v1.cell (by omega)]; unfold laidOver; rw [if_pos (by omega), Nat.add_sub_cancel_left]
  clear hS hV hY hB hn
  go_enter Ybaf.func39, Ybaf.ntmps39
  go_wp2
  go_quiet (fail)
  go_wp2_with (first
    | (go_at_call 60; refine (K1 _).out.mono ?_; rintro e w1 ⟨rfl, d4, d5, d6, f4, f5, f6, dv, H⟩)
    | (go_at_call 42; refine (readErr B U S r r .nilIface _ _ _ (buf_lr (buf_lb (buf_e H.out.1 _) _) _)).mono ?_; rintro e w2 ⟨rfl, h1, h2⟩))
  go_ret2
  have o2 := (((H.out.2.2.2.setCell (a := ⟨B, 4, none⟩) (by simp) .nilIface).setCell (a := ⟨B, 5, none⟩) (by simp) _).setCell (a := ⟨B, 6, none⟩) (by simp) _).trans (h2.mono (by simp))
  refine ⟨rfl, ⟨_, _, h1⟩, ?_, ?_, o2⟩
  · exact h2.row (((H.out.2.1.setOther (a := ⟨B, 4, none⟩) (fun e => hBS e.symm) _).setOther (a := ⟨B, 5, none⟩) (fun e => hBS e.symm) _).setOther (a := ⟨B, 6, none⟩) (fun e => hBS e.symm) _) (by simp; exact fun e => hBS e.symm)
  · exact h2.row (((H.out.2.2.1.setOther (a := ⟨B, 4, none⟩) (fun e => hBV e.symm) _).setOther (a := ⟨B, 5, none⟩) (fun e => hBV e.symm) _).setOther (a := ⟨B, 6, none⟩) (fun e => hBV e.symm) _) (by simp; exact fun e => hBV e.symm)

end Go.Proofs.YbulkcmekFmt
