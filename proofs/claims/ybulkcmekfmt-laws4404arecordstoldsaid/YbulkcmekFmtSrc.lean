import Derived.Test.YbulkcmekFmtProg
import Derived.Test.YbulkcmekFmtCopy
import Derived.BigQuiet
namespace Go.Proofs.YbulkcmekFmt
open Go Go.RowKit

theorem info5s : (Ybaf.prog.info? 5).map (·.size) = some 1 := by kernel_rfl

/-- The source's own cells. -/
def srcF (ao : Option Addr) (N cap : Nat) (pos : Nat) (i : Nat) : Value := if i = 0 then .slice ao N cap else .int .i64 pos

/-- The bytes behind the source's slice. -/
def Bytes (w : World) (ao : Option Addr) (N : Nat) (Y : Nat → Int) : Prop := 0 < N → ∃ b o, ao = some ⟨b, o, none⟩ ∧ b < w.heap.size ∧ ∀ i, i < N → w.cell? ⟨b, o + i, none⟩ = some (.int .u8 (Y i))

set_option maxHeartbeats 400000 in
theorem src_eof (S m c : Nat) (ad ao : Option Addr) (N cap pos : Nat) (eof : Value) (w : World) (hS : w.rowIs S 58 2 (srcF ao N cap pos)) (hE : w.cell? ⟨0, 0, none⟩ = some eof) (hm : ((m : Int) == 0) = false) (hp : N ≤ pos) :
    Calls Ybaf.prog 60 #[.pointer (some ⟨S, 0, none⟩), .slice ad m c] w fun e w' => e = .returned (.tuple #[.int .i64 0, eof]) ∧ ∃ q, w' = w.drewN q := by
  have s0 : w.cell? ⟨S, 0, none⟩ = some (.slice ao N cap) := at_cell hS 0 (by decide) rfl
  have s1 : w.cell? ⟨S, 1, none⟩ = some (.int .i64 pos) := at_cell hS 1 (by decide) rfl
  have hp' : (N : Int) ≤ (pos : Int) := by omega
  go_enter Ybaf.func60, Ybaf.ntmps60
  go_wp2
  go_quiet (fail)
  go_wp2
  go_quiet (fail)
  go_wp2
  go_ret2
  exact ⟨rfl, _, World.drewN_drewN ..⟩

set_option maxHeartbeats 400000 in
theorem src_some (S V off m c : Nat) (t k : Nat) (f : Nat → Value) (ao : Option Addr) (N cap pos : Nat) (Y : Nat → Int) (w : World) (hS : w.rowIs S 58 2 (srcF ao N cap pos)) (hV : w.rowIs V t k f) (hSV : S ≠ V) (hY : Bytes w ao N Y)
    (hm : ((m : Int) == 0) = false) (hp : pos < N) (hN : N ≤ 1048576) (hcap : N ≤ cap) (hfit : off + m ≤ k) (n : Nat) (hn : n = Nat.min (N - pos) m) :
    Calls Ybaf.prog 60 #[.pointer (some ⟨S, 0, none⟩), .slice (some ⟨V, off, none⟩) m c] w fun e w' => e = .returned (.tuple #[.int .i64 n, .nilIface]) ∧
      w'.rowIs S 58 2 (srcF ao N cap (pos + n)) ∧ w'.rowIs V t k (laidOver f off n (fun j => .int .u8 (Y (pos + j)))) ∧ Only [S, V] w w' := by
  have s0 : w.cell? ⟨S, 0, none⟩ = some (.slice ao N cap) := at_cell hS 0 (by decide) rfl
  have s1 : w.cell? ⟨S, 1, none⟩ = some (.int .i64 pos) := at_cell hS 1 (by decide) rfl
  have hp' : (pos : Int) < (N : Int) := by omega
  obtain ⟨b, o, rfl, hb, hcell⟩ := hY (by omega)
  have hn1 : n ≤ m := hn ▸ Nat.min_le_right _ _
  have hn2 : n ≤ N - pos := hn ▸ Nat.min_le_left _ _
  have hne : ¬ cap = pos := by omega
  have hpc : (pos : Int) ≤ (cap : Int) := by omega
  have hpN : (pos : Int) ≤ (N : Int) := by omega
  go_enter Ybaf.func60, Ybaf.ntmps60
  go_wp2
  go_quiet (fail)
  go_wp2
  refine region_quiet_tail (C := fun W => ∃ q, W = w.drewN q) 10 (by kernel_rfl) (by kernel_rfl) ⟨_, World.drew_drewN ..⟩ ?_
  simp only [List.take_succ_cons, List.take_zero, List.drop_succ_cons, List.drop_zero]
  repeat (go_big_quiet_step (fail))
  refine wpQuiet_nil ?_
  intro W hW
  have hS2 : W.rowIs S 58 2 (srcF (some ⟨b, o, none⟩) N cap pos) := by obtain ⟨_, rfl⟩ := hW; exact hS
  have hV2 : W.rowIs V t k f := by obtain ⟨_, rfl⟩ := hW; exact hV
  have hc2 : ∀ i, i < N → W.cell? ⟨b, o + i, none⟩ = some (.int .u8 (Y i)) := by obtain ⟨_, rfl⟩ := hW; exact hcell
  have hO2 : Only [S, V] w W := by obtain ⟨_, rfl⟩ := hW; exact (Only.refl _ _).drewN _
  refine wpList_copy_over rfl (.tmp 21) (.tmp 30) 24 24 rfl 5 Ybaf.underlying24 info5s V off m c (some ⟨b, o + pos, none⟩) (N - pos) (cap - pos) rfl rfl t k f hV2 n hn (by omega) (fun j => .int .u8 (Y (pos + j))) (fun _ => rfl) ?_ ?_
  · intro _
    refine ⟨_, rfl, fun j hj => ?_⟩
    have h1 := hc2 (pos + j) (by omega)
    rw [Addr.add_mid, Nat.add_assoc]
    exact h1
  intro w3 R3 O3
  have hS3 := O3.out.row hS2 (by simpa using hSV)
  have u1 : w3.cell? ⟨S, 1, none⟩ = some (.int .i64 pos) := at_cell hS3 1 (by decide) rfl
  have fz := hS3.frozen 1
  have HS3 := hid hS3
  have HO := hid (hO2.trans (O3.out.mono (by simp)))
  clear hS hV hY hcell hS2 hV2 hc2 hO2 hS3 hn O3 hW s0 s1
  go_wp2
  go_ret2
  refine ⟨rfl, ?_, ?_, HO.out.setCell (by simp) _⟩
  · refine (HS3.out.set 1 (.int .i64 (pos + n))).congr fun i hi => ?_
    unfold srcF
    have : i = 0 ∨ i = 1 := by omega
    rcases this with rfl | rfl
    · rfl
    · simp
  · exact R3.out.setOther (a := ⟨S, 1, none⟩) (fun e => hSV e.symm) _

end Go.Proofs.YbulkcmekFmt
