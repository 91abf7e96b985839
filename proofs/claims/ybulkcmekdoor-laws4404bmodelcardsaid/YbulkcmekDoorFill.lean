/-
  zzs4404bfill and zzs4404bbuild: whatever they are handed, they give back a slice over a new block of bytes; nothing older turns.
-/
import Derived.Test.YbulkcmekDoorProg
import Derived.WalkKit
import Derived.WalkSpells
import Derived.WalkLawsBesides
import Derived.Deep.OwnRows
import Derived.Laws.CopyOwn
namespace Go.Proofs.YbulkcmekDoor
open Go.RowKit

theorem info5 : (Ybad.prog.info? 5).map (fun i => (i.zero, i.size, i.bytes)) = some (some (.int .u8 0), 1, 1) := by kernel_rfl

/-- Each is a byte. -/
def Byt (Z : Nat → Int) : Prop := ∀ i, 0 ≤ Z i ∧ Z i ≤ 255

theorem byt0 : Byt (fun _ => 0) := fun _ => ⟨show (0 : Int) ≤ 0 by decide, show (0 : Int) ≤ 255 by decide⟩

set_option maxHeartbeats 400000 in
theorem fill_some (b o len cap : Nat) (Y : Nat → Int) (hY : Byt Y) (n : Nat) (hn : n ≤ 89) (hlen : len ≤ 1024) (hpos : 0 < len) (w : World) (hb : b < w.heap.size)
    (hc : ∀ i, i < len → w.cell? ⟨b, o + i, none⟩ = some (.int .u8 (Y i))) :
    Calls Ybad.prog 13 #[.slice (some ⟨b, o, none⟩) len cap, .int .i64 n] w fun e w' => e = .returned (.slice (some ⟨w.heap.size, 0, none⟩) n n) ∧
      (∃ Z : Nat → Int, Byt Z ∧ w'.rowIs w.heap.size 5 n (fun i => .int .u8 (Z i))) ∧ w'.heap.size = w.heap.size + 1 ∧ Below w.heap.size w w' := by
  have hmk := run_make_row' (P := Ybad.prog) 22 5 (.int .u8 0) 1 Ybad.underlying22 info5 rfl .i64 .i64 n (by omega) (by omega)
  go_enter Ybad.func13, Ybad.ntmps13
  go_wp2
  have hr0 := World.rowIs_made w (.int .u8 0) n 5
  go_loopw [6] (fun i wr => ∃ (k : Nat) (Z : Nat → Int), k ≤ n ∧ i = .int .i64 k ∧ Byt Z ∧ wr.rowIs w.heap.size 5 n (fun i => .int .u8 (Z i)) ∧ wr.heap.size = w.heap.size + 1 ∧ Below w.heap.size w wr) (fun i _ => n - (intOf i).toNat)
  case atStart => exact ⟨0, fun _ => 0, Nat.zero_le _, rfl, byt0, hr0, by simp, (Below.refl _ _).alloc (Nat.le_refl _) _⟩
  case round =>
    obtain ⟨k, Z, hk, rfl, hZ, hrow, hsz, hbel⟩ := hrel
    by_cases hlt : k < n
    · have hcx : wr.cell? ⟨b, o + k % len, none⟩ = some (.int .u8 (Y (k % len))) := (hbel.cell (by exact hb)).trans (hc _ (Nat.mod_lt _ hpos))
      have hcz := hrow.cell hlt
      have hfz := hrow.frozen k
      have hm : 0 ≤ (k : Int) % len ∧ (k : Int) % len < len := ⟨Int.emod_nonneg _ (by omega), Int.emod_lt_of_pos _ (by omega)⟩
      go_wp2
      go_roundw
      case rel => exact ⟨k + 1, fun j => if j = k then Y (k % len) else Z j, by omega, by go_num, fun j => by by_cases h : j = k <;> simp [h, hY (k % len), hZ j], (hrow.set k _).congr (fun j _ => by by_cases h : j = k <;> simp [h]), by simpa using hsz, hbel.setCell (Nat.le_refl _) _⟩
      case measure => simp [intOf]; omega
    · go_wp2
      go_ret
      exact ⟨rfl, ⟨Z, hZ, hrow⟩, hsz, hbel⟩

set_option maxHeartbeats 400000 in
theorem fill_none (ao : Option Addr) (cap : Nat) (n : Nat) (hn : n ≤ 89) (w : World) :
    Calls Ybad.prog 13 #[.slice ao 0 cap, .int .i64 n] w fun e w' => e = .returned (.slice (some ⟨w.heap.size, 0, none⟩) n n) ∧
      (∃ Z : Nat → Int, Byt Z ∧ w'.rowIs w.heap.size 5 n (fun i => .int .u8 (Z i))) ∧ w'.heap.size = w.heap.size + 1 ∧ Below w.heap.size w w' := by
  have hmk := run_make_row' (P := Ybad.prog) 22 5 (.int .u8 0) 1 Ybad.underlying22 info5 rfl .i64 .i64 n (by omega) (by omega)
  go_enter Ybad.func13, Ybad.ntmps13
  go_wp2
  go_ret
  exact ⟨rfl, ⟨fun _ => 0, byt0, World.rowIs_made w (.int .u8 0) n 5⟩, by simp, (Below.refl _ _).alloc (Nat.le_refl _) _⟩

end Go.Proofs.YbulkcmekDoor
