import Derived.Test.YbulkcmekDoorUpper
import Derived.Test.YbulkcmekDoorFill
import Derived.Deep.DeepFit
namespace Go.Proofs.YbulkcmekDoor
open Go.RowKit

set_option maxHeartbeats 400000 in
set_option maxRecDepth 100000 in
theorem read_short (p g n : Nat) (Z : Nat → Int) (hZ : Byt Z) (w : World) (hr : w.rowIs g 5 n (fun i => .int .u8 (Z i))) (hn : n ≤ 1024) (h : n < 20 ∨ ¬ Z 0 / 16 = 4) :
    Calls Ybad.prog 7 #[.pointer (some ⟨p, 0, none⟩), .slice (some ⟨g, 0, none⟩) n n] w fun e w' => e = .returned (.bool false) ∧ w' = w := by
  have b0 := hZ 0
  by_cases h20 : n < 20
  · go_enter Ybad.func7, Ybad.ntmps7
    go_wp2
    go_ret
    exact ⟨rfl, rfl⟩
  · have h4 : (Z 0 / 16 != 4) = true := by rw [bne_iff_ne]; omega
    have c0 : w.cell? ⟨g, 0, none⟩ = some (.int .u8 (Z 0)) := hr.cell (i := 0) (by omega)
    clear h
    go_enter Ybad.func7, Ybad.ntmps7
    go_wp2
    go_ret
    exact ⟨rfl, rfl⟩

set_option maxHeartbeats 400000 in
set_option maxRecDepth 100000 in
theorem read_bad (p g n : Nat) (Z : Nat → Int) (hZ : Byt Z) (w : World) (hr : w.rowIs g 5 n (fun i => .int .u8 (Z i))) (hn : n ≤ 1024) (h20 : 20 ≤ n) (h4 : Z 0 / 16 = 4) (hhl : (Z 0 % 16) * 4 < 20 ∨ Z 2 * 256 + Z 3 < (Z 0 % 16) * 4 ∨ (n : Int) < (Z 0 % 16) * 4) :
    Calls Ybad.prog 7 #[.pointer (some ⟨p, 0, none⟩), .slice (some ⟨g, 0, none⟩) n n] w fun e w' => e = .returned (.bool false) ∧ Below w.heap.size w w' := by
  have b0 := hZ 0
  have b2 := hZ 2
  have b3 := hZ 3
  have c0 : w.cell? ⟨g, 0, none⟩ = some (.int .u8 (Z 0)) := hr.cell (i := 0) (by omega)
  have c2 : w.cell? ⟨g, 2, none⟩ = some (.int .u8 (Z 2)) := hr.cell (i := 2) (by omega)
  have c3 : w.cell? ⟨g, 2 + 1, none⟩ = some (.int .u8 (Z 3)) := hr.cell (i := 3) (by omega)
  have K1 := hid (be16_any g 2 2 (n - 2) (Z 2) (Z 3) (hZ 2) (hZ 3) w.drew (by decide) c2 c3 hr.lt)
  have e15 : bits .and .u8 (Z 0) 15 = Z 0 % 16 := u8_and15 _ (by omega) (by omega)
  have h4b : (Z 0 / 16 != 4) = false := by simp [h4]
  have H4 := hid h4
  clear h4
  have n4 : (4 : Int) ≤ (n : Int) := by omega
  have ne2 : ¬ n = 2 := by omega
  go_enter Ybad.func7, Ybad.ntmps7
  go_wp2
  go_region_with (go_at_call 14; go_must (go_fit K1.out); rintro e w1 ⟨rfl, hb1⟩)
  have fin : Below w.heap.size w w1 := ((Below.refl _ w).drew).trans hb1
  clear K1 hr c0 c2 c3
  by_cases A : Z 0 % 16 * 4 < 20
  · go_wp2
    go_ret
    exact ⟨rfl, fin⟩
  · by_cases B : Z 2 * 256 + Z 3 < Z 0 % 16 * 4
    · go_wp2
      go_ret
      exact ⟨rfl, fin⟩
    · have C : (n : Int) < Z 0 % 16 * 4 := by omega
      go_wp2
      go_ret
      exact ⟨rfl, fin⟩

end Go.Proofs.YbulkcmekDoor
