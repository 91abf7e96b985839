import Derived.Test.YbulkcmekFmtProg
import Derived.Test.YbulkcmekFmtBase
import Derived.BigQuiet
import Derived.Lib.EndianBits
namespace Go.Proofs.YbulkcmekFmt
open Go Go.RowKit

/-- Four bytes, the greatest first. -/
def be4 (a b x y : Int) : Int := a * 16777216 + b * 65536 + x * 256 + y

theorem or32_low {a b x y : Int} (ha : 0 ≤ a ∧ a ≤ 255) (hb : 0 ≤ b ∧ b ≤ 255) (hx : 0 ≤ x ∧ x ≤ 255) (hy : 0 ≤ y ∧ y ≤ 255) :
    bits .or .u32 (bits .or .u32 (bits .or .u32 y (x * 256)) (b * 65536)) (a * 16777216) = be4 a b x y := by
  unfold be4
  rw [u32_or8 (y := y) (x := x * 256) (by omega) (by omega) (by omega) (by omega) (by omega),
    u32_or16 (y := y + x * 256) (x := b * 65536) (by omega) (by omega) (by omega) (by omega) (by omega),
    u32_or24 (y := y + x * 256 + b * 65536) (x := a * 16777216) (by omega) (by omega) (by omega) (by omega) (by omega)]
  omega
theorem or32_high (a b x y : Int) (ha : 0 ≤ a ∧ a ≤ 255) (hb : 0 ≤ b ∧ b ≤ 255) (hx : 0 ≤ x ∧ x ≤ 255) (hy : 0 ≤ y ∧ y ≤ 255) :
    bits .or .u32 (bits .or .u32 (bits .or .u32 (a * 16777216) (b * 65536)) (x * 256)) y = be4 a b x y := by
  unfold be4
  rw [bits_join .u32 32 (by decide) wraps_u32 24 (a * 16777216) (b * 65536) (by omega) (by omega) (by omega) (by omega) (by omega) (by omega),
    bits_join .u32 32 (by decide) wraps_u32 16 (a * 16777216 + b * 65536) (x * 256) (by omega) (by omega) (by omega) (by omega) (by omega) (by omega),
    bits_join .u32 32 (by decide) wraps_u32 8 (a * 16777216 + b * 65536 + x * 256) y (by omega) (by omega) (by omega) (by omega) (by omega) (by omega)]

set_option maxHeartbeats 400000 in
theorem beU32 (g o n c : Nat) (a b x y : Int) (ha : 0 ≤ a ∧ a ≤ 255) (hb : 0 ≤ b ∧ b ≤ 255) (hx : 0 ≤ x ∧ x ≤ 255) (hy : 0 ≤ y ∧ y ≤ 255) (w : World) (hn : (3 : Int) < (n : Int))
    (h0 : w.cell? ⟨g, o, none⟩ = some (.int .u8 a)) (h1 : w.cell? ⟨g, o + 1, none⟩ = some (.int .u8 b)) (h2 : w.cell? ⟨g, o + 2, none⟩ = some (.int .u8 x)) (h3 : w.cell? ⟨g, o + 3, none⟩ = some (.int .u8 y)) (hg : g < w.heap.size) :
    Calls Ybaf.prog 58 #[.agg #[], .slice (some ⟨g, o, none⟩) n c] w fun e w' => e = .returned (.int .u32 (be4 a b x y)) ∧ Below w.heap.size w w' := by
  have hn0 : 0 < n := by omega
  have hn1 : (1 : Int) < (n : Int) := by omega
  have hn2 : (2 : Int) < (n : Int) := by omega
  go_enter Ybaf.func58, Ybaf.ntmps58
  go_wp2
  go_quiet (fail)
  go_wp2
  go_ret
  exact ⟨ret_int (or32_low ha hb hx hy), below_drewN ((Below.refl _ _).alloc (Nat.le_refl _) _) _⟩

set_option maxHeartbeats 400000 in
theorem leU32 (g o n c : Nat) (a b x y : Int) (ha : 0 ≤ a ∧ a ≤ 255) (hb : 0 ≤ b ∧ b ≤ 255) (hx : 0 ≤ x ∧ x ≤ 255) (hy : 0 ≤ y ∧ y ≤ 255) (w : World) (hn : (3 : Int) < (n : Int))
    (h0 : w.cell? ⟨g, o, none⟩ = some (.int .u8 a)) (h1 : w.cell? ⟨g, o + 1, none⟩ = some (.int .u8 b)) (h2 : w.cell? ⟨g, o + 2, none⟩ = some (.int .u8 x)) (h3 : w.cell? ⟨g, o + 3, none⟩ = some (.int .u8 y)) (hg : g < w.heap.size) :
    Calls Ybaf.prog 50 #[.agg #[], .slice (some ⟨g, o, none⟩) n c] w fun e w' => e = .returned (.int .u32 (be4 y x b a)) ∧ Below w.heap.size w w' := by
  have hn0 : 0 < n := by omega
  have hn1 : (1 : Int) < (n : Int) := by omega
  have hn2 : (2 : Int) < (n : Int) := by omega
  go_enter Ybaf.func50, Ybaf.ntmps50
  go_wp2
  go_quiet (fail)
  go_wp2
  go_ret
  exact ⟨ret_int (or32_low hy hx hb ha), below_drewN ((Below.refl _ _).alloc (Nat.le_refl _) _) _⟩

end Go.Proofs.YbulkcmekFmt
