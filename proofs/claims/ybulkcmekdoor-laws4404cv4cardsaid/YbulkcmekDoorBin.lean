import Derived.Test.YbulkcmekDoorProg
import Derived.WalkKit
import Derived.WalkSpells
import Derived.WalkLawsBesides
import Derived.BigQuiet
import Derived.Deep.RegionWith
import Derived.Lib.EndianBits
namespace Go.Proofs.YbulkcmekDoor
open Go.RowKit

theorem or16_low {a b : Int} (ha : 0 ≤ a ∧ a ≤ 255) (hb : 0 ≤ b ∧ b ≤ 255) : bits .or .u16 b (a * 256) = a * 256 + b := by
  have := u16_or8 (y := b) (x := a * 256) (by omega) (by omega) (by omega) (by omega) (by omega)
  omega
theorem or32_low {a b x y : Int} (ha : 0 ≤ a ∧ a ≤ 255) (hb : 0 ≤ b ∧ b ≤ 255) (hx : 0 ≤ x ∧ x ≤ 255) (hy : 0 ≤ y ∧ y ≤ 255) :
    bits .or .u32 (bits .or .u32 (bits .or .u32 y (x * 256)) (b * 65536)) (a * 16777216) = a * 16777216 + b * 65536 + x * 256 + y := by
  rw [u32_or8 (y := y) (x := x * 256) (by omega) (by omega) (by omega) (by omega) (by omega),
    u32_or16 (y := y + x * 256) (x := b * 65536) (by omega) (by omega) (by omega) (by omega) (by omega),
    u32_or24 (y := y + x * 256 + b * 65536) (x := a * 16777216) (by omega) (by omega) (by omega) (by omega) (by omega)]
  omega

theorem or64_ip {a b x y : Int} (ha : 0 ≤ a ∧ a ≤ 255) (hb : 0 ≤ b ∧ b ≤ 255) (hx : 0 ≤ x ∧ x ≤ 255) (hy : 0 ≤ y ∧ y ≤ 255) :
    bits .or .u64 (bits .or .u64 (bits .or .u64 (bits .or .u64 281470681743360 (a * 16777216)) (b * 65536)) (x * 256)) y = 281470681743360 + (a * 16777216 + b * 65536 + x * 256 + y) := by
  rw [bits_join .u64 64 (by decide) wraps_u64 32 281470681743360 (a * 16777216) (by omega) (by omega) (by omega) (by omega) (by omega) (by omega),
    bits_join .u64 64 (by decide) wraps_u64 24 (281470681743360 + a * 16777216) (b * 65536) (by omega) (by omega) (by omega) (by omega) (by omega) (by omega),
    bits_join .u64 64 (by decide) wraps_u64 16 (281470681743360 + a * 16777216 + b * 65536) (x * 256) (by omega) (by omega) (by omega) (by omega) (by omega) (by omega),
    bits_join .u64 64 (by decide) wraps_u64 8 (281470681743360 + a * 16777216 + b * 65536 + x * 256) y (by omega) (by omega) (by omega) (by omega) (by omega) (by omega)]
  omega

theorem ret_int {k : IntKind} {a b : Int} (h : a = b) : Ending.returned (.int k a) = .returned (.int k b) := by rw [h]

set_option maxHeartbeats 400000 in
theorem be16_any (g o n c : Nat) (a b : Int) (ha : 0 ≤ a ∧ a ≤ 255) (hb : 0 ≤ b ∧ b ≤ 255) (w : World) (hn : (1 : Int) < (n : Int))
    (h0 : w.cell? ⟨g, o, none⟩ = some (.int .u8 a)) (h1 : w.cell? ⟨g, o + 1, none⟩ = some (.int .u8 b)) (hg : g < w.heap.size) :
    Calls Ybad.prog 14 #[.agg #[], .slice (some ⟨g, o, none⟩) n c] w fun e w' => e = .returned (.int .u16 (a * 256 + b)) ∧ Below w.heap.size w w' := by
  have hn0 : 0 < n := by omega
  go_enter Ybad.func14, Ybad.ntmps14
  go_wp2
  go_quiet (fail)
  go_wp2
  go_ret
  exact ⟨ret_int (or16_low ha hb), below_drewN ((Below.refl _ _).alloc (Nat.le_refl _) _) _⟩

set_option maxHeartbeats 400000 in
theorem be32_any (g o n c : Nat) (a b x y : Int) (ha : 0 ≤ a ∧ a ≤ 255) (hb : 0 ≤ b ∧ b ≤ 255) (hx : 0 ≤ x ∧ x ≤ 255) (hy : 0 ≤ y ∧ y ≤ 255) (w : World) (hn : (3 : Int) < (n : Int))
    (h0 : w.cell? ⟨g, o, none⟩ = some (.int .u8 a)) (h1 : w.cell? ⟨g, o + 1, none⟩ = some (.int .u8 b)) (h2 : w.cell? ⟨g, o + 2, none⟩ = some (.int .u8 x)) (h3 : w.cell? ⟨g, o + 3, none⟩ = some (.int .u8 y)) (hg : g < w.heap.size) :
    Calls Ybad.prog 24 #[.agg #[], .slice (some ⟨g, o, none⟩) n c] w fun e w' => e = .returned (.int .u32 (a * 16777216 + b * 65536 + x * 256 + y)) ∧ Below w.heap.size w w' := by
  have hn0 : 0 < n := by omega
  have hn1 : (1 : Int) < (n : Int) := by omega
  have hn2 : (2 : Int) < (n : Int) := by omega
  go_enter Ybad.func24, Ybad.ntmps24
  go_wp2
  go_quiet (fail)
  go_wp2
  go_ret
  exact ⟨ret_int (or32_low ha hb hx hy), below_drewN ((Below.refl _ _).alloc (Nat.le_refl _) _) _⟩

set_option maxHeartbeats 400000 in
theorem put64_any (g o n c : Nat) (v : Int) (hv : 0 ≤ v ∧ v < 18446744073709551616) (w : World) (hn : (7 : Int) < (n : Int)) (x0 x1 x2 x3 x4 x5 x6 x7 : Int)
    (h0 : w.cell? ⟨g, o, none⟩ = some (.int .u8 x0)) (h1 : w.cell? ⟨g, o + 1, none⟩ = some (.int .u8 x1)) (h2 : w.cell? ⟨g, o + 2, none⟩ = some (.int .u8 x2)) (h3 : w.cell? ⟨g, o + 3, none⟩ = some (.int .u8 x3))
    (h4 : w.cell? ⟨g, o + 4, none⟩ = some (.int .u8 x4)) (h5 : w.cell? ⟨g, o + 5, none⟩ = some (.int .u8 x5)) (h6 : w.cell? ⟨g, o + 6, none⟩ = some (.int .u8 x6)) (h7 : w.cell? ⟨g, o + 7, none⟩ = some (.int .u8 x7))
    (f : ∀ j, w.frozen? ⟨g, j, none⟩ = false) :
    Calls Ybad.prog 16 #[.slice (some ⟨g, o, none⟩) n c, .int .u64 v] w fun e w' => e = .returned (.tuple #[]) ∧
      w' = (((((((w.setCell ⟨g, o, none⟩ (.int .u8 (v / 72057594037927936))).setCell ⟨g, o + 1, none⟩ (.int .u8 (v / 281474976710656 % 256))).setCell ⟨g, o + 2, none⟩ (.int .u8 (v / 1099511627776 % 256))).setCell ⟨g, o + 3, none⟩ (.int .u8 (v / 4294967296 % 256))).setCell ⟨g, o + 4, none⟩ (.int .u8 (v / 16777216 % 256))).setCell ⟨g, o + 5, none⟩ (.int .u8 (v / 65536 % 256))).setCell ⟨g, o + 6, none⟩ (.int .u8 (v / 256 % 256))).setCell ⟨g, o + 7, none⟩ (.int .u8 (v % 256)) := by
  have hn0 : 0 < n := by omega
  have hn1 : (1 : Int) < (n : Int) := by omega
  have hn2 : (2 : Int) < (n : Int) := by omega
  have hn3 : (3 : Int) < (n : Int) := by omega
  have hn4 : (4 : Int) < (n : Int) := by omega
  have hn5 : (5 : Int) < (n : Int) := by omega
  have hn6 : (6 : Int) < (n : Int) := by omega
  go_enter Ybad.func16, Ybad.ntmps16
  go_wp2
  go_end0
  exact ⟨rfl, rfl⟩

set_option maxHeartbeats 400000 in
theorem from4_any (a b x y : Int) (ha : 0 ≤ a ∧ a ≤ 255) (hb : 0 ≤ b ∧ b ≤ 255) (hx : 0 ≤ x ∧ x ≤ 255) (hy : 0 ≤ y ∧ y ≤ 255) (w : World) (z : Option Addr) (hz : w.cell? ⟨1, 0, none⟩ = some (.pointer z)) (h1 : 1 < w.heap.size) :
    Calls Ybad.prog 10 #[.agg #[.int .u8 a, .int .u8 b, .int .u8 x, .int .u8 y]] w fun e w' => e = .returned (.agg #[.int .u64 0, .int .u64 (281470681743360 + (a * 16777216 + b * 65536 + x * 256 + y)), .pointer z]) ∧ Below w.heap.size w w' := by
  have h2 : 1 < w.heap.size + 1 := by omega
  go_enter Ybad.func10, Ybad.ntmps10
  go_wp2
  have e := or64_ip ha hb hx hy
  exact bodyPost_ret (v := .agg #[.int .u64 0, .int .u64 (281470681743360 + (a * 16777216 + b * 65536 + x * 256 + y)), .pointer z]) (by simp [results, Ybad.results10, go_sem, e]) rfl ⟨rfl, ((Below.refl _ _).alloc (Nat.le_refl _) _).alloc (by simp) _⟩

set_option maxHeartbeats 400000 in
theorem as16_any (hi lo : Int) (hh : 0 ≤ hi ∧ hi < 18446744073709551616) (hl : 0 ≤ lo ∧ lo < 18446744073709551616) (w : World) (z : Option Addr) :
    Calls Ybad.prog 8 #[.agg #[.int .u64 hi, .int .u64 lo, .pointer z]] w fun e w' => e = .returned (.agg #[.int .u8 (hi / 72057594037927936), .int .u8 (hi / 281474976710656 % 256), .int .u8 (hi / 1099511627776 % 256), .int .u8 (hi / 4294967296 % 256), .int .u8 (hi / 16777216 % 256), .int .u8 (hi / 65536 % 256), .int .u8 (hi / 256 % 256), .int .u8 (hi % 256),
      .int .u8 (lo / 72057594037927936), .int .u8 (lo / 281474976710656 % 256), .int .u8 (lo / 1099511627776 % 256), .int .u8 (lo / 4294967296 % 256), .int .u8 (lo / 16777216 % 256), .int .u8 (lo / 65536 % 256), .int .u8 (lo / 256 % 256), .int .u8 (lo % 256)]) ∧ Below w.heap.size w w' := by
  go_enter Ybad.func8, Ybad.ntmps8
  go_wp2
  go_region_with (go_at_call 16; go_enter Ybad.func16, Ybad.ntmps16; go_wp2; go_end0)
  go_wp2
  go_region_with (go_at_call 16; go_enter Ybad.func16, Ybad.ntmps16; go_wp2; go_end0)
  go_wp2
  exact bodyPost_ret (v := .agg #[.int .u8 (hi / 72057594037927936), .int .u8 (hi / 281474976710656 % 256), .int .u8 (hi / 1099511627776 % 256), .int .u8 (hi / 4294967296 % 256), .int .u8 (hi / 16777216 % 256), .int .u8 (hi / 65536 % 256), .int .u8 (hi / 256 % 256), .int .u8 (hi % 256),
      .int .u8 (lo / 72057594037927936), .int .u8 (lo / 281474976710656 % 256), .int .u8 (lo / 1099511627776 % 256), .int .u8 (lo / 4294967296 % 256), .int .u8 (lo / 16777216 % 256), .int .u8 (lo / 65536 % 256), .int .u8 (lo / 256 % 256), .int .u8 (lo % 256)]) (by simp [results, Ybad.results8, go_sem]) rfl ⟨rfl, (((Below.refl _ _).alloc (Nat.le_refl _) _).alloc (by simp) _).drew.drew⟩

end Go.Proofs.YbulkcmekDoor
