import Derived.Test.YbulkcmekDoorGood
namespace Go.Proofs.YbulkcmekDoor
open Go.RowKit

theorem or_i64 (a b : Int) (ha : 0 ≤ a ∧ a ≤ 255) (hb : 0 ≤ b ∧ b ≤ 255) : bits .or .i64 (a * 256) b = a * 256 + b :=
  bits_join .i64 63 (by decide) (fun n h1 h2 => by rw [IntKind.wrap_i64]; omega) 8 (a * 256) b (by omega) (by omega) (by omega) (by omega) (by omega) (by omega)
theorem or_u32 (a b : Int) (ha : 0 ≤ a ∧ a ≤ 255) (hb : 0 ≤ b ∧ b ≤ 255) : bits .or .u32 (a * 256) b = a * 256 + b :=
  bits_join .u32 32 (by decide) wraps_u32 8 (a * 256) b (by omega) (by omega) (by omega) (by omega) (by omega) (by omega)
theorem or_u16 (a b : Int) (ha : 0 ≤ a ∧ a ≤ 255) (hb : 0 ≤ b ∧ b ≤ 255) : bits .or .u16 (a * 256) b = a * 256 + b :=
  bits_join .u16 16 (by decide) wraps_u16 8 (a * 256) b (by omega) (by omega) (by omega) (by omega) (by omega) (by omega)
theorem or4_u32 (a b x y : Int) (ha : 0 ≤ a ∧ a ≤ 255) (hb : 0 ≤ b ∧ b ≤ 255) (hx : 0 ≤ x ∧ x ≤ 255) (hy : 0 ≤ y ∧ y ≤ 255) :
    bits .or .u32 (bits .or .u32 (bits .or .u32 (a * 16777216) (b * 65536)) (x * 256)) y = a * 16777216 + b * 65536 + x * 256 + y := by
  rw [bits_join .u32 32 (by decide) wraps_u32 24 (a * 16777216) (b * 65536) (by omega) (by omega) (by omega) (by omega) (by omega) (by omega),
    bits_join .u32 32 (by decide) wraps_u32 16 (a * 16777216 + b * 65536) (x * 256) (by omega) (by omega) (by omega) (by omega) (by omega) (by omega),
    bits_join .u32 32 (by decide) wraps_u32 8 (a * 16777216 + b * 65536 + x * 256) y (by omega) (by omega) (by omega) (by omega) (by omega) (by omega)]
theorem i64_and_nat (a b : Nat) (ha : a < 65536) (hb : b < 65536) : bits .and .i64 (a : Int) (b : Int) = ((a &&& b : Nat) : Int) :=
  (bits_nat .i64 16 (by decide) (fun n h1 h2 => by rw [IntKind.wrap_i64]; omega) a b (by omega) (by omega)).1
theorem and13_i64 (F : Nat) (h : F < 65536) : bits .and .i64 (F : Int) 8191 = (F : Int) % 8192 := by
  have h1 := i64_and_nat F 8191 h (by decide)
  rw [nat_mask13] at h1
  have h2 : ((8191 : Nat) : Int) = 8191 := rfl
  rw [h2] at h1
  rw [h1]
  omega
theorem more_same (F : Nat) (h : F < 65536) : bits .and .i64 (F : Int) 8192 = bits .and .u16 (F : Int) 8192 := by
  have h1 := i64_and_nat F 8192 h (by decide)
  have h2 := u16_and_nat F 8192 h (by decide)
  have h3 : ((8192 : Nat) : Int) = 8192 := rfl
  rw [h3] at h1 h2
  rw [h1, h2]

/-- The sixteen bytes of an IPv4 address. -/
def as16L (a b x y : Int) : List Value := [.int .u8 0, .int .u8 0, .int .u8 0, .int .u8 0, .int .u8 0, .int .u8 0, .int .u8 0, .int .u8 0, .int .u8 0, .int .u8 0, .int .u8 255, .int .u8 255, .int .u8 a, .int .u8 b, .int .u8 x, .int .u8 y]
theorem as16_one (a b x y : Int) : (as16L a b x y).toArray.all (·.oneCell') = true := by simp [as16L, Value.oneCell']
theorem info41 : (Ybad.prog.info? 41).map (·.size) = some 16 := by kernel_rfl
def z16 : Array Value := #[.int .u8 0, .int .u8 0, .int .u8 0, .int .u8 0, .int .u8 0, .int .u8 0, .int .u8 0, .int .u8 0, .int .u8 0, .int .u8 0, .int .u8 0, .int .u8 0, .int .u8 0, .int .u8 0, .int .u8 0, .int .u8 0]
theorem z16_row (w : World) : (w.alloc (.cells z16 41)).rowIs w.heap.size 41 16 (fun i => z16.getD i undef) :=
  World.rowIs_alloc w z16 41 (fun i => z16.getD i undef) (fun i hi => by simp [Array.getElem?_eq_getElem hi])

theorem as16_ip (a b x y : Int) (ha : 0 ≤ a ∧ a ≤ 255) (hb : 0 ≤ b ∧ b ≤ 255) (hx : 0 ≤ x ∧ x ≤ 255) (hy : 0 ≤ y ∧ y ≤ 255) (w : World) (z : Option Addr) :
    Calls Ybad.prog 8 #[.agg #[.int .u64 0, .int .u64 (ipW a b x y), .pointer z]] w fun e w' => e = .returned (.agg (as16L a b x y).toArray) ∧ Below w.heap.size w w' := by
  have h := as16_any 0 (ipW a b x y) (by omega) (by unfold ipW; omega) w z
  refine h.mono fun e w' ⟨he, hb⟩ => ⟨?_, hb⟩
  rw [he]
  have e0 : ipW a b x y / 72057594037927936 = 0 := by unfold ipW; omega
  have e1 : ipW a b x y / 281474976710656 % 256 = 0 := by unfold ipW; omega
  have e2 : ipW a b x y / 1099511627776 % 256 = 255 := by unfold ipW; omega
  have e3 : ipW a b x y / 4294967296 % 256 = 255 := by unfold ipW; omega
  have e4 : ipW a b x y / 16777216 % 256 = a := by unfold ipW; omega
  have e5 : ipW a b x y / 65536 % 256 = b := by unfold ipW; omega
  have e6 : ipW a b x y / 256 % 256 = x := by unfold ipW; omega
  have e7 : ipW a b x y % 256 = y := by unfold ipW; omega
  simp only [e0, e1, e2, e3, e4, e5, e6, e7, as16L]
  simp

theorem as16_low {w : World} {b k : Nat} {a c x y : Int} (h : w.rowIs b 41 16 (fun i => (as16L a c x y).getD i undef)) (hk : k < 10) : w.cell? ⟨b, k, none⟩ = some (.int .u8 0) := by
  have h1 := h.cell (i := k) (by omega)
  have e : (as16L a c x y).getD k undef = .int .u8 0 := by
    have : k = 0 ∨ k = 1 ∨ k = 2 ∨ k = 3 ∨ k = 4 ∨ k = 5 ∨ k = 6 ∨ k = 7 ∨ k = 8 ∨ k = 9 := by omega
    rcases this with rfl | rfl | rfl | rfl | rfl | rfl | rfl | rfl | rfl | rfl <;> rfl
  rw [h1, e]
theorem as16_high {w : World} {b k : Nat} {Z : Nat → Int} {o : Nat} (h : w.rowIs b 41 16 (fun i => (as16L (Z o) (Z (o + 1)) (Z (o + 2)) (Z (o + 3))).getD i undef)) (hk : k < 4) : w.cell? ⟨b, 12 + k, none⟩ = some (.int .u8 (Z (o + k))) := by
  have h1 := h.cell (i := 12 + k) (by omega)
  have e : (as16L (Z o) (Z (o + 1)) (Z (o + 2)) (Z (o + 3))).getD (12 + k) undef = .int .u8 (Z (o + k)) := by
    have : k = 0 ∨ k = 1 ∨ k = 2 ∨ k = 3 := by omega
    rcases this with rfl | rfl | rfl | rfl <;> rfl
  rw [h1, e]

end Go.Proofs.YbulkcmekDoor
