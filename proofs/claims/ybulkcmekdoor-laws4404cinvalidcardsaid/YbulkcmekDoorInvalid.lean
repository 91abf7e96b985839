import Derived.Test.YbulkcmekDoorNet
import Derived.Deep.DeepCutAuto
namespace Go.Proofs.YbulkcmekDoor
open Go.RowKit

set_option maxHeartbeats 1000000 in
set_option maxRecDepth 100000 in
theorem invalid_law (a b c d x : Int) (ha : 0 ≤ a ∧ a ≤ 255) (hb : 0 ≤ b ∧ b ≤ 255) (hc : 0 ≤ c ∧ c ≤ 255) (hd : 0 ≤ d ∧ d ≤ 255) (hx : 0 ≤ x ∧ x ≤ 255) (z : Addr) (w : World) (h0 : w.cell? ⟨2, 0, none⟩ = some (.pointer none)) (h4 : w.cell? ⟨1, 0, none⟩ = some (.pointer (some z))) (hs : 2 < w.heap.size) :
    Calls Ybad.prog 5 #[.int .u8 a, .int .u8 b, .int .u8 c, .int .u8 d, .int .u8 x] w fun e w' => e = .returned (.bool true) ∧ Below w.heap.size w w' := by
  obtain ⟨hx0, hx1⟩ := hx
  have hs1 : 1 < w.heap.size := by omega
  have K1 := hidn (prefixText_no 0 0 none w)
  have K10 : Hid (∀ W, Below w.heap.size w W → Calls Ybad.prog 10 #[.agg #[.int .u8 a, .int .u8 b, .int .u8 c, .int .u8 d]] W fun e w' => e = .returned (.agg #[.int .u64 0, .int .u64 (281470681743360 + (a * 16777216 + b * 65536 + c * 256 + d)), .pointer (some z)]) ∧ Below W.heap.size W w') := fun W hW =>
    from4_any a b c d ha hb hc hd W (some z) ((hW.cell (p := ⟨1, 0, none⟩) hs1).trans h4) (Nat.lt_of_lt_of_le hs1 hW.size)
  have K9 : Hid (∀ W, Below w.heap.size w W → Calls Ybad.prog 9 #[.agg #[.int .u64 0, .int .u64 (281470681743360 + (a * 16777216 + b * 65536 + c * 256 + d)), .pointer (some z)], .int .i64 (33 + x % 100)] W fun e w' => e = .returned (.agg #[.int .u64 0, .int .u64 (281470681743360 + (a * 16777216 + b * 65536 + c * 256 + d)), .pointer (some z), .int .u8 0]) ∧ Below W.heap.size W w') := fun W hW =>
    prefixFrom_no _ _ _ ⟨by omega, by omega⟩ z W ((hW.cell (p := ⟨2, 0, none⟩) hs).trans h0) ((hW.cell (p := ⟨1, 0, none⟩) hs1).trans h4) (Nat.lt_of_lt_of_le hs hW.size)
  have K2 := hidn (fun W => prefixText_no 0 (281470681743360 + (a * 16777216 + b * 65536 + c * 256 + d)) (some z) W)
  generalize hv : 281470681743360 + (a * 16777216 + b * 65536 + c * 256 + d) = v at K10 K9 K2
  clear hv h0 h4
  go_enter Ybad.func5, Ybad.ntmps5
  go_upto_region 3 with (go_at_call 12; refine K1.out.mono ?_; rintro e w1 ⟨rfl, b1⟩)
  go_wp2_with (first
    | (go_at_call 10; refine (K10.out _ b1).mono ?_; rintro e w2 ⟨rfl, b2⟩; have B2 := hidn (b1.trans (b2.mono b1.size)))
    | (go_at_call 9; refine (K9.out _ B2.out).mono ?_; rintro e w3 ⟨rfl, b3⟩; have B3 := hidn (B2.out.trans (b3.mono B2.out.size)))
    | (go_at_call 12; refine (K2.out _).mono ?_; rintro e w4 ⟨rfl, b4⟩))
  go_ret
  exact ⟨rfl, (B3.out.alloc B3.out.size _).trans (b4.mono (Nat.le_trans B3.out.size (by simp)))⟩

end Go.Proofs.YbulkcmekDoor
