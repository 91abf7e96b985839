import Derived.Test.YbulkcmekFmtNew
namespace Go.Proofs.YbulkcmekFmt
open Go Go.RowKit Go.Extern.Stop Go.Stop Go.Extern

abbrev pcZ (B ot : Nat) : Array Value := #[.pointer (some ⟨B, 0, none⟩), .iface ot (.agg #[]), .int .u16 0, .bool false, .int .u32 0, .int .i64 0, .int .u8 0, .int .u8 0, .int .u8 0, .int .u8 0, .int .u8 0, .int .u8 0, .int .u8 0, .int .u8 0, .int .u8 0, .int .u8 0, .int .u8 0, .int .u8 0, .int .u8 0, .int .u8 0, .int .u8 0, .int .u8 0, .slice none 0 0]
theorem pcZ_row (B ot : Nat) (w : World) : (w.alloc (.cells (pcZ B ot) 43)).rowIs w.heap.size 43 23 (fun i => (pcZ B ot).getD i undef) :=
  World.rowIs_alloc w (pcZ B ot) 43 (fun i => (pcZ B ot).getD i undef) (fun i hi => by simp [Array.getElem?_eq_getElem hi])

theorem src_row (ao : Option Addr) (N cap : Nat) (w : World) : (w.alloc (.cells #[.slice ao N cap, .int .i64 0] 58)).rowIs w.heap.size 58 2 (srcF ao N cap 0) :=
  World.rowIs_alloc w #[.slice ao N cap, .int .i64 0] 58 (srcF ao N cap 0) fun i hi => by
    have : i = 0 ∨ i = 1 := by simp at hi; omega
    rcases this with rfl | rfl <;> rfl

theorem pc_new {ot : Nat} {ao : Option Addr} {N cap : Nat} {Y : Nat → Int} {w w2 : World} (hY : Bytes w ao N Y) (h7 : 5 ≤ w.heap.size) (h1 : w2.rowIs (w.heap.size + 1) 88 7 (bufF (w.heap.size + 1 + 1) w.heap.size 0 0 .nilIface (-1) (-1))) (h2 : w2.rowIs (w.heap.size + 1 + 1) 5 4096 (fun _ => .int .u8 0))
    (h3 : Below (w.heap.size + 1) (w.alloc (.cells #[.slice ao N cap, .int .i64 0] 58)) w2) :
    Pc (w2.alloc (.cells (pcZ (w.heap.size + 1) ot) 43)) w.heap.size w2.heap.size (w.heap.size + 1) w.heap.size (w.heap.size + 1 + 1) [w2.heap.size, w.heap.size + 1, w.heap.size, w.heap.size + 1 + 1] ot ao N cap Y 0 0 ∧ Below w.heap.size w (w2.alloc (.cells (pcZ (w.heap.size + 1) ot) 43)) := by
  have l2 := h2.lt
  have b0 : Below w.heap.size w w2 := ((Below.refl _ w).alloc (Nat.le_refl _) _).trans (h3.mono (by omega))
  have o : Only [] w2 (w2.alloc (.cells (pcZ (w.heap.size + 1) ot) 43)) := (Only.refl _ _).alloc _
  have hs : w2.rowIs w.heap.size 58 2 (srcF ao N cap 0) := (src_row ao N cap w).of_block (h3.block _ (by omega))
  have hy2 : Bytes w2 ao N Y := fun hN => by
    obtain ⟨b, x, e, hb, hc⟩ := hY hN
    exact ⟨b, x, e, Nat.lt_of_lt_of_le hb b0.size, fun i hi => (b0.cell (p := ⟨b, x + i, none⟩) hb).trans (hc i hi)⟩
  refine ⟨⟨⟨by omega, by omega, Nat.le_refl _, by omega, by omega, by omega, by omega, fun hN x y e => ?_⟩, ⟨by omega, by omega, by omega, by omega⟩, ⟨by simp, by simp, by simp, by simp⟩, fun k hk => ?_, ⟨_, none, 0, 0, pcZ_row _ _ _, rfl, rfl, rfl, rfl, ⟨Nat.le_refl _, by omega, .inl ⟨rfl, rfl⟩⟩⟩, ⟨⟨0, 0, -1, -1, _, o.row h1 (by simp), o.row hs (by simp), o.row h2 (by simp), Nat.le_refl _, by omega, by omega, fun i h1 h2 => by omega⟩, hy2.only o (by simp)⟩⟩, b0.alloc b0.size _⟩
  · obtain ⟨b, x', e', hb, _⟩ := hY hN
    rw [e] at e'
    cases e'
    exact hb
  · simp at hk
    omega

set_option maxHeartbeats 1000000 in
set_option maxRecDepth 100000 in
theorem anew (big : Bool) (ao : Option Addr) (N cap : Nat) (Y : Nat → Int) (w : World) (hY : Bytes w ao N Y) (h7 : 5 ≤ w.heap.size) :
    Calls Ybaf.prog 6 #[.slice ao N cap, .bool big] w fun e w' => ∃ D B S U O, e = .returned (.pointer (some ⟨D, 0, none⟩)) ∧ Pc w' w.heap.size D B S U O (otOf big) ao N cap Y 0 0 ∧ Below w.heap.size w w' := by
  have K := hid (newReader w.heap.size (w.alloc (.cells #[.slice ao N cap, .int .i64 0] 58)))
  cases big
  · go_enter Ybaf.func6, Ybaf.ntmps6
    go_wp2_with (first
      | (go_at_call 12; refine K.out.mono ?_; rintro e w2 ⟨rfl, h1, h2, h3⟩))
    go_ret
    rw [show (w.alloc (.cells #[.slice ao N cap, .int .i64 0] 58)).heap.size = w.heap.size + 1 by simp] at h1 h2 h3
    obtain ⟨hp, hb⟩ := pc_new (ot := 53) hY h7 h1 h2 h3
    exact ⟨_, _, _, _, _, rfl, hp, hb⟩
  · go_enter Ybaf.func6, Ybaf.ntmps6
    go_wp2_with (first
      | (go_at_call 12; refine K.out.mono ?_; rintro e w2 ⟨rfl, h1, h2, h3⟩))
    go_ret
    rw [show (w.alloc (.cells #[.slice ao N cap, .int .i64 0] 58)).heap.size = w.heap.size + 1 by simp] at h1 h2 h3
    obtain ⟨hp, hb⟩ := pc_new (ot := 54) hY h7 h1 h2 h3
    exact ⟨_, _, _, _, _, rfl, hp, hb⟩

end Go.Proofs.YbulkcmekFmt
