import Derived.Test.YbulkcmekDoorBin
import Derived.Deep.OwnRows
import Derived.Deep.RegionHeld3
import Derived.Deep.DeepMust
namespace Go.Proofs.YbulkcmekDoor
open Go.RowKit

theorem hid {p : Prop} (h : p) : Hid p := h
theorem after_below {W w2 : World} {p : Nat} {f : Nat → Value} (hb : Below W.heap.size W w2) (hr : W.rowIs p 37 22 f) : w2.rowIs p 37 22 f := hr.of_block (hb.block p hr.lt)
theorem at_cell {w : World} {p : Nat} {f : Nat → Value} (hr : w.rowIs p 37 22 f) (i : Nat) (hi : i < 22) {v : Value} (hv : f i = v) : w.cell? ⟨p, i, none⟩ = some v := hv ▸ hr.cell hi
theorem bcell {W w1 : World} (hb : Below W.heap.size W w1) : (∀ b o, b < W.heap.size → w1.cell? ⟨b, o, none⟩ = W.cell? ⟨b, o, none⟩) ∧ (∀ b o, b < W.heap.size → w1.frozen? ⟨b, o, none⟩ = W.frozen? ⟨b, o, none⟩) :=
  ⟨fun b o h => hb.cell (p := ⟨b, o, none⟩) h, fun b o h => hb.frozen (p := ⟨b, o, none⟩) h⟩

set_option maxHeartbeats 400000 in
theorem upper_ports (p g o n c : Nat) (f : Nat → Value) (pr : Int) (H : Nat → Int) (hH : ∀ i, 0 ≤ H i ∧ H i ≤ 255) (w : World) (hp : w.rowIs p 37 22 f) (hf : f 10 = .int .u8 pr) (f11 : f 11 = .int .u16 0) (f12 : f 12 = .int .u16 0) (f13 : f 13 = .bool false) (hpr : pr = 6 ∨ pr = 17) (hn : 4 ≤ n) (hc : n ≤ c) (hgp : g < p)
    (hcell : ∀ i, i < n → w.cell? ⟨g, o + i, none⟩ = some (.int .u8 (H i))) :
    Calls Ybad.prog 15 #[.pointer (some ⟨p, 0, none⟩), .slice (some ⟨g, o, none⟩) n c] w fun e w' => e = .returned (.tuple #[]) ∧
      w'.rowIs p 37 22 (fun i => if i = 11 then .int .u16 (H 0 * 256 + H 1) else if i = 12 then .int .u16 (H 2 * 256 + H 3) else if i = 13 then .bool true else f i) ∧ Below p w w' := by
  have h10 : w.cell? ⟨p, 10, none⟩ = some (.int .u8 pr) := hf ▸ hp.cell (i := 10) (by omega)
  have hlt := hp.lt
  have c0 : w.cell? ⟨g, o, none⟩ = some (.int .u8 (H 0)) := hcell 0 (by omega)
  have c1 := hcell 1 (by omega)
  have c2 := hcell 2 (by omega)
  have c3 : w.cell? ⟨g, o + 2 + 1, none⟩ = some (.int .u8 (H 3)) := hcell 3 (by omega)
  have n4 : (4 : Int) ≤ (n : Int) := by omega
  have hc2 : (2 : Int) ≤ (c : Int) := by omega
  have hc4 : (4 : Int) ≤ (c : Int) := by omega
  have hne2 : ¬ c = 2 := by omega
  clear hcell hf
  rcases hpr with rfl | rfl
  all_goals
    go_enter Ybad.func15, Ybad.ntmps15
    go_wp2
    have K1 := hid (be16_any g o 2 c (H 0) (H 1) (hH 0) (hH 1) w.drew (by decide) c0 c1 (Nat.lt_trans hgp hlt))
    go_region_with (go_at_call 14; refine K1.out.mono ?_; rintro e w1 ⟨rfl, hb1⟩; have P1 := hid (after_below hb1 hp); have x11 := at_cell P1.out 11 (by decide) f11; have fz1 := P1.out.frozen)
    have R1 : Hid ((w1.setCell ⟨p, 11, none⟩ (.int .u16 (H 0 * 256 + H 1))).rowIs p 37 22 (fun j => if j = 11 then .int .u16 (H 0 * 256 + H 1) else f j)) := World.rowIs.set P1.out 11 _
    have B1 : Hid (Below p w (w1.setCell ⟨p, 11, none⟩ (.int .u16 (H 0 * 256 + H 1)))) := (((Below.refl p w).drew).trans (hb1.mono (Nat.le_of_lt hlt))).setCell (Nat.le_refl _) _
    clear hb1 P1
    go_wp2
    have K2 := hid (be16_any g (o + 2) 2 (c - 2) (H 2) (H 3) (hH 2) (hH 3) (w1.setCell ⟨p, 11, none⟩ (.int .u16 (H 0 * 256 + H 1))).drew (by decide) ((B1.out.cell (p := ⟨g, o + 2, none⟩) hgp).trans c2) ((B1.out.cell (p := ⟨g, o + 2 + 1, none⟩) hgp).trans c3) (Nat.lt_trans hgp R1.out.lt))
    go_region_with (go_at_call 14; refine K2.out.mono ?_; rintro e w2 ⟨rfl, hb2⟩; have P2 := hid (after_below hb2 R1.out); have x12 := at_cell P2.out 12 (by decide) (v := .int .u16 0) (by simpa using f12); have x13 := at_cell P2.out 13 (by decide) (v := .bool false) (by simpa using f13); have fz2 := P2.out.frozen)
    have R2 : Hid ((w2.setCell ⟨p, 12, none⟩ (.int .u16 (H 2 * 256 + H 3))).rowIs p 37 22 (fun j => if j = 12 then .int .u16 (H 2 * 256 + H 3) else if j = 11 then .int .u16 (H 0 * 256 + H 1) else f j)) := World.rowIs.set P2.out 12 _
    have B2 : Hid (Below p w (w2.setCell ⟨p, 12, none⟩ (.int .u16 (H 2 * 256 + H 3)))) := (B1.out.drew.trans (hb2.mono (Nat.le_of_lt R1.out.lt))).setCell (Nat.le_refl _) _
    clear R1 B1 K2 hb2 P2
    go_wp2
    go_end0
    exact ⟨rfl, (World.rowIs.set R2.out 13 (.bool true)).congr (fun i _ => by by_cases h1 : i = 11 <;> by_cases h2 : i = 12 <;> by_cases h3 : i = 13 <;> simp_all), B2.out.setCell (Nat.le_refl _) _⟩

set_option maxHeartbeats 400000 in
theorem upper_spi (p g o k n c : Nat) (f : Nat → Value) (pr : Int) (H : Nat → Int) (hH : ∀ i, 0 ≤ H i ∧ H i ≤ 255) (w : World) (hp : w.rowIs p 37 22 f) (hf : f 10 = .int .u8 pr) (f14 : f 14 = .int .u32 0) (f15 : f 15 = .bool false) (hpr : pr = 50 ∧ k = 0 ∨ pr = 51 ∧ k = 4) (hn : 4 + k ≤ n) (hc : n ≤ c) (hgp : g < p)
    (hcell : ∀ i, i < n → w.cell? ⟨g, o + i, none⟩ = some (.int .u8 (H i))) :
    Calls Ybad.prog 15 #[.pointer (some ⟨p, 0, none⟩), .slice (some ⟨g, o, none⟩) n c] w fun e w' => e = .returned (.tuple #[]) ∧
      w'.rowIs p 37 22 (fun i => if i = 14 then .int .u32 (H k * 16777216 + H (k + 1) * 65536 + H (k + 2) * 256 + H (k + 3)) else if i = 15 then .bool true else f i) ∧ Below p w w' := by
  have h10 : w.cell? ⟨p, 10, none⟩ = some (.int .u8 pr) := hf ▸ hp.cell (i := 10) (by omega)
  have hlt := hp.lt
  have n4 : (4 : Int) ≤ (n : Int) := by omega
  have hc4 : (4 : Int) ≤ (c : Int) := by omega
  have hne4 : k = 4 → ¬ c = 4 := by omega
  clear hf
  rcases hpr with ⟨rfl, rfl⟩ | ⟨rfl, rfl⟩
  · have c0 : w.cell? ⟨g, o, none⟩ = some (.int .u8 (H 0)) := hcell 0 (by omega)
    have c1 : w.cell? ⟨g, o + 1, none⟩ = some (.int .u8 (H 1)) := hcell 1 (by omega)
    have c2 : w.cell? ⟨g, o + 2, none⟩ = some (.int .u8 (H 2)) := hcell 2 (by omega)
    have c3 : w.cell? ⟨g, o + 3, none⟩ = some (.int .u8 (H 3)) := hcell 3 (by omega)
    clear hcell
    go_enter Ybad.func15, Ybad.ntmps15
    go_wp2
    have K1 := hid (be32_any g o 4 c (H 0) (H 1) (H 2) (H 3) (hH 0) (hH 1) (hH 2) (hH 3) w.drew (by decide) c0 c1 c2 c3 (Nat.lt_trans hgp hlt))
    go_region_with (go_at_call 24; refine K1.out.mono ?_; rintro e w1 ⟨rfl, hb1⟩; have P1 := hid (after_below hb1 hp); have x14 := at_cell P1.out 14 (by decide) f14; have x15 := at_cell P1.out 15 (by decide) f15; have fz1 := P1.out.frozen)
    have R1 : Hid ((w1.setCell ⟨p, 14, none⟩ (.int .u32 (H 0 * 16777216 + H 1 * 65536 + H 2 * 256 + H 3))).rowIs p 37 22 (fun j => if j = 14 then .int .u32 (H 0 * 16777216 + H 1 * 65536 + H 2 * 256 + H 3) else f j)) := World.rowIs.set P1.out 14 _
    have B1 : Hid (Below p w (w1.setCell ⟨p, 14, none⟩ (.int .u32 (H 0 * 16777216 + H 1 * 65536 + H 2 * 256 + H 3)))) := (((Below.refl p w).drew).trans (hb1.mono (Nat.le_of_lt hlt))).setCell (Nat.le_refl _) _
    clear hb1 P1 K1
    go_wp2
    go_end0
    exact ⟨rfl, (World.rowIs.set R1.out 15 (.bool true)).congr (fun i _ => by by_cases h1 : i = 14 <;> by_cases h2 : i = 15 <;> simp_all), B1.out.setCell (Nat.le_refl _) _⟩
  · have n8 : (8 : Int) ≤ (n : Int) := by omega
    have hc8 : (8 : Int) ≤ (c : Int) := by omega
    have hn4 := hne4 rfl
    clear hne4
    have c0 : w.cell? ⟨g, o + 4, none⟩ = some (.int .u8 (H 4)) := hcell 4 (by omega)
    have c1 : w.cell? ⟨g, o + 4 + 1, none⟩ = some (.int .u8 (H 5)) := hcell 5 (by omega)
    have c2 : w.cell? ⟨g, o + 4 + 2, none⟩ = some (.int .u8 (H 6)) := hcell 6 (by omega)
    have c3 : w.cell? ⟨g, o + 4 + 3, none⟩ = some (.int .u8 (H 7)) := hcell 7 (by omega)
    clear hcell
    go_enter Ybad.func15, Ybad.ntmps15
    go_wp2
    have K1 := hid (be32_any g (o + 4) 4 (c - 4) (H 4) (H 5) (H 6) (H 7) (hH 4) (hH 5) (hH 6) (hH 7) w.drew (by decide) c0 c1 c2 c3 (Nat.lt_trans hgp hlt))
    go_region_with (go_at_call 24; refine K1.out.mono ?_; rintro e w1 ⟨rfl, hb1⟩; have P1 := hid (after_below hb1 hp); have x14 := at_cell P1.out 14 (by decide) f14; have x15 := at_cell P1.out 15 (by decide) f15; have fz1 := P1.out.frozen)
    have R1 : Hid ((w1.setCell ⟨p, 14, none⟩ (.int .u32 (H 4 * 16777216 + H 5 * 65536 + H 6 * 256 + H 7))).rowIs p 37 22 (fun j => if j = 14 then .int .u32 (H 4 * 16777216 + H 5 * 65536 + H 6 * 256 + H 7) else f j)) := World.rowIs.set P1.out 14 _
    have B1 : Hid (Below p w (w1.setCell ⟨p, 14, none⟩ (.int .u32 (H 4 * 16777216 + H 5 * 65536 + H 6 * 256 + H 7)))) := (((Below.refl p w).drew).trans (hb1.mono (Nat.le_of_lt hlt))).setCell (Nat.le_refl _) _
    clear hb1 P1 K1
    go_wp2
    go_end0
    exact ⟨rfl, (World.rowIs.set R1.out 15 (.bool true)).congr (fun i _ => by by_cases h1 : i = 14 <;> by_cases h2 : i = 15 <;> simp_all), B1.out.setCell (Nat.le_refl _) _⟩

set_option maxHeartbeats 400000 in
theorem upper_none (p n c : Nat) (a : Option Addr) (f : Nat → Value) (pr : Int) (hpb : 0 ≤ pr ∧ pr ≤ 255) (w : World) (hp : w.rowIs p 37 22 f) (hf : f 10 = .int .u8 pr) (h1 : ¬ ((pr = 6 ∨ pr = 17) ∧ 4 ≤ n)) (h2 : ¬ (pr = 50 ∧ 4 ≤ n)) (h3 : ¬ (pr = 51 ∧ 8 ≤ n)) :
    Calls Ybad.prog 15 #[.pointer (some ⟨p, 0, none⟩), .slice a n c] w fun e w' => e = .returned (.tuple #[]) ∧ w' = w := by
  have h10 : w.cell? ⟨p, 10, none⟩ = some (.int .u8 pr) := hf ▸ hp.cell (i := 10) (by omega)
  clear hf
  by_cases k4 : 4 ≤ n
  · by_cases e1 : pr = 6
    · omega
    by_cases e2 : pr = 17
    · omega
    by_cases e3 : pr = 50
    · omega
    by_cases e4 : pr = 51
    · subst e4
      have k8 : ¬ 8 ≤ n := by omega
      go_enter Ybad.func15, Ybad.ntmps15
      go_wp2
      go_end0
      exact ⟨rfl, rfl⟩
    · go_enter Ybad.func15, Ybad.ntmps15
      go_wp2
      go_end0
      exact ⟨rfl, rfl⟩
  · have k8 : ¬ 8 ≤ n := by omega
    by_cases e1 : pr = 6 ∨ pr = 17 ∨ pr = 50 ∨ pr = 51
    · rcases e1 with rfl | rfl | rfl | rfl
      all_goals
        go_enter Ybad.func15, Ybad.ntmps15
        go_wp2
        go_end0
        exact ⟨rfl, rfl⟩
    · have : pr ≠ 6 := by omega
      have : pr ≠ 17 := by omega
      have : pr ≠ 50 := by omega
      have : pr ≠ 51 := by omega
      go_enter Ybad.func15, Ybad.ntmps15
      go_wp2
      go_end0
      exact ⟨rfl, rfl⟩

end Go.Proofs.YbulkcmekDoor
