import Derived.Test.YbulkcmekFmtNextLib
import Derived.Lib.SliceRun
namespace Go.Proofs.YbulkcmekFmt
open Go Go.RowKit

theorem azero (w : World) : Calls Ybaf.prog 8 #[zeroRec] w fun e w' => e = .returned (.bool true) ∧ Below w.heap.size w w' := by
  have qT : ∀ (w : World) (a : Option Addr) (n c n' c' : Nat), (binOp .eql 24 (.slice a n c) (.slice none n' c')).run Ybaf.prog w = .ok (.bool a.isNone) w := fun w a n c n' c' => Lib.run_eql_slice_nil w _ _ a n c n' c' Ybaf.underlying24
  unfold zeroRec
  go_enter Ybaf.func8, Ybaf.ntmps8
  go_wp2
  go_ret
  exact ⟨rfl, (Below.refl _ _).alloc (Nat.le_refl _) _⟩

set_option maxHeartbeats 1000000 in
theorem aget {big : Bool} {b o c p : Nat} {Y : Nat → Int} {w : World} (hY : Byt Y) (hc : ∀ i, i < 4 → w.cell? ⟨b, o + i, none⟩ = some (.int .u8 (Y (p + i)))) :
    Calls Ybaf.prog 11 #[.slice (some ⟨b, o, none⟩) 4 c, .bool big] w fun e w' => e = .returned (.int .u32 (u32at big Y p)) ∧ ∃ q, w' = w.drewN q := by
  have c0 : w.cell? ⟨b, o, none⟩ = some (.int .u8 (Y p)) := hc 0 (by decide)
  have c1 : w.cell? ⟨b, o + 1, none⟩ = some (.int .u8 (Y (p + 1))) := hc 1 (by decide)
  have c2 : w.cell? ⟨b, o + 2, none⟩ = some (.int .u8 (Y (p + 2))) := hc 2 (by decide)
  have c3 : w.cell? ⟨b, o + 3, none⟩ = some (.int .u8 (Y (p + 3))) := hc 3 (by decide)
  have h0 := hY p
  have h1 := hY (p + 1)
  have h2 := hY (p + 2)
  have h3 := hY (p + 3)
  cases big
  · go_enter Ybaf.func11, Ybaf.ntmps11
    go_wp2
    go_quiet (fail)
    go_wp2
    go_ret
    exact ⟨ret_int (or32_low h3 h2 h1 h0), _, rfl⟩
  · go_enter Ybaf.func11, Ybaf.ntmps11
    go_wp2
    go_quiet (fail)
    go_wp2
    go_ret
    exact ⟨ret_int (or32_high _ _ _ _ h0 h1 h2 h3), _, rfl⟩

theorem aeq_zero (x y : Option Addr) (c d : Nat) (w : World) : Calls Ybaf.prog 10 #[.slice x 0 c, .slice y 0 d] w fun e w' => e = .returned (.bool true) ∧ ∃ q, w' = w.drewN q := by
  go_enter Ybaf.func10, Ybaf.ntmps10
  go_wp2
  refine wp_loop_rounds 1 ?_
  rw [rounds_succ]
  go_wp2
  go_ret
  exact ⟨rfl, 0, rfl⟩

set_option maxHeartbeats 1000000 in
theorem aeq_same {V b o L c d : Nat} {Z : Nat → Int} {w : World} (hL : L ≤ 1048576) (h1 : ∀ j, j < L → w.cell? ⟨V, j, none⟩ = some (.int .u8 (Z j))) (h2 : ∀ j, j < L → w.cell? ⟨b, o + j, none⟩ = some (.int .u8 (Z j))) :
    Calls Ybaf.prog 10 #[.slice (some ⟨V, 0, none⟩) L c, .slice (some ⟨b, o, none⟩) L d] w fun e w' => e = .returned (.bool true) ∧ ∃ q, w' = w.drewN q := by
  go_enter Ybaf.func10, Ybaf.ntmps10
  go_wp2
  go_loopw [5] (fun i wr => ∃ k : Nat, k ≤ L ∧ i = .int .i64 k ∧ ∃ q, wr = w.drewN q) (fun i _ => L - (intOf i).toNat)
  case atStart => exact ⟨0, Nat.zero_le _, rfl, 0, rfl⟩
  case round =>
    obtain ⟨k, hk, rfl, q, rfl⟩ := hrel
    by_cases hlt : k < L
    · have a1 := h1 k hlt
      have a2 := h2 k hlt
      have hlt' : (k : Int) < (L : Int) := by omega
      go_wp2
      go_quiet (fail)
      go_wp2
      go_roundw
      case rel => exact ⟨k + 1, by omega, by go_num, _, rfl⟩
      case measure => simp [intOf]; omega
    · have hlt' : ¬ (k : Int) < (L : Int) := by omega
      go_wp2
      go_ret
      exact ⟨rfl, _, rfl⟩

end Go.Proofs.YbulkcmekFmt
