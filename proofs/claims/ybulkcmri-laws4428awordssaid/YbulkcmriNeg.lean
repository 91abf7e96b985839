import Derived.Test.YbulkcmriRows
import Derived.WalkKit
import Derived.WalkSpells
import Derived.WalkLawsBesides
namespace Go.Proofs.Ybulkcmri
open Go.RowKit
set_option linter.unusedVariables false

set_option maxHeartbeats 400000 in
theorem neg_any (n d : Int) (hn : -9223372036854775807 ≤ n) (hn' : n ≤ 9223372036854775807) (w : World) :
    Calls Yba.prog 4 #[.agg #[.int .i64 n, .int .i64 d, .pointer none]] w fun e w' => e = .returned (.agg #[.int .i64 (-n), .int .i64 d, .pointer none]) ∧ Below w.heap.size w w' := by
  go_enter Yba.func4, Yba.ntmps4
  go_wp2
  exact bodyPost_ret (v := .agg #[.int .i64 (-n), .int .i64 d, .pointer none]) (by simp [results, Yba.results4, go_sem]) rfl ⟨rfl, ((Below.refl _ _).alloc (Nat.le_refl _) _).alloc (by simp) _⟩

/-- The law's body from three numbers that are decided: what n and d become. -/
theorem bcell {W w1 : World} (hb : Below W.heap.size W w1) : (∀ b o, b < W.heap.size → w1.cell? ⟨b, o, none⟩ = W.cell? ⟨b, o, none⟩) ∧ (∀ b o, b < W.heap.size → w1.frozen? ⟨b, o, none⟩ = W.frozen? ⟨b, o, none⟩) :=
  ⟨fun b o h => hb.cell (p := ⟨b, o, none⟩) h, fun b o h => hb.frozen (p := ⟨b, o, none⟩) h⟩

set_option maxHeartbeats 400000 in
theorem walk_a1 (n d : Int) (hn : -9223372036854775807 ≤ n) (hn' : n ≤ 9223372036854775807) (hb : (n == -9223372036854775808) = false) (hd : 0 ≤ d) (hd' : d ≤ 9223372036854775807) (h0 : (d == 0) = false) (w : World) :
    Calls Yba.prog 3 #[.int .i64 n, .int .i64 d] w fun e w' => e = .returned (.bool true) ∧ Below w.heap.size w w' := by
  go_enter Yba.func3, Yba.ntmps3
  go_wp2_with (go_at_call 4; refine (neg_any _ _ (by omega) (by omega) _).mono ?_; rintro e w1 ⟨rfl, hb1⟩; obtain ⟨q1, r1⟩ := bcell hb1; have hz := hb1.size; simp at q1 r1 hz; have hlt : w.heap.size < w1.heap.size := by omega)
  go_ret
  exact ⟨rfl, (((Below.refl _ w).alloc (Nat.le_refl _) _).trans (hb1.mono (by simp))).alloc (by omega) _⟩

set_option maxHeartbeats 400000 in
theorem walk_a2 (n d : Int) (hn : -9223372036854775807 ≤ n) (hn' : n ≤ 9223372036854775807) (hb : (n == -9223372036854775808) = false) (hd : 0 ≤ d) (h0 : (d == 0) = true) (w : World) :
    Calls Yba.prog 3 #[.int .i64 n, .int .i64 d] w fun e w' => e = .returned (.bool true) ∧ Below w.heap.size w w' := by
  go_enter Yba.func3, Yba.ntmps3
  go_wp2_with (go_at_call 4; refine (neg_any _ _ (by omega) (by omega) _).mono ?_; rintro e w1 ⟨rfl, hb1⟩; obtain ⟨q1, r1⟩ := bcell hb1; have hz := hb1.size; simp at q1 r1 hz; have hlt : w.heap.size < w1.heap.size := by omega)
  go_ret
  exact ⟨rfl, (((Below.refl _ w).alloc (Nat.le_refl _) _).trans (hb1.mono (by simp))).alloc (by omega) _⟩

set_option maxHeartbeats 400000 in
theorem walk_a3 (n d : Int) (hn : -9223372036854775807 ≤ n) (hn' : n ≤ 9223372036854775807) (hb : (n == -9223372036854775808) = false) (hd : d < 0) (hd' : -9223372036854775808 ≤ d) (h0 : (-(d + 1) == 0) = false) (w : World) :
    Calls Yba.prog 3 #[.int .i64 n, .int .i64 d] w fun e w' => e = .returned (.bool true) ∧ Below w.heap.size w w' := by
  go_enter Yba.func3, Yba.ntmps3
  go_wp2_with (go_at_call 4; refine (neg_any _ _ (by omega) (by omega) _).mono ?_; rintro e w1 ⟨rfl, hb1⟩; obtain ⟨q1, r1⟩ := bcell hb1; have hz := hb1.size; simp at q1 r1 hz; have hlt : w.heap.size < w1.heap.size := by omega)
  go_ret
  exact ⟨rfl, (((Below.refl _ w).alloc (Nat.le_refl _) _).trans (hb1.mono (by simp))).alloc (by omega) _⟩

set_option maxHeartbeats 400000 in
theorem walk_a4 (n d : Int) (hn : -9223372036854775807 ≤ n) (hn' : n ≤ 9223372036854775807) (hb : (n == -9223372036854775808) = false) (hd : d < 0) (hd' : -9223372036854775808 ≤ d) (h0 : (-(d + 1) == 0) = true) (w : World) :
    Calls Yba.prog 3 #[.int .i64 n, .int .i64 d] w fun e w' => e = .returned (.bool true) ∧ Below w.heap.size w w' := by
  go_enter Yba.func3, Yba.ntmps3
  go_wp2_with (go_at_call 4; refine (neg_any _ _ (by omega) (by omega) _).mono ?_; rintro e w1 ⟨rfl, hb1⟩; obtain ⟨q1, r1⟩ := bcell hb1; have hz := hb1.size; simp at q1 r1 hz; have hlt : w.heap.size < w1.heap.size := by omega)
  go_ret
  exact ⟨rfl, (((Below.refl _ w).alloc (Nat.le_refl _) _).trans (hb1.mono (by simp))).alloc (by omega) _⟩

set_option maxHeartbeats 400000 in
theorem walk_b1 (n d : Int) (hb : (n == -9223372036854775808) = true) (hd : 0 ≤ d) (hd' : d ≤ 9223372036854775807) (h0 : (d == 0) = false) (w : World) :
    Calls Yba.prog 3 #[.int .i64 n, .int .i64 d] w fun e w' => e = .returned (.bool true) ∧ Below w.heap.size w w' := by
  go_enter Yba.func3, Yba.ntmps3
  go_wp2_with (go_at_call 4; refine (neg_any _ _ (by omega) (by omega) _).mono ?_; rintro e w1 ⟨rfl, hb1⟩; obtain ⟨q1, r1⟩ := bcell hb1; have hz := hb1.size; simp at q1 r1 hz; have hlt : w.heap.size < w1.heap.size := by omega)
  go_ret
  exact ⟨rfl, (((Below.refl _ w).alloc (Nat.le_refl _) _).trans (hb1.mono (by simp))).alloc (by omega) _⟩

set_option maxHeartbeats 400000 in
theorem walk_b2 (n d : Int) (hb : (n == -9223372036854775808) = true) (hd : 0 ≤ d) (h0 : (d == 0) = true) (w : World) :
    Calls Yba.prog 3 #[.int .i64 n, .int .i64 d] w fun e w' => e = .returned (.bool true) ∧ Below w.heap.size w w' := by
  go_enter Yba.func3, Yba.ntmps3
  go_wp2_with (go_at_call 4; refine (neg_any _ _ (by omega) (by omega) _).mono ?_; rintro e w1 ⟨rfl, hb1⟩; obtain ⟨q1, r1⟩ := bcell hb1; have hz := hb1.size; simp at q1 r1 hz; have hlt : w.heap.size < w1.heap.size := by omega)
  go_ret
  exact ⟨rfl, (((Below.refl _ w).alloc (Nat.le_refl _) _).trans (hb1.mono (by simp))).alloc (by omega) _⟩

set_option maxHeartbeats 400000 in
theorem walk_b3 (n d : Int) (hb : (n == -9223372036854775808) = true) (hd : d < 0) (hd' : -9223372036854775808 ≤ d) (h0 : (-(d + 1) == 0) = false) (w : World) :
    Calls Yba.prog 3 #[.int .i64 n, .int .i64 d] w fun e w' => e = .returned (.bool true) ∧ Below w.heap.size w w' := by
  go_enter Yba.func3, Yba.ntmps3
  go_wp2_with (go_at_call 4; refine (neg_any _ _ (by omega) (by omega) _).mono ?_; rintro e w1 ⟨rfl, hb1⟩; obtain ⟨q1, r1⟩ := bcell hb1; have hz := hb1.size; simp at q1 r1 hz; have hlt : w.heap.size < w1.heap.size := by omega)
  go_ret
  exact ⟨rfl, (((Below.refl _ w).alloc (Nat.le_refl _) _).trans (hb1.mono (by simp))).alloc (by omega) _⟩

set_option maxHeartbeats 400000 in
theorem walk_b4 (n d : Int) (hb : (n == -9223372036854775808) = true) (hd : d < 0) (hd' : -9223372036854775808 ≤ d) (h0 : (-(d + 1) == 0) = true) (w : World) :
    Calls Yba.prog 3 #[.int .i64 n, .int .i64 d] w fun e w' => e = .returned (.bool true) ∧ Below w.heap.size w w' := by
  go_enter Yba.func3, Yba.ntmps3
  go_wp2_with (go_at_call 4; refine (neg_any _ _ (by omega) (by omega) _).mono ?_; rintro e w1 ⟨rfl, hb1⟩; obtain ⟨q1, r1⟩ := bcell hb1; have hz := hb1.size; simp at q1 r1 hz; have hlt : w.heap.size < w1.heap.size := by omega)
  go_ret
  exact ⟨rfl, (((Below.refl _ w).alloc (Nat.le_refl _) _).trans (hb1.mono (by simp))).alloc (by omega) _⟩

end Go.Proofs.Ybulkcmri
