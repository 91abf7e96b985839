import Derived.Test.YbulkcmekDoorBin
import Derived.LaidEql
import Derived.Deep.RegionWith
import Derived.Test.YbulkcmekDoorTail
import Derived.BigQuiet
namespace Go.Proofs.YbulkcmekDoor
open Go.RowKit

theorem hidn {p : Prop} (h : p) : Hid p := h

theorem ptr_nn (w : World) : (Op.equalIn 9999 29 (.pointer none) (.pointer none)).run Ybad.prog w = .ok true w := by
  have h : ∀ d, (Op.equalIn (d + 1) 29 (.pointer none) (.pointer none)).run Ybad.prog w = .ok true w := fun d => by simp [Op.equalIn, run_underlying Ybad.underlying29]
  exact h 9998
theorem ptr_sn (a : Addr) (w : World) : (Op.equalIn 9999 29 (.pointer (some a)) (.pointer none)).run Ybad.prog w = .ok false w := by
  have h : ∀ d, (Op.equalIn (d + 1) 29 (.pointer (some a)) (.pointer none)).run Ybad.prog w = .ok false w := fun d => by simp [Op.equalIn, run_underlying Ybad.underlying29]
  exact h 9998
theorem info71 : (Ybad.prog.info? 71).isSome = true := by kernel_rfl
theorem ptr_same (a : Addr) (w : World) : (Op.equalIn 9999 29 (.pointer (some a)) (.pointer (some a))).run Ybad.prog w = .ok true w := by
  obtain ⟨j, hj⟩ := Option.isSome_iff_exists.1 info71
  have h : ∀ d, (Op.equalIn (d + 1) 29 (.pointer (some a)) (.pointer (some a))).run Ybad.prog w = .ok true w := fun d => by simp [Op.equalIn, run_underlying Ybad.underlying29, run_sameAddr_same, sizeOf, typeInfo, hj]
  exact h 9998

/-- (Addr).isZero at a handle that is not nil. -/
theorem isZero_some (h l : Int) (a : Addr) (w : World) (h0 : w.cell? ⟨2, 0, none⟩ = some (.pointer none)) (hs : 2 < w.heap.size) :
    Calls Ybad.prog 17 #[.agg #[.int .u64 h, .int .u64 l, .pointer (some a)]] w fun e w' => e = .returned (.bool false) ∧ Below w.heap.size w w' := by
  have e1 := ptr_sn a
  go_enter Ybad.func17, Ybad.ntmps17
  go_wp2
  go_ret
  exact ⟨rfl, (Below.refl _ _).alloc (Nat.le_refl _) _⟩

/-- (Addr).BitLen of an IPv4 address. -/
theorem bitLen4 (h l : Int) (a : Addr) (w : World) (h0 : w.cell? ⟨2, 0, none⟩ = some (.pointer none)) (h4 : w.cell? ⟨1, 0, none⟩ = some (.pointer (some a))) (hs : 2 < w.heap.size) :
    Calls Ybad.prog 18 #[.agg #[.int .u64 h, .int .u64 l, .pointer (some a)]] w fun e w' => e = .returned (.int .i64 32) ∧ Below w.heap.size w w' := by
  have e1 := ptr_sn a
  have e2 := ptr_same a
  have hs1 : 1 < w.heap.size := by omega
  go_enter Ybad.func18, Ybad.ntmps18
  go_wp2
  go_ret
  exact ⟨rfl, (Below.refl _ _).alloc (Nat.le_refl _) _⟩

/-- (Addr).Is6 of an IPv4 address. -/
theorem is6_4 (h l : Int) (a : Addr) (w : World) (h0 : w.cell? ⟨2, 0, none⟩ = some (.pointer none)) (h4 : w.cell? ⟨1, 0, none⟩ = some (.pointer (some a))) (hs : 2 < w.heap.size) :
    Calls Ybad.prog 25 #[.agg #[.int .u64 h, .int .u64 l, .pointer (some a)]] w fun e w' => e = .returned (.bool false) ∧ Below w.heap.size w w' := by
  have e1 := ptr_sn a
  have e2 := ptr_same a
  have hs1 : 1 < w.heap.size := by omega
  go_enter Ybad.func25, Ybad.ntmps25
  go_wp2
  go_ret
  exact ⟨rfl, (Below.refl _ _).alloc (Nat.le_refl _) _⟩

theorem isValid_any (h l b : Int) (z : Option Addr) (w : World) :
    Calls Ybad.prog 26 #[.agg #[.int .u64 h, .int .u64 l, .pointer z, .int .u8 b]] w fun e w' => e = .returned (.bool (decide (0 < b))) ∧ Below w.heap.size w w' := by
  go_enter Ybad.func26, Ybad.ntmps26
  go_wp2
  go_ret
  exact ⟨rfl, (Below.refl _ _).alloc (Nat.le_refl _) _⟩

theorem bits_any (h l b : Int) (hb : 0 ≤ b ∧ b ≤ 255) (z : Option Addr) (w : World) :
    Calls Ybad.prog 27 #[.agg #[.int .u64 h, .int .u64 l, .pointer z, .int .u8 b]] w fun e w' => e = .returned (.int .i64 (b - 1)) ∧ Below w.heap.size w w' := by
  obtain ⟨hb0, hb1⟩ := hb
  go_enter Ybad.func27, Ybad.ntmps27
  go_wp2
  go_ret
  exact ⟨rfl, (Below.refl _ _).alloc (Nat.le_refl _) _⟩

/-- (Addr).withoutZone of an IPv4 address. -/
theorem withoutZone4 (h l : Int) (a : Addr) (w : World) (h0 : w.cell? ⟨2, 0, none⟩ = some (.pointer none)) (h4 : w.cell? ⟨1, 0, none⟩ = some (.pointer (some a))) (hs : 2 < w.heap.size) :
    Calls Ybad.prog 19 #[.agg #[.int .u64 h, .int .u64 l, .pointer (some a)]] w fun e w' => e = .returned (.agg #[.int .u64 h, .int .u64 l, .pointer (some a)]) ∧ Below w.heap.size w w' := by
  have e1 := ptr_sn a
  have e2 := ptr_same a
  have hs1 : 1 < w.heap.size := by omega
  have t1 : 1 < w.heap.size + 1 := by omega
  have t2 : 2 < w.heap.size + 1 := by omega
  have t3 : 1 < w.heap.size + 1 + 1 := by omega
  have t4 : 2 < w.heap.size + 1 + 1 := by omega
  go_enter Ybad.func19, Ybad.ntmps19
  go_wp2
  exact bodyPost_ret (v := .agg #[.int .u64 h, .int .u64 l, .pointer (some a)]) (by simp [results, Ybad.results19, go_sem]) rfl ⟨rfl, (((Below.refl _ _).alloc (Nat.le_refl _) _).alloc (by simp) _).alloc (by simp; omega) _⟩

theorem isValid_no (h l : Int) (z : Option Addr) (w : World) :
    Calls Ybad.prog 26 #[.agg #[.int .u64 h, .int .u64 l, .pointer z, .int .u8 0]] w fun e w' => e = .returned (.bool false) ∧ Below w.heap.size w w' :=
  (isValid_any h l 0 z w).mono fun _ _ h => h

theorem cell_lt' {W : World} {p : Addr} (h : (W.cell? p).isSome = true) : p.block < W.heap.size := by
  rcases Nat.lt_or_ge p.block W.heap.size with h' | h'
  · exact h'
  · simp [World.cell?, Array.getElem?_eq_none h'] at h

theorem cells_up {W w3 : World} (h : Below W.heap.size W w3) : (∀ b o, (W.cell? ⟨b, o, none⟩).isSome = true → w3.cell? ⟨b, o, none⟩ = W.cell? ⟨b, o, none⟩) ∧ (∀ b o, (W.cell? ⟨b, o, none⟩).isSome = true → w3.frozen? ⟨b, o, none⟩ = W.frozen? ⟨b, o, none⟩) :=
  ⟨fun b o hs => Below.cell (p := ⟨b, o, none⟩) h (cell_lt' hs), fun b o hs => Below.frozen (p := ⟨b, o, none⟩) h (cell_lt' hs)⟩

theorem single_no (h l : Int) (z : Option Addr) (w : World) : Calls Ybad.prog 20 #[.agg #[.int .u64 h, .int .u64 l, .pointer z, .int .u8 0]] w fun e w' => e = .returned (.bool false) ∧ Below w.heap.size w w' := by
  have B0 : Hid (Below w.heap.size w (w.alloc (.cells #[.int .u64 h, .int .u64 l, .pointer z, .int .u8 0] 45))) := (Below.refl _ w).alloc (Nat.le_refl _) _
  have c0 : (w.alloc (.cells #[.int .u64 h, .int .u64 l, .pointer z, .int .u8 0] 45)).cell? ⟨w.heap.size, 0, none⟩ = some (.int .u64 h) := by go_simp
  have c1 : (w.alloc (.cells #[.int .u64 h, .int .u64 l, .pointer z, .int .u8 0] 45)).cell? ⟨w.heap.size, 1, none⟩ = some (.int .u64 l) := by go_simp
  have c2 : (w.alloc (.cells #[.int .u64 h, .int .u64 l, .pointer z, .int .u8 0] 45)).cell? ⟨w.heap.size, 2, none⟩ = some (.pointer z) := by go_simp
  have c3 : (w.alloc (.cells #[.int .u64 h, .int .u64 l, .pointer z, .int .u8 0] 45)).cell? ⟨w.heap.size, 3, none⟩ = some (.int .u8 0) := by go_simp
  have hl : w.heap.size < (w.alloc (.cells #[.int .u64 h, .int .u64 l, .pointer z, .int .u8 0] 45)).heap.size := by simp
  go_enter Ybad.func20, Ybad.ntmps20
  go_wp2
  generalize w.alloc (.cells #[.int .u64 h, .int .u64 l, .pointer z, .int .u8 0] 45) = w1 at B0 c0 c1 c2 c3 hl ⊢
  have K : Hid (∀ W, Below w1.heap.size w1 W → Calls Ybad.prog 26 #[.agg #[.int .u64 h, .int .u64 l, .pointer z, .int .u8 0]] W fun e w' => e = .returned (.bool false) ∧ Below w1.heap.size w1 w') := fun W hW => (isValid_no h l z W).mono fun _ _ ⟨he, hb⟩ => ⟨he, hW.trans (hb.mono hW.size)⟩
  refine region_quiet_tail (C := fun W => Below w1.heap.size w1 W) 10 (by kernel_rfl) (by kernel_rfl) (Below.refl _ _).drew ?_
  simp only [List.take_succ_cons, List.take_zero, List.drop_succ_cons, List.drop_zero]
  repeat (first
    | go_big_quiet_step ((intro hW; (go_at_call 26; exact K.out _ hW)))
    | (go_big_quiet_want; apply Exists.intro; refine ⟨fun W hW => ?_, ?_⟩; (have k0 := (hW.cell (p := ⟨w.heap.size, 0, none⟩) hl).trans c0; have k1 := (hW.cell (p := ⟨w.heap.size, 1, none⟩) hl).trans c1; have k2 := (hW.cell (p := ⟨w.heap.size, 2, none⟩) hl).trans c2; have k3 := (hW.cell (p := ⟨w.heap.size, 3, none⟩) hl).trans c3; go_simp; rfl); go_big_quiet_on; simp only [Act.put, List.setIfInBounds_toArray, List.set_cons_succ, List.set_cons_zero]))
  refine wpQuiet_nil ?_
  intro W hW
  go_wp2
  go_ret
  exact ⟨rfl, B0.out.trans (hW.mono B0.out.size)⟩

theorem prefixStr_no (h l : Int) (z : Option Addr) (w : World) : Calls Ybad.prog 23 #[.agg #[.int .u64 h, .int .u64 l, .pointer z, .int .u8 0]] w fun e w' => e = .returned (.string ⟨#[105, 110, 118, 97, 108, 105, 100, 32, 80, 114, 101, 102, 105, 120]⟩) ∧ Below w.heap.size w w' := by
  go_enter Ybad.func23, Ybad.ntmps23
  go_wp2
  go_ret
  exact ⟨rfl, ((Below.refl _ _).alloc (Nat.le_refl _) _).alloc (by simp) _⟩

theorem prefixText_no (h l : Int) (z : Option Addr) (w : World) : Calls Ybad.prog 12 #[.agg #[.int .u64 h, .int .u64 l, .pointer z, .int .u8 0]] w fun e w' => e = .returned (.string ⟨#[105, 110, 118, 97, 108, 105, 100, 32, 80, 114, 101, 102, 105, 120]⟩) ∧ Below w.heap.size w w' := by
  have K1 : Hid (Calls Ybad.prog 20 #[.agg #[.int .u64 h, .int .u64 l, .pointer z, .int .u8 0]] (w.alloc (.cells #[.int .u64 h, .int .u64 l, .pointer z, .int .u8 0] 45)) fun e w1 => e = .returned (.bool false) ∧ Hid (Below w.heap.size w w1) ∧ w1.cell? ⟨w.heap.size, 0, none⟩ = some (.int .u64 h) ∧ w1.cell? ⟨w.heap.size, 1, none⟩ = some (.int .u64 l) ∧ w1.cell? ⟨w.heap.size, 2, none⟩ = some (.pointer z) ∧ w1.cell? ⟨w.heap.size, 3, none⟩ = some (.int .u8 0)) := by
    refine (single_no h l z _).mono ?_
    rintro e w1 ⟨rfl, b1⟩
    have hl : w.heap.size < (w.alloc (.cells #[.int .u64 h, .int .u64 l, .pointer z, .int .u8 0] 45)).heap.size := by simp
    refine ⟨rfl, ((Below.refl _ w).alloc (Nat.le_refl _) _).trans (b1.mono (by simp)), ?_, ?_, ?_, ?_⟩
    · exact (b1.cell (p := ⟨w.heap.size, 0, none⟩) hl).trans (by go_simp)
    · exact (b1.cell (p := ⟨w.heap.size, 1, none⟩) hl).trans (by go_simp)
    · exact (b1.cell (p := ⟨w.heap.size, 2, none⟩) hl).trans (by go_simp)
    · exact (b1.cell (p := ⟨w.heap.size, 3, none⟩) hl).trans (by go_simp)
  go_enter Ybad.func12, Ybad.ntmps12
  go_wp2_with (first
    | (go_at_call 20; refine K1.out.mono ?_; rintro e w1 ⟨rfl, b1, x0, x1, x2, x3⟩)
    | (go_at_call 23; refine (prefixStr_no h l z _).mono ?_; rintro e w2 ⟨rfl, b2⟩))
  go_ret
  exact ⟨rfl, b1.out.trans (b2.mono b1.out.size)⟩

/-- PrefixFrom of an IPv4 address and a length beyond 32. -/
theorem prefixFrom_no (h l n : Int) (hn : 32 < n ∧ n < 256) (a : Addr) (w : World) (h0 : w.cell? ⟨2, 0, none⟩ = some (.pointer none)) (h4 : w.cell? ⟨1, 0, none⟩ = some (.pointer (some a))) (hs : 2 < w.heap.size) :
    Calls Ybad.prog 9 #[.agg #[.int .u64 h, .int .u64 l, .pointer (some a)], .int .i64 n] w fun e w' => e = .returned (.agg #[.int .u64 h, .int .u64 l, .pointer (some a), .int .u8 0]) ∧ Below w.heap.size w w' := by
  obtain ⟨hn0, hn1⟩ := hn
  have g0 : 0 ≤ n := by omega
  have g1 : ¬ n ≤ 32 := by omega
  have t1 : 1 < w.heap.size + 1 := by omega
  have t2 : 2 < w.heap.size + 1 := by omega
  have hs1 : 1 < w.heap.size := by omega
  have W0 := hidn (((Below.refl _ w).alloc (Nat.le_refl _) (.cells #[.int .u64 h, .int .u64 l, .pointer (some a)] 33)).alloc (by simp) (.cells #[.int .u64 0, .int .u64 0, .pointer none, .int .u8 0] 45))
  have K17 := hidn (isZero_some h l a ((w.alloc (.cells #[.int .u64 h, .int .u64 l, .pointer (some a)] 33)).alloc (.cells #[.int .u64 0, .int .u64 0, .pointer none, .int .u8 0] 45)) ((W0.out.cell (p := ⟨2, 0, none⟩) hs).trans h0) (Nat.lt_of_lt_of_le hs W0.out.size))
  have K18 : Hid (∀ W, Below w.heap.size w W → Calls Ybad.prog 18 #[.agg #[.int .u64 h, .int .u64 l, .pointer (some a)]] W fun e w' => e = .returned (.int .i64 32) ∧ Below W.heap.size W w') := fun W hW => bitLen4 h l a W ((hW.cell (p := ⟨2, 0, none⟩) hs).trans h0) ((hW.cell (p := ⟨1, 0, none⟩) hs1).trans h4) (Nat.lt_of_lt_of_le hs hW.size)
  have K19 : Hid (∀ W, Below w.heap.size w W → Calls Ybad.prog 19 #[.agg #[.int .u64 h, .int .u64 l, .pointer (some a)]] W fun e w' => e = .returned (.agg #[.int .u64 h, .int .u64 l, .pointer (some a)]) ∧ Below W.heap.size W w') := fun W hW => withoutZone4 h l a W ((hW.cell (p := ⟨2, 0, none⟩) hs).trans h0) ((hW.cell (p := ⟨1, 0, none⟩) hs1).trans h4) (Nat.lt_of_lt_of_le hs hW.size)
  go_enter Ybad.func9, Ybad.ntmps9
  go_wp2_with (first
    | (go_at_call 17; refine K17.out.mono ?_; rintro e w3 ⟨rfl, b3⟩; obtain ⟨hc3, hf3⟩ := cells_up b3; have B3 := hidn (W0.out.trans (b3.mono W0.out.size)))
    | (go_at_call 18; refine (K18.out _ B3.out).mono ?_; rintro e w4 ⟨rfl, b4⟩; obtain ⟨hc4, hf4⟩ := cells_up (b3.trans (b4.mono b3.size)); have B4 := hidn (B3.out.trans (b4.mono B3.out.size)); clear hc3 hf3)
    | (go_at_call 19; refine (K19.out _ B4.out).mono ?_; rintro e w5 ⟨rfl, b5⟩; obtain ⟨hc5, hf5⟩ := cells_up ((b3.trans (b4.mono b3.size)).trans (b5.mono (Nat.le_trans b3.size b4.size))); have B5 := hidn (B4.out.trans (b5.mono B4.out.size)); clear hc4 hf4))
  have q : ∀ o : Nat, w.heap.size ≤ (⟨w.heap.size + 1, o, none⟩ : Addr).block := fun o => Nat.le_succ _
  exact bodyPost_ret (v := .agg #[.int .u64 h, .int .u64 l, .pointer (some a), .int .u8 0]) (by simp [results, Ybad.results9, go_sem, *]) rfl ⟨rfl, (((B5.out.setCell (q 0) _).setCell (q 1) _).setCell (q 2) _).setCell (q 3) _⟩

end Go.Proofs.YbulkcmekDoor
