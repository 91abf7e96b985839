import Derived.Test.YbulkcmekDoorTxt
namespace Go.Proofs.YbulkcmekDoor
open Go.RowKit

/-- IsSingleIP of a valid IPv4 prefix. -/
theorem single_is (l p : Int) (r : Bool) (hp : 0 < p ∧ p ≤ 33) (hr : (p - 1 == 32) = r) (z : Addr) (w : World) (h0 : w.cell? ⟨2, 0, none⟩ = some (.pointer none)) (h4 : w.cell? ⟨1, 0, none⟩ = some (.pointer (some z))) (hs : 2 < w.heap.size) :
    Calls Ybad.prog 20 #[.agg #[.int .u64 0, .int .u64 l, .pointer (some z), .int .u8 p]] w fun e w' => e = .returned (.bool r) ∧ Below w.heap.size w w' := by
  have hs1 : 1 < w.heap.size := by omega
  have B0 := (Below.refl _ w).alloc (Nat.le_refl _) (.cells #[.int .u64 0, .int .u64 l, .pointer (some z), .int .u8 p] 45)
  have c0 : (w.alloc (.cells #[.int .u64 0, .int .u64 l, .pointer (some z), .int .u8 p] 45)).cell? ⟨w.heap.size, 0, none⟩ = some (.int .u64 0) := by go_simp
  have c1 : (w.alloc (.cells #[.int .u64 0, .int .u64 l, .pointer (some z), .int .u8 p] 45)).cell? ⟨w.heap.size, 1, none⟩ = some (.int .u64 l) := by go_simp
  have c2 : (w.alloc (.cells #[.int .u64 0, .int .u64 l, .pointer (some z), .int .u8 p] 45)).cell? ⟨w.heap.size, 2, none⟩ = some (.pointer (some z)) := by go_simp
  have c3 : (w.alloc (.cells #[.int .u64 0, .int .u64 l, .pointer (some z), .int .u8 p] 45)).cell? ⟨w.heap.size, 3, none⟩ = some (.int .u8 p) := by go_simp
  have hl : w.heap.size < (w.alloc (.cells #[.int .u64 0, .int .u64 l, .pointer (some z), .int .u8 p] 45)).heap.size := by simp
  go_enter Ybad.func20, Ybad.ntmps20
  go_wp2
  generalize w.alloc (.cells #[.int .u64 0, .int .u64 l, .pointer (some z), .int .u8 p] 45) = w1 at B0 c0 c1 c2 c3 hl ⊢
  have K26 : Hid (∀ W, Below w1.heap.size w1 W → Calls Ybad.prog 26 #[.agg #[.int .u64 0, .int .u64 l, .pointer (some z), .int .u8 p]] W fun e w' => e = .returned (.bool true) ∧ Below w1.heap.size w1 w') := fun W hW => (isValid_yes 0 l p hp.1 (some z) W).mono fun _ _ ⟨he, hb⟩ => ⟨he, hW.trans (hb.mono hW.size)⟩
  have K27 : Hid (∀ W, Below w1.heap.size w1 W → Calls Ybad.prog 27 #[.agg #[.int .u64 0, .int .u64 l, .pointer (some z), .int .u8 p]] W fun e w' => e = .returned (.int .i64 (p - 1)) ∧ Below w1.heap.size w1 w') := fun W hW => (bits_any 0 l p ⟨by omega, by omega⟩ (some z) W).mono fun _ _ ⟨he, hb⟩ => ⟨he, hW.trans (hb.mono hW.size)⟩
  have K18 : Hid (∀ W, Below w1.heap.size w1 W → Calls Ybad.prog 18 #[.agg #[.int .u64 0, .int .u64 l, .pointer (some z)]] W fun e w' => e = .returned (.int .i64 32) ∧ Below w1.heap.size w1 w') := fun W hW =>
    (bitLen4 0 l z W ((hW.cell (p := ⟨2, 0, none⟩) (Nat.lt_of_lt_of_le hs B0.size)).trans ((B0.cell (p := ⟨2, 0, none⟩) hs).trans h0)) ((hW.cell (p := ⟨1, 0, none⟩) (Nat.lt_of_lt_of_le hs1 B0.size)).trans ((B0.cell (p := ⟨1, 0, none⟩) hs1).trans h4)) (Nat.lt_of_lt_of_le (Nat.lt_of_lt_of_le hs B0.size) hW.size)).mono fun _ _ ⟨he, hb⟩ => ⟨he, hW.trans (hb.mono hW.size)⟩
  have HB0 := hidn B0
  clear B0 h0 h4
  refine region_quiet_tail (C := fun W => Below w1.heap.size w1 W) 10 (by kernel_rfl) (by kernel_rfl) (Below.refl _ _).drew ?_
  simp only [List.take_succ_cons, List.take_zero, List.drop_succ_cons, List.drop_zero]
  repeat (first
    | go_big_quiet_step ((intro hW; first | (go_at_call 26; exact K26.out _ hW) | (go_at_call 27; exact K27.out _ hW) | (go_at_call 18; exact K18.out _ hW)))
    | (go_big_quiet_want; apply Exists.intro; refine ⟨fun W hW => ?_, ?_⟩; (have k0 := (hW.cell (p := ⟨w.heap.size, 0, none⟩) hl).trans c0; have k1 := (hW.cell (p := ⟨w.heap.size, 1, none⟩) hl).trans c1; have k2 := (hW.cell (p := ⟨w.heap.size, 2, none⟩) hl).trans c2; have k3 := (hW.cell (p := ⟨w.heap.size, 3, none⟩) hl).trans c3; go_simp; rfl); go_big_quiet_on; simp only [Act.put, List.setIfInBounds_toArray, List.set_cons_succ, List.set_cons_zero]))
  refine wpQuiet_nil ?_
  intro W hW
  go_wp2
  go_ret
  exact ⟨rfl, HB0.out.trans (hW.mono HB0.out.size)⟩

/-- PrefixFrom of an IPv4 address and a length up to 32. -/
theorem prefixFrom_yes (h l n : Int) (hn : 0 ≤ n ∧ n ≤ 32) (a : Addr) (w : World) (h0 : w.cell? ⟨2, 0, none⟩ = some (.pointer none)) (h4 : w.cell? ⟨1, 0, none⟩ = some (.pointer (some a))) (hs : 2 < w.heap.size) :
    Calls Ybad.prog 9 #[.agg #[.int .u64 h, .int .u64 l, .pointer (some a)], .int .i64 n] w fun e w' => e = .returned (.agg #[.int .u64 h, .int .u64 l, .pointer (some a), .int .u8 (n + 1)]) ∧ Below w.heap.size w w' := by
  obtain ⟨hn0, hn1⟩ := hn
  have t1 : 1 < w.heap.size + 1 := by omega
  have t2 : 2 < w.heap.size + 1 := by omega
  have hs1 : 1 < w.heap.size := by omega
  have W0 := hidn (((Below.refl _ w).alloc (Nat.le_refl _) (.cells #[.int .u64 h, .int .u64 l, .pointer (some a)] 33)).alloc (by simp) (.cells #[.int .u64 0, .int .u64 0, .pointer none, .int .u8 0] 45))
  have K17 := hidn (isZero_some h l a ((w.alloc (.cells #[.int .u64 h, .int .u64 l, .pointer (some a)] 33)).alloc (.cells #[.int .u64 0, .int .u64 0, .pointer none, .int .u8 0] 45)) ((W0.out.cell (p := ⟨2, 0, none⟩) hs).trans h0) (Nat.lt_of_lt_of_le hs W0.out.size))
  have K18 : Hid (∀ W, Below w.heap.size w W → Calls Ybad.prog 18 #[.agg #[.int .u64 h, .int .u64 l, .pointer (some a)]] W fun e w' => e = .returned (.int .i64 32) ∧ Below W.heap.size W w') := fun W hW => bitLen4 h l a W ((hW.cell (p := ⟨2, 0, none⟩) hs).trans h0) ((hW.cell (p := ⟨1, 0, none⟩) hs1).trans h4) (Nat.lt_of_lt_of_le hs hW.size)
  have K19 : Hid (∀ W, Below w.heap.size w W → Calls Ybad.prog 19 #[.agg #[.int .u64 h, .int .u64 l, .pointer (some a)]] W fun e w' => e = .returned (.agg #[.int .u64 h, .int .u64 l, .pointer (some a)]) ∧ Below W.heap.size W w') := fun W hW => withoutZone4 h l a W ((hW.cell (p := ⟨2, 0, none⟩) hs).trans h0) ((hW.cell (p := ⟨1, 0, none⟩) hs1).trans h4) (Nat.lt_of_lt_of_le hs hW.size)
  go_enter Ybad.func9, Ybad.ntmps9
  go_wp2_with (first
    | (go_at_call 17; refine K17.out.mono ?_; rintro e w3 ⟨rfl, b3⟩; obtain ⟨hc3, hf3⟩ := cells_up b3; have B3 := hidn (W0.out.trans (b3.mono W0.out.size)))
    | (go_at_call 18; refine (K18.out _ B3.out).mono ?_; rintro e w4 ⟨rfl, b4⟩; obtain ⟨hc4, hf4⟩ := cells_up (b3.trans (b4.mono b3.size)); have B4 := hidn (B3.out.trans (b4.mono B3.out.size)); clear hc3 hf3)
    | (go_at_call 19; refine (K19.out _ B4.out).mono ?_; rintro e w5 ⟨rfl, b5⟩; obtain ⟨hc5, hf5⟩ := cells_up ((b3.trans (b4.mono b3.size)).trans (b5.mono (Nat.le_trans b3.size b4.size))); have B5 := hidn (B4.out.trans (b5.mono B4.out.size)); clear hc4 hf4))
  have q : ∀ o : Nat, w.heap.size ≤ (⟨w.heap.size + 1, o, none⟩ : Addr).block := fun o => Nat.le_succ _
  exact bodyPost_ret (v := .agg #[.int .u64 h, .int .u64 l, .pointer (some a), .int .u8 (n + 1)]) (by simp [results, Ybad.results9, go_sem, *]) rfl ⟨rfl, (((B5.out.setCell (q 0) _).setCell (q 1) _).setCell (q 2) _).setCell (q 3) _⟩

theorem prefixAddr (h l p : Int) (z : Option Addr) (w : World) : Calls Ybad.prog 21 #[.agg #[.int .u64 h, .int .u64 l, .pointer z, .int .u8 p]] w fun e w' => e = .returned (.agg #[.int .u64 h, .int .u64 l, .pointer z]) ∧ Below w.heap.size w w' := by
  go_enter Ybad.func21, Ybad.ntmps21
  go_wp2
  exact bodyPost_ret (v := .agg #[.int .u64 h, .int .u64 l, .pointer z]) (by simp [results, Ybad.results21, go_sem, *]) rfl ⟨rfl, ((Below.refl _ _).alloc (Nat.le_refl _) _).alloc (by simp) _⟩

/-- What prefixText writes. -/
def wrote (a b c d n : Int) : List UInt8 := if n = 32 then quad a b c d else slashed a b c d n

set_option maxHeartbeats 1000000 in
theorem prefixText_is (a b c d n : Int) (z : Addr) (w : World) (ha : 0 ≤ a ∧ a ≤ 255) (hb : 0 ≤ b ∧ b ≤ 255) (hc : 0 ≤ c ∧ c ≤ 255) (hd : 0 ≤ d ∧ d ≤ 255) (hn : 0 ≤ n ∧ n ≤ 32) (h0 : w.cell? ⟨2, 0, none⟩ = some (.pointer none)) (h4 : w.cell? ⟨1, 0, none⟩ = some (.pointer (some z))) (hs : 2 < w.heap.size) (l : Int) (hl : l = 281470681743360 + (a * 16777216 + b * 65536 + c * 256 + d)) :
    Calls Ybad.prog 12 #[.agg #[.int .u64 0, .int .u64 l, .pointer (some z), .int .u8 (n + 1)]] w fun e w' => e = .returned (.string ⟨(wrote a b c d n).toArray⟩) ∧ Below w.heap.size w w' := by
  have hs1 : 1 < w.heap.size := by omega
  have HL := hidn hl
  have HN := hidn hn
  clear hl
  have B0 := (Below.refl _ w).alloc (Nat.le_refl _) (.cells #[.int .u64 0, .int .u64 l, .pointer (some z), .int .u8 (n + 1)] 45)
  have up : ∀ W, Below w.heap.size w W → W.cell? ⟨2, 0, none⟩ = some (.pointer none) ∧ W.cell? ⟨1, 0, none⟩ = some (.pointer (some z)) ∧ 2 < W.heap.size := fun W hW => ⟨(hW.cell (p := ⟨2, 0, none⟩) hs).trans h0, (hW.cell (p := ⟨1, 0, none⟩) hs1).trans h4, Nat.lt_of_lt_of_le hs hW.size⟩
  have HU := hidn up
  have K1 : ∀ r, (n + 1 - 1 == 32) = r → Hid (Calls Ybad.prog 20 #[.agg #[.int .u64 0, .int .u64 l, .pointer (some z), .int .u8 (n + 1)]] (w.alloc (.cells #[.int .u64 0, .int .u64 l, .pointer (some z), .int .u8 (n + 1)] 45)) fun e w1 => e = .returned (.bool r) ∧ Hid (Below w.heap.size w w1) ∧ w1.cell? ⟨w.heap.size, 0, none⟩ = some (.int .u64 0) ∧ w1.cell? ⟨w.heap.size, 1, none⟩ = some (.int .u64 l) ∧ w1.cell? ⟨w.heap.size, 2, none⟩ = some (.pointer (some z)) ∧ w1.cell? ⟨w.heap.size, 3, none⟩ = some (.int .u8 (n + 1))) := fun r hr => by
    obtain ⟨u0, u4, us⟩ := up _ B0
    refine (single_is l (n + 1) r ⟨by omega, by omega⟩ hr z _ u0 u4 us).mono ?_
    rintro e w1 ⟨rfl, b1⟩
    have hl : w.heap.size < (w.alloc (.cells #[.int .u64 0, .int .u64 l, .pointer (some z), .int .u8 (n + 1)] 45)).heap.size := by simp
    refine ⟨rfl, B0.trans (b1.mono (by simp)), ?_, ?_, ?_, ?_⟩
    · exact (b1.cell (p := ⟨w.heap.size, 0, none⟩) hl).trans (by go_simp)
    · exact (b1.cell (p := ⟨w.heap.size, 1, none⟩) hl).trans (by go_simp)
    · exact (b1.cell (p := ⟨w.heap.size, 2, none⟩) hl).trans (by go_simp)
    · exact (b1.cell (p := ⟨w.heap.size, 3, none⟩) hl).trans (by go_simp)
  clear up B0 h0 h4 hn
  by_cases h32 : n = 32
  · have K := K1 true (by rw [h32]; rfl)
    have ew : wrote a b c d n = quad a b c d := if_pos h32
    clear K1
    rw [ew]
    have H32 := hidn h32
    clear h32 ew
    go_enter Ybad.func12, Ybad.ntmps12
    go_wp2_with (first
      | (go_at_call 20; refine K.out.mono ?_; rintro e w1 ⟨rfl, b1, x0, x1, x2, x3⟩)
      | (go_at_call 21; refine (prefixAddr 0 l (n + 1) (some z) _).mono ?_; rintro e w2 ⟨rfl, b2⟩; have B2 := hidn (b1.out.trans (b2.mono b1.out.size)))
      | (go_at_call 22; refine (addrString a b c d z _ ha hb hc hd (HU.out _ B2.out).1 (HU.out _ B2.out).2.1 (HU.out _ B2.out).2.2 l HL.out).mono ?_; rintro e w3 ⟨rfl, b3⟩))
    go_ret
    exact ⟨rfl, B2.out.trans (b3.mono B2.out.size)⟩
  · have K := K1 false (by simp; omega)
    have ew : wrote a b c d n = slashed a b c d n := if_neg h32
    clear K1
    rw [ew]
    have H32 := hidn h32
    clear h32 ew
    go_enter Ybad.func12, Ybad.ntmps12
    go_wp2_with (first
      | (go_at_call 20; refine K.out.mono ?_; rintro e w1 ⟨rfl, b1, x0, x1, x2, x3⟩)
      | (go_at_call 23; refine (prefixString a b c d n z _ ha hb hc hd HN.out (HU.out _ b1.out).2.1 (HU.out _ b1.out).2.2 l HL.out).mono ?_; rintro e w2 ⟨rfl, b2⟩))
    go_ret
    exact ⟨rfl, b1.out.trans (b2.mono b1.out.size)⟩

end Go.Proofs.YbulkcmekDoor
