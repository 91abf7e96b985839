/-
  container/heap.up, down over the rule's heap of rounds.
-/
import Derived.Test.YbulkcmgaFmtHq
namespace Go.Proofs.YbulkcmgaFmt
open Go Go.RowKit

variable {RB G n c : Nat} {a : Nat → Int} {w : World}

set_option maxHeartbeats 1000000 in
set_option maxRecDepth 100000 in
theorem up_is (j : Nat) (hw : Hw w RB G n c a) (hu : UpO a n j) (hn : n ≤ 1000) :
    Calls Ybaf.prog 33 #[.iface 94 (.pointer (some ⟨RB, 8, none⟩)), .int .i64 j] w fun e w' => e = .returned (.tuple #[]) ∧ ∃ a', Hw w' RB G n c a' ∧ Same a a' n ∧ HeapO a' n ∧ Only [G] w w' := by
  have HW := hidn (And.intro hw hu)
  clear hw hu
  go_enter Ybaf.func33, Ybaf.ntmps33
  go_wp2
  go_loopw [1] (fun s1 wr => ∃ (j : Nat) (a' : Nat → Int), s1 = .int .i64 j ∧ Hw wr RB G n c a' ∧ Same a a' n ∧ UpO a' n j ∧ Only [G] w wr) (fun s1 _ => (intOf s1).toNat)
  case atStart => exact ⟨j, a, rfl, HW.out.1, Same.refl _ _, HW.out.2, Only.refl _ _⟩
  case round =>
    obtain ⟨j, b, rfl, x1, x2, x3, x4⟩ := hrel
    rename World => wr
    clear HW
    have HX := hidn (And.intro x1 (And.intro x2 (And.intro x3 x4)))
    have hjn := x3.lt
    clear x1 x2 x3 x4
    by_cases hj : j = 0
    · subst hj
      go_wp2
      go_end0
      obtain ⟨x1, x2, x3, x4⟩ := HX.out
      exact ⟨rfl, b, x1, x2, x3.done (.inl rfl), x4⟩
    · obtain ⟨p, hp⟩ : ∃ p : Nat, p = (j - 1) / 2 := ⟨_, rfl⟩
      have e1 : ((j : Int) - 1) / 2 = (p : Int) := by omega
      have hne : ¬ (p : Int) = (j : Int) := by omega
      have hj1 : (1 : Int) ≤ (j : Int) := by omega
      have hpn : p < n := by omega
      have HP := hidn hp
      clear hp
      have m1 := mVal94 "Less" 55 hmLess94 ⟨RB, 8, none⟩ _ wr HX.out.1.at8.cell
      by_cases hlt : b j < b p
      · have m2 := fun q => mVal94 "Swap" 56 hmSwap94 ⟨RB, 8, none⟩ _ (wr.drewN q) (HX.out.1.drewN q).at8.cell
        go_wp2_with (first
          | (go_at_call 55; refine (less_is G n c j p b wr hjn hpn HX.out.1.row).mono ?_; rintro e w1 ⟨rfl, q, rfl⟩)
          | (go_at_call 56; refine (swap_is G n c p j b (wr.drewN q) hpn hjn (HX.out.1.drewN q).row).mono ?_; rintro e w2 ⟨rfl, y1, y2⟩))
        go_roundw
        case rel =>
          obtain ⟨x1, x2, x3, x4⟩ := HX.out
          have hp := HP.out
          subst hp
          exact ⟨_, _, rfl, (x1.drewN q).onlyG y1 y2, x2.trans (same_swp b hpn hjn), x3.step (by omega) hlt, (x4.drewN q).trans y2⟩
        case measure => simp [intOf]; omega
      · have hd : decide (b j < b p) = false := by simpa using hlt
        have HL := hidn hlt
        clear hlt
        go_wp2_with (go_at_call 55; refine (less_is G n c j p b wr hjn hpn HX.out.1.row).mono ?_; rintro e w1 ⟨rfl, q, rfl⟩)
        go_end0
        obtain ⟨x1, x2, x3, x4⟩ := HX.out
        have hp := HP.out
        exact ⟨rfl, b, x1.drewN q, x2, x3.done (.inr (by rw [← hp]; have := HL.out; omega)), x4.drewN q⟩

set_option maxHeartbeats 4000000 in
set_option maxRecDepth 100000 in
theorem down_is (m : Nat) (hm : m < n) (hw : Hw w RB G n c a) (hd : DownO a m 0) (hn : n ≤ 1000) :
    Calls Ybaf.prog 34 #[.iface 94 (.pointer (some ⟨RB, 8, none⟩)), .int .i64 0, .int .i64 m] w fun e w' => (∃ v, e = .returned (.bool v)) ∧ ∃ a', Hw w' RB G n c a' ∧ Same a a' m ∧ (∀ i, m ≤ i → a' i = a i) ∧ HeapO a' m ∧ Only [G] w w' := by
  have HW := hidn (And.intro hw hd)
  clear hw hd
  go_enter Ybaf.func34, Ybaf.ntmps34
  go_wp2
  go_loopw [7] (fun s7 wr => ∃ (i : Nat) (a' : Nat → Int), s7 = .int .i64 i ∧ Hw wr RB G n c a' ∧ Same a a' m ∧ (∀ i, m ≤ i → a' i = a i) ∧ DownO a' m i ∧ i ≤ m ∧ Only [G] w wr) (fun s7 _ => m - (intOf s7).toNat)
  case atStart => exact ⟨0, a, rfl, HW.out.1, Same.refl _ _, fun _ _ => rfl, HW.out.2, Nat.zero_le _, Only.refl _ _⟩
  case round =>
    obtain ⟨i, b, rfl, x1, x2, x3, x4, x5, x6⟩ := hrel
    rename World => wr
    clear HW
    have HX := hidn (And.intro x1 (And.intro x2 (And.intro x3 (And.intro x4 x6))))
    clear x1 x2 x3 x4 x6
    obtain ⟨j1, hj1⟩ : ∃ j1 : Nat, j1 = 2 * i + 1 := ⟨_, rfl⟩
    obtain ⟨j2, hj2⟩ : ∃ j2 : Nat, j2 = 2 * i + 2 := ⟨_, rfl⟩
    have e1 : 2 * (i : Int) + 1 = (j1 : Int) := by omega
    have e2 : (j1 : Int) + 1 = (j2 : Int) := by omega
    have hi3 : (i : Int) ≤ 1000 := by omega
    by_cases h1 : j1 < m
    · have h1' : (j1 : Int) < (m : Int) := by omega
      have hj3 : (j1 : Int) ≤ 1000 := by omega
      have HJ := hidn (And.intro hj1 hj2)
      clear hj1 hj2
      by_cases h2 : j2 < m
      · have h2' : (j2 : Int) < (m : Int) := by omega
        by_cases h3 : b j2 < b j1
        · have h3' : decide (b j2 < b j1) = true := by simpa using h3
          have m1 := mVal94 "Less" 55 hmLess94 ⟨RB, 8, none⟩ _ wr HX.out.1.at8.cell
          go_upto_region 8 with (go_at_call 55; refine (less_is G n c j2 j1 b wr (by omega) (by omega) HX.out.1.row).mono ?_; rintro e w1 ⟨rfl, q, rfl⟩)
          obtain ⟨x1, x2, x3, x4, x6⟩ := HX.out
          have y1 : Hw (wr.drewN q) RB G n c b := x1.drewN q
          have y6 : Only [G] w (wr.drewN q) := x6.drewN q
          clear x1 x6 m1 HX
          generalize wr.drewN q = w1 at y1 y6 ⊢
          have HX := hidn (And.intro y1 (And.intro x2 (And.intro x3 (And.intro x4 y6))))
          have m1 := mVal94 "Less" 55 hmLess94 ⟨RB, 8, none⟩ _ w1 y1.at8.cell
          have m2 := fun q => mVal94 "Swap" 56 hmSwap94 ⟨RB, 8, none⟩ _ (w1.drewN q) (y1.drewN q).at8.cell
          clear y1 y6 x2 x3 x4
          by_cases h4 : b j2 < b i
          · go_wp2_with (first
              | (go_at_call 55; refine (less_is G n c j2 i b w1 (by omega) (by omega) HX.out.1.row).mono ?_; rintro e w2 ⟨rfl, q2, rfl⟩)
              | (go_at_call 56; refine (swap_is G n c i j2 b (w1.drewN q2) (by omega) (by omega) (HX.out.1.drewN q2).row).mono ?_; rintro e w3 ⟨rfl, y1, y2⟩))
            go_roundw
            case rel =>
              obtain ⟨x1, x2, x3, x4, x6⟩ := HX.out
              obtain ⟨k1, k2⟩ := HJ.out
              exact ⟨j2, swp b i j2, rfl, (x1.drewN q2).onlyG y1 y2, x2.trans (same_swp b (by omega) (by omega)), fun l hl => by rw [swp_o b (by omega) (by omega), x3 l hl], x4.step (by omega) (by omega) h4 (fun k hk hc => (by rcases hc with hc | hc <;> (have hc' : k = j1 ∨ k = j2 := by omega) <;> rcases hc' with rfl | rfl <;> omega)), by omega, (x6.drewN q2).trans y2⟩
            case measure => have := HJ.out; simp [intOf]; omega
          · have h4' : decide (b j2 < b i) = false := by simpa using h4
            have H4 := hidn h4
            clear h4
            go_wp2_with (go_at_call 55; refine (less_is G n c j2 i b w1 (by omega) (by omega) HX.out.1.row).mono ?_; rintro e w2 ⟨rfl, q2, rfl⟩)
            go_ret
            obtain ⟨x1, x2, x3, x4, x6⟩ := HX.out
            obtain ⟨k1, k2⟩ := HJ.out
            exact ⟨⟨_, rfl⟩, b, x1.drewN q2, x2, x3, x4.done (fun k hk hc => by have := (show b j2 ≤ b k from (by rcases hc with hc | hc <;> (have hc' : k = j1 ∨ k = j2 := by omega) <;> rcases hc' with rfl | rfl <;> omega)); have := H4.out; omega), x6.drewN q2⟩
        · have h3' : decide (b j2 < b j1) = false := by simpa using h3
          have m1 := mVal94 "Less" 55 hmLess94 ⟨RB, 8, none⟩ _ wr HX.out.1.at8.cell
          go_upto_region 8 with (go_at_call 55; refine (less_is G n c j2 j1 b wr (by omega) (by omega) HX.out.1.row).mono ?_; rintro e w1 ⟨rfl, q, rfl⟩)
          obtain ⟨x1, x2, x3, x4, x6⟩ := HX.out
          have y1 : Hw (wr.drewN q) RB G n c b := x1.drewN q
          have y6 : Only [G] w (wr.drewN q) := x6.drewN q
          clear x1 x6 m1 HX
          generalize wr.drewN q = w1 at y1 y6 ⊢
          have HX := hidn (And.intro y1 (And.intro x2 (And.intro x3 (And.intro x4 y6))))
          have m1 := mVal94 "Less" 55 hmLess94 ⟨RB, 8, none⟩ _ w1 y1.at8.cell
          have m2 := fun q => mVal94 "Swap" 56 hmSwap94 ⟨RB, 8, none⟩ _ (w1.drewN q) (y1.drewN q).at8.cell
          clear y1 y6 x2 x3 x4
          by_cases h4 : b j1 < b i
          · go_wp2_with (first
              | (go_at_call 55; refine (less_is G n c j1 i b w1 (by omega) (by omega) HX.out.1.row).mono ?_; rintro e w2 ⟨rfl, q2, rfl⟩)
              | (go_at_call 56; refine (swap_is G n c i j1 b (w1.drewN q2) (by omega) (by omega) (HX.out.1.drewN q2).row).mono ?_; rintro e w3 ⟨rfl, y1, y2⟩))
            go_roundw
            case rel =>
              obtain ⟨x1, x2, x3, x4, x6⟩ := HX.out
              obtain ⟨k1, k2⟩ := HJ.out
              exact ⟨j1, swp b i j1, rfl, (x1.drewN q2).onlyG y1 y2, x2.trans (same_swp b (by omega) (by omega)), fun l hl => by rw [swp_o b (by omega) (by omega), x3 l hl], x4.step (by omega) (by omega) h4 (fun k hk hc => (by rcases hc with hc | hc <;> (have hc' : k = j1 ∨ k = j2 := by omega) <;> rcases hc' with rfl | rfl <;> omega)), by omega, (x6.drewN q2).trans y2⟩
            case measure => have := HJ.out; simp [intOf]; omega
          · have h4' : decide (b j1 < b i) = false := by simpa using h4
            have H4 := hidn h4
            clear h4
            go_wp2_with (go_at_call 55; refine (less_is G n c j1 i b w1 (by omega) (by omega) HX.out.1.row).mono ?_; rintro e w2 ⟨rfl, q2, rfl⟩)
            go_ret
            obtain ⟨x1, x2, x3, x4, x6⟩ := HX.out
            obtain ⟨k1, k2⟩ := HJ.out
            exact ⟨⟨_, rfl⟩, b, x1.drewN q2, x2, x3, x4.done (fun k hk hc => by have := (show b j1 ≤ b k from (by rcases hc with hc | hc <;> (have hc' : k = j1 ∨ k = j2 := by omega) <;> rcases hc' with rfl | rfl <;> omega)); have := H4.out; omega), x6.drewN q2⟩
      · have h2' : ¬ (j2 : Int) < (m : Int) := by omega
        go_upto_region 8 with (fail)
        obtain ⟨y1, x2, x3, x4, y6⟩ := HX.out
        clear HX
        generalize wr = w1 at y1 y6 ⊢
        have HX := hidn (And.intro y1 (And.intro x2 (And.intro x3 (And.intro x4 y6))))
        have m1 := mVal94 "Less" 55 hmLess94 ⟨RB, 8, none⟩ _ w1 y1.at8.cell
        have m2 := fun q => mVal94 "Swap" 56 hmSwap94 ⟨RB, 8, none⟩ _ (w1.drewN q) (y1.drewN q).at8.cell
        clear y1 y6 x2 x3 x4
        by_cases h4 : b j1 < b i
        · go_wp2_with (first
            | (go_at_call 55; refine (less_is G n c j1 i b w1 (by omega) (by omega) HX.out.1.row).mono ?_; rintro e w2 ⟨rfl, q2, rfl⟩)
            | (go_at_call 56; refine (swap_is G n c i j1 b (w1.drewN q2) (by omega) (by omega) (HX.out.1.drewN q2).row).mono ?_; rintro e w3 ⟨rfl, y1, y2⟩))
          go_roundw
          case rel =>
            obtain ⟨x1, x2, x3, x4, x6⟩ := HX.out
            obtain ⟨k1, k2⟩ := HJ.out
            exact ⟨j1, swp b i j1, rfl, (x1.drewN q2).onlyG y1 y2, x2.trans (same_swp b (by omega) (by omega)), fun l hl => by rw [swp_o b (by omega) (by omega), x3 l hl], x4.step (by omega) (by omega) h4 (fun k hk hc => (by rcases hc with hc | hc <;> (have hc' : k = j1 ∨ k = j2 := by omega) <;> rcases hc' with rfl | rfl <;> omega)), by omega, (x6.drewN q2).trans y2⟩
          case measure => have := HJ.out; simp [intOf]; omega
        · have h4' : decide (b j1 < b i) = false := by simpa using h4
          have H4 := hidn h4
          clear h4
          go_wp2_with (go_at_call 55; refine (less_is G n c j1 i b w1 (by omega) (by omega) HX.out.1.row).mono ?_; rintro e w2 ⟨rfl, q2, rfl⟩)
          go_ret
          obtain ⟨x1, x2, x3, x4, x6⟩ := HX.out
          obtain ⟨k1, k2⟩ := HJ.out
          exact ⟨⟨_, rfl⟩, b, x1.drewN q2, x2, x3, x4.done (fun k hk hc => by have := (show b j1 ≤ b k from (by rcases hc with hc | hc <;> (have hc' : k = j1 ∨ k = j2 := by omega) <;> rcases hc' with rfl | rfl <;> omega)); have := H4.out; omega), x6.drewN q2⟩
    · have h1' : (m : Int) ≤ (j1 : Int) := by omega
      have HJ := hidn (And.intro hj1 hj2)
      clear hj1 hj2
      go_wp2
      go_ret
      obtain ⟨x1, x2, x3, x4, x6⟩ := HX.out
      exact ⟨⟨_, rfl⟩, b, x1, x2, x3, x4.done (fun j hj hc => by have := HJ.out; omega), x6⟩

end Go.Proofs.YbulkcmgaFmt
