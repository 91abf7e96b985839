import Derived.Test.YbulkcmekDoorCopy
import Derived.Test.YbulkcmekDoorLawLib
import Derived.Test.YbulkcmekDoorStore
import Derived.Lib.SliceRun
import Derived.Lib.Builder
namespace Go.Proofs.YbulkcmekDoor
open Go.RowKit

/-- The packet as the law lays it ahead of the call. -/
def pk0 : List Value := [.slice none 0 0, .int .i64 (-1), .int .u64 0, .int .u64 0, .pointer none, .int .u64 0, .int .u64 0, .pointer none, .int .u8 7, .int .u32 9, .int .u8 8, .int .u16 1, .int .u16 2, .bool true, .int .u32 3, .bool true, .int .i64 (-3), .int .u8 0, .int .u32 0, .int .i64 0, .bool false, .int .i64 0]
def pkZ : Array Value := #[.slice none 0 0, .int .i64 0, .int .u64 0, .int .u64 0, .pointer none, .int .u64 0, .int .u64 0, .pointer none, .int .u8 0, .int .u32 0, .int .u8 0, .int .u16 0, .int .u16 0, .bool false, .int .u32 0, .bool false, .int .i64 0, .int .u8 0, .int .u32 0, .int .i64 0, .bool false, .int .i64 0]
theorem pk0_one : pk0.toArray.all (·.oneCell') = true := by simp [pk0, Value.oneCell']
theorem pkZ_row (w : World) : (w.alloc (.cells pkZ 37)).rowIs w.heap.size 37 22 (fun i => pkZ.getD i undef) :=
  World.rowIs_alloc w pkZ 37 (fun i => pkZ.getD i undef) (fun i hi => by simp [Array.getElem?_eq_getElem hi])

/-- A header that is not well formed. -/
def NoHead (n : Nat) (Z : Nat → Int) : Prop := n < 20 ∨ ¬ Z 0 / 16 = 4 ∨ (Z 0 % 16) * 4 < 20 ∨ Z 2 * 256 + Z 3 < (Z 0 % 16) * 4 ∨ (n : Int) < (Z 0 % 16) * 4

theorem read_no (p g n : Nat) (Z : Nat → Int) (hZ : Byt Z) (w : World) (hr : w.rowIs g 5 n (fun i => .int .u8 (Z i))) (hn : n ≤ 1024) (h : NoHead n Z) :
    Calls Ybad.prog 7 #[.pointer (some ⟨p, 0, none⟩), .slice (some ⟨g, 0, none⟩) n n] w fun e w' => e = .returned (.bool false) ∧ Below w.heap.size w w' := by
  by_cases h0 : n < 20 ∨ ¬ Z 0 / 16 = 4
  · exact (read_short p g n Z hZ w hr hn h0).mono fun e w' ⟨h1, h2⟩ => ⟨h1, h2 ▸ Below.refl _ _⟩
  · have h20 : 20 ≤ n := by omega
    have h4 : Z 0 / 16 = 4 := by omega
    refine read_bad p g n Z hZ w hr hn h20 h4 ?_
    unfold NoHead at h
    omega

theorem info5' : ∃ j, Ybad.prog.info? 5 = some j := by
  cases h : Ybad.prog.info? 5 with
  | none => exact absurd info5 (by rw [h]; simp)
  | some j => exact ⟨j, rfl⟩
theorem ptr_neq (W : World) (a : Addr) : (binOp .neq 40 (.pointer (some a)) (.pointer (some a))).run Ybad.prog W = .ok (.bool false) W :=
  let ⟨_, hj⟩ := info5'
  Lib.run_neq_ptr_same W a Ybad.underlying40 hj

/-- The two ways through 'if len(c) < end' meet again: only the slots 15, 153, 154 and 155 part. -/
theorem meet15 {P : Program} {s : Code} {K : Act → World → Prop} {Q' : Exit → Act → World → Prop} {a : Act} {w : World} (m : Int)
    (first : ∀ J : Act → World → Prop, (∀ x y z, J ((((a.put (some 15) (.int .i64 m)).put (some 153) x).put (some 154) y).put (some 155) z) w) → s.wp P (Exit.then J Q') a w)
    (rest : ∀ x y z, K ((((a.put (some 15) (.int .i64 m)).put (some 153) x).put (some 154) y).put (some 155) z) w) : s.wp P (Exit.then K Q') a w := first K rest

set_option maxHeartbeats 20000000 in
set_option maxRecDepth 100000 in
theorem law_any (ao : Option Addr) (len cap : Nat) (Y : Nat → Int) (hY : Byt Y) (x m s : Int) (hx : 0 ≤ x ∧ x ≤ 255) (hm : 0 ≤ m ∧ m ≤ 255) (hs : 0 ≤ s ∧ s ≤ 255) (w : World) (hc : Seen w ao len Y) (hlen : len ≤ 1024)
    (z : Option Addr) (hz : w.cell? ⟨1, 0, none⟩ = some (.pointer z)) (h1 : 1 < w.heap.size) :
    Calls Ybad.prog 3 #[.slice ao len cap, .int .u8 x, .int .u8 m, .int .u8 s] w fun e w' => e = .returned (.bool true) ∧ Below w.heap.size w w' := by
  have K6 := hid (build_any ao len cap Y hY hlen x m s hx hm hs w hc)
  clear hc
  have hl0 : (len : Int) ≤ 1024 := by omega
  go_enter Ybad.func3, Ybad.ntmps3
  go_wp2_with (first | (go_at_call 6; refine K6.out.mono ?_; rintro e w1 ⟨n, Z, hn, rfl, hZ, hr, hb⟩; clear K6) | (refine wpList_store_row rfl 37 (.tmp 10) (.tmp 39) rfl w1.heap.size 37 22 _ pk0 rfl rfl (pkZ_row w1) rfl info37 pk0_one w1.heap.size w1 ((Below.refl _ _).alloc (Nat.le_refl _) _) (Nat.le_refl _) ?_; intro w2 R2 B2 L2))
  obtain ⟨p, hp⟩ : ∃ p, p = w1.heap.size := ⟨_, rfl⟩
  rw [← hp] at R2 B2 L2 ⊢
  have hgp : w.heap.size < p := by rw [hp]; exact hr.lt
  have hr2 : w2.rowIs w.heap.size 5 n (fun i => .int .u8 (Z i)) := hr.of_block (B2.out.block _ hgp)
  have hb2 : Hid (Below w.heap.size w w2) := hb.trans (B2.out.mono (Nat.le_of_lt hgp))
  clear hp hr hb B2
  have b0 := hZ 0
  have b2 := hZ 2
  have b3 := hZ 3
  have e15 : bits .and .u8 (Z 0) 15 = Z 0 % 16 := u8_and15 _ (by omega) (by omega)
  have eOr := or_i64 (Z 2) (Z 3) (hZ 2) (hZ 3)
  by_cases hno : NoHead n Z
  · as_aux_lemma =>
      refine (read_no p w.heap.size n Z hZ w2 hr2 hn hno).mono ?_
      rintro e w3 ⟨rfl, hb3⟩
      have R3 : w3.rowIs p 37 22 (fun i => pk0.getD i undef) := R2.out.of_block (hb3.block p L2.out)
      have hr3 : w3.rowIs w.heap.size 5 n (fun i => .int .u8 (Z i)) := hr2.of_block (hb3.block _ (Nat.lt_trans hgp L2.out))
      have fin : Hid (Below w.heap.size w w3) := hb2.out.trans (hb3.mono hb2.out.size)
      have x0 := at_cell R3 0 (by decide) (v := .slice none 0 0) rfl
      have x1 := at_cell R3 1 (by decide) (v := .int .i64 (-1)) rfl
      have x8 := at_cell R3 8 (by decide) (v := .int .u8 7) rfl
      have x9 := at_cell R3 9 (by decide) (v := .int .u32 9) rfl
      have x10 := at_cell R3 10 (by decide) (v := .int .u8 8) rfl
      have x11 := at_cell R3 11 (by decide) (v := .int .u16 1) rfl
      have x12 := at_cell R3 12 (by decide) (v := .int .u16 2) rfl
      have x13 := at_cell R3 13 (by decide) (v := .bool true) rfl
      have x14 := at_cell R3 14 (by decide) (v := .int .u32 3) rfl
      have x15 := at_cell R3 15 (by decide) (v := .bool true) rfl
      have x16 := at_cell R3 16 (by decide) (v := .int .i64 (-3)) rfl
      have x17 := at_cell R3 17 (by decide) (v := .int .u8 0) rfl
      have x18 := at_cell R3 18 (by decide) (v := .int .u32 0) rfl
      have x19 := at_cell R3 19 (by decide) (v := .int .i64 0) rfl
      have x20 := at_cell R3 20 (by decide) (v := .bool false) rfl
      have x21 := at_cell R3 21 (by decide) (v := .int .i64 0) rfl
      clear R2 hb2 hb3 R3 hr2
      have hnl := fun (W : World) => Lib.run_eql_slice_nil (P := Ybad.prog) W 22 5 none 0 0 0 0 Ybad.underlying22
      unfold NoHead at hno
      by_cases h20 : n < 20
      · clear hno hr3
        go_wp2
        go_ret
        exact ⟨rfl, fin.out⟩
      · have c0 : w3.cell? ⟨w.heap.size, 0, none⟩ = some (.int .u8 (Z 0)) := hr3.cell (i := 0) (by omega)
        have c2 : w3.cell? ⟨w.heap.size, 2, none⟩ = some (.int .u8 (Z 2)) := hr3.cell (i := 2) (by omega)
        have c3 : w3.cell? ⟨w.heap.size, 3, none⟩ = some (.int .u8 (Z 3)) := hr3.cell (i := 3) (by omega)
        have n0 : 0 < n := by omega
        have n2 : (2 : Int) < (n : Int) := by omega
        have n3 : (3 : Int) < (n : Int) := by omega
        clear hr3
        by_cases h4 : Z 0 / 16 = 4
        · have h4b : (Z 0 / 16 == 4) = true := by simp [h4]
          have hno' : (Z 0 % 16) * 4 < 20 ∨ Z 2 * 256 + Z 3 < (Z 0 % 16) * 4 ∨ (n : Int) < (Z 0 % 16) * 4 := by omega
          clear h4 hno
          go_wp2
          go_quiet (fail)
          by_cases A : (Z 0 % 16) * 4 < 20
          · go_wp2
            go_ret
            exact ⟨rfl, below_drewN fin.out _⟩
          · by_cases B : Z 2 * 256 + Z 3 < (Z 0 % 16) * 4
            · go_wp2
              go_ret
              exact ⟨rfl, below_drewN fin.out _⟩
            · have C : (n : Int) < (Z 0 % 16) * 4 := by omega
              go_wp2
              go_ret
              exact ⟨rfl, below_drewN fin.out _⟩
        · have h4b : (Z 0 / 16 == 4) = false := by simp [h4]
          clear h4 hno
          go_wp2
          go_ret
          exact ⟨rfl, fin.out⟩
  · have hn20 : 20 ≤ n := by unfold NoHead at hno; omega
    have h4 : Z 0 / 16 = 4 := by unfold NoHead at hno; omega
    have b6 := hZ 6
    have b7 := hZ 7
    obtain ⟨hl, ehl⟩ : ∃ hl : Nat, Z 0 % 16 * 4 = hl := ⟨(Z 0 % 16 * 4).toNat, by omega⟩
    obtain ⟨L, eL⟩ : ∃ L : Nat, Z 2 * 256 + Z 3 = L := ⟨(Z 2 * 256 + Z 3).toNat, by omega⟩
    obtain ⟨F, eF⟩ : ∃ F : Nat, Z 6 * 256 + Z 7 = F := ⟨(Z 6 * 256 + Z 7).toNat, by omega⟩
    have hhl : 20 ≤ hl := by unfold NoHead at hno; omega
    have hL : hl ≤ L := by unfold NoHead at hno; omega
    have hnl : hl ≤ n := by unfold NoHead at hno; omega
    clear hno
    obtain ⟨mo, emo⟩ : ∃ mo, (bits .and .u16 (F : Int) 8192 != 0) = mo := ⟨_, rfl⟩
    obtain ⟨mm, hmn, hm1, hm2, hm3⟩ : ∃ mm : Nat, (if n < L then (n : Int) else (L : Int)) = (mm : Int) ∧ mm ≤ n ∧ hl ≤ mm ∧ (n < L ∧ mm = n ∨ ¬ n < L ∧ mm = L) := by
      by_cases h : n < L
      · exact ⟨n, by rw [if_pos h], Nat.le_refl _, hnl, .inl ⟨h, rfl⟩⟩
      · exact ⟨L, by rw [if_neg h], by omega, hL, .inr ⟨h, rfl⟩⟩
    · refine (read_good p w.heap.size n Z hZ _ w2 hr2 R2.out hgp hn hn20 h4 hl L F mm ehl eL eF hhl hL hnl hmn hm1 hm2 mo emo z ((hb2.out.cell (p := ⟨1, 0, none⟩) h1).trans hz) h1).mono ?_
      rintro e w3 ⟨rfl, ⟨sp, dp, hp, spi, hs, hU, R3⟩, hb3⟩
      have L3 := hid R3.lt
      have hr3 : w3.rowIs w.heap.size 5 n (fun i => .int .u8 (Z i)) := hr2.of_block (hb3.block _ hgp)
      have fin : Hid (Below w.heap.size w w3) := hb2.out.trans (hb3.mono (Nat.le_of_lt hgp))
      have hcz : ∀ i, i < n → w3.cell? ⟨w.heap.size, i, none⟩ = some (.int .u8 (Z i)) := fun i hi => hr3.cell hi
      have x0 := at_cell R3 0 (by decide) (v := .slice (some ⟨w.heap.size, 0, none⟩) mm n) rfl
      have x1 := at_cell R3 1 (by decide) (v := .int .i64 L) rfl
      have x2 := at_cell R3 2 (by decide) (v := .int .u64 0) rfl
      have x3 := at_cell R3 3 (by decide) (v := .int .u64 (ipW (Z 12) (Z 13) (Z 14) (Z 15))) rfl
      have x4 := at_cell R3 4 (by decide) (v := .pointer z) rfl
      have x5 := at_cell R3 5 (by decide) (v := .int .u64 0) rfl
      have x6 := at_cell R3 6 (by decide) (v := .int .u64 (ipW (Z 16) (Z 17) (Z 18) (Z 19))) rfl
      have x7 := at_cell R3 7 (by decide) (v := .pointer z) rfl
      have x8 := at_cell R3 8 (by decide) (v := .int .u8 (Z 1 / 4)) rfl
      have x9 := at_cell R3 9 (by decide) (v := .int .u32 0) rfl
      have x10 := at_cell R3 10 (by decide) (v := .int .u8 (Z 9)) rfl
      have x11 := at_cell R3 11 (by decide) (v := .int .u16 sp) rfl
      have x12 := at_cell R3 12 (by decide) (v := .int .u16 dp) rfl
      have x13 := at_cell R3 13 (by decide) (v := .bool hp) rfl
      have x14 := at_cell R3 14 (by decide) (v := .int .u32 spi) rfl
      have x15 := at_cell R3 15 (by decide) (v := .bool hs) rfl
      have x16 := at_cell R3 16 (by decide) (v := .int .i64 hl) rfl
      have x17 := at_cell R3 17 (by decide) (v := .int .u8 (Z 9)) rfl
      have x18 := at_cell R3 18 (by decide) (v := .int .u32 (Z 4 * 256 + Z 5)) rfl
      have x19 := at_cell R3 19 (by decide) (v := .int .i64 ((F : Int) % 8192 * 8)) rfl
      have x20 := at_cell R3 20 (by decide) (v := .bool mo) rfl
      have x21 := at_cell R3 21 (by decide) (v := .int .i64 (65535 - (hl : Int))) rfl
      have c0 := hcz 0 (by omega)
      have c2 := hcz 2 (by omega)
      have c3 := hcz 3 (by omega)
      have n0 : 0 < n := by omega
      have n2 : (2 : Int) < (n : Int) := by omega
      have n3 : (3 : Int) < (n : Int) := by omega
      have m0 : 0 < mm := by omega
      have h4b : (Z 0 / 16 == 4) = true := by simp [h4]
      have hpn := fun (W : World) (a : Addr) => ptr_neq W a
      have HU := hid hU
      have HO := hid emo
      have HF := hid eF
      have HZ := hid hcz
      have P3 := hid R3
      have HM := hid hm3
      clear h4 hU emo eF hcz hr3 hr2 R2 R3 hb2 hb3 L2 hmn hm3
      go_wp2
      go_quiet (fail)
      go_upto_if 153 with fail
      refine meet15 (mm : Int) ?_ ?_
      · intro J hJ
        by_cases hmin : n < L
        · have e : (mm : Int) = (n : Int) := by have := HM.out; omega
          have h2 := hJ (.bool (decide (n < L))) (.slice (some ⟨w.heap.size, 0, none⟩) n n) (.int .i64 n)
          simp only [Act.put, List.setIfInBounds_toArray, List.set_cons_succ, List.set_cons_zero, e] at h2
          clear e hJ
          go_wp2
          exact h2
        · have e : (mm : Int) = (L : Int) := by have := HM.out; omega
          have h2 := hJ (.bool (decide (n < L))) undef undef
          simp only [Act.put, List.setIfInBounds_toArray, List.set_cons_succ, List.set_cons_zero, e] at h2
          clear e hJ
          go_wp2
          exact h2
      intro x153 x154 x155
      simp only [Act.put, List.setIfInBounds_toArray, List.set_cons_succ, List.set_cons_zero]
      go_wp2
      go_quiet (fail)
      go_wp2
      go_loopw [16] (fun i wr => ∃ k t : Nat, k ≤ mm ∧ i = .int .i64 k ∧ wr = w3.drewN t) (fun i _ => mm - (intOf i).toNat)
      case atStart => exact ⟨0, _, Nat.zero_le _, rfl, World.drewN_drewN ..⟩
      case round =>
        obtain ⟨k, t, hk, rfl, rfl⟩ := hrel
        by_cases hlt : k < mm
        · have ck := HZ.out k (by omega)
          have k1 : (k : Int) < (mm : Int) := by omega
          have k2 : (k : Int) < (n : Int) := by omega
          go_wp2
          go_quiet (fail)
          go_wp2
          go_roundw
          case rel => exact ⟨k + 1, _, by omega, by go_num, rfl⟩
          case measure => simp [intOf]; omega
        · as_aux_lemma =>
            have c1 := HZ.out 1 (by omega)
            have c9 := HZ.out 9 (by omega)
            have n1 : (1 : Int) < (n : Int) := by omega
            have n9 : (9 : Int) < (n : Int) := by omega
            have A1 := hid (as16_ip (Z 12) (Z 13) (Z 14) (Z 15) (hZ 12) (hZ 13) (hZ 14) (hZ 15))
            have A2 := hid (as16_ip (Z 16) (Z 17) (Z 18) (Z 19) (hZ 16) (hZ 17) (hZ 18) (hZ 19))
            go_wp2
            go_quiet (fail)
            go_wp2_with (first | (go_at_call_of 8 (Value.int IntKind.u64 (ipW (Z 12) (Z 13) (Z 14) (Z 15))); refine (A1.out _ z).mono ?_; rintro e w4 ⟨rfl, hb4⟩; clear A1) | (refine wpList_store_row rfl 41 (.tmp 17) (.tmp 226) rfl w4.heap.size 41 16 _ (as16L (Z 12) (Z 13) (Z 14) (Z 15)) rfl rfl (z16_row w4) rfl info41 (as16_one ..) w4.heap.size w4 ((Below.refl _ _).alloc (Nat.le_refl _) _) (Nat.le_refl _) ?_; intro w5 R5 B5 L5; have B35 := hid ((below_drewN (Below.refl _ w3) _).trans (hb4.trans (B5.out.mono hb4.size))); have Q5 := hid (World.rowIs.of_block P3.out (B35.out.block p L3.out)); have y5 := at_cell Q5.out 5 (by decide) (v := .int .u64 0) rfl; have y6 := at_cell Q5.out 6 (by decide) (v := .int .u64 (ipW (Z 16) (Z 17) (Z 18) (Z 19))) rfl; have y7 := at_cell Q5.out 7 (by decide) (v := .pointer z) rfl) | (go_at_call_of 8 (Value.int IntKind.u64 (ipW (Z 16) (Z 17) (Z 18) (Z 19))); refine (A2.out _ z).mono ?_; rintro e w6 ⟨rfl, hb6⟩; clear A2) | (refine wpList_store_row rfl 41 (.tmp 18) (.tmp 229) rfl w6.heap.size 41 16 _ (as16L (Z 16) (Z 17) (Z 18) (Z 19)) rfl rfl (z16_row w6) rfl info41 (as16_one ..) w6.heap.size w6 ((Below.refl _ _).alloc (Nat.le_refl _) _) (Nat.le_refl _) ?_; intro w7 R7 B7 L7))
            have B37 := hid (B35.out.trans ((hb6.trans (B7.out.mono hb6.size)).mono B35.out.size))
            have Q7 := hid (World.rowIs.of_block P3.out (B37.out.block p L3.out))
            have S7 := hid (World.rowIs.of_block R5.out ((hb6.trans (B7.out.mono hb6.size)).block _ L5.out))
            have HC := hid (fun (i : Nat) (hi : i < n) => (B37.out.cell (p := ⟨w.heap.size, i, none⟩) (Nat.lt_trans hgp L3.out)).trans (HZ.out i hi))
            have fin7 : Hid (Below w.heap.size w w7) := fin.out.trans (B37.out.mono fin.out.size)
            clear hb4 hb6 R5 B5 L5 B7 B35 Q5 HZ P3 fin c0 c1 c2 c3 c9 y5 y6 y7 x0 x1 x2 x3 x4 x5 x6 x7 x8 x9 x10 x11 x12 x13 x14 x15 x16 x17 x18 x19 x20 x21 hpn h4b e15 eOr
            go_loop [19] (fun i => ∃ k : Nat, k ≤ 10 ∧ i = .int .i64 k) (fun i => 10 - (intOf i).toNat)
            case atStart => exact ⟨0, by omega, rfl⟩
            case round =>
              obtain ⟨k, hk, rfl⟩ := hrel
              by_cases hlt : k < 10
              · have s1 := as16_low S7.out hlt
                have d1 := as16_low R7.out hlt
                have k16 : (k : Int) < 16 := by omega
                go_wp2
                go_round
                case rel => exact ⟨k + 1, by omega, by go_num⟩
                case measure => simp [intOf]; omega
              · have s10 := World.rowIs.cell S7.out (i := 10) (by decide)
                have s11 := World.rowIs.cell S7.out (i := 11) (by decide)
                have d10 := World.rowIs.cell R7.out (i := 10) (by decide)
                have d11 := World.rowIs.cell R7.out (i := 11) (by decide)
                simp only [as16L, List.getD_cons_succ, List.getD_cons_zero] at s10 s11 d10 d11
                go_wp2
                clear s10 s11 d10 d11 hlt
                go_loopw [20] (fun i wr => ∃ k t : Nat, k ≤ 4 ∧ i = .int .i64 k ∧ wr = w7.drewN t) (fun i _ => 4 - (intOf i).toNat)
                case atStart => exact ⟨0, 0, by omega, rfl, rfl⟩
                case round =>
                  obtain ⟨k, t, hk, rfl, rfl⟩ := hrel
                  by_cases hlt : k < 4
                  · have s1 : w7.cell? ⟨w4.heap.size, 12 + k, none⟩ = some (.int .u8 (Z (12 + k))) := as16_high S7.out hlt
                    have d1 : w7.cell? ⟨w6.heap.size, 12 + k, none⟩ = some (.int .u8 (Z (16 + k))) := as16_high R7.out hlt
                    have c1 := HC.out (12 + k) (by omega)
                    have c2 := HC.out (16 + k) (by omega)
                    have k16 : (12 : Int) + (k : Int) < 16 := by omega
                    have kn : (12 : Int) + (k : Int) < (n : Int) := by omega
                    have kn' : (16 : Int) + (k : Int) < (n : Int) := by omega
                    go_wp2
                    go_quiet (fail)
                    go_wp2
                    go_roundw
                    case rel => exact ⟨k + 1, _, by omega, by go_num, rfl⟩
                    case measure => simp [intOf]; omega
                  · as_aux_lemma =>
                      have eF := HF.out
                      have eO6 := or_i64 (Z 6) (Z 7) (hZ 6) (hZ 7)
                      have e13 := and13_i64 F (by have := hZ 6; have := hZ 7; omega)
                      have eO4 := or_u32 (Z 4) (Z 5) (hZ 4) (hZ 5)
                      have emo : (bits .and .i64 (F : Int) 8192 != 0) = mo := by rw [more_same F (by have := hZ 6; have := hZ 7; omega)]; exact HO.out
                      have c4 := HC.out 4 (by omega)
                      have c5 := HC.out 5 (by omega)
                      have c6 := HC.out 6 (by omega)
                      have c7 := HC.out 7 (by omega)
                      have b4 := hZ 4
                      have b5 := hZ 5
                      have n4 : (4 : Int) < (n : Int) := by omega
                      have n5 : (5 : Int) < (n : Int) := by omega
                      have n6 : (6 : Int) < (n : Int) := by omega
                      have n7 : (7 : Int) < (n : Int) := by omega
                      have v11 := at_cell Q7.out 11 (by decide) (v := .int .u16 sp) rfl
                      have v12 := at_cell Q7.out 12 (by decide) (v := .int .u16 dp) rfl
                      have v13 := at_cell Q7.out 13 (by decide) (v := .bool hp) rfl
                      have v14 := at_cell Q7.out 14 (by decide) (v := .int .u32 spi) rfl
                      have v15 := at_cell Q7.out 15 (by decide) (v := .bool hs) rfl
                      have v18 := at_cell Q7.out 18 (by decide) (v := .int .u32 (Z 4 * 256 + Z 5)) rfl
                      have v19 := at_cell Q7.out 19 (by decide) (v := .int .i64 ((F : Int) % 8192 * 8)) rfl
                      have v20 := at_cell Q7.out 20 (by decide) (v := .bool mo) rfl
                      have v21 := at_cell Q7.out 21 (by decide) (v := .int .i64 (65535 - (hl : Int))) rfl
                      go_wp2
                      go_quiet (fail)
                      go_wp2
                      generalize hW' : w7.drewN (t + nq) = W
                      have hW : ∃ t, W = w7.drewN t := ⟨_, hW'.symm⟩
                      clear hW'
                      have QW : W.rowIs p 37 22 (pkF (pkL w.heap.size n mm hl L F Z mo z) sp dp hp spi hs) := by obtain ⟨_, rfl⟩ := hW; exact Q7.out
                      have HW : Hid (∀ i, i < n → W.cell? ⟨w.heap.size, i, none⟩ = some (.int .u8 (Z i))) := by obtain ⟨_, rfl⟩ := hW; exact HC.out
                      have FW : Below w.heap.size w W := by obtain ⟨_, rfl⟩ := hW; exact below_drewN fin7.out _
                      have F8 := hid (fun o => FW.alloc FW.size o)
                      have u11 := at_cell QW 11 (by decide) (v := .int .u16 sp) rfl
                      have u12 := at_cell QW 12 (by decide) (v := .int .u16 dp) rfl
                      have u13 := at_cell QW 13 (by decide) (v := .bool hp) rfl
                      have u14 := at_cell QW 14 (by decide) (v := .int .u32 spi) rfl
                      have u15 := at_cell QW 15 (by decide) (v := .bool hs) rfl
                      have u18 := at_cell QW 18 (by decide) (v := .int .u32 (Z 4 * 256 + Z 5)) rfl
                      have u19 := at_cell QW 19 (by decide) (v := .int .i64 ((F : Int) % 8192 * 8)) rfl
                      have u20 := at_cell QW 20 (by decide) (v := .bool mo) rfl
                      have u21 := at_cell QW 21 (by decide) (v := .int .i64 (65535 - (hl : Int))) rfl
                      have pW := QW.lt
                      have gW : w.heap.size < W.heap.size := by omega
                      have c9 := HW.out 9 (by omega)
                      have n9 : (9 : Int) < (n : Int) := by omega
                      have hlm : (hl : Int) ≤ (mm : Int) := by omega
                      have mn : (mm : Int) ≤ (n : Int) := by omega
                      have d4 := HW.out 4 (by omega)
                      have d5 := HW.out 5 (by omega)
                      have q1 : IntKind.u32.wrap (Z 4) = Z 4 := by rw [IntKind.wrap_u32']; omega
                      have q2 : IntKind.u32.wrap (Z 4 * 256) = Z 4 * 256 := by rw [IntKind.wrap_u32']; omega
                      have q3 : IntKind.u32.wrap (Z 5) = Z 5 := by rw [IntKind.wrap_u32']; omega
                      have q4 : IntKind.i64.wrap (65535 - (hl : Int)) = 65535 - (hl : Int) := by rw [IntKind.wrap_i64]; omega
                      clear hW QW Q7 HC fin7 FW S7 R7 L7 B37 c4 c5 c6 c7 v11 v12 v13 v14 v15 v18 v19 v20 v21
                      go_region_held3 (fun w' => w'.cell? ⟨w.heap.size, 4, none⟩ = some (.int .u8 (Z 4)) ∧ w'.cell? ⟨w.heap.size, 5, none⟩ = some (.int .u8 (Z 5))) (go_keep) (fail)
                      clear eO6 e13 eO4 emo eF d4 d5 q1 q2 q3 q4
                      rcases HU.out with ⟨h0, esp, edp, ehp, espi, ehs⟩ | ⟨h0, hpr, hk4, esp, edp, ehp, espi, ehs⟩ | ⟨h0, hpr, hk4, esp, edp, ehp, espi, ehs⟩ | ⟨h0, hpr, hk4, esp, edp, ehp, espi, ehs⟩ | ⟨h0, hpr, esp, edp, ehp, espi, ehs⟩
                      · as_aux_lemma =>
                          have hob : ((F : Int) % 8192 * 8 == 0) = false := by simp [h0]
                          clear h0
                          go_wp2
                          go_ret
                          first | exact ⟨rfl, F8.out _⟩ | exact ⟨rfl, (F8.out _).drew⟩ | exact ⟨rfl, below_drewN (F8.out _) _⟩ | exact ⟨rfl, below_drewN (F8.out _).drew _⟩ | exact ⟨rfl, below_drewN (below_drewN (F8.out _) _) _⟩
                      · as_aux_lemma =>
                          have hnh : ¬ n = hl := by omega
                          have hob : ((F : Int) % 8192 * 8 == 0) = true := by simp [h0]
                          clear h0
                          have g0 : W.cell? ⟨w.heap.size, hl, none⟩ = some (.int .u8 (Z (hl))) := HW.out (hl) (by omega)
                          have gb0 := hZ (hl)
                          have g1 : W.cell? ⟨w.heap.size, hl + 1, none⟩ = some (.int .u8 (Z (hl + 1))) := HW.out (hl + 1) (by omega)
                          have gb1 := hZ (hl + 1)
                          have g2 : W.cell? ⟨w.heap.size, hl + 2, none⟩ = some (.int .u8 (Z (hl + 2))) := HW.out (hl + 2) (by omega)
                          have gb2 := hZ (hl + 2)
                          have g3 : W.cell? ⟨w.heap.size, hl + 3, none⟩ = some (.int .u8 (Z (hl + 3))) := HW.out (hl + 3) (by omega)
                          have gb3 := hZ (hl + 3)
                          have kk0 : 0 < mm - hl := by omega
                          have kk1 : (1 : Int) < ((mm - hl : Nat) : Int) := by omega
                          have kj1 : (1 : Int) < (mm : Int) - (hl : Int) := by omega
                          have kk2 : (2 : Int) < ((mm - hl : Nat) : Int) := by omega
                          have kj2 : (2 : Int) < (mm : Int) - (hl : Int) := by omega
                          have kk3 : (3 : Int) < ((mm - hl : Nat) : Int) := by omega
                          have kj3 : (3 : Int) < (mm : Int) - (hl : Int) := by omega
                          have kt : (4 : Int) ≤ ((mm - hl : Nat) : Int) := by omega
                          have ku : (4 : Int) ≤ (mm : Int) - (hl : Int) := by omega
                          have r1 := or_u16 (Z hl) (Z (hl + 1)) (hZ _) (hZ _)
                          have r2 := or_u16 (Z (hl + 2)) (Z (hl + 3)) (hZ _) (hZ _)
                          have esp' : sp = Z hl * 256 + Z (hl + 1) := esp
                          have edp' : dp = Z (hl + 2) * 256 + Z (hl + 3) := edp
                          clear esp edp
                          rcases hpr with h9 | h9
                          all_goals
                            go_wp2
                            go_quiet (fail)
                            go_wp2
                            go_quiet (fail)
                            go_wp2
                            go_ret
                            first | exact ⟨rfl, F8.out _⟩ | exact ⟨rfl, (F8.out _).drew⟩ | exact ⟨rfl, below_drewN (F8.out _) _⟩ | exact ⟨rfl, below_drewN (F8.out _).drew _⟩ | exact ⟨rfl, below_drewN (below_drewN (F8.out _) _) _⟩
                      · as_aux_lemma =>
                          have hnh : ¬ n = hl := by omega
                          have hob : ((F : Int) % 8192 * 8 == 0) = true := by simp [h0]
                          clear h0
                          have g0 : W.cell? ⟨w.heap.size, hl, none⟩ = some (.int .u8 (Z (hl))) := HW.out (hl) (by omega)
                          have gb0 := hZ (hl)
                          have g1 : W.cell? ⟨w.heap.size, hl + 1, none⟩ = some (.int .u8 (Z (hl + 1))) := HW.out (hl + 1) (by omega)
                          have gb1 := hZ (hl + 1)
                          have g2 : W.cell? ⟨w.heap.size, hl + 2, none⟩ = some (.int .u8 (Z (hl + 2))) := HW.out (hl + 2) (by omega)
                          have gb2 := hZ (hl + 2)
                          have g3 : W.cell? ⟨w.heap.size, hl + 3, none⟩ = some (.int .u8 (Z (hl + 3))) := HW.out (hl + 3) (by omega)
                          have gb3 := hZ (hl + 3)
                          have kk0 : 0 < mm - hl := by omega
                          have kk1 : (1 : Int) < ((mm - hl : Nat) : Int) := by omega
                          have kj1 : (1 : Int) < (mm : Int) - (hl : Int) := by omega
                          have kk2 : (2 : Int) < ((mm - hl : Nat) : Int) := by omega
                          have kj2 : (2 : Int) < (mm : Int) - (hl : Int) := by omega
                          have kk3 : (3 : Int) < ((mm - hl : Nat) : Int) := by omega
                          have kj3 : (3 : Int) < (mm : Int) - (hl : Int) := by omega
                          have kt : (4 : Int) ≤ ((mm - hl : Nat) : Int) := by omega
                          have ku : (4 : Int) ≤ (mm : Int) - (hl : Int) := by omega
                          have r1 := or4_u32 (Z hl) (Z (hl + 1)) (Z (hl + 2)) (Z (hl + 3)) (hZ _) (hZ _) (hZ _) (hZ _)
                          have espi' : spi = Z hl * 16777216 + Z (hl + 1) * 65536 + Z (hl + 2) * 256 + Z (hl + 3) := espi
                          clear espi
                          go_wp2
                          go_quiet (fail)
                          go_wp2
                          go_ret
                          first | exact ⟨rfl, F8.out _⟩ | exact ⟨rfl, (F8.out _).drew⟩ | exact ⟨rfl, below_drewN (F8.out _) _⟩ | exact ⟨rfl, below_drewN (F8.out _).drew _⟩ | exact ⟨rfl, below_drewN (below_drewN (F8.out _) _) _⟩
                      · as_aux_lemma =>
                          have hnh : ¬ n = hl := by omega
                          have hob : ((F : Int) % 8192 * 8 == 0) = true := by simp [h0]
                          clear h0
                          have g4 : W.cell? ⟨w.heap.size, hl + 4, none⟩ = some (.int .u8 (Z (hl + 4))) := HW.out (hl + 4) (by omega)
                          have gb4 := hZ (hl + 4)
                          have g5 : W.cell? ⟨w.heap.size, hl + 5, none⟩ = some (.int .u8 (Z (hl + 5))) := HW.out (hl + 5) (by omega)
                          have gb5 := hZ (hl + 5)
                          have g6 : W.cell? ⟨w.heap.size, hl + 6, none⟩ = some (.int .u8 (Z (hl + 6))) := HW.out (hl + 6) (by omega)
                          have gb6 := hZ (hl + 6)
                          have g7 : W.cell? ⟨w.heap.size, hl + 7, none⟩ = some (.int .u8 (Z (hl + 7))) := HW.out (hl + 7) (by omega)
                          have gb7 := hZ (hl + 7)
                          have kk0 : 0 < mm - hl := by omega
                          have kk1 : (1 : Int) < ((mm - hl : Nat) : Int) := by omega
                          have kj1 : (1 : Int) < (mm : Int) - (hl : Int) := by omega
                          have kk2 : (2 : Int) < ((mm - hl : Nat) : Int) := by omega
                          have kj2 : (2 : Int) < (mm : Int) - (hl : Int) := by omega
                          have kk3 : (3 : Int) < ((mm - hl : Nat) : Int) := by omega
                          have kj3 : (3 : Int) < (mm : Int) - (hl : Int) := by omega
                          have kk4 : (4 : Int) < ((mm - hl : Nat) : Int) := by omega
                          have kj4 : (4 : Int) < (mm : Int) - (hl : Int) := by omega
                          have kk5 : (5 : Int) < ((mm - hl : Nat) : Int) := by omega
                          have kj5 : (5 : Int) < (mm : Int) - (hl : Int) := by omega
                          have kk6 : (6 : Int) < ((mm - hl : Nat) : Int) := by omega
                          have kj6 : (6 : Int) < (mm : Int) - (hl : Int) := by omega
                          have kk7 : (7 : Int) < ((mm - hl : Nat) : Int) := by omega
                          have kj7 : (7 : Int) < (mm : Int) - (hl : Int) := by omega
                          have kt : (8 : Int) ≤ ((mm - hl : Nat) : Int) := by omega
                          have ku : (8 : Int) ≤ (mm : Int) - (hl : Int) := by omega
                          have r1 := or4_u32 (Z (hl + 4)) (Z (hl + 5)) (Z (hl + 6)) (Z (hl + 7)) (hZ _) (hZ _) (hZ _) (hZ _)
                          have espi' : spi = Z (hl + 4) * 16777216 + Z (hl + 5) * 65536 + Z (hl + 6) * 256 + Z (hl + 7) := espi
                          clear espi
                          go_wp2
                          go_quiet (fail)
                          go_wp2
                          go_ret
                          first | exact ⟨rfl, F8.out _⟩ | exact ⟨rfl, (F8.out _).drew⟩ | exact ⟨rfl, below_drewN (F8.out _) _⟩ | exact ⟨rfl, below_drewN (F8.out _).drew _⟩ | exact ⟨rfl, below_drewN (below_drewN (F8.out _) _) _⟩
                      · as_aux_lemma =>
                          obtain ⟨hA, hB, hC⟩ := hpr
                          have hob : ((F : Int) % 8192 * 8 == 0) = true := by simp [h0]
                          clear h0
                          by_cases k4 : 4 ≤ mm - hl
                          · have e6 : (Z 9 == 6) = false := beq_eq_false_iff_ne.2 (by omega)
                            have e17 : (Z 9 == 17) = false := beq_eq_false_iff_ne.2 (by omega)
                            have e50 : (Z 9 == 50) = false := beq_eq_false_iff_ne.2 (by omega)
                            by_cases h51 : Z 9 = 51
                            · have k8 : ((mm - hl : Nat) : Int) < 8 := by omega
                              have k8' : (mm : Int) - (hl : Int) < 8 := by omega
                              have e51 : (Z 9 == 51) = true := beq_iff_eq.2 h51
                              clear hA hB hC h51
                              go_wp2
                              all_goals go_ret
                              all_goals first | exact ⟨rfl, F8.out _⟩ | exact ⟨rfl, (F8.out _).drew⟩ | exact ⟨rfl, below_drewN (F8.out _) _⟩ | exact ⟨rfl, below_drewN (F8.out _).drew _⟩ | exact ⟨rfl, below_drewN (below_drewN (F8.out _) _) _⟩
                            · have e51 : (Z 9 == 51) = false := beq_eq_false_iff_ne.2 h51
                              clear hA hB hC h51
                              go_wp2
                              all_goals go_ret
                              all_goals first | exact ⟨rfl, F8.out _⟩ | exact ⟨rfl, (F8.out _).drew⟩ | exact ⟨rfl, below_drewN (F8.out _) _⟩ | exact ⟨rfl, below_drewN (F8.out _).drew _⟩ | exact ⟨rfl, below_drewN (below_drewN (F8.out _) _) _⟩
                          · have k4a : ((mm - hl : Nat) : Int) < 4 := by omega
                            have k4b : (mm : Int) - (hl : Int) < 4 := by omega
                            have k8 : ((mm - hl : Nat) : Int) < 8 := by omega
                            have k8' : (mm : Int) - (hl : Int) < 8 := by omega
                            clear hA hB hC
                            by_cases h9 : Z 9 = 6 ∨ Z 9 = 17 ∨ Z 9 = 50 ∨ Z 9 = 51
                            · rcases h9 with h9 | h9 | h9 | h9
                              all_goals
                                go_wp2
                                all_goals go_ret
                                all_goals first | exact ⟨rfl, F8.out _⟩ | exact ⟨rfl, (F8.out _).drew⟩ | exact ⟨rfl, below_drewN (F8.out _) _⟩ | exact ⟨rfl, below_drewN (F8.out _).drew _⟩ | exact ⟨rfl, below_drewN (below_drewN (F8.out _) _) _⟩
                            · have e6 : (Z 9 == 6) = false := beq_eq_false_iff_ne.2 (by omega)
                              have e17 : (Z 9 == 17) = false := beq_eq_false_iff_ne.2 (by omega)
                              have e50 : (Z 9 == 50) = false := beq_eq_false_iff_ne.2 (by omega)
                              have e51 : (Z 9 == 51) = false := beq_eq_false_iff_ne.2 (by omega)
                              clear h9
                              go_wp2
                              all_goals go_ret
                              all_goals first | exact ⟨rfl, F8.out _⟩ | exact ⟨rfl, (F8.out _).drew⟩ | exact ⟨rfl, below_drewN (F8.out _) _⟩ | exact ⟨rfl, below_drewN (F8.out _).drew _⟩ | exact ⟨rfl, below_drewN (below_drewN (F8.out _) _) _⟩

set_option maxHeartbeats 400000 in
set_option maxRecDepth 100000 in
theorem law_long (ao : Option Addr) (len cap : Nat) (x m s : Int) (w : World) (hlen : (1024 : Int) < (len : Int)) :
    Calls Ybad.prog 3 #[.slice ao len cap, .int .u8 x, .int .u8 m, .int .u8 s] w fun e w' => e = .returned (.bool true) ∧ w' = w := by
  go_enter Ybad.func3, Ybad.ntmps3
  go_wp2
  go_ret
  exact ⟨rfl, rfl⟩

theorem law_total (ao : Option Addr) (len cap : Nat) (Y : Nat → Int) (hY : Byt Y) (x m s : Int) (hx : 0 ≤ x ∧ x ≤ 255) (hm : 0 ≤ m ∧ m ≤ 255) (hs : 0 ≤ s ∧ s ≤ 255) (w : World) (hc : Seen w ao len Y)
    (z : Option Addr) (hz : w.cell? ⟨1, 0, none⟩ = some (.pointer z)) (h1 : 1 < w.heap.size) :
    Calls Ybad.prog 3 #[.slice ao len cap, .int .u8 x, .int .u8 m, .int .u8 s] w fun e w' => e = .returned (.bool true) ∧ Below w.heap.size w w' := by
  by_cases h : len ≤ 1024
  · exact law_any ao len cap Y hY x m s hx hm hs w hc h z hz h1
  · exact (law_long ao len cap x m s w (by omega)).mono fun e w' ⟨h2, h3⟩ => ⟨h2, h3 ▸ Below.refl _ _⟩

end Go.Proofs.YbulkcmekDoor
