import Derived.Test.YbulkcmekDoorRead
import Derived.Laws.Cover3
import Derived.Test.YbulkcmekDoorRow22
import Derived.Test.YbulkcmekDoorTail
import Derived.Deep.MidRow
import Derived.Deep.DeepCutAuto
import Derived.Deep.Light
namespace Go.Proofs.YbulkcmekDoor
open Go.RowKit

theorem head_cells {w w' : World} {g n : Nat} {Z : Nat → Int} (hr : w.rowIs g 5 n (fun i => .int .u8 (Z i))) (h20 : 20 ≤ n) (hb : Below w.heap.size w w') :
    w'.cell? ⟨g, 1, none⟩ = some (.int .u8 (Z 1)) ∧ w'.cell? ⟨g, 4, none⟩ = some (.int .u8 (Z 4)) ∧ w'.cell? ⟨g, 4 + 1, none⟩ = some (.int .u8 (Z 5)) ∧ w'.cell? ⟨g, 9, none⟩ = some (.int .u8 (Z 9)) ∧
    w'.cell? ⟨g, 12, none⟩ = some (.int .u8 (Z 12)) ∧ w'.cell? ⟨g, 13, none⟩ = some (.int .u8 (Z 13)) ∧ w'.cell? ⟨g, 14, none⟩ = some (.int .u8 (Z 14)) ∧ w'.cell? ⟨g, 15, none⟩ = some (.int .u8 (Z 15)) ∧
    w'.cell? ⟨g, 16, none⟩ = some (.int .u8 (Z 16)) ∧ w'.cell? ⟨g, 17, none⟩ = some (.int .u8 (Z 17)) ∧ w'.cell? ⟨g, 18, none⟩ = some (.int .u8 (Z 18)) ∧ w'.cell? ⟨g, 19, none⟩ = some (.int .u8 (Z 19)) := by
  have h : ∀ i, i < n → w'.cell? ⟨g, i, none⟩ = some (.int .u8 (Z i)) := fun i hi => (hb.cell (p := ⟨g, i, none⟩) hr.lt).trans (hr.cell hi)
  exact ⟨h 1 (by omega), h 4 (by omega), h 5 (by omega), h 9 (by omega), h 12 (by omega), h 13 (by omega), h 14 (by omega), h 15 (by omega), h 16 (by omega), h 17 (by omega), h 18 (by omega), h 19 (by omega)⟩

theorem from4_at (a b x y : Int) (ha : 0 ≤ a ∧ a ≤ 255) (hb : 0 ≤ b ∧ b ≤ 255) (hx : 0 ≤ x ∧ x ≤ 255) (hy : 0 ≤ y ∧ y ≤ 255) (w : World) (z : Option Addr) (hz : w.cell? ⟨1, 0, none⟩ = some (.pointer z)) (h1 : 1 < w.heap.size) :
    ∀ W, Below w.heap.size w W → Calls Ybad.prog 10 #[.agg #[.int .u8 a, .int .u8 b, .int .u8 x, .int .u8 y]] W fun e w' => e = .returned (.agg #[.int .u64 0, .int .u64 (281470681743360 + (a * 16777216 + b * 65536 + x * 256 + y)), .pointer z]) ∧ Below w.heap.size w w' := fun W hW =>
  (from4_any a b x y ha hb hx hy W z ((hW.cell (p := ⟨1, 0, none⟩) h1).trans hz) (Nat.lt_of_lt_of_le h1 hW.size)).mono fun _ _ ⟨he, h⟩ => ⟨he, hW.trans (h.mono hW.size)⟩

theorem be16_at (g o n c : Nat) (a b : Int) (ha : 0 ≤ a ∧ a ≤ 255) (hb : 0 ≤ b ∧ b ≤ 255) (w : World) (hn : (1 : Int) < (n : Int))
    (h0 : w.cell? ⟨g, o, none⟩ = some (.int .u8 a)) (h1 : w.cell? ⟨g, o + 1, none⟩ = some (.int .u8 b)) (hg : g < w.heap.size) :
    ∀ W, Below w.heap.size w W → Calls Ybad.prog 14 #[.agg #[], .slice (some ⟨g, o, none⟩) n c] W fun e w' => e = .returned (.int .u16 (a * 256 + b)) ∧ Below w.heap.size w w' := fun W hW =>
  (be16_any g o n c a b ha hb W hn ((hW.cell (p := ⟨g, o, none⟩) hg).trans h0) ((hW.cell (p := ⟨g, o + 1, none⟩) hg).trans h1) (Nat.lt_of_lt_of_le hg hW.size)).mono fun _ _ ⟨he, h⟩ => ⟨he, hW.trans (h.mono hW.size)⟩

theorem and13_u16 (F : Nat) (h : F < 65536) : bits .and .u16 (F : Int) 8191 = (F : Int) % 8192 := by
  have h1 := u16_and_nat F 8191 h (by decide)
  rw [nat_mask13] at h1
  have h2 : ((8191 : Nat) : Int) = 8191 := rfl
  rw [h2] at h1
  rw [h1]
  omega

/-- An IPv4 address as netip holds it: its second word. -/
def ipW (a b x y : Int) : Int := 281470681743360 + (a * 16777216 + b * 65536 + x * 256 + y)

/-- The packet's cells as readIPv4 lays them. -/
def pkL (g n m hl L F : Nat) (Z : Nat → Int) (mo : Bool) (z : Option Addr) : List Value :=
  [.slice (some ⟨g, 0, none⟩) m n, .int .i64 L, .int .u64 0, .int .u64 (ipW (Z 12) (Z 13) (Z 14) (Z 15)), .pointer z, .int .u64 0, .int .u64 (ipW (Z 16) (Z 17) (Z 18) (Z 19)), .pointer z, .int .u8 (Z 1 / 4), .int .u32 0, .int .u8 (Z 9), .int .u16 0, .int .u16 0, .bool false, .int .u32 0, .bool false,
   .int .i64 hl, .int .u8 (Z 9), .int .u32 (Z 4 * 256 + Z 5), .int .i64 ((F : Int) % 8192 * 8), .bool mo, .int .i64 (65535 - (hl : Int))]

theorem pk_one (g n m hl L F : Nat) (Z : Nat → Int) (mo : Bool) (z : Option Addr) : (pkL g n m hl L F Z mo z).toArray.all (·.oneCell') = true := by
  simp [pkL, Value.oneCell']

/-- What readUpperLayer comes to: the ports, the index, and whether each was read. -/
def UpperIs (off pr : Int) (k : Nat) (H : Nat → Int) (sp dp : Int) (hp : Bool) (spi : Int) (hs : Bool) : Prop :=
  (¬ off = 0 ∧ sp = 0 ∧ dp = 0 ∧ hp = false ∧ spi = 0 ∧ hs = false) ∨
  (off = 0 ∧ (pr = 6 ∨ pr = 17) ∧ 4 ≤ k ∧ sp = H 0 * 256 + H 1 ∧ dp = H 2 * 256 + H 3 ∧ hp = true ∧ spi = 0 ∧ hs = false) ∨
  (off = 0 ∧ pr = 50 ∧ 4 ≤ k ∧ sp = 0 ∧ dp = 0 ∧ hp = false ∧ spi = H 0 * 16777216 + H 1 * 65536 + H 2 * 256 + H 3 ∧ hs = true) ∨
  (off = 0 ∧ pr = 51 ∧ 8 ≤ k ∧ sp = 0 ∧ dp = 0 ∧ hp = false ∧ spi = H 4 * 16777216 + H 5 * 65536 + H 6 * 256 + H 7 ∧ hs = true) ∨
  (off = 0 ∧ (¬ ((pr = 6 ∨ pr = 17) ∧ 4 ≤ k) ∧ ¬ (pr = 50 ∧ 4 ≤ k) ∧ ¬ (pr = 51 ∧ 8 ≤ k)) ∧ sp = 0 ∧ dp = 0 ∧ hp = false ∧ spi = 0 ∧ hs = false)

/-- The packet's cells behind the call. -/
def pkF (P : List Value) (sp dp : Int) (hp : Bool) (spi : Int) (hs : Bool) (i : Nat) : Value :=
  if i = 11 then .int .u16 sp else if i = 12 then .int .u16 dp else if i = 13 then .bool hp else if i = 14 then .int .u32 spi else if i = 15 then .bool hs else P.getD i undef

theorem lt22 {i : Nat} (h : i < 22) : i = 0 ∨ i = 1 ∨ i = 2 ∨ i = 3 ∨ i = 4 ∨ i = 5 ∨ i = 6 ∨ i = 7 ∨ i = 8 ∨ i = 9 ∨ i = 10 ∨ i = 11 ∨ i = 12 ∨ i = 13 ∨ i = 14 ∨ i = 15 ∨ i = 16 ∨ i = 17 ∨ i = 18 ∨ i = 19 ∨ i = 20 ∨ i = 21 := by omega

/-- The call of readUpperLayer, out of its contracts. -/
theorem upper_any (p g n m hl L F : Nat) (Z : Nat → Int) (hZ : Byt Z) (mo : Bool) (z : Option Addr) (w : World) (hp : w.rowIs p 37 22 (fun i => (pkL g n m hl L F Z mo z).getD i undef)) (hr : w.rowIs g 5 n (fun i => .int .u8 (Z i))) (hgp : g < p) (hm1 : m ≤ n) (hm2 : hl ≤ m) (a : Option Addr) (k c : Nat) (hk : k = m - hl) (hc : c = n - hl) (ha : ¬ n = hl → a = some ⟨g, hl, none⟩) (h0 : (F : Int) % 8192 * 8 = 0) :
    Calls Ybad.prog 15 #[.pointer (some ⟨p, 0, none⟩), .slice a k c] w fun e w' => e = .returned (.tuple #[]) ∧
      (∃ sp dp hp spi hs, UpperIs ((F : Int) % 8192 * 8) (Z 9) (m - hl) (fun i => Z (hl + i)) sp dp hp spi hs ∧ w'.rowIs p 37 22 (pkF (pkL g n m hl L F Z mo z) sp dp hp spi hs)) ∧ Below p w w' := by
  subst hk hc
  have hcell : ∀ i, i < m - hl → w.cell? ⟨g, hl + i, none⟩ = some (.int .u8 ((fun j => Z (hl + j)) i)) := fun i hi => hr.cell (i := hl + i) (by omega)
  have hH : ∀ i, 0 ≤ (fun j => Z (hl + j)) i ∧ (fun j => Z (hl + j)) i ≤ 255 := fun i => hZ _
  by_cases A : (Z 9 = 6 ∨ Z 9 = 17) ∧ 4 ≤ m - hl
  · rw [ha (by omega)]
    refine (upper_ports p g hl (m - hl) (n - hl) _ (Z 9) (fun j => Z (hl + j)) hH w hp rfl rfl rfl rfl A.1 A.2 (by omega) hgp hcell).mono fun e w' ⟨he, h1, h2⟩ => ⟨he, ⟨_, _, true, 0, false, .inr (.inl ⟨h0, A.1, A.2, rfl, rfl, rfl, rfl, rfl⟩), h1.congr fun i hi => ?_⟩, h2⟩
    rcases lt22 hi with rfl | rfl | rfl | rfl | rfl | rfl | rfl | rfl | rfl | rfl | rfl | rfl | rfl | rfl | rfl | rfl | rfl | rfl | rfl | rfl | rfl | rfl <;> rfl
  · by_cases B : Z 9 = 50 ∧ 4 ≤ m - hl
    · rw [ha (by omega)]
      refine (upper_spi p g hl 0 (m - hl) (n - hl) _ (Z 9) (fun j => Z (hl + j)) hH w hp rfl rfl rfl (.inl ⟨B.1, rfl⟩) B.2 (by omega) hgp hcell).mono fun e w' ⟨he, h1, h2⟩ => ⟨he, ⟨0, 0, false, _, true, .inr (.inr (.inl ⟨h0, B.1, B.2, rfl, rfl, rfl, rfl, rfl⟩)), h1.congr fun i hi => ?_⟩, h2⟩
      rcases lt22 hi with rfl | rfl | rfl | rfl | rfl | rfl | rfl | rfl | rfl | rfl | rfl | rfl | rfl | rfl | rfl | rfl | rfl | rfl | rfl | rfl | rfl | rfl <;> rfl
    · by_cases C : Z 9 = 51 ∧ 8 ≤ m - hl
      · rw [ha (by omega)]
        refine (upper_spi p g hl 4 (m - hl) (n - hl) _ (Z 9) (fun j => Z (hl + j)) hH w hp rfl rfl rfl (.inr ⟨C.1, rfl⟩) (by omega) (by omega) hgp hcell).mono fun e w' ⟨he, h1, h2⟩ => ⟨he, ⟨0, 0, false, _, true, .inr (.inr (.inr (.inl ⟨h0, C.1, C.2, rfl, rfl, rfl, rfl, rfl⟩))), h1.congr fun i hi => ?_⟩, h2⟩
        rcases lt22 hi with rfl | rfl | rfl | rfl | rfl | rfl | rfl | rfl | rfl | rfl | rfl | rfl | rfl | rfl | rfl | rfl | rfl | rfl | rfl | rfl | rfl | rfl <;> rfl
      · refine (upper_none p (m - hl) (n - hl) a _ (Z 9) (hZ 9) w hp rfl A B C).mono fun e w' ⟨he, h1⟩ => ⟨he, ⟨0, 0, false, 0, false, .inr (.inr (.inr (.inr ⟨h0, ⟨A, B, C⟩, rfl, rfl, rfl, rfl, rfl⟩))), h1 ▸ hp.congr fun i hi => ?_⟩, h1 ▸ Below.refl _ _⟩
        rcases lt22 hi with rfl | rfl | rfl | rfl | rfl | rfl | rfl | rfl | rfl | rfl | rfl | rfl | rfl | rfl | rfl | rfl | rfl | rfl | rfl | rfl | rfl | rfl <;> rfl

theorem info37 : (Ybad.prog.info? 37).map (·.size) = some 22 := by kernel_rfl

set_option maxHeartbeats 3000000 in
set_option maxRecDepth 100000 in
theorem read_good (p g n : Nat) (Z : Nat → Int) (hZ : Byt Z) (f : Nat → Value) (w : World) (hr : w.rowIs g 5 n (fun i => .int .u8 (Z i))) (hp : w.rowIs p 37 22 f) (hgp : g < p) (hn : n ≤ 1024) (h20 : 20 ≤ n) (h4 : Z 0 / 16 = 4) (hl L F m : Nat) (ehl : Z 0 % 16 * 4 = hl) (eL : Z 2 * 256 + Z 3 = L) (eF : Z 6 * 256 + Z 7 = F) (hhl : 20 ≤ hl) (hL : hl ≤ L) (hnl : hl ≤ n) (hmn : (if n < L then (n : Int) else (L : Int)) = (m : Int)) (hm1 : m ≤ n) (hm2 : hl ≤ m)
    (mo : Bool) (emo : (bits .and .u16 (F : Int) 8192 != 0) = mo) (z : Option Addr) (hz : w.cell? ⟨1, 0, none⟩ = some (.pointer z)) (h1g : 1 < g) :
    Calls Ybad.prog 7 #[.pointer (some ⟨p, 0, none⟩), .slice (some ⟨g, 0, none⟩) n n] w fun e w' => e = .returned (.bool true) ∧ (∃ sp dp hp spi hs, UpperIs ((F : Int) % 8192 * 8) (Z 9) (m - hl) (fun i => Z (hl + i)) sp dp hp spi hs ∧ w'.rowIs p 37 22 (pkF (pkL g n m hl L F Z mo z) sp dp hp spi hs)) ∧ Below p w w' := by
  have b0 := hZ 0
  have b1 := hZ 1
  have b2 := hZ 2
  have b3 := hZ 3
  have b4 := hZ 4
  have b5 := hZ 5
  have b6 := hZ 6
  have b7 := hZ 7
  have hlt := hp.lt
  have e13 : bits .and .u16 (F : Int) 8191 = (F : Int) % 8192 := and13_u16 F (by omega)
  have c0 : w.cell? ⟨g, 0, none⟩ = some (.int .u8 (Z 0)) := hr.cell (i := 0) (by omega)
  have c2 : w.cell? ⟨g, 2, none⟩ = some (.int .u8 (Z 2)) := hr.cell (i := 2) (by omega)
  have c3 : w.cell? ⟨g, 2 + 1, none⟩ = some (.int .u8 (Z 3)) := hr.cell (i := 3) (by omega)
  have K1 := hid (be16_any g 2 2 (n - 2) (Z 2) (Z 3) (hZ 2) (hZ 3) w.drew (by decide) c2 c3 hr.lt)
  have e15 : bits .and .u8 (Z 0) 15 = Z 0 % 16 := u8_and15 _ (by omega) (by omega)
  have h4b : (Z 0 / 16 != 4) = false := by simp [h4]
  have H4 := hid h4
  clear h4
  have n4 : (4 : Int) ≤ (n : Int) := by omega
  have n8 : (8 : Int) ≤ (n : Int) := by omega
  have ne2 : ¬ n = 2 := by omega
  have ne6 : ¬ n = 6 := by omega
  have F12 := hid (from4_at (Z 12) (Z 13) (Z 14) (Z 15) (hZ 12) (hZ 13) (hZ 14) (hZ 15) w z hz (by omega))
  have F16 := hid (from4_at (Z 16) (Z 17) (Z 18) (Z 19) (hZ 16) (hZ 17) (hZ 18) (hZ 19) w z hz (by omega))
  have U45 := hid (be16_at g 4 2 (n - 4) (Z 4) (Z 5) (hZ 4) (hZ 5) w (by decide) (hr.cell (i := 4) (by omega)) (hr.cell (i := 5) (by omega)) hr.lt)
  have HM := hid hmn
  have HO := hid emo
  clear hmn emo
  go_enter Ybad.func7, Ybad.ntmps7
  go_wp2
  go_region_with (go_at_call 14; refine K1.out.mono ?_; rintro e w1 ⟨rfl, hb1⟩)
  have B1 : Hid (Below w.heap.size w w1) := ((Below.refl _ w).drew).trans hb1
  clear K1 c0 c2 c3 hb1
  go_wp2
  have K2 := hid (be16_any g 6 2 (n - 6) (Z 6) (Z 7) (hZ 6) (hZ 7) w1.drew (by decide) ((B1.out.cell (p := ⟨g, 6, none⟩) hr.lt).trans (hr.cell (i := 6) (by omega))) ((B1.out.cell (p := ⟨g, 6 + 1, none⟩) hr.lt).trans (hr.cell (i := 7) (by omega))) (Nat.lt_of_lt_of_le hr.lt B1.out.size))
  go_region_with (go_at_call 14; refine K2.out.mono ?_; rintro e w2 ⟨rfl, hb2⟩)
  have B2 : Hid (Below w.heap.size w w2) := B1.out.drew.trans (hb2.mono B1.out.size)
  clear K2 B1 hb2 h4b e15 H4
  have n16 : (16 : Int) ≤ (n : Int) := by omega
  have n20 : (20 : Int) ≤ (n : Int) := by omega
  have n6 : (6 : Int) ≤ (n : Int) := by omega
  have n1 : (1 : Int) < (n : Int) := by omega
  have n9 : (9 : Int) < (n : Int) := by omega
  have ne12 : ¬ n = 12 := by omega
  have ne16 : ¬ n = 16 := by omega
  have ne4 : ¬ n = 4 := by omega
  have mn : (m : Int) ≤ (n : Int) := by omega
  have m0 : (0 : Int) ≤ (m : Int) := by omega
  have ar1 := fun (W : World) => run_arrayAt (P := Ybad.prog) (w := W) 48 5 4 (some ⟨g, 12, none⟩) 4 (n - 12) Ybad.underlying48 (Nat.le_refl _)
  have ar2 := fun (W : World) => run_arrayAt (P := Ybad.prog) (w := W) 48 5 4 (some ⟨g, 16, none⟩) 4 (n - 16) Ybad.underlying48 (Nat.le_refl _)
  go_upto_region 8 with fail
  simp only [List.getElem_toArray, List.getElem_cons_succ, List.getElem_cons_zero, Act.put, List.setIfInBounds_toArray, List.set_cons_succ, List.set_cons_zero]
  have hmn := HM.out
  have w1 : IntKind.u32.wrap (Z 4 * 256 + Z 5) = Z 4 * 256 + Z 5 := by rw [IntKind.wrap_u32']; omega
  have w2' : IntKind.i64.wrap ((F : Int) % 8192) = (F : Int) % 8192 := by rw [IntKind.wrap_i64]; omega
  have w3 : IntKind.i64.wrap ((F : Int) % 8192 * 8) = (F : Int) % 8192 * 8 := by rw [IntKind.wrap_i64]; omega
  have w4 : IntKind.i64.wrap (65535 - (hl : Int)) = 65535 - (hl : Int) := by rw [IntKind.wrap_i64]; omega
  have emo := HO.out
  go_cut [4] (fun s4 wc => s4 = .bool false ∧ wc.rowIs p 37 22 (fun i => (pkL g n m hl L F Z mo z).getD i undef) ∧ Below p w wc)
  case first =>
    have hex : (∃ W, Below w.heap.size w W) := ⟨w, Below.refl _ _⟩
    refine region_quiet_tail (C := fun W => Below w.heap.size w W) 46 (by kernel_rfl) (by kernel_rfl) B2.out.drew ?_
    simp only [List.take_succ_cons, List.take_zero, List.drop_succ_cons, List.drop_zero]
    repeat (first
      | go_big_quiet_step ((intro hW; first | (go_at_call_of 10 (Value.int IntKind.u8 (Z 12)); exact F12.out _ hW) | (go_at_call_of 10 (Value.int IntKind.u8 (Z 16)); exact F16.out _ hW) | (go_at_call 14; exact U45.out _ hW)))
      | (go_big_quiet_want; apply Exists.intro; refine ⟨fun W hW => ?_, ?_⟩; (obtain ⟨k1, k4, k5, k9, k12, k13, k14, k15, k16, k17, k18, k19⟩ := head_cells hr h20 hW; go_simp; rfl); go_big_quiet_on; simp only [Act.put, List.setIfInBounds_toArray, List.set_cons_succ, List.set_cons_zero]))
    refine wpQuiet_nil ?_
    intro w6 B6
    have P6 : w6.rowIs p 37 22 f := hp.of_block (B6.block p hlt)
    refine wpList_store_mid rfl 37 (.tmp 91) (.tmp 90) rfl p 0 (pkL g n m hl L F Z mo z).toArray rfl rfl (there_row P6) info37 (pk_one ..) ?_
    go_wp2
    go_meet
    case rel => exact ⟨rfl, row_laid _ _ _ P6 rfl, below_cells (Nat.le_refl _) _ _ _ (B6.mono (Nat.le_of_lt hlt))⟩
  case rest =>
    obtain ⟨rfl, R7, B7⟩ := hcut
    clear hmn emo ar1 ar2 F12 F16 U45 HM HO B2
    have x19 := at_cell R7 19 (by decide) (v := .int .i64 ((F : Int) % 8192 * 8)) rfl
    have x0 := at_cell R7 0 (by decide) (v := .slice (some ⟨g, 0, none⟩) m n) rfl
    by_cases hoff : (F : Int) % 8192 * 8 = 0
    · have hob : ((F : Int) % 8192 * 8 == 0) = true := by simp [hoff]
      have Ho := hid hoff
      have K3 := hid (upper_any p g n m hl L F Z hZ mo z wc R7 (hr.of_block (B7.block g hgp)) hgp hm1 hm2)
      have hlm : (hl : Int) ≤ (m : Int) := by omega
      clear hoff R7
      by_cases hnh : n = hl
      · have hnh' := hid hnh
        subst hnh
        go_wp2_with (go_at_call 15; refine (K3.out (some ⟨g, 0, none⟩) 0 0 (by omega) (by omega) (fun h => absurd rfl h) Ho.out).mono ?_; rintro e w8 ⟨rfl, hex, B8⟩)
        go_ret
        exact ⟨rfl, hex, B7.trans B8⟩
      · go_wp2_with (go_at_call 15; refine (K3.out (some ⟨g, hl, none⟩) (m - hl) (n - hl) rfl rfl (fun _ => rfl) Ho.out).mono ?_; rintro e w8 ⟨rfl, hex, B8⟩)
        go_ret
        exact ⟨rfl, hex, B7.trans B8⟩
    · have hob : ((F : Int) % 8192 * 8 == 0) = false := by simp [hoff]
      have Ho := hid hoff
      have HR := hid R7
      clear hoff R7
      go_wp2
      go_ret
      refine ⟨rfl, ⟨0, 0, false, 0, false, .inl ⟨Ho.out, rfl, rfl, rfl, rfl, rfl⟩, World.rowIs.congr HR.out fun i hi => ?_⟩, B7⟩
      rcases lt22 hi with rfl | rfl | rfl | rfl | rfl | rfl | rfl | rfl | rfl | rfl | rfl | rfl | rfl | rfl | rfl | rfl | rfl | rfl | rfl | rfl | rfl | rfl <;> rfl

end Go.Proofs.YbulkcmekDoor
