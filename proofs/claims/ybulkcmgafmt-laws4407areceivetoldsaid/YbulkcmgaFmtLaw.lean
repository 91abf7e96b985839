import Derived.Test.YbulkcmgaFmtLawLib
import Derived.Deep.CutBlock
namespace Go.Proofs.YbulkcmgaFmt
open Go Go.RowKit Go.Extern.Stop Go.Stop Go.Extern

set_option maxHeartbeats 4000000 in
set_option maxRecDepth 100000 in
theorem law_is (F : Interp) (lat t count relay relays round : Int) (nd no : Nat) (p b : ByteArray) (a0 : Option Addr) (len0 cap0 : Nat) (Y : Nat → Int) (w : World) (hlat : 0 ≤ lat ∧ lat ≤ 18446744073709551615) (ht : -9223372036854775808 ≤ t ∧ t ≤ 9223372036854775807) (hnd : nd ≤ 255) (hno : no ≤ 65535) (hS : WordsAt w a0 len0 Y) (hF : F.answers w.tape) :
    Calls Ybaf.prog 3 #[.int .u64 lat, .int .i64 t, .int .u8 nd, .int .u16 no, .slice a0 len0 cap0, .int .i64 count, .int .i64 relay, .int .i64 relays, .int .u64 round, .string p, .string b] w fun e w' => e = .returned (.bool true) ∧ Below w.heap.size w w' := by
  have HS := hidn hS
  have HT := hidn ht
  clear hS ht
  go_enter Ybaf.func3, Ybaf.ntmps3
  go_upto_region 5 with (fail)
  obtain ⟨nn, hnn⟩ : ∃ nn : Nat, nn = nd + 1 := ⟨_, rfl⟩
  obtain ⟨L, hLL⟩ : ∃ L : Nat, L = (nn + 63) / 64 := ⟨_, rfl⟩
  obtain ⟨i, hii⟩ : ∃ i : Nat, i = no % nn := ⟨_, rfl⟩
  obtain ⟨LT, hLT⟩ : ∃ LT : Int, LT = lat / 2 := ⟨_, rfl⟩
  have g23 : lat / 2 = LT := hLT.symm
  have g26 : (1 + (nd : Int) + 63) / 64 = (L : Int) := by omega
  have g25 : (no : Int) % (1 + (nd : Int)) = (i : Int) := by rw [hii, hnn, Int.add_comm]; rfl
  have g24 : 1 + (nd : Int) = (nn : Int) := by omega
  simp only [g26]
  simp only [g25]
  simp only [g24, g23]
  have hi : i < nn := by rw [hii]; exact Nat.mod_lt _ (by omega)
  have hnn' : 0 < nn ∧ nn ≤ 256 := by omega
  have hLL' : 0 < L ∧ L ≤ 4 := by omega
  have hkL : i / 64 < L := by omega
  have HLT : Hid (0 ≤ LT ∧ LT ≤ 9223372036854775807) := hidn (by omega)
  clear g23 g24 g25 g26 hLT hii hLL hnn
  have mk26 := fun w => make26 L (by omega) w
  obtain ⟨k, hk⟩ : ∃ k : Nat, k = i / 64 := ⟨_, rfl⟩
  obtain ⟨s, hs⟩ : ∃ s : Nat, s = i % 64 := ⟨_, rfl⟩
  have hkL' : k < L := by omega
  have HK := hidn (And.intro hk hs)
  clear hk hs hkL
  go_upto_block 0 with fail
  have W1 : Wrow (w.alloc (.cells (madeCells #[.int .u64 0] L) 22)) w.heap.size L (fun _ => 0) := World.rowIs_made _ _ _ _
  have B1 := (Below.refl _ w).alloc (Nat.le_refl _) (.cells (madeCells #[.int .u64 0] L) 22)
  generalize w.alloc _ = w1 at W1 B1 ⊢
  have H1 := hidn (And.intro W1 B1)
  clear W1 B1
  go_cut [28] (fun _ wd => ∃ f : Nat → Int, Wrow wd w.heap.size L f ∧ Below w.heap.size w wd)
  case first =>
    go_upto_region 7 with (fail)
    go_loopw [28] (fun c wr => ∃ (j : Nat) (f : Nat → Int), j ≤ L ∧ c = .int .i64 j ∧ Wrow wr w.heap.size L f ∧ Below w.heap.size w wr) (fun c _ => L - (intOf c).toNat)
    case atStart => exact ⟨0, fun _ => 0, Nat.zero_le _, rfl, H1.out.1, H1.out.2⟩
    case round =>
      obtain ⟨j, f, hj, rfl, x1, x2⟩ := hrel
      rename World => wr
      by_cases hlt : j < L
      · have hlt' : (j : Int) < (L : Int) := by omega
        by_cases hln : j < len0
        · have hln' : (j : Int) < (len0 : Int) := by omega
          obtain ⟨b0, off, rfl, q1, q2⟩ := HS.out (by omega)
          have q3 := (x2.cell (p := ⟨b0, off + j, none⟩) q1).trans (q2 j hln)
          have q4 := x1.cell hlt
          have q5 := x1.frozen j
          have HX := hidn (And.intro x1 x2)
          clear x1 x2
          go_wp2
          go_roundw
          case rel => exact ⟨j + 1, _, by omega, by go_num, HX.out.1.set j _, HX.out.2.setCell (Nat.le_refl _) _⟩
          case measure => simp [intOf]; omega
        · have hln' : ¬ (j : Int) < (len0 : Int) := by omega
          go_wp2
          go_meet
          exact ⟨f, x1, x2⟩
      · have hlt' : ¬ (j : Int) < (L : Int) := by omega
        go_wp2
        go_meet
        exact ⟨f, x1, x2⟩
  case rest =>
    obtain ⟨f, x1, x2⟩ := hcut
    rename World => w2
    have q1 := x1.cell hkL'
    have HX := hidn (And.intro x1 x2)
    have e1 : IntKind.i64.wrap ((i : Int) / 64) = (k : Int) := by rw [quo64 i (by omega), HK.out.1]
    have e1' : (i : Int) / 64 = (k : Int) := by have := HK.out.1; omega
    have e2 : (i : Int) % 64 = (s : Int) := by have := HK.out.2; omega
    have hs64 : s < 64 := by have := HK.out.2; omega
    clear x1 x2 H1
    go_upto_region 11 with (fail)
    obtain ⟨hb, hbe⟩ : ∃ hb, hb = tst (f k) s := ⟨_, rfl⟩
    have g29 : (bits BinOp.and IntKind.u64 (f k) (IntKind.u64.wrap (2 ^ s)) != 0) = hb := hbe.symm
    simp only [g29]
    have HH := hidn hbe
    clear g29 hbe
    have K5 := hidn (clone_is w.heap.size L L f w2 hLL'.1 (by omega) HX.out.1.has)
    go_upto_region 12 with (go_at_call 5; refine K5.out.mono ?_; rintro e w3 ⟨g3, cap3, rfl, y1, y2, y3⟩)
    have HY := hidn (And.intro y1 (And.intro y2 y3))
    have W3 : Wrow w3 w.heap.size L f := World.rowIs.of_block HX.out.1 (y3.block _ HX.out.1.lt)
    have K5' := hidn (clone_is w.heap.size L L f w3 hLL'.1 (by omega) W3.has)
    clear y1 y2 y3 W3 K5 q1
    go_upto_region 13 with (go_at_call 5; refine K5'.out.mono ?_; rintro e w4 ⟨g4, cap4, rfl, z1, z2, z3⟩)
    have q1 : w4.cell? ⟨g4, k, none⟩ = some (.int .u64 (f k)) := z2.cell k (wordsL_get hkL')
    have q2 : w4.frozen? ⟨g4, k, none⟩ = false := z2.frozen k
    have HZ := hidn (And.intro z1 (And.intro z2 z3))
    clear z1 z2 z3 K5'
    go_upto_region 14 with (fail)
    obtain ⟨y1, y2, y3⟩ := HY.out
    obtain ⟨z1, z2, z3⟩ := HZ.out
    obtain ⟨x1, x2⟩ := HX.out
    have s3 := y3.size
    have s4 := z3.size
    have lS2 := x1.lt
    have lg3 := y2.lt
    have lg4 := z2.lt
    simp only [show bits BinOp.or IntKind.u64 (f k) (IntKind.u64.wrap (2 ^ s)) = ori (f k) s from rfl]
    have X5 : Wrow (w4.setCell ⟨g4, k, none⟩ (.int .u64 (ori (f k) s))) w.heap.size L f := World.rowIs.setOther (World.rowIs.of_block (World.rowIs.of_block x1 (y3.block _ lS2)) (z3.block _ (by omega))) (by show w.heap.size ≠ g4; omega) _
    have O5 : ∀ j, j < L → (w4.setCell ⟨g4, k, none⟩ (.int .u64 (ori (f k) s))).cell? ⟨g3, j, none⟩ = some (.int .u64 (f j)) := fun j hj => by
      have h1 : w4.cell? ⟨g3, j, none⟩ = some (.int .u64 (f j)) := (z3.cell (p := ⟨g3, j, none⟩) lg3).trans (y2.cell j (wordsL_get hj))
      have h2 : ¬ g3 = g4 := by omega
      go_simp
    have V5 : ∀ j, j < L → (w4.setCell ⟨g4, k, none⟩ (.int .u64 (ori (f k) s))).cell? ⟨g4, j, none⟩ = some (.int .u64 (if j = k then ori (f k) s else f j)) := fun j hj => by
      by_cases hjk : j = k
      · subst hjk
        rw [if_pos rfl]
        go_simp
      · rw [if_neg hjk]
        exact ((Rest.set w4 g4 k _) j (by simpa using hjk)).1.trans (z2.cell j (wordsL_get hj))
    have B5 : Below w.heap.size w (w4.setCell ⟨g4, k, none⟩ (.int .u64 (ori (f k) s))) := (x2.trans ((y3.mono (Nat.le_of_lt lS2)).trans (z3.mono (by omega)))).setCell (by show w.heap.size ≤ g4; omega) _
    have l5 : g3 < (w4.setCell ⟨g4, k, none⟩ (.int .u64 (ori (f k) s))).heap.size ∧ g4 < (w4.setCell ⟨g4, k, none⟩ (.int .u64 (ori (f k) s))).heap.size := by simp; omega
    have m5 : w.heap.size < g3 ∧ w.heap.size < g4 := by omega
    generalize w4.setCell ⟨g4, k, none⟩ (.int .u64 (ori (f k) s)) = w5 at X5 O5 V5 B5 l5 ⊢
    have H5 := hidn (And.intro X5 (And.intro O5 (And.intro V5 (And.intro B5 (And.intro l5 m5)))))
    clear X5 O5 V5 B5 l5 m5 y1 y2 y3 z1 z2 z3 x1 x2 s3 s4 lS2 lg3 lg4 HX HY HZ q1 q2 e1 e1' e2 hs64
    have mk28 := fun w => make28 nn (by omega) w
    go_upto_block 2 with fail
    go_cut [33] (fun _ wd => Made w5 wd w5.heap.size nn i nn)
    case first =>
      go_upto_region 16 with (fail)
      go_loopw [33] (fun c wr => ∃ j : Nat, j ≤ nn ∧ c = .int .i64 j ∧ Made w5 wr w5.heap.size nn i j) (fun c _ => nn - (intOf c).toNat)
      case atStart => exact ⟨0, Nat.zero_le _, rfl, (Below.refl _ w5).alloc (Nat.le_refl _) _, _, World.rowIs_made _ _ _ _, fun h => absurd h (by omega)⟩
      case round =>
        obtain ⟨j, hj, rfl, x1⟩ := hrel
        rename World => wr
        by_cases hlt : j < nn
        · have hlt' : (j : Int) < (nn : Int) := by omega
          obtain ⟨x2, h, x3, x4⟩ := x1
          have q1 := x3.cell hlt
          have q2 := x3.frozen j
          have q3 := x3.lt
          have q4 : ¬ w5.heap.size = wr.heap.size := by omega
          have HX := hidn (And.intro x2 (And.intro x3 x4))
          clear x2 x3 x4
          go_wp2
          go_roundw
          case rel =>
            obtain ⟨x2, x3, x4⟩ := HX.out
            refine ⟨j + 1, by omega, by go_num, (x2.setCell (Nat.le_refl _) _).alloc (by simpa using x2.size) _, _, (x3.set j _).alloc _, fun hij => ?_⟩
            by_cases e : i = j
            · exact ⟨wr.heap.size, by simp [e], q3, ⟨by go_simp, ⟨by go_simp, by go_simp⟩, by go_simp, by go_simp⟩⟩
            · obtain ⟨Q, k1, k2, k3⟩ := x4 (by omega)
              exact ⟨Q, by simp [e, k1], k2, k3.only (((Only.refl [w5.heap.size] wr).setCell (by simp) _).alloc _) (by simp; omega)⟩
          case measure => simp [intOf]; omega
        · have hlt' : ¬ (j : Int) < (nn : Int) := by omega
          have hje : j = nn := by omega
          rw [hje] at x1
          clear hje
          go_wp2
          go_meet
          exact x1
    case rest =>
      rename World => w6
      have s6 := hcut.below.size
      have HM := hidn hcut
      clear hcut
      have mkm : ∀ w : World, (Instr.makeMap 41 none).run Ybaf.prog w = .ok (.map (some w.heap.size)) (w.alloc (.map #[] 0)) := fun _ => rfl
      go_upto_region 24 with (fail)
      generalize hW : ((((((w6.alloc (.cells #[.slice none 0 0] 38)).alloc (.cells #[.slice none 0 0] 39)).alloc (.map #[] 0)).alloc (.cells #[.int .i64 LT, .slice (some ⟨w5.heap.size, 0, none⟩) nn nn, .map (some (w6.heap.size + 1 + 1)), .slice none 0 0, .int .u64 0, .func (.func 6) #[] #[.pointer (some ⟨w6.heap.size + 1, 0, none⟩), .pointer (some ⟨w6.heap.size, 0, none⟩)], .slice none 0 0] 52)).alloc (.cells #[.int .u64 round, .string p, .string b, .slice none 0 0, .bool true] 54)).alloc (.cells #[.slice (some ⟨w.heap.size, 0, none⟩) L L, .int .i64 count, .int .i64 relay, .int .i64 relays] 57)) = w7
      obtain ⟨X5, O5, V5, B5, l5, m5⟩ := H5.out
      obtain ⟨M1, h, M2, M3⟩ := HM.out
      obtain ⟨Q, M4, M5, M6⟩ := M3 hi
      have lQ := M6.lt
      have lS5 := X5.lt
      have B7 : Below w6.heap.size w6 w7 := by
        rw [← hW]
        exact ((((((Below.refl _ w6).alloc (by simp) _).alloc (by simp) _).alloc (by simp; omega) _).alloc (by simp; omega) _).alloc (by simp; omega) _).alloc (by simp; omega) _
      have z7 : w7.heap.size = w6.heap.size + 6 := by rw [← hW]; simp
      have N7 : Net w7 (w6.heap.size + 1 + 1 + 1) (w6.heap.size + 1 + 1 + 1 + 1 + 1) w.heap.size w5.heap.size Q (w6.heap.size + 1) w6.heap.size L L nn k i (f k) LT count relay relays := by
        have hword : At w7 w.heap.size k (.int .u64 (f k)) := (At.below (⟨X5.cell hkL', X5.frozen k⟩ : At w5 w.heap.size k (.int .u64 (f k))) M1 lS5).below B7 (by omega)
        have hrule : w7.cell? ⟨w5.heap.size, i, none⟩ = some (.pointer (some ⟨Q, 0, none⟩)) := (B7.cell (p := ⟨w5.heap.size, i, none⟩) M2.lt).trans ((M2.cell hi).trans (congrArg some M4))
        refine ⟨by omega, M5, lQ, by omega, by omega, by omega, by omega, ?_, ?_, ⟨?_, ?_⟩, ⟨?_, ?_⟩, ?_, ⟨?_, ?_⟩, ?_, ⟨?_, ?_⟩, ⟨?_, ?_⟩, ⟨?_, ?_⟩, hword, hrule, M6.below B7 lQ, ⟨?_, ?_⟩, ⟨?_, ?_⟩⟩
        all_goals (rw [← hW]; clear hW; go_simp)
      have R7 : w7.cell? ⟨w6.heap.size + 1 + 1 + 1 + 1, 0, none⟩ = some (.int .u64 round) ∧ w7.cell? ⟨w6.heap.size + 1 + 1 + 1 + 1, 1, none⟩ = some (.string p) ∧ w7.cell? ⟨w6.heap.size + 1 + 1 + 1 + 1, 2, none⟩ = some (.string b) ∧ w7.cell? ⟨w6.heap.size + 1 + 1 + 1 + 1, 3, none⟩ = some (.slice none 0 0) ∧ w7.cell? ⟨w6.heap.size + 1 + 1 + 1 + 1, 4, none⟩ = some (.bool true) := by
        rw [← hW]
        clear hW
        refine ⟨?_, ?_, ?_, ?_, ?_⟩
        all_goals go_simp
      have X7 : Wrow w7 w.heap.size L f := World.rowIs.of_block (World.rowIs.of_block X5 (M1.block _ lS5)) (B7.block _ (by omega))
      have O7 : ∀ j, j < L → w7.cell? ⟨g3, j, none⟩ = some (.int .u64 (f j)) := fun j hj => (B7.cell (p := ⟨g3, j, none⟩) (by show g3 < _; omega)).trans ((M1.cell (p := ⟨g3, j, none⟩) l5.1).trans (O5 j hj))
      have V7 : ∀ j, j < L → w7.cell? ⟨g4, j, none⟩ = some (.int .u64 (if j = k then ori (f k) s else f j)) := fun j hj => (B7.cell (p := ⟨g4, j, none⟩) (by show g4 < _; omega)).trans ((M1.cell (p := ⟨g4, j, none⟩) l5.2).trans (V5 j hj))
      have B7' : Below w.heap.size w w7 := B5.trans ((M1.mono (by omega)).trans (B7.mono (by omega)))
      have oo : g3 < w5.heap.size ∧ g4 < w5.heap.size ∧ w.heap.size < g3 ∧ w.heap.size < g4 := ⟨l5.1, l5.2, m5.1, m5.2⟩
      have oRC : w6.heap.size + 1 + 1 + 1 < w6.heap.size + 1 + 1 + 1 + 1 ∧ w6.heap.size + 1 + 1 + 1 + 1 < w6.heap.size + 1 + 1 + 1 + 1 + 1 := by omega
      clear hW X5 O5 V5 B5 l5 m5 M1 M2 M3 M4 M5 M6 lQ lS5 B7 z7 H5 HM s6 mkm mk26 mk28
      generalize w6.heap.size + 1 + 1 + 1 + 1 + 1 = H at *
      generalize w6.heap.size + 1 + 1 + 1 + 1 = RC at *
      generalize w6.heap.size + 1 + 1 + 1 = NB at *
      generalize w6.heap.size + 1 = LN at *
      generalize w6.heap.size = LD at *
      generalize w5.heap.size = R at *
      obtain ⟨r0, r1, r2, r3, r4⟩ := R7
      have F7 : F.answers w7.tape := by rw [B7'.tape]; exact hF
      have hi300 : i < 300 := by omega
      have KH : Hid (hb = true → Calls Ybaf.prog 7 #[.pointer (some ⟨NB, 0, none⟩), .int .i64 i, .int .i64 t, .agg (rcC round p b).toArray, .pointer (some ⟨H, 0, none⟩)] w7 fun e w' => e = .returned .nilIface ∧ Below w7.heap.size w7 w') := hidn fun h => recv_held t round p b s hi300 HK.out.1 HK.out.2 hkL' N7 (by rw [← HH.out]; exact h)
      have KN : Hid (hb = false → t < 0 → Calls Ybaf.prog 7 #[.pointer (some ⟨NB, 0, none⟩), .int .i64 i, .int .i64 t, .agg (rcC round p b).toArray, .pointer (some ⟨H, 0, none⟩)] w7 fun e w' => (∃ v, e = .returned (.iface 109 v)) ∧ Below w7.heap.size w7 w') := hidn fun h h' => recv_neg F t round p b s hi300 HK.out.1 HK.out.2 hkL' hi N7 (by rw [← HH.out]; exact h) h' F7
      have KG := hidn fun (h : hb = false) (h' : 0 ≤ t) => recv_go F t round p b s hi300 HK.out.1 HK.out.2 hkL' hi N7 (by rw [← HH.out]; exact h) ⟨h', HT.out.2⟩ HLT.out F7
      have HB7 := hidn (And.intro B7' (And.intro oo oRC))
      have HW7 := hidn (And.intro X7 (And.intro O7 V7))
      have HN := hidn N7
      clear N7 X7 O7 V7 B7' oo oRC F7
      have qT : ∀ (w : World) (a : Option Addr) (n c n' c' : Nat), (binOp .eql 38 (.slice a n c) (.slice none n' c')).run Ybaf.prog w = .ok (.bool a.isNone) w := fun w a n c n' c' => Lib.run_eql_slice_nil w _ _ a n c n' c' Ybaf.underlying38
      unfold rcC at KH KN KG
      cases hb
      · by_cases ht0 : t < 0
        · go_upto_region 25 with (go_at_call 7; refine (KN.out rfl ht0).mono ?_; rintro e w8 ⟨⟨v, rfl⟩, y1⟩)
          have N8 := HN.out.below y1
          have c1 := N8.logD.cell
          have c2 := N8.decs.cell
          have c3 := N8.events.cell
          have c4 := N8.pushed.cell
          have c5 := N8.count.cell
          have c6 := N8.relay.cell
          have c7 := N8.relays.cell
          have c8 := N8.nodes
          have K8 := hidn (equal_c w.heap.size g3 L L cap3 f w8 (by omega) (fun j hj => (y1.cell (p := ⟨w.heap.size, j, none⟩) HW7.out.1.lt).trans (HW7.out.1.cell hj)) (fun j hj => (y1.cell (p := ⟨g3, j, none⟩) (World.block_lt_of_cell? w7 ⟨g3, j, none⟩ (HW7.out.2.1 j hj))).trans (HW7.out.2.1 j hj)))
          have HY := hidn y1
          clear N8 y1 r0 r1 r2 r3 r4
          go_wp2_with (go_at_call 8; refine K8.out.mono ?_; rintro e w9 ⟨rfl, q9, rfl⟩)
          go_ret
          exact ⟨rfl, below_drewN (HB7.out.1.trans (HY.out.mono HB7.out.1.size)) q9⟩
        · have ht1 : 0 ≤ t := by omega
          go_upto_region 25 with (go_at_call 7; refine (KG.out rfl ht1).mono ?_; rintro e w8 ⟨d8, y⟩; obtain ⟨ev, rfl⟩ : ∃ ev, e = .returned ev := by (rcases y with ⟨_, ⟨v, rfl⟩, _⟩ | ⟨_, _, rfl, _⟩ | ⟨_, _, rfl, _⟩ <;> exact ⟨_, rfl⟩))
          obtain ⟨B7, ⟨o1, o2, o3, o4⟩, o5, o6⟩ := HB7.out
          obtain ⟨X7, O7, V7⟩ := HW7.out
          have p1 := HN.out.o1
          have p2 := HN.out.o2
          have p3 := HN.out.o3
          have p4 := HN.out.o4
          have p5 := HN.out.o5
          have p6 := HN.out.o6
          have p7 := HN.out.o7
          have HY := hidn (And.intro d8.only y)
          have s8 := d8.only.size
          obtain ⟨gN, lN, ⟨cN, n1⟩, hN⟩ := d8.logN
          obtain ⟨gD, lD, ⟨cD, n2⟩, hD⟩ := d8.logD
          obtain ⟨gX, lX, ⟨cX, n3⟩, hX⟩ := d8.decs
          have n4 := d8.nodes.trans HN.out.nodes
          have n5 := d8.count
          have CN : Hid (∀ W, Below w8.heap.size w8 W → W.cell? ⟨LN, 0, none⟩ = some (.slice (some ⟨gN, 0, none⟩) 1 cN) ∧ W.cell? ⟨gN, 0, none⟩ = some (.int .i64 i)) := hidn fun W hW => ⟨(hW.cell (p := ⟨LN, 0, none⟩) (by show LN < _; omega)).trans n1, (hW.cell (p := ⟨gN, 0, none⟩) hN.lt).trans (hN.cell 0 rfl)⟩
          have CD : Hid (∀ W, Below w8.heap.size w8 W → W.cell? ⟨LD, 0, none⟩ = some (.slice (some ⟨gD, 0, none⟩) 1 cD) ∧ Has W gD 45 (decC t 4 round p b)) := hidn fun W hW => ⟨(hW.cell (p := ⟨LD, 0, none⟩) (by show LD < _; omega)).trans n2, hD.of_block (hW.block gD hD.lt)⟩
          have CX : Hid (∀ W, Below w8.heap.size w8 W → W.cell? ⟨NB, 6, none⟩ = some (.slice (some ⟨gX, 0, none⟩) 1 cX) ∧ Has W gX 45 (decC t 4 round p b)) := hidn fun W hW => ⟨(hW.cell (p := ⟨NB, 6, none⟩) (by show NB < _; omega)).trans n3, hX.of_block (hW.block gX hX.lt)⟩
          have CH : Hid (∀ W, Below w8.heap.size w8 W → W.cell? ⟨H, 0, none⟩ = some (.slice (some ⟨w.heap.size, 0, none⟩) L L) ∧ W.cell? ⟨H, 1, none⟩ = some (.int .i64 (wrap64 (count + 1)))) := hidn fun W hW => ⟨(hW.cell (p := ⟨H, 0, none⟩) (by show H < _; omega)).trans n4, (hW.cell (p := ⟨H, 1, none⟩) (by show H < _; omega)).trans n5⟩
          have CS : Hid (∀ W, Below w8.heap.size w8 W → (∀ j, j < L → W.cell? ⟨w.heap.size, j, none⟩ = some (.int .u64 (if j = k then ori (f k) s else f j))) ∧ (∀ j, j < L → W.cell? ⟨g4, j, none⟩ = some (.int .u64 (if j = k then ori (f k) s else f j)))) := hidn fun W hW => ⟨fun j hj => (hW.cell (p := ⟨w.heap.size, j, none⟩) (by show w.heap.size < _; omega)).trans (by
              by_cases hjk : j = k
              · subst hjk
                rw [if_pos rfl]
                exact d8.word
              · rw [if_neg hjk]
                exact (d8.rest j (by simpa using hjk)).1.trans (X7.cell hj)), fun j hj => (hW.cell (p := ⟨g4, j, none⟩) (by show g4 < _; omega)).trans ((d8.only.cell (p := ⟨g4, j, none⟩) (by show g4 < _; omega) (by simp; omega)).trans (V7 j hj))⟩
          clear d8 y X7 O7 V7 n1 n2 n3 n4 n5 hN hD hX r0 r1 r2 r3 r4 KG KN KH
          obtain ⟨a1, a2⟩ := CN.out w8 (Below.refl _ _)
          obtain ⟨b1, b2⟩ := CD.out w8 (Below.refl _ _)
          have d0 : w8.cell? ⟨gD, 0, none⟩ = some (.int .i64 t) := b2.cell 0 rfl
          have d1 : w8.cell? ⟨gD, 1, none⟩ = some (.int .u8 4) := b2.cell 1 rfl
          have d2 : w8.cell? ⟨gD, 2, none⟩ = some (.int .u64 round) := b2.cell 2 rfl
          have d3 : w8.cell? ⟨gD, 3, none⟩ = some (.string p) := b2.cell 3 rfl
          have d4 : w8.cell? ⟨gD, 4, none⟩ = some (.string b) := b2.cell 4 rfl
          have d5 : w8.cell? ⟨gD, 5, none⟩ = some (.string ⟨#[]⟩) := b2.cell 5 rfl
          have d6 : w8.cell? ⟨gD, 6, none⟩ = some (.slice none 0 0) := b2.cell 6 rfl
          have d7 : w8.cell? ⟨gD, 7, none⟩ = some (.slice none 0 0) := b2.cell 7 rfl
          have K9 := hidn (decok t round p b w8)
          unfold decC at K9
          clear b2
          go_upto_region 33 with (go_at_call 9; refine K9.out.mono ?_; rintro e w9 ⟨rfl, y9⟩)
          clear a1 a2 b1 d0 d1 d2 d3 d4 d5 d6 d7 K9
          obtain ⟨b1, b2⟩ := CX.out w9 y9
          have d0 : w9.cell? ⟨gX, 0, none⟩ = some (.int .i64 t) := b2.cell 0 rfl
          have d1 : w9.cell? ⟨gX, 1, none⟩ = some (.int .u8 4) := b2.cell 1 rfl
          have d2 : w9.cell? ⟨gX, 2, none⟩ = some (.int .u64 round) := b2.cell 2 rfl
          have d3 : w9.cell? ⟨gX, 3, none⟩ = some (.string p) := b2.cell 3 rfl
          have d4 : w9.cell? ⟨gX, 4, none⟩ = some (.string b) := b2.cell 4 rfl
          have d5 : w9.cell? ⟨gX, 5, none⟩ = some (.string ⟨#[]⟩) := b2.cell 5 rfl
          have d6 : w9.cell? ⟨gX, 6, none⟩ = some (.slice none 0 0) := b2.cell 6 rfl
          have d7 : w9.cell? ⟨gX, 7, none⟩ = some (.slice none 0 0) := b2.cell 7 rfl
          have K9 := hidn (decok t round p b w9)
          unfold decC at K9
          have HY9 := hidn y9
          clear b2 y9
          go_upto_region 35 with (go_at_call 9; refine K9.out.mono ?_; rintro e w10 ⟨rfl, y10⟩)
          replace y10 := HY9.out.trans (y10.mono HY9.out.size)
          clear b1 d0 d1 d2 d3 d4 d5 d6 d7 K9 HY9
          obtain ⟨a1, a2⟩ := CH.out w10 y10
          obtain ⟨b1, b2⟩ := CS.out w10 y10
          have K8 := hidn (equal_c w.heap.size g4 L L cap4 _ w10 (by omega) b1 b2)
          have HY10 := hidn y10
          clear b1 b2 y10
          go_upto_region 37 with (go_at_call 8; refine K8.out.mono ?_; rintro e w11 ⟨rfl, q11, rfl⟩)
          have y11 : Below w8.heap.size w8 (w10.drewN q11) := below_drewN HY10.out q11
          clear a1 a2 K8 HY10
          generalize w10.drewN q11 = w11 at y11 ⊢
          have BB : Below w.heap.size w w11 := B7.trans ((HY.out.1.below (by omega) (by simp; omega)).trans (y11.mono (by omega)))
          have HBB := hidn BB
          clear BB B7
          have f1 : IntKind.i64.wrap (9223372036854775807 - LT) = 9223372036854775807 - LT := by
            have := HLT.out
            unfold IntKind.wrap; simp [IntKind.bits, IntKind.signed]; omega
          rcases HY.out.2 with ⟨m1, ⟨v, hv⟩, m2, m3, m4, m5⟩ | ⟨m1, m0, hv, m2, m3, m4, m5⟩ | ⟨m1, m0, hv, m2, m3, ⟨gE, ⟨cE, m4⟩, hE⟩, m5⟩
          · cases hv
            have c1 := (m2.below y11 m2.lt).cell
            have c2 := (m3.below y11 m3.lt).cell
            have c3 := (m4.below y11 m4.lt).cell
            have c4 := (m5.below y11 m5.lt).cell
            clear m2 m3 m4 m5 y11 HY
            go_wp2
            go_ret
            exact ⟨rfl, HBB.out⟩
          · cases hv
            have m1' : ¬ 9223372036854775807 - LT < t := by omega
            have f2 : IntKind.i64.wrap (t + LT) = t + LT := by
              have := HLT.out
              unfold IntKind.wrap; simp [IntKind.bits, IntKind.signed]; omega
            have c1 := (m2.below y11 m2.lt).cell
            have c2 := (m3.below y11 m3.lt).cell
            have c3 := (m4.below y11 m4.lt).cell
            have c4 := (m5.below y11 m5.lt).cell
            clear m2 m3 m4 m5 y11 HY
            go_wp2
            go_ret
            exact ⟨rfl, HBB.out⟩
          · cases hv
            have m1' : ¬ 9223372036854775807 - LT < t := by omega
            have f2 : IntKind.i64.wrap (t + LT) = t + LT := by
              have := HLT.out
              unfold IntKind.wrap; simp [IntKind.bits, IntKind.signed]; omega
            have lNB : NB < w8.heap.size := by omega
            have lH : H < w8.heap.size := by omega
            have c1 := (y11.cell (p := ⟨H, 2, none⟩) lH).trans m2
            have c2 := (y11.cell (p := ⟨H, 3, none⟩) lH).trans m3
            have c3 := (y11.cell (p := ⟨NB, 3, none⟩) lNB).trans m4
            have c4 := (y11.cell (p := ⟨NB, 4, none⟩) lNB).trans m5
            have hE' : Has w11 gE 66 (evC (t + LT) 0 round p b) := hE.of_block (y11.block gE hE.lt)
            have e0 : w11.cell? ⟨gE, 0, none⟩ = some (.int .i64 (t + LT)) := hE'.cell 0 rfl
            have e1 : w11.cell? ⟨gE, 1, none⟩ = some (.int .u64 0) := hE'.cell 1 rfl
            have e2 : w11.cell? ⟨gE, 2, none⟩ = some (.int .u64 round) := hE'.cell 2 rfl
            have e3 : w11.cell? ⟨gE, 3, none⟩ = some (.string p) := hE'.cell 3 rfl
            have e4 : w11.cell? ⟨gE, 4, none⟩ = some (.string b) := hE'.cell 4 rfl
            have e5 : w11.cell? ⟨gE, 5, none⟩ = some (.slice none 0 0) := hE'.cell 5 rfl
            have e6 : w11.cell? ⟨gE, 6, none⟩ = some (.bool true) := hE'.cell 6 rfl
            have e7 : w11.cell? ⟨gE, 7, none⟩ = some (.int .i64 0) := hE'.cell 7 rfl
            have e8 : w11.cell? ⟨gE, 8, none⟩ = some (.slice none 0 0) := hE'.cell 8 rfl
            have e9 : w11.cell? ⟨gE, 9, none⟩ = some (.bool true) := hE'.cell 9 rfl
            have qT26 : ∀ (w : World) (a : Option Addr) (n c n' c' : Nat), (binOp .eql 26 (.slice a n c) (.slice none n' c')).run Ybaf.prog w = .ok (.bool a.isNone) w := fun w a n c n' c' => Lib.run_eql_slice_nil w _ _ a n c n' c' Ybaf.underlying26
            have qT43 : ∀ (w : World) (a : Option Addr) (n c n' c' : Nat), (binOp .eql 43 (.slice a n c) (.slice none n' c')).run Ybaf.prog w = .ok (.bool a.isNone) w := fun w a n c n' c' => Lib.run_eql_slice_nil w _ _ a n c n' c' Ybaf.underlying43
            have sw := HBB.out.size
            clear m2 m3 m4 m5 hE hE' y11 HY
            go_wp2
            go_ret
            exact ⟨rfl, HBB.out.alloc sw _⟩
      · go_upto_region 25 with (go_at_call 7; refine (KH.out rfl).mono ?_; rintro e w8 ⟨rfl, y1⟩)
        have N8 := HN.out.below y1
        have c1 := N8.logD.cell
        have c2 := N8.decs.cell
        have c3 := N8.events.cell
        have c4 := N8.pushed.cell
        have c5 := N8.count.cell
        have c6 := N8.relay.cell
        have c7 := N8.relays.cell
        have c8 := N8.nodes
        have K8 := hidn (equal_c w.heap.size g3 L L cap3 f w8 (by omega) (fun j hj => (y1.cell (p := ⟨w.heap.size, j, none⟩) HW7.out.1.lt).trans (HW7.out.1.cell hj)) (fun j hj => (y1.cell (p := ⟨g3, j, none⟩) (World.block_lt_of_cell? w7 ⟨g3, j, none⟩ (HW7.out.2.1 j hj))).trans (HW7.out.2.1 j hj)))
        have HY := hidn y1
        clear N8 y1 r0 r1 r2 r3 r4
        go_wp2_with (go_at_call 8; refine K8.out.mono ?_; rintro e w9 ⟨rfl, q9, rfl⟩)
        go_ret
        exact ⟨rfl, below_drewN (HB7.out.1.trans (HY.out.mono HB7.out.1.size)) q9⟩

end Go.Proofs.YbulkcmgaFmt
