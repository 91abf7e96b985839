import Derived.Test.YbulkcmekFmtRecLib
import Derived.Test.YbulkcmekFmtRaw
namespace Go.Proofs.YbulkcmekFmt
open Go Go.RowKit Go.Extern.Stop Go.Stop Go.Extern

theorem Sen.mono {w : World} {ea ua ta : Addr} {base base' : Nat} (h : Sen w ea ua ta base) (h1 : base ≤ base') : Sen w ea ua ta base' :=
  ⟨h.ne, Nat.lt_of_lt_of_le h.be h1, Nat.lt_of_lt_of_le h.bu h1, Nat.lt_of_lt_of_le h.bt h1, h.he, h.hu, h.ht⟩

set_option maxHeartbeats 8000000 in
set_option maxRecDepth 100000 in
theorem rec_law {F : Interp} {big : Bool} {n rc : Nat} {cut : Int} {ao : Option Addr} {sec fr og : Nat → Int} {da : Nat → Option Addr} {dl dc : Nat → Nat} {dy : Nat → Nat → Int} {w : World} {ea ua ta : Addr} {s : ByteArray} (E : Env F w ea ua ta s w.heap.size)
    (G : Sen w ea ua ta w.heap.size) (hR : Recs w n ao sec fr og da dl dc dy) (hn : n ≤ 1024) (hcut : 0 ≤ cut ∧ cut < 4294967296) :
    Calls Ybaf.prog 3 #[.slice ao n rc, .bool big, .int .u32 cut] w fun e w' => e = .returned (.bool true) ∧ Below w.heap.size w w' := by
  obtain ⟨hcut0, hcut1⟩ := hcut
  have hn' : ¬ (1024 : Int) < (n : Int) := by omega
  have HR := hid hR
  clear hR
  obtain ⟨iC, hiC, hcC⟩ := Option.map_eq_some_iff.1 Ybaf.isComp
  obtain ⟨jC, hjC, hsC⟩ := Option.map_eq_some_iff.1 Ybaf.isSize
  go_enter Ybaf.func3, Ybaf.ntmps3
  go_wp2
  go_loopw [7, 8] (fun t i wr => ∃ k : Nat, k ≤ n ∧ t = .int .i64 (pre dl k) ∧ i = .int .i64 k ∧ pre dl k ≤ 1048576 ∧ (∀ j, j < k → dl j ≤ 262144) ∧ w = wr) (fun _ i _ => n - (intOf i).toNat)
  case atStart => exact ⟨0, Nat.zero_le _, rfl, rfl, Nat.zero_le _, fun j hj => absurd hj (by omega), rfl⟩
  case round =>
    obtain ⟨k, hk, rfl, rfl, hp, hall, rfl⟩ := hrel
    by_cases hlt : k < n
    · obtain ⟨b, o, rfl, hb, hcell⟩ := HR.out.at_ (by omega)
      obtain ⟨x0, x1, x2, x3⟩ := hcell k hlt
      have hlt' : (k : Int) < (n : Int) := by omega
      clear x0 x1 x2 hcell
      by_cases hd : dl k ≤ 262144
      · have hd' : ¬ (262144 : Int) < (dl k : Int) := by omega
        by_cases ht : pre dl k + (16 + dl k) ≤ 1048576
        · have ht' : ¬ (1048576 : Int) < (pre dl k : Int) + (16 + (dl k : Int)) := by omega
          go_wp2
          go_roundw
          case rel => exact ⟨k + 1, by omega, rfl, by go_num, ht, fun j hj => by rcases Nat.lt_or_ge j k with h | h; exact hall j h; exact (show j = k by omega) ▸ hd, trivial⟩
          case measure => simp [intOf]; omega
        · have ht' : (1048576 : Int) < (pre dl k : Int) + (16 + (dl k : Int)) := by omega
          go_wp2
          go_ret
          exact ⟨rfl, Below.refl _ _⟩
      · have hd' : (262144 : Int) < (dl k : Int) := by omega
        go_wp2
        go_ret
        exact ⟨rfl, Below.refl _ _⟩
    · obtain rfl : k = n := by omega
      have hlt' : ¬ (k : Int) < (k : Int) := by omega
      have hmk : ∀ w : World, (Instr.makeSlice 24 (.int .i64 0) (.int .i64 (pre dl k))).run Ybaf.prog w = .ok (.slice (some ⟨w.heap.size, 0, none⟩) 0 (pre dl k)) (w.alloc (.cells (madeCells #[.int .u8 0] (pre dl k)) 5)) := make_lc .i64 .i64 0 (pre dl k) (Nat.zero_le _) (by omega)
      go_wp2
      have hrow0 := hid (made_row w (pre dl k))
      clear hmk
      go_loopw [9, 10] (fun st i wr => ∃ (j : Nat) (Z : Nat → Int), j ≤ k ∧ st = .slice (some ⟨w.heap.size, 0, none⟩) (pre dl j) (pre dl k) ∧ i = .int .i64 j ∧ Byt Z ∧ wr.rowIs w.heap.size 5 (pre dl k) (fun i => .int .u8 (Z i)) ∧ Str big sec fr og dl dy Z j ∧ Below w.heap.size w wr) (fun _ i _ => k - (intOf i).toNat)
      case atStart => exact ⟨0, fun _ => 0, Nat.zero_le _, rfl, rfl, fun _ => ⟨show (0 : Int) ≤ 0 by decide, show (0 : Int) ≤ 255 by decide⟩, hrow0.out, fun j hj => absurd hj (by omega), (Below.refl _ _).alloc (Nat.le_refl _) _⟩
      case round =>
        obtain ⟨j, Z, hj, rfl, rfl, hZ, hrow, hstr, bel⟩ := hrel
        by_cases hjk : j < k
        · obtain ⟨b, o, rfl, hb, hcell⟩ := HR.out.at_ (by omega)
          have hjk' : (j : Int) < (k : Int) := by omega
          obtain ⟨y0, y1, y2, y3⟩ := hcell j hjk
          have hps := pre_step dl hjk
          have hdl := hall j hjk
          have x0 : wr.cell? ⟨b, o + j * 4, none⟩ = some (.int .u32 (sec j)) := (bel.cell (p := ⟨b, o + j * 4, none⟩) hb).trans y0
          have K1 := hid (aput_in (big := big) bel hrow hZ (p := pre dl j) (by omega) (HR.out.r0 j))
          have HS := hid hstr
          clear hcell hrow hstr bel
          go_upto_region 17 with (go_at_call 5; refine K1.out.mono ?_; rintro e w1 ⟨rfl, b1, Z1, z1, k1, u1, r1⟩)
          have x1 : w1.cell? ⟨b, o + j * 4 + 1, none⟩ = some (.int .u32 (fr j)) := (b1.cell (p := ⟨b, o + j * 4 + 1, none⟩) hb).trans y1
          have K2 := hid (aput_in (big := big) b1 r1 z1 (p := pre dl j + 4) (by omega) (HR.out.r1 j))
          clear b1 r1 x0 K1
          go_upto_region 18 with (go_at_call 5; refine K2.out.mono ?_; rintro e w2 ⟨rfl, b2, Z2, z2, k2, u2, r2⟩)
          have x3 : w2.cell? ⟨b, o + j * 4 + 3, none⟩ = some (.slice (da j) (dl j) (dc j)) := (b2.cell (p := ⟨b, o + j * 4 + 3, none⟩) hb).trans y3
          have K3 := hid (aput_in (big := big) b2 r2 z2 (p := pre dl j + 4 + 4) (v := (dl j : Int)) (by omega) ⟨by omega, by omega⟩)
          clear b2 r2 x1 K2
          go_upto_region 19 with (go_at_call 5; refine K3.out.mono ?_; rintro e w3 ⟨rfl, b3, Z3, z3, k3, u3, r3⟩)
          have x2 : w3.cell? ⟨b, o + j * 4 + 2, none⟩ = some (.int .u32 (og j)) := (b3.cell (p := ⟨b, o + j * 4 + 2, none⟩) hb).trans y2
          have K4 := hid (aput_in (big := big) b3 r3 z3 (p := pre dl j + 4 + 4 + 4) (by omega) (HR.out.r2 j))
          clear b3 r3 x3 K3
          go_upto_region 20 with (go_at_call 5; refine K4.out.mono ?_; rintro e w4 ⟨rfl, b4, Z4, z4, k4, u4, r4⟩)
          have x3 : w4.cell? ⟨b, o + j * 4 + 3, none⟩ = some (.slice (da j) (dl j) (dc j)) := (b4.cell (p := ⟨b, o + j * 4 + 3, none⟩) hb).trans y3
          have HD : Hid (0 < dl j → ∃ ad, da j = some ad ∧ ∀ t, t < dl j → w4.cell? (ad.add t) = some (.int .u8 (dy j t))) := hid fun hpos => by
            obtain ⟨x, y, e, hx, hc⟩ := HR.out.dat j (by omega) hpos
            exact ⟨_, e, fun t ht => by rw [Addr.add_mid]; exact (b4.cell (p := ⟨x, y + t, none⟩) hx).trans (hc t ht)⟩
          have H4 := hid (And.intro b4 r4)
          clear b4 r4 x2 K4
          go_wp2_with (first
            | (refine wpList_append_over rfl (.tmp 89) (.tmp 94) 24 24 rfl 5 5 Ybaf.underlying24 Ybaf.underlying24 info5s w.heap.size (pre dl j + 4 + 4 + 4 + 4) (pre dl k) (da j) (dl j) (dc j) rfl rfl 5 (pre dl k) _ H4.out.2 (by omega) (by omega) (fun t => .int .u8 (dy j t)) (fun _ => rfl) HD.out ?_; intro w5 R5 O5))
          go_roundw
          case rel => exact ⟨j + 1, layZ Z4 (pre dl j + 4 + 4 + 4 + 4) (dl j) (dy j), by omega, congrArg (fun x => Value.slice (some ⟨w.heap.size, 0, none⟩) x (pre dl k)) (by simp only [pre]; omega), by go_num, layZ_byt z4 (HR.out.byt j), R5.out.congr fun i _ => layZ_row, str_round HS.out k1 u1 k2 u2 k3 u3 k4 u4, H4.out.1.trans (O5.out.below H4.out.1.size (by simp))⟩
          case measure => simp [intOf]; omega
        · obtain rfl : j = k := by omega
          obtain ⟨dr, hdr⟩ : ∃ dr : Nat, cut % ((pre dl j : Int) + 1) = (dr : Int) := ⟨(cut % ((pre dl j : Int) + 1)).toNat, (Int.toNat_of_nonneg (Int.emod_nonneg _ (by omega))).symm⟩
          have hdl : dr ≤ pre dl j := by have := Int.emod_lt_of_pos cut (b := (pre dl j : Int) + 1) (by omega); omega
          obtain ⟨N, hN⟩ : ∃ N : Nat, pre dl j = N + dr := ⟨pre dl j - dr, by omega⟩
          have hsub : (pre dl j : Int) - (dr : Int) = (N : Int) := by omega
          have hNle : (N : Int) ≤ (pre dl j : Int) := by omega
          have HN := hid hN
          clear hN
          rename World => wx
          have b7 := E.b7
          have hwx := bel.size
          have E3 := hid ((E.below bel).mono hwx (Nat.le_refl _))
          have G3 := hid ((G.below bel).mono hwx)
          have K6 := hid (anew big (some ⟨w.heap.size, 0, none⟩) N (pre dl j) Z wx (fun _ => ⟨w.heap.size, 0, rfl, hrow.lt, fun i hi => by rw [Nat.zero_add]; exact hrow.cell (by omega)⟩) (by omega))
          have HS := hid hstr
          have HX := hid bel
          clear hrow hstr bel
          go_wp2_with (first
            | (go_at_call 6; refine K6.out.mono ?_; rintro e w1 ⟨D, B, S, U, O, rfl, HP, hb1⟩))
          have HP1 := hid HP
          have HB1 := hid hb1
          clear HP hb1 K6
          go_loopw [13, 14] (fun p x wr => ∃ i : Nat, i ≤ j ∧ p = .int .i64 (pre dl i) ∧ x = .int .i64 i ∧ pre dl i ≤ N ∧ (∃ O, Pc wr wx.heap.size D B S U O (otOf big) (some ⟨w.heap.size, 0, none⟩) N (pre dl j) Z (pre dl i) i) ∧ Below wx.heap.size wx wr) (fun _ x _ => j - (intOf x).toNat)
          case atStart => exact ⟨0, Nat.zero_le _, rfl, rfl, Nat.zero_le _, ⟨_, HP1.out⟩, HB1.out⟩
          case round =>
            obtain ⟨i, hij, rfl, rfl, hqN, ⟨O2, P2⟩, bel2⟩ := hrel
            have E2 := E3.out.below bel2
            have G2 := G3.out.below bel2
            have HBel := hid bel2
            have HE2 := hid E2
            have HG2 := hid G2
            have hN1 : N ≤ 1048576 := by omega
            have hcnt : i ≤ 2000000 := by omega
            have hNT : N ≤ pre dl j := by omega
            by_cases hlt3 : i < j
            · obtain ⟨b, o, rfl, hb, hcell⟩ := HR.out.at_ (by omega)
              obtain ⟨y0, y1, y2, y3⟩ := hcell i hlt3
              have hil : (i : Int) < (j : Int) := by omega
              have bw := hid (HX.out.trans (HBel.out.mono hwx))
              have x3 : wr.cell? ⟨b, o + i * 4 + 3, none⟩ = some (.slice (da i) (dl i) (dc i)) := (bw.out.cell (p := ⟨b, o + i * 4 + 3, none⟩) hb).trans y3
              have hdli := hall i hlt3
              have hpb : pre dl i ≤ 1048576 := by omega
              obtain ⟨s0, s1, s2, s3, s4⟩ := HS.out i hlt3
              clear hcell bel2
              by_cases hA : pre dl i = N
              · have K := hid (next_eof E2 G2 P2 hN1 hNT hcnt hA)
                unfold zeroRec at K
                have hpe : ((pre dl i : Int) == (N : Int)) = true := by simp [hA]
                have heq := fun w => run_eql_iface_ptr_same (P := Ybaf.prog) w ea Ybaf.underlying32 Ybaf.underlying91 hiC hcC hjC
                clear P2 E2 G2 s0 s1 s2 s3 s4 hA hqN
                go_wp2_with (first
                  | (go_at_call 7; refine K.out.mono ?_; rintro e w2 ⟨rfl, c5, b2⟩
                     have hE2 := (HE2.out.below b2).e
                     have hD2 : D < w2.heap.size := cell_lt (W := w2) (p := ⟨D, 5, none⟩) (by rw [c5]; rfl)
                     have hl2 := Nat.lt_of_lt_of_le (show 0 < wx.heap.size by omega) (HE2.out.below b2).sz)
                  | (go_at_call 8; refine (azero _).mono ?_; rintro e w3 ⟨rfl, b3⟩))
                go_ret
                exact ⟨rfl, HX.out.trans ((fin3 HBel.out b2 b3 (HE2.out.below b2).sz).mono hwx)⟩
              · have hpe : ((pre dl i : Int) == (N : Int)) = false := by simp; omega
                by_cases hD : pre dl i + 16 + dl i ≤ N
                · have hend : ¬ (N : Int) < (pre dl i : Int) + 16 + (dl i : Int) := by omega
                  have x0 : wr.cell? ⟨b, o + i * 4, none⟩ = some (.int .u32 (sec i)) := (bw.out.cell (p := ⟨b, o + i * 4, none⟩) hb).trans y0
                  have x1 : wr.cell? ⟨b, o + i * 4 + 1, none⟩ = some (.int .u32 (fr i)) := (bw.out.cell (p := ⟨b, o + i * 4 + 1, none⟩) hb).trans y1
                  have x2 : wr.cell? ⟨b, o + i * 4 + 2, none⟩ = some (.int .u32 (og i)) := (bw.out.cell (p := ⟨b, o + i * 4 + 2, none⟩) hb).trans y2
                  have K := hid (next_good E2 G2 hZ P2 hN1 hNT hcnt s2 hdli hD)
                  rw [s0, s1, s3] at K
                  have H4 := hid s4
                  clear P2 E2 G2 s0 s1 s2 s3 s4 hA hqN
                  go_wp2_with (first
                    | (go_at_call 7; refine K.out.mono ?_; rintro e w2 ⟨vo, vc, rfl, hV, hP, c5, b2⟩
                       have hD2 : D < w2.heap.size := cell_lt (W := w2) (p := ⟨D, 5, none⟩) (by rw [c5]; rfl)
                       have HV := hid hV
                       have HP := hid hP
                       clear hV hP))
                  have R3 := hid (rec_new w2 (sec i) (fr i) (og i) (.slice vo (dl i) vc))
                  have B3 : Hid (Below wx.heap.size wx (w2.alloc (.cells #[.int .u32 (sec i), .int .u32 (fr i), .int .u32 (og i), .slice vo (dl i) vc] 30))) := hid ((HBel.out.trans b2).alloc (HE2.out.below b2).sz _)
                  have B4 : Hid (Below w2.heap.size w2 (w2.alloc (.cells #[.int .u32 (sec i), .int .u32 (fr i), .int .u32 (og i), .slice vo (dl i) vc] 30))) := hid ((Below.refl _ w2).alloc (Nat.le_refl _) _)
                  clear x0 x1 x2 x3
                  have z0 : (w2.alloc (.cells #[.int .u32 (sec i), .int .u32 (fr i), .int .u32 (og i), .slice vo (dl i) vc] 30)).cell? ⟨w2.heap.size, 0, none⟩ = some (.int .u32 (sec i)) := R3.out.cell (by decide)
                  have z1 : (w2.alloc (.cells #[.int .u32 (sec i), .int .u32 (fr i), .int .u32 (og i), .slice vo (dl i) vc] 30)).cell? ⟨w2.heap.size, 1, none⟩ = some (.int .u32 (fr i)) := R3.out.cell (by decide)
                  have z2 : (w2.alloc (.cells #[.int .u32 (sec i), .int .u32 (fr i), .int .u32 (og i), .slice vo (dl i) vc] 30)).cell? ⟨w2.heap.size, 2, none⟩ = some (.int .u32 (og i)) := R3.out.cell (by decide)
                  have z3 : (w2.alloc (.cells #[.int .u32 (sec i), .int .u32 (fr i), .int .u32 (og i), .slice vo (dl i) vc] 30)).cell? ⟨w2.heap.size, 3, none⟩ = some (.slice vo (dl i) vc) := R3.out.cell (by decide)
                  generalize w2.alloc (.cells #[.int .u32 (sec i), .int .u32 (fr i), .int .u32 (og i), .slice vo (dl i) vc] 30) = w3 at B3 B4 z0 z1 z2 z3 ⊢
                  have bw3 := hid (HX.out.trans (B3.out.mono hwx))
                  have x0 : w3.cell? ⟨b, o + i * 4, none⟩ = some (.int .u32 (sec i)) := (bw3.out.cell (p := ⟨b, o + i * 4, none⟩) hb).trans y0
                  have x1 : w3.cell? ⟨b, o + i * 4 + 1, none⟩ = some (.int .u32 (fr i)) := (bw3.out.cell (p := ⟨b, o + i * 4 + 1, none⟩) hb).trans y1
                  have x2 : w3.cell? ⟨b, o + i * 4 + 2, none⟩ = some (.int .u32 (og i)) := (bw3.out.cell (p := ⟨b, o + i * 4 + 2, none⟩) hb).trans y2
                  refine wp_region_quiet_lit (by kernel_rfl) (by kernel_rfl) ?_
                  iterate 28 (go_big_quiet_step (fail))
                  refine wpQuiet_nil ?_
                  rintro W ⟨nq, rfl⟩
                  have B5 := hid (below_drewN B3.out nq)
                  have B6 := hid (below_drewN B4.out nq)
                  have z5 : (w3.drewN nq).cell? ⟨w2.heap.size, 3, none⟩ = some (.slice vo (dl i) vc) := z3
                  clear z0 z1 z2 z3 x0 x1 x2 B3 B4 bw3 R3
                  generalize w3.drewN nq = w4 at B5 B6 z5 ⊢
                  have bw4 := hid (HX.out.trans (B5.out.mono hwx))
                  have fin : Hid (∀ n, ∃ i' : Nat, i' ≤ j ∧ Value.int .i64 ((pre dl i : Int) + 16 + (dl i : Int)) = .int .i64 (pre dl i') ∧ Value.int .i64 ((i : Int) + 1) = .int .i64 i' ∧ pre dl i' ≤ N ∧ (∃ O, Pc (w4.drewN n) wx.heap.size D B S U O (otOf big) (some ⟨w.heap.size, 0, none⟩) N (pre dl j) Z (pre dl i') i') ∧ Below wx.heap.size wx (w4.drewN n)) := hid fun n => by
                    obtain ⟨O', hP⟩ := HP.out
                    have e1 : pre dl (i + 1) = pre dl i + 16 + dl i := by simp only [pre]; omega
                    refine ⟨i + 1, by omega, ?_, rfl, by omega, ⟨O', ?_⟩, below_drewN B5.out n⟩
                    · rw [e1]; rfl
                    · rw [e1]; exact hP.below (below_drewN B6.out n)
                  by_cases hL0 : dl i = 0
                  · have x3 : w4.cell? ⟨b, o + i * 4 + 3, none⟩ = some (.slice (da i) 0 (dc i)) := by rw [← hL0]; exact (bw4.out.cell (p := ⟨b, o + i * 4 + 3, none⟩) hb).trans y3
                    rw [hL0] at z5
                    have K10 : Hid (∀ x y c d n, Calls Ybaf.prog 10 #[.slice x 0 c, .slice y 0 d] (w4.drewN n) fun e w' => e = .returned (.bool true) ∧ ∃ m, w' = w4.drewN m) := hid fun x y c d n => (aeq_zero x y c d (w4.drewN n)).mono fun e w' ⟨h1, m, h2⟩ => ⟨h1, _, h2.trans (World.drewN_drewN ..)⟩
                    have HL0 := hid hL0
                    clear hL0
                    go_wp2
                    refine wp_region_quiet_lit (by kernel_rfl) (by kernel_rfl) ?_
                    iterate 9 (go_big_quiet_step ((go_at_call 10; exact K10.out _ _ _ _ _)))
                    refine wpQuiet_nil ?_
                    rintro W ⟨nr, rfl⟩
                    go_wp2
                    go_roundw
                    case rel => exact fin.out _
                    case measure => simp [intOf]; omega
                  · obtain ⟨V, rfl, hV1, hV2⟩ := HV.out (by omega)
                    obtain ⟨x, y, e, hx, hc⟩ := HR.out.dat i (by omega) (by omega)
                    have x3 : w4.cell? ⟨b, o + i * 4 + 3, none⟩ = some (.slice (some ⟨x, y, none⟩) (dl i) (dc i)) := by rw [← e]; exact (bw4.out.cell (p := ⟨b, o + i * 4 + 3, none⟩) hb).trans y3
                    have K10 : Hid (∀ c d n, Calls Ybaf.prog 10 #[.slice (some ⟨V, 0, none⟩) (dl i) c, .slice (some ⟨x, y, none⟩) (dl i) d] (w4.drewN n) fun e w' => e = .returned (.bool true) ∧ ∃ m, w' = w4.drewN m) := hid fun c d n =>
                      (aeq_same (Z := dy i) (by omega) (fun t ht => by rw [(below_drewN B6.out n).cell (p := ⟨V, t, none⟩) hV1, hV2 t ht, H4.out t ht]) (fun t ht => ((below_drewN bw4.out n).cell (p := ⟨x, y + t, none⟩) hx).trans (hc t ht))).mono fun e w' ⟨h1, m, h2⟩ => ⟨h1, _, h2.trans (World.drewN_drewN ..)⟩
                    clear hV2 HV hc e
                    go_wp2
                    refine wp_region_quiet_lit (by kernel_rfl) (by kernel_rfl) ?_
                    iterate 9 (go_big_quiet_step ((go_at_call 10; exact K10.out _ _ _)))
                    refine wpQuiet_nil ?_
                    rintro W ⟨nr, rfl⟩
                    go_wp2
                    go_roundw
                    case rel => exact fin.out _
                    case measure => simp [intOf]; omega
                · have hend : (N : Int) < (pre dl i : Int) + 16 + (dl i : Int) := by omega
                  have K : Hid (Calls Ybaf.prog 7 #[.pointer (some ⟨D, 0, none⟩)] wr fun e w' => ∃ Q, e = .returned (.tuple #[zeroRec, .iface 75 (.pointer (some ⟨Q, 0, none⟩))]) ∧ w'.cell? ⟨Q, 1, none⟩ = some (errV ta) ∧ w'.cell? ⟨D, 5, none⟩ = some (.int .i64 (i + 1)) ∧ Below wx.heap.size wr w') := by
                    by_cases h16 : N - pre dl i < 16
                    · exact hid (next_short E2 G2 P2 hN1 hNT hcnt (by omega) h16)
                    · exact hid (next_cut E2 G2 hZ P2 hN1 hNT hcnt (by omega) s2 hdli (by omega))
                  unfold zeroRec at K
                  clear P2 E2 G2 s0 s1 s2 s3 s4 hA hqN
                  go_wp2_with (first
                    | (go_at_call 7; refine K.out.mono ?_; rintro e w2 ⟨Q, rfl, hq1, c5, b2⟩
                       have hT2 := (HE2.out.below b2).t
                       have hD2 : D < w2.heap.size := cell_lt (W := w2) (p := ⟨D, 5, none⟩) (by rw [c5]; rfl)
                       have hl2 := Nat.lt_of_lt_of_le (show 1 < wx.heap.size by omega) (HE2.out.below b2).sz)
                    | (go_at_call 9; refine (is_wrap_same Q 0 ta _ (up1 hq1 _)).mono ?_; rintro e w3 ⟨rfl, rfl⟩)
                    | (go_at_call 8; refine (azero _).mono ?_; rintro e w3 ⟨rfl, b3⟩))
                  go_ret
                  exact ⟨rfl, HX.out.trans ((fin3 HBel.out b2 b3 (HE2.out.below b2).sz).mono hwx)⟩
            · obtain rfl : i = j := by omega
              have K := hid (next_eof E2 G2 P2 hN1 hNT hcnt (by omega))
              unfold zeroRec at K
              have heq := fun w => run_eql_iface_ptr_same (P := Ybaf.prog) w ea Ybaf.underlying32 Ybaf.underlying91 hiC hcC hjC
              clear P2 E2 G2 bel2
              go_wp2_with (first
                | (go_at_call 7; refine K.out.mono ?_; rintro e w2 ⟨rfl, c5, b2⟩
                   have hE2 := (HE2.out.below b2).e
                   have hD2 : D < w2.heap.size := cell_lt (W := w2) (p := ⟨D, 5, none⟩) (by rw [c5]; rfl)
                   have hl2 := Nat.lt_of_lt_of_le (show 0 < wx.heap.size by omega) (HE2.out.below b2).sz)
                | (go_at_call 8; refine (azero _).mono ?_; rintro e w3 ⟨rfl, b3⟩
                   have c6 : w3.cell? ⟨D, 5, none⟩ = some (.int .i64 (i + 1)) := (b3.cell (p := ⟨D, 5, none⟩) (cell_lt (by rw [up1 c5]; rfl))).trans (up1 c5 _)))
              go_ret
              exact ⟨rfl, HX.out.trans ((fin3 HBel.out b2 b3 (HE2.out.below b2).sz).mono hwx)⟩

end Go.Proofs.YbulkcmekFmt
