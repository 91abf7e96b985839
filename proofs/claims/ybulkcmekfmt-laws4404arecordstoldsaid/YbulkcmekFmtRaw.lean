import Derived.Test.YbulkcmekFmtNextAny
namespace Go.Proofs.YbulkcmekFmt
open Go Go.RowKit Go.Extern.Stop Go.Stop Go.Extern

theorem fin3 {n : Nat} {w wr w2 w3 : World} {o : Obj} (h1 : Below n w wr) (h2 : Below n wr w2) (h3 : Below (w2.alloc o).heap.size (w2.alloc o) w3) (hn : n ≤ w2.heap.size) : Below n w w3 :=
  ((h1.trans h2).alloc hn o).trans (h3.mono (Nat.le_trans hn (by simp)))
theorem up1 {w2 : World} {p : Addr} {v : Value} (h : w2.cell? p = some v) (o : Obj) : (w2.alloc o).cell? p = some v :=
  (((Below.refl _ w2).alloc (Nat.le_refl _) o).cell (cell_lt (by rw [h]; rfl))).trans h

theorem run_neq_iface_ptr_other {P : Program} (w : World) {ti tp te : TypeId} {ms : Array (String × TypeId)} {i j : TypeInfo} {a b : Addr} {ca cb : Array Value} {ta tb : TypeId}
    (hi : P.underlying ti = some (.interface ms)) (hp : P.underlying tp = some (.pointer te)) (hinfo : P.info? tp = some i) (hcomp : i.comparable = true) (hte : P.info? te = some j) (hsz : j.size ≠ 0)
    (hne : a ≠ b) (ha : w.heap[a.block]? = some (.cells ca ta (0, 0))) (hb : w.heap[b.block]? = some (.cells cb tb (0, 0))) :
    (binOp .neq ti (.iface tp (.pointer (some a))) (.iface tp (.pointer (some b)))).run P w = .ok (.bool true) w := by
  simp only [binOp]
  simp [Op.equal, Op.maxDepth, run_equalIn_iface_ptr_other w 9998 hi hp hinfo hcomp hte hsz hne ha hb]

theorem up_heap {w2 : World} {k : Nat} {x : Obj} (h : w2.heap[k]? = some x) (o : Obj) (r : Nat) : ((w2.alloc o).drewN r).heap[k]? = some x := by
  have hlt : k < w2.heap.size := by
    rcases Nat.lt_or_ge k w2.heap.size with h' | h'
    · exact h'
    · simp [Array.getElem?_eq_none h'] at h
  exact (Below.heap_alloc w2 o k hlt).trans h

theorem fin4 {n : Nat} {w wr w2 w3 : World} {o : Obj} {r : Nat} (h1 : Below n w wr) (h2 : Below n wr w2) (h3 : Below ((w2.alloc o).drewN r).heap.size ((w2.alloc o).drewN r) w3) (hn : n ≤ w2.heap.size) : Below n w w3 :=
  (below_drewN ((h1.trans h2).alloc hn o) r).trans (h3.mono (Nat.le_trans hn (show w2.heap.size ≤ (w2.alloc o).heap.size by simp)))

set_option maxHeartbeats 8000000 in
set_option maxRecDepth 100000 in
theorem raw_law {F : Interp} {big : Bool} {ao : Option Addr} {N cap : Nat} {Y : Nat → Int} {w : World} {ea ua ta : Addr} {s : ByteArray} (E : Env F w ea ua ta s w.heap.size) (G : Sen w ea ua ta w.heap.size) (hY : Byt Y) (hB : Bytes w ao N Y) (hN : N ≤ 1048576) (hcap : N ≤ cap) :
    Calls Ybaf.prog 4 #[.slice ao N cap, .bool big] w fun e w' => e = .returned (.bool true) ∧ Below w.heap.size w w' := by
  obtain ⟨i, hi, hcmp⟩ := Option.map_eq_some_iff.1 Ybaf.isComp
  obtain ⟨j, hj, hjs⟩ := Option.map_eq_some_iff.1 Ybaf.isSize
  have b7 := E.b7
  have KN := hid (anew big ao N cap Y w hB b7)
  have HB := hid hB
  clear hB
  have hN' : ¬ (1048576 : Int) < (N : Int) := by omega
  go_enter Ybaf.func4, Ybaf.ntmps4
  go_wp2_with (first
    | (go_at_call 6; refine KN.out.mono ?_; rintro e w1 ⟨D, B, S, U, O, rfl, HP, hb1⟩))
  have HP1 := hid HP
  have HB1 := hid hb1
  clear HP hb1
  go_loopw [6, 7] (fun p k wr => ∃ q j : Nat, p = .int .i64 q ∧ k = .int .i64 j ∧ 16 * j ≤ q ∧ q ≤ N ∧ (∃ O, Pc wr w.heap.size D B S U O (otOf big) ao N cap Y q j) ∧ Below w.heap.size w wr) (fun _ k _ => 2 * N + 2 - (intOf k).toNat)
  case atStart => exact ⟨0, 0, rfl, rfl, by omega, by omega, ⟨_, HP1.out⟩, HB1.out⟩
  case round =>
    obtain ⟨q, k, rfl, rfl, hkq, hqN, ⟨O2, P2⟩, bel⟩ := hrel
    have E2 := E.below bel
    have G2 := G.below bel
    have HBel := hid bel
    have hk1 : (k : Int) ≤ (N : Int) := by omega
    have HP2 := hid P2
    have HE2 := hid E2
    have HG2 := hid G2
    clear bel
    by_cases hA : q = N
    · have K := hid (next_eof E2 G2 P2 hN hcap (by omega) hA)
      unfold zeroRec at K
      have heq := fun w => run_eql_iface_ptr_same (P := Ybaf.prog) w ea Ybaf.underlying32 Ybaf.underlying91 hi hcmp hj
      clear P2 E2 G2
      subst hA
      go_wp2_with (first
        | (go_at_call 7; refine K.out.mono ?_; rintro e w2 ⟨rfl, c5, b2⟩
           have hE2 := (HE2.out.below b2).e
           have hD2 : D < w2.heap.size := cell_lt (W := w2) (p := ⟨D, 5, none⟩) (by rw [c5]; rfl)
           have hl2 := Nat.lt_of_lt_of_le (show 0 < w.heap.size by omega) (HE2.out.below b2).sz)
        | (go_at_call 8; refine (azero _).mono ?_; rintro e w3 ⟨rfl, b3⟩))
      go_ret
      exact ⟨rfl, fin3 HBel.out b2 b3 (HE2.out.below b2).sz⟩
    · have hr0 : ((N : Int) - (q : Int) == 0) = false := by simp; omega
      by_cases hB : N - q < 16
      · have K := hid (next_short E2 G2 P2 hN hcap (by omega) (by omega) hB)
        unfold zeroRec at K
        have hr1 : (N : Int) - (q : Int) < 16 := by omega
        clear P2 E2 G2
        go_wp2_with (first
          | (go_at_call 7; refine K.out.mono ?_; rintro e w2 ⟨Q, rfl, hq1, c5, b2⟩
             have hT2 := (HE2.out.below b2).t
             have hl2 := Nat.lt_of_lt_of_le (show 1 < w.heap.size by omega) (HE2.out.below b2).sz
             have hD2 : D < w2.heap.size := cell_lt (W := w2) (p := ⟨D, 5, none⟩) (by rw [c5]; rfl))
          | (go_at_call 9; refine (is_wrap_same Q 0 ta _ (up1 hq1 _)).mono ?_; rintro e w3 ⟨rfl, rfl⟩)
          | (go_at_call 8; refine (azero _).mono ?_; rintro e w3 ⟨rfl, b3⟩))
        go_ret
        exact ⟨rfl, fin3 HBel.out b2 b3 (HE2.out.below b2).sz⟩
      · obtain ⟨b, o, rfl, hb, hcell⟩ := HB.out (by omega)
        have hr1 : ¬ (N : Int) - (q : Int) < 16 := by omega
        have KA : Hid (∀ (p c : Nat) W, p + 4 ≤ N → Below w.heap.size w W → Calls Ybaf.prog 11 #[.slice (some ⟨b, o + p, none⟩) 4 c, .bool big] W fun e w' => e = .returned (.int .u32 (u32at big Y p)) ∧ ∃ q, w' = W.drewN q) := hid fun p c W hp hW =>
          aget hY fun i hi => by rw [Nat.add_assoc, hW.cell (p := ⟨b, o + (p + i), none⟩) hb]; exact hcell (p + i) (by omega)
        obtain ⟨L, hL⟩ : ∃ L : Nat, u32at big Y (q + 8) = (L : Int) := ⟨(u32at big Y (q + 8)).toNat, (Int.toNat_of_nonneg (u32_range hY _).1).symm⟩
        have hLr : L < 4294967296 := by have := (u32_range (big := big) hY (q + 8)).2; omega
        have s1 : (q : Int) + 8 ≤ (q : Int) + 12 := by omega
        have s2 : (q : Int) + 12 ≤ (cap : Int) := by omega
        have s3 : ¬ cap = q + 8 := by omega
        have KL : Hid (∀ (c : Nat) W, Below w.heap.size w W → Calls Ybaf.prog 11 #[.slice (some ⟨b, o + (q + 8), none⟩) 4 c, .bool big] W fun e w' => e = .returned (.int .u32 (L : Int)) ∧ ∃ q, w' = W.drewN q) := hid fun c W hW => by
          have h := KA.out (q + 8) c W (by omega) hW
          rw [hL] at h
          exact h
        have HL := hid hL
        clear hcell
        by_cases hC1 : 262144 < L
        · have K := hid (next_long E2 G2 hY P2 hN hcap (by omega) (by omega) (by omega))
          unfold zeroRec at K
          have hC1' : (262144 : Int) < (L : Int) := by omega
          clear P2 E2 G2 hL
          go_wp2_with (first
            | (go_at_call 7; refine K.out.mono ?_; rintro e w2 ⟨X, rfl, ⟨C, hX⟩, hX2, c5, b2⟩
               have hT2 := (HE2.out.below b2).t
               have hE2 := (HE2.out.below b2).e
               have hl2 := Nat.lt_of_lt_of_le (show 1 < w.heap.size by omega) (HE2.out.below b2).sz
               have hl3 := Nat.lt_of_lt_of_le (show 0 < w.heap.size by omega) (HE2.out.below b2).sz
               have hD2 : D < w2.heap.size := cell_lt (W := w2) (p := ⟨D, 5, none⟩) (by rw [c5]; rfl)
               have G3 := hid (HG2.out.below b2)
               have HX := hid hX
               clear hX)
            | (go_at_call 11; refine (KL.out _ _ ((HBel.out.trans b2).alloc (HE2.out.below b2).sz _)).mono ?_; rintro e w3 ⟨rfl, r, rfl⟩
               obtain ⟨ce, te, he⟩ := G3.out.he
               obtain ⟨ct, tt, ht⟩ := G3.out.ht
               have nE : (⟨X, 0, none⟩ : Addr) ≠ ea := by rintro rfl; have := G3.out.be; simp at this; omega
               have hneq := run_neq_iface_ptr_other (P := Ybaf.prog) ((w2.alloc (.cells zr 30)).drewN r) Ybaf.underlying32 Ybaf.underlying91 hi hcmp hj (by rw [hjs]; decide) nE (up_heap HX.out _ _) (up_heap he _ _)
               have KI := hid (is_other ⟨X, 0, none⟩ ta C ct 93 tt ((w2.alloc (.cells zr 30)).drewN r) (by rintro rfl; have := G3.out.bt; simp at this; omega) (up_heap HX.out _ _) (up_heap ht _ _))
               clear he ht)
            | (go_at_call 9; refine KI.out.mono ?_; rintro e w3 ⟨rfl, rfl⟩)
            | (go_at_call 8; refine (azero _).mono ?_; rintro e w3 ⟨rfl, b3⟩))
          go_ret
          exact ⟨rfl, fin4 HBel.out b2 b3 (HE2.out.below b2).sz⟩
        · have hC1' : ¬ (262144 : Int) < (L : Int) := by omega
          have u1 : IntKind.u64.wrap ((N : Int) - (q : Int) - 16) = (N : Int) - (q : Int) - 16 := by rw [IntKind.wrap_u64]; omega
          have u2 : IntKind.u64.wrap (L : Int) = (L : Int) := by rw [IntKind.wrap_u64]; omega
          by_cases hC2 : N < q + 16 + L
          · have K := hid (next_cut E2 G2 hY P2 hN hcap (by omega) (by omega) hL (by omega) hC2)
            unfold zeroRec at K
            have hC2' : (N : Int) - (q : Int) - 16 < (L : Int) := by omega
            clear P2 E2 G2 hL
            go_wp2_with (first
              | (go_at_call 7; refine K.out.mono ?_; rintro e w2 ⟨Q, rfl, hq1, c5, b2⟩
                 have hT2 := (HE2.out.below b2).t
                 have hl2 := Nat.lt_of_lt_of_le (show 1 < w.heap.size by omega) (HE2.out.below b2).sz
                 have hD2 : D < w2.heap.size := cell_lt (W := w2) (p := ⟨D, 5, none⟩) (by rw [c5]; rfl))
              | (go_at_call 11; refine (KL.out _ _ ((HBel.out.trans b2).alloc (HE2.out.below b2).sz _)).mono ?_; rintro e w3 ⟨rfl, r, rfl⟩)
              | (go_at_call 9; refine (is_wrap_same Q 0 ta _ ?_).mono ?_; exact up1 hq1 _; rintro e w3 ⟨rfl, rfl⟩)
              | (go_at_call 8; refine (azero _).mono ?_; rintro e w3 ⟨rfl, b3⟩))
            go_ret
            exact ⟨rfl, fin4 HBel.out b2 b3 (HE2.out.below b2).sz⟩
          · have K := hid (next_good E2 G2 hY P2 hN hcap (by omega) hL (by omega) (by omega))
            have hC2' : ¬ (N : Int) - (q : Int) - 16 < (L : Int) := by omega
            clear P2 E2 G2 hL
            go_wp2_with (first
              | (go_at_call 7; refine K.out.mono ?_; rintro e w2 ⟨vo, vc, rfl, hV, hP, c5, b2⟩
                 have hD2 : D < w2.heap.size := cell_lt (W := w2) (p := ⟨D, 5, none⟩) (by rw [c5]; rfl)
                 have HV := hid hV
                 have HP := hid hP
                 clear hV hP)
              | (go_at_call 11; refine (KL.out _ _ ((HBel.out.trans b2).alloc (HE2.out.below b2).sz _)).mono ?_; rintro e w3 ⟨rfl, r, rfl⟩))
            have R3 := hid (rec_new w2 (u32at big Y q) (u32at big Y (q + 4)) (u32at big Y (q + 12)) (.slice vo L vc))
            have B3 := hid (below_drewN ((HBel.out.trans b2).alloc (HE2.out.below b2).sz (.cells #[.int .u32 (u32at big Y q), .int .u32 (u32at big Y (q + 4)), .int .u32 (u32at big Y (q + 12)), .slice vo L vc] 30)) r)
            have B4 : Hid (Below w2.heap.size w2 ((w2.alloc (.cells #[.int .u32 (u32at big Y q), .int .u32 (u32at big Y (q + 4)), .int .u32 (u32at big Y (q + 12)), .slice vo L vc] 30)).drewN r)) := hid (below_drewN ((Below.refl _ w2).alloc (Nat.le_refl _) _) r)
            have z0 : ((w2.alloc (.cells #[.int .u32 (u32at big Y q), .int .u32 (u32at big Y (q + 4)), .int .u32 (u32at big Y (q + 12)), .slice vo L vc] 30)).drewN r).cell? ⟨w2.heap.size, 0, none⟩ = some (.int .u32 (u32at big Y q)) := R3.out.cell (by decide)
            have z1 : ((w2.alloc (.cells #[.int .u32 (u32at big Y q), .int .u32 (u32at big Y (q + 4)), .int .u32 (u32at big Y (q + 12)), .slice vo L vc] 30)).drewN r).cell? ⟨w2.heap.size, 1, none⟩ = some (.int .u32 (u32at big Y (q + 4))) := R3.out.cell (by decide)
            have z2 : ((w2.alloc (.cells #[.int .u32 (u32at big Y q), .int .u32 (u32at big Y (q + 4)), .int .u32 (u32at big Y (q + 12)), .slice vo L vc] 30)).drewN r).cell? ⟨w2.heap.size, 2, none⟩ = some (.int .u32 (u32at big Y (q + 12))) := R3.out.cell (by decide)
            have z3 : ((w2.alloc (.cells #[.int .u32 (u32at big Y q), .int .u32 (u32at big Y (q + 4)), .int .u32 (u32at big Y (q + 12)), .slice vo L vc] 30)).drewN r).cell? ⟨w2.heap.size, 3, none⟩ = some (.slice vo L vc) := R3.out.cell (by decide)
            generalize (w2.alloc (.cells #[.int .u32 (u32at big Y q), .int .u32 (u32at big Y (q + 4)), .int .u32 (u32at big Y (q + 12)), .slice vo L vc] 30)).drewN r = w3 at B3 B4 z0 z1 z2 z3 ⊢
            have t1 : (q : Int) ≤ (q : Int) + 4 := by omega
            have t2 : (q : Int) + 4 ≤ (cap : Int) := by omega
            have t3 : ¬ cap = q := by omega
            have t4 : (q : Int) + 4 ≤ (q : Int) + 8 := by omega
            have t5 : (q : Int) + 8 ≤ (cap : Int) := by omega
            have t6 : ¬ cap = q + 4 := by omega
            have t7 : (q : Int) + 12 ≤ (q : Int) + 16 := by omega
            have t8 : (q : Int) + 16 ≤ (cap : Int) := by omega
            have t9 : ¬ cap = q + 12 := by omega
            have K0 : Hid (∀ n c, Calls Ybaf.prog 11 #[.slice (some ⟨b, o + q, none⟩) 4 c, .bool big] (w3.drewN n) fun e w' => e = .returned (.int .u32 (u32at big Y q)) ∧ ∃ m, w' = w3.drewN m) := hid fun n c => (KA.out q c (w3.drewN n) (by omega) (below_drewN B3.out n)).mono fun e w' ⟨h1, x, h2⟩ => ⟨h1, _, h2.trans (World.drewN_drewN ..)⟩
            have K4 : Hid (∀ n c, Calls Ybaf.prog 11 #[.slice (some ⟨b, o + (q + 4), none⟩) 4 c, .bool big] (w3.drewN n) fun e w' => e = .returned (.int .u32 (u32at big Y (q + 4))) ∧ ∃ m, w' = w3.drewN m) := hid fun n c => (KA.out (q + 4) c (w3.drewN n) (by omega) (below_drewN B3.out n)).mono fun e w' ⟨h1, x, h2⟩ => ⟨h1, _, h2.trans (World.drewN_drewN ..)⟩
            have K12 : Hid (∀ n c, Calls Ybaf.prog 11 #[.slice (some ⟨b, o + (q + 12), none⟩) 4 c, .bool big] (w3.drewN n) fun e w' => e = .returned (.int .u32 (u32at big Y (q + 12))) ∧ ∃ m, w' = w3.drewN m) := hid fun n c => (KA.out (q + 12) c (w3.drewN n) (by omega) (below_drewN B3.out n)).mono fun e w' ⟨h1, x, h2⟩ => ⟨h1, _, h2.trans (World.drewN_drewN ..)⟩
            refine wp_region_quiet_lit (by kernel_rfl) (by kernel_rfl) ?_
            iterate 9 (go_big_quiet_step ((go_at_call 11; exact K0.out _ _)))
            iterate 12 (go_big_quiet_step ((go_at_call 11; exact K4.out _ _)))
            iterate 15 (go_big_quiet_step ((go_at_call 11; exact K12.out _ _)))
            refine wpQuiet_nil ?_
            rintro W ⟨nq, rfl⟩
            have B5 := hid (below_drewN B3.out nq)
            have B6 := hid (below_drewN B4.out nq)
            have z5 : (w3.drewN nq).cell? ⟨w2.heap.size, 3, none⟩ = some (.slice vo L vc) := z3
            clear B3 B4 z0 z1 z2 z3 K0 K4 K12
            generalize w3.drewN nq = w4 at B5 B6 z5 ⊢
            have v1 : (q : Int) + 16 ≤ (q : Int) + 16 + (L : Int) := by omega
            have v2 : (q : Int) + 16 + (L : Int) ≤ (cap : Int) := by omega
            have fin : Hid (∀ n, (∃ q' j' : Nat, Value.int .i64 ((q : Int) + 16 + (L : Int)) = .int .i64 q' ∧ Value.int .i64 ((k : Int) + 1) = .int .i64 j' ∧ 16 * j' ≤ q' ∧ q' ≤ N ∧ (∃ O, Pc (w4.drewN n) w.heap.size D B S U O (otOf big) (some ⟨b, o, none⟩) N cap Y q' j') ∧ Below w.heap.size w (w4.drewN n))) := hid fun n => by
              obtain ⟨O', hP⟩ := HP.out
              exact ⟨q + 16 + L, k + 1, rfl, rfl, by omega, by omega, ⟨O', hP.below (below_drewN B6.out n)⟩, below_drewN B5.out n⟩
            clear KA KL K R3
            by_cases hL0 : L = 0
            · have K10 : Hid (∀ x y c d n, Calls Ybaf.prog 10 #[.slice x 0 c, .slice y 0 d] (w4.drewN n) fun e w' => e = .returned (.bool true) ∧ ∃ m, w' = w4.drewN m) := hid fun x y c d n => (aeq_zero x y c d (w4.drewN n)).mono fun e w' ⟨h1, m, h2⟩ => ⟨h1, _, h2.trans (World.drewN_drewN ..)⟩
              subst hL0
              by_cases hcq : cap = q + 16
              · go_wp2
                refine wp_region_quiet_lit (by kernel_rfl) (by kernel_rfl) ?_
                iterate 9 (go_big_quiet_step ((go_at_call 10; exact K10.out _ _ _ _ _)))
                refine wpQuiet_nil ?_
                rintro W ⟨nr, rfl⟩
                go_wp2
                go_roundw
                case rel => exact fin.out _
                case measure => simp [intOf]; omega
              · go_wp2
                refine wp_region_quiet_lit (by kernel_rfl) (by kernel_rfl) ?_
                iterate 9 (go_big_quiet_step ((go_at_call 10; exact K10.out _ _ _ _ _)))
                refine wpQuiet_nil ?_
                rintro W ⟨nr, rfl⟩
                go_wp2
                go_roundw
                case rel => exact fin.out _
                case measure => simp [intOf]; omega
            · obtain ⟨V, rfl, hV1, hV2⟩ := HV.out (by omega)
              have hcq : ¬ cap = q + 16 := by omega
              have K10 : Hid (∀ c d n, Calls Ybaf.prog 10 #[.slice (some ⟨V, 0, none⟩) L c, .slice (some ⟨b, o + (q + 16), none⟩) L d] (w4.drewN n) fun e w' => e = .returned (.bool true) ∧ ∃ m, w' = w4.drewN m) := hid fun c d n =>
                (aeq_same (Z := fun j => Y (q + 16 + j)) (by omega) (fun j hj => ((below_drewN B6.out n).cell (p := ⟨V, j, none⟩) hV1).trans (hV2 j hj)) (fun j hj => by rw [Nat.add_assoc, (below_drewN B5.out n).cell (p := ⟨b, o + (q + 16 + j), none⟩) hb]; obtain ⟨b', o', e', hb', hc'⟩ := HB.out (by omega); cases e'; exact hc' (q + 16 + j) (by omega))).mono fun e w' ⟨h1, m, h2⟩ => ⟨h1, _, h2.trans (World.drewN_drewN ..)⟩
              clear hV2 HV
              go_wp2
              refine wp_region_quiet_lit (by kernel_rfl) (by kernel_rfl) ?_
              iterate 9 (go_big_quiet_step ((go_at_call 10; exact K10.out _ _ _)))
              refine wpQuiet_nil ?_
              rintro W ⟨nr, rfl⟩
              go_wp2
              go_roundw
              case rel => exact fin.out _
              case measure => simp [intOf]; omega

end Go.Proofs.YbulkcmekFmt
