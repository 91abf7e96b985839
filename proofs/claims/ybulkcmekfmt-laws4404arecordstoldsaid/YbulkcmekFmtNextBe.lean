import Derived.Test.YbulkcmekFmtNextLib
namespace Go.Proofs.YbulkcmekFmt
open Go Go.RowKit Go.Extern.Stop Go.Stop Go.Extern

set_option maxHeartbeats 8000000 in
set_option maxRecDepth 100000 in
theorem next_be {F : Interp} {base D B S U : Nat} {O : List Nat} {ao : Option Addr} {N cap : Nat} {Y : Nat → Int} {q cnt : Nat} {w : World} {ea ua ta : Addr} {s : ByteArray} {cu : Array Value} {tu : Nat} {ce : Array Value} {te : Nat} (E : Env F w ea ua ta s base)
    (hne : ea ≠ ua) (hbe : w.heap[ea.block]? = some (.cells ce te (0, 0))) (hbu : w.heap[ua.block]? = some (.cells cu tu (0, 0))) (heb : ea.block < base ∧ ua.block < base)
    (hY : Byt Y) (P : Pc w base D B S U O 54 ao N cap Y q cnt)
    (hN : N ≤ 1048576) (hcap : N ≤ cap) (hc : cnt ≤ 2000000) (h16 : q + 16 ≤ N) :
    Calls Ybaf.prog 7 #[.pointer (some ⟨D, 0, none⟩)] w fun e w' => NextIs base D B S U O 54 true ao N cap Y q cnt ta w e w' := by
  obtain ⟨A, hown, ⟨mD, mB, mS, mU⟩, hall, ⟨pf, vo, l, vc, hD, p0, p1, p5, p22, hbuf⟩, R⟩ := P
  obtain ⟨hD0, hDB, hDS, hDU⟩ := id hown
  have c0 : w.cell? ⟨D, 0, none⟩ = some (.pointer (some ⟨B, 0, none⟩)) := at_cell hD 0 (by decide) p0
  have c5 : w.cell? ⟨D, 5, none⟩ = some (.int .i64 cnt) := at_cell hD 5 (by decide) p5
  have f5 := hD.frozen 5
  have hlt := hD.lt
  obtain ⟨hlB, hlS, hlU⟩ := R.lts
  have b7 := E.b7
  have hVlt : ∀ V, vo = some ⟨V, 0, none⟩ → V < w.heap.size := fun V hV => by
    rcases hbuf.2.2 with ⟨h, _⟩ | ⟨V', g, h, hr, _⟩
    · rw [hV] at h; cases h
    · rw [hV] at h; cases h; exact hr.lt
  have m58 := Ybaf.methodU54
  go_enter Ybaf.func7, Ybaf.ntmps7
  go_upto_region 2 with fail
  obtain ⟨w1, hw1, hD1, R1, hz1, O1, E1, oD⟩ := next_start (O := O) E A hown mD hD R (.int .i64 (cnt + 1))
  have hbuf1 := hbuf.only oD (by simp)
  have K := hid (full (w := w1.drew) (m := 16) (c := 16) A (by omega) hD0 hDB hDS hDU (R1.only A (Only.refl [] w1).drew (by simp)) hD1 E1.e E1.u (Nat.le_trans (by omega) E1.sz) (off := 6) (by decide) (by decide) hN hcap (by omega) (by decide))
  have d0 : w1.cell? ⟨D, 0, none⟩ = some (.pointer (some ⟨B, 0, none⟩)) := at_cell hD1 0 (by decide) p0
  go_cut [4, 5] (fun _ s5 wc => s5 = .nilIface ∧ HeadIs D B S U O ao N cap Y q (fun i => if i = 5 then .int .i64 (cnt + 1) else pf i) w wc 16 ∧ BufOk wc base D B S U O vo l vc)
  case first =>
    rw [← hw1]
    clear hw1 hD1 R1 hD R c0 c5 f5
    go_region_with (first
      | (go_at_call 13; refine K.out.mono ?_; rintro e w2 ⟨d, b1, b2, rfl, b3, b4, b5, b6⟩))
    all_goals go_wp2
    all_goals go_meet
    case rel =>
      obtain rfl : d = 16 := by omega
      refine ⟨rfl, ⟨b4, b5, b6.row (b := w.heap.size) hz1 ?_, O1.drew.trans (b6.mono ?_)⟩, (hbuf1.only (Only.refl [] w1).drew (by simp)).only b6 ?_⟩
      · simp; omega
      · exact sub4 mB mS mU mD
      · intro k hk; simp at hk; omega
  case rest =>
    rename World => wa
    obtain ⟨rfl, ⟨R2, D2, Z2, O2⟩, hbuf2⟩ := hcut
    clear K d0 hw1 hD1 R1 hz1 hD R c0 c5 f5 E1 O1 oD hbuf hbuf1
    have x1 : wa.cell? ⟨D, 1, none⟩ = some (.iface 54 (.agg #[])) := at_cell D2 1 (by decide) p1
    have hcells : ∀ i, i < 16 → wa.cell? ⟨D, 6 + i, none⟩ = some (.int .u8 (Y (q + i))) := fun i hi => by
      rw [D2.cell (by omega)]; unfold laidOver; rw [if_pos (by omega), Nat.add_sub_cancel_left]
    have KU := hid (u32_call (big := true) hY D2.lt hcells)
    have SK1 : Hid (∀ W, Below wa.heap.size wa W → Below wa.heap.size wa W ∧ W.cell? ⟨D, 1, none⟩ = some (.iface 54 (.agg #[]))) := hid fun W h => ⟨h, (h.cell (p := ⟨D, 1, none⟩) D2.lt).trans x1⟩
    have SK2 : Hid (∀ W o, (Below wa.heap.size wa W ∧ W.cell? ⟨D, 1, none⟩ = some (.iface 54 (.agg #[]))) → Below wa.heap.size wa (W.alloc o) ∧ (W.alloc o).cell? ⟨D, 1, none⟩ = some (.iface 54 (.agg #[]))) :=
      hid fun W o h => SK1.out _ (h.1.alloc h.1.size o)
    have SK3 : Hid (∀ W o, Below wa.heap.size wa W → Below wa.heap.size wa (W.alloc o) ∧ (W.alloc o).cell? ⟨D, 1, none⟩ = some (.iface 54 (.agg #[]))) := hid fun W o h => SK1.out _ (h.alloc h.size o)
    have SK4 : Hid (∀ W T a b c d, Below wa.heap.size wa W → wa.heap.size ≤ T → Below wa.heap.size wa ((((W.setCell ⟨T, 0, none⟩ a).setCell ⟨T, 1, none⟩ b).setCell ⟨T, 2, none⟩ c).setCell ⟨T, 3, none⟩ d) ∧ ((((W.setCell ⟨T, 0, none⟩ a).setCell ⟨T, 1, none⟩ b).setCell ⟨T, 2, none⟩ c).setCell ⟨T, 3, none⟩ d).cell? ⟨D, 1, none⟩ = some (.iface 54 (.agg #[]))) :=
      hid fun W T a b c d h hT => SK1.out _ (below4 h hT a b c d)
    have HD := hid (And.intro R2 (And.intro D2 (And.intro Z2 O2)))
    have HF := hid hbuf2
    clear R2 D2 Z2 O2 hcells x1 hbuf2
    go_upto_region 7 with fail
    go_cut [6] (fun s6 wd => ∃ T, s6 = .pointer (some ⟨T, 0, none⟩) ∧ wa.heap.size ≤ T ∧ wd.rowIs T 30 4 (recF (u32at true Y q) (u32at true Y (q + 4)) (u32at true Y (q + 12)) (.slice none 0 0)) ∧ Below wa.heap.size wa wd)
    case first =>
      go_region_held3 (fun W => Below wa.heap.size wa W ∧ W.cell? ⟨D, 1, none⟩ = some (.iface 54 (.agg #[]))) (first | exact SK1.out _ (by assumption) | exact SK2.out _ _ (by assumption) | exact SK3.out _ _ (by assumption) | exact SK4.out _ _ _ _ _ _ (by assumption) (by first | exact Nat.le_refl _ | exact Below.size (by assumption)) | exact SK1.out _ (Below.refl _ _).drew)
        (first
          | (go_at_call_of 58 (Value.slice (some ⟨D, 6, none⟩) 4 16); refine (KU.out 0 16 (by decide) _ ?_).mono ?_; exact (‹_ ∧ _›).1; rintro e w3 ⟨rfl, hb3, hw3⟩; (first | replace hw3 := Onw.trans hw3 (by assumption) | skip); obtain ⟨hc3, hf3⟩ := bcell2 hw3)
          | (go_at_call_of 58 (Value.slice (some ⟨D, 10, none⟩) 4 12); refine (KU.out 4 12 (by decide) _ ?_).mono ?_; exact (‹_ ∧ _›).1; rintro e w3 ⟨rfl, hb3, hw3⟩; (first | replace hw3 := Onw.trans hw3 (by assumption) | skip); obtain ⟨hc3, hf3⟩ := bcell2 hw3)
          | (go_at_call_of 58 (Value.slice (some ⟨D, 18, none⟩) 4 4); refine (KU.out 12 4 (by decide) _ ?_).mono ?_; exact (‹_ ∧ _›).1; rintro e w3 ⟨rfl, hb3, hw3⟩; (first | replace hw3 := Onw.trans hw3 (by assumption) | skip); obtain ⟨hc3, hf3⟩ := bcell2 hw3))
      all_goals go_wp2
      all_goals go_meet
      all_goals first
        | exact ⟨_, rfl, hb3.size, rec_new _ _ _ _ _, hb3.alloc hb3.size _⟩
        | exact ⟨_, rfl, by first | exact Nat.le_refl _ | exact Below.size (by assumption), rec_set _ _ _ _ (row_up hw3 _ _ (zr_row' _)), below4 hb3 (by first | exact Nat.le_refl _ | exact Below.size (by assumption)) _ _ _ _⟩
    case rest =>
      obtain ⟨T, rfl, hT, T3, B3⟩ := hcut
      rename World => wb
      obtain ⟨R2, D2, Z2, O2⟩ := HD.out
      have hwa := O2.size
      have hlD := D2.lt
      have hlZ := Z2.lt
      have ob : Only [] wa wb := Only.of_below B3
      have R3 := R2.only A ob (by simp)
      have D3 := ob.row D2 (by simp)
      have Z3 := ob.row Z2 (by simp)
      have O3 := O2.trans (ob.mono (by simp))
      have F3 := HF.out.only ob (by simp)
      have lD : D ≠ T := by omega
      have lB : B ≠ T := by omega
      have lS : S ≠ T := by omega
      have lU : U ≠ T := by omega
      have lW : w.heap.size ≠ T := by omega
      have hT' : w.heap.size ≤ T := by omega
      have lV : ∀ V, vo = some ⟨V, 0, none⟩ → V ≠ T ∧ V ≠ w.heap.size := fun V hV => by have := hVlt V hV; omega
      obtain ⟨L, hL⟩ : ∃ L : Nat, u32at true Y (q + 8) = (L : Int) := ⟨(u32at true Y (q + 8)).toNat, (Int.toNat_of_nonneg (u32_range hY _).1).symm⟩
      have hLlt : L < 4294967296 := by have := (u32_range (big := true) hY (q + 8)).2; omega
      have x1 : wb.cell? ⟨D, 1, none⟩ = some (.iface 54 (.agg #[])) := at_cell D3 1 (by decide) p1
      have K8 : Hid (Calls Ybaf.prog 58 #[.agg #[], .slice (some ⟨D, 14, none⟩) 4 8] wb.drew fun e w4 => e = .returned (.int .u32 (L : Int)) ∧ Hid (Rd w4 B S U ao N cap Y (q + 16) ∧ w4.rowIs D 43 23 (laidOver (fun i => if i = 5 then .int .i64 (cnt + 1) else pf i) 6 16 (fun j => .int .u8 (Y (q + j)))) ∧
          w4.rowIs w.heap.size 30 4 (fun i => zr.getD i undef) ∧ w4.rowIs T 30 4 (recF (u32at true Y q) (u32at true Y (q + 4)) (u32at true Y (q + 12)) (.slice none 0 0)) ∧ Only O w w4 ∧ BufOk w4 base D B S U O vo l vc ∧ Env F w4 ea ua ta s base)) := by
        refine hid ((KU.out 8 8 (by decide) wb.drew B3.drew).mono ?_)
        rintro e w4 ⟨rfl, hb4, hw4⟩
        have ob4 : Only [] wb w4 := ((Only.refl [] wb).drew).trans (Only.of_below hw4)
        have O4 := O3.trans (ob4.mono (by simp))
        exact ⟨by rw [hL], R3.only A ob4 (by simp), ob4.row D3 (by simp), ob4.row Z3 (by simp), ob4.row T3 (by simp), O4, F3.only ob4 (by simp), E.only O4 hall⟩
      clear R2 D2 Z2 O2 R3 D3 Z3 O3 T3 B3 F3 ob KU SK1 SK2 SK3 SK4 HD HF
      go_wp2
      go_region_with (first | (go_at_call 58; refine K8.out.mono ?_; rintro e w4 ⟨rfl, H4⟩))
      obtain ⟨R4, D4, Z4, T4, O4, F4, E4⟩ := H4.out
      clear K8 x1
      have y5 : w4.cell? ⟨D, 5, none⟩ = some (.int .i64 (cnt + 1)) := at_cell D4 5 (by decide) rfl
      have y22 : w4.cell? ⟨D, 22, none⟩ = some (.slice vo l vc) := at_cell D4 22 (by decide) p22
      have fz22 := D4.frozen 22
      have HL := hid hL
      clear hL
      by_cases hbig : (262144 : Int) < (L : Int)
      · have KE : ∀ o : Obj, Hid ((w4.alloc o).cell? ⟨w4.heap.size, 0, none⟩ = some (.iface 2 (.int .i64 (cnt + 1))) → (w4.alloc o).cell? ⟨w4.heap.size, 1, none⟩ = some (.iface 23 (.int .u32 L)) → (w4.alloc o).cell? ⟨w4.heap.size, 2, none⟩ = some (.iface 3 (.int .i64 262144)) →
            Calls Ybaf.prog 15 #[.string ⟨#[114, 101, 99, 111, 114, 100, 32, 37, 100, 58, 32, 99, 97, 112, 116, 117, 114, 101, 100, 32, 108, 101, 110, 103, 116, 104, 32, 37, 100, 32, 101, 120, 99, 101, 101, 100, 115, 32, 37, 100]⟩, .slice (some ⟨w4.heap.size, 0, none⟩) 3 3] (w4.alloc o) fun e w5 =>
              ∃ X, e = .returned (errV ⟨X, 0, none⟩) ∧ w5.rowIs w.heap.size 30 4 (fun i => zr.getD i undef) ∧ Hid ((∃ C, w5.heap[X]? = some (.cells C 93 (0, 0))) ∧ w.heap.size < X ∧ Only O w w5 ∧ w5.cell? ⟨D, 5, none⟩ = some (.int .i64 (cnt + 1)))) := fun o => hid fun h0 h1 h2 => by
          refine (errorf_d F w4.heap.size 3 (cnt + 1) L (w4.alloc o) E4.ans h0 h1 h2).mono ?_
          rintro e w5 ⟨X, C, rfl, h3, h4, h5⟩
          have ob5 : Only [] w4 w5 := ((Only.refl [] w4).alloc o).trans (Only.of_below h5)
          have hz := Z4.lt
          have h6 : w4.heap.size ≤ X := Nat.le_trans (by simp) h4
          exact ⟨X, rfl, ob5.row Z4 (by simp), ⟨C, h3⟩, by omega, O4.trans (ob5.mono (by simp)), (ob5.cell (p := ⟨D, 5, none⟩) D4.lt (by simp)).trans y5⟩
        clear R4 D4 Z4 T4 O4 F4 E4 H4 y22 fz22
        go_wp2_with (first
          | (go_at_call 15; refine ((KE _).out ?_ ?_ ?_).mono ?_; go_simp; go_simp; go_simp; rintro e w5 ⟨X, rfl, Z5, H5⟩; obtain ⟨z0, z1, z2, z3, g0, g1, g2, g3⟩ := four_cells Z5))
        obtain ⟨⟨C, h1⟩, h2, h3, h4⟩ := H5.out
        refine bodyPost_ret (v := .tuple #[zeroRec, errV ⟨X, 0, none⟩]) (by simp [results, Ybaf.results7, go_sem, zeroRec, *]) rfl (.inl ⟨by rw [HL.out]; exact hbig, ⟨X, C, rfl, ?_, Nat.le_of_lt h2⟩, only4 h3 _ (Nat.le_refl _) _ _ _ _, (far4 (Nat.ne_of_gt hlt) _ _ _ _).trans h4⟩)
        exact (heap4 (by omega) _ _ _ _).trans h1
      · have hLs : L ≤ 262144 := by omega
        have HM : Hid (∀ w5 O' vo' l' vc', Only [D] w4 w5 → (∀ k, k ∈ O' → k ∈ O ∨ w.heap.size ≤ k) → (∀ k, k ∈ O → k ∈ O') → (∀ k, k ∈ O' → base ≤ k) → L ≤ vc' → w5.rowIs D 43 23 (fun i => if i = 22 then .slice vo' l' vc' else laidOver (fun i => if i = 5 then .int .i64 (cnt + 1) else pf i) 6 16 (fun j => .int .u8 (Y (q + j))) i) → BufOk w5 base D B S U O' vo' l' vc' →
            (∀ V, vo' = some ⟨V, 0, none⟩ → V ≠ T ∧ V ≠ w.heap.size) → Mid F base D B S U O O' 54 ao N cap Y q cnt ea ua ta s T (u32at true Y q) (u32at true Y (q + 4)) (u32at true Y (q + 12)) L w w5 vo' l' vc') :=
          hid fun w5 O' vo' l' vc' o5 h1 h2 h3 h4 hD5 h5 h6 => ⟨h4, h1, h2, h3, ⟨_, hD5, p0, p1, rfl, rfl⟩, h5, h6, R4.only A o5 (by simp; exact ⟨hD0, hDB, hDS, hDU⟩), o5.row Z4 (by simp; omega), o5.row T4 (by simpa using fun e => lD e.symm),
            O4.trans (o5.mono (by simpa using mD)), E4.only o5 (by simpa using hD0)⟩
        have HX := hid (And.intro D4 F4)
        have lT4 := T4.lt
        have lD4 := D4.lt
        clear H4 R4 D4 Z4 T4 O4 F4 E4
        go_upto_if 105 with fail
        go_cut [] (fun wd => ∃ O' vo' l' vc', Mid F base D B S U O O' 54 ao N cap Y q cnt ea ua ta s T (u32at true Y q) (u32at true Y (q + 4)) (u32at true Y (q + 12)) L w wd vo' l' vc')
        case first =>
          obtain ⟨D4, F4⟩ := HX.out
          by_cases hvc : (vc : Int) < (L : Int)
          · have HD4 := hid D4
            have HF4 := hid F4
            have hnew : Hid (∀ C : Nat, L ≤ C → C ≤ 262144 → ∃ O' vo' l' vc', Mid F base D B S U O O' 54 ao N cap Y q cnt ea ua ta s T (u32at true Y q) (u32at true Y (q + 4)) (u32at true Y (q + 12)) L w ((w4.setCell ⟨D, 22, none⟩ (.slice (some ⟨w4.heap.size, 0, none⟩) L C)).alloc (.cells (madeCells #[.int .u8 0] C) 5)) vo' l' vc') := hid fun C h1 h2 => by
              have hr := made_row (w4.setCell ⟨D, 22, none⟩ (.slice (some ⟨w4.heap.size, 0, none⟩) L C)) C
              rw [show (w4.setCell ⟨D, 22, none⟩ (.slice (some ⟨w4.heap.size, 0, none⟩) L C)).heap.size = w4.heap.size by simp] at hr
              have o5 : Only [D] w4 ((w4.setCell ⟨D, 22, none⟩ (.slice (some ⟨w4.heap.size, 0, none⟩) L C)).alloc (.cells (madeCells #[.int .u8 0] C) 5)) := ((Only.refl [D] w4).setCell (by simp) _).alloc _
              have l1 := HD4.out.lt
              refine ⟨w4.heap.size :: O, some ⟨w4.heap.size, 0, none⟩, L, C, HM.out _ _ _ _ _ o5 ?_ ?_ ?_ h1 ((HD4.out.set 22 _).alloc _) ⟨h1, by omega, .inr ⟨w4.heap.size, _, rfl, hr, ?_⟩⟩ ?_⟩
              · intro k hk
                simp at hk
                rcases hk with rfl | hk
                · right; omega
                · exact .inl hk
              · intro k hk; exact List.mem_cons_of_mem _ hk
              · intro k hk
                simp at hk
                rcases hk with rfl | hk
                · omega
                · exact hall k hk
              · refine ⟨by omega, by omega, by omega, by omega, by omega, by simp⟩
              · intro V hV
                cases hV
                omega
            clear D4 F4
            by_cases hk : (2048 : Int) ≤ (L : Int)
            · have hmk := make_lc .u32 .u32 L L (Nat.le_refl _) (by omega)
              go_wp2
              go_meet
              case rel => exact hnew.out L (Nat.le_refl _) hLs
            · have hmk : ∀ w : World, (Instr.makeSlice 24 (.int .u32 (L : Int)) (.int .u32 2048)).run Ybaf.prog w = .ok (.slice (some ⟨w.heap.size, 0, none⟩) L 2048) (w.alloc (.cells (madeCells #[.int .u8 0] 2048) 5)) := make_lc .u32 .u32 L 2048 (by omega) (by decide)
              go_wp2
              go_meet
              case rel => exact hnew.out 2048 (by omega) (by decide)
          · go_wp2
            go_meet
            case rel =>
              refine ⟨O, vo, l, vc, HM.out w4 O vo l vc (Only.refl _ _) (fun k hk => .inl hk) (fun k hk => hk) hall (by omega) (D4.congr fun i _ => ?_) F4 lV⟩
              by_cases hi : i = 22
              · subst hi; exact p22
              · rw [if_neg hi]
        case rest =>
          obtain ⟨O', vo', l', vc', M⟩ := hcut
          rename World => w5
          clear HM HX y5 y22 fz22 lT4 lD4 hVlt lV
          have KG := hid (got_call A hown ⟨mD, mB, mS, mU⟩ ⟨by omega, lD, lB, lS, lU⟩ ⟨hlt, hlB, hlS, hlU⟩ E.sz M hN hcap h16 hLs)
          obtain ⟨m1, m2, m3, m4, ⟨pg, D5, g0, g1, g5, g22⟩, F5, m7, R5, Z5, T5, O5, E5⟩ := M
          have y0 : w5.cell? ⟨D, 0, none⟩ = some (.pointer (some ⟨B, 0, none⟩)) := at_cell D5 0 (by decide) g0
          have y22 : w5.cell? ⟨D, 22, none⟩ = some (.slice vo' l' vc') := at_cell D5 22 (by decide) g22
          have t3 : w5.cell? ⟨T, 3, none⟩ = some (.slice none 0 0) := at_cell T5 3 (by decide) rfl
          have ft3 := T5.frozen 3
          have hLv : (L : Int) ≤ (vc' : Int) := by omega
          have lTD : ¬ T = D := fun e => lD e.symm
          clear D5 F5 R5 Z5 T5 O5 E5
          go_upto_region 14 with fail
          have v0 : (w5.setCell ⟨T, 3, none⟩ (.slice vo' L vc')).cell? ⟨D, 0, none⟩ = some (.pointer (some ⟨B, 0, none⟩)) := (World.cell?_setCell_far _ _ _ _ lTD).trans y0
          have v3 : (w5.setCell ⟨T, 3, none⟩ (.slice vo' L vc')).cell? ⟨T, 3, none⟩ = some (.slice vo' L vc') := World.cell?_setCell_same' _ _ _ (by rw [t3]; rfl)
          generalize w5.setCell ⟨T, 3, none⟩ (.slice vo' L vc') = w6 at KG v0 v3 ⊢
          clear y0 y22 t3 ft3
          go_cut [8, 9] (fun _ s9 wd => ∃ d, d ≤ L ∧ q + 16 + d ≤ N ∧ s9 = fullErr ea ua d L ∧ (d = L ∨ q + 16 + d = N) ∧ Got F base D B S U O O' 54 ao N cap Y q cnt ea ua ta s T (u32at true Y q) (u32at true Y (q + 4)) (u32at true Y (q + 12)) L w wd vo' l' vc' d)
          case first =>
            go_region_with (first | (go_at_call 13; refine KG.out.mono ?_; rintro e w7 ⟨d, k1, k2, rfl, k3, G⟩))
            all_goals go_wp2
            all_goals go_meet
            all_goals exact ⟨d, k1, k2, rfl, k3, G⟩
          case rest =>
          obtain ⟨d, k1, k2, rfl, k3, G⟩ := hcut
          rename World => w7
          obtain ⟨⟨ph, D7, h0, h1, h5, h22⟩, F7, V7, R7, Z7, T7, O7, E7⟩ := G
          have y5 : w7.cell? ⟨D, 5, none⟩ = some (.int .i64 (cnt + 1)) := at_cell D7 5 (by decide) h5
          obtain ⟨z0, z1, z2, z3, q0, q1, q2, q3⟩ := four_cells Z7
          clear v0 v3 KG
          by_cases hdL : d = L
          · subst hdL
            have t0 : w7.cell? ⟨T, 0, none⟩ = some (.int .u32 (u32at true Y q)) := T7.cell (by decide)
            have t1 : w7.cell? ⟨T, 1, none⟩ = some (.int .u32 (u32at true Y (q + 4))) := T7.cell (by decide)
            have t2 : w7.cell? ⟨T, 2, none⟩ = some (.int .u32 (u32at true Y (q + 12))) := T7.cell (by decide)
            have t3 : w7.cell? ⟨T, 3, none⟩ = some (.slice vo' d vc') := T7.cell (by decide)
            have e1 : fullErr ea ua d d = .nilIface := if_pos rfl
            rw [e1]
            have HG := hid (And.intro D7 (And.intro F7 (And.intro V7 (And.intro R7 (And.intro O7 Z7.lt)))))
            clear D7 F7 V7 R7 O7 Z7 T7 E7
            have hZ7 := hid (And.intro z0 (And.intro z1 (And.intro z2 z3)))
            go_wp2
            refine bodyPost_ret (v := .tuple #[.agg #[.int .u32 (u32at true Y q), .int .u32 (u32at true Y (q + 4)), .int .u32 (u32at true Y (q + 12)), .slice vo' d vc'], .nilIface]) (by simp [results, Ybaf.results7, go_sem, *]) rfl ?_
            obtain ⟨D7, F7, V7, R7, O7, hz⟩ := HG.out
            have oR : Only [w.heap.size] w7 ((((w7.setCell ⟨w.heap.size, 0, none⟩ (.int .u32 (u32at true Y q))).setCell ⟨w.heap.size, 1, none⟩ (.int .u32 (u32at true Y (q + 4)))).setCell ⟨w.heap.size, 2, none⟩ (.int .u32 (u32at true Y (q + 12)))).setCell ⟨w.heap.size, 3, none⟩ (.slice vo' d vc')) :=
              ((((Only.refl [w.heap.size] w7).setCell (by simp) _).setCell (by simp) _).setCell (by simp) _).setCell (by simp) _
            refine .inr (.inr ⟨d, HL.out, hLs, k2, O', vo', vc', rfl, fun h => ?_, ⟨A, hown, ⟨m3 _ mD, m3 _ mB, m3 _ mS, m3 _ mU⟩, m4, ⟨ph, vo', l', vc', oR.row D7 (by simp; omega), h0, h1, h5, h22, ?_⟩, R7.only A oR ?_⟩, m2, only4 O7 _ (Nat.le_refl _) _ _ _ _⟩)
            · obtain ⟨V, hv, hvw, hv7, hvc⟩ := V7 h
              exact ⟨V, hv, Nat.lt_of_lt_of_le hv7 oR.size, fun j hj => (oR.cell (p := ⟨V, j, none⟩) hv7 (by simpa using hvw)).trans (hvc j hj)⟩
            · obtain ⟨f1, f2, f3⟩ := F7
              refine ⟨f1, f2, ?_⟩
              rcases f3 with f3 | ⟨V, g, e, r, rest⟩
              · exact .inl f3
              · exact .inr ⟨V, g, e, oR.row r (by simpa using (m7 V e).2), rest⟩
            · simp
              refine ⟨E.sz, by omega, by omega, by omega⟩
          · have hE7 := E7.e
            have hU7 := E7.u
            obtain ⟨i, hi, hcmp⟩ := Option.map_eq_some_iff.1 Ybaf.isComp
            obtain ⟨j, hj, hjs⟩ := Option.map_eq_some_iff.1 Ybaf.isSize
            have hbe7 := (O7.block ea.block (Nat.lt_of_lt_of_le heb.1 E.sz) (fun h => by have := hall _ h; omega)).trans hbe
            have hbu7 := (O7.block ua.block (Nat.lt_of_lt_of_le heb.2 E.sz) (fun h => by have := hall _ h; omega)).trans hbu
            have KT : Hid (Calls Ybaf.prog 14 #[.pointer (some ⟨D, 0, none⟩)] w7 fun e w8 => ∃ Q, e = .returned (.iface 75 (.pointer (some ⟨Q, 0, none⟩))) ∧ Hid (w8.cell? ⟨Q, 1, none⟩ = some (errV ta) ∧ Below w7.heap.size w7 w8) ∧ w8.rowIs w.heap.size 30 4 (fun i => zr.getD i undef)) :=
              hid ((trunc F D (cnt + 1) ta s w7 E7.ans y5 E7.t E7.s (Nat.lt_of_lt_of_le E7.ta E7.sz)).mono fun e w8 ⟨Q, h1, h2, h3⟩ => ⟨Q, h1, ⟨h2, h3⟩, Z7.of_block (h3.block _ Z7.lt)⟩)
            have HG := hid (And.intro D7 O7)
            clear D7 F7 V7 R7 O7 Z7 T7 E7 z0 z1 z2 z3 q0 q1 q2 q3
            have fin : Hid (∀ (Q : Nat) (w8 : World), w8.cell? ⟨Q, 1, none⟩ = some (errV ta) → Below w7.heap.size w7 w8 → w8.cell? ⟨w.heap.size, 1, none⟩ = some (.int .u32 0) → NextIs base D B S U O 54 true ao N cap Y q cnt ta w (.returned (.tuple #[zeroRec, .iface 75 (.pointer (some ⟨Q, 0, none⟩))])) ((((w8.setCell ⟨w.heap.size, 0, none⟩ (.int .u32 0)).setCell ⟨w.heap.size, 1, none⟩ (.int .u32 0)).setCell ⟨w.heap.size, 2, none⟩ (.int .u32 0)).setCell ⟨w.heap.size, 3, none⟩ (.slice none 0 0))) := hid fun Q w8 hq1 hq2 hq3 => by
              have hQ : w.heap.size ≠ Q := by
                rintro rfl
                rw [hq3] at hq1
                cases hq1
              exact .inr (.inl ⟨L, HL.out, hLs, by omega, ⟨Q, rfl, (far4 hQ _ _ _ _).trans hq1⟩, only4 (HG.out.2.trans (Only.of_below hq2)) _ (Nat.le_refl _) _ _ _ _, (far4 (Nat.ne_of_gt hlt) _ _ _ _).trans ((hq2.cell (p := ⟨D, 5, none⟩) HG.out.1.lt).trans y5)⟩)
            by_cases hd0 : d = 0
            · have e1 : fullErr ea ua d L = errV ea := by rw [fullErr, if_neg hdL, if_pos hd0]
              have heq := fun w => run_eql_iface_ptr_same (P := Ybaf.prog) w ea Ybaf.underlying32 Ybaf.underlying91 hi hcmp hj
              rw [e1]
              clear hd0 e1 k1 k2 k3 hdL
              go_wp2_with (first
                | (go_at_call 14; refine KT.out.mono ?_; rintro e w8 ⟨Q, rfl, HT, Z8⟩; obtain ⟨z0, z1, z2, z3, q0, q1, q2, q3⟩ := four_cells Z8))
              exact bodyPost_ret (v := .tuple #[zeroRec, .iface 75 (.pointer (some ⟨Q, 0, none⟩))]) (by simp [results, Ybaf.results7, go_sem, zeroRec, *]) rfl (fin.out Q w8 HT.out.1 HT.out.2 z1)
            · have e1 : fullErr ea ua d L = errV ua := by rw [fullErr, if_neg hdL, if_neg hd0]
              have heq := fun w => run_eql_iface_ptr_same (P := Ybaf.prog) w ua Ybaf.underlying32 Ybaf.underlying91 hi hcmp hj
              have heq2 := run_eql_iface_ptr_other (P := Ybaf.prog) w7 Ybaf.underlying32 Ybaf.underlying91 hi hcmp hj (by rw [hjs]; decide) (Ne.symm hne) hbu7 hbe7
              rw [e1]
              clear hd0 e1 k1 k2 k3 hdL
              go_wp2_with (first
                | (go_at_call 14; refine KT.out.mono ?_; rintro e w8 ⟨Q, rfl, HT, Z8⟩; obtain ⟨z0, z1, z2, z3, q0, q1, q2, q3⟩ := four_cells Z8))
              exact bodyPost_ret (v := .tuple #[zeroRec, .iface 75 (.pointer (some ⟨Q, 0, none⟩))]) (by simp [results, Ybaf.results7, go_sem, zeroRec, *]) rfl (fin.out Q w8 HT.out.1 HT.out.2 z1)

end Go.Proofs.YbulkcmekFmt
