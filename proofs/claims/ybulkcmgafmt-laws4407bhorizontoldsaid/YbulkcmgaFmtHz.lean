/-
  LawS4407BHorizon: the walk.
-/
import Derived.Test.YbulkcmgaFmtHzLib2
namespace Go.Proofs.YbulkcmgaFmt
open Go Go.RowKit Go.Maps

/-- The script's operations. -/
def OpsAt (w : World) (ao : Option Addr) (N : Nat) (f0 f1 f2 f3 : Nat → Int) (f4 : Nat → Bool) : Prop := 0 < N → ∃ b off, ao = some ⟨b, off, none⟩ ∧ b < w.heap.size ∧ ∀ j, j < N →
  (w.cell? ⟨b, off + j * 5, none⟩ = some (.int .u8 (f0 j)) ∧ w.cell? ⟨b, off + j * 5 + 1, none⟩ = some (.int .u8 (f1 j)) ∧ w.cell? ⟨b, off + j * 5 + 2, none⟩ = some (.int .u64 (f2 j)) ∧ w.cell? ⟨b, off + j * 5 + 3, none⟩ = some (.int .u8 (f3 j)) ∧ w.cell? ⟨b, off + j * 5 + 4, none⟩ = some (.bool (f4 j))) ∧
  (0 ≤ f0 j ∧ f0 j ≤ 255) ∧ (0 ≤ f1 j ∧ f1 j ≤ 255) ∧ (0 ≤ f2 j ∧ f2 j ≤ 18446744073709551615) ∧ (0 ≤ f3 j ∧ f3 j ≤ 255)

/-- The state of things ahead of a round. -/
structure Main (w : World) (bs RB : Nat) (hold : Bool) (k hi : Int) (m : Md) (al : Nat → Bool) (ev : Value) (j : Nat) : Prop where
  lo : 0 ≤ hi
  up : hi ≤ 18446744073709551615
  ru : Ru w bs RB hold k hi (flo hi k) (flo hi k) (fun _ => False) m al
  es : Es w bs RB ev m al
  ne : m.ne ≤ j
  dead : ∀ i, i < m.ne → al i = false → m.rd i < flo hi k

theorem Ru.keep {w w' : World} {bs RB : Nat} {hold : Bool} {k hi fl tp : Int} {ex : Int → Prop} {m : Md} {al : Nat → Bool} (h : Ru w bs RB hold k hi fl tp ex m al) (c : KeepCM w w') : Ru w' bs RB hold k hi fl tp ex m al := by
  obtain ⟨M, g, h', sv, n, a, sp, x⟩ := h
  exact ⟨M, g, h', sv, n, a, sp, x.keep c⟩
theorem Main.keep {w w' : World} {bs RB j : Nat} {hold : Bool} {k hi : Int} {m : Md} {al : Nat → Bool} {ev : Value} (h : Main w bs RB hold k hi m al ev j) (c : KeepCM w w') : Main w' bs RB hold k hi m al ev j :=
  ⟨h.lo, h.up, h.ru.keep c, h.es.cel (c.cel RB), h.ne, h.dead⟩

set_option maxHeartbeats 8000000 in
set_option maxRecDepth 100000 in
theorem horizon_is (hold : Bool) (keep : Int) (hkeep : 0 ≤ keep ∧ keep ≤ 18446744073709551615) (ao : Option Addr) (N cap0 : Nat) (f0 f1 f2 f3 : Nat → Int) (f4 : Nat → Bool) (w : World) (hO : OpsAt w ao N f0 f1 f2 f3 f4) :
    Calls Ybaf.prog 4 #[.bool hold, .int .u64 keep, .slice ao N cap0] w fun e w' => e = .returned (.bool true) ∧ Below w.heap.size w w' := by
  have HO := hidn hO
  clear hO
  by_cases hN : N ≤ 300
  · have hN' : (N : Int) ≤ 300 := by omega
    have hN2 : ¬ (300 : Int) < (N : Int) := by omega
    have hN3 : decide ((300 : Int) < (N : Int)) = false := by simpa using hN2
    have qn : ∀ (w : World) (a : Addr), (binOp .eql 29 (.pointer (some a)) (.pointer none)).run Ybaf.prog w = .ok (.bool false) w := fun w a => by kernel_rfl
    obtain ⟨kk, hkk⟩ : ∃ kk : Int, kk = 1 + keep % 5 := ⟨_, rfl⟩
    have hk1 : 1 ≤ kk ∧ kk ≤ 5 := by omega
    have K10 := hidn (newRule_is hold kk hk1.1 w)
    go_enter Ybaf.func4, Ybaf.ntmps4
    go_upto_region 4 with (fail)
    simp only [← hkk]
    clear hkk
    go_upto_region 7 with (go_at_call 10; refine K10.out.mono ?_; rintro e w1 ⟨RB, rfl, y1, y2⟩)
    have HM : Hid (Main w1 w.heap.size RB hold kk 0 md0 (fun _ => false) (.slice none 0 0) 0 ∧ Below w.heap.size w w1) := by
      have e0 : flo 0 kk = 0 := by simp [flo]; omega
      exact hidn ⟨⟨by omega, by omega, by rw [e0]; exact y1, .inl ⟨rfl, rfl⟩, Nat.le_refl _, fun i hi => absurd hi (by simp [md0])⟩, y2⟩
    clear y1 y2 K10
    go_upto_region 10 with (fail)
    go_loopw [10, 11, 42] (fun s10 s11 s42 wr => ∃ j m al hi eo ec, j ≤ N ∧ s42 = .int .i64 (j : Nat) ∧ s11 = .int .u64 hi ∧ s10 = .slice eo m.ne ec ∧ Main wr w.heap.size RB hold kk hi m al (.slice eo m.ne ec) j ∧ Below w.heap.size w wr) (fun _ _ s42 _ => N - (intOf s42).toNat)
    case atStart => exact ⟨0, md0, _, 0, none, 0, Nat.zero_le _, rfl, rfl, rfl, HM.out.1, HM.out.2⟩
    case round =>
      clear HM
      obtain ⟨j, m, al, hi, eo, ec, hj, rfl, rfl, rfl, mn, be⟩ := hrel
      rename World => wr
      by_cases hjN : j < N
      · have hjN' : (j : Int) < (N : Int) := by omega
        obtain ⟨b0, off, rfl, hb0, hOps⟩ := HO.out (by omega)
        obtain ⟨⟨p0, p1, p2, p3, p4⟩, g0, g1, g2, g3⟩ := hOps j hjN
        have q0 := (be.cell (p := ⟨b0, off + j * 5, none⟩) hb0).trans p0
        have q1 := (be.cell (p := ⟨b0, off + j * 5 + 1, none⟩) hb0).trans p1
        have q2 := (be.cell (p := ⟨b0, off + j * 5 + 2, none⟩) hb0).trans p2
        have q3 := (be.cell (p := ⟨b0, off + j * 5 + 3, none⟩) hb0).trans p3
        have q4 := (be.cell (p := ⟨b0, off + j * 5 + 4, none⟩) hb0).trans p4
        have HM := hidn (And.intro mn be)
        clear mn be hOps p0 p1 p2 p3 p4
        generalize f0 j = o0 at *
        generalize f1 j = o1 at *
        generalize f2 j = o2 at *
        generalize f3 j = o3 at *
        generalize f4 j = o4 at *
        go_upto_region 12 with (fail)
        have BX := (Below.refl _ wr).alloc (Nat.le_refl _) (.cells #[.int .u8 o0, .int .u8 o1, .int .u64 o2, .int .u8 o3, .bool o4] 73)
        have HX1 : Has (wr.alloc (.cells #[.int .u8 o0, .int .u8 o1, .int .u64 o2, .int .u8 o3, .bool o4] 73)) wr.heap.size 73 [.int .u8 o0, .int .u8 o1, .int .u64 o2, .int .u8 o3, .bool o4] := ⟨_, heap_alloc_new wr _, by simp⟩
        have M1 := HM.out.1.keep (KeepCM.of_below BX)
        have be1 := HM.out.2.trans (BX.mono HM.out.2.size)
        have nXR : wr.heap.size ≠ RB := by
          obtain ⟨M, g, h, sv, n, a, sp, x⟩ := HM.out.1.ru
          have := x.c5.lt
          omega
        clear BX q0 q1 q2 q3 q4 HM
        generalize wr.heap.size = BX at HX1 nXR ⊢
        generalize wr.alloc _ = w1 at HX1 M1 be1 ⊢
        have HM := hidn (And.intro M1 (And.intro be1 (And.intro HX1 nXR)))
        have hlo := M1.lo
        have hup := M1.up
        clear M1 be1 HX1 nXR
        obtain ⟨fl, hfl⟩ : ∃ fl, fl = flo hi kk := ⟨_, rfl⟩
        have hfb : 0 ≤ fl ∧ fl ≤ 18446744073709551615 := by rw [hfl]; unfold flo; split <;> omega
        go_upto_if 48 with (fail)
        go_cut [14] (fun s14 wd => s14 = .int .u64 fl ∧ wd = w1)
        case first =>
          by_cases hik : hi ≤ kk
          · have hd : decide (kk < hi) = false := by simp; omega
            have e0 : fl = 0 := by rw [hfl]; simp [flo, hik]
            clear hfl
            go_wp2
            go_meet
            exact ⟨by rw [e0], rfl⟩
          · have hd : kk < hi := by omega
            have e0 : fl = hi - kk := by rw [hfl]; simp [flo, hik]
            clear hfl
            go_wp2
            go_meet
            exact ⟨by rw [e0], rfl⟩
        case rest =>
          obtain ⟨rfl, rfl⟩ := hcut
          have HF := hidn hfl
          have d0 : wc.cell? ⟨BX, 0, none⟩ = some (.int .u8 o0) := HM.out.2.2.1.cell 0 rfl
          have d1 : wc.cell? ⟨BX, 1, none⟩ = some (.int .u8 o1) := HM.out.2.2.1.cell 1 rfl
          have d2 : wc.cell? ⟨BX, 2, none⟩ = some (.int .u64 o2) := HM.out.2.2.1.cell 2 rfl
          have d3 : wc.cell? ⟨BX, 3, none⟩ = some (.int .u8 o3) := HM.out.2.2.1.cell 3 rfl
          have d4 : wc.cell? ⟨BX, 4, none⟩ = some (.bool o4) := HM.out.2.2.1.cell 4 rfl
          clear hfl
          by_cases hop : o0 % 2 = 0
          · have hopb : (o0 % 2 == 0) = true := by simpa using hop
            by_cases hbig : 18446744073709551599 < fl
            · go_wp2
              go_roundw
              case rel =>
                obtain ⟨mn, be, _⟩ := HM.out
                exact ⟨j + 1, m, al, hi, eo, ec, by omega, by go_num, rfl, rfl, ⟨mn.lo, mn.up, mn.ru, mn.es, by have := mn.ne; omega, mn.dead⟩, be⟩
              case measure => simp [intOf]; omega
            · have hbd : decide (18446744073709551599 < fl) = false := by simpa using hbig
              have hbig' : fl ≤ 18446744073709551599 := by omega
              clear hbig
              obtain ⟨rd, hrd⟩ : ∃ rd, rd = fl + o1 % 12 := ⟨_, rfl⟩
              have hrb : fl ≤ rd ∧ rd ≤ 18446744073709551615 := by omega
              have K11 := hidn (prod_is o3 g3 wc)
              go_upto_region 19 with (go_at_call 11; refine K11.out.mono ?_; rintro e w2 ⟨rfl, rfl⟩)
              simp only [← hrd]
              have hpl := prod_len o3
              generalize prod o3 = pp at hpl ⊢
              clear K11 hrd hbd
              obtain ⟨dup, hdup⟩ : ∃ dup : Bool, dup = true ↔ ∃ i, i < m.ne ∧ al i = true ∧ m.rd i = rd ∧ m.pr i = pp := by
                by_cases h : ∃ i, i < m.ne ∧ al i = true ∧ m.rd i = rd ∧ m.pr i = pp
                · exact ⟨true, ⟨fun _ => h, fun _ => rfl⟩⟩
                · exact ⟨false, ⟨(fun h' => by cases h'), fun h' => absurd h' h⟩⟩
              have HDu := hidn hdup
              clear hdup
              go_upto_block 2 with fail
              go_cut [17] (fun s17 wd => s17 = .bool dup ∧ wd = w2)
              case first =>
                go_upto_region 21 with (fail)
                have hnb : (m.ne : Int) ≤ 300 := by have := HM.out.1.ne; omega
                go_loopw [17, 69] (fun s17 s69 wi => ∃ i, i ≤ m.ne ∧ s17 = .bool false ∧ s69 = .int .i64 (i : Nat) ∧ wi = w2 ∧ ∀ l, l < i → ¬ (al l = true ∧ m.rd l = rd ∧ m.pr l = pp)) (fun _ s69 _ => m.ne - (intOf s69).toNat)
                case atStart => exact ⟨0, Nat.zero_le _, rfl, rfl, rfl, fun l hl => by omega⟩
                case round =>
                  obtain ⟨i, hil, rfl, rfl, rfl, hno⟩ := hrel
                  have HNo := hidn hno
                  clear hno
                  by_cases hi' : i < m.ne
                  · have hi2 : (i : Int) < (m.ne : Int) := by omega
                    obtain ⟨eo', ec', e1, hen⟩ := HM.out.1.es.shape
                    obtain ⟨rfl, rfl⟩ : eo = eo' ∧ ec = ec' := by simpa using e1
                    obtain ⟨E, rfl, hE⟩ := hen (by omega)
                    obtain ⟨z0, z1, z2, z3, z4⟩ := hE i hi'
                    clear hE hen e1
                    have stay : ∀ (h : ¬ (al i = true ∧ m.rd i = rd ∧ m.pr i = pp)), ∀ l, l < i + 1 → ¬ (al l = true ∧ m.rd l = rd ∧ m.pr l = pp) := fun h l hl => by
                      by_cases e : l = i
                      · rw [e]; exact h
                      · exact HNo.out l (by omega)
                    have HSt := hidn stay
                    clear stay
                    cases ea : al i with
                    | false =>
                      rw [ea] at z3
                      have HEa := hidn ea
                      clear ea
                      go_wp2
                      go_roundw
                      case rel => exact ⟨i + 1, by omega, rfl, by go_num, trivial, HSt.out (fun h => by rw [HEa.out] at h; cases h.1)⟩
                      case measure => simp [intOf]; omega
                    | true =>
                      rw [ea] at z3
                      have HEa := hidn ea
                      clear ea
                      by_cases er : m.rd i = rd
                      · have hrb2 : (m.rd i == rd) = true := by simpa using er
                        have HEr := hidn er
                        clear er
                        by_cases ep : m.pr i = pp
                        · have hpb : (m.pr i == pp) = true := (MapKept.bytes_beq _ _).2 ep
                          have hpc : ((m.pr i).toList == pp.toList) = true := by rw [ep]; simp
                          have HEp := hidn ep
                          clear ep
                          go_wp2
                          go_meet
                          refine ⟨?_, rfl⟩
                          have : dup = true := HDu.out.2 ⟨i, hi', HEa.out, HEr.out, HEp.out⟩
                          rw [this]
                        · have hpb : (m.pr i == pp) = false := by cases e : (m.pr i == pp) with | false => rfl | true => exact absurd ((MapKept.bytes_beq _ _).1 e) ep
                          have hpc : ((m.pr i).toList == pp.toList) = false := by cases e : ((m.pr i).toList == pp.toList) with | false => rfl | true => exact absurd (by have := eq_of_beq e; rw [ByteArray.toList_eq, ByteArray.toList_eq] at this; exact str_inj (by rw [this])) ep
                          have HEp := hidn ep
                          clear ep
                          go_wp2
                          go_roundw
                          case rel => exact ⟨i + 1, by omega, rfl, by go_num, trivial, HSt.out (fun h => HEp.out h.2.2)⟩
                          case measure => simp [intOf]; omega
                      · have hrb2 : (m.rd i == rd) = false := by simpa using er
                        have HEr := hidn er
                        clear er
                        go_wp2
                        go_roundw
                        case rel => exact ⟨i + 1, by omega, rfl, by go_num, trivial, HSt.out (fun h => HEr.out h.2.1)⟩
                        case measure => simp [intOf]; omega
                  · have hi2 : ¬ (i : Int) < (m.ne : Int) := by omega
                    go_wp2
                    go_meet
                    refine ⟨?_, rfl⟩
                    have : dup = false := by
                      cases e : dup with
                      | false => rfl
                      | true =>
                        obtain ⟨l, hl, hh⟩ := HDu.out.1 e
                        exact absurd hh (HNo.out l (by omega))
                    rw [this]
              case rest =>
                obtain ⟨rfl, rfl⟩ := hcut
                cases dup
                · have BY := (Below.refl _ wc).alloc (Nat.le_refl _) (.cells #[.string pp, .slice none 0 0, .string ⟨#[]⟩, .bool false, .bool o4] 79)
                  have RX : RecAt (wc.alloc (.cells #[.string pp, .slice none 0 0, .string ⟨#[]⟩, .bool false, .bool o4] 79)) wc.heap.size o4 := ⟨_, heap_alloc_new wc _, rfl⟩
                  have M3 := HM.out.1.keep (KeepCM.of_below BY)
                  have be3 := HM.out.2.1.trans (BY.mono HM.out.2.1.size)
                  have X3 : Has (wc.alloc (.cells #[.string pp, .slice none 0 0, .string ⟨#[]⟩, .bool false, .bool o4] 79)) BX 73 _ := HM.out.2.2.1.of_block (BY.block BX HM.out.2.2.1.lt)
                  have nX : wc.heap.size ≠ RB := by
                    obtain ⟨M, g, h, sv, n, a, sp, x⟩ := HM.out.1.ru
                    have := x.c5.lt
                    omega
                  have nBX := HM.out.2.2.2
                  go_upto_region 28 with (fail)
                  clear BY d0 d1 d2 d3 d4 HM
                  generalize wc.heap.size = X at RX nX ⊢
                  generalize wc.alloc _ = w3 at RX M3 be3 X3 ⊢
                  have hz : New w3 RB fl m rd pp o4 X := ⟨by omega, wf_u64 (by omega), hpl, by have := M3.ne; omega, fun i hi ⟨h1, h2⟩ => by
                    cases ea : al i with
                    | true =>
                      have := HDu.out.2 ⟨i, hi, ea, h1, h2⟩
                      cases this
                    | false =>
                      have := M3.dead i hi ea
                      rw [← HF.out] at this
                      omega, nX, RX⟩
                  have K12 := hidn (add_any (HF.out ▸ M3.ru) hz)
                  have H3 := hidn (And.intro M3 (And.intro be3 (And.intro X3 nBX)))
                  clear M3 be3 X3 hz RX
                  go_upto_region 29 with (go_at_call 12; refine K12.out.mono ?_; rintro e w4 ⟨rfl, y1, y2, y3⟩)
                  have X4 := y2.has H3.out.2.2.1 H3.out.2.2.2 (by decide)
                  have d4 : w4.cell? ⟨BX, 4, none⟩ = some (.bool o4) := X4.cell 4 rfl
                  have E4 : Es w4 w.heap.size RB (.slice eo m.ne ec) m al := H3.out.1.es.cel y2
                  have be4 := H3.out.2.1.trans y3
                  have BZ := (Below.refl _ w4).alloc (Nat.le_refl _) (.cells (entC rd pp o4 X).toArray 77)
                  have NC := hidn (news_cells w4 (entC rd pp o4 X) 77)
                  have E5 : Es (w4.alloc (.cells (entC rd pp o4 X).toArray 77)) w.heap.size RB (.slice eo m.ne ec) m al := E4.cel (KeepCM.cel (KeepCM.of_below BZ) RB)
                  obtain ⟨xs, own5, hxs⟩ := E5.own
                  have hnl := H3.out.1.ne
                  have hlR : RB < w4.heap.size := by
                    obtain ⟨M, g, h, sv, n, a, sp, x⟩ := y1
                    exact x.c5.lt
                  have H4 := hidn (And.intro y1 (And.intro E5 (And.intro own5 (And.intro hxs (And.intro be4 BZ)))))
                  clear X4 E4 be4 BZ E5 own5 hxs y1 y2 y3 K12
                  unfold entC at NC
                  go_wp2_with (first
                    | (at_builtin; refine wpList_append_one rfl _ _ 71 rfl 77 5 40 _ Ybaf.underlying71 info77 rfl (by decide) (by decide) w.heap.size _ m.ne xs rfl H4.out.2.2.1 (by omega) (by have := H4.out.2.2.2.2.1.size; simp; omega) ⟨w4.heap.size, 0, none⟩ 1 [.int .u64 rd, .string pp, .bool o4, .bool true, .pointer (some ⟨X, 0, none⟩)] rfl rfl NC.out (by simp [Value.oneCell']) ?_; intro G c w5 x1 x2 x3)
                    | go_in)
                  go_roundw
                  case rel =>
                    obtain ⟨y1, E5, own5, hxs, be4, BZ⟩ := H4.out
                    obtain ⟨mn, be3, _⟩ := H3.out
                    have hGR : G ≠ RB := by
                      rcases x3.out with h | h
                      · exact es_ne E5 h
                      · have : G = w4.heap.size + 1 := by rw [h]; simp
                        omega
                    have r5 := ru_append (ru_keep y1 (KeepCM.of_below BZ)) E5 x2.out
                    have e5 := es_append (RB := RB) (al := al) x1.out own5.1 hGR hxs
                    have bz := es_below E5 x2.out (by have := be4.size; simp; omega)
                    refine ⟨j + 1, m.snoc rd pp o4 X, alive al m.ne, hi, some ⟨G, 0, none⟩, c, by omega, by go_num, rfl, rfl, ⟨mn.lo, mn.up, HF.out ▸ r5, e5, by simp only [Md.snoc]; omega, fun i hi ha => ?_⟩, (be4.trans (BZ.mono be4.size)).trans bz⟩
                    simp only [alive] at ha
                    simp only [Md.snoc] at hi ⊢
                    by_cases e : i = m.ne
                    · simp [e] at ha
                    · simp only [e, if_false] at ha ⊢
                      exact mn.dead i (by omega) ha
                  case measure => simp [intOf]; omega
                · go_wp2
                  go_roundw
                  case rel =>
                    obtain ⟨mn, be, _⟩ := HM.out
                    exact ⟨j + 1, m, al, hi, eo, ec, by omega, by go_num, rfl, rfl, ⟨mn.lo, mn.up, mn.ru, mn.es, by have := mn.ne; omega, mn.dead⟩, be⟩
                  case measure => simp [intOf]; omega
          · have hopb : (o0 % 2 == 0) = false := by simpa using hop
            obtain ⟨M, g, h, sv, n, a, sp, xr⟩ := HM.out.1.ru
            obtain ⟨eo', ec', ee, hen⟩ := HM.out.1.es.shape
            obtain ⟨rfl, rfl⟩ : eo = eo' ∧ ec = ec' := by simpa using ee
            rw [← HF.out] at xr
            by_cases hx : o2 ≤ hi
            · have K13 := hidn (raise_no hx xr.c5.1)
              have K14 := hidn (check_is (cap := ec) xr hen)
              have hxd : decide (hi < o2) = false := by simp; omega
              clear xr hen ee
              go_wp2_with (first
                | (go_at_call 13; refine K13.out.mono ?_; rintro e w3 ⟨rfl, rfl⟩)
                | (go_at_call 14; refine K14.out.mono ?_; rintro e w4 ⟨rfl, y1⟩))
              go_roundw
              case rel =>
                obtain ⟨mn, be, _⟩ := HM.out
                have mk := mn.keep y1.keep
                exact ⟨j + 1, m, al, hi, eo, ec, by omega, by go_num, rfl, rfl, ⟨mk.lo, mk.up, mk.ru, mk.es, by have := mk.ne; omega, mk.dead⟩, be.trans (y1.below.mono be.size)⟩
              case measure => simp [intOf]; omega
            · have hx' : hi < o2 := by omega
              obtain ⟨fl2, hfl2⟩ : ∃ fl2, fl2 = flo o2 kk := ⟨_, rfl⟩
              have hfm : fl ≤ fl2 := by rw [HF.out, hfl2]; exact flo_mono hx'
              have K13 := hidn (raise_go xr hx' (by omega) (by omega) hfl2 hfm)
              have HF2 := hidn hfl2
              clear xr hen ee hx hfl2
              go_upto_region 32 with (go_at_call 13; refine K13.out.mono ?_; rintro e w3 ⟨rfl, y1, y2, y3⟩)
              have H3 : Hid (Ru w3 w.heap.size RB hold kk o2 fl2 fl2 (fun _ => False) m (live m al hold fl2) ∧ Es w3 w.heap.size RB (.slice eo m.ne ec) m al ∧ Below w.heap.size w w3) := hidn ⟨y1, HM.out.1.es.cel y2, HM.out.2.1.trans y3⟩
              clear y1 y2 y3 K13 d0 d1 d2 d3 d4
              go_upto_if 128 with (fail)
              go_cut [14] (fun s14 wd => s14 = .int .u64 fl2 ∧ wd = w3)
              case first =>
                by_cases hik : o2 ≤ kk
                · have hd : decide (kk < o2) = false := by simp; omega
                  have e0 : fl2 = 0 := by rw [HF2.out]; simp [flo, hik]
                  go_wp2
                  go_meet
                  exact ⟨by rw [e0], rfl⟩
                · have hd : kk < o2 := by omega
                  have e0 : fl2 = o2 - kk := by rw [HF2.out]; simp [flo, hik]
                  go_wp2
                  go_meet
                  exact ⟨by rw [e0], rfl⟩
              case rest =>
                obtain ⟨rfl, rfl⟩ := hcut
                go_upto_block 4 with fail
                go_cut [21] (fun _ wd => Es wd w.heap.size RB (.slice eo m.ne ec) m (live m al hold fl2) ∧ Ru wd w.heap.size RB hold kk o2 fl2 fl2 (fun _ => False) m (live m al hold fl2) ∧ Below w.heap.size w wd)
                case first =>
                  go_upto_region 38 with (fail)
                  have hnb : (m.ne : Int) ≤ 300 := by have := HM.out.1.ne; omega
                  go_loopw [134] (fun s134 wi => ∃ i, i ≤ m.ne ∧ s134 = .int .i64 (i : Nat) ∧ Es wi w.heap.size RB (.slice eo m.ne ec) m (mix al (live m al hold fl2) i) ∧ Ru wi w.heap.size RB hold kk o2 fl2 fl2 (fun _ => False) m (live m al hold fl2) ∧ Below w.heap.size w wi) (fun s134 _ => m.ne - (intOf s134).toNat)
                  case atStart =>
                    obtain ⟨r1, e1, b1⟩ := H3.out
                    exact ⟨0, Nat.zero_le _, rfl, es_congr e1 (fun i _ => (mix_zero _ _ i).symm), r1, b1⟩
                  case round =>
                    obtain ⟨i, hil, rfl, e1, r1, b1⟩ := hrel
                    rename World => wi
                    by_cases hi' : i < m.ne
                    · have hi2 : (i : Int) < (m.ne : Int) := by omega
                      obtain ⟨E, cap, ev, hbE, hER, er⟩ : ∃ E cap, (Value.slice eo m.ne ec) = .slice (some ⟨E, 0, none⟩) m.ne cap ∧ w.heap.size ≤ E ∧ E ≠ RB ∧ Er wi E cap m (mix al (live m al hold fl2) i) := by
                        rcases e1 with ⟨h0, _⟩ | h1
                        · omega
                        · exact h1
                      obtain ⟨rfl, rfl⟩ : eo = some ⟨E, 0, none⟩ ∧ ec = cap := by simpa using ev
                      obtain ⟨z0, z1, z2, z3, z4⟩ := er.cells hi'
                      rw [mix_here] at z3
                      have fz := er.frozen (i * 5 + 3)
                      have HI := hidn (And.intro er (And.intro r1 (And.intro e1 b1)))
                      clear er r1 e1 b1 ev
                      cases ea : al i with
                      | false =>
                        rw [ea] at z3
                        have HEa := hidn ea
                        clear ea
                        go_wp2
                        go_roundw
                        case rel =>
                          obtain ⟨er, r1, e1, b1⟩ := HI.out
                          have hlv : live m al hold fl2 i = al i := by simp [live, HEa.out]
                          exact ⟨i + 1, by omega, by go_num, .inr ⟨E, ec, rfl, hbE, hER, er.mark_no hlv⟩, r1, b1⟩
                        case measure => simp [intOf]; omega
                      | true =>
                        rw [ea] at z3
                        have HEa := hidn ea
                        clear ea
                        by_cases hrl : m.rd i < fl2
                        · cases hold
                          · go_wp2
                            go_roundw
                            case rel =>
                              obtain ⟨er, r1, e1, b1⟩ := HI.out
                              have hlv : live m al false fl2 i = false := by simp [live, HEa.out, hrl]
                              have oE : Only [E] wi (wi.setCell ⟨E, i * 5 + 3, none⟩ (.bool false)) := (Only.refl _ _).setCell (by simp) _
                              exact ⟨i + 1, by omega, by go_num, .inr ⟨E, ec, rfl, hbE, hER, er.mark_yes hi' hlv⟩, ru_ents r1 er.isEnt.1 er.isEnt.2 hER oE, b1.setCell (by show w.heap.size ≤ E; exact hbE) _⟩
                            case measure => simp [intOf]; omega
                          · cases ehd : m.hd i with
                            | true =>
                              rw [ehd] at z2
                              have HEh := hidn ehd
                              clear ehd
                              go_wp2
                              go_roundw
                              case rel =>
                                obtain ⟨er, r1, e1, b1⟩ := HI.out
                                have hlv : live m al true fl2 i = al i := by simp [live, HEa.out, HEh.out]
                                exact ⟨i + 1, by omega, by go_num, .inr ⟨E, ec, rfl, hbE, hER, er.mark_no hlv⟩, r1, b1⟩
                              case measure => simp [intOf]; omega
                            | false =>
                              rw [ehd] at z2
                              have HEh := hidn ehd
                              clear ehd
                              go_wp2
                              go_roundw
                              case rel =>
                                obtain ⟨er, r1, e1, b1⟩ := HI.out
                                have hlv : live m al true fl2 i = false := by simp [live, HEa.out, hrl, HEh.out]
                                have oE : Only [E] wi (wi.setCell ⟨E, i * 5 + 3, none⟩ (.bool false)) := (Only.refl _ _).setCell (by simp) _
                                exact ⟨i + 1, by omega, by go_num, .inr ⟨E, ec, rfl, hbE, hER, er.mark_yes hi' hlv⟩, ru_ents r1 er.isEnt.1 er.isEnt.2 hER oE, b1.setCell (by show w.heap.size ≤ E; exact hbE) _⟩
                              case measure => simp [intOf]; omega
                        · have hrd2 : decide (m.rd i < fl2) = false := by simpa using hrl
                          go_wp2
                          go_roundw
                          case rel =>
                            obtain ⟨er, r1, e1, b1⟩ := HI.out
                            have hlv : live m al hold fl2 i = al i := by simp [live, HEa.out, hrd2]
                            exact ⟨i + 1, by omega, by go_num, .inr ⟨E, ec, rfl, hbE, hER, er.mark_no hlv⟩, r1, b1⟩
                          case measure => simp [intOf]; omega
                    · have hi2 : ¬ (i : Int) < (m.ne : Int) := by omega
                      obtain rfl : i = m.ne := by omega
                      have HI := hidn (And.intro e1 (And.intro r1 b1))
                      clear e1 r1 b1
                      go_wp2
                      go_meet
                      obtain ⟨e1, r1, b1⟩ := HI.out
                      exact ⟨es_congr e1 (fun i hi => mix_all hi), r1, b1⟩
                case rest =>
                  obtain ⟨e1, r1, b1⟩ := hcut
                  rename World => w5
                  obtain ⟨eo', ec', ee, hen⟩ := e1.shape
                  obtain ⟨rfl, rfl⟩ : eo = eo' ∧ ec = ec' := by simpa using ee
                  have H5 := hidn (And.intro e1 (And.intro r1 b1))
                  obtain ⟨M, g, h, sv, n, a, sp, xr⟩ := r1
                  have K14 := hidn (check_is (cap := ec) xr hen)
                  clear xr hen ee e1 b1 H3
                  go_wp2_with (go_at_call 14; refine K14.out.mono ?_; rintro e w6 ⟨rfl, y1⟩)
                  go_roundw
                  case rel =>
                    obtain ⟨mn, be, _⟩ := HM.out
                    obtain ⟨e1, r1, b1⟩ := H5.out
                    refine ⟨j + 1, m, live m al hold fl2, o2, eo, ec, by omega, by go_num, rfl, rfl, ⟨by omega, by omega, HF2.out ▸ ru_keep r1 y1.keep, e1.cel (y1.keep.cel RB), by have := mn.ne; omega, fun i hi hl => ?_⟩, b1.trans (y1.below.mono b1.size)⟩
                    rw [← HF2.out]
                    cases ea : al i with
                    | false =>
                      have := mn.dead i hi ea
                      rw [← HF.out] at this
                      omega
                    | true =>
                      simp [live, ea] at hl
                      exact hl.1
                  case measure => simp [intOf]; omega
      · have hjN' : ¬ (j : Int) < (N : Int) := by omega
        have HM := hidn (And.intro mn be)
        clear mn be
        go_wp2
        go_ret
        exact ⟨rfl, HM.out.2⟩
  · have hN' : (300 : Int) < (N : Int) := by omega
    go_enter Ybaf.func4, Ybaf.ntmps4
    go_wp2
    go_ret
    exact ⟨rfl, Below.refl _ _⟩

end Go.Proofs.YbulkcmgaFmt
