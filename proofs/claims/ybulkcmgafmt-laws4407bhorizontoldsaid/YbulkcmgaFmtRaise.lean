/-
  (*Rule).raiseHorizon: the walk.
-/
import Derived.Test.YbulkcmgaFmtRaiseLib
import Derived.Deep.CutBlock
namespace Go.Proofs.YbulkcmgaFmt
open Go Go.RowKit Go.Maps

variable {w w' : World} {bs RB M B I G n c s : Nat} {hold : Bool} {k hi fl tp : Int} {ex : Int → Prop} {m : Md} {al : Nat → Bool} {g : Int → Option Nat} {h : Int → ByteArray → Option Nat} {sv : Value} {a : Nat → Int} {sp : Option Nat}

theorem raise_no {r : Int} (hle : r ≤ hi) (c5 : w.cell? ⟨RB, 5, none⟩ = some (.int .u64 hi)) :
    Calls Ybaf.prog 13 #[.pointer (some ⟨RB, 0, none⟩), .int .u64 r] w fun e w' => e = .returned (.tuple #[]) ∧ w' = w := by
  go_enter Ybaf.func13, Ybaf.ntmps13
  go_wp2
  (try simp only [Exit.inBlock, Exit.then])
  refine bodyPost_ret (results_none rfl _ _ _) rfl ?_
  exact ⟨rfl, rfl⟩

set_option maxHeartbeats 4000000 in
set_option maxRecDepth 100000 in
theorem raise_go {r fl' : Int} (x : Rx w bs RB hold k hi fl tp (fun _ => False) m al M g h sv n a sp) (hlt : hi < r) (hr : r ≤ 18446744073709551615) (hk : 0 ≤ k) (hfl : fl' = flo r k) (hf : fl ≤ fl') :
    Calls Ybaf.prog 13 #[.pointer (some ⟨RB, 0, none⟩), .int .u64 r] w fun e w' => e = .returned (.tuple #[]) ∧ Ru w' bs RB hold k r fl' fl' (fun _ => False) m (live m al hold fl') ∧ Cel RB w w' ∧ Below bs w w' := by
  have c5 := x.c5.1
  have f5 := x.c5.2
  obtain ⟨x1, ce1⟩ := rx_high (r := r) x hf
  have Be1 : Below bs w (w.setCell ⟨RB, 5, none⟩ (.int .u64 r)) := (Below.refl _ _).setCell (by show bs ≤ RB; exact x.bsR) _
  have hd : decide (r ≤ hi) = false := by simp; omega
  have HX := hidn (And.intro x1 (And.intro ce1 Be1))
  clear x x1 ce1 Be1
  go_enter Ybaf.func13, Ybaf.ntmps13
  go_upto_region 2 with (fail)
  generalize w.setCell ⟨RB, 5, none⟩ (.int .u64 r) = w1 at HX ⊢
  have K22 := hidn (floor_is RB r k w1 hk hr HX.out.1.c2 HX.out.1.c5.1)
  rw [← hfl] at K22
  clear hfl
  clear c5 f5
  go_upto_region 3 with (go_at_call 22; refine K22.out.mono ?_; rintro e w2 ⟨rfl, y1, y2⟩)
  have L2 : Lp w w2 bs RB hold k r fl' tp m al := by
    obtain ⟨x1, ce1, Be1⟩ := HX.out
    have kk := KeepCM.of_heap y1
    exact ⟨al, M, g, h, sv, n, a, sp, x1.keep kk, fun i hi => hi, (fun i _ h1 h2 => by rw [h1] at h2; cases h2), ce1.trans (kk.cel RB), Be1.trans (y2.mono (by have := x1.bsR; have := x1.c5.lt; omega))⟩
  have HL := hidn L2
  clear L2 y1 y2 K22 HX
  go_loopw [5] (fun _ wr => Lp w wr bs RB hold k r fl' tp m al) (fun _ wr => hlen wr RB)
  case atStart => exact HL.out
  case round =>
    clear HL
    obtain ⟨al', M, g, h, sv, n, a, sp, x, h1, h2, ce, be⟩ := hrel
    rename World => wr
    have HX := hidn (And.intro x (And.intro h1 (And.intro h2 (And.intro ce be))))
    obtain ⟨ao, cp, esv⟩ := rx_slice x
    have c8 := x.c8.cell
    have hnl := x.nle
    have hne := x.mok.ne
    rw [esv] at c8
    by_cases hn0 : n = 0
    · subst hn0
      clear x h1 h2 ce be
      go_wp2
      go_end0
      obtain ⟨x, h1, h2, ce, be⟩ := HX.out
      exact ⟨rfl, lp_end x h1 h2 (.inl rfl), ce, be⟩
    · obtain ⟨G, c, e2, hbG, hwx⟩ := rx_hw x (by omega)
      obtain ⟨rfl, rfl⟩ : ao = some ⟨G, 0, none⟩ ∧ cp = c := by rw [esv] at e2; simpa using e2
      have hn1 : (0 : Int) < (n : Int) := by omega
      have ca := hwx.row.cell (show 0 < n by omega)
      by_cases ha0 : a 0 < fl'
      · clear x h1 h2 ce be
        go_upto_region 4 with (fail)
        obtain ⟨n', hn'⟩ : ∃ n', n' + 1 = n := ⟨n - 1, by omega⟩
        have K23 := hidn (hpop_all n' hn' (by omega) hwx HX.out.1.hp)
        have hTA : ∀ (v : Value) (w : World), (Instr.typeAssert (.iface 22 v) 20 22 false).run Ybaf.prog w = .ok v w := fun v w => by kernel_rfl
        clear hwx ca c8
        go_upto_region 5 with (go_at_call 23; refine K23.out.mono ?_; rintro e w1 ⟨rfl, a', y1, y2, y3, y4, y5, y6⟩)
        have XP : ∃ sv', Rx w1 bs RB hold k r fl' tp (fun q => q = a 0) m al' M g h sv' n' a' sp ∧ Cel RB w w1 ∧ Below bs w w1 ∧ ¬ Mem a' n' (a 0) := by
          obtain ⟨x, h1, h2, ce, be⟩ := HX.out
          obtain ⟨p1, p2⟩ := rx_pop x hn' e2 hbG y1 y2 y3 (y4 x.ij) y5 y6
          refine ⟨_, p1, ce.trans p2, be.trans (y5.below (by have := x.bsR; have := x.c5.lt; omega) (fun b hb => ?_)), (y4 x.ij).2⟩
          simp at hb
          rcases hb with rfl | rfl
          · exact x.bsR
          · exact hbG
        have hga : (g (a 0)).isSome = true := HX.out.1.hg 0 (by omega)
        obtain ⟨B, hB⟩ := Option.isSome_iff_exists.1 hga
        have wfa : (Lit.int .u64 (a 0)).wf = true := by
          obtain ⟨i, hi, _, e⟩ := (HX.out.1.gal _).1 hga
          rw [← e]
          exact HX.out.1.mok.wf i hi
        obtain ⟨sv', XQ⟩ := XP
        have HP := hidn XQ
        have HE := hidn (And.intro esv (And.intro e2 (And.intro hbG hn')))
        obtain ⟨s0, _, tb1⟩ := XQ.1.tb
        have hl : (Instr.lookup 32 (.map (some M)) (.int .u64 (a 0)) false).run Ybaf.prog w1 = .ok (.map (some B)) w1 := by
          have := tb1.lookup (a 0) wfa
          rw [hB] at this
          exact this
        have c6 := XQ.1.c6
        have c0 := XQ.1.c0
        clear XQ tb1 y1 y2 y3 y4 y5 y6 K23 hga esv e2 hn'
        generalize a 0 = r0 at *
        go_upto_region 6 with (fail)
        clear c6 hl
        cases hold
        · go_upto_region 7 with (fail)
          have HV : Hid (Rx w1 bs RB false k r fl' tp (fun q => q = r0) m al' M g h sv' n' a' sp ∧ Cel RB w w1 ∧ Below bs w w1 ∧ ¬ Mem a' n' r0) := HP
          have HC : Hid (false = false ∨ ∀ p X, h r0 p = some X → ¬ RecAt w1 X true) := hidn (.inl rfl)
          clear HP c0
          obtain ⟨xv, cev, bev, nov⟩ := HV.out
          obtain ⟨bB, BM, s1, hs1, iB⟩ := xv.inn r0 B hB
          have hsz := xv.size_inn (by rw [hB]; rfl) iB
          have hcw := cnt_wipe m al' r0
          rw [← hsz] at hcw
          obtain ⟨s0, hs0, tb⟩ := xv.tb
          have mB := isMap_inn iB
          have mM := isMap_tb tb
          have nRB : RB ≠ B := ne_map mB xv.c0
          have nRM : RB ≠ M := ne_map mM xv.c0
          have c6 := xv.c6
          have c7 := xv.c7.1
          have f7 := xv.c7.2
          have hlen := fun q ty => Inn.len (w := w1.drewN q) (iB.of_block rfl) ty
          obtain ⟨cc, hcc⟩ : ∃ cc, cc = cnt al' m.ne := ⟨_, rfl⟩
          obtain ⟨dd, hdd⟩ : ∃ dd, dd = cnt (wipe m al' r0) m.ne := ⟨_, rfl⟩
          rw [← hcc] at c7 hcw
          rw [← hdd] at hcw
          have e7 : (cc : Int) - (s1 : Int) = (dd : Int) := by omega
          have hcb : cc ≤ 300 := by rw [hcc]; have := cnt_le al' m.ne; omega
          have hc3 : (cc : Int) ≤ 300 := by omega
          have hs3 : (s1 : Int) ≤ 300 := by omega
          have lR : RB < w1.heap.size := xv.c5.lt
          have HD := hidn (And.intro hdd (And.intro bB (And.intro BM (And.intro iB (And.intro tb (And.intro hs0 (And.intro nRB nRM)))))))
          clear xv cev bev nov hsz hcw hcc hdd iB tb mB mM
          refine region_quiet_tail (C := fun W => ∃ q, W = w1.drewN q) 9 (by kernel_rfl) (by kernel_rfl) ⟨1, rfl⟩ ?_
          simp only [List.take_succ_cons, List.take_zero, List.drop_succ_cons, List.drop_zero]
          repeat (go_big_quiet_step (fail))
          refine wpQuiet_nil ?_
          rintro W ⟨q7, rfl⟩
          go_upto_region 8 with (fail)
          obtain ⟨hdd, bB, BM, iB, tb, hs0, nRB, nRM⟩ := HD.out
          have bl7 : ∀ b, b ≠ RB → ((w1.drewN q7).setCell ⟨RB, 7, none⟩ (.int .i64 (dd : Int))).heap[b]? = w1.heap[b]? := fun b hb => Below.heap_setCell _ _ _ _ (fun e => hb e)
          have o7 : Only [RB, M, B] w1 ((w1.drewN q7).setCell ⟨RB, 7, none⟩ (.int .i64 (dd : Int))) := ((Only.refl _ _).drewN q7).setCell (by simp) _
          have r7 : Rest w1 ((w1.drewN q7).setCell ⟨RB, 7, none⟩ (.int .i64 (dd : Int))) RB [7] := Rest.set (w1.drewN q7) RB 7 _
          have A7 : At ((w1.drewN q7).setCell ⟨RB, 7, none⟩ (.int .i64 (dd : Int))) RB 7 (.int .i64 (dd : Int)) := by
            have c7' : (w1.drewN q7).cell? ⟨RB, 7, none⟩ = some (.int .i64 (cc : Int)) := c7
            have f7' : (w1.drewN q7).frozen? ⟨RB, 7, none⟩ = false := f7
            exact ⟨by go_simp, by go_simp⟩
          have tb7 := tb.of_block (bl7 M nRM.symm)
          have iB7 := iB.of_block (bl7 B nRB.symm)
          generalize (w1.drewN q7).setCell ⟨RB, 7, none⟩ (.int .i64 (dd : Int)) = w7 at bl7 o7 r7 A7 tb7 iB7 ⊢
          have c67 := (r7 6 (by decide)).1.trans c6
          obtain ⟨w8, hrun8, T8, gr8⟩ := tb7.del r0 wfa 0
          have o8 : Only [M] w7 w8 := Only.of_grown gr8
          have nB : B ∉ [M] := by simpa using BM
          have nR8 : RB ∉ [M] := by simpa using nRM
          have iB8 := iB7.of_block (o8.block B iB7.lt nB)
          have lR7 : RB < w7.heap.size := Nat.lt_of_lt_of_le lR o7.size
          have H8 := hidn (And.intro o7 (And.intro r7 (And.intro A7 (And.intro o8 (And.intro T8 gr8)))))
          clear bl7 o7 r7 A7 tb7 iB7 hlen c6 c7 f7 T8 gr8 o8
          go_upto_region 9 with (fail)
          obtain ⟨w9, hrun9, I9, gr9⟩ := iB8.clear 0
          obtain ⟨o7, r7, A7, o8, T8, gr8⟩ := H8.out
          have o9 : Only [B] w8 w9 := Only.of_grown gr9
          have nR9 : RB ∉ [B] := by simpa using nRB
          have lR8 : RB < w8.heap.size := Nat.lt_of_lt_of_le lR7 o8.size
          have r9 : Rest w1 w9 RB [7] := r7.trans ((Rest.of_block (o8.block RB lR7 nR8)).trans (Rest.of_block (o9.block RB lR8 nR9)))
          have A79 := (A7.only o8 nR8).only o9 nR9
          obtain ⟨c99, f99⟩ := r9.at HV.out.1.c9 (by decide)
          have T9 := T8.of_block (o9.block M T8.lt (by simpa using BM.symm))
          have oo9 : Only [RB, M, B] w1 w9 := o7.trans ((o8.mono (by simp)).trans (o9.mono (by simp)))
          have be9 : Below bs w1 w9 := by
            obtain ⟨xv, cev, bev, nov⟩ := HV.out
            exact oo9.below (by have := xv.bsR; omega) (fun b hb => by simp at hb; rcases hb with rfl | rfl | rfl; exact xv.bsR; exact xv.bsM; exact bB)
          have H9 := hidn (And.intro oo9 (And.intro r9 (And.intro A79 (And.intro T9 (And.intro I9 be9)))))
          clear o7 r7 A7 o8 T8 gr8 gr9 o9 r9 A79 T9 I9 oo9 be9 iB8 hrun8
          go_wp2
          go_roundw
          case rel =>
            obtain ⟨oo9, r9, A79, T9, I9, be9⟩ := H9.out
            obtain ⟨hdd, bB, BM, iB, tb, hs0, nRB, nRM⟩ := HD.out
            obtain ⟨xv, cev, bev, nov⟩ := HV.out
            obtain ⟨x, h1, h2, ce, be⟩ := HX.out
            have bl9 : ∀ b, b ≠ RB → (w9.setCell ⟨RB, 9, none⟩ (.map (some B))).heap[b]? = w9.heap[b]? := fun b hb => Below.heap_setCell _ _ _ _ (fun e => hb e)
            have rs := Rest.set w9 RB 9 (.map (some B))
            obtain ⟨p1, p2⟩ := rx_wipe (w' := w9.setCell ⟨RB, 9, none⟩ (.map (some B))) xv hB nov ⟨_, by split <;> omega, T9.of_block (bl9 M nRM.symm)⟩ (I9.of_block (bl9 B nRB.symm)) (oo9.setCell (by simp) _) ((r9.mono (by simp)).trans (rs.mono (by simp))) (hdd ▸ rs.at A79 (by decide)) ⟨by simp only [mv]; go_simp, by go_simp⟩
            refine ⟨_, _, _, _, _, _, _, _, p1, fun i hi => h1 i (by simp [wipe] at hi; exact hi.1), fun i hi ha hw => ?_, cev.trans p2, bev.trans (be9.setCell (by show bs ≤ RB; exact xv.bsR) _)⟩
            cases ea : al' i with
            | false => exact h2 i hi ha ea
            | true =>
              have er : m.rd i = r0 := by simpa [wipe, ea] using hw
              refine ⟨by rw [er]; exact ha0, fun hh => ?_⟩
              have hp : h r0 (m.pr i) = some (m.rc i) := (xv.hal r0 (by rw [hB]; rfl) _ _).2 ⟨i, hi, ea, er, rfl, rfl⟩
              rcases HC.out with q | q
              · first | exact absurd q (by decide) | exact absurd hh.1 (by decide)
              · exact q _ _ hp (hh.2 ▸ (xv.recs i hi).2)
          case measure =>
            have e1 := rx_hlen HX.out.1
            have e2 : hlen (w9.setCell ⟨RB, 9, none⟩ (.map (some B))) RB = n' := by
              obtain ⟨xv, cev, bev, nov⟩ := HV.out
              have q1 := rx_hlen xv
              have rs := Rest.set w9 RB 9 (.map (some B))
              unfold hlen at q1 ⊢
              rw [(rs 8 (by decide)).1, (H9.out.2.1 8 (by decide)).1]
              exact q1
            have := HE.out.2.2.2
            omega
        · obtain ⟨s24, hs24, K24⟩ : ∃ s1, s1 ≤ m.ne ∧ Hid (Calls Ybaf.prog 24 #[.map (some B)] w1 fun e w' => ∃ v : Bool, e = .returned (.bool v) ∧ (v = true ↔ ∃ p X, h r0 p = some X ∧ RecAt w1 X true) ∧ Below w1.heap.size w1 w') := by
            obtain ⟨xv, cev, bev, nov⟩ := HP.out
            obtain ⟨bB, BM, s1, hs1, iB⟩ := xv.inn r0 B hB
            refine ⟨s1, hs1, hidn (any_is iB (fun p X hp => ?_))⟩
            obtain ⟨i, hi, _, _, _, e⟩ := (xv.hal r0 (by rw [hB]; rfl) p X).1 hp
            exact ⟨_, e ▸ (xv.recs i hi).2⟩
          go_cut [58] (fun s58 wd => ∃ v : Bool, s58 = .bool (!v) ∧ (v = true ↔ ∃ p X, h r0 p = some X ∧ RecAt w1 X true) ∧ Below w1.heap.size w1 wd)
          case first =>
            go_wp2_with (go_at_call 24; refine K24.out.mono ?_; rintro e w2 ⟨v, rfl, y1, y2⟩)
            go_meet
            exact ⟨v, rfl, y1, y2⟩
          case rest =>
            obtain ⟨v, rfl, y1, y2⟩ := hcut
            rename World => w2
            clear K24 c0
            have HV : Hid (Rx w2 bs RB true k r fl' tp (fun q => q = r0) m al' M g h sv' n' a' sp ∧ Cel RB w w2 ∧ Below bs w w2 ∧ ¬ Mem a' n' r0) := by
              obtain ⟨xv, cev, bev, nov⟩ := HP.out
              have kk := KeepCM.of_below y2
              exact hidn ⟨xv.keep kk, cev.trans (kk.cel RB), bev.trans (y2.mono (by have := xv.bsR; have := xv.c5.lt; omega)), nov⟩
            have y3 : ∀ X b, RecAt w2 X b → X < w1.heap.size → RecAt w1 X b := fun X b ⟨C, q1, q2⟩ hX => ⟨C, (y2.block X hX).symm.trans q1, q2⟩
            have y4 : ∀ p X, h r0 p = some X → X < w1.heap.size := fun p X hp => by
              obtain ⟨xv, cev, bev, nov⟩ := HP.out
              obtain ⟨i, hi, _, _, _, e⟩ := (xv.hal r0 (by rw [hB]; rfl) p X).1 hp
              rw [← e]
              exact (xv.recs i hi).2.lt
            have y5 : ∀ X b, RecAt w1 X b → RecAt w2 X b := fun X b ⟨C, q1, q2⟩ => ⟨C, (y2.block X (blt q1)).trans q1, q2⟩
            cases v
            · have HC : Hid (true = false ∨ ∀ p X, h r0 p = some X → ¬ RecAt w2 X true) := hidn (.inr fun p X hp hx => by
                have := y1.2 ⟨p, X, hp, y3 X true hx (y4 p X hp)⟩
                cases this)
              clear HP y1 y2 y3 y4 y5
              go_upto_region 7 with (fail)
              obtain ⟨xv, cev, bev, nov⟩ := HV.out
              obtain ⟨bB, BM, s1, hs1, iB⟩ := xv.inn r0 B hB
              have hsz := xv.size_inn (by rw [hB]; rfl) iB
              have hcw := cnt_wipe m al' r0
              rw [← hsz] at hcw
              obtain ⟨s0, hs0, tb⟩ := xv.tb
              have mB := isMap_inn iB
              have mM := isMap_tb tb
              have nRB : RB ≠ B := ne_map mB xv.c0
              have nRM : RB ≠ M := ne_map mM xv.c0
              have c6 := xv.c6
              have c7 := xv.c7.1
              have f7 := xv.c7.2
              have hlen := fun q ty => Inn.len (w := w2.drewN q) (iB.of_block rfl) ty
              obtain ⟨cc, hcc⟩ : ∃ cc, cc = cnt al' m.ne := ⟨_, rfl⟩
              obtain ⟨dd, hdd⟩ : ∃ dd, dd = cnt (wipe m al' r0) m.ne := ⟨_, rfl⟩
              rw [← hcc] at c7 hcw
              rw [← hdd] at hcw
              have e7 : (cc : Int) - (s1 : Int) = (dd : Int) := by omega
              have hcb : cc ≤ 300 := by rw [hcc]; have := cnt_le al' m.ne; omega
              have hc3 : (cc : Int) ≤ 300 := by omega
              have hs3 : (s1 : Int) ≤ 300 := by omega
              have lR : RB < w2.heap.size := xv.c5.lt
              have HD := hidn (And.intro hdd (And.intro bB (And.intro BM (And.intro iB (And.intro tb (And.intro hs0 (And.intro nRB nRM)))))))
              clear xv cev bev nov hsz hcw hcc hdd iB tb mB mM
              refine region_quiet_tail (C := fun W => ∃ q, W = w2.drewN q) 9 (by kernel_rfl) (by kernel_rfl) ⟨1, rfl⟩ ?_
              simp only [List.take_succ_cons, List.take_zero, List.drop_succ_cons, List.drop_zero]
              repeat (go_big_quiet_step (fail))
              refine wpQuiet_nil ?_
              rintro W ⟨q7, rfl⟩
              go_upto_region 8 with (fail)
              obtain ⟨hdd, bB, BM, iB, tb, hs0, nRB, nRM⟩ := HD.out
              have bl7 : ∀ b, b ≠ RB → ((w2.drewN q7).setCell ⟨RB, 7, none⟩ (.int .i64 (dd : Int))).heap[b]? = w2.heap[b]? := fun b hb => Below.heap_setCell _ _ _ _ (fun e => hb e)
              have o7 : Only [RB, M, B] w2 ((w2.drewN q7).setCell ⟨RB, 7, none⟩ (.int .i64 (dd : Int))) := ((Only.refl _ _).drewN q7).setCell (by simp) _
              have r7 : Rest w2 ((w2.drewN q7).setCell ⟨RB, 7, none⟩ (.int .i64 (dd : Int))) RB [7] := Rest.set (w2.drewN q7) RB 7 _
              have A7 : At ((w2.drewN q7).setCell ⟨RB, 7, none⟩ (.int .i64 (dd : Int))) RB 7 (.int .i64 (dd : Int)) := by
                have c7' : (w2.drewN q7).cell? ⟨RB, 7, none⟩ = some (.int .i64 (cc : Int)) := c7
                have f7' : (w2.drewN q7).frozen? ⟨RB, 7, none⟩ = false := f7
                exact ⟨by go_simp, by go_simp⟩
              have tb7 := tb.of_block (bl7 M nRM.symm)
              have iB7 := iB.of_block (bl7 B nRB.symm)
              generalize (w2.drewN q7).setCell ⟨RB, 7, none⟩ (.int .i64 (dd : Int)) = w7 at bl7 o7 r7 A7 tb7 iB7 ⊢
              have c67 := (r7 6 (by decide)).1.trans c6
              obtain ⟨w8, hrun8, T8, gr8⟩ := tb7.del r0 wfa 0
              have o8 : Only [M] w7 w8 := Only.of_grown gr8
              have nB : B ∉ [M] := by simpa using BM
              have nR8 : RB ∉ [M] := by simpa using nRM
              have iB8 := iB7.of_block (o8.block B iB7.lt nB)
              have lR7 : RB < w7.heap.size := Nat.lt_of_lt_of_le lR o7.size
              have H8 := hidn (And.intro o7 (And.intro r7 (And.intro A7 (And.intro o8 (And.intro T8 gr8)))))
              clear bl7 o7 r7 A7 tb7 iB7 hlen c6 c7 f7 T8 gr8 o8
              go_upto_region 9 with (fail)
              obtain ⟨w9, hrun9, I9, gr9⟩ := iB8.clear 0
              obtain ⟨o7, r7, A7, o8, T8, gr8⟩ := H8.out
              have o9 : Only [B] w8 w9 := Only.of_grown gr9
              have nR9 : RB ∉ [B] := by simpa using nRB
              have lR8 : RB < w8.heap.size := Nat.lt_of_lt_of_le lR7 o8.size
              have r9 : Rest w2 w9 RB [7] := r7.trans ((Rest.of_block (o8.block RB lR7 nR8)).trans (Rest.of_block (o9.block RB lR8 nR9)))
              have A79 := (A7.only o8 nR8).only o9 nR9
              obtain ⟨c99, f99⟩ := r9.at HV.out.1.c9 (by decide)
              have T9 := T8.of_block (o9.block M T8.lt (by simpa using BM.symm))
              have oo9 : Only [RB, M, B] w2 w9 := o7.trans ((o8.mono (by simp)).trans (o9.mono (by simp)))
              have be9 : Below bs w2 w9 := by
                obtain ⟨xv, cev, bev, nov⟩ := HV.out
                exact oo9.below (by have := xv.bsR; omega) (fun b hb => by simp at hb; rcases hb with rfl | rfl | rfl; exact xv.bsR; exact xv.bsM; exact bB)
              have H9 := hidn (And.intro oo9 (And.intro r9 (And.intro A79 (And.intro T9 (And.intro I9 be9)))))
              clear o7 r7 A7 o8 T8 gr8 gr9 o9 r9 A79 T9 I9 oo9 be9 iB8 hrun8
              go_wp2
              go_roundw
              case rel =>
                obtain ⟨oo9, r9, A79, T9, I9, be9⟩ := H9.out
                obtain ⟨hdd, bB, BM, iB, tb, hs0, nRB, nRM⟩ := HD.out
                obtain ⟨xv, cev, bev, nov⟩ := HV.out
                obtain ⟨x, h1, h2, ce, be⟩ := HX.out
                have bl9 : ∀ b, b ≠ RB → (w9.setCell ⟨RB, 9, none⟩ (.map (some B))).heap[b]? = w9.heap[b]? := fun b hb => Below.heap_setCell _ _ _ _ (fun e => hb e)
                have rs := Rest.set w9 RB 9 (.map (some B))
                obtain ⟨p1, p2⟩ := rx_wipe (w' := w9.setCell ⟨RB, 9, none⟩ (.map (some B))) xv hB nov ⟨_, by split <;> omega, T9.of_block (bl9 M nRM.symm)⟩ (I9.of_block (bl9 B nRB.symm)) (oo9.setCell (by simp) _) ((r9.mono (by simp)).trans (rs.mono (by simp))) (hdd ▸ rs.at A79 (by decide)) ⟨by simp only [mv]; go_simp, by go_simp⟩
                refine ⟨_, _, _, _, _, _, _, _, p1, fun i hi => h1 i (by simp [wipe] at hi; exact hi.1), fun i hi ha hw => ?_, cev.trans p2, bev.trans (be9.setCell (by show bs ≤ RB; exact xv.bsR) _)⟩
                cases ea : al' i with
                | false => exact h2 i hi ha ea
                | true =>
                  have er : m.rd i = r0 := by simpa [wipe, ea] using hw
                  refine ⟨by rw [er]; exact ha0, fun hh => ?_⟩
                  have hp : h r0 (m.pr i) = some (m.rc i) := (xv.hal r0 (by rw [hB]; rfl) _ _).2 ⟨i, hi, ea, er, rfl, rfl⟩
                  rcases HC.out with q | q
                  · first | exact absurd q (by decide) | exact absurd hh.1 (by decide)
                  · exact q _ _ hp (hh.2 ▸ (xv.recs i hi).2)
              case measure =>
                have e1 := rx_hlen HX.out.1
                have e2 : hlen (w9.setCell ⟨RB, 9, none⟩ (.map (some B))) RB = n' := by
                  obtain ⟨xv, cev, bev, nov⟩ := HV.out
                  have q1 := rx_hlen xv
                  have rs := Rest.set w9 RB 9 (.map (some B))
                  unfold hlen at q1 ⊢
                  rw [(rs 8 (by decide)).1, (H9.out.2.1 8 (by decide)).1]
                  exact q1
                have := HE.out.2.2.2
                omega
            · have HC : Hid (∃ p X, h r0 p = some X ∧ RecAt w2 X true) := by
                obtain ⟨p, X, q1, q2⟩ := y1.1 rfl
                exact hidn ⟨p, X, q1, y5 X true q2⟩
              clear HP y1 y2 y3 y4 y5
              go_upto_region 11 with (fail)
              obtain ⟨s1, D, hs1, HOW⟩ : ∃ s1 D, s1 ≤ m.ne ∧ Hid (w2.ownsMap Ybaf.prog 9 recR B s1 D ∧ ∀ p z, D.atKey (.string p.data.toList) z = dv z (h r0 p)) := by
                obtain ⟨xv, cev, bev, nov⟩ := HV.out
                obtain ⟨bB, BM, s1, hs1, D, q1, q2, q3⟩ := xv.inn r0 B hB
                exact ⟨s1, D, hs1, hidn ⟨q1, q3⟩⟩
              go_wp2_with (first | (at_range; refine wpList_range_own _ rfl _ 34 rfl 9 75 key9 Ybaf.underlying34 _ B s1 D rfl HOW.out.1 ?_; intro w3 hrg3 hg3 hs3) | go_in)
              (try go_frame)
              have HI : Hid (∃ al'' h'' left c, Rx w3 bs RB true k r fl' tp (fun q => q = r0) m al'' M g h'' sv' n' a' sp ∧ Ri w3 B w2.heap.size s1 (h'' r0) left c ∧ (∀ i, al'' i = true → al' i = true) ∧ (∀ i, i < m.ne → al' i = true → al'' i = false → m.rd i = r0 ∧ m.hd i = false) ∧ (∀ i, i < m.ne → al'' i = true → m.rd i = r0 → m.hd i = false → left (.string (m.pr i).data.toList) = true) ∧ Cel RB w w3 ∧ Below bs w w3) := by
                obtain ⟨xv, cev, bev, nov⟩ := HV.out
                have b3 : Below w2.heap.size w2 w3 := grown_below hg3 _ (Nat.le_refl _) (fun k hk => by cases hk)
                have kk := KeepCM.of_below b3
                refine hidn ⟨al', h, _, _, xv.keep kk, ⟨D, hrg3, HOW.out.2⟩, fun i hi => hi, fun i _ q1 q2 => (by rw [q1] at q2; cases q2), fun i hi q1 q2 _ => ?_, cev.trans (kk.cel RB), bev.trans (b3.mono (by have := xv.bsR; have := xv.c5.lt; omega))⟩
                rw [Inn.has HOW.out.2, (xv.hal r0 (by rw [hB]; rfl) _ _).2 ⟨i, hi, q1, q2, rfl, rfl⟩]
                rfl
              clear hrg3 hg3 hs3
              go_loopw [7] (fun _ wi => ∃ al'' h'' left c, Rx wi bs RB true k r fl' tp (fun q => q = r0) m al'' M g h'' sv' n' a' sp ∧ Ri wi B w2.heap.size s1 (h'' r0) left c ∧ (∀ i, al'' i = true → al' i = true) ∧ (∀ i, i < m.ne → al' i = true → al'' i = false → m.rd i = r0 ∧ m.hd i = false) ∧ (∀ i, i < m.ne → al'' i = true → m.rd i = r0 → m.hd i = false → left (.string (m.pr i).data.toList) = true) ∧ Cel RB w wi ∧ Below bs w wi) (fun _ wi => wi.rangeLeft B w2.heap.size)
              case atStart => exact HI.out
              case round =>
                clear HI
                obtain ⟨al'', h'', left, c, z1, z2, z3, z4, z5, z6, z7⟩ := hrel
                rename World => wi
                obtain ⟨D'', hrg, hat⟩ := z2
                have HZ := hidn (And.intro z1 (And.intro hrg (And.intro hat (And.intro z3 (And.intro z4 (And.intro z5 (And.intro z6 z7)))))))
                clear z1 hrg hat z3 z4 z5 z6 z7
                go_wp2_with (first
                  | (at_next; refine wpList_next_ranges _ rfl _ rfl 9 key9 recR (fun p => Value.string p) (fun X => Value.pointer (some ⟨X, 0, none⟩)) (fun key kl hk => by obtain ⟨p, e, _⟩ := keyStr hk; exact ⟨p, e⟩) (fun v y hv => by obtain ⟨X, e, _⟩ := recR_inv hv; exact ⟨X, e⟩) B w2.heap.size s1 D'' left c rfl HZ.out.2.1 ?_ ?_)
                  | go_in)
                · intro _ hl0
                  go_wp2
                  go_roundw
                  case rel =>
                    obtain ⟨z1, hrg, hat, z3, z4, z5, z6, z7⟩ := HZ.out
                    obtain ⟨x, h1, h2, ce, be⟩ := HX.out
                    have xu := rx_unex z1 (fun i hi ha hr => ⟨rfl, (by
                      cases eh : m.hd i with
                      | true => rfl
                      | false => have := z5 i hi ha hr eh; rw [hl0] at this; cases this), by rw [hr]; exact ha0⟩)
                    refine ⟨_, _, _, _, _, _, _, _, xu, fun i hi => h1 i (z3 i hi), fun i hi ha hw => ?_, z6, z7⟩
                    cases ea : al' i with
                    | false => simpa using h2 i hi ha ea
                    | true =>
                      obtain ⟨q1, q2⟩ := z4 i hi ea hw
                      exact ⟨by rw [q1]; exact ha0, fun hh => by rw [q2] at hh; cases hh.2⟩
                  case measure =>
                    have e1 := rx_hlen HX.out.1
                    have e2 := rx_hlen HZ.out.1
                    have := HE.out.2.2.2
                    omega
                · intro p X kl yy1 yy2 wn c1 hkey hlk hRy hatk hrg1 hlt1 hg1 hs1' hen
                  obtain ⟨p', e1, rfl, hpl⟩ := keyStr hkey
                  obtain rfl : p = p' := by simpa using e1
                  have hgB : (g r0).isSome = true := by rw [hB]; rfl
                  have hfp : h'' r0 p = some X := by
                    obtain ⟨X', e2, e3⟩ := recR_inv hRy
                    obtain rfl : X = X' := by simpa using e2
                    have := (HZ.out.2.2.1 p .nil).symm.trans (hatk .nil)
                    rw [show yy1 = .held X by simpa using congrArg Prod.fst e3] at this
                    cases hf : h'' r0 p with
                    | none => rw [hf] at this; simp [dv] at this
                    | some Z => rw [hf] at this; simpa [dv] using this
                  obtain ⟨i0, hi0, hal0, hrd0, hpr0, hrc0⟩ := (HZ.out.1.hal r0 hgB p X).1 hfp
                  have hit : ∃ a b d e, wi.heap[w2.heap.size]? = some (.mapIter a b d e) := Ri.iter (f := h'' r0) ⟨D'', HZ.out.2.1, HZ.out.2.2.1⟩
                  obtain ⟨it1, it2, it3, it4, hit⟩ := hit
                  have kk := keep_iter hit hg1
                  have x1 := HZ.out.1.keep kk
                  have ce1 := HZ.out.2.2.2.2.2.2.1.trans (kk.cel RB)
                  have be1 : Below bs w wn := HZ.out.2.2.2.2.2.2.2.trans (grown_below hg1 bs (by have := HZ.out.1.bsR; have := HZ.out.1.c5.lt; omega) (fun b hb => by cases hb; have := HV.out.1.bsR; have := HV.out.1.c5.lt; omega))
                  have cX := (x1.recs i0 hi0).2.cell
                  rw [hrc0] at cX
                  have HN := hidn (And.intro x1 (And.intro ce1 (And.intro be1 (And.intro hrg1 (And.intro hlt1 (And.intro hi0 (And.intro hal0 (And.intro hrd0 (And.intro hpr0 hrc0)))))))))
                  clear x1 ce1 be1 hrg1 hlt1 hi0 hal0 hrd0 hpr0 hrc0 kk hit hfp hgB e1 hkey hRy hatk hg1 hs1' hlk
                  cases ehd : m.hd i0 with
                  | true =>
                    rw [ehd] at cX
                    have HEh := hidn ehd
                    clear ehd
                    go_wp2
                    go_roundw
                    case rel =>
                      obtain ⟨x1, ce1, be1, hrg1, hlt1, hi0, hal0, hrd0, hpr0, hrc0⟩ := HN.out
                      obtain ⟨z1, hrg, hat, z3, z4, z5, z6, z7⟩ := HZ.out
                      refine ⟨al'', h'', _, c1, x1, ⟨D'', hrg1, hat⟩, z3, z4, fun i hi ha hr hh => ?_, ce1, be1⟩
                      simp only [z5 i hi ha hr hh, Bool.true_and, Bool.not_eq_true']
                      refine Maps.sameKey_ne (fun e => ?_)
                      have := x1.mok.uq i i0 hi hi0 (by rw [hr, hrd0]) (by rw [str_inj e, hpr0])
                      subst this
                      rw [HEh.out] at hh
                      cases hh
                    case measure =>
                      rw [HN.out.2.2.2.1.left_eq, HZ.out.2.1.left_eq]
                      exact HN.out.2.2.2.2.1
                  | false =>
                    rw [ehd] at cX
                    have HEh := hidn ehd
                    clear ehd
                    obtain ⟨j0, hj0⟩ : ∃ j0, j0 < m.ne ∧ al'' j0 = true ∧ m.rd j0 = r0 ∧ j0 ≠ i0 := by
                      obtain ⟨x1, ce1, be1, hrg1, hlt1, hi0, hal0, hrd0, hpr0, hrc0⟩ := HN.out
                      obtain ⟨z1, hrg, hat, z3, z4, z5, z6, z7⟩ := HZ.out
                      obtain ⟨ph, Xh, q1, C, q2, q3⟩ := HC.out
                      obtain ⟨jh, a1, a2, a3, a4, a5⟩ := (HV.out.1.hal r0 (by rw [hB]; rfl) ph Xh).1 q1
                      have hh : m.hd jh = true := by
                        obtain ⟨C', k1, k2⟩ := (HV.out.1.recs jh a1).2
                        rw [a5, q2] at k1
                        cases k1
                        rw [q3] at k2
                        simpa using k2.symm
                      refine ⟨jh, a1, ?_, a3, fun e => ?_⟩
                      · cases ea : al'' jh with
                        | true => rfl
                        | false =>
                          have := (z4 jh a1 a2 ea).2
                          rw [hh] at this
                          cases this
                      · rw [e, HEh.out] at hh
                        cases hh
                    have K25 := by
                      obtain ⟨x1, ce1, be1, hrg1, hlt1, hi0, hal0, hrd0, hpr0, hrc0⟩ := HN.out
                      exact forget_is (B := B) (I := w2.heap.size) (s := s1) (c := c1) x1 hi0 hal0 hj0.1 hj0.2.1 (by rw [hj0.2.2.1, hrd0]) hj0.2.2.2 (by rw [hrd0]; exact hB) hs1 ⟨D'', hrg1, fun p z => by rw [hrd0]; exact HZ.out.2.2.1 p z⟩
                    rw [HN.out.2.2.2.2.2.2.2.1, HN.out.2.2.2.2.2.2.2.2.1] at K25
                    have HK := hidn K25
                    clear K25 hj0
                    go_wp2_with (go_at_call 25; refine HK.out.mono ?_; rintro e wf ⟨rfl, q1, ⟨c2, q2, q3⟩, q4, q5⟩)
                    go_roundw
                    case rel =>
                      obtain ⟨x1, ce1, be1, hrg1, hlt1, hi0, hal0, hrd0, hpr0, hrc0⟩ := HN.out
                      obtain ⟨z1, hrg, hat, z3, z4, z5, z6, z7⟩ := HZ.out
                      have hkl : ∀ i, kill al'' i0 i = true → al'' i = true ∧ i ≠ i0 := fun i hi => by simpa [kill] using hi
                      rw [Maps.strike_twice] at q3
                      refine ⟨kill al'' i0, _, fun z : Lit => left z && !z.sameKey (.string p.data.toList), c2, q1, by simpa using q3, fun i hi => z3 i (hkl i hi).1, fun i hi ha hw => ?_, fun i hi ha hr hh => ?_, ce1.trans q4, be1.trans q5⟩
                      · cases ea : al'' i with
                        | false => exact z4 i hi ha ea
                        | true =>
                          have : i = i0 := by simpa [kill, ea] using hw
                          subst this
                          exact ⟨hrd0, HEh.out⟩
                      · obtain ⟨k1, k2⟩ := hkl i ha
                        have k3 := z5 i hi k1 hr hh
                        have k4 : (Lit.string (m.pr i).data.toList).sameKey (.string p.data.toList) = false := Maps.sameKey_ne (fun e => k2 (x1.mok.uq i i0 hi hi0 (by rw [hr, hrd0]) (by rw [str_inj e, hpr0])))
                        exact show (fun z : Lit => left z && !z.sameKey (.string p.data.toList)) (.string (m.pr i).data.toList) = true by simp [k3, k4]
                    case measure =>
                      obtain ⟨D3, r3, _⟩ := q3
                      rw [r3.left_eq, HZ.out.2.1.left_eq]
                      have := HN.out.2.2.2.2.1
                      omega
      · have hd0 : decide (a 0 < fl') = false := by simpa using ha0
        clear x h1 h2 ce be
        go_wp2
        go_end0
        obtain ⟨x, h1, h2, ce, be⟩ := HX.out
        exact ⟨rfl, lp_end x h1 h2 (.inr (by omega)), ce, be⟩

end Go.Proofs.YbulkcmgaFmt
