/-
  (*Rule).add: the walk.
-/
import Derived.Test.YbulkcmgaFmtAdd
namespace Go.Proofs.YbulkcmgaFmt
open Go Go.RowKit

variable {w w' : World} {bs RB M B n X b s : Nat} {hold : Bool} {k hi fl tp : Int} {ex : Int → Prop} {m : Md} {al : Nat → Bool} {g : Int → Option Nat} {h : Int → ByteArray → Option Nat} {sv : Value} {a : Nat → Int} {sp : Option Nat} {r : Int} {p : ByteArray} {v : Bool}

set_option maxHeartbeats 2000000 in
set_option maxRecDepth 100000 in
theorem add_old (x : Rx w bs RB hold k hi fl tp ex m al M g h sv n a sp) (z : New w RB fl m r p v X) (hB : g r = some B) :
    Calls Ybaf.prog 12 #[.pointer (some ⟨RB, 0, none⟩), .agg #[.int .u64 r, .string p], .pointer (some ⟨X, 0, none⟩)] w fun e w' => e = .returned (.tuple #[]) ∧ Ru w' bs RB hold k hi fl tp ex (m.snoc r p v X) (alive al m.ne) ∧ Cel RB w w' ∧ Below bs w w' := by
  have B1 := (Below.refl _ w).alloc (Nat.le_refl _) (.cells #[.int .u64 r, .string p] 82)
  have k0 : (w.alloc (.cells #[.int .u64 r, .string p] 82)).cell? ⟨w.heap.size, 0, none⟩ = some (.int .u64 r) := by go_simp
  have k1 : (w.alloc (.cells #[.int .u64 r, .string p] 82)).cell? ⟨w.heap.size, 1, none⟩ = some (.string p) := by go_simp
  have HX := hidn (And.intro x z)
  obtain ⟨s0, hs0, tb⟩ := x.tb
  obtain ⟨bB, BM, s1, hs1, hI1⟩ := x.inn r B hB
  have lR := x.c5.lt
  have c6 := (B1.cell (p := ⟨RB, 6, none⟩) lR).trans x.c6
  have tb1 := tb.of_block (B1.block M tb.lt)
  have in1 := hI1.of_block (B1.block B hI1.lt)
  have A7 := x.c7.below B1 lR
  clear x z
  go_enter Ybaf.func12, Ybaf.ntmps12
  go_upto_region 1 with (fail)
  generalize w.alloc _ = w1 at B1 k0 k1 c6 tb1 in1 A7 ⊢
  have hl : ∀ q, (Instr.lookup 32 (.map (some M)) (.int .u64 r) false).run Ybaf.prog (w1.drewN q) = .ok (.map (some B)) (w1.drewN q) := fun q => by
    have := Tb.lookup (w := w1.drewN q) (tb1.of_block rfl) r HX.out.2.wf
    rw [hB] at this
    exact this
  have qm : ∀ (w : World) (o : Option Nat), (binOp .eql 34 (.map o) (.map none)).run Ybaf.prog w = .ok (.bool o.isNone) w := fun w o => run_eql_map_nil w _ _ _ o Ybaf.underlying34
  go_quiet (fail)
  go_upto_region 9 with (fail)
  have B2 := below_drewN B1 nq
  have k1' : (w1.drewN nq).cell? ⟨w.heap.size, 1, none⟩ = some (.string p) := k1
  have in2 : Inn (w1.drewN nq) B (h r) s1 := in1.of_block rfl
  have A72 : At (w1.drewN nq) RB 7 _ := A7
  clear k0 k1 c6 tb1 in1 A7 hl qm B1
  generalize w1.drewN nq = w2 at B2 k1' in2 A72 ⊢
  have hlt := HX.out.2.ne
  obtain ⟨w3, hrun, in3, gr3⟩ := in2.put p HX.out.2.len X (by unfold maxLen; omega)
  have rB : RB ≠ B := ne_map (isMap_inn hI1) HX.out.1.c0
  have lR2 : RB < w2.heap.size := Nat.lt_of_lt_of_le lR B2.size
  have o3 : Only [B] w2 w3 := Only.of_grown gr3
  obtain ⟨c7, f7⟩ := A72.only o3 (by simpa using rB)
  obtain ⟨cc, hcc⟩ : ∃ cc, cc = cnt al m.ne := ⟨_, rfl⟩
  rw [← hcc] at c7
  have hc3 : (cc : Int) ≤ 300 := by have := cnt_le al m.ne; omega
  have HC := hidn hcc
  have HB := hidn (And.intro B2 (And.intro o3 (And.intro gr3 in3)))
  clear B2 o3 gr3 in3 in2 A72 hcc
  go_wp2
  go_end0
  obtain ⟨B2, o3, gr3, in3⟩ := HB.out
  obtain ⟨x, z⟩ := HX.out
  have hcc := HC.out
  have s3 := o3.size
  have lB := x.bsR
  have os : Only [B, RB] w3 (w3.setCell ⟨RB, 7, none⟩ (.int .i64 ((cc : Int) + 1))) := (Only.refl _ _).setCell (by simp) _
  have oo : Only [B, RB] w (w3.setCell ⟨RB, 7, none⟩ (.int .i64 ((cc : Int) + 1))) := (Only.of_below B2).trans ((o3.mono (by simp)).trans os)
  have rr : Rest w (w3.setCell ⟨RB, 7, none⟩ (.int .i64 ((cc : Int) + 1))) RB [7] := (Rest.of_block (B2.block RB lR)).trans ((Rest.of_block (o3.block RB lR2 (by simpa using rB))).trans (Rest.set _ _ _ _))
  have inB : Inn (w3.setCell ⟨RB, 7, none⟩ (.int .i64 ((cc : Int) + 1))) B (setK (h r) p (some X)) _ := in3.of_block (Below.heap_setCell _ _ _ _ (fun e => rB e.symm))
  have hno := x.none z (by rw [hB]; rfl)
  obtain ⟨ru, ce⟩ := x.add_old z hB ⟨_, by split <;> omega, inB⟩ oo rr ⟨by rw [← hcc]; go_simp, by go_simp⟩
  have hbs : bs ≤ w.heap.size := by omega
  exact ⟨rfl, ru, ce, (B2.mono hbs).trans ((grown_below gr3 bs (by have := B2.size; omega) (fun k hk => by cases hk; exact bB)).setCell (by show bs ≤ RB; exact lB) _)⟩

set_option maxHeartbeats 4000000 in
set_option maxRecDepth 100000 in
theorem add_spare (x : Rx w bs RB hold k hi fl tp ex m al M g h sv n a sp) (z : New w RB fl m r p v X) (hB : g r = none) {S : Nat} (hsp : sp = some S) :
    Calls Ybaf.prog 12 #[.pointer (some ⟨RB, 0, none⟩), .agg #[.int .u64 r, .string p], .pointer (some ⟨X, 0, none⟩)] w fun e w' => e = .returned (.tuple #[]) ∧ Ru w' bs RB hold k hi fl tp ex (m.snoc r p v X) (alive al m.ne) ∧ Cel RB w w' ∧ Below bs w w' := by
  have B1 := (Below.refl _ w).alloc (Nat.le_refl _) (.cells #[.int .u64 r, .string p] 82)
  have k0 : (w.alloc (.cells #[.int .u64 r, .string p] 82)).cell? ⟨w.heap.size, 0, none⟩ = some (.int .u64 r) := by go_simp
  have k1 : (w.alloc (.cells #[.int .u64 r, .string p] 82)).cell? ⟨w.heap.size, 1, none⟩ = some (.string p) := by go_simp
  have lz : w.heap.size < (w.alloc (.cells #[.int .u64 r, .string p] 82)).heap.size := by simp
  have HX := hidn (And.intro x z)
  obtain ⟨s0, hs0, tb⟩ := x.tb
  have lR := x.c5.lt
  have c6 := (B1.cell (p := ⟨RB, 6, none⟩) lR).trans x.c6
  have tb1 := tb.of_block (B1.block M tb.lt)
  have A9 := x.c9.below B1 lR
  rw [hsp] at A9
  obtain ⟨a9, b9⟩ := A9
  clear x z
  go_enter Ybaf.func12, Ybaf.ntmps12
  go_upto_region 1 with (fail)
  generalize w.alloc _ = w1 at B1 k0 k1 lz c6 tb1 a9 b9 ⊢
  have hl : ∀ q, (Instr.lookup 32 (.map (some M)) (.int .u64 r) false).run Ybaf.prog (w1.drewN q) = .ok (.map none) (w1.drewN q) := fun q => by
    have := Tb.lookup (w := w1.drewN q) (tb1.of_block rfl) r HX.out.2.wf
    rw [hB] at this
    exact this
  have qm : ∀ (w : World) (o : Option Nat), (binOp .eql 34 (.map o) (.map none)).run Ybaf.prog w = .ok (.bool o.isNone) w := fun w o => run_eql_map_nil w _ _ _ o Ybaf.underlying34
  have mkm : ∀ w : World, (Instr.makeMap 34 none).run Ybaf.prog w = .ok (.map (some w.heap.size)) (w.alloc (.map #[] 0)) := fun _ => rfl
  go_quiet (fail)
  have c9 : (w1.drewN nq).cell? ⟨RB, 9, none⟩ = some (.map (some S)) := a9
  have f9 : (w1.drewN nq).frozen? ⟨RB, 9, none⟩ = false := b9
  have B2 := below_drewN B1 nq
  have k02 : (w1.drewN nq).cell? ⟨w.heap.size, 0, none⟩ = some (.int .u64 r) := k0
  have k12 : (w1.drewN nq).cell? ⟨w.heap.size, 1, none⟩ = some (.string p) := k1
  have lz2 : w.heap.size < (w1.drewN nq).heap.size := lz
  clear k0 k1 lz c6 tb1 a9 b9 hl B1
  generalize w1.drewN nq = w2 at B2 k02 k12 lz2 c9 f9 ⊢
  go_upto_region 7 with (fail)
  have W3 : Only [RB] w2 (w2.setCell ⟨RB, 9, none⟩ (.map none)) := (Only.refl _ _).setCell (by simp) _
  have r3 : Rest w2 (w2.setCell ⟨RB, 9, none⟩ (.map none)) RB [9] := Rest.set _ _ _ _
  have c93 : At (w2.setCell ⟨RB, 9, none⟩ (.map none)) RB 9 (.map none) := ⟨by go_simp, by go_simp⟩
  clear c9 f9
  obtain ⟨bS, SM, iS, gS⟩ := HX.out.1.spare S hsp
  have nRS : RB ≠ S := ne_map (isMap_inn iS) HX.out.1.c0
  have lS2 : S < w2.heap.size := Nat.lt_of_lt_of_le iS.lt B2.size
  have I3 : Inn (w2.setCell ⟨RB, 9, none⟩ (.map none)) S (fun _ => none) 0 := (iS.of_block (B2.block S iS.lt)).of_block (W3.block S lS2 (by simpa using fun e => nRS e.symm))
  generalize w2.setCell ⟨RB, 9, none⟩ (.map none) = w3 at W3 r3 c93 I3 ⊢
  have hkB : (∃ es c, w.heap[S]? = some (.map es c)) ∨ w.heap.size ≤ S := .inl (isMap_inn iS)
  have o3 : Only [RB] w w3 := (Only.of_below B2).trans W3
  have rr3 : Rest w w3 RB [9] := (Rest.of_block (B2.block RB lR)).trans r3
  have nRM : RB ≠ M := ne_map (isMap_tb tb) HX.out.1.c0
  have nKR : w.heap.size ≠ RB := by omega
  have k03 := (W3.cell (p := ⟨w.heap.size, 0, none⟩) lz2 (by simpa using nKR)).trans k02
  have k13 := (W3.cell (p := ⟨w.heap.size, 1, none⟩) lz2 (by simpa using nKR)).trans k12
  have lz3 : w.heap.size < w3.heap.size := Nat.lt_of_lt_of_le lz2 W3.size
  have T3 := tb.of_block (o3.block M tb.lt (by simpa using fun e => nRM e.symm))
  have c63 := (rr3 6 (by decide)).1.trans HX.out.1.c6
  have A73 := rr3.at HX.out.1.c7 (by decide)
  have A83 := rr3.at HX.out.1.c8 (by decide)
  have own3 := own_kept HX.out.1.own (fun b hb => o3.block b (own_lt HX.out.1.own hb) (by simp; exact fun e => HX.out.1.ownR (by rw [hb, e])))
  have Be3 : Below bs w w3 := (B2.mono (by have := HX.out.1.bsR; omega)).trans (W3.below (by have := HX.out.1.bsR; have := B2.size; omega) (by simpa using HX.out.1.bsR))
  clear W3 r3 k02 k12 B2 lz2
  -- the rounds' map
  refine region_quiet_tail (C := fun W => ∃ q, W = w3.drewN q) 7 (by kernel_rfl) (by kernel_rfl) ⟨1, rfl⟩ ?_
  simp only [List.take_succ_cons, List.take_zero, List.drop_succ_cons, List.drop_zero]
  repeat (go_big_quiet_step (fail))
  refine wpQuiet_nil ?_
  rintro W ⟨q, rfl⟩
  have hlt := HX.out.2.ne
  obtain ⟨w5, hrun, T5, gr5⟩ := Tb.put (w := w3.drewN q) (T3.of_block rfl) r HX.out.2.wf S (by unfold maxLen; omega)
  have o5 : Only [M] (w3.drewN q) w5 := Only.of_grown gr5
  have o5' : Only [M] w3 w5 := ⟨o5.os, o5.tape, o5.output, o5.size, o5.block⟩
  have Be5 : Below bs w w5 := Be3.trans ((below_drewN (Below.refl _ _) q).trans (grown_below gr5 bs (by show bs ≤ w3.heap.size; have := Be3.size; have := HX.out.1.bsR; omega) (fun k hk => by cases hk; exact HX.out.1.bsM)))
  have HO := hidn (And.intro o5' (And.intro Be5 T5))
  clear gr5 o5 o5' Be5 T5
  go_upto_region 8 with (fail)
  obtain ⟨o5', Be5, T5⟩ := HO.out
  have nS : ∀ (b : Nat), b ≠ M → b ∉ [M] := fun b hb => by simpa using hb
  have lR3 : RB < w3.heap.size := Nat.lt_of_lt_of_le lR o3.size
  have nKM : w.heap.size ≠ M := by have := tb.lt; omega
  have k05 := (o5'.cell (p := ⟨w.heap.size, 0, none⟩) lz3 (nS _ nKM)).trans k03
  have k15 := (o5'.cell (p := ⟨w.heap.size, 1, none⟩) lz3 (nS _ nKM)).trans k13
  have lz5 : w.heap.size < w5.heap.size := Nat.lt_of_lt_of_le lz3 o5'.size
  have A75 := A73.only o5' (nS _ nRM)
  have A85 := A83.only o5' (nS _ nRM)
  have A95 := c93.only o5' (nS _ nRM)
  have I5 := I3.of_block (o5'.block S I3.lt (nS _ SM))
  have own5 := own_kept own3 (fun b hb => o5'.block b (own_lt own3 hb) (nS _ (by obtain ⟨c, hc⟩ := own_isRow own3 hb; exact row_not_map (isMap_tb T3) hc)))
  have oo5 : Only [M, RB] w w5 := (o3.mono (by simp)).trans (o5'.mono (by simp))
  have rr5 : Rest w w5 RB [9] := rr3.trans (Rest.of_block (o5'.block RB lR3 (nS _ nRM)))
  clear o3 rr3 k03 k13 lz3 T3 c63 A73 A83 own3 Be3 I3 c93 HO o5' hrun
  -- the heap
  refine region_quiet_tail (C := fun W => ∃ q, W = w5.drewN q) 7 (by kernel_rfl) (by kernel_rfl) ⟨1, rfl⟩ ?_
  simp only [List.take_succ_cons, List.take_zero, List.drop_succ_cons, List.drop_zero]
  repeat (go_big_quiet_step (fail))
  refine wpQuiet_nil ?_
  rintro W ⟨q, rfl⟩
  have hnl := HX.out.1.nle
  have K21 := hidn (hpush_all (w := w5.drewN q) r A85 (own_kept own5 (fun b _ => rfl)) HX.out.1.ownR (by omega) (by show bs ≤ w5.heap.size; have := oo5.size; have := HX.out.1.bsR; omega) HX.out.1.hp)
  have HQ := hidn (And.intro k15 (And.intro A75 (And.intro A95 (And.intro I5 (And.intro T5 (And.intro oo5 (And.intro rr5 (And.intro Be5 own5))))))))
  clear k05 k15 A75 A85 A95 I5 T5 oo5 rr5 Be5 own5
  go_upto_region 9 with (go_at_call 21; refine K21.out.mono ?_; rintro e w7 ⟨rfl, G, cap, a', y1, y2, y3, y4, y5, y6, y7⟩)
  obtain ⟨k15, A75, A95, I5, T5, oo5, rr5, Be5, own5⟩ := HQ.out
  replace y6 : Only (RB :: sv.ownBlock.toList) w5 w7 := ⟨y6.os, y6.tape, y6.output, y6.size, y6.block⟩
  replace y7 : Rest w5 w7 RB [8] := y7
  have y3' : sv.ownBlock = some G ∨ w5.heap.size ≤ G := y3
  have lR5 : RB < w5.heap.size := Nat.lt_of_lt_of_le lR oo5.size
  have nK : w.heap.size ∉ RB :: sv.ownBlock.toList := by
    simp only [List.mem_cons, not_or]
    refine ⟨nKR, fun hb => ?_⟩
    have := own_lt HX.out.1.own (show sv.ownBlock = some w.heap.size by simpa using hb)
    omega
  have nMp : ∀ b, (∃ es c, w5.heap[b]? = some (Obj.map es c)) → b ≠ RB → b ∉ RB :: sv.ownBlock.toList := fun b hm hb => by
    simp only [List.mem_cons, not_or]
    refine ⟨hb, fun hb' => ?_⟩
    obtain ⟨c, hc⟩ := own_isRow own5 (show sv.ownBlock = some b by simpa using hb')
    exact row_not_map hm hc rfl
  have k17 := (y6.cell (p := ⟨w.heap.size, 1, none⟩) lz5 nK).trans k15
  have I7 := I5.of_block (y6.block S I5.lt (nMp S (isMap_inn I5) nRS.symm))
  have T7 := T5.of_block (y6.block M T5.lt (nMp M (isMap_tb T5) nRM.symm))
  have A77 := y7.at A75 (by decide)
  have A97 := y7.at A95 (by decide)
  have lR7 : RB < w7.heap.size := Nat.lt_of_lt_of_le lR5 y6.size
  obtain ⟨w8, hrun, I8, gr8⟩ := I7.put p HX.out.2.len X (by unfold maxLen; omega)
  have o8 : Only [S] w7 w8 := Only.of_grown gr8
  have nRS' : RB ∉ [S] := by simpa using nRS
  obtain ⟨c7, f7⟩ := A77.only o8 nRS'
  have A98 := A97.only o8 nRS'
  have T8 := T7.of_block (o8.block M T7.lt (by simpa using fun e => SM e.symm))
  have nGS : G ≠ S := by
    obtain ⟨_, _, f', hrow, _⟩ := y1.row
    obtain ⟨cc', hcc', _⟩ := hrow
    exact row_not_map (isMap_inn I7) hcc'
  have y18 : Hw w8 RB G (n + 1) cap a' := ⟨y1.ne, y1.at8.only o8 nRS', y1.row.only o8 (by simpa using nGS)⟩
  obtain ⟨cc, hcc⟩ : ∃ cc, cc = cnt al m.ne := ⟨_, rfl⟩
  rw [← hcc] at c7
  have hc3 : (cc : Int) ≤ 300 := by have := cnt_le al m.ne; omega
  have HZ := hidn (And.intro hcc (And.intro y18 (And.intro T8 (And.intro I8 (And.intro A98 (And.intro gr8 (And.intro o8 (And.intro y6 (And.intro y7 (And.intro y2 (And.intro y4 y5)))))))))))
  clear y1 y2 y3 y3' y4 y5 y6 y7 y18 T8 I8 A98 gr8 o8 T7 I7 A77 A97 hcc k15 A75 A95 I5 T5 oo5 rr5 Be5 own5
  go_wp2
  go_end0
  obtain ⟨hcc, y18, T8, I8, A98, gr8, o8, y6, y7, y2, y4, y5⟩ := HZ.out
  obtain ⟨k15, A75, A95, I5, T5, oo5, rr5, Be5, own5⟩ := HQ.out
  obtain ⟨x, z⟩ := HX.out
  have os : Only (S :: M :: RB :: sv.ownBlock.toList) w8 (w8.setCell ⟨RB, 7, none⟩ (.int .i64 ((cc : Int) + 1))) := (Only.refl _ _).setCell (by simp) _
  have rs := Rest.set w8 RB 7 (.int .i64 ((cc : Int) + 1))
  have bl : ∀ b, b ≠ RB → (w8.setCell ⟨RB, 7, none⟩ (.int .i64 ((cc : Int) + 1))).heap[b]? = w8.heap[b]? := fun b hb => Below.heap_setCell _ _ _ _ (fun e => hb e)
  have oo : Only (S :: M :: RB :: sv.ownBlock.toList) w (w8.setCell ⟨RB, 7, none⟩ (.int .i64 ((cc : Int) + 1))) := (oo5.mono (by simp)).trans ((y6.mono (fun k hk => by simp at hk ⊢; rcases hk with h | h <;> simp [h])).trans ((o8.mono (by simp)).trans os))
  have rr : Rest w (w8.setCell ⟨RB, 7, none⟩ (.int .i64 ((cc : Int) + 1))) RB [7, 8, 9] := (rr5.mono (by simp)).trans ((y7.mono (by simp)).trans ((Rest.of_block (o8.block RB lR7 nRS')).trans (rs.mono (by simp))))
  obtain ⟨ru, ce⟩ := x.add_new z hB bS SM gS hkB ⟨_, by split <;> omega, T8.of_block (bl M nRM.symm)⟩ ⟨_, by split <;> omega, I8.of_block (bl S nRS.symm)⟩ (rs.at y18.at8 (by decide)) (own_of_hr (y18.row.of_block (bl G y18.ne.symm)) y2) (by simpa [Value.ownBlock] using y18.ne.symm) y5 y4 oo rr ⟨by rw [← hcc]; go_simp, by go_simp⟩ (rs.at A98 (by decide))
  have lB := x.bsR
  have z5 := oo5.size
  have z7 := y6.size
  refine ⟨rfl, ru, ce, Be5.trans ((y6.below (by omega) (fun k hk => ?_)).trans ((grown_below gr8 bs (by omega) (fun k hk => by cases hk; exact bS)).setCell (by show bs ≤ RB; exact lB) _))⟩
  simp only [List.mem_cons] at hk
  rcases hk with rfl | hk
  · exact lB
  · have hk' : sv.ownBlock = some k := by simpa using hk
    have ho := x.own
    obtain ⟨_, h1⟩ := ho
    rcases h1 with ⟨rfl, _⟩ | ⟨g', cap', cur, rfl, hb, _⟩
    · cases hk'
    · obtain rfl : g' = k := by simpa [Value.ownBlock] using hk'
      exact hb

set_option maxHeartbeats 4000000 in
set_option maxRecDepth 100000 in
theorem add_made (x : Rx w bs RB hold k hi fl tp ex m al M g h sv n a sp) (z : New w RB fl m r p v X) (hB : g r = none) (hsp : sp = none) :
    Calls Ybaf.prog 12 #[.pointer (some ⟨RB, 0, none⟩), .agg #[.int .u64 r, .string p], .pointer (some ⟨X, 0, none⟩)] w fun e w' => e = .returned (.tuple #[]) ∧ Ru w' bs RB hold k hi fl tp ex (m.snoc r p v X) (alive al m.ne) ∧ Cel RB w w' ∧ Below bs w w' := by
  have B1 := (Below.refl _ w).alloc (Nat.le_refl _) (.cells #[.int .u64 r, .string p] 82)
  have k0 : (w.alloc (.cells #[.int .u64 r, .string p] 82)).cell? ⟨w.heap.size, 0, none⟩ = some (.int .u64 r) := by go_simp
  have k1 : (w.alloc (.cells #[.int .u64 r, .string p] 82)).cell? ⟨w.heap.size, 1, none⟩ = some (.string p) := by go_simp
  have lz : w.heap.size < (w.alloc (.cells #[.int .u64 r, .string p] 82)).heap.size := by simp
  have HX := hidn (And.intro x z)
  obtain ⟨s0, hs0, tb⟩ := x.tb
  have lR := x.c5.lt
  have c6 := (B1.cell (p := ⟨RB, 6, none⟩) lR).trans x.c6
  have tb1 := tb.of_block (B1.block M tb.lt)
  have A9 := x.c9.below B1 lR
  rw [hsp] at A9
  obtain ⟨a9, b9⟩ := A9
  clear x z
  go_enter Ybaf.func12, Ybaf.ntmps12
  go_upto_region 1 with (fail)
  generalize w.alloc _ = w1 at B1 k0 k1 lz c6 tb1 a9 b9 ⊢
  have hl : ∀ q, (Instr.lookup 32 (.map (some M)) (.int .u64 r) false).run Ybaf.prog (w1.drewN q) = .ok (.map none) (w1.drewN q) := fun q => by
    have := Tb.lookup (w := w1.drewN q) (tb1.of_block rfl) r HX.out.2.wf
    rw [hB] at this
    exact this
  have qm : ∀ (w : World) (o : Option Nat), (binOp .eql 34 (.map o) (.map none)).run Ybaf.prog w = .ok (.bool o.isNone) w := fun w o => run_eql_map_nil w _ _ _ o Ybaf.underlying34
  have mkm : ∀ w : World, (Instr.makeMap 34 none).run Ybaf.prog w = .ok (.map (some w.heap.size)) (w.alloc (.map #[] 0)) := fun _ => rfl
  go_quiet (fail)
  have c9 : (w1.drewN nq).cell? ⟨RB, 9, none⟩ = some (.map none) := a9
  have f9 : (w1.drewN nq).frozen? ⟨RB, 9, none⟩ = false := b9
  have B2 := below_drewN B1 nq
  have k02 : (w1.drewN nq).cell? ⟨w.heap.size, 0, none⟩ = some (.int .u64 r) := k0
  have k12 : (w1.drewN nq).cell? ⟨w.heap.size, 1, none⟩ = some (.string p) := k1
  have lz2 : w.heap.size < (w1.drewN nq).heap.size := lz
  clear k0 k1 lz c6 tb1 a9 b9 hl B1
  generalize w1.drewN nq = w2 at B2 k02 k12 lz2 c9 f9 ⊢
  go_upto_region 7 with (fail)
  have W3 : Only [RB] w2 ((w2.setCell ⟨RB, 9, none⟩ (.map none)).alloc (.map #[] 0)) := ((Only.refl _ _).setCell (by simp) _).alloc _
  have r3 : Rest w2 ((w2.setCell ⟨RB, 9, none⟩ (.map none)).alloc (.map #[] 0)) RB [9] := (Rest.set _ _ _ _).trans (Rest.of_block (Below.heap_alloc _ _ _ (by simp; have := B2.size; omega)))
  have c93 : At ((w2.setCell ⟨RB, 9, none⟩ (.map none)).alloc (.map #[] 0)) RB 9 (.map none) := At.below (w := w2.setCell ⟨RB, 9, none⟩ (.map none)) ⟨by go_simp, by go_simp⟩ ((Below.refl _ _).alloc (Nat.le_refl _) _) (by simp; have := B2.size; omega)
  have I3 : Inn ((w2.setCell ⟨RB, 9, none⟩ (.map none)).alloc (.map #[] 0)) w2.heap.size (fun _ => none) 0 := by have := Inn.made (w2.setCell ⟨RB, 9, none⟩ (.map none)); simpa using this
  clear c9 f9
  generalize (w2.setCell ⟨RB, 9, none⟩ (.map none)).alloc (.map #[] 0) = w3 at W3 r3 c93 I3 ⊢
  have s2 := B2.size
  have bS : bs ≤ w2.heap.size := by have := HX.out.1.bsR; omega
  have SM : w2.heap.size ≠ M := by have := tb.lt; omega
  have gS : ∀ r, g r ≠ some w2.heap.size := fun r e => by
    obtain ⟨_, _, s', _, i'⟩ := HX.out.1.inn r _ e
    have := i'.lt
    omega
  have nRS : RB ≠ w2.heap.size := by omega
  have hkB : (∃ es c, w.heap[w2.heap.size]? = some (.map es c)) ∨ w.heap.size ≤ w2.heap.size := .inr s2
  generalize w2.heap.size = S at I3 bS SM gS nRS hkB ⊢
  have o3 : Only [RB] w w3 := (Only.of_below B2).trans W3
  have rr3 : Rest w w3 RB [9] := (Rest.of_block (B2.block RB lR)).trans r3
  have nRM : RB ≠ M := ne_map (isMap_tb tb) HX.out.1.c0
  have nKR : w.heap.size ≠ RB := by omega
  have k03 := (W3.cell (p := ⟨w.heap.size, 0, none⟩) lz2 (by simpa using nKR)).trans k02
  have k13 := (W3.cell (p := ⟨w.heap.size, 1, none⟩) lz2 (by simpa using nKR)).trans k12
  have lz3 : w.heap.size < w3.heap.size := Nat.lt_of_lt_of_le lz2 W3.size
  have T3 := tb.of_block (o3.block M tb.lt (by simpa using fun e => nRM e.symm))
  have c63 := (rr3 6 (by decide)).1.trans HX.out.1.c6
  have A73 := rr3.at HX.out.1.c7 (by decide)
  have A83 := rr3.at HX.out.1.c8 (by decide)
  have own3 := own_kept HX.out.1.own (fun b hb => o3.block b (own_lt HX.out.1.own hb) (by simp; exact fun e => HX.out.1.ownR (by rw [hb, e])))
  have Be3 : Below bs w w3 := (B2.mono (by have := HX.out.1.bsR; omega)).trans (W3.below (by have := HX.out.1.bsR; have := B2.size; omega) (by simpa using HX.out.1.bsR))
  clear W3 r3 k02 k12 B2 lz2
  -- the rounds' map
  refine region_quiet_tail (C := fun W => ∃ q, W = w3.drewN q) 7 (by kernel_rfl) (by kernel_rfl) ⟨1, rfl⟩ ?_
  simp only [List.take_succ_cons, List.take_zero, List.drop_succ_cons, List.drop_zero]
  repeat (go_big_quiet_step (fail))
  refine wpQuiet_nil ?_
  rintro W ⟨q, rfl⟩
  have hlt := HX.out.2.ne
  obtain ⟨w5, hrun, T5, gr5⟩ := Tb.put (w := w3.drewN q) (T3.of_block rfl) r HX.out.2.wf S (by unfold maxLen; omega)
  have o5 : Only [M] (w3.drewN q) w5 := Only.of_grown gr5
  have o5' : Only [M] w3 w5 := ⟨o5.os, o5.tape, o5.output, o5.size, o5.block⟩
  have Be5 : Below bs w w5 := Be3.trans ((below_drewN (Below.refl _ _) q).trans (grown_below gr5 bs (by show bs ≤ w3.heap.size; have := Be3.size; have := HX.out.1.bsR; omega) (fun k hk => by cases hk; exact HX.out.1.bsM)))
  have HO := hidn (And.intro o5' (And.intro Be5 T5))
  clear gr5 o5 o5' Be5 T5
  go_upto_region 8 with (fail)
  obtain ⟨o5', Be5, T5⟩ := HO.out
  have nS : ∀ (b : Nat), b ≠ M → b ∉ [M] := fun b hb => by simpa using hb
  have lR3 : RB < w3.heap.size := Nat.lt_of_lt_of_le lR o3.size
  have nKM : w.heap.size ≠ M := by have := tb.lt; omega
  have k05 := (o5'.cell (p := ⟨w.heap.size, 0, none⟩) lz3 (nS _ nKM)).trans k03
  have k15 := (o5'.cell (p := ⟨w.heap.size, 1, none⟩) lz3 (nS _ nKM)).trans k13
  have lz5 : w.heap.size < w5.heap.size := Nat.lt_of_lt_of_le lz3 o5'.size
  have A75 := A73.only o5' (nS _ nRM)
  have A85 := A83.only o5' (nS _ nRM)
  have A95 := c93.only o5' (nS _ nRM)
  have I5 := I3.of_block (o5'.block S I3.lt (nS _ SM))
  have own5 := own_kept own3 (fun b hb => o5'.block b (own_lt own3 hb) (nS _ (by obtain ⟨c, hc⟩ := own_isRow own3 hb; exact row_not_map (isMap_tb T3) hc)))
  have oo5 : Only [M, RB] w w5 := (o3.mono (by simp)).trans (o5'.mono (by simp))
  have rr5 : Rest w w5 RB [9] := rr3.trans (Rest.of_block (o5'.block RB lR3 (nS _ nRM)))
  clear o3 rr3 k03 k13 lz3 T3 c63 A73 A83 own3 Be3 I3 c93 HO o5' hrun
  -- the heap
  refine region_quiet_tail (C := fun W => ∃ q, W = w5.drewN q) 7 (by kernel_rfl) (by kernel_rfl) ⟨1, rfl⟩ ?_
  simp only [List.take_succ_cons, List.take_zero, List.drop_succ_cons, List.drop_zero]
  repeat (go_big_quiet_step (fail))
  refine wpQuiet_nil ?_
  rintro W ⟨q, rfl⟩
  have hnl := HX.out.1.nle
  have K21 := hidn (hpush_all (w := w5.drewN q) r A85 (own_kept own5 (fun b _ => rfl)) HX.out.1.ownR (by omega) (by show bs ≤ w5.heap.size; have := oo5.size; have := HX.out.1.bsR; omega) HX.out.1.hp)
  have HQ := hidn (And.intro k15 (And.intro A75 (And.intro A95 (And.intro I5 (And.intro T5 (And.intro oo5 (And.intro rr5 (And.intro Be5 own5))))))))
  clear k05 k15 A75 A85 A95 I5 T5 oo5 rr5 Be5 own5
  go_upto_region 9 with (go_at_call 21; refine K21.out.mono ?_; rintro e w7 ⟨rfl, G, cap, a', y1, y2, y3, y4, y5, y6, y7⟩)
  obtain ⟨k15, A75, A95, I5, T5, oo5, rr5, Be5, own5⟩ := HQ.out
  replace y6 : Only (RB :: sv.ownBlock.toList) w5 w7 := ⟨y6.os, y6.tape, y6.output, y6.size, y6.block⟩
  replace y7 : Rest w5 w7 RB [8] := y7
  have y3' : sv.ownBlock = some G ∨ w5.heap.size ≤ G := y3
  have lR5 : RB < w5.heap.size := Nat.lt_of_lt_of_le lR oo5.size
  have nK : w.heap.size ∉ RB :: sv.ownBlock.toList := by
    simp only [List.mem_cons, not_or]
    refine ⟨nKR, fun hb => ?_⟩
    have := own_lt HX.out.1.own (show sv.ownBlock = some w.heap.size by simpa using hb)
    omega
  have nMp : ∀ b, (∃ es c, w5.heap[b]? = some (Obj.map es c)) → b ≠ RB → b ∉ RB :: sv.ownBlock.toList := fun b hm hb => by
    simp only [List.mem_cons, not_or]
    refine ⟨hb, fun hb' => ?_⟩
    obtain ⟨c, hc⟩ := own_isRow own5 (show sv.ownBlock = some b by simpa using hb')
    exact row_not_map hm hc rfl
  have k17 := (y6.cell (p := ⟨w.heap.size, 1, none⟩) lz5 nK).trans k15
  have I7 := I5.of_block (y6.block S I5.lt (nMp S (isMap_inn I5) nRS.symm))
  have T7 := T5.of_block (y6.block M T5.lt (nMp M (isMap_tb T5) nRM.symm))
  have A77 := y7.at A75 (by decide)
  have A97 := y7.at A95 (by decide)
  have lR7 : RB < w7.heap.size := Nat.lt_of_lt_of_le lR5 y6.size
  obtain ⟨w8, hrun, I8, gr8⟩ := I7.put p HX.out.2.len X (by unfold maxLen; omega)
  have o8 : Only [S] w7 w8 := Only.of_grown gr8
  have nRS' : RB ∉ [S] := by simpa using nRS
  obtain ⟨c7, f7⟩ := A77.only o8 nRS'
  have A98 := A97.only o8 nRS'
  have T8 := T7.of_block (o8.block M T7.lt (by simpa using fun e => SM e.symm))
  have nGS : G ≠ S := by
    obtain ⟨_, _, f', hrow, _⟩ := y1.row
    obtain ⟨cc', hcc', _⟩ := hrow
    exact row_not_map (isMap_inn I7) hcc'
  have y18 : Hw w8 RB G (n + 1) cap a' := ⟨y1.ne, y1.at8.only o8 nRS', y1.row.only o8 (by simpa using nGS)⟩
  obtain ⟨cc, hcc⟩ : ∃ cc, cc = cnt al m.ne := ⟨_, rfl⟩
  rw [← hcc] at c7
  have hc3 : (cc : Int) ≤ 300 := by have := cnt_le al m.ne; omega
  have HZ := hidn (And.intro hcc (And.intro y18 (And.intro T8 (And.intro I8 (And.intro A98 (And.intro gr8 (And.intro o8 (And.intro y6 (And.intro y7 (And.intro y2 (And.intro y4 y5)))))))))))
  clear y1 y2 y3 y3' y4 y5 y6 y7 y18 T8 I8 A98 gr8 o8 T7 I7 A77 A97 hcc k15 A75 A95 I5 T5 oo5 rr5 Be5 own5
  go_wp2
  go_end0
  obtain ⟨hcc, y18, T8, I8, A98, gr8, o8, y6, y7, y2, y4, y5⟩ := HZ.out
  obtain ⟨k15, A75, A95, I5, T5, oo5, rr5, Be5, own5⟩ := HQ.out
  obtain ⟨x, z⟩ := HX.out
  have os : Only (S :: M :: RB :: sv.ownBlock.toList) w8 (w8.setCell ⟨RB, 7, none⟩ (.int .i64 ((cc : Int) + 1))) := (Only.refl _ _).setCell (by simp) _
  have rs := Rest.set w8 RB 7 (.int .i64 ((cc : Int) + 1))
  have bl : ∀ b, b ≠ RB → (w8.setCell ⟨RB, 7, none⟩ (.int .i64 ((cc : Int) + 1))).heap[b]? = w8.heap[b]? := fun b hb => Below.heap_setCell _ _ _ _ (fun e => hb e)
  have oo : Only (S :: M :: RB :: sv.ownBlock.toList) w (w8.setCell ⟨RB, 7, none⟩ (.int .i64 ((cc : Int) + 1))) := (oo5.mono (by simp)).trans ((y6.mono (fun k hk => by simp at hk ⊢; rcases hk with h | h <;> simp [h])).trans ((o8.mono (by simp)).trans os))
  have rr : Rest w (w8.setCell ⟨RB, 7, none⟩ (.int .i64 ((cc : Int) + 1))) RB [7, 8, 9] := (rr5.mono (by simp)).trans ((y7.mono (by simp)).trans ((Rest.of_block (o8.block RB lR7 nRS')).trans (rs.mono (by simp))))
  obtain ⟨ru, ce⟩ := x.add_new z hB bS SM gS hkB ⟨_, by split <;> omega, T8.of_block (bl M nRM.symm)⟩ ⟨_, by split <;> omega, I8.of_block (bl S nRS.symm)⟩ (rs.at y18.at8 (by decide)) (own_of_hr (y18.row.of_block (bl G y18.ne.symm)) y2) (by simpa [Value.ownBlock] using y18.ne.symm) y5 y4 oo rr ⟨by rw [← hcc]; go_simp, by go_simp⟩ (rs.at A98 (by decide))
  have lB := x.bsR
  have z5 := oo5.size
  have z7 := y6.size
  refine ⟨rfl, ru, ce, Be5.trans ((y6.below (by omega) (fun k hk => ?_)).trans ((grown_below gr8 bs (by omega) (fun k hk => by cases hk; exact bS)).setCell (by show bs ≤ RB; exact lB) _))⟩
  simp only [List.mem_cons] at hk
  rcases hk with rfl | hk
  · exact lB
  · have hk' : sv.ownBlock = some k := by simpa using hk
    have ho := x.own
    obtain ⟨_, h1⟩ := ho
    rcases h1 with ⟨rfl, _⟩ | ⟨g', cap', cur, rfl, hb, _⟩
    · cases hk'
    · obtain rfl : g' = k := by simpa [Value.ownBlock] using hk'
      exact hb

end Go.Proofs.YbulkcmgaFmt
