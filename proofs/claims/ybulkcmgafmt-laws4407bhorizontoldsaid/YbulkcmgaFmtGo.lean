import Derived.Test.YbulkcmgaFmtNet
namespace Go.Proofs.YbulkcmgaFmt
open Go Go.RowKit Go.Extern.Stop Go.Stop Go.Extern

/-- What every accepted receipt leaves. -/
structure Done (w w' : World) (NB H S Q LN LD k i s : Nat) (x t round count : Int) (p b : ByteArray) : Prop where
  only : Only [NB, H, S, Q, LN, LD] w w'
  logN : ∃ g, w.heap.size ≤ g ∧ One w' LN 0 3 g [.int .i64 i]
  logD : ∃ g, w.heap.size ≤ g ∧ One w' LD 0 45 g (decC t 4 round p b)
  decs : ∃ g, w.heap.size ≤ g ∧ One w' NB 6 45 g (decC t 4 round p b)
  word : w'.cell? ⟨S, k, none⟩ = some (.int .u64 (ori x s))
  rest : Rest w w' S [k]
  nodes : w'.cell? ⟨H, 0, none⟩ = w.cell? ⟨H, 0, none⟩
  count : w'.cell? ⟨H, 1, none⟩ = some (.int .i64 (wrap64 (count + 1)))

theorem One.only {T : List Nat} {w w' : World} {L o e g : Nat} {xs : List Value} (h : One w L o e g xs) (k : Only T w w') (hL : L ∉ T) (hg : g ∉ T) : One w' L o e g xs := by
  obtain ⟨⟨cap, h1⟩, h2⟩ := h
  exact ⟨⟨cap, (k.cell (p := ⟨L, o, none⟩) (World.block_lt_of_cell? w ⟨L, o, none⟩ h1) hL).trans h1⟩, h2.only k hg⟩

theorem Done.more {w w8 w9 : World} {NB H S Q LN LD k i s : Nat} {x t round count : Int} {p b : ByteArray} (d : Done w w8 NB H S Q LN LD k i s x t round count p b) (o1 : S < LD) (o4 : LD < LN) (o5 : LN < NB) (o6 : NB < H) (o7 : H < w.heap.size)
    (o : Only [NB, H] w8 w9) (rN : Rest w8 w9 NB [3, 4]) (rH : Rest w8 w9 H [2, 3]) : Done w w9 NB H S Q LN LD k i s x t round count p b := by
  obtain ⟨a1, ⟨g1, l1, a2⟩, ⟨g2, l2, a3⟩, ⟨g3, l3, ⟨c3, a4⟩, a5⟩, a6, a7, a8, a9⟩ := d
  have s8 := a1.size
  have qS : S ∉ [NB, H] := by simp; omega
  refine ⟨a1.trans (o.mono (by simp)), ⟨g1, l1, a2.only o (by simp; omega) (by simp; omega)⟩, ⟨g2, l2, a3.only o (by simp; omega) (by simp; omega)⟩, ⟨g3, l3, ⟨c3, (rN 6 (by decide)).1.trans a4⟩, a5.only o (by simp; omega)⟩,
    (o.cell (p := ⟨S, k, none⟩) (by show S < _; omega) qS).trans a6, a7.trans (Rest.of_block (o.block S (by omega) qS)), (rH 0 (by decide)).1.trans a8, (rH 1 (by decide)).1.trans a9⟩

variable {w : World} {NB H S R Q LN LD L cap nn k i : Nat} {x lat count relay relays : Int}

set_option maxHeartbeats 4000000 in
set_option maxRecDepth 100000 in
theorem recv_go (F : Interp) (t round : Int) (p b : ByteArray) (s : Nat) (hi : i < 300) (hk : k = i / 64) (hs : s = i % 64) (hL : k < L) (hin : i < nn) (n : Net w NB H S R Q LN LD L cap nn k i x lat count relay relays) (hb : tst x s = false) (ht : 0 ≤ t ∧ t ≤ 9223372036854775807) (hlat : 0 ≤ lat ∧ lat ≤ 9223372036854775807) (hF : F.answers w.tape) :
    Calls Ybaf.prog 7 #[.pointer (some ⟨NB, 0, none⟩), .int .i64 i, .int .i64 t, .agg (rcC round p b).toArray, .pointer (some ⟨H, 0, none⟩)] w fun e w' => Done w w' NB H S Q LN LD k i s x t round count p b ∧
      ((9223372036854775807 - lat < t ∧ (∃ v, e = .returned (.iface 122 v)) ∧ At w' H 2 (.int .i64 relay) ∧ At w' H 3 (.int .i64 relays) ∧ At w' NB 3 (.slice none 0 0) ∧ At w' NB 4 (.int .u64 0))
      ∨ (t ≤ 9223372036854775807 - lat ∧ relay = t + lat ∧ e = .returned .nilIface ∧ At w' H 2 (.int .i64 relay) ∧ At w' H 3 (.int .i64 relays) ∧ At w' NB 3 (.slice none 0 0) ∧ At w' NB 4 (.int .u64 0))
      ∨ (t ≤ 9223372036854775807 - lat ∧ relay ≠ t + lat ∧ e = .returned .nilIface ∧ w'.cell? ⟨H, 2, none⟩ = some (.int .i64 (t + lat)) ∧ w'.cell? ⟨H, 3, none⟩ = some (.int .i64 (wrap64 (relays + 1))) ∧ (∃ g, One w' NB 3 66 g (evC (t + lat) 0 round p b)) ∧ w'.cell? ⟨NB, 4, none⟩ = some (.int .u64 1))) := by
  have B1 := (Below.refl _ w).alloc (Nat.le_refl _) (.cells (rcC round p b).toArray 54)
  have N1 := n.below B1
  have R1 : Has (w.alloc (.cells (rcC round p b).toArray 54)) w.heap.size 54 (rcC round p b) := ⟨_, heap_alloc_new w _, by simp⟩
  have HW := hidn n
  have HT := hidn ht
  have HLat := hidn hlat
  have HK := hidn (And.intro hk hs)
  unfold rcC at *
  clear n ht hlat
  go_enter Ybaf.func7, Ybaf.ntmps7
  go_upto_region 1 with (fail)
  generalize w.alloc _ = w1 at B1 N1 R1 ⊢
  have K := hidn (has_is i k s hi S L cap x w1 hk hs hL N1.word.cell)
  rw [hb] at K
  have h0 := N1.nodes
  have HN := hidn N1
  have HR := hidn R1
  have HB := hidn B1
  clear N1 B1 R1 hk hs hb
  go_upto_region 3 with (go_at_call 15; refine K.out.mono ?_; rintro e w2 ⟨rfl, q, rfl⟩)
  have N2 : Net (w1.drewN q) NB H S R Q LN LD L cap nn k i x lat count relay relays := HN.out.below (below_drewN (Below.refl _ _) q)
  have R2 : Has (w1.drewN q) w.heap.size 54 _ := HR.out
  have B2 := below_drewN HB.out q
  clear HN HR HB h0 K
  generalize w1.drewN q = w2 at N2 R2 B2 ⊢
  have r0 : w2.cell? ⟨w.heap.size, 0, none⟩ = some (.int .u64 round) := R2.cell 0 rfl
  have r1 : w2.cell? ⟨w.heap.size, 1, none⟩ = some (.string p) := R2.cell 1 rfl
  have r2 : w2.cell? ⟨w.heap.size, 2, none⟩ = some (.string b) := R2.cell 2 rfl
  have r3 : w2.cell? ⟨w.heap.size, 3, none⟩ = some (.slice none 0 0) := R2.cell 3 rfl
  have r4 : w2.cell? ⟨w.heap.size, 4, none⟩ = some (.bool true) := R2.cell 4 rfl
  have n1 := N2.rules
  have n2 := N2.rule
  have n3 := N2.decs.cell
  have lR := R2.lt
  have lN : NB < w2.heap.size := N2.events.lt
  have lR' : R < w2.heap.size := World.block_lt_of_cell? w2 ⟨R, i, none⟩ n2
  have o1 := HW.out.o1
  have o2 := HW.out.o2
  have o3 := HW.out.o3
  have o4 := HW.out.o4
  have o5 := HW.out.o5
  have o6 := HW.out.o6
  have o7 := HW.out.o7
  have q1 : NB ∉ [Q] := by simp; omega
  have q2 : R ∉ [Q] := by simp; omega
  have q3 : w.heap.size ∉ [Q] := by simp; omega
  have SK : Hid (∀ W, Only [Q] w2 W → W.cell? ⟨NB, 1, none⟩ = some (.slice (some ⟨R, 0, none⟩) nn nn) ∧ W.cell? ⟨R, i, none⟩ = some (.pointer (some ⟨Q, 0, none⟩)) ∧ W.cell? ⟨NB, 6, none⟩ = some (.slice none 0 0) ∧ W.cell? ⟨w.heap.size, 0, none⟩ = some (.int .u64 round) ∧ W.cell? ⟨w.heap.size, 1, none⟩ = some (.string p) ∧ W.cell? ⟨w.heap.size, 2, none⟩ = some (.string b) ∧ W.cell? ⟨w.heap.size, 3, none⟩ = some (.slice none 0 0) ∧ W.cell? ⟨w.heap.size, 4, none⟩ = some (.bool true)) := fun W hW =>
    ⟨(hW.cell (p := ⟨NB, 1, none⟩) lN q1).trans n1, (hW.cell (p := ⟨R, i, none⟩) lR' q2).trans n2, (hW.cell (p := ⟨NB, 6, none⟩) lN q1).trans n3, (hW.cell (p := ⟨w.heap.size, 0, none⟩) lR q3).trans r0, (hW.cell (p := ⟨w.heap.size, 1, none⟩) lR q3).trans r1, (hW.cell (p := ⟨w.heap.size, 2, none⟩) lR q3).trans r2, (hW.cell (p := ⟨w.heap.size, 3, none⟩) lR q3).trans r3, (hW.cell (p := ⟨w.heap.size, 4, none⟩) lR q3).trans r4⟩
  have K16 := hidn (ar_ok Q t round p b HT.out w2.drew (N2.below (Below.refl _ w2).drew).zero)
  unfold rcC at K16
  have HB := hidn B2
  have HN := hidn N2
  have HR := hidn R2
  have HO := hidn (And.intro o1 (And.intro o2 (And.intro o3 (And.intro o4 (And.intro o5 (And.intro o6 o7))))))
  clear N2 B2 R2 o1 o2 o3 o4 o5 o6 o7 q1 q2 q3
  go_cut [11, 12] (fun s11 s12 wd => ∃ g c3, s11 = .slice (some ⟨g, 0, none⟩) 1 c3 ∧ s12 = .nilIface ∧ w2.heap.size ≤ g ∧ Has wd g 45 (decC t 4 round p b) ∧ Only [Q] w2 wd)
  case first =>
    go_region_held3 (fun W => W.cell? ⟨NB, 1, none⟩ = some (.slice (some ⟨R, 0, none⟩) nn nn) ∧ W.cell? ⟨R, i, none⟩ = some (.pointer (some ⟨Q, 0, none⟩)) ∧ W.cell? ⟨NB, 6, none⟩ = some (.slice none 0 0) ∧ W.cell? ⟨w.heap.size, 0, none⟩ = some (.int .u64 round) ∧ W.cell? ⟨w.heap.size, 1, none⟩ = some (.string p) ∧ W.cell? ⟨w.heap.size, 2, none⟩ = some (.string b) ∧ W.cell? ⟨w.heap.size, 3, none⟩ = some (.slice none 0 0) ∧ W.cell? ⟨w.heap.size, 4, none⟩ = some (.bool true))
      (first | exact SK.out _ (by assumption) | exact SK.out _ (Only.refl _ _).drew | assumption)
      ((go_at_call 16; refine K16.out.mono ?_; rintro e w4 ⟨g, c3, rfl, y0, y1, y2⟩; replace y2 : Only [Q] w2 w4 := (Only.refl _ w2).drew.trans y2))
    all_goals go_wp2
    all_goals go_meet
    all_goals exact ⟨g, c3, rfl, rfl, y0, y1, y2⟩
  case rest =>
    obtain ⟨g, c3, rfl, rfl, y0, y1, y2⟩ := hcut
    rename World => w4
    clear SK K16 r0 r1 r2 r3 r4 n1 n2 n3
    obtain ⟨o1, o2, o3, o4, o5, o6, o7⟩ := HO.out
    have s2 := HB.out.size
    have s4 := y2.size
    have lg := y1.lt
    have gL := y0
    have z6 := HN.out.decs.only y2 (by simp; omega)
    obtain ⟨z6, z6'⟩ := z6
    have HY := hidn (And.intro y0 (And.intro y1 y2))
    clear y0 y1 y2
    go_upto_region 7 with (fail)
    have A5 : Only [Q, NB] w2 (w4.setCell ⟨NB, 6, none⟩ (.slice (some ⟨g, 0, none⟩) 1 c3)) := (HY.out.2.2.mono (by simp)).setCell (by simp) _
    have r5 : Rest w2 (w4.setCell ⟨NB, 6, none⟩ (.slice (some ⟨g, 0, none⟩) 1 c3)) NB [6] := (Rest.of_block (HY.out.2.2.block NB lN (by simp; omega))).trans (Rest.set _ _ _ _)
    have D5 : (w4.setCell ⟨NB, 6, none⟩ (.slice (some ⟨g, 0, none⟩) 1 c3)).cell? ⟨NB, 6, none⟩ = some (.slice (some ⟨g, 0, none⟩) 1 c3) := by go_simp
    have G5 : Has (w4.setCell ⟨NB, 6, none⟩ (.slice (some ⟨g, 0, none⟩) 1 c3)) g 45 (decC t 4 round p b) := HY.out.2.1.only ((Only.refl [NB] w4).setCell (by simp) _) (by simp; omega)
    generalize w4.setCell ⟨NB, 6, none⟩ (.slice (some ⟨g, 0, none⟩) 1 c3) = w5 at A5 r5 D5 G5 ⊢
    have s5 := A5.size
    have K18 := hidn (emit_is NB LN LD g c3 i t round p b w5 (by omega) (HN.out.logN.only A5 (by simp; omega)) (HN.out.logD.only A5 (by simp; omega)) ((r5 5 (by decide)).1.trans HN.out.obs) G5)
    have H5 := hidn (And.intro A5 (And.intro r5 (And.intro D5 G5)))
    clear A5 r5 D5 G5 z6 z6'
    go_upto_region 8 with (go_at_call 18; refine K18.out.mono ?_; rintro e w6 ⟨rfl, g1, g2, v1, v2, v3, v4, v5⟩)
    obtain ⟨A5, r5, D5, G5⟩ := H5.out
    have A6 : Only [Q, NB, LN, LD] w2 w6 := (A5.mono (S' := [Q, NB, LN, LD]) (by simp)).trans (v5.mono (S' := [Q, NB, LN, LD]) (by simp))
    have lN5 : NB < w5.heap.size := Nat.lt_of_lt_of_le lN s5
    have r6 : Rest w2 w6 NB [6] := r5.trans (Rest.of_block (v5.block NB lN5 (by simp; omega)))
    have D6 : w6.cell? ⟨NB, 6, none⟩ = some (.slice (some ⟨g, 0, none⟩) 1 c3) := (v5.cell (p := ⟨NB, 6, none⟩) lN5 (by simp; omega)).trans D5
    have G6 : Has w6 g 45 (decC t 4 round p b) := G5.only v5 (by simp; omega)
    have s6 := A6.size
    have qH : H ∉ [Q, NB, LN, LD] := by simp; omega
    have qS : S ∉ [Q, NB, LN, LD] := by simp; omega
    have lH2 : H < w2.heap.size := by omega
    have c0 := (A6.cell (p := ⟨H, 0, none⟩) lH2 qH).trans HN.out.nodes
    have C1 := HN.out.count.only A6 qH
    have C2 := HN.out.relay.only A6 qH
    have C3 := HN.out.relays.only A6 qH
    have X6 := HN.out.word.only A6 qS
    have lg1 := v1.2.lt
    have lg2 := v2.2.lt
    have K19 := hidn (add_is i k s hi S L cap x w6 HK.out.1 HK.out.2 hL X6.1 X6.2)
    have H6 := hidn (And.intro A6 (And.intro r6 (And.intro D6 (And.intro G6 (And.intro C1 (And.intro C2 (And.intro C3 (And.intro v1 (And.intro v2 (And.intro v3 v4))))))))))
    clear A5 r5 D5 G5 v1 v2 v3 v4 v5 A6 r6 D6 G6 C1 C2 C3 X6 H5 K18
    go_upto_region 9 with (go_at_call 19; refine K19.out.mono ?_; rintro e w7 ⟨rfl, q7, rfl⟩)
    obtain ⟨A6, r6, D6, G6, C1, C2, C3, v1, v2, v3, v4⟩ := H6.out
    have X6 := HN.out.word.only A6 qS
    have x6 := X6.1
    have A7 : Only [Q, NB, LN, LD, S] w2 ((w6.drewN q7).setCell ⟨S, k, none⟩ (.int .u64 (ori x s))) := ((A6.mono (by simp)).drewN q7).setCell (by simp) _
    have a67 : Only [S] w6 ((w6.drewN q7).setCell ⟨S, k, none⟩ (.int .u64 (ori x s))) := ((Only.refl [S] w6).drewN q7).setCell (by simp) _
    have X7 : ((w6.drewN q7).setCell ⟨S, k, none⟩ (.int .u64 (ori x s))).cell? ⟨S, k, none⟩ = some (.int .u64 (ori x s)) := by
      have : (w6.drewN q7).cell? ⟨S, k, none⟩ = some (.int .u64 x) := x6
      go_simp
    have lS2 : S < w2.heap.size := by omega
    have R7 : Rest w2 ((w6.drewN q7).setCell ⟨S, k, none⟩ (.int .u64 (ori x s))) S [k] := (Rest.of_block (w' := w6.drewN q7) (A6.block S lS2 qS)).trans (Rest.set _ _ _ _)
    generalize (w6.drewN q7).setCell ⟨S, k, none⟩ (.int .u64 (ori x s)) = w7 at A7 a67 X7 R7 ⊢
    have s7 := a67.size
    have qH' : H ∉ [S] := by simp; omega
    have qN' : NB ∉ [S] := by simp; omega
    have lN6 : NB < w6.heap.size := Nat.lt_of_lt_of_le lN s6
    have lH6 : H < w6.heap.size := Nat.lt_of_lt_of_le lH2 s6
    have c07 := (a67.cell (p := ⟨H, 0, none⟩) lH6 qH').trans c0
    obtain ⟨c17, c17'⟩ := C1.only a67 qH'
    have C27 := C2.only a67 qH'
    have C37 := C3.only a67 qH'
    have r7 : Rest w2 w7 NB [6] := r6.trans (Rest.of_block (a67.block NB lN6 qN'))
    have D7 := (a67.cell (p := ⟨NB, 6, none⟩) lN6 qN').trans D6
    have G7 := G6.only a67 (by simp; omega)
    have V1 := v1.only a67 (by simp; omega) (by simp; omega)
    have V2 := v2.only a67 (by simp; omega) (by simp; omega)
    have H7 := hidn (And.intro A7 (And.intro X7 (And.intro R7 (And.intro C27 (And.intro C37 (And.intro r7 (And.intro D7 (And.intro G7 (And.intro V1 (And.intro V2 (And.intro v3 v4)))))))))))
    clear A6 r6 D6 G6 C1 C2 C3 v1 v2 v3 v4 X6 x6 A7 a67 X7 R7 C27 C37 r7 D7 G7 V1 V2 c0 K19 H6
    go_upto_region 10 with (fail)
    obtain ⟨A7, X7, R7, C27, C37, r7, D7, G7, V1, V2, v3, v4⟩ := H7.out
    have a78 : Only [H] w7 (w7.setCell ⟨H, 1, none⟩ (.int .i64 (wrap64 (count + 1)))) := (Only.refl [H] w7).setCell (by simp) _
    have R8 := Rest.set w7 H 1 (.int .i64 (wrap64 (count + 1)))
    have c18 : (w7.setCell ⟨H, 1, none⟩ (.int .i64 (wrap64 (count + 1)))).cell? ⟨H, 1, none⟩ = some (.int .i64 (wrap64 (count + 1))) := by go_simp
    generalize w7.setCell ⟨H, 1, none⟩ (.int .i64 (wrap64 (count + 1))) = w8 at a78 R8 c18 ⊢
    have s8 := a78.size
    have hw2 : Only [NB, H, S, Q, LN, LD] w w2 := Only.of_below HB.out
    have A8 : Only [NB, H, S, Q, LN, LD] w w8 := hw2.trans ((A7.mono (S' := [NB, H, S, Q, LN, LD]) (by simp)).trans (a78.mono (by simp)))
    have qN : NB ∉ [H] := by simp; omega
    have lN7 : NB < w7.heap.size := by omega
    have r8 : Rest w2 w8 NB [6] := r7.trans (Rest.of_block (a78.block NB lN7 qN))
    have lSw : S < w.heap.size := by omega
    have d8 : Done w w8 NB H S Q LN LD k i s x t round count p b :=
      ⟨A8, ⟨g1, by omega, V1.only a78 (by simp; omega) (by simp; omega)⟩, ⟨g2, by omega, V2.only a78 (by simp; omega) (by simp; omega)⟩, ⟨g, by omega, ⟨c3, (a78.cell (p := ⟨NB, 6, none⟩) lN7 qN).trans D7⟩, G7.only a78 (by simp; omega)⟩,
        (a78.cell (p := ⟨S, k, none⟩) (by show S < _; omega) (by simp; omega)).trans X7, ((Rest.of_block (HB.out.block S lSw)).trans R7).trans (Rest.of_block (a78.block S (by omega) (by simp; omega))), ((R8 0 (by decide)).1.trans c07).trans HW.out.nodes.symm, c18⟩
    have E2 := R8.at C27 (by decide)
    have E3 := R8.at C37 (by decide)
    have E4 := r8.at HN.out.events (by decide)
    have E5 := r8.at HN.out.pushed (by decide)
    have el := (r8 0 (by decide)).1.trans HN.out.lat
    have RC : Has w8 w.heap.size 54 _ := (HR.out.only A7 (by simp; omega)).only a78 (by simp; omega)
    have T8 : w8.tape = w.tape := A8.tape
    have H8 := hidn (And.intro d8 (And.intro E2 (And.intro E3 (And.intro E4 (And.intro E5 RC)))))
    have e2 := E2.1
    have e3 := E3.1
    have e2' := E2.2
    have e3' := E3.2
    have sw := A8.size
    clear A7 X7 R7 C27 C37 r7 D7 G7 V1 V2 v3 v4 a78 R8 c18 hw2 A8 r8 d8 E2 E3 E4 E5 RC c17 c17' c07 H7
    obtain ⟨t0, t1⟩ := HT.out
    obtain ⟨p0, p1⟩ := HLat.out
    have f1 : IntKind.i64.wrap (9223372036854775807 - lat) = 9223372036854775807 - lat := by unfold IntKind.wrap; simp [IntKind.bits, IntKind.signed]; omega
    by_cases hl : 9223372036854775807 - lat < t
    · have B9 := (Below.refl _ w8).alloc (Nat.le_refl _) (.cells #[.iface 3 (.int .i64 i), .iface 2 (.int .i64 t)] 20)
      have KE := hidn (errorf_r F w8.heap.size 2 i t (w8.alloc (.cells #[.iface 3 (.int .i64 i), .iface 2 (.int .i64 t)] 20)) (by rw [B9.tape, T8]; exact hF) (by go_simp) (by go_simp))
      have HB9 := hidn B9
      clear B9
      go_wp2_with (go_at_call 17; refine KE.out.mono ?_; rintro e w9 ⟨v, rfl, z1⟩)
      go_ret
      obtain ⟨d8, E2, E3, E4, E5, RC⟩ := H8.out
      have bb : Below w8.heap.size w8 w9 := HB9.out.trans (z1.mono HB9.out.size)
      exact ⟨d8.more (by omega) o4 o5 o6 o7 (Only.of_below bb) (Rest.of_block (bb.block NB E4.lt)) (Rest.of_block (bb.block H E2.lt)), .inl ⟨hl, ⟨v, rfl⟩, E2.below bb E2.lt, E3.below bb E3.lt, E4.below bb E4.lt, E5.below bb E5.lt⟩⟩
    · have hl' : t ≤ 9223372036854775807 - lat := by omega
      have f2 : IntKind.i64.wrap (t + lat) = t + lat := by unfold IntKind.wrap; simp [IntKind.bits, IntKind.signed]; omega
      by_cases hr : relay = t + lat
      · go_wp2
        go_ret
        obtain ⟨d8, E2, E3, E4, E5, RC⟩ := H8.out
        refine ⟨d8, Or.inr ?_⟩
        exact ⟨rfl, hr ▸ E2, E3, E4, E5⟩
      · have HH := hidn (And.intro hl' hr)
        go_upto_region 16 with (fail)
        obtain ⟨d8, E2, E3, E4, E5, RC⟩ := H8.out
        have a89 : Only [H] w8 ((w8.setCell ⟨H, 2, none⟩ (.int .i64 (t + lat))).setCell ⟨H, 3, none⟩ (.int .i64 (wrap64 (relays + 1)))) := ((Only.refl [H] w8).setCell (by simp) _).setCell (by simp) _
        have R9 : Rest w8 ((w8.setCell ⟨H, 2, none⟩ (.int .i64 (t + lat))).setCell ⟨H, 3, none⟩ (.int .i64 (wrap64 (relays + 1)))) H [2, 3] := ((Rest.set w8 H 2 (.int .i64 (t + lat))).mono (by simp)).trans ((Rest.set _ H 3 _).mono (by simp))
        have c29 : ((w8.setCell ⟨H, 2, none⟩ (.int .i64 (t + lat))).setCell ⟨H, 3, none⟩ (.int .i64 (wrap64 (relays + 1)))).cell? ⟨H, 2, none⟩ = some (.int .i64 (t + lat)) := by go_simp
        have c39 : ((w8.setCell ⟨H, 2, none⟩ (.int .i64 (t + lat))).setCell ⟨H, 3, none⟩ (.int .i64 (wrap64 (relays + 1)))).cell? ⟨H, 3, none⟩ = some (.int .i64 (wrap64 (relays + 1))) := by go_simp
        generalize (w8.setCell ⟨H, 2, none⟩ (.int .i64 (t + lat))).setCell ⟨H, 3, none⟩ (.int .i64 (wrap64 (relays + 1))) = w9 at a89 R9 c29 c39 ⊢
        have qN : NB ∉ [H] := by simp; omega
        have RC9 := RC.only a89 (by simp; omega)
        have r0 : w9.cell? ⟨w.heap.size, 0, none⟩ = some (.int .u64 round) := RC9.cell 0 rfl
        have r1 : w9.cell? ⟨w.heap.size, 1, none⟩ = some (.string p) := RC9.cell 1 rfl
        have r2 : w9.cell? ⟨w.heap.size, 2, none⟩ = some (.string b) := RC9.cell 2 rfl
        have r3 : w9.cell? ⟨w.heap.size, 3, none⟩ = some (.slice none 0 0) := RC9.cell 3 rfl
        have r4 : w9.cell? ⟨w.heap.size, 4, none⟩ = some (.bool true) := RC9.cell 4 rfl
        have H9 := hidn (And.intro d8 (And.intro (E4.only a89 qN) (And.intro (E5.only a89 qN) (And.intro a89 (And.intro R9 (And.intro c29 c39))))))
        have lN8 := E4.lt
        have lH8 := E2.lt
        have s9 := a89.size
        clear d8 E2 E3 E4 E5 RC a89 R9 c29 c39 RC9 H8 e2 e3 e2' e3'
        refine region_quiet_tail (C := fun W => ∃ q, W = w9.drewN q) 6 (by kernel_rfl) (by kernel_rfl) ⟨1, rfl⟩ ?_
        simp only [List.take_succ_cons, List.take_zero, List.drop_succ_cons, List.drop_zero]
        repeat (go_big_quiet_step (fail))
        refine wpQuiet_nil ?_
        rintro W ⟨q9, rfl⟩
        have K20 := hidn (push_is NB (t + lat) round p b (w9.drewN q9) H9.out.2.1 H9.out.2.2.1)
        unfold arC at K20
        clear r0 r1 r2 r3 r4
        go_wp2_with (go_at_call 20; refine K20.out.mono ?_; rintro e w10 ⟨rfl, g4, u1, u2, u3, u4, u5⟩)
        go_ret
        obtain ⟨d8, E4, E5, a89, R9, c29, c39⟩ := H9.out
        obtain ⟨hl', hr⟩ := HH.out
        have qH9 : H ∉ [NB] := by simp; omega
        have lH9 : H < (w9.drewN q9).heap.size := by show H < w9.heap.size; omega
        have a9 : Only [NB, H] w8 (w9.drewN q9) := (a89.mono (by simp)).drewN q9
        have R9' : Rest w8 (w9.drewN q9) H [2, 3] := R9
        have rN9 : Rest w8 (w9.drewN q9) NB [3, 4] := Rest.of_block (a89.block NB lN8 (by simp; omega))
        have rH9 : Rest (w9.drewN q9) w10 H [2, 3] := Rest.of_block (u4.block H lH9 qH9)
        refine ⟨d8.more (by omega) o4 o5 o6 o7 (a9.trans (u4.mono (by simp))) (rN9.trans u5) (R9'.trans rH9), ?_⟩
        have m2 : w10.cell? ⟨H, 2, none⟩ = some (.int .i64 (t + lat)) := (u4.cell (p := ⟨H, 2, none⟩) lH9 qH9).trans c29
        have m3 : w10.cell? ⟨H, 3, none⟩ = some (.int .i64 (wrap64 (relays + 1))) := (u4.cell (p := ⟨H, 3, none⟩) lH9 qH9).trans c39
        exact Or.inr (Or.inr ⟨hl', hr, rfl, m2, m3, ⟨g4, u1⟩, u2⟩)

end Go.Proofs.YbulkcmgaFmt
