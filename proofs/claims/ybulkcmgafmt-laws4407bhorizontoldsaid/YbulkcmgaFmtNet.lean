import Derived.Test.YbulkcmgaFmtQueue
namespace Go.Proofs.YbulkcmgaFmt
open Go Go.RowKit Go.Extern.Stop Go.Stop Go.Extern

/-- The network, the holders and the rule that the call meets. -/
structure Net (w : World) (NB H S R Q LN LD L cap nn k i : Nat) (x lat count relay relays : Int) : Prop where
  o1 : S < R
  o2 : R < Q
  o3 : Q < LD
  o4 : LD < LN
  o5 : LN < NB
  o6 : NB < H
  o7 : H < w.heap.size
  lat : w.cell? ⟨NB, 0, none⟩ = some (.int .i64 lat)
  rules : w.cell? ⟨NB, 1, none⟩ = some (.slice (some ⟨R, 0, none⟩) nn nn)
  events : At w NB 3 (.slice none 0 0)
  pushed : At w NB 4 (.int .u64 0)
  obs : w.cell? ⟨NB, 5, none⟩ = some (obsV LN LD)
  decs : At w NB 6 (.slice none 0 0)
  nodes : w.cell? ⟨H, 0, none⟩ = some (.slice (some ⟨S, 0, none⟩) L cap)
  count : At w H 1 (.int .i64 count)
  relay : At w H 2 (.int .i64 relay)
  relays : At w H 3 (.int .i64 relays)
  word : At w S k (.int .u64 x)
  rule : w.cell? ⟨R, i, none⟩ = some (.pointer (some ⟨Q, 0, none⟩))
  zero : Zero w Q
  logN : At w LN 0 (.slice none 0 0)
  logD : At w LD 0 (.slice none 0 0)

variable {w : World} {NB H S R Q LN LD L cap nn k i : Nat} {x lat count relay relays : Int}

theorem Net.below {w' : World} (n : Net w NB H S R Q LN LD L cap nn k i x lat count relay relays) (b : Below w.heap.size w w') : Net w' NB H S R Q LN LD L cap nn k i x lat count relay relays := by
  obtain ⟨o1, o2, o3, o4, o5, o6, o7, a1, a2, a3, a4, a5, a6, a7, a8, a9, a10, a11, a12, a13, a14, a15⟩ := n
  have hN : NB < w.heap.size := by omega
  have hR : R < w.heap.size := by omega
  exact ⟨o1, o2, o3, o4, o5, o6, Nat.lt_of_lt_of_le o7 b.size, (b.cell (p := ⟨NB, 0, none⟩) hN).trans a1, (b.cell (p := ⟨NB, 1, none⟩) hN).trans a2, a3.below b hN, a4.below b hN, (b.cell (p := ⟨NB, 5, none⟩) hN).trans a5, a6.below b hN,
    (b.cell (p := ⟨H, 0, none⟩) o7).trans a7, a8.below b o7, a9.below b o7, a10.below b o7, a11.below b (by omega), (b.cell (p := ⟨R, i, none⟩) hR).trans a12, a13.below b (by omega), a14.below b (by omega), a15.below b (by omega)⟩

set_option maxHeartbeats 2000000 in
set_option maxRecDepth 100000 in
theorem recv_held (t round : Int) (p b : ByteArray) (s : Nat) (hi : i < 300) (hk : k = i / 64) (hs : s = i % 64) (hL : k < L) (n : Net w NB H S R Q LN LD L cap nn k i x lat count relay relays) (hb : tst x s = true) :
    Calls Ybaf.prog 7 #[.pointer (some ⟨NB, 0, none⟩), .int .i64 i, .int .i64 t, .agg (rcC round p b).toArray, .pointer (some ⟨H, 0, none⟩)] w fun e w' => e = .returned .nilIface ∧ Below w.heap.size w w' := by
  have B1 := (Below.refl _ w).alloc (Nat.le_refl _) (.cells (rcC round p b).toArray 54)
  have N1 := n.below B1
  unfold rcC at *
  clear n
  go_enter Ybaf.func7, Ybaf.ntmps7
  go_upto_region 1 with (fail)
  generalize w.alloc _ = w1 at B1 N1 ⊢
  have K := hidn (has_is i k s hi S L cap x w1 hk hs hL N1.word.cell)
  rw [hb] at K
  have h0 := N1.nodes
  have HB := hidn B1
  clear N1 B1 hk hs hb
  go_wp2_with (go_at_call 15; refine K.out.mono ?_; rintro e w2 ⟨rfl, q, rfl⟩)
  go_ret
  exact ⟨rfl, below_drewN HB.out q⟩

set_option maxHeartbeats 2000000 in
set_option maxRecDepth 100000 in
theorem recv_neg (F : Interp) (t round : Int) (p b : ByteArray) (s : Nat) (hi : i < 300) (hk : k = i / 64) (hs : s = i % 64) (hL : k < L) (hin : i < nn) (n : Net w NB H S R Q LN LD L cap nn k i x lat count relay relays) (hb : tst x s = false) (ht : t < 0) (hF : F.answers w.tape) :
    Calls Ybaf.prog 7 #[.pointer (some ⟨NB, 0, none⟩), .int .i64 i, .int .i64 t, .agg (rcC round p b).toArray, .pointer (some ⟨H, 0, none⟩)] w fun e w' => (∃ v, e = .returned (.iface 109 v)) ∧ Below w.heap.size w w' := by
  have B1 := (Below.refl _ w).alloc (Nat.le_refl _) (.cells (rcC round p b).toArray 54)
  have N1 := n.below B1
  have R1 : Has (w.alloc (.cells (rcC round p b).toArray 54)) w.heap.size 54 (rcC round p b) := ⟨_, heap_alloc_new w _, by simp⟩
  unfold rcC at *
  clear n
  go_enter Ybaf.func7, Ybaf.ntmps7
  go_upto_region 1 with (fail)
  generalize w.alloc _ = w1 at B1 N1 R1 ⊢
  have K := hidn (has_is i k s hi S L cap x w1 hk hs hL N1.word.cell)
  rw [hb] at K
  have h0 := N1.nodes
  have HN := hidn N1
  have HR := hidn R1
  have HB := hidn B1
  clear N1 B1 R1 hk hs hb
  go_upto_region 3 with (go_at_call 15; refine K.out.mono ?_; rintro e w2 ⟨rfl, q, rfl⟩)
  have N2 : Net (w1.drewN q) NB H S R Q LN LD L cap nn k i x lat count relay relays := HN.out.below (below_drewN (Below.refl _ _) q)
  have R2 : Has (w1.drewN q) w.heap.size 54 _ := HR.out
  have B2 := below_drewN HB.out q
  clear HN HR HB h0 K
  generalize w1.drewN q = w2 at N2 R2 B2 ⊢
  have r0 : w2.cell? ⟨w.heap.size, 0, none⟩ = some (.int .u64 round) := R2.cell 0 rfl
  have r1 : w2.cell? ⟨w.heap.size, 1, none⟩ = some (.string p) := R2.cell 1 rfl
  have r2 : w2.cell? ⟨w.heap.size, 2, none⟩ = some (.string b) := R2.cell 2 rfl
  have r3 : w2.cell? ⟨w.heap.size, 3, none⟩ = some (.slice none 0 0) := R2.cell 3 rfl
  have r4 : w2.cell? ⟨w.heap.size, 4, none⟩ = some (.bool true) := R2.cell 4 rfl
  have n1 := N2.rules
  have n2 := N2.rule
  have n3 := N2.decs.cell
  have lR := R2.lt
  have lN : NB < w2.heap.size := N2.events.lt
  have lR' : R < w2.heap.size := World.block_lt_of_cell? w2 ⟨R, i, none⟩ n2
  have SK : Hid (∀ W, Below w2.heap.size w2 W → W.cell? ⟨NB, 1, none⟩ = some (.slice (some ⟨R, 0, none⟩) nn nn) ∧ W.cell? ⟨R, i, none⟩ = some (.pointer (some ⟨Q, 0, none⟩)) ∧ W.cell? ⟨NB, 6, none⟩ = some (.slice none 0 0) ∧ W.cell? ⟨w.heap.size, 0, none⟩ = some (.int .u64 round) ∧ W.cell? ⟨w.heap.size, 1, none⟩ = some (.string p) ∧ W.cell? ⟨w.heap.size, 2, none⟩ = some (.string b) ∧ W.cell? ⟨w.heap.size, 3, none⟩ = some (.slice none 0 0) ∧ W.cell? ⟨w.heap.size, 4, none⟩ = some (.bool true)) := fun W hW =>
    ⟨(hW.cell (p := ⟨NB, 1, none⟩) lN).trans n1, (hW.cell (p := ⟨R, i, none⟩) lR').trans n2, (hW.cell (p := ⟨NB, 6, none⟩) lN).trans n3, (hW.cell (p := ⟨w.heap.size, 0, none⟩) lR).trans r0, (hW.cell (p := ⟨w.heap.size, 1, none⟩) lR).trans r1, (hW.cell (p := ⟨w.heap.size, 2, none⟩) lR).trans r2, (hW.cell (p := ⟨w.heap.size, 3, none⟩) lR).trans r3, (hW.cell (p := ⟨w.heap.size, 4, none⟩) lR).trans r4⟩
  have K16 := hidn (ar_no F Q t round p b ht w2.drew (by show F.answers w2.tape; rw [B2.tape]; exact hF) (N2.below (Below.refl _ w2).drew).zero)
  unfold rcC at K16
  have HB := hidn B2
  clear N2 B2 R2
  go_cut [11, 12] (fun s11 s12 wd => ∃ X sx, s11 = .slice none 0 0 ∧ s12 = .iface 122 (.pointer (some ⟨X, 0, none⟩)) ∧ wd.cell? ⟨X, 0, none⟩ = some (.string sx) ∧ Below w2.heap.size w2 wd)
  case first =>
    go_region_held3 (fun W => W.cell? ⟨NB, 1, none⟩ = some (.slice (some ⟨R, 0, none⟩) nn nn) ∧ W.cell? ⟨R, i, none⟩ = some (.pointer (some ⟨Q, 0, none⟩)) ∧ W.cell? ⟨NB, 6, none⟩ = some (.slice none 0 0) ∧ W.cell? ⟨w.heap.size, 0, none⟩ = some (.int .u64 round) ∧ W.cell? ⟨w.heap.size, 1, none⟩ = some (.string p) ∧ W.cell? ⟨w.heap.size, 2, none⟩ = some (.string b) ∧ W.cell? ⟨w.heap.size, 3, none⟩ = some (.slice none 0 0) ∧ W.cell? ⟨w.heap.size, 4, none⟩ = some (.bool true))
      (first | exact SK.out _ (by assumption) | exact SK.out _ (Below.refl _ _).drew | assumption)
      ((go_at_call 16; refine K16.out.mono ?_; rintro e w4 ⟨X, sx, rfl, y1, y2⟩; replace y2 : Below w2.heap.size w2 w4 := (Below.refl _ w2).drew.trans y2))
    all_goals go_wp2
    all_goals go_meet
    all_goals exact ⟨X, sx, rfl, rfl, y1, y2⟩
  case rest =>
    obtain ⟨X, sx, rfl, rfl, y1, y2⟩ := hcut
    rename World => w4
    clear SK K16 r0 r1 r2 r3 r4 n1 n2 n3
    have hX : X < w4.heap.size := World.block_lt_of_cell? w4 ⟨X, 0, none⟩ y1
    have B4 := HB.out.trans (y2.mono HB.out.size)
    have B5 := B4.alloc B4.size (.cells #[.iface 3 (.int .i64 i), .iface 122 (.pointer (some ⟨X, 0, none⟩))] 20)
    have KW := hidn (errorf_w F w4.heap.size 2 i ⟨X, 0, none⟩ sx (w4.alloc (.cells #[.iface 3 (.int .i64 i), .iface 122 (.pointer (some ⟨X, 0, none⟩))] 20)) (by rw [B5.tape]; exact hF) (by go_simp) (by go_simp) (by go_simp))
    have HB5 := hidn B5
    clear B4 B5
    go_wp2_with (go_at_call 17; refine KW.out.mono ?_; rintro e w5 ⟨v, rfl, z1⟩)
    go_ret
    exact ⟨⟨v, rfl⟩, HB5.out.trans (z1.mono HB5.out.size)⟩

end Go.Proofs.YbulkcmgaFmt
