import Derived.Test.YbulkcmekFmtRawCard
import Derived.Test.YbulkcmekFmtRec
import Derived.Deep.Slices
namespace Go.Proofs.YbulkcmekFmt
open Go.ChangeShapes Go.WideShapes Go.ChangeAt Go.WideMaps Go.WideElems Go.RowKit
open Go.Extern.Stop Go.Stop Go.Extern

theorem cells26 : Ybaf.prog.cellsOf 26 = 4 := by kernel_rfl
theorem cells23 : Ybaf.prog.cellsOf 23 = 1 := by kernel_rfl
theorem cells24 : Ybaf.prog.cellsOf 24 = 1 := by kernel_rfl

set_option maxRecDepth 100000 in
theorem rec_long {big : Bool} {ao : Option Addr} {n rc : Nat} {cut : Int} {w : World} (hn : 1024 < n) : Calls Ybaf.prog 3 #[.slice ao n rc, .bool big, .int .u32 cut] w fun e w' => e = .returned (.bool true) ∧ Below w.heap.size w w' := by
  have hn' : (1024 : Int) < (n : Int) := by omega
  go_enter Ybaf.func3, Ybaf.ntmps3
  go_wp2
  go_ret
  exact ⟨rfl, Below.refl _ _⟩

/-- A slice of bytes, as the reader hands it over. -/
theorem bytes_read {H : Type} {enc : TypeId × Value → H} {W : World} {base fuel : Nat} {v : Value} {x : DataW H × List MemPlace} (h : DataW.trod enc Ybaf.prog W base (fun _ => true) true fuel 24 [v] = some x) :
    ∃ (a : Option Addr) (l c : Nat) (Y : Nat → Int), v = .slice a l c ∧ l ≤ c ∧ Byt Y ∧ Bytes W a l Y := by
  rcases open_ints Ybaf.underlying24 Ybaf.underlying5 cells5 h with ⟨hcs, _⟩ | ⟨a, l, c, zs, hcs, _, hl, hm, hz, _, hcell, hwz⟩
  · exact ⟨none, 0, 0, fun _ => 0, by simpa using hcs, Nat.le_refl _, fun _ => ⟨show (0 : Int) ≤ 0 by decide, show (0 : Int) ≤ 255 by decide⟩, fun h => absurd h (by omega)⟩
  · have hz' : zs.length = c := by simpa using hz
    exact ⟨some a, l, c, fun i => zs.getD i 0, by simpa using hcs, hl, byt_list hwz, bytes_of (by omega) hcell⟩

set_option maxRecDepth 100000 in
/-- One record, as the reader hands it over. -/
theorem rec_read {H : Type} {enc : TypeId × Value → H} {W : World} {base fuel : Nat} {cs : List Value} {x : DataW H × List MemPlace} (hl : cs.length = 4) (h : DataW.trod enc Ybaf.prog W base (fun _ => true) true fuel 26 cs = some x) :
    ∃ q : (Int × Int × Int) × (Option Addr × Nat × Nat) × (Nat → Int), cs = [.int .u32 q.1.1, .int .u32 q.1.2.1, .int .u32 q.1.2.2, .slice q.2.1.1 q.2.1.2.1 q.2.1.2.2] ∧ (0 ≤ q.1.1 ∧ q.1.1 < 4294967296) ∧ (0 ≤ q.1.2.1 ∧ q.1.2.1 < 4294967296) ∧ (0 ≤ q.1.2.2 ∧ q.1.2.2 < 4294967296) ∧
      q.2.1.2.1 ≤ q.2.1.2.2 ∧ Byt q.2.2 ∧ Bytes W q.2.1.1 q.2.1.2.1 q.2.2 := by
  obtain ⟨xs, k, _, _, _, hxl, hf⟩ := DataW.trod_struct Ybaf.underlying26 h
  match xs, hxl, cs, hl with
  | [e0, e1, e2, e3], _, [v0, v1, v2, v3], _ =>
    have g0 := hf 0 _ rfl
    have g1 := hf 1 _ rfl
    have g2 := hf 2 _ rfl
    have g3 := hf 3 _ rfl
    simp [cells23, cells24] at g0 g1 g2 g3
    obtain ⟨n0, h0, _, w0⟩ := DataW.trod_int Ybaf.underlying23 g0
    obtain ⟨n1, h1, _, w1⟩ := DataW.trod_int Ybaf.underlying23 g1
    obtain ⟨n2, h2, _, w2⟩ := DataW.trod_int Ybaf.underlying23 g2
    obtain ⟨a, l, c, Y, h3, k1, k2, k3⟩ := bytes_read g3
    have b0 := bounds_u32 w0
    have b1 := bounds_u32 w1
    have b2 := bounds_u32 w2
    simp only [List.cons.injEq, and_true] at h0 h1 h2
    subst h0 h1 h2 h3
    exact ⟨((n0, n1, n2), (a, l, c), Y), rfl, ⟨b0.1, Int.lt_of_le_of_lt b0.2 (by decide)⟩, ⟨b1.1, Int.lt_of_le_of_lt b1.2 (by decide)⟩, ⟨b2.1, Int.lt_of_le_of_lt b2.2 (by decide)⟩, k1, k2, k3⟩

/-- The records, as the reader hands them over. -/
theorem recs_read {H : Type} {enc : TypeId × Value → H} {W : World} {fuel len cap : Nat} {a : Option Addr} {x : DataW H × List MemPlace} (h : DataW.trod enc Ybaf.prog W 0 (fun _ => true) true fuel 22 [.slice a len cap] = some x) :
    ∃ sec fr og da dl dc dy, Recs W len a sec fr og da dl dc dy := by
  rcases Deep.open_slice Ybaf.underlying22 h with ⟨hcs, _⟩ | ⟨ad, l, c, m, n, D, Pl, hcs, _, hl, hm, hmm, _, hx⟩
  · simp at hcs
    obtain ⟨rfl, rfl, rfl⟩ := hcs
    exact ⟨fun _ => 0, fun _ => 0, fun _ => 0, fun _ => none, fun _ => 0, fun _ => 0, fun _ _ => 0, fun h => absurd h (by omega), fun i h => absurd h (by omega), fun _ => ⟨by decide, by decide⟩, fun _ => ⟨by decide, by decide⟩, fun _ => ⟨by decide, by decide⟩, fun _ _ => ⟨show (0 : Int) ≤ 0 by decide, show (0 : Int) ≤ 255 by decide⟩, fun i h => absurd h (by omega)⟩
  · simp at hcs
    obtain ⟨rfl, rfl, rfl⟩ := hcs
    have hm' : m = cap := by simpa using hmm
    have each : ∀ i, i < len → ∃ q : (Int × Int × Int) × (Option Addr × Nat × Nat) × (Nat → Int), (W.cell? (ad.add (i * 4)) = some (.int .u32 q.1.1) ∧ W.cell? (ad.add (i * 4 + 1)) = some (.int .u32 q.1.2.1) ∧ W.cell? (ad.add (i * 4 + 2)) = some (.int .u32 q.1.2.2) ∧ W.cell? (ad.add (i * 4 + 3)) = some (.slice q.2.1.1 q.2.1.2.1 q.2.1.2.2)) ∧
        (0 ≤ q.1.1 ∧ q.1.1 < 4294967296) ∧ (0 ≤ q.1.2.1 ∧ q.1.2.1 < 4294967296) ∧ (0 ≤ q.1.2.2 ∧ q.1.2.2 < 4294967296) ∧ q.2.1.2.1 ≤ q.2.1.2.2 ∧ Byt q.2.2 ∧ Bytes W q.2.1.1 q.2.1.2.1 q.2.2 := fun i hi => by
      obtain ⟨cs', h1, h2⟩ := hx i (by omega)
      rw [cells26] at h1
      obtain ⟨_, hlen, hcell⟩ := World.cells?_some h1
      obtain ⟨q, rfl, hq⟩ := rec_read hlen h2
      have e0 := hcell 0 (by omega)
      have e1 := hcell 1 (by omega)
      have e2 := hcell 2 (by omega)
      have e3 := hcell 3 (by omega)
      rw [Deep.add_add] at e0 e1 e2 e3
      exact ⟨q, ⟨e0, e1, e2, e3⟩, hq⟩
    obtain ⟨f, hf⟩ := Deep.choose_lt each
    refine ⟨fun i => if i < len then (f i).1.1 else 0, fun i => if i < len then (f i).1.2.1 else 0, fun i => if i < len then (f i).1.2.2 else 0, fun i => (f i).2.1.1, fun i => (f i).2.1.2.1, fun i => (f i).2.1.2.2, fun i => if i < len then (f i).2.2 else fun _ => 0, fun h0 => ?_, fun i hi => (hf i hi).2.2.2.2.1, fun i => ?_, fun i => ?_, fun i => ?_, fun i => ?_, fun i hi => ?_⟩
    · obtain ⟨b, off, spot⟩ := ad
      have c0 := (hf 0 h0).1.1
      have hspot : spot = none := by simpa [Addr.add] using World.cell?_spot c0
      subst hspot
      refine ⟨b, off, rfl, cell_lt (p := (⟨b, off, none⟩ : Addr).add (0 * 4)) (by rw [c0]; rfl), fun i hi => ?_⟩
      obtain ⟨k0, k1, k2, k3⟩ := (hf i hi).1
      rw [Addr.add_mid] at k0 k1 k2 k3
      simp only [if_pos hi]
      exact ⟨k0, k1, k2, k3⟩
    · by_cases hi : i < len
      · simp only [if_pos hi]; exact (hf i hi).2.1
      · simp only [if_neg hi]; decide
    · by_cases hi : i < len
      · simp only [if_pos hi]; exact (hf i hi).2.2.1
      · simp only [if_neg hi]; decide
    · by_cases hi : i < len
      · simp only [if_pos hi]; exact (hf i hi).2.2.2.1
      · simp only [if_neg hi]; decide
    · by_cases hi : i < len
      · simp only [if_pos hi]; exact (hf i hi).2.2.2.2.2.1
      · simp only [if_neg hi]; exact fun _ => ⟨show (0 : Int) ≤ 0 by decide, show (0 : Int) ≤ 255 by decide⟩
    · simp only [if_pos hi]; exact (hf i hi).2.2.2.2.2.2

namespace records

set_option maxRecDepth 100000 in
theorem lifted (os : Os) (started : os.Started) (H : Type) (enc : TypeId × Value → H) :
    ReturnsInTold none {} Ybaf.checked os 3 .any Input.okWide ((OpenSpec.ofChange Rows.lawS4404ARecordsSpec).preRow enc Ybaf.prog Ybaf.f3 [] false laid4) (fun F => ((OpenSpec.ofChange Rows.lawS4404ARecordsSpec).at F).post enc Ybaf.prog Ybaf.f3 false true false false) (aloneAtReturn Ybaf.prog) nothingAlways := by
  refine returnsInTold_of_row (C := Ybaf.checked) (s := OpenSpec.ofChange Rows.lawS4404ARecordsSpec) (by kernel_rfl) own started (by kernel_rfl) Ybaf.func3
    (OpenSpec.witness_stopped_at (enc := enc) (C := Ybaf.checked) false (World.laidAll Ybaf.prog os laid4) #[.slice none 0 0, .bool false, .int .u32 0] rfl (by kernel_rfl) (by kernel_rfl) (by kernel_rfl)
      (OpenSpec.preRow_of_B rfl 8 (by kernel_rfl) (by kernel_rfl) (laid_met os _))) ?_
  intro F W base args ds gs before _ hF hval0 hW _ _ _ hL _
  have hval : ∀ (j : Nat) t v, Ybaf.f3.params[j]? = some t → args[j]? = some v → Value.okWide Ybaf.prog W .any base t v := hval0
  have hW' := hW
  obtain ⟨p, q, hA0, hV0, rfl, hfz, hnd⟩ := hW
  have hA : DataW.TrodAll enc Ybaf.prog W 0 (fun _ => true) true Ybaf.f3.params.toList args.toList ds p := hA0
  have hV : DataW.TrodVars enc Ybaf.prog W (fun _ => true) [truncName] gs q := hV0
  rw [Ybaf.params3] at hA hval
  obtain ⟨v0, vs0, d0, ds0, p0, q0, hargs, rfl, rfl, h0, r0⟩ := trodAll_cons hA
  obtain ⟨v1, vs1, d1, ds1, p1, q1, rfl, rfl, rfl, h1, r1⟩ := trodAll_cons r0
  obtain ⟨v2, vs2, d2, ds2, p2, q2, rfl, rfl, rfl, h2, r2⟩ := trodAll_cons r1
  obtain ⟨rfl, rfl, rfl⟩ := trodAll_nil r2
  obtain rfl : args = #[v0, v1, v2] := by cases args; simp_all
  obtain ⟨ea, ua, ta, s, hv, E, G⟩ := sentinels hL hF
  obtain ⟨rfl, rfl⟩ := hV.unique (vars_read1 enc gT gTType Ybaf.underlying32 hv trivial _)
  obtain ⟨a0, len0, cap0, rfl⟩ := okWide_slice Ybaf.underlying22 (hval 0 22 v0 rfl rfl)
  have k0 := h0
  have lt0 : ∀ x ∈ p0, x.block < W.heap.size := by obtain ⟨m, hm⟩ := k0; exact DataW.trod_lt m _ _ _ hm
  obtain ⟨sec, fr, og, da, dl, dc, dy, hR⟩ : ∃ sec fr og da dl dc dy, Recs W len0 a0 sec fr og da dl dc dy := by
    obtain ⟨fuel, hf⟩ := h0
    exact recs_read hf
  obtain ⟨b1, rfl, rfl, rfl⟩ := open_bool Ybaf.underlying4 (hval 1 4 v1 rfl rfl) h1
  obtain ⟨cut, rfl, rfl, rfl, wc⟩ := open_int Ybaf.underlying23 (hval 2 23 v2 rfl rfl) h2
  clear hA0 hV0 hval0
  have bc := bounds_u32 wc
  have law : Calls Ybaf.prog 3 #[.slice a0 len0 cap0, .bool b1, .int .u32 cut] W fun e w' => e = .returned (.bool true) ∧ Below W.heap.size W w' := by
    by_cases hN : len0 ≤ 1024
    · exact rec_law E G hR hN ⟨bc.1, by omega⟩
    · exact rec_long (by omega)
  refine law.mono fun e W' ⟨he, bel⟩ => ?_
  subst he
  exact ⟨_, rfl, _, _, _, [], _, [.cell 1 0], hW', trodAll_mk1 (shut_bool Ybaf.underlying4 _), (trodAll_cons_mk (Below.trod laidOut (by kernel_rfl) (of_decide_eq_true (by kernel_rfl)) k0 bel lt0) (trodAll_cons_mk (shut_bool Ybaf.underlying4 _) (trodAll_cons_mk (shut_int Ybaf.underlying23 wc) trodAll_mk0))), vars_read1 enc gT gTType Ybaf.underlying32 (var_below bel gT (by have := E.b7; omega) hv) trivial _, bel.frame _, fun h => by cases h⟩

end records

theorem recordsCard : Rows.LawS4404ARecordsToldSaid :=
  Claim7.holds_of_told_tied_any_at .later 3 Ybaf.f3 "fmt.errorf" [] [] _ _ _ _ _ (by kernel_rfl) rfl rfl rfl laidOut (by kernel_rfl) rfl ⟨rfl, rfl, rfl, rfl, rfl, rfl, rfl⟩ rfl rfl (by kernel_rfl) (by kernel_rfl) Ybaf.func3 (by kernel_rfl)
    (of_decide_eq_true (by kernel_rfl)) (of_decide_eq_true (by kernel_rfl)) stopsOf.symm rfl stopKnobsOf.symm (by kernel_rfl)
    (by kernel_rfl) (by kernel_rfl) (by kernel_rfl) (by kernel_rfl) (by kernel_rfl) (by kernel_rfl) (by kernel_rfl) (by kernel_rfl) (by kernel_rfl) rfl (by kernel_rfl) rfl rfl
    rfl rfl
    rfl (by kernel_rfl) (by kernel_rfl) (by kernel_rfl) (by decide) (by kernel_rfl) lawS4404ARecords_row_tie
    (OpenClaim.moreEntering_of (by kernel_rfl) (by kernel_rfl) (by kernel_rfl) (by kernel_rfl) (by kernel_rfl) (by kernel_rfl) (by kernel_rfl) (by kernel_rfl) (by kernel_rfl) (by kernel_rfl))
    ⟨_, WideRow.started_initial, quietOf _⟩
    (fun os started _ H enc _ => records.lifted os started H enc)

end Go.Proofs.YbulkcmekFmt
