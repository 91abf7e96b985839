import Derived.Test.YbulkcmekDoorRows
import Derived.Test.YbulkcmekDoorTie
import Derived.Test.YbulkcmekDoorCards
import Derived.Test.YbulkcmekDoorLaw
import Derived.ProofKit
import Derived.LaidMore
import Derived.Lay
import Derived.OpenShut
import Derived.Stop.Joined
import Derived.SevenTiedAt
namespace Go.Proofs.YbulkcmekDoor
open Go.ChangeShapes Go.WideShapes Go.ChangeAt Go.WideMaps Go.WideElems Go.RowKit

theorem own : ownKnob Ybad.prog.godebug = none := by kernel_rfl
theorem tZ4 : (Ybad.prog.globals[1]?).map (·.type) = some 31 := by kernel_rfl

theorem cells31 : Ybad.prog.cellsOf 31 = 1 := by kernel_rfl
theorem cells29 : Ybad.prog.cellsOf 29 = 1 := by kernel_rfl
theorem cells5 : Ybad.prog.cellsOf 5 = 1 := by kernel_rfl
theorem laidOut : laidOutB Ybad.prog = true := by kernel_rfl

/-- A handle's cell: one pointer. -/
theorem handle_cell {H : Type} {enc : TypeId × Value → H} {W : World} {base : Nat} {spare : Nat → Bool} {held : Bool} {fuel : Nat} {cs : List Value} {x : DataW H × List MemPlace}
    (h : DataW.trod enc Ybad.prog W base spare held fuel 31 cs = some x) : ∃ z, cs = [.pointer z] := by
  obtain ⟨y0, n, _, hl, h0⟩ := trod_struct1 Ybad.underlying31 h
  rw [cells31] at hl
  match cs, hl with
  | [c], _ =>
    rcases DataW.trod_pointer Ybad.underlying29 h0 with ⟨e, _⟩ | ⟨a, _, _, _, _, e, _⟩
    · exact ⟨none, by simpa [cells29] using e⟩
    · exact ⟨some a, by simpa [cells29] using e⟩

namespace bmodel

theorem door_met (os : Os) (args : Array Value) : laidMetH Ybad.prog Rows.lawS4404BModelRow.laid ((World.laidAll Ybad.prog os Rows.lawS4404BModelRow.laid).forCall (fun _ _ => 0) ⟨#[], args, []⟩).memory :=
  laidMetH_of_parts3 (fuel := 8) (laidMet_of_run' 8 (by kernel_rfl) (by kernel_rfl)) (by kernel_rfl) (by kernel_rfl)

theorem of_laid {W : World} (h : laidMetH Ybad.prog Rows.lawS4404BModelRow.laid W) : ∃ z, W.cell? ⟨1, 0, none⟩ = some (.pointer z) := by
  rw [MakeChecks.laidMetH_plain _ _ _ (by kernel_rfl)] at h
  obtain ⟨ps, ⟨g0, t0, cs0, f0, p0, q0, hg0, ht0, hv0, hd0, _, _⟩, _, _⟩ := h
  obtain rfl : 1 = g0 := Option.some.inj (Eq.trans (Eq.symm (by kernel_rfl)) hg0)
  obtain rfl := Option.some.inj (tZ4.symm.trans ht0)
  obtain ⟨z, hz⟩ := handle_cell hd0
  have := World.var?_cell hg0 hv0 0
  rw [Array.eq_one_of_toList hz] at this
  exact ⟨z, by simpa using this⟩

/-- What the walk asks of the slice, out of what the reader hands over. -/
theorem seen_of {W : World} {a : Addr} {len : Nat} {zs : List Int} (hl : len ≤ zs.length) (hcell : ∀ i, i < zs.length → W.cell? (a.add i) = some (.int .u8 (zs.getD i 0))) : Seen W (some a) len (fun i => zs.getD i 0) := by
  intro h0
  have c0 := hcell 0 (by omega)
  obtain ⟨b, off, spot⟩ := a
  have hspot : spot = none := by simpa [Addr.add] using World.cell?_spot c0
  subst hspot
  refine ⟨b, off, rfl, block_lt_of_cell c0, fun i hi => ?_⟩
  rw [← add_plain]
  exact hcell i (by omega)

theorem byt_of {zs : List Int} (h : ∀ z ∈ zs, (Lit.int .u8 z).wf = true) : Byt (fun i => zs.getD i 0) := fun i => by
  by_cases hi : i < zs.length
  · have := bounds_u8 (h (zs.getD i 0) (by rw [List.getD_eq_getElem?_getD, List.getElem?_eq_getElem hi]; simp))
    exact this
  · show 0 ≤ zs.getD i 0 ∧ zs.getD i 0 ≤ 255
    rw [List.getD_eq_getElem?_getD, List.getElem?_eq_none (by omega)]
    decide

set_option maxRecDepth 100000 in
theorem lifted (os : Os) (started : os.Started) (H : Type) (enc : TypeId × Value → H) :
    ReturnsInHanded {} Ybad.checked os 3 .any (fun w args => (Rows.lawS4404BModelSpec.pre enc Ybad.prog Ybad.f3 [] false w args ∧ laidMetH Ybad.prog Rows.lawS4404BModelRow.laid w) ∧ sizedMet enc Ybad.prog Ybad.f3 (OpenSpec.ofChange Rows.lawS4404BModelSpec) false w args)
      (Rows.lawS4404BModelSpec.post enc Ybad.prog Ybad.f3 false true false false) := by
  refine returnsInHanded_of_change_and (C := Ybad.checked) (X := fun w _ => laidMetH Ybad.prog Rows.lawS4404BModelRow.laid w) (fun _ _ _ hh h => h.of_heap hh) own started (by kernel_rfl) Ybad.func3
    (ChangeSpec.witness_shaped (enc := enc) (C := Ybad.checked) (os := os) (X := fun w _ => laidMetH Ybad.prog Rows.lawS4404BModelRow.laid w) false (World.laidAll Ybad.prog os Rows.lawS4404BModelRow.laid) #[.slice none 0 0, .int .u8 0, .int .u8 0, .int .u8 0] 8 rfl (World.shaped_of_RefB (by kernel_rfl) (by kernel_rfl)) (by kernel_rfl) (by kernel_rfl) (by kernel_rfl) (door_met os _)) ?_
  intro W base args ds gs before hval0 hW _ _ hL _
  have hval : ∀ (j : Nat) t v, Ybad.f3.params[j]? = some t → args[j]? = some v → Value.okWide Ybad.prog W .any base t v := hval0
  have hW' := hW
  obtain ⟨p, q, hA0, hV, rfl, hfz, hnd⟩ := hW
  have hA : DataW.TrodAll enc Ybad.prog W 0 (fun _ => true) true Ybad.f3.params.toList args.toList ds p := hA0
  rw [Ybad.params3] at hA hval
  obtain ⟨v0, vs0, d0, ds0, p0, q0, hargs, rfl, rfl, h0, r0⟩ := trodAll_cons hA
  obtain ⟨v1, vs1, d1, ds1, p1, q1, rfl, rfl, rfl, h1, r1⟩ := trodAll_cons r0
  obtain ⟨v2, vs2, d2, ds2, p2, q2, rfl, rfl, rfl, h2, r2⟩ := trodAll_cons r1
  obtain ⟨v3, vs3, d3, ds3, p3, q3, rfl, rfl, rfl, h3, r3⟩ := trodAll_cons r2
  obtain ⟨rfl, rfl, rfl⟩ := trodAll_nil r3
  obtain rfl : args = #[v0, v1, v2, v3] := by cases args; simp_all
  obtain ⟨rfl, rfl⟩ := trodVars_none hV
  obtain ⟨a0, len0, cap0, rfl⟩ := okWide_slice Ybad.underlying22 (hval 0 22 v0 rfl rfl)
  have k0 := h0
  have lt0 : ∀ x ∈ p0, x.block < W.heap.size := by obtain ⟨m, hm⟩ := k0; exact DataW.trod_lt m _ _ _ hm
  obtain ⟨Y, hY, hS⟩ : ∃ Y, Byt Y ∧ Seen W a0 len0 Y := by
    obtain ⟨fuel, hf⟩ := h0
    rcases open_ints Ybad.underlying22 Ybad.underlying5 cells5 hf with ⟨hcs, _⟩ | ⟨x, l, c, zs, hcs, _, hl, hm, hz, _, hcell, hwz⟩
    · simp [Value.cells] at hcs
      obtain ⟨rfl, rfl, rfl⟩ := hcs
      exact ⟨fun _ => 0, byt0, fun h => absurd h (by omega)⟩
    · simp [Value.cells] at hcs
      obtain ⟨rfl, rfl, rfl⟩ := hcs
      have hz' : zs.length = cap0 := by simpa using hz
      exact ⟨fun i => zs.getD i 0, byt_of hwz, seen_of (by omega) hcell⟩
  obtain ⟨a1, rfl, rfl, rfl, w1⟩ := open_int Ybad.underlying5 (hval 1 5 v1 rfl rfl) h1
  obtain ⟨a2, rfl, rfl, rfl, w2⟩ := open_int Ybad.underlying5 (hval 2 5 v2 rfl rfl) h2
  obtain ⟨a3, rfl, rfl, rfl, w3⟩ := open_int Ybad.underlying5 (hval 3 5 v3 rfl rfl) h3
  obtain ⟨z, hz⟩ := of_laid hL
  clear hA0 hval0
  refine (law_total a0 len0 cap0 Y hY a1 a2 a3 (bounds_u8 w1) (bounds_u8 w2) (bounds_u8 w3) W hS z hz (block_lt_of_cell hz)).mono fun e W' ⟨he, bel⟩ => ?_
  subst he
  exact ⟨_, rfl, _, _, _, [], _, [], hW', trodAll_mk1 (shut_bool Ybad.underlying4 _), (trodAll_cons_mk (Below.trod laidOut (by kernel_rfl) (of_decide_eq_true (by kernel_rfl)) k0 bel lt0) (trodAll_cons_mk (shut_int Ybad.underlying5 w1) (trodAll_cons_mk (shut_int Ybad.underlying5 w2) (trodAll_cons_mk (shut_int Ybad.underlying5 w3) trodAll_mk0)))), rfl, bel.frame _, fun h => by cases h⟩

theorem row_holds : Rows.LawS4404BModelSaid :=
  OpenClaim.holds_of_wide 3 Ybad.f3 rfl rfl rfl rfl rfl rfl rfl ⟨rfl, rfl, rfl, rfl, rfl⟩ rfl rfl rfl rfl rfl (by kernel_rfl) Ybad.func3 (by kernel_rfl)
    (of_decide_eq_true (by kernel_rfl)) (by unfold Func.isWrapper; first | (rw [if_pos (by decide +kernel)]; kernel_rfl) | (rw [if_neg (by decide +kernel)]; exact ⟨rfl, rfl⟩))
    (fun os started H enc _ => lifted os started H enc)

/-- THE TIED CARD. -/
theorem card_holds : Rows.LawS4404BModelCardSaid :=
  Claim7.holds_tied_plain_at .later [] [.called] true (true, "a386ed42fb9c517c60a4361a7ea1e318aaa3926e02693a4f9eda3e8364df9d11") false
    row_holds (fun _ h => by cases h) (by kernel_rfl) (fun _ h => by cases h) lawS4404BModel_row_tie rfl ⟨rfl, rfl⟩ (by kernel_rfl) rfl
    (fun f fn hf hfn => by
      obtain rfl : f = 3 := Option.some.inj ((show Ybad.prog.funcNamed Rows.lawS4404BModelRow.func = some 3 by kernel_rfl).symm.trans hf) |>.symm
      obtain rfl : fn = Ybad.f3 := (Option.some.inj (Ybad.func3.symm.trans hfn)).symm
      exact ⟨by kernel_rfl, fun j t ht => by
        rw [Ybad.params3] at ht
        have hm : t ∈ [22, 5, 5, 5] := by simpa using Array.mem_of_getElem? ht
        have hall : ([22, 5, 5, 5].all fun u => !Ybad.prog.wantsStandIn u) = true := by kernel_rfl
        exact (show Ybad.prog.wantsStandIn t = false by simpa using List.all_eq_true.1 hall t hm)⟩)
    (by kernel_rfl)

end bmodel

/-- THE STATEMENT. -/
theorem bmodelCard : Rows.LawS4404BModelCardSaid := bmodel.card_holds

end Go.Proofs.YbulkcmekDoor
