import Derived.Test.YbulkcmekDoorRows
import Derived.Test.YbulkcmekDoorTie
import Derived.Test.YbulkcmekDoorCards
import Derived.Test.YbulkcmekDoorV4Law
import Derived.ProofKit
import Derived.LaidMore
import Derived.Lay
import Derived.OpenShut
import Derived.Stop.Joined
import Derived.SevenTiedAt
namespace Go.Proofs.YbulkcmekDoor
open Go.ChangeShapes Go.WideShapes Go.ChangeAt Go.WideMaps Go.WideElems Go.RowKit

namespace net
theorem own : ownKnob Ybad.prog.godebug = none := by kernel_rfl
theorem tZ4 : (Ybad.prog.globals[1]?).map (·.type) = some 31 := by kernel_rfl
theorem tZ0 : (Ybad.prog.globals[2]?).map (·.type) = some 31 := by kernel_rfl
theorem cells31 : Ybad.prog.cellsOf 31 = 1 := by kernel_rfl
theorem cells29 : Ybad.prog.cellsOf 29 = 1 := by kernel_rfl
theorem cells5 : Ybad.prog.cellsOf 5 = 1 := by kernel_rfl
theorem laidOut : laidOutB Ybad.prog = true := by kernel_rfl

/-- A handle's cell: one pointer; nil just where the datum is nil. -/
theorem handle_cell {H : Type} {enc : TypeId × Value → H} {W : World} {base : Nat} {spare : Nat → Bool} {held : Bool} {fuel : Nat} {cs : List Value} {x : DataW H} {p : List MemPlace}
    (h : DataW.trod enc Ybad.prog W base spare held fuel 31 cs = some (.agg [x], p)) : (cs = [.pointer none] ∧ x = .nil) ∨ (∃ a d, cs = [.pointer (some a)] ∧ x = .ptr d) := by
  obtain ⟨y0, n, hx, hl, h0⟩ := trod_struct1 Ybad.underlying31 h
  rw [cells31] at hl
  simp only [Prod.mk.injEq, DataW.agg.injEq, List.cons.injEq, and_true] at hx
  match cs, hl with
  | [c], _ =>
    rcases DataW.trod_pointer Ybad.underlying29 h0 with ⟨e, e'⟩ | ⟨a, _, y, _, _, e, e', _⟩
    · exact .inl ⟨by simpa [cells29] using e, by rw [hx.1, e']⟩
    · exact .inr ⟨a, y.1, by simpa [cells29] using e, by rw [hx.1, e']⟩

/-- What the row lists: z4, z6noz, z0. -/
abbrev laid3 : List (String × DataW Unit) := Rows.lawS4404CV4Row.laid

theorem of_laid {W : World} (h : laidMetH Ybad.prog laid3 W) : ∃ z, W.cell? ⟨1, 0, none⟩ = some (.pointer (some z)) ∧ W.cell? ⟨2, 0, none⟩ = some (.pointer none) := by
  rw [MakeChecks.laidMetH_plain _ _ _ (by kernel_rfl)] at h
  obtain ⟨ps, ⟨g0, t0, cs0, f0, p0, q0, hg0, ht0, hv0, hd0, ⟨g1, t1, cs1, f1, p1, q1, hg1, ht1, hv1, hd1, ⟨g2, t2, cs2, f2, p2, q2, hg2, ht2, hv2, hd2, _, _⟩, _⟩, _⟩, _, _⟩ := h
  obtain rfl : 1 = g0 := Option.some.inj (Eq.trans (Eq.symm (by kernel_rfl)) hg0)
  obtain rfl : 2 = g2 := Option.some.inj (Eq.trans (Eq.symm (by kernel_rfl)) hg2)
  obtain rfl := Option.some.inj (tZ4.symm.trans ht0)
  obtain rfl := Option.some.inj (tZ0.symm.trans ht2)
  have v0 := World.var?_cell hg0 hv0 0
  have v2 := World.var?_cell hg2 hv2 0
  rcases handle_cell hd0 with ⟨_, hx⟩ | ⟨a, d, hz, _⟩
  · cases hx
  · rcases handle_cell hd2 with ⟨hz2, _⟩ | ⟨a2, d2, _, hx2⟩
    · rw [Array.eq_one_of_toList hz] at v0
      rw [Array.eq_one_of_toList hz2] at v2
      exact ⟨a, by simpa using v0, by simpa using v2⟩
    · cases hx2

theorem door_met (os : Os) (args : Array Value) : laidMetH Ybad.prog laid3 ((World.laidAll Ybad.prog os laid3).forCall (fun _ _ => 0) ⟨#[], args, []⟩).memory :=
  laidMetH_of_parts3 (fuel := 8) (laidMet_of_run' 8 (by kernel_rfl) (by kernel_rfl)) (by kernel_rfl) (by kernel_rfl)

end net

namespace vfour
open net

set_option maxRecDepth 100000 in
theorem lifted (os : Os) (started : os.Started) (H : Type) (enc : TypeId × Value → H) :
    ReturnsInHanded {} Ybad.checked os 4 .any (fun w args => (Rows.lawS4404CV4Spec.pre enc Ybad.prog Ybad.f4 [] false w args ∧ laidMetH Ybad.prog Rows.lawS4404CV4Row.laid w) ∧ sizedMet enc Ybad.prog Ybad.f4 (OpenSpec.ofChange Rows.lawS4404CV4Spec) false w args)
      (Rows.lawS4404CV4Spec.post enc Ybad.prog Ybad.f4 false true false false) := by
  refine returnsInHanded_of_change_and (C := Ybad.checked) (X := fun w _ => laidMetH Ybad.prog Rows.lawS4404CV4Row.laid w) (fun _ _ _ hh h => h.of_heap hh) own started (by kernel_rfl) Ybad.func4
    (ChangeSpec.witness_shaped (enc := enc) (C := Ybad.checked) (os := os) (X := fun w _ => laidMetH Ybad.prog Rows.lawS4404CV4Row.laid w) false (World.laidAll Ybad.prog os laid3) #[.int .u8 0, .int .u8 0, .int .u8 0, .int .u8 0, .int .u8 0] 8 rfl (World.shaped_of_RefB (by kernel_rfl) (by kernel_rfl)) (by kernel_rfl) (by kernel_rfl) (by kernel_rfl) (door_met os _)) ?_
  intro W base args ds gs before hval0 hW _ _ hL _
  have hval : ∀ (j : Nat) t v, Ybad.f4.params[j]? = some t → args[j]? = some v → Value.okWide Ybad.prog W .any base t v := hval0
  have hW' := hW
  obtain ⟨p, q, hA0, hV, rfl, hfz, hnd⟩ := hW
  have hA : DataW.TrodAll enc Ybad.prog W 0 (fun _ => true) true Ybad.f4.params.toList args.toList ds p := hA0
  rw [Ybad.params4] at hA hval
  obtain ⟨v0, vs0, d0, ds0, p0, q0, hargs, rfl, rfl, h0, r0⟩ := trodAll_cons hA
  obtain ⟨v1, vs1, d1, ds1, p1, q1, rfl, rfl, rfl, h1, r1⟩ := trodAll_cons r0
  obtain ⟨v2, vs2, d2, ds2, p2, q2, rfl, rfl, rfl, h2, r2⟩ := trodAll_cons r1
  obtain ⟨v3, vs3, d3, ds3, p3, q3, rfl, rfl, rfl, h3, r3⟩ := trodAll_cons r2
  obtain ⟨v4, vs4, d4, ds4, p4, q4, rfl, rfl, rfl, h4, r4⟩ := trodAll_cons r3
  obtain ⟨rfl, rfl, rfl⟩ := trodAll_nil r4
  obtain rfl : args = #[v0, v1, v2, v3, v4] := by cases args; simp_all
  obtain ⟨rfl, rfl⟩ := trodVars_none hV
  obtain ⟨a0, rfl, rfl, rfl, w0⟩ := open_int Ybad.underlying5 (hval 0 5 v0 rfl rfl) h0
  obtain ⟨a1, rfl, rfl, rfl, w1⟩ := open_int Ybad.underlying5 (hval 1 5 v1 rfl rfl) h1
  obtain ⟨a2, rfl, rfl, rfl, w2⟩ := open_int Ybad.underlying5 (hval 2 5 v2 rfl rfl) h2
  obtain ⟨a3, rfl, rfl, rfl, w3⟩ := open_int Ybad.underlying5 (hval 3 5 v3 rfl rfl) h3
  obtain ⟨a4, rfl, rfl, rfl, w4⟩ := open_int Ybad.underlying5 (hval 4 5 v4 rfl rfl) h4
  obtain ⟨z, hz4, hz0⟩ := of_laid hL
  clear hA0 hval0
  refine (v4_law a0 a1 a2 a3 a4 (bounds_u8 w0) (bounds_u8 w1) (bounds_u8 w2) (bounds_u8 w3) (bounds_u8 w4) z W hz0 hz4 (cell_lt' (p := ⟨2, 0, none⟩) (by rw [hz0]; rfl))).mono fun e W' ⟨he, bel⟩ => ?_
  subst he
  exact ⟨_, rfl, _, _, _, [], _, [], hW', trodAll_mk1 (shut_bool Ybad.underlying4 _), (trodAll_cons_mk (shut_int Ybad.underlying5 w0) (trodAll_cons_mk (shut_int Ybad.underlying5 w1) (trodAll_cons_mk (shut_int Ybad.underlying5 w2) (trodAll_cons_mk (shut_int Ybad.underlying5 w3) (trodAll_cons_mk (shut_int Ybad.underlying5 w4) trodAll_mk0))))), rfl, bel.frame _, fun h => by cases h⟩

theorem row_holds : Rows.LawS4404CV4Said :=
  OpenClaim.holds_of_wide 4 Ybad.f4 rfl rfl rfl rfl rfl rfl rfl ⟨rfl, rfl, rfl, rfl, rfl⟩ rfl rfl rfl rfl rfl (by kernel_rfl) Ybad.func4 (by kernel_rfl)
    (of_decide_eq_true (by kernel_rfl)) (by unfold Func.isWrapper; first | (rw [if_pos (by decide +kernel)]; kernel_rfl) | (rw [if_neg (by decide +kernel)]; exact ⟨rfl, rfl⟩))
    (fun os started H enc _ => lifted os started H enc)

theorem card_holds : Rows.LawS4404CV4CardSaid :=
  Claim7.holds_tied_plain_at .later [] [.called, .called, .zero] true (true, "a386ed42fb9c517c60a4361a7ea1e318aaa3926e02693a4f9eda3e8364df9d11") false
    row_holds (fun _ h => by cases h) (by kernel_rfl) (fun _ h => by cases h) lawS4404CV4_row_tie rfl ⟨rfl, rfl⟩ (by kernel_rfl) rfl
    (fun f fn hf hfn => by
      obtain rfl : f = 4 := Option.some.inj ((show Ybad.prog.funcNamed Rows.lawS4404CV4Row.func = some 4 by kernel_rfl).symm.trans hf) |>.symm
      obtain rfl : fn = Ybad.f4 := (Option.some.inj (Ybad.func4.symm.trans hfn)).symm
      exact ⟨by kernel_rfl, fun j t ht => by
        rw [Ybad.params4] at ht
        have hm : t ∈ [5, 5, 5, 5, 5] := by simpa using Array.mem_of_getElem? ht
        have hall : ([5, 5, 5, 5, 5].all fun u => !Ybad.prog.wantsStandIn u) = true := by kernel_rfl
        exact (show Ybad.prog.wantsStandIn t = false by simpa using List.all_eq_true.1 hall t hm)⟩)
    (by kernel_rfl)

end vfour

/-- THE STATEMENT. -/
theorem vfourCard : Rows.LawS4404CV4CardSaid := vfour.card_holds

end Go.Proofs.YbulkcmekDoor
