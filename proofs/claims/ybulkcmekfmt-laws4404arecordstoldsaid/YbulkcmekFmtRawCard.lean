import Derived.Test.YbulkcmekFmtCardLib
import Derived.Test.YbulkcmekFmtRaw
namespace Go.Proofs.YbulkcmekFmt
open Go.ChangeShapes Go.WideShapes Go.ChangeAt Go.WideMaps Go.WideElems Go.RowKit
open Go.Extern.Stop Go.Stop Go.Extern

theorem raw_long {big : Bool} {ao : Option Addr} {N cap : Nat} {w : World} (hN : 1048576 < N) : Calls Ybaf.prog 4 #[.slice ao N cap, .bool big] w fun e w' => e = .returned (.bool true) ∧ Below w.heap.size w w' := by
  have hN' : (1048576 : Int) < (N : Int) := by omega
  go_enter Ybaf.func4, Ybaf.ntmps4
  go_wp2
  go_ret
  exact ⟨rfl, Below.refl _ _⟩

theorem bytes_of {W : World} {a : Addr} {len : Nat} {zs : List Int} (hl : len ≤ zs.length) (hcell : ∀ i, i < zs.length → W.cell? (a.add i) = some (.int .u8 (zs.getD i 0))) : Bytes W (some a) len (fun i => zs.getD i 0) := by
  intro h0
  have c0 := hcell 0 (by omega)
  obtain ⟨b, off, spot⟩ := a
  have hspot : spot = none := by simpa [Addr.add] using World.cell?_spot c0
  subst hspot
  refine ⟨b, off, rfl, cell_lt (p := ⟨b, off + 0, none⟩) (by rw [show W.cell? ⟨b, off + 0, none⟩ = _ from c0]; rfl), fun i hi => ?_⟩
  have := hcell i (by omega)
  rwa [Addr.add_mid] at this

theorem byt_list {zs : List Int} (h : ∀ z ∈ zs, (Lit.int .u8 z).wf = true) : Byt (fun i => zs.getD i 0) := fun i => by
  by_cases hi : i < zs.length
  · exact bounds_u8 (h (zs.getD i 0) (by rw [List.getD_eq_getElem?_getD, List.getElem?_eq_getElem hi]; simp))
  · show 0 ≤ zs.getD i 0 ∧ zs.getD i 0 ≤ 255
    rw [List.getD_eq_getElem?_getD, List.getElem?_eq_none (by omega)]
    decide

namespace raw

set_option maxRecDepth 100000 in
theorem lifted (os : Os) (started : os.Started) (H : Type) (enc : TypeId × Value → H) :
    ReturnsInTold none {} Ybaf.checked os 4 .any Input.okWide ((OpenSpec.ofChange Rows.lawS4404ARawSpec).preRow enc Ybaf.prog Ybaf.f4 [] false laid4) (fun F => ((OpenSpec.ofChange Rows.lawS4404ARawSpec).at F).post enc Ybaf.prog Ybaf.f4 false true false false) (aloneAtReturn Ybaf.prog) nothingAlways := by
  refine returnsInTold_of_row (C := Ybaf.checked) (s := OpenSpec.ofChange Rows.lawS4404ARawSpec) (by kernel_rfl) own started (by kernel_rfl) Ybaf.func4
    (OpenSpec.witness_stopped_at (enc := enc) (C := Ybaf.checked) false (World.laidAll Ybaf.prog os laid4) #[.slice none 0 0, .bool false] rfl (by kernel_rfl) (by kernel_rfl) (by kernel_rfl)
      (OpenSpec.preRow_of_B rfl 8 (by kernel_rfl) (by kernel_rfl) (laid_met os _))) ?_
  intro F W base args ds gs before _ hF hval0 hW _ _ _ hL _
  have hval : ∀ (j : Nat) t v, Ybaf.f4.params[j]? = some t → args[j]? = some v → Value.okWide Ybaf.prog W .any base t v := hval0
  have hW' := hW
  obtain ⟨p, q, hA0, hV0, rfl, hfz, hnd⟩ := hW
  have hA : DataW.TrodAll enc Ybaf.prog W 0 (fun _ => true) true Ybaf.f4.params.toList args.toList ds p := hA0
  have hV : DataW.TrodVars enc Ybaf.prog W (fun _ => true) [truncName] gs q := hV0
  rw [Ybaf.params4] at hA hval
  obtain ⟨v0, vs0, d0, ds0, p0, q0, hargs, rfl, rfl, h0, r0⟩ := trodAll_cons hA
  obtain ⟨v1, vs1, d1, ds1, p1, q1, rfl, rfl, rfl, h1, r1⟩ := trodAll_cons r0
  obtain ⟨rfl, rfl, rfl⟩ := trodAll_nil r1
  obtain rfl : args = #[v0, v1] := by cases args; simp_all
  obtain ⟨ea, ua, ta, s, hv, E, G⟩ := sentinels hL hF
  obtain ⟨rfl, rfl⟩ := hV.unique (vars_read1 enc gT gTType Ybaf.underlying32 hv trivial _)
  obtain ⟨a0, len0, cap0, rfl⟩ := okWide_slice Ybaf.underlying24 (hval 0 24 v0 rfl rfl)
  have k0 := h0
  have lt0 : ∀ x ∈ p0, x.block < W.heap.size := by obtain ⟨m, hm⟩ := k0; exact DataW.trod_lt m _ _ _ hm
  obtain ⟨Y, hY, hS, hcap⟩ : ∃ Y, Byt Y ∧ Bytes W a0 len0 Y ∧ len0 ≤ cap0 := by
    obtain ⟨fuel, hf⟩ := h0
    rcases open_ints Ybaf.underlying24 Ybaf.underlying5 cells5 hf with ⟨hcs, _⟩ | ⟨x, l, c, zs, hcs, _, hl, hm, hz, _, hcell, hwz⟩
    · simp [Value.cells] at hcs
      obtain ⟨rfl, rfl, rfl⟩ := hcs
      exact ⟨fun _ => 0, fun _ => ⟨show (0 : Int) ≤ 0 by decide, show (0 : Int) ≤ 255 by decide⟩, fun h => absurd h (by omega), Nat.le_refl _⟩
    · simp [Value.cells] at hcs
      obtain ⟨rfl, rfl, rfl⟩ := hcs
      have hz' : zs.length = cap0 := by simpa using hz
      exact ⟨fun i => zs.getD i 0, byt_list hwz, bytes_of (by omega) hcell, by omega⟩
  obtain ⟨b1, rfl, rfl, rfl⟩ := open_bool Ybaf.underlying4 (hval 1 4 v1 rfl rfl) h1
  clear hA0 hV0 hval0
  have law : Calls Ybaf.prog 4 #[.slice a0 len0 cap0, .bool b1] W fun e w' => e = .returned (.bool true) ∧ Below W.heap.size W w' := by
    by_cases hN : len0 ≤ 1048576
    · exact raw_law E G hY hS hN hcap
    · exact raw_long (by omega)
  refine law.mono fun e W' ⟨he, bel⟩ => ?_
  subst he
  exact ⟨_, rfl, _, _, _, [], _, [.cell 1 0], hW', trodAll_mk1 (shut_bool Ybaf.underlying4 _), (trodAll_cons_mk (Below.trod laidOut (by kernel_rfl) (of_decide_eq_true (by kernel_rfl)) k0 bel lt0) (trodAll_cons_mk (shut_bool Ybaf.underlying4 _) trodAll_mk0)), vars_read1 enc gT gTType Ybaf.underlying32 (var_below bel gT (by have := E.b7; omega) hv) trivial _, bel.frame _, fun h => by cases h⟩

end raw

theorem rawCard : Rows.LawS4404ARawToldSaid :=
  Claim7.holds_of_told_tied_any_at .later 4 Ybaf.f4 "fmt.errorf" [] [] _ _ _ _ _ (by kernel_rfl) rfl rfl rfl laidOut (by kernel_rfl) rfl ⟨rfl, rfl, rfl, rfl, rfl, rfl, rfl⟩ rfl rfl (by kernel_rfl) (by kernel_rfl) Ybaf.func4 (by kernel_rfl)
    (of_decide_eq_true (by kernel_rfl)) (of_decide_eq_true (by kernel_rfl)) stopsOf.symm rfl stopKnobsOf.symm (by kernel_rfl)
    (by kernel_rfl) (by kernel_rfl) (by kernel_rfl) (by kernel_rfl) (by kernel_rfl) (by kernel_rfl) (by kernel_rfl) (by kernel_rfl) (by kernel_rfl) rfl (by kernel_rfl) rfl rfl
    rfl rfl
    rfl (by kernel_rfl) (by kernel_rfl) (by kernel_rfl) (by decide) (by kernel_rfl) lawS4404ARaw_row_tie
    (OpenClaim.moreEntering_of (by kernel_rfl) (by kernel_rfl) (by kernel_rfl) (by kernel_rfl) (by kernel_rfl) (by kernel_rfl) (by kernel_rfl) (by kernel_rfl) (by kernel_rfl) (by kernel_rfl))
    ⟨_, WideRow.started_initial, quietOf _⟩
    (fun os started _ H enc _ => raw.lifted os started H enc)

end Go.Proofs.YbulkcmekFmt
