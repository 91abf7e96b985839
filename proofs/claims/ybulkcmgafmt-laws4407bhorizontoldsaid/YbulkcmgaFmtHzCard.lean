import Derived.Test.YbulkcmgaFmtCards
import Derived.Test.YbulkcmgaFmtHz
import Derived.ProofKit
import Derived.OpenShut
import Derived.Deep.Slices
import Derived.Stop.Joined
import Derived.Stop.JoinedTold
import Derived.SevenToldRow
namespace Go.Proofs.YbulkcmgaFmt.hz
open Go.ChangeShapes Go.WideShapes Go.ChangeAt Go.WideMaps Go.WideElems Go.RowKit
open Go.Extern.Stop Go.Stop Go.Extern

theorem own : ownKnob Ybaf.prog.godebug = none := by kernel_rfl
theorem laidOut : laidOutB Ybaf.pinned.checked.prog = true := by kernel_rfl
theorem stopsOf : Ybaf.pinned.checked.prog.stops = ["fmt.errorf"] := by kernel_rfl
theorem stopKnobsOf : Ybaf.pinned.checked.prog.stopKnobs = [] := by kernel_rfl
theorem quietOf (os : Os) : Stop.quiet Ybaf.pinned.checked.prog os := by
  intro k hk
  rw [stopKnobsOf] at hk
  cases hk
theorem cells73 : Ybaf.prog.cellsOf 73 = 5 := by kernel_rfl
theorem cells5 : Ybaf.prog.cellsOf 5 = 1 := by kernel_rfl
theorem cells22 : Ybaf.prog.cellsOf 22 = 1 := by kernel_rfl
theorem cells4 : Ybaf.prog.cellsOf 4 = 1 := by kernel_rfl

set_option maxRecDepth 100000 in
/-- One operation of the script, read off its five cells. -/
theorem open_op {H : Type} {enc : TypeId × Value → H} {W : World} {base : Nat} {sp : Nat → Bool} {held : Bool} {n : Nat} {cs : List Value} {x : DataW H × List MemPlace} (h : DataW.trod enc Ybaf.prog W base sp held n 73 cs = some x) (hl : cs.length = 5) :
    ∃ q : Int × Int × Int × Int × Bool, cs = [.int .u8 q.1, .int .u8 q.2.1, .int .u64 q.2.2.1, .int .u8 q.2.2.2.1, .bool q.2.2.2.2] ∧ (0 ≤ q.1 ∧ q.1 ≤ 255) ∧ (0 ≤ q.2.1 ∧ q.2.1 ≤ 255) ∧ (0 ≤ q.2.2.1 ∧ q.2.2.1 ≤ 18446744073709551615) ∧ (0 ≤ q.2.2.2.1 ∧ q.2.2.2.1 ≤ 255) := by
  obtain ⟨xs, k, hk, hxy, _, hxl, hf⟩ := DataW.trod_struct Ybaf.underlying73 h
  match xs, hxl, cs, hl with
  | [y0, y1, y2, y3, y4], _, [v0, v1, v2, v3, v4], _ =>
    have g0 := hf 0 _ rfl
    have g1 := hf 1 _ rfl
    have g2 := hf 2 _ rfl
    have g3 := hf 3 _ rfl
    have g4 := hf 4 _ rfl
    simp [cells5, cells22, cells4] at g0 g1 g2 g3 g4
    obtain ⟨a0, e0, _, w0⟩ := DataW.trod_int Ybaf.underlying5 g0
    obtain ⟨a1, e1, _, w1⟩ := DataW.trod_int Ybaf.underlying5 g1
    obtain ⟨a2, e2, _, w2⟩ := DataW.trod_int Ybaf.underlying22 g2
    obtain ⟨a3, e3, _, w3⟩ := DataW.trod_int Ybaf.underlying5 g3
    obtain ⟨a4, e4, _⟩ := DataW.trod_bool Ybaf.underlying4 g4
    simp at e0 e1 e2 e3 e4
    exact ⟨(a0, a1, a2, a3, a4), by simp [e0, e1, e2, e3, e4], bounds_u8 w0, bounds_u8 w1, bounds_u64 w2, bounds_u8 w3⟩

theorem ops_of {H : Type} {enc : TypeId × Value → H} {W : World} {fuel len cap : Nat} {ao : Option Addr} {sp : Nat → Bool} {x : DataW H × List MemPlace} (h : DataW.trod enc Ybaf.prog W 0 sp true fuel 68 [.slice ao len cap] = some x) :
    ∃ f0 f1 f2 f3 f4, OpsAt W ao len f0 f1 f2 f3 f4 := by
  rcases Deep.open_slice Ybaf.underlying68 h with ⟨hcs, _⟩ | ⟨a, len', cap', m, n, D, Pl, hcs, hb, hl, hm, hmm, _, hx⟩
  · obtain ⟨rfl, rfl, rfl⟩ : ao = none ∧ len = 0 ∧ cap = 0 := by simpa using hcs
    exact ⟨fun _ => 0, fun _ => 0, fun _ => 0, fun _ => 0, fun _ => false, fun h => absurd h (by omega)⟩
  · obtain ⟨rfl, rfl, rfl⟩ : ao = some a ∧ len = len' ∧ cap = cap' := by simpa using hcs
    have hlm : len ≤ m := by rw [hmm]; split <;> omega
    have each : ∀ i, i < len → ∃ q : Int × Int × Int × Int × Bool, (W.cell? (a.add (i * 5)) = some (.int .u8 q.1) ∧ W.cell? (a.add (i * 5 + 1)) = some (.int .u8 q.2.1) ∧ W.cell? (a.add (i * 5 + 2)) = some (.int .u64 q.2.2.1) ∧ W.cell? (a.add (i * 5 + 3)) = some (.int .u8 q.2.2.2.1) ∧ W.cell? (a.add (i * 5 + 4)) = some (.bool q.2.2.2.2)) ∧
        (0 ≤ q.1 ∧ q.1 ≤ 255) ∧ (0 ≤ q.2.1 ∧ q.2.1 ≤ 255) ∧ (0 ≤ q.2.2.1 ∧ q.2.2.1 ≤ 18446744073709551615) ∧ (0 ≤ q.2.2.2.1 ∧ q.2.2.2.1 ≤ 255) := by
      intro i hi
      obtain ⟨cs', h1, h2⟩ := hx i (by omega)
      rw [cells73] at h1
      obtain ⟨_, hlen, hcell⟩ := World.cells?_some h1
      obtain ⟨q, rfl, r⟩ := open_op h2 hlen
      have e0 := hcell 0 (by omega)
      have e1 := hcell 1 (by omega)
      have e2 := hcell 2 (by omega)
      have e3 := hcell 3 (by omega)
      have e4 := hcell 4 (by omega)
      rw [Deep.add_add] at e0 e1 e2 e3 e4
      exact ⟨q, ⟨by simpa using e0, by simpa using e1, by simpa using e2, by simpa using e3, by simpa using e4⟩, r⟩
    obtain ⟨q, hq⟩ := Deep.choose_lt each
    refine ⟨fun i => (q i).1, fun i => (q i).2.1, fun i => (q i).2.2.1, fun i => (q i).2.2.2.1, fun i => (q i).2.2.2.2, fun h0 => ?_⟩
    have c0 := (hq 0 h0).1.1
    obtain ⟨b, off, spot⟩ := a
    have hspot : spot = none := by simpa [Addr.add] using World.cell?_spot c0
    subst hspot
    refine ⟨b, off, rfl, World.block_lt_of_cell? W ⟨b, off + 0 * 5, none⟩ (by simpa [Addr.add_mid] using c0), fun j hj => ?_⟩
    obtain ⟨⟨k0, k1, k2, k3, k4⟩, r⟩ := hq j hj
    rw [Addr.add_mid] at k0 k1 k2 k3 k4
    exact ⟨⟨k0, by simpa [Nat.add_assoc] using k1, by simpa [Nat.add_assoc] using k2, by simpa [Nat.add_assoc] using k3, by simpa [Nat.add_assoc] using k4⟩, r⟩

set_option maxRecDepth 100000 in
theorem lifted (os : Os) (started : os.Started) (H : Type) (enc : TypeId × Value → H) :
    ReturnsInTold none {} Ybaf.checked os 4 .any Input.okWide ((OpenSpec.ofChange Rows.lawS4407BHorizonSpec).preRow enc Ybaf.prog Ybaf.f4 [] false []) (fun F => ((OpenSpec.ofChange Rows.lawS4407BHorizonSpec).at F).post enc Ybaf.prog Ybaf.f4 false true false false) (aloneAtReturn Ybaf.prog) nothingAlways := by
  refine returnsInTold_of_row (C := Ybaf.checked) (s := OpenSpec.ofChange Rows.lawS4407BHorizonSpec) (by kernel_rfl) own started (by kernel_rfl) Ybaf.func4
    (OpenSpec.witness_stopped (enc := enc) (C := Ybaf.checked) false ⟨#[], #[.bool false, .int .u64 0, .slice none 0 0], []⟩ 8 (by kernel_rfl) (by kernel_rfl) (by kernel_rfl) (by kernel_rfl)) ?_
  intro F W base args ds gs before _ hF hval0 hW _ _ _ _ _
  have hval : ∀ (j : Nat) t v, Ybaf.f4.params[j]? = some t → args[j]? = some v → Value.okWide Ybaf.prog W .any base t v := hval0
  have hW' := hW
  obtain ⟨p, q, hA0, hV, rfl, hfz, hnd⟩ := hW
  have hA : DataW.TrodAll enc Ybaf.prog W 0 (fun _ => true) true Ybaf.f4.params.toList args.toList ds p := hA0
  rw [Ybaf.params4] at hA hval
  obtain ⟨v0, vs0, d0, ds0, p0, q0, hargs, rfl, rfl, h0, r0⟩ := trodAll_cons hA
  obtain ⟨v1, vs1, d1, ds1, p1, q1, rfl, rfl, rfl, h1, r1⟩ := trodAll_cons r0
  obtain ⟨v2, vs2, d2, ds2, p2, q2, rfl, rfl, rfl, h2, r2⟩ := trodAll_cons r1
  obtain ⟨rfl, rfl, rfl⟩ := trodAll_nil r2
  obtain rfl : args = #[v0, v1, v2] := by cases args; simp_all
  obtain ⟨rfl, rfl⟩ := trodVars_none hV
  obtain ⟨b0, rfl, rfl, rfl⟩ := open_bool Ybaf.underlying4 (hval 0 4 v0 rfl rfl) h0
  obtain ⟨a1, rfl, rfl, rfl, w1⟩ := open_int Ybaf.underlying22 (hval 1 22 v1 rfl rfl) h1
  obtain ⟨a2, len2, cap2, rfl⟩ := okWide_slice Ybaf.underlying68 (hval 2 68 v2 rfl rfl)
  have k2 := h2
  have lt2 : ∀ x ∈ p2, x.block < W.heap.size := by obtain ⟨m, hm⟩ := k2; exact DataW.trod_lt m _ _ _ hm
  obtain ⟨f0, f1, f2, f3, f4, hO⟩ : ∃ f0 f1 f2 f3 f4, OpsAt W a2 len2 f0 f1 f2 f3 f4 := by
    obtain ⟨fuel, hf⟩ := h2
    exact ops_of (by simpa [Value.cells] using hf)
  clear hA0 hval0
  refine (horizon_is b0 a1 (bounds_u64 w1) a2 len2 cap2 f0 f1 f2 f3 f4 W hO).mono fun e W' ⟨he, bel⟩ => ?_
  subst he
  exact ⟨_, rfl, _, _, _, [], _, [], hW', trodAll_mk1 (shut_bool Ybaf.underlying4 _), (trodAll_cons_mk (shut_bool Ybaf.underlying4 _) (trodAll_cons_mk (shut_int Ybaf.underlying22 w1) (trodAll_cons_mk (Below.trod laidOut (by kernel_rfl) (of_decide_eq_true (by kernel_rfl)) k2 bel lt2) trodAll_mk0))), rfl, bel.frame _, fun h => by cases h⟩

end Go.Proofs.YbulkcmgaFmt.hz

namespace Go.Proofs.YbulkcmgaFmt
open Go.Extern.Stop Go.Stop Go.Extern

/-- THE STATEMENT. -/
theorem horizonCard : Rows.LawS4407BHorizonToldSaid :=
  Claim7.holds_of_told_any 4 Ybaf.f4 "fmt.errorf" [] [] _ _ _ (by kernel_rfl) rfl rfl rfl hz.laidOut (by kernel_rfl) rfl ⟨rfl, rfl, rfl, rfl, rfl, rfl, rfl⟩ rfl rfl (by kernel_rfl) (by kernel_rfl) Ybaf.func4 (by kernel_rfl)
    (of_decide_eq_true (by kernel_rfl)) (of_decide_eq_true (by kernel_rfl)) hz.stopsOf.symm rfl hz.stopKnobsOf.symm (by kernel_rfl)
    (by kernel_rfl) (by kernel_rfl) (by kernel_rfl) (by kernel_rfl) (by kernel_rfl) (by kernel_rfl) (by kernel_rfl) (by kernel_rfl) (by kernel_rfl) rfl (by kernel_rfl) rfl rfl
    rfl rfl
    rfl (by kernel_rfl) (by kernel_rfl) (by kernel_rfl) (by decide) (by kernel_rfl)
    (OpenClaim.moreEntering_of (by kernel_rfl) (by kernel_rfl) (by kernel_rfl) (by kernel_rfl) (by kernel_rfl) (by kernel_rfl) (by kernel_rfl) (by kernel_rfl) (by kernel_rfl) (by kernel_rfl))
    ⟨_, WideRow.started_initial, hz.quietOf _⟩
    (fun os started _ H enc _ => hz.lifted os started H enc)

end Go.Proofs.YbulkcmgaFmt
