import Derived.Test.YbulkcmekFmtRows
import Derived.Test.YbulkcmekFmtTie
import Derived.Test.YbulkcmekFmtCards
import Derived.Test.YbulkcmekFmtNextAny
import Derived.ProofKit
import Derived.LaidMore
import Derived.Lay
import Derived.OpenShut
import Derived.Stop.Joined
import Derived.Stop.JoinedTold
import Derived.Stop.LaidErr
import Derived.Stop.LaidTwo
import Derived.SevenTiedAt
namespace Go.Proofs.YbulkcmekFmt
open Go.ChangeShapes Go.WideShapes Go.ChangeAt Go.WideMaps Go.WideElems Go.RowKit
open Go.Extern.Stop Go.Stop Go.Extern

theorem own : ownKnob Ybaf.prog.godebug = none := by kernel_rfl
theorem laidOut : laidOutB Ybaf.pinned.checked.prog = true := by kernel_rfl
theorem stopsOf : Ybaf.pinned.checked.prog.stops = ["fmt.errorf"] := by kernel_rfl
theorem stopKnobsOf : Ybaf.pinned.checked.prog.stopKnobs = [] := by kernel_rfl
theorem quietOf (os : Os) : Stop.quiet Ybaf.pinned.checked.prog os := by
  intro k hk
  rw [stopKnobsOf] at hk
  cases hk
theorem gE : Ybaf.prog.globalNamed "io.EOF" = some 0 := by kernel_rfl
/-- The variable's name, as the given row spells it. -/
def truncName : String := Rows.lawS4404ARawSpec.vars.getD 0 ""
theorem gT : Ybaf.prog.globalNamed truncName = some 1 := by kernel_rfl
theorem gU : Ybaf.prog.globalNamed "io.ErrUnexpectedEOF" = some 4 := by kernel_rfl
theorem gEType : (Ybaf.prog.globals[0]?).map (·.type) = some 32 := by kernel_rfl
theorem gTType : (Ybaf.prog.globals[1]?).map (·.type) = some 32 := by kernel_rfl
theorem gUType : (Ybaf.prog.globals[4]?).map (·.type) = some 32 := by kernel_rfl
theorem cells93 : Ybaf.prog.cellsOf 93 = 1 := by kernel_rfl
theorem cells9 : Ybaf.prog.cellsOf 9 = 1 := by kernel_rfl
theorem cells5 : Ybaf.prog.cellsOf 5 = 1 := by kernel_rfl
theorem errRows : ∀ nm : String, nm = errName → ((List.range Ybaf.prog.types.size).all fun u => Ybaf.prog.typeName? 3 u != some nm || u == 91) = true := by
  rintro _ rfl
  kernel_rfl
theorem row91 (u : TypeId) (h : Ybaf.prog.typeName? 3 u = some errName) : u = 91 :=
  typeName_ptr_named (nm := "errors.errorString") (errRows _ (by decide)) (by kernel_rfl) (by decide) u (h.trans (congrArg some (by decide)))

abbrev laid4 : List (String × DataW Unit) := Rows.lawS4404ARawRow.laid

theorem heap_lt {W : World} {k : Nat} {x : Obj} (h : W.heap[k]? = some x) : k < W.heap.size := by
  rcases Nat.lt_or_ge k W.heap.size with h' | h'
  · exact h'
  · simp [Array.getElem?_eq_none h'] at h

theorem sentinels {F : Interp} {W : World} (h : laidMetH Ybaf.prog laid4 W) (hF : F.answers W.tape) :
    ∃ ea ua ta s, W.var? Ybaf.prog truncName = some #[errV ta] ∧ Env F W ea ua ta s W.heap.size ∧ Sen W ea ua ta W.heap.size := by
  have hL : laidMet Ybaf.prog laid4 W := h
  obtain ⟨a0, a1, s0, s1, c0, c1, t0, t1, hv0, hv1, hc0, hs0, hz0, hc1, hs1, hz1, hne, hb0, hb1⟩ := laid_sentinels2 hL.tail gE gEType gU gUType Ybaf.underlying32 row91 Ybaf.underlying91 Ybaf.underlying93 rfl rfl Ybaf.underlying9 cells93 cells9
  obtain ⟨x0, x1, y0, y1, d0, d1, u0, u1, kv0, kv1, kc0, ks0, kz0, kc1, ks1, kz1, kne, kb0, kb1⟩ := laid_sentinels2 hL.tail.tail gU gUType gT gTType Ybaf.underlying32 row91 Ybaf.underlying91 Ybaf.underlying93 rfl rfl Ybaf.underlying9 cells93 cells9
  have hg0 : W.cell? ⟨0, 0, none⟩ = some (errV a0) := by simpa using World.var?_cell gE hv0 0
  have hg4 : W.cell? ⟨4, 0, none⟩ = some (errV a1) := by simpa using World.var?_cell gU hv1 0
  have hg1 : W.cell? ⟨1, 0, none⟩ = some (errV x1) := by simpa using World.var?_cell gT kv1 0
  have l4 : 4 < W.heap.size := cell_lt (W := W) (p := ⟨4, 0, none⟩) (by rw [hg4]; rfl)
  exact ⟨a0, a1, x1, y1, kv1, ⟨l4, Nat.le_refl _, hF, hg0, hg4, hg1, kc1, heap_lt kb1⟩, ⟨hne, heap_lt hb0, heap_lt hb1, heap_lt kb1, ⟨_, _, hb0⟩, ⟨_, _, hb1⟩, ⟨_, _, kb1⟩⟩⟩

theorem laid_met (os : Os) (args : Array Value) : laidMet Ybaf.prog laid4 ((World.laidAll Ybaf.prog os laid4).forCall (fun _ _ => 0) ⟨#[], args, []⟩).memory :=
  laidMet_of_run' 8 (by kernel_rfl) (by kernel_rfl)

theorem var_below {B g : Nat} {W W' : World} {n : String} {cs : Array Value} (h : Below B W W') (hg : Ybaf.prog.globalNamed n = some g) (hgB : g < B) (hv : W.var? Ybaf.prog n = some cs) : W'.var? Ybaf.prog n = some cs := by
  simp only [World.var?, hg, Option.bind_some] at hv ⊢
  rw [h.block g hgB]
  exact hv

end Go.Proofs.YbulkcmekFmt
