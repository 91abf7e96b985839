/-
  Helpers of (*Rule).raiseHorizon.
-/
import Derived.Test.YbulkcmgaFmtWipe
namespace Go.Proofs.YbulkcmgaFmt
open Go Go.RowKit Go.Maps

variable {w w' : World} {bs RB M B I G n c s : Nat} {hold : Bool} {k hi fl tp : Int} {ex : Int → Prop} {m : Md} {al : Nat → Bool} {g : Int → Option Nat} {h : Int → ByteArray → Option Nat} {sv : Value} {a : Nat → Int} {sp : Option Nat}

def hlen (w : World) (RB : Nat) : Nat := match w.cell? ⟨RB, 8, none⟩ with | some (.slice _ n _) => n | _ => 0

theorem rx_slice (x : Rx w bs RB hold k hi fl tp ex m al M g h sv n a sp) : ∃ ao c, sv = .slice ao n c := by
  obtain ⟨_, h1⟩ := x.own
  rcases h1 with ⟨e, h0⟩ | ⟨G, c, cur, e, hb, _⟩
  · exact ⟨_, _, by rw [h0]; exact e⟩
  · exact ⟨_, _, e⟩
theorem rx_hlen (x : Rx w bs RB hold k hi fl tp ex m al M g h sv n a sp) : hlen w RB = n := by
  obtain ⟨ao, c, e⟩ := rx_slice x
  have := x.c8.cell
  simp [hlen, this, e]

theorem KeepCM.of_heap (e : w'.heap = w.heap) : KeepCM w w' := by
  constructor
  · intro b c t f h; rw [e]; exact h
  · intro b es c h; rw [e]; exact h

/-- The highest round is raised. -/
theorem rx_high (x : Rx w bs RB hold k hi fl tp (fun _ => False) m al M g h sv n a sp) {r fl' : Int} (hf : fl ≤ fl') : Rx (w.setCell ⟨RB, 5, none⟩ (.int .u64 r)) bs RB hold k r fl' tp (fun _ => False) m al M g h sv n a sp ∧ Cel RB w (w.setCell ⟨RB, 5, none⟩ (.int .u64 r)) := by
  have o : Only [RB] w (w.setCell ⟨RB, 5, none⟩ (.int .u64 r)) := (Only.refl _ _).setCell (by simp) _
  have rest := Rest.set w RB 5 (.int .u64 r)
  have cel : Cel RB w (w.setCell ⟨RB, 5, none⟩ (.int .u64 r)) := Cel.of_only o (fun b hb => .inl (by simpa using hb))
  have c5 := x.c5.1
  have f5 := x.c5.2
  have nm : ∀ b, (∃ es c, w.heap[b]? = some (Obj.map es c)) → b ∉ [RB] := fun b hm => by simpa using (ne_map hm x.c0).symm
  obtain ⟨s0, hs0, tb⟩ := x.tb
  refine ⟨⟨x.bsR, x.bsM, (rest 0 (by decide)).1.trans x.c0, (rest 2 (by decide)).1.trans x.c2, ⟨by go_simp, by go_simp⟩, (rest 6 (by decide)).1.trans x.c6, rest.at x.c7 (by decide), rest.at x.c8 (by decide), rest.at x.c9 (by decide),
    ⟨s0, hs0, tb.of_block (o.block M tb.lt (nm M (isMap_tb tb)))⟩, fun r' B' hg' => ?_, x.gin, fun S hS => ?_, x.gal, x.hal, own_kept x.own (fun b hb => o.block b (own_lt x.own hb) (by simp; exact fun e => x.ownR (by rw [hb, e]))), x.ownR, x.hp, x.ij, x.nle, x.hg, fun i hi ha => ?_, x.top, by have := x.tpf; omega, fun i hi => ⟨(x.recs i hi).1, (x.recs i hi).2.cel cel (x.recs i hi).1⟩, x.mok⟩, cel⟩
  · obtain ⟨b1, b2, s', h1, h2⟩ := x.inn r' B' hg'
    exact ⟨b1, b2, s', h1, h2.of_block (o.block B' h2.lt (nm B' (isMap_inn h2)))⟩
  · obtain ⟨b1, b2, b3, b4⟩ := x.spare S hS
    exact ⟨b1, b2, b3.of_block (o.block S b3.lt (nm S (isMap_inn b3))), b4⟩
  · rcases x.hn i hi ha with q | ⟨q1, q2, q3⟩ | q
    · exact .inl q
    · exact .inr (.inl ⟨q1, q2, by omega⟩)
    · exact q.elim


theorem keep_iter {i1 : Option Nat} {i2 : Nat} {i3 : Array Nat} {i4 : Nat} (hI : w.heap[I]? = some (.mapIter i1 i2 i3 i4)) (hg : w.grownBy w' (some I)) : KeepCM w w' := by
  constructor
  · intro b cc t f hb
    exact (hg.block b (blt hb) (fun e => by cases e; rw [hI] at hb; cases hb)).trans hb
  · intro b es cc hb
    exact (hg.block b (blt hb) (fun e => by cases e; rw [hI] at hb; cases hb)).trans hb

/-- What a raise leaves alive. -/
def live (m : Md) (al : Nat → Bool) (hold : Bool) (fl : Int) : Nat → Bool := fun i => al i && !(decide (m.rd i < fl) && !(hold && m.hd i))

/-- The outer loop's relation. -/
def Lp (w wr : World) (bs RB : Nat) (hold : Bool) (k hi fl tp : Int) (m : Md) (al : Nat → Bool) : Prop :=
  ∃ al' M g h sv n a sp, Rx wr bs RB hold k hi fl tp (fun _ => False) m al' M g h sv n a sp ∧ (∀ i, al' i = true → al i = true) ∧ (∀ i, i < m.ne → al i = true → al' i = false → m.rd i < fl ∧ ¬ (hold = true ∧ m.hd i = true)) ∧ Cel RB w wr ∧ Below bs w wr

theorem rx_congr {al' : Nat → Bool} (x : Rx w bs RB hold k hi fl tp ex m al M g h sv n a sp) (e : ∀ i, i < m.ne → al i = al' i) : Rx w bs RB hold k hi fl tp ex m al' M g h sv n a sp := by
  have hi' : ∀ r p X, m.is al r p X ↔ m.is al' r p X := fun r p X => by
    constructor
    · rintro ⟨i, hi, h1, h2⟩; exact ⟨i, hi, by rw [← e i hi]; exact h1, h2⟩
    · rintro ⟨i, hi, h1, h2⟩; exact ⟨i, hi, by rw [e i hi]; exact h1, h2⟩
  refine { x with c7 := ?_, gal := fun r => ?_, hal := fun r hg p X => (x.hal r hg p X).trans (hi' r p X), hn := fun i hi ha => x.hn i hi (by rw [e i hi]; exact ha), mok := ⟨x.mok.ne, x.mok.wf, x.mok.len, x.mok.uq⟩ }
  · rw [← cnt_congr e]; exact x.c7
  · rw [x.gal r]
    constructor
    · rintro ⟨i, hi, h1, h2⟩; exact ⟨i, hi, by rw [← e i hi]; exact h1, h2⟩
    · rintro ⟨i, hi, h1, h2⟩; exact ⟨i, hi, by rw [e i hi]; exact h1, h2⟩

/-- The loop's end. -/
theorem lp_end {wr : World} {al' : Nat → Bool} (x : Rx wr bs RB hold k hi fl tp (fun _ => False) m al' M g h sv n a sp) (h1 : ∀ i, al' i = true → al i = true) (h2 : ∀ i, i < m.ne → al i = true → al' i = false → m.rd i < fl ∧ ¬ (hold = true ∧ m.hd i = true))
    (hend : n = 0 ∨ fl ≤ a 0) : Ru wr bs RB hold k hi fl fl (fun _ => False) m (live m al hold fl) := by
  have hmin : ∀ j, j < n → fl ≤ a j := fun j hj => by
    rcases hend with e | e
    · omega
    · have := heap_min x.hp j hj
      omega
  have e : ∀ i, i < m.ne → al' i = live m al hold fl i := fun i hi => by
    cases ea : al' i with
    | true =>
      have hb := h1 i ea
      simp only [live, hb, Bool.true_and]
      rcases x.hn i hi ea with ⟨j, hj, q⟩ | ⟨q1, q2, _⟩ | q
      · have := hmin j hj
        have hd : decide (m.rd i < fl) = false := by simp; omega
        simp [hd]
      · simp [q1, q2]
      · exact q.elim
    | false =>
      cases eb : al i with
      | false => simp [live, eb]
      | true =>
        obtain ⟨q1, q2⟩ := h2 i hi eb ea
        have hd : (hold && m.hd i) = false := by
          cases hold <;> cases hh : m.hd i <;> simp_all
        simp [live, eb, q1, hd]
  have x2 := rx_congr x e
  exact ⟨M, g, h, sv, n, a, sp, { x2 with top := hmin, tpf := Int.le_refl _ }⟩

end Go.Proofs.YbulkcmgaFmt
