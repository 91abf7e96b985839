/-
  A round popped, a round wiped: the plain half.
-/
import Derived.Test.YbulkcmgaFmtCount
namespace Go.Proofs.YbulkcmgaFmt
open Go Go.RowKit Go.Maps

variable {w w' : World} {bs RB M B G n c s : Nat} {hold : Bool} {k hi fl tp : Int} {ex : Int → Prop} {m : Md} {al : Nat → Bool} {g : Int → Option Nat} {h : Int → ByteArray → Option Nat} {sv : Value} {a : Nat → Int} {sp : Option Nat}

theorem rx_hw (x : Rx w bs RB hold k hi fl tp ex m al M g h sv n a sp) (hn : 0 < n) : ∃ G c, sv = .slice (some ⟨G, 0, none⟩) n c ∧ bs ≤ G ∧ Hw w RB G n c a := by
  have o := x.own
  have o2 := x.own
  obtain ⟨_, h1⟩ := o
  rcases h1 with ⟨_, h0⟩ | ⟨G, c, cur, e, hb, _⟩
  · omega
  · refine ⟨G, c, e, hb, ?_⟩
    rw [e] at o2
    have hne : RB ≠ G := fun e' => x.ownR (by rw [e, e']; rfl)
    exact ⟨hne, e ▸ x.c8, (hr_of_own o2).1⟩

theorem rx_pop (x : Rx w bs RB hold k hi fl tp (fun _ => False) m al M g h sv n a sp) {n' : Nat} (hn : n' + 1 = n) (e : sv = .slice (some ⟨G, 0, none⟩) n c) (hb : bs ≤ G) {a' : Nat → Int} (y : Hw w' RB G n' c a') (hp : HeapO a' n')
    (mem : ∀ r, Mem a n r ↔ Mem a' n' r ∨ r = a 0) (ij : Inj a' n' ∧ ¬ Mem a' n' (a 0)) (o : Only [RB, G] w w') (rest : Rest w w' RB [8]) :
    Rx w' bs RB hold k hi fl tp (fun q => q = a 0) m al M g h (.slice (some ⟨G, 0, none⟩) n' c) n' a' sp ∧ Cel RB w w' := by
  have hG : ∃ cc, w.heap[G]? = some (.cells cc 22 (0, 0)) := own_isRow x.own (by rw [e]; rfl)
  have cel : Cel RB w w' := Cel.of_only o (fun b hb => by
    rcases List.mem_cons.1 hb with rfl | hb
    · exact .inl rfl
    · obtain rfl : b = G := by simpa using hb
      obtain ⟨cc, hc⟩ := hG
      exact .inr fun c e f hc' => by rw [hc] at hc'; cases hc'; rfl)
  have nm : ∀ b, (∃ es c, w.heap[b]? = some (Obj.map es c)) → b ∉ [RB, G] := fun b hm => by
    simp only [List.mem_cons, List.not_mem_nil, or_false, not_or]
    obtain ⟨cc, hc⟩ := hG
    exact ⟨(ne_map hm x.c0).symm, (row_not_map hm hc).symm⟩
  obtain ⟨s0, hs0, tb⟩ := x.tb
  refine ⟨⟨x.bsR, x.bsM, (rest 0 (by decide)).1.trans x.c0, (rest 2 (by decide)).1.trans x.c2, rest.at x.c5 (by decide), (rest 6 (by decide)).1.trans x.c6, rest.at x.c7 (by decide), y.at8, rest.at x.c9 (by decide),
    ⟨s0, hs0, tb.of_block (o.block M tb.lt (nm M (isMap_tb tb)))⟩, fun r' B' hg' => ?_, x.gin, fun S hS => ?_, x.gal, x.hal, own_of_hr y.row hb, by simpa [Value.ownBlock] using y.ne.symm, hp, ij.1, by have := x.nle; omega, fun j hj => ?_, fun i hi ha => ?_, fun j hj => ?_, x.tpf, fun i hi => ⟨(x.recs i hi).1, (x.recs i hi).2.cel cel (x.recs i hi).1⟩, x.mok⟩, cel⟩
  · obtain ⟨b1, b2, s', h1, h2⟩ := x.inn r' B' hg'
    exact ⟨b1, b2, s', h1, h2.of_block (o.block B' h2.lt (nm B' (isMap_inn h2)))⟩
  · obtain ⟨b1, b2, b3, b4⟩ := x.spare S hS
    exact ⟨b1, b2, b3.of_block (o.block S b3.lt (nm S (isMap_inn b3))), b4⟩
  · obtain ⟨l, hl, e'⟩ := (mem (a' j)).2 (.inl ⟨j, hj, rfl⟩)
    rw [← e']
    exact x.hg l hl
  · rcases x.hn i hi ha with q | q | q
    · rcases (mem _).1 q with q | q
      · exact .inl q
      · exact .inr (.inr q)
    · exact .inr (.inl q)
    · exact q.elim
  · obtain ⟨l, hl, e'⟩ := (mem (a' j)).2 (.inl ⟨j, hj, rfl⟩)
    rw [← e']
    exact x.top l hl

theorem rx_unex (x : Rx w bs RB hold k hi fl tp ex m al M g h sv n a sp) (hx : ∀ i, i < m.ne → al i = true → ex (m.rd i) → hold = true ∧ m.hd i = true ∧ m.rd i < fl) : Rx w bs RB hold k hi fl tp (fun _ => False) m al M g h sv n a sp :=
  { x with hn := fun i hi ha => (x.hn i hi ha).elim .inl (fun q => q.elim (fun q => .inr (.inl q)) (fun q => .inr (.inl (hx i hi ha q)))) }

/-- All entries of round r die. -/
def wipe (m : Md) (al : Nat → Bool) (r : Int) : Nat → Bool := fun i => al i && !(m.rd i == r)
theorem cnt_wipe (m : Md) (al : Nat → Bool) (r : Int) : cnt (wipe m al r) m.ne + cnt (fun i => al i && m.rd i == r) m.ne = cnt al m.ne := (cnt_split al (fun i => m.rd i == r) m.ne).symm

theorem rx_wipe {r : Int} (x : Rx w bs RB hold k hi fl tp (fun q => q = r) m al M g h sv n a sp) (hB : g r = some B) (noR : ¬ Mem a n r)
    (hT : ∃ s, s ≤ m.ne ∧ Tb w' M (setK g r none) s) (hI : Inn w' B (fun _ => none) 0) (o : Only [RB, M, B] w w') (rest : Rest w w' RB [7, 9]) (c7 : At w' RB 7 (.int .i64 (cnt (wipe m al r) m.ne))) (c9 : At w' RB 9 (mv (some B))) :
    Rx w' bs RB hold k hi fl tp (fun _ => False) m (wipe m al r) M (setK g r none) h sv n a (some B) ∧ Cel RB w w' := by
  obtain ⟨s0, hs0, tb⟩ := x.tb
  obtain ⟨bB, BM, s1, hs1, hI1⟩ := x.inn _ B hB
  have mB := isMap_inn hI1
  have mM := isMap_tb tb
  have cel : Cel RB w w' := Cel.of_only o (fun b hb => by
    rcases List.mem_cons.1 hb with rfl | hb
    · exact .inl rfl
    · rcases List.mem_cons.1 hb with rfl | hb
      · exact .inr fun c e f hc => absurd hc (by obtain ⟨es, c', e'⟩ := mM; rw [e']; simp)
      · obtain rfl : b = B := by simpa using hb
        exact .inr fun c e f hc => absurd hc (by obtain ⟨es, c', e'⟩ := mB; rw [e']; simp))
  have hsub : ∀ i, wipe m al r i = true ↔ al i = true ∧ m.rd i ≠ r := fun i => by simp [wipe]
  have hgne : ∀ r' B', setK g r none r' = some B' → r' ≠ r ∧ g r' = some B' := fun r' B' e => by
    by_cases e' : r' = r
    · simp [setK, e'] at e
    · exact ⟨e', by simpa [setK, e'] using e⟩
  refine ⟨⟨x.bsR, x.bsM, (rest 0 (by decide)).1.trans x.c0, (rest 2 (by decide)).1.trans x.c2, rest.at x.c5 (by decide), (rest 6 (by decide)).1.trans x.c6, c7, rest.at x.c8 (by decide), c9, hT, fun r' B' hg' => ?_, fun r1 r2 B' h1 h2 => x.gin r1 r2 B' (hgne r1 B' h1).2 (hgne r2 B' h2).2, fun S hS => ?_, fun r' => ?_, fun r' hg' p' X' => ?_, ?_, x.ownR, x.hp, x.ij, x.nle, fun j hj => ?_, fun i hi ha => ?_, x.top, x.tpf, fun i hi => ⟨(x.recs i hi).1, (x.recs i hi).2.cel cel (x.recs i hi).1⟩, ⟨x.mok.ne, x.mok.wf, x.mok.len, x.mok.uq⟩⟩, cel⟩
  · obtain ⟨e1, e2⟩ := hgne r' B' hg'
    obtain ⟨b1, b2, s', h1, h2⟩ := x.inn r' B' e2
    have hne : B' ≠ B := fun e' => e1 (x.gin r' r B (e' ▸ e2) hB)
    exact ⟨b1, b2, s', h1, h2.of_block (o.block B' h2.lt (by simp; exact ⟨(ne_map (isMap_inn h2) x.c0).symm, b2, hne⟩))⟩
  · obtain rfl : B = S := by simpa using hS
    exact ⟨bB, BM, hI, fun r' e => (hgne r' B e).1 (x.gin r' r B (hgne r' B e).2 hB)⟩
  · by_cases e : r' = r
    · simp only [setK, e, if_true]
      constructor
      · intro h; cases h
      · rintro ⟨i, _, h1, h2⟩
        exact absurd h2 ((hsub i).1 h1).2
    · have : setK g r none r' = g r' := by simp [setK, e]
      rw [this, x.gal r']
      constructor
      · rintro ⟨i, hi, h1, h2⟩
        exact ⟨i, hi, (hsub i).2 ⟨h1, fun e' => e (h2.symm.trans e')⟩, h2⟩
      · rintro ⟨i, hi, h1, h2⟩
        exact ⟨i, hi, ((hsub i).1 h1).1, h2⟩
  · have e : r' ≠ r := fun e => by simp [setK, e] at hg'
    have hg2 : (g r').isSome = true := by simpa [setK, e] using hg'
    rw [x.hal r' hg2 p' X']
    constructor
    · rintro ⟨i, hi, h1, h2, h3⟩
      exact ⟨i, hi, (hsub i).2 ⟨h1, fun e' => e (h2.symm.trans e')⟩, h2, h3⟩
    · rintro ⟨i, hi, h1, h2, h3⟩
      exact ⟨i, hi, ((hsub i).1 h1).1, h2, h3⟩
  · exact own_kept x.own (fun b hb => by
      obtain ⟨c, hc⟩ := own_isRow x.own hb
      exact o.block b (blt hc) (by simp; exact ⟨fun e => x.ownR (by rw [hb, e]), row_not_map mM hc, row_not_map mB hc⟩))
  · have : a j ≠ r := fun e => noR ⟨j, hj, e⟩
    simp [setK, this, x.hg j hj]
  · obtain ⟨h1, h2⟩ := (hsub i).1 ha
    rcases x.hn i hi h1 with q | q | q
    · exact .inl q
    · exact .inr (.inl q)
    · exact absurd q h2

end Go.Proofs.YbulkcmgaFmt
