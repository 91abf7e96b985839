/-
  One record forgotten: the plain half.
-/
import Derived.Test.YbulkcmgaFmtAny
namespace Go.Proofs.YbulkcmgaFmt
open Go Go.RowKit Go.Maps

/-- Cells and maps are as they were. -/
def KeepCM (w w' : World) : Prop := (∀ (b : Nat) c e f, w.heap[b]? = some (Obj.cells c e f) → w'.heap[b]? = some (Obj.cells c e f)) ∧ (∀ (b : Nat) es c, w.heap[b]? = some (Obj.map es c) → w'.heap[b]? = some (Obj.map es c))
theorem KeepCM.refl (w : World) : KeepCM w w := ⟨fun _ _ _ _ h => h, fun _ _ _ h => h⟩
theorem KeepCM.trans {w w1 w2 : World} (h : KeepCM w w1) (k : KeepCM w1 w2) : KeepCM w w2 := ⟨fun b c e f x => k.1 b c e f (h.1 b c e f x), fun b c e x => k.2 b c e (h.2 b c e x)⟩
theorem KeepCM.of_below {w w' : World} (b : Below w.heap.size w w') : KeepCM w w' := ⟨fun x _ _ _ h => (b.block x (blt h)).trans h, fun x _ _ h => (b.block x (blt h)).trans h⟩
theorem KeepCM.cell {w w' : World} (h : KeepCM w w') {b o : Nat} {v : Value} (k : w.cell? ⟨b, o, none⟩ = some v) : w'.cell? ⟨b, o, none⟩ = some v := by
  cases e : w.heap[b]? with
  | none => simp [World.cell?, e] at k
  | some ob =>
    cases ob with
    | cells c t f => exact (World.cell?_of_block ((h.1 b c t f e).trans e.symm)).trans k
    | _ => simp [World.cell?, e] at k
theorem KeepCM.at {w w' : World} (h : KeepCM w w') {b o : Nat} {v : Value} (k : At w b o v) : At w' b o v := by
  refine ⟨h.cell k.1, ?_⟩
  have k1 := k.1
  cases e : w.heap[b]? with
  | none => simp [World.cell?, e] at k1
  | some ob =>
    cases ob with
    | cells c t f => exact (World.frozen?_of_block (a := ⟨b, o, none⟩) ((h.1 b c t f e).trans e.symm)).trans k.2
    | _ => simp [World.cell?, e] at k1
theorem KeepCM.cel {w w' : World} (h : KeepCM w w') (RB : Nat) : Cel RB w w' := fun b c e f _ _ k => h.1 b c e f k
theorem KeepCM.tb {w w' : World} (h : KeepCM w w') {M n : Nat} {g : Int → Option Nat} (t : Tb w M g n) : Tb w' M g n := by
  obtain ⟨es, c, e⟩ := isMap_tb t
  exact t.of_block ((h.2 M es c e).trans e.symm)
theorem KeepCM.inn {w w' : World} (h : KeepCM w w') {M n : Nat} {g : ByteArray → Option Nat} (t : Inn w M g n) : Inn w' M g n := by
  obtain ⟨es, c, e⟩ := isMap_inn t
  exact t.of_block ((h.2 M es c e).trans e.symm)
theorem KeepCM.own {w w' : World} (h : KeepCM w w') {bs n : Nat} {sv : Value} {xs : List Value} (t : w.ownsRow bs 22 1 sv n xs) : w'.ownsRow bs 22 1 sv n xs :=
  own_kept t (fun b hb => by obtain ⟨c, e⟩ := own_isRow t hb; exact (h.1 b c _ _ e).trans e.symm)

section
variable {w w' : World} {bs RB M B n X b s : Nat} {hold : Bool} {k hi fl tp : Int} {ex : Int → Prop} {m : Md} {al : Nat → Bool} {g : Int → Option Nat} {h : Int → ByteArray → Option Nat} {sv : Value} {a : Nat → Int} {sp : Option Nat}

theorem Rx.keep (x : Rx w bs RB hold k hi fl tp ex m al M g h sv n a sp) (c : KeepCM w w') : Rx w' bs RB hold k hi fl tp ex m al M g h sv n a sp := by
  obtain ⟨a1, a2, a3, a4, a5, a6, a7, a8, a9, a10, a11, a12, a13, a14, a15, a16, a17, a18, a19, a20, a21, a22, a23, a24, a25, a26⟩ := x
  obtain ⟨s0, h1, h2⟩ := a10
  exact ⟨a1, a2, c.cell a3, c.cell a4, c.at a5, c.cell a6, c.at a7, c.at a8, c.at a9, ⟨s0, h1, c.tb h2⟩, fun r B hB => by obtain ⟨b1, b2, s, b3, b4⟩ := a11 r B hB; exact ⟨b1, b2, s, b3, c.inn b4⟩, a12, fun S hS => by obtain ⟨b1, b2, b3, b4⟩ := a13 S hS; exact ⟨b1, b2, c.inn b3, b4⟩, a14, a15, c.own a16, a17, a18, a19, a20, a21, a22, a23, a24, fun i hi => ⟨(a25 i hi).1, (a25 i hi).2.cel (c.cel RB) (a25 i hi).1⟩, a26⟩

/-- Entry i0 dies. -/
def kill (al : Nat → Bool) (i0 : Nat) : Nat → Bool := fun i => al i && !(i == i0)
theorem cnt_kill {al : Nat → Bool} {ne i0 : Nat} (h : i0 < ne) (ha : al i0 = true) : cnt (kill al i0) ne + 1 = cnt al ne := by
  rw [cnt_split al (fun i => i == i0) ne]
  have : cnt (fun i => al i && i == i0) ne = 1 := cnt_one h (by simp [ha]) (fun i _ hi => by simp [hi])
  rw [this]
  rfl
theorem is_kill {al : Nat → Bool} {i0 : Nat} (o : m.ok al) (h0 : i0 < m.ne) {r : Int} {p : ByteArray} {X : Nat} : m.is (kill al i0) r p X ↔ m.is al r p X ∧ ¬ (r = m.rd i0 ∧ p = m.pr i0) := by
  constructor
  · rintro ⟨i, hi, h1, h2, h3, h4⟩
    simp [kill] at h1
    refine ⟨⟨i, hi, h1.1, h2, h3, h4⟩, fun ⟨e1, e2⟩ => h1.2 (o.uq i i0 hi h0 (by rw [h2, e1]) (by rw [h3, e2]))⟩
  · rintro ⟨⟨i, hi, h1, h2, h3, h4⟩, hne⟩
    refine ⟨i, hi, ?_, h2, h3, h4⟩
    simp only [kill, Bool.and_eq_true, h1, true_and]
    simp
    rintro rfl
    exact hne ⟨h2.symm, h3.symm⟩

theorem rx_kill (x : Rx w bs RB hold k hi fl tp ex m al M g h sv n a sp) {i0 j0 : Nat} (h0 : i0 < m.ne) (ha : al i0 = true) (hj : j0 < m.ne) (haj : al j0 = true) (hr : m.rd j0 = m.rd i0) (hne : j0 ≠ i0) (hB : g (m.rd i0) = some B)
    (hI : ∃ s, s ≤ m.ne ∧ Inn w' B (setK (h (m.rd i0)) (m.pr i0) none) s) (o : Only [B, RB] w w') (rest : Rest w w' RB [7]) (c7 : At w' RB 7 (.int .i64 (cnt (kill al i0) m.ne))) :
    Rx w' bs RB hold k hi fl tp ex m (kill al i0) M g (fun r' => if r' = m.rd i0 then setK (h (m.rd i0)) (m.pr i0) none else h r') sv n a sp ∧ Cel RB w w' := by
  obtain ⟨s0, hs0, tb⟩ := x.tb
  obtain ⟨bB, BM, s1, hs1, hI1⟩ := x.inn _ B hB
  have mB := isMap_inn hI1
  have cel : Cel RB w w' := Cel.of_only o (fun b hb => by
    rcases List.mem_cons.1 hb with rfl | hb
    · exact .inr fun c e f hc => absurd hc (by obtain ⟨es, c', e'⟩ := mB; rw [e']; simp)
    · exact .inl (by simpa using hb))
  have nR : RB ≠ M := ne_map (isMap_tb tb) x.c0
  have hsub : ∀ i, kill al i0 i = true → al i = true := fun i h => by simp [kill] at h; exact h.1
  refine ⟨⟨x.bsR, x.bsM, (rest 0 (by decide)).1.trans x.c0, (rest 2 (by decide)).1.trans x.c2, rest.at x.c5 (by decide), (rest 6 (by decide)).1.trans x.c6, c7, rest.at x.c8 (by decide), rest.at x.c9 (by decide),
    ⟨s0, hs0, tb.of_block (o.block M tb.lt (by simp; exact ⟨BM.symm, nR.symm⟩))⟩, fun r' B' hg' => ?_, x.gin, fun S hS => ?_, fun r' => ?_, fun r' hg' p' X' => ?_, ?_, x.ownR, x.hp, x.ij, x.nle, x.hg, fun i hi ha => x.hn i hi (hsub i ha), x.top, x.tpf, fun i hi => ⟨(x.recs i hi).1, (x.recs i hi).2.cel cel (x.recs i hi).1⟩, ⟨x.mok.ne, x.mok.wf, x.mok.len, x.mok.uq⟩⟩, cel⟩
  · by_cases e : r' = m.rd i0
    · subst e
      obtain rfl : B' = B := by rw [hB] at hg'; exact (Option.some.inj hg').symm
      obtain ⟨s', h1, h2⟩ := hI
      refine ⟨bB, BM, s', h1, ?_⟩
      rw [if_pos rfl]
      exact h2
    · obtain ⟨b1, b2, s', h1, h2⟩ := x.inn r' B' hg'
      have hne : B' ≠ B := fun e' => e (x.gin r' _ B (e' ▸ hg') hB)
      refine ⟨b1, b2, s', h1, ?_⟩
      rw [if_neg e]
      exact h2.of_block (o.block B' h2.lt (by simp; exact ⟨hne, (ne_map (isMap_inn h2) x.c0).symm⟩))
  · obtain ⟨b1, b2, b3, b4⟩ := x.spare S hS
    exact ⟨b1, b2, b3.of_block (o.block S b3.lt (by simp; exact ⟨fun e => b4 _ (by rw [hB, e]), (ne_map (isMap_inn b3) x.c0).symm⟩)), b4⟩
  · rw [x.gal r']
    constructor
    · rintro ⟨i, hi, h1, h2⟩
      by_cases e : i = i0
      · subst e
        exact ⟨j0, hj, by simp [kill, haj, hne], by rw [hr, h2]⟩
      · exact ⟨i, hi, by simp [kill, h1, e], h2⟩
    · rintro ⟨i, hi, h1, h2⟩
      exact ⟨i, hi, hsub i h1, h2⟩
  · rw [is_kill x.mok h0]
    by_cases e : r' = m.rd i0
    · rw [if_pos e]
      by_cases ep : p' = m.pr i0
      · simp [setK, ep, e]
      · rw [← x.hal r' hg' p' X', e]
        simp [setK, ep]
    · rw [if_neg e, x.hal r' hg' p' X']
      simp [e]
  · exact own_kept x.own (fun b hb => by
      obtain ⟨c, hc⟩ := own_isRow x.own hb
      exact o.block b (blt hc) (by simp; exact ⟨row_not_map mB hc, fun e => x.ownR (by rw [hb, e])⟩))

end
end Go.Proofs.YbulkcmgaFmt
