/-
  The rule's state behind (*Rule).add: the plain half.
-/
import Derived.Test.YbulkcmgaFmtRu
namespace Go.Proofs.YbulkcmgaFmt
open Go Go.RowKit

section
variable {w w' : World} {bs RB M B n X b s : Nat} {hold : Bool} {k hi fl tp : Int} {ex : Int → Prop} {m : Md} {al : Nat → Bool} {g : Int → Option Nat} {h : Int → ByteArray → Option Nat} {sv : Value} {a : Nat → Int} {sp : Option Nat}

theorem isMap_tb (t : Tb w M g s) : ∃ es c, w.heap[M]? = some (.map es c) := by obtain ⟨D, ⟨es, c, hb, _⟩, _⟩ := t; exact ⟨es, c, hb⟩
theorem isMap_inn {f : ByteArray → Option Nat} (t : Inn w B f s) : ∃ es c, w.heap[B]? = some (.map es c) := by obtain ⟨D, ⟨es, c, hb, _⟩, _⟩ := t; exact ⟨es, c, hb⟩
theorem ne_map {o : Nat} {v : Value} (hm : ∃ es c, w.heap[M]? = some (.map es c)) (hc : w.cell? ⟨b, o, none⟩ = some v) : b ≠ M := by
  rintro rfl
  obtain ⟨es, c, e⟩ := hm
  simp [World.cell?, e] at hc
theorem own_isRow {xs : List Value} (h : w.ownsRow bs 22 1 sv n xs) (hb : sv.ownBlock = some b) : ∃ c, w.heap[b]? = some (.cells c 22 (0, 0)) := by
  obtain ⟨h0, h1⟩ := h
  rcases h1 with ⟨rfl, _⟩ | ⟨g', cap, cur, rfl, _, hblk, _⟩
  · cases hb
  · obtain rfl : g' = b := by simpa [Value.ownBlock] using hb
    exact ⟨cur, hblk⟩
theorem row_not_map {c : Array Value} {e : TypeId} {f : Nat × Nat} (hm : ∃ es c, w.heap[M]? = some (.map es c)) (h : w.heap[b]? = some (.cells c e f)) : b ≠ M := by
  rintro rfl
  obtain ⟨es, c', k⟩ := hm
  rw [h] at k
  cases k
theorem rec_not_map (hm : ∃ es c, w.heap[M]? = some (.map es c)) {v : Bool} (h : RecAt w X v) : X ≠ M := by
  obtain ⟨C, h1, _⟩ := h
  exact row_not_map hm h1
theorem rec_not_row {v : Bool} {xs : List Value} (o : w.ownsRow bs 22 1 sv n xs) (h : RecAt w X v) : sv.ownBlock ≠ some X := by
  intro e
  obtain ⟨c, k⟩ := own_isRow o e
  obtain ⟨C, h1, _⟩ := h
  rw [h1] at k
  cases k

/-- One entry more. -/
def Md.snoc (m : Md) (r : Int) (p : ByteArray) (v : Bool) (X : Nat) : Md :=
  { rd := fun i => if i = m.ne then r else m.rd i, pr := fun i => if i = m.ne then p else m.pr i, hd := fun i => if i = m.ne then v else m.hd i, rc := fun i => if i = m.ne then X else m.rc i, ne := m.ne + 1 }
def alive (al : Nat → Bool) (ne : Nat) : Nat → Bool := fun i => if i = ne then true else al i

theorem cnt_alive (al : Nat → Bool) (ne : Nat) : cnt (alive al ne) (ne + 1) = cnt al ne + 1 := by
  rw [cnt, cnt_congr (Q := al) (fun i hi => by simp [alive]; omega)]
  simp [alive]

theorem is_snoc {r r' : Int} {p p' : ByteArray} {v : Bool} {X X' : Nat} : (m.snoc r p v X).is (alive al m.ne) r' p' X' ↔ m.is al r' p' X' ∨ (r = r' ∧ p = p' ∧ X = X') := by
  constructor
  · rintro ⟨i, hi, h1, h2, h3, h4⟩
    simp only [Md.snoc, alive] at hi h1 h2 h3 h4
    by_cases e : i = m.ne
    · simp only [e, if_true] at h2 h3 h4
      exact .inr ⟨h2, h3, h4⟩
    · simp only [e, if_false] at h1 h2 h3 h4
      exact .inl ⟨i, by omega, h1, h2, h3, h4⟩
  · rintro (⟨i, hi, h1, h2, h3, h4⟩ | ⟨rfl, rfl, rfl⟩)
    · have e : i ≠ m.ne := by omega
      exact ⟨i, by simp only [Md.snoc]; omega, by simp [alive, e, h1], by simp [Md.snoc, e, h2], by simp [Md.snoc, e, h3], by simp [Md.snoc, e, h4]⟩
    · exact ⟨m.ne, by simp [Md.snoc], by simp [alive], by simp [Md.snoc], by simp [Md.snoc], by simp [Md.snoc]⟩

theorem al_snoc {r r' : Int} {p : ByteArray} {v : Bool} {X : Nat} : (∃ i, i < (m.snoc r p v X).ne ∧ alive al m.ne i = true ∧ (m.snoc r p v X).rd i = r') ↔ (∃ i, i < m.ne ∧ al i = true ∧ m.rd i = r') ∨ r = r' := by
  constructor
  · rintro ⟨i, hi, h1, h2⟩
    simp only [Md.snoc, alive] at hi h1 h2
    by_cases e : i = m.ne
    · simp only [e, if_true] at h2
      exact .inr h2
    · simp only [e, if_false] at h1 h2
      exact .inl ⟨i, by omega, h1, h2⟩
  · rintro (⟨i, hi, h1, h2⟩ | rfl)
    · have e : i ≠ m.ne := by omega
      exact ⟨i, by simp only [Md.snoc]; omega, by simp [alive, e, h1], by simp [Md.snoc, e, h2]⟩
    · exact ⟨m.ne, by simp [Md.snoc], by simp [alive], by simp [Md.snoc]⟩

/-- What the new entry must be. -/
structure New (w : World) (RB : Nat) (fl : Int) (m : Md) (r : Int) (p : ByteArray) (v : Bool) (X : Nat) : Prop where
  fl : fl ≤ r
  wf : (Lit.int .u64 r).wf = true
  len : p.size ≤ maxLen
  ne : m.ne < 300
  uq : ∀ i, i < m.ne → ¬ (m.rd i = r ∧ m.pr i = p)
  nR : X ≠ RB
  rat : RecAt w X v

variable {r : Int} {p : ByteArray} {v : Bool}

theorem New.ok (z : New w RB fl m r p v X) (o : m.ok al) : (m.snoc r p v X).ok (alive al m.ne) := by
  obtain ⟨o1, o2, o3, o4⟩ := o
  have hne := z.ne
  refine ⟨by simp only [Md.snoc]; omega, fun i hi => ?_, fun i hi => ?_, fun i j hi hj h1 h2 => ?_⟩
  · simp only [Md.snoc] at hi ⊢
    by_cases e : i = m.ne
    · rw [if_pos e]; exact z.wf
    · rw [if_neg e]; exact o2 i (by omega)
  · simp only [Md.snoc] at hi ⊢
    by_cases e : i = m.ne
    · rw [if_pos e]; exact z.len
    · rw [if_neg e]; exact o3 i (by omega)
  · simp only [Md.snoc] at hi hj h1 h2
    by_cases e : i = m.ne <;> by_cases e' : j = m.ne
    · omega
    · simp only [e, e', if_true, if_false] at h1 h2
      exact absurd ⟨h1.symm, h2.symm⟩ (z.uq j (by omega))
    · simp only [e, e', if_true, if_false] at h1 h2
      exact absurd ⟨h1, h2⟩ (z.uq i (by omega))
    · simp only [e, e', if_false] at h1 h2
      exact o4 i j (by omega) (by omega) h1 h2

theorem Rx.none (x : Rx w bs RB hold k hi fl tp ex m al M g h sv n a sp) (z : New w RB fl m r p v X) (hg : (g r).isSome = true) : h r p = none := by
  cases e : h r p with
  | none => rfl
  | some Y =>
    obtain ⟨i, hi, _, h2, h3, _⟩ := (x.hal r hg p Y).1 e
    exact absurd ⟨h2, h3⟩ (z.uq i hi)

theorem Rx.recs_snoc (x : Rx w bs RB hold k hi fl tp ex m al M g h sv n a sp) (z : New w RB fl m r p v X) (c : Cel RB w w') : ∀ i, i < (m.snoc r p v X).ne → (m.snoc r p v X).rc i ≠ RB ∧ RecAt w' ((m.snoc r p v X).rc i) ((m.snoc r p v X).hd i) := by
  intro i hi
  simp only [Md.snoc] at hi ⊢
  by_cases e : i = m.ne
  · simp only [e, if_true]
    exact ⟨z.nR, z.rat.cel c z.nR⟩
  · simp only [e, if_false]
    obtain ⟨h1, h2⟩ := x.recs i (by omega)
    exact ⟨h1, h2.cel c h1⟩

/-- The round had its map. -/
theorem Rx.add_old (x : Rx w bs RB hold k hi fl tp ex m al M g h sv n a sp) (z : New w RB fl m r p v X) (hB : g r = some B) (hI : ∃ s, s ≤ m.ne + 1 ∧ Inn w' B (setK (h r) p (some X)) s) (o : Only [B, RB] w w') (rest : Rest w w' RB [7])
    (c7 : At w' RB 7 (.int .i64 ((cnt al m.ne + 1 : Nat)))) : Ru w' bs RB hold k hi fl tp ex (m.snoc r p v X) (alive al m.ne) ∧ Cel RB w w' := by
  obtain ⟨s0, hs0, tb⟩ := x.tb
  obtain ⟨bB, BM, s1, hs1, hI1⟩ := x.inn r B hB
  have mB := isMap_inn hI1
  have rB : RB ≠ B := ne_map mB x.c0
  have cel : Cel RB w w' := Cel.of_only o (fun b hb => by
    rcases List.mem_cons.1 hb with rfl | hb
    · exact .inr fun c e f hc => absurd hc (by obtain ⟨es, c', e'⟩ := mB; rw [e']; simp)
    · exact .inl (by simpa using hb))
  have hgr : (g r).isSome = true := by rw [hB]; rfl
  have nR : RB ≠ M := ne_map (isMap_tb tb) x.c0
  refine ⟨⟨M, g, fun r' => if r' = r then setK (h r) p (some X) else h r', sv, n, a, sp, x.bsR, x.bsM, (rest 0 (by decide)).1.trans x.c0, (rest 2 (by decide)).1.trans x.c2, rest.at x.c5 (by decide), (rest 6 (by decide)).1.trans x.c6, ?_, rest.at x.c8 (by decide), rest.at x.c9 (by decide),
    ⟨s0, by simp only [Md.snoc]; omega, tb.of_block (o.block M tb.lt (by simp; exact ⟨BM.symm, nR.symm⟩))⟩, fun r' B' hg' => ?_, x.gin, fun S hS => ?_, fun r' => ?_, fun r' hg' p' X' => ?_, ?_, x.ownR, x.hp, x.ij, by have := x.nle; simp only [Md.snoc]; omega, x.hg, fun i hi ha => ?_, x.top, x.tpf, x.recs_snoc z cel, z.ok x.mok⟩, cel⟩
  · have : cnt (alive al m.ne) (m.snoc r p v X).ne = cnt al m.ne + 1 := cnt_alive al m.ne
    rw [this]
    exact c7
  · by_cases e : r' = r
    · subst e
      obtain rfl : B' = B := by rw [hB] at hg'; exact (Option.some.inj hg').symm
      obtain ⟨s', h1, h2⟩ := hI
      refine ⟨bB, BM, s', by simp only [Md.snoc]; omega, ?_⟩
      rw [if_pos rfl]
      exact h2
    · obtain ⟨b1, b2, s', h1, h2⟩ := x.inn r' B' hg'
      have hne : B' ≠ B := fun e' => e (x.gin r' r B (e' ▸ hg') hB)
      refine ⟨b1, b2, s', by simp only [Md.snoc]; omega, ?_⟩
      rw [if_neg e]
      exact h2.of_block (o.block B' h2.lt (by simp; exact ⟨hne, (ne_map (isMap_inn h2) x.c0).symm⟩))
  · obtain ⟨b1, b2, b3, b4⟩ := x.spare S hS
    exact ⟨b1, b2, b3.of_block (o.block S b3.lt (by simp; exact ⟨fun e => b4 r (by rw [hB, e]), (ne_map (isMap_inn b3) x.c0).symm⟩)), b4⟩
  · rw [al_snoc, x.gal r']
    constructor
    · exact .inl
    · rintro (k | rfl)
      · exact k
      · exact (x.gal r).1 hgr
  · rw [is_snoc]
    by_cases e : r' = r
    · subst e
      rw [if_pos rfl]
      by_cases ep : p' = p
      · subst ep
        have hno := x.none z hg'
        have hn0 : ¬ m.is al r' p' X' := fun k => by rw [(x.hal r' hg' p' X').2 k] at hno; cases hno
        simp [setK, hn0]
      · have : ¬ p = p' := fun e => ep e.symm
        simp [setK, ep, this, x.hal r' hg' p' X']
    · have : ¬ r = r' := fun e' => e e'.symm
      simp [e, this, x.hal r' hg' p' X']
  · exact own_kept x.own (fun b hb => by
      obtain ⟨c, hc⟩ := own_isRow x.own hb
      exact o.block b (blt hc) (by simp; exact ⟨row_not_map mB hc, fun e => x.ownR (by rw [hb, e])⟩))
  · simp only [Md.snoc] at hi ⊢
    simp only [alive] at ha
    by_cases e : i = m.ne
    · simp only [e, if_true]
      obtain ⟨j, hj, h1, h2⟩ := (x.gal r).1 hgr
      rcases x.hn j hj h1 with k | ⟨_, _, k⟩ | k
      · exact .inl (by rw [← h2]; exact k)
      · have := z.fl
        omega
      · exact .inr (.inr (by rw [← h2]; exact k))
    · simp only [e, if_false] at ha ⊢
      exact x.hn i (by omega) ha

/-- The round had none. -/
theorem Rx.add_new (x : Rx w bs RB hold k hi fl tp ex m al M g h sv n a sp) (z : New w RB fl m r p v X) (hB : g r = Option.none) (bB : bs ≤ B) (BM : B ≠ M) (Bg : ∀ r, g r ≠ some B) (hk : (∃ es c, w.heap[B]? = some (.map es c)) ∨ w.heap.size ≤ B)
    (hT : ∃ s, s ≤ m.ne + 1 ∧ Tb w' M (setK g r (some B)) s) (hI : ∃ s, s ≤ m.ne + 1 ∧ Inn w' B (setK (fun _ => Option.none) p (some X)) s) {sv' : Value} {a' : Nat → Int} (c8 : At w' RB 8 sv') (own : w'.ownsRow bs 22 1 sv' (n + 1) (wordsL a' (n + 1))) (ownR : sv'.ownBlock ≠ some RB)
    (hp : HeapO a' (n + 1)) (sm : Same (YbulkcmgaFmt.snoc a n r) a' (n + 1)) (o : Only (B :: M :: RB :: sv.ownBlock.toList) w w') (rest : Rest w w' RB [7, 8, 9])
    (c7 : At w' RB 7 (.int .i64 ((cnt al m.ne + 1 : Nat)))) (c9 : At w' RB 9 (mv Option.none)) : Ru w' bs RB hold k hi fl tp ex (m.snoc r p v X) (alive al m.ne) ∧ Cel RB w w' := by
  obtain ⟨s0, hs0, tb⟩ := x.tb
  have mM := isMap_tb tb
  have nR : RB ≠ M := ne_map mM x.c0
  have cel : Cel RB w w' := Cel.of_only o (fun b hb => by
    rcases List.mem_cons.1 hb with rfl | hb
    · refine .inr fun c e f hc => ?_
      rcases hk with ⟨es, c', e'⟩ | hk
      · rw [e'] at hc; cases hc
      · have := blt hc
        omega
    · rcases List.mem_cons.1 hb with rfl | hb
      · exact .inr fun c e f hc => absurd hc (by obtain ⟨es, c', e'⟩ := mM; rw [e']; simp)
      · rcases List.mem_cons.1 hb with rfl | hb
        · exact .inl rfl
        · refine .inr fun c e f hc => ?_
          obtain ⟨c', k⟩ := own_isRow x.own (by simpa using hb)
          rw [k] at hc
          cases hc
          rfl)
  have noR : ¬ Mem a n r := by
    rintro ⟨j, hj, e⟩
    have := x.hg j hj
    rw [e, hB] at this
    cases this
  have noI : ∀ i, i < m.ne → al i = true → m.rd i ≠ r := fun i hi ha e => by
    have := (x.gal r).2 ⟨i, hi, ha, e⟩
    rw [hB] at this
    cases this
  have kept : ∀ b f s, Inn w b f s → b ≠ B → b ≠ M → Inn w' b f s := fun b f s hi h1 h2 => hi.of_block (o.block b hi.lt (by
    simp only [List.mem_cons, not_or]
    refine ⟨h1, h2, (ne_map (isMap_inn hi) x.c0).symm, fun hb => ?_⟩
    obtain ⟨c', k⟩ := own_isRow x.own (by simpa using hb)
    exact row_not_map (isMap_inn hi) k rfl))
  obtain ⟨sT, hsT, T⟩ := hT
  have htop : ∀ j, j < n + 1 → tp ≤ a' j := fun j hj => by
    rcases mem_snoc.1 ((sm.mem _).1 ⟨j, hj, rfl⟩) with ⟨l, hl, e⟩ | e
    · rw [← e]
      exact x.top l hl
    · have := x.tpf
      have := z.fl
      omega
  refine ⟨⟨M, setK g r (some B), fun r' => if r' = r then setK (fun _ => Option.none) p (some X) else h r', sv', n + 1, a', Option.none, x.bsR, x.bsM, (rest 0 (by decide)).1.trans x.c0, (rest 2 (by decide)).1.trans x.c2, rest.at x.c5 (by decide), (rest 6 (by decide)).1.trans x.c6, ?_, c8, c9,
    ⟨sT, by simp only [Md.snoc]; omega, T⟩, fun r' B' hg' => ?_, fun r1 r2 B' h1 h2 => ?_, (fun S hS => by cases hS), fun r' => ?_, fun r' hg' p' X' => ?_, own, ownR, hp, sm.inj (inj_snoc x.ij noR), by have := x.nle; simp only [Md.snoc]; omega, fun j hj => ?_, fun i hi ha => ?_, fun j hj => htop j hj, x.tpf, x.recs_snoc z cel, z.ok x.mok⟩, cel⟩
  · have : cnt (alive al m.ne) (m.snoc r p v X).ne = cnt al m.ne + 1 := cnt_alive al m.ne
    rw [this]
    exact c7
  · by_cases e : r' = r
    · subst e
      obtain rfl : B = B' := by simpa [setK] using hg'
      obtain ⟨s', h1, h2⟩ := hI
      refine ⟨bB, BM, s', by simp only [Md.snoc]; omega, ?_⟩
      rw [if_pos rfl]
      exact h2
    · have hg2 : g r' = some B' := by simpa [setK, e] using hg'
      obtain ⟨b1, b2, s', h1, h2⟩ := x.inn r' B' hg2
      refine ⟨b1, b2, s', by simp only [Md.snoc]; omega, ?_⟩
      rw [if_neg e]
      exact kept B' _ _ h2 (fun e' => Bg r' (by rw [hg2, e'])) b2
  · by_cases e1 : r1 = r <;> by_cases e2 : r2 = r
    · rw [e1, e2]
    · have k1 : B = B' := by simpa [setK, e1] using h1
      have k2 : g r2 = some B' := by simpa [setK, e2] using h2
      exact absurd (k1 ▸ k2) (Bg r2)
    · have k1 : B = B' := by simpa [setK, e2] using h2
      have k2 : g r1 = some B' := by simpa [setK, e1] using h1
      exact absurd (k1 ▸ k2) (Bg r1)
    · exact x.gin r1 r2 B' (by simpa [setK, e1] using h1) (by simpa [setK, e2] using h2)
  · rw [al_snoc]
    by_cases e : r' = r
    · subst e
      simp [setK]
    · have : ¬ r = r' := fun e' => e e'.symm
      simp [setK, e, this, x.gal r']
  · rw [is_snoc]
    by_cases e : r' = r
    · subst e
      rw [if_pos rfl]
      have hn0 : ¬ m.is al r' p' X' := fun ⟨i, hi, ha, e, _⟩ => noI i hi ha e
      by_cases ep : p' = p
      · subst ep
        simp [setK, hn0]
      · have : ¬ p = p' := fun e => ep e.symm
        simp [setK, ep, this, hn0]
    · have : ¬ r = r' := fun e' => e e'.symm
      have hg2 : (g r').isSome = true := by simpa [setK, e] using hg'
      simp [e, this, x.hal r' hg2 p' X']
  · have hm : Mem (YbulkcmgaFmt.snoc a n r) (n + 1) (a' j) := (sm.mem _).1 ⟨j, hj, rfl⟩
    rcases mem_snoc.1 hm with ⟨l, hl, e⟩ | e
    · rw [← e]
      by_cases e' : a l = r
      · simp [setK, e']
      · simp [setK, e', x.hg l hl]
    · rw [e]
      simp [setK]
  · have hmem : ∀ q, Mem a n q ∨ q = r → Mem a' (n + 1) q := fun q hq => (sm.mem q).2 (mem_snoc.2 hq)
    simp only [Md.snoc] at hi ⊢
    simp only [alive] at ha
    by_cases e : i = m.ne
    · simp only [e, if_true]
      exact .inl (hmem r (.inr rfl))
    · simp only [e, if_false] at ha ⊢
      rcases x.hn i (by omega) ha with k | k
      · exact .inl (hmem _ (.inl k))
      · exact .inr k

end
end Go.Proofs.YbulkcmgaFmt
