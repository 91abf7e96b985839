/-
  More helpers of LawS4407BHorizon.
-/
import Derived.Test.YbulkcmgaFmtHzLib
namespace Go.Proofs.YbulkcmgaFmt
open Go Go.RowKit Go.Maps

variable {w w' : World} {bs RB E cap X : Nat} {m : Md} {al al' : Nat → Bool} {ev : Value} {hold : Bool} {k hi fl tp : Int} {ex : Int → Prop} {r : Int} {p : ByteArray} {v : Bool}

theorem add_any (ru : Ru w bs RB hold k hi fl tp ex m al) (z : New w RB fl m r p v X) :
    Calls Ybaf.prog 12 #[.pointer (some ⟨RB, 0, none⟩), .agg #[.int .u64 r, .string p], .pointer (some ⟨X, 0, none⟩)] w fun e w' => e = .returned (.tuple #[]) ∧ Ru w' bs RB hold k hi fl tp ex (m.snoc r p v X) (alive al m.ne) ∧ Cel RB w w' ∧ Below bs w w' := by
  obtain ⟨M, g, h, sv, n, a, sp, x⟩ := ru
  cases hg : g r with
  | some B => exact add_old x z hg
  | none =>
    cases hs : sp with
    | some S => exact add_spare x z hg hs
    | none => exact add_made x z hg hs

/-- What is done to the entries' row leaves the rule as it was. -/
theorem rx_ents {M n : Nat} {g : Int → Option Nat} {h : Int → ByteArray → Option Nat} {sv : Value} {a : Nat → Int} {sp : Option Nat} (x : Rx w bs RB hold k hi fl tp ex m al M g h sv n a sp) (hE : ∀ c e f, w.heap[E]? = some (.cells c e f) → e = 77) (hM : ¬ ∃ es c, w.heap[E]? = some (.map es c)) (hR : E ≠ RB) (o : Only [E] w w') : Rx w' bs RB hold k hi fl tp ex m al M g h sv n a sp := by
  obtain ⟨a1, a2, a3, a4, a5, a6, a7, a8, a9, a10, a11, a12, a13, a14, a15, a16, a17, a18, a19, a20, a21, a22, a23, a24, a25, a26⟩ := x
  have lR := a5.lt
  have nR : RB ∉ [E] := by simpa using fun e => hR e.symm
  have cR : ∀ {oo : Nat} {u : Value}, w.cell? ⟨RB, oo, none⟩ = some u → w'.cell? ⟨RB, oo, none⟩ = some u := fun {oo u} hc => (o.cell (p := ⟨RB, oo, none⟩) lR nR).trans hc
  have nm : ∀ b, (∃ es c, w.heap[b]? = some (Obj.map es c)) → b ∉ [E] := fun b hm => by
    simp
    rintro rfl
    exact hM hm
  obtain ⟨s0, h1, h2⟩ := a10
  refine ⟨a1, a2, cR a3, cR a4, a5.only o nR, cR a6, a7.only o nR, a8.only o nR, a9.only o nR, ⟨s0, h1, h2.of_block (o.block M h2.lt (nm M (isMap_tb h2)))⟩, fun r B hB => ?_, a12, fun S hS => ?_, a14, a15, own_kept a16 (fun b hb => ?_), a17, a18, a19, a20, a21, a22, a23, a24, fun i hi => ?_, a26⟩
  · obtain ⟨b1, b2, s, b3, b4⟩ := a11 r B hB
    exact ⟨b1, b2, s, b3, b4.of_block (o.block B b4.lt (nm B (isMap_inn b4)))⟩
  · obtain ⟨b1, b2, b3, b4⟩ := a13 S hS
    exact ⟨b1, b2, b3.of_block (o.block S b3.lt (nm S (isMap_inn b3))), b4⟩
  · obtain ⟨c, hc⟩ := own_isRow a16 hb
    exact o.block b (blt hc) (by
      simp
      rintro rfl
      have := hE _ _ _ hc
      cases this)
  · obtain ⟨b1, C, b2, b3⟩ := a25 i hi
    refine ⟨b1, C, (o.block _ (blt b2) ?_).trans b2, b3⟩
    simp
    intro e
    rw [e] at b2
    have := hE _ _ _ b2
    cases this

theorem ru_ents (ru : Ru w bs RB hold k hi fl tp ex m al) (hE : ∀ c e f, w.heap[E]? = some (.cells c e f) → e = 77) (hM : ¬ ∃ es c, w.heap[E]? = some (.map es c)) (hR : E ≠ RB) (o : Only [E] w w') : Ru w' bs RB hold k hi fl tp ex m al := by
  obtain ⟨M, g, h, sv, n, a, sp, x⟩ := ru
  exact ⟨M, g, h, sv, n, a, sp, rx_ents x hE hM hR o⟩

theorem Er.isEnt (h : Er w E cap m al) : (∀ c e f, w.heap[E]? = some (.cells c e f) → e = 77) ∧ ¬ ∃ es c, w.heap[E]? = some (.map es c) := by
  obtain ⟨_, _, f, ⟨cur, hb, _⟩, _⟩ := h
  constructor
  · intro c e f hc
    rw [hb] at hc
    cases hc
    rfl
  · rintro ⟨es, c, hc⟩
    rw [hb] at hc
    cases hc

/-- The first i marked. -/
def mix (al lv : Nat → Bool) (i : Nat) : Nat → Bool := fun l => if l < i then lv l else al l

theorem Er.mark_yes {lv : Nat → Bool} {i : Nat} (h : Er w E cap m (mix al lv i)) (hi : i < m.ne) (hl : lv i = false) : Er (w.setCell ⟨E, i * 5 + 3, none⟩ (.bool false)) E cap m (mix al lv (i + 1)) := by
  refine (h.kill hi).congr (fun l hl' => ?_)
  simp only [YbulkcmgaFmt.kill, mix]
  by_cases e : l = i
  · subst e
    simp [hl]
  · by_cases e2 : l < i
    · simp [e2, e, show l < i + 1 by omega]
    · simp [e2, e, show ¬ l < i + 1 by omega]
theorem Er.mark_no {lv : Nat → Bool} {i : Nat} (h : Er w E cap m (mix al lv i)) (hl : lv i = al i) : Er w E cap m (mix al lv (i + 1)) := by
  refine h.congr (fun l hl' => ?_)
  simp only [mix]
  by_cases e : l = i
  · subst e
    simp [hl]
  · by_cases e2 : l < i
    · simp [e2, show l < i + 1 by omega]
    · simp [e2, show ¬ l < i + 1 by omega]

theorem flo_mono {x y k : Int} (h : x < y) : flo x k ≤ flo y k := by
  unfold flo
  split <;> split <;> omega
theorem flo_rng {x k : Int} (h1 : 0 ≤ x) (h2 : x ≤ 18446744073709551615) (hk : 1 ≤ k) : 0 ≤ flo x k ∧ flo x k ≤ 18446744073709551615 := by
  unfold flo
  split <;> omega

theorem ru_keep (h : Ru w bs RB hold k hi fl tp ex m al) (c : KeepCM w w') : Ru w' bs RB hold k hi fl tp ex m al := by
  obtain ⟨M, g, h', sv, n, a, sp, x⟩ := h
  exact ⟨M, g, h', sv, n, a, sp, x.keep c⟩

/-- An append to the entries leaves the rule as it was. -/
theorem ru_append {m' : Md} {al2 : Nat → Bool} (ru : Ru w bs RB hold k hi fl tp ex m' al2) (es : Es w bs RB ev m al) (hg : w.grownBy w' ev.ownBlock) : Ru w' bs RB hold k hi fl tp ex m' al2 := by
  rcases es with ⟨_, rfl⟩ | ⟨E, cap, rfl, h2, h3, h4⟩
  · exact ru_keep ru (KeepCM.of_below (grown_below hg _ (Nat.le_refl _) (fun k hk => by cases hk)))
  · obtain ⟨e1, e2⟩ := h4.isEnt
    exact ru_ents ru e1 e2 h3 (Only.of_grown hg)
theorem es_below (es : Es w bs RB ev m al) (hg : w.grownBy w' ev.ownBlock) (hb : bs ≤ w.heap.size) : Below bs w w' := by
  rcases es with ⟨_, rfl⟩ | ⟨E, cap, rfl, h2, h3, h4⟩
  · exact grown_below hg _ hb (fun k hk => by cases hk)
  · exact grown_below hg _ hb (fun k hk => by
      obtain rfl : E = k := by simpa [Value.ownBlock] using hk
      exact h2)
theorem es_ne (es : Es w bs RB ev m al) {G : Nat} (hG : ev.ownBlock = some G) : G ≠ RB := by
  rcases es with ⟨_, rfl⟩ | ⟨E, cap, rfl, h2, h3, h4⟩
  · cases hG
  · obtain rfl : E = G := by simpa [Value.ownBlock] using hG
    exact h3
theorem wf_u64 {r : Int} (h : 0 ≤ r ∧ r ≤ 18446744073709551615) : (Lit.int .u64 r).wf = true := by
  simp [Lit.wf, IntKind.min, IntKind.max, IntKind.signed, IntKind.bits]
  omega

theorem es_congr (h : Es w bs RB ev m al) (e : ∀ i, i < m.ne → al i = al' i) : Es w bs RB ev m al' := by
  rcases h with h | ⟨E, cap, h1, h2, h3, h4⟩
  · exact .inl h
  · exact .inr ⟨E, cap, h1, h2, h3, h4.congr e⟩
theorem mix_zero (al lv : Nat → Bool) (i : Nat) : mix al lv 0 i = al i := by simp [mix]
theorem mix_all {lv : Nat → Bool} {n i : Nat} (h : i < n) : mix al lv n i = lv i := by simp [mix, h]
theorem mix_here {lv : Nat → Bool} (i : Nat) : mix al lv i i = al i := by simp [mix]
theorem Er.frozen (h : Er w E cap m al) (o : Nat) : w.frozen? ⟨E, o, none⟩ = false := by obtain ⟨_, _, f, r, _⟩ := h; exact r.frozen o

end Go.Proofs.YbulkcmgaFmt
