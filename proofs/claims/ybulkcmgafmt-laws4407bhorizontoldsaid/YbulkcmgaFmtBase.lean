/-
  Helpers of this seat: a region that draws with a forced tail; whole rows stored; small facts on worlds.
-/
import Derived.StillTail
import Derived.Deep.Quiet
import Derived.Deep.OwnRows
import Derived.Deep.MidRow
import Derived.WalkKit
import Derived.WalkSpells
import Derived.WalkLawsBesides
namespace Go.Proofs.YbulkcmgaFmt
open Go Go.RowKit

theorem hid {p : Prop} (h : p) : Hid p := h
theorem ret_int {k : IntKind} {a b : Int} (h : a = b) : Ending.returned (.int k a) = .returned (.int k b) := by rw [h]
theorem after_below {W w2 : World} {p t n : Nat} {f : Nat → Value} (hb : Below W.heap.size W w2) (hr : W.rowIs p t n f) : w2.rowIs p t n f := hr.of_block (hb.block p hr.lt)
theorem at_cell {w : World} {p t n : Nat} {f : Nat → Value} (hr : w.rowIs p t n f) (i : Nat) (hi : i < n) {v : Value} (hv : f i = v) : w.cell? ⟨p, i, none⟩ = some v := hv ▸ hr.cell hi
theorem bcell {W w1 : World} (hb : Below W.heap.size W w1) : (∀ b o, b < W.heap.size → w1.cell? ⟨b, o, none⟩ = W.cell? ⟨b, o, none⟩) ∧ (∀ b o, b < W.heap.size → w1.frozen? ⟨b, o, none⟩ = W.frozen? ⟨b, o, none⟩) :=
  ⟨fun b o h => hb.cell (p := ⟨b, o, none⟩) h, fun b o h => hb.frozen (p := ⟨b, o, none⟩) h⟩

section
variable {P : Program} {ops : Array Oper} {md : Region.Mode} {C : World → Prop}

def headQ (P : Program) (md : Region.Mode) (ops : Array Oper) (C : World → Prop) (n : Nat) (L : Array Bool → Act → Prop) : Nat → Array Bool → Act → Prop
  | 0, listed, a => L listed a
  | f + 1, listed, a => Region.ready md ops listed ≠ [] ∧ ∀ i ∈ Region.ready md ops listed, i < n ∧ qOp P ops C i (headQ P md ops C n L f (listed.setIfInBounds i true)) a

theorem any_of_headQ {n g : Nat} {L : Array Bool → Act → Prop} {Q' : Exit → Act → World → Prop} (hL : ∀ listed a w, C w → L listed a → wpAny P md ops Q' g listed a w) :
    ∀ (f : Nat) (listed : Array Bool) (a : Act) (w : World), C w → headQ P md ops C n L f listed a → wpAny P md ops Q' (f + g) listed a w
  | 0, listed, a, w, hw, h => by rw [Nat.zero_add]; exact hL _ _ _ hw h
  | f + 1, listed, a, w, hw, h => by
    rw [show f + 1 + g = (f + g) + 1 by omega]
    exact ⟨fun h0 => absurd h0 h.1, fun i hi => wpOp_of_qOp hw (fun a' w' hw' h' => any_of_headQ hL f _ a' w' hw' h') (h.2 i hi).2⟩

theorem headQ_first {n i : Nat} {oi : Oper} {v : Value} {L : Array Bool → Act → Prop} (hi : ops[i]? = some oi) (hsel : ∀ (j : Nat) (o : Oper) cs b, ops[j]? = some o → o.op ≠ .select cs b)
    (hs : Region.sinkB md ops n = true) (hc : Region.chainB md ops n = true) (hn : n < ops.size) (hin : i < n) (hdone : ∀ listed a, L listed a → ∀ j ∈ Region.ready md ops listed, n ≤ j) :
    ∀ (f : Nat) (listed : Array Bool) (a : Act), HeadInv md ops n listed →
      (∀ j oj, ops[j]? = some oj → j ≠ i → listed.getD j true = false → (∀ e ∈ oj.after, Region.binds md e = true → e.on ≠ i) → oi.apart ops oj = true) →
      i ∈ Region.ready md ops listed → YieldsIn P ops C oi v a →
      headQ P md ops C n L f (listed.setIfInBounds i true) (a.put oi.dst v) → headQ P md ops C n L (f + 1) listed a := by
  intro f
  induction f with
  | zero =>
    intro listed a inv _ hr hy H
    refine ⟨fun h => (by rw [h] at hr; cases hr), fun j hj => ?_⟩
    have hjn : j < n := Nat.lt_of_not_le fun h => tail_waits hs hc hn inv _ i rfl hin (mem_ready.1 hr).1 j h hj
    refine ⟨hjn, ?_⟩
    by_cases hji : j = i
    · subst hji; exact hy.qOp hi H
    · have := hdone _ _ H j (ready_mono hj hji)
      omega
  | succ f ih =>
    intro listed a inv hfree hr hy H
    have hun := (mem_ready.1 hr).1
    refine ⟨fun h => (by rw [h] at hr; cases hr), fun j hj => ?_⟩
    have hjn : j < n := Nat.lt_of_not_le fun h => tail_waits hs hc hn inv _ i rfl hin hun j h hj
    refine ⟨hjn, ?_⟩
    by_cases hji : j = i
    · subst hji; exact hy.qOp hi H
    · obtain ⟨hjun, oj, hoj, hall⟩ := mem_ready.1 hj
      have hnot : ∀ e ∈ oj.after, Region.binds md e = true → e.on ≠ i := fun e he hb heq => by
        have h1 := hall e he hb
        rw [heq, getD_both hun] at h1
        cases h1
      have h2 := qOp_put hoj (hfree j oj hoj hji hjun hnot) (fun cs b => hsel i oi cs b hi) (fun cs b => hsel j oj cs b hoj) hy (H.2 j (ready_mono hj hji)).2
      refine qOp_mono (fun a' h3 => ih (listed.setIfInBounds j true) a' (inv.set hj hjn) (fun k ok hk hki hun' hno => ?_) (ready_mono hr (Ne.symm hji)) h3.1 ?_) h2
      · refine hfree k ok hk hki ?_ hno
        by_cases hjk : j = k
        · subst hjk; exact hjun
        · rw [getD_set_ne true hjk] at hun'; exact hun'
      · rw [Array.setIfInBounds_comm _ _ hji]
        exact h3.2

theorem headQ_lex {n g : Nat} {Lq : Act → Prop} (hsel : Region.noSelect ops = true) (hs : Region.sinkB md ops n = true) (hc : Region.chainB md ops n = true) (hn : n < ops.size) :
    ∀ (l : List Oper) (k : Nat) (listed : Array Bool) (a : Act), (∀ j, j < l.length → l[j]? = ops[k + j]?) → k + l.length = n → HeadInv md ops n listed →
    Region.lexHead md ops g l.length k listed = true → wpQuiet P ops C Lq l a → headQ P md ops C n (fun listed' a' => Region.seqB md ops g n listed' = true ∧ Lq a') l.length listed a
  | [], k, listed, a, _, hk, _, hB, h => by
    have : k = n := by simpa using hk
    subst this
    exact ⟨by simpa [Region.lexHead] using hB, h⟩
  | o :: l, k, listed, a, hl, hk, inv, hB, h => by
    have h0 : ops[k]? = some o := by simpa using (hl 0 (by simp)).symm
    simp only [List.length_cons, Region.lexHead, Bool.and_eq_true] at hB
    obtain ⟨⟨hr, hf⟩, hB'⟩ := hB
    have hkn : k < n := by simp only [List.length_cons] at hk; omega
    have hr' : k ∈ Region.ready md ops listed := by simpa using hr
    have hst : qOp P ops C k (wpQuiet P ops C Lq l) a := by unfold qOp; simp only [h0]; exact h
    obtain ⟨v, hy, hK⟩ := yieldsIn_of_qOp h0 hst
    exact headQ_first h0 (Region.noSelect_spec hsel) hs hc hn hkn (fun listed' a' hL => seqB_ready hL.1) l.length listed a inv (Region.free_spec h0 hf) hr' hy
      (headQ_lex hsel hs hc hn l (k + 1) _ _ (fun j hj => by have := hl (j + 1) (by simp; omega); simpa [Nat.add_assoc, Nat.add_comm 1 j] using this) (by simp only [List.length_cons] at hk; omega) (inv.set hr' hkn) hB' hK)

/-- THE LAW. -/
theorem region_quiet_tail {id : Nat} {Q : Exit → Act → World → Prop} {a : Act} {w : World} {l : List Oper} (n : Nat) (hm : P.follows .mixedOrders = true) (hB : Region.lexTailB .any l.toArray n = true) (hC : C w.drew)
    (h : wpQuiet P l.toArray C (fun a' => ∀ w', C w' → wpList P l.toArray Q (l.drop n) a' w') (l.take n) a) : (Code.region id l.toArray true).wp P Q a w := by
  simp only [Region.lexTailB, Bool.and_eq_true, decide_eq_true_eq] at hB
  obtain ⟨⟨⟨⟨hsel, hn⟩, hs⟩, hc⟩, hlex⟩ := hB
  have hn' : n < l.length := by simpa using hn
  have htl : (l.take n).length = n := by simp; omega
  have hdl : (l.drop n).length = l.toArray.size - n := by simp
  have inv0 : HeadInv .any l.toArray n (Array.replicate l.toArray.size false) :=
    ⟨by simp, fun j oj _ hl => (by rw [getD_replicate_false] at hl; cases hl), fun t _ ht => getD_in (by simpa using ht) (getD_replicate_false _ _)⟩
  have H := headQ_lex (md := .any) (g := l.toArray.size - n) hsel hs hc hn (l.take n) 0 _ a (fun j hj => by
    have hj' : j < n := by rw [htl] at hj; exact hj
    simp [hj']) (by simpa using htl) inv0 (by rw [htl]; exact hlex) h
  refine wp_region_any hm ?_
  have := any_of_headQ (Q' := Q) (g := l.toArray.size - n) (fun listed a' w' hw' hL => by
    have := wpAny_of_seq (md := .any) (Q' := Q) (l.drop n) n listed a' w' (fun j => by simp [List.getElem?_drop]) (by rw [hdl]; exact hL.1) (hL.2 w' hw')
    rwa [hdl] at this) _ _ _ w.drew hC H
  rw [htl, show n + (l.toArray.size - n) = l.toArray.size by omega] at this
  exact this
end

theorem row_setCells {b t n : Nat} : ∀ (vs : List Value) (o : Nat) (f : Nat → Value) (w : World), w.rowIs b t n f → (w.setCells b o vs).rowIs b t n (fun i => if o ≤ i ∧ i < o + vs.length then vs.getD (i - o) undef else f i)
  | [], o, f, w, h => by
    refine World.rowIs.congr (show (w.setCells b o []).rowIs b t n f from h) (fun i _ => ?_)
    have : ¬ (o ≤ i ∧ i < o + ([] : List Value).length) := by simp
    rw [if_neg this]
  | v :: r, o, f, w, h => by
    refine World.rowIs.congr (row_setCells r (o + 1) _ _ (h.set o v)) (fun i _ => ?_)
    simp only [List.length_cons]
    by_cases h1 : i = o
    · subst h1
      have e1 : ¬ (i + 1 ≤ i ∧ i < i + 1 + r.length) := by omega
      have e2 : (i ≤ i ∧ i < i + (r.length + 1)) := by omega
      rw [if_neg e1, if_pos e2, if_pos rfl, Nat.sub_self, List.getD_cons_zero]
    · by_cases h2 : o + 1 ≤ i ∧ i < o + 1 + r.length
      · have e2 : (o ≤ i ∧ i < o + (r.length + 1)) := by omega
        have e3 : i - o = (i - (o + 1)) + 1 := by omega
        rw [if_pos h2, if_pos e2, e3, List.getD_cons_succ]
      · have e2 : ¬ (o ≤ i ∧ i < o + (r.length + 1)) := by omega
        rw [if_neg h2, if_neg e2, if_neg h1]

theorem row_laid {b t n : Nat} (vs : List Value) (f : Nat → Value) (w : World) (h : w.rowIs b t n f) (hl : vs.length = n) : (w.setCells b 0 vs).rowIs b t n (fun i => vs.getD i undef) :=
  (row_setCells vs 0 f w h).congr (fun i hi => by
    have e : 0 ≤ i ∧ i < 0 + vs.length := by omega
    rw [if_pos e, Nat.sub_zero])

theorem below_cells {B b : Nat} {a : World} (hb : B ≤ b) : ∀ (vs : List Value) (o : Nat) (w : World), Below B a w → Below B a (w.setCells b o vs)
  | [], _, _, h => h
  | v :: r, o, _, h => below_cells hb r (o + 1) _ (h.setCell hb v)

theorem there_row {w : World} {b t n : Nat} {f : Nat → Value} (h : w.rowIs b t n f) : w.there b 0 n := fun j hj => by
  rw [Nat.zero_add]
  exact ⟨by rw [h.cell hj]; rfl, h.frozen j⟩


/-- A whole struct or array stored over a row of its own: the world behind it is a letter, of which the row and 'Below' are known. -/
theorem wpList_store_row {P : Program} {ops : Array Oper} {rest : List Oper} {op : Oper} {a : Act} {w : World} {Q : Exit → Act → World → Prop} (hgd : op.guard = none) (ty : TypeId) (x y : Operand) (ho : op.op = .store ty x y)
    (b t n : Nat) (f : Nat → Value) (cells : List Value) (hx : a.eval x = .pointer (some ⟨b, 0, none⟩)) (hy : a.eval y = .agg cells.toArray) (hr : w.rowIs b t n f) (hn : cells.length = n)
    (hi : (P.info? ty).map (·.size) = some n) (h1 : cells.toArray.all (·.oneCell') = true) (B : Nat) (w0 : World) (hb : Below B w0 w) (hB : B ≤ b)
    (h : ∀ w', Hid (w'.rowIs b t n (fun i => cells.getD i undef)) → Hid (Below B w0 w') → Hid (b < w'.heap.size) → wpList P ops Q rest (a.put op.dst undef) w') : wpList P ops Q (op :: rest) a w := by
  subst hn
  refine wpList_store_mid hgd ty x y ho b 0 cells.toArray hx hy (there_row (by simpa using hr)) (by simpa using hi) h1 ?_
  have hrow := row_laid cells f w hr rfl
  exact h (w.setCells b 0 cells) hrow (below_cells hB cells 0 w hb) hrow.lt

end Go.Proofs.YbulkcmgaFmt
