import Derived.Deep.OwnRows
import Derived.Deep.MidRow
import Derived.Below
namespace Go.Proofs.YbulkcmekDoor
open Go Go.RowKit

theorem row_setCells {b t n : Nat} : ∀ (vs : List Value) (o : Nat) (f : Nat → Value) (w : World), w.rowIs b t n f → (w.setCells b o vs).rowIs b t n (fun i => if o ≤ i ∧ i < o + vs.length then vs.getD (i - o) undef else f i)
  | [], o, f, w, h => by
    refine World.rowIs.congr (show (w.setCells b o []).rowIs b t n f from h) (fun i _ => ?_)
    have : ¬ (o ≤ i ∧ i < o + ([] : List Value).length) := by simp
    rw [if_neg this]
  | v :: r, o, f, w, h => by
    refine World.rowIs.congr (row_setCells r (o + 1) _ _ (h.set o v)) (fun i _ => ?_)
    simp only [List.length_cons]
    by_cases h1 : i = o
    · subst h1
      have e1 : ¬ (i + 1 ≤ i ∧ i < i + 1 + r.length) := by omega
      have e2 : (i ≤ i ∧ i < i + (r.length + 1)) := by omega
      rw [if_neg e1, if_pos e2, if_pos rfl, Nat.sub_self, List.getD_cons_zero]
    · by_cases h2 : o + 1 ≤ i ∧ i < o + 1 + r.length
      · have e2 : (o ≤ i ∧ i < o + (r.length + 1)) := by omega
        have e3 : i - o = (i - (o + 1)) + 1 := by omega
        rw [if_pos h2, if_pos e2, e3, List.getD_cons_succ]
      · have e2 : ¬ (o ≤ i ∧ i < o + (r.length + 1)) := by omega
        rw [if_neg h2, if_neg e2, if_neg h1]

theorem row_laid {b t n : Nat} (vs : List Value) (f : Nat → Value) (w : World) (h : w.rowIs b t n f) (hl : vs.length = n) : (w.setCells b 0 vs).rowIs b t n (fun i => vs.getD i undef) :=
  (row_setCells vs 0 f w h).congr (fun i hi => by
    have e : 0 ≤ i ∧ i < 0 + vs.length := by omega
    rw [if_pos e, Nat.sub_zero])

theorem below_cells {B b : Nat} {a : World} (hb : B ≤ b) : ∀ (vs : List Value) (o : Nat) (w : World), Below B a w → Below B a (w.setCells b o vs)
  | [], _, _, h => h
  | v :: r, o, _, h => below_cells hb r (o + 1) _ (h.setCell hb v)

theorem there_row {w : World} {b t n : Nat} {f : Nat → Value} (h : w.rowIs b t n f) : w.there b 0 n := fun j hj => by
  rw [Nat.zero_add]
  exact ⟨by rw [h.cell hj]; rfl, h.frozen j⟩

end Go.Proofs.YbulkcmekDoor
