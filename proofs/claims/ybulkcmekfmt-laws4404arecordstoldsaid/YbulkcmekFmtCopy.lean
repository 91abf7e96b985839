/-
  'copy(p, src)' into a row, as a law for the walk: the world behind it is a letter.
-/
import Derived.Test.YbulkcmekFmtOnly
import Derived.Laws.IdiomCopy
namespace Go.Proofs.YbulkcmekFmt
open Go Go.RowKit

/-- The row f with the values Y laid over it from place o on, n of them. -/
def laidOver (f : Nat → Value) (o n : Nat) (Y : Nat → Value) (i : Nat) : Value := if o ≤ i ∧ i < o + n then Y (i - o) else f i

theorem wpList_copy_over {P : Program} {w : World} {ops : Array Oper} {rest : List Oper} {o : Oper} {a : Act} {Q : Exit → Act → World → Prop} (hgd : o.guard = none) (d s : Operand) (dT sT : TypeId)
    (ho : o.op = .call { callee := .builtin .copy, args := #[d, s], argTypes := #[dT, sT] }) (elem : TypeId) (hu : P.underlying dT = some (.slice elem)) (hsz : (P.info? elem).map (·.size) = some 1)
    (V off dLen dCap : Nat) (sp : Option Addr) (sLen sCap : Nat) (hd : a.eval d = .slice (some ⟨V, off, none⟩) dLen dCap) (hs : a.eval s = .slice sp sLen sCap)
    (t k : Nat) (f : Nat → Value) (hr : w.rowIs V t k f) (n : Nat) (hn : n = Nat.min sLen dLen) (hfit : off + n ≤ k) (Y : Nat → Value) (h1 : ∀ j, (Y j).oneCell' = true)
    (hsrc : 0 < n → ∃ ad, sp = some ad ∧ ∀ j, j < n → w.cell? (ad.add j) = some (Y j))
    (h : ∀ w', Hid (w'.rowIs V t k (laidOver f off n Y)) → Hid (Only [V] w w') → wpList P ops Q rest (a.put o.dst (goInt n)) w') : wpList P ops Q (o :: rest) a w := by
  by_cases h0 : n = 0
  · subst h0
    refine wpList_plain hgd fun K hK => ?_
    have hrun := run_copy_none (P := P) w dT sT o.type elem (some ⟨V, off, none⟩) sp dLen dCap sLen sCap hu hsz hn.symm
    unfold Oper.wp
    simp [execOp, ho, resolve, invoke, builtin, hd, hs, hrun, Result.andThen]
    refine hK _ _ (h w (hr.congr fun i _ => ?_) (Only.refl _ _))
    unfold laidOver
    rw [if_neg (by omega)]
  · obtain ⟨ad, rfl, hcell⟩ := hsrc (by omega)
    refine wpList_plain hgd fun K hK => ?_
    obtain ⟨cs, hcs⟩ : ∃ cs : List Value, cs = (List.range n).map Y := ⟨_, rfl⟩
    have hl : cs.length = n := by rw [hcs]; simp
    have hget : ∀ j v, cs[j]? = some v → j < n ∧ v = Y j := fun j v hj => by
      rw [hcs] at hj
      obtain ⟨hjl, hjv⟩ := List.getElem?_eq_some_iff.1 hj
      simp at hjl hjv
      exact ⟨hjl, hjv.symm⟩
    have hrun := run_copy_cells (P := P) w dT sT o.type elem V off dLen dCap ad sLen sCap cs hu hsz (hl.trans hn)
      (fun j v hj => by obtain ⟨hj', rfl⟩ := hget j v hj; exact hcell j hj')
      (fun j hj => by rw [hr.cell (by omega)]; rfl) (fun j _ => hr.frozen _)
      (fun v hv => by rw [hcs] at hv; obtain ⟨j, _, rfl⟩ := List.mem_map.1 hv; exact h1 j)
    unfold Oper.wp
    simp [execOp, ho, resolve, invoke, builtin, hd, hs, hrun, Result.andThen]
    rw [hl]
    refine hK _ _ (h _ ((row_setCells cs off f w hr).congr fun i _ => ?_) (Only.setCells V (by simp) cs off (Only.refl _ _)))
    unfold laidOver
    rw [hl]
    by_cases hi : off ≤ i ∧ i < off + n
    · rw [if_pos hi, if_pos hi, hcs, List.getD_eq_getElem?_getD, List.getElem?_map, List.getElem?_range (by omega)]
      rfl
    · rw [if_neg hi, if_neg hi]

end Go.Proofs.YbulkcmekFmt
