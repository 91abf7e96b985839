import Derived.Test.YbulkcmekFmtUtil
import Derived.Deep.AppendSrc
namespace Go.Proofs.YbulkcmekFmt
open Go Go.RowKit

/-- 'append(dst, src...)' where there is room, over a row: the world behind it is a letter. -/
theorem wpList_append_over {P : Program} {w : World} {ops : Array Oper} {rest : List Oper} {o : Oper} {a : Act} {Q : Exit → Act → World → Prop} (hgd : o.guard = none) (d s : Operand) (dT sT : TypeId)
    (ho : o.op = .call { callee := .builtin .append, args := #[d, s], argTypes := #[dT, sT] }) (elem e' : TypeId) (hu : P.underlying dT = some (.slice elem)) (hk : P.underlying sT = some (.slice e')) (hsz : (P.info? elem).map (·.size) = some 1)
    (V dLen dCap : Nat) (sp : Option Addr) (n sCap : Nat) (hd : a.eval d = .slice (some ⟨V, 0, none⟩) dLen dCap) (hs : a.eval s = .slice sp n sCap)
    (t k : Nat) (f : Nat → Value) (hr : w.rowIs V t k f) (hfit : dLen + n ≤ k) (hroom : dLen + n ≤ dCap) (Y : Nat → Value) (h1 : ∀ j, (Y j).oneCell' = true)
    (hsrc : 0 < n → ∃ ad, sp = some ad ∧ ∀ j, j < n → w.cell? (ad.add j) = some (Y j))
    (h : ∀ w', Hid (w'.rowIs V t k (laidOver f dLen n Y)) → Hid (Only [V] w w') → wpList P ops Q rest (a.put o.dst (.slice (some ⟨V, 0, none⟩) (dLen + n) dCap)) w') : wpList P ops Q (o :: rest) a w := by
  obtain ⟨i, hi, his⟩ := Option.map_eq_some_iff.1 hsz
  obtain ⟨cs, hcs⟩ : ∃ cs : List Value, cs = (List.range n).map Y := ⟨_, rfl⟩
  have hl : cs.length = n := by rw [hcs]; simp
  have hget : ∀ j v, cs[j]? = some v → j < n ∧ v = Y j := fun j v hj => by
    rw [hcs] at hj
    obtain ⟨hjl, hjv⟩ := List.getElem?_eq_some_iff.1 hj
    simp at hjl hjv
    exact ⟨hjl, hjv.symm⟩
  have hone : ∀ u ∈ cs, u.oneCell' = true := fun v hv => by rw [hcs] at hv; obtain ⟨j, _, rfl⟩ := List.mem_map.1 hv; exact h1 j
  have hSrc : Src P i.size sT (.slice sp n sCap) n cs w := by
    rw [his]
    by_cases h0 : n = 0
    · subst h0
      obtain rfl : cs = [] := List.eq_nil_of_length_eq_zero hl
      cases sp with
      | none => exact Src.ofNil w hk sCap
      | some ad => exact Src.ofSlice w hk ad 0 sCap [] (by simp) (by simp) (by simp)
    · obtain ⟨ad, rfl, hcell⟩ := hsrc (by omega)
      exact Src.ofSlice w hk ad n sCap cs (by rw [hl, Nat.mul_one]) (fun j u hj => by obtain ⟨hj', rfl⟩ := hget j u hj; exact hcell j hj') hone
  refine wpList_plain hgd fun K hK => ?_
  have hrun := run_append_room_src (P := P) w dT sT o.type elem i hu hi V 0 dLen dCap (.slice sp n sCap) n cs hSrc hroom
    (fun j hj => by rw [his, Nat.mul_one, Nat.zero_add, hr.cell (by omega)]; rfl) (fun j _ => hr.frozen _)
  unfold Oper.wp
  simp [execOp, ho, resolve, invoke, builtin, hd, hs, hrun, Result.andThen]
  rw [his, Nat.mul_one]
  refine hK _ _ (h _ ((row_setCells cs dLen f w hr).congr fun j _ => ?_) (Only.setCells V (by simp) cs dLen (Only.refl _ _)))
  unfold laidOver
  rw [hl]
  by_cases hj : dLen ≤ j ∧ j < dLen + n
  · rw [if_pos hj, if_pos hj, hcs, List.getD_eq_getElem?_getD, List.getElem?_map, List.getElem?_range (by omega)]
    rfl
  · rw [if_neg hj, if_neg hj]

end Go.Proofs.YbulkcmekFmt
