import Derived.Test.YbulkcmekFmtPut
namespace Go.Proofs.YbulkcmekFmt
open Go Go.RowKit

/-- Z with four bytes laid at p. -/
def put4 (Z : Nat → Int) (p : Nat) (a b c d : Int) (i : Nat) : Int := if i = p then a else if i = p + 1 then b else if i = p + 2 then c else if i = p + 3 then d else Z i

theorem put4_byt {Z : Nat → Int} (hZ : Byt Z) (p : Nat) {a b c d : Int} (ha : 0 ≤ a ∧ a ≤ 255) (hb : 0 ≤ b ∧ b ≤ 255) (hc : 0 ≤ c ∧ c ≤ 255) (hd : 0 ≤ d ∧ d ≤ 255) : Byt (put4 Z p a b c d) := fun i => by
  unfold put4
  by_cases h1 : i = p
  · rw [if_pos h1]; exact ha
  · rw [if_neg h1]
    by_cases h2 : i = p + 1
    · rw [if_pos h2]; exact hb
    · rw [if_neg h2]
      by_cases h3 : i = p + 2
      · rw [if_pos h3]; exact hc
      · rw [if_neg h3]
        by_cases h4 : i = p + 3
        · rw [if_pos h4]; exact hd
        · rw [if_neg h4]; exact hZ i

theorem put4_old {Z : Nat → Int} {p i : Nat} (h : i < p) (a b c d : Int) : put4 Z p a b c d i = Z i := by
  unfold put4
  rw [if_neg (by omega), if_neg (by omega), if_neg (by omega), if_neg (by omega)]

theorem put4_u32 {Z : Nat → Int} {p : Nat} (big : Bool) (a b c d : Int) : u32at big (put4 Z p a b c d) p = if big then be4 a b c d else be4 d c b a := by
  have e0 : put4 Z p a b c d p = a := by unfold put4; rw [if_pos rfl]
  have e1 : put4 Z p a b c d (p + 1) = b := by unfold put4; rw [if_neg (by omega), if_pos rfl]
  have e2 : put4 Z p a b c d (p + 2) = c := by unfold put4; rw [if_neg (by omega), if_neg (by omega), if_pos rfl]
  have e3 : put4 Z p a b c d (p + 3) = d := by unfold put4; rw [if_neg (by omega), if_neg (by omega), if_neg (by omega), if_pos rfl]
  unfold u32at
  rw [e0, e1, e2, e3]

theorem put4_row {M p total : Nat} {Z : Nat → Int} {w : World} (hr : w.rowIs M 5 total (fun i => .int .u8 (Z i))) (a b c d : Int) (o : Obj) :
    (((((w.setCell ⟨M, p, none⟩ (.int .u8 a)).setCell ⟨M, p + 1, none⟩ (.int .u8 b)).setCell ⟨M, p + 2, none⟩ (.int .u8 c)).setCell ⟨M, p + 3, none⟩ (.int .u8 d)).alloc o).rowIs M 5 total (fun i => .int .u8 (put4 Z p a b c d i)) :=
  (((((hr.set p (.int .u8 a)).set (p + 1) (.int .u8 b)).set (p + 2) (.int .u8 c)).set (p + 3) (.int .u8 d)).alloc o).congr fun i _ => by
    unfold put4
    by_cases h1 : i = p
    · subst h1; rw [if_neg (by omega), if_neg (by omega), if_neg (by omega), if_pos rfl, if_pos rfl]
    · by_cases h2 : i = p + 1
      · subst h2; rw [if_neg (by omega), if_neg (by omega), if_pos rfl, if_neg (by omega), if_pos rfl]
      · by_cases h3 : i = p + 2
        · subst h3; rw [if_neg (by omega), if_pos rfl, if_neg (by omega), if_neg (by omega), if_pos rfl]
        · by_cases h4 : i = p + 3
          · subst h4; rw [if_pos rfl, if_neg (by omega), if_neg (by omega), if_neg (by omega), if_pos rfl]
          · rw [if_neg h4, if_neg h3, if_neg h2, if_neg h1, if_neg h1, if_neg h2, if_neg h3, if_neg h4]

set_option maxHeartbeats 1000000 in
theorem aput {big : Bool} {M p total : Nat} {v : Int} {Z : Nat → Int} {w : World} (hr : w.rowIs M 5 total (fun i => .int .u8 (Z i))) (hZ : Byt Z) (hp : p + 4 ≤ total) (hv : 0 ≤ v ∧ v < 4294967296) :
    Calls Ybaf.prog 5 #[.slice (some ⟨M, 0, none⟩) p total, .int .u32 v, .bool big] w fun e w' => e = .returned (.slice (some ⟨M, 0, none⟩) (p + 4) total) ∧ (∃ Z' : Nat → Int, Byt Z' ∧ (∀ i, i < p → Z' i = Z i) ∧ u32at big Z' p = v ∧ w'.rowIs M 5 total (fun i => .int .u8 (Z' i))) ∧ Only [M] w w' := by
  obtain ⟨hv0, hv1⟩ := hv
  have c0 : w.cell? ⟨M, p, none⟩ = some (.int .u8 (Z p)) := hr.cell (by omega)
  have c1 : w.cell? ⟨M, p + 1, none⟩ = some (.int .u8 (Z (p + 1))) := hr.cell (by omega)
  have c2 : w.cell? ⟨M, p + 2, none⟩ = some (.int .u8 (Z (p + 2))) := hr.cell (by omega)
  have c3 : w.cell? ⟨M, p + 3, none⟩ = some (.int .u8 (Z (p + 3))) := hr.cell (by omega)
  have f0 := hr.frozen p
  have f1 := hr.frozen (p + 1)
  have f2 := hr.frozen (p + 2)
  have f3 := hr.frozen (p + 3)
  have hl := hr.lt
  have HR := hid hr
  clear hr
  cases big
  · go_enter Ybaf.func5, Ybaf.ntmps5
    go_wp2
    go_ret
    refine ⟨rfl, ⟨_, put4_byt hZ p ⟨by omega, by omega⟩ ⟨by omega, by omega⟩ ⟨by omega, by omega⟩ ⟨by omega, by omega⟩, fun i hi => put4_old hi _ _ _ _, ?_, put4_row HR.out _ _ _ _ _⟩, ((((((Only.refl _ w).setCell (by simp) _).setCell (by simp) _).setCell (by simp) _).setCell (by simp) _).alloc _)⟩
    rw [put4_u32]
    simp only [be4, Bool.false_eq_true, if_false]
    omega
  · go_enter Ybaf.func5, Ybaf.ntmps5
    go_wp2
    go_ret
    refine ⟨rfl, ⟨_, put4_byt hZ p ⟨by omega, by omega⟩ ⟨by omega, by omega⟩ ⟨by omega, by omega⟩ ⟨by omega, by omega⟩, fun i hi => put4_old hi _ _ _ _, ?_, put4_row HR.out _ _ _ _ _⟩, ((((((Only.refl _ w).setCell (by simp) _).setCell (by simp) _).setCell (by simp) _).setCell (by simp) _).alloc _)⟩
    rw [put4_u32]
    simp only [be4, if_true]
    omega

end Go.Proofs.YbulkcmekFmt
