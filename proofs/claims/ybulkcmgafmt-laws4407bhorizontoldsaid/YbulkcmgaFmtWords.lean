import Derived.Test.YbulkcmgaFmtSmall
import Derived.OwnWalk
namespace Go.Proofs.YbulkcmgaFmt
open Go Go.RowKit

theorem info22 : (Ybaf.prog.info? 22).map (fun i => (i.zero, i.size, i.bytes)) = some (some (.int .u64 0), 1, 8) := by kernel_rfl
theorem info3 : (Ybaf.prog.info? 3).map (fun i => (i.zero, i.size, i.bytes)) = some (some (.int .i64 0), 1, 8) := by kernel_rfl

/-- L words, one a cell. -/
def wordsL (f : Nat → Int) (L : Nat) : List Value := (List.range L).map fun j => Value.int .u64 (f j)
theorem wordsL_len (f : Nat → Int) (L : Nat) : (wordsL f L).length = L := by simp [wordsL]
theorem wordsL_get {f : Nat → Int} {L j : Nat} (h : j < L) : (wordsL f L)[j]? = some (.int .u64 (f j)) := by simp [wordsL, h]

theorem clone_is (S L c : Nat) (f : Nat → Int) (w : World) (h0 : 0 < L) (hL : L ≤ 8) (hS : Has w S 22 (wordsL f L)) :
    Calls Ybaf.prog 5 #[.slice (some ⟨S, 0, none⟩) L c] w fun e w' => ∃ g cap, e = .returned (.slice (some ⟨g, 0, none⟩) L cap) ∧ w.heap.size ≤ g ∧ Has w' g 22 (wordsL f L) ∧ Below w.heap.size w w' := by
  have qT : ∀ (w : World) (a : Option Addr) (n c n' c' : Nat), (binOp .eql 26 (.slice a n c) (.slice none n' c')).run Ybaf.prog w = .ok (.bool a.isNone) w := fun w a n c n' c' => Lib.run_eql_slice_nil w _ _ a n c n' c' Ybaf.underlying26
  have hcell := hidn (fun j u (hj : (wordsL f L)[j]? = some u) => (show (w.alloc (.cells #[] 22)).cell? ((⟨S, 0, none⟩ : Addr).add j) = some u by
    rw [Addr.add_mid, Nat.zero_add]
    exact (((Below.refl _ w).alloc (Nat.le_refl _) (.cells #[] 22)).cell (p := ⟨S, j, none⟩) hS.lt).trans (hS.cell j hj)))
  have hlen := hidn (wordsL_len f L)
  have hE : (w.alloc (.cells #[] 22)).heap[w.heap.size]? = some (.cells #[] 22 (0, 0)) := by
    show (w.heap.push _)[w.heap.size]? = _
    simp
  have HE := hidn hE
  have HL := hidn (And.intro h0 hL)
  have B := hidn ((Below.refl _ w).alloc (Nat.le_refl _) (.cells #[] 22))
  clear hE hS h0 hL
  go_enter Ybaf.func5, Ybaf.ntmps5
  go_wp2_with (at_builtin; refine wpList_append_copy rfl _ _ 26 rfl 22 8 (.int .u64 0) Ybaf.underlying26 info22 rfl (by decide) w.heap.size rfl HE.out _ L c HL.out.1 (by have := HL.out.2; omega) (wordsL f L) rfl hlen.out hcell.out (by simp [wordsL, Value.oneCell']) ?_; intro g cap w1 x1 x2 x3)
  go_ret
  exact ⟨g, cap, rfl, x2.out, x1.out, B.out.trans x3.out⟩

set_option maxHeartbeats 1000000 in
theorem equal_is (S g L c d : Nat) (f : Nat → Int) (w : World) (hL : L ≤ 8) (h1 : Has w S 22 (wordsL f L)) (h2 : Has w g 22 (wordsL f L)) :
    Calls Ybaf.prog 8 #[.slice (some ⟨S, 0, none⟩) L c, .slice (some ⟨g, 0, none⟩) L d] w fun e w' => e = .returned (.bool true) ∧ ∃ q, w' = w.drewN q := by
  have k1 := hidn (fun j (hj : j < L) => h1.cell j (wordsL_get hj))
  have k2 := hidn (fun j (hj : j < L) => h2.cell j (wordsL_get hj))
  clear h1 h2
  go_enter Ybaf.func8, Ybaf.ntmps8
  go_wp2
  go_loopw [13] (fun i wr => ∃ k : Nat, k ≤ L ∧ i = .int .i64 k ∧ ∃ q, wr = w.drewN q) (fun i _ => L - (intOf i).toNat)
  case atStart => exact ⟨0, Nat.zero_le _, rfl, 0, rfl⟩
  case round =>
    obtain ⟨k, hk, rfl, q, rfl⟩ := hrel
    by_cases hlt : k < L
    · have a1 := k1.out k hlt
      have a2 := k2.out k hlt
      have hlt' : (k : Int) < (L : Int) := by omega
      go_wp2
      go_quiet (fail)
      go_wp2
      go_roundw
      case rel => exact ⟨k + 1, by omega, by go_num, _, rfl⟩
      case measure => simp [intOf]; omega
    · have hlt' : ¬ (k : Int) < (L : Int) := by omega
      go_wp2
      go_ret
      exact ⟨rfl, _, rfl⟩

end Go.Proofs.YbulkcmgaFmt
