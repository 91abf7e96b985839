/-
  The heap of rounds: plain laws; Less, Swap, Len behind the interface.
-/
import Derived.Test.YbulkcmgaFmtMp
import Derived.Test.YbulkcmgaFmtLawLib
namespace Go.Proofs.YbulkcmgaFmt
open Go Go.RowKit

/-- No parent above its child. -/
def HeapO (a : Nat → Int) (n : Nat) : Prop := ∀ i, 0 < i → i < n → a ((i - 1) / 2) ≤ a i
def Inj (a : Nat → Int) (n : Nat) : Prop := ∀ i j, i < n → j < n → a i = a j → i = j
def Mem (a : Nat → Int) (n : Nat) (r : Int) : Prop := ∃ i, i < n ∧ a i = r
/-- The same numbers, no one twice if none was. -/
structure Same (a a' : Nat → Int) (n : Nat) : Prop where
  mem : ∀ r, Mem a' n r ↔ Mem a n r
  inj : Inj a n → Inj a' n
theorem Same.refl (a : Nat → Int) (n : Nat) : Same a a n := ⟨fun _ => Iff.rfl, id⟩
theorem Same.trans {a b c : Nat → Int} {n : Nat} (h : Same a b n) (k : Same b c n) : Same a c n := ⟨fun r => (k.mem r).trans (h.mem r), fun i => k.inj (h.inj i)⟩

def swp (a : Nat → Int) (i j : Nat) : Nat → Int := fun k => if k = i then a j else if k = j then a i else a k

theorem swp_inv (a : Nat → Int) (i j k : Nat) : ∃ m, swp a i j k = a m ∧ (k = i ∧ m = j ∨ k = j ∧ m = i ∨ k ≠ i ∧ k ≠ j ∧ m = k) := by
  unfold swp
  by_cases h1 : k = i
  · exact ⟨j, by rw [if_pos h1], .inl ⟨h1, rfl⟩⟩
  · by_cases h2 : k = j
    · exact ⟨i, by rw [if_neg h1, if_pos h2], .inr (.inl ⟨h2, rfl⟩)⟩
    · exact ⟨k, by rw [if_neg h1, if_neg h2], .inr (.inr ⟨h1, h2, rfl⟩)⟩
theorem swp_l (a : Nat → Int) (i j : Nat) : swp a i j i = a j := by simp [swp]
theorem swp_r (a : Nat → Int) (i j : Nat) : swp a i j j = a i := by
  unfold swp
  by_cases h : j = i
  · rw [if_pos h, h]
  · rw [if_neg h, if_pos rfl]
theorem swp_o (a : Nat → Int) {i j k : Nat} (h : k ≠ i) (h' : k ≠ j) : swp a i j k = a k := by simp [swp, h, h']

theorem same_swp (a : Nat → Int) {i j n : Nat} (hi : i < n) (hj : j < n) : Same a (swp a i j) n := by
  refine ⟨fun r => ⟨fun ⟨k, hk, e⟩ => ?_, fun ⟨k, hk, e⟩ => ?_⟩, fun h k l hk hl e => ?_⟩
  · obtain ⟨m, e1, c⟩ := swp_inv a i j k
    exact ⟨m, by omega, by rw [← e1, e]⟩
  · by_cases h1 : k = i
    · exact ⟨j, hj, by rw [swp_r, ← h1, e]⟩
    · by_cases h2 : k = j
      · exact ⟨i, hi, by rw [swp_l, ← h2, e]⟩
      · exact ⟨k, hk, by rw [swp_o a h1 h2, e]⟩
  · obtain ⟨m, e1, c⟩ := swp_inv a i j k
    obtain ⟨m', e2, c'⟩ := swp_inv a i j l
    have := h m m' (by omega) (by omega) (by rw [← e1, ← e2, e])
    omega

/-- Heap but at j, where a child may be less than its parent. -/
structure UpO (a : Nat → Int) (n j : Nat) : Prop where
  lt : j < n
  rest : ∀ i, 0 < i → i < n → i ≠ j → a ((i - 1) / 2) ≤ a i
  over : ∀ i, 0 < i → i < n → (i - 1) / 2 = j → 0 < j → a ((j - 1) / 2) ≤ a i

theorem UpO.done {a : Nat → Int} {n j : Nat} (h : UpO a n j) (k : j = 0 ∨ ¬ a j < a ((j - 1) / 2)) : HeapO a n := fun i h0 hn => by
  by_cases e : i = j
  · subst e
    rcases k with k | k
    · omega
    · omega
  · exact h.rest i h0 hn e

theorem UpO.step {a : Nat → Int} {n j : Nat} (h : UpO a n j) (h0 : 0 < j) (k : a j < a ((j - 1) / 2)) : UpO (swp a ((j - 1) / 2) j) n ((j - 1) / 2) := by
  obtain ⟨lt, rest, over⟩ := h
  have hp : (j - 1) / 2 < j := by omega
  generalize hpe : (j - 1) / 2 = p at *
  refine ⟨by omega, fun i i0 hn ne => ?_, fun i i0 hn e p0 => ?_⟩
  · by_cases e : i = j
    · subst e
      rw [hpe, swp_l, swp_r]
      omega
    · rw [swp_o a ne e]
      by_cases e1 : (i - 1) / 2 = p
      · rw [e1, swp_l]
        have := rest i i0 hn e
        rw [e1] at this
        omega
      · by_cases e2 : (i - 1) / 2 = j
        · rw [e2, swp_r]
          exact over i i0 hn e2 h0
        · rw [swp_o a e1 e2]
          exact rest i i0 hn e
  · have hpp : (p - 1) / 2 < p := by omega
    rw [swp_o a (by omega) (by omega)]
    have hp1 := rest p p0 (by omega) (by omega)
    by_cases e1 : i = j
    · subst e1
      rw [swp_r]
      omega
    · rw [swp_o a (by omega) e1]
      have h2 := rest i i0 hn e1
      rw [e] at h2
      omega

/-- Heap but at i, where a parent may be greater than a child. -/
structure DownO (a : Nat → Int) (n i : Nat) : Prop where
  rest : ∀ k, 0 < k → k < n → (k - 1) / 2 ≠ i → a ((k - 1) / 2) ≤ a k
  over : ∀ k, 0 < k → k < n → (k - 1) / 2 = i → 0 < i → a ((i - 1) / 2) ≤ a k

theorem DownO.done {a : Nat → Int} {n i : Nat} (h : DownO a n i) (k : ∀ j, j < n → (j = 2 * i + 1 ∨ j = 2 * i + 2) → a i ≤ a j) : HeapO a n := fun j j0 hn => by
  by_cases e : (j - 1) / 2 = i
  · rw [e]
    exact k j hn (by omega)
  · exact h.rest j j0 hn e

theorem DownO.step {a : Nat → Int} {n i j : Nat} (h : DownO a n i) (hj : j < n) (c : j = 2 * i + 1 ∨ j = 2 * i + 2) (lt : a j < a i) (mn : ∀ k, k < n → (k = 2 * i + 1 ∨ k = 2 * i + 2) → a j ≤ a k) : DownO (swp a i j) n j := by
  obtain ⟨rest, over⟩ := h
  refine ⟨fun k k0 hn ne => ?_, fun k k0 hn e j0 => ?_⟩
  · by_cases e1 : (k - 1) / 2 = i
    · rw [e1, swp_l]
      by_cases e2 : k = j
      · subst e2
        rw [swp_r]
        omega
      · rw [swp_o a (by omega) e2]
        exact mn k hn (by omega)
    · rw [swp_o a e1 ne]
      by_cases e2 : k = i
      · subst e2
        rw [swp_l]
        exact over j (by omega) hj (by omega) k0
      · rw [swp_o a e2 (by omega)]
        exact rest k k0 hn e1
  · have e3 : (j - 1) / 2 = i := by omega
    rw [e3, swp_l, swp_o a (by omega) (by omega)]
    have := rest k k0 hn (by omega)
    rw [e] at this
    exact this

theorem heap_min {a : Nat → Int} {n : Nat} (h : HeapO a n) : ∀ i, i < n → a 0 ≤ a i := by
  intro i
  induction i using Nat.strongRecOn with
  | ind i ih =>
    intro hi
    by_cases e : i = 0
    · subst e
      omega
    · have h1 := h i (by omega) hi
      have h2 := ih ((i - 1) / 2) (by omega) (by omega)
      omega

/-- The row behind the slice: its first n cells hold a. -/
structure Hr (w : World) (G n c : Nat) (a : Nat → Int) : Prop where
  le : n ≤ c
  room : c ≤ maxLen
  row : ∃ f, w.rowIs G 22 c f ∧ ∀ i, i < n → f i = .int .u64 (a i)

variable {w w' : World} {G n c RB : Nat} {a : Nat → Int}
theorem Hr.lt (h : Hr w G n c a) : G < w.heap.size := by obtain ⟨_, _, f, r, _⟩ := h; exact r.lt
theorem Hr.cell (h : Hr w G n c a) {i : Nat} (hi : i < n) : w.cell? ⟨G, i, none⟩ = some (.int .u64 (a i)) := by
  obtain ⟨l, _, f, r, e⟩ := h
  rw [r.cell (by omega), e i hi]
theorem Hr.frozen (h : Hr w G n c a) (i : Nat) : w.frozen? ⟨G, i, none⟩ = false := by obtain ⟨_, _, f, r, _⟩ := h; exact r.frozen i
theorem Hr.of_block (h : Hr w G n c a) (e : w'.heap[G]? = w.heap[G]?) : Hr w' G n c a := by
  obtain ⟨l, m, f, r, k⟩ := h
  exact ⟨l, m, f, r.of_block e, k⟩
theorem Hr.only {S : List Nat} (h : Hr w G n c a) (o : Only S w w') (hG : G ∉ S) : Hr w' G n c a := h.of_block (o.block G h.lt hG)
theorem Hr.less (h : Hr w G n c a) {m : Nat} (hm : m ≤ n) : Hr w G m c a := by
  obtain ⟨l, m', f, r, k⟩ := h
  exact ⟨by omega, m', f, r, fun i hi => k i (by omega)⟩
theorem Hr.swap (h : Hr w G n c a) {i j : Nat} (hi : i < n) (hj : j < n) : Hr ((w.setCell ⟨G, i, none⟩ (.int .u64 (a j))).setCell ⟨G, j, none⟩ (.int .u64 (a i))) G n c (swp a i j) := by
  obtain ⟨l, m', f, r, k⟩ := h
  refine ⟨l, m', _, (r.set i _).set j _, fun m hm => ?_⟩
  by_cases e2 : m = j
  · subst e2
    rw [if_pos rfl, swp_r]
  · rw [if_neg e2]
    by_cases e1 : m = i
    · subst e1
      rw [if_pos rfl, swp_l]
    · rw [if_neg e1, swp_o a e1 e2, k m hm]

theorem less_is (G n c i j : Nat) (a : Nat → Int) (w : World) (hi : i < n) (hj : j < n) (h : Hr w G n c a) :
    Calls Ybaf.prog 55 #[.slice (some ⟨G, 0, none⟩) n c, .int .i64 i, .int .i64 j] w fun e w' => e = .returned (.bool (decide (a i < a j))) ∧ ∃ q, w' = w.drewN q := by
  have c1 := h.cell hi
  have c2 := h.cell hj
  clear h
  go_enter Ybaf.func55, Ybaf.ntmps55
  go_wp2
  go_quiet (fail)
  go_wp2
  go_ret
  exact ⟨rfl, _, rfl⟩

end Go.Proofs.YbulkcmgaFmt
