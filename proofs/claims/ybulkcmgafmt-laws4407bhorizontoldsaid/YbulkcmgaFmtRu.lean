/-
  The rule's state, said over a model: entries i < ne of round rd i, producer pr i, held hd i, record's block rc i, alive al i.
-/
import Derived.Test.YbulkcmgaFmtHpp
namespace Go.Proofs.YbulkcmgaFmt
open Go Go.RowKit

/-- How many of the first n? -/
def cnt (P : Nat → Bool) : Nat → Nat
  | 0 => 0
  | n + 1 => cnt P n + if P n then 1 else 0

theorem cnt_le (P : Nat → Bool) : ∀ n, cnt P n ≤ n
  | 0 => Nat.le_refl _
  | n + 1 => by have := cnt_le P n; simp only [cnt]; split <;> omega
theorem cnt_congr {P Q : Nat → Bool} : ∀ {n : Nat}, (∀ i, i < n → P i = Q i) → cnt P n = cnt Q n
  | 0, _ => rfl
  | n + 1, h => by rw [cnt, cnt, cnt_congr (fun i hi => h i (by omega)), h n (by omega)]
/-- What is struck is counted apart. -/
theorem cnt_split (P Q : Nat → Bool) : ∀ n, cnt P n = cnt (fun i => P i && !Q i) n + cnt (fun i => P i && Q i) n
  | 0 => rfl
  | n + 1 => by
    simp only [cnt]
    rw [cnt_split P Q n]
    by_cases h1 : P n = true <;> by_cases h2 : Q n = true <;> simp [h1, h2] <;> omega
theorem cnt_none {P : Nat → Bool} : ∀ {n : Nat}, (∀ i, i < n → P i = false) → cnt P n = 0
  | 0, _ => rfl
  | n + 1, h => by rw [cnt, cnt_none (fun i hi => h i (by omega)), h n (by omega)]; rfl
theorem cnt_one {P : Nat → Bool} : ∀ {n k : Nat}, k < n → P k = true → (∀ i, i < n → i ≠ k → P i = false) → cnt P n = 1
  | 0, _, h, _, _ => by omega
  | n + 1, k, h, hk, hn => by
    rw [cnt]
    by_cases e : k = n
    · subst e
      rw [cnt_none (fun i hi => hn i (by omega) (by omega)), hk]
      rfl
    · rw [cnt_one (k := k) (by omega) hk (fun i hi => hn i (by omega)), hn n (by omega) (fun h => e h.symm)]
      rfl

/-- Blocks of cells stay, but for the rule's own and those of words. -/
def Cel (RB : Nat) (w w' : World) : Prop := ∀ b c e f, b ≠ RB → e ≠ 22 → w.heap[b]? = some (.cells c e f) → w'.heap[b]? = some (.cells c e f)
theorem Cel.refl (RB : Nat) (w : World) : Cel RB w w := fun _ _ _ _ _ _ h => h
theorem Cel.trans {RB : Nat} {w w1 w2 : World} (h : Cel RB w w1) (k : Cel RB w1 w2) : Cel RB w w2 := fun b c e f h1 h2 h3 => k b c e f h1 h2 (h b c e f h1 h2 h3)
theorem blt {w : World} {b : Nat} {o : Obj} (h : w.heap[b]? = some o) : b < w.heap.size := (Array.getElem?_eq_some_iff.1 h).1
theorem Cel.of_only {RB : Nat} {S : List Nat} {w w' : World} (o : Only S w w') (h : ∀ b, b ∈ S → b = RB ∨ ∀ c e f, w.heap[b]? = some (.cells c e f) → e = 22) : Cel RB w w' := fun b c e f h1 h2 h3 =>
  (o.block b (blt h3) (fun hm => by
    rcases h b hm with k | k
    · exact h1 k
    · exact h2 (k c e f h3))).trans h3
theorem Cel.of_below {RB : Nat} {w w' : World} (b : Below w.heap.size w w') : Cel RB w w' := fun x _ _ _ _ _ h3 => (b.block x (blt h3)).trans h3
theorem Cel.has {RB : Nat} {w w' : World} (h : Cel RB w w') {b e : Nat} {xs : List Value} (k : Has w b e xs) (h1 : b ≠ RB) (h2 : e ≠ 22) : Has w' b e xs := by
  obtain ⟨cur, k1, k2⟩ := k
  exact ⟨cur, h b cur e (0, 0) h1 h2 k1, k2⟩

/-- A record of which held is known. -/
def RecAt (w : World) (X : Nat) (b : Bool) : Prop := ∃ C : Array Value, w.heap[X]? = some (.cells C 79 (0, 0)) ∧ C[4]? = some (.bool b)
theorem RecAt.cell {w : World} {X : Nat} {b : Bool} (h : RecAt w X b) : w.cell? ⟨X, 4, none⟩ = some (.bool b) := by
  obtain ⟨C, h1, h2⟩ := h
  simp [World.cell?, h1, h2]
theorem RecAt.cel {RB : Nat} {w w' : World} {X : Nat} {b : Bool} (h : RecAt w X b) (k : Cel RB w w') (hX : X ≠ RB) : RecAt w' X b := by
  obtain ⟨C, h1, h2⟩ := h
  exact ⟨C, k X C 79 _ hX (by decide) h1, h2⟩
theorem RecAt.lt {w : World} {X : Nat} {b : Bool} (h : RecAt w X b) : X < w.heap.size := by obtain ⟨C, h1, _⟩ := h; exact blt h1

/-- The model. -/
structure Md where
  rd : Nat → Int
  pr : Nat → ByteArray
  hd : Nat → Bool
  rc : Nat → Nat
  ne : Nat

/-- Is entry i alive, of round r, of producer p, with record X? -/
def Md.is (m : Md) (al : Nat → Bool) (r : Int) (p : ByteArray) (X : Nat) : Prop := ∃ i, i < m.ne ∧ al i = true ∧ m.rd i = r ∧ m.pr i = p ∧ m.rc i = X

/-- What the model itself is bound to. -/
structure Md.ok (m : Md) (al : Nat → Bool) : Prop where
  ne : m.ne ≤ 300
  wf : ∀ i, i < m.ne → (Lit.int .u64 (m.rd i)).wf = true
  len : ∀ i, i < m.ne → (m.pr i).size ≤ maxLen
  uq : ∀ i j, i < m.ne → j < m.ne → m.rd i = m.rd j → m.pr i = m.pr j → i = j

/-- The rule's state. -/
structure Rx (w : World) (bs RB : Nat) (hold : Bool) (k hi fl tp : Int) (ex : Int → Prop) (m : Md) (al : Nat → Bool) (M : Nat) (g : Int → Option Nat) (h : Int → ByteArray → Option Nat) (sv : Value) (n : Nat) (a : Nat → Int) (sp : Option Nat) : Prop where
  bsR : bs ≤ RB
  bsM : bs ≤ M
  c0 : w.cell? ⟨RB, 0, none⟩ = some (.bool hold)
  c2 : w.cell? ⟨RB, 2, none⟩ = some (.int .u64 k)
  c5 : At w RB 5 (.int .u64 hi)
  c6 : w.cell? ⟨RB, 6, none⟩ = some (.map (some M))
  c7 : At w RB 7 (.int .i64 (cnt al m.ne))
  c8 : At w RB 8 sv
  c9 : At w RB 9 (mv sp)
  tb : ∃ s, s ≤ m.ne ∧ Tb w M g s
  inn : ∀ r B, g r = some B → bs ≤ B ∧ B ≠ M ∧ ∃ s, s ≤ m.ne ∧ Inn w B (h r) s
  gin : ∀ r r' B, g r = some B → g r' = some B → r = r'
  spare : ∀ S, sp = some S → bs ≤ S ∧ S ≠ M ∧ Inn w S (fun _ => none) 0 ∧ ∀ r, g r ≠ some S
  gal : ∀ r, (g r).isSome = true ↔ ∃ i, i < m.ne ∧ al i = true ∧ m.rd i = r
  hal : ∀ r, (g r).isSome = true → ∀ p X, h r p = some X ↔ m.is al r p X
  own : w.ownsRow bs 22 1 sv n (wordsL a n)
  ownR : sv.ownBlock ≠ some RB
  hp : HeapO a n
  ij : Inj a n
  nle : n ≤ m.ne
  hg : ∀ j, j < n → (g (a j)).isSome = true
  hn : ∀ i, i < m.ne → al i = true → Mem a n (m.rd i) ∨ (hold = true ∧ m.hd i = true ∧ m.rd i < fl) ∨ ex (m.rd i)
  top : ∀ j, j < n → tp ≤ a j
  tpf : tp ≤ fl
  recs : ∀ i, i < m.ne → m.rc i ≠ RB ∧ RecAt w (m.rc i) (m.hd i)
  mok : m.ok al

/-- The same, its own blocks unsaid. -/
def Ru (w : World) (bs RB : Nat) (hold : Bool) (k hi fl tp : Int) (ex : Int → Prop) (m : Md) (al : Nat → Bool) : Prop := ∃ M g h sv n a sp, Rx w bs RB hold k hi fl tp ex m al M g h sv n a sp

/-- floor. -/
def flo (hi k : Int) : Int := if hi ≤ k then 0 else hi - k

theorem floor_is (RB : Nat) (hi k : Int) (w : World) (h1 : 0 ≤ k) (h2 : hi ≤ 18446744073709551615) (c2 : w.cell? ⟨RB, 2, none⟩ = some (.int .u64 k)) (c5 : w.cell? ⟨RB, 5, none⟩ = some (.int .u64 hi)) :
    Calls Ybaf.prog 22 #[.pointer (some ⟨RB, 0, none⟩)] w fun e w' => e = .returned (.int .u64 (flo hi k)) ∧ w'.heap = w.heap ∧ Below w.heap.size w w' := by
  by_cases hl : hi ≤ k
  · have e : flo hi k = 0 := by simp [flo, hl]
    rw [e]
    go_enter Ybaf.func22, Ybaf.ntmps22
    go_wp2
    go_quiet (fail)
    go_wp2
    go_ret
    exact ⟨rfl, rfl, by first | exact below_drewN (Below.refl _ _) _ | exact below_drewN (below_drewN (Below.refl _ _) _) _⟩
  · have e : flo hi k = hi - k := by simp [flo, hl]
    have hl' : k < hi := by omega
    have hd : decide (hi ≤ k) = false := by simpa using hl'
    have e1 : IntKind.u64.wrap (hi - k) = hi - k := by unfold IntKind.wrap; simp [IntKind.bits, IntKind.signed]; omega
    rw [e]
    clear hl
    go_enter Ybaf.func22, Ybaf.ntmps22
    go_wp2
    go_quiet (fail)
    go_wp2
    go_quiet (fail)
    go_wp2
    go_ret
    exact ⟨rfl, rfl, by first | exact below_drewN (Below.refl _ _) _ | exact below_drewN (below_drewN (Below.refl _ _) _) _⟩

/-- The producer. -/
def prod (p : Int) : ByteArray := if p % 3 = 0 then ⟨#[97]⟩ else if p % 3 = 1 then ⟨#[98]⟩ else ⟨#[99]⟩
theorem prod_len (p : Int) : (prod p).size ≤ maxLen := by
  unfold prod
  split
  · decide
  · split <;> decide

theorem prod_is (p : Int) (h : 0 ≤ p ∧ p ≤ 255) (w : World) : Calls Ybaf.prog 11 #[.int .u8 p] w fun e w' => e = .returned (.string (prod p)) ∧ w' = w := by
  unfold prod
  obtain ⟨h0, h1⟩ := h
  by_cases e0 : p % 3 = 0
  · rw [if_pos e0]
    go_enter Ybaf.func11, Ybaf.ntmps11
    go_wp2
    go_ret
    exact ⟨rfl, rfl⟩
  · rw [if_neg e0]
    by_cases e1 : p % 3 = 1
    · rw [if_pos e1]
      go_enter Ybaf.func11, Ybaf.ntmps11
      go_wp2
      go_ret
      exact ⟨rfl, rfl⟩
    · rw [if_neg e1]
      go_enter Ybaf.func11, Ybaf.ntmps11
      go_wp2
      go_ret
      exact ⟨rfl, rfl⟩

end Go.Proofs.YbulkcmgaFmt
