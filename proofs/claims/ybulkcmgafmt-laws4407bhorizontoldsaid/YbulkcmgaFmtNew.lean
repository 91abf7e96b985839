/-
  'append' to a slice that owns nothing yet: the world behind it is a letter; the new row's head is known.
-/
import Derived.Test.YbulkcmgaFmtOnly
import Derived.Test.YbulkcmgaFmtProg
import Derived.Maps.AppendAt
namespace Go.Proofs.YbulkcmgaFmt
open Go Go.RowKit

/-- Block g is a row of type e; its first cells are xs. -/
def Has (w : World) (g : Nat) (e : TypeId) (xs : List Value) : Prop := ∃ cur : Array Value, w.heap[g]? = some (.cells cur e (0, 0)) ∧ cur.toList.take xs.length = xs

theorem Has.cell {w : World} {g e : Nat} {xs : List Value} (h : Has w g e xs) (i : Nat) {v : Value} (hv : xs[i]? = some v) : w.cell? ⟨g, i, none⟩ = some v := by
  obtain ⟨cur, h1, h2⟩ := h
  have h3 : cur[i]? = some v := by
    rw [← h2] at hv
    rw [List.getElem?_take] at hv
    split at hv
    · simpa using hv
    · cases hv
  simp [World.cell?, h1, h3]
theorem Has.lt {w : World} {g e : Nat} {xs : List Value} (h : Has w g e xs) : g < w.heap.size := by
  obtain ⟨cur, h1, _⟩ := h
  exact (Array.getElem?_eq_some_iff.1 h1).1
theorem Has.of_block {w w' : World} {g e : Nat} {xs : List Value} (h : Has w g e xs) (hb : w'.heap[g]? = w.heap[g]?) : Has w' g e xs := by
  obtain ⟨cur, h1, h2⟩ := h
  exact ⟨cur, hb.trans h1, h2⟩
theorem Has.only {S : List Nat} {w w' : World} {g e : Nat} {xs : List Value} (h : Has w g e xs) (o : Only S w w') (hg : g ∉ S) : Has w' g e xs := h.of_block (o.block g h.lt hg)
theorem Has.frozen {w : World} {g e : Nat} {xs : List Value} (h : Has w g e xs) (i : Nat) : w.frozen? ⟨g, i, none⟩ = false := by
  obtain ⟨cur, h1, _⟩ := h
  simp [World.frozen?, h1]

theorem grown_below {w w' : World} {row : Option Nat} (h : w.grownBy w' row) (B : Nat) (hB : B ≤ w.heap.size) (hr : ∀ k, row = some k → B ≤ k) : Below B w w' :=
  ⟨h.os, h.tape, h.output, h.size, fun j hj => h.block j (Nat.lt_of_lt_of_le hj hB) (fun e => by have := hr j e.symm; omega)⟩

/-- append(nil, x): one element more than none. -/
theorem wpList_append_nil {P : Program} {w : World} {ops : Array Oper} {rest : List Oper} {o : Oper} {a : Act} {Q : Exit → Act → World → Prop} (hgd : o.guard = none) (s x : Operand) (t : TypeId)
    (ho : o.op = .call { callee := .builtin .append, args := #[s, x], argTypes := #[t, t] }) (e : TypeId) (size bytes : Nat) (z : Value) (ht : P.underlying t = some (.slice e))
    (hinfo : (P.info? e).map (fun i => (i.zero, i.size, i.bytes)) = some (some z, size, bytes)) (hzs : z.cells.size = size) (hsz : 0 < size) (hby : bytes ≤ 4096)
    (hs : a.eval s = .slice none 0 0) (ad : Addr) (c : Nat) (news : List Value) (hx : a.eval x = .slice (some ad) 1 c) (hl : news.length = size) (hnews : ∀ j u, news[j]? = some u → w.cell? (ad.add j) = some u) (h1 : ∀ u ∈ news, u.oneCell' = true)
    (h : ∀ g cap w', Hid (Has w' g e news) → Hid (w.heap.size ≤ g) → Hid (Below w.heap.size w w') → wpList P ops Q rest (a.put o.dst (.slice (some ⟨g, 0, none⟩) 1 cap)) w') : wpList P ops Q (o :: rest) a w := by
  obtain ⟨i, hi, he⟩ := Option.map_eq_some_iff.1 hinfo
  simp only [Prod.mk.injEq] at he
  obtain ⟨hz, his, hib⟩ := he
  refine wpList_append_own_at w hgd s x t ho w.heap.size e i z size bytes ht hi hz his hib hzs hsz _ 0 [] hs (World.ownsRow_nil w _ _ _) ad 1 c news hx (by rw [hl, Nat.one_mul]) hnews h1 (by unfold maxLen; omega) (by omega) (Nat.le_refl _) ?_
  intro v' w' hown hg _ _
  rcases hown.2 with ⟨_, hn⟩ | ⟨g, cap, cur, rfl, hbg, hblk, _, _, _, htk⟩
  · omega
  · refine h g cap w' ⟨cur, hblk, ?_⟩ hbg (grown_below hg _ (Nat.le_refl _) (by simp [Value.ownBlock]))
    have : (0 + 1) * size = news.length := by omega
    rw [← this, htk]
    simp

/-- append([]T{}, xs...): a copy. -/
theorem wpList_append_copy {P : Program} {w : World} {ops : Array Oper} {rest : List Oper} {o : Oper} {a : Act} {Q : Exit → Act → World → Prop} (hgd : o.guard = none) (s x : Operand) (t : TypeId)
    (ho : o.op = .call { callee := .builtin .append, args := #[s, x], argTypes := #[t, t] }) (e : TypeId) (bytes : Nat) (z : Value) (ht : P.underlying t = some (.slice e))
    (hinfo : (P.info? e).map (fun i => (i.zero, i.size, i.bytes)) = some (some z, 1, bytes)) (hzs : z.cells.size = 1) (hby : bytes ≤ 4096) (E : Nat)
    (hs : a.eval s = .slice (some ⟨E, 0, none⟩) 0 0) (hE : w.heap[E]? = some (.cells #[] e (0, 0))) (ad : Addr) (m c : Nat) (hm0 : 0 < m) (hm : m ≤ 1000) (news : List Value) (hx : a.eval x = .slice (some ad) m c) (hl : news.length = m) (hnews : ∀ j u, news[j]? = some u → w.cell? (ad.add j) = some u) (h1 : ∀ u ∈ news, u.oneCell' = true)
    (h : ∀ g cap w', Hid (Has w' g e news) → Hid (E ≤ g) → Hid (Below E w w') → wpList P ops Q rest (a.put o.dst (.slice (some ⟨g, 0, none⟩) m cap)) w') : wpList P ops Q (o :: rest) a w := by
  obtain ⟨i, hi, he⟩ := Option.map_eq_some_iff.1 hinfo
  simp only [Prod.mk.injEq] at he
  obtain ⟨hz, his, hib⟩ := he
  have hlt : E < w.heap.size := (Array.getElem?_eq_some_iff.1 hE).1
  refine wpList_append_own_at w hgd s x t ho E e i z 1 bytes ht hi hz his hib hzs (by decide) _ 0 [] hs ⟨by simp, .inr ⟨E, 0, #[], rfl, Nat.le_refl _, hE, Nat.le_refl _, Nat.zero_le _, by simp, by simp⟩⟩ ad m c news hx (by rw [hl, Nat.mul_one]) hnews h1 (by unfold maxLen; omega) ?_ (by omega) ?_
  · rw [Nat.zero_add]
    exact Nat.le_trans (Nat.mul_le_mul hm hby) (by decide)
  intro v' w' hown hg _ _
  rcases hown.2 with ⟨_, hn⟩ | ⟨g, cap, cur, rfl, hbg, hblk, _, _, _, htk⟩
  · omega
  · rw [Nat.zero_add]
    refine h g cap w' ⟨cur, hblk, ?_⟩ hbg (grown_below hg _ (by omega) (by simp [Value.ownBlock]))
    have : (0 + m) * 1 = news.length := by omega
    rw [← this, htk]
    simp

end Go.Proofs.YbulkcmgaFmt
