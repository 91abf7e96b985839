/-
  Helpers of LawS4407BHorizon: the new rule, the entries' slice, the script.
-/
import Derived.Test.YbulkcmgaFmtCheckW
namespace Go.Proofs.YbulkcmgaFmt
open Go Go.RowKit Go.Maps

def md0 : Md := { rd := fun _ => 0, pr := fun _ => ⟨#[]⟩, hd := fun _ => false, rc := fun _ => 0, ne := 0 }

set_option maxHeartbeats 1000000 in
theorem newRule_is (hold : Bool) (k : Int) (hk : 1 ≤ k) (w : World) :
    Calls Ybaf.prog 10 #[.bool hold, .int .i64 0, .int .u64 k] w fun e w' => ∃ RB, e = .returned (.tuple #[.pointer (some ⟨RB, 0, none⟩), .nilIface]) ∧ Ru w' w.heap.size RB hold k 0 0 0 (fun _ => False) md0 (fun _ => false) ∧ Below w.heap.size w w' := by
  have hk0 : ¬ k = 0 := by omega
  have mkm : ∀ w : World, (Instr.makeMap 32 none).run Ybaf.prog w = .ok (.map (some w.heap.size)) (w.alloc (.map #[] 0)) := fun _ => rfl
  go_enter Ybaf.func10, Ybaf.ntmps10
  go_wp2
  go_ret2
  have hb : Below w.heap.size w ((w.alloc (.map #[] 0)).alloc (.cells #[.bool hold, .int .i64 0, .int .u64 k, .int .i64 0, .bool false, .int .u64 0, .map (some w.heap.size), .int .i64 0, .slice none 0 0, .map none, .slice none 0 0] 37)) := ((Below.refl _ w).alloc (Nat.le_refl _) _).alloc (by simp) _
  refine ⟨w.heap.size + 1, rfl, ⟨w.heap.size, fun _ => none, fun _ _ => none, .slice none 0 0, 0, fun _ => 0, none, by omega, Nat.le_refl _, by go_simp, by go_simp, ⟨by go_simp, by go_simp⟩, by go_simp, ⟨by go_simp; rfl, by go_simp⟩, ⟨by go_simp, by go_simp⟩, ⟨by go_simp; rfl, by go_simp⟩,
    ⟨0, Nat.zero_le _, (Tb.made w).of_block (Below.heap_alloc _ _ _ (by simp))⟩, (fun r B hB => by cases hB), (fun r r' B hB => by cases hB), (fun S hS => by cases hS), fun r => ?_, (fun r hr => by cases hr), ⟨rfl, .inl ⟨rfl, rfl⟩⟩, by simp [Value.ownBlock], fun i h0 h1 => by omega, fun i j hi => by omega, Nat.zero_le _, fun j hj => by omega, fun i hi => absurd hi (by simp [md0]), fun j hj => by omega, Int.le_refl _, fun i hi => absurd hi (by simp [md0]), ⟨by simp [md0], fun i hi => absurd hi (by simp [md0]), fun i hi => absurd hi (by simp [md0]), fun i j hi => absurd hi (by simp [md0])⟩⟩, hb⟩
  constructor
  · intro h; cases h
  · rintro ⟨i, hi, _⟩
    exact absurd hi (by simp [md0])

/-- The entries' row. -/
structure Er (w : World) (E cap : Nat) (m : Md) (al : Nat → Bool) : Prop where
  le : m.ne ≤ cap
  room : cap ≤ maxLen
  row : ∃ f, w.rowIs E 77 (cap * 5) f ∧ ∀ i, i < m.ne → f (i * 5) = .int .u64 (m.rd i) ∧ f (i * 5 + 1) = .string (m.pr i) ∧ f (i * 5 + 2) = .bool (m.hd i) ∧ f (i * 5 + 3) = .bool (al i) ∧ f (i * 5 + 4) = .pointer (some ⟨m.rc i, 0, none⟩)

/-- The entries' slice, with its row. -/
def Es (w : World) (bs RB : Nat) (ev : Value) (m : Md) (al : Nat → Bool) : Prop :=
  (m.ne = 0 ∧ ev = .slice none 0 0) ∨ ∃ E cap, ev = .slice (some ⟨E, 0, none⟩) m.ne cap ∧ bs ≤ E ∧ E ≠ RB ∧ Er w E cap m al

variable {w w' : World} {bs RB E cap : Nat} {m : Md} {al al' : Nat → Bool} {ev : Value}

theorem Er.lt (h : Er w E cap m al) : E < w.heap.size := by obtain ⟨_, _, f, r, _⟩ := h; exact r.lt
theorem Er.of_block (h : Er w E cap m al) (e : w'.heap[E]? = w.heap[E]?) : Er w' E cap m al := by
  obtain ⟨a, b, f, r, k⟩ := h
  exact ⟨a, b, f, r.of_block e, k⟩
theorem Er.cel (h : Er w E cap m al) (c : Cel RB w w') (hR : E ≠ RB) : Er w' E cap m al := by
  have ⟨a, b, f, ⟨cur, hb, r⟩, k⟩ := h
  exact h.of_block ((c E cur 77 _ hR (by decide) hb).trans hb.symm)
theorem Es.cel (h : Es w bs RB ev m al) (c : Cel RB w w') : Es w' bs RB ev m al := by
  rcases h with h | ⟨E, cap, h1, h2, h3, h4⟩
  · exact .inl h
  · exact .inr ⟨E, cap, h1, h2, h3, h4.cel c h3⟩
theorem Er.cells (h : Er w E cap m al) {i : Nat} (hi : i < m.ne) : w.cell? ⟨E, i * 5, none⟩ = some (.int .u64 (m.rd i)) ∧ w.cell? ⟨E, i * 5 + 1, none⟩ = some (.string (m.pr i)) ∧ w.cell? ⟨E, i * 5 + 2, none⟩ = some (.bool (m.hd i)) ∧ w.cell? ⟨E, i * 5 + 3, none⟩ = some (.bool (al i)) ∧ w.cell? ⟨E, i * 5 + 4, none⟩ = some (.pointer (some ⟨m.rc i, 0, none⟩)) := by
  obtain ⟨a, b, f, r, k⟩ := h
  obtain ⟨k0, k1, k2, k3, k4⟩ := k i hi
  refine ⟨?_, ?_, ?_, ?_, ?_⟩
  · rw [r.cell (by omega), k0]
  · rw [r.cell (by omega), k1]
  · rw [r.cell (by omega), k2]
  · rw [r.cell (by omega), k3]
  · rw [r.cell (by omega), k4]
theorem Es.shape (h : Es w bs RB ev m al) : ∃ ao cap, ev = .slice ao m.ne cap ∧ En w ao m al := by
  rcases h with ⟨h0, rfl⟩ | ⟨E, cap, rfl, h2, h3, h4⟩
  · exact ⟨none, 0, by rw [h0], fun h => by omega⟩
  · exact ⟨_, cap, rfl, fun _ => ⟨E, rfl, fun i hi => h4.cells hi⟩⟩
theorem Er.kill (h : Er w E cap m al) {i : Nat} (hi : i < m.ne) : Er (w.setCell ⟨E, i * 5 + 3, none⟩ (.bool false)) E cap m (kill al i) := by
  obtain ⟨a, b, f, r, k⟩ := h
  refine ⟨a, b, _, r.set _ _, fun j hj => ?_⟩
  obtain ⟨k0, k1, k2, k3, k4⟩ := k j hj
  by_cases e : j = i
  · subst e
    refine ⟨?_, ?_, ?_, ?_, ?_⟩
    · rw [if_neg (by omega), k0]
    · rw [if_neg (by omega), k1]
    · rw [if_neg (by omega), k2]
    · rw [if_pos rfl]; simp [YbulkcmgaFmt.kill]
    · rw [if_neg (by omega), k4]
  · refine ⟨?_, ?_, ?_, ?_, ?_⟩
    · rw [if_neg (by omega), k0]
    · rw [if_neg (by omega), k1]
    · rw [if_neg (by omega), k2]
    · rw [if_neg (by omega), k3]; simp [YbulkcmgaFmt.kill, e]
    · rw [if_neg (by omega), k4]
theorem Er.congr (h : Er w E cap m al) (e : ∀ i, i < m.ne → al i = al' i) : Er w E cap m al' := by
  obtain ⟨a, b, f, r, k⟩ := h
  exact ⟨a, b, f, r, fun i hi => by rw [← e i hi]; exact k i hi⟩

/-- The slice owns its row. -/
theorem Es.own (h : Es w bs RB ev m al) : ∃ xs, w.ownsRow bs 77 5 ev m.ne xs ∧ ∀ i, i < m.ne → xs[i * 5]? = some (.int .u64 (m.rd i)) ∧ xs[i * 5 + 1]? = some (.string (m.pr i)) ∧ xs[i * 5 + 2]? = some (.bool (m.hd i)) ∧ xs[i * 5 + 3]? = some (.bool (al i)) ∧ xs[i * 5 + 4]? = some (.pointer (some ⟨m.rc i, 0, none⟩)) := by
  rcases h with ⟨h0, rfl⟩ | ⟨E, cap, rfl, h2, h3, a, b, f, ⟨cur, hb, hs, hc⟩, k⟩
  · exact ⟨[], ⟨by rw [h0]; rfl, .inl ⟨rfl, h0⟩⟩, fun i hi => by omega⟩
  · refine ⟨cur.toList.take (m.ne * 5), ⟨by simp; omega, .inr ⟨E, cap, cur, rfl, h2, hb, a, b, hs, rfl⟩⟩, fun i hi => ?_⟩
    obtain ⟨k0, k1, k2, k3, k4⟩ := k i hi
    have q : ∀ o, o < 5 → (cur.toList.take (m.ne * 5))[i * 5 + o]? = some (f (i * 5 + o)) := fun o ho => by
      rw [List.getElem?_take, if_pos (by omega)]
      simpa using hc (i * 5 + o) (by omega)
    exact ⟨(q 0 (by omega)).trans (congrArg some k0), (q 1 (by omega)).trans (congrArg some k1), (q 2 (by omega)).trans (congrArg some k2), (q 3 (by omega)).trans (congrArg some k3), (q 4 (by omega)).trans (congrArg some k4)⟩

/-- An entry's cells. -/
def entC (r : Int) (p : ByteArray) (v : Bool) (X : Nat) : List Value := [.int .u64 r, .string p, .bool v, .bool true, .pointer (some ⟨X, 0, none⟩)]

theorem es_append {xs : List Value} {r : Int} {p : ByteArray} {v : Bool} {X G c : Nat} (o : w'.ownsRow bs 77 5 (.slice (some ⟨G, 0, none⟩) (m.ne + 1) c) (m.ne + 1) (xs ++ entC r p v X)) (hl : xs.length = m.ne * 5) (hG : G ≠ RB)
    (hx : ∀ i, i < m.ne → xs[i * 5]? = some (.int .u64 (m.rd i)) ∧ xs[i * 5 + 1]? = some (.string (m.pr i)) ∧ xs[i * 5 + 2]? = some (.bool (m.hd i)) ∧ xs[i * 5 + 3]? = some (.bool (al i)) ∧ xs[i * 5 + 4]? = some (.pointer (some ⟨m.rc i, 0, none⟩))) :
    Es w' bs RB (.slice (some ⟨G, 0, none⟩) (m.ne + 1) c) (m.snoc r p v X) (alive al m.ne) := by
  obtain ⟨_, h1⟩ := o
  rcases h1 with ⟨h, _⟩ | ⟨g', cap, cur, hv, hb, hblk, hn, hc, hs, ht⟩
  · cases h
  · obtain ⟨rfl, rfl⟩ : G = g' ∧ c = cap := by simpa using hv
    refine .inr ⟨G, c, rfl, hb, hG, hn, hc, fun i => cur.getD i undef, ⟨cur, hblk, hs, fun i hi => ?_⟩, fun i hi => ?_⟩
    · have : i < cur.size := by omega
      simp [this]
    · have hi' : i < m.ne + 1 := hi
      have q : ∀ o u, o < 5 → (xs ++ entC r p v X)[i * 5 + o]? = some u → cur.getD (i * 5 + o) undef = u := fun o u ho hu => by
        rw [← ht, List.getElem?_take, if_pos (by omega)] at hu
        have h2 : cur[i * 5 + o]? = some u := by simpa using hu
        simp [h2]
      by_cases e : i = m.ne
      · subst e
        have z : ∀ o, (xs ++ entC r p v X)[m.ne * 5 + o]? = (entC r p v X)[o]? := fun o => by
          rw [List.getElem?_append_right (by omega)]
          congr 1
          omega
        simp only [Md.snoc, alive, if_true]
        exact ⟨q 0 _ (by omega) ((z 0).trans rfl), q 1 _ (by omega) ((z 1).trans rfl), q 2 _ (by omega) ((z 2).trans rfl), q 3 _ (by omega) ((z 3).trans rfl), q 4 _ (by omega) ((z 4).trans rfl)⟩
      · have hi2 : i < m.ne := by omega
        obtain ⟨k0, k1, k2, k3, k4⟩ := hx i hi2
        have z : ∀ o, o < 5 → (xs ++ entC r p v X)[i * 5 + o]? = xs[i * 5 + o]? := fun o ho => List.getElem?_append_left (by omega)
        simp only [Md.snoc, alive, e, if_false]
        exact ⟨q 0 _ (by omega) ((z 0 (by omega)).trans k0), q 1 _ (by omega) ((z 1 (by omega)).trans k1), q 2 _ (by omega) ((z 2 (by omega)).trans k2), q 3 _ (by omega) ((z 3 (by omega)).trans k3), q 4 _ (by omega) ((z 4 (by omega)).trans k4)⟩

theorem info77 : (Ybaf.prog.info? 77).map (fun i => (i.zero, i.size, i.bytes)) = some (some (.agg #[.int .u64 0, .string ⟨#[]⟩, .bool false, .bool false, .pointer none]), 5, 40) := by kernel_rfl

/-- append of one struct to an owned slice, at the operation. -/
theorem wpList_append_one {P : Program} {w : World} {ops : Array Oper} {rest : List Oper} {o : Oper} {a : Act} {Q : Exit → Act → World → Prop} (hgd : o.guard = none) (s x : Operand) (t : TypeId)
    (ho : o.op = .call { callee := .builtin .append, args := #[s, x], argTypes := #[t, t] }) (e : TypeId) (size bytes : Nat) (z : Value) (ht : P.underlying t = some (.slice e))
    (hinfo : (P.info? e).map (fun i => (i.zero, i.size, i.bytes)) = some (some z, size, bytes)) (hzs : z.cells.size = size) (hsz : 0 < size) (hby : bytes ≤ 4096)
    (base : Nat) (v : Value) (n : Nat) (xs : List Value) (hs : a.eval s = v) (hown : w.ownsRow base e size v n xs) (hn : n ≤ 100000) (hbase : base ≤ w.heap.size)
    (ad : Addr) (c : Nat) (news : List Value) (hx : a.eval x = .slice (some ad) 1 c) (hl : news.length = size) (hnews : ∀ j u, news[j]? = some u → w.cell? (ad.add j) = some u) (h1 : ∀ u ∈ news, u.oneCell' = true)
    (h : ∀ g cap w', Hid (w'.ownsRow base e size (.slice (some ⟨g, 0, none⟩) (n + 1) cap) (n + 1) (xs ++ news)) → Hid (w.grownBy w' v.ownBlock) → Hid (v.ownBlock = some g ∨ g = w.heap.size) → wpList P ops Q rest (a.put o.dst (.slice (some ⟨g, 0, none⟩) (n + 1) cap)) w') : wpList P ops Q (o :: rest) a w := by
  obtain ⟨i, hi, he⟩ := Option.map_eq_some_iff.1 hinfo
  simp only [Prod.mk.injEq] at he
  obtain ⟨hz, his, hib⟩ := he
  refine wpList_append_own_at w hgd s x t ho base e i z size bytes ht hi hz his hib hzs hsz v n xs hs hown ad 1 c news hx (by rw [hl, Nat.one_mul]) hnews h1 (by unfold maxLen; omega) ?_ hbase ?_
  · exact Nat.le_trans (Nat.mul_le_mul (show n + 1 ≤ 100001 by omega) hby) (by decide)
  · intro v' w' k1 k2 k3 k4
    have k1' := k1
    obtain ⟨_, h2⟩ := k1'
    rcases h2 with ⟨rfl, h0⟩ | ⟨g, cap, cur, rfl, _⟩
    · omega
    · refine h g cap w' k1 k2 ?_
      rcases k4 with k4 | k4
      · exact .inl k4.symm
      · exact .inr (by simpa [Value.ownBlock] using k4)

end Go.Proofs.YbulkcmgaFmt
