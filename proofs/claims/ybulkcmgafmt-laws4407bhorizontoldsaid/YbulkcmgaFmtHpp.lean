/-
  container/heap.Push, Pop over the rule's heap of rounds.
-/
import Derived.Test.YbulkcmgaFmtUp
namespace Go.Proofs.YbulkcmgaFmt
open Go Go.RowKit

variable {RB G n c bs : Nat} {a : Nat → Int} {w : World} {sv : Value}

theorem hr_of_own {x : World} (h : x.ownsRow bs 22 1 (.slice (some ⟨G, 0, none⟩) n c) n (wordsL a n)) : Hr x G n c a ∧ bs ≤ G := by
  obtain ⟨_, h⟩ := h
  rcases h with ⟨h, _⟩ | ⟨g, cap, cur, hv, hb, hblk, hn, hc, hs, ht⟩
  · cases h
  · obtain ⟨rfl, rfl⟩ : G = g ∧ c = cap := by simpa using hv
    refine ⟨⟨hn, hc, fun i => cur.getD i undef, ⟨cur, hblk, by simpa using hs, fun i hi => ?_⟩, fun i hi => ?_⟩, hb⟩
    · have : i < cur.size := by omega
      simp [this]
    · have h1 : (wordsL a n)[i]? = some (.int .u64 (a i)) := wordsL_get hi
      rw [← ht, List.getElem?_take] at h1
      rw [if_pos (by omega)] at h1
      have h2 : cur[i]? = some (.int .u64 (a i)) := by simpa using h1
      have : i < cur.size := by omega
      simp [this] at h2 ⊢
      exact h2

theorem own_of_hr {x : World} (h : Hr x G n c a) (hb : bs ≤ G) : x.ownsRow bs 22 1 (.slice (some ⟨G, 0, none⟩) n c) n (wordsL a n) := by
  obtain ⟨l, m, f, ⟨cur, hblk, hs, hc⟩, k⟩ := h
  refine ⟨by rw [wordsL_len, Nat.mul_one], .inr ⟨G, c, cur, rfl, hb, hblk, l, m, by rw [hs, Nat.mul_one], ?_⟩⟩
  apply List.ext_getElem?
  intro i
  rw [List.getElem?_take, Nat.mul_one]
  by_cases hi : i < n
  · rw [if_pos hi, wordsL_get hi]
    have := hc i (by omega)
    rw [k i hi] at this
    simpa using this
  · rw [if_neg hi]
    simp [wordsL, hi]

theorem own_kept {x y : World} {xs : List Value} (h : x.ownsRow bs 22 1 sv n xs) (k : ∀ g, sv.ownBlock = some g → y.heap[g]? = x.heap[g]?) : y.ownsRow bs 22 1 sv n xs := by
  obtain ⟨h0, h1⟩ := h
  refine ⟨h0, ?_⟩
  rcases h1 with h1 | ⟨g, cap, cur, hv, hb, hblk, r⟩
  · exact .inl h1
  · exact .inr ⟨g, cap, cur, hv, hb, (k g (by rw [hv]; rfl)).trans hblk, r⟩

theorem own_lt {x : World} {xs : List Value} (h : x.ownsRow bs 22 1 sv n xs) {g : Nat} (hg : sv.ownBlock = some g) : g < x.heap.size := by
  obtain ⟨h0, h1⟩ := h
  rcases h1 with ⟨rfl, _⟩ | ⟨g', cap, cur, rfl, hb, hblk, r⟩
  · cases hg
  · obtain rfl : g' = g := by simpa [Value.ownBlock] using hg
    exact (Array.getElem?_eq_some_iff.1 hblk).1

/-- a with x behind its first n numbers. -/
def snoc (a : Nat → Int) (n : Nat) (x : Int) : Nat → Int := fun i => if i < n then a i else x
theorem snoc_words (a : Nat → Int) (n : Nat) (x : Int) : wordsL a n ++ [.int .u64 x] = wordsL (snoc a n x) (n + 1) := by
  apply List.ext_getElem?
  intro i
  by_cases h : i < n
  · rw [List.getElem?_append_left (by rw [wordsL_len]; exact h), wordsL_get h, wordsL_get (by omega)]
    simp [snoc, h]
  · rw [List.getElem?_append_right (by rw [wordsL_len]; omega), wordsL_len]
    by_cases e : i = n
    · subst e
      rw [wordsL_get (by omega)]
      simp [snoc]
    · have h1 : (wordsL (snoc a n x) (n + 1))[i]? = none := List.getElem?_eq_none (by rw [wordsL_len]; omega)
      rw [h1, List.getElem?_eq_none (by simp; omega)]

theorem step_append_own {P : Program} {w : World} {ops : Array Oper} {o : Oper} {ac : Act} {K : Act → World → Prop} {Q : Exit → Act → World → Prop} {E : Prop} (hgd : o.guard = none) (s x : Operand) (t : TypeId)
    (ho : o.op = .call { callee := .builtin .append, args := #[s, x], argTypes := #[t, t] }) (e : TypeId) (size bytes : Nat) (z : Value) (ht : P.underlying t = some (.slice e))
    (hinfo : (P.info? e).map (fun i => (i.zero, i.size, i.bytes)) = some (some z, size, bytes)) (hzs : z.cells.size = size) (hsz : 0 < size) (hby : bytes ≤ 4096)
    (base : Nat) (v : Value) (n : Nat) (xs : List Value) (hs : ac.eval s = v) (hown : w.ownsRow base e size v n xs) (hn : n ≤ 100000) (hbase : base ≤ w.heap.size)
    (ad : Addr) (c : Nat) (news : List Value) (hx : ac.eval x = .slice (some ad) 1 c) (hl : news.length = size) (hnews : ∀ j u, news[j]? = some u → w.cell? (ad.add j) = some u) (h1 : ∀ u ∈ news, u.oneCell' = true)
    (h : ∀ g cap w', Hid (w'.ownsRow base e size (.slice (some ⟨g, 0, none⟩) (n + 1) cap) (n + 1) (xs ++ news)) → Hid (w.grownBy w' v.ownBlock) → Hid (v.ownBlock = some g ∨ g = w.heap.size) → K (ac.put o.dst (.slice (some ⟨g, 0, none⟩) (n + 1) cap)) w') :
    if Region.wanted o (yielded ops ac.tmps) = true then Oper.wp P o ac w K Q else E := by
  obtain ⟨i, hi, he⟩ := Option.map_eq_some_iff.1 hinfo
  simp only [Prod.mk.injEq] at he
  obtain ⟨hz, his, hib⟩ := he
  refine step_append_lies w hgd s x t ho base e i z size bytes ht hi hz his hib hzs hsz v n xs hs hown ad 1 c news hx (by rw [hl, Nat.one_mul]) hnews h1 (by decide) (by unfold maxLen; omega) ?_ hbase w.heap.size rfl ?_
  · exact Nat.le_trans (Nat.mul_le_mul (show n + 1 ≤ 100001 by omega) hby) (by decide)
  · intro g cap w' k1 k2 k3 _
    exact h g cap w' k1 k2 k3

theorem Only.of_grown {x y : World} {row : Option Nat} (h : x.grownBy y row) : Only row.toList x y :=
  ⟨h.os, h.tape, h.output, h.size, fun k hk hn => h.block k hk (fun e => hn (by rw [← e]; simp))⟩

set_option maxHeartbeats 2000000 in
set_option maxRecDepth 100000 in
theorem hpush64 (x : Int) (h8 : At w RB 8 sv) (hown : w.ownsRow bs 22 1 sv n (wordsL a n)) (hne : sv.ownBlock ≠ some RB) (hn : n ≤ 1000) (hbs : bs ≤ w.heap.size) :
    Calls Ybaf.prog 64 #[.pointer (some ⟨RB, 8, none⟩), .iface 22 (.int .u64 x)] w fun e w' => e = .returned (.tuple #[]) ∧ ∃ g cap, Hw w' RB g (n + 1) cap (snoc a n x) ∧ bs ≤ g ∧ (sv.ownBlock = some g ∨ w.heap.size ≤ g) ∧ Only (RB :: sv.ownBlock.toList) w w' ∧ Rest w w' RB [8] := by
  have lR := h8.lt
  have c8 := h8.cell
  have HB' : Hid (Below w.heap.size w ((w.alloc (.cells #[.int .u64 x] 22)).drew)) := hidn ((Below.refl _ w).alloc (Nat.le_refl _) (.cells #[.int .u64 x] 22)).drew
  have N' : Hid (∀ j u, ([.int .u64 x] : List Value)[j]? = some u → ((w.alloc (.cells #[.int .u64 x] 22)).drew).cell? ((⟨w.heap.size, 0, none⟩ : Addr).add j) = some u) := hidn (news_cells w [.int .u64 x] 22)
  have HO := hidn (own_kept (y := (w.alloc (.cells #[.int .u64 x] 22)).drew) hown (fun g hg => HB'.out.block g (own_lt hown hg)))
  have HA := hidn (h8.below HB'.out lR)
  have HN := hidn (And.intro hne hown)
  clear h8 hown hne
  have hTA : ∀ (v : Value) (w : World), (Instr.typeAssert (.iface 22 v) 20 22 false).run Ybaf.prog w = .ok v w := fun v w => by kernel_rfl
  go_enter Ybaf.func64, Ybaf.ntmps64
  go_wp2
  go_region_law ((refine step_append_own (by rfl) _ _ 33 (by rfl) 22 1 8 _ Ybaf.underlying33 info22 (by rfl) (by decide) (by decide) bs sv n (wordsL a n) (by rfl) HO.out (by omega) (by simp; omega) ⟨w.heap.size, 0, none⟩ 1 [.int .u64 x] (by rfl) (by rfl) N'.out (by simp [Value.oneCell']) ?_; intro g cap w1 x1 x2 x3; obtain ⟨y1, y2⟩ : At w1 RB 8 sv := ⟨(World.cell?_of_block (x2.out.block RB (by simp; omega) (fun e => HN.out.1 e.symm))).trans HA.out.1, (World.frozen?_of_block (x2.out.block RB (by simp; omega) (fun e => HN.out.1 e.symm))).trans HA.out.2⟩))
  all_goals go_wp2
  all_goals go_end0
  all_goals
    obtain ⟨hne, hown⟩ := HN.out
    have hx3 : sv.ownBlock = some g ∨ w.heap.size + 1 = g := by
      rcases x3.out with h | h
      · exact .inl h
      · exact .inr (by rw [h]; simp)
    have hRg : RB ≠ g := by
      rcases hx3 with h | h
      · exact fun e => hne (by rw [h, e])
      · omega
    obtain ⟨k1, k2⟩ := hr_of_own (a := snoc a n x) (by rw [← snoc_words]; exact x1.out)
    have bR := x2.out.block RB (by simp; omega) (fun e => hne e.symm)
    have o1 : Only (RB :: sv.ownBlock.toList) w1 (w1.setCell ⟨RB, 8, none⟩ (.slice (some ⟨g, 0, none⟩) (n + 1) cap)) := (Only.refl _ _).setCell (by simp) _
    refine ⟨rfl, g, cap, ⟨hRg, ⟨by go_simp, by go_simp⟩, k1.of_block (Below.heap_setCell _ _ _ _ (fun e => hRg e.symm))⟩, k2, (by rcases hx3 with h | h; exact .inl h; exact .inr (by omega)), ?_, ?_⟩
    · exact (Only.of_below HB'.out).trans (((Only.of_grown x2.out).mono (fun k hk => List.mem_cons_of_mem _ hk)).trans o1)
    · exact (Rest.of_block (HB'.out.block RB lR)).trans ((Rest.of_block bR).trans (Rest.set _ _ _ _))

theorem upo_snoc {x : Int} (h : HeapO a n) : UpO (snoc a n x) (n + 1) n := by
  refine ⟨by omega, fun i i0 hi ne => ?_, fun i i0 hi e _ => by omega⟩
  have := h i i0 (by omega)
  simp only [snoc]
  rw [if_pos (by omega), if_pos (by omega)]
  exact this
theorem mem_snoc {x r : Int} : Mem (snoc a n x) (n + 1) r ↔ Mem a n r ∨ r = x := by
  constructor
  · rintro ⟨i, hi, e⟩
    by_cases h : i < n
    · exact .inl ⟨i, h, by simpa [snoc, h] using e⟩
    · exact .inr (by simpa [snoc, h] using e.symm)
  · rintro (⟨i, hi, e⟩ | rfl)
    · exact ⟨i, by omega, by simpa [snoc, hi] using e⟩
    · exact ⟨n, by omega, by simp [snoc]⟩
theorem inj_snoc {x : Int} (h : Inj a n) (hx : ¬ Mem a n x) : Inj (snoc a n x) (n + 1) := by
  intro i j hi hj e
  by_cases h1 : i < n <;> by_cases h2 : j < n
  · exact h i j h1 h2 (by simpa [snoc, h1, h2] using e)
  · exact absurd ⟨i, h1, by simpa [snoc, h1, h2] using e⟩ hx
  · exact absurd ⟨j, h2, by simpa [snoc, h1, h2] using e.symm⟩ hx
  · omega

set_option maxHeartbeats 1000000 in
set_option maxRecDepth 100000 in
theorem hpush_all (x : Int) (h8 : At w RB 8 sv) (hown : w.ownsRow bs 22 1 sv n (wordsL a n)) (hne : sv.ownBlock ≠ some RB) (hn : n ≤ 900) (hbs : bs ≤ w.heap.size) (hh : HeapO a n) :
    Calls Ybaf.prog 21 #[.iface 94 (.pointer (some ⟨RB, 8, none⟩)), .iface 22 (.int .u64 x)] w fun e w' => e = .returned (.tuple #[]) ∧ ∃ g cap a', Hw w' RB g (n + 1) cap a' ∧ bs ≤ g ∧ (sv.ownBlock = some g ∨ w.heap.size ≤ g) ∧ Same (snoc a n x) a' (n + 1) ∧ HeapO a' (n + 1) ∧ Only (RB :: sv.ownBlock.toList) w w' ∧ Rest w w' RB [8] := by
  have K := hidn (hpush64 x h8 hown hne (by omega) hbs)
  have m1 := mPush94
  have HH := hidn hh
  have lR := h8.lt
  clear h8 hown hh
  go_enter Ybaf.func21, Ybaf.ntmps21
  go_upto_region 1 with (go_at_call 64; refine K.out.mono ?_; rintro e w1 ⟨rfl, g, cap, x1, x2, x3, x4, x5⟩)
  have m2 := mVal94 "Len" 54 hmLen94 ⟨RB, 8, none⟩ _ w1 x1.at8.cell
  have KU := hidn (up_is n x1 (upo_snoc HH.out) (by omega))
  have HX := hidn (And.intro x1 (And.intro x2 (And.intro x3 (And.intro x4 x5))))
  clear x1 x2 x3 x4 x5 m1 K
  go_wp2_with (first
    | (go_at_call 54; refine (len94_is _ _ _ _).mono ?_; rintro e w2 ⟨rfl, rfl⟩)
    | (go_at_call 33; refine KU.out.mono ?_; rintro e w2 ⟨rfl, a', y1, y2, y3, y4⟩))
  go_end0
  obtain ⟨x1, x2, x3, x4, x5⟩ := HX.out
  have hRg := x1.ne
  refine ⟨rfl, g, cap, a', y1, x2, x3, y2, y3, ?_, x5.trans (Rest.of_block (y4.block RB (Nat.lt_of_lt_of_le lR x4.size) (by simpa using hRg)))⟩
  rcases x3 with h | h
  · exact x4.trans (y4.mono (by rw [h]; simp))
  · exact x4.new y4 (by simpa using h)

set_option maxHeartbeats 1000000 in
theorem hpop63 (m : Nat) (hm : m + 1 = n) (hn : n ≤ 1000) (h : Hw w RB G n c a) :
    Calls Ybaf.prog 63 #[.pointer (some ⟨RB, 8, none⟩)] w fun e w' => e = .returned (.iface 22 (.int .u64 (a m))) ∧ Hw w' RB G m c a ∧ Only [RB] w w' ∧ Rest w w' RB [8] := by
  have e1 : (n : Int) - 1 = (m : Int) := by omega
  have c8 := h.at8.1
  have f8 := h.at8.2
  have cm := h.row.cell (show m < n by omega)
  have hmc : m ≤ c := by have := h.row.le; omega
  have hmn : m < n := by omega
  have hmc' : ¬ c < m := by omega
  have HH := hidn h
  clear h hm
  go_enter Ybaf.func63, Ybaf.ntmps63
  go_wp2
  go_ret
  obtain ⟨h1, h2, h3⟩ := HH.out
  refine ⟨rfl, ⟨h1, ⟨by go_simp, by go_simp⟩, (h3.less (by omega)).of_block (Below.heap_setCell _ _ _ _ (fun e => h1 e.symm))⟩, (Only.refl _ _).setCell (by simp) _, Rest.set _ _ _ _⟩

theorem downo_swp {m : Nat} (h : HeapO a n) (hm : m + 1 = n) : DownO (swp a 0 m) m 0 := by
  refine ⟨fun k k0 hk ne => ?_, fun k k0 hk e h0 => by omega⟩
  rw [swp_o a ne (by omega), swp_o a (by omega) (by omega)]
  exact h k k0 (by omega)

set_option maxHeartbeats 1000000 in
set_option maxRecDepth 100000 in
theorem hpop_all (m : Nat) (hm : m + 1 = n) (hn : n ≤ 1000) (h : Hw w RB G n c a) (hh : HeapO a n) :
    Calls Ybaf.prog 23 #[.iface 94 (.pointer (some ⟨RB, 8, none⟩))] w fun e w' => e = .returned (.iface 22 (.int .u64 (a 0))) ∧ ∃ a', Hw w' RB G m c a' ∧ HeapO a' m ∧ (∀ r, Mem a n r ↔ Mem a' m r ∨ r = a 0) ∧ (Inj a n → Inj a' m ∧ ¬ Mem a' m (a 0)) ∧ Only [RB, G] w w' ∧ Rest w w' RB [8] := by
  have e1 : (n : Int) - 1 = (m : Int) := by omega
  have m1 := mVal94 "Len" 54 hmLen94 ⟨RB, 8, none⟩ _ w h.at8.cell
  have m2 := mVal94 "Swap" 56 hmSwap94 ⟨RB, 8, none⟩ _ w h.at8.cell
  have K1 := hidn (swap_is G n c 0 m a w (by omega) (by omega) h.row)
  have lR := h.at8.lt
  have HH := hidn (And.intro h (And.intro hh hm))
  clear h hh hm
  go_enter Ybaf.func23, Ybaf.ntmps23
  go_upto_region 3 with (first
    | (go_at_call 54; refine (len94_is _ _ _ _).mono ?_; rintro e w2 ⟨rfl, rfl⟩)
    | (go_at_call 56; refine K1.out.mono ?_; rintro e w1 ⟨rfl, x1, x2⟩))
  obtain ⟨h, hh, hm⟩ := HH.out
  have h1 := h.onlyG x1 x2
  have K2 := hidn (down_is m (by omega) h1 (downo_swp hh hm) hn)
  have HX := hidn (And.intro x1 x2)
  clear h hh hm x1 x2 h1 m1 m2 K1
  go_upto_region 4 with (go_at_call 34; refine K2.out.mono ?_; rintro e w3 ⟨⟨v, rfl⟩, a', y1, y2, y3, y4, y5⟩)
  have K3 := hidn (hpop63 m HH.out.2.2 hn y1)
  have m3 := mPop94
  have HY := hidn (And.intro y1 (And.intro y2 (And.intro y3 (And.intro y4 y5))))
  clear y1 y2 y3 y4 y5 K2
  go_wp2_with (go_at_call 63; refine K3.out.mono ?_; rintro e w4 ⟨rfl, z1, z2, z3⟩)
  go_ret
  obtain ⟨h, hh, hm⟩ := HH.out
  obtain ⟨x1, x2⟩ := HX.out
  obtain ⟨y1, y2, y3, y4, y5⟩ := HY.out
  have em : a' m = a 0 := by rw [y3 m (Nat.le_refl _), swp_r]
  have ss := same_swp a (i := 0) (j := m) (n := n) (by omega) (by omega)
  have memA : ∀ r, Mem a' m r ↔ Mem (swp a 0 m) m r := y2.mem
  have memN : ∀ (b : Nat → Int) r, Mem b n r ↔ Mem b m r ∨ r = b m := fun b r => by
    constructor
    · rintro ⟨i, hi, e⟩
      by_cases h : i < m
      · exact .inl ⟨i, h, e⟩
      · obtain rfl : i = m := by omega
        exact .inr e.symm
    · rintro (⟨i, hi, e⟩ | rfl)
      · exact ⟨i, by omega, e⟩
      · exact ⟨m, by omega, rfl⟩
  refine ⟨by rw [em]; rfl, a', z1, y4, fun r => ?_, fun hinj => ?_, ?_, ?_⟩
  · rw [← ss.mem r, memN, memA, swp_r]
  · have hs := ss.inj hinj
    refine ⟨y2.inj (fun i j hi hj e => hs i j (by omega) (by omega) e), fun hm' => ?_⟩
    obtain ⟨i, hi, e⟩ := (memA _).1 hm'
    have := hs i m (by omega) (by omega) (by rw [e, swp_r])
    omega
  · exact ((x2.trans y5).mono (by simp)).trans (z2.mono (by simp))
  · have q : RB ∉ [G] := by simpa using h.ne
    exact ((Rest.of_block (x2.block RB lR q)).trans (Rest.of_block (y5.block RB (Nat.lt_of_lt_of_le lR x2.size) q))).trans z3

end Go.Proofs.YbulkcmgaFmt
