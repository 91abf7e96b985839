/-
  (*Rule).forget, inside a range over the round's map.
-/
import Derived.Test.YbulkcmgaFmtKill
namespace Go.Proofs.YbulkcmgaFmt
open Go Go.RowKit Go.Maps

/-- A range over a round's map under way. -/
def Ri (w : World) (B I s : Nat) (f : ByteArray → Option Nat) (left : Lit → Bool) (c : Nat) : Prop := ∃ D, w.ranges Ybaf.prog 9 recR B I s D left c ∧ ∀ p z, D.atKey (.string p.data.toList) z = dv z (f p)

section
variable {w w' : World} {B I s c : Nat} {f : ByteArray → Option Nat} {left : Lit → Bool}
theorem Ri.inn (h : Ri w B I s f left c) : ∃ s', s' ≤ s ∧ Inn w B f s' := by
  obtain ⟨D, h1, h2⟩ := h
  exact ⟨_, h1.owns.size_le, D, tight h1.owns, rfl, h2⟩
theorem Ri.of_blocks (h : Ri w B I s f left c) (hB : w'.heap[B]? = w.heap[B]?) (hI : w'.heap[I]? = w.heap[I]?) : Ri w' B I s f left c := by
  obtain ⟨D, ⟨es, clock, since, seen, c0, h1, h2, h3, h4, h5, r⟩, h6⟩ := h
  exact ⟨D, ⟨es, clock, since, seen, c0, hB.trans h1, h2, h3, h4, hI.trans h5, r⟩, h6⟩
theorem Ri.iter (h : Ri w B I s f left c) : ∃ a b d e, w.heap[I]? = some (.mapIter a b d e) := by
  obtain ⟨D, ⟨es, clock, since, seen, c0, h1, h2, h3, h4, h5, r⟩, h6⟩ := h
  exact ⟨_, _, _, _, h5⟩
theorem Ri.lt (h : Ri w B I s f left c) : I < w.heap.size := by obtain ⟨D, h1, _⟩ := h; exact h1.lt
theorem Inn.pos {n : Nat} (t : Inn w B f n) {p : ByteArray} {X : Nat} (h : f p = some X) : 0 < n := by
  obtain ⟨D, o, hs, hat⟩ := t
  have hh := Inn.has hat p
  rw [h] at hh
  cases D <;> try (cases hh; done)
  rename_i es
  rw [← hs]
  cases es with
  | nil => cases hh
  | cons y r => simp [Maps.size]
theorem Ri.drop (h : Ri w B I s f left c) (p : ByteArray) (hp : p.size ≤ maxLen) (ty : TypeId) :
    ∃ w' c', (Builtin.delete_ #[34, 9] ty #[.map (some B), .string p]).run Ybaf.prog w = .ok (.tuple #[]) w' ∧ Ri w' B I s (setK f p none) (fun x => left x && !x.sameKey (.string p.data.toList)) c' ∧ c' ≤ c ∧ w.grownBy w' (some B) := by
  obtain ⟨D, h1, h2⟩ := h
  obtain ⟨w', c', hrun, r1, r2, r3⟩ := h1.drop key9 Ybaf.underlying34 (WideMaps.keyOf_string_mk Ybaf.underlying9 hp) ty
  refine ⟨w', c', hrun, ⟨_, r1, fun p' z => ?_⟩, r2, r3.grown⟩
  by_cases e : p' = p
  · subst e
    rw [atKey_del_same]
    simp [setK, dv]
  · rw [atKey_del_other (str_ne e), h2]
    simp [setK, e]
end

variable {w w' : World} {bs RB M B I n s c : Nat} {hold : Bool} {k hi fl tp : Int} {ex : Int → Prop} {m : Md} {al : Nat → Bool} {g : Int → Option Nat} {h : Int → ByteArray → Option Nat} {sv : Value} {a : Nat → Int} {sp : Option Nat} {left : Lit → Bool}

set_option maxHeartbeats 2000000 in
set_option maxRecDepth 100000 in
theorem forget_is (x : Rx w bs RB hold k hi fl tp ex m al M g h sv n a sp) {i0 j0 : Nat} (h0 : i0 < m.ne) (ha : al i0 = true) (hj : j0 < m.ne) (haj : al j0 = true) (hr : m.rd j0 = m.rd i0) (hne : j0 ≠ i0) (hB : g (m.rd i0) = some B) (hs : s ≤ m.ne) (hR : Ri w B I s (h (m.rd i0)) left c) :
    Calls Ybaf.prog 25 #[.pointer (some ⟨RB, 0, none⟩), .agg #[.int .u64 (m.rd i0), .string (m.pr i0)]] w fun e w' => e = .returned (.tuple #[]) ∧
      Rx w' bs RB hold k hi fl tp ex m (kill al i0) M g (fun r' => if r' = m.rd i0 then setK (h (m.rd i0)) (m.pr i0) none else h r') sv n a sp ∧
      (∃ c', c' ≤ c ∧ Ri w' B I s (setK (h (m.rd i0)) (m.pr i0) none) (fun z => left z && !z.sameKey (.string (m.pr i0).data.toList)) c') ∧ Cel RB w w' ∧ Below bs w w' := by
  have HX := hidn (And.intro x (And.intro hR (And.intro h0 (And.intro ha (And.intro hj (And.intro haj (And.intro hr (And.intro hne (And.intro hB hs)))))))))
  obtain ⟨rr, hrr⟩ : ∃ rr, rr = m.rd i0 := ⟨_, rfl⟩
  obtain ⟨pp, hpp⟩ : ∃ pp, pp = m.pr i0 := ⟨_, rfl⟩
  have wfr : (Lit.int .u64 rr).wf = true := by rw [hrr]; exact x.mok.wf i0 h0
  have lenp : pp.size ≤ maxLen := by rw [hpp]; exact x.mok.len i0 h0
  rw [← hrr, ← hpp]
  rw [← hrr] at hB hR
  have B1 := (Below.refl _ w).alloc (Nat.le_refl _) (.cells #[.int .u64 rr, .string pp] 82)
  have k0 : (w.alloc (.cells #[.int .u64 rr, .string pp] 82)).cell? ⟨w.heap.size, 0, none⟩ = some (.int .u64 rr) := by go_simp
  have k1 : (w.alloc (.cells #[.int .u64 rr, .string pp] 82)).cell? ⟨w.heap.size, 1, none⟩ = some (.string pp) := by go_simp
  obtain ⟨s0, hs0, tb⟩ := x.tb
  have lR := x.c5.lt
  have c6 := (B1.cell (p := ⟨RB, 6, none⟩) lR).trans x.c6
  have tb1 := tb.of_block (B1.block M tb.lt)
  obtain ⟨sB, _, iB⟩ := hR.inn
  have rB : RB ≠ B := ne_map (isMap_inn iB) x.c0
  have R1 := hR.of_blocks (B1.block B iB.lt) (B1.block I hR.lt)
  have A7 := x.c7.below B1 lR
  have HE := hidn (And.intro hrr hpp)
  clear x hR h0 ha hj haj hr hne hrr hpp
  go_enter Ybaf.func25, Ybaf.ntmps25
  go_upto_region 1 with (fail)
  generalize w.alloc _ = w1 at B1 k0 k1 c6 tb1 R1 A7 ⊢
  have hl : ∀ q, (Instr.lookup 32 (.map (some M)) (.int .u64 rr) false).run Ybaf.prog (w1.drewN q) = .ok (.map (some B)) (w1.drewN q) := fun q => by
    have := Tb.lookup (w := w1.drewN q) (tb1.of_block rfl) rr wfr
    rw [hB] at this
    exact this
  go_quiet (fail)
  go_upto_region 2 with (fail)
  have B2 := below_drewN B1 nq
  have k12 : (w1.drewN nq).cell? ⟨w.heap.size, 1, none⟩ = some (.string pp) := k1
  have R2 : Ri (w1.drewN nq) B I s (h rr) left c := R1.of_blocks rfl rfl
  have A72 : At (w1.drewN nq) RB 7 _ := A7
  clear k0 k1 c6 tb1 R1 A7 hl B1
  generalize w1.drewN nq = w2 at B2 k12 R2 A72 ⊢
  obtain ⟨w3, c', hrun, R3, hc', gr3⟩ := R2.drop pp lenp 0
  obtain ⟨s3, hs3, i3⟩ := R3.inn
  have hz : ¬ (s3 : Int) = 0 := by
    obtain ⟨x, hR, h0, ha, hj, haj, hr, hne, hB', hs⟩ := HX.out
    obtain ⟨e1, e2⟩ := HE.out
    have h1 : h rr (m.pr j0) = some (m.rc j0) := by
      rw [e1]
      exact (x.hal _ (by rw [hB']; rfl) _ _).2 ⟨j0, hj, haj, hr, rfl, rfl⟩
    have h2 : m.pr j0 ≠ pp := fun e => hne (x.mok.uq j0 i0 hj h0 hr (by rw [e, e2]))
    have := i3.pos (p := m.pr j0) (X := m.rc j0) (by simp [setK, h2, h1])
    omega
  have hlen := fun ty => i3.len ty
  have o3 : Only [B] w2 w3 := Only.of_grown gr3
  have lR2 : RB < w2.heap.size := Nat.lt_of_lt_of_le lR B2.size
  have rB' : RB ∉ [B] := by simpa using rB
  obtain ⟨c7, f7⟩ := A72.only o3 rB'
  obtain ⟨cc, hcc⟩ : ∃ cc, cc = cnt al m.ne := ⟨_, rfl⟩
  rw [← hcc] at c7
  have hc3 : (cc : Int) ≤ 300 := by have := cnt_le al m.ne; have := HX.out.1.mok.ne; omega
  have hc1 : (1 : Int) ≤ (cc : Int) := by have := cnt_kill HX.out.2.2.1 HX.out.2.2.2.1; omega
  have HB := hidn (And.intro B2 (And.intro o3 (And.intro gr3 (And.intro R3 (And.intro hc' (And.intro i3 (And.intro hs3 hcc)))))))
  clear B2 o3 gr3 R3 hc' A72 hcc R2 i3
  go_wp2
  go_end0
  obtain ⟨B2, o3, gr3, R3, hc', i3, hs3, hcc⟩ := HB.out
  obtain ⟨x, hR, h0, ha, hj, haj, hr, hne, hB', hs⟩ := HX.out
  obtain ⟨e1, e2⟩ := HE.out
  have s3' := o3.size
  have lB := x.bsR
  have bl : ∀ b, b ≠ RB → (w3.setCell ⟨RB, 7, none⟩ (.int .i64 ((cc : Int) - 1))).heap[b]? = w3.heap[b]? := fun b hb => Below.heap_setCell _ _ _ _ (fun e => hb e)
  have os : Only [B, RB] w3 (w3.setCell ⟨RB, 7, none⟩ (.int .i64 ((cc : Int) - 1))) := (Only.refl _ _).setCell (by simp) _
  have oo : Only [B, RB] w (w3.setCell ⟨RB, 7, none⟩ (.int .i64 ((cc : Int) - 1))) := (Only.of_below B2).trans ((o3.mono (by simp)).trans os)
  have rr7 : Rest w (w3.setCell ⟨RB, 7, none⟩ (.int .i64 ((cc : Int) - 1))) RB [7] := (Rest.of_block (B2.block RB lR)).trans ((Rest.of_block (o3.block RB lR2 rB')).trans (Rest.set _ _ _ _))
  have hk : (cnt (kill al i0) m.ne : Int) = (cc : Int) - 1 := by have := cnt_kill h0 ha; omega
  subst e1 e2
  obtain ⟨rx, ce⟩ := rx_kill x h0 ha hj haj hr hne hB' ⟨s3, by omega, i3.of_block (bl B rB.symm)⟩ oo rr7 ⟨by rw [hk]; go_simp, by go_simp⟩
  have nIR : I ≠ RB := by
    rintro rfl
    obtain ⟨_, _, _, _, e⟩ := hR.iter
    have := x.c0
    simp [World.cell?, e] at this
  have bB := (x.inn _ B hB').1
  exact ⟨rfl, rx, ⟨c', hc', R3.of_blocks (bl B rB.symm) (bl I nIR)⟩, ce, (B2.mono (by omega)).trans ((grown_below gr3 bs (by have := B2.size; omega) (fun k hk => by cases hk; exact bB)).setCell (by show bs ≤ RB; exact lB) _)⟩

end Go.Proofs.YbulkcmgaFmt
