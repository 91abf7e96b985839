import Derived.Test.YbulkcmekFmtNextLe
import Derived.Test.YbulkcmekFmtNextBe
import Derived.Test.YbulkcmekFmtAnew
namespace Go.Proofs.YbulkcmekFmt
open Go Go.RowKit Go.Extern.Stop Go.Stop Go.Extern

/-- The three sentinels lie apart, in old memory. -/
structure Sen (w : World) (ea ua ta : Addr) (base : Nat) : Prop where
  ne : ea ≠ ua
  be : ea.block < base
  bu : ua.block < base
  bt : ta.block < base
  he : ∃ c t, w.heap[ea.block]? = some (.cells c t (0, 0))
  hu : ∃ c t, w.heap[ua.block]? = some (.cells c t (0, 0))
  ht : ∃ c t, w.heap[ta.block]? = some (.cells c t (0, 0))

theorem Sen.below {w w' : World} {ea ua ta : Addr} {base : Nat} (h : Sen w ea ua ta base) (b : Below base w w') : Sen w' ea ua ta base := by
  obtain ⟨h1, h2, h3, h4, ⟨c, t, h5⟩, ⟨c', t', h6⟩, ⟨c2, t2, h7⟩⟩ := h
  exact ⟨h1, h2, h3, h4, ⟨c, t, (b.block _ h2).trans h5⟩, ⟨c', t', (b.block _ h3).trans h6⟩, ⟨c2, t2, (b.block _ h4).trans h7⟩⟩

theorem Env.below {F : Interp} {w w' : World} {ea ua ta : Addr} {s : ByteArray} {base : Nat} (E : Env F w ea ua ta s base) (b : Below base w w') : Env F w' ea ua ta s base := by
  have h7 := E.b7
  exact ⟨E.b7, Nat.le_trans E.sz b.size, by rw [b.tape]; exact E.ans, (b.cell (p := ⟨0, 0, none⟩) (by show 0 < base; omega)).trans E.e, (b.cell (p := ⟨4, 0, none⟩) (by show 4 < base; omega)).trans E.u, (b.cell (p := ⟨1, 0, none⟩) (by show 1 < base; omega)).trans E.t, (b.cell (p := ta) E.ta).trans E.s, E.ta⟩

variable {F : Interp} {base D B S U : Nat} {O : List Nat} {big : Bool} {ao : Option Addr} {N cap : Nat} {Y : Nat → Int} {q cnt : Nat} {w : World} {ea ua ta : Addr} {s : ByteArray}

/-- Next at the stream's end. -/
theorem next_eof (E : Env F w ea ua ta s base) (G : Sen w ea ua ta base) (P : Pc w base D B S U O (otOf big) ao N cap Y q cnt) (hN : N ≤ 1048576) (hcap : N ≤ cap) (hc : cnt ≤ 2000000) (hq : q = N) :
    Calls Ybaf.prog 7 #[.pointer (some ⟨D, 0, none⟩)] w fun e w' => e = .returned (.tuple #[zeroRec, errV ea]) ∧ w'.cell? ⟨D, 5, none⟩ = some (.int .i64 (cnt + 1)) ∧ Below base w w' := by
  obtain ⟨ce, te, h1⟩ := G.he
  obtain ⟨cu, tu, h2⟩ := G.hu
  refine (next_end E G.ne h1 h2 ⟨G.be, G.bu⟩ P (by omega) hN hcap hc (by omega)).mono ?_
  rintro e w' ⟨h | h, h3, h4⟩
  · exact ⟨h.2, h4, h3.below E.sz P.all⟩
  · omega

/-- Next inside a head. -/
theorem next_short (E : Env F w ea ua ta s base) (G : Sen w ea ua ta base) (P : Pc w base D B S U O (otOf big) ao N cap Y q cnt) (hN : N ≤ 1048576) (hcap : N ≤ cap) (hc : cnt ≤ 2000000) (hq : q < N) (h16 : N - q < 16) :
    Calls Ybaf.prog 7 #[.pointer (some ⟨D, 0, none⟩)] w fun e w' => ∃ Q, e = .returned (.tuple #[zeroRec, .iface 75 (.pointer (some ⟨Q, 0, none⟩))]) ∧ w'.cell? ⟨Q, 1, none⟩ = some (errV ta) ∧ w'.cell? ⟨D, 5, none⟩ = some (.int .i64 (cnt + 1)) ∧ Below base w w' := by
  obtain ⟨ce, te, h1⟩ := G.he
  obtain ⟨cu, tu, h2⟩ := G.hu
  refine (next_end E G.ne h1 h2 ⟨G.be, G.bu⟩ P (by omega) hN hcap hc (by omega)).mono ?_
  rintro e w' ⟨h | ⟨_, Q, h5, h6⟩, h3, h4⟩
  · omega
  · exact ⟨Q, h5, h6, h4, h3.below E.sz P.all⟩

theorem next_is (E : Env F w ea ua ta s base) (G : Sen w ea ua ta base) (hY : Byt Y) (P : Pc w base D B S U O (otOf big) ao N cap Y q cnt) (hN : N ≤ 1048576) (hcap : N ≤ cap) (hc : cnt ≤ 2000000) (h16 : q + 16 ≤ N) :
    Calls Ybaf.prog 7 #[.pointer (some ⟨D, 0, none⟩)] w fun e w' => NextIs base D B S U O (otOf big) big ao N cap Y q cnt ta w e w' := by
  obtain ⟨ce, te, h1⟩ := G.he
  obtain ⟨cu, tu, h2⟩ := G.hu
  cases big
  · exact next_le E G.ne h1 h2 ⟨G.be, G.bu⟩ hY P hN hcap hc h16
  · exact next_be E G.ne h1 h2 ⟨G.be, G.bu⟩ hY P hN hcap hc h16

/-- Next at a length beyond the bound. -/
theorem next_long (E : Env F w ea ua ta s base) (G : Sen w ea ua ta base) (hY : Byt Y) (P : Pc w base D B S U O (otOf big) ao N cap Y q cnt) (hN : N ≤ 1048576) (hcap : N ≤ cap) (hc : cnt ≤ 2000000) (h16 : q + 16 ≤ N) (hL : 262144 < u32at big Y (q + 8)) :
    Calls Ybaf.prog 7 #[.pointer (some ⟨D, 0, none⟩)] w fun e w' => ∃ X, e = .returned (.tuple #[zeroRec, errV ⟨X, 0, none⟩]) ∧ (∃ C, w'.heap[X]? = some (.cells C 93 (0, 0))) ∧ base ≤ X ∧ w'.cell? ⟨D, 5, none⟩ = some (.int .i64 (cnt + 1)) ∧ Below base w w' := by
  refine (next_is E G hY P hN hcap hc h16).mono ?_
  rintro e w' (⟨_, ⟨X, C, h1, h2, h3⟩, h4, h5⟩ | ⟨L, h1, h2, _⟩ | ⟨L, h1, h2, _⟩)
  · exact ⟨X, h1, ⟨C, h2⟩, Nat.le_trans E.sz h3, h5, h4.below E.sz P.all⟩
  · omega
  · omega

/-- Next inside the data. -/
theorem next_cut {L : Nat} (E : Env F w ea ua ta s base) (G : Sen w ea ua ta base) (hY : Byt Y) (P : Pc w base D B S U O (otOf big) ao N cap Y q cnt) (hN : N ≤ 1048576) (hcap : N ≤ cap) (hc : cnt ≤ 2000000) (h16 : q + 16 ≤ N) (hL : u32at big Y (q + 8) = (L : Int)) (h1 : L ≤ 262144) (h2 : N < q + 16 + L) :
    Calls Ybaf.prog 7 #[.pointer (some ⟨D, 0, none⟩)] w fun e w' => ∃ Q, e = .returned (.tuple #[zeroRec, .iface 75 (.pointer (some ⟨Q, 0, none⟩))]) ∧ w'.cell? ⟨Q, 1, none⟩ = some (errV ta) ∧ w'.cell? ⟨D, 5, none⟩ = some (.int .i64 (cnt + 1)) ∧ Below base w w' := by
  refine (next_is E G hY P hN hcap hc h16).mono ?_
  rintro e w' (⟨h, _⟩ | ⟨L', h3, h4, h5, ⟨Q, h6, h7⟩, h8, h9⟩ | ⟨L', h3, h4, h5, _⟩)
  · omega
  · exact ⟨Q, h6, h7, h9, h8.below E.sz P.all⟩
  · omega

/-- Next at a whole record. -/
theorem next_good {L : Nat} (E : Env F w ea ua ta s base) (G : Sen w ea ua ta base) (hY : Byt Y) (P : Pc w base D B S U O (otOf big) ao N cap Y q cnt) (hN : N ≤ 1048576) (hcap : N ≤ cap) (hc : cnt ≤ 2000000) (hL : u32at big Y (q + 8) = (L : Int)) (h1 : L ≤ 262144) (h2 : q + 16 + L ≤ N) :
    Calls Ybaf.prog 7 #[.pointer (some ⟨D, 0, none⟩)] w fun e w' => ∃ vo vc, e = .returned (.tuple #[.agg #[.int .u32 (u32at big Y q), .int .u32 (u32at big Y (q + 4)), .int .u32 (u32at big Y (q + 12)), .slice vo L vc], .nilIface]) ∧
      (0 < L → ∃ V, vo = some ⟨V, 0, none⟩ ∧ V < w'.heap.size ∧ ∀ j, j < L → w'.cell? ⟨V, j, none⟩ = some (.int .u8 (Y (q + 16 + j)))) ∧ (∃ O', Pc w' base D B S U O' (otOf big) ao N cap Y (q + 16 + L) (cnt + 1)) ∧ w'.cell? ⟨D, 5, none⟩ = some (.int .i64 (cnt + 1)) ∧ Below base w w' := by
  refine (next_is E G hY P hN hcap hc (by omega)).mono ?_
  rintro e w' (⟨h, _⟩ | ⟨L', h3, h4, h5, _⟩ | ⟨L', h3, h4, h5, O', vo, vc, h6, h7, h8, _, h9⟩)
  · omega
  · omega
  · obtain rfl : L' = L := by omega
    obtain ⟨pf, _, _, _, r, _, _, r5, _⟩ := h8.row
    exact ⟨vo, vc, h6, h7, ⟨O', h8⟩, at_cell r 5 (by decide) r5, h9.below E.sz P.all⟩

theorem Pc.below {w' : World} (P : Pc w base D B S U O (otOf big) ao N cap Y q cnt) (b : Below w.heap.size w w') : Pc w' base D B S U O (otOf big) ao N cap Y q cnt := by
  have o : Only [] w w' := Only.of_below b
  obtain ⟨h1, h2, h3, h4, ⟨pf, vo, l, vc, h5, h6, h7, h8, h9, h10⟩, h11⟩ := P
  exact ⟨h1, h2, h3, h4, ⟨pf, vo, l, vc, o.row h5 (by simp), h6, h7, h8, h9, h10.only o (by simp)⟩, h11.only h1 o (by simp)⟩

end Go.Proofs.YbulkcmekFmt
