import Derived.Test.YbulkcmekFmtErr
import Derived.Deep.RegionHeld3
import Derived.Deep.DeepCutAuto
namespace Go.Proofs.YbulkcmekFmt
open Go Go.RowKit Go.Extern.Stop Go.Stop Go.Extern

/-- What r.buf may hold. -/
def BufOk (w : World) (base D B S U : Nat) (O : List Nat) (vo : Option Addr) (l vc : Nat) : Prop :=
  l ≤ vc ∧ vc ≤ 1048576 ∧ ((vo = none ∧ vc = 0) ∨ ∃ V g, vo = some ⟨V, 0, none⟩ ∧ w.rowIs V 5 vc g ∧ base ≤ V ∧ V ≠ D ∧ V ≠ B ∧ V ≠ S ∧ V ≠ U ∧ V ∈ O)

/-- A pcap.Reader at D over Y: q bytes are read, cnt calls of Next were made. -/
structure Pc (w : World) (base D B S U : Nat) (O : List Nat) (ot : Nat) (ao : Option Addr) (N cap : Nat) (Y : Nat → Int) (q cnt : Nat) : Prop where
  ap : Apart base B S U ao N
  own : base ≤ D ∧ D ≠ B ∧ D ≠ S ∧ D ≠ U
  mem : D ∈ O ∧ B ∈ O ∧ S ∈ O ∧ U ∈ O
  all : ∀ k, k ∈ O → base ≤ k
  row : ∃ pf vo l vc, w.rowIs D 43 23 pf ∧ pf 0 = .pointer (some ⟨B, 0, none⟩) ∧ pf 1 = .iface ot (.agg #[]) ∧ pf 5 = .int .i64 cnt ∧ pf 22 = .slice vo l vc ∧ BufOk w base D B S U O vo l vc
  rd : Rd w B S U ao N cap Y q

def zeroRec : Value := .agg #[.int .u32 0, .int .u32 0, .int .u32 0, .slice none 0 0]

/-- Sentinels of this program and what fmt is answered. -/
structure Env (F : Interp) (w : World) (ea ua ta : Addr) (s : ByteArray) (base : Nat) : Prop where
  b7 : 5 ≤ base
  sz : base ≤ w.heap.size
  ans : F.answers w.tape
  e : w.cell? ⟨0, 0, none⟩ = some (errV ea)
  u : w.cell? ⟨4, 0, none⟩ = some (errV ua)
  t : w.cell? ⟨1, 0, none⟩ = some (errV ta)
  s : w.cell? ta = some (.string s)
  ta : ta.block < base

theorem Env.only {F : Interp} {w w' : World} {ea ua ta : Addr} {s : ByteArray} {base : Nat} {L : List Nat} (E : Env F w ea ua ta s base) (o : Only L w w') (hL : ∀ k, k ∈ L → base ≤ k) : Env F w' ea ua ta s base := by
  have key : ∀ p : Addr, p.block < base → w'.cell? p = w.cell? p := fun p hp => o.cell (Nat.lt_of_lt_of_le hp E.sz) fun h => by have := hL _ h; omega
  have h7 := E.b7
  exact ⟨E.b7, Nat.le_trans E.sz o.size, by rw [o.tape]; exact E.ans, (key ⟨0, 0, none⟩ (by show 0 < base; omega)).trans E.e, (key ⟨4, 0, none⟩ (by show 4 < base; omega)).trans E.u, (key ⟨1, 0, none⟩ (by show 1 < base; omega)).trans E.t, (key ta E.ta).trans E.s, E.ta⟩

abbrev zr : Array Value := #[.int .u32 0, .int .u32 0, .int .u32 0, .slice none 0 0]
theorem zr_row (w : World) : (w.alloc (.cells zr 30)).rowIs w.heap.size 30 4 (fun i => zr.getD i undef) :=
  World.rowIs_alloc w zr 30 (fun i => zr.getD i undef) (fun i hi => by simp [Array.getElem?_eq_getElem hi])

theorem BufOk.only {L : List Nat} {w w' : World} {base D B S U : Nat} {O : List Nat} {vo : Option Addr} {l vc : Nat} (h : BufOk w base D B S U O vo l vc) (o : Only L w w') (hL : ∀ k, k ∈ L → k = D ∨ k = B ∨ k = S ∨ k = U ∨ w.heap.size ≤ k) : BufOk w' base D B S U O vo l vc := by
  obtain ⟨h1, h2, h3⟩ := h
  refine ⟨h1, h2, ?_⟩
  rcases h3 with h3 | ⟨V, g, e, r, b0, b1, b2, b3, b4, b5⟩
  · exact .inl h3
  · refine .inr ⟨V, g, e, o.row r (fun hm => ?_), b0, b1, b2, b3, b4, b5⟩
    have := r.lt
    rcases hL _ hm with h | h | h | h | h
    · exact b1 h
    · exact b2 h
    · exact b3 h
    · exact b4 h
    · omega

/-- Next has counted and laid its result's variable. -/
theorem next_start {F : Interp} {base D B S U : Nat} {O : List Nat} {ao : Option Addr} {N cap : Nat} {Y : Nat → Int} {q : Nat} {w : World} {ea ua ta : Addr} {s : ByteArray} {pf : Nat → Value} (E : Env F w ea ua ta s base) (A : Apart base B S U ao N) (hown : base ≤ D ∧ D ≠ B ∧ D ≠ S ∧ D ≠ U)
    (mD : D ∈ O) (hD : w.rowIs D 43 23 pf) (R : Rd w B S U ao N cap Y q) (v : Value) :
    ∃ w1, w1 = (w.setCell ⟨D, 5, none⟩ v).alloc (.cells zr 30) ∧ w1.rowIs D 43 23 (fun i => if i = 5 then v else pf i) ∧ Rd w1 B S U ao N cap Y q ∧ w1.rowIs w.heap.size 30 4 (fun i => zr.getD i undef) ∧ Only O w w1 ∧ Env F w1 ea ua ta s base ∧ Only [D] w w1 := by
  have o : Only [D] w ((w.setCell ⟨D, 5, none⟩ v).alloc (.cells zr 30)) := ((Only.refl [D] w).setCell (by simp) v).alloc _
  have hr := zr_row (w.setCell ⟨D, 5, none⟩ v)
  rw [show (w.setCell ⟨D, 5, none⟩ v).heap.size = w.heap.size by simp] at hr
  exact ⟨_, rfl, (hD.set 5 v).alloc _, R.only A o (by simp; exact ⟨hown.1, hown.2.1, hown.2.2.1, hown.2.2.2⟩), hr, o.mono (by simpa using mD), E.only o (by simpa using hown.1), o⟩

theorem Rd.lts {w : World} {B S U : Nat} {ao : Option Addr} {N cap : Nat} {Y : Nat → Int} {q : Nat} (R : Rd w B S U ao N cap Y q) : B < w.heap.size ∧ S < w.heap.size ∧ U < w.heap.size := by
  obtain ⟨⟨r, v, lb, lr, g, h1, h2, h3, _⟩, _⟩ := R
  exact ⟨h1.lt, h2.lt, h3.lt⟩

theorem sub4 {O : List Nat} {a b c d : Nat} (ha : a ∈ O) (hb : b ∈ O) (hc : c ∈ O) (hd : d ∈ O) : ∀ k, k ∈ [a, b, c, d] → k ∈ O := fun k hk => by
  simp at hk
  rcases hk with rfl | rfl | rfl | rfl <;> assumption

theorem Only.setNew {L : List Nat} {w w1 : World} (h : Only L w w1) {a : Addr} (ha : w.heap.size ≤ a.block) (v : Value) : Only L w (w1.setCell a v) :=
  ⟨h.os, h.tape, h.output, by simpa using h.size, fun j hj hn => (Below.heap_setCell w1 a v j (fun e => by omega)).trans (h.block j hj hn)⟩

/-- The cells of a row of four, one by one. -/
theorem four_cells {w : World} {b t : Nat} {f : Nat → Value} (h : w.rowIs b t 4 f) : w.cell? ⟨b, 0, none⟩ = some (f 0) ∧ w.cell? ⟨b, 1, none⟩ = some (f 1) ∧ w.cell? ⟨b, 2, none⟩ = some (f 2) ∧ w.cell? ⟨b, 3, none⟩ = some (f 3) ∧
    w.frozen? ⟨b, 0, none⟩ = false ∧ w.frozen? ⟨b, 1, none⟩ = false ∧ w.frozen? ⟨b, 2, none⟩ = false ∧ w.frozen? ⟨b, 3, none⟩ = false :=
  ⟨h.cell (by decide), h.cell (by decide), h.cell (by decide), h.cell (by decide), h.frozen 0, h.frozen 1, h.frozen 2, h.frozen 3⟩

/-- Q's block is not the one that the zero record is stored to. -/
theorem far4 {w : World} {R : Nat} {p : Addr} (h : R ≠ p.block) (a b c d : Value) : ((((w.setCell ⟨R, 0, none⟩ a).setCell ⟨R, 1, none⟩ b).setCell ⟨R, 2, none⟩ c).setCell ⟨R, 3, none⟩ d).cell? p = w.cell? p := by
  rw [World.cell?_setCell_far _ _ _ _ h, World.cell?_setCell_far _ _ _ _ h, World.cell?_setCell_far _ _ _ _ h, World.cell?_setCell_far _ _ _ _ h]
theorem only4 {L : List Nat} {w w1 : World} (o : Only L w w1) (R : Nat) (h : w.heap.size ≤ R) (a b c d : Value) : Only L w ((((w1.setCell ⟨R, 0, none⟩ a).setCell ⟨R, 1, none⟩ b).setCell ⟨R, 2, none⟩ c).setCell ⟨R, 3, none⟩ d) :=
  (((o.setNew (a := ⟨R, 0, none⟩) h _).setNew (a := ⟨R, 1, none⟩) h _).setNew (a := ⟨R, 2, none⟩) h _).setNew (a := ⟨R, 3, none⟩) h _

/-- What is known behind the reading of the record's head. -/
def HeadIs (D B S U : Nat) (O : List Nat) (ao : Option Addr) (N cap : Nat) (Y : Nat → Int) (q : Nat) (pf : Nat → Value) (w wc : World) (d : Nat) : Prop :=
  Rd wc B S U ao N cap Y (q + d) ∧ wc.rowIs D 43 23 (laidOver pf 6 d (fun j => .int .u8 (Y (q + j)))) ∧ wc.rowIs w.heap.size 30 4 (fun i => zr.getD i undef) ∧ Only O w wc

set_option maxHeartbeats 2000000 in
set_option maxRecDepth 100000 in
theorem next_end {F : Interp} {base D B S U : Nat} {O : List Nat} {ot : Nat} {ao : Option Addr} {N cap : Nat} {Y : Nat → Int} {q cnt : Nat} {w : World} {ea ua ta : Addr} {s : ByteArray} {cu : Array Value} {tu : Nat} {ce : Array Value} {te : Nat} (E : Env F w ea ua ta s base)
    (hne : ea ≠ ua) (hbe : w.heap[ea.block]? = some (.cells ce te (0, 0))) (hbu : w.heap[ua.block]? = some (.cells cu tu (0, 0))) (heb : ea.block < base ∧ ua.block < base) (P : Pc w base D B S U O ot ao N cap Y q cnt)
    (hq : q ≤ N) (hN : N ≤ 1048576) (hcap : N ≤ cap) (hc : cnt ≤ 2000000) (h16 : N - q < 16) :
    Calls Ybaf.prog 7 #[.pointer (some ⟨D, 0, none⟩)] w fun e w' => ((q = N ∧ e = .returned (.tuple #[zeroRec, errV ea])) ∨ (q < N ∧ ∃ Q, e = .returned (.tuple #[zeroRec, .iface 75 (.pointer (some ⟨Q, 0, none⟩))]) ∧ w'.cell? ⟨Q, 1, none⟩ = some (errV ta))) ∧
      Only O w w' ∧ w'.cell? ⟨D, 5, none⟩ = some (.int .i64 (cnt + 1)) := by
  obtain ⟨A, hown, ⟨mD, mB, mS, mU⟩, hall, ⟨pf, vo, l, vc, hD, p0, p1, p5, p22, hbuf⟩, R⟩ := P
  obtain ⟨hD0, hDB, hDS, hDU⟩ := id hown
  have c0 : w.cell? ⟨D, 0, none⟩ = some (.pointer (some ⟨B, 0, none⟩)) := at_cell hD 0 (by decide) p0
  have c5 : w.cell? ⟨D, 5, none⟩ = some (.int .i64 cnt) := at_cell hD 5 (by decide) p5
  have f5 := hD.frozen 5
  have hlt := hD.lt
  obtain ⟨hlB, hlS, hlU⟩ := R.lts
  have b7 := E.b7
  obtain ⟨i, hi, hcmp⟩ := Option.map_eq_some_iff.1 Ybaf.isComp
  obtain ⟨j, hj, hjs⟩ := Option.map_eq_some_iff.1 Ybaf.isSize
  go_enter Ybaf.func7, Ybaf.ntmps7
  go_upto_region 2 with fail
  obtain ⟨w1, hw1, hD1, R1, hz1, O1, E1, -⟩ := next_start (O := O) E A hown mD hD R (.int .i64 (cnt + 1))
  have K := hid (full (w := w1.drew) (m := 16) (c := 16) A (by omega) hD0 hDB hDS hDU (R1.only A (Only.refl [] w1).drew (by simp)) hD1 E1.e E1.u (Nat.le_trans (by omega) E1.sz) (off := 6) (by decide) (by decide) hN hcap hq (by decide))
  have d0 : w1.cell? ⟨D, 0, none⟩ = some (.pointer (some ⟨B, 0, none⟩)) := at_cell hD1 0 (by decide) p0
  go_cut [4, 5] (fun _ s5 wc => ∃ d, d ≤ 16 ∧ q + d ≤ N ∧ s5 = fullErr ea ua d 16 ∧ (d = 16 ∨ q + d = N) ∧ HeadIs D B S U O ao N cap Y q (fun i => if i = 5 then .int .i64 (cnt + 1) else pf i) w wc d)
  case first =>
    rw [← hw1]
    clear hw1 hD1 R1 hD R c0 c5 f5
    go_region_with (first
      | (go_at_call 13; refine K.out.mono ?_; rintro e w2 ⟨d, b1, b2, rfl, b3, b4, b5, b6⟩))
    all_goals go_wp2
    all_goals go_meet
    case rel =>
      refine ⟨d, b1, b2, rfl, b3, b4, b5, b6.row (b := w.heap.size) hz1 ?_, O1.drew.trans (b6.mono ?_)⟩
      · simp; omega
      · exact sub4 mB mS mU mD
  case rest =>
    obtain ⟨d, b1, b2, rfl, b3, H⟩ := hcut
    obtain ⟨R2, D2, Z2, O2⟩ := H
    have E2 := E.only O2 hall
    have hE2 := E2.e
    have hU2 := E2.u
    have hbe2 := (O2.block ea.block (Nat.lt_of_lt_of_le heb.1 E.sz) (fun h => by have := hall _ h; omega)).trans hbe
    have hbu2 := (O2.block ua.block (Nat.lt_of_lt_of_le heb.2 E.sz) (fun h => by have := hall _ h; omega)).trans hbu
    have d5 : wc.cell? ⟨D, 5, none⟩ = some (.int .i64 (cnt + 1)) := at_cell D2 5 (by decide) rfl
    obtain ⟨z0, z1, z2, z3, g0, g1, g2, g3⟩ := four_cells Z2
    have HZ := hid Z2
    have HR := hid (And.intro D2 O2)
    have HE := hid E2
    clear R2 D2 Z2 O2 E2 K d0 hw1 hD1 R1 hz1 hD R c0 c5 f5
    by_cases hd : d = 0
    · subst hd
      have heq := run_eql_iface_ptr_other (P := Ybaf.prog) wc Ybaf.underlying32 Ybaf.underlying91 hi hcmp hj (by rw [hjs]; decide) hne hbe2 hbu2
      have e1 : fullErr ea ua 0 16 = errV ea := rfl
      rw [e1]
      go_wp2
      refine bodyPost_ret (v := .tuple #[zeroRec, errV ea]) (by simp [results, Ybaf.results7, go_sem, zeroRec, *]) rfl ⟨.inl ⟨by omega, rfl⟩, only4 HR.out.2 _ (Nat.le_refl _) _ _ _ _, (far4 (Nat.ne_of_gt hlt) _ _ _ _).trans d5⟩
    · have heq := fun w => run_eql_iface_ptr_same (P := Ybaf.prog) w ua Ybaf.underlying32 Ybaf.underlying91 hi hcmp hj
      have e1 : fullErr ea ua d 16 = errV ua := by rw [fullErr, if_neg (by omega), if_neg hd]
      rw [e1]
      have KT : Hid (Calls Ybaf.prog 14 #[.pointer (some ⟨D, 0, none⟩)] wc fun e w3 => ∃ Q, e = .returned (.iface 75 (.pointer (some ⟨Q, 0, none⟩))) ∧ Hid (w3.cell? ⟨Q, 1, none⟩ = some (errV ta) ∧ Below wc.heap.size wc w3) ∧ w3.rowIs w.heap.size 30 4 (fun i => zr.getD i undef)) :=
        hid ((trunc F D (cnt + 1) ta s wc HE.out.ans d5 HE.out.t HE.out.s (Nat.lt_of_lt_of_le HE.out.ta HE.out.sz)).mono fun e w3 ⟨Q, h1, h2, h3⟩ => ⟨Q, h1, ⟨h2, h3⟩, HZ.out.of_block (h3.block _ HZ.out.lt)⟩)
      clear z0 z1 z2 z3 g0 g1 g2 g3
      go_wp2_with (first
        | (go_at_call 14; refine KT.out.mono ?_; rintro e w3 ⟨Q, rfl, HT, Z3⟩; obtain ⟨z0, z1, z2, z3, g0, g1, g2, g3⟩ := four_cells Z3))
      have hQ : w.heap.size ≠ Q := by
        rintro rfl
        have h1 := HT.out.1
        rw [z1] at h1
        cases h1
      refine bodyPost_ret (v := .tuple #[zeroRec, .iface 75 (.pointer (some ⟨Q, 0, none⟩))]) (by simp [results, Ybaf.results7, go_sem, zeroRec, *]) rfl ⟨.inr ⟨by omega, Q, rfl, (far4 hQ _ _ _ _).trans HT.out.1⟩, only4 (HR.out.2.trans (Only.of_below HT.out.2)) _ (Nat.le_refl _) _ _ _ _, (far4 (Nat.ne_of_gt hlt) _ _ _ _).trans ?_⟩
      exact (HT.out.2.cell (p := ⟨D, 5, none⟩) (HR.out.1.lt)).trans d5

end Go.Proofs.YbulkcmekFmt
