import Derived.Test.YbulkcmekFmtU32
namespace Go.Proofs.YbulkcmekFmt
open Go Go.RowKit Go.Extern.Stop Go.Stop Go.Extern

theorem info5w : (Ybaf.prog.info? 5).map (fun i => (i.zero, i.size, i.bytes)) = some (some (.int .u8 0), 1, 1) := by kernel_rfl

/-- make([]byte, L, C). -/
theorem make_lc (kl kc : IntKind) (L C : Nat) (h : L ≤ C) (hC : C ≤ 4194304) (w : World) :
    (Instr.makeSlice 24 (.int kl (L : Int)) (.int kc (C : Int))).run Ybaf.prog w = .ok (.slice (some ⟨w.heap.size, 0, none⟩) L C) (w.alloc (.cells (madeCells #[.int .u8 0] C) 5)) := by
  obtain ⟨i, hi, hzz⟩ := Option.map_eq_some_iff.1 info5w
  simp only [Prod.mk.injEq] at hzz
  obtain ⟨hz, hs, hb⟩ := hzz
  have hr := run_make (P := Ybaf.prog) w 24 5 i (.int .u8 0) Ybaf.underlying24 hi hz kl kc L C (by omega) (by omega) (by rw [hb]; omega) (by omega)
  simp only [Int.toNat_natCast, hs, Nat.mul_one] at hr
  exact hr

/-- How a call of Next ends that finds a whole head. -/
def NextIs (base D B S U : Nat) (O : List Nat) (ot : Nat) (big : Bool) (ao : Option Addr) (N cap : Nat) (Y : Nat → Int) (q cnt : Nat) (ta : Addr) (w : World) (e : Ending) (w' : World) : Prop :=
  (262144 < u32at big Y (q + 8) ∧ (∃ X C, e = .returned (.tuple #[zeroRec, errV ⟨X, 0, none⟩]) ∧ w'.heap[X]? = some (.cells C 93 (0, 0)) ∧ w.heap.size ≤ X) ∧ Only O w w' ∧ w'.cell? ⟨D, 5, none⟩ = some (.int .i64 (cnt + 1))) ∨
  (∃ L : Nat, u32at big Y (q + 8) = (L : Int) ∧ L ≤ 262144 ∧ N < q + 16 + L ∧ (∃ Q, e = .returned (.tuple #[zeroRec, .iface 75 (.pointer (some ⟨Q, 0, none⟩))]) ∧ w'.cell? ⟨Q, 1, none⟩ = some (errV ta)) ∧ Only O w w' ∧ w'.cell? ⟨D, 5, none⟩ = some (.int .i64 (cnt + 1))) ∨
  (∃ L : Nat, u32at big Y (q + 8) = (L : Int) ∧ L ≤ 262144 ∧ q + 16 + L ≤ N ∧ ∃ O' vo vc, e = .returned (.tuple #[.agg #[.int .u32 (u32at big Y q), .int .u32 (u32at big Y (q + 4)), .int .u32 (u32at big Y (q + 12)), .slice vo L vc], .nilIface]) ∧
    (0 < L → ∃ V, vo = some ⟨V, 0, none⟩ ∧ V < w'.heap.size ∧ ∀ j, j < L → w'.cell? ⟨V, j, none⟩ = some (.int .u8 (Y (q + 16 + j)))) ∧ Pc w' base D B S U O' ot ao N cap Y (q + 16 + L) (cnt + 1) ∧ (∀ k, k ∈ O' → k ∈ O ∨ w.heap.size ≤ k) ∧ Only O w w')

/-- The state of things ahead of the reading of a record's data. -/
structure Mid (F : Interp) (base D B S U : Nat) (O O' : List Nat) (ot : Nat) (ao : Option Addr) (N cap : Nat) (Y : Nat → Int) (q cnt : Nat) (ea ua ta : Addr) (s : ByteArray) (T : Nat) (r0 r1 r2 : Int) (L : Nat) (w w5 : World) (vo : Option Addr) (l vc : Nat) : Prop where
  lo : L ≤ vc
  sub : ∀ k, k ∈ O' → k ∈ O ∨ w.heap.size ≤ k
  sup : ∀ k, k ∈ O → k ∈ O'
  all : ∀ k, k ∈ O' → base ≤ k
  row : ∃ pf, w5.rowIs D 43 23 pf ∧ pf 0 = .pointer (some ⟨B, 0, none⟩) ∧ pf 1 = .iface ot (.agg #[]) ∧ pf 5 = .int .i64 (cnt + 1) ∧ pf 22 = .slice vo l vc
  buf : BufOk w5 base D B S U O' vo l vc
  far : ∀ V, vo = some ⟨V, 0, none⟩ → V ≠ T ∧ V ≠ w.heap.size
  rd : Rd w5 B S U ao N cap Y (q + 16)
  z : w5.rowIs w.heap.size 30 4 (fun i => zr.getD i undef)
  t : w5.rowIs T 30 4 (recF r0 r1 r2 (.slice none 0 0))
  only : Only O w w5
  env : Env F w5 ea ua ta s base

theorem heap4 {w : World} {R X : Nat} (h : X ≠ R) (a b c d : Value) : ((((w.setCell ⟨R, 0, none⟩ a).setCell ⟨R, 1, none⟩ b).setCell ⟨R, 2, none⟩ c).setCell ⟨R, 3, none⟩ d).heap[X]? = w.heap[X]? := by
  rw [Below.heap_setCell _ ⟨R, 3, none⟩ d X h, Below.heap_setCell _ ⟨R, 2, none⟩ c X h, Below.heap_setCell _ ⟨R, 1, none⟩ b X h, Below.heap_setCell _ ⟨R, 0, none⟩ a X h]

/-- What is known behind the reading of the data: d bytes came. -/
structure Got (F : Interp) (base D B S U : Nat) (O O' : List Nat) (ot : Nat) (ao : Option Addr) (N cap : Nat) (Y : Nat → Int) (q cnt : Nat) (ea ua ta : Addr) (s : ByteArray) (T : Nat) (r0 r1 r2 : Int) (L : Nat) (w w7 : World) (vo : Option Addr) (l vc d : Nat) : Prop where
  row : ∃ pf, w7.rowIs D 43 23 pf ∧ pf 0 = .pointer (some ⟨B, 0, none⟩) ∧ pf 1 = .iface ot (.agg #[]) ∧ pf 5 = .int .i64 (cnt + 1) ∧ pf 22 = .slice vo l vc
  buf : BufOk w7 base D B S U O' vo l vc
  dat : 0 < L → ∃ V, vo = some ⟨V, 0, none⟩ ∧ V ≠ w.heap.size ∧ V < w7.heap.size ∧ ∀ j, j < d → w7.cell? ⟨V, j, none⟩ = some (.int .u8 (Y (q + 16 + j)))
  rd : Rd w7 B S U ao N cap Y (q + 16 + d)
  z : w7.rowIs w.heap.size 30 4 (fun i => zr.getD i undef)
  t : w7.rowIs T 30 4 (recF r0 r1 r2 (.slice vo L vc))
  only : Only O w w7
  env : Env F w7 ea ua ta s base

set_option maxHeartbeats 1000000 in
theorem got_call {F : Interp} {base D B S U : Nat} {O O' : List Nat} {ot : Nat} {ao : Option Addr} {N cap : Nat} {Y : Nat → Int} {q cnt : Nat} {ea ua ta : Addr} {s : ByteArray} {T : Nat} {r0 r1 r2 : Int} {L : Nat} {w w5 : World} {vo : Option Addr} {l vc : Nat}
    (A : Apart base B S U ao N) (hown : base ≤ D ∧ D ≠ B ∧ D ≠ S ∧ D ≠ U) (mO : D ∈ O ∧ B ∈ O ∧ S ∈ O ∧ U ∈ O) (hT : w.heap.size < T ∧ D ≠ T ∧ B ≠ T ∧ S ≠ T ∧ U ≠ T) (hW : D < w.heap.size ∧ B < w.heap.size ∧ S < w.heap.size ∧ U < w.heap.size) (_hbw : base ≤ w.heap.size) (M : Mid F base D B S U O O' ot ao N cap Y q cnt ea ua ta s T r0 r1 r2 L w w5 vo l vc) (hN : N ≤ 1048576) (hcap : N ≤ cap) (h16 : q + 16 ≤ N) (hL : L ≤ 262144) :
    Calls Ybaf.prog 13 #[.iface 35 (.pointer (some ⟨B, 0, none⟩)), .slice vo L vc] (w5.setCell ⟨T, 3, none⟩ (.slice vo L vc)).drew fun e w7 => ∃ d, d ≤ L ∧ q + 16 + d ≤ N ∧ e = .returned (.tuple #[.int .i64 d, fullErr ea ua d L]) ∧ (d = L ∨ q + 16 + d = N) ∧
      Got F base D B S U O O' ot ao N cap Y q cnt ea ua ta s T r0 r1 r2 L w w7 vo l vc d := by
  obtain ⟨m1, m2, m3, m4, ⟨pg, D5, g0, g1, g5, g22⟩, F5, m7, R5, Z5, T5, O5, E5⟩ := M
  obtain ⟨hT0, lD, lB, lS, lU⟩ := hT
  have hbt : base ≤ T := by omega
  have oT : Only [T] w5 (w5.setCell ⟨T, 3, none⟩ (.slice vo L vc)).drew := ((Only.refl [T] w5).setCell (by simp) _).drew
  have D6 := oT.row D5 (by simpa using lD)
  have R6 := R5.only A oT (by simp; exact ⟨hbt, fun e => lB e.symm, fun e => lS e.symm, fun e => lU e.symm⟩)
  have Z6 := oT.row Z5 (by simp; omega)
  have T6 : (w5.setCell ⟨T, 3, none⟩ (.slice vo L vc)).drew.rowIs T 30 4 (recF r0 r1 r2 (.slice vo L vc)) := (T5.set 3 _).congr fun i hi => by
    have : i = 0 ∨ i = 1 ∨ i = 2 ∨ i = 3 := by omega
    rcases this with rfl | rfl | rfl | rfl <;> rfl
  have O6 : Only O w (w5.setCell ⟨T, 3, none⟩ (.slice vo L vc)).drew := (O5.setNew (a := ⟨T, 3, none⟩) (Nat.le_of_lt hT0) _).drew
  have E6 := E5.only oT (by simpa using hbt)
  have F6 : BufOk (w5.setCell ⟨T, 3, none⟩ (.slice vo L vc)).drew base D B S U O' vo l vc := by
    obtain ⟨h1, h2, h3⟩ := F5
    refine ⟨h1, h2, ?_⟩
    rcases h3 with h3 | ⟨V, g, e, r, rest⟩
    · exact .inl h3
    · exact .inr ⟨V, g, e, oT.row r (by simpa using (m7 V e).1), rest⟩
  have hsT := oT.size
  have hlT := T5.lt
  generalize (w5.setCell ⟨T, 3, none⟩ (.slice vo L vc)).drew = w6 at D6 R6 Z6 T6 O6 E6 F6 hsT ⊢
  have b7 := E6.b7
  have bs := E6.sz
  by_cases hL0 : L = 0
  · subst hL0
    refine (full_zero _ vo vc w6).mono ?_
    rintro e w7 ⟨rfl, rfl⟩
    exact ⟨0, Nat.le_refl _, h16, rfl, .inl rfl, ⟨_, D6, g0, g1, g5, g22⟩, F6, fun h => absurd h (by omega), R6, Z6, T6, O6, E6⟩
  · rcases F6.2.2 with ⟨_, h⟩ | ⟨V, g, rfl, r, b0, b1, b2, b3, b4, b5⟩
    · omega
    · have mV := m7 V rfl
      refine (full (w := w6) (off := 0) (m := L) (c := vc) A (by omega) b0 b2 b3 b4 R6 r E6.e E6.u (Nat.le_trans (by omega) bs) (by omega) m1 hN hcap h16 (by omega)).mono ?_
      rintro e w7 ⟨d, k1, k2, rfl, k3, k4, k5, k6⟩
      have D7 := k6.row D6 (by simp; exact ⟨hown.2.1, hown.2.2.1, hown.2.2.2, fun e => b1 e.symm⟩)
      have Z7 := k6.row Z6 (by simp; refine ⟨by omega, by omega, by omega, fun e => mV.2 e.symm⟩)
      have T7 := k6.row T6 (by simp; exact ⟨fun e => lB e.symm, fun e => lS e.symm, fun e => lU e.symm, fun e => mV.1 e.symm⟩)
      have hV7 := k5.lt
      have O7 : Only O w w7 := by
        refine ⟨k6.os.trans O6.os, k6.tape.trans O6.tape, k6.output.trans O6.output, Nat.le_trans O6.size k6.size, fun j hj hn => ?_⟩
        refine (k6.block j (Nat.lt_of_lt_of_le hj O6.size) ?_).trans (O6.block j hj hn)
        simp
        refine ⟨?_, ?_, ?_, ?_⟩
        · rintro rfl; exact hn mO.2.1
        · rintro rfl; exact hn mO.2.2.1
        · rintro rfl; exact hn mO.2.2.2
        · rintro rfl
          rcases m2 _ b5 with h | h
          · exact hn h
          · omega
      refine ⟨d, k1, k2, rfl, k3, ⟨_, D7, g0, g1, g5, g22⟩, ⟨F6.1, F6.2.1, .inr ⟨V, _, rfl, k5, b0, b1, b2, b3, b4, b5⟩⟩, fun _ => ⟨V, rfl, mV.2, hV7, fun j hj => ?_⟩, k4, Z7, T7, O7, E6.only k6 (fun k hk => ?_)⟩
      · rw [k5.cell (by omega)]
        unfold laidOver
        rw [if_pos (by omega), Nat.sub_zero]
      · simp at hk
        have := A.b
        have := A.s
        have := A.u
        rcases hk with rfl | rfl | rfl | rfl <;> assumption

theorem made_row (w : World) (C : Nat) : (w.alloc (.cells (madeCells #[.int .u8 0] C) 5)).rowIs w.heap.size 5 C (fun _ => .int .u8 0) := World.rowIs_made w (.int .u8 0) C 5

end Go.Proofs.YbulkcmekFmt
