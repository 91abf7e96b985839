/-
  zzs4407bcheck.
-/
import Derived.Test.YbulkcmgaFmtRaise
import Derived.Lib.Builder
namespace Go.Proofs.YbulkcmgaFmt
open Go Go.RowKit Go.Maps

/-- The world but for its draws. -/
structure Dr (w w' : World) : Prop where
  heap : w'.heap = w.heap
  below : Below w.heap.size w w'
theorem Dr.refl (w : World) : Dr w w := ⟨rfl, Below.refl _ _⟩
theorem Dr.drewN {w w' : World} (d : Dr w w') (q : Nat) : Dr w (w'.drewN q) := ⟨d.heap, below_drewN d.below q⟩
theorem Dr.cell {w w' : World} (d : Dr w w') (p : Addr) : w'.cell? p = w.cell? p := by simp [World.cell?, d.heap]
theorem Dr.keep {w w' : World} (d : Dr w w') : KeepCM w w' := KeepCM.of_heap d.heap

/-- The entries' slice. -/
def En (w : World) (ao : Option Addr) (m : Md) (al : Nat → Bool) : Prop := 0 < m.ne → ∃ E, ao = some ⟨E, 0, none⟩ ∧ ∀ i, i < m.ne → w.cell? ⟨E, i * 5, none⟩ = some (.int .u64 (m.rd i)) ∧ w.cell? ⟨E, i * 5 + 1, none⟩ = some (.string (m.pr i)) ∧ w.cell? ⟨E, i * 5 + 2, none⟩ = some (.bool (m.hd i)) ∧ w.cell? ⟨E, i * 5 + 3, none⟩ = some (.bool (al i)) ∧ w.cell? ⟨E, i * 5 + 4, none⟩ = some (.pointer (some ⟨m.rc i, 0, none⟩))
theorem En.dr {w w' : World} {ao : Option Addr} {m : Md} {al : Nat → Bool} (h : En w ao m al) (d : Dr w w') : En w' ao m al := fun h0 => by
  obtain ⟨E, e, k⟩ := h h0
  exact ⟨E, e, fun i hi => by simpa only [d.cell] using k i hi⟩

variable {w : World} {bs RB M n : Nat} {hold : Bool} {k hi fl : Int} {m : Md} {al : Nat → Bool} {g : Int → Option Nat} {h : Int → ByteArray → Option Nat} {sv : Value} {a : Nat → Int} {sp : Option Nat} {ao : Option Addr} {cap : Nat}

/-- What the check finds at entry i. -/
theorem rx_got (x : Rx w bs RB hold k hi fl fl (fun _ => False) m al M g h sv n a sp) {i : Nat} (hi : i < m.ne) : ∃ v1, ∀ q, (Instr.lookup 32 (.map (some M)) (.int .u64 (m.rd i)) false).run Ybaf.prog (w.drewN q) = .ok v1 (w.drewN q) ∧ (Instr.lookup 34 v1 (.string (m.pr i)) false).run Ybaf.prog (w.drewN q) = .ok (if al i then .pointer (some ⟨m.rc i, 0, none⟩) else .pointer none) (w.drewN q) := by
  obtain ⟨s0, _, tb⟩ := x.tb
  refine ⟨_, fun q => ⟨Tb.lookup (w := w.drewN q) (tb.of_block rfl) (m.rd i) (x.mok.wf i hi), ?_⟩⟩
  cases hg : g (m.rd i) with
  | none =>
    have : al i = false := by
      cases e : al i with
      | false => rfl
      | true =>
        have := (x.gal (m.rd i)).2 ⟨i, hi, e, rfl⟩
        rw [hg] at this
        cases this
    rw [this]
    exact inn_nil _ _ (x.mok.len i hi)
  | some B =>
    obtain ⟨_, _, s, _, iB⟩ := x.inn _ B hg
    have := Inn.lookup (w := w.drewN q) (iB.of_block rfl) (m.pr i) (x.mok.len i hi)
    simp only [mv]
    rw [this]
    have hs : (g (m.rd i)).isSome = true := by rw [hg]; rfl
    cases e : al i with
    | true =>
      rw [(x.hal _ hs _ _).2 ⟨i, hi, e, rfl, rfl, rfl⟩]
      rfl
    | false =>
      cases eh : h (m.rd i) (m.pr i) with
      | none => rfl
      | some X =>
        obtain ⟨j, hj, h1, h2, h3, _⟩ := (x.hal _ hs _ _).1 eh
        have := x.mok.uq j i hj hi h2 h3
        rw [this, e] at h1
        cases h1

set_option maxHeartbeats 4000000 in
set_option maxRecDepth 100000 in
theorem check_is (x : Rx w bs RB hold k hi fl fl (fun _ => False) m al M g h sv n a sp) (en : En w ao m al) :
    Calls Ybaf.prog 14 #[.pointer (some ⟨RB, 0, none⟩), .slice ao m.ne cap, .int .u64 hi, .int .u64 fl] w fun e w' => e = .returned (.bool true) ∧ Dr w w' := by
  have qp : ∀ (w : World) (a : Addr), (binOp .neq 75 (.pointer (some a)) (.pointer (some a))).run Ybaf.prog w = .ok (.bool false) w := fun w a => Lib.run_neq_ptr_same (w := w) a Ybaf.underlying75 (show Ybaf.prog.info? 79 = some Ybaf.t79 by kernel_rfl)
  have c5 := x.c5.1
  have HX := hidn (And.intro x en)
  have hne := x.mok.ne
  clear x en
  go_enter Ybaf.func14, Ybaf.ntmps14
  go_upto_region 7 with (fail)
  go_loopw [9, 10, 11, 27] (fun s9 s10 s11 s27 wr => ∃ i, i ≤ m.ne ∧ s27 = .int .i64 (i : Nat) ∧ s9 = .int .i64 (cnt al i) ∧ s10 = .int .i64 (cnt (first m al) i) ∧ s11 = .int .i64 (cnt (fun i => first m al i && decide (fl ≤ m.rd i)) i) ∧ Dr w wr) (fun _ _ _ s27 _ => m.ne - (intOf s27).toNat)
  case atStart => exact ⟨0, Nat.zero_le _, rfl, rfl, rfl, rfl, Dr.refl _⟩
  case round =>
    obtain ⟨i, hil, rfl, rfl, rfl, rfl, d⟩ := hrel
    rename World => wr
    have b1 := cnt_le al i
    have b2 := cnt_le (first m al) i
    have b3 := cnt_le (fun i => first m al i && decide (fl ≤ m.rd i)) i
    by_cases hlt : i < m.ne
    · have hlt' : (i : Int) < (m.ne : Int) := by omega
      obtain ⟨E, rfl, hE⟩ := HX.out.2 (by omega)
      obtain ⟨k0, k1, k2, k3, k4⟩ := hE i hlt
      rw [← d.cell] at k0 k1 k2 k3 k4
      have x := HX.out.1.keep d.keep
      obtain ⟨v1, hl⟩ := rx_got x hlt
      have hl1 := fun q => (hl q).1
      have hl2 := fun q => (hl q).2
      have c6 := x.c6
      clear hl x
      have HD := hidn d
      cases ea : al i with
      | false =>
        rw [ea] at k3
        have hl3 : ∀ q, (Instr.lookup 34 v1 (.string (m.pr i)) false).run Ybaf.prog (wr.drewN q) = .ok (.pointer none) (wr.drewN q) := fun q => by
          have := hl2 q
          rw [ea] at this
          exact this
        have HEa := hidn ea
        clear hl2 ea d
        go_upto_region 10 with (fail)
        go_quiet (fail)
        go_wp2
        go_roundw
        case rel =>
          have hf : first m al i = false := by simp [first, HEa.out]
          refine ⟨i + 1, by omega, by go_num, ?_, ?_, ?_, HD.out.drewN _⟩
          · simp [cnt, HEa.out]
          · simp [cnt, hf]
          · simp [cnt, hf]
        case measure => simp [intOf]; omega
      | true =>
        rw [ea] at k3
        have hl3 : ∀ q, (Instr.lookup 34 v1 (.string (m.pr i)) false).run Ybaf.prog (wr.drewN q) = .ok (.pointer (some ⟨m.rc i, 0, none⟩)) (wr.drewN q) := fun q => by
          have := hl2 q
          rw [ea] at this
          exact this
        have HEa := hidn ea
        clear hl2 ea d
        go_upto_region 10 with (fail)
        go_quiet (fail)
        go_upto_block 2 with fail
        have k0' : (wr.drewN nq).cell? ⟨E, i * 5, none⟩ = some (.int .u64 (m.rd i)) := k0
        have HD2 : Hid (Dr w (wr.drewN nq)) := HD.out.drewN nq
        clear k0 k1 k2 k3 k4 hl1 hl3 c6 HD c5
        generalize wr.drewN nq = w2 at k0' HD2 ⊢
        have HK := hidn hE
        clear hE
        go_cut [15, 16] (fun s15 _ wd => s15 = .bool (first m al i) ∧ Dr w wd)
        case first =>
          go_upto_region 17 with (fail)
          have HK0 := hidn k0'
          clear k0'
          go_loopw [15, 16] (fun s15 s16 wi => ∃ j, j ≤ i ∧ s15 = .bool true ∧ s16 = .int .i64 (j : Nat) ∧ (∀ l, l < j → ¬ (al l = true ∧ m.rd l = m.rd i)) ∧ Dr w wi) (fun _ s16 _ => i - (intOf s16).toNat)
          case atStart => exact ⟨0, Nat.zero_le _, rfl, rfl, fun l hl => by omega, HD2.out⟩
          case round =>
            obtain ⟨j, hj, rfl, rfl, hno, d⟩ := hrel
            rename World => wi
            have e0 := (d.cell ⟨E, i * 5, none⟩).trans (HK.out i hlt).1
            have HN := hidn (And.intro hno d)
            by_cases hji : j < i
            · have hji' : (j : Int) < (i : Int) := by omega
              have hjn : (j : Int) < (m.ne : Int) := by omega
              have hjn' : j < m.ne := by omega
              have e1 := (d.cell ⟨E, j * 5, none⟩).trans (HK.out j (by omega)).1
              have e2 := (d.cell ⟨E, j * 5 + 3, none⟩).trans (HK.out j (by omega)).2.2.2.1
              clear hno d
              cases eb : al j with
              | false =>
                rw [eb] at e2
                have HEb := hidn eb
                clear eb
                go_wp2
                go_quiet (fail)
                go_wp2
                go_roundw
                case rel =>
                  obtain ⟨hno, d⟩ := HN.out
                  refine ⟨j + 1, by omega, rfl, by go_num, fun l hl hh => ?_, d.drewN _⟩
                  by_cases e : l = j
                  · rw [e, HEb.out] at hh
                    cases hh.1
                  · exact hno l (by omega) hh
                case measure => simp [intOf]; omega
              | true =>
                rw [eb] at e2
                have HEb := hidn eb
                clear eb
                by_cases er : m.rd j = m.rd i
                · have hb : (m.rd j == m.rd i) = true := by simpa using er
                  have HEr := hidn er
                  clear er
                  go_wp2
                  go_quiet (fail)
                  go_wp2
                  go_meet
                  refine ⟨?_, HN.out.2.drewN _⟩
                  have : first m al i = false := by
                    cases ef : first m al i with
                    | false => rfl
                    | true => exact absurd ⟨HEb.out, HEr.out⟩ ((first_spec.1 ef).2 j hji)
                  rw [this]
                · have hb : (m.rd j == m.rd i) = false := by simpa using er
                  have HEr := hidn er
                  clear er
                  go_wp2
                  go_quiet (fail)
                  go_wp2
                  go_roundw
                  case rel =>
                    obtain ⟨hno, d⟩ := HN.out
                    refine ⟨j + 1, by omega, rfl, by go_num, fun l hl hh => ?_, d.drewN _⟩
                    by_cases e : l = j
                    · rw [e] at hh
                      exact HEr.out hh.2
                    · exact hno l (by omega) hh
                  case measure => simp [intOf]; omega
            · have hji' : ¬ (j : Int) < (i : Int) := by omega
              clear hno d
              go_wp2
              go_meet
              refine ⟨?_, HN.out.2⟩
              have : first m al i = true := first_spec.2 ⟨HEa.out, fun l hl => HN.out.1 l (by omega)⟩
              rw [this]
        case rest =>
          obtain ⟨rfl, d⟩ := hcut
          rename World => w3
          have e0 := (d.cell ⟨E, i * 5, none⟩).trans (HK.out i hlt).1
          have HD3 := hidn d
          clear d k0' HD2
          cases ef : first m al i with
          | false =>
            have HEf := hidn ef
            clear ef
            go_wp2
            go_roundw
            case rel =>
              refine ⟨i + 1, by omega, by go_num, ?_, ?_, ?_, HD3.out⟩
              · simp [cnt, HEa.out]
              · simp [cnt, HEf.out]
              · simp [cnt, HEf.out]
            case measure => simp [intOf]; omega
          | true =>
            have HEf := hidn ef
            clear ef
            by_cases hfl : fl ≤ m.rd i
            · go_wp2
              go_roundw
              case rel =>
                refine ⟨i + 1, by omega, by go_num, ?_, ?_, ?_, HD3.out⟩
                · simp [cnt, HEa.out]
                · simp [cnt, HEf.out]
                · simp [cnt, HEf.out, hfl]
              case measure => simp [intOf]; omega
            · have hdf : decide (fl ≤ m.rd i) = false := by simpa using hfl
              go_wp2
              go_roundw
              case rel =>
                refine ⟨i + 1, by omega, by go_num, ?_, ?_, ?_, HD3.out⟩
                · simp [cnt, HEa.out]
                · simp [cnt, HEf.out]
                · simp [cnt, HEf.out, hfl]
              case measure => simp [intOf]; omega
    · have hlt' : ¬ (i : Int) < (m.ne : Int) := by omega
      obtain rfl : i = m.ne := by omega
      have x := HX.out.1.keep d.keep
      obtain ⟨s0, _, tb⟩ := x.tb
      have e1 := x.size_tb tb
      have e2 := x.size_heap
      rw [← e1, ← e2] at *
      have hl := fun ty => tb.len ty
      have c6 := x.c6
      have c7 := x.c7.1
      obtain ⟨ro, rcap, esv⟩ := rx_slice x
      have c8 := x.c8.1
      rw [esv] at c8
      have HX2 := hidn (And.intro x (And.intro esv d))
      have hnb := x.nle
      clear x esv d b1 b2 b3 e1 e2
      go_upto_region 31 with (fail)
      go_loopw [124] (fun s124 wi => ∃ j, j ≤ n ∧ s124 = .int .i64 (j : Nat) ∧ wi = wr) (fun s124 _ => n - (intOf s124).toNat)
      case atStart => exact ⟨0, Nat.zero_le _, rfl, rfl⟩
      case round =>
        obtain ⟨j, hj, rfl, rfl⟩ := hrel
        by_cases hjn : j < n
        · have hjn' : (j : Int) < (n : Int) := by omega
          obtain ⟨G, c, e3, _, hwx⟩ := rx_hw HX2.out.1 (by omega)
          obtain ⟨rfl, rfl⟩ : ro = some ⟨G, 0, none⟩ ∧ rcap = c := by
            have := HX2.out.2.1
            rw [e3] at this
            simpa using this.symm
          have ca := hwx.row.cell hjn
          have ht := HX2.out.1.top j hjn
          have hdt : decide (a j < fl) = false := by simp; omega
          clear hwx e3
          go_wp2
          go_roundw
          case rel => exact ⟨j + 1, by omega, by go_num, trivial⟩
          case measure => simp [intOf]; omega
        · have hjn' : ¬ (j : Int) < (n : Int) := by omega
          go_wp2
          go_ret
          exact ⟨rfl, HX2.out.2.2⟩

end Go.Proofs.YbulkcmgaFmt
