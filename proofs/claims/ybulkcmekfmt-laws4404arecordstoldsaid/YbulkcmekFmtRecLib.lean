import Derived.Test.YbulkcmekFmtAput
namespace Go.Proofs.YbulkcmekFmt
open Go Go.RowKit

/-- How many bytes the first i records take. -/
def pre (dl : Nat → Nat) : Nat → Nat
  | 0 => 0
  | i + 1 => pre dl i + (16 + dl i)

theorem pre_mono (dl : Nat → Nat) {i j : Nat} (h : i ≤ j) : pre dl i ≤ pre dl j := by
  induction h with
  | refl => exact Nat.le_refl _
  | step _ ih => exact Nat.le_trans ih (by simp only [pre]; omega)

theorem pre_step (dl : Nat → Nat) {i j : Nat} (h : i < j) : pre dl i + 16 + dl i ≤ pre dl j := by
  have := pre_mono dl (i := i + 1) (j := j) h
  simp only [pre] at this
  omega

/-- The records as they lie in memory. -/
structure Recs (W : World) (n : Nat) (ao : Option Addr) (sec fr og : Nat → Int) (da : Nat → Option Addr) (dl dc : Nat → Nat) (dy : Nat → Nat → Int) : Prop where
  at_ : 0 < n → ∃ b o, ao = some ⟨b, o, none⟩ ∧ b < W.heap.size ∧ ∀ i, i < n → W.cell? ⟨b, o + i * 4, none⟩ = some (.int .u32 (sec i)) ∧ W.cell? ⟨b, o + i * 4 + 1, none⟩ = some (.int .u32 (fr i)) ∧ W.cell? ⟨b, o + i * 4 + 2, none⟩ = some (.int .u32 (og i)) ∧
    W.cell? ⟨b, o + i * 4 + 3, none⟩ = some (.slice (da i) (dl i) (dc i))
  le : ∀ i, i < n → dl i ≤ dc i
  r0 : ∀ i, 0 ≤ sec i ∧ sec i < 4294967296
  r1 : ∀ i, 0 ≤ fr i ∧ fr i < 4294967296
  r2 : ∀ i, 0 ≤ og i ∧ og i < 4294967296
  byt : ∀ i, Byt (dy i)
  dat : ∀ i, i < n → Bytes W (da i) (dl i) (dy i)

theorem Recs.below {W W' : World} {n : Nat} {ao : Option Addr} {sec fr og : Nat → Int} {da : Nat → Option Addr} {dl dc : Nat → Nat} {dy : Nat → Nat → Int} (h : Recs W n ao sec fr og da dl dc dy) (b : Below W.heap.size W W') : Recs W' n ao sec fr og da dl dc dy := by
  obtain ⟨h1, h2, h3, h4, h5, h6, h7⟩ := h
  refine ⟨fun hn => ?_, h2, h3, h4, h5, h6, fun i hi hd => ?_⟩
  · obtain ⟨x, y, e, hx, hc⟩ := h1 hn
    refine ⟨x, y, e, Nat.lt_of_lt_of_le hx b.size, fun i hi => ?_⟩
    obtain ⟨k0, k1, k2, k3⟩ := hc i hi
    exact ⟨(b.cell (p := ⟨x, y + i * 4, none⟩) hx).trans k0, (b.cell (p := ⟨x, y + i * 4 + 1, none⟩) hx).trans k1, (b.cell (p := ⟨x, y + i * 4 + 2, none⟩) hx).trans k2, (b.cell (p := ⟨x, y + i * 4 + 3, none⟩) hx).trans k3⟩
  · obtain ⟨x, y, e, hx, hc⟩ := h7 i hi hd
    exact ⟨x, y, e, Nat.lt_of_lt_of_le hx b.size, fun j hj => (b.cell (p := ⟨x, y + j, none⟩) hx).trans (hc j hj)⟩

/-- Z bears the first i records. -/
def Str (big : Bool) (sec fr og : Nat → Int) (dl : Nat → Nat) (dy : Nat → Nat → Int) (Z : Nat → Int) (i : Nat) : Prop :=
  ∀ j, j < i → u32at big Z (pre dl j) = sec j ∧ u32at big Z (pre dl j + 4) = fr j ∧ u32at big Z (pre dl j + 8) = (dl j : Int) ∧ u32at big Z (pre dl j + 12) = og j ∧ ∀ t, t < dl j → Z (pre dl j + 16 + t) = dy j t

theorem u32at_congr {big : Bool} {Z Z' : Nat → Int} {p q : Nat} (h : ∀ i, i < q → Z' i = Z i) (hp : p + 4 ≤ q) : u32at big Z' p = u32at big Z p := by
  unfold u32at
  rw [h p (by omega), h (p + 1) (by omega), h (p + 2) (by omega), h (p + 3) (by omega)]

theorem Str.keep {big : Bool} {sec fr og : Nat → Int} {dl : Nat → Nat} {dy : Nat → Nat → Int} {Z Z' : Nat → Int} {i : Nat} (h : Str big sec fr og dl dy Z i) (hk : ∀ k, k < pre dl i → Z' k = Z k) : Str big sec fr og dl dy Z' i := fun j hj => by
  obtain ⟨h0, h1, h2, h3, h4⟩ := h j hj
  have := pre_step dl hj
  refine ⟨(u32at_congr hk (by omega)).trans h0, (u32at_congr hk (by omega)).trans h1, (u32at_congr hk (by omega)).trans h2, (u32at_congr hk (by omega)).trans h3, fun t ht => (hk _ (by omega)).trans (h4 t ht)⟩

theorem Str.next {big : Bool} {sec fr og : Nat → Int} {dl : Nat → Nat} {dy : Nat → Nat → Int} {Z Z' : Nat → Int} {i : Nat} (h : Str big sec fr og dl dy Z i) (hk : ∀ k, k < pre dl i → Z' k = Z k) (h0 : u32at big Z' (pre dl i) = sec i) (h1 : u32at big Z' (pre dl i + 4) = fr i) (h2 : u32at big Z' (pre dl i + 8) = (dl i : Int)) (h3 : u32at big Z' (pre dl i + 12) = og i)
    (h4 : ∀ t, t < dl i → Z' (pre dl i + 16 + t) = dy i t) : Str big sec fr og dl dy Z' (i + 1) := fun j hj => by
  rcases Nat.lt_or_ge j i with hlt | hge
  · exact h.keep hk j hlt
  · obtain rfl : j = i := by omega
    exact ⟨h0, h1, h2, h3, h4⟩

theorem aput_in {big : Bool} {p T : Nat} {v : Int} {Z : Nat → Int} {w W : World} (bel : Below w.heap.size w W) (hr : W.rowIs w.heap.size 5 T (fun i => .int .u8 (Z i))) (hZ : Byt Z) (hp : p + 4 ≤ T) (hv : 0 ≤ v ∧ v < 4294967296) :
    Calls Ybaf.prog 5 #[.slice (some ⟨w.heap.size, 0, none⟩) p T, .int .u32 v, .bool big] W fun e w' => e = .returned (.slice (some ⟨w.heap.size, 0, none⟩) (p + 4) T) ∧ Below w.heap.size w w' ∧ ∃ Z' : Nat → Int, Byt Z' ∧ (∀ i, i < p → Z' i = Z i) ∧ u32at big Z' p = v ∧ w'.rowIs w.heap.size 5 T (fun i => .int .u8 (Z' i)) :=
  (aput hr hZ hp hv).mono fun _ _ ⟨he, ⟨Z', h1, h2, h3, h4⟩, o⟩ => ⟨he, bel.trans (o.below bel.size (by simp)), Z', h1, h2, h3, h4⟩

/-- Z with n bytes laid at p. -/
def layZ (Z : Nat → Int) (p n : Nat) (D : Nat → Int) (i : Nat) : Int := if p ≤ i ∧ i < p + n then D (i - p) else Z i

theorem layZ_byt {Z D : Nat → Int} {p n : Nat} (h1 : Byt Z) (h2 : Byt D) : Byt (layZ Z p n D) := fun i => by
  unfold layZ
  by_cases h : p ≤ i ∧ i < p + n
  · rw [if_pos h]; exact h2 _
  · rw [if_neg h]; exact h1 i
theorem layZ_old {Z D : Nat → Int} {p n i : Nat} (h : i < p) : layZ Z p n D i = Z i := by unfold layZ; rw [if_neg (by omega)]
theorem layZ_new {Z D : Nat → Int} {p n t : Nat} (h : t < n) : layZ Z p n D (p + t) = D t := by unfold layZ; rw [if_pos (by omega), Nat.add_sub_cancel_left]
theorem layZ_row {Z D : Nat → Int} {p n i : Nat} : laidOver (fun i => .int .u8 (Z i)) p n (fun t => .int .u8 (D t)) i = .int .u8 (layZ Z p n D i) := by
  unfold laidOver layZ
  by_cases h : p ≤ i ∧ i < p + n
  · rw [if_pos h, if_pos h]
  · rw [if_neg h, if_neg h]

/-- One record more. -/
theorem str_round {big : Bool} {sec fr og : Nat → Int} {dl : Nat → Nat} {dy : Nat → Nat → Int} {Z Z1 Z2 Z3 Z4 : Nat → Int} {j : Nat} (h : Str big sec fr og dl dy Z j)
    (k1 : ∀ i, i < pre dl j → Z1 i = Z i) (u1 : u32at big Z1 (pre dl j) = sec j) (k2 : ∀ i, i < pre dl j + 4 → Z2 i = Z1 i) (u2 : u32at big Z2 (pre dl j + 4) = fr j) (k3 : ∀ i, i < pre dl j + 4 + 4 → Z3 i = Z2 i) (u3 : u32at big Z3 (pre dl j + 4 + 4) = (dl j : Int))
    (k4 : ∀ i, i < pre dl j + 4 + 4 + 4 → Z4 i = Z3 i) (u4 : u32at big Z4 (pre dl j + 4 + 4 + 4) = og j) : Str big sec fr og dl dy (layZ Z4 (pre dl j + 4 + 4 + 4 + 4) (dl j) (dy j)) (j + 1) := by
  have k5 : ∀ i, i < pre dl j + 4 + 4 + 4 + 4 → layZ Z4 (pre dl j + 4 + 4 + 4 + 4) (dl j) (dy j) i = Z4 i := fun i hi => layZ_old hi
  refine h.next (fun k hk => ?_) ?_ ?_ ?_ ?_ (fun t ht => ?_)
  · rw [k5 k (by omega), k4 k (by omega), k3 k (by omega), k2 k (by omega), k1 k hk]
  · rw [u32at_congr k5 (by omega), u32at_congr k4 (by omega), u32at_congr k3 (by omega), u32at_congr k2 (by omega), u1]
  · rw [u32at_congr k5 (by omega), u32at_congr k4 (by omega), u32at_congr k3 (by omega), u2]
  · rw [u32at_congr k5 (by omega), u32at_congr k4 (by omega), ← u3]
  · rw [u32at_congr k5 (by omega), ← u4]
  · exact layZ_new ht

theorem Env.mono {F : Go.Stop.Interp} {w : World} {ea ua ta : Addr} {s : ByteArray} {base base' : Nat} (E : Env F w ea ua ta s base) (h1 : base ≤ base') (h2 : base' ≤ w.heap.size) : Env F w ea ua ta s base' :=
  ⟨Nat.le_trans E.b7 h1, h2, E.ans, E.e, E.u, E.t, E.s, Nat.lt_of_lt_of_le E.ta h1⟩

end Go.Proofs.YbulkcmekFmt
