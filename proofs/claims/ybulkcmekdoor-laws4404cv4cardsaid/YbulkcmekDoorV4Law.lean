import Derived.Test.YbulkcmekDoorV4
import Derived.Laws.Concat
namespace Go.Proofs.YbulkcmekDoor
open Go.RowKit

theorem mk4 (a b c d : Int) : (ByteArray.mk (dec a).toArray ++ ByteArray.mk #[46] ++ ByteArray.mk (dec b).toArray ++ ByteArray.mk #[46] ++ ByteArray.mk (dec c).toArray ++ ByteArray.mk #[46] ++ ByteArray.mk (dec d).toArray) = ByteArray.mk (quad a b c d).toArray := by
  rw [show (#[46] : Array UInt8) = [46].toArray from rfl]
  simp only [ByteArray.mk_append_mk]
  rfl
theorem mk5 (a b c d n : Int) : (ByteArray.mk (quad a b c d).toArray ++ ByteArray.mk #[47] ++ ByteArray.mk (dec n).toArray) = ByteArray.mk (slashed a b c d n).toArray := by
  rw [show (#[47] : Array UInt8) = [47].toArray from rfl]
  simp only [ByteArray.mk_append_mk]
  rfl

set_option maxHeartbeats 2000000 in
set_option maxRecDepth 100000 in
theorem v4_law (a b c d x : Int) (ha : 0 ≤ a ∧ a ≤ 255) (hb : 0 ≤ b ∧ b ≤ 255) (hc : 0 ≤ c ∧ c ≤ 255) (hd : 0 ≤ d ∧ d ≤ 255) (hx : 0 ≤ x ∧ x ≤ 255) (z : Addr) (w : World) (h0 : w.cell? ⟨2, 0, none⟩ = some (.pointer none)) (h4 : w.cell? ⟨1, 0, none⟩ = some (.pointer (some z))) (hs : 2 < w.heap.size) :
    Calls Ybad.prog 4 #[.int .u8 a, .int .u8 b, .int .u8 c, .int .u8 d, .int .u8 x] w fun e w' => e = .returned (.bool true) ∧ Below w.heap.size w w' := by
  obtain ⟨hx0, hx1⟩ := hx
  obtain ⟨n, hn⟩ : ∃ n, n = x % 33 := ⟨_, rfl⟩
  have hn0 : 0 ≤ n ∧ n ≤ 32 := by omega
  obtain ⟨l, hl⟩ : ∃ l, l = 281470681743360 + (a * 16777216 + b * 65536 + c * 256 + d) := ⟨_, rfl⟩
  have hs1 : 1 < w.heap.size := by omega
  have up : ∀ W, Below w.heap.size w W → W.cell? ⟨2, 0, none⟩ = some (.pointer none) ∧ W.cell? ⟨1, 0, none⟩ = some (.pointer (some z)) ∧ 2 < W.heap.size := fun W hW => ⟨(hW.cell (p := ⟨2, 0, none⟩) hs).trans h0, (hW.cell (p := ⟨1, 0, none⟩) hs1).trans h4, Nat.lt_of_lt_of_le hs hW.size⟩
  have K10 := hidn (from4_any a b c d ha hb hc hd w (some z) h4 hs1)
  rw [← hl] at K10
  have K9 : Hid (∀ W, Below w.heap.size w W → Calls Ybad.prog 9 #[.agg #[.int .u64 0, .int .u64 l, .pointer (some z)], .int .i64 n] W fun e w' => e = .returned (.agg #[.int .u64 0, .int .u64 l, .pointer (some z), .int .u8 (n + 1)]) ∧ Below W.heap.size W w') := fun W hW => prefixFrom_yes 0 l n hn0 z W (up W hW).1 (up W hW).2.1 (up W hW).2.2
  have K12 : Hid (∀ W, Below w.heap.size w W → Calls Ybad.prog 12 #[.agg #[.int .u64 0, .int .u64 l, .pointer (some z), .int .u8 (n + 1)]] W fun e w' => e = .returned (.string ⟨(wrote a b c d n).toArray⟩) ∧ Below W.heap.size W w') := fun W hW => prefixText_is a b c d n z W ha hb hc hd hn0 (up W hW).1 (up W hW).2.1 (up W hW).2.2 l hl
  have hnx : x % 33 = n := hn.symm
  clear up h0 h4 hl hn
  go_enter Ybad.func4, Ybad.ntmps4
  go_upto_region 3 with (first
    | (go_at_call 10; refine K10.out.mono ?_; rintro e w1 ⟨rfl, b1⟩)
    | (go_at_call 9; refine (K9.out _ b1).mono ?_; rintro e w2 ⟨rfl, b2⟩; have B2 := hidn (b1.trans (b2.mono b1.size))))
  have p0 : (w2.alloc (.cells #[.int .u64 0, .int .u64 l, .pointer (some z), .int .u8 (n + 1)] 45)).cell? ⟨w2.heap.size, 0, none⟩ = some (.int .u64 0) := by go_simp
  have p1 : (w2.alloc (.cells #[.int .u64 0, .int .u64 l, .pointer (some z), .int .u8 (n + 1)] 45)).cell? ⟨w2.heap.size, 1, none⟩ = some (.int .u64 l) := by go_simp
  have p2 : (w2.alloc (.cells #[.int .u64 0, .int .u64 l, .pointer (some z), .int .u8 (n + 1)] 45)).cell? ⟨w2.heap.size, 2, none⟩ = some (.pointer (some z)) := by go_simp
  have p3 : (w2.alloc (.cells #[.int .u64 0, .int .u64 l, .pointer (some z), .int .u8 (n + 1)] 45)).cell? ⟨w2.heap.size, 3, none⟩ = some (.int .u8 (n + 1)) := by go_simp
  have hP : w2.heap.size < (w2.alloc (.cells #[.int .u64 0, .int .u64 l, .pointer (some z), .int .u8 (n + 1)] 45)).heap.size := by simp
  have B3 := B2.out.alloc B2.out.size (.cells #[.int .u64 0, .int .u64 l, .pointer (some z), .int .u8 (n + 1)] 45)
  generalize w2.alloc (.cells #[.int .u64 0, .int .u64 l, .pointer (some z), .int .u8 (n + 1)] 45) = w3 at p0 p1 p2 p3 hP B3 ⊢
  have HB3 := hidn B3
  have C := hidn (Below.refl w3.heap.size w3)
  have P := hidn (And.intro p0 (And.intro p1 (And.intro p2 p3)))
  clear B3 p0 p1 p2 p3 K10 K9 hnx hx0 hx1
  have la := dec_le a
  have lb := dec_le b
  have lc := dec_le c
  have ld := dec_le d
  have ln := dec_le n
  have s1 : ¬ 9223372036854775807 < (dec a).length + 1 := by omega
  have s2 : ¬ 9223372036854775807 < (dec a).length + 1 + (dec b).length := by omega
  have s3 : ¬ 9223372036854775807 < (dec a).length + 1 + (dec b).length + 1 := by omega
  have s4 : ¬ 9223372036854775807 < (dec a).length + 1 + (dec b).length + 1 + (dec c).length := by omega
  have s5 : ¬ 9223372036854775807 < (dec a).length + 1 + (dec b).length + 1 + (dec c).length + 1 := by omega
  have s6 : ¬ 9223372036854775807 < (dec a).length + 1 + (dec b).length + 1 + (dec c).length + 1 + (dec d).length := by omega
  have s7 : ¬ 9223372036854775807 < (dec a).length + 1 + (dec b).length + 1 + (dec c).length + 1 + (dec d).length + 1 := by omega
  have s8 : ¬ 9223372036854775807 < (dec a).length + 1 + (dec b).length + 1 + (dec c).length + 1 + (dec d).length + 1 + (dec n).length := by omega
  clear la lb lc ld ln
  by_cases h32 : n = 32
  · have hne : (n != 32) = false := by simp [h32]
    have ew : wrote a b c d n = quad a b c d := if_pos h32
    have H32 := hidn h32
    clear h32
    go_upto_region 6 with (go_at_call 11; refine (cdec _ ?_ _).mono ?_; (constructor <;> omega); rintro e y ⟨rfl, b0⟩; replace C := hidn (C.out.trans (b0.mono C.out.size)); clear b0)
    rw [mk4, ← ew]
    clear s1 s2 s3 s4 s5 s6 s7 s8 ew hne
    obtain ⟨p0, p1, p2, p3⟩ := P.out
    have q0 := (C.out.cell (p := ⟨w2.heap.size, 0, none⟩) hP).trans p0
    have q1 := (C.out.cell (p := ⟨w2.heap.size, 1, none⟩) hP).trans p1
    have q2 := (C.out.cell (p := ⟨w2.heap.size, 2, none⟩) hP).trans p2
    have q3 := (C.out.cell (p := ⟨w2.heap.size, 3, none⟩) hP).trans p3
    have BY := hidn (HB3.out.trans (C.out.mono HB3.out.size))
    clear P p0 p1 p2 p3 C HB3
    go_wp2_with (go_at_call 12; refine (K12.out _ BY.out).mono ?_; rintro e v ⟨rfl, b5⟩)
    go_ret
    exact ⟨rfl, BY.out.trans (b5.mono BY.out.size)⟩
  · have hne : (n != 32) = true := by simp [h32]
    have ew : wrote a b c d n = slashed a b c d n := if_neg h32
    have H32 := hidn h32
    clear h32
    go_upto_region 6 with (go_at_call 11; refine (cdec _ ?_ _).mono ?_; (constructor <;> omega); rintro e y ⟨rfl, b0⟩; replace C := hidn (C.out.trans (b0.mono C.out.size)); clear b0)
    rw [mk4, mk5, ← ew]
    clear s1 s2 s3 s4 s5 s6 s7 s8 ew hne
    obtain ⟨p0, p1, p2, p3⟩ := P.out
    have q0 := (C.out.cell (p := ⟨w2.heap.size, 0, none⟩) hP).trans p0
    have q1 := (C.out.cell (p := ⟨w2.heap.size, 1, none⟩) hP).trans p1
    have q2 := (C.out.cell (p := ⟨w2.heap.size, 2, none⟩) hP).trans p2
    have q3 := (C.out.cell (p := ⟨w2.heap.size, 3, none⟩) hP).trans p3
    have BY := hidn (HB3.out.trans (C.out.mono HB3.out.size))
    clear P p0 p1 p2 p3 C HB3
    go_wp2_with (go_at_call 12; refine (K12.out _ BY.out).mono ?_; rintro e v ⟨rfl, b5⟩)
    go_ret
    exact ⟨rfl, BY.out.trans (b5.mono BY.out.size)⟩

end Go.Proofs.YbulkcmekDoor
