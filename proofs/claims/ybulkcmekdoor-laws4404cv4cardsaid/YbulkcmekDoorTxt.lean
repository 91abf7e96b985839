import Derived.Test.YbulkcmekDoorStr
namespace Go.Proofs.YbulkcmekDoor
open Go.RowKit

theorem info5n : (Ybad.prog.info? 5).map (fun i => (i.zero, i.size, i.bytes)) = some (some (.int .u8 0), 1, 1) := by kernel_rfl

/-- make([]byte, 0, C). -/
theorem make0 (C : Nat) (hC : C ≤ 100) (w : World) : (Instr.makeSlice 22 (.int .i64 0) (.int .i64 (C : Int))).run Ybad.prog w = .ok (.slice (some ⟨w.heap.size, 0, none⟩) 0 C) (w.alloc (.cells (madeCells #[.int .u8 0] C) 5)) := by
  obtain ⟨i, hi, hzz⟩ := Option.map_eq_some_iff.1 info5n
  simp only [Prod.mk.injEq] at hzz
  obtain ⟨hz, hs, hb⟩ := hzz
  have hr := run_make (P := Ybad.prog) w 22 5 i (.int .u8 0) Ybad.underlying22 hi hz .i64 .i64 0 C (by omega) (by omega) (by rw [hb]; omega) (by omega)
  simp only [Int.toNat_natCast, hs, Nat.mul_one] at hr
  exact hr

theorem made_buf (w : World) (C : Nat) : Buf (w.alloc (.cells (madeCells #[.int .u8 0] C) 5)) w.heap.size C [] := ⟨_, World.rowIs_made w (.int .u8 0) C 5, fun i hi => absurd hi (by simp)⟩

/-- string(b), b the buffer. -/
theorem conv_buf {w : World} {M cap : Nat} {T : List UInt8} (h : Buf w M cap T) (hle : T.length ≤ cap) : (convert 22 9 (.slice (some ⟨M, 0, none⟩) T.length cap)).run Ybad.prog w = .ok (.string ⟨T.toArray⟩) w := by
  obtain ⟨f, hr, hT⟩ := h
  refine run_convert_bytes_back _ 22 9 5 _ _ T Ybad.underlying22 Ybad.underlying5 Ybad.underlying9 fun j hj => ?_
  rw [Addr.add_mid, Nat.zero_add, hr.cell (by omega), hT j hj]

theorem addrValid (h l : Int) (a : Addr) (w : World) (h0 : w.cell? ⟨2, 0, none⟩ = some (.pointer none)) (hs : 2 < w.heap.size) :
    Calls Ybad.prog 28 #[.agg #[.int .u64 h, .int .u64 l, .pointer (some a)]] w fun e w' => e = .returned (.bool true) ∧ Below w.heap.size w w' := by
  have e1 := ptr_sn a
  go_enter Ybad.func28, Ybad.ntmps28
  go_wp2
  go_ret
  exact ⟨rfl, (Below.refl _ _).alloc (Nat.le_refl _) _⟩

set_option maxHeartbeats 1000000 in
set_option maxRecDepth 100000 in
theorem addrString (a b c d : Int) (z : Addr) (w : World) (ha : 0 ≤ a ∧ a ≤ 255) (hb : 0 ≤ b ∧ b ≤ 255) (hc : 0 ≤ c ∧ c ≤ 255) (hd : 0 ≤ d ∧ d ≤ 255) (h0 : w.cell? ⟨2, 0, none⟩ = some (.pointer none)) (h4 : w.cell? ⟨1, 0, none⟩ = some (.pointer (some z))) (hs : 2 < w.heap.size) (l : Int) (hl : l = 281470681743360 + (a * 16777216 + b * 65536 + c * 256 + d)) :
    Calls Ybad.prog 22 #[.agg #[.int .u64 0, .int .u64 l, .pointer (some z)]] w fun e w' => e = .returned (.string ⟨(quad a b c d).toArray⟩) ∧ Below w.heap.size w w' := by
  have hs1 : 1 < w.heap.size := by omega
  have e2 := ptr_same z
  have HL := hidn hl
  clear hl
  have hmk : ∀ W : World, (Instr.makeSlice 22 (.int .i64 0) (.int .i64 15)).run Ybad.prog W = .ok (.slice (some ⟨W.heap.size, 0, none⟩) 0 15) (W.alloc (.cells (madeCells #[.int .u8 0] 15) 5)) := make0 15 (by decide)
  have X0 : Box (w.alloc (.cells #[.int .u64 0, .int .u64 l, .pointer (some z)] 33)) w.heap.size 0 l (some z) := ⟨by go_simp, by go_simp, by go_simp⟩
  have W0 := (Below.refl _ w).alloc (Nat.le_refl _) (.cells #[.int .u64 0, .int .u64 l, .pointer (some z)] 33)
  have hX : w.heap.size < (w.alloc (.cells #[.int .u64 0, .int .u64 l, .pointer (some z)] 33)).heap.size := by simp
  go_enter Ybad.func22, Ybad.ntmps22
  go_upto_region 1 with fail
  generalize w.alloc (.cells #[.int .u64 0, .int .u64 l, .pointer (some z)] 33) = w0 at X0 W0 hX ⊢
  have K1 : Hid (Calls Ybad.prog 28 #[.agg #[.int .u64 0, .int .u64 l, .pointer (some z)]] w0 fun e w1 => e = .returned (.bool true) ∧ Hid (Below w.heap.size w w1) ∧ w.heap.size < w1.heap.size ∧ Box w1 w.heap.size 0 l (some z) ∧ w1.cell? ⟨1, 0, none⟩ = some (.pointer (some z))) := by
    refine (addrValid 0 l z w0 ((W0.cell (p := ⟨2, 0, none⟩) hs).trans h0) (Nat.lt_of_lt_of_le hs W0.size)).mono ?_
    rintro e w1 ⟨rfl, b1⟩
    refine ⟨rfl, W0.trans (b1.mono W0.size), Nat.lt_of_lt_of_le hX b1.size, ?_, ?_⟩
    · exact ⟨(b1.cell (p := ⟨w.heap.size, 0, none⟩) hX).trans X0.1, (b1.cell (p := ⟨w.heap.size, 1, none⟩) hX).trans X0.2.1, (b1.cell (p := ⟨w.heap.size, 2, none⟩) hX).trans X0.2.2⟩
    · exact (b1.cell (p := ⟨1, 0, none⟩) (Nat.lt_of_lt_of_le hs1 W0.size)).trans ((W0.cell (p := ⟨1, 0, none⟩) hs1).trans h4)
  obtain ⟨x0, x1, x2⟩ := id X0
  clear X0
  go_upto_region 8 with (go_at_call 28; refine K1.out.mono ?_; rintro e w1 ⟨rfl, B1, hX1, X1, g1⟩; obtain ⟨y0, y1, y2⟩ := X1)
  have K8 := hidn (appTo4 0 l a b c d ha hb hc hd (some z) HL.out w1.heap.size 15 (w1.alloc (.cells (madeCells #[.int .u8 0] 15) 5)) (made_buf w1 15) (by decide))
  have hq := quad_le a b c d
  generalize hq0 : quad a b c d = Tq at K8 hq
  have EQ := hidn hq0
  clear hq0
  go_upto_region 12 with (go_at_call 29; refine K8.out.mono ?_; rintro e w2 ⟨rfl, B2, k2⟩)
  have hcv := conv_buf B2 hq
  have HB := hidn ((B1.out.alloc (Nat.le_of_lt hX1) (.cells (madeCells #[.int .u8 0] 15) 5)).trans (k2.below.mono (Nat.le_of_lt hX1)))
  clear B2 k2
  go_wp2
  go_ret
  rw [EQ.out]
  exact ⟨rfl, HB.out⟩

/-- (Prefix).String of a valid IPv4 prefix. -/
def slashed (a b c d n : Int) : List UInt8 := quad a b c d ++ [47] ++ dec n

theorem n47 : ((47 : UInt8).toNat : Int) = 47 := by decide
theorem Buf.slash {w : World} {M cap : Nat} {T : List UInt8} (h : Buf w M cap T) (o : Obj) : Buf ((w.setCell ⟨M, T.length, none⟩ (.int .u8 47)).alloc o) M cap (T ++ [47]) := by
  have := (h.put 47).alloc o
  rwa [n47] at this

theorem isValid_yes (h l b : Int) (hb : 0 < b) (z : Option Addr) (w : World) :
    Calls Ybad.prog 26 #[.agg #[.int .u64 h, .int .u64 l, .pointer z, .int .u8 b]] w fun e w' => e = .returned (.bool true) ∧ Below w.heap.size w w' :=
  (isValid_any h l b z w).mono fun _ _ ⟨he, hb'⟩ => ⟨by rw [he]; simp [hb], hb'⟩

set_option maxHeartbeats 1000000 in
set_option maxRecDepth 100000 in
theorem prefixString (a b c d n : Int) (z : Addr) (w : World) (ha : 0 ≤ a ∧ a ≤ 255) (hb : 0 ≤ b ∧ b ≤ 255) (hc : 0 ≤ c ∧ c ≤ 255) (hd : 0 ≤ d ∧ d ≤ 255) (hn : 0 ≤ n ∧ n ≤ 32) (h4 : w.cell? ⟨1, 0, none⟩ = some (.pointer (some z))) (hs : 2 < w.heap.size) (l : Int) (hl : l = 281470681743360 + (a * 16777216 + b * 65536 + c * 256 + d)) :
    Calls Ybad.prog 23 #[.agg #[.int .u64 0, .int .u64 l, .pointer (some z), .int .u8 (n + 1)]] w fun e w' => e = .returned (.string ⟨(slashed a b c d n).toArray⟩) ∧ Below w.heap.size w w' := by
  have hs1 : 1 < w.heap.size := by omega
  have e2 := ptr_same z
  have HL := hidn hl
  have HN := hidn hn
  clear hl
  have hmk : ∀ W : World, (Instr.makeSlice 22 (.int .i64 0) (.int .i64 18)).run Ybad.prog W = .ok (.slice (some ⟨W.heap.size, 0, none⟩) 0 18) (W.alloc (.cells (madeCells #[.int .u8 0] 18) 5)) := make0 18 (by decide)
  obtain ⟨p, hp⟩ : ∃ p, p = n + 1 := ⟨_, rfl⟩
  rw [← hp]
  have hp0 : 0 < p := by omega
  have hp1 : p ≤ 33 := by omega
  have HP := hidn hp
  clear hp hn
  have X0 : (Box (w.alloc (.cells #[.int .u64 0, .int .u64 l, .pointer (some z), .int .u8 p] 45)) w.heap.size 0 l (some z)) ∧ (w.alloc (.cells #[.int .u64 0, .int .u64 l, .pointer (some z), .int .u8 p] 45)).cell? ⟨w.heap.size, 3, none⟩ = some (.int .u8 p) := ⟨⟨by go_simp, by go_simp, by go_simp⟩, by go_simp⟩
  have W0 := (Below.refl _ w).alloc (Nat.le_refl _) (.cells #[.int .u64 0, .int .u64 l, .pointer (some z), .int .u8 p] 45)
  have hX : w.heap.size < (w.alloc (.cells #[.int .u64 0, .int .u64 l, .pointer (some z), .int .u8 p] 45)).heap.size := by simp
  go_enter Ybad.func23, Ybad.ntmps23
  go_upto_region 1 with fail
  generalize w.alloc (.cells #[.int .u64 0, .int .u64 l, .pointer (some z), .int .u8 p] 45) = w0 at X0 W0 hX ⊢
  have K1 : Hid (Calls Ybad.prog 26 #[.agg #[.int .u64 0, .int .u64 l, .pointer (some z), .int .u8 p]] w0 fun e w1 => e = .returned (.bool true) ∧ Hid (Below w.heap.size w w1) ∧ w.heap.size < w1.heap.size ∧ Box w1 w.heap.size 0 l (some z) ∧ w1.cell? ⟨1, 0, none⟩ = some (.pointer (some z)) ∧ w1.cell? ⟨w.heap.size, 3, none⟩ = some (.int .u8 p)) := by
    refine (isValid_yes 0 l p hp0 (some z) w0).mono ?_
    rintro e w1 ⟨rfl, b1⟩
    refine ⟨rfl, W0.trans (b1.mono W0.size), Nat.lt_of_lt_of_le hX b1.size, ?_, ?_, ?_⟩
    · exact ⟨(b1.cell (p := ⟨w.heap.size, 0, none⟩) hX).trans X0.1.1, (b1.cell (p := ⟨w.heap.size, 1, none⟩) hX).trans X0.1.2.1, (b1.cell (p := ⟨w.heap.size, 2, none⟩) hX).trans X0.1.2.2⟩
    · exact (b1.cell (p := ⟨1, 0, none⟩) (Nat.lt_of_lt_of_le hs1 W0.size)).trans ((W0.cell (p := ⟨1, 0, none⟩) hs1).trans h4)
    · exact (b1.cell (p := ⟨w.heap.size, 3, none⟩) hX).trans X0.2
  obtain ⟨⟨x0, x1, x2⟩, x3⟩ := id X0
  clear X0
  go_upto_region 8 with (go_at_call 26; refine K1.out.mono ?_; rintro e w1 ⟨rfl, B1, hX1, X1, g1, y3⟩; obtain ⟨y0, y1, y2⟩ := X1)
  have K8 := hidn (appTo4 0 l a b c d ha hb hc hd (some z) HL.out w1.heap.size 18 (w1.alloc (.cells (madeCells #[.int .u8 0] 18) 5)) (made_buf w1 18) (by decide))
  have hq := quad_le a b c d
  generalize hq0 : quad a b c d = Tq at K8 hq
  have EQ := hidn hq0
  clear hq0
  have K8' : Hid (Calls Ybad.prog 29 #[.agg #[.int .u64 0, .int .u64 l, .pointer (some z)], .slice (some ⟨w1.heap.size, 0, none⟩) 0 18] (w1.alloc (.cells (madeCells #[.int .u8 0] 18) 5)) fun e w2 => e = .returned (.slice (some ⟨w1.heap.size, 0, none⟩) Tq.length 18) ∧ Buf w2 w1.heap.size 18 Tq ∧ Hid (Below w.heap.size w w2) ∧ (w2.cell? ⟨w.heap.size, 0, none⟩ = some (.int .u64 0) ∧ w2.cell? ⟨w.heap.size, 1, none⟩ = some (.int .u64 l) ∧ w2.cell? ⟨w.heap.size, 2, none⟩ = some (.pointer (some z)) ∧ w2.cell? ⟨w.heap.size, 3, none⟩ = some (.int .u8 p))) := by
    refine K8.out.mono ?_
    rintro e w2 ⟨he, hB, hK⟩
    have e' := hK.below
    have up : ∀ o v, w1.cell? ⟨w.heap.size, o, none⟩ = some v → w2.cell? ⟨w.heap.size, o, none⟩ = some v := fun o v hv => (e'.cell (p := ⟨w.heap.size, o, none⟩) hX1).trans ((((Below.refl _ w1).alloc (Nat.le_refl _) _).cell (p := ⟨w.heap.size, o, none⟩) hX1).trans hv)
    exact ⟨he, hB, (B1.out.alloc (Nat.le_of_lt hX1) _).trans (e'.mono (Nat.le_of_lt hX1)), up 0 _ y0, up 1 _ y1, up 2 _ y2, up 3 _ y3⟩
  go_upto_region 13 with (go_at_call 29; refine K8'.out.mono ?_; rintro e w2 ⟨rfl, B2, HB2, y0, y1, y2, y3⟩)
  have hM : w.heap.size ≠ w1.heap.size := by omega
  obtain ⟨⟨u2, c2⟩, f2, m2⟩ := buf_parts B2 (by omega)
  have r2 : Tq.length + 1 ≤ 18 := by omega
  have HBf := hidn B2
  clear B2
  go_upto_region 14 with fail
  have B3 := HBf.out.slash (.cells #[.int .u8 47] 5)
  have K3 := ((Keep.refl w1.heap.size w2).set Tq.length (.int .u8 47)).alloc m2 (.cells #[.int .u8 47] 5)
  generalize (w2.setCell ⟨w1.heap.size, Tq.length, none⟩ (.int .u8 47)).alloc (.cells #[.int .u8 47] 5) = w3 at B3 K3 ⊢
  have hn3 : Tq.length + 1 = (Tq ++ [47]).length := by simp
  have ln3 : (Tq ++ [47]).length ≤ 16 := by simp; omega
  rw [hn3]
  generalize hT3 : Tq ++ [47] = T3 at B3 ln3 ⊢
  have E3 := hidn hT3
  have hXl : w.heap.size < w2.heap.size := cell_lt' (p := ⟨w.heap.size, 0, none⟩) (by rw [y0]; rfl)
  have up3 : ∀ o v, w2.cell? ⟨w.heap.size, o, none⟩ = some v → w3.cell? ⟨w.heap.size, o, none⟩ = some v := fun o v hv => (World.cell?_of_block (w := w2) (w' := w3) (a := ⟨w.heap.size, o, none⟩) (K3.block _ hXl hM)).trans hv
  have q0 := up3 0 _ y0
  have q1 := up3 1 _ y1
  have q2 := up3 2 _ y2
  have q3 := up3 3 _ y3
  have HB3 := hidn B3
  have HW3 := hidn (HB2.out.trans (K3.below.mono (Nat.le_of_lt hX1)))
  have hm3 : w1.heap.size < w3.heap.size := Nat.lt_of_lt_of_le m2 K3.size
  have K27 := hidn (bits_any 0 l p ⟨by omega, by omega⟩ (some z) w3)
  have e27 : p - 1 = n := by have := HP.out; omega
  rw [e27] at K27
  have ldn : (dec n).length ≤ 2 := by have h9 := HN.out; rw [dec_len n, if_neg (by omega)]; split <;> decide
  clear up3 hn3 hT3 c2 f2 m2 r2 y0 y1 y2 y3 B3 K3 hXl e27
  have hnn := HN.out
  obtain ⟨hn0, hn32⟩ := hnn
  go_upto_region 15 with (first
    | (go_at_call 27; refine K27.out.mono ?_; rintro e w4 ⟨rfl, b4⟩; have C4 := hidn (HB3.out.below b4); have W4 := hidn (HW3.out.trans (b4.mono HW3.out.size)))
    | (go_at_call 34; refine (appDec w1.heap.size 18 T3 n ⟨by omega, by omega⟩ _ C4.out (by omega)).mono ?_; rintro e w5 ⟨rfl, B5, K5⟩))
  have lp : T3.length + (dec n).length = (T3 ++ dec n).length := by simp
  have lq : (T3 ++ dec n).length ≤ 18 := by simp; omega
  rw [lp]
  have hcv := conv_buf B5 lq
  have ef : T3 ++ dec n = slashed a b c d n := by unfold slashed; rw [← E3.out, EQ.out]
  rw [ef] at hcv ⊢
  have HW := hidn (W4.out.trans (K5.below.mono (Nat.le_of_lt hX1)))
  clear B5 K5
  go_wp2
  go_ret
  exact ⟨rfl, HW.out⟩

end Go.Proofs.YbulkcmekDoor
