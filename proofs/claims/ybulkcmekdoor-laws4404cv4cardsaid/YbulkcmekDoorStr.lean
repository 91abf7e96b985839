import Derived.Test.YbulkcmekDoorApp
import Derived.Deep.DeepCutAuto
namespace Go.Proofs.YbulkcmekDoor
open Go.RowKit

def quad (a b c d : Int) : List UInt8 := dec a ++ [46] ++ dec b ++ [46] ++ dec c ++ [46] ++ dec d

theorem buf_parts {w : World} {M cap : Nat} {T : List UInt8} (h : Buf w M cap T) (hr : T.length + 1 ≤ cap) : (∃ v, w.cell? ⟨M, T.length, none⟩ = some v) ∧ w.frozen? ⟨M, T.length, none⟩ = false ∧ M < w.heap.size := by
  obtain ⟨f, r, _⟩ := h
  exact ⟨⟨_, r.cell (by omega)⟩, r.frozen _, r.lt⟩

theorem n46 : ((46 : UInt8).toNat : Int) = 46 := by decide
theorem Buf.dot {w : World} {M cap : Nat} {T : List UInt8} (h : Buf w M cap T) (o : Obj) : Buf ((w.setCell ⟨M, T.length, none⟩ (.int .u8 46)).alloc o) M cap (T ++ [46]) := by
  have := (h.put 46).alloc o
  rwa [n46] at this

/-- The boxed address at X, three cells. -/
def Box (w : World) (X : Nat) (h l : Int) (z : Option Addr) : Prop := w.cell? ⟨X, 0, none⟩ = some (.int .u64 h) ∧ w.cell? ⟨X, 1, none⟩ = some (.int .u64 l) ∧ w.cell? ⟨X, 2, none⟩ = some (.pointer z)

theorem Box.keep {M X : Nat} {w w' : World} {h l : Int} {z : Option Addr} (b : Box w X h l z) (k : Keep M w w') (hX : X ≠ M) : Box w' X h l z := by
  have hl : X < w.heap.size := cell_lt' (p := ⟨X, 0, none⟩) (by rw [b.1]; rfl)
  have e := k.block X hl hX
  exact ⟨(World.cell?_of_block (w := w) (w' := w') (a := ⟨X, 0, none⟩) e).trans b.1, (World.cell?_of_block (w := w) (w' := w') (a := ⟨X, 1, none⟩) e).trans b.2.1, (World.cell?_of_block (w := w) (w' := w') (a := ⟨X, 2, none⟩) e).trans b.2.2⟩

theorem quad_le (a b c d : Int) : (quad a b c d).length ≤ 15 := by
  have h1 := dec_le a
  have h2 := dec_le b
  have h3 := dec_le c
  have h4 := dec_le d
  simp [quad]
  omega

set_option maxHeartbeats 2000000 in
set_option maxRecDepth 100000 in
theorem appTo4 (h l a b c d : Int) (ha : 0 ≤ a ∧ a ≤ 255) (hb : 0 ≤ b ∧ b ≤ 255) (hc : 0 ≤ c ∧ c ≤ 255) (hd : 0 ≤ d ∧ d ≤ 255) (z : Option Addr) (hl : l = 281470681743360 + (a * 16777216 + b * 65536 + c * 256 + d)) (M cap : Nat) (w : World) (hB : Buf w M cap []) (hroom : 15 ≤ cap) :
    Calls Ybad.prog 29 #[.agg #[.int .u64 h, .int .u64 l, .pointer z], .slice (some ⟨M, 0, none⟩) 0 cap] w fun e w' => e = .returned (.slice (some ⟨M, 0, none⟩) (quad a b c d).length cap) ∧ Buf w' M cap (quad a b c d) ∧ Keep M w w' := by
  obtain ⟨_, _, hM⟩ := buf_parts hB (by simp; omega)
  have la := dec_le a
  have lb := dec_le b
  have lc := dec_le c
  have ld := dec_le d
  have HL := hidn hl
  have A0 := hidn (v4_0 h a b c d z · l ha hb hc hd hl)
  have A1 := hidn (v4_1 h a b c d z · l hb hc hd hl)
  have A2 := hidn (v4_2 h a b c d z · l hc hd hl)
  have A3 := hidn (v4_3 h a b c d z · l hd hl)
  clear hl
  have X0 : Box (w.alloc (.cells #[.int .u64 h, .int .u64 l, .pointer z] 33)) w.heap.size h l z := ⟨by go_simp, by go_simp, by go_simp⟩
  have B0 := hB.alloc (.cells #[.int .u64 h, .int .u64 l, .pointer z] 33)
  have K0 := (Keep.refl M w).alloc hM (.cells #[.int .u64 h, .int .u64 l, .pointer z] 33)
  have hX : w.heap.size ≠ M := by omega
  go_enter Ybad.func29, Ybad.ntmps29
  go_upto_region 1 with fail
  generalize w.alloc (.cells #[.int .u64 h, .int .u64 l, .pointer z] 33) = w0 at X0 B0 K0 ⊢
  obtain ⟨x0, x1, x2⟩ := id X0
  have HX0 := hidn X0
  have HB0 := hidn B0
  have HK0 := hidn K0
  clear X0 B0 K0 hB
  go_upto_region 2 with (first
    | (go_at_call 35; refine (A0.out _).mono ?_; rintro e w1 ⟨rfl, b1⟩; have B1 := hidn (HB0.out.below b1); have K1 := hidn (Keep.of_below (M := M) b1 (by have := HK0.out.size; omega)))
    | (go_at_call 34; refine (appDec M cap [] a ⟨ha.1, by omega⟩ _ B1.out (by simp; omega)).mono ?_; rintro e w2 ⟨rfl, B2, K2⟩))
  have HK2 := hidn ((HK0.out.trans K1.out).trans K2)
  have HX2 := hidn ((HX0.out.keep K1.out hX).keep K2 hX)
  simp only [List.nil_append] at B2
  generalize hT2 : dec a = T2 at B2 la ⊢
  have E2 := hidn hT2
  obtain ⟨⟨u2, c2⟩, f2, m2⟩ := buf_parts B2 (by omega)
  have r2 : T2.length + 1 ≤ cap := by omega
  have HB2 := hidn B2
  clear hT2 B2 B1 K1 K2 x0 x1 x2 A0 HX0 HB0 HK0
  go_upto_region 3 with fail
  have B3 := HB2.out.dot (.cells #[.int .u8 46] 5)
  have K3 := ((Keep.refl M w2).set T2.length (.int .u8 46)).alloc m2 (.cells #[.int .u8 46] 5)
  generalize (w2.setCell ⟨M, T2.length, none⟩ (.int .u8 46)).alloc (.cells #[.int .u8 46] 5) = w3 at B3 K3 ⊢
  have hn3 : T2.length + 1 = (T2 ++ [46]).length := by simp
  have ln3 : (T2 ++ [46]).length = T2.length + 1 := by simp
  rw [hn3]
  generalize hT3 : T2 ++ [46] = T3 at B3 ln3 ⊢
  have E3 := hidn hT3
  have HX3 := hidn (HX2.out.keep K3 hX)
  have HK3 := hidn (HK2.out.trans K3)
  have HB3 := hidn B3
  obtain ⟨x0, x1, x2⟩ := id HX3.out
  have lt3 : T3.length ≤ 4 := by omega
  clear ln3 hn3 hT3 B3 K3 c2 f2 m2 r2 HX2 HB2 HK2
  go_upto_region 4 with (first
    | (go_at_call 35; refine (A1.out _).mono ?_; rintro e y4 ⟨rfl, b4⟩; have C4 := hidn (HB3.out.below b4); have L4 := hidn (Keep.of_below (M := M) b4 (by have := HK3.out.size; omega)))
    | (go_at_call 34; refine (appDec M cap T3 b ⟨hb.1, by omega⟩ _ C4.out (by omega)).mono ?_; rintro e w4 ⟨rfl, B4, K4⟩))
  have HK4 := hidn ((HK3.out.trans L4.out).trans K4)
  have HX4 := hidn ((HX3.out.keep L4.out hX).keep K4 hX)
  have lp4 : T3.length + (dec b).length = (T3 ++ dec b).length := by simp
  have lq4 : (T3 ++ dec b).length = T3.length + (dec b).length := by simp
  rw [lp4]
  clear lp4
  generalize hT4 : T3 ++ dec b = T4 at B4 lq4 ⊢
  have E4 := hidn hT4
  have r4 : T4.length + 1 ≤ cap := by omega
  have lt4 : T4.length ≤ 7 := by omega
  obtain ⟨⟨u4, c4⟩, f4, m4⟩ := buf_parts B4 r4
  have HB4 := hidn B4
  clear lq4 hT4 B4 C4 K4 L4 x0 x1 x2 A1 HX3 HB3 HK3
  go_upto_region 5 with fail
  have B5 := HB4.out.dot (.cells #[.int .u8 46] 5)
  have K5 := ((Keep.refl M w4).set T4.length (.int .u8 46)).alloc m4 (.cells #[.int .u8 46] 5)
  generalize (w4.setCell ⟨M, T4.length, none⟩ (.int .u8 46)).alloc (.cells #[.int .u8 46] 5) = w5 at B5 K5 ⊢
  have hn5 : T4.length + 1 = (T4 ++ [46]).length := by simp
  have ln5 : (T4 ++ [46]).length = T4.length + 1 := by simp
  rw [hn5]
  generalize hT5 : T4 ++ [46] = T5 at B5 ln5 ⊢
  have E5 := hidn hT5
  have HX5 := hidn (HX4.out.keep K5 hX)
  have HK5 := hidn (HK4.out.trans K5)
  have HB5 := hidn B5
  obtain ⟨x0, x1, x2⟩ := id HX5.out
  have lt5 : T5.length ≤ 8 := by omega
  clear ln5 hn5 hT5 B5 K5 c4 f4 m4 r4 HX4 HB4 HK4
  go_upto_region 6 with (first
    | (go_at_call 35; refine (A2.out _).mono ?_; rintro e y6 ⟨rfl, b6⟩; have C6 := hidn (HB5.out.below b6); have L6 := hidn (Keep.of_below (M := M) b6 (by have := HK5.out.size; omega)))
    | (go_at_call 34; refine (appDec M cap T5 c ⟨hc.1, by omega⟩ _ C6.out (by omega)).mono ?_; rintro e w6 ⟨rfl, B6, K6⟩))
  have HK6 := hidn ((HK5.out.trans L6.out).trans K6)
  have HX6 := hidn ((HX5.out.keep L6.out hX).keep K6 hX)
  have lp6 : T5.length + (dec c).length = (T5 ++ dec c).length := by simp
  have lq6 : (T5 ++ dec c).length = T5.length + (dec c).length := by simp
  rw [lp6]
  clear lp6
  generalize hT6 : T5 ++ dec c = T6 at B6 lq6 ⊢
  have E6 := hidn hT6
  have r6 : T6.length + 1 ≤ cap := by omega
  have lt6 : T6.length ≤ 11 := by omega
  obtain ⟨⟨u6, c6⟩, f6, m6⟩ := buf_parts B6 r6
  have HB6 := hidn B6
  clear lq6 hT6 B6 C6 K6 L6 x0 x1 x2 A2 HX5 HB5 HK5
  go_upto_region 7 with fail
  have B7 := HB6.out.dot (.cells #[.int .u8 46] 5)
  have K7 := ((Keep.refl M w6).set T6.length (.int .u8 46)).alloc m6 (.cells #[.int .u8 46] 5)
  generalize (w6.setCell ⟨M, T6.length, none⟩ (.int .u8 46)).alloc (.cells #[.int .u8 46] 5) = w7 at B7 K7 ⊢
  have hn7 : T6.length + 1 = (T6 ++ [46]).length := by simp
  have ln7 : (T6 ++ [46]).length = T6.length + 1 := by simp
  rw [hn7]
  generalize hT7 : T6 ++ [46] = T7 at B7 ln7 ⊢
  have E7 := hidn hT7
  have HX7 := hidn (HX6.out.keep K7 hX)
  have HK7 := hidn (HK6.out.trans K7)
  have HB7 := hidn B7
  obtain ⟨x0, x1, x2⟩ := id HX7.out
  have lt7 : T7.length ≤ 12 := by omega
  clear ln7 hn7 hT7 B7 K7 c6 f6 m6 r6 HX6 HB6 HK6
  go_upto_region 8 with (first
    | (go_at_call 35; refine (A3.out _).mono ?_; rintro e y8 ⟨rfl, b8⟩; have C8 := hidn (HB7.out.below b8); have L8 := hidn (Keep.of_below (M := M) b8 (by have := HK7.out.size; omega)))
    | (go_at_call 34; refine (appDec M cap T7 d ⟨hd.1, by omega⟩ _ C8.out (by omega)).mono ?_; rintro e w8 ⟨rfl, B8, K8⟩))
  go_wp2
  go_ret
  have e : T7 ++ dec d = quad a b c d := by
    unfold quad
    rw [← E7.out, ← E6.out, ← E5.out, ← E4.out, ← E3.out, ← E2.out]
  rw [e] at B8
  refine ⟨?_, B8, (HK7.out.trans L8.out).trans K8⟩
  rw [← e, List.length_append]
  rfl

end Go.Proofs.YbulkcmekDoor
