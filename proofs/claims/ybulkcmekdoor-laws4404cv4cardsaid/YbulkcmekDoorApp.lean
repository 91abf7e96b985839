import Derived.Test.YbulkcmekDoorDec
namespace Go.Proofs.YbulkcmekDoor
open Go.RowKit

/-- The buffer at M holds the bytes T. -/
def Buf (w : World) (M cap : Nat) (T : List UInt8) : Prop := ∃ f, w.rowIs M 5 cap f ∧ ∀ i (hi : i < T.length), f i = .int .u8 (T[i].toNat : Int)

theorem Buf.below {w w' : World} {M cap : Nat} {T : List UInt8} (h : Buf w M cap T) (b : Below w.heap.size w w') : Buf w' M cap T := by
  obtain ⟨f, hr, hT⟩ := h
  exact ⟨f, hr.of_block (b.block _ hr.lt), hT⟩

theorem Buf.put {w : World} {M cap : Nat} {T : List UInt8} (h : Buf w M cap T) (x : UInt8) : Buf (w.setCell ⟨M, T.length, none⟩ (.int .u8 (x.toNat : Int))) M cap (T ++ [x]) := by
  obtain ⟨f, hr, hT⟩ := h
  refine ⟨_, hr.set T.length _, fun i hi => ?_⟩
  simp at hi
  by_cases h1 : i = T.length
  · subst h1; simp
  · have h2 : i < T.length := by omega
    simp [h1, List.getElem_append_left h2, hT i h2]

theorem Buf.alloc {w : World} {M cap : Nat} {T : List UInt8} (h : Buf w M cap T) (o : Obj) : Buf (w.alloc o) M cap T := by
  obtain ⟨f, hr, hT⟩ := h
  exact ⟨f, hr.alloc o, hT⟩

/-- Only the block M may have turned. -/
structure Keep (M : Nat) (w w' : World) : Prop where
  below : Below M w w'
  size : w.heap.size ≤ w'.heap.size
  block : ∀ k, k < w.heap.size → k ≠ M → w'.heap[k]? = w.heap[k]?

theorem Keep.refl (M : Nat) (w : World) : Keep M w w := ⟨Below.refl _ _, Nat.le_refl _, fun _ _ _ => rfl⟩
theorem Keep.trans {M : Nat} {w w1 w2 : World} (h : Keep M w w1) (k : Keep M w1 w2) : Keep M w w2 := ⟨h.below.trans k.below, Nat.le_trans h.size k.size, fun j hj hn => (k.block j (Nat.lt_of_lt_of_le hj h.size) hn).trans (h.block j hj hn)⟩
theorem Keep.set {M : Nat} {w w1 : World} (h : Keep M w w1) (o : Nat) (v : Value) : Keep M w (w1.setCell ⟨M, o, none⟩ v) :=
  ⟨h.below.setCell (show M ≤ (⟨M, o, none⟩ : Addr).block from Nat.le_refl _) v, by simpa using h.size, fun j hj hn => (Below.heap_setCell w1 ⟨M, o, none⟩ v j hn).trans (h.block j hj hn)⟩
theorem Keep.alloc {M : Nat} {w w1 : World} (h : Keep M w w1) (hM : M < w.heap.size) (o : Obj) : Keep M w (w1.alloc o) :=
  ⟨h.below.alloc (Nat.le_trans (Nat.le_of_lt hM) h.size) o, by simp; have := h.size; omega, fun j hj hn => (Below.heap_alloc w1 o j (Nat.lt_of_lt_of_le hj h.size)).trans (h.block j hj hn)⟩
theorem Keep.of_below {M : Nat} {w w1 : World} (h : Below w.heap.size w w1) (hM : M < w.heap.size) : Keep M w w1 := ⟨h.mono (Nat.le_of_lt hM), h.size, fun j hj _ => h.block j hj⟩

theorem Buf.putAt {w : World} {M cap k : Nat} {T : List UInt8} (h : Buf w M cap T) (x : UInt8) (hk : k = T.length) : Buf (w.setCell ⟨M, k, none⟩ (.int .u8 (x.toNat : Int))) M cap (T ++ [x]) := hk ▸ h.put x

section
variable (h a b c d : Int) (z : Option Addr) (w : World) (l : Int)
theorem v4_0 (ha : 0 ≤ a ∧ a ≤ 255) (hb : 0 ≤ b ∧ b ≤ 255) (hc : 0 ≤ c ∧ c ≤ 255) (hd : 0 ≤ d ∧ d ≤ 255) (hl : l = 281470681743360 + (a * 16777216 + b * 65536 + c * 256 + d)) : Calls Ybad.prog 35 #[.agg #[.int .u64 h, .int .u64 l, .pointer z], .int .u8 0] w fun e w' => e = .returned (.int .u8 a) ∧ Below w.heap.size w w' := by
  have e1 : l / 16777216 % 256 = a := by omega
  clear hl
  go_enter Ybad.func35, Ybad.ntmps35
  go_wp2
  go_ret
  exact ⟨congrArg (fun x => Ending.returned (.int .u8 x)) e1, (Below.refl _ _).alloc (Nat.le_refl _) _⟩
theorem v4_1 (hb : 0 ≤ b ∧ b ≤ 255) (hc : 0 ≤ c ∧ c ≤ 255) (hd : 0 ≤ d ∧ d ≤ 255) (hl : l = 281470681743360 + (a * 16777216 + b * 65536 + c * 256 + d)) : Calls Ybad.prog 35 #[.agg #[.int .u64 h, .int .u64 l, .pointer z], .int .u8 1] w fun e w' => e = .returned (.int .u8 b) ∧ Below w.heap.size w w' := by
  have e1 : l / 65536 % 256 = b := by omega
  clear hl
  go_enter Ybad.func35, Ybad.ntmps35
  go_wp2
  go_ret
  exact ⟨congrArg (fun x => Ending.returned (.int .u8 x)) e1, (Below.refl _ _).alloc (Nat.le_refl _) _⟩
theorem v4_2 (hc : 0 ≤ c ∧ c ≤ 255) (hd : 0 ≤ d ∧ d ≤ 255) (hl : l = 281470681743360 + (a * 16777216 + b * 65536 + c * 256 + d)) : Calls Ybad.prog 35 #[.agg #[.int .u64 h, .int .u64 l, .pointer z], .int .u8 2] w fun e w' => e = .returned (.int .u8 c) ∧ Below w.heap.size w w' := by
  have e1 : l / 256 % 256 = c := by omega
  clear hl
  go_enter Ybad.func35, Ybad.ntmps35
  go_wp2
  go_ret
  exact ⟨congrArg (fun x => Ending.returned (.int .u8 x)) e1, (Below.refl _ _).alloc (Nat.le_refl _) _⟩
theorem v4_3 (hd : 0 ≤ d ∧ d ≤ 255) (hl : l = 281470681743360 + (a * 16777216 + b * 65536 + c * 256 + d)) : Calls Ybad.prog 35 #[.agg #[.int .u64 h, .int .u64 l, .pointer z], .int .u8 3] w fun e w' => e = .returned (.int .u8 d) ∧ Below w.heap.size w w' := by
  have e1 : l % 256 = d := by omega
  clear hl
  go_enter Ybad.func35, Ybad.ntmps35
  go_wp2
  go_ret
  exact ⟨congrArg (fun x => Ending.returned (.int .u8 x)) e1, (Below.refl _ _).alloc (Nat.le_refl _) _⟩
end

set_option maxHeartbeats 1000000 in
theorem appDec3 (M cap : Nat) (T : List UInt8) (v : Int) (hv : 100 ≤ v ∧ v < 256) (w : World) (hB : Buf w M cap T) (hroom : T.length + 3 ≤ cap) :
    Calls Ybad.prog 34 #[.slice (some ⟨M, 0, none⟩) T.length cap, .int .u8 v] w fun e w' => e = .returned (.slice (some ⟨M, 0, none⟩) (T.length + 3) cap) ∧ Buf w' M cap (T ++ dec v) ∧ Keep M w w' := by
  have e0 : dec v = [dgt (v / 100), dgt (v / 10 % 10), dgt (v % 10)] := by unfold dec; rw [if_pos (by omega)]
  have h1 := idx16 (v / 100) (by omega) (by omega)
  have h3 := idx16 (v / 10 % 10) (by omega) (by omega)
  have h5 := idx16 (v % 10) (by omega) (by omega)
  have g1 : (100 : Int) ≤ v := hv.1
  have g2 : (10 : Int) ≤ v := by omega
  obtain ⟨f, hr, hT⟩ := id hB
  have c0 : w.cell? ⟨M, T.length, none⟩ = some (f T.length) := hr.cell (by omega)
  have c1 : w.cell? ⟨M, T.length + 1, none⟩ = some (f (T.length + 1)) := hr.cell (by omega)
  have c2 : w.cell? ⟨M, T.length + 2, none⟩ = some (f (T.length + 2)) := hr.cell (by omega)
  have f0 := hr.frozen T.length
  have f1 := hr.frozen (T.length + 1)
  have f2 := hr.frozen (T.length + 2)
  have hl := hr.lt
  have r1 : T.length + 1 ≤ cap := by omega
  have r2 : T.length + 1 + 1 ≤ cap := by omega
  have r3 : T.length + 1 + 1 + 1 ≤ cap := by omega
  have l1 : M < w.heap.size + 1 := by omega
  have l2 : M < w.heap.size + 1 + 1 := by omega
  have HB := hidn hB
  clear hB hr hT
  generalize hn : T.length = n at c0 c1 c2 f0 f1 f2 r1 r2 r3
  go_enter Ybad.func34, Ybad.ntmps34
  go_wp2
  go_ret
  refine ⟨rfl, ?_, ?_⟩
  · try rw [e0]
    have h9 := ((((((HB.out.putAt (dgt (v / 100)) hn.symm).putAt (dgt (v / 10 % 10)) (k := n + 1) (by simp; omega)).putAt (dgt (v % 10)) (k := n + 1 + 1) (by simp; omega)).alloc (.cells #[.int .u8 ((dgt (v / 100)).toNat : Int)] 5)).alloc (.cells #[.int .u8 ((dgt (v / 10 % 10)).toNat : Int)] 5)).alloc (.cells #[.int .u8 ((dgt (v % 10)).toNat : Int)] 5))
    simpa using h9
  · exact ((((((Keep.refl M w).set _ _).set _ _).set _ _).alloc hl _).alloc hl _).alloc hl _

set_option maxHeartbeats 1000000 in
theorem appDec2 (M cap : Nat) (T : List UInt8) (v : Int) (hv : 10 ≤ v ∧ v < 100) (w : World) (hB : Buf w M cap T) (hroom : T.length + 2 ≤ cap) :
    Calls Ybad.prog 34 #[.slice (some ⟨M, 0, none⟩) T.length cap, .int .u8 v] w fun e w' => e = .returned (.slice (some ⟨M, 0, none⟩) (T.length + 2) cap) ∧ Buf w' M cap (T ++ dec v) ∧ Keep M w w' := by
  have e0 : dec v = [dgt (v / 10), dgt (v % 10)] := by unfold dec; rw [if_neg (by omega), if_pos (by omega)]
  have h3 := idx16 (v / 10 % 10) (by omega) (by omega)
  have h5 := idx16 (v % 10) (by omega) (by omega)
  have e1 : v / 10 % 10 = v / 10 := by omega
  have g1 : ¬ (100 : Int) ≤ v := by omega
  have g2 : (10 : Int) ≤ v := by omega
  obtain ⟨f, hr, hT⟩ := id hB
  have c0 : w.cell? ⟨M, T.length, none⟩ = some (f T.length) := hr.cell (by omega)
  have c1 : w.cell? ⟨M, T.length + 1, none⟩ = some (f (T.length + 1)) := hr.cell (by omega)
  have f0 := hr.frozen T.length
  have f1 := hr.frozen (T.length + 1)
  have hl := hr.lt
  have r1 : T.length + 1 ≤ cap := by omega
  have r2 : T.length + 1 + 1 ≤ cap := by omega
  have l1 : M < w.heap.size + 1 := by omega
  have HB := hidn hB
  rw [e1] at h3
  have E1 := hidn e1
  clear hB hr hT
  generalize hn : T.length = n at c0 c1 f0 f1 r1 r2
  go_enter Ybad.func34, Ybad.ntmps34
  go_wp2
  go_ret
  refine ⟨rfl, ?_, ?_⟩
  · try rw [e0]
    have h9 := ((((HB.out.putAt (dgt (v / 10)) hn.symm).putAt (dgt (v % 10)) (k := n + 1) (by simp; omega)).alloc (.cells #[.int .u8 ((dgt (v / 10)).toNat : Int)] 5)).alloc (.cells #[.int .u8 ((dgt (v % 10)).toNat : Int)] 5))
    simpa using h9
  · exact ((((Keep.refl M w).set _ _).set _ _).alloc hl _).alloc hl _

set_option maxHeartbeats 1000000 in
theorem appDec1 (M cap : Nat) (T : List UInt8) (v : Int) (hv : 0 ≤ v ∧ v < 10) (w : World) (hB : Buf w M cap T) (hroom : T.length + 1 ≤ cap) :
    Calls Ybad.prog 34 #[.slice (some ⟨M, 0, none⟩) T.length cap, .int .u8 v] w fun e w' => e = .returned (.slice (some ⟨M, 0, none⟩) (T.length + 1) cap) ∧ Buf w' M cap (T ++ dec v) ∧ Keep M w w' := by
  have e0 : dec v = [dgt (v % 10)] := by unfold dec; rw [if_neg (by omega), if_neg (by omega)]
  have h5 := idx16 (v % 10) (by omega) (by omega)
  have g1 : ¬ (100 : Int) ≤ v := by omega
  have g2 : ¬ (10 : Int) ≤ v := by omega
  obtain ⟨f, hr, hT⟩ := id hB
  have c0 : w.cell? ⟨M, T.length, none⟩ = some (f T.length) := hr.cell (by omega)
  have f0 := hr.frozen T.length
  have hl := hr.lt
  have r1 : T.length + 1 ≤ cap := by omega
  have HB := hidn hB
  clear hB hr hT
  generalize hn : T.length = n at c0 f0 r1
  go_enter Ybad.func34, Ybad.ntmps34
  go_wp2
  go_ret
  refine ⟨rfl, ?_, ?_⟩
  · try rw [e0]
    exact (HB.out.putAt (dgt (v % 10)) hn.symm).alloc (.cells #[.int .u8 ((dgt (v % 10)).toNat : Int)] 5)
  · exact ((Keep.refl M w).set _ _).alloc hl _

theorem dec_len (v : Int) : (dec v).length = if 100 ≤ v then 3 else if 10 ≤ v then 2 else 1 := by
  unfold dec
  by_cases h1 : 100 ≤ v
  · rw [if_pos h1, if_pos h1]; rfl
  · by_cases h2 : 10 ≤ v
    · rw [if_neg h1, if_pos h2, if_neg h1, if_pos h2]; rfl
    · rw [if_neg h1, if_neg h2, if_neg h1, if_neg h2]; rfl
theorem dec_le (v : Int) : (dec v).length ≤ 3 := by
  rw [dec_len v]
  split
  · exact Nat.le_refl _
  · split <;> decide

theorem appDec (M cap : Nat) (T : List UInt8) (v : Int) (hv : 0 ≤ v ∧ v < 256) (w : World) (hB : Buf w M cap T) (hroom : T.length + (dec v).length ≤ cap) :
    Calls Ybad.prog 34 #[.slice (some ⟨M, 0, none⟩) T.length cap, .int .u8 v] w fun e w' => e = .returned (.slice (some ⟨M, 0, none⟩) (T ++ dec v).length cap) ∧ Buf w' M cap (T ++ dec v) ∧ Keep M w w' := by
  rw [dec_len v] at hroom
  rw [List.length_append, dec_len v]
  by_cases h1 : 100 ≤ v
  · rw [if_pos h1] at hroom ⊢; exact appDec3 M cap T v ⟨h1, hv.2⟩ w hB hroom
  · by_cases h2 : 10 ≤ v
    · rw [if_neg h1, if_pos h2] at hroom ⊢; exact appDec2 M cap T v ⟨h2, by omega⟩ w hB hroom
    · rw [if_neg h1, if_neg h2] at hroom ⊢; exact appDec1 M cap T v ⟨hv.1, by omega⟩ w hB hroom

end Go.Proofs.YbulkcmekDoor
