import Derived.Test.YbulkcmekDoorNet
import Derived.Laws.IdiomStrings
import Derived.Deep.OwnRows
import Derived.Deep.MidRow
namespace Go.Proofs.YbulkcmekDoor
open Go.RowKit

def dgt (i : Int) : UInt8 := UInt8.ofNat (48 + i.toNat)

/-- A byte's decimal digits. -/
def dec (v : Int) : List UInt8 := if 100 ≤ v then [dgt (v / 100), dgt (v / 10 % 10), dgt (v % 10)] else if 10 ≤ v then [dgt (v / 10), dgt (v % 10)] else [dgt (v % 10)]

abbrev digs10 : ByteArray := ⟨#[48, 49, 50, 51, 52, 53, 54, 55, 56, 57]⟩
abbrev digs16 : ByteArray := ⟨#[48, 49, 50, 51, 52, 53, 54, 55, 56, 57, 97, 98, 99, 100, 101, 102]⟩

theorem ten {i : Int} (h0 : 0 ≤ i) (h1 : i < 10) : i = 0 ∨ i = 1 ∨ i = 2 ∨ i = 3 ∨ i = 4 ∨ i = 5 ∨ i = 6 ∨ i = 7 ∨ i = 8 ∨ i = 9 := by omega

theorem idx10 (i : Int) (h0 : 0 ≤ i) (h1 : i < 10) (w : World) : (Instr.index 9 (.string digs10) (.int .i64 i)).run Ybad.prog w = .ok (.int .u8 ((dgt i).toNat : Int)) w := by
  rcases ten h0 h1 with rfl | rfl | rfl | rfl | rfl | rfl | rfl | rfl | rfl | rfl <;> kernel_rfl
theorem idx16 (i : Int) (h0 : 0 ≤ i) (h1 : i < 10) (w : World) : (Instr.index 9 (.string digs16) (.int .u8 i)).run Ybad.prog w = .ok (.int .u8 ((dgt i).toNat : Int)) w := by
  rcases ten h0 h1 with rfl | rfl | rfl | rfl | rfl | rfl | rfl | rfl | rfl | rfl <;> kernel_rfl

theorem conv_alloc (W : World) (l : List UInt8) : (convert 22 9 (.slice (some ⟨W.heap.size, 0, none⟩) l.length l.length)).run Ybad.prog (W.alloc (.cells (l.map fun b => Value.int .u8 (b.toNat : Int)).toArray 5)) = .ok (.string ⟨l.toArray⟩) (W.alloc (.cells (l.map fun b => Value.int .u8 (b.toNat : Int)).toArray 5)) := by
  refine run_convert_bytes_back _ 22 9 5 _ _ l Ybad.underlying22 Ybad.underlying5 Ybad.underlying9 fun j hj => ?_
  have hr := World.rowIs_alloc W (l.map fun b => Value.int .u8 (b.toNat : Int)).toArray 5 (fun i => (l.map fun b => Value.int .u8 (b.toNat : Int)).getD i undef) (fun i hi => by simp at hi; simp [List.getD_eq_getElem?_getD, hi])
  rw [Addr.add_mid, Nat.zero_add, hr.cell (by simpa using hj)]
  simp [List.getD_eq_getElem?_getD, hj]

theorem cdec1 (v : Int) (hv : 0 ≤ v ∧ v < 10) (w : World) : Calls Ybad.prog 11 #[.int .i64 v] w fun e w' => e = .returned (.string ⟨(dec v).toArray⟩) ∧ Below w.heap.size w w' := by
  have e0 : dec v = [dgt v] := by unfold dec; rw [if_neg (by omega), if_neg (by omega), show v % 10 = v by omega]
  have h1 := idx10 v hv.1 hv.2
  have h2 := conv_alloc w [dgt v]
  have g1 : ¬ (100 : Int) ≤ v := by omega
  have g2 : ¬ (10 : Int) ≤ v := by omega
  rw [e0]
  simp only [List.length_cons, List.length_nil, List.map_cons, List.map_nil, Nat.zero_add] at h2
  clear hv e0
  go_enter Ybad.func11, Ybad.ntmps11
  go_wp2
  go_ret
  exact ⟨rfl, (Below.refl _ _).alloc (Nat.le_refl _) _⟩

theorem cdec2 (v : Int) (hv : 10 ≤ v ∧ v < 100) (w : World) : Calls Ybad.prog 11 #[.int .i64 v] w fun e w' => e = .returned (.string ⟨(dec v).toArray⟩) ∧ Below w.heap.size w w' := by
  have e0 : dec v = [dgt (v / 10), dgt (v % 10)] := by unfold dec; rw [if_neg (by omega), if_pos (by omega)]
  have h1 := idx10 (v / 10) (by omega) (by omega)
  have h3 := idx10 (v % 10) (by omega) (by omega)
  have h2 := fun W => conv_alloc W [dgt (v / 10), dgt (v % 10)]
  have g1 : ¬ (100 : Int) ≤ v := by omega
  have g2 : (10 : Int) ≤ v := by omega
  have b1 : v / 10 ≤ 25 := by omega
  rw [e0]
  simp only [List.length_cons, List.length_nil, List.map_cons, List.map_nil, Nat.zero_add] at h2
  clear e0
  go_enter Ybad.func11, Ybad.ntmps11
  go_wp2
  refine region_quiet_tail (C := fun W => ∃ q, W = w.drewN q) 8 (by kernel_rfl) (by kernel_rfl) ⟨1, rfl⟩ ?_
  simp only [List.take_succ_cons, List.take_zero, List.drop_succ_cons, List.drop_zero]
  repeat (go_big_quiet_step (fail))
  refine wpQuiet_nil ?_
  rintro W ⟨q, rfl⟩
  have B := below_drewN (Below.refl w.heap.size w) q
  generalize w.drewN q = W at B ⊢
  have h4 := h2 W
  clear h2
  go_wp2
  go_ret
  exact ⟨rfl, B.alloc B.size _⟩

theorem cdec3 (v : Int) (hv : 100 ≤ v ∧ v < 256) (w : World) : Calls Ybad.prog 11 #[.int .i64 v] w fun e w' => e = .returned (.string ⟨(dec v).toArray⟩) ∧ Below w.heap.size w w' := by
  have e0 : dec v = [dgt (v / 100), dgt (v / 10 % 10), dgt (v % 10)] := by unfold dec; rw [if_pos (by omega)]
  have h1 := idx10 (v / 100) (by omega) (by omega)
  have h3 := idx10 (v / 10 % 10) (by omega) (by omega)
  have h5 := idx10 (v % 10) (by omega) (by omega)
  have h2 := fun W => conv_alloc W [dgt (v / 100), dgt (v / 10 % 10), dgt (v % 10)]
  have g1 : (100 : Int) ≤ v := by omega
  rw [e0]
  simp only [List.length_cons, List.length_nil, List.map_cons, List.map_nil, Nat.zero_add] at h2
  clear e0
  go_enter Ybad.func11, Ybad.ntmps11
  go_wp2
  refine region_quiet_tail (C := fun W => ∃ q, W = w.drewN q) 13 (by kernel_rfl) (by kernel_rfl) ⟨1, rfl⟩ ?_
  simp only [List.take_succ_cons, List.take_zero, List.drop_succ_cons, List.drop_zero]
  repeat (go_big_quiet_step (fail))
  refine wpQuiet_nil ?_
  rintro W ⟨q, rfl⟩
  have B := below_drewN (Below.refl w.heap.size w) q
  generalize w.drewN q = W at B ⊢
  have h4 := h2 W
  clear h2
  go_wp2
  go_ret
  exact ⟨rfl, B.alloc B.size _⟩

theorem cdec (v : Int) (hv : 0 ≤ v ∧ v < 256) (w : World) : Calls Ybad.prog 11 #[.int .i64 v] w fun e w' => e = .returned (.string ⟨(dec v).toArray⟩) ∧ Below w.heap.size w w' := by
  by_cases h1 : v < 10
  · exact cdec1 v ⟨hv.1, h1⟩ w
  · by_cases h2 : v < 100
    · exact cdec2 v ⟨by omega, h2⟩ w
    · exact cdec3 v ⟨by omega, hv.2⟩ w

end Go.Proofs.YbulkcmekDoor
