import Derived.Test.YbulkcmekDoorBuild
namespace Go.Proofs.YbulkcmekDoor
open Go.RowKit

theorem info5s : (Ybad.prog.info? 5).map (·.size) = some 1 := by kernel_rfl

set_option maxHeartbeats 400000 in
theorem build_copy (ao : Option Addr) (len cap : Nat) (Y : Nat → Int) (hlen : len ≤ 1024) (x m s : Int) (hm : 0 ≤ m ∧ m ≤ 255) (hm4 : (m % 4 == 0) = true) (w : World)
    (hc : 0 < len → ∃ b o, ao = some ⟨b, o, none⟩ ∧ b < w.heap.size ∧ ∀ i, i < len → w.cell? ⟨b, o + i, none⟩ = some (.int .u8 (Y i))) :
    Calls Ybad.prog 6 #[.slice ao len cap, .int .u8 x, .int .u8 m, .int .u8 s] w fun e w' => e = .returned (.slice (some ⟨w.heap.size, 0, none⟩) len len) ∧
      w'.rowIs w.heap.size 5 len (fun i => .int .u8 (Y i)) ∧ Below w.heap.size w w' := by
  have hmk := run_make_row' (P := Ybad.prog) 22 5 (.int .u8 0) 1 Ybad.underlying22 info5 rfl .i64 .i64 len (by omega) (by omega)
  obtain ⟨cs, hcs⟩ : ∃ cs : List Value, cs = (List.range len).map (fun i => Value.int .u8 (Y i)) := ⟨_, rfl⟩
  have hcl : cs.length = len := by rw [hcs]; simp
  have HC : Hid (cs = (List.range len).map (fun i => Value.int .u8 (Y i))) := hcs
  clear hcs
  go_enter Ybad.func6, Ybad.ntmps6
  go_wp2_with (refine wpList_copy_splice rfl (.tmp 20) (.tmp 21) 22 22 rfl 5 Ybad.underlying22 info5s (some ⟨w.heap.size, 0, none⟩) ao len len len cap rfl rfl w.heap.size 0 (List.replicate len (.int .u8 0)) 5 ?c1 cs ?c2 ?c3 ?c4 ?c5 w.heap.size w ?c6 (Nat.le_refl _) ?_)
  case c1 =>
    rw [heap_alloc_new]
    congr 2
    exact Array.toList_inj.1 (by rw [toList_madeCells_one])
  case c2 => exact hcl.trans (Nat.min_self _).symm
  case c3 =>
    intro h0
    obtain ⟨b, o, rfl, hb, hcc⟩ := hc h0
    refine ⟨_, rfl, fun j v hj => ?_⟩
    rw [HC.out] at hj
    obtain ⟨hjl, hjv⟩ := List.getElem?_eq_some_iff.1 hj
    simp at hjl hjv
    subst hjv
    rw [Go.WideShapes.add_plain]
    exact ((Below.refl _ w).alloc (Nat.le_refl _) _).cell (by exact hb) |>.trans (hcc j hjl)
  case c4 => simp [hcl]
  case c5 =>
    intro v hv
    rw [HC.out] at hv
    obtain ⟨i, _, rfl⟩ := List.mem_map.1 hv
    rfl
  case c6 => exact (Below.refl _ w).alloc (Nat.le_refl _) _
  intro w2 HG hb2
  go_wp2
  go_ret
  refine ⟨rfl, ⟨_, HG.out, ?_, ?_⟩, hb2⟩
  · simp [splice, hcl]
  · intro i hi
    simp [splice, HC.out, hi]

/-- What the law knows of the slice that it is handed. -/
def Seen (w : World) (ao : Option Addr) (len : Nat) (Y : Nat → Int) : Prop :=
  0 < len → ∃ b o, ao = some ⟨b, o, none⟩ ∧ b < w.heap.size ∧ ∀ i, i < len → w.cell? ⟨b, o + i, none⟩ = some (.int .u8 (Y i))

theorem build_any (ao : Option Addr) (len cap : Nat) (Y : Nat → Int) (hY : Byt Y) (hlen : len ≤ 1024) (x m s : Int) (hx : 0 ≤ x ∧ x ≤ 255) (hm : 0 ≤ m ∧ m ≤ 255) (hs : 0 ≤ s ∧ s ≤ 255) (w : World) (hc : Seen w ao len Y) :
    Calls Ybad.prog 6 #[.slice ao len cap, .int .u8 x, .int .u8 m, .int .u8 s] w fun e w' => ∃ (n : Nat) (Z : Nat → Int), n ≤ 1024 ∧ e = .returned (.slice (some ⟨w.heap.size, 0, none⟩) n n) ∧
      Byt Z ∧ w'.rowIs w.heap.size 5 n (fun i => .int .u8 (Z i)) ∧ Below w.heap.size w w' := by
  cases h : (m % 4 == 0) with
  | true => exact (build_copy ao len cap Y hlen x m s hm h w hc).mono fun e w' ⟨h1, h2, h3⟩ => ⟨len, Y, hlen, h1, hY, h2, h3⟩
  | false => exact (build_fill ao len cap Y hY hlen x m s hx hm hs h w hc).mono fun e w' ⟨n, h0, h1, ⟨Z, hZ, h2⟩, h3⟩ => ⟨n, Z, by omega, h1, hZ, h2, h3⟩

end Go.Proofs.YbulkcmekDoor
