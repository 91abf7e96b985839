import Derived.Test.YbulkcmekDoorFill
import Derived.Deep.DeepCutAuto
import Derived.Deep.Light
import Derived.OpenShut
namespace Go.Proofs.YbulkcmekDoor
open Go.RowKit

theorem bits_u8 (op : BinOp) (x y : Int) : 0 ≤ bits op .u8 x y ∧ bits op .u8 x y ≤ 255 := bounds_u8 (wf_bits op .u8 x y)
theorem wrap_u8_byt (x : Int) : 0 ≤ IntKind.u8.wrap x ∧ IntKind.u8.wrap x ≤ 255 := bounds_u8 (wf_wrap .u8 x)

theorem row_put {w : World} {g n : Nat} {Z : Nat → Int} (hZ : Byt Z) (h : w.rowIs g 5 n (fun i => .int .u8 (Z i))) (k : Nat) (v : Int) (hv : 0 ≤ v ∧ v ≤ 255) :
    ∃ Z' : Nat → Int, Byt Z' ∧ (w.setCell ⟨g, k, none⟩ (.int .u8 v)).rowIs g 5 n (fun i => .int .u8 (Z' i)) :=
  ⟨fun j => if j = k then v else Z j, fun j => by by_cases e : j = k <;> simp [e, hv, hZ j], (h.set k _).congr (fun j _ => by by_cases e : j = k <;> simp [e])⟩

theorem row_put2 {w : World} {g n : Nat} {Z : Nat → Int} (hZ : Byt Z) (h : w.rowIs g 5 n (fun i => .int .u8 (Z i))) {k k' : Nat} {v v' : Int} (hv : 0 ≤ v ∧ v ≤ 255) (hv' : 0 ≤ v' ∧ v' ≤ 255) :
    ∃ Z' : Nat → Int, Byt Z' ∧ ((w.setCell ⟨g, k, none⟩ (.int .u8 v)).setCell ⟨g, k', none⟩ (.int .u8 v')).rowIs g 5 n (fun i => .int .u8 (Z' i)) :=
  let ⟨_, hZ1, h1⟩ := row_put hZ h k v hv
  row_put hZ1 h1 k' v' hv'

theorem row_put_alloc {w : World} {g n : Nat} {Z : Nat → Int} (hZ : Byt Z) (h : w.rowIs g 5 n (fun i => .int .u8 (Z i))) {k : Nat} {v : Int} {o : Obj} (hv : 0 ≤ v ∧ v ≤ 255) :
    ∃ Z' : Nat → Int, Byt Z' ∧ ((w.setCell ⟨g, k, none⟩ (.int .u8 v)).alloc o).rowIs g 5 n (fun i => .int .u8 (Z' i)) :=
  let ⟨Z1, hZ1, h1⟩ := row_put hZ h k v hv
  ⟨Z1, hZ1, h1.alloc o⟩

theorem fill_any (ao : Option Addr) (len cap : Nat) (Y : Nat → Int) (hY : Byt Y) (n : Nat) (hn : n ≤ 89) (hlen : len ≤ 1024) (w : World)
    (hc : 0 < len → ∃ b o, ao = some ⟨b, o, none⟩ ∧ b < w.heap.size ∧ ∀ i, i < len → w.cell? ⟨b, o + i, none⟩ = some (.int .u8 (Y i))) :
    Calls Ybad.prog 13 #[.slice ao len cap, .int .i64 n] w fun e w' => e = .returned (.slice (some ⟨w.heap.size, 0, none⟩) n n) ∧
      (∃ Z : Nat → Int, Byt Z ∧ w'.rowIs w.heap.size 5 n (fun i => .int .u8 (Z i))) ∧ w'.heap.size = w.heap.size + 1 ∧ Below w.heap.size w w' := by
  by_cases h : 0 < len
  · obtain ⟨b, o, rfl, hb, hcc⟩ := hc h
    exact fill_some b o len cap Y hY n hn hlen h w hb hcc
  · obtain rfl : len = 0 := by omega
    exact fill_none ao cap n hn w

set_option maxHeartbeats 1000000 in
set_option maxRecDepth 100000 in
theorem build_fill (ao : Option Addr) (len cap : Nat) (Y : Nat → Int) (hY : Byt Y) (hlen : len ≤ 1024) (x m s : Int) (hx : 0 ≤ x ∧ x ≤ 255) (hm : 0 ≤ m ∧ m ≤ 255) (hs : 0 ≤ s ∧ s ≤ 255) (hm4 : (m % 4 == 0) = false) (w : World)
    (hc : 0 < len → ∃ b o, ao = some ⟨b, o, none⟩ ∧ b < w.heap.size ∧ ∀ i, i < len → w.cell? ⟨b, o + i, none⟩ = some (.int .u8 (Y i))) :
    Calls Ybad.prog 6 #[.slice ao len cap, .int .u8 x, .int .u8 m, .int .u8 s] w fun e w' => ∃ n : Nat, n ≤ 89 ∧ e = .returned (.slice (some ⟨w.heap.size, 0, none⟩) n n) ∧
      (∃ Z : Nat → Int, Byt Z ∧ w'.rowIs w.heap.size 5 n (fun i => .int .u8 (Z i))) ∧ Below w.heap.size w w' := by
  obtain ⟨n, hn⟩ : ∃ n : Nat, (n : Int) = x % 90 := ⟨(x % 90).toNat, by omega⟩
  have hn89 : n ≤ 89 := by omega
  have HN : Hid ((n : Int) = x % 90) := hn
  clear hn
  go_enter Ybad.func6, Ybad.ntmps6
  go_wp2_with fail
  rw [← HN.out]
  refine (fill_any ao len cap Y hY n hn89 hlen w hc).mono ?_
  rintro e w1 ⟨rfl, ⟨Z1, hZ1, hr1⟩, hsz1, hb1⟩
  clear hc
  go_upto_if 31 with fail
  go_cut [10] (fun s10 wc => s10 = .slice (some ⟨w.heap.size, 0, none⟩) n n ∧ (∃ Z : Nat → Int, Byt Z ∧ wc.rowIs w.heap.size 5 n (fun i => .int .u8 (Z i))) ∧ Below w.heap.size w wc)
  case first =>
    by_cases h0 : 0 < n
    · have hc0 := hr1.cell h0
      have hf0 := hr1.frozen 0
      have b0 := hZ1 0
      go_wp2
      · go_meet
        case rel => exact ⟨rfl, row_put hZ1 hr1 0 _ (bits_u8 _ _ _), hb1.setCell (Nat.le_refl _) _⟩
      · go_meet
        case rel => exact ⟨rfl, row_put hZ1 hr1 0 _ (bits_u8 _ _ _), hb1.setCell (Nat.le_refl _) _⟩
    · go_wp2
      go_meet
      case rel => exact ⟨rfl, ⟨Z1, hZ1, hr1⟩, hb1⟩
  case rest =>
    obtain ⟨rfl, ⟨Z2, hZ2, hr2⟩, hb2⟩ := hcut
    clear hZ1 hr1 hsz1 hb1
    go_upto_region 11 with fail
    go_cut [10, 50] (fun s10 s50 wc => s10 = .slice (some ⟨w.heap.size, 0, none⟩) n n ∧ (∃ bb : Bool, s50 = .bool bb ∧ (bb = true → 4 ≤ n)) ∧ (∃ Z : Nat → Int, Byt Z ∧ wc.rowIs w.heap.size 5 n (fun i => .int .u8 (Z i))) ∧ Below w.heap.size w wc)
    case first =>
      by_cases h4 : 4 ≤ n
      · go_wp2
        go_meet
        case rel => exact ⟨rfl, ⟨_, rfl, fun _ => h4⟩, ⟨Z2, hZ2, hr2⟩, hb2⟩
      · go_wp2
        go_meet
        case rel => exact ⟨rfl, ⟨_, rfl, fun h => by simp at h⟩, ⟨Z2, hZ2, hr2⟩, hb2⟩
    case rest =>
      obtain ⟨rfl, ⟨bb, rfl, hbb⟩, ⟨Z3, hZ3, hr3⟩, hb3⟩ := hcut
      clear hZ2 hr2 hb2
      go_upto_if 50 with fail
      go_cut [10] (fun s10 wc => s10 = .slice (some ⟨w.heap.size, 0, none⟩) n n ∧ (∃ Z : Nat → Int, Byt Z ∧ wc.rowIs w.heap.size 5 n (fun i => .int .u8 (Z i))) ∧ Below w.heap.size w wc)
      case first =>
        cases bb with
        | true =>
          have h4 := hbb rfl
          clear hbb
          have hc2 := hr3.cell (i := 2) (by omega)
          have hf2 := hr3.frozen 2
          have hc3 := hr3.cell (i := 3) (by omega)
          have hf3 := hr3.frozen 3
          go_wp2
          all_goals
            go_meet
            case rel =>
              exact ⟨rfl, row_put2 hZ3 hr3 (by omega) (by omega), (hb3.setCell (Nat.le_refl _) _).setCell (Nat.le_refl _) _⟩
        | false =>
          go_wp2
          go_meet
          case rel => exact ⟨rfl, ⟨Z3, hZ3, hr3⟩, hb3⟩
      case rest =>
        obtain ⟨rfl, ⟨Z4, hZ4, hr4⟩, hb4⟩ := hcut
        clear hZ3 hr3 hb3 hbb
        go_upto_if 72 with fail
        go_cut [10] (fun s10 wc => s10 = .slice (some ⟨w.heap.size, 0, none⟩) n n ∧ (∃ Z : Nat → Int, Byt Z ∧ wc.rowIs w.heap.size 5 n (fun i => .int .u8 (Z i))) ∧ Below w.heap.size w wc)
        case first =>
          by_cases h10 : 10 ≤ n
          · have hc9 := hr4.cell (i := 9) (by omega)
            have hf9 := hr4.frozen 9
            have hlt := hr4.lt
            have b9 := hZ4 9
            have hs6 : s % 6 = 0 ∨ s % 6 = 1 ∨ s % 6 = 2 ∨ s % 6 = 3 ∨ s % 6 = 4 ∨ s % 6 = 5 := by omega
            rcases hs6 with h6 | h6 | h6 | h6 | h6 | h6
            all_goals
              go_wp2
              go_meet
              case rel =>
                exact ⟨rfl, row_put_alloc hZ4 hr4 (by omega), (hb4.setCell (Nat.le_refl _) _).alloc (by simp; omega) _⟩
          · go_wp2
            go_meet
            case rel => exact ⟨rfl, ⟨Z4, hZ4, hr4⟩, hb4⟩
        case rest =>
          obtain ⟨rfl, ⟨Z5, hZ5, hr5⟩, hb5⟩ := hcut
          clear hZ4 hr4 hb4
          by_cases h8 : 8 ≤ n
          · have hc6 := hr5.cell (i := 6) (by omega)
            have hf6 := hr5.frozen 6
            have hc7 := hr5.cell (i := 7) (by omega)
            have hf7 := hr5.frozen 7
            go_wp2
            · go_ret
              exact ⟨n, hn89, rfl, row_put2 hZ5 hr5 (bits_u8 _ _ _) (by decide), (hb5.setCell (Nat.le_refl _) _).setCell (Nat.le_refl _) _⟩
            · go_ret
              exact ⟨n, hn89, rfl, ⟨Z5, hZ5, hr5⟩, hb5⟩
          · go_wp2
            go_ret
            exact ⟨n, hn89, rfl, ⟨Z5, hZ5, hr5⟩, hb5⟩

end Go.Proofs.YbulkcmekDoor
