/-
  anyHeld.
-/
import Derived.Test.YbulkcmgaFmtAddW
namespace Go.Proofs.YbulkcmgaFmt
open Go Go.RowKit Go.Maps

theorem keyStr {v : Value} {kl : Lit} (h : keyOf Ybaf.prog 9 v = some kl) : ∃ p : ByteArray, v = .string p ∧ kl = .string p.data.toList ∧ p.size ≤ maxLen := by
  cases v <;> simp [keyOf, Ybaf.underlying9, mapKey] at h
  rename_i s
  exact ⟨s, rfl, h.2.symm, h.1⟩

variable {w : World} {B s : Nat} {f : ByteArray → Option Nat}

set_option maxHeartbeats 1000000 in
theorem any_is (t : Inn w B f s) (hr : ∀ p X, f p = some X → ∃ b, RecAt w X b) :
    Calls Ybaf.prog 24 #[.map (some B)] w fun e w' => ∃ v : Bool, e = .returned (.bool v) ∧ (v = true ↔ ∃ p X, f p = some X ∧ RecAt w X true) ∧ Below w.heap.size w w' := by
  obtain ⟨D, hown, _, hat⟩ := t
  have HO := hidn (And.intro hown (And.intro hat hr))
  clear hown hat hr
  go_enter Ybaf.func24, Ybaf.ntmps24
  go_wp2_with (first | (at_range; refine wpList_range_own _ rfl _ 34 rfl 9 75 key9 Ybaf.underlying34 _ B s D rfl HO.out.1 ?_; intro w0 hrg0 hg0 hs0) | go_in)
  go_frame
  have HR := hidn (And.intro hrg0 (grown_below hg0 w.heap.size (Nat.le_refl _) (fun k hk => by cases hk)))
  clear hrg0 hg0 hs0
  go_loopw [4] (fun _ wr => ∃ left cnt, wr.ranges Ybaf.prog 9 recR B w.heap.size s D left cnt ∧ Below w.heap.size w wr ∧ ∀ p X, f p = some X → left (.string p.data.toList) = false → ¬ RecAt w X true) (fun _ wr => wr.rangeLeft B w.heap.size)
  case atStart =>
    refine ⟨_, _, HR.out.1, HR.out.2, fun p X hp hl => ?_⟩
    rw [Inn.has HO.out.2.1, hp] at hl
    cases hl
  case round =>
    obtain ⟨left, cnt, x1, x2, x3⟩ := hrel
    rename World => wr
    have HX := hidn (And.intro x1 (And.intro x2 x3))
    clear x1 x2 x3 HR
    go_wp2_with (first
      | (at_next; refine wpList_next_ranges _ rfl _ rfl 9 key9 recR (fun p => Value.string p) (fun X => Value.pointer (some ⟨X, 0, none⟩)) (fun key kl hk => by obtain ⟨p, e, _⟩ := keyStr hk; exact ⟨p, e⟩) (fun v y hv => by obtain ⟨X, e, _⟩ := recR_inv hv; exact ⟨X, e⟩) B w.heap.size s D left cnt rfl HX.out.1 ?_ ?_)
      | go_in)
    · intro _ hl0
      go_wp2
      go_ret
      obtain ⟨x1, x2, x3⟩ := HX.out
      exact ⟨false, rfl, ⟨fun h => (by cases h), fun ⟨p, X, h1, h2⟩ => absurd h2 (x3 p X h1 (hl0 _))⟩, x2⟩
    · intro p X kl y1 y2 w1 cnt1 hkey hlk hRy hatk hrg1 hlt hg1 hs1 hen
      obtain ⟨p', e1, rfl, hpl⟩ := keyStr hkey
      obtain rfl : p = p' := by simpa using e1
      have hfp : f p = some X := by
        obtain ⟨X', e2, e3⟩ := recR_inv hRy
        obtain rfl : X = X' := by simpa using e2
        have := (HO.out.2.1 p .nil).symm.trans (hatk .nil)
        rw [show y1 = .held X by simpa using congrArg Prod.fst e3] at this
        cases hf : f p with
        | none => rw [hf] at this; simp [dv] at this
        | some Z => rw [hf] at this; simpa [dv] using this
      obtain ⟨b, hb⟩ := HO.out.2.2 p X hfp
      have B1 : Below w.heap.size w w1 := HX.out.2.1.trans (grown_below hg1 w.heap.size HX.out.2.1.size (fun k hk => by cases hk; exact Nat.le_refl _))
      have cX := (B1.cell (p := ⟨X, 4, none⟩) hb.lt).trans hb.cell
      have HZ := hidn (And.intro hrg1 (And.intro hlt (And.intro B1 (And.intro hb (And.intro hfp hlk)))))
      clear hrg1 hlt B1 hb hfp hlk hkey hRy hatk hg1 hs1 e1
      cases b
      · go_wp2
        go_roundw
        case rel =>
          obtain ⟨hrg1, hlt, B1, hb, hfp, hlk⟩ := HZ.out
          refine ⟨_, cnt1, hrg1, B1, fun p' X' h1 h2 h3 => ?_⟩
          cases hl : left (.string p'.data.toList) with
          | false => exact HX.out.2.2 p' X' h1 hl h3
          | true =>
            simp only [hl, Bool.true_and, Bool.not_eq_false'] at h2
            have e := WideAt.sameKey_eq h2
            obtain rfl : p' = p := by
              have : p'.data.toList = p.data.toList := by simpa using e
              cases p; cases p'; simp at this; simp [this]
            rw [hfp] at h1
            cases h1
            obtain ⟨C, k1, k2⟩ := hb
            obtain ⟨C', k3, k4⟩ := h3
            rw [k1] at k3
            cases k3
            rw [k2] at k4
            cases k4
        case measure => rw [HZ.out.1.left_eq, HX.out.1.left_eq]; exact HZ.out.2.1
      · go_wp2
        go_ret
        obtain ⟨hrg1, hlt, B1, hb, hfp, hlk⟩ := HZ.out
        exact ⟨true, rfl, ⟨fun _ => ⟨p, X, hfp, hb⟩, fun _ => rfl⟩, B1⟩

end Go.Proofs.YbulkcmgaFmt
