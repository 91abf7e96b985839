import Derived.Test.YbulkcmekFmtRead4
namespace Go.Proofs.YbulkcmekFmt
open Go Go.RowKit

/-- Where a bufio.Reader's blocks lie. -/
structure Apart (base B S U : Nat) (ao : Option Addr) (N : Nat) : Prop where
  pos : 0 < base
  b : base ≤ B
  s : base ≤ S
  u : base ≤ U
  bs : B ≠ S
  bu : B ≠ U
  su : S ≠ U
  a : 0 < N → ∀ x y, ao = some ⟨x, y, none⟩ → x < base

/-- A bufio.Reader over the bytes Y, N of them: q are read. -/
structure Rd (w : World) (B S U : Nat) (ao : Option Addr) (N cap : Nat) (Y : Nat → Int) (q : Nat) : Prop where
  rows : ∃ r v lb lr g, w.rowIs B 88 7 (bufF U S r v .nilIface lb lr) ∧ w.rowIs S 58 2 (srcF ao N cap (q + (v - r))) ∧ w.rowIs U 5 4096 g ∧ r ≤ v ∧ v ≤ 4096 ∧ q + (v - r) ≤ N ∧ ∀ i, r ≤ i → i < v → g i = .int .u8 (Y (q + (i - r)))
  bytes : Bytes w ao N Y

theorem Rd.only {L : List Nat} {w w' : World} {base B S U : Nat} {ao : Option Addr} {N cap : Nat} {Y : Nat → Int} {q : Nat} (A : Apart base B S U ao N) (R : Rd w B S U ao N cap Y q) (o : Only L w w') (hL : ∀ k, k ∈ L → base ≤ k ∧ k ≠ B ∧ k ≠ S ∧ k ≠ U) : Rd w' B S U ao N cap Y q := by
  obtain ⟨⟨r, v, lb, lr, g, h1, h2, h3, h4⟩, h5⟩ := R
  refine ⟨⟨r, v, lb, lr, g, o.row h1 fun h => (hL _ h).2.1 rfl, o.row h2 fun h => (hL _ h).2.2.1 rfl, o.row h3 fun h => (hL _ h).2.2.2 rfl, h4⟩, h5.only o fun hN b x e h => ?_⟩
  have h6 := A.a hN b x e
  have h7 := (hL _ h).1
  omega

theorem not_in4 {b B S U V base : Nat} (h : b < base) (h1 : base ≤ B) (h2 : base ≤ S) (h3 : base ≤ U) (h4 : base ≤ V) : b ∉ [B, S, U, V] := by
  simp; omega

theorem rd_some {base B S U V off m c t k N cap q : Nat} {f : Nat → Value} {ao : Option Addr} {Y : Nat → Int} {w : World} (A : Apart base B S U ao N) (hb : base ≤ V) (hVB : V ≠ B) (hVS : V ≠ S) (hVU : V ≠ U) (R : Rd w B S U ao N cap Y q) (hV : w.rowIs V t k f)
    (hm : m ≠ 0) (hfit : off + m ≤ k) (hq : q < N) (hN : N ≤ 1048576) (hcap : N ≤ cap) :
    Calls Ybaf.prog 39 #[.pointer (some ⟨B, 0, none⟩), .slice (some ⟨V, off, none⟩) m c] w fun e w' => ∃ n, 0 < n ∧ n ≤ m ∧ q + n ≤ N ∧ e = .returned (.tuple #[.int .i64 n, .nilIface]) ∧ Rd w' B S U ao N cap Y (q + n) ∧
      w'.rowIs V t k (laidOver f off n (fun j => .int .u8 (Y (q + j)))) ∧ Only [B, S, U, V] w w' := by
  obtain ⟨⟨r, v, lb, lr, g, h1, h2, h3, h4, h5, h6, h7⟩, hY⟩ := R
  have hm' : ((m : Int) == 0) = false := by simp; omega
  have hY' : ∀ {w' : World}, Only [B, S, U, V] w w' → Bytes w' ao N Y := fun o => hY.only o fun hN b x e => not_in4 (A.a hN b x e) A.b A.s A.u hb
  by_cases hrv : r < v
  · obtain ⟨n, hn⟩ : ∃ n, n = Nat.min (v - r) m := ⟨_, rfl⟩
    have l1 : n ≤ m := hn ▸ Nat.min_le_right _ _
    have l2 : n ≤ v - r := hn ▸ Nat.min_le_left _ _
    have l3 : 0 < n := by rw [hn]; exact Nat.lt_min.2 ⟨by omega, by omega⟩
    refine (read_have B U S V off m c t k r v n lb lr g f (fun j => Y (q + j)) w h1 h3 hV A.bu (fun e => hVB e.symm) (fun e => hVU e.symm) hrv h5 hm' hfit h7 hn).mono ?_
    rintro e w' ⟨rfl, ⟨x, y, b1⟩, b2, b3⟩
    have s1 := b3.row h2 (by simp; exact ⟨fun e => A.bs e.symm, fun e => hVS e.symm⟩)
    have u1 := b3.row h3 (by simp; exact ⟨fun e => A.bu e.symm, fun e => hVU e.symm⟩)
    have o := b3.mono (S' := [B, S, U, V]) (by simp)
    refine ⟨n, l3, l1, by omega, rfl, ⟨⟨r + n, v, x, y, g, b1, ?_, u1, by omega, h5, by omega, fun i hi1 hi2 => ?_⟩, hY' o⟩, b2, o⟩
    · rw [show q + n + (v - (r + n)) = q + (v - r) by omega]; exact s1
    · rw [h7 i (by omega) hi2, show q + n + (i - (r + n)) = q + (i - r) by omega]
  · obtain rfl : r = v := by omega
    rw [show q + (r - r) = q by omega] at h2
    by_cases hbig : 4096 ≤ m
    · obtain ⟨n, hn⟩ : ∃ n, n = Nat.min (N - q) m := ⟨_, rfl⟩
      have l1 : n ≤ m := hn ▸ Nat.min_le_right _ _
      have l2 : n ≤ N - q := hn ▸ Nat.min_le_left _ _
      have l3 : 0 < n := by rw [hn]; exact Nat.lt_min.2 ⟨by omega, by omega⟩
      refine (read_big B U S V off m c t k N cap r q n lb lr f ao Y w h1 h2 hV hY A.bs (fun e => hVB e.symm) (fun e => hVS e.symm) hm' (by omega) hq hN hcap hfit hn).mono ?_
      rintro e w' ⟨rfl, ⟨x, y, b1⟩, s1, b2, b3⟩
      have u1 := b3.row h3 (by simp; exact ⟨fun e => A.bu e.symm, fun e => A.su e.symm, fun e => hVU e.symm⟩)
      have o := b3.mono (S' := [B, S, U, V]) (by simp)
      refine ⟨n, l3, l1, by omega, rfl, ⟨⟨r, r, x, y, g, b1, ?_, u1, h4, h5, by omega, fun i hi1 hi2 => by omega⟩, hY' o⟩, b2, o⟩
      rw [show q + n + (r - r) = q + n by omega]; exact s1
    · obtain ⟨n1, hn1⟩ : ∃ n1, n1 = Nat.min (N - q) 4096 := ⟨_, rfl⟩
      obtain ⟨n, hn⟩ : ∃ n, n = Nat.min n1 m := ⟨_, rfl⟩
      have k1 : n1 ≤ 4096 := hn1 ▸ Nat.min_le_right _ _
      have k2 : n1 ≤ N - q := hn1 ▸ Nat.min_le_left _ _
      have k3 : 0 < n1 := by rw [hn1]; exact Nat.lt_min.2 ⟨by omega, by omega⟩
      have l1 : n ≤ m := hn ▸ Nat.min_le_right _ _
      have l2 : n ≤ n1 := hn ▸ Nat.min_le_left _ _
      have l3 : 0 < n := by rw [hn]; exact Nat.lt_min.2 ⟨by omega, by omega⟩
      refine (read_small B U S V off m c t k N cap r q n1 n lb lr g f ao Y w h1 h2 h3 hV hY (fun b x e h => by have := A.a (by omega) b x e; have := A.b; simp at h; omega) A.bs A.bu (fun e => hVB e.symm) A.su (fun e => hVS e.symm) (fun e => hVU e.symm) hm' (by omega) hq hN hcap hfit hn1 hn).mono ?_
      rintro e w' ⟨rfl, ⟨x, y, b1⟩, s1, u1, b2, o⟩
      refine ⟨n, l3, l1, by omega, rfl, ⟨⟨n, n1, x, y, _, b1, ?_, u1, l2, k1, by omega, fun i hi1 hi2 => ?_⟩, hY' o⟩, b2, o⟩
      · rw [show q + n + (n1 - n) = q + n1 by omega]; exact s1
      · unfold laidOver
        rw [if_pos (by omega), show q + n + (i - n) = q + (i - 0) by omega]

theorem rd_eof {base B S U m c N cap q : Nat} {ad ao : Option Addr} {ea : Addr} {Y : Nat → Int} {w : World} (A : Apart base B S U ao N) (R : Rd w B S U ao N cap Y q) (hE : w.cell? ⟨0, 0, none⟩ = some (errV ea))
    (hm : m ≠ 0) (hq : N ≤ q) :
    Calls Ybaf.prog 39 #[.pointer (some ⟨B, 0, none⟩), .slice ad m c] w fun e w' => e = .returned (.tuple #[.int .i64 0, errV ea]) ∧ Rd w' B S U ao N cap Y q ∧ Only [B] w w' := by
  obtain ⟨⟨r, v, lb, lr, g, h1, h2, h3, h4, h5, h6, h7⟩, hY⟩ := R
  have hm' : ((m : Int) == 0) = false := by simp; omega
  have hY' : ∀ {w' : World}, Only [B] w w' → Bytes w' ao N Y := fun o => hY.only o fun hN b x e h => by have := A.a hN b x e; have := A.b; simp at h; omega
  obtain rfl : r = v := by omega
  have h2' : w.rowIs S 58 2 (srcF ao N cap q) := by rw [show q + (r - r) = q by omega] at h2; exact h2
  have B0 : B ≠ 0 := by have := A.pos; have := A.b; omega
  by_cases hbig : 4096 ≤ m
  · refine (read_big_eof B U S m c N cap r q lb lr ad ao ea w h1 h2' hE hm' (by omega) hq).mono ?_
    rintro e w' ⟨rfl, b1, o⟩
    exact ⟨rfl, ⟨⟨r, r, lb, lr, g, b1, o.row h2 (by simpa using fun e => A.bs e.symm), o.row h3 (by simpa using fun e => A.bu e.symm), h4, h5, h6, h7⟩, hY' o⟩, o⟩
  · refine (read_small_eof B U S m c N cap r q lb lr ad ao ea w h1 h2' hE B0 A.bs hm' (by omega) hq).mono ?_
    rintro e w' ⟨rfl, b1, o⟩
    refine ⟨rfl, ⟨⟨0, 0, lb, lr, g, b1, ?_, o.row h3 (by simpa using fun e => A.bu e.symm), by omega, by omega, by omega, fun i hi1 hi2 => by omega⟩, hY' o⟩, o⟩
    rw [show q + (0 - 0) = q by omega]
    exact o.row h2' (by simpa using fun e => A.bs e.symm)

end Go.Proofs.YbulkcmekFmt
