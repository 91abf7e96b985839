import Derived.Test.YbulkcmekFmtRd
import Derived.Test.YbulkcmekFmtIs
import Derived.LoopTactic
namespace Go.Proofs.YbulkcmekFmt
open Go Go.RowKit

theorem Ybaf.methodRead35 (x : Value) (w : World) : (Go.method 238 35 x "Read").run Ybaf.prog w = .ok (39, x) w := by kernel_rfl

theorem Ybaf.nilAhead35 (a : Addr) (w : World) : (nilAhead 238 35 (.pointer (some a)) "Read").run Ybaf.prog w = .ok (some false) w := by kernel_rfl

def nilOf : Value → Nat
  | .nilIface => 1
  | _ => 0

/-- What ReadAtLeast hands back beside the number. -/
def fullErr (ea ua : Addr) (d m : Nat) : Value := if d = m then .nilIface else if d = 0 then errV ea else errV ua

theorem laidOver_more {f : Nat → Value} {off d n : Nat} {Y : Nat → Int} {q : Nat} (i : Nat) :
    laidOver (laidOver f off d (fun j => .int .u8 (Y (q + j)))) (off + d) n (fun j => .int .u8 (Y (q + d + j))) i = laidOver f off (d + n) (fun j => .int .u8 (Y (q + j))) i := by
  unfold laidOver
  by_cases h1 : off + d ≤ i ∧ i < off + d + n
  · rw [if_pos h1, if_pos (by omega)]
    show Value.int .u8 (Y (q + d + (i - (off + d)))) = .int .u8 (Y (q + (i - off)))
    rw [show q + d + (i - (off + d)) = q + (i - off) by omega]
  · rw [if_neg h1]
    by_cases h2 : off ≤ i ∧ i < off + d
    · rw [if_pos h2, if_pos (by omega)]
    · rw [if_neg h2, if_neg (by omega)]

theorem laidOver_zero {f : Nat → Value} {off : Nat} {Y : Nat → Value} (i : Nat) : laidOver f off 0 Y i = f i := by
  unfold laidOver; rw [if_neg (by omega)]

set_option maxHeartbeats 1000000 in
set_option maxRecDepth 100000 in
theorem atLeast {base B S U V off m c t k N cap q : Nat} {f : Nat → Value} {ao : Option Addr} {ea ua : Addr} {Y : Nat → Int} {w : World} (A : Apart base B S U ao N) (hb5 : 5 ≤ base) (hb : base ≤ V) (hVB : V ≠ B) (hVS : V ≠ S) (hVU : V ≠ U) (R : Rd w B S U ao N cap Y q) (hV : w.rowIs V t k f)
    (hE : w.cell? ⟨0, 0, none⟩ = some (errV ea)) (hUE : w.cell? ⟨4, 0, none⟩ = some (errV ua)) (hsz : 5 ≤ w.heap.size)
    (hfit : off + m ≤ k) (hmc : m ≤ c) (hN : N ≤ 1048576) (hcap : N ≤ cap) (hq : q ≤ N) (hm : m ≤ 1048576) :
    Calls Ybaf.prog 19 #[.iface 35 (.pointer (some ⟨B, 0, none⟩)), .slice (some ⟨V, off, none⟩) m c, .int .i64 m] w fun e w' => ∃ d, d ≤ m ∧ q + d ≤ N ∧ e = .returned (.tuple #[.int .i64 d, fullErr ea ua d m]) ∧ (d = m ∨ q + d = N) ∧ Rd w' B S U ao N cap Y (q + d) ∧
      w'.rowIs V t k (laidOver f off d (fun j => .int .u8 (Y (q + j)))) ∧ Only [B, S, U, V] w w' := by
  obtain ⟨i, hi, hcmp⟩ := Option.map_eq_some_iff.1 Ybaf.isComp
  obtain ⟨j, hj, hjs⟩ := Option.map_eq_some_iff.1 Ybaf.isSize
  have heq := fun w => run_eql_iface_ptr_same (P := Ybaf.prog) w ea Ybaf.underlying32 Ybaf.underlying91 hi hcmp hj
  have mR := Ybaf.methodRead35
  have nA := Ybaf.nilAhead35
  have KR := hid R
  have KV := hid hV
  clear R hV
  go_enter Ybaf.func19, Ybaf.ntmps19
  go_wp2
  go_loopw [6, 7] (fun i e wr => ∃ d : Nat, i = .int .i64 d ∧ d ≤ m ∧ q + d ≤ N ∧ Rd wr B S U ao N cap Y (q + d) ∧ wr.rowIs V t k (laidOver f off d (fun j => .int .u8 (Y (q + j)))) ∧ Only [B, S, U, V] w wr ∧ (e = .nilIface ∨ (e = errV ea ∧ d < m ∧ q + d = N)))
    (fun i e _ => 2 * (m - (intOf i).toNat) + nilOf e)
  case atStart => exact ⟨0, rfl, Nat.zero_le _, hq, KR.out, KV.out.congr fun i _ => (laidOver_zero i).symm, Only.refl _ _, Or.inl rfl⟩
  case round =>
    obtain ⟨d, rfl, hd, hqd, hR, hV, hO, he⟩ := hrel
    have h4 : (4 : Nat) ∉ [B, S, U, V] := not_in4 (base := base) (by omega) A.b A.s A.u hb
    have h0 : (0 : Nat) ∉ [B, S, U, V] := not_in4 (base := base) (by omega) A.b A.s A.u hb
    have hE' := (hO.cell (p := ⟨0, 0, none⟩) (by show 0 < w.heap.size; omega) h0).trans hE
    have hU' := (hO.cell (p := ⟨4, 0, none⟩) (by show 4 < w.heap.size; omega) h4).trans hUE
    rcases he with rfl | ⟨rfl, hdm, hdN⟩
    · by_cases hlt : d < m
      · have hlt' : (d : Int) < (m : Int) := by omega
        have hdc : ¬ c = d := by omega
        have hdc' : (d : Int) ≤ (c : Int) := by omega
        by_cases hlo : q + d < N
        · have K := hid (rd_some (w := wr.drew) (off := off + d) (m := m - d) (c := c - d) A hb hVB hVS hVU (hR.only A (Only.refl [] wr).drew (by simp)) hV (by omega) (by omega) hlo hN hcap)
          have HO := hid hO
          clear hR hV hO hE hUE hE' hU'
          go_wp2
          go_region_with (first
            | (go_at_call 39; refine K.out.mono ?_; rintro e w1 ⟨n, b1, b2, b3, rfl, b4, b5, b6⟩))
          all_goals go_wp2
          all_goals go_roundw
          case rel => exact ⟨d + n, by go_num, by omega, by omega, by rw [← Nat.add_assoc]; exact b4, b5.congr fun i _ => laidOver_more i, HO.out.drew.trans b6, Or.inl rfl⟩
          case measure => simp [intOf, nilOf]; omega
        · have K := hid (rd_eof (w := wr.drew) (m := m - d) (c := c - d) (ad := some ⟨V, off + d, none⟩) A (hR.only A (Only.refl [] wr).drew (by simp)) hE' (by omega) (by omega))
          have HO := hid hO
          have HV := hid hV
          clear hR hV hO hE hUE hE' hU'
          go_wp2
          go_region_with (first
            | (go_at_call 39; refine K.out.mono ?_; rintro e w1 ⟨rfl, b4, b6⟩))
          all_goals go_wp2
          all_goals go_roundw
          case rel => exact ⟨d, by go_num, by omega, by omega, b4, b6.row HV.out (by simpa using hVB), HO.out.drew.trans (b6.mono (by simp)), Or.inr ⟨rfl, hlt, by omega⟩⟩
          case measure => simp [intOf, nilOf]
      · obtain rfl : d = m := by omega
        have HR := hid (And.intro hR (And.intro hV hO))
        clear hR hV hO
        go_wp2
        go_ret2
        exact ⟨d, Nat.le_refl _, hqd, by simp [fullErr], Or.inl rfl, HR.out⟩
    · have hlt' : (d : Int) < (m : Int) := by omega
      have HR := hid (And.intro hR (And.intro hV hO))
      clear hR hV hO
      by_cases hd0 : 0 < d
      · go_wp2
        go_ret2
        exact ⟨d, hd, hqd, by rw [fullErr, if_neg (by omega), if_neg (by omega)]; rfl, Or.inr hdN, HR.out⟩
      · obtain rfl : d = 0 := by omega
        go_wp2
        go_ret2
        exact ⟨0, hd, hqd, by rw [fullErr, if_neg (by omega), if_pos rfl]; rfl, Or.inr hdN, HR.out⟩

end Go.Proofs.YbulkcmekFmt
