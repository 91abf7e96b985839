import Derived.Test.YbulkcmekFmtFull
namespace Go.Proofs.YbulkcmekFmt
open Go Go.RowKit

theorem full {base B S U V off m c t k N cap q : Nat} {f : Nat → Value} {ao : Option Addr} {ea ua : Addr} {Y : Nat → Int} {w : World} (A : Apart base B S U ao N) (hb5 : 5 ≤ base) (hb : base ≤ V) (hVB : V ≠ B) (hVS : V ≠ S) (hVU : V ≠ U) (R : Rd w B S U ao N cap Y q) (hV : w.rowIs V t k f)
    (hE : w.cell? ⟨0, 0, none⟩ = some (errV ea)) (hUE : w.cell? ⟨4, 0, none⟩ = some (errV ua)) (hsz : 5 ≤ w.heap.size)
    (hfit : off + m ≤ k) (hmc : m ≤ c) (hN : N ≤ 1048576) (hcap : N ≤ cap) (hq : q ≤ N) (hm : m ≤ 1048576) :
    Calls Ybaf.prog 13 #[.iface 35 (.pointer (some ⟨B, 0, none⟩)), .slice (some ⟨V, off, none⟩) m c] w fun e w' => ∃ d, d ≤ m ∧ q + d ≤ N ∧ e = .returned (.tuple #[.int .i64 d, fullErr ea ua d m]) ∧ (d = m ∨ q + d = N) ∧ Rd w' B S U ao N cap Y (q + d) ∧
      w'.rowIs V t k (laidOver f off d (fun j => .int .u8 (Y (q + j)))) ∧ Only [B, S, U, V] w w' := by
  have K := hid (atLeast A hb5 hb hVB hVS hVU R hV hE hUE hsz hfit hmc hN hcap hq hm)
  clear R hV hE hUE
  go_enter Ybaf.func13, Ybaf.ntmps13
  go_wp2_with (first
    | (go_at_call 19; refine K.out.mono ?_; rintro e w1 ⟨d, b1, b2, rfl, b3⟩))
  go_ret2
  exact ⟨d, b1, b2, rfl, b3⟩

theorem atLeast_zero (x : Value) (ad : Option Addr) (c : Nat) (w : World) :
    Calls Ybaf.prog 19 #[x, .slice ad 0 c, .int .i64 0] w fun e w' => e = .returned (.tuple #[.int .i64 0, .nilIface]) ∧ w' = w := by
  go_enter Ybaf.func19, Ybaf.ntmps19
  go_wp2
  refine wp_loop_rounds 1 ?_
  rw [rounds_succ]
  go_wp2
  go_ret2
  exact ⟨rfl, rfl⟩

theorem full_zero (x : Value) (ad : Option Addr) (c : Nat) (w : World) :
    Calls Ybaf.prog 13 #[x, .slice ad 0 c] w fun e w' => e = .returned (.tuple #[.int .i64 0, .nilIface]) ∧ w' = w := by
  go_enter Ybaf.func13, Ybaf.ntmps13
  go_wp2_with (first
    | (go_at_call 19; refine (atLeast_zero x ad c _).mono ?_; rintro e w1 ⟨rfl, rfl⟩))
  go_ret2
  exact ⟨rfl, rfl⟩

end Go.Proofs.YbulkcmekFmt
