import Derived.Test.YbulkcmgaFmtFmt
namespace Go.Proofs.YbulkcmgaFmt
open Go Go.RowKit Go.Extern.Stop Go.Stop Go.Extern

theorem check_ok (Q : Nat) (t : Int) (h : 0 ≤ t) (w : World) (h3 : w.cell? ⟨Q, 3, none⟩ = some (.int .i64 0)) :
    Calls Ybaf.prog 35 #[.pointer (some ⟨Q, 3, none⟩), .int .i64 t] w fun e w' => e = .returned .nilIface ∧ w' = w := by
  have h' : ¬ t < 0 := by omega
  go_enter Ybaf.func35, Ybaf.ntmps35
  go_wp2
  go_ret
  exact ⟨rfl, rfl⟩

theorem check_no (F : Interp) (Q : Nat) (t : Int) (h : t < 0) (w : World) (hF : F.answers w.tape) (h3 : w.cell? ⟨Q, 3, none⟩ = some (.int .i64 0)) :
    Calls Ybaf.prog 35 #[.pointer (some ⟨Q, 3, none⟩), .int .i64 t] w fun e w' => ∃ X s, e = .returned (.iface 122 (.pointer (some ⟨X, 0, none⟩))) ∧ w'.cell? ⟨X, 0, none⟩ = some (.string s) ∧ Below w.heap.size w w' := by
  have K := hidn (errorf_c F w.heap.size 2 t 0 (w.alloc (.cells #[.iface 2 (.int .i64 t), .iface 2 (.int .i64 0)] 20)) hF (by go_simp) (by go_simp))
  have B := hidn ((Below.refl _ w).alloc (Nat.le_refl _) (.cells #[.iface 2 (.int .i64 t), .iface 2 (.int .i64 0)] 20))
  go_enter Ybaf.func35, Ybaf.ntmps35
  go_wp2_with (go_at_call 17; refine K.out.mono ?_; rintro e w1 ⟨X, s, rfl, x1, x2⟩)
  go_ret
  exact ⟨X, s, rfl, x1, B.out.trans (x2.mono B.out.size)⟩

theorem checkReceipt_ok (Q : Nat) (t : Int) (h : 0 ≤ t) (w : World) (h3 : w.cell? ⟨Q, 3, none⟩ = some (.int .i64 0)) (h4 : w.cell? ⟨Q, 4, none⟩ = some (.bool false)) :
    Calls Ybaf.prog 26 #[.pointer (some ⟨Q, 3, none⟩), .int .i64 t] w fun e w' => e = .returned .nilIface ∧ w' = w := by
  have K := hidn (check_ok Q t h w h3)
  go_enter Ybaf.func26, Ybaf.ntmps26
  go_wp2_with (go_at_call 35; refine K.out.mono ?_; rintro e w1 ⟨rfl, rfl⟩)
  go_ret
  exact ⟨rfl, rfl⟩

theorem checkReceipt_no (F : Interp) (Q : Nat) (t : Int) (h : t < 0) (w : World) (hF : F.answers w.tape) (h3 : w.cell? ⟨Q, 3, none⟩ = some (.int .i64 0)) (h4 : w.cell? ⟨Q, 4, none⟩ = some (.bool false)) :
    Calls Ybaf.prog 26 #[.pointer (some ⟨Q, 3, none⟩), .int .i64 t] w fun e w' => ∃ X s, e = .returned (.iface 122 (.pointer (some ⟨X, 0, none⟩))) ∧ w'.cell? ⟨X, 0, none⟩ = some (.string s) ∧ Below w.heap.size w w' := by
  have K := hidn (check_no F Q t h w hF h3)
  go_enter Ybaf.func26, Ybaf.ntmps26
  go_wp2_with (go_at_call 35; refine K.out.mono ?_; rintro e w1 ⟨X, s, rfl, x1, x2⟩)
  go_ret
  exact ⟨X, s, rfl, x1, x2⟩

end Go.Proofs.YbulkcmgaFmt
