import Derived.Test.YbulkcmgaFmtNew
import Derived.BigQuiet
import Derived.Lib.SliceRun
namespace Go.Proofs.YbulkcmgaFmt
open Go Go.RowKit

theorem hidn {p : Prop} (h : p) : Hid p := h

theorem wrap_nat (n : Nat) (h : n < 1000000) : IntKind.i64.wrap (n : Int) = (n : Int) := by
  unfold IntKind.wrap
  simp [IntKind.bits, IntKind.signed]
  omega
theorem quo64 (i : Nat) (h : i < 1000000) : IntKind.i64.wrap ((i : Int) / 64) = ((i / 64 : Nat) : Int) := by
  rw [show (i : Int) / 64 = ((i / 64 : Nat) : Int) by omega, wrap_nat _ (by omega)]

/-- Is bit s set in x? -/
def tst (x : Int) (s : Nat) : Bool := bits BinOp.and IntKind.u64 x (IntKind.u64.wrap (2 ^ s)) != 0
/-- x with bit s set. -/
def ori (x : Int) (s : Nat) : Int := bits BinOp.or IntKind.u64 x (IntKind.u64.wrap (2 ^ s))

theorem has_is (i k s : Nat) (hi : i < 300) (S L c : Nat) (x : Int) (w : World) (hk : k = i / 64) (hsd : s = i % 64) (hL : k < L) (hc : w.cell? ⟨S, k, none⟩ = some (.int .u64 x)) :
    Calls Ybaf.prog 15 #[.slice (some ⟨S, 0, none⟩) L c, .int .i64 i] w fun e w' => e = .returned (.bool (tst x s)) ∧ ∃ q, w' = w.drewN q := by
  have e1 : IntKind.i64.wrap ((i : Int) / 64) = (k : Int) := by rw [quo64 i (by omega), hk]
  have e2 : (i : Int) % 64 = (s : Int) := by omega
  have hs : s < 64 := by omega
  clear hk hsd
  go_enter Ybaf.func15, Ybaf.ntmps15
  go_wp2
  go_quiet (fail)
  go_wp2
  go_ret
  exact ⟨rfl, _, rfl⟩

theorem add_is (i k s : Nat) (hi : i < 300) (S L c : Nat) (x : Int) (w : World) (hk : k = i / 64) (hsd : s = i % 64) (hL : k < L) (hc : w.cell? ⟨S, k, none⟩ = some (.int .u64 x)) (hf : w.frozen? ⟨S, k, none⟩ = false) :
    Calls Ybaf.prog 19 #[.slice (some ⟨S, 0, none⟩) L c, .int .i64 i] w fun e w' => e = .returned (.tuple #[]) ∧ ∃ q, w' = (w.drewN q).setCell ⟨S, k, none⟩ (.int .u64 (ori x s)) := by
  have e1 : IntKind.i64.wrap ((i : Int) / 64) = (k : Int) := by rw [quo64 i (by omega), hk]
  have e2 : (i : Int) % 64 = (s : Int) := by omega
  have hs : s < 64 := by omega
  clear hk hsd
  go_enter Ybaf.func19, Ybaf.ntmps19
  go_wp2
  refine region_quiet_tail (C := fun W => ∃ q, W = w.drewN q) 10 (by kernel_rfl) (by kernel_rfl) ⟨1, rfl⟩ ?_
  simp only [List.take_succ_cons, List.take_zero, List.drop_succ_cons, List.drop_zero]
  repeat (go_big_quiet_step (fail))
  refine wpQuiet_nil ?_
  rintro W ⟨q, rfl⟩
  go_wp2
  go_end0
  exact ⟨rfl, q, rfl⟩

/-- A decision's cells. -/
def decC (t : Int) (kind : Int) (round : Int) (p b : ByteArray) : List Value := [.int .i64 t, .int .u8 kind, .int .u64 round, .string p, .string b, .string ⟨#[]⟩, .slice none 0 0, .slice none 0 0]

theorem decok (t round : Int) (p b : ByteArray) (w : World) : Calls Ybaf.prog 9 #[.agg (decC t 4 round p b).toArray, .int .i64 t, .int .u64 round, .string p, .string b] w fun e w' => e = .returned (.bool true) ∧ Below w.heap.size w w' := by
  have qT : ∀ (w : World) (a : Option Addr) (n c n' c' : Nat), (binOp .eql 43 (.slice a n c) (.slice none n' c')).run Ybaf.prog w = .ok (.bool a.isNone) w := fun w a n c n' c' => Lib.run_eql_slice_nil w _ _ a n c n' c' Ybaf.underlying43
  unfold decC
  go_enter Ybaf.func9, Ybaf.ntmps9
  go_wp2
  go_ret
  exact ⟨rfl, (Below.refl _ _).alloc (Nat.le_refl _) _⟩

theorem receipt_is (Q : Nat) (t now : Int) (ht : 0 ≤ t ∧ t ≤ 9223372036854775807) (w : World) (hc : w.cell? ⟨Q, 3, none⟩ = some (.int .i64 now)) (hf : w.frozen? ⟨Q, 3, none⟩ = false) :
    Calls Ybaf.prog 28 #[.pointer (some ⟨Q, 3, none⟩), .int .i64 t] w fun e w' => e = .returned (.int .i64 (t - 1)) ∧ w' = w.setCell ⟨Q, 3, none⟩ (.int .i64 t) := by
  have e1 : IntKind.i64.wrap (t - 1) = t - 1 := by unfold IntKind.wrap; simp [IntKind.bits, IntKind.signed]; omega
  obtain ⟨h1, h2⟩ := ht
  go_enter Ybaf.func28, Ybaf.ntmps28
  go_wp2
  go_ret
  exact ⟨rfl, rfl⟩

theorem due_none (Q : Nat) (v : Value) (t : Int) (w : World) (hc : w.cell? ⟨Q, 10, none⟩ = some (.slice none 0 0)) :
    Calls Ybaf.prog 27 #[.pointer (some ⟨Q, 0, none⟩), v, .int .i64 t] w fun e w' => e = .returned v ∧ w' = w := by
  go_enter Ybaf.func27, Ybaf.ntmps27
  go_wp2
  refine wp_loop_rounds 1 ?_
  rw [rounds_succ]
  go_wp2
  go_ret
  exact ⟨rfl, rfl⟩

end Go.Proofs.YbulkcmgaFmt
