import Derived.Test.YbulkcmekFmtFull2
import Derived.Test.YbulkcmekFmtFmt
namespace Go.Proofs.YbulkcmekFmt
open Go Go.RowKit Go.Extern.Stop Go.Stop Go.Extern

attribute [local go_sem] Ybaf.call20 Ybaf.guard Ybaf.fmt0 Ybaf.fmt0r Ybaf.fmt1 Ybaf.fmt1r Ybaf.op2_100w Ybaf.op3_100w Ybaf.op23_100w Ybaf.ptr91 Ybaf.elem91 Ybaf.isError91' Ybaf.ptr75 Ybaf.elem75 Ybaf.isError75'

/-- fmt.Errorf with the sentinel at ta wrapped. -/
theorem errorf_w (F : Interp) (x c : Nat) (n : Int) (ta : Addr) (s : ByteArray) (w : World) (hF : F.answers w.tape) (h0 : w.cell? ⟨x, 0, none⟩ = some (.iface 2 (.int .i64 n))) (h1 : w.cell? ⟨x, 1, none⟩ = some (errV ta)) (hs : w.cell? ta = some (.string s)) :
    Calls Ybaf.prog 15 #[.string ⟨#[114, 101, 99, 111, 114, 100, 32, 37, 100, 58, 32, 37, 119]⟩, .slice (some ⟨x, 0, none⟩) 2 c] w fun e w' => ∃ P, e = .returned (.iface 75 (.pointer (some ⟨P, 0, none⟩))) ∧ w'.cell? ⟨P, 1, none⟩ = some (errV ta) ∧ Below w.heap.size w w' := by
  have hF' := answers_open hF
  have hop := Ybaf.opPlain91_119w "fmt.errorf" ta s w hs
  go_enter Ybaf.func15, Ybaf.ntmps15
  go_wp2
  go_ret
  exact ⟨w.heap.size, rfl, by go_simp, ((Below.refl _ _).alloc (Nat.le_refl _) _).drew⟩

theorem heap_new (w : World) (o : Obj) : (w.alloc o).drew.heap[w.heap.size]? = some o := by
  show (w.heap.push o)[w.heap.size]? = some o
  simp

/-- fmt.Errorf at a length beyond the bound. -/
theorem errorf_d (F : Interp) (x c : Nat) (n m : Int) (w : World) (hF : F.answers w.tape) (h0 : w.cell? ⟨x, 0, none⟩ = some (.iface 2 (.int .i64 n))) (h1 : w.cell? ⟨x, 1, none⟩ = some (.iface 23 (.int .u32 m))) (h2 : w.cell? ⟨x, 2, none⟩ = some (.iface 3 (.int .i64 262144))) :
    Calls Ybaf.prog 15 #[.string ⟨#[114, 101, 99, 111, 114, 100, 32, 37, 100, 58, 32, 99, 97, 112, 116, 117, 114, 101, 100, 32, 108, 101, 110, 103, 116, 104, 32, 37, 100, 32, 101, 120, 99, 101, 101, 100, 115, 32, 37, 100]⟩, .slice (some ⟨x, 0, none⟩) 3 c] w fun e w' =>
      ∃ X C, e = .returned (errV ⟨X, 0, none⟩) ∧ w'.heap[X]? = some (.cells C 93 (0, 0)) ∧ w.heap.size ≤ X ∧ Below w.heap.size w w' := by
  have hF' := answers_open hF
  go_enter Ybaf.func15, Ybaf.ntmps15
  go_wp2
  go_ret
  exact ⟨w.heap.size, _, rfl, heap_new w _, Nat.le_refl _, ((Below.refl _ _).alloc (Nat.le_refl _) _).drew⟩

/-- (*Reader).truncated. -/
theorem trunc (F : Interp) (D : Nat) (n : Int) (ta : Addr) (s : ByteArray) (w : World) (hF : F.answers w.tape) (h5 : w.cell? ⟨D, 5, none⟩ = some (.int .i64 n)) (hT : w.cell? ⟨1, 0, none⟩ = some (errV ta)) (hs : w.cell? ta = some (.string s)) (hta : ta.block < w.heap.size) :
    Calls Ybaf.prog 14 #[.pointer (some ⟨D, 0, none⟩)] w fun e w' => ∃ P, e = .returned (.iface 75 (.pointer (some ⟨P, 0, none⟩))) ∧ w'.cell? ⟨P, 1, none⟩ = some (errV ta) ∧ Below w.heap.size w w' := by
  have K := fun (o : Obj) (W : World) (hW : W = (w.drew).alloc o) => hid (fun h0 h1 => errorf_w F w.heap.size 2 n ta s W (by subst hW; exact hF) h0 h1 (by subst hW; exact ((((Below.refl _ w).drew).alloc (Nat.le_refl _) o).cell (p := ta) hta).trans hs))
  go_enter Ybaf.func14, Ybaf.ntmps14
  go_wp2
  go_region_with (first
    | (go_at_call 15; refine ((K _ _ rfl).out ?_ ?_).mono ?_; go_simp; go_simp; rintro e w1 ⟨P, rfl, b1, b2⟩))
  all_goals go_wp2
  all_goals go_ret
  all_goals exact ⟨P, rfl, b1, ((((Below.refl _ w).drew).alloc (Nat.le_refl _) _)).trans (b2.mono (by simp))⟩

end Go.Proofs.YbulkcmekFmt
