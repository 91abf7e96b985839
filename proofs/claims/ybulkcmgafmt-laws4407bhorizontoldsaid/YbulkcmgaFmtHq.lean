/-
  Swap, and the methods of *minHeap behind the interface; up, down.
-/
import Derived.Test.YbulkcmgaFmtHp
import Derived.BigRegion
namespace Go.Proofs.YbulkcmgaFmt
open Go Go.RowKit

set_option maxHeartbeats 1000000 in
theorem swap_is (G n c i j : Nat) (a : Nat → Int) (w : World) (hi : i < n) (hj : j < n) (h : Hr w G n c a) :
    Calls Ybaf.prog 56 #[.slice (some ⟨G, 0, none⟩) n c, .int .i64 i, .int .i64 j] w fun e w' => e = .returned (.tuple #[]) ∧ Hr w' G n c (swp a i j) ∧ Only [G] w w' := by
  have c1 := h.cell hi
  have c2 := h.cell hj
  have f1 := h.frozen i
  have f2 := h.frozen j
  have HK := hidn (Hr.swap (w := w.drew) (h.of_block rfl) hi hj)
  clear h
  by_cases hij : i = j
  · subst hij
    go_enter Ybaf.func56, Ybaf.ntmps56
    go_wp2
    go_region
    all_goals go_wp2
    all_goals go_end0
    all_goals exact ⟨rfl, HK.out, (((Only.refl [G] w).drew).setCell (by simp) _).setCell (by simp) _⟩
  · have hji : ¬ j = i := fun e => hij e.symm
    go_enter Ybaf.func56, Ybaf.ntmps56
    go_wp2
    go_region
    all_goals go_wp2
    all_goals go_end0
    all_goals exact ⟨rfl, HK.out, (((Only.refl [G] w).drew).setCell (by simp) _).setCell (by simp) _⟩

theorem hmLen94 : ((Ybaf.prog.info? 94).map fun i => (i.methods.find? (fun x => x.name == "Len")).map fun m => (m.path, m.func)) = some (some (#[], some (54, false))) := by kernel_rfl
theorem hmLess94 : ((Ybaf.prog.info? 94).map fun i => (i.methods.find? (fun x => x.name == "Less")).map fun m => (m.path, m.func)) = some (some (#[], some (55, false))) := by kernel_rfl
theorem hmSwap94 : ((Ybaf.prog.info? 94).map fun i => (i.methods.find? (fun x => x.name == "Swap")).map fun m => (m.path, m.func)) = some (some (#[], some (56, false))) := by kernel_rfl
theorem under94 (w : World) : (underlying 94).run Ybaf.prog w = .ok (.pointer 33) w := by kernel_rfl
theorem wrapnil94 (a : Addr) (x y : ByteArray) (w : World) : (Builtin.ssaWrapNilChk_ #[94] 94 #[.pointer (some a), .string x, .string y]).run Ybaf.prog w = .ok (.pointer (some a)) w := by kernel_rfl
theorem recvAt94 (a : Addr) (nm : String) (v : Value) (w : World) (hl : (loadVar 33 a).run Ybaf.prog w = .ok v w) : (receiverAt 94 (.val (.pointer (some a))) false (some nm)).run Ybaf.prog w = .ok v w := by
  unfold receiverAt
  simp only [Sem.run_bind, under94, Result.andThen_ok, Place.get, Sem.run_pure, wrapnil94, strVal, asAddr, hl]
theorem mVal94 (nm : String) (fn : Nat) (hm : ((Ybaf.prog.info? 94).map fun i => (i.methods.find? (fun x => x.name == nm)).map fun m => (m.path, m.func)) = some (some (#[], some (fn, false)))) (a : Addr) (v : Value) (w : World) (h : w.cell? a = some v) :
    (Go.method 246 94 (.pointer (some a)) nm).run Ybaf.prog w = .ok (fn, v) w := by
  obtain ⟨i, hi, h2⟩ := Option.map_eq_some_iff.1 hm
  obtain ⟨m, hm', h3⟩ := Option.map_eq_some_iff.1 h2
  simp only [Prod.mk.injEq] at h3
  obtain ⟨hp, hf⟩ := h3
  have ht : (typeInfo 94).run Ybaf.prog w = .ok i w := by simp [typeInfo, hi]
  have hl : (loadVar 33 a).run Ybaf.prog w = .ok v w := by simp [loadVar, run_load, h]
  rw [show (246 : Nat) = 245 + 1 from rfl, Go.method]
  simp only [Sem.run_bind, ht, Result.andThen_ok, hm', hp, hf, follow, Sem.run_pure, Array.isEmpty, Array.size, List.length, decide_true, if_true, recvAt94 a _ v w hl]
theorem mPush94 (v : Value) (w : World) : (Go.method 246 94 v "Push").run Ybaf.prog w = .ok (64, v) w := by kernel_rfl
theorem mPop94 (v : Value) (w : World) : (Go.method 246 94 v "Pop").run Ybaf.prog w = .ok (63, v) w := by kernel_rfl

theorem len94_is (a : Option Addr) (n c : Nat) (w : World) : Calls Ybaf.prog 54 #[.slice a n c] w fun e w' => e = .returned (.int .i64 n) ∧ w' = w := by
  go_enter Ybaf.func54, Ybaf.ntmps54
  go_wp2
  go_ret
  exact ⟨rfl, rfl⟩

/-- The slice in the rule's field, with its row. -/
structure Hw (w : World) (RB G n c : Nat) (a : Nat → Int) : Prop where
  ne : RB ≠ G
  at8 : At w RB 8 (.slice (some ⟨G, 0, none⟩) n c)
  row : Hr w G n c a

theorem Hw.drewN {w : World} {RB G n c : Nat} {a : Nat → Int} (h : Hw w RB G n c a) (q : Nat) : Hw (w.drewN q) RB G n c a := ⟨h.ne, h.at8, h.row.of_block rfl⟩

theorem Hw.onlyG {w w' : World} {RB G n c : Nat} {a a' : Nat → Int} (h : Hw w RB G n c a) (r : Hr w' G n c a') (o : Only [G] w w') : Hw w' RB G n c a' := ⟨h.ne, h.at8.only o (by simpa using h.ne), r⟩

end Go.Proofs.YbulkcmgaFmt
