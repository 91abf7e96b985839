import Derived.Test.YbulkcmgaFmtPush
namespace Go.Proofs.YbulkcmgaFmt
open Go Go.RowKit Go.Extern.Stop Go.Stop Go.Extern

theorem up_zero (v : Value) (w : World) : Calls Ybaf.prog 33 #[v, .int .i64 0] w fun e w' => e = .returned (.tuple #[]) ∧ w' = w := by
  go_enter Ybaf.func33, Ybaf.ntmps33
  go_wp2
  refine wp_loop_rounds 1 ?_
  rw [rounds_succ]
  go_wp2
  go_end0
  exact ⟨rfl, rfl⟩

theorem len_is (a : Option Addr) (n c : Nat) (w : World) : Calls Ybaf.prog 60 #[.slice a n c] w fun e w' => e = .returned (.int .i64 n) ∧ w' = w := by
  go_enter Ybaf.func60, Ybaf.ntmps60
  go_wp2
  go_ret
  exact ⟨rfl, rfl⟩

theorem mPush (v : Value) (w : World) : (Go.method 246 111 v "Push").run Ybaf.prog w = .ok (68, v) w := by kernel_rfl
theorem hmLen : ((Ybaf.prog.info? 111).map fun i => (i.methods.find? (fun x => x.name == "Len")).map fun m => (m.path, m.func)) = some (some (#[], some (60, false))) := by kernel_rfl
theorem under111 (w : World) : (underlying 111).run Ybaf.prog w = .ok (.pointer 48) w := by kernel_rfl
theorem wrapnil (a : Addr) (x y : ByteArray) (w : World) : (Builtin.ssaWrapNilChk_ #[111] 111 #[.pointer (some a), .string x, .string y]).run Ybaf.prog w = .ok (.pointer (some a)) w := by kernel_rfl
theorem recvAt (a : Addr) (nm : String) (v : Value) (w : World) (hl : (loadVar 48 a).run Ybaf.prog w = .ok v w) : (receiverAt 111 (.val (.pointer (some a))) false (some nm)).run Ybaf.prog w = .ok v w := by
  unfold receiverAt
  simp only [Sem.run_bind, under111, Result.andThen_ok, Place.get, Sem.run_pure, wrapnil, strVal, asAddr, hl]
theorem mLen (a : Addr) (v : Value) (w : World) (h : w.cell? a = some v) : (Go.method 246 111 (.pointer (some a)) "Len").run Ybaf.prog w = .ok (60, v) w := by
  obtain ⟨i, hi, h2⟩ := Option.map_eq_some_iff.1 hmLen
  obtain ⟨m, hm', h3⟩ := Option.map_eq_some_iff.1 h2
  simp only [Prod.mk.injEq] at h3
  obtain ⟨hp, hf⟩ := h3
  have ht : (typeInfo 111).run Ybaf.prog w = .ok i w := by simp [typeInfo, hi]
  have hl : (loadVar 48 a).run Ybaf.prog w = .ok v w := by simp [loadVar, run_load, h]
  rw [show (246 : Nat) = 245 + 1 from rfl, Go.method]
  simp only [Sem.run_bind, ht, Result.andThen_ok, hm', hp, hf, follow, Sem.run_pure, Array.isEmpty, Array.size, List.length, decide_true, if_true, recvAt a _ v w hl]

set_option maxHeartbeats 2000000 in
set_option maxRecDepth 100000 in
theorem hpush_is (NB : Nat) (att seq round : Int) (p b : ByteArray) (w : World) (hN : At w NB 3 (.slice none 0 0)) :
    Calls Ybaf.prog 21 #[.iface 111 (.pointer (some ⟨NB, 3, none⟩)), .iface 66 (.agg (evC att seq round p b).toArray)] w fun e w' => e = .returned (.tuple #[]) ∧ ∃ g, One w' NB 3 66 g (evC att seq round p b) ∧ w.heap.size ≤ g ∧ Only [NB] w w' ∧ Rest w w' NB [3] := by
  have K := hidn (qpush_is NB att seq round p b w hN)
  have m1 := mPush
  clear hN
  go_enter Ybaf.func21, Ybaf.ntmps21
  go_wp2_with (first
    | (go_at_call 68; refine K.out.mono ?_; rintro e w1 ⟨rfl, g, x1, x2, x3⟩; obtain ⟨⟨cap, y1⟩, y2⟩ := x1; have m2 := mLen _ _ _ y1)
    | (go_at_call 60; refine (len_is _ _ _ _).mono ?_; rintro e w2 ⟨rfl, rfl⟩)
    | (go_at_call 33; refine (up_zero _ _).mono ?_; rintro e w2 ⟨rfl, rfl⟩))
  go_end0
  exact ⟨rfl, g, ⟨⟨cap, y1⟩, y2⟩, x2, x3⟩

end Go.Proofs.YbulkcmgaFmt
