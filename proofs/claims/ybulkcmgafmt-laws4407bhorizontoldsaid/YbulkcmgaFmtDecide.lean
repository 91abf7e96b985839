import Derived.Test.YbulkcmgaFmtClock
namespace Go.Proofs.YbulkcmgaFmt
open Go Go.RowKit Go.Extern.Stop Go.Stop Go.Extern

theorem info45 : (Ybaf.prog.info? 45).map (fun i => (i.zero, i.size, i.bytes)) = some (some (.agg #[.int .i64 0, .int .u8 0, .int .u64 0, .string ⟨#[]⟩, .string ⟨#[]⟩, .string ⟨#[]⟩, .slice none 0 0, .slice none 0 0]), 8, 120) := by kernel_rfl

theorem news_cells (w : World) (vs : List Value) (t : TypeId) : ∀ j u, vs[j]? = some u → (w.alloc (.cells vs.toArray t)).cell? ((⟨w.heap.size, 0, none⟩ : Addr).add j) = some u := by
  intro j u hj
  rw [Addr.add_mid, Nat.zero_add]
  have h : Has (w.alloc (.cells vs.toArray t)) w.heap.size t vs := ⟨vs.toArray, heap_alloc_new w _, by simp⟩
  exact h.cell j hj

/-- One cell holds v, may be written. -/
def At (w : World) (b o : Nat) (v : Value) : Prop := w.cell? ⟨b, o, none⟩ = some v ∧ w.frozen? ⟨b, o, none⟩ = false
theorem At.cell {w : World} {b o : Nat} {v : Value} (h : At w b o v) : w.cell? ⟨b, o, none⟩ = some v := h.1
theorem At.lt {w : World} {b o : Nat} {v : Value} (h : At w b o v) : b < w.heap.size := World.block_lt_of_cell? w ⟨b, o, none⟩ h.1
theorem At.only {S : List Nat} {w w' : World} {b o : Nat} {v : Value} (h : At w b o v) (k : Only S w w') (hb : b ∉ S) : At w' b o v :=
  ⟨(k.cell (p := ⟨b, o, none⟩) h.lt hb).trans h.1, (World.frozen?_of_block (w := w) (a := ⟨b, o, none⟩) (k.block b h.lt hb)).trans h.2⟩
theorem At.below {B : Nat} {w w' : World} {b o : Nat} {v : Value} (h : At w b o v) (k : Below B w w') (hb : b < B) : At w' b o v :=
  ⟨(k.cell (p := ⟨b, o, none⟩) hb).trans h.1, (k.frozen (p := ⟨b, o, none⟩) hb).trans h.2⟩

theorem decide_is (O T R : Nat) (t round : Int) (p b : ByteArray) (w : World) (hO : At w O 0 (.slice none 0 0)) (hT : w.cell? ⟨T, 0, none⟩ = some (.int .i64 t)) (hR0 : w.cell? ⟨R, 0, none⟩ = some (.int .u64 round)) (hR1 : w.cell? ⟨R, 1, none⟩ = some (.string p)) :
    Calls Ybaf.prog 29 #[.int .u8 4, .string b, .pointer (some ⟨O, 0, none⟩), .pointer (some ⟨T, 0, none⟩), .pointer (some ⟨R, 0, none⟩)] w fun e w' => e = .returned (.tuple #[]) ∧ ∃ g cap, w'.cell? ⟨O, 0, none⟩ = some (.slice (some ⟨g, 0, none⟩) 1 cap) ∧ Has w' g 45 (decC t 4 round p b) ∧ w.heap.size ≤ g ∧ Only [O] w w' := by
  obtain ⟨hc, hf⟩ := hO
  have hlt : O < w.heap.size := World.block_lt_of_cell? w ⟨O, 0, none⟩ hc
  have B := hidn ((Below.refl _ w).alloc (Nat.le_refl _) (.cells (decC t 4 round p b).toArray 45))
  have N := hidn (news_cells w (decC t 4 round p b) 45)
  go_enter Ybaf.func29, Ybaf.ntmps29
  go_wp2_with (at_builtin; refine wpList_append_nil rfl _ _ 38 rfl 45 8 120 _ Ybaf.underlying38 info45 rfl (by decide) (by decide) rfl ⟨w.heap.size, 0, none⟩ 1 (decC t 4 round p b) rfl rfl N.out (by simp [decC, Value.oneCell']) ?_; intro g cap w1 x1 x2 x3; have y1 := (x3.out.cell (p := ⟨O, 0, none⟩) (by simp; omega)).trans ((B.out.cell (p := ⟨O, 0, none⟩) hlt).trans hc); have y2 := (x3.out.frozen (p := ⟨O, 0, none⟩) (by simp; omega)).trans ((B.out.frozen (p := ⟨O, 0, none⟩) hlt).trans hf))
  go_end0
  have hne : g ≠ O := by have := x2.out; simp at this; omega
  have hg : w.heap.size ≤ g := by have := x2.out; simp at this; omega
  have o1 : Only [O] w w1 := (Only.of_below B.out).trans (Only.of_below x3.out)
  have o2 : Only [O] w1 (w1.setCell ⟨O, 0, none⟩ (.slice (some ⟨g, 0, none⟩) 1 cap)) := (Only.refl _ _).setCell (by simp) _
  refine ⟨rfl, g, cap, by go_simp, x1.out.only o2 (by simpa using hne), hg, o1.trans o2⟩

end Go.Proofs.YbulkcmgaFmt
