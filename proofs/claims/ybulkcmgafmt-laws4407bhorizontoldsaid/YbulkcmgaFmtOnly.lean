/-
  'Only S w w'': blocks outside the list S that lay in w are in w' as they were; new blocks may have come.
-/
import Derived.Test.YbulkcmgaFmtBase
namespace Go.Proofs.YbulkcmgaFmt
open Go Go.RowKit

structure Only (S : List Nat) (w w' : World) : Prop where
  os : w'.os = w.os
  tape : w'.tape = w.tape
  output : w'.output = w.output
  size : w.heap.size ≤ w'.heap.size
  block : ∀ k, k < w.heap.size → k ∉ S → w'.heap[k]? = w.heap[k]?

namespace Only
variable {S : List Nat} {w w1 w2 : World}
theorem refl (S : List Nat) (w : World) : Only S w w := ⟨rfl, rfl, rfl, Nat.le_refl _, fun _ _ _ => rfl⟩
theorem trans (h : Only S w w1) (k : Only S w1 w2) : Only S w w2 :=
  ⟨k.os.trans h.os, k.tape.trans h.tape, k.output.trans h.output, Nat.le_trans h.size k.size, fun j hj hS => (k.block j (Nat.lt_of_lt_of_le hj h.size) hS).trans (h.block j hj hS)⟩
theorem mono {S' : List Nat} (h : Only S w w1) (hS : ∀ k, k ∈ S → k ∈ S') : Only S' w w1 := ⟨h.os, h.tape, h.output, h.size, fun j hj hn => h.block j hj fun hm => hn (hS j hm)⟩
theorem drew (h : Only S w w1) : Only S w w1.drew := ⟨h.os, h.tape, h.output, h.size, h.block⟩
theorem drewN (h : Only S w w1) (n : Nat) : Only S w (w1.drewN n) := ⟨h.os, h.tape, h.output, h.size, h.block⟩
theorem alloc (h : Only S w w1) (o : Obj) : Only S w (w1.alloc o) :=
  ⟨h.os, h.tape, h.output, by simp; have := h.size; omega, fun j hj hn => (Below.heap_alloc w1 o j (Nat.lt_of_lt_of_le hj h.size)).trans (h.block j hj hn)⟩
theorem setCell (h : Only S w w1) {a : Addr} (ha : a.block ∈ S) (v : Value) : Only S w (w1.setCell a v) :=
  ⟨h.os, h.tape, h.output, by simpa using h.size, fun j hj hn => (Below.heap_setCell w1 a v j (fun e => hn (e ▸ ha))).trans (h.block j hj hn)⟩
theorem setCells (b : Nat) (hb : b ∈ S) : ∀ (vs : List Value) (o : Nat) {w1 : World}, Only S w w1 → Only S w (w1.setCells b o vs)
  | [], _, _, h => h
  | v :: r, o, _, h => setCells b hb r (o + 1) (h.setCell hb v)
theorem of_below (h : Below w.heap.size w w1) : Only S w w1 := ⟨h.os, h.tape, h.output, h.size, fun j hj _ => h.block j hj⟩
theorem below (h : Only S w w1) {B : Nat} (hB : B ≤ w.heap.size) (hS : ∀ k, k ∈ S → B ≤ k) : Below B w w1 :=
  ⟨h.os, h.tape, h.output, h.size, fun j hj => h.block j (Nat.lt_of_lt_of_le hj hB) fun hm => by have := hS j hm; omega⟩
theorem row (h : Only S w w1) {b t n : Nat} {f : Nat → Value} (hr : w.rowIs b t n f) (hb : b ∉ S) : w1.rowIs b t n f := hr.of_block (h.block b hr.lt hb)
theorem cell (h : Only S w w1) {p : Addr} (hp : p.block < w.heap.size) (hn : p.block ∉ S) : w1.cell? p = w.cell? p := World.cell?_of_block (w := w) (h.block p.block hp hn)
end Only

end Go.Proofs.YbulkcmgaFmt
