/-
  The two kinds of maps of the rule: rounds to inner maps, producers to records; said as functions.
-/
import Derived.Test.YbulkcmgaFmtHeap
import Derived.Maps.RangeWalk
import Derived.Maps.OwnSet
import Derived.Maps.OwnOps
namespace Go.Proofs.YbulkcmgaFmt
open Go Go.RowKit Go.Maps

theorem key22 : Keyed Ybaf.prog 22 := int_keyed Ybaf.underlying22
theorem key9 : Keyed Ybaf.prog 9 := string_keyed Ybaf.underlying9
theorem zero34 (w : World) : (zeroValue 34).run Ybaf.prog w = .ok (.map none) w := by kernel_rfl
theorem zero75 (w : World) : (zeroValue 75).run Ybaf.prog w = .ok (.pointer none) w := by kernel_rfl

/-- How an inner map's reference reads. -/
def mapR : Value → Option (DataW Nat × List MemPlace)
  | .map (some B) => some (.held B, [])
  | .map none => some (.nil, [])
  | _ => none
/-- How a record's pointer reads. -/
def recR : Value → Option (DataW Nat × List MemPlace)
  | .pointer (some ⟨B, 0, none⟩) => some (.held B, [])
  | _ => none

def mv : Option Nat → Value
  | some B => .map (some B)
  | none => .map none
def pv : Option Nat → Value
  | some B => .pointer (some ⟨B, 0, none⟩)
  | none => .pointer none
def dv (z : DataW Nat) : Option Nat → DataW Nat
  | some B => .held B
  | none => z

theorem mapR_mv {v : Value} {o : Option Nat} {ps : List MemPlace} (h : mapR v = some (dv .nil o, ps)) : v = mv o := by
  unfold mapR at h
  split at h
  · cases o <;> simp [dv] at h
    simp [mv, h.1]
  · cases o <;> simp [dv] at h
    rfl
  · cases h
theorem recR_inv {v : Value} {y : DataW Nat × List MemPlace} (h : recR v = some y) : ∃ X, v = .pointer (some ⟨X, 0, none⟩) ∧ y = (.held X, []) := by
  unfold recR at h
  split at h
  · cases h
    exact ⟨_, rfl, rfl⟩
  · cases h

/-- The rounds' map at block M. -/
def Tb (w : World) (M : Nat) (g : Int → Option Nat) (n : Nat) : Prop :=
  ∃ D, w.ownsMap Ybaf.prog 22 mapR M n D ∧ Maps.size D = n ∧ ∀ r z, D.atKey (.int .u64 r) z = dv z (g r)
/-- A round's map at block B. -/
def Inn (w : World) (B : Nat) (h : ByteArray → Option Nat) (n : Nat) : Prop :=
  ∃ D, w.ownsMap Ybaf.prog 9 recR B n D ∧ Maps.size D = n ∧ ∀ p z, D.atKey (.string p.data.toList) z = dv z (h p)

variable {w w' : World} {M B n : Nat} {g : Int → Option Nat} {h : ByteArray → Option Nat}

theorem Tb.lt (t : Tb w M g n) : M < w.heap.size := by obtain ⟨D, o, _⟩ := t; exact o.lt
theorem Inn.lt (t : Inn w B h n) : B < w.heap.size := by obtain ⟨D, o, _⟩ := t; exact o.lt
theorem Tb.of_block (t : Tb w M g n) (e : w'.heap[M]? = w.heap[M]?) : Tb w' M g n := by
  obtain ⟨D, ⟨es, c, hb, k⟩, r⟩ := t
  exact ⟨D, ⟨es, c, e.trans hb, k⟩, r⟩
theorem Inn.of_block (t : Inn w B h n) (e : w'.heap[B]? = w.heap[B]?) : Inn w' B h n := by
  obtain ⟨D, ⟨es, c, hb, k⟩, r⟩ := t
  exact ⟨D, ⟨es, c, e.trans hb, k⟩, r⟩
theorem Tb.made (w : World) : Tb (w.alloc (.map #[] 0)) w.heap.size (fun _ => none) 0 := ⟨_, World.ownsMap_made _ _ _ _, rfl, fun _ _ => rfl⟩
theorem Inn.made (w : World) : Inn (w.alloc (.map #[] 0)) w.heap.size (fun _ => none) 0 := ⟨_, World.ownsMap_made _ _ _ _, rfl, fun _ _ => rfl⟩

theorem tight {k : TypeId} {R : Value → Option (DataW Nat × List MemPlace)} {D : DataW Nat} (o : w.ownsMap Ybaf.prog k R B n D) : w.ownsMap Ybaf.prog k R B (Maps.size D) D := by
  obtain ⟨es, c, hb, F, hs, rfl⟩ := o
  exact ⟨es, c, hb, F, by simp [Maps.size, length_sorted], rfl⟩

theorem Tb.has {D : DataW Nat} (hat : ∀ r z, D.atKey (.int .u64 r) z = dv z (g r)) (r : Int) : Maps.has D (.int .u64 r) = (g r).isSome := by
  cases hg : g r with
  | none => exact has_false_of_atKey fun z => by rw [hat, hg]; rfl
  | some X => exact has_true_of_atKey (y := .held X) fun z => by rw [hat, hg]; rfl
theorem Inn.has {D : DataW Nat} (hat : ∀ p z, D.atKey (.string p.data.toList) z = dv z (h p)) (p : ByteArray) : Maps.has D (.string p.data.toList) = (h p).isSome := by
  cases hg : h p with
  | none => exact has_false_of_atKey fun z => by rw [hat, hg]; rfl
  | some X => exact has_true_of_atKey (y := .held X) fun z => by rw [hat, hg]; rfl

theorem Tb.lookup (t : Tb w M g n) (r : Int) (hw : (Lit.int .u64 r).wf = true) : (Instr.lookup 32 (.map (some M)) (.int .u64 r) false).run Ybaf.prog w = .ok (mv (g r)) w := by
  obtain ⟨D, o, _, hat⟩ := t
  obtain ⟨v, ps, hrun, hv⟩ := o.lookup key22 Ybaf.underlying32 (zero34 w) (zd := .nil) (zp := []) rfl (keyOf_int_mk Ybaf.underlying22 hw)
  rw [hat] at hv
  rw [hrun, mapR_mv hv]
theorem Inn.lookup (t : Inn w B h n) (p : ByteArray) (hp : p.size ≤ maxLen) : (Instr.lookup 34 (.map (some B)) (.string p) false).run Ybaf.prog w = .ok (pv (h p)) w := by
  obtain ⟨D, ⟨es, clock, hb, F, _, rfl⟩, _, hat⟩ := t
  rcases Maps.fit_look false key9 Ybaf.underlying34 (zero75 w) hb F (WideMaps.keyOf_string_mk Ybaf.underlying9 hp) with ⟨hrun, _, h2⟩ | ⟨e0, y, _, _, hrun, hRv, h2, _⟩
  · have k := (hat p .nil).symm.trans (h2 .nil)
    cases e : h p with
    | none => simpa [pv] using hrun
    | some X => rw [e] at k; simp [dv] at k
  · obtain ⟨X, e1, e2⟩ := recR_inv hRv
    have k := (hat p .nil).symm.trans (h2 .nil)
    rw [show y.1 = .held X by simpa using congrArg Prod.fst e2] at k
    cases e : h p with
    | none => rw [e] at k; simp [dv] at k
    | some Z =>
      rw [e] at k
      obtain rfl : Z = X := by simpa [dv] using k
      simpa [pv, e1] using hrun
theorem inn_nil (w : World) (p : ByteArray) (hp : p.size ≤ maxLen) : (Instr.lookup 34 (.map none) (.string p) false).run Ybaf.prog w = .ok (.pointer none) w :=
  Maps.look_nil false key9 Ybaf.underlying34 (zero75 w) (WideMaps.keyOf_string_mk Ybaf.underlying9 hp)

theorem Tb.len (t : Tb w M g n) (ty : TypeId) : (Builtin.len_ #[32] ty #[.map (some M)]).run Ybaf.prog w = .ok (.int .i64 n) w := by
  obtain ⟨D, o, hs, _⟩ := t
  rw [← hs]
  exact o.len Ybaf.underlying32 ty
theorem Inn.len (t : Inn w B h n) (ty : TypeId) : (Builtin.len_ #[34] ty #[.map (some B)]).run Ybaf.prog w = .ok (.int .i64 n) w := by
  obtain ⟨D, o, hs, _⟩ := t
  rw [← hs]
  exact o.len Ybaf.underlying34 ty

/-- One key turned. -/
def setK {K : Type} [DecidableEq K] (f : K → Option Nat) (k : K) (o : Option Nat) : K → Option Nat := fun x => if x = k then o else f x

theorem lit_ne {r r' : Int} (e : r' ≠ r) : (Lit.int .u64 r') ≠ .int .u64 r := by simpa using e
theorem str_ne {p p' : ByteArray} (e : p' ≠ p) : (Lit.string p'.data.toList) ≠ .string p.data.toList := by
  simp
  intro k
  exact e (by cases p; cases p'; simp at k; simp [k])

theorem Tb.put (t : Tb w M g n) (r : Int) (hw : (Lit.int .u64 r).wf = true) (X : Nat) (hn : n < maxLen) :
    ∃ w', (Instr.mapUpdate 32 (.map (some M)) (.int .u64 r) (.map (some X))).run Ybaf.prog w = .ok () w' ∧ Tb w' M (setK g r (some X)) (if (g r).isSome then n else n + 1) ∧ w.grownBy w' (some M) := by
  obtain ⟨D, o, hs, hat⟩ := t
  obtain ⟨w', hrun, r1, r2⟩ := o.update key22 Ybaf.underlying32 hn (keyOf_int_mk Ybaf.underlying22 hw) (val := .map (some X)) (d := .held X) (ps := []) rfl
  have hsz : Maps.size (D.put (.int .u64 r) (.held X)) = if (g r).isSome then n else n + 1 := by
    rw [size_put (o.tidy key22), Tb.has hat, hs]
  refine ⟨w', hrun, ⟨_, hsz ▸ tight r1, hsz, fun r' z => ?_⟩, r2⟩
  by_cases e : r' = r
  · subst e
    rw [atKey_put_same o.isMap (k := .int .u64 _) trivial]
    simp [setK, dv]
  · rw [atKey_put_other (lit_ne e), hat]
    simp [setK, e]

theorem Inn.put (t : Inn w B h n) (p : ByteArray) (hp : p.size ≤ maxLen) (X : Nat) (hn : n < maxLen) :
    ∃ w', (Instr.mapUpdate 34 (.map (some B)) (.string p) (.pointer (some ⟨X, 0, none⟩))).run Ybaf.prog w = .ok () w' ∧ Inn w' B (setK h p (some X)) (if (h p).isSome then n else n + 1) ∧ w.grownBy w' (some B) := by
  obtain ⟨D, o, hs, hat⟩ := t
  obtain ⟨w', hrun, r1, r2⟩ := o.update key9 Ybaf.underlying34 hn (WideMaps.keyOf_string_mk Ybaf.underlying9 hp) (val := .pointer (some ⟨X, 0, none⟩)) (d := .held X) (ps := []) rfl
  have hsz : Maps.size (D.put (.string p.data.toList) (.held X)) = if (h p).isSome then n else n + 1 := by
    rw [size_put (o.tidy key9), Inn.has hat, hs]
  refine ⟨w', hrun, ⟨_, hsz ▸ tight r1, hsz, fun p' z => ?_⟩, r2⟩
  by_cases e : p' = p
  · subst e
    rw [atKey_put_same o.isMap (k := .string _) trivial]
    simp [setK, dv]
  · rw [atKey_put_other (str_ne e), hat]
    simp [setK, e]

theorem Tb.del (t : Tb w M g n) (r : Int) (hw : (Lit.int .u64 r).wf = true) (ty : TypeId) :
    ∃ w', (Builtin.delete_ #[32, 22] ty #[.map (some M), .int .u64 r]).run Ybaf.prog w = .ok (.tuple #[]) w' ∧ Tb w' M (setK g r none) (if (g r).isSome then n - 1 else n) ∧ w.grownBy w' (some M) := by
  obtain ⟨D, o, hs, hat⟩ := t
  obtain ⟨w', hrun, r1, r2⟩ := o.drop key22 Ybaf.underlying32 (keyOf_int_mk Ybaf.underlying22 hw) ty
  have hsz : Maps.size (D.del (.int .u64 r)) = if (g r).isSome then n - 1 else n := by
    have := size_del (k := .int .u64 r) (o.tidy key22)
    rw [Tb.has hat, hs] at this
    split at this <;> rename_i e <;> simp only [e] <;> simp <;> omega
  refine ⟨w', hrun, ⟨_, hsz ▸ tight r1, hsz, fun r' z => ?_⟩, r2.grown⟩
  by_cases e : r' = r
  · subst e
    rw [atKey_del_same]
    simp [setK, dv]
  · rw [atKey_del_other (lit_ne e), hat]
    simp [setK, e]

theorem Inn.clear (t : Inn w B h n) (ty : TypeId) :
    ∃ w', (Builtin.clear_ #[34] ty #[.map (some B)]).run Ybaf.prog w = .ok (.tuple #[]) w' ∧ Inn w' B (fun _ => none) 0 ∧ w.grownBy w' (some B) := by
  obtain ⟨D, ⟨es, c, hb, F, _⟩, _⟩ := t
  refine ⟨ChangeMaps.setBlock w B (.map #[] c), ?_, ⟨.map [], ⟨#[], c, ChangeMaps.heap_setBlock_same hb _, ⟨by simp, MapKept.stamped_empty c, by simp⟩, Nat.le_refl _, rfl⟩, rfl, fun _ _ => rfl⟩, ⟨rfl, rfl, rfl, by simp [ChangeMaps.setBlock], fun i _ hi => ChangeMaps.heap_setBlock_other hb _ (fun e => hi (by rw [e]))⟩⟩
  simp [Builtin.clear_, run_underlying Ybaf.underlying34, MapKept.run_getObj_map hb, MapKept.run_setObj_map _ hb, Result.andThen, ChangeMaps.setBlock]

end Go.Proofs.YbulkcmgaFmt
