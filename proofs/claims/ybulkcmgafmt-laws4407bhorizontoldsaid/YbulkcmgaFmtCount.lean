/-
  Counting: the maps' sizes and the heap's length told by the model.
-/
import Derived.Test.YbulkcmgaFmtForget
namespace Go.Proofs.YbulkcmgaFmt
open Go Go.RowKit Go.Maps

theorem nodup_le {α : Type} [DecidableEq α] : ∀ {l1 l2 : List α}, l1.Nodup → (∀ x, x ∈ l1 → x ∈ l2) → l1.length ≤ l2.length
  | [], _, _, _ => Nat.zero_le _
  | x :: r, l2, h, k => by
    obtain ⟨h1, h2⟩ := List.nodup_cons.1 h
    have hx : x ∈ l2 := k x (by simp)
    have := nodup_le (l1 := r) (l2 := l2.erase x) h2 (fun y hy => by
      have hne : y ≠ x := fun e => h1 (e ▸ hy)
      exact (List.mem_erase_of_ne hne).2 (k y (by simp [hy])))
    rw [List.length_erase_of_mem hx] at this
    have hp : 0 < l2.length := List.length_pos_of_mem hx
    simp only [List.length_cons]
    omega
theorem nodup_len {α : Type} [DecidableEq α] {l1 l2 : List α} (h1 : l1.Nodup) (h2 : l2.Nodup) (k : ∀ x, x ∈ l1 ↔ x ∈ l2) : l1.length = l2.length :=
  Nat.le_antisymm (nodup_le h1 (fun x h => (k x).1 h)) (nodup_le h2 (fun x h => (k x).2 h))

theorem nodup_lenC {α : Type} {l1 l2 : List α} (h1 : l1.Nodup) (h2 : l2.Nodup) (k : ∀ x, x ∈ l1 ↔ x ∈ l2) : l1.length = l2.length :=
  @nodup_len α (fun a b => Classical.propDecidable (a = b)) l1 l2 h1 h2 k

theorem cnt_filter (P : Nat → Bool) : ∀ n, cnt P n = ((List.range n).filter P).length
  | 0 => rfl
  | n + 1 => by
    rw [cnt, cnt_filter P n, List.range_succ, List.filter_append, List.length_append]
    by_cases h : P n = true <;> simp [h]

theorem map_nodup {α : Type} {f : Nat → α} {P : Nat → Bool} {n : Nat} (h : ∀ i j, i < n → j < n → P i = true → P j = true → f i = f j → i = j) : (((List.range n).filter P).map f).Nodup := by
  refine List.pairwise_map.2 ?_
  refine List.Pairwise.imp_of_mem ?_ (List.Pairwise.filter P (List.nodup_range (n := n)))
  intro a b ha hb hne e
  obtain ⟨h1, h2⟩ := List.mem_filter.1 ha
  obtain ⟨h3, h4⟩ := List.mem_filter.1 hb
  exact hne (h a b (by simpa using h1) (by simpa using h3) h2 h4 e)

theorem keys_of {w : World} {k : TypeId} {R : Value → Option (DataW Nat × List MemPlace)} {B n : Nat} {D : DataW Nat} (o : w.ownsMap Ybaf.prog k R B n D) (K : Keyed Ybaf.prog k) :
    ∃ l : List Lit, l.Nodup ∧ l.length = Maps.size D ∧ (∀ x, x ∈ l ↔ Maps.has D x = true) ∧ ∀ x, x ∈ l → KeysOf Ybaf.prog k x := by
  have ht := o.tidy K
  obtain ⟨es, c, hb, F, hs, rfl⟩ := o
  obtain ⟨es', e, hp⟩ := ht
  have hk := fit_keys F
  refine ⟨es'.map (·.1), List.pairwise_map.2 hp, ?_, fun x => ?_, fun x hx => ?_⟩
  · rw [e]; simp [Maps.size]
  · rw [e]
    simp only [Maps.has, List.any_eq_true, List.mem_map]
    constructor
    · rintro ⟨p, hp', rfl⟩
      refine ⟨p, hp', WideAt.sameKey_self ?_⟩
      have : p ∈ (es.toList.map (WideElems.rg Ybaf.prog k R)).foldr DataW.insert [] := by
        have := (DataW.map.inj e)
        rw [this]; exact hp'
      obtain ⟨v, hv⟩ := hk p (mem_sorted.1 this)
      exact K.key hv
    · rintro ⟨p, hp', h⟩
      exact ⟨p, hp', WideAt.sameKey_eq h⟩
  · obtain ⟨p, hp', rfl⟩ := List.mem_map.1 hx
    have : p ∈ (es.toList.map (WideElems.rg Ybaf.prog k R)).foldr DataW.insert [] := by
      have := (DataW.map.inj e)
      rw [this]; exact hp'
    exact hk p (mem_sorted.1 this)

variable {w w' : World} {bs RB M B n X b s : Nat} {hold : Bool} {k hi fl tp : Int} {ex : Int → Prop} {m : Md} {al : Nat → Bool} {g : Int → Option Nat} {h : Int → ByteArray → Option Nat} {sv : Value} {a : Nat → Int} {sp : Option Nat}

theorem str_inj {p q : ByteArray} (h : (Lit.string p.data.toList) = .string q.data.toList) : p = q := by
  have : p.data.toList = q.data.toList := by simpa using h
  cases p; cases q; simp at this; simp [this]

/-- A round's map has one entry for each entry that is alive there. -/
theorem Rx.size_inn (x : Rx w bs RB hold k hi fl tp ex m al M g h sv n a sp) {r : Int} (hg : (g r).isSome = true) (i : Inn w' B (h r) s) : s = cnt (fun i => al i && m.rd i == r) m.ne := by
  obtain ⟨D, o, hs, hat⟩ := i
  obtain ⟨l, l1, l2, l3, l4⟩ := keys_of o key9
  rw [← hs, ← l2, cnt_filter, ← List.length_map (f := fun i => Lit.string (m.pr i).data.toList)]
  refine nodup_lenC l1 (map_nodup (fun i j hi hj h1 h2 e => ?_)) (fun y => ?_)
  · simp at h1 h2
    exact x.mok.uq i j hi hj (by rw [h1.2, h2.2]) (str_inj e)
  · constructor
    · intro hy
      obtain ⟨v, hv⟩ := l4 y hy
      obtain ⟨p, _, rfl, _⟩ := keyStr hv
      have hh := (l3 _).1 hy
      rw [Inn.has hat] at hh
      obtain ⟨X, hX⟩ := Option.isSome_iff_exists.1 hh
      obtain ⟨i, hi, h1, h2, h3, _⟩ := (x.hal r hg p X).1 hX
      exact List.mem_map.2 ⟨i, List.mem_filter.2 ⟨by simpa using hi, by simp [h1, h2]⟩, by rw [h3]⟩
    · intro hy
      obtain ⟨i, hi, rfl⟩ := List.mem_map.1 hy
      obtain ⟨h1, h2⟩ := List.mem_filter.1 hi
      simp at h1 h2
      refine (l3 _).2 ?_
      rw [Inn.has hat, (x.hal r hg (m.pr i) (m.rc i)).2 ⟨i, h1, h2.1, h2.2, rfl, rfl⟩]
      rfl

/-- Is entry i the first alive of its round? -/
def first (m : Md) (al : Nat → Bool) (i : Nat) : Bool := al i && (List.range i).all fun j => !(al j && m.rd j == m.rd i)
theorem first_spec {i : Nat} : first m al i = true ↔ al i = true ∧ ∀ j, j < i → ¬ (al j = true ∧ m.rd j = m.rd i) := by
  simp only [first, Bool.and_eq_true, List.all_eq_true, List.mem_range]
  constructor
  · rintro ⟨h1, h2⟩
    refine ⟨h1, fun j hj ⟨h3, h4⟩ => ?_⟩
    have := h2 j hj
    simp [h3, h4] at this
  · rintro ⟨h1, h2⟩
    refine ⟨h1, fun j hj => ?_⟩
    have := h2 j hj
    cases e : al j <;> simp [e] at this ⊢
    exact this
theorem first_of {r : Int} : ∀ (i : Nat), al i = true → m.rd i = r → ∃ j, j ≤ i ∧ first m al j = true ∧ m.rd j = r := by
  intro i
  induction i using Nat.strongRecOn with
  | ind i ih =>
    intro h1 h2
    by_cases e : ∃ j, j < i ∧ al j = true ∧ m.rd j = m.rd i
    · obtain ⟨j, hj, h3, h4⟩ := e
      obtain ⟨l, k1, k2, k3⟩ := ih j hj h3 (h4.trans h2)
      exact ⟨l, by omega, k2, k3⟩
    · exact ⟨i, Nat.le_refl _, first_spec.2 ⟨h1, fun j hj hh => e ⟨j, hj, hh⟩⟩, h2⟩
theorem first_inj {i j : Nat} (h1 : first m al i = true) (h2 : first m al j = true) (e : m.rd i = m.rd j) : i = j := by
  obtain ⟨a1, b1⟩ := first_spec.1 h1
  obtain ⟨a2, b2⟩ := first_spec.1 h2
  rcases Nat.lt_trichotomy i j with hl | hl | hl
  · exact absurd ⟨a1, e⟩ (b2 i hl)
  · exact hl
  · exact absurd ⟨a2, e.symm⟩ (b1 j hl)

/-- The rounds' map has one entry for each round that lives. -/
theorem Rx.size_tb (x : Rx w bs RB hold k hi fl tp ex m al M g h sv n a sp) (t : Tb w M g s) : s = cnt (first m al) m.ne := by
  obtain ⟨D, o, hs, hat⟩ := t
  obtain ⟨l, l1, l2, l3, l4⟩ := keys_of o key22
  rw [← hs, ← l2, cnt_filter, ← List.length_map (f := fun i => Lit.int .u64 (m.rd i))]
  refine nodup_lenC l1 (map_nodup (fun i j hi hj h1 h2 e => first_inj h1 h2 (by simpa using e))) (fun y => ?_)
  · constructor
    · intro hy
      obtain ⟨v, hv⟩ := l4 y hy
      obtain ⟨r, _, rfl, _⟩ := Maps.keyOf_int_inv Ybaf.underlying22 hv
      have hh := (l3 _).1 hy
      rw [Tb.has hat] at hh
      obtain ⟨i, hi, h1, h2⟩ := (x.gal r).1 hh
      obtain ⟨j, hj, k1, k2⟩ := first_of i h1 h2
      exact List.mem_map.2 ⟨j, List.mem_filter.2 ⟨by simp; omega, k1⟩, by rw [k2]⟩
    · intro hy
      obtain ⟨i, hi, rfl⟩ := List.mem_map.1 hy
      obtain ⟨h1, h2⟩ := List.mem_filter.1 hi
      refine (l3 _).2 ?_
      rw [Tb.has hat]
      exact (x.gal _).2 ⟨i, by simpa using h1, (first_spec.1 h2).1, rfl⟩

/-- The heap has one number for each round that lives at or above the floor. -/
theorem Rx.size_heap (x : Rx w bs RB hold k hi fl fl (fun _ => False) m al M g h sv n a sp) : n = cnt (fun i => first m al i && decide (fl ≤ m.rd i)) m.ne := by
  have hl : n = ((List.range n).map a).length := by simp
  rw [hl, cnt_filter, ← List.length_map (f := m.rd)]
  refine nodup_len ?_ (map_nodup (fun i j hi hj h1 h2 e => first_inj (by simp at h1; exact h1.1) (by simp at h2; exact h2.1) e)) (fun r => ?_)
  · have := map_nodup (f := a) (P := fun _ => true) (n := n) (fun i j hi hj _ _ e => x.ij i j hi hj e)
    rwa [List.filter_eq_self.2 (by simp)] at this
  · constructor
    · intro hr
      obtain ⟨j, hj, rfl⟩ := List.mem_map.1 hr
      have hj' : j < n := by simpa using hj
      obtain ⟨i, hi, h1, h2⟩ := (x.gal _).1 (x.hg j hj')
      obtain ⟨l, hl, k1, k2⟩ := first_of i h1 h2
      exact List.mem_map.2 ⟨l, List.mem_filter.2 ⟨by simp; omega, by simp [k1, k2, x.top j hj']⟩, k2⟩
    · intro hr
      obtain ⟨i, hi, rfl⟩ := List.mem_map.1 hr
      obtain ⟨h1, h2⟩ := List.mem_filter.1 hi
      simp at h1 h2
      rcases x.hn i h1 (first_spec.1 h2.1).1 with ⟨j, hj, e⟩ | ⟨_, _, e⟩ | e
      · exact List.mem_map.2 ⟨j, by simpa using hj, e⟩
      · omega
      · exact e.elim

end Go.Proofs.YbulkcmgaFmt
