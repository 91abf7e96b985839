import Derived.Test.YbulkcmekFmtPc
import Derived.Test.YbulkcmekFmtLeaf
namespace Go.Proofs.YbulkcmekFmt
open Go Go.RowKit Go.Extern.Stop Go.Stop Go.Extern

/-- Four bytes at p, in the file's order. -/
def u32at (big : Bool) (Y : Nat → Int) (p : Nat) : Int := if big then be4 (Y p) (Y (p + 1)) (Y (p + 2)) (Y (p + 3)) else be4 (Y (p + 3)) (Y (p + 2)) (Y (p + 1)) (Y p)

def Byt (Y : Nat → Int) : Prop := ∀ i, 0 ≤ Y i ∧ Y i ≤ 255

def otOf (big : Bool) : Nat := if big then 54 else 53
def ufOf (big : Bool) : Nat := if big then 58 else 50

theorem u32_range {big : Bool} {Y : Nat → Int} (hY : Byt Y) (p : Nat) : 0 ≤ u32at big Y p ∧ u32at big Y p < 4294967296 := by
  have h0 := hY p
  have h1 := hY (p + 1)
  have h2 := hY (p + 2)
  have h3 := hY (p + 3)
  cases big <;> simp only [u32at, be4, if_true, if_false, Bool.false_eq_true] <;> omega

/-- Whatever lay in W lies in w' as it lay. -/
def Onw (W w' : World) : Prop := Below W.heap.size W w'
theorem Onw.trans {X W w' : World} (h2 : Onw W w') (h1 : Onw X W) : Onw X w' := Below.trans h1 (Below.mono h2 h1.size)

theorem u32_call {big : Bool} {D q : Nat} {Y : Nat → Int} {wc : World} (hY : Byt Y) (hD : D < wc.heap.size) (hc : ∀ i, i < 16 → wc.cell? ⟨D, 6 + i, none⟩ = some (.int .u8 (Y (q + i)))) (o c : Nat) (ho : o ≤ 12) :
    ∀ W, Below wc.heap.size wc W → Calls Ybaf.prog (ufOf big) #[.agg #[], .slice (some ⟨D, 6 + o, none⟩) 4 c] W fun e w' => e = .returned (.int .u32 (u32at big Y (q + o))) ∧ Below wc.heap.size wc w' ∧ Onw W w' := fun W hW => by
  have h : ∀ i, i < 4 → W.cell? ⟨D, 6 + o + i, none⟩ = some (.int .u8 (Y (q + o + i))) := fun i hi => by
    rw [hW.cell (p := ⟨D, 6 + o + i, none⟩) hD, Nat.add_assoc, hc (o + i) (by omega), Nat.add_assoc]
  cases big
  · exact (leU32 D (6 + o) 4 c _ _ _ _ (hY _) (hY _) (hY _) (hY _) W (by decide) (h 0 (by decide)) (h 1 (by decide)) (h 2 (by decide)) (h 3 (by decide)) (Nat.lt_of_lt_of_le hD hW.size)).mono fun e w' ⟨he, hb⟩ => ⟨he, hW.trans (hb.mono hW.size), hb⟩
  · exact (beU32 D (6 + o) 4 c _ _ _ _ (hY _) (hY _) (hY _) (hY _) W (by decide) (h 0 (by decide)) (h 1 (by decide)) (h 2 (by decide)) (h 3 (by decide)) (Nat.lt_of_lt_of_le hD hW.size)).mono fun e w' ⟨he, hb⟩ => ⟨he, hW.trans (hb.mono hW.size), hb⟩

theorem Ybaf.methodU53 (x : Value) (w : World) : (Go.method 238 53 x "Uint32").run Ybaf.prog w = .ok (50, x) w := by kernel_rfl
theorem Ybaf.methodU54 (x : Value) (w : World) : (Go.method 238 54 x "Uint32").run Ybaf.prog w = .ok (58, x) w := by kernel_rfl

/-- A record's four cells. -/
def recF (a b c : Int) (d : Value) (i : Nat) : Value := if i = 0 then .int .u32 a else if i = 1 then .int .u32 b else if i = 2 then .int .u32 c else d

theorem rec_set {W : World} {T : Nat} {f : Nat → Value} (a b c : Int) (d : Value) (h : W.rowIs T 30 4 f) :
    ((((W.setCell ⟨T, 0, none⟩ (.int .u32 a)).setCell ⟨T, 1, none⟩ (.int .u32 b)).setCell ⟨T, 2, none⟩ (.int .u32 c)).setCell ⟨T, 3, none⟩ d).rowIs T 30 4 (recF a b c d) :=
  ((((h.set 0 (.int .u32 a)).set 1 (.int .u32 b)).set 2 (.int .u32 c)).set 3 d).congr fun i hi => by
    have : i = 0 ∨ i = 1 ∨ i = 2 ∨ i = 3 := by omega
    rcases this with rfl | rfl | rfl | rfl <;> rfl

theorem rec_new (W : World) (a b c : Int) (d : Value) : (W.alloc (.cells #[.int .u32 a, .int .u32 b, .int .u32 c, d] 30)).rowIs W.heap.size 30 4 (recF a b c d) :=
  World.rowIs_alloc W #[.int .u32 a, .int .u32 b, .int .u32 c, d] 30 (recF a b c d) fun i hi => by
    have : i = 0 ∨ i = 1 ∨ i = 2 ∨ i = 3 := by simp at hi; omega
    rcases this with rfl | rfl | rfl | rfl <;> rfl

theorem zr_row' (W : World) : (W.alloc (.cells #[.int .u32 0, .int .u32 0, .int .u32 0, .slice none 0 0] 30)).rowIs W.heap.size 30 4 (fun i => zr.getD i undef) := zr_row W

theorem row_up {W w3 : World} (h : Onw W w3) : ∀ (T : Nat) (f : Nat → Value), W.rowIs T 30 4 f → w3.rowIs T 30 4 f := fun _ _ hr => hr.of_block (Below.block h _ hr.lt)

theorem cell_lt {W : World} {p : Addr} (h : (W.cell? p).isSome = true) : p.block < W.heap.size := by
  rcases Nat.lt_or_ge p.block W.heap.size with h' | h'
  · exact h'
  · simp [World.cell?, Array.getElem?_eq_none h'] at h

theorem bcell2 {W w3 : World} (h : Onw W w3) : (∀ b o, (W.cell? ⟨b, o, none⟩).isSome = true → w3.cell? ⟨b, o, none⟩ = W.cell? ⟨b, o, none⟩) ∧ (∀ b o, (W.cell? ⟨b, o, none⟩).isSome = true → w3.frozen? ⟨b, o, none⟩ = W.frozen? ⟨b, o, none⟩) :=
  ⟨fun b o hs => Below.cell (p := ⟨b, o, none⟩) h (cell_lt hs), fun b o hs => Below.frozen (p := ⟨b, o, none⟩) h (cell_lt hs)⟩

theorem below4 {n T : Nat} {wc W : World} (h : Below n wc W) (hT : n ≤ T) (a b c d : Value) : Below n wc ((((W.setCell ⟨T, 0, none⟩ a).setCell ⟨T, 1, none⟩ b).setCell ⟨T, 2, none⟩ c).setCell ⟨T, 3, none⟩ d) :=
  (((h.setCell (show n ≤ (⟨T, 0, none⟩ : Addr).block from hT) a).setCell (show n ≤ (⟨T, 1, none⟩ : Addr).block from hT) b).setCell (show n ≤ (⟨T, 2, none⟩ : Addr).block from hT) c).setCell (show n ≤ (⟨T, 3, none⟩ : Addr).block from hT) d

end Go.Proofs.YbulkcmekFmt
