import Derived.Test.YbulkcmgaFmtEmit
import Derived.Deep.AppendLies
import Derived.Deep.RegionLaw
namespace Go.Proofs.YbulkcmgaFmt
open Go Go.RowKit Go.Extern.Stop Go.Stop Go.Extern

theorem step_append_nil {P : Program} {w : World} {ops : Array Oper} {o : Oper} {a : Act} {K : Act → World → Prop} {Q : Exit → Act → World → Prop} {E : Prop} (hgd : o.guard = none) (s x : Operand) (t : TypeId)
    (ho : o.op = .call { callee := .builtin .append, args := #[s, x], argTypes := #[t, t] }) (e : TypeId) (size bytes : Nat) (z : Value) (ht : P.underlying t = some (.slice e))
    (hinfo : (P.info? e).map (fun i => (i.zero, i.size, i.bytes)) = some (some z, size, bytes)) (hzs : z.cells.size = size) (hsz : 0 < size) (hby : bytes ≤ 4096)
    (hs : a.eval s = .slice none 0 0) (ad : Addr) (c : Nat) (news : List Value) (hx : a.eval x = .slice (some ad) 1 c) (hl : news.length = size) (hnews : ∀ j u, news[j]? = some u → w.cell? (ad.add j) = some u) (h1 : ∀ u ∈ news, u.oneCell' = true)
    (h : ∀ g cap w', Hid (Has w' g e news) → Hid (w.heap.size ≤ g) → Hid (Below w.heap.size w w') → K (a.put o.dst (.slice (some ⟨g, 0, none⟩) 1 cap)) w') :
    if Region.wanted o (yielded ops a.tmps) = true then Oper.wp P o a w K Q else E := by
  obtain ⟨i, hi, he⟩ := Option.map_eq_some_iff.1 hinfo
  simp only [Prod.mk.injEq] at he
  obtain ⟨hz, his, hib⟩ := he
  refine step_append_lies w hgd s x t ho w.heap.size e i z size bytes ht hi hz his hib hzs hsz _ 0 [] hs (World.ownsRow_nil w _ _ _) ad 1 c news hx (by rw [hl, Nat.one_mul]) hnews h1 (by decide) (by unfold maxLen; omega) (by omega) (Nat.le_refl _) w.heap.size rfl ?_
  intro g cap w' hown hg hat _
  have hg' : w.heap.size ≤ g := by
    rcases hat with h | h
    · cases h
    · omega
  rcases hown.2 with ⟨hn, _⟩ | ⟨g2, cap2, cur, hv, hbg, hblk, _, _, _, htk⟩
  · cases hn
  · obtain ⟨rfl, rfl⟩ : g = g2 ∧ cap = cap2 := by simpa using hv
    refine h g cap w' ⟨cur, hblk, ?_⟩ hg' (grown_below hg _ (Nat.le_refl _) (by simp [Value.ownBlock]))
    have : (0 + 1) * size = news.length := by omega
    rw [← this, htk]
    simp

/-- Block b's cells outside S are as they were. -/
def Rest (w w' : World) (b : Nat) (S : List Nat) : Prop := ∀ o, o ∉ S → w'.cell? ⟨b, o, none⟩ = w.cell? ⟨b, o, none⟩ ∧ w'.frozen? ⟨b, o, none⟩ = w.frozen? ⟨b, o, none⟩
theorem Rest.at {w w' : World} {b : Nat} {S : List Nat} (h : Rest w w' b S) {o : Nat} {v : Value} (k : At w b o v) (ho : o ∉ S) : At w' b o v := ⟨(h o ho).1.trans k.1, (h o ho).2.trans k.2⟩
theorem Rest.of_block {w w' : World} {b : Nat} {S : List Nat} (h : w'.heap[b]? = w.heap[b]?) : Rest w w' b S := fun _ _ => ⟨World.cell?_of_block h, World.frozen?_of_block h⟩
theorem Rest.trans {w w1 w2 : World} {b : Nat} {S : List Nat} (h : Rest w w1 b S) (k : Rest w1 w2 b S) : Rest w w2 b S := fun o ho => ⟨(k o ho).1.trans (h o ho).1, (k o ho).2.trans (h o ho).2⟩
theorem Rest.mono {w w1 : World} {b : Nat} {S T : List Nat} (h : Rest w w1 b S) (k : ∀ o ∈ S, o ∈ T) : Rest w w1 b T := fun o ho => h o fun hm => ho (k o hm)
theorem Rest.set (w : World) (b o : Nat) (v : Value) : Rest w (w.setCell ⟨b, o, none⟩ v) b [o] := fun o' ho => by
  have h' : ¬ o' = o := by simpa using ho
  constructor
  · go_simp
  · go_simp

/-- An event's cells. -/
def evC (att seq round : Int) (p b : ByteArray) : List Value := [.int .i64 att, .int .u64 seq, .int .u64 round, .string p, .string b, .slice none 0 0, .bool true, .int .i64 0, .slice none 0 0, .bool true]

theorem info66 : (Ybaf.prog.info? 66).map (fun i => (i.zero, i.size, i.bytes)) = some (some (.agg #[.int .i64 0, .int .u64 0, .int .u64 0, .string ⟨#[]⟩, .string ⟨#[]⟩, .slice none 0 0, .bool false, .int .i64 0, .slice none 0 0, .bool false]), 10, 128) := by kernel_rfl

set_option maxHeartbeats 2000000 in
set_option maxRecDepth 100000 in
theorem qpush_is (NB : Nat) (att seq round : Int) (p b : ByteArray) (w : World) (hN : At w NB 3 (.slice none 0 0)) :
    Calls Ybaf.prog 68 #[.pointer (some ⟨NB, 3, none⟩), .iface 66 (.agg (evC att seq round p b).toArray)] w fun e w' => e = .returned (.tuple #[]) ∧ ∃ g, One w' NB 3 66 g (evC att seq round p b) ∧ w.heap.size ≤ g ∧ Only [NB] w w' ∧ Rest w w' NB [3] := by
  have lN := hN.lt
  have c3 := hN.cell
  have N := hidn (news_cells w (evC att seq round p b) 66)
  have HB := hidn ((Below.refl _ w).alloc (Nat.le_refl _) (.cells (evC att seq round p b).toArray 66))
  have HN := hidn hN
  clear hN
  have hTA : ∀ (v : Value) (w : World), (Instr.typeAssert (.iface 66 v) 20 66 false).run Ybaf.prog w = .ok v w := fun v w => by kernel_rfl
  have e1 : (evC att seq round p b).toArray = #[.int .i64 att, .int .u64 seq, .int .u64 round, .string p, .string b, .slice none 0 0, .bool true, .int .i64 0, .slice none 0 0, .bool true] := rfl
  rw [e1] at *
  clear e1
  have N' : Hid (∀ j u, (evC att seq round p b)[j]? = some u → ((w.alloc (.cells #[.int .i64 att, .int .u64 seq, .int .u64 round, .string p, .string b, .slice none 0 0, .bool true, .int .i64 0, .slice none 0 0, .bool true] 66)).drew).cell? ((⟨w.heap.size, 0, none⟩ : Addr).add j) = some u) := N
  have HB' : Hid (Below w.heap.size w ((w.alloc (.cells #[.int .i64 att, .int .u64 seq, .int .u64 round, .string p, .string b, .slice none 0 0, .bool true, .int .i64 0, .slice none 0 0, .bool true] 66)).drew)) := HB.out.drew
  have HA := hidn (HN.out.below HB'.out lN)
  go_enter Ybaf.func68, Ybaf.ntmps68
  go_wp2
  go_region_law ((refine step_append_nil (by rfl) _ _ 48 (by rfl) 66 10 128 _ Ybaf.underlying48 info66 (by rfl) (by decide) (by decide) (by rfl) ⟨w.heap.size, 0, none⟩ 1 (evC att seq round p b) (by rfl) (by rfl) N'.out (by simp [evC, Value.oneCell']) ?_; intro g cap w1 x1 x2 x3; obtain ⟨y1, y2⟩ := HA.out.below x3.out (by simp; omega)))
  all_goals go_wp2
  all_goals go_end0
  all_goals
    have hg : w.heap.size + 1 ≤ g := by simpa using x2.out
    have o3 : Only [NB] w w1 := (Only.of_below HB'.out).trans (Only.of_below x3.out)
    have o4 : Only [NB] w1 (w1.setCell ⟨NB, 3, none⟩ (.slice (some ⟨g, 0, none⟩) 1 cap)) := (Only.refl _ _).setCell (by simp) _
    exact ⟨rfl, g, ⟨⟨cap, by go_simp⟩, x1.out.only o4 (by simp; omega)⟩, by omega, o3.trans o4, (Rest.of_block ((x3.out.block NB (by simp; omega)).trans (HB'.out.block NB lN))).trans (Rest.set _ _ _ _)⟩

end Go.Proofs.YbulkcmgaFmt
