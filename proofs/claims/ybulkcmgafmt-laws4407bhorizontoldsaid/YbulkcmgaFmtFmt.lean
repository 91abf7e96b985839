import Derived.Test.YbulkcmgaFmtWords
import Derived.Stop.CallBack
import Derived.Stop.IfaceNil
import GoSem.ClaimData
namespace Go.Proofs
open Go.Extern.Stop Go.Stop Go.Extern

theorem Ybaf.call31 (args : Array Value) (w : World) : (callFunc 31 args).run Ybaf.prog w = ((FmtStop.errorf #[9, 107] #[59] args).run Ybaf.prog w).andThen fun v w' => .ok (.value v) w' :=
  run_callFunc_extern Ybaf.func31 (by kernel_rfl) (by kernel_rfl) (by kernel_rfl) (by kernel_rfl) args w

theorem Ybaf.guard (name : String) (w : World) : (FmtStop.guard name).run Ybaf.prog w = .ok () w := by kernel_rfl

/-- The clock's text, the node's two texts. -/
abbrev txtC : ByteArray := ⟨#[116, 105, 109, 101, 32, 37, 100, 32, 105, 115, 32, 98, 101, 102, 111, 114, 101, 32, 116, 104, 101, 32, 114, 117, 108, 101, 39, 115, 32, 99, 108, 111, 99, 107, 44, 32, 37, 100]⟩
abbrev txtW : ByteArray := ⟨#[110, 111, 100, 101, 32, 37, 100, 58, 32, 37, 119]⟩
abbrev txtR : ByteArray := ⟨#[110, 111, 100, 101, 32, 37, 100, 58, 32, 97, 32, 114, 101, 108, 97, 121, 32, 97, 116, 32, 37, 100, 32, 109, 115, 32, 119, 111, 117, 108, 100, 32, 97, 114, 114, 105, 118, 101, 32, 112, 97, 115, 116, 32, 116, 104, 101, 32, 108, 97, 114, 103, 101, 115, 116, 32, 116, 105, 109, 101]⟩

theorem Ybaf.fmt0 : FmtStop.printed? txtW 2 = some [(0, 100, false), (1, 119, false)] := by kernel_rfl
theorem Ybaf.fmt0r (w : World) : (FmtDoors.printed txtW 2).run Ybaf.prog w = .ok [(0, 100, false), (1, 119, false)] w := by kernel_rfl
theorem Ybaf.fmt1 : FmtStop.printed? txtC 2 = some [(0, 100, false), (1, 100, false)] := by kernel_rfl
theorem Ybaf.fmt1r (w : World) : (FmtDoors.printed txtC 2).run Ybaf.prog w = .ok [(0, 100, false), (1, 100, false)] w := by kernel_rfl
theorem Ybaf.fmt2 : FmtStop.printed? txtR 2 = some [(0, 100, false), (1, 100, false)] := by kernel_rfl
theorem Ybaf.fmt2r (w : World) : (FmtDoors.printed txtR 2).run Ybaf.prog w = .ok [(0, 100, false), (1, 100, false)] w := by kernel_rfl

def Ybaf.shape2 : List UInt8 := [5, 5, 0, 0, 0, 0, 0, 0, 0, 105, 110, 116, 54, 52]
theorem Ybaf.op2_100w (name : String) (x : Int) (w : World) : (FmtStop.operand name true 100 false (.iface 2 (.int .i64 x))).run Ybaf.prog w = .ok (Ybaf.shape2, Go.Extern.Stop.digits 8 (x % 2 ^ 64).toNat) w := by kernel_rfl
def Ybaf.shape3 : List UInt8 := [5, 3, 0, 0, 0, 0, 0, 0, 0, 105, 110, 116]
theorem Ybaf.op3_100w (name : String) (x : Int) (w : World) : (FmtStop.operand name true 100 false (.iface 3 (.int .i64 x))).run Ybaf.prog w = .ok (Ybaf.shape3, Go.Extern.Stop.digits 8 (x % 2 ^ 64).toNat) w := by kernel_rfl

-- the two error types that fmt.errorf makes
theorem Ybaf.ptr122 (w : World) : (FmtStop.ptrTo "errors.errorString").run Ybaf.prog w = .ok 122 w := by kernel_rfl
theorem Ybaf.elem122 (w : World) : (elemOf 122).run Ybaf.prog w = .ok 124 w := by kernel_rfl
theorem Ybaf.isError122' (w : World) : (FmtDoors.textMethod 122 "Error").run Ybaf.prog w = .ok true w := by kernel_rfl
/-- The type's name. -/
def errName : String := String.ofList (Char.ofNat 42 :: "errors.errorString".toList)
def Ybaf.plain122 : List UInt8 := 14 :: FmtStop.pack errName.toUTF8.data.toList
theorem Ybaf.opPlain122_119w (name : String) (a : Addr) (s : ByteArray) (w : World) (hc : w.cell? a = some (.string s)) :
    (FmtStop.operand name true 119 false (.iface 122 (.pointer (some a)))).run Ybaf.prog w = .ok (Ybaf.plain122, s.data.toList) w := by
  have h1 : (typeStr 122).run Ybaf.prog w = .ok errName w := by kernel_rfl
  have d2 : Ybaf.t122.desc = .pointer 124 := rfl
  have d3 : Ybaf.t124.desc = .named "errors.errorString" 123 := rfl
  simp [FmtStop.operand, h1, d2, d3, run_load, hc, Ybaf.plain122]
theorem Ybaf.ptr109 (w : World) : (FmtStop.ptrTo "fmt.wrapError").run Ybaf.prog w = .ok 109 w := by kernel_rfl
theorem Ybaf.elem109 (w : World) : (elemOf 109).run Ybaf.prog w = .ok 144 w := by kernel_rfl
theorem Ybaf.isError109' (w : World) : (FmtDoors.textMethod 109 "Error").run Ybaf.prog w = .ok true w := by kernel_rfl

namespace YbulkcmgaFmt
open Go Go.RowKit

attribute [local go_sem] Ybaf.call31 Ybaf.guard Ybaf.fmt0 Ybaf.fmt0r Ybaf.fmt1 Ybaf.fmt1r Ybaf.fmt2 Ybaf.fmt2r Ybaf.op2_100w Ybaf.op3_100w Ybaf.ptr122 Ybaf.elem122 Ybaf.isError122' Ybaf.ptr109 Ybaf.elem109 Ybaf.isError109'

/-- fmt.Errorf of the clock. -/
theorem errorf_c (F : Interp) (x c : Nat) (n m : Int) (w : World) (hF : F.answers w.tape) (h0 : w.cell? ⟨x, 0, none⟩ = some (.iface 2 (.int .i64 n))) (h1 : w.cell? ⟨x, 1, none⟩ = some (.iface 2 (.int .i64 m))) :
    Calls Ybaf.prog 17 #[.string txtC, .slice (some ⟨x, 0, none⟩) 2 c] w fun e w' => ∃ X s, e = .returned (.iface 122 (.pointer (some ⟨X, 0, none⟩))) ∧ w'.cell? ⟨X, 0, none⟩ = some (.string s) ∧ Below w.heap.size w w' := by
  have hF' := answers_open hF
  go_enter Ybaf.func17, Ybaf.ntmps17
  go_wp2
  go_ret
  exact ⟨w.heap.size, _, rfl, by go_simp; rfl, ((Below.refl _ _).alloc (Nat.le_refl _) _).drew⟩

/-- fmt.Errorf of the relay. -/
theorem errorf_r (F : Interp) (x c : Nat) (n m : Int) (w : World) (hF : F.answers w.tape) (h0 : w.cell? ⟨x, 0, none⟩ = some (.iface 3 (.int .i64 n))) (h1 : w.cell? ⟨x, 1, none⟩ = some (.iface 2 (.int .i64 m))) :
    Calls Ybaf.prog 17 #[.string txtR, .slice (some ⟨x, 0, none⟩) 2 c] w fun e w' => ∃ v, e = .returned (.iface 122 v) ∧ Below w.heap.size w w' := by
  have hF' := answers_open hF
  go_enter Ybaf.func17, Ybaf.ntmps17
  go_wp2
  go_ret
  exact ⟨_, rfl, ((Below.refl _ _).alloc (Nat.le_refl _) _).drew⟩

/-- fmt.Errorf of the node, an error wrapped. -/
theorem errorf_w (F : Interp) (x c : Nat) (n : Int) (X : Addr) (s : ByteArray) (w : World) (hF : F.answers w.tape) (h0 : w.cell? ⟨x, 0, none⟩ = some (.iface 3 (.int .i64 n))) (h1 : w.cell? ⟨x, 1, none⟩ = some (.iface 122 (.pointer (some X)))) (hs : w.cell? X = some (.string s)) :
    Calls Ybaf.prog 17 #[.string txtW, .slice (some ⟨x, 0, none⟩) 2 c] w fun e w' => ∃ v, e = .returned (.iface 109 v) ∧ Below w.heap.size w w' := by
  have hF' := answers_open hF
  have hop := Ybaf.opPlain122_119w "fmt.errorf" X s w hs
  go_enter Ybaf.func17, Ybaf.ntmps17
  go_wp2
  go_ret
  exact ⟨_, rfl, ((Below.refl _ _).alloc (Nat.le_refl _) _).drew⟩

end YbulkcmgaFmt
end Go.Proofs
