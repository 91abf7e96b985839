import Derived.Test.YbulkcmekFmtRows
import Derived.Stop.CallBack
import Derived.Stop.IfaceNil
import GoSem.ClaimData
namespace Go.Proofs
open Go.Extern.Stop Go.Stop Go.Extern

theorem Ybaf.call20 (args : Array Value) (w : World) : (callFunc 20 args).run Ybaf.prog w = ((FmtStop.errorf #[9, 73] #[32] args).run Ybaf.prog w).andThen fun v w' => .ok (.value v) w' :=
  run_callFunc_extern Ybaf.func20 (by kernel_rfl) (by kernel_rfl) (by kernel_rfl) (by kernel_rfl) args w

theorem Ybaf.guard (name : String) (w : World) : (FmtStop.guard name).run Ybaf.prog w = .ok () w := by kernel_rfl

theorem Ybaf.fmt0 : FmtStop.printed? ⟨#[114, 101, 99, 111, 114, 100, 32, 37, 100, 58, 32, 37, 119]⟩ 2 = some [(0, 100, false), (1, 119, false)] := by kernel_rfl
theorem Ybaf.fmt0r (w : World) : (FmtDoors.printed ⟨#[114, 101, 99, 111, 114, 100, 32, 37, 100, 58, 32, 37, 119]⟩ 2).run Ybaf.prog w = .ok [(0, 100, false), (1, 119, false)] w := by kernel_rfl
theorem Ybaf.fmt1 : FmtStop.printed? ⟨#[114, 101, 99, 111, 114, 100, 32, 37, 100, 58, 32, 99, 97, 112, 116, 117, 114, 101, 100, 32, 108, 101, 110, 103, 116, 104, 32, 37, 100, 32, 101, 120, 99, 101, 101, 100, 115, 32, 37, 100]⟩ 3 = some [(0, 100, false), (1, 100, false), (2, 100, false)] := by kernel_rfl
theorem Ybaf.fmt1r (w : World) : (FmtDoors.printed ⟨#[114, 101, 99, 111, 114, 100, 32, 37, 100, 58, 32, 99, 97, 112, 116, 117, 114, 101, 100, 32, 108, 101, 110, 103, 116, 104, 32, 37, 100, 32, 101, 120, 99, 101, 101, 100, 115, 32, 37, 100]⟩ 3).run Ybaf.prog w = .ok [(0, 100, false), (1, 100, false), (2, 100, false)] w := by kernel_rfl

def Ybaf.shape2 : List UInt8 := [5, 5, 0, 0, 0, 0, 0, 0, 0, 105, 110, 116, 54, 52]
theorem Ybaf.op2_100w (name : String) (x : Int) (w : World) : (FmtStop.operand name true 100 false (.iface 2 (.int .i64 x))).run Ybaf.prog w = .ok (Ybaf.shape2, Go.Extern.Stop.digits 8 (x % 2 ^ 64).toNat) w := by kernel_rfl
def Ybaf.shape3 : List UInt8 := [5, 3, 0, 0, 0, 0, 0, 0, 0, 105, 110, 116]
theorem Ybaf.op3_100w (name : String) (x : Int) (w : World) : (FmtStop.operand name true 100 false (.iface 3 (.int .i64 x))).run Ybaf.prog w = .ok (Ybaf.shape3, Go.Extern.Stop.digits 8 (x % 2 ^ 64).toNat) w := by kernel_rfl
def Ybaf.shape23 : List UInt8 := [8, 6, 0, 0, 0, 0, 0, 0, 0, 117, 105, 110, 116, 51, 50]
theorem Ybaf.op23_100w (name : String) (x : Int) (w : World) : (FmtStop.operand name true 100 false (.iface 23 (.int .u32 x))).run Ybaf.prog w = .ok (Ybaf.shape23, Go.Extern.Stop.digits 8 (x % 2 ^ 64).toNat) w := by kernel_rfl

-- the two error types that fmt.errorf makes
theorem Ybaf.ptr91 (w : World) : (FmtStop.ptrTo "errors.errorString").run Ybaf.prog w = .ok 91 w := by kernel_rfl
theorem Ybaf.elem91 (w : World) : (elemOf 91).run Ybaf.prog w = .ok 93 w := by kernel_rfl
theorem Ybaf.isError91' (w : World) : (FmtDoors.textMethod 91 "Error").run Ybaf.prog w = .ok true w := by kernel_rfl
/-- The type's name, as the given rows spell it. -/
def errName : String := match YbulkcmekFmt.Rows.laid_io_EOF (H := Unit) with
  | .iface nm _ => nm
  | _ => ""
def Ybaf.plain91 : List UInt8 := 14 :: FmtStop.pack errName.toUTF8.data.toList
theorem Ybaf.opPlain91_119w (name : String) (a : Addr) (s : ByteArray) (w : World) (hc : w.cell? a = some (.string s)) :
    (FmtStop.operand name true 119 false (.iface 91 (.pointer (some a)))).run Ybaf.prog w = .ok (Ybaf.plain91, s.data.toList) w := by
  have h1 : (typeStr 91).run Ybaf.prog w = .ok errName w := by kernel_rfl
  have d2 : Ybaf.t91.desc = .pointer 93 := rfl
  have d3 : Ybaf.t93.desc = .named "errors.errorString" 92 := rfl
  simp [FmtStop.operand, h1, d2, d3, run_load, hc, Ybaf.plain91]
theorem Ybaf.ptr75 (w : World) : (FmtStop.ptrTo "fmt.wrapError").run Ybaf.prog w = .ok 75 w := by kernel_rfl
theorem Ybaf.elem75 (w : World) : (elemOf 75).run Ybaf.prog w = .ok 124 w := by kernel_rfl
theorem Ybaf.isError75' (w : World) : (FmtDoors.textMethod 75 "Error").run Ybaf.prog w = .ok true w := by kernel_rfl

end Go.Proofs
