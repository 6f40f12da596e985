/-
  b3389aF: the closed facts for a walk over fmt's stopped front.
-/
import Derived.Test.YbulkbrdwFmtRows
import Derived.Stop.CallBack
import Derived.Stop.IfaceNil
import GoSem.ClaimData
namespace Go.Proofs
open Go.Extern.Stop Go.Stop Go.Extern
set_option linter.unusedVariables false

@[go_sem] theorem Ybaf.call12 (args : Array Value) (w : World) : (callFunc 12 args).run Ybaf.prog w = ((FmtStop.errorf #[9, 51] #[48] args).run Ybaf.prog w).andThen fun v w' => .ok (.value v) w' :=
  run_callFunc_extern Ybaf.func12 (by kernel_rfl) (by kernel_rfl) (by kernel_rfl) (by kernel_rfl) args w
@[go_sem] theorem Ybaf.guard (name : String) (w : World) : (FmtStop.guard name).run Ybaf.prog w = .ok () w := by kernel_rfl
/-- "partitioning %s cannot connect %d tasks to %d" -/
def Ybaf.format : ByteArray := ⟨#[112, 97, 114, 116, 105, 116, 105, 111, 110, 105, 110, 103, 32, 37, 115, 32, 99, 97, 110, 110, 111, 116, 32, 99, 111, 110, 110, 101, 99, 116, 32, 37, 100, 32, 116, 97, 115, 107, 115, 32, 116, 111, 32, 37, 100]⟩
@[go_sem] theorem Ybaf.fmt0 : FmtStop.printed? ⟨#[112, 97, 114, 116, 105, 116, 105, 111, 110, 105, 110, 103, 32, 37, 115, 32, 99, 97, 110, 110, 111, 116, 32, 99, 111, 110, 110, 101, 99, 116, 32, 37, 100, 32, 116, 97, 115, 107, 115, 32, 116, 111, 32, 37, 100]⟩ 3 = some [(0, 115, false), (1, 100, false), (2, 100, false)] := by kernel_rfl
@[go_sem] theorem Ybaf.fmt0r (w : World) : (FmtDoors.printed ⟨#[112, 97, 114, 116, 105, 116, 105, 111, 110, 105, 110, 103, 32, 37, 115, 32, 99, 97, 110, 110, 111, 116, 32, 99, 111, 110, 110, 101, 99, 116, 32, 37, 100, 32, 116, 97, 115, 107, 115, 32, 116, 111, 32, 37, 100]⟩ 3).run Ybaf.prog w = .ok [(0, 115, false), (1, 100, false), (2, 100, false)] w := by kernel_rfl
theorem Ybaf.name3 : Ybaf.prog.typeName? 3 3 = some "int" := by kernel_rfl
def Ybaf.shape3 : List UInt8 := [5, 3, 0, 0, 0, 0, 0, 0, 0, 105, 110, 116]
@[go_sem] theorem Ybaf.op3_100 (name : String) (x : Int) (w : World) : (FmtStop.operand name false 100 false (.iface 3 (.int .i64 x))).run Ybaf.prog w = .ok (Ybaf.shape3, Go.Extern.Stop.digits 8 (x % 2 ^ 64).toNat) w := by kernel_rfl
@[go_sem] theorem Ybaf.op3_100w (name : String) (x : Int) (w : World) : (FmtStop.operand name true 100 false (.iface 3 (.int .i64 x))).run Ybaf.prog w = .ok (Ybaf.shape3, Go.Extern.Stop.digits 8 (x % 2 ^ 64).toNat) w := by kernel_rfl
def Ybaf.shape24 : List UInt8 := 12 :: FmtStop.pack "topology.Partitioning".toUTF8.data.toList
@[go_sem] theorem Ybaf.op24_115 (name : String) (x : ByteArray) (w : World) : (FmtStop.operand name false 115 false (.iface 24 (.string x))).run Ybaf.prog w = .ok (Ybaf.shape24, FmtStop.pack x.data.toList) w := by kernel_rfl
@[go_sem] theorem Ybaf.op24_115w (name : String) (x : ByteArray) (w : World) : (FmtStop.operand name true 115 false (.iface 24 (.string x))).run Ybaf.prog w = .ok (Ybaf.shape24, FmtStop.pack x.data.toList) w := by kernel_rfl
@[go_sem] theorem Ybaf.ptr54 (w : World) : (FmtStop.ptrTo "errors.errorString").run Ybaf.prog w = .ok 54 w := by kernel_rfl
@[go_sem] theorem Ybaf.elem54 (w : World) : (elemOf 54).run Ybaf.prog w = .ok 56 w := by kernel_rfl
@[go_sem] theorem Ybaf.isError54' (w : World) : (FmtDoors.textMethod 54 "Error").run Ybaf.prog w = .ok true w := by kernel_rfl
end Go.Proofs
