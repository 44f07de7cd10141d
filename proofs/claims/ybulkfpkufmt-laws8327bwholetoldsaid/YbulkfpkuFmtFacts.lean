/-
  THE CLOSED FACTS FOR A WALK OVER fmt.errorf IN THIS DUMP (after the guide's generated CheckFmt texts, at this dump's numbers).
-/
import Derived.Test.YbulkfpkuFmtRows
import Derived.Stop.CallBack
import Derived.Stop.IfaceNil
import GoSem.ClaimData
namespace Go.Proofs.YbulkfpkuFmt
open Go.Extern.Stop Go.Stop Go.Extern

theorem call6 (args : Array Value) (w : World) : (callFunc 6 args).run Ybaf.prog w = ((FmtStop.errorf #[9, 35] #[30] args).run Ybaf.prog w).andThen fun v w' => .ok (.value v) w' :=
  run_callFunc_extern Ybaf.func6 (by kernel_rfl) (by kernel_rfl) (by kernel_rfl) (by kernel_rfl) args w
theorem guardF (name : String) (w : World) : (FmtStop.guard name).run Ybaf.prog w = .ok () w := by kernel_rfl
theorem fmt0 : FmtStop.printed? ⟨#[104, 101, 97, 100, 101, 114, 32, 108, 101, 110, 103, 116, 104, 32, 37, 100, 32, 97, 98, 111, 118, 101, 32, 116, 104, 101, 32, 100, 97, 116, 97, 103, 114, 97, 109, 39, 115, 32, 37, 100, 32, 111, 99, 116, 101, 116, 115]⟩ 2 = some [(0, 100, false), (1, 100, false)] := by kernel_rfl
theorem fmt0r (w : World) : (FmtDoors.printed ⟨#[104, 101, 97, 100, 101, 114, 32, 108, 101, 110, 103, 116, 104, 32, 37, 100, 32, 97, 98, 111, 118, 101, 32, 116, 104, 101, 32, 100, 97, 116, 97, 103, 114, 97, 109, 39, 115, 32, 37, 100, 32, 111, 99, 116, 101, 116, 115]⟩ 2).run Ybaf.prog w = .ok [(0, 100, false), (1, 100, false)] w := by kernel_rfl
def shape23 : List UInt8 := [8, 6, 0, 0, 0, 0, 0, 0, 0, 117, 105, 110, 116, 51, 50]
def shape3 : List UInt8 := [5, 3, 0, 0, 0, 0, 0, 0, 0, 105, 110, 116]
theorem op23 (name : String) (x : Int) (w : World) : (FmtStop.operand name true 100 false (.iface 23 (.int .u32 x))).run Ybaf.prog w = .ok (shape23, Go.Extern.Stop.digits 8 (x % 2 ^ 64).toNat) w := by kernel_rfl
theorem op3 (name : String) (x : Int) (w : World) : (FmtStop.operand name true 100 false (.iface 3 (.int .i64 x))).run Ybaf.prog w = .ok (shape3, Go.Extern.Stop.digits 8 (x % 2 ^ 64).toNat) w := by kernel_rfl
theorem ptr38 (w : World) : (FmtStop.ptrTo "errors.errorString").run Ybaf.prog w = .ok 38 w := by kernel_rfl
theorem elem38 (w : World) : (elemOf 38).run Ybaf.prog w = .ok 40 w := by kernel_rfl
theorem isError38 (w : World) : (FmtDoors.textMethod 38 "Error").run Ybaf.prog w = .ok true w := by kernel_rfl
end Go.Proofs.YbulkfpkuFmt
