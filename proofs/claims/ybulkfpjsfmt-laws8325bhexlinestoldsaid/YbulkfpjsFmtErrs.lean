/-
  decodeLine: what it gives at a line that is no line of digits, and at one that is.
-/
import Derived.Test.YbulkfpjsFmtSmall
import Derived.Test.YbulkfpjsFmtShelf
import Derived.Deep.OwnRows
namespace Go.Proofs.YbulkfpjsFmt
open Go.RowKit Go.Extern.Stop Go.Stop Go.Extern

theorem call13 (args : Array Value) (w : World) : (callFunc 13 args).run Ybaf.prog w = ((FmtStop.errorf #[9, 41] #[26] args).run Ybaf.prog w).andThen fun v w' => .ok (.value v) w' :=
  run_callFunc_extern Ybaf.func13 (by kernel_rfl) (by kernel_rfl) (by kernel_rfl) (by kernel_rfl) args w
theorem guardF (name : String) (w : World) : (FmtStop.guard name).run Ybaf.prog w = .ok () w := by kernel_rfl
theorem fmt0 : FmtStop.printed? ⟨#[99, 111, 108, 117, 109, 110, 32, 37, 100, 58, 32, 37, 113, 32, 105, 115, 32, 110, 111, 116, 32, 97, 32, 104, 101, 120, 97, 100, 101, 99, 105, 109, 97, 108, 32, 100, 105, 103, 105, 116]⟩ 2 = some [(0, 100, false), (1, 113, false)] := by kernel_rfl
theorem fmt0r (w : World) : (FmtDoors.printed ⟨#[99, 111, 108, 117, 109, 110, 32, 37, 100, 58, 32, 37, 113, 32, 105, 115, 32, 110, 111, 116, 32, 97, 32, 104, 101, 120, 97, 100, 101, 99, 105, 109, 97, 108, 32, 100, 105, 103, 105, 116]⟩ 2).run Ybaf.prog w = .ok [(0, 100, false), (1, 113, false)] w := by kernel_rfl
theorem fmt1 : FmtStop.printed? ⟨#[111, 100, 100, 32, 110, 117, 109, 98, 101, 114, 32, 111, 102, 32, 104, 101, 120, 97, 100, 101, 99, 105, 109, 97, 108, 32, 100, 105, 103, 105, 116, 115, 32, 40, 37, 100, 41]⟩ 1 = some [(0, 100, false)] := by kernel_rfl
theorem fmt1r (w : World) : (FmtDoors.printed ⟨#[111, 100, 100, 32, 110, 117, 109, 98, 101, 114, 32, 111, 102, 32, 104, 101, 120, 97, 100, 101, 99, 105, 109, 97, 108, 32, 100, 105, 103, 105, 116, 115, 32, 40, 37, 100, 41]⟩ 1).run Ybaf.prog w = .ok [(0, 100, false)] w := by kernel_rfl
def shape5 : List UInt8 := [6, 5, 0, 0, 0, 0, 0, 0, 0, 117, 105, 110, 116, 56]
def shape3 : List UInt8 := [5, 3, 0, 0, 0, 0, 0, 0, 0, 105, 110, 116]
theorem op5 (name : String) (x : Int) (w : World) : (FmtStop.operand name true 113 false (.iface 5 (.int .u8 x))).run Ybaf.prog w = .ok (shape5, Go.Extern.Stop.digits 8 (x % 2 ^ 64).toNat) w := by kernel_rfl
theorem op3 (name : String) (x : Int) (w : World) : (FmtStop.operand name true 100 false (.iface 3 (.int .i64 x))).run Ybaf.prog w = .ok (shape3, Go.Extern.Stop.digits 8 (x % 2 ^ 64).toNat) w := by kernel_rfl
theorem ptr38 (w : World) : (FmtStop.ptrTo "errors.errorString").run Ybaf.prog w = .ok 38 w := by kernel_rfl
theorem elem38 (w : World) : (elemOf 38).run Ybaf.prog w = .ok 40 w := by kernel_rfl
theorem isError38 (w : World) : (FmtDoors.textMethod 38 "Error").run Ybaf.prog w = .ok true w := by kernel_rfl
attribute [local go_sem] call13 guardF fmt0 fmt0r fmt1 fmt1r op5 op3 ptr38 elem38 isError38

/-- fmt.Errorf at the two formats that decodeLine has: an error that is not nil, in new memory. -/
theorem errorf_col (F : Interp) (i c : Int) (blk : Nat) (w : World) (hF : F.answers w.tape)
    (hc0 : w.cell? ⟨blk, 0, none⟩ = some (.iface 3 (.int .i64 i))) (hc1 : w.cell? ⟨blk, 1, none⟩ = some (.iface 5 (.int .u8 c))) :
    Calls Ybaf.prog 11 #[.string ⟨#[99, 111, 108, 117, 109, 110, 32, 37, 100, 58, 32, 37, 113, 32, 105, 115, 32, 110, 111, 116, 32, 97, 32, 104, 101, 120, 97, 100, 101, 99, 105, 109, 97, 108, 32, 100, 105, 103, 105, 116]⟩, .slice (some ⟨blk, 0, none⟩) 2 2] w fun e w' =>
      ∃ a, e = .returned (.iface 38 (.pointer (some a))) ∧ Below w.heap.size w w' := by
  have hF' := answers_open hF
  go_enter Ybaf.func11, Ybaf.ntmps11
  go_wp2
  go_ret
  exact ⟨_, rfl, by go_grown⟩
theorem errorf_odd (F : Interp) (i : Int) (blk : Nat) (w : World) (hF : F.answers w.tape)
    (hc0 : w.cell? ⟨blk, 0, none⟩ = some (.iface 3 (.int .i64 i))) :
    Calls Ybaf.prog 11 #[.string ⟨#[111, 100, 100, 32, 110, 117, 109, 98, 101, 114, 32, 111, 102, 32, 104, 101, 120, 97, 100, 101, 99, 105, 109, 97, 108, 32, 100, 105, 103, 105, 116, 115, 32, 40, 37, 100, 41]⟩, .slice (some ⟨blk, 0, none⟩) 1 1] w fun e w' =>
      ∃ a, e = .returned (.iface 38 (.pointer (some a))) ∧ Below w.heap.size w w' := by
  have hF' := answers_open hF
  go_enter Ybaf.func11, Ybaf.ntmps11
  go_wp2
  go_ret
  exact ⟨_, rfl, by go_grown⟩
end Go.Proofs.YbulkfpjsFmt
