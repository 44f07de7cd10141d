/-
  THE WALK OF (Header).CheckLength, both ways. The header's 22 cells stand under one name, X; only its last cell (Length) is read.
-/
import Derived.Test.YbulkfpkuFmtFacts
import Derived.WalkKit
import Derived.WalkSpells
import Derived.WalkLawsBesides
namespace Go.Proofs.YbulkfpkuFmt
open Go.RowKit Go.Extern.Stop Go.Stop Go.Extern
attribute [local go_sem] call6 guardF fmt0 fmt0r op23 op3 ptr38 elem38 isError38

set_option maxHeartbeats 400000 in
theorem check_ok (X : Array Value) (n size : Int) (w : World) (hX : X[(21 : Nat)]? = some (.int .u32 n)) (h0 : 0 ≤ n) (h1 : n ≤ 4294967295) (hn : ¬ size < n) :
    Calls Ybaf.prog 4 #[.agg X, .int .i64 size] w fun e w' => e = .returned .nilIface ∧ w' = w.alloc (.cells X 28) := by
  go_enter Ybaf.func4, Ybaf.ntmps4
  go_wp2
  go_ret
  exact ⟨rfl, rfl⟩

set_option maxHeartbeats 400000 in
theorem check_no (F : Interp) (X : Array Value) (n size : Int) (w : World) (hF : F.answers w.tape) (hX : X[(21 : Nat)]? = some (.int .u32 n)) (h0 : 0 ≤ n) (h1 : n ≤ 4294967295) (hn : size < n) :
    Calls Ybaf.prog 4 #[.agg X, .int .i64 size] w
      fun e w' => ∃ a, e = .returned (.iface 38 (.pointer (some a))) ∧ ∃ c2 c3 : Array Value, w' = (((w.alloc (.cells X 28)).alloc (.cells c2 20)).alloc (.cells c3 40)).drew := by
  have hF' := answers_open hF
  go_enter Ybaf.func4, Ybaf.ntmps4
  go_wp2
  go_ret
  exact ⟨_, rfl, _, _, rfl⟩
end Go.Proofs.YbulkfpkuFmt
