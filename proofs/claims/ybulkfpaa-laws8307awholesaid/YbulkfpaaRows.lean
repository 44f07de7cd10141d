/-
  No cell of these rows narrows 'for every input' (looked for: loops, veiled, ifaces, maps, wideKeys, modest, calm, conditions, laid).
  DERIVED. THE GIVEN ROWS OF THIS SEAT. 3 by the template 'for every input the law returns true; each argument reads behind the call as it read before'; 0 by the template 'total and deterministic' (their statements: YbulkfpaaTotals.lean).
  GIVEN WITH THE SEED: the statements are not yours to turn. If you find one false, say at which input.
  Laid BY PROGRAM, IN A SANDBOX (cutbox-rows.mjs): the forced cells as the released guide's own fill.sh prints them over the translation 3005075fa96589bb… (all of the seat's roots in one cut). By AI agents, Wed Nov 11 2026. No macro, syntax, notation, axiom, sorry.
-/
import Derived.Test.YbulkfpaaChecked
import GoSem.Claim
import GoSem.ClaimJoined
import GoSem.ClaimMapViews
import Derived.JoinedTies
import Derived.KernelRfl
namespace Go.Proofs.Ybulkfpaa
/- THE CELL 'sum', in the pinned program and in every row, IS THE sha256 OF THE DUMP (.gsa) THAT YbulkfpaaProg.lean LOADS. Nothing in Lean hashes anything: it is a label: what it is worth is what the hold of that sum in a sandbox is worth. -/
noncomputable def Yba.pinned : Pinned := { name := "ybulkfpaa", sum := "3005075fa96589bb143a47c00bbfc1e846b456bf5fc7e01b884c81e8c96e062d", checked := Yba.checked }
namespace Rows
def none {H : Type} : Left H := { results := [], args := [] }

/-- 'wal.LawS8307AWhole': WHATEVER THE INPUT: true; the input reads as it did. -/
def lawS8307AWholeSpec : ChangeSpec := { name := "lawS8307AWhole", fn := fun _ => fun
  | [d1, d2] => { results := [.lit (.bool true)], args := [d1, d2] }
  | _ => none }
def lawS8307AWholeRow : OpenClaim := { program := "ybulkfpaa", sum := "3005075fa96589bb143a47c00bbfc1e846b456bf5fc7e01b884c81e8c96e062d", func := "example.com/interlock/interlock/internal/wal.LawS8307AWhole", spec := "lawS8307AWhole", unfollowed := true, recurses := true, apart := false }
def LawS8307AWholeSaid : Prop := lawS8307AWholeRow.holds Yba.pinned (OpenSpec.ofChange lawS8307AWholeSpec)

/-- ITS FALSE NEIGHBOUR: 'it returns false'. Refute it at one input. -/
def lawS8307AWholeWrong : ChangeSpec := { name := "lawS8307AWhole", fn := fun _ => fun
  | [d1, d2] => { results := [.lit (.bool false)], args := [d1, d2] }
  | _ => none }
def LawS8307AWholeWrongFalsely : Prop := lawS8307AWholeRow.holds Yba.pinned (OpenSpec.ofChange lawS8307AWholeWrong)

/-- 'script.LawS8307CWhole': WHATEVER THE INPUT: true; the input reads as it did. -/
def lawS8307CWholeSpec : ChangeSpec := { name := "lawS8307CWhole", fn := fun _ => fun
  | [d] => { results := [.lit (.bool true)], args := [d] }
  | _ => none }
def lawS8307CWholeRow : OpenClaim := { program := "ybulkfpaa", sum := "3005075fa96589bb143a47c00bbfc1e846b456bf5fc7e01b884c81e8c96e062d", func := "example.com/interlock/interlock/internal/script.LawS8307CWhole", spec := "lawS8307CWhole", inPlace := ["internal/bytealg.IndexByteString", "internal/bytealg.IndexString"], unfollowed := true, recurses := true, named := ["internal/bytealg.MaxLen"], apart := false }
def LawS8307CWholeSaid : Prop := lawS8307CWholeRow.holds Yba.pinned (OpenSpec.ofChange lawS8307CWholeSpec)

/-- ITS FALSE NEIGHBOUR: 'it returns false'. Refute it at one input. -/
def lawS8307CWholeWrong : ChangeSpec := { name := "lawS8307CWhole", fn := fun _ => fun
  | [d] => { results := [.lit (.bool false)], args := [d] }
  | _ => none }
def LawS8307CWholeWrongFalsely : Prop := lawS8307CWholeRow.holds Yba.pinned (OpenSpec.ofChange lawS8307CWholeWrong)

/-- 'script.LawS8307CBuilt': WHATEVER THE INPUT: true; the input reads as it did. -/
def lawS8307CBuiltSpec : ChangeSpec := { name := "lawS8307CBuilt", fn := fun _ => fun
  | [d1, d2] => { results := [.lit (.bool true)], args := [d1, d2] }
  | _ => none }
def lawS8307CBuiltRow : OpenClaim := { program := "ybulkfpaa", sum := "3005075fa96589bb143a47c00bbfc1e846b456bf5fc7e01b884c81e8c96e062d", func := "example.com/interlock/interlock/internal/script.LawS8307CBuilt", spec := "lawS8307CBuilt", inPlace := ["internal/bytealg.IndexByteString", "internal/bytealg.IndexString"], unfollowed := true, recurses := true, named := ["internal/bytealg.MaxLen"], apart := false }
def LawS8307CBuiltSaid : Prop := lawS8307CBuiltRow.holds Yba.pinned (OpenSpec.ofChange lawS8307CBuiltSpec)

/-- ITS FALSE NEIGHBOUR: 'it returns false'. Refute it at one input. -/
def lawS8307CBuiltWrong : ChangeSpec := { name := "lawS8307CBuilt", fn := fun _ => fun
  | [d1, d2] => { results := [.lit (.bool false)], args := [d1, d2] }
  | _ => none }
def LawS8307CBuiltWrongFalsely : Prop := lawS8307CBuiltRow.holds Yba.pinned (OpenSpec.ofChange lawS8307CBuiltWrong)

end Rows
end Go.Proofs.Ybulkfpaa
