/-
  No cell of these rows narrows 'for every input' (looked for: loops, veiled, ifaces, maps, wideKeys, modest, calm, conditions, laid).
  DERIVED. THE GIVEN ROWS OF THIS SEAT. 1 by the template 'for every input the law returns true; each argument reads behind the call as it read before'; 0 by the template 'total and deterministic' (their statements: YbulkfpkuFmtTotals.lean).
  GIVEN WITH THE SEED: the statements are not yours to turn. If you find one false, say at which input.
  Laid BY PROGRAM, IN A SANDBOX (cutbox-rows.mjs): the forced cells as the released guide's own fill.sh prints them over the translation 6721ce46c13ba38e… (all of the seat's roots in one cut). By AI agents, Wed Nov 11 2026. No macro, syntax, notation, axiom, sorry.
-/
import Derived.Test.YbulkfpkuFmtChecked
import GoSem.Claim
import GoSem.ClaimJoined
import GoSem.ClaimMapViews
import Derived.JoinedTies
import Derived.KernelRfl
namespace Go.Proofs.YbulkfpkuFmt
/- THE CELL 'sum', in the pinned program and in every row, IS THE sha256 OF THE DUMP (.gsa) THAT YbulkfpkuFmtProg.lean LOADS. Nothing in Lean hashes anything: it is a label: what it is worth is what the hold of that sum in a sandbox is worth. -/
noncomputable def Ybaf.pinned : Pinned := { name := "ybulkfpkufmt", sum := "6721ce46c13ba38ea980840790bd497a72b1339f1d6fccaab73de998984f2aa1", checked := Ybaf.checked }
namespace Rows
def none {H : Type} : Left H := { results := [], args := [] }

/-- 'isakmp.LawS8327BWhole': WHATEVER THE INPUT: true; the input reads as it did. -/
def lawS8327BWholeSpec : ChangeSpec := { name := "lawS8327BWhole", fn := fun _ => fun
  | [d1, d2, d3, d4, d5, d6, d7, d8, d9] => { results := [.lit (.bool true)], args := [d1, d2, d3, d4, d5, d6, d7, d8, d9] }
  | _ => none }
def lawS8327BWholeRow : OpenClaim := { program := "ybulkfpkufmt", sum := "6721ce46c13ba38ea980840790bd497a72b1339f1d6fccaab73de998984f2aa1", func := "example.com/keyparley/keyparley/internal/isakmp.LawS8327BWhole", spec := "lawS8327BWhole", stops := ["fmt.errorf"], inPlace := ["fmt.errorf"], apart := false }
/-- NO THEOREM (fmt's text is open here; it may be false): for the released tool's asking of the row's closed facts alone. THE STATEMENT IS 'LawS8327BWholeToldSaid' (YbulkfpkuFmtCards.lean). -/
def LawS8327BWholeFormAsk : Prop := lawS8327BWholeRow.holds Ybaf.pinned (OpenSpec.ofChange lawS8327BWholeSpec)

/-- ITS FALSE NEIGHBOUR: 'it returns false'. Refute it at one input. -/
def lawS8327BWholeWrong : ChangeSpec := { name := "lawS8327BWhole", fn := fun _ => fun
  | [d1, d2, d3, d4, d5, d6, d7, d8, d9] => { results := [.lit (.bool false)], args := [d1, d2, d3, d4, d5, d6, d7, d8, d9] }
  | _ => none }
def LawS8327BWholeWrongFormAsk : Prop := lawS8327BWholeRow.holds Ybaf.pinned (OpenSpec.ofChange lawS8327BWholeWrong)

end Rows
end Go.Proofs.YbulkfpkuFmt
