/-
  No cell of these rows narrows 'for every input' (looked for: loops, veiled, ifaces, maps, wideKeys, modest, calm, conditions, laid).
  DERIVED. THE GIVEN ROWS OF THIS SEAT. 1 by the template 'for every input the law returns true; each argument reads behind the call as it read before'; 0 by the template 'total and deterministic' (their statements: YbulkhexwTotals.lean).
  GIVEN WITH THE SEED: the statements are not yours to turn. If you find one false, say at which input.
  Laid BY PROGRAM, IN A SANDBOX (cutbox-rows.mjs): the forced cells as the released guide's own fill.sh prints them over the translation 6fe9815bbca591ac… (all of the seat's roots in one cut). By AI agents, Wed Nov 11 2026. No macro, syntax, notation, axiom, sorry.
-/
import Derived.Test.YbulkhexwChecked
import GoSem.Claim
import GoSem.ClaimJoined
import GoSem.ClaimMapViews
import Derived.JoinedTies
import Derived.KernelRfl
namespace Go.Proofs.Ybulkhexw
/- THE CELL 'sum', in the pinned program and in every row, IS THE sha256 OF THE DUMP (.gsa) THAT YbulkhexwProg.lean LOADS. Nothing in Lean hashes anything: it is a label: what it is worth is what the hold of that sum in a sandbox is worth. -/
noncomputable def Yba.pinned : Pinned := { name := "ybulkhexw", sum := "6fe9815bbca591acd888c2dbd05cd6efb0f9bcfc272a45f385e3592f77617b22", checked := Yba.checked }
namespace Rows
def none {H : Type} : Left H := { results := [], args := [] }

/-- 'lock.LawS10331AWhole': WHATEVER THE INPUT: true; the input reads as it did. -/
def lawS10331AWholeSpec : ChangeSpec := { name := "lawS10331AWhole", fn := fun _ => fun
  | [d1, d2, d3, d4, d5] => { results := [.lit (.bool true)], args := [d1, d2, d3, d4, d5] }
  | _ => none }
def lawS10331AWholeRow : OpenClaim := { program := "ybulkhexw", sum := "6fe9815bbca591acd888c2dbd05cd6efb0f9bcfc272a45f385e3592f77617b22", func := "example.com/palimpsest/palimpsest/internal/lock.LawS10331AWhole", spec := "lawS10331AWhole", unfollowed := true, recurses := true, apart := false }
def LawS10331AWholeSaid : Prop := lawS10331AWholeRow.holds Yba.pinned (OpenSpec.ofChange lawS10331AWholeSpec)

/-- ITS FALSE NEIGHBOUR: 'it returns false'. Refute it at one input. -/
def lawS10331AWholeWrong : ChangeSpec := { name := "lawS10331AWhole", fn := fun _ => fun
  | [d1, d2, d3, d4, d5] => { results := [.lit (.bool false)], args := [d1, d2, d3, d4, d5] }
  | _ => none }
def LawS10331AWholeWrongFalsely : Prop := lawS10331AWholeRow.holds Yba.pinned (OpenSpec.ofChange lawS10331AWholeWrong)

end Rows
end Go.Proofs.Ybulkhexw
