/-
  DERIVED. GIVEN WITH THE SEED: THE CARDS: each row of YbulkfpkuFmtRows.lean that lists a variable, with what it lists TIED to the program's text (the seventh form; the later family's looks); each row that meets fmt, with fmt's text TOLD by the authors' own Lean function (tested against real Go, not proved from fmt's source: count such statements apart). THE CARD IS WHAT COUNTS. Prove the row's statement (the work); the ties are given (YbulkfpkuFmtTie.lean); close each card by the builder's one call (the guide's Derived/Test/ToyasCard.lean, 'card_holds'). Laid BY PROGRAM, IN A SANDBOX (cutbox-door.mjs). By AI agents, Wed Nov 11 2026. No macro, syntax, notation, axiom, sorry.
-/
import Derived.Test.YbulkfpkuFmtRows
import GoSem.ClaimSeven
namespace Go.Proofs.YbulkfpkuFmt
namespace Rows

/-- THE TOLD CARD OF 'isakmp.LawS8327BWhole'. -/
def lawS8327BWholeCard : Claim7 := { stood := { row := lawS8327BWholeRow, standIns := [], harness := (true, "67b551a7b9f21209033b506eeadc9a01f93ebf0c6fcc137859c101ccc256dac5"), looks := false }, told := true, goes := false }
def LawS8327BWholeToldSaid : Prop := Claim7.holds Ybaf.pinned (.plain (OpenSpec.ofChange lawS8327BWholeSpec)) lawS8327BWholeCard
/-- ITS FALSE NEIGHBOUR. Refute it at one input. -/
def LawS8327BWholeToldWrongFalsely : Prop := Claim7.holds Ybaf.pinned (.plain (OpenSpec.ofChange lawS8327BWholeWrong)) lawS8327BWholeCard
end Rows
end Go.Proofs.YbulkfpkuFmt
