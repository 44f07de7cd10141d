/-
  DERIVED. GIVEN WITH THE SEED: THE CARDS: each row of YbulkfpjsFmtRows.lean that lists a variable, with what it lists TIED to the program's text (the seventh form; the later family's looks); each row that meets fmt, with fmt's text TOLD by the authors' own Lean function (tested against real Go, not proved from fmt's source: count such statements apart). THE CARD IS WHAT COUNTS. Prove the row's statement (the work); the ties are given (YbulkfpjsFmtTie.lean); close each card by the builder's one call (the guide's Derived/Test/ToyasCard.lean, 'card_holds'). Laid BY PROGRAM, IN A SANDBOX (cutbox-door.mjs). By AI agents, Wed Nov 11 2026. No macro, syntax, notation, axiom, sorry.
-/
import Derived.Test.YbulkfpjsFmtRows
import GoSem.ClaimSeven
namespace Go.Proofs.YbulkfpjsFmt
namespace Rows

/-- THE TOLD AND TIED CARD OF 'tx.LawS8325BWhole'. -/
def lawS8325BWholeCard : Claim7 := { stood := { row := lawS8325BWholeRow, standIns := [], harness := (true, "10e6ccef1cbaabc6f7cf3ff995ef0456cd3e7cf6cf5e873ab34b8b6130f3eacf"), looks := false }, told := true, laidByText := true, laidKinds := [.sentinel], laidTests := true, laidLooks := .later, goes := false }
def LawS8325BWholeToldSaid : Prop := Claim7.holds Ybaf.pinned (.plain (OpenSpec.ofChange lawS8325BWholeSpec)) lawS8325BWholeCard
/-- ITS FALSE NEIGHBOUR. Refute it at one input. -/
def LawS8325BWholeToldWrongFalsely : Prop := Claim7.holds Ybaf.pinned (.plain (OpenSpec.ofChange lawS8325BWholeWrong)) lawS8325BWholeCard

/-- THE TOLD AND TIED CARD OF 'tx.LawS8325BHexLines'. -/
def lawS8325BHexLinesCard : Claim7 := { stood := { row := lawS8325BHexLinesRow, standIns := [], harness := (true, "10e6ccef1cbaabc6f7cf3ff995ef0456cd3e7cf6cf5e873ab34b8b6130f3eacf"), looks := false }, told := true, laidByText := true, laidKinds := [.sentinel], laidTests := true, laidLooks := .later, goes := false }
def LawS8325BHexLinesToldSaid : Prop := Claim7.holds Ybaf.pinned (.plain (OpenSpec.ofChange lawS8325BHexLinesSpec)) lawS8325BHexLinesCard
/-- ITS FALSE NEIGHBOUR. Refute it at one input. -/
def LawS8325BHexLinesToldWrongFalsely : Prop := Claim7.holds Ybaf.pinned (.plain (OpenSpec.ofChange lawS8325BHexLinesWrong)) lawS8325BHexLinesCard
end Rows
end Go.Proofs.YbulkfpjsFmt
