/-
  NARROWER THAN 'FOR EVERY INPUT', by the rows' own cells (each row's printed sentence says how): LawS8325BWhole: laid · LawS8325BHexLines: laid.
  DERIVED. THE GIVEN ROWS OF THIS SEAT. 2 by the template 'for every input the law returns true; each argument reads behind the call as it read before'; 0 by the template 'total and deterministic' (their statements: YbulkfpjsFmtTotals.lean).
  GIVEN WITH THE SEED: the statements are not yours to turn. If you find one false, say at which input.
  Laid BY PROGRAM, IN A SANDBOX (cutbox-rows.mjs): the forced cells as the released guide's own fill.sh prints them over the translation ac58a31848a7c705… (all of the seat's roots in one cut). By AI agents, Wed Nov 11 2026. No macro, syntax, notation, axiom, sorry.
-/
import Derived.Test.YbulkfpjsFmtChecked
import GoSem.Claim
import GoSem.ClaimJoined
import GoSem.ClaimMapViews
import Derived.JoinedTies
import Derived.KernelRfl
namespace Go.Proofs.YbulkfpjsFmt
/- THE CELL 'sum', in the pinned program and in every row, IS THE sha256 OF THE DUMP (.gsa) THAT YbulkfpjsFmtProg.lean LOADS. Nothing in Lean hashes anything: it is a label: what it is worth is what the hold of that sum in a sandbox is worth. -/
noncomputable def Ybaf.pinned : Pinned := { name := "ybulkfpjsfmt", sum := "ac58a31848a7c70533f705f010a84113dc28808a137229a683b6f359c61bc90d", checked := Ybaf.checked }
namespace Rows
def none {H : Type} : Left H := { results := [], args := [] }

/- WHAT THE LISTED PACKAGE-LEVEL VARIABLES READ AS WHEN THE CALL BEGINS. Each datum BY PROGRAM (the guide's laid-datum.mjs) off the statement by which the dump's own 'gosem.cut.vars' lays the variable. In a bare row this is a premise. The card (YbulkfpjsFmtCards.lean) ties it to the program's text. -/
def laid_encoding_hex_ErrLength {H : Type} : DataW H := .iface "*errors.errorString" (.ptr (.agg [.lit (.string [101, 110, 99, 111, 100, 105, 110, 103, 47, 104, 101, 120, 58, 32, 111, 100, 100, 32, 108, 101, 110, 103, 116, 104, 32, 104, 101, 120, 32, 115, 116, 114, 105, 110, 103])]))

/-- 'tx.LawS8325BWhole': WHATEVER THE INPUT: true; the input reads as it did. -/
def lawS8325BWholeSpec : ChangeSpec := { name := "lawS8325BWhole", fn := fun _ => fun
  | [d] => { results := [.lit (.bool true)], args := [d] }
  | _ => none }
def lawS8325BWholeRow : OpenClaim := { program := "ybulkfpjsfmt", sum := "ac58a31848a7c70533f705f010a84113dc28808a137229a683b6f359c61bc90d", func := "example.com/sheafline/sheafline/tx.LawS8325BWhole", spec := "lawS8325BWhole", stops := ["fmt.errorf"], inPlace := ["fmt.errorf"], named := ["encoding/hex.ErrLength"], apart := false, laid := [("encoding/hex.ErrLength", laid_encoding_hex_ErrLength)] }
/-- NO THEOREM (fmt's text is open here; it may be false): for the released tool's asking of the row's closed facts alone. THE STATEMENT IS 'LawS8325BWholeToldSaid' (YbulkfpjsFmtCards.lean). -/
def LawS8325BWholeFormAsk : Prop := lawS8325BWholeRow.holds Ybaf.pinned (OpenSpec.ofChange lawS8325BWholeSpec)

/-- ITS FALSE NEIGHBOUR: 'it returns false'. Refute it at one input. -/
def lawS8325BWholeWrong : ChangeSpec := { name := "lawS8325BWhole", fn := fun _ => fun
  | [d] => { results := [.lit (.bool false)], args := [d] }
  | _ => none }
def LawS8325BWholeWrongFormAsk : Prop := lawS8325BWholeRow.holds Ybaf.pinned (OpenSpec.ofChange lawS8325BWholeWrong)

/-- 'tx.LawS8325BHexLines': WHATEVER THE INPUT: true; the input reads as it did. -/
def lawS8325BHexLinesSpec : ChangeSpec := { name := "lawS8325BHexLines", fn := fun _ => fun
  | [d1, d2] => { results := [.lit (.bool true)], args := [d1, d2] }
  | _ => none }
def lawS8325BHexLinesRow : OpenClaim := { program := "ybulkfpjsfmt", sum := "ac58a31848a7c70533f705f010a84113dc28808a137229a683b6f359c61bc90d", func := "example.com/sheafline/sheafline/tx.LawS8325BHexLines", spec := "lawS8325BHexLines", stops := ["fmt.errorf"], inPlace := ["fmt.errorf"], named := ["encoding/hex.ErrLength"], apart := false, laid := [("encoding/hex.ErrLength", laid_encoding_hex_ErrLength)] }
/-- NO THEOREM (fmt's text is open here; it may be false): for the released tool's asking of the row's closed facts alone. THE STATEMENT IS 'LawS8325BHexLinesToldSaid' (YbulkfpjsFmtCards.lean). -/
def LawS8325BHexLinesFormAsk : Prop := lawS8325BHexLinesRow.holds Ybaf.pinned (OpenSpec.ofChange lawS8325BHexLinesSpec)

/-- ITS FALSE NEIGHBOUR: 'it returns false'. Refute it at one input. -/
def lawS8325BHexLinesWrong : ChangeSpec := { name := "lawS8325BHexLines", fn := fun _ => fun
  | [d1, d2] => { results := [.lit (.bool false)], args := [d1, d2] }
  | _ => none }
def LawS8325BHexLinesWrongFormAsk : Prop := lawS8325BHexLinesRow.holds Ybaf.pinned (OpenSpec.ofChange lawS8325BHexLinesWrong)

end Rows
end Go.Proofs.YbulkfpjsFmt
