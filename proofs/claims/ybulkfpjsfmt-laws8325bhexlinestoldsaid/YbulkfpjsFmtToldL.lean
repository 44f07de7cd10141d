/-
  THE ROW AND THE CARD OF tx.LawS8325BHexLines.
-/
import Derived.Test.YbulkfpjsFmtLinesE
import Derived.Test.YbulkfpjsFmtOuter
namespace Go.Proofs.YbulkfpjsFmt
open Go.ChangeShapes Go.WideShapes Go.ChangeAt Go.RowKit
open Go.Extern.Stop Go.Stop Go.Extern

set_option maxRecDepth 100000 in
set_option maxHeartbeats 1000000 in
theorem lines_big (p : Option Addr) (n c : Nat) (cr : Bool) (w : World) (hbig : 1048576 < n) :
    Calls Ybaf.prog 4 #[.slice p n c, .bool cr] w fun e w' => e = .returned (.bool true) ∧ Below w.heap.size w w' := by
  have hb20 : (1048576 : Int) < (n : Int) := by omega
  go_enter Ybaf.func4, Ybaf.ntmps4
  go_wp2
  go_ret
  exact ⟨rfl, Below.refl _ _⟩

/-- The law at every input. -/
theorem lines_all (F : Interp) (p : Option Addr) (n c : Nat) (xs : List Int) (cr : Bool) (w : World) (ev : Value) (hF : F.answers w.tape) (hx : xs.length = n)
    (hr : ∀ i, i < n → 0 ≤ xs.getD i 0 ∧ xs.getD i 0 < 256) (hin : Lib.BytesIn w p n xs) (hE : w.cell? ⟨0, 0, none⟩ = some ev) :
    Calls Ybaf.prog 4 #[.slice p n c, .bool cr] w fun e w' => e = .returned (.bool true) ∧ Below w.heap.size w w' := by
  by_cases hbig : 1048576 < n
  · exact lines_big p n c cr w hbig
  · by_cases hn : n = 0
    · cases cr with
      | true => exact lines_true_zero F p n c xs w ev hF hx (by omega) hr hin hE hn
      | false => exact lines_false_zero F p n c xs w ev hF hx (by omega) hr hin hE hn
    · obtain ⟨b, o, e, hc⟩ := hin (by omega)
      subst e
      cases cr with
      | true => exact lines_true_pos F b o n c xs w ev hF hx (by omega) hr hin hE (by omega)
      | false =>
        by_cases ho : n % 2 = 0
        · exact lines_false_even F b o n c xs w ev hF hx (by omega) hr hin hE (by omega) ho
        · exact lines_false_odd F b o n c xs w ev hF hx (by omega) hr hin hE (by omega) ho

theorem readable4 : (Ybaf.f4.params.toList.all fun t => Ybaf.prog.readableRec t && decide (t < Ybaf.prog.types.size)) = true := by kernel_rfl

set_option maxRecDepth 100000 in
theorem lines_lifted (os : Os) (started : os.Started) (H : Type) (enc : TypeId × Value → H) :
    ReturnsInTold none {} Ybaf.checked os 4 .any Input.okWide ((OpenSpec.ofChange Rows.lawS8325BHexLinesSpec).preRow enc Ybaf.prog Ybaf.f4 Rows.lawS8325BHexLinesRow.domain false Rows.lawS8325BHexLinesRow.laid) (fun F => ((OpenSpec.ofChange Rows.lawS8325BHexLinesSpec).at F).post enc Ybaf.prog Ybaf.f4 false true false false) (aloneAtReturn Ybaf.prog) nothingAlways := by
  refine returnsInTold_of_row (C := Ybaf.checked) (s := OpenSpec.ofChange Rows.lawS8325BHexLinesSpec) (by kernel_rfl) own started (by kernel_rfl) Ybaf.func4
    (OpenSpec.witness_stopped_at (enc := enc) (C := Ybaf.checked) false ({ (World.holding Ybaf.prog os ⟨#[.cells #[.string { data := #[101, 110, 99, 111, 100, 105, 110, 103, 47, 104, 101, 120, 58, 32, 111, 100, 100, 32, 108, 101, 110, 103, 116, 104, 32, 104, 101, 120, 32, 115, 116, 114, 105, 110, 103] }] 40], #[], []⟩) with heap := (World.holding Ybaf.prog os ⟨#[.cells #[.string { data := #[101, 110, 99, 111, 100, 105, 110, 103, 47, 104, 101, 120, 58, 32, 111, 100, 100, 32, 108, 101, 110, 103, 116, 104, 32, 104, 101, 120, 32, 115, 116, 114, 105, 110, 103] }] 40], #[], []⟩).heap.modify 0 fun | .cells _ t frozen => .cells #[.iface 38 (.pointer (some ⟨(World.holding Ybaf.prog default ⟨#[], #[], []⟩).heap.size, 0, none⟩))] t frozen | o => o } : World) #[.slice none 0 0, .bool false] rfl (by kernel_rfl) (by kernel_rfl) (by kernel_rfl)
      (OpenSpec.preRow_of_B rfl 8 (by kernel_rfl) (by kernel_rfl) (laid_met os _))) ?_
  intro F W base args ds gs before _ hF hval0 hW _ _ _ hL _
  have hval : ∀ (j : Nat) t v, Ybaf.f4.params[j]? = some t → args[j]? = some v → Value.okWide Ybaf.prog W .any base t v := hval0
  have hW' := hW
  obtain ⟨p, q, hA0, hV, rfl, _, _⟩ := hW
  have hA : DataW.TrodAll enc Ybaf.prog W 0 (fun _ => true) true Ybaf.f4.params.toList args.toList ds p := hA0
  have hAk := hA
  rw [Ybaf.params4] at hA hval
  obtain ⟨v0, v1, d0, d1, p0, p1, rfl, rfl, rfl, h0, h1⟩ := trodAll_two hA
  obtain ⟨rfl, rfl⟩ := trodVars_none hV
  obtain ⟨a, n, c, xs, rfl, hx, hr, hin, _⟩ := open_bytes (hval 0 22 v0 rfl rfl) h0
  obtain ⟨cr, rfl, rfl, rfl⟩ := open_bool Ybaf.underlying4 (hval 1 4 v1 rfl rfl) h1
  obtain ⟨ev, hE⟩ := laid_cell hL
  refine (lines_all F.told a n c xs cr W ev hF hx hr hin hE).mono fun e W' ⟨he, bel⟩ => ?_
  subst he
  exact ⟨_, rfl, law_post (tb := 4) laidOut readable4 rfl rfl Ybaf.underlying4 hW' hAk rfl bel⟩

theorem lines_told : Rows.LawS8325BHexLinesToldSaid :=
  Claim7.holds_of_told_tied_any_at .later 4 Ybaf.f4 "fmt.errorf" [] [] _ _ _ _ _ (by kernel_rfl) rfl rfl rfl laidOut (by kernel_rfl) rfl ⟨rfl, rfl, rfl, rfl, rfl, rfl, rfl⟩ rfl rfl (by kernel_rfl) (by kernel_rfl) Ybaf.func4 (by kernel_rfl)
    (of_decide_eq_true (by kernel_rfl)) (of_decide_eq_true (by kernel_rfl)) stops.symm rfl stopKnobs.symm (by kernel_rfl)
    (by kernel_rfl) (by kernel_rfl) (by kernel_rfl) (by kernel_rfl) (by kernel_rfl) (by kernel_rfl) (by kernel_rfl) (by kernel_rfl) (by kernel_rfl) rfl (by kernel_rfl) rfl rfl
    rfl rfl
    rfl (by kernel_rfl) (by kernel_rfl) (by kernel_rfl) (by decide) (by kernel_rfl) lawS8325BHexLines_row_tie
    (OpenClaim.moreEntering_of (by kernel_rfl) (by kernel_rfl) (by kernel_rfl) (by kernel_rfl) (by kernel_rfl) (by kernel_rfl) (by kernel_rfl) (by kernel_rfl) (by kernel_rfl) (by kernel_rfl))
    ⟨_, WideRow.started_initial, quiet _⟩
    (fun os started _ H enc _ => lines_lifted os started H enc)
end Go.Proofs.YbulkfpjsFmt
