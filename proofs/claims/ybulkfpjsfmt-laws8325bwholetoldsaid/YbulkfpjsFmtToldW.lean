/-
  THE ROW AND THE CARD OF tx.LawS8325BWhole.
-/
import Derived.Test.YbulkfpjsFmtEven
import Derived.Test.YbulkfpjsFmtOuter
namespace Go.Proofs.YbulkfpjsFmt
open Go.ChangeShapes Go.WideShapes Go.ChangeAt Go.RowKit
open Go.Extern.Stop Go.Stop Go.Extern

set_option maxRecDepth 100000 in
set_option maxHeartbeats 1000000 in
theorem whole_big (p : Option Addr) (n c : Nat) (w : World) (hbig : 1048576 < n) :
    Calls Ybaf.prog 3 #[.slice p n c] w fun e w' => e = .returned (.bool true) ∧ Below w.heap.size w w' := by
  have hb20 : (1048576 : Int) < (n : Int) := by omega
  go_enter Ybaf.func3, Ybaf.ntmps3
  go_wp2
  go_ret
  exact ⟨rfl, Below.refl _ _⟩

set_option maxRecDepth 100000 in
set_option maxHeartbeats 1000000 in
theorem whole_nil (w : World) :
    Calls Ybaf.prog 3 #[.slice none 0 0] w fun e w' => e = .returned (.bool true) ∧ Below w.heap.size w w' := by
  have hnn := fun w (a : Option Addr) (n c : Nat) => run_neq_slice_nil_any (P := Ybaf.prog) w 22 5 a n c 0 0 Ybaf.underlying22
  have hee := fun w (a : Option Addr) (n c : Nat) => Lib.run_eql_slice_nil (P := Ybaf.prog) w 22 5 a n c 0 0 Ybaf.underlying22
  go_enter Ybaf.func3, Ybaf.ntmps3
  go_wp2
  refine wp_loop_rounds 1 ?_
  rw [rounds_succ]
  go_wp2_with fail
  refine (dec_empty none 0 w).mono ?_
  rintro e w2 ⟨a, rfl, hb2⟩
  have HB := hid hb2
  clear hb2
  go_wp2_with fail
  refine (Ybaf.bytes_Equal_all none none 0 0 0 0 [] [] w2 rfl rfl (Lib.BytesIn.nil _ _ _) (Lib.BytesIn.nil _ _ _)).mono ?_
  rintro e w3 ⟨rfl, hw⟩
  obtain rfl := hw.symm
  go_wp2
  go_ret
  exact ⟨rfl, HB.out⟩

/-- The law at every input. -/
theorem whole_all (F : Interp) (p : Option Addr) (n c : Nat) (xs : List Int) (w : World) (ev : Value) (hF : F.answers w.tape) (hx : xs.length = n)
    (hr : ∀ i, i < n → 0 ≤ xs.getD i 0 ∧ xs.getD i 0 < 256) (hin : Lib.BytesIn w p n xs) (hnil : p = none → n = 0 ∧ c = 0) (hE : w.cell? ⟨0, 0, none⟩ = some ev) :
    Calls Ybaf.prog 3 #[.slice p n c] w fun e w' => e = .returned (.bool true) ∧ Below w.heap.size w w' := by
  by_cases hbig : 1048576 < n
  · exact whole_big p n c w hbig
  · cases p with
    | none =>
      obtain ⟨rfl, rfl⟩ := hnil rfl
      exact whole_nil w
    | some ad =>
      by_cases hn : n = 0
      · exact whole_zero F ad n c xs w ev hF hx (by omega) hr hin hE hn
      · obtain ⟨b, o, e, hc⟩ := hin (by omega)
        cases e
        by_cases ho : n % 2 = 0
        · exact whole_even F b o n c xs w ev hF hx (by omega) hr hin hE (by omega) ho
        · exact whole_odd F b o n c xs w ev hF hx (by omega) hr hin hE (by omega) ho

theorem readable3 : (Ybaf.f3.params.toList.all fun t => Ybaf.prog.readableRec t && decide (t < Ybaf.prog.types.size)) = true := by kernel_rfl

set_option maxRecDepth 100000 in
theorem whole_lifted (os : Os) (started : os.Started) (H : Type) (enc : TypeId × Value → H) :
    ReturnsInTold none {} Ybaf.checked os 3 .any Input.okWide ((OpenSpec.ofChange Rows.lawS8325BWholeSpec).preRow enc Ybaf.prog Ybaf.f3 Rows.lawS8325BWholeRow.domain false Rows.lawS8325BWholeRow.laid) (fun F => ((OpenSpec.ofChange Rows.lawS8325BWholeSpec).at F).post enc Ybaf.prog Ybaf.f3 false true false false) (aloneAtReturn Ybaf.prog) nothingAlways := by
  refine returnsInTold_of_row (C := Ybaf.checked) (s := OpenSpec.ofChange Rows.lawS8325BWholeSpec) (by kernel_rfl) own started (by kernel_rfl) Ybaf.func3
    (OpenSpec.witness_stopped_at (enc := enc) (C := Ybaf.checked) false ({ (World.holding Ybaf.prog os ⟨#[.cells #[.string { data := #[101, 110, 99, 111, 100, 105, 110, 103, 47, 104, 101, 120, 58, 32, 111, 100, 100, 32, 108, 101, 110, 103, 116, 104, 32, 104, 101, 120, 32, 115, 116, 114, 105, 110, 103] }] 40], #[], []⟩) with heap := (World.holding Ybaf.prog os ⟨#[.cells #[.string { data := #[101, 110, 99, 111, 100, 105, 110, 103, 47, 104, 101, 120, 58, 32, 111, 100, 100, 32, 108, 101, 110, 103, 116, 104, 32, 104, 101, 120, 32, 115, 116, 114, 105, 110, 103] }] 40], #[], []⟩).heap.modify 0 fun | .cells _ t frozen => .cells #[.iface 38 (.pointer (some ⟨(World.holding Ybaf.prog default ⟨#[], #[], []⟩).heap.size, 0, none⟩))] t frozen | o => o } : World) #[.slice none 0 0] rfl (by kernel_rfl) (by kernel_rfl) (by kernel_rfl)
      (OpenSpec.preRow_of_B rfl 8 (by kernel_rfl) (by kernel_rfl) (laid_met os _))) ?_
  intro F W base args ds gs before _ hF hval0 hW _ _ _ hL _
  have hval : ∀ (j : Nat) t v, Ybaf.f3.params[j]? = some t → args[j]? = some v → Value.okWide Ybaf.prog W .any base t v := hval0
  have hW' := hW
  obtain ⟨p, q, hA0, hV, rfl, _, _⟩ := hW
  have hA : DataW.TrodAll enc Ybaf.prog W 0 (fun _ => true) true Ybaf.f3.params.toList args.toList ds p := hA0
  have hAk := hA
  rw [Ybaf.params3] at hA hval
  obtain ⟨v0, d0, rfl, rfl, h0⟩ := trodAll_one hA
  obtain ⟨rfl, rfl⟩ := trodVars_none hV
  obtain ⟨a, n, c, xs, rfl, hx, hr, hin, hnil⟩ := open_bytes (hval 0 22 v0 rfl rfl) h0
  obtain ⟨ev, hE⟩ := laid_cell hL
  refine (whole_all F.told a n c xs W ev hF hx hr hin hnil hE).mono fun e W' ⟨he, bel⟩ => ?_
  subst he
  exact ⟨_, rfl, law_post (tb := 4) laidOut readable3 rfl rfl Ybaf.underlying4 hW' hAk rfl bel⟩

theorem whole_told : Rows.LawS8325BWholeToldSaid :=
  Claim7.holds_of_told_tied_any_at .later 3 Ybaf.f3 "fmt.errorf" [] [] _ _ _ _ _ (by kernel_rfl) rfl rfl rfl laidOut (by kernel_rfl) rfl ⟨rfl, rfl, rfl, rfl, rfl, rfl, rfl⟩ rfl rfl (by kernel_rfl) (by kernel_rfl) Ybaf.func3 (by kernel_rfl)
    (of_decide_eq_true (by kernel_rfl)) (of_decide_eq_true (by kernel_rfl)) stops.symm rfl stopKnobs.symm (by kernel_rfl)
    (by kernel_rfl) (by kernel_rfl) (by kernel_rfl) (by kernel_rfl) (by kernel_rfl) (by kernel_rfl) (by kernel_rfl) (by kernel_rfl) (by kernel_rfl) rfl (by kernel_rfl) rfl rfl
    rfl rfl
    rfl (by kernel_rfl) (by kernel_rfl) (by kernel_rfl) (by decide) (by kernel_rfl) lawS8325BWhole_row_tie
    (OpenClaim.moreEntering_of (by kernel_rfl) (by kernel_rfl) (by kernel_rfl) (by kernel_rfl) (by kernel_rfl) (by kernel_rfl) (by kernel_rfl) (by kernel_rfl) (by kernel_rfl) (by kernel_rfl))
    ⟨_, WideRow.started_initial, quiet _⟩
    (fun os started _ H enc _ => whole_lifted os started H enc)
end Go.Proofs.YbulkfpjsFmt
