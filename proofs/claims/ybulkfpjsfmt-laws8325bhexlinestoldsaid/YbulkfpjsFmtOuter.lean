/-
  THE ROW's OUTER STEPS, SHARED BY BOTH LAWS: closed facts, one start that fits, the listed variable's cell, a slice of bytes that came in.
-/
import Derived.Test.YbulkfpjsFmtAny
import Derived.Test.YbulkfpjsFmtPost
import Derived.Test.YbulkfpjsFmtTie
import Derived.Test.YbulkfpjsFmtCards
import Derived.Stop.JoinedTold
import Derived.Stop.LaidErr
import Derived.SevenTiedAt
namespace Go.Proofs.YbulkfpjsFmt
open Go.ChangeShapes Go.WideShapes Go.ChangeAt Go.RowKit
open Go.Extern.Stop Go.Stop Go.Extern

theorem own : ownKnob Ybaf.prog.godebug = none := by kernel_rfl
theorem laidOut : laidOutB Ybaf.pinned.checked.prog = true := by kernel_rfl
theorem cells5 : Ybaf.prog.cellsOf 5 = 1 := by kernel_rfl
theorem cells40 : Ybaf.prog.cellsOf 40 = 1 := by kernel_rfl
theorem cells9 : Ybaf.prog.cellsOf 9 = 1 := by kernel_rfl
theorem stops : Ybaf.pinned.checked.prog.stops = ["fmt.errorf"] := by kernel_rfl
theorem stopKnobs : Ybaf.pinned.checked.prog.stopKnobs = [] := by kernel_rfl
theorem quiet (os : Os) : Stop.quiet Ybaf.pinned.checked.prog os := by
  intro k hk
  rw [stopKnobs] at hk
  cases hk
theorem gEType : (Ybaf.prog.globals[0]?).map (·.type) = some 26 := by kernel_rfl
theorem star : "*" ++ "errors.errorString" = "*errors.errorString" := by decide
theorem row38 (u : TypeId) (h : Ybaf.prog.typeName? 3 u = some "*errors.errorString") : u = 38 :=
  typeName_ptr_named (nm := "errors.errorString") (by rw [star]; kernel_rfl) (by kernel_rfl) (by decide) u (by rw [star]; exact h)

/-- The listed variable's cell holds something (an error of errors.New's make). -/
theorem laid_cell {W : World} (h : laidMetH Ybaf.prog Rows.lawS8325BWholeRow.laid W) : ∃ ev, W.cell? ⟨0, 0, none⟩ = some ev := by
  obtain ⟨a1, s1, hv1, _⟩ := laid_sentinel (g := 0) h (by kernel_rfl) gEType Ybaf.underlying26 row38 Ybaf.underlying38 Ybaf.underlying40 rfl rfl Ybaf.underlying9 cells40 cells9
  exact ⟨_, by simpa using World.var?_cell (g := 0) (by kernel_rfl) hv1 0⟩

/-- One start that fits: the variable as its initialiser lays it. -/
theorem laid_met (os : Os) (args : Array Value) : laidMet Ybaf.prog Rows.lawS8325BWholeRow.laid (({ (World.holding Ybaf.prog os ⟨#[.cells #[.string { data := #[101, 110, 99, 111, 100, 105, 110, 103, 47, 104, 101, 120, 58, 32, 111, 100, 100, 32, 108, 101, 110, 103, 116, 104, 32, 104, 101, 120, 32, 115, 116, 114, 105, 110, 103] }] 40], #[], []⟩) with heap := (World.holding Ybaf.prog os ⟨#[.cells #[.string { data := #[101, 110, 99, 111, 100, 105, 110, 103, 47, 104, 101, 120, 58, 32, 111, 100, 100, 32, 108, 101, 110, 103, 116, 104, 32, 104, 101, 120, 32, 115, 116, 114, 105, 110, 103] }] 40], #[], []⟩).heap.modify 0 fun | .cells _ t frozen => .cells #[.iface 38 (.pointer (some ⟨(World.holding Ybaf.prog default ⟨#[], #[], []⟩).heap.size, 0, none⟩))] t frozen | o => o } : World).forCall (fun _ _ => 0) ⟨#[], args, []⟩).memory :=
  laidMet_of_run (ps := [.cell 0 0, .cell (World.holding Ybaf.prog default ⟨#[], #[], []⟩).heap.size 0]) 8 (by kernel_rfl) (by kernel_rfl) (by kernel_rfl)

/-- A SLICE OF BYTES THAT CAME IN, opened. -/
theorem open_bytes {H : Type} {enc : TypeId × Value → H} {W : World} {base : Nat} {v : Value} {d : DataW H} {p : List MemPlace}
    (hv : Value.okWide Ybaf.prog W .any base 22 v) (h : DataW.Trod enc Ybaf.prog W 0 (fun _ => true) true 22 v d p) :
    ∃ (a : Option Addr) (n c : Nat) (xs : List Int), v = .slice a n c ∧ xs.length = n ∧ (∀ i, i < n → 0 ≤ xs.getD i 0 ∧ xs.getD i 0 < 256) ∧ Lib.BytesIn W a n xs ∧ (a = none → n = 0 ∧ c = 0) := by
  obtain ⟨a0, len, cap, rfl⟩ := okWide_slice Ybaf.underlying22 hv
  obtain ⟨fuel, hf⟩ := h
  rcases open_ints Ybaf.underlying22 Ybaf.underlying5 cells5 hf with ⟨hcs, hx⟩ | ⟨a, len', cap', zs, hcs, _, hl, hm, hz, hx, hcell, hwz⟩
  · simp [Value.cells] at hcs
    obtain ⟨rfl, rfl, rfl⟩ := hcs
    exact ⟨none, 0, 0, [], rfl, rfl, fun i hi => absurd hi (Nat.not_lt_zero _), Lib.BytesIn.nil _ _ _, fun _ => ⟨rfl, rfl⟩⟩
  · simp [Value.cells] at hcs
    obtain ⟨rfl, rfl, rfl⟩ := hcs
    simp only [if_true] at hz
    have hg : ∀ i, i < len → (zs.take len).getD i 0 = zs.getD i 0 := by
      intro i hi
      simp [hi]
    refine ⟨some a, len, cap, zs.take len, rfl, by rw [List.length_take]; omega, ?_, ?_, fun h => by cases h⟩
    · intro i hi
      rw [hg i hi]
      have hi' : i < zs.length := by omega
      have hw := hwz zs[i] (List.getElem_mem hi')
      have e : zs.getD i 0 = zs[i] := by simp [hi']
      rw [e]
      simp [Lit.wf, IntKind.min, IntKind.max, IntKind.signed, IntKind.bits] at hw
      omega
    · refine Lib.BytesIn.of_cells fun i hi => ?_
      rw [hg i hi]
      exact hcell i (by omega)
end Go.Proofs.YbulkfpjsFmt
