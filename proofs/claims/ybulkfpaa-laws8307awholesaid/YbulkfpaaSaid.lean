/-
  THE ROW.
-/
import Derived.Test.YbulkfpaaLaw
import Derived.Test.YbulkfpaaPost
import Derived.Deep.Slices
import Derived.Deep.Strs
namespace Go.Proofs.Ybulkfpaa
open Go.ChangeShapes Go.WideShapes Go.ChangeAt Go.RowKit

theorem own : ownKnob Yba.prog.godebug = none := by kernel_rfl
theorem laidOut : laidOutB Yba.prog = true := by kernel_rfl
theorem cells9 : Yba.prog.cellsOf 9 = 1 := by kernel_rfl
theorem cells2 : Yba.prog.cellsOf 2 = 1 := by kernel_rfl
theorem readable3 : (Yba.f3.params.toList.all fun t => Yba.prog.readableRec t && decide (t < Yba.prog.types.size)) = true := by kernel_rfl

set_option maxRecDepth 100000 in
set_option maxHeartbeats 1000000 in
/-- More than the law's own bound: it answers at once. -/
theorem law_big (na ba : Option Addr) (n nc bn bc : Nat) (w : World) (hbig : 4096 < n) :
    Calls Yba.prog 3 #[.slice na n nc, .slice ba bn bc] w fun e w' => e = .returned (.bool true) ∧ Below w.heap.size w w' := by
  have h2 : (4096 : Int) < n := by omega
  go_enter Yba.func3, Yba.ntmps3
  go_wp2_with fail
  go_ret
  exact ⟨rfl, Below.refl _ _⟩

set_option maxRecDepth 100000 in
/-- THE NAMES THAT CAME IN, opened. -/
theorem open_names {H : Type} {enc : TypeId × Value → H} {W : World} {base : Nat} {v : Value} {d : DataW H} {p : List MemPlace}
    (hv : Value.okWide Yba.prog W .any base 22 v) (h : DataW.Trod enc Yba.prog W 0 (fun _ => true) true 22 v d p) :
    ∃ (a : Option Addr) (n c : Nat) (S : Nat → ByteArray), v = .slice a n c ∧ NamesAt a n S W := by
  obtain ⟨a0, len, cap, rfl⟩ := okWide_slice Yba.underlying22 hv
  obtain ⟨fuel, hf⟩ := h
  rcases Go.Deep.open_strs Yba.underlying22 Yba.underlying9 cells9 hf with ⟨hcs, hx⟩ | ⟨a, len', cap', m, S, hcs, _, hl, hm, hmm, hx, hcell⟩
  · simp [Value.cells] at hcs
    obtain ⟨rfl, rfl, rfl⟩ := hcs
    exact ⟨none, 0, 0, fun _ => ByteArray.empty, rfl, fun hi => absurd hi (Nat.not_lt_zero _)⟩
  · simp [Value.cells] at hcs
    obtain ⟨rfl, rfl, rfl⟩ := hcs
    simp only [if_true] at hmm
    refine ⟨some a, len, cap, S, rfl, fun hpos => ?_⟩
    obtain ⟨b, off, spot⟩ := a
    have hspot : spot = none := by simpa [Addr.add] using World.cell?_spot (hcell 0 (by omega)).1
    subst hspot
    refine ⟨b, off, rfl, fun i hi => ?_⟩
    have h1 := hcell i (by omega)
    rw [add_plain] at h1
    exact h1

set_option maxRecDepth 100000 in
/-- THE BALANCES THAT CAME IN, opened. -/
theorem open_bals {H : Type} {enc : TypeId × Value → H} {W : World} {base : Nat} {v : Value} {d : DataW H} {p : List MemPlace}
    (hv : Value.okWide Yba.prog W .any base 23 v) (h : DataW.Trod enc Yba.prog W 0 (fun _ => true) true 23 v d p) :
    ∃ (a : Option Addr) (n c : Nat) (Bs : Nat → Int), v = .slice a n c ∧ BalsAt a n Bs W := by
  obtain ⟨a0, len, cap, rfl⟩ := okWide_slice Yba.underlying23 hv
  obtain ⟨fuel, hf⟩ := h
  rcases open_ints Yba.underlying23 Yba.underlying2 cells2 hf with ⟨hcs, hx⟩ | ⟨a, len', cap', zs, hcs, _, hl, hm, hz, hx, hcell, hwz⟩
  · simp [Value.cells] at hcs
    obtain ⟨rfl, rfl, rfl⟩ := hcs
    exact ⟨none, 0, 0, fun _ => 0, rfl, fun hi => absurd hi (Nat.not_lt_zero _)⟩
  · simp [Value.cells] at hcs
    obtain ⟨rfl, rfl, rfl⟩ := hcs
    simp only [if_true] at hz
    refine ⟨some a, len, cap, fun i => zs.getD i 0, rfl, fun hpos => ?_⟩
    obtain ⟨b, off, spot⟩ := a
    have hspot : spot = none := by simpa [Addr.add] using World.cell?_spot (hcell 0 (by omega))
    subst hspot
    refine ⟨b, off, rfl, fun i hi => ?_⟩
    have h1 := hcell i (by omega)
    rw [add_plain] at h1
    exact h1

set_option maxRecDepth 100000 in
theorem lifted (os : Os) (started : os.Started) (H : Type) (enc : TypeId × Value → H) :
    ReturnsInHanded {} Yba.checked os 3 .any (Rows.lawS8307AWholeSpec.pre6 enc Yba.prog Yba.f3 Rows.lawS8307AWholeRow.domain false) (Rows.lawS8307AWholeSpec.post enc Yba.prog Yba.f3 false true false false) := by
  refine returnsInHanded_of_change (C := Yba.checked) own started (by kernel_rfl) Yba.func3
    (ChangeSpec.witness6 (enc := enc) (C := Yba.checked) false ⟨#[], #[.slice none 0 0, .slice none 0 0], []⟩ 8 (by kernel_rfl) (by kernel_rfl) (by kernel_rfl) (by kernel_rfl)) ?_
  intro W base args ds gs before hval0 hW _ _
  have hval : ∀ (j : Nat) t v, Yba.f3.params[j]? = some t → args[j]? = some v → Value.okWide Yba.prog W .any base t v := hval0
  have hW' := hW
  obtain ⟨p, q, hA0, hV, rfl, _, _⟩ := hW
  have hA : DataW.TrodAll enc Yba.prog W 0 (fun _ => true) true Yba.f3.params.toList args.toList ds p := hA0
  have hAk := hA
  rw [Yba.params3] at hA hval
  obtain ⟨v0, vs0, d0, ds0, p0, q0, hargs, rfl, rfl, h0, r0⟩ := trodAll_cons hA
  obtain ⟨v1, vs1, d1, ds1, p1, q1, rfl, rfl, rfl, h1, r1⟩ := trodAll_cons r0
  obtain ⟨rfl, rfl, rfl⟩ := trodAll_nil r1
  obtain rfl : args = #[v0, v1] := by cases args; simp_all
  obtain ⟨rfl, rfl⟩ := trodVars_none hV
  obtain ⟨na, n, nc, S, rfl, hN⟩ := open_names (hval 0 22 v0 rfl rfl) h0
  obtain ⟨ba, bn, bc, Bs, rfl, hB⟩ := open_bals (hval 1 23 v1 rfl rfl) h1
  have hlaw : Calls Yba.prog 3 #[.slice na n nc, .slice ba bn bc] W fun e w' => e = .returned (.bool true) ∧ Below W.heap.size W w' := by
    by_cases hbig : 4096 < n
    · exact law_big na ba n nc bn bc W hbig
    · exact law_any na ba n nc bn bc S Bs W hN hB (by omega)
  refine hlaw.mono fun e W' ⟨he, bel⟩ => ?_
  subst he
  exact ⟨_, rfl, law_post (tb := 4) laidOut readable3 rfl rfl Yba.underlying4 hW' hAk rfl bel⟩

theorem said : Rows.LawS8307AWholeSaid :=
  OpenClaim.holds_of_wide 3 Yba.f3 rfl rfl rfl rfl rfl rfl rfl ⟨rfl, rfl, rfl, rfl, rfl⟩ rfl rfl rfl rfl rfl (by kernel_rfl) Yba.func3 (by kernel_rfl)
    (of_decide_eq_true (by kernel_rfl)) (by unfold Func.isWrapper; first | (rw [if_pos (by decide +kernel)]; kernel_rfl) | (rw [if_neg (by decide +kernel)]; exact ⟨rfl, rfl⟩))
    (fun os started H enc _ => lifted os started H enc)
end Go.Proofs.Ybulkfpaa
