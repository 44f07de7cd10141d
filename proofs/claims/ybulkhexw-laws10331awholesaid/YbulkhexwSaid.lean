/-
  THE ROW.
-/
import Derived.Test.YbulkhexwLaw
import Derived.Test.YbulkhexwPost
import Derived.Deep.Slices
namespace Go.Proofs.Ybulkhexw
open Go.ChangeShapes Go.WideShapes Go.ChangeAt Go.RowKit

theorem own : ownKnob Yba.prog.godebug = none := by kernel_rfl
theorem laidOut : laidOutB Yba.prog = true := by kernel_rfl
theorem cells29 : Yba.prog.cellsOf 29 = 5 := by kernel_rfl
theorem cells5 : Yba.prog.cellsOf 5 = 1 := by kernel_rfl
theorem cells4 : Yba.prog.cellsOf 4 = 1 := by kernel_rfl
theorem readable3 : (Yba.f3.params.toList.all fun t => Yba.prog.readableRec t && decide (t < Yba.prog.types.size)) = true := by kernel_rfl
theorem bounds_u8 {n : Int} (h : (Lit.int .u8 n).wf = true) : 0 ≤ n ∧ n < 256 := by
  simp [Lit.wf, IntKind.min, IntKind.max, IntKind.signed, IntKind.bits] at h
  omega

set_option maxRecDepth 100000 in
set_option maxHeartbeats 1000000 in
/-- More than the law's own bound: it answers at once. -/
theorem law_big (ra ha : Option Addr) (n rc hn hc : Nat) (hv : Bool) (pk ow : Int) (w : World) (hbig : 1024 < n ∨ 1048576 < hn) :
    Calls Yba.prog 3 #[.slice ra n rc, .slice ha hn hc, .bool hv, .int .i64 pk, .int .u8 ow] w fun e w' => e = .returned (.bool true) ∧ Below w.heap.size w w' := by
  by_cases h1 : 1024 < n
  · have h2 : (1024 : Int) < n := by omega
    go_enter Yba.func3, Yba.ntmps3
    go_wp2_with fail
    go_ret
    exact ⟨rfl, Below.refl _ _⟩
  · have h2 : ¬ (1024 : Int) < n := by omega
    have h3 : (1048576 : Int) < hn := by omega
    clear hbig h1
    go_enter Yba.func3, Yba.ntmps3
    go_wp2_with fail
    go_ret
    exact ⟨rfl, Below.refl _ _⟩

set_option maxRecDepth 100000 in
/-- THE REQUESTS THAT CAME IN, opened. -/
theorem open_raws {H : Type} {enc : TypeId × Value → H} {W : World} {base : Nat} {v : Value} {d : DataW H} {p : List MemPlace}
    (hv : Value.okWide Yba.prog W .any base 22 v) (h : DataW.Trod enc Yba.prog W 0 (fun _ => true) true 22 v d p) :
    ∃ (a : Option Addr) (n c : Nat) (R : Nat → Raw), v = .slice a n c ∧ (0 < n → ∃ b off, a = some ⟨b, off, none⟩ ∧ ∀ i, i < n → RawAt W b off i (R i) ∧ (R i).ok) := by
  obtain ⟨a0, len, cap, rfl⟩ := okWide_slice Yba.underlying22 hv
  obtain ⟨fuel, hf⟩ := h
  rcases Go.Deep.open_slice Yba.underlying22 hf with ⟨hcs, hx⟩ | ⟨a, len', cap', m, fu, D, Pl, hcs, _, hl, hm, hmm, hx, hel⟩
  · simp [Value.cells] at hcs
    obtain ⟨rfl, rfl, rfl⟩ := hcs
    exact ⟨none, 0, 0, fun _ => ⟨0, 0, 0, 0, false⟩, rfl, fun hi => absurd hi (Nat.not_lt_zero _)⟩
  · simp [Value.cells] at hcs
    obtain ⟨rfl, rfl, rfl⟩ := hcs
    simp only [if_true] at hmm
    have each : ∀ i, i < len → ∃ r : Raw, (W.cell? (a.add (i * 5)) = some (.int .u8 r.ow) ∧ W.cell? (a.add (i * 5 + 1)) = some (.int .u8 r.ky) ∧ W.cell? (a.add (i * 5 + 2)) = some (.int .u8 r.md) ∧ W.cell? (a.add (i * 5 + 3)) = some (.int .u8 r.nb) ∧ W.cell? (a.add (i * 5 + 4)) = some (.bool r.gr)) ∧ r.ok := by
      intro i hi
      obtain ⟨cs', h1, h2⟩ := hel i (by omega)
      rw [cells29] at h1
      obtain ⟨_, hlen, hcell⟩ := World.cells?_some h1
      obtain ⟨xs, k, _, _, _, hxl, hfld⟩ := DataW.trod_struct Yba.underlying29 h2
      match xs, hxl, cs', hlen with
      | [y0, y1, y2, y3, y4], _, [v0, v1, v2, v3, v4], _ =>
        have g0 := hfld 0 _ rfl
        have g1 := hfld 1 _ rfl
        have g2 := hfld 2 _ rfl
        have g3 := hfld 3 _ rfl
        have g4 := hfld 4 _ rfl
        simp [cells5, cells4] at g0 g1 g2 g3 g4
        obtain ⟨n0, e0, _, w0⟩ := DataW.trod_int Yba.underlying5 g0
        obtain ⟨n1, e1, _, w1⟩ := DataW.trod_int Yba.underlying5 g1
        obtain ⟨n2, e2, _, w2⟩ := DataW.trod_int Yba.underlying5 g2
        obtain ⟨n3, e3, _, w3⟩ := DataW.trod_int Yba.underlying5 g3
        obtain ⟨b4, e4, _⟩ := DataW.trod_bool Yba.underlying4 g4
        have f0 := hcell 0 (by omega)
        have f1 := hcell 1 (by omega)
        have f2 := hcell 2 (by omega)
        have f3 := hcell 3 (by omega)
        have f4 := hcell 4 (by omega)
        rw [Go.Deep.add_add] at f0 f1 f2 f3 f4
        simp at e0 e1 e2 e3 e4
        subst e0 e1 e2 e3 e4
        exact ⟨⟨n0, n1, n2, n3, b4⟩, ⟨by simpa using f0, by simpa using f1, by simpa using f2, by simpa using f3, by simpa using f4⟩, bounds_u8 w0, bounds_u8 w1, bounds_u8 w2, bounds_u8 w3⟩
    obtain ⟨R, hR⟩ := @Go.Deep.choose_lt Raw ⟨⟨0, 0, 0, 0, false⟩⟩ _ _ each
    refine ⟨some a, len, cap, R, rfl, fun hpos => ?_⟩
    obtain ⟨b, off, spot⟩ := a
    have hspot : spot = none := by simpa [Addr.add] using World.cell?_spot (hR 0 hpos).1.1
    subst hspot
    refine ⟨b, off, rfl, fun i hi => ?_⟩
    obtain ⟨⟨r0, r1, r2, r3, r4⟩, hok⟩ := hR i hi
    rw [add_plain] at r0 r1 r2 r3 r4
    exact ⟨⟨r0, by simpa [Nat.add_assoc] using r1, by simpa [Nat.add_assoc] using r2, by simpa [Nat.add_assoc] using r3, by simpa [Nat.add_assoc] using r4⟩, hok⟩

set_option maxRecDepth 100000 in
/-- THE HELD KEYS THAT CAME IN, opened. -/
theorem open_helds {H : Type} {enc : TypeId × Value → H} {W : World} {base : Nat} {v : Value} {d : DataW H} {p : List MemPlace}
    (hv : Value.okWide Yba.prog W .any base 23 v) (h : DataW.Trod enc Yba.prog W 0 (fun _ => true) true 23 v d p) :
    ∃ (a : Option Addr) (n c : Nat) (Hs : Nat → Int), v = .slice a n c ∧ (0 < n → ∃ b off, a = some ⟨b, off, none⟩ ∧ ∀ i, i < n → W.cell? ⟨b, off + i, none⟩ = some (.int .u8 (Hs i)) ∧ 0 ≤ Hs i ∧ Hs i < 256) := by
  obtain ⟨a0, len, cap, rfl⟩ := okWide_slice Yba.underlying23 hv
  obtain ⟨fuel, hf⟩ := h
  rcases open_ints Yba.underlying23 Yba.underlying5 cells5 hf with ⟨hcs, hx⟩ | ⟨a, len', cap', zs, hcs, _, hl, hm, hz, hx, hcell, hwz⟩
  · simp [Value.cells] at hcs
    obtain ⟨rfl, rfl, rfl⟩ := hcs
    exact ⟨none, 0, 0, fun _ => 0, rfl, fun hi => absurd hi (Nat.not_lt_zero _)⟩
  · simp [Value.cells] at hcs
    obtain ⟨rfl, rfl, rfl⟩ := hcs
    simp only [if_true] at hz
    refine ⟨some a, len, cap, fun i => zs.getD i 0, rfl, fun hpos => ?_⟩
    obtain ⟨b, off, spot⟩ := a
    have hspot : spot = none := by simpa [Addr.add] using World.cell?_spot (hcell 0 (by omega))
    subst hspot
    refine ⟨b, off, rfl, fun i hi => ?_⟩
    have h1 := hcell i (by omega)
    rw [add_plain] at h1
    have hi' : i < zs.length := by omega
    have hw := hwz zs[i] (List.getElem_mem hi')
    have e : zs.getD i 0 = zs[i] := by simp [hi']
    refine ⟨h1, ?_⟩
    show 0 ≤ zs.getD i 0 ∧ zs.getD i 0 < 256
    rw [e]
    exact bounds_u8 hw

set_option maxRecDepth 100000 in
theorem lifted (os : Os) (started : os.Started) (H : Type) (enc : TypeId × Value → H) :
    ReturnsInHanded {} Yba.checked os 3 .any (Rows.lawS10331AWholeSpec.pre6 enc Yba.prog Yba.f3 Rows.lawS10331AWholeRow.domain false) (Rows.lawS10331AWholeSpec.post enc Yba.prog Yba.f3 false true false false) := by
  refine returnsInHanded_of_change (C := Yba.checked) own started (by kernel_rfl) Yba.func3
    (ChangeSpec.witness6 (enc := enc) (C := Yba.checked) false ⟨#[], #[.slice none 0 0, .slice none 0 0, .bool false, .int .i64 0, .int .u8 0], []⟩ 8 (by kernel_rfl) (by kernel_rfl) (by kernel_rfl) (by kernel_rfl)) ?_
  intro W base args ds gs before hval0 hW _ _
  have hval : ∀ (j : Nat) t v, Yba.f3.params[j]? = some t → args[j]? = some v → Value.okWide Yba.prog W .any base t v := hval0
  have hW' := hW
  obtain ⟨p, q, hA0, hV, rfl, _, _⟩ := hW
  have hA : DataW.TrodAll enc Yba.prog W 0 (fun _ => true) true Yba.f3.params.toList args.toList ds p := hA0
  have hAk := hA
  rw [Yba.params3] at hA hval
  obtain ⟨v0, vs0, d0, ds0, p0, q0, hargs, rfl, rfl, h0, r0⟩ := trodAll_cons hA
  obtain ⟨v1, vs1, d1, ds1, p1, q1, rfl, rfl, rfl, h1, r1⟩ := trodAll_cons r0
  obtain ⟨v2, vs2, d2, ds2, p2, q2, rfl, rfl, rfl, h2, r2⟩ := trodAll_cons r1
  obtain ⟨v3, vs3, d3, ds3, p3, q3, rfl, rfl, rfl, h3, r3⟩ := trodAll_cons r2
  obtain ⟨v4, vs4, d4, ds4, p4, q4, rfl, rfl, rfl, h4, r4⟩ := trodAll_cons r3
  obtain ⟨rfl, rfl, rfl⟩ := trodAll_nil r4
  obtain rfl : args = #[v0, v1, v2, v3, v4] := by cases args; simp_all
  obtain ⟨rfl, rfl⟩ := trodVars_none hV
  obtain ⟨ra, n, rc, R, rfl, hR⟩ := open_raws (hval 0 22 v0 rfl rfl) h0
  obtain ⟨ha, hn, hc, Hs, rfl, hH⟩ := open_helds (hval 1 23 v1 rfl rfl) h1
  obtain ⟨hv, rfl, rfl, rfl⟩ := open_bool Yba.underlying4 (hval 2 4 v2 rfl rfl) h2
  obtain ⟨pk, rfl, rfl, rfl, _⟩ := open_int Yba.underlying3 (hval 3 3 v3 rfl rfl) h3
  obtain ⟨ow, rfl, rfl, rfl, w4⟩ := open_int Yba.underlying5 (hval 4 5 v4 rfl rfl) h4
  have bo := bounds_u8 w4
  have hlaw : Calls Yba.prog 3 #[.slice ra n rc, .slice ha hn hc, .bool hv, .int .i64 pk, .int .u8 ow] W fun e w' => e = .returned (.bool true) ∧ Below W.heap.size W w' := by
    by_cases hbig : 1024 < n ∨ 1048576 < hn
    · exact law_big ra ha n rc hn hc hv pk ow W hbig
    · exact law_any ra ha n rc hn hc hv pk ow R Hs W bo.1 bo.2 hR hH (by omega) (by omega)
  refine hlaw.mono fun e W' ⟨he, bel⟩ => ?_
  subst he
  exact ⟨_, rfl, law_post (tb := 4) laidOut readable3 rfl rfl Yba.underlying4 hW' hAk rfl bel⟩

theorem said : Rows.LawS10331AWholeSaid :=
  OpenClaim.holds_of_wide 3 Yba.f3 rfl rfl rfl rfl rfl rfl rfl ⟨rfl, rfl, rfl, rfl, rfl⟩ rfl rfl rfl rfl rfl (by kernel_rfl) Yba.func3 (by kernel_rfl)
    (of_decide_eq_true (by kernel_rfl)) (by unfold Func.isWrapper; first | (rw [if_pos (by decide +kernel)]; kernel_rfl) | (rw [if_neg (by decide +kernel)]; exact ⟨rfl, rfl⟩))
    (fun os started H enc _ => lifted os started H enc)
end Go.Proofs.Ybulkhexw
