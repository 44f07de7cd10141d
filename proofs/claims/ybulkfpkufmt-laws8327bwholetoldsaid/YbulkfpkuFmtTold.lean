/-
  THE ROW AND THE CARD.
-/
import Derived.Test.YbulkfpkuFmtLaw
import Derived.Test.YbulkfpkuFmtPost
import Derived.Test.YbulkfpkuFmtCards
import Derived.Stop.JoinedTold
import Derived.SevenToldRow
namespace Go.Proofs.YbulkfpkuFmt
open Go.ChangeShapes Go.WideShapes Go.ChangeAt Go.RowKit
open Go.Extern.Stop Go.Stop Go.Extern

theorem own : ownKnob Ybaf.prog.godebug = none := by kernel_rfl
theorem laidOut : laidOutB Ybaf.pinned.checked.prog = true := by kernel_rfl
theorem cells22 : Ybaf.prog.cellsOf 22 = 8 := by kernel_rfl
theorem cells5 : Ybaf.prog.cellsOf 5 = 1 := by kernel_rfl
theorem stops : Ybaf.pinned.checked.prog.stops = ["fmt.errorf"] := by kernel_rfl
theorem stopKnobs : Ybaf.pinned.checked.prog.stopKnobs = [] := by kernel_rfl
theorem quiet (os : Os) : Stop.quiet Ybaf.pinned.checked.prog os := by
  intro k hk
  rw [stopKnobs] at hk
  cases hk

theorem array8 {α : Type} {l : List α} (h : l.length = 8) : ∃ c0 c1 c2 c3 c4 c5 c6 c7, l = [c0, c1, c2, c3, c4, c5, c6, c7] := by
  match l, h with
  | [c0, c1, c2, c3, c4, c5, c6, c7], _ => exact ⟨c0, c1, c2, c3, c4, c5, c6, c7, rfl⟩

/-- AN ARRAY OF EIGHT BYTES THAT CAME IN, opened. -/
theorem open_arr8 {H : Type} {enc : TypeId × Value → H} {W : World} {base : Nat} {v : Value} {d : DataW H} {p : List MemPlace}
    (hv : Value.okWide Ybaf.prog W .any base 22 v) (h : DataW.Trod enc Ybaf.prog W 0 (fun _ => true) true 22 v d p) :
    ∃ a0 a1 a2 a3 a4 a5 a6 a7 : Int, v = .agg #[.int .u8 a0, .int .u8 a1, .int .u8 a2, .int .u8 a3, .int .u8 a4, .int .u8 a5, .int .u8 a6, .int .u8 a7] := by
  obtain ⟨cs, rfl, hsz, _⟩ : ∃ cs, v = .agg cs ∧ cs.size = Ybaf.prog.cellsOf 22 ∧ Row.okWide Ybaf.prog W .any base 22 cs := by
    simpa [Value.okWide, Ybaf.underlying22] using hv
  rw [cells22] at hsz
  obtain ⟨l⟩ := cs
  obtain ⟨c0, c1, c2, c3, c4, c5, c6, c7, rfl⟩ := array8 (l := l) (by simpa using hsz)
  obtain ⟨fuel, hf⟩ := h
  obtain ⟨xs, m, _, _, _, hxl, hall⟩ := DataW.trod_array Ybaf.underlying22 hf
  have one : ∀ (i : Nat) (c : Value), i < 8 → [c0, c1, c2, c3, c4, c5, c6, c7][i]? = some c → ∃ a, c = .int .u8 a := by
    intro i c hi hc
    have h1 := hall i hi
    rw [cells5] at h1
    obtain ⟨y, hy⟩ : ∃ y, xs[i]? = some y := ⟨_, List.getElem?_eq_getElem (by omega)⟩
    rw [hy] at h1
    obtain ⟨a, ha, _, _⟩ := DataW.trod_int Ybaf.underlying5 h1
    have hl : (List.drop (i * 1) (Value.agg (#[c0, c1, c2, c3, c4, c5, c6, c7])).cells.toList).head? = some c := by
      rw [List.head?_drop, Nat.mul_one]
      simpa [Value.cells] using hc
    have hl2 : (List.take 1 (List.drop (i * 1) (Value.agg (#[c0, c1, c2, c3, c4, c5, c6, c7])).cells.toList)).head? = some c := by
      rw [List.head?_take]; simpa using hl
    rw [ha] at hl2
    exact ⟨a, by simpa using hl2.symm⟩
  obtain ⟨a0, rfl⟩ := one 0 c0 (by omega) rfl
  obtain ⟨a1, rfl⟩ := one 1 c1 (by omega) rfl
  obtain ⟨a2, rfl⟩ := one 2 c2 (by omega) rfl
  obtain ⟨a3, rfl⟩ := one 3 c3 (by omega) rfl
  obtain ⟨a4, rfl⟩ := one 4 c4 (by omega) rfl
  obtain ⟨a5, rfl⟩ := one 5 c5 (by omega) rfl
  obtain ⟨a6, rfl⟩ := one 6 c6 (by omega) rfl
  obtain ⟨a7, rfl⟩ := one 7 c7 (by omega) rfl
  exact ⟨a0, a1, a2, a3, a4, a5, a6, a7, rfl⟩

theorem build28 (a0 a1 a2 a3 a4 a5 a6 a7 b0 b1 b2 b3 b4 b5 b6 b7 np ver ex fl mid n : Int) (w : World) :
    (Instr.build 28 #[(0, .agg #[.int .u8 a0, .int .u8 a1, .int .u8 a2, .int .u8 a3, .int .u8 a4, .int .u8 a5, .int .u8 a6, .int .u8 a7]), (1, .agg #[.int .u8 b0, .int .u8 b1, .int .u8 b2, .int .u8 b3, .int .u8 b4, .int .u8 b5, .int .u8 b6, .int .u8 b7]), (2, .int .u8 np), (3, .int .u8 ver), (4, .int .u8 ex), (5, .int .u8 fl), (6, .int .u32 mid), (7, .int .u32 n)]).run Ybaf.prog w = .ok (.agg #[.int .u8 a0, .int .u8 a1, .int .u8 a2, .int .u8 a3, .int .u8 a4, .int .u8 a5, .int .u8 a6, .int .u8 a7, .int .u8 b0, .int .u8 b1, .int .u8 b2, .int .u8 b3, .int .u8 b4, .int .u8 b5, .int .u8 b6, .int .u8 b7, .int .u8 np, .int .u8 ver, .int .u8 ex, .int .u8 fl, .int .u32 mid, .int .u32 n]) w := by
  kernel_rfl

/-- The law at every input. -/
theorem law_all (F : Interp) (a0 a1 a2 a3 a4 a5 a6 a7 b0 b1 b2 b3 b4 b5 b6 b7 np ver ex fl mid n size : Int) (w : World) (hF : F.answers w.tape) (h0 : 0 ≤ n) (h1 : n ≤ 4294967295) (h2 : size ≤ 9223372036854775807) :
    Calls Ybaf.prog 3 #[.agg #[.int .u8 a0, .int .u8 a1, .int .u8 a2, .int .u8 a3, .int .u8 a4, .int .u8 a5, .int .u8 a6, .int .u8 a7], .agg #[.int .u8 b0, .int .u8 b1, .int .u8 b2, .int .u8 b3, .int .u8 b4, .int .u8 b5, .int .u8 b6, .int .u8 b7], .int .u8 np, .int .u8 ver, .int .u8 ex, .int .u8 fl, .int .u32 mid, .int .u32 n, .int .i64 size] w
      fun e w' => e = .returned (.bool true) ∧ Below w.heap.size w w' := by
  have hbu := build28 a0 a1 a2 a3 a4 a5 a6 a7 b0 b1 b2 b3 b4 b5 b6 b7 np ver ex fl mid n
  have hne := neq28 a0 a1 a2 a3 a4 a5 a6 a7 b0 b1 b2 b3 b4 b5 b6 b7 np ver ex fl mid n
  by_cases hs : size < 0
  · exact law_neg F _ _ #[.int .u8 a0, .int .u8 a1, .int .u8 a2, .int .u8 a3, .int .u8 a4, .int .u8 a5, .int .u8 a6, .int .u8 a7, .int .u8 b0, .int .u8 b1, .int .u8 b2, .int .u8 b3, .int .u8 b4, .int .u8 b5, .int .u8 b6, .int .u8 b7, .int .u8 np, .int .u8 ver, .int .u8 ex, .int .u8 fl, .int .u32 mid, .int .u32 n] np ver ex fl mid n size w hF info22 info22 info28 rfl (by kernel_rfl) rfl h0 h1 hs hbu hne
  · by_cases hn : size < n
    · exact law_big F _ _ #[.int .u8 a0, .int .u8 a1, .int .u8 a2, .int .u8 a3, .int .u8 a4, .int .u8 a5, .int .u8 a6, .int .u8 a7, .int .u8 b0, .int .u8 b1, .int .u8 b2, .int .u8 b3, .int .u8 b4, .int .u8 b5, .int .u8 b6, .int .u8 b7, .int .u8 np, .int .u8 ver, .int .u8 ex, .int .u8 fl, .int .u32 mid, .int .u32 n] np ver ex fl mid n size w hF info22 info22 info28 rfl (by kernel_rfl) rfl h0 h1 (by omega) hn hbu hne
    · exact law_ok _ _ #[.int .u8 a0, .int .u8 a1, .int .u8 a2, .int .u8 a3, .int .u8 a4, .int .u8 a5, .int .u8 a6, .int .u8 a7, .int .u8 b0, .int .u8 b1, .int .u8 b2, .int .u8 b3, .int .u8 b4, .int .u8 b5, .int .u8 b6, .int .u8 b7, .int .u8 np, .int .u8 ver, .int .u8 ex, .int .u8 fl, .int .u32 mid, .int .u32 n] np ver ex fl mid n size w info22 info22 info28 rfl (by kernel_rfl) rfl h0 h1 h2 hn hbu hne

theorem readable3 : (Ybaf.f3.params.toList.all fun t => Ybaf.prog.readableRec t && decide (t < Ybaf.prog.types.size)) = true := by kernel_rfl
theorem bounds_u32' {n : Int} (h : (Lit.int .u32 n).wf = true) : 0 ≤ n ∧ n ≤ 4294967295 := by
  simp [Lit.wf, IntKind.min, IntKind.max, IntKind.signed, IntKind.bits] at h
  omega
theorem bounds_i64' {n : Int} (h : (Lit.int .i64 n).wf = true) : n ≤ 9223372036854775807 := by
  simp [Lit.wf, IntKind.min, IntKind.max, IntKind.signed, IntKind.bits] at h
  omega

set_option maxRecDepth 100000 in
theorem lifted (os : Os) (started : os.Started) (H : Type) (enc : TypeId × Value → H) :
    ReturnsInTold none {} Ybaf.checked os 3 .any Input.okWide ((OpenSpec.ofChange Rows.lawS8327BWholeSpec).preRow enc Ybaf.prog Ybaf.f3 Rows.lawS8327BWholeRow.domain false []) (fun F => ((OpenSpec.ofChange Rows.lawS8327BWholeSpec).at F).post enc Ybaf.prog Ybaf.f3 false true false false) (aloneAtReturn Ybaf.prog) nothingAlways := by
  refine returnsInTold_of_row (C := Ybaf.checked) (s := OpenSpec.ofChange Rows.lawS8327BWholeSpec) (by kernel_rfl) own started (by kernel_rfl) Ybaf.func3
    (OpenSpec.witness_stopped (enc := enc) (C := Ybaf.checked) false ⟨#[], #[.agg #[.int .u8 0, .int .u8 0, .int .u8 0, .int .u8 0, .int .u8 0, .int .u8 0, .int .u8 0, .int .u8 0], .agg #[.int .u8 0, .int .u8 0, .int .u8 0, .int .u8 0, .int .u8 0, .int .u8 0, .int .u8 0, .int .u8 0], .int .u8 0, .int .u8 0, .int .u8 0, .int .u8 0, .int .u32 0, .int .u32 0, .int .i64 0], []⟩ 8 (by kernel_rfl) (by kernel_rfl) (by kernel_rfl) (by kernel_rfl)) ?_
  intro F W base args ds gs before _ hF hval0 hW _ _ _ _ _
  have hval : ∀ (j : Nat) t v, Ybaf.f3.params[j]? = some t → args[j]? = some v → Value.okWide Ybaf.prog W .any base t v := hval0
  have hW' := hW
  obtain ⟨p, q, hA0, hV, rfl, _, _⟩ := hW
  have hA : DataW.TrodAll enc Ybaf.prog W 0 (fun _ => true) true Ybaf.f3.params.toList args.toList ds p := hA0
  have hAk := hA
  rw [Ybaf.params3] at hA hval
  obtain ⟨v0, vs0, d0, ds0, p0, q0, hargs, rfl, rfl, h0, r0⟩ := trodAll_cons hA
  obtain ⟨v1, vs1, d1, ds1, p1, q1, rfl, rfl, rfl, h1, r1⟩ := trodAll_cons r0
  obtain ⟨v2, vs2, d2, ds2, p2, q2, rfl, rfl, rfl, h2, r2⟩ := trodAll_cons r1
  obtain ⟨v3, vs3, d3, ds3, p3, q3, rfl, rfl, rfl, h3, r3⟩ := trodAll_cons r2
  obtain ⟨v4, vs4, d4, ds4, p4, q4, rfl, rfl, rfl, h4, r4⟩ := trodAll_cons r3
  obtain ⟨v5, vs5, d5, ds5, p5, q5, rfl, rfl, rfl, h5, r5⟩ := trodAll_cons r4
  obtain ⟨v6, vs6, d6, ds6, p6, q6, rfl, rfl, rfl, h6, r6⟩ := trodAll_cons r5
  obtain ⟨v7, vs7, d7, ds7, p7, q7, rfl, rfl, rfl, h7, r7⟩ := trodAll_cons r6
  obtain ⟨v8, vs8, d8, ds8, p8, q8, rfl, rfl, rfl, h8, r8⟩ := trodAll_cons r7
  obtain ⟨rfl, rfl, rfl⟩ := trodAll_nil r8
  obtain rfl : args = #[v0, v1, v2, v3, v4, v5, v6, v7, v8] := by cases args; simp_all
  obtain ⟨rfl, rfl⟩ := trodVars_none hV
  obtain ⟨a0, a1, a2, a3, a4, a5, a6, a7, rfl⟩ := open_arr8 (hval 0 22 v0 rfl rfl) h0
  obtain ⟨b0, b1, b2, b3, b4, b5, b6, b7, rfl⟩ := open_arr8 (hval 1 22 v1 rfl rfl) h1
  obtain ⟨np, rfl, rfl, rfl, w2⟩ := open_int Ybaf.underlying5 (hval 2 5 v2 rfl rfl) h2
  obtain ⟨ver, rfl, rfl, rfl, w3⟩ := open_int Ybaf.underlying5 (hval 3 5 v3 rfl rfl) h3
  obtain ⟨ex, rfl, rfl, rfl, w4⟩ := open_int Ybaf.underlying5 (hval 4 5 v4 rfl rfl) h4
  obtain ⟨fl, rfl, rfl, rfl, w5⟩ := open_int Ybaf.underlying5 (hval 5 5 v5 rfl rfl) h5
  obtain ⟨mid, rfl, rfl, rfl, w6⟩ := open_int Ybaf.underlying23 (hval 6 23 v6 rfl rfl) h6
  obtain ⟨n, rfl, rfl, rfl, w7⟩ := open_int Ybaf.underlying23 (hval 7 23 v7 rfl rfl) h7
  obtain ⟨size, rfl, rfl, rfl, w8⟩ := open_int Ybaf.underlying3 (hval 8 3 v8 rfl rfl) h8
  have bn := bounds_u32' w7
  have bs := bounds_i64' w8
  refine (law_all F.told a0 a1 a2 a3 a4 a5 a6 a7 b0 b1 b2 b3 b4 b5 b6 b7 np ver ex fl mid n size W hF bn.1 bn.2 bs).mono fun e W' ⟨he, bel⟩ => ?_
  subst he
  exact ⟨_, rfl, law_post (tb := 4) laidOut readable3 rfl rfl Ybaf.underlying4 hW' hAk rfl bel⟩

theorem told_holds : Rows.LawS8327BWholeToldSaid :=
  Claim7.holds_of_told_any 3 Ybaf.f3 "fmt.errorf" [] [] _ _ _ (by kernel_rfl) rfl rfl rfl laidOut (by kernel_rfl) rfl ⟨rfl, rfl, rfl, rfl, rfl, rfl, rfl⟩ rfl rfl (by kernel_rfl) (by kernel_rfl) Ybaf.func3 (by kernel_rfl)
    (of_decide_eq_true (by kernel_rfl)) (of_decide_eq_true (by kernel_rfl)) stops.symm rfl stopKnobs.symm (by kernel_rfl)
    (by kernel_rfl) (by kernel_rfl) (by kernel_rfl) (by kernel_rfl) (by kernel_rfl) (by kernel_rfl) (by kernel_rfl) (by kernel_rfl) (by kernel_rfl) rfl (by kernel_rfl) rfl rfl
    rfl rfl
    rfl (by kernel_rfl) (by kernel_rfl) (by kernel_rfl) (by decide) (by kernel_rfl)
    (OpenClaim.moreEntering_of (by kernel_rfl) (by kernel_rfl) (by kernel_rfl) (by kernel_rfl) (by kernel_rfl) (by kernel_rfl) (by kernel_rfl) (by kernel_rfl) (by kernel_rfl) (by kernel_rfl))
    ⟨_, WideRow.started_initial, quiet _⟩
    (fun os started _ H enc _ => lifted os started H enc)
end Go.Proofs.YbulkfpkuFmt
