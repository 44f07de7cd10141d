/-
  '==' OF TWO EQUAL ARRAYS OF INTEGERS, in one law over any program.
-/
import Derived.Test.YbulkfpkuFmtFacts
import Derived.WalkKit
namespace Go.Proofs.YbulkfpkuFmt
open Go.RowKit

theorem run_forIn_all {P : Program} (w : World) {β : Type} (s : β) (f : Nat → β → Sem (ForInStep β)) : ∀ l : List Nat, (∀ i ∈ l, (f i s).run P w = .ok (.yield s) w) →
    (forIn l s f).run P w = .ok s w
  | [], _ => by simp
  | i :: l, h => by
    have h1 := h i (by simp)
    have h2 := run_forIn_all w s f l (fun j hj => h j (by simp [hj]))
    simp [List.forIn_cons, h1, h2]

theorem eqArr {P : Program} (w : World) (d' : Nat) {t e : TypeId} {n : Nat} {k : IntKind} (xs : Array Value) (ht : P.underlying t = some (.array n e)) (he : P.underlying e = some (.int k))
    (hz : (sizeOf e).run P w = .ok 1 w) (hin : ∀ a, (Op.equalIn d' e (.int k a) (.int k a)).run P w = .ok true w) (hx : ∀ i, i < n → ∃ a, xs[i]? = some (.int k a)) :
    (Op.equalIn (d' + 1) t (.agg xs) (.agg xs)).run P w = .ok true w := by
  simp only [Op.equalIn, Sem.run_bind, run_underlying ht, Result.andThen_ok, hz]
  rw [Std.Legacy.Range.forIn_eq_forIn_range', run_forIn_all]
  · simp
  · intro i hi
    simp at hi
    obtain ⟨a, ha⟩ := hx i hi
    have hp : (part e xs i).run P w = .ok (.int k a) w := by
      simp [part, isAgg, run_underlying he, ha]
    simp [hp, hin]

theorem eq22 (a0 a1 a2 a3 a4 a5 a6 a7 : Int) (w : World) :
    (Op.equalIn 9999 22 (.agg #[.int .u8 a0, .int .u8 a1, .int .u8 a2, .int .u8 a3, .int .u8 a4, .int .u8 a5, .int .u8 a6, .int .u8 a7]) (.agg #[.int .u8 a0, .int .u8 a1, .int .u8 a2, .int .u8 a3, .int .u8 a4, .int .u8 a5, .int .u8 a6, .int .u8 a7])).run Ybaf.prog w = .ok true w := by
  refine eqArr w 9998 _ Ybaf.underlying22 Ybaf.underlying5 (by kernel_rfl) (fun a => ?_) ?_
  · have := run_equalIn_int (P := Ybaf.prog) w 9997 5 .u8 .u8 a a Ybaf.underlying5
    simpa using this
  · intro i hi
    match i, hi with
    | 0, _ => exact ⟨_, rfl⟩
    | 1, _ => exact ⟨_, rfl⟩
    | 2, _ => exact ⟨_, rfl⟩
    | 3, _ => exact ⟨_, rfl⟩
    | 4, _ => exact ⟨_, rfl⟩
    | 5, _ => exact ⟨_, rfl⟩
    | 6, _ => exact ⟨_, rfl⟩
    | 7, _ => exact ⟨_, rfl⟩
    | n + 8, h => omega

theorem eqFields_all {P : Program} (w : World) (d : Nat) (xs : Array Value) : ∀ fs : List Field,
    (∀ f ∈ fs, ∃ v, (part f.type xs f.offset).run P w = .ok v w ∧ (Op.equalIn d f.type v v).run P w = .ok true w) → (Op.eqFields d xs xs fs).run P w = .ok true w
  | [], _ => by simp [Op.eqFields]
  | f :: fs, h => by
    obtain ⟨v, h1, h2⟩ := h f (by simp)
    have h3 := eqFields_all w d xs fs (fun g hg => h g (by simp [hg]))
    unfold Op.eqFields
    split
    · simp [h1, h2, h3]
    · exact h3

theorem part_one {P : Program} (w : World) {e : TypeId} {k : IntKind} {xs : Array Value} {off : Nat} {v : Value} (he : P.underlying e = some (.int k)) (hv : xs[off]? = some v) : (part e xs off).run P w = .ok v w := by
  simp [part, isAgg, run_underlying he, hv]
theorem part_arr {P : Program} (w : World) {e t : TypeId} {n z : Nat} {xs : Array Value} {off : Nat} (he : P.underlying t = some (.array n e)) (hz : (sizeOf t).run P w = .ok z w) : (part t xs off).run P w = .ok (.agg (xs.extract off (off + z))) w := by
  simp [part, isAgg, run_underlying he, hz]

theorem stood28 : Ybaf.prog.stoodInHeld 28 = false := by kernel_rfl
theorem fields28 : Ybaf.prog.underlying 28 = some (.struct (Ybaf.prog.fieldsOf 28)) := by kernel_rfl
theorem flist28 : (Ybaf.prog.fieldsOf 28).toList.all (fun f => [(22, 0), (22, 8), (24, 16), (5, 17), (25, 18), (26, 19), (23, 20), (23, 21)].contains (f.type, f.offset)) = true := by kernel_rfl
theorem size22 (w : World) : (sizeOf 22).run Ybaf.prog w = .ok 8 w := by kernel_rfl
theorem eqInt (w : World) (d : Nat) {t : TypeId} {k : IntKind} (a : Int) (h : Ybaf.prog.underlying t = some (.int k)) : (Op.equalIn (d + 1) t (.int k a) (.int k a)).run Ybaf.prog w = .ok true w := by
  have := run_equalIn_int (P := Ybaf.prog) w d t k k a a h
  simpa using this

/-- 'h != keep' OF A HEADER AND ITSELF: false. -/
theorem neq28 (a0 a1 a2 a3 a4 a5 a6 a7 b0 b1 b2 b3 b4 b5 b6 b7 np ver ex fl mid n : Int) (w : World) :
    (binOp .neq 28 (.agg #[.int .u8 a0, .int .u8 a1, .int .u8 a2, .int .u8 a3, .int .u8 a4, .int .u8 a5, .int .u8 a6, .int .u8 a7, .int .u8 b0, .int .u8 b1, .int .u8 b2, .int .u8 b3, .int .u8 b4, .int .u8 b5, .int .u8 b6, .int .u8 b7, .int .u8 np, .int .u8 ver, .int .u8 ex, .int .u8 fl, .int .u32 mid, .int .u32 n]) (.agg #[.int .u8 a0, .int .u8 a1, .int .u8 a2, .int .u8 a3, .int .u8 a4, .int .u8 a5, .int .u8 a6, .int .u8 a7, .int .u8 b0, .int .u8 b1, .int .u8 b2, .int .u8 b3, .int .u8 b4, .int .u8 b5, .int .u8 b6, .int .u8 b7, .int .u8 np, .int .u8 ver, .int .u8 ex, .int .u8 fl, .int .u32 mid, .int .u32 n])).run Ybaf.prog w = .ok (.bool false) w := by
  have h : (Op.equalIn (9999 + 1) 28 (.agg #[.int .u8 a0, .int .u8 a1, .int .u8 a2, .int .u8 a3, .int .u8 a4, .int .u8 a5, .int .u8 a6, .int .u8 a7, .int .u8 b0, .int .u8 b1, .int .u8 b2, .int .u8 b3, .int .u8 b4, .int .u8 b5, .int .u8 b6, .int .u8 b7, .int .u8 np, .int .u8 ver, .int .u8 ex, .int .u8 fl, .int .u32 mid, .int .u32 n]) (.agg #[.int .u8 a0, .int .u8 a1, .int .u8 a2, .int .u8 a3, .int .u8 a4, .int .u8 a5, .int .u8 a6, .int .u8 a7, .int .u8 b0, .int .u8 b1, .int .u8 b2, .int .u8 b3, .int .u8 b4, .int .u8 b5, .int .u8 b6, .int .u8 b7, .int .u8 np, .int .u8 ver, .int .u8 ex, .int .u8 fl, .int .u32 mid, .int .u32 n])).run Ybaf.prog w = .ok true w := by
    rw [run_equalIn_struct w 9999 28 _ _ fields28 stood28]
    refine eqFields_all w 9999 _ _ fun f hf => ?_
    have hc := List.all_eq_true.1 flist28 f hf
    simp only [List.contains_cons, List.contains_nil, Bool.or_false, Bool.or_eq_true, beq_iff_eq, Prod.mk.injEq] at hc
    rcases hc with ⟨ht, ho⟩ | ⟨ht, ho⟩ | ⟨ht, ho⟩ | ⟨ht, ho⟩ | ⟨ht, ho⟩ | ⟨ht, ho⟩ | ⟨ht, ho⟩ | ⟨ht, ho⟩ <;> rw [ht, ho]
    · exact ⟨_, part_arr w Ybaf.underlying22 (size22 w), eq22 a0 a1 a2 a3 a4 a5 a6 a7 w⟩
    · exact ⟨_, part_arr w Ybaf.underlying22 (size22 w), eq22 b0 b1 b2 b3 b4 b5 b6 b7 w⟩
    · exact ⟨_, part_one w Ybaf.underlying24 rfl, eqInt w 9998 np Ybaf.underlying24⟩
    · exact ⟨_, part_one w Ybaf.underlying5 rfl, eqInt w 9998 ver Ybaf.underlying5⟩
    · exact ⟨_, part_one w Ybaf.underlying25 rfl, eqInt w 9998 ex Ybaf.underlying25⟩
    · exact ⟨_, part_one w Ybaf.underlying26 rfl, eqInt w 9998 fl Ybaf.underlying26⟩
    · exact ⟨_, part_one w Ybaf.underlying23 rfl, eqInt w 9998 mid Ybaf.underlying23⟩
    · exact ⟨_, part_one w Ybaf.underlying23 rfl, eqInt w 9998 n Ybaf.underlying23⟩
  rw [run_neq_struct, h]
  simp
end Go.Proofs.YbulkfpkuFmt
