/-
  THE SMALL CALLEES: zzs8307abal (6), cmp.Compare[string] (15), the comparison (9), '!=' at an account.
-/
import Derived.Test.YbulkfpaaRows
import Derived.Test.YbulkfpaaPlain
import Derived.Test.YbulkfpaaShelf
import Derived.WalkKit
import Derived.WalkSpells
import Derived.WalkLawsBesides
import Derived.Handy
import Derived.Laws.StructEq
import Derived.Laws.Cover1
import Derived.Sort.Walk0
namespace Go.Proofs.Ybulkfpaa
open Go.RowKit Go.Shelf Go.Lib Go.Sort

theorem hid {p : Prop} (h : p) : Hid p := h

/-- The balance of entry i. -/
def balAt (bn : Nat) (Bs : Nat → Int) (i : Nat) : Int := if i < bn then Bs i else 0

set_option maxHeartbeats 400000 in
theorem bal_any (ba : Option Addr) (bn bc : Nat) (Bs : Nat → Int) (i : Nat) (w : World) (hb : 0 < bn → ∃ b off, ba = some ⟨b, off, none⟩ ∧ ∀ j, j < bn → w.cell? ⟨b, off + j, none⟩ = some (.int .i64 (Bs j))) :
    Calls Yba.prog 6 #[.slice ba bn bc, .int .i64 i] w fun e w' => e = .returned (.int .i64 (balAt bn Bs i)) ∧ w = w' := by
  by_cases h : i < bn
  · obtain ⟨b, off, rfl, hc⟩ := hb (by omega)
    have h1 := hc i h
    have e : balAt bn Bs i = Bs i := if_pos h
    rw [e]
    clear hb hc e
    go_enter Yba.func6, Yba.ntmps6
    go_wp2
    go_ret
    exact ⟨rfl, rfl⟩
  · have e : balAt bn Bs i = 0 := if_neg h
    rw [e]
    clear hb e
    go_enter Yba.func6, Yba.ntmps6
    go_wp2
    go_ret
    exact ⟨rfl, rfl⟩

/-- cmp.Compare at strings. -/
def cmpS (s t : ByteArray) : Int := if Op.bytesLess s.toList t.toList = true then -1 else if s.toList == t.toList then 0 else 1

set_option maxHeartbeats 1000000 in
theorem compare_any (s t : ByteArray) (w : World) : Calls Yba.prog 15 #[.string s, .string t] w fun e w' => e = .returned (.int .i64 (cmpS s t)) ∧ w = w' := by
  unfold cmpS
  cases h1 : Op.bytesLess s.toList t.toList with
  | true =>
    go_enter Yba.func15, Yba.ntmps15
    go_wp2
    go_ret
    exact ⟨rfl, rfl⟩
  | false =>
    cases h2 : s.toList == t.toList with
    | true =>
      go_enter Yba.func15, Yba.ntmps15
      go_wp2
      go_ret
      exact ⟨rfl, rfl⟩
    | false =>
      go_enter Yba.func15, Yba.ntmps15
      go_wp2
      go_ret
      exact ⟨rfl, rfl⟩

/-- An account's two cells. -/
def encA (x : ByteArray × Int) : List Value := [.string x.1, .int .i64 x.2]
def cfA (x y : ByteArray × Int) : Int := cmpS x.1 y.1

set_option maxHeartbeats 1000000 in
theorem cmp_any (x y : ByteArray × Int) (w : World) : Calls Yba.prog 9 #[.agg #[.string x.1, .int .i64 x.2], .agg #[.string y.1, .int .i64 y.2]] w fun e w' => e = .returned (.int .i64 (cfA x y)) ∧ ∃ q os', w' = grow (w.drewN q) os' := by
  have hcon := fun W => compare_any x.1 y.1 W
  change ∀ W, Calls Yba.prog 15 _ W fun e w' => e = .returned (.int .i64 (cfA x y)) ∧ W = w' at hcon
  generalize cfA x y = r at hcon ⊢
  have HC := hid hcon
  clear hcon
  go_enter Yba.func9, Yba.ntmps9
  go_wp2_with (go_at_call 15; refine (HC.out _).mono ?_; rintro e w' ⟨rfl, rfl⟩)
  go_ret
  exact ⟨rfl, 0, _, by rw [alloc_eq_grow, alloc_eq_grow, grow_grow]; rfl⟩

theorem cmpLays9 (blk off size : Nat) (w : World) : CmpLays Yba.prog 9 #[] encA 2 cfA blk off size w := fun _ _ _ _ x y => cmp_any x y _

theorem lt_A (x y : ByteArray × Int) : ltOf cfA x y = decide (x.1.toList < y.1.toList) := by
  unfold ltOf cfA cmpS
  rw [bytesLess_eq]
  by_cases h : x.1.toList < y.1.toList
  · simp [h]
  · simp only [h, decide_false, Bool.false_eq_true, if_false]
    split <;> simp

theorem swoA : SWO (ltOf cfA) where
  irrefl x := by rw [lt_A]; simp [List.lt_irrefl]
  trans x y z h1 h2 := by
    rw [lt_A] at *
    simp only [decide_eq_true_eq] at *
    exact List.lt_trans h1 h2
  ntrans x y z h1 h2 := by
    rw [lt_A] at *
    simp only [decide_eq_false_iff_not] at *
    exact fun h => (List.not_lt.1 h2 |> fun a => List.not_lt.1 h1 |> fun b => (List.not_lt.2 (List.le_trans a b)) h)

theorem neqA : NeqAt Yba.prog 28 (fun x => .agg (encA x).toArray) (fun x y => x.1.toList == y.1.toList && x.2 == y.2) := by
  refine ⟨fun x y w => ?_, GuardAt.agg _ (by kernel_rfl)⟩
  have u9 := Yba.underlying9
  have a9 := Yba.isAgg9
  have z9 := Yba.sizeOf9
  have u2 := Yba.underlying2
  have a2 := Yba.isAgg2
  have z2 := Yba.sizeOf2
  have hS : Yba.prog.underlying 28 = some (.struct (Yba.prog.fieldsOf 28)) := by kernel_rfl
  have hp : Yba.prog.stoodInHeld 28 = false := by kernel_rfl
  simp only [encA]
  rw [run_neq_struct, show (10000 : Nat) = 9999 + 1 from rfl, run_equalIn_agg w 9999 28 _ _ hS hp]
  simp only [Program.fieldsOf, Yba.underlying28]
  go_simp
  by_cases h1 : x.fst.toList = y.fst.toList <;> by_cases h2 : x.snd = y.snd <;> simp [h1, h2]
end Go.Proofs.Ybulkfpaa
