/-
  THE SMALL CALLEES: waitsFor, waitsBehind, behind, the closure of Blocks.
-/
import Derived.Test.YbulkhexwRows
import Derived.Test.YbulkhexwPlain
import Derived.WalkKit
import Derived.WalkSpells
import Derived.WalkLawsBesides
import Derived.Handy
import Derived.Deep.QuietTactic
import Derived.BigQuiet
namespace Go.Proofs.Ybulkhexw
open Go.RowKit

theorem hid {p : Prop} (h : p) : Hid p := h

/-- The request in block b reads as r. -/
def ReqAt (w : World) (b : Nat) (r : Rq) : Prop :=
  w.cell? ⟨b, 0, none⟩ = some (.int .i64 r.owner) ∧ w.cell? ⟨b, 1, none⟩ = some (.int .i64 r.key) ∧ w.cell? ⟨b, 2, none⟩ = some (.int .i8 r.mode) ∧ w.cell? ⟨b, 3, none⟩ = some (.int .u64 r.num) ∧ w.cell? ⟨b, 4, none⟩ = some (.bool r.granted)

theorem ReqAt.below {w w' : World} {b : Nat} {r : Rq} {B : Nat} (h : ReqAt w b r) (hb : Below B w w') (hB : b < B) : ReqAt w' b r := by
  obtain ⟨h0, h1, h2, h3, h4⟩ := h
  exact ⟨(hb.cell (by exact hB)).trans h0, (hb.cell (by exact hB)).trans h1, (hb.cell (by exact hB)).trans h2, (hb.cell (by exact hB)).trans h3, (hb.cell (by exact hB)).trans h4⟩

set_option maxHeartbeats 400000 in
theorem waitsFor_any (a b : Int) (w : World) (h0 : 0 ≤ a) (h1 : a ≤ 4) :
    Calls Yba.prog 19 #[.int .i8 a, .int .i8 b] w fun e w' => e = .returned (.bool (waits a b)) ∧ w = w' := by
  have ha : a = 0 ∨ a = 1 ∨ a = 2 ∨ a = 3 ∨ a = 4 := by omega
  rcases ha with rfl | rfl | rfl | rfl | rfl
  · go_enter Yba.func19, Yba.ntmps19
    go_wp2
    go_ret
    exact ⟨rfl, rfl⟩
  · go_enter Yba.func19, Yba.ntmps19
    go_wp2
    go_ret
    exact ⟨rfl, rfl⟩
  · by_cases hb : (b == 1) = true
    · go_enter Yba.func19, Yba.ntmps19
      go_wp2
      go_ret
      exact ⟨by simp [waits, hb], rfl⟩
    · have hb' : (b == 1) = false := by simpa using hb
      clear hb
      go_enter Yba.func19, Yba.ntmps19
      go_wp2
      go_ret
      exact ⟨by simp [waits, hb'], rfl⟩
  · go_enter Yba.func19, Yba.ntmps19
    go_wp2
    go_ret
    exact ⟨rfl, rfl⟩
  · go_enter Yba.func19, Yba.ntmps19
    go_wp2
    go_ret
    exact ⟨rfl, rfl⟩

set_option maxHeartbeats 1000000 in
theorem waitsBehind_any (r g : Rq) (w : World) (h0 : 0 ≤ r.mode) (h1 : r.mode ≤ 4) :
    Calls Yba.prog 16 #[.int .i64 r.owner, .int .i8 r.mode, .int .u64 r.num, .int .i64 g.owner, .int .i8 g.mode, .int .u64 g.num, .bool g.granted] w fun e w' => e = .returned (.bool (behindB r g)) ∧ w = w' := by
  obtain ⟨ro, rk, rm, rn, rg⟩ := r
  obtain ⟨go', gk, gm, gn, gg⟩ := g
  simp only at h0 h1 ⊢
  have hbe : behindB ⟨ro, rk, rm, rn, rg⟩ ⟨go', gk, gm, gn, gg⟩ = ((go' != ro) && waits rm gm && !(decide (rn < gn) && (!gg || rm == 4))) := rfl
  rw [hbe]
  clear hbe
  by_cases ho : (go' == ro) = true
  · have ho2 : (go' != ro) = false := by simpa using ho
    rw [ho2]
    go_enter Yba.func16, Yba.ntmps16
    go_wp2
    go_ret
    exact ⟨rfl, rfl⟩
  · have ho1 : (go' == ro) = false := by simpa using ho
    have ho2 : (go' != ro) = true := by simpa using ho
    rw [ho2]
    clear ho
    cases hw : waits rm gm with
    | false =>
      go_enter Yba.func16, Yba.ntmps16
      go_wp2_with (go_at_call 19; refine (waitsFor_any rm gm _ h0 h1).mono ?_; rintro e w' ⟨rfl, rfl⟩)
      go_ret
      exact ⟨rfl, rfl⟩
    | true =>
      by_cases hn : rn < gn
      · cases gg with
        | false =>
          have e1 : decide (rn < gn) = true := by simpa using hn
          rw [e1]
          go_enter Yba.func16, Yba.ntmps16
          go_wp2_with (go_at_call 19; refine (waitsFor_any rm gm _ h0 h1).mono ?_; rintro e w' ⟨rfl, rfl⟩)
          go_ret
          exact ⟨rfl, rfl⟩
        | true =>
          have e1 : decide (rn < gn) = true := by simpa using hn
          rw [e1]
          go_enter Yba.func16, Yba.ntmps16
          go_wp2_with (go_at_call 19; refine (waitsFor_any rm gm _ h0 h1).mono ?_; rintro e w' ⟨rfl, rfl⟩)
          go_ret
          exact ⟨by simp, rfl⟩
      · have e1 : decide (rn < gn) = false := by simpa using hn
        rw [e1]
        go_enter Yba.func16, Yba.ntmps16
        go_wp2_with (go_at_call 19; refine (waitsFor_any rm gm _ h0 h1).mono ?_; rintro e w' ⟨rfl, rfl⟩)
        go_ret
        exact ⟨rfl, rfl⟩
end Go.Proofs.Ybulkhexw
