/-
  (request).behind AND THE CLOSURE THAT Blocks HANDS TO slices.ContainsFunc.
-/
import Derived.Test.YbulkhexwSmall
namespace Go.Proofs.Ybulkhexw
open Go.RowKit

set_option maxHeartbeats 1000000 in
theorem behind_any (rb gb : Nat) (r g : Rq) (w : World) (hr : ReqAt w rb r) (hg : ReqAt w gb g) (h0 : 0 ≤ r.mode) (h1 : r.mode ≤ 4) :
    Calls Yba.prog 11 #[.pointer (some ⟨rb, 0, none⟩), .pointer (some ⟨gb, 0, none⟩)] w fun e w' => e = .returned (.bool (behindB r g)) ∧ ∃ q, w' = w.drewN q := by
  obtain ⟨r0, r1, r2, r3, r4⟩ := hr
  obtain ⟨g0, g1, g2, g3, g4⟩ := hg
  go_enter Yba.func11, Yba.ntmps11
  go_wp2
  go_quiet ((go_at_call 16; exact Calls.quiet_of_same ((waitsBehind_any r g _ h0 h1).mono fun e w' h => ⟨h.1, h.2.symm⟩)))
  go_wp2
  go_ret
  exact ⟨rfl, _, rfl⟩

/-- What the closure asks of a request g: is it o's, and does r wait behind it? -/
def predB (o : Int) (r g : Rq) : Bool := g.owner == o && behindB r g

set_option maxHeartbeats 1000000 in
theorem clos_any (ob rb rr gb : Nat) (o : Int) (r g : Rq) (w : World) (ho : w.cell? ⟨ob, 0, none⟩ = some (.int .i64 o)) (hrr : w.cell? ⟨rr, 0, none⟩ = some (.pointer (some ⟨rb, 0, none⟩)))
    (hr : ReqAt w rb r) (hg : ReqAt w gb g) (h0 : 0 ≤ r.mode) (h1 : r.mode ≤ 4) :
    Calls Yba.prog 10 #[.pointer (some ⟨gb, 0, none⟩), .pointer (some ⟨ob, 0, none⟩), .pointer (some ⟨rr, 0, none⟩)] w fun e w' => e = .returned (.bool (predB o r g)) ∧ ∃ q, w' = w.drewN q := by
  have g0 := hg.1
  have HR := hid hr; have HG := hid hg
  clear hr hg
  unfold predB
  cases hoo : (g.owner == o) with
  | true =>
    go_enter Yba.func10, Yba.ntmps10
    go_wp2
    go_quiet ((go_at_call 11; exact Calls.quiet_of (behind_any rb gb r g _ (by exact HR.out) (by exact HG.out) h0 h1)))
    go_wp2
    go_ret
    exact ⟨by simp, _, rfl⟩
  | false =>
    go_enter Yba.func10, Yba.ntmps10
    go_wp2
    go_quiet (fail)
    go_wp2
    go_ret
    exact ⟨rfl, _, rfl⟩
end Go.Proofs.Ybulkhexw
