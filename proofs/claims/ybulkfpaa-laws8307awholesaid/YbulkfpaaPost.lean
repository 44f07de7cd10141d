/-
  FROM A LAW's WALK ('it returns true; below the old heap nothing has turned') TO THE ROW's 'post': whatever the arguments hold, they read again as they did.
-/
import Derived.Test.YbulkfpaaRows
import Derived.WalkKit
import Derived.ProofKit
import Derived.OpenShut
import Derived.ChangeOld
import Derived.Below
namespace Go.Proofs.Ybulkfpaa
open Go.ChangeShapes Go.WideShapes Go.ChangeAt Go.RowKit

theorem below_trodAll {H : Type} {enc : TypeId × Value → H} {P : Program} (hl : laidOutB P = true) {W W' : World} (hb : Below W.heap.size W W') :
    ∀ {ts : List TypeId} {vs : List Value} {ds : List (DataW H)} {ps : List MemPlace}, (ts.all fun t => P.readableRec t && decide (t < P.types.size)) = true →
      DataW.TrodAll enc P W 0 (fun _ => true) true ts vs ds ps → DataW.TrodAll enc P W' 0 (fun b => decide (b < W.heap.size)) true ts vs ds ps
  | [], [], [], _, _, h => h
  | t :: ts, v :: vs, d :: ds, ps, hr, h => by
    obtain ⟨p, q, h1, h2, e⟩ := h
    simp only [List.all_cons, Bool.and_eq_true, decide_eq_true_eq] at hr
    have hlt : ∀ x ∈ p, x.block < W.heap.size := by
      obtain ⟨m, hm⟩ := h1
      exact DataW.trod_lt m _ _ _ hm
    exact ⟨p, q, Below.trod hl hr.1.1 hr.1.2 h1 hb hlt, below_trodAll hl hb hr.2 h2, e⟩
  | [], [], _ :: _, _, _, h => h.elim
  | [], _ :: _, _, _, _, h => h.elim
  | _ :: _, [], _, _, _, h => h.elim
  | _ :: _, _ :: _, [], _, _, h => h.elim

theorem law_post {H : Type} {enc : TypeId × Value → H} {P : Program} {f : Func} {s : ChangeSpec} {W W' : World} {args : Array Value} {ds gs : List (DataW H)} {before p : List MemPlace} {tb : TypeId}
    (hl : laidOutB P = true) (hr : (f.params.toList.all fun t => P.readableRec t && decide (t < P.types.size)) = true) (hvars : s.vars = []) (hres : f.resultTypes = #[tb]) (hb : P.underlying tb = some .bool)
    (hW : DataW.Whole enc P f.params.toList s.vars false W args.toList ds gs before)
    (hA : DataW.TrodAll enc P W 0 (fun _ => true) true f.params.toList args.toList ds p)
    (hfn : s.fn H (ds ++ gs) = { results := [.lit (.bool true)], args := ds })
    (bel : Below W.heap.size W W') : s.post enc P f false true false false W args (.bool true) W' := by
  refine ⟨ds, gs, before, [], p, [], hW, ?_, ?_, ?_, bel.frame _, fun h => by cases h⟩
  · rw [hfn, hres]
    exact trodAll_mk1 (shut_bool hb _)
  · rw [hfn]
    exact below_trodAll hl bel hr hA
  · rw [hfn, hvars]
    rfl
end Go.Proofs.Ybulkfpaa
