/-
  slices.IndexFunc AND slices.ContainsFunc AT THE CLOSURE OF Blocks, over one queue.
-/
import Derived.Test.YbulkhexwClos
namespace Go.Proofs.Ybulkhexw
open Go.RowKit

/-- The slice (a, length of Q) holds pointers to the requests of Q, in order. -/
def QueueAt (w : World) (a : Option Addr) (Q : List (Rq × Nat)) : Prop :=
  0 < Q.length → ∃ g, a = some ⟨g, 0, none⟩ ∧ ∀ j p, Q[j]? = some p → w.cell? ⟨g, j, none⟩ = some (.pointer (some ⟨p.2, 0, none⟩))

theorem QueueAt.below {w w' : World} {a : Option Addr} {Q : List (Rq × Nat)} {B : Nat} (h : QueueAt w a Q) (hb : Below B w w') (hB : w.heap.size ≤ B) : QueueAt w' a Q := by
  intro hn
  obtain ⟨g, e, hc⟩ := h hn
  refine ⟨g, e, fun j p hp => ?_⟩
  have h1 := hc j p hp
  rw [hb.cell (by exact Nat.lt_of_lt_of_le (block_lt_of_cell h1) hB)]
  exact h1

theorem any_take_succ {α : Type} (p : α → Bool) (Q : List α) (k : Nat) (x : α) (h : Q[k]? = some x) : (Q.take (k + 1)).any p = ((Q.take k).any p || p x) := by
  obtain ⟨hk, rfl⟩ := List.getElem?_eq_some_iff.1 h
  rw [List.take_succ_eq_append_getElem hk, List.any_append]
  simp

set_option maxHeartbeats 1000000 in
theorem index_any (ob rb rr : Nat) (o : Int) (r : Rq) (a : Option Addr) (c : Nat) (Q : List (Rq × Nat)) (w : World) (hbig : Q.length ≤ 1048576)
    (ho : w.cell? ⟨ob, 0, none⟩ = some (.int .i64 o)) (hrr : w.cell? ⟨rr, 0, none⟩ = some (.pointer (some ⟨rb, 0, none⟩))) (hr : ReqAt w rb r) (h0 : 0 ≤ r.mode) (h1 : r.mode ≤ 4)
    (hq : QueueAt w a Q) (hR : ∀ p ∈ Q, ReqAt w p.2 p.1) :
    Calls Yba.prog 15 #[.slice a Q.length c, .func (.func 10) #[] #[.pointer (some ⟨ob, 0, none⟩), .pointer (some ⟨rr, 0, none⟩)]] w fun e w' =>
      ∃ z : Int, e = .returned (.int .i64 z) ∧ decide (0 ≤ z) = Q.any (fun g => predB o r g.1) ∧ ∃ q, w' = w.drewN q := by
  obtain ⟨n, hn⟩ : ∃ n, n = Q.length := ⟨_, rfl⟩
  rw [← hn]
  have HN := hid hn
  have hbig' : n ≤ 1048576 := by omega
  by_cases hz : n = 0
  · have hQ : Q = [] := List.eq_nil_of_length_eq_zero (by omega)
    have hfin : Hid (decide ((0 : Int) ≤ -1) = Q.any (fun g => predB o r g.1)) := by show _ = _; rw [hQ]; rfl
    clear hQ HN hn hbig hR hq hr
    subst hz
    go_enter Yba.func15, Yba.ntmps15
    go_wp2
    refine wp_loop_rounds 1 ?_
    rw [rounds_succ]
    go_wp2
    go_ret
    exact ⟨-1, rfl, hfin.out, 0, rfl⟩
  · obtain ⟨g, rfl, hc⟩ := hq (by omega)
    have HC := hid hc; have HR := hid hR; have Hr := hid hr; have HO := hid ho; have HRR := hid hrr
    clear hc hR hr hq hn hbig ho hrr
    go_enter Yba.func15, Yba.ntmps15
    go_wp2
    go_loopw [8] (fun i wr => ∃ k q : Nat, k ≤ n ∧ i = .int .i64 k ∧ wr = w.drewN q ∧ Hid ((Q.take k).any (fun g => predB o r g.1) = false)) (fun i _ => n - (intOf i).toNat)
    case atStart => exact ⟨0, 0, Nat.zero_le _, rfl, rfl, by show _ = _; simp⟩
    case round =>
      obtain ⟨k, q, hk, rfl, rfl, hno⟩ := hrel
      by_cases hlt : k < n
      · obtain ⟨p, hp⟩ : ∃ p, Q[k]? = some p := ⟨_, List.getElem?_eq_getElem (by rw [← HN.out]; exact hlt)⟩
        have hcell : w.cell? ⟨g, k, none⟩ = some (.pointer (some ⟨p.2, 0, none⟩)) := HC.out k p hp
        have hRp := HR.out p (List.mem_of_getElem? hp)
        have HS : Hid ((Q.take (k + 1)).any (fun g => predB o r g.1) = ((Q.take k).any (fun g => predB o r g.1) || predB o r p.1)) := any_take_succ _ Q k p hp
        have HP := hid hp; have HRp := hid hRp
        have HW : Hid (∀ q, Calls Yba.prog 10 #[.pointer (some ⟨p.2, 0, none⟩), .pointer (some ⟨ob, 0, none⟩), .pointer (some ⟨rr, 0, none⟩)] (w.drewN q) fun e w' => e = .returned (.bool (predB o r p.1)) ∧ ∃ q', w' = (w.drewN q).drewN q') :=
          fun q => clos_any ob rb rr p.2 o r p.1 (w.drewN q) HO.out HRR.out Hr.out HRp.out h0 h1
        clear hp hRp
        cases hb : predB o r p.1 with
        | true =>
          have HA : Hid (Q.any (fun g => predB o r g.1) = true) := by
            show _ = _
            rw [List.any_eq_true]
            exact ⟨p, List.mem_of_getElem? HP.out, hb⟩
          go_wp2_with (go_at_call 10; refine (HW.out _).mono ?_; rintro e w' ⟨rfl, q', rfl⟩)
          go_ret
          exact ⟨k, rfl, by rw [HA.out]; simp, _, rfl⟩
        | false =>
          have HA : Hid ((Q.take (k + 1)).any (fun g => predB o r g.1) = false) := by
            show _ = _
            rw [HS.out, hno.out, hb]; rfl
          go_wp2_with (go_at_call 10; refine (HW.out _).mono ?_; rintro e w' ⟨rfl, q', rfl⟩)
          go_roundw
          case rel => exact ⟨k + 1, q + q', by omega, by go_num, rfl, HA⟩
          case measure => simp [intOf]; omega
      · obtain rfl : k = n := by omega
        have HA : Hid (decide ((0 : Int) ≤ -1) = Q.any (fun g => predB o r g.1)) := by
          show _ = _
          have := hno.out
          rw [HN.out, List.take_length] at this
          rw [this]; rfl
        go_wp2
        go_ret
        exact ⟨-1, rfl, HA.out, q, rfl⟩

set_option maxHeartbeats 1000000 in
theorem contains_any (ob rb rr : Nat) (o : Int) (r : Rq) (a : Option Addr) (c : Nat) (Q : List (Rq × Nat)) (w : World) (hbig : Q.length ≤ 1048576)
    (ho : w.cell? ⟨ob, 0, none⟩ = some (.int .i64 o)) (hrr : w.cell? ⟨rr, 0, none⟩ = some (.pointer (some ⟨rb, 0, none⟩))) (hr : ReqAt w rb r) (h0 : 0 ≤ r.mode) (h1 : r.mode ≤ 4)
    (hq : QueueAt w a Q) (hR : ∀ p ∈ Q, ReqAt w p.2 p.1) :
    Calls Yba.prog 9 #[.slice a Q.length c, .func (.func 10) #[] #[.pointer (some ⟨ob, 0, none⟩), .pointer (some ⟨rr, 0, none⟩)]] w fun e w' =>
      e = .returned (.bool (Q.any (fun g => predB o r g.1))) ∧ ∃ q, w' = w.drewN q := by
  have HI := hid (index_any ob rb rr o r a c Q w hbig ho hrr hr h0 h1 hq hR)
  clear hbig ho hrr hr hq hR
  go_enter Yba.func9, Yba.ntmps9
  go_wp2_with (go_at_call 15; refine HI.out.mono ?_; rintro e w' ⟨z, rfl, hz, q, rfl⟩)
  go_ret
  exact ⟨by rw [← hz]; rfl, q, rfl⟩
end Go.Proofs.Ybulkhexw
