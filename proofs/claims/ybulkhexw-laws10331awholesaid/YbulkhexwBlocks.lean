/-
  (Manager).Blocks.
-/
import Derived.Test.YbulkhexwMaps
namespace Go.Proofs.Ybulkhexw
open Go.RowKit Go.Maps

set_option maxHeartbeats 1000000 in
/-- The owner is not known. -/
theorem blocks_none (mb ob no : Nat) (Do : DataW Value) (o : Int) (w : World) (hko : KI o)
    (hc4 : w.cell? ⟨mb, 4, none⟩ = some (.map (some ob))) (hown : w.ownsMap Yba.prog 3 RV ob no Do) (hat : Do.atKey (.int .i64 o) (.held (.pointer none)) = .held (.pointer none)) :
    Calls Yba.prog 6 #[.pointer (some ⟨mb, 0, none⟩), .int .i64 o] w fun e w' => e = .returned (.bool false) ∧ Below w.heap.size w w' := by
  have hlt : mb < w.heap.size := block_lt_of_cell hc4
  have hlk : ∀ q, (Instr.lookup 44 (.map (some ob)) (.int .i64 o) false).run Yba.prog ((w.alloc (.cells #[.int .i64 o] 3)).drewN q) = .ok (.pointer none) ((w.alloc (.cells #[.int .i64 o] 3)).drewN q) :=
    fun q => lookV (w := (w.alloc (.cells #[.int .i64 o] 3)).drewN q) (hown.alloc _) Yba.underlying44 zero45 hko hat
  clear hown hat
  go_enter Yba.func6, Yba.ntmps6
  go_wp2
  go_quiet (fail)
  go_wp2
  go_ret
  exact ⟨rfl, below_drewN ((Below.refl _ _).alloc (Nat.le_refl _) _) _⟩

set_option maxHeartbeats 1000000 in
/-- Nobody is parked. -/
theorem blocks_idle (mb ob no wb : Nat) (Do : DataW Value) (o : Int) (w : World) (hko : KI o)
    (hc4 : w.cell? ⟨mb, 4, none⟩ = some (.map (some ob))) (hc11 : w.cell? ⟨mb, 11, none⟩ = some (.int .i64 0)) (hown : w.ownsMap Yba.prog 3 RV ob no Do) (hat : Do.atKey (.int .i64 o) (.held (.pointer none)) = .held (.pointer (some ⟨wb, 0, none⟩))) :
    Calls Yba.prog 6 #[.pointer (some ⟨mb, 0, none⟩), .int .i64 o] w fun e w' => e = .returned (.bool false) ∧ Below w.heap.size w w' := by
  have hlt : mb < w.heap.size := block_lt_of_cell hc4
  have hlk : ∀ q, (Instr.lookup 44 (.map (some ob)) (.int .i64 o) false).run Yba.prog ((w.alloc (.cells #[.int .i64 o] 3)).drewN q) = .ok (.pointer (some ⟨wb, 0, none⟩)) ((w.alloc (.cells #[.int .i64 o] 3)).drewN q) :=
    fun q => lookV (w := (w.alloc (.cells #[.int .i64 o] 3)).drewN q) (hown.alloc _) Yba.underlying44 zero45 hko hat
  clear hown hat
  go_enter Yba.func6, Yba.ntmps6
  go_wp2
  go_quiet (fail)
  go_wp2
  go_ret
  exact ⟨rfl, below_drewN ((Below.refl _ _).alloc (Nat.le_refl _) _) _⟩

theorem ranges_below {w w' : World} {b r n B : Nat} {D : DataW Value} {left : Lit → Bool} {cnt : Nat} (h : w.ranges Yba.prog 3 RV b r n D left cnt) (hb : Below B w w') (hbB : b < B) (hrB : r < B) : w'.ranges Yba.prog 3 RV b r n D left cnt := by
  obtain ⟨es, clock, since, seen, c0, h1, h2, h3, h4, h5, h6⟩ := h
  exact ⟨es, clock, since, seen, c0, (hb.block b hbB).trans h1, h2, h3, h4, (hb.block r hrB).trans h5, h6⟩

set_option maxRecDepth 100000 in
set_option maxHeartbeats 2000000 in
theorem blocks_any (mb ob no wb qb nu hb nh : Nat) (Do Dq Dh : DataW Value) (o parked : Int) (QP : Int → List (Rq × Nat)) (w : World) (hko : KI o) (hpk : (parked == 0) = false)
    (hc3 : w.cell? ⟨mb, 3, none⟩ = some (.map (some qb))) (hc4 : w.cell? ⟨mb, 4, none⟩ = some (.map (some ob))) (hc11 : w.cell? ⟨mb, 11, none⟩ = some (.int .i64 parked))
    (hown : w.ownsMap Yba.prog 3 RV ob no Do) (hat : Do.atKey (.int .i64 o) (.held (.pointer none)) = .held (.pointer (some ⟨wb, 0, none⟩)))
    (hw1 : w.cell? ⟨wb, 1, none⟩ = some (.map (some hb))) (hw2 : w.cell? ⟨wb, 2, none⟩ = some (.slice none 0 0))
    (hheld : w.ownsMap Yba.prog 3 RV hb nh Dh) (hque : w.ownsMap Yba.prog 3 RV qb nu Dq)
    (hQ : ∀ x, KI x → ∃ a c, Dq.atKey (.int .i64 x) (.held (.slice none 0 0)) = .held (.slice a (QP x).length c) ∧ QueueAt w a (QP x))
    (hR : ∀ x, ∀ p ∈ QP x, ReqAt w p.2 p.1 ∧ 0 ≤ p.1.mode ∧ p.1.mode ≤ 4) (hlen : ∀ x, (QP x).length ≤ 1048576) :
    Calls Yba.prog 6 #[.pointer (some ⟨mb, 0, none⟩), .int .i64 o] w fun e w' =>
      ∃ res : Bool, e = .returned (.bool res) ∧ (res = true ↔ ∃ x, KI x ∧ Maps.has Dh (.int .i64 x) = true ∧ queueB o (QP x) = true) ∧ Below w.heap.size w w' := by
  have hlt : mb < w.heap.size := block_lt_of_cell hc4
  have hltw : wb < w.heap.size := block_lt_of_cell hw1
  have hlth : hb < w.heap.size := hheld.lt
  have hltq : qb < w.heap.size := hque.lt
  have hlk : ∀ q, (Instr.lookup 44 (.map (some ob)) (.int .i64 o) false).run Yba.prog ((w.alloc (.cells #[.int .i64 o] 3)).drewN q) = .ok (.pointer (some ⟨wb, 0, none⟩)) ((w.alloc (.cells #[.int .i64 o] 3)).drewN q) :=
    fun q => lookV (w := (w.alloc (.cells #[.int .i64 o] 3)).drewN q) (hown.alloc _) Yba.underlying44 zero45 hko hat
  have HH := hid hheld; have HQU := hid hque; have HQ := hid hQ; have HR := hid hR; have HL := hid hlen
  clear hown hat hheld hque hQ hR hlen
  go_enter Yba.func6, Yba.ntmps6
  go_wp2
  go_quiet (fail)
  go_wp2_with (at_range; refine wpList_range_own _ rfl (.tmp 33) 53 rfl 3 59 law3 Yba.underlying53 RV hb nh Dh rfl (show World.ownsMap ((w.alloc (.cells #[.int .i64 o] 3)).drewN _) Yba.prog 3 RV hb nh Dh from HH.out.alloc _) ?_; intro w0 hrg0 hg0 hs0)
  -- the world at the range, below the iterator
  have HB0 : Hid (Below (w.heap.size + 1) (w.alloc (.cells #[.int .i64 o] 3)) w0) :=
    (below_drewN (Below.refl _ _) _).grown hg0 (by simp) (fun k hk => by cases hk)
  have hsz : (w.alloc (.cells #[.int .i64 o] 3)).heap.size = w.heap.size + 1 := by simp
  have hrg0' : Hid (w0.ranges Yba.prog 3 RV hb (w.heap.size + 1) nh Dh (Maps.has Dh) (Maps.size Dh)) := by
    have := hrg0
    simp at this
    exact this
  clear hrg0 hg0 hs0 hlk
  have hszq : ((w.alloc (.cells #[.int .i64 o] 3)).drewN nq).heap.size = w.heap.size + 1 := by simp
  rw [hszq]
  clear hszq
  go_frame
  go_loopw [6] (fun _ wr => ∃ (left : Lit → Bool) (cnt : Nat), Hid (wr.ranges Yba.prog 3 RV hb (w.heap.size + 1) nh Dh left cnt) ∧
      Hid (∀ x, KI x → Maps.has Dh (.int .i64 x) = true → left (.int .i64 x) = false → queueB o (QP x) = false) ∧ Hid (∀ kl, left kl = true → Maps.has Dh kl = true) ∧ Hid (Below (w.heap.size + 1) (w.alloc (.cells #[.int .i64 o] 3)) wr))
    (fun _ wr => wr.rangeLeft hb (w.heap.size + 1))
  case atStart => exact ⟨_, _, hrg0', (fun x _ h1 h2 => by rw [h1] at h2; cases h2), (fun _ h => h), HB0⟩
  case round =>
    obtain ⟨left, cnt, hrg, hdone, hsub, hbw⟩ := hrel
    have hr4 : wr.cell? ⟨mb, 3, none⟩ = some (.map (some qb)) := by
      rw [hbw.out.cell (by exact Nat.lt_succ_of_lt hlt), ((Below.refl w.heap.size w).alloc (Nat.le_refl _) _).cell (by exact hlt)]; exact hc3
    have hrw2 : wr.cell? ⟨wb, 2, none⟩ = some (.slice none 0 0) := by
      rw [hbw.out.cell (by exact Nat.lt_succ_of_lt hltw), ((Below.refl w.heap.size w).alloc (Nat.le_refl _) _).cell (by exact hltw)]; exact hw2
    go_wp2_with (at_next; refine wpList_next_RV rfl (.tmp 34) rfl hb (w.heap.size + 1) nh Dh left cnt rfl hrg.out ?_ ?_)
    · intro hl0
      have HF : Hid (¬ ∃ x, KI x ∧ Maps.has Dh (.int .i64 x) = true ∧ queueB o (QP x) = true) := by
        rintro ⟨x, hx, hh, hq⟩
        rw [hdone.out x hx hh (hl0 _)] at hq
        cases hq
      clear hl0
      go_wp2
      go_ret
      refine ⟨false, rfl, ⟨fun h => (by cases h), fun h => absurd h HF.out⟩, ?_⟩
      exact ((Below.refl w.heap.size w).alloc (Nat.le_refl _) _).trans (hbw.out.mono (Nat.le_succ _))
    · intro x c w1 cnt1 hkx hlx hrg1 hlt1 hg1 hs1 hen
      have HBA := hid ((Below.refl w.heap.size w).alloc (Nat.le_refl _) (.cells #[.int .i64 o] 3))
      have HB1 : Hid (Below (w.heap.size + 1) (w.alloc (.cells #[.int .i64 o] 3)) w1) :=
        hbw.out.grown hg1 (by have := hbw.out.size; simpa using this) (fun k hk => by cases hk; exact Nat.le_refl _)
      have HBW1 : Hid (Below w.heap.size w w1) := HBA.out.trans (HB1.out.mono (Nat.le_succ _))
      obtain ⟨qa, qc, hqat, hqq⟩ := HQ.out x hkx
      have hlkq : (Instr.lookup 43 (.map (some qb)) (.int .i64 x) false).run Yba.prog w1 = .ok (.slice qa (QP x).length qc) w1 :=
        lookV (owns_below HQU.out HBW1.out hltq) Yba.underlying43 zero27 hkx hqat
      have HQ1 : Hid (QueueAt w1 qa (QP x)) := hqq.below HBW1.out (Nat.le_refl _)
      have HR1 : Hid (∀ p ∈ QP x, ReqAt w1 p.2 p.1 ∧ 0 ≤ p.1.mode ∧ p.1.mode ≤ 4) := fun p hp => ⟨(HR.out x p hp).1.below HBW1.out (block_lt_of_cell (HR.out x p hp).1.1), (HR.out x p hp).2⟩
      have HO1 : Hid (w1.cell? ⟨w.heap.size, 0, none⟩ = some (.int .i64 o)) := by
        show _ = _
        rw [HB1.out.cell (by exact Nat.lt_succ_self _)]
        simp
      have hm1 : w1.cell? ⟨mb, 3, none⟩ = some (.map (some qb)) := by rw [HBW1.out.cell (by exact hlt)]; exact hc3
      have HRG1 := hid hrg1
      have HLX := hid hlx
      have HBIG := hid (HL.out x)
      obtain ⟨Q, hQe⟩ : ∃ Q, Q = QP x := ⟨_, rfl⟩
      have HQE := hid hQe
      obtain ⟨n, hn⟩ : ∃ n, n = Q.length := ⟨_, rfl⟩
      rw [← hQe, ← hn] at hlkq
      have HN := hid hn
      have hbig : n ≤ 1048576 := by rw [hn, hQe]; exact HBIG.out
      clear hr4 hrw2 hqat hqq hg1 hrg1 hlx hQe hn
      go_wp2
      obtain ⟨wo, rfl⟩ : ∃ wo : World, wo = wr := ⟨_, rfl⟩
      go_loopw [47] (fun i wr => ∃ k : Nat, k ≤ n ∧ i = .int .i64 k ∧ Hid ((Q.take k).any (fun r => !r.1.granted && Q.any fun g => predB o r.1 g.1) = false) ∧ Hid (Below w1.heap.size w1 wr)) (fun i _ => n - (intOf i).toNat)
      case atStart => exact ⟨0, Nat.zero_le _, rfl, (by show _ = _; simp), Below.refl _ _⟩
      case round =>
        obtain ⟨k, hk, rfl, hno, hbi⟩ := hrel
        by_cases hkn : k < n
        · obtain ⟨p, hp⟩ : ∃ p, Q[k]? = some p := ⟨_, List.getElem?_eq_getElem (by rw [← HN.out]; exact hkn)⟩
          have HP := hid hp
          obtain ⟨g, hqa, hcs⟩ := HQ1.out (by rw [← HQE.out, ← HN.out]; omega)
          subst hqa
          have hc0 : w1.cell? ⟨g, k, none⟩ = some (.pointer (some ⟨p.2, 0, none⟩)) := hcs k p (by rw [← HQE.out]; exact hp)
          have hcell : wr.cell? ⟨g, k, none⟩ = some (.pointer (some ⟨p.2, 0, none⟩)) := by rw [hbi.out.cell (by exact block_lt_of_cell hc0)]; exact hc0
          have HRP := hid (HR1.out p (by rw [← HQE.out]; exact List.mem_of_getElem? hp))
          have hltp : p.2 < w1.heap.size := block_lt_of_cell HRP.out.1.1
          have HRr := hid (HRP.out.1.below hbi.out hltp)
          have hgc : wr.cell? ⟨p.2, 4, none⟩ = some (.bool p.1.granted) := HRr.out.2.2.2.2
          have HS : Hid ((Q.take (k + 1)).any (fun r => !r.1.granted && Q.any fun g => predB o r.1 g.1) = ((Q.take k).any (fun r => !r.1.granted && Q.any fun g => predB o r.1 g.1) || (!p.1.granted && Q.any fun g => predB o p.1 g.1))) := any_take_succ _ Q k p hp
          have hszr := hbi.out.size
          have HBN : Hid (Below w1.heap.size w1 (wr.alloc (.cells #[.pointer (some ⟨p.2, 0, none⟩)] 30))) := hbi.out.alloc hszr _
          have hgn : (wr.alloc (.cells #[.pointer (some ⟨p.2, 0, none⟩)] 30)).cell? ⟨p.2, 4, none⟩ = some (.bool p.1.granted) := (HRP.out.1.below HBN.out hltp).2.2.2.2
          clear hcs hc0 hp hgc
          cases hpg : p.1.granted with
          | true =>
            rw [hpg] at hgn
            go_wp2
            go_roundw
            case rel =>
              refine ⟨k + 1, by omega, by go_num, ?_, HBN⟩
              show _ = _
              rw [HS.out, hno.out, hpg]; rfl
            case measure => simp [intOf]; omega
          | false =>
            rw [hpg] at hgn
            have HBO : Hid (Below (w.heap.size + 1) (w.alloc (.cells #[.int .i64 o] 3)) (wr.alloc (.cells #[.pointer (some ⟨p.2, 0, none⟩)] 30))) :=
              HB1.out.trans (HBN.out.mono (by have := HB1.out.size; simpa using this))
            have HCO := hid (contains_any w.heap.size p.2 wr.heap.size o p.1 (some ⟨g, 0, none⟩) qc Q (wr.alloc (.cells #[.pointer (some ⟨p.2, 0, none⟩)] 30)) (by rw [← HN.out]; exact hbig)
              (by rw [HBO.out.cell (by exact Nat.lt_succ_self _)]; simp) (by simp) (HRP.out.1.below HBN.out hltp) HRP.out.2.1 HRP.out.2.2 (by rw [HQE.out]; exact HQ1.out.below HBN.out (Nat.le_refl _))
              (fun q hq => by have h2 := HR1.out q (by rw [← HQE.out]; exact hq); exact h2.1.below HBN.out (block_lt_of_cell h2.1.1)))
            rw [← HN.out] at HCO
            cases han : Q.any (fun g => predB o p.1 g.1) with
            | true =>
              rw [han] at HCO
              go_wp2_with (go_at_call 9; refine HCO.out.mono ?_; rintro e w2 ⟨rfl, q, rfl⟩)
              go_ret
              refine ⟨true, rfl, ⟨fun _ => ⟨x, hkx, ?_, ?_⟩, fun _ => rfl⟩, ?_⟩
              · exact hsub.out _ HLX.out
              · rw [← HQE.out]
                show Q.any _ = true
                rw [List.any_eq_true]
                refine ⟨p, List.mem_of_getElem? HP.out, ?_⟩
                rw [hpg]
                exact han
              · exact below_drewN (HBA.out.trans (HBO.out.mono (Nat.le_succ _))) _
            | false =>
              rw [han] at HCO
              go_wp2_with (go_at_call 9; refine HCO.out.mono ?_; rintro e w2 ⟨rfl, q, rfl⟩)
              go_roundw
              case rel =>
                refine ⟨k + 1, by omega, by go_num, ?_, below_drewN HBN.out _⟩
                show _ = _
                rw [HS.out, hno.out, hpg, han]; rfl
              case measure => simp [intOf]; omega
        · have hkn' : k = n := by omega
          subst hkn'
          have HQB : Hid (queueB o (QP x) = false) := by
            have h1 := hno.out
            rw [HN.out, List.take_length] at h1
            rw [← HQE.out]
            exact h1
          have HW1 := HB1.out.size
          have HRG : Hid (wr.ranges Yba.prog 3 RV hb (w.heap.size + 1) nh Dh (fun z => left z && !z.sameKey (.int .i64 x)) cnt1) :=
            ranges_below HRG1.out hbi.out (Nat.lt_of_lt_of_le (Nat.lt_succ_of_lt hlth) (by simpa using HW1)) HRG1.out.lt
          go_wp2
          go_roundw
          case rel =>
            refine ⟨_, _, HRG, ?_, (fun kl h => hsub.out kl (by simp only [Bool.and_eq_true] at h; exact h.1)), HB1.out.trans (hbi.out.mono (by simpa using HW1))⟩
            intro y hy hhas hl
            by_cases hyx : y = x
            · rw [hyx]; exact HQB.out
            · refine hdone.out y hy hhas ?_
              have : (Lit.int .i64 y).sameKey (.int .i64 x) = false := by simp [Lit.sameKey, hyx]
              rw [this] at hl
              simpa using hl
          case measure => rw [HRG.out.left_eq, hrg.out.left_eq]; exact hlt1
end Go.Proofs.Ybulkhexw
