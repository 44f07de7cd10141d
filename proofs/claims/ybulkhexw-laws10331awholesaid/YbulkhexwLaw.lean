/-
  THE LAW, WALKED.
-/
import Derived.Test.YbulkhexwReady
import Derived.Deep.RegionHeld3
namespace Go.Proofs.Ybulkhexw
open Go.RowKit Go.Maps

/-- One drawn request, five cells. -/
def RawAt (w : World) (b off i : Nat) (r : Raw) : Prop :=
  w.cell? ⟨b, off + i * 5, none⟩ = some (.int .u8 r.ow) ∧ w.cell? ⟨b, off + i * 5 + 1, none⟩ = some (.int .u8 r.ky) ∧ w.cell? ⟨b, off + i * 5 + 2, none⟩ = some (.int .u8 r.md) ∧
  w.cell? ⟨b, off + i * 5 + 3, none⟩ = some (.int .u8 r.nb) ∧ w.cell? ⟨b, off + i * 5 + 4, none⟩ = some (.bool r.gr)
theorem RawAt.below {w w' : World} {b off i : Nat} {r : Raw} {B : Nat} (h : RawAt w b off i r) (hb : Below B w w') (hB : b < B) : RawAt w' b off i r := by
  obtain ⟨h0, h1, h2, h3, h4⟩ := h
  exact ⟨(hb.cell (by exact hB)).trans h0, (hb.cell (by exact hB)).trans h1, (hb.cell (by exact hB)).trans h2, (hb.cell (by exact hB)).trans h3, (hb.cell (by exact hB)).trans h4⟩

theorem info30' : (Yba.prog.info? 30).map (fun i => (i.zero, i.size, i.bytes)) = some (some (.pointer none), 1, 8) := by kernel_rfl

theorem ex30 : ∃ i, Yba.prog.info? 30 = some i ∧ i.zero = some (.pointer none) ∧ i.size = 1 ∧ i.bytes = 8 := by
  obtain ⟨i, hi, he⟩ := Option.map_eq_some_iff.1 info30'
  simp only [Prod.mk.injEq] at he
  exact ⟨i, hi, he.1, he.2.1, he.2.2⟩

/-- The world ahead of the queue's step. -/
theorem Inv.made {base bb n mb qb ob : Nat} {PL : List (Rq × Nat)} {D : DataW Value} {V : Int → Value} {wr : World} (I : Inv base bb n mb qb ob PL PL D V wr) (r : Raw) (k : Nat) (hk : PL.length = k) (o : Obj) (t : List Value) :
    Inv base bb n mb qb ob (PL ++ [(norm r, wr.heap.size + 1)]) PL D V (((wr.setCell ⟨bb, k, none⟩ (.pointer (some ⟨wr.heap.size + 1, 0, none⟩))).alloc o).alloc
      (.cells (#[.int .i64 (r.ow % 4), .int .i64 (r.ky % 4), .int .i8 (r.md % 5), .int .u64 r.nb, .bool r.gr] ++ t.toArray) 41)) := by
  have hbs := I.built.lt
  have h := ((I.alloc o).alloc (.cells (#[.int .i64 (r.ow % 4), .int .i64 (r.ky % 4), .int .i8 (r.md % 5), .int .u64 r.nb, .bool r.gr] ++ t.toArray) 41)).store (p := (norm r, wr.heap.size + 1))
    ⟨_, hnew (by simp), by simp [norm], by simp [norm], by simp [norm], by simp [norm], by simp [norm]⟩ k hk.symm (u := .pointer (some ⟨wr.heap.size + 1, 0, none⟩)) rfl
  rw [World.setCell_alloc_past _ _ _ _ (by simp; omega), World.setCell_alloc_past _ _ _ _ hbs] at h
  exact h

set_option maxRecDepth 100000 in
set_option maxHeartbeats 4000000 in
theorem law_any (ra ha : Option Addr) (n rc hn hc : Nat) (hv : Bool) (pk ow : Int) (R : Nat → Raw) (Hs : Nat → Int) (w : World) (how0 : 0 ≤ ow) (how : ow < 256)
    (hR : 0 < n → ∃ b off, ra = some ⟨b, off, none⟩ ∧ ∀ i, i < n → RawAt w b off i (R i) ∧ (R i).ok)
    (hH : 0 < hn → ∃ b off, ha = some ⟨b, off, none⟩ ∧ ∀ i, i < hn → w.cell? ⟨b, off + i, none⟩ = some (.int .u8 (Hs i)) ∧ 0 ≤ Hs i ∧ Hs i < 256)
    (hbig : n ≤ 1024) (hnbig : hn ≤ 1048576) :
    Calls Yba.prog 3 #[.slice ra n rc, .slice ha hn hc, .bool hv, .int .i64 pk, .int .u8 ow] w fun e w' => e = .returned (.bool true) ∧ Below w.heap.size w w' := by
  have hmk := run_make_row' (P := Yba.prog) 27 30 (.pointer none) 8 Yba.underlying27 info30' rfl .i64 .i64 n (by omega) (by omega)
  have HR := hid hR; have HH := hid hH
  clear hR hH
  go_enter Yba.func3, Yba.ntmps3
  go_wp2_with (go_at_call 4; refine (man_any w).mono ?_; rintro e w1 ⟨mb, qb, ob, rfl, hq, ho, lq, lo, lm, hne, hman, hbel⟩)
  have HI0 : Hid (Inv (w1.heap.size + 1) w1.heap.size n mb qb ob [] [] (.map []) (fun _ => .slice none 0 0) (w1.alloc (.cells (madeCells #[.pointer none] n) 30))) := by
    have h := Inv.start (w := w1.alloc (.cells (madeCells #[.pointer none] n) 30)) (bb := w1.heap.size) (n := n) (hman.below ((Below.refl _ _).alloc (Nat.le_refl _) _) hman.lt) (ho.alloc _) (hq.alloc _) (World.rowIs_made w1 (.pointer none) n 30) hne
    rw [show (w1.alloc (.cells (madeCells #[.pointer none] n) 30)).heap.size = w1.heap.size + 1 from by simp] at h
    exact h
  have HB0 := hid (hbel.alloc hbel.size (.cells (madeCells #[.pointer none] n) 30))
  have HW1 := hid hbel.size
  have HLQ := hid lq; have HLO := hid lo; have HLM := hid lm
  clear hman ho hq hne lq lo lm hbel hmk
  go_loopw [48] (fun i wr => ∃ (k : Nat) (PL : List (Rq × Nat)) (D : DataW Value) (V : Int → Value), k ≤ n ∧ i = .int .i64 k ∧ Hid (Inv (w1.heap.size + 1) w1.heap.size n mb qb ob PL PL D V wr) ∧ Hid (PL.length = k) ∧
      Hid (∀ j p, PL[j]? = some p → p.1 = norm (R j)) ∧ Hid (Below w.heap.size w wr)) (fun i _ => n - (intOf i).toNat)
  case atStart => exact ⟨0, [], _, _, Nat.zero_le _, rfl, HI0, (rfl : ([] : List (Rq × Nat)).length = 0), (fun j p h => by simp at h), HB0⟩
  case round =>
    obtain ⟨k, PL, D, V, hk, rfl, hI, hlen, hnorm, hB⟩ := hrel
    by_cases hkn : k < n
    · obtain ⟨b, off, hra, hraw⟩ := HR.out (by omega)
      subst hra
      obtain ⟨hr, hok⟩ := hraw k hkn
      have hbl : b < w.heap.size := block_lt_of_cell hr.1
      obtain ⟨c0, c1, c2, c3, c4⟩ := hr.below hB.out hbl
      have HOK := hid hok
      obtain ⟨⟨o1, o2⟩, ⟨o3, o4⟩, ⟨o5, o6⟩, o7, o8⟩ := hok
      obtain ⟨r, hre⟩ : ∃ r, r = R k := ⟨_, rfl⟩
      rw [← hre] at c0 c1 c2 c3 c4 o1 o2 o3 o4 o5 o6 o7 o8
      have HRE := hid hre
      clear hr hraw hre
      have hbc : wr.cell? ⟨w1.heap.size, k, none⟩ = some (builtAt PL k) := hI.out.built.cell hkn
      have hbf : wr.frozen? ⟨w1.heap.size, k, none⟩ = false := hI.out.built.frozen k
      have hbs : w1.heap.size < wr.heap.size := hI.out.built.lt
      have HIm := hid (hI.out.made r k hlen.out (.cells #[.int .u8 r.ow, .int .u8 r.ky, .int .u8 r.md, .int .u8 r.nb, .bool r.gr] 29)
        [.nilIface, .bool false, .pointer none, .int .u64 0, .int .i64 0, .pointer none])
      have HBm : Hid (Below w.heap.size w (((wr.setCell ⟨w1.heap.size, k, none⟩ (.pointer (some ⟨wr.heap.size + 1, 0, none⟩))).alloc (.cells #[.int .u8 r.ow, .int .u8 r.ky, .int .u8 r.md, .int .u8 r.nb, .bool r.gr] 29)).alloc
          (.cells #[.int .i64 (r.ow % 4), .int .i64 (r.ky % 4), .int .i8 (r.md % 5), .int .u64 r.nb, .bool r.gr, .nilIface, .bool false, .pointer none, .int .u64 0, .int .i64 0, .pointer none] 41))) :=
        ((hB.out.setCell (p := ⟨w1.heap.size, k, none⟩) HW1.out _).alloc (by simp; exact hB.out.size) _).alloc (by simp; have := hB.out.size; omega) _
      go_wp2
      generalize hWb : ((wr.setCell ⟨w1.heap.size, k, none⟩ (.pointer (some ⟨wr.heap.size + 1, 0, none⟩))).alloc (.cells #[.int .u8 r.ow, .int .u8 r.ky, .int .u8 r.md, .int .u8 r.nb, .bool r.gr] 29)).alloc
          (.cells #[.int .i64 (r.ow % 4), .int .i64 (r.ky % 4), .int .i8 (r.md % 5), .int .u64 r.nb, .bool r.gr, .nilIface, .bool false, .pointer none, .int .u64 0, .int .i64 0, .pointer none] 41) = Wb
      have HI2 : Hid (Inv (w1.heap.size + 1) w1.heap.size n mb qb ob (PL ++ [(norm r, wr.heap.size + 1)]) PL D V Wb) := by rw [← hWb]; exact HIm
      have HB2 : Hid (Below w.heap.size w Wb) := by rw [← hWb]; exact HBm
      clear hWb HIm HBm c0 c1 c2 c3 c4 hbc hbf hbs
      obtain ⟨rb, hrb⟩ : ∃ rb, rb = wr.heap.size + 1 := ⟨_, rfl⟩
      rw [← hrb] at HI2 ⊢
      clear hrb
      have hkey : KI (r.ky % 4) := KI_small (by omega) (by omega)
      have HID : Hid (Inv (w1.heap.size + 1) w1.heap.size n mb qb ob (PL ++ [(norm r, rb)]) PL D V ((Wb.alloc (.cells #[.pointer (some ⟨rb, 0, none⟩)] 30)).drew)) := (HI2.out.alloc _).drew
      have hS0 : Wb.drew.cell? ⟨mb, 3, none⟩ = some (.map (some qb)) ∧ Wb.drew.cell? ⟨rb, 1, none⟩ = some (.int .i64 (r.ky % 4)) := ⟨HI2.out.man.cell3, (HI2.out.reqs (norm r, rb) (by simp)).at'.2.1⟩
      have hS1 : ((Wb.alloc (.cells #[.pointer (some ⟨rb, 0, none⟩)] 30)).drew).cell? ⟨mb, 3, none⟩ = some (.map (some qb)) ∧ ((Wb.alloc (.cells #[.pointer (some ⟨rb, 0, none⟩)] 30)).drew).cell? ⟨rb, 1, none⟩ = some (.int .i64 (r.ky % 4)) :=
        ⟨HID.out.man.cell3, (HID.out.reqs (norm r, rb) (by simp)).at'.2.1⟩
      have hl0 : (Instr.lookup 43 (.map (some qb)) (.int .i64 (r.ky % 4)) false).run Yba.prog Wb.drew = .ok (V (r.ky % 4)) Wb.drew := lookV HI2.out.drew.que Yba.underlying43 zero27 hkey (HI2.out.look _ hkey)
      have hl1 : (Instr.lookup 43 (.map (some qb)) (.int .i64 (r.ky % 4)) false).run Yba.prog ((Wb.alloc (.cells #[.pointer (some ⟨rb, 0, none⟩)] 30)).drew) = .ok (V (r.ky % 4)) ((Wb.alloc (.cells #[.pointer (some ⟨rb, 0, none⟩)] 30)).drew) :=
        lookV HID.out.que Yba.underlying43 zero27 hkey (HID.out.look _ hkey)
      have HNB : Hid (((Wb.alloc (.cells #[.pointer (some ⟨rb, 0, none⟩)] 30)).drew).heap[Wb.heap.size]? = some (.cells #[.pointer (some ⟨rb, 0, none⟩)] 30)) := hnew rfl
      have HQL : Hid ((queueOf PL (r.ky % 4)).length ≤ k) := by
        have := List.length_filter_le (fun p : Rq × Nat => p.1.key == r.ky % 4) PL
        rw [hlen.out] at this
        exact this
      have HONE : Hid (∀ u ∈ [Value.pointer (some ⟨rb, 0, none⟩)], u.oneCell' = true) := by
        intro u hu
        rw [List.mem_singleton.1 hu]
        rfl
      obtain ⟨i30, hi30, hz30, hs30, hb30⟩ := ex30
      go_region_held3 (fun w' => w'.cell? ⟨mb, 3, none⟩ = some (.map (some qb)) ∧ w'.cell? ⟨rb, 1, none⟩ = some (.int .i64 (r.ky % 4))) (assumption)
        ((refine step_append_lies _ rfl (.tmp 94) (.tmp 96) 27 rfl (w1.heap.size + 1) 30 i30 (.pointer none) 1 8 Yba.underlying27 hi30 hz30 hs30 hb30 rfl (by omega) (V (r.ky % 4)) (queueOf PL (r.ky % 4)).length ((queueOf PL (r.ky % 4)).map ptrOf) rfl
            (HID.out.row (r.ky % 4)) ⟨Wb.heap.size, 0, none⟩ 1 1 [.pointer (some ⟨rb, 0, none⟩)] rfl rfl (World.news_of_block HNB.out) HONE.out (by omega) (by have := HQL.out; simp only [maxLen]; omega) (by have := HQL.out; omega) HID.out.lbase _ rfl ?_
          intro g cap w2 hown hgrow hat hglt
          obtain ⟨w3, hrun3, hq3, hg3⟩ := (HID.out.mid hgrow).2.1.update law3 Yba.underlying43 (by have := hlen.out; simp only [maxLen]; omega) (key := .int .i64 (r.ky % 4)) (val := .slice (some ⟨g, 0, none⟩) ((queueOf PL (r.ky % 4)).length + 1) cap) (key3 hkey) rfl
          have hS2 : w2.cell? ⟨mb, 3, none⟩ = some (.map (some qb)) ∧ w2.cell? ⟨rb, 1, none⟩ = some (.int .i64 (r.ky % 4)) := ⟨(HID.out.mid hgrow).1.cell3, ((HID.out.mid hgrow).2.2 (norm r, rb) (HID.out.reqs _ (by simp))).at'.2.1⟩
          have hS3 : w3.cell? ⟨mb, 3, none⟩ = some (.map (some qb)) ∧ w3.cell? ⟨rb, 1, none⟩ = some (.int .i64 (r.ky % 4)) := ⟨(HID.out.mid2 hgrow hg3).1.cell3, ((HID.out.mid2 hgrow hg3).2 (norm r, rb) (HID.out.reqs _ (by simp))).at'.2.1⟩
          have HIn := hid (HID.out.push (p := (norm r, rb)) (by simp) hown hgrow hat hq3 hg3)
          have HB3 : Hid (Below w.heap.size w w3) := ((((HB2.out.alloc HB2.out.size _).drew).grown hgrow (by have := HB2.out.size; simp; omega) (fun j hj => by have h1 := ((HID.out.row (r.ky % 4)).lt j hj).1; have h2 := HW1.out; omega))).grown hg3
            (by have h1 := hgrow.size; have h2 := HB2.out.size; simp at h1; omega) (fun j hj => by cases hj; exact HLQ.out)))
      all_goals
        go_wp2
        go_roundw
        case rel =>
          refine ⟨k + 1, PL ++ [(norm r, rb)], _, _, by omega, by go_num, HIn, ?_, ?_, HB3⟩
          · show (PL ++ [(norm r, rb)]).length = k + 1
            rw [List.length_append, hlen.out]; rfl
          · intro j p hj
            rcases Nat.lt_or_ge j PL.length with h | h
            · rw [List.getElem?_append_left h] at hj
              exact hnorm.out j p hj
            · have hl := (List.getElem?_eq_some_iff.1 hj).1
              have hjk : j = PL.length := by simp at hl; omega
              rw [hjk] at hj ⊢
              rw [hlen.out, ← HRE.out]
              simp at hj
              rw [← hj]
        case measure => simp [intOf]; omega
    · have hkn' : k = n := by omega
      subst hkn'
      clear hkn hk
      have hmlt : mb < wr.heap.size := hI.out.man.lt
      have hm11 := hI.out.man.cell11
      have hm4 := hI.out.man.cell4
      have hmf := hI.out.man.free 11
      have hmk : ∀ t W, (Instr.makeMap t none).run Yba.prog W = .ok (.map (some W.heap.size)) (W.alloc (.map #[] 0)) := fun t W => run_makeMap t W
      have hko : KI (ow % 4) := KI_small (by omega) (by omega)
      cases hv with
      | false =>
        have hno := hI.out.noOwner (pk := pk) (.cells #[.bool false, .bool false, .bool false, .bool false] 52)
        have HRD := hid hno.1
        have hblk := hid (blocks_none mb ob 0 (.map []) (ow % 4) ((wr.setCell ⟨mb, 11, none⟩ (.int .i64 pk)).alloc (.cells #[.bool false, .bool false, .bool false, .bool false] 52)) hko hno.1.man.cell4 hno.2 rfl)
        have HBE0 : Hid (Below w.heap.size w ((wr.setCell ⟨mb, 11, none⟩ (.int .i64 pk)).alloc (.cells #[.bool false, .bool false, .bool false, .bool false] 52))) := (hB.out.setCell (p := ⟨mb, 11, none⟩) HLM.out _).alloc (by simp; exact hB.out.size) _
        clear hno hI hm4
        go_wp2_with (go_at_call 6; refine hblk.out.mono ?_; rintro e wE ⟨rfl, hbE⟩; have HRY := hid (HRD.out.below hbE); have HBE := hid (HBE0.out.trans (hbE.mono HBE0.out.size)); have hpE := HRY.out.man.cell11)
        have HTL : Hid (∀ j, j < k → ∃ rb, wE.cell? ⟨w1.heap.size, j, none⟩ = some (.pointer (some ⟨rb, 0, none⟩)) ∧ ReqAt wE rb (norm (R j))) := HRY.out.tail R hlen.out hnorm.out
        clear hpE HRY HBE0 HRD hblk hm11 hmf hmlt hmk hko hB hlen hnorm
        obtain ⟨wo, rfl⟩ : ∃ wo : World, wo = wr := ⟨_, rfl⟩
        go_loopw [228] (fun i wr => ∃ j : Nat, j ≤ k ∧ i = .int .i64 j ∧ Hid (Below wE.heap.size wE wr)) (fun i _ => k - (intOf i).toNat)
        case atStart => exact ⟨0, Nat.zero_le _, rfl, Below.refl _ _⟩
        case round =>
          obtain ⟨j, hj, rfl, hBj⟩ := hrel
          by_cases hjk : j < k
          · obtain ⟨b, off, hra, hraw⟩ := HR.out (by omega)
            subst hra
            obtain ⟨hr, hok⟩ := hraw j hjk
            have hbl : b < wE.heap.size := Nat.lt_of_lt_of_le (block_lt_of_cell hr.1) HBE.out.size
            obtain ⟨c0, c1, c2, c3, c4⟩ := (hr.below HBE.out (block_lt_of_cell hr.1)).below hBj.out hbl
            obtain ⟨⟨o1, o2⟩, ⟨o3, o4⟩, ⟨o5, o6⟩, o7, o8⟩ := hok
            obtain ⟨rb, hrb, hrq⟩ := HTL.out j hjk
            have hl1 : w1.heap.size < wr.heap.size := Nat.lt_of_lt_of_le (block_lt_of_cell hrb) hBj.out.size
            have hl2 : rb < wr.heap.size := Nat.lt_of_lt_of_le (block_lt_of_cell hrq.1) hBj.out.size
            have hbc : wr.cell? ⟨w1.heap.size, j, none⟩ = some (.pointer (some ⟨rb, 0, none⟩)) := by rw [hBj.out.cell (by exact block_lt_of_cell hrb)]; exact hrb
            obtain ⟨q0, q1, q2, q3, q4⟩ := hrq.below hBj.out (block_lt_of_cell hrq.1)
            simp only [norm] at q0 q1 q2 q3 q4
            obtain ⟨r, hre⟩ : ∃ r, r = R j := ⟨_, rfl⟩
            rw [← hre] at c0 c1 c2 c3 c4 o1 o2 o3 o4 o5 o6 o7 o8 q0 q1 q2 q3 q4
            have HBN := hid (hBj.out.alloc hBj.out.size (.cells #[.int .u8 r.ow, .int .u8 r.ky, .int .u8 r.md, .int .u8 r.nb, .bool r.gr] 29))
            clear hr hraw hre hrb hrq
            go_wp2
            go_quiet (fail)
            go_wp2
            go_roundw
            case rel => exact ⟨j + 1, by omega, by go_num, below_drewN HBN.out _⟩
            case measure => simp [intOf]; omega
          · have hjk' : j = k := by omega
            subst hjk'
            go_wp2
            go_ret
            exact ⟨rfl, HBE.out.trans (hBj.out.mono HBE.out.size)⟩
      | true =>
        have HI := hI
        have HOw := hid hI.out.own
        have hobl : ob < wr.heap.size := hI.out.own.lt
        clear hI
        go_wp2
        obtain ⟨wo, rfl⟩ : ∃ wo : World, wo = wr := ⟨_, rfl⟩
        obtain ⟨w0, hw0⟩ : ∃ w0, w0 = ((wo.alloc (.cells #[.bool false, .bool false, .bool false, .bool false] 52)).alloc (.map #[] 0)).alloc (.cells #[.int .i64 (ow % 4), .map (some (wo.heap.size + 1)), .slice none 0 0, .pointer none, .pointer none] 57) := ⟨_, rfl⟩
        rw [← hw0]
        have HB02 : Hid (Below wo.heap.size wo w0) := by
          rw [hw0]
          exact (((Below.refl _ _).alloc (Nat.le_refl _) _).alloc (by simp) _).alloc (by simp; omega) _
        have HM0 : Hid (w0.ownsMap Yba.prog 3 RV (wo.heap.size + 1) 0 (.map [])) := by
          have h := (World.ownsMap_made (wo.alloc (.cells #[.bool false, .bool false, .bool false, .bool false] 52)) Yba.prog 3 RV).alloc (.cells #[.int .i64 (ow % 4), .map (some (wo.heap.size + 1)), .slice none 0 0, .pointer none, .pointer none] 57)
          rw [← hw0, show (wo.alloc (.cells #[.bool false, .bool false, .bool false, .bool false] 52)).heap.size = wo.heap.size + 1 from by simp] at h
          exact h
        have HW0 : Hid (w0.heap[wo.heap.size + 2]? = some (.cells #[.int .i64 (ow % 4), .map (some (wo.heap.size + 1)), .slice none 0 0, .pointer none, .pointer none] 57 (0, 0))) := by
          rw [hw0]
          exact hnew (by simp)
        have HA0 : Hid (w0.rowIs wo.heap.size 52 4 (fun _ => .bool false)) := by
          rw [hw0]
          refine World.rowIs.alloc (World.rowIs.alloc ((World.rowIs_alloc wo #[.bool false, .bool false, .bool false, .bool false] 52 (fun _ => .bool false) ?_)) _) _
          intro i hi
          have : i < 4 := hi
          match i, this with
          | 0, _ => rfl
          | 1, _ => rfl
          | 2, _ => rfl
          | 3, _ => rfl
        clear hw0
        go_loopw [106] (fun i wr => ∃ (j : Nat) (Hd : Int → Bool) (Dh : DataW Value), j ≤ hn ∧ i = .int .i64 j ∧ Hid (wr.ownsMap Yba.prog 3 RV (wo.heap.size + 1) j Dh) ∧ Hid (∀ x, KI x → Maps.has Dh (.int .i64 x) = Hd x) ∧ Hid (∀ x, Hd x = true → 0 ≤ x ∧ x ≤ 3) ∧
            Hid (wr.rowIs wo.heap.size 52 4 (fun i => .bool (Hd i))) ∧ Hid (wr.heap[wo.heap.size + 2]? = some (.cells #[.int .i64 (ow % 4), .map (some (wo.heap.size + 1)), .slice none 0 0, .pointer none, .pointer none] 57 (0, 0))) ∧ Hid (Below wo.heap.size wo wr))
          (fun i _ => hn - (intOf i).toNat)
        case atStart => exact ⟨0, fun _ => false, .map [], Nat.zero_le _, rfl, HM0, (fun _ _ => rfl), (fun _ h => by cases h), HA0, HW0, HB02⟩
        case round =>
          obtain ⟨j, Hd, Dh, hj, rfl, hM, hhas, hrange, hrow, hwb, hbo⟩ := hrel
          have hwc : wr.cell? ⟨wo.heap.size + 2, 1, none⟩ = some (.map (some (wo.heap.size + 1))) := by simp [World.cell?, hwb.out]
          by_cases hjn : j < hn
          · obtain ⟨b, off, hha, hhs⟩ := HH.out (by omega)
            subst hha
            obtain ⟨hc0, hx0, hx1⟩ := hhs j hjn
            have hcw : wr.cell? ⟨b, off + j, none⟩ = some (.int .u8 (Hs j)) := by
              rw [hbo.out.cell (by exact Nat.lt_of_lt_of_le (block_lt_of_cell hc0) hB.out.size), hB.out.cell (by exact block_lt_of_cell hc0)]
              exact hc0
            obtain ⟨y, hy⟩ : ∃ y, y = Hs j := ⟨_, rfl⟩
            rw [← hy] at hcw hx0 hx1
            clear hc0 hhs hy
            have hky : KI (y % 4) := KI_small (by omega) (by omega)
            go_wp2_with (at_mapUpdate; refine wpList_mapUpdate_own _ rfl (.tmp 116) (.tmp 117) (.tmp 118) 53 rfl 3 59 law3 Yba.underlying53 RV (wo.heap.size + 1) j Dh rfl hM.out (by simp only [maxLen]; omega) _ _ (.int .i64 (y % 4)) rfl rfl (key3 hky) (.held (.agg #[.int .i8 1, .int .i8 0])) [] rfl ?_; intro w2 hown2 hgrow2; have hrow2 := hid (hrow.out.of_block (hgrow2.block wo.heap.size hrow.out.lt (by simp))); have hic := hrow2.out.cell (i := (y % 4).toNat) (by omega); have hif := hrow2.out.frozen (y % 4).toNat)
            go_roundw
            case rel =>
              have hs2 := hgrow2.size
              have hlo := hbo.out.size
              have hwl : wo.heap.size + 2 < wr.heap.size := lt_of_block hwb.out
              refine ⟨j + 1, fun x => x == y % 4 || Hd x, _, by omega, by go_num, hown2.setCell (by show wo.heap.size + 1 ≠ wo.heap.size; omega) _, ?_, ?_, (hrow2.out.set (y % 4).toNat (.bool true)).congr ?_, ?_, (hbo.out.grown hgrow2 hlo (fun i hi => by cases hi; omega)).setCell (p := ⟨wo.heap.size, (y % 4).toNat, none⟩) (Nat.le_refl _) _⟩
              · intro x hx
                by_cases e : x = y % 4
                · rw [e, has_put_same hM.out.isMap (show WideAt.IsKeyLit (.int .i64 (y % 4)) from trivial)]
                  simp
                · rw [has_put_other (fun h => e (by cases h; rfl)), hhas.out x hx]
                  simp [e]
              · intro x hx
                simp only [Bool.or_eq_true, beq_iff_eq] at hx
                rcases hx with hx | hx
                · omega
                · exact hrange.out x hx
              · intro i hi
                by_cases e : i = (y % 4).toNat
                · rw [if_pos e]
                  have e2 : (i : Int) = y % 4 := by omega
                  simp [e2]
                · rw [if_neg e]
                  have e2 : ¬ (i : Int) = y % 4 := by omega
                  simp [e2]
              · show _ = _
                rw [Below.heap_setCell _ _ _ _ (by show wo.heap.size + 2 ≠ wo.heap.size; omega), hgrow2.block _ hwl (by simp)]
                exact hwb.out
            case measure => simp [intOf]; omega
          · have hjk' : j = hn := by omega
            subst hjk'
            have hmlr : mb < wr.heap.size := Nat.lt_of_lt_of_le hmlt hbo.out.size
            have hc4r : wr.cell? ⟨mb, 4, none⟩ = some (.map (some ob)) := by rw [hbo.out.cell (by exact hmlt)]; exact hm4
            have HOr := hid (map_of_block HOw.out (hbo.out.block ob hobl))
            have hnem : ob ≠ mb := by
              obtain ⟨c2, h3, _⟩ := HI.out.man
              obtain ⟨es, cl, h4, _⟩ := HOw.out
              intro e
              rw [e, h3] at h4
              simp at h4
            go_wp2_with (at_mapUpdate; refine wpList_mapUpdate_own _ rfl (.tmp 125) (.tmp 126) (.tmp 127) 44 rfl 3 45 law3 Yba.underlying44 RV ob 0 (.map []) rfl HOr.out (by simp only [maxLen]; omega) _ _ (.int .i64 (ow % 4)) rfl rfl (key3 hko) (.held (.pointer (some ⟨wo.heap.size + 2, 0, none⟩))) [] rfl ?_; intro w2 hown2 hgrow2; have hrd := HI.out.owner (pk := pk) hbo.out hgrow2 hown2; have h2f : w2.frozen? ⟨mb, 11, none⟩ = false := (((HI.out.man.below hbo.out hmlt).of_block (hgrow2.block mb hmlr (fun e => hnem (by cases e; rfl)))).free 11); have h2c : w2.cell? ⟨mb, 11, none⟩ = some (.int .i64 0) := (((HI.out.man.below hbo.out hmlt).of_block (hgrow2.block mb hmlr (fun e => hnem (by cases e; rfl)))).cell11); have HRD := hid hrd.1; have HOD := hid hrd.2; clear hrd)
            have hs2 := hgrow2.size
            have HW6b : Hid ((w2.setCell ⟨mb, 11, none⟩ (.int .i64 pk)).heap[wo.heap.size + 2]? = some (.cells #[.int .i64 (ow % 4), .map (some (wo.heap.size + 1)), .slice none 0 0, .pointer none, .pointer none] 57 (0, 0))) := by
              show _ = _
              rw [Below.heap_setCell _ _ _ _ (by show wo.heap.size + 2 ≠ mb; omega), hgrow2.block _ (lt_of_block hwb.out) (by intro e; cases e; omega)]
              exact hwb.out
            have HM6 : Hid ((w2.setCell ⟨mb, 11, none⟩ (.int .i64 pk)).ownsMap Yba.prog 3 RV (wo.heap.size + 1) j Dh) := by
              refine map_of_block hM.out ?_
              rw [Below.heap_setCell _ _ _ _ (by show wo.heap.size + 1 ≠ mb; omega), hgrow2.block _ hM.out.lt (by intro e; cases e; omega)]
            have HR6 : Hid ((w2.setCell ⟨mb, 11, none⟩ (.int .i64 pk)).rowIs wo.heap.size 52 4 (fun i => .bool (Hd i))) := by
              refine hrow.out.of_block ?_
              rw [Below.heap_setCell _ _ _ _ (by show wo.heap.size ≠ mb; omega), hgrow2.block _ hrow.out.lt (by intro e; cases e; omega)]
            have HBE0 : Hid (Below w.heap.size w (w2.setCell ⟨mb, 11, none⟩ (.int .i64 pk))) :=
              ((hB.out.trans (hbo.out.mono hB.out.size)).grown hgrow2 (Nat.le_trans hB.out.size hbo.out.size) (fun i hi => by cases hi; exact HLO.out)).setCell (p := ⟨mb, 11, none⟩) HLM.out _
            have HATO : Hid (((DataW.map []).put (.int .i64 (ow % 4)) (.held (.pointer (some ⟨wo.heap.size + 2, 0, none⟩)))).atKey (.int .i64 (ow % 4)) (.held (.pointer none)) = DataW.held (Value.pointer (some ⟨wo.heap.size + 2, 0, none⟩))) :=
              atKey_put_same HOr.out.isMap (show WideAt.IsKeyLit (.int .i64 (ow % 4)) from trivial) _ _
            have hwc1 : (w2.setCell ⟨mb, 11, none⟩ (.int .i64 pk)).cell? ⟨wo.heap.size + 2, 1, none⟩ = some (.map (some (wo.heap.size + 1))) := by simp only [World.cell?, HW6b.out]; rfl
            have hwc2 : (w2.setCell ⟨mb, 11, none⟩ (.int .i64 pk)).cell? ⟨wo.heap.size + 2, 2, none⟩ = some (.slice none 0 0) := by simp only [World.cell?, HW6b.out]; rfl
            generalize hW6 : w2.setCell ⟨mb, 11, none⟩ (.int .i64 pk) = w6 at HM6 HR6 HBE0 hwc1 hwc2 HRD HOD ⊢
            have HM4 := hid HRD.out.man.cell4
            have HM11 := hid HRD.out.man.cell11
            clear hW6 h2f h2c hgrow2 hown2 HW6b hmlr hc4r hm11 hm4 HOw HOr hjn hj hwc hM hrow hwb hs2
            by_cases hpk : pk = 0
            · subst hpk
              have hblk := hid (blocks_idle mb ob _ (wo.heap.size + 2) _ (ow % 4) w6 hko HM4.out HM11.out HOD.out HATO.out)
              refine hblk.out.mono ?_
              rintro e wE ⟨rfl, hbE⟩
              have HRY := hid (HRD.out.below hbE)
              have HBE := hid (HBE0.out.trans (hbE.mono HBE0.out.size))
              have hpE := HRY.out.man.cell11
              go_wp2
              have HTL : Hid (∀ j, j < k → ∃ rb, wE.cell? ⟨w1.heap.size, j, none⟩ = some (.pointer (some ⟨rb, 0, none⟩)) ∧ ReqAt wE rb (norm (R j))) := HRY.out.tail R hlen.out hnorm.out
              clear hpE HRY HBE0 HRD hblk hmf hmk hko hlen hnorm
              obtain ⟨wq, rfl⟩ : ∃ wq : World, wq = wr := ⟨_, rfl⟩
              go_loopw [228] (fun i wr => ∃ j : Nat, j ≤ k ∧ i = .int .i64 j ∧ Hid (Below wE.heap.size wE wr)) (fun i _ => k - (intOf i).toNat)
              case atStart => exact ⟨0, Nat.zero_le _, rfl, Below.refl _ _⟩
              case round =>
                obtain ⟨j, hj, rfl, hBj⟩ := hrel
                by_cases hjk : j < k
                · obtain ⟨b, off, hra, hraw⟩ := HR.out (by omega)
                  subst hra
                  obtain ⟨hr, hok⟩ := hraw j hjk
                  have hbl : b < wE.heap.size := Nat.lt_of_lt_of_le (block_lt_of_cell hr.1) HBE.out.size
                  obtain ⟨c0, c1, c2, c3, c4⟩ := (hr.below HBE.out (block_lt_of_cell hr.1)).below hBj.out hbl
                  obtain ⟨⟨o1, o2⟩, ⟨o3, o4⟩, ⟨o5, o6⟩, o7, o8⟩ := hok
                  obtain ⟨rb, hrb, hrq⟩ := HTL.out j hjk
                  have hl1 : w1.heap.size < wr.heap.size := Nat.lt_of_lt_of_le (block_lt_of_cell hrb) hBj.out.size
                  have hl2 : rb < wr.heap.size := Nat.lt_of_lt_of_le (block_lt_of_cell hrq.1) hBj.out.size
                  have hbc : wr.cell? ⟨w1.heap.size, j, none⟩ = some (.pointer (some ⟨rb, 0, none⟩)) := by rw [hBj.out.cell (by exact block_lt_of_cell hrb)]; exact hrb
                  obtain ⟨q0, q1, q2, q3, q4⟩ := hrq.below hBj.out (block_lt_of_cell hrq.1)
                  simp only [norm] at q0 q1 q2 q3 q4
                  obtain ⟨r, hre⟩ : ∃ r, r = R j := ⟨_, rfl⟩
                  rw [← hre] at c0 c1 c2 c3 c4 o1 o2 o3 o4 o5 o6 o7 o8 q0 q1 q2 q3 q4
                  have HBN := hid (hBj.out.alloc hBj.out.size (.cells #[.int .u8 r.ow, .int .u8 r.ky, .int .u8 r.md, .int .u8 r.nb, .bool r.gr] 29))
                  clear hr hraw hre hrb hrq
                  go_wp2
                  go_quiet (fail)
                  go_wp2
                  go_roundw
                  case rel => exact ⟨j + 1, by omega, by go_num, below_drewN HBN.out _⟩
                  case measure => simp [intOf]; omega
                · have hjk' : j = k := by omega
                  subst hjk'
                  go_wp2
                  go_ret
                  exact ⟨rfl, HBE.out.trans (hBj.out.mono HBE.out.size)⟩

            · have hpk2 : (pk == 0) = false := by simpa using hpk
              have hpk3 : (pk != 0) = true := by simpa using hpk
              have hblk := hid (blocks_any mb ob _ (wo.heap.size + 2) qb _ (wo.heap.size + 1) _ _ D Dh (ow % 4) pk (queueOf PL) w6 hko hpk2 HRD.out.man.cell3 HM4.out HM11.out HOD.out HATO.out hwc1 hwc2 HM6.out HRD.out.que HRD.out.queues
                (fun x p hp => ⟨HRD.out.reqAt x p hp, by
                  obtain ⟨i, hi⟩ := List.getElem?_of_mem (List.mem_filter.1 hp).1
                  have h1 := hnorm.out i p hi
                  have h2 : i < k := by have := (List.getElem?_eq_some_iff.1 hi).1; rw [hlen.out] at this; exact this
                  obtain ⟨b, off, _, hraw⟩ := HR.out (by omega)
                  have h3 := norm_ok (hraw i h2).2
                  rw [h1]
                  exact h3.2.2.1⟩)
                (fun x => by have := List.length_filter_le (fun p : Rq × Nat => p.1.key == x) PL; rw [hlen.out] at this; unfold queueOf; omega))
              refine hblk.out.mono ?_
              rintro e wE ⟨res, rfl, hres, hbE⟩
              have HRY := hid (HRD.out.below hbE)
              have HBE := hid (HBE0.out.trans (hbE.mono HBE0.out.size))
              have hpE := HRY.out.man.cell11
              have HRO := hid (HR6.out.of_block (hbE.block _ HR6.out.lt))
              obtain ⟨all, hall⟩ : ∃ all, all = PL.map (·.1) := ⟨_, rfl⟩
              have HAL : Hid (∀ i, i < k → all[i]? = some (norm (R i))) := by
                intro i hi
                obtain ⟨p, hp⟩ : ∃ p, PL[i]? = some p := ⟨_, List.getElem?_eq_getElem (by rw [hlen.out]; exact hi)⟩
                rw [hall, List.getElem?_map, hp, ← hnorm.out i p hp]
                rfl
              have HAN : Hid (all.take k = all) := by
                show _ = _
                rw [List.take_of_length_le]
                rw [hall, List.length_map, hlen.out]
                exact Nat.le_refl _
              have HFIN : Hid (all.any (rowB Hd (ow % 4) all) = res) := by
                have h1 := blocks_iff_want Hd (ow % 4) PL (fun p hp => by
                  obtain ⟨i, hi⟩ := List.getElem?_of_mem hp
                  have h1 := hnorm.out i p hi
                  have h2 : i < k := by have := (List.getElem?_eq_some_iff.1 hi).1; rw [hlen.out] at this; exact this
                  obtain ⟨b, off, _, hraw⟩ := HR.out (by omega)
                  have h3 := norm_ok (hraw i h2).2
                  rw [h1]
                  exact h3.2.1)
                rw [← hall] at h1
                have h2 : (res = true) ↔ (all.any (rowB Hd (ow % 4) all) = true) := by
                  rw [hres]
                  refine Iff.trans ⟨?_, ?_⟩ h1
                  · rintro ⟨x, hx, hh, hq⟩
                    rw [hhas.out x hx] at hh
                    exact ⟨x, hrange.out x hh, hh, hq⟩
                  · rintro ⟨x, ⟨hx0, hx1⟩, hh, hq⟩
                    have hx := KI_small hx0 hx1
                    exact ⟨x, hx, by rw [hhas.out x hx]; exact hh, hq⟩
                exact (Bool.eq_iff_iff.2 h2).symm
              clear hres hblk hbE HRD HOD HATO hwc1 hwc2 HM6 HR6 HBE0 HM4 HM11 hhas hrange hall hbo HI
              go_wp2
              obtain ⟨wq, rfl⟩ : ∃ wq : World, wq = wr := ⟨_, rfl⟩
              go_loopw [142, 23] (fun i v wr => ∃ j : Nat, j ≤ k ∧ i = .int .i64 j ∧ v = .bool ((all.take j).any (rowB Hd (ow % 4) all)) ∧ Hid (Below wE.heap.size wE wr)) (fun i _ _ => k - (intOf i).toNat)
              case atStart => exact ⟨0, Nat.zero_le _, rfl, rfl, Below.refl _ _⟩
              case round =>
                obtain ⟨j, hj, rfl, rfl, hBj⟩ := hrel
                by_cases hjk : j < k
                · obtain ⟨b, off, hra, hraw⟩ := HR.out (by omega)
                  subst hra
                  have HRAW := hid hraw
                  obtain ⟨hr, hok⟩ := hraw j hjk
                  have hblw : b < w.heap.size := block_lt_of_cell hr.1
                  have hbl : b < wE.heap.size := Nat.lt_of_lt_of_le hblw HBE.out.size
                  obtain ⟨c0, c1, c2, c3, c4⟩ := (hr.below HBE.out hblw).below hBj.out hbl
                  obtain ⟨⟨o1, o2⟩, ⟨o3, o4⟩, ⟨o5, o6⟩, o7, o8⟩ := hok
                  have HS : Hid ((all.take (j + 1)).any (rowB Hd (ow % 4) all) = ((all.take j).any (rowB Hd (ow % 4) all) || rowB Hd (ow % 4) all (norm (R j)))) := any_take_succ _ all j _ (HAL.out j hjk)
                  obtain ⟨r, hre⟩ : ∃ r, r = R j := ⟨_, rfl⟩
                  rw [← hre] at c0 c1 c2 c3 c4 o1 o2 o3 o4 o5 o6 o7 o8 HS
                  have HRB : Hid (rowB Hd (ow % 4) all (norm r) = (!r.gr && Hd (r.ky % 4) && (r.ow % 4 != ow % 4) && all.any (colB (ow % 4) (norm r)))) := (rfl : _ = _)
                  obtain ⟨b0, hb0⟩ : ∃ b0, b0 = (all.take j).any (rowB Hd (ow % 4) all) := ⟨_, rfl⟩
                  rw [← hb0] at HS ⊢
                  have hlo : wo.heap.size < wr.heap.size := Nat.lt_of_lt_of_le HRO.out.lt hBj.out.size
                  have hic : wr.cell? ⟨wo.heap.size, (r.ky % 4).toNat, none⟩ = some (.bool (Hd (r.ky % 4))) := by
                    rw [hBj.out.cell (by exact HRO.out.lt), HRO.out.cell (by omega)]
                    rw [show (((r.ky % 4).toNat : Nat) : Int) = r.ky % 4 from by omega]
                  have HBN := hid (hBj.out.alloc hBj.out.size (.cells #[.int .u8 r.ow, .int .u8 r.ky, .int .u8 r.md, .int .u8 r.nb, .bool r.gr] 29))
                  clear hr hraw hre hb0
                  cases hgr : r.gr with
                  | true =>
                    rw [hgr] at c4 HBN
                    go_wp2
                    go_roundw
                    case rel =>
                      refine ⟨j + 1, by omega, by go_num, ?_, HBN⟩
                      rw [HS.out, HRB.out, hgr]
                      simp
                    case measure => simp [intOf]; omega
                  | false =>
                    rw [hgr] at c4 HBN
                    cases hhd : Hd (r.ky % 4) with
                    | false =>
                      rw [hhd] at hic
                      go_wp2
                      go_roundw
                      case rel =>
                        refine ⟨j + 1, by omega, by go_num, ?_, HBN⟩
                        rw [HS.out, HRB.out, hhd]
                        simp
                      case measure => simp [intOf]; omega
                    | true =>
                      rw [hhd] at hic
                      by_cases hoo : r.ow % 4 = ow % 4
                      · have hoo1 : (r.ow % 4 == ow % 4) = true := by simp [hoo]
                        go_wp2
                        go_roundw
                        case rel =>
                          refine ⟨j + 1, by omega, by go_num, ?_, HBN⟩
                          rw [HS.out, HRB.out, hoo]
                          simp
                        case measure => simp [intOf]; omega
                      · have hoo1 : (r.ow % 4 == ow % 4) = false := by simpa using hoo
                        have hoo2 : (r.ow % 4 != ow % 4) = true := by simpa using hoo
                        go_wp2
                        obtain ⟨w3, rfl⟩ : ∃ w3 : World, w3 = wr := ⟨_, rfl⟩
                        have HBQ := hid (hBj.out.alloc hBj.out.size (.cells #[.int .u8 r.ow, .int .u8 r.ky, .int .u8 r.md, .int .u8 r.nb, .bool false] 29))
                        have hsz3 : (w3.alloc (.cells #[.int .u8 r.ow, .int .u8 r.ky, .int .u8 r.md, .int .u8 r.nb, .bool false] 29)).heap.size = w3.heap.size + 1 := by simp
                        have HDD : Hid (∀ W, Below (w3.heap.size + 1) (w3.alloc (.cells #[.int .u8 r.ow, .int .u8 r.ky, .int .u8 r.md, .int .u8 r.nb, .bool false] 29)) W → W.cell? ⟨w3.heap.size, 0, none⟩ = some (.int .u8 r.ow) ∧ W.cell? ⟨w3.heap.size, 1, none⟩ = some (.int .u8 r.ky) ∧ W.cell? ⟨w3.heap.size, 2, none⟩ = some (.int .u8 r.md) ∧
                            W.cell? ⟨w3.heap.size, 3, none⟩ = some (.int .u8 r.nb) ∧ W.cell? ⟨w3.heap.size, 4, none⟩ = some (.bool false)) := by
                          intro W hW
                          refine ⟨?_, ?_, ?_, ?_, ?_⟩ <;> (rw [hW.cell (by exact Nat.lt_succ_self _)]; simp)
                        go_loopw [169, 23] (fun i v wr => ∃ l : Nat, l ≤ k ∧ i = .int .i64 l ∧ v = .bool (b0 || (all.take l).any (colB (ow % 4) (norm r))) ∧ Hid (Below (w3.heap.size + 1) (w3.alloc (.cells #[.int .u8 r.ow, .int .u8 r.ky, .int .u8 r.md, .int .u8 r.nb, .bool false] 29)) wr)) (fun i _ _ => k - (intOf i).toNat)
                        case atStart => exact ⟨0, Nat.zero_le _, rfl, (by simp), Below.refl _ _⟩
                        case round =>
                          obtain ⟨l, hl, rfl, rfl, hBl⟩ := hrel
                          have hszr := hBl.out.size
                          rw [hsz3] at hszr
                          by_cases hlk : l < k
                          · obtain ⟨hr, hok⟩ := HRAW.out l hlk
                            obtain ⟨e0, e1, e2, e3, e4⟩ := ((hr.below HBE.out hblw).below HBQ.out hbl).below hBl.out (by have := hBj.out.size; omega)
                            obtain ⟨⟨p1, p2⟩, ⟨p3, p4⟩, ⟨p5, p6⟩, p7, p8⟩ := hok
                            have HS4 : Hid ((all.take (l + 1)).any (colB (ow % 4) (norm r)) = ((all.take l).any (colB (ow % 4) (norm r)) || colB (ow % 4) (norm r) (norm (R l)))) := any_take_succ _ all l _ (HAL.out l hlk)
                            obtain ⟨g, hge⟩ : ∃ g, g = R l := ⟨_, rfl⟩
                            rw [← hge] at e0 e1 e2 e3 e4 p1 p2 p3 p4 p5 p6 p7 p8 HS4
                            obtain ⟨b1, hb1⟩ : ∃ b1, b1 = (all.take l).any (colB (ow % 4) (norm r)) := ⟨_, rfl⟩
                            rw [← hb1] at HS4 ⊢
                            have HCB : Hid (colB (ow % 4) (norm r) (norm g) = ((g.ky % 4 == r.ky % 4) && (g.ow % 4 == ow % 4) && waits (r.md % 5) (g.md % 5) && !(decide (r.nb < g.nb) && (!g.gr || r.md % 5 == 4)))) := (rfl : _ = _)
                            have HBG := hid (hBl.out.alloc (by exact hszr) (.cells #[.int .u8 g.ow, .int .u8 g.ky, .int .u8 g.md, .int .u8 g.nb, .bool g.gr] 29))
                            have HGG : Hid (∀ W, Below (wr.alloc (.cells #[.int .u8 g.ow, .int .u8 g.ky, .int .u8 g.md, .int .u8 g.nb, .bool g.gr] 29)).heap.size (wr.alloc (.cells #[.int .u8 g.ow, .int .u8 g.ky, .int .u8 g.md, .int .u8 g.nb, .bool g.gr] 29)) W → W.cell? ⟨wr.heap.size, 0, none⟩ = some (.int .u8 g.ow) ∧ W.cell? ⟨wr.heap.size, 1, none⟩ = some (.int .u8 g.ky) ∧ W.cell? ⟨wr.heap.size, 2, none⟩ = some (.int .u8 g.md) ∧
                                W.cell? ⟨wr.heap.size, 3, none⟩ = some (.int .u8 g.nb) ∧ W.cell? ⟨wr.heap.size, 4, none⟩ = some (.bool g.gr)) := by
                              intro W hW
                              refine ⟨?_, ?_, ?_, ?_, ?_⟩ <;> (rw [hW.cell (by simp)]; simp)
                            obtain ⟨f0, f1, f2, f3, f4⟩ := HDD.out wr hBl.out
                            have hl3 : w3.heap.size < wr.heap.size := by omega
                            have HTB := hid (tab_any (wr.alloc (.cells #[.int .u8 g.ow, .int .u8 g.ky, .int .u8 g.md, .int .u8 g.nb, .bool g.gr] 29)) r.md g.md o5 o6 p5 p6)
                            clear hr hge hb1
                            by_cases hK : g.ky % 4 = r.ky % 4
                            · have hK1 : (g.ky % 4 == r.ky % 4) = true := by simp [hK]
                              have hK2 : (g.ky % 4 != r.ky % 4) = false := by simp [hK]
                              by_cases hO : g.ow % 4 = ow % 4
                              · have hO1 : (g.ow % 4 == ow % 4) = true := by simp [hO]
                                have hO2 : (g.ow % 4 != ow % 4) = false := by simp [hO]
                                cases hwt : waits (r.md % 5) (g.md % 5) with
                                | false =>
                                  rw [hwt] at HTB
                                  go_wp2_with (go_at_call 7; refine HTB.out.mono ?_; rintro e w5 ⟨rfl, hb5⟩; have HB5 := hid (HBG.out.trans (hb5.mono (by have h9 := HBG.out.size; rw [hsz3] at h9; exact h9))); obtain ⟨d0, d1, d2, d3, d4⟩ := HDD.out w5 HB5.out; obtain ⟨x0, x1, x2, x3, x4⟩ := HGG.out w5 hb5)
                                  go_roundw
                                  case rel =>
                                    refine ⟨l + 1, by omega, by go_num, ?_, HB5⟩
                                    rw [HS4.out, HCB.out]
                                    simp [hwt]
                                  case measure => simp [intOf]; omega
                                | true =>
                                  rw [hwt] at HTB
                                  by_cases hlt : r.nb < g.nb
                                  · have hlt1 : decide (r.nb < g.nb) = true := by simpa using hlt
                                    cases hgg : g.gr with
                                    | false =>
                                      rw [hgg] at e4 HTB HBG HGG
                                      go_wp2_with (go_at_call 7; refine HTB.out.mono ?_; rintro e w5 ⟨rfl, hb5⟩; have HB5 := hid (HBG.out.trans (hb5.mono (by have h9 := HBG.out.size; rw [hsz3] at h9; exact h9))); obtain ⟨d0, d1, d2, d3, d4⟩ := HDD.out w5 HB5.out; obtain ⟨x0, x1, x2, x3, x4⟩ := HGG.out w5 hb5)
                                      go_roundw
                                      case rel =>
                                        refine ⟨l + 1, by omega, by go_num, ?_, HB5⟩
                                        rw [HS4.out, HCB.out]
                                        simp [hlt1, hgg]
                                      case measure => simp [intOf]; omega
                                    | true =>
                                      rw [hgg] at e4 HTB HBG HGG
                                      by_cases hm : r.md % 5 = 4
                                      · have hm1 : (r.md % 5 == 4) = true := by simp [hm]
                                        go_wp2_with (go_at_call 7; refine HTB.out.mono ?_; rintro e w5 ⟨rfl, hb5⟩; have HB5 := hid (HBG.out.trans (hb5.mono (by have h9 := HBG.out.size; rw [hsz3] at h9; exact h9))); obtain ⟨d0, d1, d2, d3, d4⟩ := HDD.out w5 HB5.out; obtain ⟨x0, x1, x2, x3, x4⟩ := HGG.out w5 hb5)
                                        go_roundw
                                        case rel =>
                                          refine ⟨l + 1, by omega, by go_num, ?_, HB5⟩
                                          rw [HS4.out, HCB.out]
                                          simp [hlt1, hm1]
                                        case measure => simp [intOf]; omega
                                      · have hm1 : (r.md % 5 == 4) = false := by simpa using hm
                                        go_wp2_with (go_at_call 7; refine HTB.out.mono ?_; rintro e w5 ⟨rfl, hb5⟩; have HB5 := hid (HBG.out.trans (hb5.mono (by have h9 := HBG.out.size; rw [hsz3] at h9; exact h9))); obtain ⟨d0, d1, d2, d3, d4⟩ := HDD.out w5 HB5.out; obtain ⟨x0, x1, x2, x3, x4⟩ := HGG.out w5 hb5)
                                        go_roundw
                                        case rel =>
                                          refine ⟨l + 1, by omega, by go_num, ?_, HB5⟩
                                          rw [HS4.out, HCB.out]
                                          simp [hlt1, hm1, hgg, hwt, hK1, hO1]
                                        case measure => simp [intOf]; omega
                                  · have hlt1 : decide (r.nb < g.nb) = false := by simpa using hlt
                                    go_wp2_with (go_at_call 7; refine HTB.out.mono ?_; rintro e w5 ⟨rfl, hb5⟩; have HB5 := hid (HBG.out.trans (hb5.mono (by have h9 := HBG.out.size; rw [hsz3] at h9; exact h9))); obtain ⟨d0, d1, d2, d3, d4⟩ := HDD.out w5 HB5.out; obtain ⟨x0, x1, x2, x3, x4⟩ := HGG.out w5 hb5)
                                    go_roundw
                                    case rel =>
                                      refine ⟨l + 1, by omega, by go_num, ?_, HB5⟩
                                      rw [HS4.out, HCB.out]
                                      simp [hlt1, hwt, hK1, hO1]
                                    case measure => simp [intOf]; omega
                              · have hO1 : (g.ow % 4 == ow % 4) = false := by simpa using hO
                                have hO2 : (g.ow % 4 != ow % 4) = true := by simpa using hO
                                go_wp2_with fail
                                go_roundw
                                case rel =>
                                  refine ⟨l + 1, by omega, by go_num, ?_, HBG⟩
                                  rw [HS4.out, HCB.out]
                                  simp [hO1]
                                case measure => simp [intOf]; omega
                            · have hK1 : (g.ky % 4 == r.ky % 4) = false := by simpa using hK
                              have hK2 : (g.ky % 4 != r.ky % 4) = true := by simpa using hK
                              go_wp2_with fail
                              go_roundw
                              case rel =>
                                refine ⟨l + 1, by omega, by go_num, ?_, HBG⟩
                                rw [HS4.out, HCB.out]
                                simp [hK1]
                              case measure => simp [intOf]; omega
                          · have hlk' : k = l := by omega
                            subst hlk'
                            rw [HAN.out]
                            have HFB : Hid (Below wE.heap.size wE wr) := HBQ.out.trans (hBl.out.mono (by have := hBj.out.size; omega))
                            go_wp2_with fail
                            go_roundw
                            case rel =>
                              refine ⟨j + 1, by omega, by go_num, ?_, HFB⟩
                              rw [HS.out, HRB.out, hgr, hhd, hoo2]
                              simp
                            case measure => simp [intOf]; omega
                · have hjk' : k = j := by omega
                  subst hjk'
                  rw [HAN.out, HFIN.out]
                  clear HAN HFIN HAL HRO hjk hj
                  obtain ⟨wF, rfl⟩ : ∃ wF : World, wF = wr := ⟨_, rfl⟩
                  have HRZ := hid (HRY.out.below hBj.out)
                  have HBF := hid (HBE.out.trans (hBj.out.mono HBE.out.size))
                  have hpF := HRZ.out.man.cell11
                  go_wp2
                  have HTL : Hid (∀ j, j < k → ∃ rb, wF.cell? ⟨w1.heap.size, j, none⟩ = some (.pointer (some ⟨rb, 0, none⟩)) ∧ ReqAt wF rb (norm (R j))) := HRZ.out.tail R hlen.out hnorm.out
                  clear hpF HRZ HRY hmf hmk hko hlen hnorm hBj
                  go_loopw [228] (fun i wr => ∃ j : Nat, j ≤ k ∧ i = .int .i64 j ∧ Hid (Below wF.heap.size wF wr)) (fun i _ => k - (intOf i).toNat)
                  case atStart => exact ⟨0, Nat.zero_le _, rfl, Below.refl _ _⟩
                  case round =>
                    obtain ⟨j, hj, rfl, hBj⟩ := hrel
                    by_cases hjk : j < k
                    · obtain ⟨b, off, hra, hraw⟩ := HR.out (by omega)
                      subst hra
                      obtain ⟨hr, hok⟩ := hraw j hjk
                      have hbl : b < wF.heap.size := Nat.lt_of_lt_of_le (block_lt_of_cell hr.1) HBF.out.size
                      obtain ⟨c0, c1, c2, c3, c4⟩ := (hr.below HBF.out (block_lt_of_cell hr.1)).below hBj.out hbl
                      obtain ⟨⟨o1, o2⟩, ⟨o3, o4⟩, ⟨o5, o6⟩, o7, o8⟩ := hok
                      obtain ⟨rb, hrb, hrq⟩ := HTL.out j hjk
                      have hl1 : w1.heap.size < wr.heap.size := Nat.lt_of_lt_of_le (block_lt_of_cell hrb) hBj.out.size
                      have hl2 : rb < wr.heap.size := Nat.lt_of_lt_of_le (block_lt_of_cell hrq.1) hBj.out.size
                      have hbc : wr.cell? ⟨w1.heap.size, j, none⟩ = some (.pointer (some ⟨rb, 0, none⟩)) := by rw [hBj.out.cell (by exact block_lt_of_cell hrb)]; exact hrb
                      obtain ⟨q0, q1, q2, q3, q4⟩ := hrq.below hBj.out (block_lt_of_cell hrq.1)
                      simp only [norm] at q0 q1 q2 q3 q4
                      obtain ⟨r, hre⟩ : ∃ r, r = R j := ⟨_, rfl⟩
                      rw [← hre] at c0 c1 c2 c3 c4 o1 o2 o3 o4 o5 o6 o7 o8 q0 q1 q2 q3 q4
                      have HBN := hid (hBj.out.alloc hBj.out.size (.cells #[.int .u8 r.ow, .int .u8 r.ky, .int .u8 r.md, .int .u8 r.nb, .bool r.gr] 29))
                      clear hr hraw hre hrb hrq
                      go_wp2
                      go_quiet (fail)
                      go_wp2
                      go_roundw
                      case rel => exact ⟨j + 1, by omega, by go_num, below_drewN HBN.out _⟩
                      case measure => simp [intOf]; omega
                    · have hjk' : j = k := by omega
                      subst hjk'
                      go_wp2
                      go_ret
                      exact ⟨rfl, HBF.out.trans (hBj.out.mono HBF.out.size)⟩
end Go.Proofs.Ybulkhexw
