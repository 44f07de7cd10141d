/-
  THE WALK OF LawS8325BHexLines: an even number of digits, no carriage return.
-/
import Derived.Test.YbulkfpjsFmtLines
import Derived.Test.YbulkfpjsFmtWhole
import Derived.Deep.DeepAppendRoom
import Derived.Maps.AppendAt
import Derived.Deep.QuietTactic
import Derived.BigQuiet
namespace Go.Proofs.YbulkfpjsFmt
open Go.RowKit Go.Extern.Stop Go.Stop Go.Extern

set_option maxRecDepth 100000 in
set_option maxHeartbeats 2000000 in
theorem lines_false_even (F : Interp) (b o : Nat) (n c : Nat) (xs : List Int) (w : World) (ev : Value) (hF : F.answers w.tape) (hx : xs.length = n) (hbig : n ≤ 1048576)
    (hr : ∀ i, i < n → 0 ≤ xs.getD i 0 ∧ xs.getD i 0 < 256) (hin : Lib.BytesIn w (some ⟨b, o, none⟩) n xs) (hE : w.cell? ⟨0, 0, none⟩ = some ev) (hn : 0 < n) (ho : n % 2 = 0) :
    Calls Ybaf.prog 4 #[.slice (some ⟨b, o, none⟩) n c, .bool false] w fun e w' => e = .returned (.bool true) ∧ Below w.heap.size w w' := by
  have hn0 : ((n : Int) == 0) = false := by simp; omega
  have hq : ((n : Int) % 2 == 0) = true := by simp; omega
  have hb20 : ¬ (1048576 : Int) < (n : Int) := by omega
  have hee := fun w (a : Option Addr) (n c : Nat) => Lib.run_eql_slice_nil (P := Ybaf.prog) w 22 5 a n c 0 0 Ybaf.underlying22
  obtain ⟨i0, hi, hz0, hz1, hz2⟩ := info_parts info5
  have h0l : 0 < w.heap.size := block_lt_of_cell hE
  have HI0 := hid hi; have HZ0 := hid hz0; have HZ1 := hid hz1; have HZ2 := hid hz2
  have HX := hid hx; have HR := hid hr; have HI := hid hin; have HE := hid hE; have HF := hid hF; have HN := hid hn
  have m1 : Hid (i0.bytes * (n + 1) ≤ 281474976710656) := by show _ ≤ _; rw [hz2]; omega
  have m2 : Hid (i0.bytes * n ≤ 281474976710656) := by show _ ≤ _; rw [hz2]; omega
  have m3 : Hid (n + 1 ≤ maxLen) := by show _ ≤ _; unfold maxLen; omega
  have m4 : Hid (n ≤ maxLen) := by show _ ≤ _; unfold maxLen; omega
  clear hx hr hin hE hF hi hz0 hz1 hz2 hn
  go_enter Ybaf.func4, Ybaf.ntmps4
  go_wp2_with (first
    | (go_at_call 8; refine (digits_any _).mono ?_; rintro e w' ⟨rfl, rfl⟩)
    | (at_make; refine wpList_make_own _ rfl (.const (.int .i64 0)) (.tmp 20) 22 rfl w.heap.size 5 i0 (.int .u8 0) 1 Ybaf.underlying22 HI0.out HZ0.out HZ1.out .i64 .i64 _ (n + 1) rfl rfl (by simp) m1.out m3.out (Nat.le_refl _) ?_; intro w1 hl1 hg1)
    | (at_make; refine wpList_make_own _ rfl (.const (.int .i64 0)) (.tmp 23) 22 rfl w.heap.size 5 i0 (.int .u8 0) 1 Ybaf.underlying22 HI0.out HZ0.out HZ1.out .i64 .i64 _ n rfl rfl (by simp) m2.out m4.out hg1.size ?_; intro w2 hv2 hg2))
  have hlt12 : w.heap.size < w1.heap.size := (hl1.lt _ rfl).2
  have hne12 : (some w1.heap.size : Option Nat) ≠ some w.heap.size := by simp; omega
  have HL2 : Hid (w2.ownsRow w.heap.size 5 1 (.slice (some ⟨w.heap.size, 0, none⟩) 0 (n + 1)) 0 ((lineOf xs 0).map (Value.int .u8))) := by
    rw [lineOf_zero]; exact hl1.kept hg2 (Or.inr (by simp [Value.ownBlock]))
  have HV2 : Hid (w2.ownsRow w.heap.size 5 1 (.slice (some ⟨w1.heap.size, 0, none⟩) 0 n) 0 ((valsOf xs 0).map (Value.int .u8))) := by
    rw [valsOf_zero]; exact hv2
  have HB2 : Hid (Below w.heap.size w w2) := ((Below.refl _ _).grown hg1 (Nat.le_refl _) (fun k hk => by cases hk)).grown hg2 hg1.size (fun k hk => by cases hk)
  clear hl1 hg1 hv2 hg2 m1 m2 m3 m4
  go_loopw [6, 7, 8] (fun ln vl i wr => ∃ k : Nat, k ≤ n ∧ i = .int .i64 k ∧ ln = .slice (some ⟨w.heap.size, 0, none⟩) k (n + 1) ∧ vl = .slice (some ⟨w1.heap.size, 0, none⟩) k n ∧
      Hid (wr.ownsRow w.heap.size 5 1 (.slice (some ⟨w.heap.size, 0, none⟩) k (n + 1)) k ((lineOf xs k).map (Value.int .u8))) ∧
      Hid (wr.ownsRow w.heap.size 5 1 (.slice (some ⟨w1.heap.size, 0, none⟩) k n) k ((valsOf xs k).map (Value.int .u8))) ∧ Hid (Below w.heap.size w wr))
    (fun _ _ i _ => n - (intOf i).toNat)
  case atStart => exact ⟨0, Nat.zero_le _, rfl, rfl, rfl, HL2, HV2, HB2⟩
  case round =>
    obtain ⟨k, hk, rfl, rfl, rfl, hlo, hvo, hbw⟩ := hrel
    by_cases hlt : k < n
    · obtain ⟨x, hxk⟩ : ∃ x, x = xs.getD k 0 := ⟨_, rfl⟩
      have hcx : wr.cell? ⟨b, o + k, none⟩ = some (.int .u8 x) := by
        obtain ⟨b', o', e', hc'⟩ := HI.out (by omega)
        cases e'
        have hc0 := hc' k hlt
        rw [hbw.out.cell (by exact block_lt_of_cell hc0), hxk]
        exact hc0
      have hx0 : 0 ≤ x := by rw [hxk]; exact (HR.out k hlt).1
      have hx1 : x < 256 := by rw [hxk]; exact (HR.out k hlt).2
      have HLS : Hid (lineOf xs (k + 1) = lineOf xs k ++ [dig x]) := by rw [hxk]; exact lineOf_succ xs k (by rw [HX.out]; exact hlt)
      have HVS : Hid (valsOf xs (k + 1) = valsOf xs k ++ [dval x]) := by rw [hxk]; exact valsOf_succ xs k (by rw [HX.out]; exact hlt)
      clear hxk
      have hm0 : 0 ≤ x % 22 := by omega
      have hm1 : x % 22 < 22 := by omega
      have hmt : x % 22 < (tab.size : Int) := by rw [tab_size]; exact hm1
      have hidx : ∀ W, (Instr.index 9 (.string tab) (.int .i64 (x % 22))).run Ybaf.prog W = .ok (.int .u8 (dig x)) W := fun W => idx_tab x hm0 hm1 W
      by_cases h16 : 16 ≤ x % 22
      · go_wp2_with (first
          | (at_builtin; refine wpList_append_own_spare _ rfl (.tmp 37) (.tmp 41) 22 rfl w.heap.size 5 i0 1 Ybaf.underlying22 HI0.out HZ1.out w.heap.size k (n + 1) _ rfl (hlo.out.alloc _) ⟨wr.heap.size, 0, none⟩ 1 1 [.int .u8 (dig x)] rfl rfl (cell_one_new _ _ _) (ints_oneCell .u8 [dig x]) (by omega) ?_; intro w3 hl3 hg3)
          | (at_builtin; refine wpList_append_own_spare _ rfl (.tmp 48) (.tmp 51) 22 rfl w.heap.size 5 i0 1 Ybaf.underlying22 HI0.out HZ1.out w1.heap.size k n _ rfl (((hvo.out.alloc _).kept hg3 (Or.inr hne12)).alloc _) ⟨w3.heap.size, 0, none⟩ 1 1 [.int .u8 (x % 22 - 6)] rfl rfl (cell_one_new _ _ _) (ints_oneCell .u8 [x % 22 - 6]) (by omega) ?_; intro w4 hv4 hg4))
        go_roundw
        case rel =>
          refine ⟨k + 1, by omega, by go_num, rfl, rfl, ?_, ?_, ?_⟩
          · show World.ownsRow _ _ _ _ _ _ _
            rw [HLS.out, List.map_append]
            exact (hl3.alloc _).kept hg4 (Or.inr (Ne.symm hne12))
          · show World.ownsRow _ _ _ _ _ _ _
            rw [HVS.out, List.map_append, dval_hi h16]
            exact hv4
          · exact ((((hbw.out.alloc hbw.out.size _).grown hg3 (by have := hbw.out.size; simp; omega) (fun q hq => by cases hq; exact Nat.le_refl _)).alloc (by have := hbw.out.size; have := hg3.size; simp at this; omega) _).grown hg4 (by have := hbw.out.size; have := hg3.size; simp at this ⊢; omega) (fun q hq => by cases hq; exact Nat.le_of_lt hlt12))
        case measure => simp [intOf]; omega
      · go_wp2_with (first
          | (at_builtin; refine wpList_append_own_spare _ rfl (.tmp 37) (.tmp 41) 22 rfl w.heap.size 5 i0 1 Ybaf.underlying22 HI0.out HZ1.out w.heap.size k (n + 1) _ rfl (hlo.out.alloc _) ⟨wr.heap.size, 0, none⟩ 1 1 [.int .u8 (dig x)] rfl rfl (cell_one_new _ _ _) (ints_oneCell .u8 [dig x]) (by omega) ?_; intro w3 hl3 hg3)
          | (at_builtin; refine wpList_append_own_spare _ rfl (.tmp 48) (.tmp 51) 22 rfl w.heap.size 5 i0 1 Ybaf.underlying22 HI0.out HZ1.out w1.heap.size k n _ rfl (((hvo.out.alloc _).kept hg3 (Or.inr hne12)).alloc _) ⟨w3.heap.size, 0, none⟩ 1 1 [.int .u8 (x % 22)] rfl rfl (cell_one_new _ _ _) (ints_oneCell .u8 [x % 22]) (by omega) ?_; intro w4 hv4 hg4))
        go_roundw
        case rel =>
          refine ⟨k + 1, by omega, by go_num, rfl, rfl, ?_, ?_, ?_⟩
          · show World.ownsRow _ _ _ _ _ _ _
            rw [HLS.out, List.map_append]
            exact (hl3.alloc _).kept hg4 (Or.inr (Ne.symm hne12))
          · show World.ownsRow _ _ _ _ _ _ _
            rw [HVS.out, List.map_append, dval_lo h16]
            exact hv4
          · exact ((((hbw.out.alloc hbw.out.size _).grown hg3 (by have := hbw.out.size; simp; omega) (fun q hq => by cases hq; exact Nat.le_refl _)).alloc (by have := hbw.out.size; have := hg3.size; simp at this; omega) _).grown hg4 (by have := hbw.out.size; have := hg3.size; simp at this ⊢; omega) (fun q hq => by cases hq; exact Nat.le_of_lt hlt12))
        case measure => simp [intOf]; omega
    · obtain rfl : k = n := by omega
      have HBr := hbw.out
      have HEr : Hid (wr.cell? ⟨0, 0, none⟩ = some ev) := (HBr.cell (by exact h0l)).trans HE.out
      have HFr : Hid (F.answers wr.tape) := by show F.answers wr.tape; rw [HBr.tape]; exact HF.out
      have hszr := HBr.size
      have HIr : Hid (Lib.BytesIn wr (some ⟨w.heap.size, 0, none⟩) k (lineOf xs k)) := own_in hlo.out (lineOf_length xs k (by rw [HX.out]; exact Nat.le_refl _))
      have H3 := hid HBr
      clear HBr
      go_wp2_with fail
      refine (dec_any F (some ⟨w.heap.size, 0, none⟩) k (k + 1) (lineOf xs k) wr ev HFr.out (lineOf_length xs k (by rw [HX.out]; exact Nat.le_refl _)) (by omega) (line_range xs k (by rw [HX.out]; exact Nat.le_refl _)) HIr.out HEr.out).mono ?_
      rintro e w5 (⟨hgd, rfl, hb5, f, hrow, hf⟩ | ⟨hgd, a, rfl, hb5⟩)
      · obtain ⟨wo, rfl⟩ : ∃ wo : World, wo = wr := ⟨_, rfl⟩
        obtain ⟨m, hm⟩ : ∃ m, k / 2 = m := ⟨_, rfl⟩
        rw [hm] at hrow hf ⊢
        have hdiv : (k : Int) / 2 = (m : Int) := by omega
        have hmk : 2 * m = k := by omega
        have hlw : w1.heap.size < wo.heap.size := (hvo.out.lt _ rfl).2
        have hlw5 : wo.heap.size < w5.heap.size := hrow.lt
        have HB5 := hid hb5
        have HRW := hid hrow
        have HFF := hid hf
        have HMK := hid hmk
        clear hb5 hgd hm hrow hf hmk
        go_wp2
        go_loopw [13] (fun i wr => ∃ j : Nat, j ≤ m ∧ i = .int .i64 j ∧ Hid (Below w5.heap.size w5 wr)) (fun i _ => m - (intOf i).toNat)
        case atStart => exact ⟨0, Nat.zero_le _, rfl, Below.refl _ _⟩
        case round =>
          obtain ⟨j, hj, rfl, hbq⟩ := hrel
          by_cases hjm : j < m
          · have hj2 : 2 * j + 1 < k := by have := HMK.out; omega
            obtain ⟨x, hxk⟩ : ∃ x, x = dval (xs.getD (2 * j) 0) := ⟨_, rfl⟩
            obtain ⟨y, hyk⟩ : ∃ y, y = dval (xs.getD (2 * j + 1) 0) := ⟨_, rfl⟩
            have hcx : wr.cell? ⟨w1.heap.size, 2 * j, none⟩ = some (.int .u8 x) := by
              rw [hbq.out.cell (by exact Nat.lt_trans hlw hlw5), HB5.out.cell (by exact hlw), hxk]
              exact vals_cell hvo.out HX.out (by omega)
            have hcy : wr.cell? ⟨w1.heap.size, 2 * j + 1, none⟩ = some (.int .u8 y) := by
              rw [hbq.out.cell (by exact Nat.lt_trans hlw hlw5), HB5.out.cell (by exact hlw), hyk]
              exact vals_cell hvo.out HX.out hj2
            have hcg : wr.cell? ⟨wo.heap.size, j, none⟩ = some (.int .u8 (x * 16 + y)) := by
              rw [hbq.out.cell (by exact hlw5), HRW.out.cell hjm, HFF.out j hjm, lineOf_get xs k _ (by omega) (by rw [HX.out]; exact Nat.le_refl _), lineOf_get xs k _ (by omega) (by rw [HX.out]; exact Nat.le_refl _), (dig_facts _).2.1, (dig_facts _).2.1, hxk, hyk]
            have bx := dval_bounds (xs.getD (2 * j) 0)
            have bY := dval_bounds (xs.getD (2 * j + 1) 0)
            rw [← hxk] at bx
            rw [← hyk] at bY
            obtain ⟨bx0, bx1⟩ := bx
            obtain ⟨by0, by1⟩ := bY
            clear hxk hyk
            have hjj : (0 : Int) ≤ (j : Int) := by omega
            have hjl : (j : Int) < (m : Int) := by omega
            have hj20 : (0 : Int) ≤ 2 * (j : Int) := by omega
            have hj21 : 2 * (j : Int) < (k : Int) := by omega
            have hj22 : 2 * (j : Int) + 1 < (k : Int) := by omega
            go_wp2
            go_quiet (fail)
            go_wp2
            go_roundw
            case rel => exact ⟨j + 1, by omega, by go_num, below_drewN hbq.out _⟩
            case measure => simp [intOf]; omega
          · go_wp2
            go_ret
            exact ⟨rfl, H3.out.trans ((HB5.out.trans (hbq.out.mono (Nat.le_of_lt hlw5))).mono H3.out.size)⟩
      · rw [good_line] at hgd
        simp at hgd
        have := HN.out
        omega


end Go.Proofs.YbulkfpjsFmt
