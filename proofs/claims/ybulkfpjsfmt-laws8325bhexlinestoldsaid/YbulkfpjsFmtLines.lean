/-
  THE WALK OF LawS8325BHexLines.
-/
import Derived.Test.YbulkfpjsFmtDigits
import Derived.Test.YbulkfpjsFmtWhole
import Derived.Deep.DeepAppendRoom
import Derived.Maps.AppendAt
import Derived.Deep.QuietTactic
import Derived.BigQuiet
namespace Go.Proofs.YbulkfpjsFmt
open Go.RowKit Go.Extern.Stop Go.Stop Go.Extern

theorem idx_tab (x : Int) (h0 : 0 ≤ x % 22) (_h1 : x % 22 < 22) (w : World) : (Instr.index 9 (.string tab) (.int .i64 (x % 22))).run Ybaf.prog w = .ok (.int .u8 (dig x)) w := by
  have hs : (x % 22).toNat < tab.size := by rw [tab_size]; omega
  rw [← tab_at x hs]
  simp [Instr.index, go_sem, h0, hs]
theorem dval_hi {x : Int} (h : 16 ≤ x % 22) : dval x = x % 22 - 6 := by rw [dval, if_pos h]
theorem dval_lo {x : Int} (h : ¬ 16 ≤ x % 22) : dval x = x % 22 := by rw [dval, if_neg h]
theorem line_range (xs : List Int) (n : Nat) (h : n ≤ xs.length) : ∀ i, i < n → 0 ≤ (lineOf xs n).getD i 0 ∧ (lineOf xs n).getD i 0 < 256 := by
  intro i hi
  rw [lineOf_get xs n i hi h]
  exact ⟨(dig_facts _).2.2.1, (dig_facts _).2.2.2⟩
theorem line_cr_range (xs : List Int) (n : Nat) (h : n ≤ xs.length) : ∀ i, i < n + 1 → 0 ≤ (lineOf xs n ++ [13]).getD i 0 ∧ (lineOf xs n ++ [13]).getD i 0 < 256 := by
  intro i hi
  by_cases hin : i < n
  · have e : (lineOf xs n ++ [13]).getD i 0 = (lineOf xs n).getD i 0 := by
      rw [List.getD_eq_getElem?_getD, List.getD_eq_getElem?_getD, List.getElem?_append_left (by rw [lineOf_length xs n h]; exact hin)]
    rw [e]
    exact line_range xs n h i hin
  · obtain rfl : i = n := by omega
    have e : (lineOf xs i ++ [13]).getD i 0 = 13 := by
      rw [List.getD_eq_getElem?_getD, List.getElem?_append_right (by rw [lineOf_length xs i h]; exact Nat.le_refl _), lineOf_length xs i h, Nat.sub_self]
      rfl
    rw [e]
    omega
theorem vals_cell {w : World} {base g k n : Nat} {xs : List Int} (h : w.ownsRow base 5 1 (.slice (some ⟨g, 0, none⟩) k n) k ((valsOf xs k).map (Value.int .u8))) (hx : xs.length = k) {i : Nat} (hi : i < k) : w.cell? ⟨g, i, none⟩ = some (.int .u8 (dval (xs.getD i 0))) := by
  have hl := valsOf_length xs k (by omega)
  have := h.cells (g := g) rfl i (.int .u8 ((valsOf xs k).getD i 0)) (by simp [hl, hi])
  have hadd : (⟨g, 0, none⟩ : Addr).add i = ⟨g, i, none⟩ := by unfold Addr.add; split <;> simp_all
  rw [hadd, valsOf_get xs k i hi (by omega)] at this
  exact this
/-- A row that is owned, as a slice of bytes. -/
theorem own_in {w : World} {base g n cap : Nat} {xs : List Int} (h : w.ownsRow base 5 1 (.slice (some ⟨g, 0, none⟩) n cap) n (xs.map (Value.int .u8))) (hx : xs.length = n) : Lib.BytesIn w (some ⟨g, 0, none⟩) n xs := by
  intro _
  refine ⟨g, 0, rfl, fun i hi => ?_⟩
  have hi' : i < xs.length := by omega
  have := h.cells (g := g) rfl i (.int .u8 (xs.getD i 0)) (by simp [hi'])
  have hadd : (⟨g, 0, none⟩ : Addr).add i = ⟨g, 0 + i, none⟩ := by unfold Addr.add; split <;> simp_all
  rw [← hadd]
  exact this

set_option maxRecDepth 100000 in
set_option maxHeartbeats 2000000 in
theorem lines_true_zero (F : Interp) (p : Option Addr) (n c : Nat) (xs : List Int) (w : World) (ev : Value) (hF : F.answers w.tape) (hx : xs.length = n) (hbig : n ≤ 1048576)
    (hr : ∀ i, i < n → 0 ≤ xs.getD i 0 ∧ xs.getD i 0 < 256) (hin : Lib.BytesIn w p n xs) (hE : w.cell? ⟨0, 0, none⟩ = some ev) (hn : n = 0) :
    Calls Ybaf.prog 4 #[.slice p n c, .bool true] w fun e w' => e = .returned (.bool true) ∧ Below w.heap.size w w' := by
  have hb20 : ¬ (1048576 : Int) < (n : Int) := by omega
  have hee := fun w (a : Option Addr) (n c : Nat) => Lib.run_eql_slice_nil (P := Ybaf.prog) w 22 5 a n c 0 0 Ybaf.underlying22
  obtain ⟨i0, hi, hz0, hz1, hz2⟩ := info_parts info5
  have h0l : 0 < w.heap.size := block_lt_of_cell hE
  have HI0 := hid hi; have HZ0 := hid hz0; have HZ1 := hid hz1; have HZ2 := hid hz2
  have HX := hid hx; have HR := hid hr; have HI := hid hin; have HE := hid hE; have HF := hid hF; have HN := hid hn
  have m1 : Hid (i0.bytes * (n + 1) ≤ 281474976710656) := by show _ ≤ _; rw [hz2]; omega
  have m2 : Hid (i0.bytes * n ≤ 281474976710656) := by show _ ≤ _; rw [hz2]; omega
  have m3 : Hid (n + 1 ≤ maxLen) := by show _ ≤ _; unfold maxLen; omega
  have m4 : Hid (n ≤ maxLen) := by show _ ≤ _; unfold maxLen; omega
  clear hx hr hin hE hF hi hz0 hz1 hz2 hn
  go_enter Ybaf.func4, Ybaf.ntmps4
  go_wp2_with (first
    | (go_at_call 8; refine (digits_any _).mono ?_; rintro e w' ⟨rfl, rfl⟩)
    | (at_make; refine wpList_make_own _ rfl (.const (.int .i64 0)) (.tmp 20) 22 rfl w.heap.size 5 i0 (.int .u8 0) 1 Ybaf.underlying22 HI0.out HZ0.out HZ1.out .i64 .i64 _ (n + 1) rfl rfl (by simp) m1.out m3.out (Nat.le_refl _) ?_; intro w1 hl1 hg1)
    | (at_make; refine wpList_make_own _ rfl (.const (.int .i64 0)) (.tmp 23) 22 rfl w.heap.size 5 i0 (.int .u8 0) 1 Ybaf.underlying22 HI0.out HZ0.out HZ1.out .i64 .i64 _ n rfl rfl (by simp) m2.out m4.out hg1.size ?_; intro w2 hv2 hg2))
  have hlt12 : w.heap.size < w1.heap.size := (hl1.lt _ rfl).2
  have hne12 : (some w1.heap.size : Option Nat) ≠ some w.heap.size := by simp; omega
  have HL2 : Hid (w2.ownsRow w.heap.size 5 1 (.slice (some ⟨w.heap.size, 0, none⟩) 0 (n + 1)) 0 ((lineOf xs 0).map (Value.int .u8))) := by
    rw [lineOf_zero]; exact hl1.kept hg2 (Or.inr (by simp [Value.ownBlock]))
  have HV2 : Hid (w2.ownsRow w.heap.size 5 1 (.slice (some ⟨w1.heap.size, 0, none⟩) 0 n) 0 ((valsOf xs 0).map (Value.int .u8))) := by
    rw [valsOf_zero]; exact hv2
  have HB2 : Hid (Below w.heap.size w w2) := ((Below.refl _ _).grown hg1 (Nat.le_refl _) (fun k hk => by cases hk)).grown hg2 hg1.size (fun k hk => by cases hk)
  clear hl1 hg1 hv2 hg2 m1 m2 m3 m4
  go_loopw [6, 7, 8] (fun ln vl i wr => ∃ k : Nat, k ≤ n ∧ i = .int .i64 k ∧ ln = .slice (some ⟨w.heap.size, 0, none⟩) k (n + 1) ∧ vl = .slice (some ⟨w1.heap.size, 0, none⟩) k n ∧
      Hid (wr.ownsRow w.heap.size 5 1 (.slice (some ⟨w.heap.size, 0, none⟩) k (n + 1)) k ((lineOf xs k).map (Value.int .u8))) ∧
      Hid (wr.ownsRow w.heap.size 5 1 (.slice (some ⟨w1.heap.size, 0, none⟩) k n) k ((valsOf xs k).map (Value.int .u8))) ∧ Hid (Below w.heap.size w wr))
    (fun _ _ i _ => n - (intOf i).toNat)
  case atStart => exact ⟨0, Nat.zero_le _, rfl, rfl, rfl, HL2, HV2, HB2⟩
  case round =>
    obtain ⟨k, hk, rfl, rfl, rfl, hlo, hvo, hbw⟩ := hrel
    by_cases hlt : k < n
    · exact absurd hlt (by rw [HN.out]; exact Nat.not_lt_zero _)
    · obtain rfl : k = n := by omega
      have HBr := hbw.out
      have HEr : Hid (wr.cell? ⟨0, 0, none⟩ = some ev) := (HBr.cell (by exact h0l)).trans HE.out
      have HFr : Hid (F.answers wr.tape) := by show F.answers wr.tape; rw [HBr.tape]; exact HF.out
      have hszr := HBr.size
      go_wp2_with (at_builtin; refine wpList_append_own_spare _ rfl (.tmp 54) (.tmp 55) 22 rfl w.heap.size 5 i0 1 Ybaf.underlying22 HI0.out HZ1.out w.heap.size k (k + 1) _ rfl (hlo.out.alloc _) ⟨wr.heap.size, 0, none⟩ 1 1 [.int .u8 13] rfl rfl (cell_one_new _ _ _) (ints_oneCell .u8 [13]) (by omega) ?_; intro w3 hl3 hg3)
      have HB3 : Below w.heap.size w w3 := (hbw.out.alloc hbw.out.size _).grown hg3 (by have := hbw.out.size; simp; omega) (fun q hq => by cases hq; exact Nat.le_refl _)
      have HI3 : Hid (Lib.BytesIn w3 (some ⟨w.heap.size, 0, none⟩) (k + 1) (lineOf xs k ++ [13])) := own_in (cap := k + 1) (base := w.heap.size) (by rw [List.map_append]; exact hl3) (by rw [List.length_append, lineOf_length xs k (by rw [HX.out]; exact Nat.le_refl _)]; rfl)
      have HE3 : Hid (w3.cell? ⟨0, 0, none⟩ = some ev) := (HB3.cell (by exact h0l)).trans HE.out
      have HF3 : Hid (F.answers w3.tape) := by show F.answers w3.tape; rw [HB3.tape]; exact HF.out
      have H3 := hid HB3
      clear hl3 hg3 HB3 HBr
      go_wp2_with fail
      refine (dec_any F (some ⟨w.heap.size, 0, none⟩) (k + 1) (k + 1) (lineOf xs k ++ [13]) w3 ev HF3.out (by rw [List.length_append, lineOf_length xs k (by rw [HX.out]; exact Nat.le_refl _)]; rfl) (by omega) (line_cr_range xs k (by rw [HX.out]; exact Nat.le_refl _)) HI3.out HE3.out).mono ?_
      rintro e w5 (⟨hgd, rfl, hb5, f, hrow, hf⟩ | ⟨hgd, a, rfl, hb5⟩)
      · rw [good_cr xs k HX.out] at hgd
        cases hgd
      · have HB5 := hid hb5
        clear hb5 hgd
        go_wp2
        go_ret
        exact ⟨rfl, H3.out.trans (HB5.out.mono H3.out.size)⟩


set_option maxRecDepth 100000 in
set_option maxHeartbeats 2000000 in
theorem lines_true_pos (F : Interp) (b o : Nat) (n c : Nat) (xs : List Int) (w : World) (ev : Value) (hF : F.answers w.tape) (hx : xs.length = n) (hbig : n ≤ 1048576)
    (hr : ∀ i, i < n → 0 ≤ xs.getD i 0 ∧ xs.getD i 0 < 256) (hin : Lib.BytesIn w (some ⟨b, o, none⟩) n xs) (hE : w.cell? ⟨0, 0, none⟩ = some ev) (hn : 0 < n) :
    Calls Ybaf.prog 4 #[.slice (some ⟨b, o, none⟩) n c, .bool true] w fun e w' => e = .returned (.bool true) ∧ Below w.heap.size w w' := by
  have hb20 : ¬ (1048576 : Int) < (n : Int) := by omega
  have hee := fun w (a : Option Addr) (n c : Nat) => Lib.run_eql_slice_nil (P := Ybaf.prog) w 22 5 a n c 0 0 Ybaf.underlying22
  obtain ⟨i0, hi, hz0, hz1, hz2⟩ := info_parts info5
  have h0l : 0 < w.heap.size := block_lt_of_cell hE
  have HI0 := hid hi; have HZ0 := hid hz0; have HZ1 := hid hz1; have HZ2 := hid hz2
  have HX := hid hx; have HR := hid hr; have HI := hid hin; have HE := hid hE; have HF := hid hF; have HN := hid hn
  have m1 : Hid (i0.bytes * (n + 1) ≤ 281474976710656) := by show _ ≤ _; rw [hz2]; omega
  have m2 : Hid (i0.bytes * n ≤ 281474976710656) := by show _ ≤ _; rw [hz2]; omega
  have m3 : Hid (n + 1 ≤ maxLen) := by show _ ≤ _; unfold maxLen; omega
  have m4 : Hid (n ≤ maxLen) := by show _ ≤ _; unfold maxLen; omega
  clear hx hr hin hE hF hi hz0 hz1 hz2 hn
  go_enter Ybaf.func4, Ybaf.ntmps4
  go_wp2_with (first
    | (go_at_call 8; refine (digits_any _).mono ?_; rintro e w' ⟨rfl, rfl⟩)
    | (at_make; refine wpList_make_own _ rfl (.const (.int .i64 0)) (.tmp 20) 22 rfl w.heap.size 5 i0 (.int .u8 0) 1 Ybaf.underlying22 HI0.out HZ0.out HZ1.out .i64 .i64 _ (n + 1) rfl rfl (by simp) m1.out m3.out (Nat.le_refl _) ?_; intro w1 hl1 hg1)
    | (at_make; refine wpList_make_own _ rfl (.const (.int .i64 0)) (.tmp 23) 22 rfl w.heap.size 5 i0 (.int .u8 0) 1 Ybaf.underlying22 HI0.out HZ0.out HZ1.out .i64 .i64 _ n rfl rfl (by simp) m2.out m4.out hg1.size ?_; intro w2 hv2 hg2))
  have hlt12 : w.heap.size < w1.heap.size := (hl1.lt _ rfl).2
  have hne12 : (some w1.heap.size : Option Nat) ≠ some w.heap.size := by simp; omega
  have HL2 : Hid (w2.ownsRow w.heap.size 5 1 (.slice (some ⟨w.heap.size, 0, none⟩) 0 (n + 1)) 0 ((lineOf xs 0).map (Value.int .u8))) := by
    rw [lineOf_zero]; exact hl1.kept hg2 (Or.inr (by simp [Value.ownBlock]))
  have HV2 : Hid (w2.ownsRow w.heap.size 5 1 (.slice (some ⟨w1.heap.size, 0, none⟩) 0 n) 0 ((valsOf xs 0).map (Value.int .u8))) := by
    rw [valsOf_zero]; exact hv2
  have HB2 : Hid (Below w.heap.size w w2) := ((Below.refl _ _).grown hg1 (Nat.le_refl _) (fun k hk => by cases hk)).grown hg2 hg1.size (fun k hk => by cases hk)
  clear hl1 hg1 hv2 hg2 m1 m2 m3 m4
  go_loopw [6, 7, 8] (fun ln vl i wr => ∃ k : Nat, k ≤ n ∧ i = .int .i64 k ∧ ln = .slice (some ⟨w.heap.size, 0, none⟩) k (n + 1) ∧ vl = .slice (some ⟨w1.heap.size, 0, none⟩) k n ∧
      Hid (wr.ownsRow w.heap.size 5 1 (.slice (some ⟨w.heap.size, 0, none⟩) k (n + 1)) k ((lineOf xs k).map (Value.int .u8))) ∧
      Hid (wr.ownsRow w.heap.size 5 1 (.slice (some ⟨w1.heap.size, 0, none⟩) k n) k ((valsOf xs k).map (Value.int .u8))) ∧ Hid (Below w.heap.size w wr))
    (fun _ _ i _ => n - (intOf i).toNat)
  case atStart => exact ⟨0, Nat.zero_le _, rfl, rfl, rfl, HL2, HV2, HB2⟩
  case round =>
    obtain ⟨k, hk, rfl, rfl, rfl, hlo, hvo, hbw⟩ := hrel
    by_cases hlt : k < n
    · obtain ⟨x, hxk⟩ : ∃ x, x = xs.getD k 0 := ⟨_, rfl⟩
      have hcx : wr.cell? ⟨b, o + k, none⟩ = some (.int .u8 x) := by
        obtain ⟨b', o', e', hc'⟩ := HI.out (by omega)
        cases e'
        have hc0 := hc' k hlt
        rw [hbw.out.cell (by exact block_lt_of_cell hc0), hxk]
        exact hc0
      have hx0 : 0 ≤ x := by rw [hxk]; exact (HR.out k hlt).1
      have hx1 : x < 256 := by rw [hxk]; exact (HR.out k hlt).2
      have HLS : Hid (lineOf xs (k + 1) = lineOf xs k ++ [dig x]) := by rw [hxk]; exact lineOf_succ xs k (by rw [HX.out]; exact hlt)
      have HVS : Hid (valsOf xs (k + 1) = valsOf xs k ++ [dval x]) := by rw [hxk]; exact valsOf_succ xs k (by rw [HX.out]; exact hlt)
      clear hxk
      have hm0 : 0 ≤ x % 22 := by omega
      have hm1 : x % 22 < 22 := by omega
      have hmt : x % 22 < (tab.size : Int) := by rw [tab_size]; exact hm1
      have hidx : ∀ W, (Instr.index 9 (.string tab) (.int .i64 (x % 22))).run Ybaf.prog W = .ok (.int .u8 (dig x)) W := fun W => idx_tab x hm0 hm1 W
      by_cases h16 : 16 ≤ x % 22
      · go_wp2_with (first
          | (at_builtin; refine wpList_append_own_spare _ rfl (.tmp 37) (.tmp 41) 22 rfl w.heap.size 5 i0 1 Ybaf.underlying22 HI0.out HZ1.out w.heap.size k (n + 1) _ rfl (hlo.out.alloc _) ⟨wr.heap.size, 0, none⟩ 1 1 [.int .u8 (dig x)] rfl rfl (cell_one_new _ _ _) (ints_oneCell .u8 [dig x]) (by omega) ?_; intro w3 hl3 hg3)
          | (at_builtin; refine wpList_append_own_spare _ rfl (.tmp 48) (.tmp 51) 22 rfl w.heap.size 5 i0 1 Ybaf.underlying22 HI0.out HZ1.out w1.heap.size k n _ rfl (((hvo.out.alloc _).kept hg3 (Or.inr hne12)).alloc _) ⟨w3.heap.size, 0, none⟩ 1 1 [.int .u8 (x % 22 - 6)] rfl rfl (cell_one_new _ _ _) (ints_oneCell .u8 [x % 22 - 6]) (by omega) ?_; intro w4 hv4 hg4))
        go_roundw
        case rel =>
          refine ⟨k + 1, by omega, by go_num, rfl, rfl, ?_, ?_, ?_⟩
          · show World.ownsRow _ _ _ _ _ _ _
            rw [HLS.out, List.map_append]
            exact (hl3.alloc _).kept hg4 (Or.inr (Ne.symm hne12))
          · show World.ownsRow _ _ _ _ _ _ _
            rw [HVS.out, List.map_append, dval_hi h16]
            exact hv4
          · exact ((((hbw.out.alloc hbw.out.size _).grown hg3 (by have := hbw.out.size; simp; omega) (fun q hq => by cases hq; exact Nat.le_refl _)).alloc (by have := hbw.out.size; have := hg3.size; simp at this; omega) _).grown hg4 (by have := hbw.out.size; have := hg3.size; simp at this ⊢; omega) (fun q hq => by cases hq; exact Nat.le_of_lt hlt12))
        case measure => simp [intOf]; omega
      · go_wp2_with (first
          | (at_builtin; refine wpList_append_own_spare _ rfl (.tmp 37) (.tmp 41) 22 rfl w.heap.size 5 i0 1 Ybaf.underlying22 HI0.out HZ1.out w.heap.size k (n + 1) _ rfl (hlo.out.alloc _) ⟨wr.heap.size, 0, none⟩ 1 1 [.int .u8 (dig x)] rfl rfl (cell_one_new _ _ _) (ints_oneCell .u8 [dig x]) (by omega) ?_; intro w3 hl3 hg3)
          | (at_builtin; refine wpList_append_own_spare _ rfl (.tmp 48) (.tmp 51) 22 rfl w.heap.size 5 i0 1 Ybaf.underlying22 HI0.out HZ1.out w1.heap.size k n _ rfl (((hvo.out.alloc _).kept hg3 (Or.inr hne12)).alloc _) ⟨w3.heap.size, 0, none⟩ 1 1 [.int .u8 (x % 22)] rfl rfl (cell_one_new _ _ _) (ints_oneCell .u8 [x % 22]) (by omega) ?_; intro w4 hv4 hg4))
        go_roundw
        case rel =>
          refine ⟨k + 1, by omega, by go_num, rfl, rfl, ?_, ?_, ?_⟩
          · show World.ownsRow _ _ _ _ _ _ _
            rw [HLS.out, List.map_append]
            exact (hl3.alloc _).kept hg4 (Or.inr (Ne.symm hne12))
          · show World.ownsRow _ _ _ _ _ _ _
            rw [HVS.out, List.map_append, dval_lo h16]
            exact hv4
          · exact ((((hbw.out.alloc hbw.out.size _).grown hg3 (by have := hbw.out.size; simp; omega) (fun q hq => by cases hq; exact Nat.le_refl _)).alloc (by have := hbw.out.size; have := hg3.size; simp at this; omega) _).grown hg4 (by have := hbw.out.size; have := hg3.size; simp at this ⊢; omega) (fun q hq => by cases hq; exact Nat.le_of_lt hlt12))
        case measure => simp [intOf]; omega
    · obtain rfl : k = n := by omega
      have HBr := hbw.out
      have HEr : Hid (wr.cell? ⟨0, 0, none⟩ = some ev) := (HBr.cell (by exact h0l)).trans HE.out
      have HFr : Hid (F.answers wr.tape) := by show F.answers wr.tape; rw [HBr.tape]; exact HF.out
      have hszr := HBr.size
      go_wp2_with (at_builtin; refine wpList_append_own_spare _ rfl (.tmp 54) (.tmp 55) 22 rfl w.heap.size 5 i0 1 Ybaf.underlying22 HI0.out HZ1.out w.heap.size k (k + 1) _ rfl (hlo.out.alloc _) ⟨wr.heap.size, 0, none⟩ 1 1 [.int .u8 13] rfl rfl (cell_one_new _ _ _) (ints_oneCell .u8 [13]) (by omega) ?_; intro w3 hl3 hg3)
      have HB3 : Below w.heap.size w w3 := (hbw.out.alloc hbw.out.size _).grown hg3 (by have := hbw.out.size; simp; omega) (fun q hq => by cases hq; exact Nat.le_refl _)
      have HI3 : Hid (Lib.BytesIn w3 (some ⟨w.heap.size, 0, none⟩) (k + 1) (lineOf xs k ++ [13])) := own_in (cap := k + 1) (base := w.heap.size) (by rw [List.map_append]; exact hl3) (by rw [List.length_append, lineOf_length xs k (by rw [HX.out]; exact Nat.le_refl _)]; rfl)
      have HE3 : Hid (w3.cell? ⟨0, 0, none⟩ = some ev) := (HB3.cell (by exact h0l)).trans HE.out
      have HF3 : Hid (F.answers w3.tape) := by show F.answers w3.tape; rw [HB3.tape]; exact HF.out
      have H3 := hid HB3
      clear hl3 hg3 HB3 HBr
      go_wp2_with fail
      refine (dec_any F (some ⟨w.heap.size, 0, none⟩) (k + 1) (k + 1) (lineOf xs k ++ [13]) w3 ev HF3.out (by rw [List.length_append, lineOf_length xs k (by rw [HX.out]; exact Nat.le_refl _)]; rfl) (by omega) (line_cr_range xs k (by rw [HX.out]; exact Nat.le_refl _)) HI3.out HE3.out).mono ?_
      rintro e w5 (⟨hgd, rfl, hb5, f, hrow, hf⟩ | ⟨hgd, a, rfl, hb5⟩)
      · rw [good_cr xs k HX.out] at hgd
        cases hgd
      · have HB5 := hid hb5
        clear hb5 hgd
        go_wp2
        go_ret
        exact ⟨rfl, H3.out.trans (HB5.out.mono H3.out.size)⟩


set_option maxRecDepth 100000 in
set_option maxHeartbeats 2000000 in
theorem lines_false_zero (F : Interp) (p : Option Addr) (n c : Nat) (xs : List Int) (w : World) (ev : Value) (hF : F.answers w.tape) (hx : xs.length = n) (hbig : n ≤ 1048576)
    (hr : ∀ i, i < n → 0 ≤ xs.getD i 0 ∧ xs.getD i 0 < 256) (hin : Lib.BytesIn w p n xs) (hE : w.cell? ⟨0, 0, none⟩ = some ev) (hn : n = 0) :
    Calls Ybaf.prog 4 #[.slice p n c, .bool false] w fun e w' => e = .returned (.bool true) ∧ Below w.heap.size w w' := by
  have hn0 : ((n : Int) == 0) = true := by simp [hn]
  have hb20 : ¬ (1048576 : Int) < (n : Int) := by omega
  have hee := fun w (a : Option Addr) (n c : Nat) => Lib.run_eql_slice_nil (P := Ybaf.prog) w 22 5 a n c 0 0 Ybaf.underlying22
  obtain ⟨i0, hi, hz0, hz1, hz2⟩ := info_parts info5
  have h0l : 0 < w.heap.size := block_lt_of_cell hE
  have HI0 := hid hi; have HZ0 := hid hz0; have HZ1 := hid hz1; have HZ2 := hid hz2
  have HX := hid hx; have HR := hid hr; have HI := hid hin; have HE := hid hE; have HF := hid hF; have HN := hid hn
  have m1 : Hid (i0.bytes * (n + 1) ≤ 281474976710656) := by show _ ≤ _; rw [hz2]; omega
  have m2 : Hid (i0.bytes * n ≤ 281474976710656) := by show _ ≤ _; rw [hz2]; omega
  have m3 : Hid (n + 1 ≤ maxLen) := by show _ ≤ _; unfold maxLen; omega
  have m4 : Hid (n ≤ maxLen) := by show _ ≤ _; unfold maxLen; omega
  clear hx hr hin hE hF hi hz0 hz1 hz2 hn
  go_enter Ybaf.func4, Ybaf.ntmps4
  go_wp2_with (first
    | (go_at_call 8; refine (digits_any _).mono ?_; rintro e w' ⟨rfl, rfl⟩)
    | (at_make; refine wpList_make_own _ rfl (.const (.int .i64 0)) (.tmp 20) 22 rfl w.heap.size 5 i0 (.int .u8 0) 1 Ybaf.underlying22 HI0.out HZ0.out HZ1.out .i64 .i64 _ (n + 1) rfl rfl (by simp) m1.out m3.out (Nat.le_refl _) ?_; intro w1 hl1 hg1)
    | (at_make; refine wpList_make_own _ rfl (.const (.int .i64 0)) (.tmp 23) 22 rfl w.heap.size 5 i0 (.int .u8 0) 1 Ybaf.underlying22 HI0.out HZ0.out HZ1.out .i64 .i64 _ n rfl rfl (by simp) m2.out m4.out hg1.size ?_; intro w2 hv2 hg2))
  have hlt12 : w.heap.size < w1.heap.size := (hl1.lt _ rfl).2
  have hne12 : (some w1.heap.size : Option Nat) ≠ some w.heap.size := by simp; omega
  have HL2 : Hid (w2.ownsRow w.heap.size 5 1 (.slice (some ⟨w.heap.size, 0, none⟩) 0 (n + 1)) 0 ((lineOf xs 0).map (Value.int .u8))) := by
    rw [lineOf_zero]; exact hl1.kept hg2 (Or.inr (by simp [Value.ownBlock]))
  have HV2 : Hid (w2.ownsRow w.heap.size 5 1 (.slice (some ⟨w1.heap.size, 0, none⟩) 0 n) 0 ((valsOf xs 0).map (Value.int .u8))) := by
    rw [valsOf_zero]; exact hv2
  have HB2 : Hid (Below w.heap.size w w2) := ((Below.refl _ _).grown hg1 (Nat.le_refl _) (fun k hk => by cases hk)).grown hg2 hg1.size (fun k hk => by cases hk)
  clear hl1 hg1 hv2 hg2 m1 m2 m3 m4
  go_loopw [6, 7, 8] (fun ln vl i wr => ∃ k : Nat, k ≤ n ∧ i = .int .i64 k ∧ ln = .slice (some ⟨w.heap.size, 0, none⟩) k (n + 1) ∧ vl = .slice (some ⟨w1.heap.size, 0, none⟩) k n ∧
      Hid (wr.ownsRow w.heap.size 5 1 (.slice (some ⟨w.heap.size, 0, none⟩) k (n + 1)) k ((lineOf xs k).map (Value.int .u8))) ∧
      Hid (wr.ownsRow w.heap.size 5 1 (.slice (some ⟨w1.heap.size, 0, none⟩) k n) k ((valsOf xs k).map (Value.int .u8))) ∧ Hid (Below w.heap.size w wr))
    (fun _ _ i _ => n - (intOf i).toNat)
  case atStart => exact ⟨0, Nat.zero_le _, rfl, rfl, rfl, HL2, HV2, HB2⟩
  case round =>
    obtain ⟨k, hk, rfl, rfl, rfl, hlo, hvo, hbw⟩ := hrel
    by_cases hlt : k < n
    · exact absurd hlt (by rw [HN.out]; exact Nat.not_lt_zero _)
    · obtain rfl : k = n := by omega
      have HBr := hbw.out
      have HEr : Hid (wr.cell? ⟨0, 0, none⟩ = some ev) := (HBr.cell (by exact h0l)).trans HE.out
      have HFr : Hid (F.answers wr.tape) := by show F.answers wr.tape; rw [HBr.tape]; exact HF.out
      have hszr := HBr.size
      have HIr : Hid (Lib.BytesIn wr (some ⟨w.heap.size, 0, none⟩) k (lineOf xs k)) := own_in hlo.out (lineOf_length xs k (by rw [HX.out]; exact Nat.le_refl _))
      have H3 := hid HBr
      clear HBr
      go_wp2_with fail
      refine (dec_any F (some ⟨w.heap.size, 0, none⟩) k (k + 1) (lineOf xs k) wr ev HFr.out (lineOf_length xs k (by rw [HX.out]; exact Nat.le_refl _)) (by omega) (line_range xs k (by rw [HX.out]; exact Nat.le_refl _)) HIr.out HEr.out).mono ?_
      rintro e w5 (⟨hgd, rfl, hb5, f, hrow, hf⟩ | ⟨hgd, a, rfl, hb5⟩)
      · rw [good_line] at hgd
        simp at hgd
        have := HN.out
        omega
      · have HB5 := hid hb5
        clear hb5 hgd
        go_wp2
        go_ret
        exact ⟨rfl, H3.out.trans (HB5.out.mono H3.out.size)⟩


set_option maxRecDepth 100000 in
set_option maxHeartbeats 2000000 in
theorem lines_false_odd (F : Interp) (b o : Nat) (n c : Nat) (xs : List Int) (w : World) (ev : Value) (hF : F.answers w.tape) (hx : xs.length = n) (hbig : n ≤ 1048576)
    (hr : ∀ i, i < n → 0 ≤ xs.getD i 0 ∧ xs.getD i 0 < 256) (hin : Lib.BytesIn w (some ⟨b, o, none⟩) n xs) (hE : w.cell? ⟨0, 0, none⟩ = some ev) (hn : 0 < n) (ho : n % 2 ≠ 0) :
    Calls Ybaf.prog 4 #[.slice (some ⟨b, o, none⟩) n c, .bool false] w fun e w' => e = .returned (.bool true) ∧ Below w.heap.size w w' := by
  have hn0 : ((n : Int) == 0) = false := by simp; omega
  have hq : ((n : Int) % 2 == 0) = false := by simp; omega
  have hb20 : ¬ (1048576 : Int) < (n : Int) := by omega
  have hee := fun w (a : Option Addr) (n c : Nat) => Lib.run_eql_slice_nil (P := Ybaf.prog) w 22 5 a n c 0 0 Ybaf.underlying22
  obtain ⟨i0, hi, hz0, hz1, hz2⟩ := info_parts info5
  have h0l : 0 < w.heap.size := block_lt_of_cell hE
  have HI0 := hid hi; have HZ0 := hid hz0; have HZ1 := hid hz1; have HZ2 := hid hz2
  have HX := hid hx; have HR := hid hr; have HI := hid hin; have HE := hid hE; have HF := hid hF; have HN := hid hn
  have m1 : Hid (i0.bytes * (n + 1) ≤ 281474976710656) := by show _ ≤ _; rw [hz2]; omega
  have m2 : Hid (i0.bytes * n ≤ 281474976710656) := by show _ ≤ _; rw [hz2]; omega
  have m3 : Hid (n + 1 ≤ maxLen) := by show _ ≤ _; unfold maxLen; omega
  have m4 : Hid (n ≤ maxLen) := by show _ ≤ _; unfold maxLen; omega
  clear hx hr hin hE hF hi hz0 hz1 hz2 hn
  go_enter Ybaf.func4, Ybaf.ntmps4
  go_wp2_with (first
    | (go_at_call 8; refine (digits_any _).mono ?_; rintro e w' ⟨rfl, rfl⟩)
    | (at_make; refine wpList_make_own _ rfl (.const (.int .i64 0)) (.tmp 20) 22 rfl w.heap.size 5 i0 (.int .u8 0) 1 Ybaf.underlying22 HI0.out HZ0.out HZ1.out .i64 .i64 _ (n + 1) rfl rfl (by simp) m1.out m3.out (Nat.le_refl _) ?_; intro w1 hl1 hg1)
    | (at_make; refine wpList_make_own _ rfl (.const (.int .i64 0)) (.tmp 23) 22 rfl w.heap.size 5 i0 (.int .u8 0) 1 Ybaf.underlying22 HI0.out HZ0.out HZ1.out .i64 .i64 _ n rfl rfl (by simp) m2.out m4.out hg1.size ?_; intro w2 hv2 hg2))
  have hlt12 : w.heap.size < w1.heap.size := (hl1.lt _ rfl).2
  have hne12 : (some w1.heap.size : Option Nat) ≠ some w.heap.size := by simp; omega
  have HL2 : Hid (w2.ownsRow w.heap.size 5 1 (.slice (some ⟨w.heap.size, 0, none⟩) 0 (n + 1)) 0 ((lineOf xs 0).map (Value.int .u8))) := by
    rw [lineOf_zero]; exact hl1.kept hg2 (Or.inr (by simp [Value.ownBlock]))
  have HV2 : Hid (w2.ownsRow w.heap.size 5 1 (.slice (some ⟨w1.heap.size, 0, none⟩) 0 n) 0 ((valsOf xs 0).map (Value.int .u8))) := by
    rw [valsOf_zero]; exact hv2
  have HB2 : Hid (Below w.heap.size w w2) := ((Below.refl _ _).grown hg1 (Nat.le_refl _) (fun k hk => by cases hk)).grown hg2 hg1.size (fun k hk => by cases hk)
  clear hl1 hg1 hv2 hg2 m1 m2 m3 m4
  go_loopw [6, 7, 8] (fun ln vl i wr => ∃ k : Nat, k ≤ n ∧ i = .int .i64 k ∧ ln = .slice (some ⟨w.heap.size, 0, none⟩) k (n + 1) ∧ vl = .slice (some ⟨w1.heap.size, 0, none⟩) k n ∧
      Hid (wr.ownsRow w.heap.size 5 1 (.slice (some ⟨w.heap.size, 0, none⟩) k (n + 1)) k ((lineOf xs k).map (Value.int .u8))) ∧
      Hid (wr.ownsRow w.heap.size 5 1 (.slice (some ⟨w1.heap.size, 0, none⟩) k n) k ((valsOf xs k).map (Value.int .u8))) ∧ Hid (Below w.heap.size w wr))
    (fun _ _ i _ => n - (intOf i).toNat)
  case atStart => exact ⟨0, Nat.zero_le _, rfl, rfl, rfl, HL2, HV2, HB2⟩
  case round =>
    obtain ⟨k, hk, rfl, rfl, rfl, hlo, hvo, hbw⟩ := hrel
    by_cases hlt : k < n
    · obtain ⟨x, hxk⟩ : ∃ x, x = xs.getD k 0 := ⟨_, rfl⟩
      have hcx : wr.cell? ⟨b, o + k, none⟩ = some (.int .u8 x) := by
        obtain ⟨b', o', e', hc'⟩ := HI.out (by omega)
        cases e'
        have hc0 := hc' k hlt
        rw [hbw.out.cell (by exact block_lt_of_cell hc0), hxk]
        exact hc0
      have hx0 : 0 ≤ x := by rw [hxk]; exact (HR.out k hlt).1
      have hx1 : x < 256 := by rw [hxk]; exact (HR.out k hlt).2
      have HLS : Hid (lineOf xs (k + 1) = lineOf xs k ++ [dig x]) := by rw [hxk]; exact lineOf_succ xs k (by rw [HX.out]; exact hlt)
      have HVS : Hid (valsOf xs (k + 1) = valsOf xs k ++ [dval x]) := by rw [hxk]; exact valsOf_succ xs k (by rw [HX.out]; exact hlt)
      clear hxk
      have hm0 : 0 ≤ x % 22 := by omega
      have hm1 : x % 22 < 22 := by omega
      have hmt : x % 22 < (tab.size : Int) := by rw [tab_size]; exact hm1
      have hidx : ∀ W, (Instr.index 9 (.string tab) (.int .i64 (x % 22))).run Ybaf.prog W = .ok (.int .u8 (dig x)) W := fun W => idx_tab x hm0 hm1 W
      by_cases h16 : 16 ≤ x % 22
      · go_wp2_with (first
          | (at_builtin; refine wpList_append_own_spare _ rfl (.tmp 37) (.tmp 41) 22 rfl w.heap.size 5 i0 1 Ybaf.underlying22 HI0.out HZ1.out w.heap.size k (n + 1) _ rfl (hlo.out.alloc _) ⟨wr.heap.size, 0, none⟩ 1 1 [.int .u8 (dig x)] rfl rfl (cell_one_new _ _ _) (ints_oneCell .u8 [dig x]) (by omega) ?_; intro w3 hl3 hg3)
          | (at_builtin; refine wpList_append_own_spare _ rfl (.tmp 48) (.tmp 51) 22 rfl w.heap.size 5 i0 1 Ybaf.underlying22 HI0.out HZ1.out w1.heap.size k n _ rfl (((hvo.out.alloc _).kept hg3 (Or.inr hne12)).alloc _) ⟨w3.heap.size, 0, none⟩ 1 1 [.int .u8 (x % 22 - 6)] rfl rfl (cell_one_new _ _ _) (ints_oneCell .u8 [x % 22 - 6]) (by omega) ?_; intro w4 hv4 hg4))
        go_roundw
        case rel =>
          refine ⟨k + 1, by omega, by go_num, rfl, rfl, ?_, ?_, ?_⟩
          · show World.ownsRow _ _ _ _ _ _ _
            rw [HLS.out, List.map_append]
            exact (hl3.alloc _).kept hg4 (Or.inr (Ne.symm hne12))
          · show World.ownsRow _ _ _ _ _ _ _
            rw [HVS.out, List.map_append, dval_hi h16]
            exact hv4
          · exact ((((hbw.out.alloc hbw.out.size _).grown hg3 (by have := hbw.out.size; simp; omega) (fun q hq => by cases hq; exact Nat.le_refl _)).alloc (by have := hbw.out.size; have := hg3.size; simp at this; omega) _).grown hg4 (by have := hbw.out.size; have := hg3.size; simp at this ⊢; omega) (fun q hq => by cases hq; exact Nat.le_of_lt hlt12))
        case measure => simp [intOf]; omega
      · go_wp2_with (first
          | (at_builtin; refine wpList_append_own_spare _ rfl (.tmp 37) (.tmp 41) 22 rfl w.heap.size 5 i0 1 Ybaf.underlying22 HI0.out HZ1.out w.heap.size k (n + 1) _ rfl (hlo.out.alloc _) ⟨wr.heap.size, 0, none⟩ 1 1 [.int .u8 (dig x)] rfl rfl (cell_one_new _ _ _) (ints_oneCell .u8 [dig x]) (by omega) ?_; intro w3 hl3 hg3)
          | (at_builtin; refine wpList_append_own_spare _ rfl (.tmp 48) (.tmp 51) 22 rfl w.heap.size 5 i0 1 Ybaf.underlying22 HI0.out HZ1.out w1.heap.size k n _ rfl (((hvo.out.alloc _).kept hg3 (Or.inr hne12)).alloc _) ⟨w3.heap.size, 0, none⟩ 1 1 [.int .u8 (x % 22)] rfl rfl (cell_one_new _ _ _) (ints_oneCell .u8 [x % 22]) (by omega) ?_; intro w4 hv4 hg4))
        go_roundw
        case rel =>
          refine ⟨k + 1, by omega, by go_num, rfl, rfl, ?_, ?_, ?_⟩
          · show World.ownsRow _ _ _ _ _ _ _
            rw [HLS.out, List.map_append]
            exact (hl3.alloc _).kept hg4 (Or.inr (Ne.symm hne12))
          · show World.ownsRow _ _ _ _ _ _ _
            rw [HVS.out, List.map_append, dval_lo h16]
            exact hv4
          · exact ((((hbw.out.alloc hbw.out.size _).grown hg3 (by have := hbw.out.size; simp; omega) (fun q hq => by cases hq; exact Nat.le_refl _)).alloc (by have := hbw.out.size; have := hg3.size; simp at this; omega) _).grown hg4 (by have := hbw.out.size; have := hg3.size; simp at this ⊢; omega) (fun q hq => by cases hq; exact Nat.le_of_lt hlt12))
        case measure => simp [intOf]; omega
    · obtain rfl : k = n := by omega
      have HBr := hbw.out
      have HEr : Hid (wr.cell? ⟨0, 0, none⟩ = some ev) := (HBr.cell (by exact h0l)).trans HE.out
      have HFr : Hid (F.answers wr.tape) := by show F.answers wr.tape; rw [HBr.tape]; exact HF.out
      have hszr := HBr.size
      have HIr : Hid (Lib.BytesIn wr (some ⟨w.heap.size, 0, none⟩) k (lineOf xs k)) := own_in hlo.out (lineOf_length xs k (by rw [HX.out]; exact Nat.le_refl _))
      have H3 := hid HBr
      clear HBr
      go_wp2_with fail
      refine (dec_any F (some ⟨w.heap.size, 0, none⟩) k (k + 1) (lineOf xs k) wr ev HFr.out (lineOf_length xs k (by rw [HX.out]; exact Nat.le_refl _)) (by omega) (line_range xs k (by rw [HX.out]; exact Nat.le_refl _)) HIr.out HEr.out).mono ?_
      rintro e w5 (⟨hgd, rfl, hb5, f, hrow, hf⟩ | ⟨hgd, a, rfl, hb5⟩)
      · rw [good_line] at hgd
        simp at hgd
        have := HN.out
        omega
      · have HB5 := hid hb5
        clear hb5 hgd
        go_wp2
        go_ret
        exact ⟨rfl, H3.out.trans (HB5.out.mono H3.out.size)⟩


end Go.Proofs.YbulkfpjsFmt
