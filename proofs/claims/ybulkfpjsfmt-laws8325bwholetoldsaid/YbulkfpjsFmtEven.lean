/-
  THE WALK OF LawS8325BWhole: a line of even length.
-/
import Derived.Test.YbulkfpjsFmtWhole
import Derived.Laws.CopyOwn
import Derived.Lib.SliceRun
namespace Go.Proofs.YbulkfpjsFmt
open Go.RowKit Go.Extern.Stop Go.Stop Go.Extern

set_option maxRecDepth 100000 in
set_option maxHeartbeats 2000000 in
theorem whole_even (F : Interp) (b o : Nat) (n c : Nat) (xs : List Int) (w : World) (ev : Value) (hF : F.answers w.tape) (hx : xs.length = n) (hbig : n ≤ 1048576)
    (hr : ∀ i, i < n → 0 ≤ xs.getD i 0 ∧ xs.getD i 0 < 256) (hin : Lib.BytesIn w (some ⟨b, o, none⟩) n xs) (hE : w.cell? ⟨0, 0, none⟩ = some ev) (hn : 0 < n) (ho : n % 2 = 0) :
    Calls Ybaf.prog 3 #[.slice (some ⟨b, o, none⟩) n c] w fun e w' => e = .returned (.bool true) ∧ Below w.heap.size w w' := by
  have hp : (0 : Int) < (n : Int) := by omega
  have hq : ((n : Int) % 2 == 0) = true := by simp; omega
  have hok : goodB xs n = (true && allHex xs n) := by simp [goodB, hn, ho]
  have hb20 : ¬ (1048576 : Int) < (n : Int) := by omega
  have hnn := fun w (a : Option Addr) (n c : Nat) => run_neq_slice_nil_any (P := Ybaf.prog) w 22 5 a n c 0 0 Ybaf.underlying22
  have hee := fun w (a : Option Addr) (n c : Nat) => Lib.run_eql_slice_nil (P := Ybaf.prog) w 22 5 a n c 0 0 Ybaf.underlying22
  obtain ⟨i0, hi, hz0, hz1, hz2⟩ := info_parts info5
  have hmk := fun w => run_make_row (P := Ybaf.prog) 22 5 i0 (.int .u8 0) Ybaf.underlying22 hi hz0 hz1 rfl .i64 .i64 n (by rw [hz2]; omega) (by omega) w
  have h0l : 0 < w.heap.size := block_lt_of_cell hE
  have HX := hid hx; have HR := hid hr; have HI := hid hin; have HE := hid hE; have HF := hid hF; have HOK := hid hok; have HN := hid hn
  have C1 : Hid ((xs.map (Value.int .u8)).length = Nat.min n n) := by show _ = _; simp [hx]
  have C3 : Hid (0 + (xs.map (Value.int .u8)).length ≤ (madeCells #[Value.int .u8 0] n).toList.length) := by show _ ≤ _; rw [made_list]; simp [hx]
  have C4 : Hid (∀ v ∈ xs.map (Value.int .u8), v.oneCell' = true) := by
    intro v hv
    simp only [List.mem_map] at hv
    obtain ⟨a, _, rfl⟩ := hv
    rfl
  have C5 : Hid ((w.alloc (.cells (madeCells #[Value.int .u8 0] n) 5)).heap[w.heap.size]? = some (.cells (madeCells #[Value.int .u8 0] n).toList.toArray 5 (0, 0))) := by
    show _ = _
    rw [heap_alloc_new, Array.toArray_toList]
  have C2 : Hid (0 < (xs.map (Value.int .u8)).length → some (⟨w.heap.size, 0, none⟩ : Addr) = some ⟨w.heap.size, 0, none⟩ ∧ ∃ ad', (some ⟨b, o, none⟩ : Option Addr) = some ad' ∧ ∀ j v, (xs.map (Value.int .u8))[j]? = some v → (w.alloc (.cells (madeCells #[Value.int .u8 0] n) 5)).cell? (ad'.add j) = some v) := by
    intro h
    refine ⟨rfl, ?_⟩
    obtain ⟨b', o', e', hc'⟩ := hin (by simpa [hx] using h)
    refine ⟨⟨b', o', none⟩, e', src_of w b' o' n xs hx hc' _⟩
  clear hx hr hin hE hF hok hi hz0 hz1 hz2 hn
  go_enter Ybaf.func3, Ybaf.ntmps3
  go_wp2_with (with_reducible refine atList ?_; refine wpList_copy_splice rfl (.tmp 24) (.tmp 25) 22 22 rfl 5 Ybaf.underlying22 size5 (some ⟨w.heap.size, 0, none⟩) (some ⟨b, o, none⟩) n n n c rfl rfl w.heap.size 0 (madeCells #[Value.int .u8 0] n).toList 5 C5.out (xs.map (Value.int .u8)) C1.out C2.out C3.out C4.out w.heap.size w ((Below.refl _ _).alloc (Nat.le_refl _) _) (Nat.le_refl _) ?_; intro w1 hg1 hb1)
  have hsz1 : w.heap.size < w1.heap.size := (Array.getElem?_eq_some_iff.1 hg1.out).1
  have HO : Hid (Lib.BytesIn w1 (some ⟨w.heap.size, 0, none⟩) n xs) := orig_in HX.out (by have := hg1.out; rwa [splice_all _ _ (by rw [made_list]; simp [HX.out])] at this)
  have HL : Hid (Lib.BytesIn w1 (some ⟨b, o, none⟩) n xs) := in_below HI.out hb1 (Nat.le_refl _)
  have HE1 : Hid (w1.cell? ⟨0, 0, none⟩ = some ev) := (hb1.cell (by exact h0l)).trans HE.out
  have HF1 : Hid (F.answers w1.tape) := by show F.answers w1.tape; rw [hb1.tape]; exact HF.out
  have HB1 := hid hb1
  clear hg1 hb1 C1 C2 C3 C4 C5 hmk
  go_loop [4, 5] (fun ok i => ∃ k : Nat, k ≤ n ∧ i = .int .i64 k ∧ ok = .bool (allHex xs k)) (fun _ i => n - (intOf i).toNat)
  case atStart => exact ⟨0, Nat.zero_le _, rfl, rfl⟩
  case round =>
    obtain ⟨k, hk, rfl, rfl⟩ := hrel
    by_cases hlt : k < n
    · obtain ⟨x, hxk⟩ : ∃ x, x = xs.getD k 0 := ⟨_, rfl⟩
      have hcx : w1.cell? ⟨b, o + k, none⟩ = some (.int .u8 x) := by
        obtain ⟨b', o', e', hc'⟩ := HL.out (by omega)
        cases e'
        rw [hxk]; exact hc' k hlt
      have hx0 : 0 ≤ x := by rw [hxk]; exact (HR.out k hlt).1
      have hx1 : x < 256 := by rw [hxk]; exact (HR.out k hlt).2
      have HS : Hid (allHex xs (k + 1) = (allHex xs k && hexB x)) := by rw [hxk]; exact allHex_succ xs k (by rw [HX.out]; exact hlt)
      clear hxk
      cases hh : hexB x with
      | true =>
        go_wp2_with (go_at_call 5; refine (val_any x _ hx0 hx1).mono ?_; rintro e w' ⟨rfl, rfl⟩)
        go_round
        case rel => exact ⟨k + 1, by omega, by go_num, by rw [HS.out, hh, Bool.and_true]⟩
        case measure => simp [intOf]; omega
      | false =>
        go_wp2_with (go_at_call 5; refine (val_any x _ hx0 hx1).mono ?_; rintro e w' ⟨rfl, rfl⟩)
        go_round
        case rel => exact ⟨k + 1, by omega, by go_num, by rw [HS.out, hh, Bool.and_false]⟩
        case measure => simp [intOf]; omega
    · obtain rfl : k = n := by omega
      go_wp2_with fail
      refine (dec_any F (some ⟨b, o, none⟩) k c xs w1 ev HF1.out HX.out (by omega) HR.out HL.out HE1.out).mono ?_
      rintro e w2 (⟨hgd, rfl, hb2, f, hrow, hf⟩ | ⟨hgd, a, rfl, hb2⟩)
      · obtain ⟨m, hm⟩ : ∃ m, k / 2 = m := ⟨_, rfl⟩
        rw [hm] at hrow hf ⊢
        have hdiv : (k : Int) / 2 = (m : Int) := by omega
        have hmk : 2 * m = k := by omega
        have HL2 : Hid (Lib.BytesIn w2 (some ⟨b, o, none⟩) k xs) := in_below HL.out hb2 (Nat.le_refl _)
        have HO2 : Hid (Lib.BytesIn w2 (some ⟨w.heap.size, 0, none⟩) k xs) := in_below HO.out hb2 (Nat.le_refl _)
        have HB2 := hid hb2
        have HRW := hid hrow
        have HFF := hid hf
        have HMK := hid hmk
        have hal : allHex xs k = true := by
          have := HOK.out
          rw [hgd] at this
          simpa using this.symm
        clear hb2 hgd hm hrow hf hmk
        go_wp2_with fail
        refine (Ybaf.bytes_Equal_all (some ⟨b, o, none⟩) (some ⟨w.heap.size, 0, none⟩) k c k k xs xs w2 HX.out HX.out HL2.out HO2.out).mono ?_
        rintro e w3 ⟨rfl, hw⟩
        obtain rfl := hw.symm
        go_wp2
        go_loop [10] (fun i => ∃ j : Nat, j ≤ m ∧ i = .int .i64 j) (fun i => m - (intOf i).toNat)
        case atStart => exact ⟨0, Nat.zero_le _, rfl⟩
        case round =>
          obtain ⟨j, hj, rfl⟩ := hrel
          by_cases hjm : j < m
          · have hj2 : 2 * j + 1 < k := by have := HMK.out; omega
            obtain ⟨x, hxk⟩ : ∃ x, x = xs.getD (2 * j) 0 := ⟨_, rfl⟩
            obtain ⟨y, hyk⟩ : ∃ y, y = xs.getD (2 * j + 1) 0 := ⟨_, rfl⟩
            have hcx : w2.cell? ⟨b, o + 2 * j, none⟩ = some (.int .u8 x) := by
              obtain ⟨b', o', e', hc'⟩ := HL2.out (by omega)
              cases e'
              rw [hxk]; exact hc' (2 * j) (by omega)
            have hcy : w2.cell? ⟨b, o + (2 * j + 1), none⟩ = some (.int .u8 y) := by
              obtain ⟨b', o', e', hc'⟩ := HL2.out (by omega)
              cases e'
              rw [hyk]; exact hc' (2 * j + 1) hj2
            have hcg : w2.cell? ⟨w1.heap.size, j, none⟩ = some (.int .u8 (hv x * 16 + hv y)) := by
              rw [HRW.out.cell hjm, HFF.out j hjm, hxk, hyk]
            have hx0 : 0 ≤ x := by rw [hxk]; exact (HR.out _ (by omega)).1
            have hx1 : x < 256 := by rw [hxk]; exact (HR.out _ (by omega)).2
            have hy0 : 0 ≤ y := by rw [hyk]; exact (HR.out _ hj2).1
            have hy1 : y < 256 := by rw [hyk]; exact (HR.out _ hj2).2
            clear hxk hyk
            obtain ⟨vx0, vx1⟩ := hv_bounds x
            obtain ⟨vy0, vy1⟩ := hv_bounds y
            go_wp2_with fail
            refine (val_any x _ hx0 hx1).mono ?_
            rintro e w' ⟨rfl, rfl⟩
            go_wp2_with fail
            refine (val_any y _ hy0 hy1).mono ?_
            rintro e w' ⟨rfl, rfl⟩
            go_wp2
            go_round
            case rel => exact ⟨j + 1, by omega, by go_num⟩
            case measure => simp [intOf]; omega
          · obtain rfl : j = m := by omega
            go_wp2
            go_loopw [15] (fun i wr => ∃ (q : Nat) (g : Nat → Value), q ≤ j ∧ i = .int .i64 q ∧ Hid (wr.rowIs w1.heap.size 5 j g) ∧ Hid (∀ t, t < j → ∃ z, g t = .int .u8 z) ∧ Hid (Below w1.heap.size w2 wr)) (fun i _ => j - (intOf i).toNat)
            case atStart => exact ⟨0, f, Nat.zero_le _, rfl, HRW.out, fun t ht => ⟨_, HFF.out t ht⟩, Below.refl _ _⟩
            case round =>
              obtain ⟨q, g, hq', rfl, hrw, hgz, hbq⟩ := hrel
              by_cases hqj : q < j
              · obtain ⟨z, hz⟩ := hgz.out q hqj
                have hcq : wr.cell? ⟨w1.heap.size, q, none⟩ = some (.int .u8 z) := by rw [hrw.out.cell hqj, hz]
                have hfq : wr.frozen? ⟨w1.heap.size, q, none⟩ = false := hrw.out.frozen q
                clear hz
                go_wp2
                go_roundw
                case rel =>
                  refine ⟨q + 1, _, by omega, by go_num, hrw.out.set q _, fun t ht => ?_, hbq.out.setCell (by exact Nat.le_refl _) _⟩
                  by_cases htq : t = q
                  · exact ⟨_, by rw [if_pos htq]⟩
                  · obtain ⟨z', hz'⟩ := hgz.out t ht
                    exact ⟨z', by rw [if_neg htq]; exact hz'⟩
                case measure => simp [intOf]; omega
              · have HLr : Hid (Lib.BytesIn wr (some ⟨b, o, none⟩) k xs) := in_below HL.out (HB2.out.trans hbq.out) (Nat.le_refl _)
                have HOr : Hid (Lib.BytesIn wr (some ⟨w.heap.size, 0, none⟩) k xs) := in_below HO.out (HB2.out.trans hbq.out) (Nat.le_refl _)
                go_wp2_with fail
                refine (Ybaf.bytes_Equal_all (some ⟨b, o, none⟩) (some ⟨w.heap.size, 0, none⟩) k c k k xs xs wr HX.out HX.out HLr.out HOr.out).mono ?_
                rintro e w3 ⟨rfl, hw⟩
                obtain rfl := hw.symm
                go_wp2
                go_ret
                exact ⟨by simp, HB1.out.trans ((HB2.out.trans hbq.out).mono (Nat.le_of_lt hsz1))⟩
      · have HL2 : Hid (Lib.BytesIn w2 (some ⟨b, o, none⟩) k xs) := in_below HL.out hb2 (Nat.le_refl _)
        have HO2 : Hid (Lib.BytesIn w2 (some ⟨w.heap.size, 0, none⟩) k xs) := in_below HO.out hb2 (Nat.le_refl _)
        have HB2 := hid hb2
        have hal : allHex xs k = false := by
          have := HOK.out
          rw [hgd] at this
          simpa using this.symm
        clear hb2 hgd
        go_wp2_with fail
        refine (Ybaf.bytes_Equal_all (some ⟨b, o, none⟩) (some ⟨w.heap.size, 0, none⟩) k c k k xs xs w2 HX.out HX.out HL2.out HO2.out).mono ?_
        rintro e w3 ⟨rfl, hw⟩
        obtain rfl := hw.symm
        go_wp2
        go_ret
        exact ⟨rfl, HB1.out.trans (HB2.out.mono (Nat.le_of_lt hsz1))⟩

end Go.Proofs.YbulkfpjsFmt
