/-
  decodeLine at a line of digits of even length.
-/
import Derived.Test.YbulkfpjsFmtDec
namespace Go.Proofs.YbulkfpjsFmt
open Go.RowKit Go.Extern.Stop Go.Stop Go.Extern

theorem info5 : (Ybaf.prog.info? 5).map (fun i => (i.zero, i.size, i.bytes)) = some (some (.int .u8 0), 1, 1) := by kernel_rfl

/-- encoding/hex.Decode (the shelf's contract) at a line of digits of even length, into a row just made. -/
theorem hexdec (b o n c m : Nat) (xs : List Int) (w : World) (ev : Value) (hx : xs.length = n) (hn : 0 < n) (hbig : n ≤ 1048577) (hm : n = 2 * m)
    (hr : ∀ i, i < n → 0 ≤ xs.getD i 0 ∧ xs.getD i 0 < 256) (hc : ∀ i, i < n → w.cell? ⟨b, o + i, none⟩ = some (.int .u8 (xs.getD i 0)))
    (hE : w.cell? ⟨0, 0, none⟩ = some ev) (hgood : allHex xs n = true) :
    Calls Ybaf.prog 12 #[.slice (some ⟨w.heap.size, 0, none⟩) m m, .slice (some ⟨b, o, none⟩) n c] (w.alloc (.cells (madeCells #[.int .u8 0] m) 5)) fun e w' =>
      e = .returned (.tuple #[.int .i64 m, .nilIface]) ∧ Below w.heap.size w w' ∧
        ∃ f : Nat → Value, w'.rowIs w.heap.size 5 m f ∧ ∀ i, i < m → f i = .int .u8 (hv (xs.getD (2 * i) 0) * 16 + hv (xs.getD (2 * i + 1) 0)) := by
  have hbl : b < w.heap.size := block_lt_of_cell (hc 0 hn)
  have h0l : 0 < w.heap.size := block_lt_of_cell hE
  have hmem : ∀ x ∈ xs, 0 ≤ x ∧ x < 256 ∧ hexB x = true := by
    intro x hxm
    obtain ⟨i, hi, rfl⟩ := List.getElem_of_mem hxm
    have e : xs.getD i 0 = xs[i] := by simp [hi]
    rw [← e]
    exact ⟨(hr i (by omega)).1, (hr i (by omega)).2, allHex_get hgood (by omega) hi⟩
  obtain ⟨d1, d2, d3⟩ := decode_hex m xs (by omega) hmem
  have hb0 : Below w.heap.size w (w.alloc (.cells (madeCells #[.int .u8 0] m) 5)) := (Below.refl _ _).alloc (Nat.le_refl _) _
  refine (Ybaf.hex_Decode_tag 5 w.heap.size 0 m m m (fun _ => .int .u8 0) b o n c xs _ ev hx hr (fun i hi => ?_) (World.rowIs_made w (.int .u8 0) m 5) (by omega) (by omega) (by omega) (by omega) ?_ (by omega)).mono ?_
  · rw [hb0.cell (by exact hbl)]; exact hc i hi
  · rw [hb0.cell (by exact h0l)]; exact hE
  · rintro e w' ⟨rfl, hrow, hg⟩
    refine ⟨?_, ?_, _, hrow, fun i hi => ?_⟩
    · rw [d1, d2]; rfl
    · exact hb0.grown hg (by simp) (fun k hk => by cases hk; exact Nat.le_refl _)
    · unfold Lib.Hx.rowP
      rw [if_pos ⟨Nat.zero_le _, by omega⟩, Nat.sub_zero, d3 i hi]

set_option maxHeartbeats 1000000 in
theorem dec_good (b o n c m : Nat) (xs : List Int) (w : World) (ev : Value) (hx : xs.length = n) (hn : 0 < n) (hbig : n ≤ 1048577) (hm : n = 2 * m)
    (hr : ∀ i, i < n → 0 ≤ xs.getD i 0 ∧ xs.getD i 0 < 256) (hc : ∀ i, i < n → w.cell? ⟨b, o + i, none⟩ = some (.int .u8 (xs.getD i 0)))
    (hE : w.cell? ⟨0, 0, none⟩ = some ev) (hgood : allHex xs n = true) :
    Calls Ybaf.prog 6 #[.slice (some ⟨b, o, none⟩) n c] w fun e w' =>
      e = .returned (.tuple #[.slice (some ⟨w.heap.size, 0, none⟩) m m, .nilIface]) ∧ Below w.heap.size w w' ∧
        ∃ f : Nat → Value, w'.rowIs w.heap.size 5 m f ∧ ∀ i, i < m → f i = .int .u8 (hv (xs.getD (2 * i) 0) * 16 + hv (xs.getD (2 * i + 1) 0)) := by
  have hn0 : ((n : Int) == 0) = false := by simp; omega
  have hmod : ((n : Int) % 2 == 0) = true := by simp; omega
  have hdiv : (n : Int) / 2 = (m : Int) := by omega
  obtain ⟨i0, hi, hz0, hz1, hz2⟩ := info_parts info5
  have hmk := fun w => run_make_row (P := Ybaf.prog) 22 5 i0 (.int .u8 0) Ybaf.underlying22 hi hz0 hz1 rfl .i64 .i64 m (by rw [hz2]; omega) (by omega) w
  have HX := hid hx; have HR := hid hr; have HC := hid hc; have HG := hid hgood; have HE := hid hE; have HM := hid hm
  clear hx hr hc hgood hE hm hi hz0 hz1 hz2
  go_enter Ybaf.func6, Ybaf.ntmps6
  go_wp2
  go_loop [15] (fun i => ∃ k : Nat, k ≤ n ∧ i = .int .i64 k) (fun i => n - (intOf i).toNat)
  case atStart => exact ⟨0, Nat.zero_le _, rfl⟩
  case round =>
    obtain ⟨k, hk, rfl⟩ := hrel
    by_cases hlt : k < n
    · obtain ⟨x, hxk⟩ : ∃ x, x = xs.getD k 0 := ⟨_, rfl⟩
      have hcx : w.cell? ⟨b, o + k, none⟩ = some (.int .u8 x) := by rw [hxk]; exact HC.out k hlt
      have hx0 : 0 ≤ x := by rw [hxk]; exact (HR.out k hlt).1
      have hx1 : x < 256 := by rw [hxk]; exact (HR.out k hlt).2
      have hh : hexB x = true := by rw [hxk]; exact allHex_get HG.out hlt (by rw [HX.out]; exact hlt)
      clear hxk
      go_wp2_with (go_at_call 10; refine (isHex_any x _ hx0 hx1).mono ?_; rintro e w' ⟨rfl, rfl⟩)
      go_round
      case rel => exact ⟨k + 1, by omega, by go_num⟩
      case measure => simp [intOf]; omega
    · obtain rfl : k = n := by omega
      go_wp2_with fail
      refine (hexdec b o k c m xs w ev HX.out hn hbig HM.out HR.out HC.out HE.out HG.out).mono ?_
      rintro e w1 ⟨rfl, hbel, hrow⟩
      have HB := hid hbel
      have HRW := hid hrow
      clear hbel hrow
      go_wp2
      go_ret2
      exact ⟨rfl, HB.out, HRW.out⟩
end Go.Proofs.YbulkfpjsFmt
