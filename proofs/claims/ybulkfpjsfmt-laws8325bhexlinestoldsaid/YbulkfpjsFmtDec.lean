/-
  decodeLine: what it gives at a line that is no line of digits, and at one that is.
-/
import Derived.Test.YbulkfpjsFmtErrs
namespace Go.Proofs.YbulkfpjsFmt
open Go.RowKit Go.Extern.Stop Go.Stop Go.Extern
attribute [local go_sem] call13 guardF fmt0 fmt0r fmt1 fmt1r op5 op3 ptr38 elem38 isError38

/-- What a refusal is: no slice, an error that is not nil, in new memory. -/
def Refused (w : World) (e : Ending) (w' : World) : Prop := ∃ a, e = .returned (.tuple #[.slice none 0 0, .iface 38 (.pointer (some a))]) ∧ Below w.heap.size w w'

/-- A line of no byte. -/
theorem dec_empty (p : Option Addr) (c : Nat) (w : World) : Calls Ybaf.prog 6 #[.slice p 0 c] w (Refused w) := by
  go_enter Ybaf.func6, Ybaf.ntmps6
  go_wp2_with (go_at_call 9; refine (new_any _ _).mono ?_; rintro e w' ⟨rfl, rfl⟩)
  go_ret2
  exact ⟨_, rfl, by go_grown⟩

set_option maxHeartbeats 1000000 in
/-- A line that is not empty, and is refused. -/
theorem dec_bad (F : Interp) (b o n c : Nat) (xs : List Int) (w : World) (hF : F.answers w.tape) (hx : xs.length = n) (hn : 0 < n) (hbig : n ≤ 1048577)
    (hr : ∀ i, i < n → 0 ≤ xs.getD i 0 ∧ xs.getD i 0 < 256) (hc : ∀ i, i < n → w.cell? ⟨b, o + i, none⟩ = some (.int .u8 (xs.getD i 0)))
    (hbad : ¬ (n % 2 = 0 ∧ allHex xs n = true)) : Calls Ybaf.prog 6 #[.slice (some ⟨b, o, none⟩) n c] w (Refused w) := by
  have hn0 : ((n : Int) == 0) = false := by simp; omega
  have HX := hid hx; have HR := hid hr; have HC := hid hc; have HB := hid hbad; have HF := hid hF
  clear hx hr hc hbad hF
  go_enter Ybaf.func6, Ybaf.ntmps6
  go_wp2
  go_loop [15] (fun i => ∃ k : Nat, k ≤ n ∧ i = .int .i64 k ∧ Hid (allHex xs k = true)) (fun i => n - (intOf i).toNat)
  case atStart => exact ⟨0, Nat.zero_le _, rfl, allHex_zero xs⟩
  case round =>
    obtain ⟨k, hk, rfl, hall⟩ := hrel
    by_cases hlt : k < n
    · obtain ⟨x, hxk⟩ : ∃ x, x = xs.getD k 0 := ⟨_, rfl⟩
      have hcx : w.cell? ⟨b, o + k, none⟩ = some (.int .u8 x) := by rw [hxk]; exact HC.out k hlt
      have hx0 : 0 ≤ x := by rw [hxk]; exact (HR.out k hlt).1
      have hx1 : x < 256 := by rw [hxk]; exact (HR.out k hlt).2
      have HK := hid hxk
      clear hxk
      cases hh : hexB x with
      | true =>
        have hall' : Hid (allHex xs (k + 1) = true) := by
          show allHex xs (k + 1) = true
          rw [allHex_succ xs k (by rw [HX.out]; exact hlt), hall.out, ← HK.out, hh]; rfl
        go_wp2_with (go_at_call 10; refine (isHex_any x _ hx0 hx1).mono ?_; rintro e w' ⟨rfl, rfl⟩)
        go_round
        case rel => exact ⟨k + 1, by omega, by go_num, hall'⟩
        case measure => simp [intOf]; omega
      | false =>
        clear HK HC HR hall HB HX
        by_cases h13 : (x == 13) = true
        · by_cases hlast : ((k : Int) == (n : Int) - 1) = true
          · go_wp2_with (first
              | (go_at_call 10; refine (isHex_any x _ hx0 hx1).mono ?_; rintro e w' ⟨rfl, rfl⟩)
              | (go_at_call 9; refine (new_any _ _).mono ?_; rintro e w' ⟨rfl, rfl⟩))
            go_ret2
            exact ⟨_, rfl, by go_grown⟩
          · have hlast' : ((k : Int) == (n : Int) - 1) = false := by simpa using hlast
            clear hlast
            go_wp2_with (first
              | (go_at_call 10; refine (isHex_any x _ hx0 hx1).mono ?_; rintro e w' ⟨rfl, rfl⟩)
              | (go_at_call 11; refine (errorf_col F ((k : Int) + 1) x w.heap.size _ (by exact HF.out) (by simp) (by simp)).mono ?_; rintro e w' ⟨a, rfl, hb⟩))
            go_ret2
            exact ⟨_, rfl, ((Below.refl _ _).alloc (Nat.le_refl _) _).trans (hb.mono (by simp))⟩
        · have h13' : (x == 13) = false := by simpa using h13
          clear h13
          go_wp2_with (first
            | (go_at_call 10; refine (isHex_any x _ hx0 hx1).mono ?_; rintro e w' ⟨rfl, rfl⟩)
            | (go_at_call 11; refine (errorf_col F ((k : Int) + 1) x w.heap.size _ (by exact HF.out) (by simp) (by simp)).mono ?_; rintro e w' ⟨a, rfl, hb⟩))
          go_ret2
          exact ⟨_, rfl, ((Below.refl _ _).alloc (Nat.le_refl _) _).trans (hb.mono (by simp))⟩
    · obtain rfl : k = n := by omega
      have hodd : ((k : Int) % 2 == 0) = false := by
        have h2 : ¬ k % 2 = 0 := fun h => HB.out ⟨h, hall.out⟩
        simp; omega
      clear HC HR hall HB HX
      go_wp2_with (first
        | (go_at_call 11; refine (errorf_odd F (k : Int) w.heap.size _ (by exact HF.out) (by simp)).mono ?_; rintro e w' ⟨a, rfl, hb⟩))
      go_ret2
      exact ⟨_, rfl, ((Below.refl _ _).alloc (Nat.le_refl _) _).trans (hb.mono (by simp))⟩
end Go.Proofs.YbulkfpjsFmt
