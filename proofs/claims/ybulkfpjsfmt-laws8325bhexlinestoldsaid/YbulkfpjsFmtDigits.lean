/-
  THE DIGITS THAT LawS8325BHexLines PICKS, as plain Lean; and the contract of zzs8325bdigits.
-/
import Derived.Test.YbulkfpjsFmtAny
namespace Go.Proofs.YbulkfpjsFmt
open Go.RowKit

/-- "0123456789abcdefABCDEF". -/
def tab : ByteArray := ⟨#[48, 49, 50, 51, 52, 53, 54, 55, 56, 57, 97, 98, 99, 100, 101, 102, 65, 66, 67, 68, 69, 70]⟩
theorem tab_size : tab.size = 22 := rfl
def dig (x : Int) : Int := ((tab.data.toList[(x % 22).toNat]?.getD 0).toNat : Int)
def dval (x : Int) : Int := if 16 ≤ x % 22 then x % 22 - 6 else x % 22

theorem dig_fin : ∀ a : Fin 22, hexB ((tab.data.toList[a.val]?.getD 0).toNat : Int) = true ∧ hv ((tab.data.toList[a.val]?.getD 0).toNat : Int) = (if 16 ≤ (a.val : Int) then (a.val : Int) - 6 else (a.val : Int)) ∧ 0 ≤ ((tab.data.toList[a.val]?.getD 0).toNat : Int) ∧ ((tab.data.toList[a.val]?.getD 0).toNat : Int) < 256 := by decide +kernel
theorem dig_facts (x : Int) : hexB (dig x) = true ∧ hv (dig x) = dval x ∧ 0 ≤ dig x ∧ dig x < 256 := by
  have h0 : 0 ≤ x % 22 := by omega
  have h1 : x % 22 < 22 := by omega
  have e : ((x % 22).toNat : Int) = x % 22 := by omega
  have h := dig_fin ⟨(x % 22).toNat, by omega⟩
  simp only [e] at h
  exact h
theorem dval_bounds (x : Int) : 0 ≤ dval x ∧ dval x ≤ 15 := by unfold dval; split <;> omega

/-- The line after k rounds, the values after k rounds. -/
def lineOf (xs : List Int) (k : Nat) : List Int := (xs.take k).map dig
def valsOf (xs : List Int) (k : Nat) : List Int := (xs.take k).map dval
theorem lineOf_zero (xs : List Int) : lineOf xs 0 = [] := by simp [lineOf]
theorem valsOf_zero (xs : List Int) : valsOf xs 0 = [] := by simp [valsOf]
theorem lineOf_succ (xs : List Int) (k : Nat) (h : k < xs.length) : lineOf xs (k + 1) = lineOf xs k ++ [dig (xs.getD k 0)] := by
  have e : xs.getD k 0 = xs[k] := by simp [h]
  rw [e]
  unfold lineOf
  rw [List.take_succ_eq_append_getElem h, List.map_append]
  rfl
theorem valsOf_succ (xs : List Int) (k : Nat) (h : k < xs.length) : valsOf xs (k + 1) = valsOf xs k ++ [dval (xs.getD k 0)] := by
  have e : xs.getD k 0 = xs[k] := by simp [h]
  rw [e]
  unfold valsOf
  rw [List.take_succ_eq_append_getElem h, List.map_append]
  rfl
theorem lineOf_length (xs : List Int) (k : Nat) (h : k ≤ xs.length) : (lineOf xs k).length = k := by
  simp [lineOf]; omega
theorem valsOf_length (xs : List Int) (k : Nat) (h : k ≤ xs.length) : (valsOf xs k).length = k := by
  simp [valsOf]; omega
theorem lineOf_get (xs : List Int) (k i : Nat) (hi : i < k) (h : k ≤ xs.length) : (lineOf xs k).getD i 0 = dig (xs.getD i 0) := by
  have : i < xs.length := by omega
  simp [lineOf, hi, this]
theorem valsOf_get (xs : List Int) (k i : Nat) (hi : i < k) (h : k ≤ xs.length) : (valsOf xs k).getD i 0 = dval (xs.getD i 0) := by
  have : i < xs.length := by omega
  simp [valsOf, hi, this]
theorem line_hex (xs : List Int) (n : Nat) : allHex (lineOf xs n) n = true := by
  unfold allHex lineOf
  rw [List.all_eq_true]
  intro x hx
  have := List.mem_of_mem_take hx
  rw [List.mem_map] at this
  obtain ⟨y, _, rfl⟩ := this
  exact (dig_facts y).1
theorem good_line (xs : List Int) (n : Nat) : goodB (lineOf xs n) n = (decide (0 < n) && (n % 2 == 0)) := by
  simp [goodB, line_hex]
/-- A carriage return at the end: refused. -/
theorem good_cr (xs : List Int) (n : Nat) (hx : xs.length = n) : goodB (lineOf xs n ++ [13]) (n + 1) = false := by
  have hl : (lineOf xs n ++ [13]).length = n + 1 := by simp [lineOf_length xs n (by omega)]
  have : allHex (lineOf xs n ++ [13]) (n + 1) = false := by
    rw [allHex_succ _ n (by omega)]
    have : (lineOf xs n ++ [13]).getD n 0 = 13 := by
      rw [List.getD_eq_getElem?_getD, List.getElem?_append_right (by rw [lineOf_length xs n (by omega)]; exact Nat.le_refl _), lineOf_length xs n (by omega), Nat.sub_self]
      rfl
    rw [this]
    simp [hexB]
  simp [goodB, this]

theorem tab_at (x : Int) (h : (x % 22).toNat < tab.size) : ((tab[(x % 22).toNat]'h).toNat : Int) = dig x := by
  unfold dig
  have h' : (x % 22).toNat < tab.data.toList.length := h
  rw [List.getElem?_eq_getElem h']
  rfl

set_option maxHeartbeats 400000 in
theorem digits_any (w : World) : Calls Ybaf.prog 8 #[] w fun e w' => e = .returned (.string tab) ∧ w = w' := by
  go_enter Ybaf.func8, Ybaf.ntmps8
  go_wp2
  go_ret
  exact ⟨rfl, rfl⟩
end Go.Proofs.YbulkfpjsFmt
