/-
  decodeLine AT EVERY LINE OF AT MOST 2^20 + 1 BYTES, in one contract.
-/
import Derived.Test.YbulkfpjsFmtGood
namespace Go.Proofs.YbulkfpjsFmt
open Go.RowKit Go.Extern.Stop Go.Stop Go.Extern

/-- Is the line accepted? -/
def goodB (xs : List Int) (n : Nat) : Bool := decide (0 < n) && (n % 2 == 0) && allHex xs n

/-- What decodeLine comes to. -/
def Decoded (xs : List Int) (n : Nat) (w : World) (e : Ending) (w' : World) : Prop :=
  (goodB xs n = true ∧ e = .returned (.tuple #[.slice (some ⟨w.heap.size, 0, none⟩) (n / 2) (n / 2), .nilIface]) ∧ Below w.heap.size w w' ∧
    ∃ f : Nat → Value, w'.rowIs w.heap.size 5 (n / 2) f ∧ ∀ i, i < n / 2 → f i = .int .u8 (hv (xs.getD (2 * i) 0) * 16 + hv (xs.getD (2 * i + 1) 0))) ∨
  (goodB xs n = false ∧ Refused w e w')

theorem dec_any (F : Interp) (p : Option Addr) (n c : Nat) (xs : List Int) (w : World) (ev : Value) (hF : F.answers w.tape) (hx : xs.length = n) (hbig : n ≤ 1048577)
    (hr : ∀ i, i < n → 0 ≤ xs.getD i 0 ∧ xs.getD i 0 < 256) (hin : Lib.BytesIn w p n xs) (hE : w.cell? ⟨0, 0, none⟩ = some ev) :
    Calls Ybaf.prog 6 #[.slice p n c] w (Decoded xs n w) := by
  by_cases hn : n = 0
  · subst hn
    refine (dec_empty p c w).mono fun e w' h => Or.inr ⟨?_, h⟩
    simp [goodB]
  · obtain ⟨b, o, rfl, hc⟩ := hin (by omega)
    by_cases hg : n % 2 = 0 ∧ allHex xs n = true
    · refine (dec_good b o n c (n / 2) xs w ev hx (by omega) hbig (by omega) hr hc hE hg.2).mono fun e w' h => Or.inl ⟨?_, h⟩
      simp [goodB, hg.1, hg.2]; omega
    · refine (dec_bad F b o n c xs w hF hx (by omega) hbig hr hc hg).mono fun e w' h => Or.inr ⟨?_, h⟩
      cases hh : goodB xs n with
      | false => rfl
      | true =>
        simp [goodB] at hh
        exact absurd ⟨by omega, hh.2⟩ hg
end Go.Proofs.YbulkfpjsFmt
