/-
  PLAIN LEAN, NO GO IN SIGHT: hexadecimal digits as numbers, and what a line of them decodes to.
-/
import Derived.Lib.HexFns2
namespace Go.Proofs.YbulkfpjsFmt

/-- Is the byte a hexadecimal digit? -/
def hexB (c : Int) : Bool := decide (48 ≤ c ∧ c ≤ 57) || decide (97 ≤ c ∧ c ≤ 102) || decide (65 ≤ c ∧ c ≤ 70)
/-- Its value; 0 if it is none. -/
def hv (c : Int) : Int := if 48 ≤ c ∧ c ≤ 57 then c - 48 else if 97 ≤ c ∧ c ≤ 102 then c - 87 else if 65 ≤ c ∧ c ≤ 70 then c - 55 else 0

theorem hexB_1 {c : Int} (h1 : 48 ≤ c) (h2 : c ≤ 57) : hexB c = true ∧ hv c = c - 48 := by
  simp [hexB, hv, h1, h2]
theorem hexB_2 {c : Int} (h1 : 97 ≤ c) (h2 : c ≤ 102) : hexB c = true ∧ hv c = c - 87 := by
  have : ¬ c ≤ 57 := by omega
  simp [hexB, hv, h1, h2, this]
theorem hexB_3 {c : Int} (h1 : 65 ≤ c) (h2 : c ≤ 70) : hexB c = true ∧ hv c = c - 55 := by
  have a : ¬ c ≤ 57 := by omega
  have b : ¬ 97 ≤ c := by omega
  simp [hexB, hv, h1, h2, a, b]
theorem hexB_no {c : Int} (h1 : ¬ (48 ≤ c ∧ c ≤ 57)) (h2 : ¬ (97 ≤ c ∧ c ≤ 102)) (h3 : ¬ (65 ≤ c ∧ c ≤ 70)) : hexB c = false ∧ hv c = 0 := by
  refine ⟨?_, by rw [hv, if_neg h1, if_neg h2, if_neg h3]⟩
  rw [hexB, decide_eq_false h1, decide_eq_false h2, decide_eq_false h3]; rfl
/-- The four ways. -/
theorem hex_ways (c : Int) : (48 ≤ c ∧ c ≤ 57) ∨ (97 ≤ c ∧ c ≤ 102) ∨ (65 ≤ c ∧ c ≤ 70) ∨ (¬ (48 ≤ c ∧ c ≤ 57) ∧ ¬ (97 ≤ c ∧ c ≤ 102) ∧ ¬ (65 ≤ c ∧ c ≤ 70)) := by omega
theorem hv_bounds (c : Int) : 0 ≤ hv c ∧ hv c ≤ 15 := by unfold hv; split <;> (try split) <;> (try split) <;> omega

set_option maxRecDepth 100000 in
theorem v_fin : ∀ a : Fin 256, hexB (a.val : Int) = true → (Lib.Hx.v (UInt8.ofNat a.val) : Int) = hv (a.val : Int) := by decide +kernel
theorem v_of_hex (c : Int) (h0 : 0 ≤ c) (h1 : c < 256) (h : hexB c = true) : (Lib.Hx.v (UInt8.ofNat c.toNat) : Int) = hv c := by
  have e : c = ((⟨c.toNat, by omega⟩ : Fin 256).val : Int) := by simp; omega
  have := v_fin ⟨c.toNat, by omega⟩ (by rw [← e]; exact h)
  rw [← e] at this
  exact this

/-- The first k are digits. -/
def allHex (xs : List Int) (k : Nat) : Bool := (xs.take k).all hexB
theorem allHex_zero (xs : List Int) : allHex xs 0 = true := by simp [allHex]
theorem allHex_succ (xs : List Int) (k : Nat) (h : k < xs.length) : allHex xs (k + 1) = (allHex xs k && hexB (xs.getD k 0)) := by
  unfold allHex
  rw [List.take_succ_eq_append_getElem h, List.all_append]
  simp [h]
theorem allHex_get {xs : List Int} {n : Nat} (h : allHex xs n = true) {i : Nat} (hi : i < n) (hl : i < xs.length) : hexB (xs.getD i 0) = true := by
  unfold allHex at h
  rw [List.all_eq_true] at h
  have : xs.getD i 0 = xs[i] := by simp [hl]
  rw [this]
  exact h _ (List.mem_take_iff_getElem.2 ⟨i, by omega, rfl⟩)
theorem allHex_mono {xs : List Int} {n k : Nat} (h : allHex xs n = true) (hk : k ≤ n) : allHex xs k = true := by
  unfold allHex at h ⊢
  rw [List.all_eq_true] at h ⊢
  intro x hx
  exact h x (List.take_subset_take_left _ hk hx)

/-- What encoding/hex.Decode gives at a line of digits of even length: pair by pair. -/
theorem decode_hex : ∀ (m : Nat) (xs : List Int), xs.length = 2 * m → (∀ x ∈ xs, 0 ≤ x ∧ x < 256 ∧ hexB x = true) →
    (Lib.Hx.decode (Lib.bytesOf xs)).2 = .ok ∧ (Lib.Hx.decode (Lib.bytesOf xs)).1.length = m ∧
      ∀ i, i < m → (((Lib.Hx.decode (Lib.bytesOf xs)).1[i]?.getD 0).toNat : Int) = hv (xs.getD (2 * i) 0) * 16 + hv (xs.getD (2 * i + 1) 0)
  | 0, xs, hl, _ => by
    have : xs = [] := List.eq_nil_of_length_eq_zero (by omega)
    subst this
    refine ⟨rfl, rfl, fun i hi => by omega⟩
  | m + 1, xs, hl, h => by
    obtain ⟨p, q, t, rfl⟩ : ∃ p q t, xs = p :: q :: t := by
      match xs, hl with
      | p :: q :: t, _ => exact ⟨p, q, t, rfl⟩
      | [_], h => simp at h; omega
      | [], h => simp at h
    have ht : t.length = 2 * m := by simp at hl; omega
    have ih := decode_hex m t ht (fun x hx => h x (by simp [hx]))
    have hp := h p (by simp)
    have hq := h q (by simp)
    have vp := v_of_hex p hp.1 hp.2.1 hp.2.2
    have vq := v_of_hex q hq.1 hq.2.1 hq.2.2
    have bp := hv_bounds p
    have bq := hv_bounds q
    have e : Lib.bytesOf (p :: q :: t) = UInt8.ofNat p.toNat :: UInt8.ofNat q.toNat :: Lib.bytesOf t := rfl
    rw [e, Lib.Hx.decode_two, if_neg (by omega), if_neg (by omega)]
    refine ⟨ih.1, by simp [ih.2.1], fun i hi => ?_⟩
    match i with
    | 0 =>
      simp only [List.getElem?_cons_zero, Option.getD_some, UInt8.toNat_ofNat']
      simp
      omega
    | j + 1 =>
      have := ih.2.2 j (by omega)
      have e1 : (p :: q :: t).getD (2 * (j + 1)) 0 = t.getD (2 * j) 0 := by
        rw [show 2 * (j + 1) = 2 * j + 1 + 1 by omega]; rfl
      have e2 : (p :: q :: t).getD (2 * (j + 1) + 1) 0 = t.getD (2 * j + 1) 0 := by
        rw [show 2 * (j + 1) + 1 = (2 * j + 1) + 1 + 1 by omega]; rfl
      rw [e1, e2, ← this]
      simp
end Go.Proofs.YbulkfpjsFmt
