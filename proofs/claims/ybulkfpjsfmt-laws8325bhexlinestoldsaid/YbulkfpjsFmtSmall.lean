/-
  THE CONTRACTS OF THE SMALL CALLEES: zzs8325bval, isHexDigit, errors.New; and the closed facts for fmt.errorf.
-/
import Derived.Test.YbulkfpjsFmtRows
import Derived.Test.YbulkfpjsFmtPlain
import Derived.Stop.CallBack
import Derived.Stop.IfaceNil
import GoSem.ClaimData
import Derived.WalkKit
import Derived.WalkSpells
import Derived.WalkLawsBesides
import Derived.Handy
namespace Go.Proofs.YbulkfpjsFmt
open Go.RowKit Go.Extern.Stop Go.Stop Go.Extern

theorem hid {p : Prop} (h : p) : Hid p := h
theorem ret_two {a b : Int} {x : Bool} (h : a = b) : Ending.returned (.tuple #[.int .u8 a, .bool x]) = .returned (.tuple #[.int .u8 b, .bool x]) := by rw [h]
theorem no_ways {c : Int} (h : ¬ (48 ≤ c ∧ c ≤ 57) ∧ ¬ (97 ≤ c ∧ c ≤ 102) ∧ ¬ (65 ≤ c ∧ c ≤ 70)) : (c < 48) ∨ (57 < c ∧ c < 65) ∨ (70 < c ∧ c < 97) ∨ 102 < c := by omega

set_option maxHeartbeats 400000 in
theorem val_any (c : Int) (w : World) (h0 : 0 ≤ c) (h1 : c < 256) :
    Calls Ybaf.prog 5 #[.int .u8 c] w fun e w' => e = .returned (.tuple #[.int .u8 (hv c), .bool (hexB c)]) ∧ w = w' := by
  rcases hex_ways c with h | h | h | h
  · have hx := hexB_1 h.1 h.2
    rw [hx.1, hx.2]
    obtain ⟨g1, g2⟩ := h
    clear hx
    go_enter Ybaf.func5, Ybaf.ntmps5
    go_wp2
    go_ret2
    exact ⟨rfl, rfl⟩
  · have hx := hexB_2 h.1 h.2
    rw [hx.1, hx.2]
    obtain ⟨g1, g2⟩ := h
    have g3 : ¬ c ≤ 57 := by omega
    clear hx
    go_enter Ybaf.func5, Ybaf.ntmps5
    go_wp2
    go_ret2
    exact ⟨ret_two (by omega), rfl⟩
  · have hx := hexB_3 h.1 h.2
    rw [hx.1, hx.2]
    obtain ⟨g1, g2⟩ := h
    have g3 : ¬ c ≤ 57 := by omega
    have g4 : ¬ 97 ≤ c := by omega
    clear hx
    go_enter Ybaf.func5, Ybaf.ntmps5
    go_wp2
    go_ret2
    exact ⟨ret_two (by omega), rfl⟩
  · have hx := hexB_no h.1 h.2.1 h.2.2
    rw [hx.1, hx.2]
    clear hx
    rcases no_ways h with g | ⟨g, g'⟩ | ⟨g, g'⟩ | g <;> clear h
    · have k1 : ¬ 48 ≤ c := by omega
      have k2 : ¬ 97 ≤ c := by omega
      have k3 : ¬ 65 ≤ c := by omega
      go_enter Ybaf.func5, Ybaf.ntmps5
      go_wp2
      go_ret2
      exact ⟨rfl, rfl⟩
    · have k1 : 48 ≤ c := by omega
      have k4 : ¬ c ≤ 57 := by omega
      have k2 : ¬ 97 ≤ c := by omega
      have k3 : ¬ 65 ≤ c := by omega
      go_enter Ybaf.func5, Ybaf.ntmps5
      go_wp2
      go_ret2
      exact ⟨rfl, rfl⟩
    · have k1 : 48 ≤ c := by omega
      have k4 : ¬ c ≤ 57 := by omega
      have k2 : ¬ 97 ≤ c := by omega
      have k3 : 65 ≤ c := by omega
      have k5 : ¬ c ≤ 70 := by omega
      go_enter Ybaf.func5, Ybaf.ntmps5
      go_wp2
      go_ret2
      exact ⟨rfl, rfl⟩
    · have k1 : 48 ≤ c := by omega
      have k4 : ¬ c ≤ 57 := by omega
      have k2 : 97 ≤ c := by omega
      have k6 : ¬ c ≤ 102 := by omega
      have k3 : 65 ≤ c := by omega
      have k5 : ¬ c ≤ 70 := by omega
      go_enter Ybaf.func5, Ybaf.ntmps5
      go_wp2
      go_ret2
      exact ⟨rfl, rfl⟩

set_option maxHeartbeats 400000 in
theorem isHex_any (c : Int) (w : World) (h0 : 0 ≤ c) (h1 : c < 256) :
    Calls Ybaf.prog 10 #[.int .u8 c] w fun e w' => e = .returned (.bool (hexB c)) ∧ w = w' := by
  rcases hex_ways c with h | h | h | h
  · have hx := hexB_1 h.1 h.2
    rw [hx.1]
    obtain ⟨g1, g2⟩ := h
    clear hx
    go_enter Ybaf.func10, Ybaf.ntmps10
    go_wp2
    go_ret
    exact ⟨rfl, rfl⟩
  · have hx := hexB_2 h.1 h.2
    rw [hx.1]
    obtain ⟨g1, g2⟩ := h
    have g3 : ¬ c ≤ 57 := by omega
    clear hx
    go_enter Ybaf.func10, Ybaf.ntmps10
    go_wp2
    go_ret
    exact ⟨rfl, rfl⟩
  · have hx := hexB_3 h.1 h.2
    rw [hx.1]
    obtain ⟨g1, g2⟩ := h
    have g3 : ¬ c ≤ 57 := by omega
    have g4 : ¬ 97 ≤ c := by omega
    clear hx
    go_enter Ybaf.func10, Ybaf.ntmps10
    go_wp2
    go_ret
    exact ⟨rfl, rfl⟩
  · have hx := hexB_no h.1 h.2.1 h.2.2
    rw [hx.1]
    clear hx
    rcases no_ways h with g | ⟨g, g'⟩ | ⟨g, g'⟩ | g <;> clear h
    · have k1 : ¬ 48 ≤ c := by omega
      have k2 : ¬ 97 ≤ c := by omega
      have k3 : ¬ 65 ≤ c := by omega
      go_enter Ybaf.func10, Ybaf.ntmps10
      go_wp2
      go_ret
      exact ⟨rfl, rfl⟩
    · have k1 : 48 ≤ c := by omega
      have k4 : ¬ c ≤ 57 := by omega
      have k2 : ¬ 97 ≤ c := by omega
      have k3 : ¬ 65 ≤ c := by omega
      go_enter Ybaf.func10, Ybaf.ntmps10
      go_wp2
      go_ret
      exact ⟨rfl, rfl⟩
    · have k1 : 48 ≤ c := by omega
      have k4 : ¬ c ≤ 57 := by omega
      have k2 : ¬ 97 ≤ c := by omega
      have k3 : 65 ≤ c := by omega
      have k5 : ¬ c ≤ 70 := by omega
      go_enter Ybaf.func10, Ybaf.ntmps10
      go_wp2
      go_ret
      exact ⟨rfl, rfl⟩
    · have k1 : 48 ≤ c := by omega
      have k4 : ¬ c ≤ 57 := by omega
      have k2 : 97 ≤ c := by omega
      have k6 : ¬ c ≤ 102 := by omega
      have k3 : 65 ≤ c := by omega
      have k5 : ¬ c ≤ 70 := by omega
      go_enter Ybaf.func10, Ybaf.ntmps10
      go_wp2
      go_ret
      exact ⟨rfl, rfl⟩

set_option maxHeartbeats 400000 in
theorem new_any (s : ByteArray) (w : World) :
    Calls Ybaf.prog 9 #[.string s] w fun e w' => e = .returned (.iface 38 (.pointer (some ⟨w.heap.size, 0, none⟩))) ∧ w' = w.alloc (.cells #[.string s] 40) := by
  go_enter Ybaf.func9, Ybaf.ntmps9
  go_wp2
  go_ret
  exact ⟨rfl, rfl⟩
end Go.Proofs.YbulkfpjsFmt
