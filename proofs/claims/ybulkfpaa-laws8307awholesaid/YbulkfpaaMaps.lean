/-
  THE MAP: the kit's 'ownsMap' at the reading that hands the value itself on, and what it holds once the first k entries are laid.
-/
import Derived.Test.YbulkfpaaSmall
import Derived.Maps.Own
import Derived.Maps.OwnOps
import Derived.Maps.OwnSet
import Derived.Maps.RangeWalk
import Derived.Maps.Views
import Derived.StringKeys
namespace Go.Proofs.Ybulkfpaa
open Go.RowKit Go.Maps

/-- An element reads as itself. -/
def RV (v : Value) : Option (DataW Value × List MemPlace) := some (.held v, [])
theorem law9 : Keyed Yba.prog 9 := string_keyed Yba.underlying9
/-- A key's word. -/
def kl (s : ByteArray) : Lit := .string s.data.toList
theorem kl_key (s : ByteArray) : WideAt.IsKeyLit (kl s) := trivial
theorem kl_inj {s t : ByteArray} (h : kl s = kl t) : s = t := by
  obtain ⟨a⟩ := s
  obtain ⟨b⟩ := t
  simp only [kl, Lit.string.injEq] at h
  rw [Array.toList_inj.1 h]
theorem key9 {s : ByteArray} (h : s.size ≤ maxLen) : keyOf Yba.prog 9 (.string s) = some (kl s) := Go.WideMaps.keyOf_string_mk Yba.underlying9 h
theorem invK9 (key : Value) (k : Lit) (h : keyOf Yba.prog 9 key = some k) : ∃ s : ByteArray, key = .string s := by
  rw [keyOf_string Yba.underlying9] at h
  cases key <;> simp [mapKey, Yba.underlying9] at h
  exact ⟨_, rfl⟩
theorem keyEq9 {s : ByteArray} {k : Lit} (h : keyOf Yba.prog 9 (.string s) = some k) : k = kl s := by
  rw [keyOf_string Yba.underlying9] at h
  simp [mapKey, Yba.underlying9] at h
  unfold kl
  simp [h]
theorem map_of_block {w w' : World} {b n : Nat} {D : DataW Value} (h : w.ownsMap Yba.prog 9 RV b n D) (hb : w'.heap[b]? = w.heap[b]?) : w'.ownsMap Yba.prog 9 RV b n D := by
  obtain ⟨es, clock, h1, h2⟩ := h
  exact ⟨es, clock, hb.trans h1, h2⟩

/-- The map's word D holds what F says. -/
structure Holds (F : ByteArray → Option Int) (D : DataW Value) : Prop where
  has : ∀ s, Maps.has D (kl s) = (F s).isSome
  look : ∀ s b, F s = some b → ∀ z, D.atKey (kl s) z = .held (.int .i64 b)

theorem Holds.start (S : Nat → ByteArray) (B : Nat → Int) : Holds (val S B 0) (.map []) := ⟨fun _ => rfl, fun _ _ h => by cases h⟩
theorem Holds.step {S : Nat → ByteArray} {B : Nat → Int} {k : Nat} {D : DataW Value} (h : Holds (val S B k) D) (hm : IsMap D) : Holds (val S B (k + 1)) (D.put (kl (S k)) (.held (.int .i64 (B k)))) := by
  refine ⟨fun s => ?_, fun s b hs z => ?_⟩
  · by_cases e : S k = s
    · rw [← e, has_put_same hm (kl_key _), val, if_pos rfl]
      rfl
    · rw [has_put_other (fun h2 => e (kl_inj h2).symm), h.has s, val, if_neg e]
  · by_cases e : S k = s
    · rw [val, if_pos e] at hs
      rw [← e, atKey_put_same hm (kl_key _)]
      cases hs
      rfl
    · rw [val, if_neg e] at hs
      rw [atKey_put_other (fun h2 => e (kl_inj h2).symm)]
      exact h.look s b hs z
theorem size_step {S : Nat → ByteArray} {B : Nat → Int} {k : Nat} {D : DataW Value} (h : Holds (val S B k) D) (ht : Tidy D) (hs : Maps.size D = (keysL S B k).length) (d : DataW Value) : Maps.size (D.put (kl (S k)) d) = (keysL S B (k + 1)).length := by
  rw [size_put ht, h.has, keysL, hs]
  split <;> simp
theorem zero2 (W : World) : (zeroValue 2).run Yba.prog W = .ok (.int .i64 0) W := by kernel_rfl
/-- 'v, ok := m[s]' where the key is there. -/
theorem look_there {w : World} {b n : Nat} {D : DataW Value} {F : ByteArray → Option Int} (h : w.ownsMap Yba.prog 9 RV b n D) (hF : Holds F D) {s : ByteArray} {v : Int} (hs : s.size ≤ maxLen) (hv : F s = some v) :
    (Instr.lookup 24 (.map (some b)) (.string s) true).run Yba.prog w = .ok (.tuple #[.int .i64 v, .bool true]) w := by
  obtain ⟨u, ps, hrun, hu⟩ := h.look_ok law9 Yba.underlying24 (zero2 w) (zd := .held (.int .i64 0)) (zp := []) rfl (key9 hs)
  rw [hF.look s v hv] at hu
  simp only [RV, Option.some.injEq, Prod.mk.injEq, DataW.held.injEq] at hu
  rw [hrun, hu.1, hF.has s, hv]
  rfl
end Go.Proofs.Ybulkfpaa
