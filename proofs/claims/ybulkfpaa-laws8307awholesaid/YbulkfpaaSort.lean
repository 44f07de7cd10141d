/-
  slices.SortFunc AND slices.Equal AT ROWS OF ACCOUNTS, off the shelf.
-/
import Derived.Test.YbulkfpaaAcc
namespace Go.Proofs.Ybulkfpaa
open Go.RowKit Go.Shelf Go.Lib Go.Sort

theorem flat_get : ∀ (G : List (ByteArray × Int)) (t : Nat), t < G.length * 2 → (G.flatMap encA)[t]? = some ((encA (G[t / 2]!))[t % 2]!)
  | [], t, h => by simp at h
  | x :: G, 0, _ => by simp [encA]
  | x :: G, 1, _ => by simp [encA]
  | x :: G, t + 2, h => by
    have ih := flat_get G t (by simp at h; omega)
    have e1 : (t + 2) / 2 = t / 2 + 1 := by omega
    have e2 : (t + 2) % 2 = t % 2 := by omega
    rw [e1, e2, List.flatMap_cons, List.getElem?_append_right (by simp [encA])]
    have e3 : t + 2 - (encA x).length = t := by simp [encA]
    rw [e3, ih]
    simp

/-- A row that the call owns, as the sort asks it. -/
theorem holds_of_row {w : World} {base g cap : Nat} {G : List (ByteArray × Int)} (h : w.ownsRow base 28 2 (.slice (some ⟨g, 0, none⟩) G.length cap) G.length (G.flatMap encA)) : HoldsK encA 2 w g 0 G.toArray := by
  rcases h.2 with ⟨h1, _⟩ | ⟨g', cap', cur, h1, _, hh, _, _, _, htk⟩
  · cases h1
  · cases h1
    intro t ht
    rw [size_flatK] at ht
    have ht' : t < G.length * 2 := by simpa using ht
    rw [get_flatK _ _ _ _ ht]
    have hg := flat_get G t ht'
    rw [← htk, List.getElem?_take_of_lt ht'] at hg
    have e : (G.toArray)[t / 2]! = G[t / 2]! := by simp
    rw [e]
    constructor
    · simp only [World.cell?, hh, Nat.zero_add]
      simpa using hg
    · simp [World.frozen?, hh]

theorem heap_putRow_other (w : World) (blk off : Nat) (F : Array Value) (i : Nat) (h : i ≠ blk) : (putRow id w blk off F).heap[i]? = w.heap[i]? := by
  simp [putRow, mapBlock, Array.getElem?_modify, Ne.symm h]

theorem grown_sort (w : World) (g n : Nat) (d : Array (ByteArray × Int)) (os : Array Obj) : w.grownBy (sortWorldK encA 2 w g 0 n d os) (some g) := by
  refine ⟨rfl, rfl, rfl, size_sortWorldK_c encA 2 w g 0 n d os, fun i hi hne => ?_⟩
  unfold sortWorldK
  rw [heap_grow_old _ _ (by rw [size_putRowK]; exact hi)]
  exact heap_putRow_other _ _ _ _ _ (fun e => hne (by rw [e]))

/-- 'less' of two names. -/
def ltB (s t : ByteArray) : Bool := decide (s.toList < t.toList)
theorem toList_inj {s t : ByteArray} (h : s.toList = t.toList) : s = t := by
  rw [ByteArray.toList_eq s, ByteArray.toList_eq t] at h
  exact Go.WideShapes.bytes_inj h
theorem ltB_total (s t : ByteArray) (h1 : ltB s t = false) (h2 : ltB t s = false) : s = t := by
  simp only [ltB, decide_eq_false_iff_not] at h1 h2
  exact toList_inj (List.le_antisymm (List.not_lt.1 h2) (List.not_lt.1 h1))

theorem sorted_list {d : Array (ByteArray × Int)} (h : SortedIn (ltOf cfA) 0 d.size d) : d.toList.Pairwise fun x y => ltB y.1 x.1 = false := by
  rw [List.pairwise_iff_getElem]
  intro i j hi hj hij
  have h1 := h i j (Nat.zero_le _) hij (by simpa using hj)
  rw [getElem!_pos d i (by simpa using hi), getElem!_pos d j (by simpa using hj), lt_A] at h1
  exact h1

theorem sort_any (g cap : Nat) (G : List (ByteArray × Int)) (w : World) (hH : HoldsK encA 2 w g 0 G.toArray) (hg : g < w.heap.size) (hn : G.length ≤ 4096) :
    Calls Yba.prog 8 #[.slice (some ⟨g, 0, none⟩) G.length cap, .func (.func 9) #[] #[]] w fun e w' => e = .returned (.tuple #[]) ∧ ∃ G' : List (ByteArray × Int), G'.Perm G ∧ (G'.Pairwise fun x y => ltB y.1 x.1 = false) ∧ HoldsK encA 2 w' g 0 G'.toArray ∧ w.grownBy w' (some g) := by
  have eg : ∀ args w, (callFunc 9 args).run Yba.prog w = .ok (.enter 9 args) w := enters_of Yba.func9 (by kernel_rfl) rfl
  have hcon := AnyQ.slices_SortFunc Yba.sortAcc 2 Yba.isAgg28 Yba.sizeOf28 encA (fun _ => rfl) (fun x v hv => by simp [encA] at hv; rcases hv with rfl | rfl <;> rfl) cfA swoA 9 #[] g 0 cap G.toArray w eg (cmpLays9 g 0 G.toArray.size w) hH hg (by simp; omega)
  change Calls Yba.prog 8 _ _ _ at hcon
  refine hcon.mono ?_
  rintro e w' ⟨rfl, d', n, os, hp, hs, rfl⟩
  have hsz : d'.size = G.length := by simpa using hp.1
  refine ⟨rfl, d'.toList, ?_, sorted_list (by rw [hsz]; simpa using hs), ?_, grown_sort _ _ _ _ _⟩
  · have h1 := hp.2.2
    have e1 : d'.extract 0 G.toArray.size = d' := by
      have : G.toArray.size = d'.size := by rw [hsz]; simp
      rw [this]; simp
    have e2 : G.toArray.extract 0 G.toArray.size = G.toArray := by simp
    rw [e1, e2] at h1
    simpa using h1
  · rw [Array.toArray_toList]
    exact holdsK_sortWorldK_c encA 2 w g 0 G.toArray d' n os hH hg (by rw [hsz]; simp)

theorem cells_of_holds {w : World} {g : Nat} {G : List (ByteArray × Int)} (h : HoldsK encA 2 w g 0 G.toArray) : ∀ j, j < G.length → ∀ i v, (encA G[j]!)[i]? = some v → w.cell? ⟨g, 0 + j * 2 + i, none⟩ = some v := by
  intro j hj i v hv
  have hi : i < 2 := by have := (List.getElem?_eq_some_iff.1 hv).1; simpa [encA] using this
  have h1 := (HoldsK.cell h (i := j) (c := i) (by simpa using hj) hi).1
  rw [h1]
  have e : (G.toArray)[j]! = G[j]! := by simp
  rw [e, getElem!_pos (encA G[j]!) i (by simpa [encA] using hi)]
  rw [List.getElem?_eq_getElem (by simpa [encA] using hi)] at hv
  exact hv

theorem allEq_refl (G : List (ByteArray × Int)) : Lib.allEq (fun x y : ByteArray × Int => x.1.toList == y.1.toList && x.2 == y.2) G G = true := allEq_all _ G G rfl (fun _ _ => by simp)

/-- Two rows that hold one list are equal. -/
theorem equal_any (g1 c1 g2 c2 : Nat) (G : List (ByteArray × Int)) (w : World) (h1 : HoldsK encA 2 w g1 0 G.toArray) (h2 : HoldsK encA 2 w g2 0 G.toArray) (hn : G.length ≤ 4096) :
    Calls Yba.prog 10 #[.slice (some ⟨g1, 0, none⟩) G.length c1, .slice (some ⟨g2, 0, none⟩) G.length c2] w fun e w' => e = .returned (.bool true) ∧ ∃ q, w' = w.drewN q := by
  have hcon := AnyQ.slices_Equal Yba.eqAcc 2 Yba.isAgg28 Yba.sizeOf28 encA (fun _ => rfl) _ neqA g1 0 G.length c1 g2 0 G.length c2 G G w (Nat.le_refl _) (Nat.le_refl _) (by omega) (by omega) (cells_of_holds h1) (cells_of_holds h2)
  change Calls Yba.prog 10 _ _ _ at hcon
  rw [List.take_length, allEq_refl] at hcon
  exact hcon
end Go.Proofs.Ybulkfpaa
