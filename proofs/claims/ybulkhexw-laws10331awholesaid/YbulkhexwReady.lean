/-
  WHAT STANDS BEHIND THE FIRST LOOP, once the count of the parked and the owner are laid.
-/
import Derived.Test.YbulkhexwInv
namespace Go.Proofs.Ybulkhexw
open Go.RowKit Go.Maps

structure Ready (base bb n mb qb ob : Nat) (PL : List (Rq × Nat)) (D : DataW Value) (V : Int → Value) (pk : Int) (w : World) : Prop where
  man : ManAt w mb qb ob pk
  que : w.ownsMap Yba.prog 3 RV qb PL.length D
  look : ∀ x, KI x → D.atKey (.int .i64 x) (.held (.slice none 0 0)) = .held (V x)
  row : ∀ x, w.ownsRow base 30 1 (V x) (queueOf PL x).length ((queueOf PL x).map ptrOf)
  reqs : ∀ p ∈ PL, ReqBlk w p
  built : w.rowIs bb 30 n (builtAt PL)

variable {base bb n mb qb ob : Nat} {PL : List (Rq × Nat)} {D : DataW Value} {V : Int → Value} {w : World} {pk : Int}

theorem Inv.ready (I : Inv base bb n mb qb ob PL PL D V w) {w' : World} (hm : ManAt w' mb qb ob pk) (hb : ∀ i, i < w.heap.size → i ≠ mb → i ≠ ob → w'.heap[i]? = w.heap[i]?) : Ready base bb n mb qb ob PL D V pk w' := by
  have hbm : ∀ (i : Nat) (c : Array Value) (t : TypeId), w.heap[i]? = some (.cells c t (0, 0)) → t ≠ 51 → w'.heap[i]? = w.heap[i]? := by
    intro i c t h1 h2
    refine hb i (lt_of_block h1) (fun e => ?_) (fun e => ?_)
    · obtain ⟨c2, h3, _⟩ := I.man
      rw [← e, h1] at h3
      simp at h3
      exact h2 h3.2
    · obtain ⟨es, cl, h3, _⟩ := I.own
      rw [← e, h1] at h3
      simp at h3
  refine ⟨hm, map_of_block I.que (hb _ I.que.lt (fun e => ?_) I.neq), I.look, fun x => row_of_block (I.row x) (fun g hg => ?_), fun p hp => ?_, ?_⟩
  · obtain ⟨c2, h3, _⟩ := I.man
    obtain ⟨es, cl, h4, _⟩ := I.que
    rw [e, h3] at h4
    simp at h4
  · obtain ⟨cur, hc⟩ := row_kind (I.row x) hg
    exact hbm g cur 30 hc (by decide)
  · obtain ⟨c, h1, h2⟩ := I.reqs p hp
    exact ⟨c, (hbm _ c 41 h1 (by decide)).trans h1, h2⟩
  · obtain ⟨c, h1, h2⟩ := I.built
    exact ⟨c, (hbm _ c 30 h1 (by decide)).trans h1, h2⟩

theorem Ready.below (I : Ready base bb n mb qb ob PL D V pk w) {w' : World} (hb : Below w.heap.size w w') : Ready base bb n mb qb ob PL D V pk w' where
  man := I.man.of_block (hb.block _ I.man.lt)
  que := map_of_block I.que (hb.block _ I.que.lt)
  look := I.look
  row := fun x => row_of_block (I.row x) (fun g hg => hb.block g ((I.row x).lt g hg).2)
  reqs := fun p hp => (I.reqs p hp).of_block (hb.block _ (I.reqs p hp).lt)
  built := I.built.of_block (hb.block _ I.built.lt)

/-- FOR Blocks. -/
theorem Ready.queues (I : Ready base bb n mb qb ob PL D V pk w) (x : Int) (hx : KI x) : ∃ a c, D.atKey (.int .i64 x) (.held (.slice none 0 0)) = .held (.slice a (queueOf PL x).length c) ∧ QueueAt w a (queueOf PL x) := by
  rcases (I.row x).2 with ⟨hv, h0⟩ | ⟨g, cap, cur, hv, _, hh, hcap, _, hcur, htk⟩
  · refine ⟨none, 0, ?_, fun h => absurd h (by omega)⟩
    rw [I.look x hx, hv, h0]
  · refine ⟨some ⟨g, 0, none⟩, cap, ?_, fun _ => ⟨g, rfl, fun j p hj => ?_⟩⟩
    · rw [I.look x hx, hv]
    · have hjl : j < (queueOf PL x).length := (List.getElem?_eq_some_iff.1 hj).1
      have h1 : ((queueOf PL x).map ptrOf)[j]? = some (ptrOf p) := by rw [List.getElem?_map, hj]; rfl
      rw [← htk, List.getElem?_take_of_lt (by omega)] at h1
      have h2 : cur[j]? = some (ptrOf p) := by simpa using h1
      simp only [World.cell?, hh, h2]
      rfl
theorem Ready.reqAt (I : Ready base bb n mb qb ob PL D V pk w) (x : Int) (p : Rq × Nat) (hp : p ∈ queueOf PL x) : ReqAt w p.2 p.1 := (I.reqs p (List.mem_filter.1 hp).1).at'

/-- What the last loop reads. -/
theorem Ready.tail (I : Ready base bb n mb qb ob PL D V pk w) (R : Nat → Raw) (hlen : PL.length = n) (hnorm : ∀ j p, PL[j]? = some p → p.1 = norm (R j)) (j : Nat) (hj : j < n) :
    ∃ rb, w.cell? ⟨bb, j, none⟩ = some (.pointer (some ⟨rb, 0, none⟩)) ∧ ReqAt w rb (norm (R j)) := by
  obtain ⟨p, hp⟩ : ∃ p, PL[j]? = some p := ⟨_, List.getElem?_eq_getElem (by omega)⟩
  refine ⟨p.2, ?_, ?_⟩
  · rw [I.built.cell hj]
    simp only [builtAt, hp]
    rfl
  · rw [← hnorm j p hp]
    exact (I.reqs p (List.mem_of_getElem? hp)).at'

/-- No owner is laid. -/
theorem Inv.noOwner (I : Inv base bb n mb qb ob PL PL D V w) (o : Obj) :
    Ready base bb n mb qb ob PL D V pk ((w.setCell ⟨mb, 11, none⟩ (.int .i64 pk)).alloc o) ∧ ((w.setCell ⟨mb, 11, none⟩ (.int .i64 pk)).alloc o).ownsMap Yba.prog 3 RV ob 0 (.map []) := by
  have hne : ob ≠ mb := by
    obtain ⟨c2, h3, _⟩ := I.man
    obtain ⟨es, cl, h4, _⟩ := I.own
    intro e
    rw [e, h3] at h4
    simp at h4
  refine ⟨I.ready ((I.man.set11).below ((Below.refl _ _).alloc (Nat.le_refl _) o) (by simpa using I.man.lt)) (fun i hi h1 h2 => ?_), (I.own.setCell (by exact hne) _).alloc o⟩
  rw [Below.heap_alloc _ _ _ (by simpa using hi), Below.heap_setCell _ _ _ _ (by exact h1)]

/-- The owner is laid: the map's store, then the count. -/
theorem Inv.owner (I : Inv base bb n mb qb ob PL PL D V w) {w1 w2 : World} (hb1 : Below w.heap.size w w1) (hg : w1.grownBy w2 (some ob)) {n' : Nat} {Do : DataW Value} (ho : w2.ownsMap Yba.prog 3 RV ob n' Do) :
    Ready base bb n mb qb ob PL D V pk (w2.setCell ⟨mb, 11, none⟩ (.int .i64 pk)) ∧ (w2.setCell ⟨mb, 11, none⟩ (.int .i64 pk)).ownsMap Yba.prog 3 RV ob n' Do := by
  have hne : ob ≠ mb := by
    obtain ⟨c2, h3, _⟩ := I.man
    obtain ⟨es, cl, h4, _⟩ := I.own
    intro e
    rw [e, h3] at h4
    simp at h4
  have hs := hb1.size
  have hm2 : ManAt w2 mb qb ob 0 := (I.man.below hb1 I.man.lt).of_block (hg.block _ (by have := I.man.lt; omega) (fun e => hne (by cases e; rfl)))
  refine ⟨I.ready hm2.set11 (fun i hi h1 h2 => ?_), ho.setCell (by exact hne) _⟩
  rw [Below.heap_setCell _ _ _ _ (by exact h1), hg.block i (by omega) (by intro e; cases e; exact h2 rfl)]
  exact hb1.block i hi
end Go.Proofs.Ybulkhexw
