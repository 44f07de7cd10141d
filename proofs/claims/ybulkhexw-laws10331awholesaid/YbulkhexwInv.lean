/-
  WHAT THE LAW's FIRST LOOP HAS BUILT: the manager, its queues (rows of pointers that the call owns), the requests, the list 'built'.
-/
import Derived.Test.YbulkhexwTable
import Derived.Deep.OwnRows
import Derived.Deep.AppendLies
namespace Go.Proofs.Ybulkhexw
open Go.RowKit Go.Maps

/-- The pointer to a request. -/
def ptrOf (p : Rq × Nat) : Value := .pointer (some ⟨p.2, 0, none⟩)
/-- The request's block, whole. -/
def ReqBlk (w : World) (p : Rq × Nat) : Prop :=
  ∃ c, w.heap[p.2]? = some (.cells c 41 (0, 0)) ∧ c[0]? = some (.int .i64 p.1.owner) ∧ c[1]? = some (.int .i64 p.1.key) ∧ c[2]? = some (.int .i8 p.1.mode) ∧ c[3]? = some (.int .u64 p.1.num) ∧ c[4]? = some (.bool p.1.granted)
theorem ReqBlk.at' {w : World} {p : Rq × Nat} (h : ReqBlk w p) : ReqAt w p.2 p.1 := by
  obtain ⟨c, hb, h0, h1, h2, h3, h4⟩ := h
  refine ⟨?_, ?_, ?_, ?_, ?_⟩ <;> simp [World.cell?, hb, h0, h1, h2, h3, h4]
theorem ReqBlk.of_block {w w' : World} {p : Rq × Nat} (h : ReqBlk w p) (hb : w'.heap[p.2]? = w.heap[p.2]?) : ReqBlk w' p := by
  obtain ⟨c, h1, h2⟩ := h
  exact ⟨c, hb.trans h1, h2⟩
theorem ReqBlk.lt {w : World} {p : Rq × Nat} (h : ReqBlk w p) : p.2 < w.heap.size := by
  obtain ⟨c, h1, _⟩ := h
  exact lt_of_block h1

theorem row_of_block {w w' : World} {base : Nat} {v : Value} {n : Nat} {xs : List Value} (h : w.ownsRow base 30 1 v n xs) (hb : ∀ g, v.ownBlock = some g → w'.heap[g]? = w.heap[g]?) : w'.ownsRow base 30 1 v n xs := by
  obtain ⟨h1, h2⟩ := h
  refine ⟨h1, ?_⟩
  rcases h2 with h2 | ⟨g, cap, cur, rfl, hg, hh, r⟩
  · exact Or.inl h2
  · exact Or.inr ⟨g, cap, cur, rfl, hg, (hb g rfl).trans hh, r⟩
theorem row_kind {w : World} {base : Nat} {v : Value} {n g : Nat} {xs : List Value} (h : w.ownsRow base 30 1 v n xs) (hg : v.ownBlock = some g) : ∃ cur, w.heap[g]? = some (.cells cur 30 (0, 0)) := by
  rcases h.2 with ⟨rfl, _⟩ | ⟨g', cap, cur, rfl, _, hh, _⟩
  · cases hg
  · cases hg; exact ⟨cur, hh⟩
theorem map_of_block {w w' : World} {b n : Nat} {D : DataW Value} (h : w.ownsMap Yba.prog 3 RV b n D) (hb : w'.heap[b]? = w.heap[b]?) : w'.ownsMap Yba.prog 3 RV b n D := by
  obtain ⟨es, clock, h1, h2⟩ := h
  exact ⟨es, clock, hb.trans h1, h2⟩

/-- What 'built' holds at j. -/
def builtAt (PB : List (Rq × Nat)) (j : Nat) : Value := match PB[j]? with | some p => ptrOf p | none => .pointer none

structure Inv (base bb n mb qb ob : Nat) (PB PQ : List (Rq × Nat)) (D : DataW Value) (V : Int → Value) (w : World) : Prop where
  man : ManAt w mb qb ob 0
  own : w.ownsMap Yba.prog 3 RV ob 0 (.map [])
  que : w.ownsMap Yba.prog 3 RV qb PQ.length D
  look : ∀ x, KI x → D.atKey (.int .i64 x) (.held (.slice none 0 0)) = .held (V x)
  row : ∀ x, w.ownsRow base 30 1 (V x) (queueOf PQ x).length ((queueOf PQ x).map ptrOf)
  apart : ∀ x y g, (V x).ownBlock = some g → (V y).ownBlock = some g → x = y
  reqs : ∀ p ∈ PB, ReqBlk w p
  sub : ∀ p ∈ PQ, p ∈ PB
  built : w.rowIs bb 30 n (builtAt PB)
  lmb : mb < base
  lqb : qb < base
  lob : ob < base
  lbb : bb < base
  neq : qb ≠ ob
  lbase : base ≤ w.heap.size

variable {base bb n mb qb ob : Nat} {PB PQ : List (Rq × Nat)} {D : DataW Value} {V : Int → Value} {w : World}

theorem Inv.grows (I : Inv base bb n mb qb ob PB PQ D V w) {w' : World} (hs : w.heap.size ≤ w'.heap.size) (hb : ∀ i, i < w.heap.size → w'.heap[i]? = w.heap[i]?) : Inv base bb n mb qb ob PB PQ D V w' where
  man := I.man.of_block (hb _ I.man.lt)
  own := map_of_block I.own (hb _ I.own.lt)
  que := map_of_block I.que (hb _ I.que.lt)
  look := I.look
  row := fun x => row_of_block (I.row x) (fun g hg => hb g ((I.row x).lt g hg).2)
  apart := I.apart
  reqs := fun p hp => (I.reqs p hp).of_block (hb _ (I.reqs p hp).lt)
  sub := I.sub
  built := I.built.of_block (hb _ I.built.lt)
  lmb := I.lmb
  lqb := I.lqb
  lob := I.lob
  lbb := I.lbb
  neq := I.neq
  lbase := Nat.le_trans I.lbase hs
theorem Inv.below (I : Inv base bb n mb qb ob PB PQ D V w) {w' : World} (hb : Below w.heap.size w w') : Inv base bb n mb qb ob PB PQ D V w' := I.grows hb.size hb.block
theorem Inv.alloc (I : Inv base bb n mb qb ob PB PQ D V w) (o : Obj) : Inv base bb n mb qb ob PB PQ D V (w.alloc o) := I.below ((Below.refl _ _).alloc (Nat.le_refl _) o)
theorem Inv.drew (I : Inv base bb n mb qb ob PB PQ D V w) : Inv base bb n mb qb ob PB PQ D V w.drew := I.below (Below.refl _ _).drew

/-- 'built[i] = r'. -/
theorem Inv.store (I : Inv base bb n mb qb ob PB PQ D V w) {p : Rq × Nat} (hp : ReqBlk w p) (k : Nat) (hk : k = PB.length) {u : Value} (hu : u = ptrOf p) : Inv base bb n mb qb ob (PB ++ [p]) PQ D V (w.setCell ⟨bb, k, none⟩ u) := by
  have hb : ∀ i, i ≠ bb → (w.setCell ⟨bb, k, none⟩ u).heap[i]? = w.heap[i]? := fun i hi => Below.heap_setCell w ⟨bb, k, none⟩ u i hi
  obtain ⟨cB, hB1, _⟩ := I.built
  have hne : ∀ q, ReqBlk w q → q.2 ≠ bb := by
    rintro q ⟨c, h1, _⟩ e
    rw [e, hB1] at h1
    simp at h1
  have hs : (w.setCell ⟨bb, k, none⟩ u).heap.size = w.heap.size := by simp
  refine ⟨I.man.of_block (hb _ ?_), map_of_block I.own (hb _ ?_), map_of_block I.que (hb _ ?_), I.look, fun x => row_of_block (I.row x) (fun g hg => hb g ?_), I.apart, ?_, ?_, ?_, I.lmb, I.lqb, I.lob, I.lbb, I.neq, by rw [hs]; exact I.lbase⟩
  · obtain ⟨c, h1, _⟩ := I.man
    intro e
    rw [e, hB1] at h1
    simp at h1
  · obtain ⟨es, cl, h1, _⟩ := I.own
    intro e
    rw [e, hB1] at h1
    simp at h1
  · obtain ⟨es, cl, h1, _⟩ := I.que
    intro e
    rw [e, hB1] at h1
    simp at h1
  · have h1 := ((I.row x).lt g hg).1
    have := I.lbb
    omega
  · intro q hq
    rcases List.mem_append.1 hq with hq | hq
    · exact (I.reqs q hq).of_block (hb _ (hne q (I.reqs q hq)))
    · rw [List.mem_singleton.1 hq]
      exact hp.of_block (hb _ (hne p hp))
  · intro q hq
    exact List.mem_append.2 (.inl (I.sub q hq))
  · refine (I.built.set k u).congr fun j _ => ?_
    simp only [builtAt]
    by_cases hj : j = k
    · rw [if_pos hj, hj, hk, hu]
      simp
    · rw [if_neg hj]
      rcases Nat.lt_or_ge j PB.length with h | h
      · rw [List.getElem?_append_left h]
      · rw [List.getElem?_eq_none h, List.getElem?_eq_none (by simp; omega)]

/-- Behind the append, ahead of the map's store. -/
theorem Inv.mid (I : Inv base bb n mb qb ob PB PQ D V w) {w1 : World} {x : Int} (hg : w.grownBy w1 (V x).ownBlock) :
    ManAt w1 mb qb ob 0 ∧ w1.ownsMap Yba.prog 3 RV qb PQ.length D ∧ (∀ p, ReqBlk w p → ReqBlk w1 p) := by
  have far : ∀ i, i < w.heap.size → (∀ cur, w.heap[i]? ≠ some (.cells cur 30 (0, 0))) → w1.heap[i]? = w.heap[i]? := by
    intro i hi hk
    refine hg.block i hi fun e => ?_
    obtain ⟨cur, hc⟩ := row_kind (I.row x) e.symm
    exact hk cur hc
  refine ⟨I.man.of_block (far _ I.man.lt fun cur e => ?_), map_of_block I.que (far _ I.que.lt fun cur e => ?_), fun p hp => hp.of_block (far _ hp.lt fun cur e => ?_)⟩
  · obtain ⟨c, h1, _⟩ := I.man
    rw [e] at h1; simp at h1
  · obtain ⟨es, cl, h1, _⟩ := I.que
    rw [e] at h1; simp at h1
  · obtain ⟨c, h1, _⟩ := hp
    rw [e] at h1; simp at h1
/-- Behind the map's store too. -/
theorem Inv.mid2 (I : Inv base bb n mb qb ob PB PQ D V w) {w1 w2 : World} {x : Int} (hg : w.grownBy w1 (V x).ownBlock) (hg2 : w1.grownBy w2 (some qb)) :
    ManAt w2 mb qb ob 0 ∧ (∀ p, ReqBlk w p → ReqBlk w2 p) := by
  obtain ⟨h1, h2, h3⟩ := I.mid hg
  have far : ∀ i, i < w1.heap.size → (∀ es cl, w1.heap[i]? ≠ some (.map es cl)) → w2.heap[i]? = w1.heap[i]? := by
    intro i hi hk
    refine hg2.block i hi fun e => ?_
    cases e
    obtain ⟨es, cl, h, _⟩ := h2
    exact hk es cl h
  refine ⟨h1.of_block (far _ h1.lt fun es cl e => ?_), fun p hp => (h3 p hp).of_block (far _ (h3 p hp).lt fun es cl e => ?_)⟩
  · obtain ⟨c, h, _⟩ := h1
    rw [e] at h; simp at h
  · obtain ⟨c, h, _⟩ := h3 p hp
    rw [e] at h; simp at h

theorem queueOf_snoc (PQ : List (Rq × Nat)) (p : Rq × Nat) (y : Int) : queueOf (PQ ++ [p]) y = if p.1.key = y then queueOf PQ y ++ [p] else queueOf PQ y := by
  unfold queueOf
  rw [List.filter_append]
  by_cases h : p.1.key = y <;> simp [h]

/-- THE QUEUE's STEP. -/
theorem Inv.push (I : Inv base bb n mb qb ob PB PQ D V w) {p : Rq × Nat} (hp : p ∈ PB) {w1 w2 : World} {g cap : Nat}
    (hown : w1.ownsRow base 30 1 (.slice (some ⟨g, 0, none⟩) ((queueOf PQ p.1.key).length + 1) cap) ((queueOf PQ p.1.key).length + 1) ((queueOf PQ p.1.key).map ptrOf ++ [ptrOf p]))
    (hg : w.grownBy w1 (V p.1.key).ownBlock) (hat : (V p.1.key).ownBlock = some g ∨ g = w.heap.size)
    (hq2 : w2.ownsMap Yba.prog 3 RV qb (PQ.length + 1) (D.put (.int .i64 p.1.key) (.held (.slice (some ⟨g, 0, none⟩) ((queueOf PQ p.1.key).length + 1) cap)))) (hg2 : w1.grownBy w2 (some qb)) :
    Inv base bb n mb qb ob PB (PQ ++ [p]) (D.put (.int .i64 p.1.key) (.held (.slice (some ⟨g, 0, none⟩) ((queueOf PQ p.1.key).length + 1) cap)))
      (fun y => if y = p.1.key then .slice (some ⟨g, 0, none⟩) ((queueOf PQ p.1.key).length + 1) cap else V y) w2 := by
  obtain ⟨m1, m2⟩ := I.mid2 hg hg2
  have hls := hg.size
  have hls2 := hg2.size
  have hgb : base ≤ g ∧ g < w1.heap.size := hown.lt g rfl
  -- a block below the base is no row's
  have low : ∀ i, i < base → i ≠ qb → w2.heap[i]? = w.heap[i]? := by
    intro i hi hq
    have hib : i < w.heap.size := Nat.lt_of_lt_of_le hi I.lbase
    rw [hg2.block i (by omega) (by simpa using hq)]
    refine hg.block i hib fun e => ?_
    have := ((I.row p.1.key).lt i e.symm).1
    omega
  refine ⟨m1, map_of_block I.own (low _ I.lob (Ne.symm I.neq)), by simpa using hq2, ?_, ?_, ?_, fun q hq => m2 q (I.reqs q hq), ?_, I.built.of_block (low _ I.lbb ?_), I.lmb, I.lqb, I.lob, I.lbb, I.neq, by have := I.lbase; omega⟩
  · intro y hy
    by_cases e : y = p.1.key
    · subst e
      rw [if_pos rfl, atKey_put_same I.que.isMap (show WideAt.IsKeyLit (.int .i64 p.1.key) from trivial)]
    · rw [if_neg e, atKey_put_other (fun h => e (by cases h; rfl))]
      exact I.look y hy
  · intro y
    by_cases e : y = p.1.key
    · subst e
      rw [if_pos rfl, queueOf_snoc, if_pos rfl]
      have h1 : w2.ownsRow base 30 1 (.slice (some ⟨g, 0, none⟩) ((queueOf PQ p.1.key).length + 1) cap) ((queueOf PQ p.1.key).length + 1) ((queueOf PQ p.1.key).map ptrOf ++ [ptrOf p]) := by
        refine row_of_block hown fun g' hg' => hg2.block g' ?_ ?_
        · cases hg'; exact hgb.2
        · have hgg : g = g' := by simpa [Value.ownBlock] using hg'
          have := I.lqb
          intro e
          have : g' = qb := by simpa using e
          omega
      simpa using h1
    · rw [if_neg e, queueOf_snoc, if_neg (fun h => e h.symm)]
      refine row_of_block (I.row y) fun g' hg' => ?_
      have hlt := (I.row y).lt g' hg'
      rw [hg2.block g' (by omega) (by intro e2; cases e2; have := I.lqb; omega)]
      refine hg.block g' hlt.2 fun e2 => e (I.apart _ _ g' hg' e2.symm)
  · intro y z g' hy hz
    have new : ∀ t, t ≠ p.1.key → (V t).ownBlock = some g' → g' = g → False := by
      intro t ht h1 h2
      subst h2
      rcases hat with hat | hat
      · exact ht (I.apart _ _ _ h1 hat)
      · have := ((I.row t).lt _ h1).2
        omega
    by_cases e1 : y = p.1.key <;> by_cases e2 : z = p.1.key
    · rw [e1, e2]
    · rw [if_pos e1] at hy
      rw [if_neg e2] at hz
      exact (new z e2 hz (by cases hy; rfl)).elim
    · rw [if_neg e1] at hy
      rw [if_pos e2] at hz
      exact (new y e1 hy (by cases hz; rfl)).elim
    · rw [if_neg e1] at hy
      rw [if_neg e2] at hz
      exact I.apart _ _ _ hy hz
  · intro q hq
    rcases List.mem_append.1 hq with hq | hq
    · exact I.sub q hq
    · rw [List.mem_singleton.1 hq]; exact hp
  · obtain ⟨es, cl, h1, _⟩ := I.que
    obtain ⟨c, h2, _⟩ := I.built
    intro e
    rw [e, h1] at h2
    simp at h2

/-- AT THE START. -/
theorem Inv.start (hm : ManAt w mb qb ob 0) (ho : w.ownsMap Yba.prog 3 RV ob 0 (.map [])) (hq : w.ownsMap Yba.prog 3 RV qb 0 (.map [])) (hb : w.rowIs bb 30 n (fun _ => .pointer none)) (hne : qb ≠ ob) :
    Inv w.heap.size bb n mb qb ob [] [] (.map []) (fun _ => .slice none 0 0) w where
  man := hm
  own := ho
  que := hq
  look := fun _ _ => rfl
  row := fun _ => World.ownsRow_nil _ _ _ _
  apart := fun _ _ _ h => by cases h
  reqs := fun _ h => by cases h
  sub := fun _ h => by cases h
  built := hb.congr fun _ _ => rfl
  lmb := hm.lt
  lqb := hq.lt
  lob := ho.lt
  lbb := hb.lt
  neq := hne
  lbase := Nat.le_refl _

/-- FOR Blocks. -/
theorem Inv.queues (I : Inv base bb n mb qb ob PB PQ D V w) (x : Int) (hx : KI x) : ∃ a c, D.atKey (.int .i64 x) (.held (.slice none 0 0)) = .held (.slice a (queueOf PQ x).length c) ∧ QueueAt w a (queueOf PQ x) := by
  rcases (I.row x).2 with ⟨hv, h0⟩ | ⟨g, cap, cur, hv, _, hh, hcap, _, hcur, htk⟩
  · refine ⟨none, 0, ?_, fun h => absurd h (by omega)⟩
    rw [I.look x hx, hv, h0]
  · refine ⟨some ⟨g, 0, none⟩, cap, ?_, fun _ => ⟨g, rfl, fun j p hj => ?_⟩⟩
    · rw [I.look x hx, hv]
    · have hjl : j < (queueOf PQ x).length := (List.getElem?_eq_some_iff.1 hj).1
      have h1 : ((queueOf PQ x).map ptrOf)[j]? = some (ptrOf p) := by rw [List.getElem?_map, hj]; rfl
      rw [← htk, List.getElem?_take_of_lt (by omega)] at h1
      have h2 : cur[j]? = some (ptrOf p) := by simpa using h1
      simp only [World.cell?, hh, h2]
      rfl
theorem Inv.reqAt (I : Inv base bb n mb qb ob PB PQ D V w) (x : Int) (p : Rq × Nat) (hp : p ∈ queueOf PQ x) : ReqAt w p.2 p.1 := (I.reqs p (I.sub p (List.mem_filter.1 hp).1)).at'
end Go.Proofs.Ybulkhexw
