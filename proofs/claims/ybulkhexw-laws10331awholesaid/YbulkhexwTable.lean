/-
  THE LAW's OWN TABLE (function 7), AND NewManager (4, 8, 14).
-/
import Derived.Test.YbulkhexwBlocks
import Derived.Deep.WholeRow
namespace Go.Proofs.Ybulkhexw
open Go.RowKit Go.Maps

theorem wpList_store_whole {P : Program} {ops : Array Oper} {rest : List Oper} {o : Oper} {a : Act} {W : World} {Q : Exit → Act → World → Prop} (hgd : o.guard = none) (ty : TypeId) (x y : Operand) (ho : o.op = .store ty x y)
    (b : Nat) (c' : Array Value) (hx : a.eval x = .pointer (some ⟨b, 0, none⟩)) (hy : a.eval y = .agg c') (hi : (P.info? ty).map (·.size) = some c'.size) (h1 : c'.all (·.oneCell') = true)
    (w : World) (c : Array Value) (hW : W = w.alloc (.cells c ty)) (hb : b = w.heap.size) (hc : c.size = c'.size)
    (h : wpList P ops Q rest (a.put o.dst undef) (w.alloc (.cells c' ty))) : wpList P ops Q (o :: rest) a W := by
  subst hb; subst hW
  refine wpList_plain hgd fun K hK => ?_
  unfold Oper.wp execOp
  simp only [ho, hx, hy, Instr.storeAt, Instr.sureAddr, Sem.run_bind, Sem.run_pure, Result.andThen_ok, run_storeVar_new w ty c c' hi hc h1]
  exact hK _ _ h

/-- A guard: the goal is a list of operations, none of them run yet. -/
theorem atList {P : Program} {ops : Array Oper} {rest : List Oper} {o : Oper} {a : Act} {W : World} {Q : Exit → Act → World → Prop} (h : wpList P ops Q (o :: rest) a W) : wpList P ops Q (o :: rest) a W := h

def tabT : Array Value := #[.bool false, .bool false, .bool false, .bool false, .bool false, .bool false, .bool false, .bool true, .bool false, .bool false, .bool false, .bool true, .bool true, .bool false, .bool false, .bool false, .bool false, .bool false, .bool false, .bool false, .bool false, .bool false, .bool false, .bool true, .bool false]
def tabZ : Array Value := #[.bool false, .bool false, .bool false, .bool false, .bool false, .bool false, .bool false, .bool false, .bool false, .bool false, .bool false, .bool false, .bool false, .bool false, .bool false, .bool false, .bool false, .bool false, .bool false, .bool false, .bool false, .bool false, .bool false, .bool false, .bool false]
theorem info71 : (Yba.prog.info? 71).map (·.size) = some tabT.size := by kernel_rfl

theorem one71 : tabT.all (·.oneCell') = true := by kernel_rfl

set_option maxHeartbeats 1000000 in
theorem tab_at (w : World) (a b : Int) (ha0 : 0 ≤ a) (ha : a < 256) (hb0 : 0 ≤ b) (hb : b < 256) (i j : Nat) (h1 : a % 5 = i) (h2 : b % 5 = j) (v : Bool)
    (hcell : (w.alloc (.cells tabT 71)).cell? ⟨w.heap.size, i * 5 + j, none⟩ = some (.bool v)) :
    Calls Yba.prog 7 #[.int .u8 a, .int .u8 b] w fun e w' => e = .returned (.bool v) ∧ Below w.heap.size w w' := by
  go_enter Yba.func7, Yba.ntmps7
  have HB := hid ((Below.refl w.heap.size w).alloc (Nat.le_refl _) (.cells tabT 71))
  have HC := hid hcell
  clear hcell
  go_wp2_with (with_reducible refine atList ?_; refine wpList_store_whole rfl 71 (.tmp 5) (.tmp 11) rfl w.heap.size tabT rfl rfl info71 one71 w tabZ rfl rfl rfl ?_; generalize hwT : w.alloc (.cells tabT 71) = wT at HB HC ⊢; have hcT := HC.out; clear hwT)
  go_ret
  exact ⟨rfl, HB.out⟩
theorem tab_cell (i j : Nat) (hi : i < 5) (hj : j < 5) : tabT[i * 5 + j]? = some (.bool (waits i j)) := by
  have h : ∀ (i j : Fin 5), tabT[i.1 * 5 + j.1]? = some (.bool (waits i.1 j.1)) := by
    intro i j
    match i, j with
    | ⟨0, _⟩, ⟨0, _⟩ | ⟨0, _⟩, ⟨1, _⟩ | ⟨0, _⟩, ⟨2, _⟩ | ⟨0, _⟩, ⟨3, _⟩ | ⟨0, _⟩, ⟨4, _⟩
    | ⟨1, _⟩, ⟨0, _⟩ | ⟨1, _⟩, ⟨1, _⟩ | ⟨1, _⟩, ⟨2, _⟩ | ⟨1, _⟩, ⟨3, _⟩ | ⟨1, _⟩, ⟨4, _⟩
    | ⟨2, _⟩, ⟨0, _⟩ | ⟨2, _⟩, ⟨1, _⟩ | ⟨2, _⟩, ⟨2, _⟩ | ⟨2, _⟩, ⟨3, _⟩ | ⟨2, _⟩, ⟨4, _⟩
    | ⟨3, _⟩, ⟨0, _⟩ | ⟨3, _⟩, ⟨1, _⟩ | ⟨3, _⟩, ⟨2, _⟩ | ⟨3, _⟩, ⟨3, _⟩ | ⟨3, _⟩, ⟨4, _⟩
    | ⟨4, _⟩, ⟨0, _⟩ | ⟨4, _⟩, ⟨1, _⟩ | ⟨4, _⟩, ⟨2, _⟩ | ⟨4, _⟩, ⟨3, _⟩ | ⟨4, _⟩, ⟨4, _⟩ => rfl
  exact h ⟨i, hi⟩ ⟨j, hj⟩

theorem tab_any (w : World) (a b : Int) (ha0 : 0 ≤ a) (ha : a < 256) (hb0 : 0 ≤ b) (hb : b < 256) :
    Calls Yba.prog 7 #[.int .u8 a, .int .u8 b] w fun e w' => e = .returned (.bool (waits (a % 5) (b % 5))) ∧ Below w.heap.size w w' := by
  have e1 : a % 5 = ((a % 5).toNat : Nat) := by omega
  have e2 : b % 5 = ((b % 5).toNat : Nat) := by omega
  refine tab_at w a b ha0 ha hb0 hb _ _ e1 e2 _ ?_
  have := tab_cell (a % 5).toNat (b % 5).toNat (by omega) (by omega)
  rw [← e1, ← e2] at this
  rw [World.cell?_alloc_at _ _ _ _ rfl]
  exact this

theorem hold {w : World} {o v : Obj} {i : Nat} (h : w.heap[i]? = some v) : (w.alloc o).heap[i]? = some v := by
  rw [heap_alloc_old w o (Array.getElem?_eq_some_iff.1 h).1]; exact h
theorem hnew {w : World} {o : Obj} {i : Nat} (h : i = w.heap.size) : (w.alloc o).heap[i]? = some o := by
  subst h; exact heap_alloc_new w o
/-- The manager in block mb: its queue map, its owner map, its count of the parked. -/
def ManAt (w : World) (mb qb ob : Nat) (pk : Int) : Prop := ∃ c, w.heap[mb]? = some (.cells c 51 (0, 0)) ∧ c[3]? = some (.map (some qb)) ∧ c[4]? = some (.map (some ob)) ∧ c[11]? = some (.int .i64 pk)
theorem ManAt.cell3 {w : World} {mb qb ob : Nat} {pk : Int} (h : ManAt w mb qb ob pk) : w.cell? ⟨mb, 3, none⟩ = some (.map (some qb)) := by
  obtain ⟨c, h1, h2, h3, h4⟩ := h
  simp [World.cell?, h1, h2]
theorem ManAt.cell4 {w : World} {mb qb ob : Nat} {pk : Int} (h : ManAt w mb qb ob pk) : w.cell? ⟨mb, 4, none⟩ = some (.map (some ob)) := by
  obtain ⟨c, h1, h2, h3, h4⟩ := h
  simp [World.cell?, h1, h3]
theorem ManAt.cell11 {w : World} {mb qb ob : Nat} {pk : Int} (h : ManAt w mb qb ob pk) : w.cell? ⟨mb, 11, none⟩ = some (.int .i64 pk) := by
  obtain ⟨c, h1, h2, h3, h4⟩ := h
  simp [World.cell?, h1, h4]
theorem ManAt.free {w : World} {mb qb ob : Nat} {pk : Int} (h : ManAt w mb qb ob pk) (i : Nat) : w.frozen? ⟨mb, i, none⟩ = false := by
  obtain ⟨c, h1, _⟩ := h
  simp [World.frozen?, h1]
theorem ManAt.lt {w : World} {mb qb ob : Nat} {pk : Int} (h : ManAt w mb qb ob pk) : mb < w.heap.size := block_lt_of_cell h.cell3
theorem ManAt.of_block {w w' : World} {mb qb ob : Nat} {pk : Int} (h : ManAt w mb qb ob pk) (hb : w'.heap[mb]? = w.heap[mb]?) : ManAt w' mb qb ob pk := by
  obtain ⟨c, h1, h2⟩ := h
  exact ⟨c, hb.trans h1, h2⟩
theorem ManAt.below {w w' : World} {mb qb ob B : Nat} {pk : Int} (h : ManAt w mb qb ob pk) (hb : Below B w w') (hB : mb < B) : ManAt w' mb qb ob pk := h.of_block (hb.block mb hB)
theorem ManAt.set11 {w : World} {mb qb ob : Nat} {pk pk' : Int} (h : ManAt w mb qb ob pk) : ManAt (w.setCell ⟨mb, 11, none⟩ (.int .i64 pk')) mb qb ob pk' := by
  have hlt := h.lt
  obtain ⟨c, h1, h2, h3, h4⟩ := h
  have h' : w.heap[mb] = .cells c 51 (0, 0) := by simpa [Array.getElem?_eq_getElem hlt] using h1
  have hc : 11 < c.size := (Array.getElem?_eq_some_iff.1 h4).1
  refine ⟨c.set! 11 (.int .i64 pk'), ?_, ?_, ?_, ?_⟩
  · show (w.heap.modify mb _)[mb]? = _
    rw [Array.getElem?_eq_getElem (by simpa using hlt), Array.getElem_modify_self, h']
    rfl
  · rw [← h2]; simp [Array.set!]
  · rw [← h3]; simp [Array.set!]
  · simp [Array.set!, hc]

set_option maxHeartbeats 1000000 in
theorem man_any (w : World) : Calls Yba.prog 4 #[.pointer none, .nilFunc, .func (.func 5) #[] #[]] w fun e w' => ∃ mb qb ob, e = .returned (.pointer (some ⟨mb, 0, none⟩)) ∧
    w'.ownsMap Yba.prog 3 RV qb 0 (.map []) ∧ w'.ownsMap Yba.prog 3 RV ob 0 (.map []) ∧ w.heap.size ≤ qb ∧ w.heap.size ≤ ob ∧ w.heap.size ≤ mb ∧ qb ≠ ob ∧ ManAt w' mb qb ob 0 ∧ Below w.heap.size w w' := by
  have hmk : ∀ t W, (Instr.makeMap t none).run Yba.prog W = .ok (.map (some W.heap.size)) (W.alloc (.map #[] 0)) := fun t W => run_makeMap t W
  go_enter Yba.func4, Yba.ntmps4
  go_wp2
  go_ret
  refine ⟨_, w.heap.size, w.heap.size + 1, rfl, ?_, ?_, Nat.le_refl _, Nat.le_succ _, by omega, by omega, ?_, ?_⟩
  · exact (((((World.ownsMap_made w Yba.prog 3 RV).alloc _).alloc _).alloc _).alloc _).alloc _ |>.alloc _
  · have h2 := World.ownsMap_made (w.alloc (.map #[] 0)) Yba.prog 3 RV
    rw [show (w.alloc (.map #[] 0)).heap.size = w.heap.size + 1 from by simp] at h2
    exact (((h2.alloc _).alloc _).alloc _).alloc _ |>.alloc _
  · refine ⟨_, hnew (by simp), ?_, ?_, ?_⟩ <;> rfl
  · exact (((((((Below.refl w.heap.size w).alloc (by simp) _).alloc (by simp) _).alloc (by simp; omega) _).alloc (by simp; omega) _).alloc (by simp; omega) _).alloc (by simp; omega) _).alloc (by simp; omega) _
end Go.Proofs.Ybulkhexw
