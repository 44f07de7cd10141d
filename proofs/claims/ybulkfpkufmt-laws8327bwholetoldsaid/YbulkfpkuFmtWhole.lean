/-
  A WHOLE STRUCT STORED INTO THE BLOCK THAT WAS MADE LAST, AT THE LIST OF OPERATIONS (over the kit's run_storeVar_new).
-/
import Derived.Test.YbulkfpkuFmtFacts
import Derived.WalkKit
import Derived.WalkSpells
import Derived.WalkLawsBesides
import Derived.Deep.WholeRow
namespace Go.Proofs.YbulkfpkuFmt
open Go.RowKit

theorem wpList_store_whole {P : Program} {ops : Array Oper} {rest : List Oper} {o : Oper} {a : Act} {W : World} {Q : Exit → Act → World → Prop} (hgd : o.guard = none) (ty : TypeId) (x y : Operand) (ho : o.op = .store ty x y)
    (b : Nat) (c' : Array Value) (hx : a.eval x = .pointer (some ⟨b, 0, none⟩)) (hy : a.eval y = .agg c') (hi : (P.info? ty).map (·.size) = some c'.size) (h1 : c'.all (·.oneCell') = true)
    (w : World) (c : Array Value) (hW : W = w.alloc (.cells c ty)) (hb : b = w.heap.size) (hc : c.size = c'.size)
    (h : wpList P ops Q rest (a.put o.dst undef) (w.alloc (.cells c' ty))) : wpList P ops Q (o :: rest) a W := by
  subst hb; subst hW
  refine wpList_plain hgd fun K hK => ?_
  unfold Oper.wp execOp
  simp only [ho, hx, hy, Instr.storeAt, Instr.sureAddr, Sem.run_bind, Sem.run_pure, Result.andThen_ok, run_storeVar_new w ty c c' hi hc h1]
  exact hK _ _ h

theorem wpList_build_by {P : Program} {ops : Array Oper} {rest : List Oper} {o : Oper} {a : Act} {W : World} {Q : Exit → Act → World → Prop} (hgd : o.guard = none) (ty : TypeId) (parts : Array (Nat × Operand)) (ho : o.op = .build ty parts)
    (vals : Array (Nat × Value)) (hv : (parts.map fun (i, x) => (i, a.eval x)) = vals) (v : Value) (hrun : ∀ w, (Instr.build ty vals).run P w = .ok v w)
    (h : wpList P ops Q rest (a.put o.dst v) W) : wpList P ops Q (o :: rest) a W := by
  refine wpList_plain hgd fun K hK => ?_
  unfold Oper.wp execOp
  simp only [ho, hv, Sem.run_bind, hrun, Sem.run_pure, Result.andThen_ok]
  exact hK _ _ h

theorem wpList_neq_by {P : Program} {ops : Array Oper} {rest : List Oper} {o : Oper} {a : Act} {W : World} {Q : Exit → Act → World → Prop} (hgd : o.guard = none) (ty : TypeId) (x y : Operand) (tt : TypeId) (ho : o.op = .binOp .neq ty x y tt)
    (X : Array Value) (hx : a.eval x = .agg X) (hy : a.eval y = .agg X) (hm : P.eqGuardType P.depth ty = false) (hrun : ∀ w, (binOp .neq ty (.agg X) (.agg X)).run P w = .ok (.bool false) w)
    (h : wpList P ops Q rest (a.put o.dst (.bool false)) W) : wpList P ops Q (o :: rest) a W := by
  refine wpList_plain hgd fun K hK => ?_
  unfold Oper.wp execOp
  simp only [ho, hx, hy, Sem.run_bind, run_eqGuard_agg W .neq ty x y X X hm, hrun, Sem.run_pure, Result.andThen_ok]
  exact hK _ _ h

/-- A guard: the goal is a list of operations, none of them run yet ('with_reducible refine atList ?_'). -/
theorem atList {P : Program} {ops : Array Oper} {rest : List Oper} {o : Oper} {a : Act} {W : World} {Q : Exit → Act → World → Prop} (h : wpList P ops Q (o :: rest) a W) : wpList P ops Q (o :: rest) a W := h
theorem hdrew {w : World} {v : Obj} {i : Nat} (h : w.heap[i]? = some v) : w.drew.heap[i]? = some v := h
theorem guard28 : Ybaf.prog.eqGuardType Ybaf.prog.depth 28 = false := by kernel_rfl
theorem hold {w : World} {o v : Obj} {i : Nat} (h : w.heap[i]? = some v) : (w.alloc o).heap[i]? = some v := by
  rw [heap_alloc_old w o (Array.getElem?_eq_some_iff.1 h).1]; exact h
theorem hnew {w : World} {o : Obj} {i : Nat} (h : i = w.heap.size) : (w.alloc o).heap[i]? = some o := by
  subst h; exact heap_alloc_new w o
theorem hsize (w : World) (o : Obj) : (w.alloc o).heap.size = w.heap.size + 1 := by
  show (w.heap.push o).size = _
  simp
theorem hid {p : Prop} (h : p) : Hid p := h
theorem info22 : (Ybaf.prog.info? 22).map (·.size) = some 8 := by kernel_rfl
theorem info28 : (Ybaf.prog.info? 28).map (·.size) = some 22 := by kernel_rfl

end Go.Proofs.YbulkfpkuFmt
