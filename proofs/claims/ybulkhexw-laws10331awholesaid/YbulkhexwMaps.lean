/-
  MAPS WHOSE ELEMENTS ARE WHATEVER VALUES: the kit's 'ownsMap' at the reading that hands the value itself on (a token).
-/
import Derived.Test.YbulkhexwFind
import Derived.Maps.Own
import Derived.Maps.OwnOps
import Derived.Maps.OwnSet
import Derived.Maps.RangeWalk
namespace Go.Proofs.Ybulkhexw
open Go.RowKit Go.Maps

/-- An element reads as itself. -/
def RV (v : Value) : Option (DataW Value × List MemPlace) := some (.held v, [])
theorem law3 : Keyed Yba.prog 3 := int_keyed Yba.underlying3
def KI (x : Int) : Prop := (Lit.int .i64 x).wf = true
theorem key3 {x : Int} (h : KI x) : keyOf Yba.prog 3 (.int .i64 x) = some (.int .i64 x) := keyOf_int_mk Yba.underlying3 h
theorem KI_small {x : Int} (h0 : 0 ≤ x) (h1 : x ≤ 3) : KI x := by
  unfold KI
  simp [Lit.wf, IntKind.min, IntKind.max, IntKind.signed, IntKind.bits]
  omega

theorem owns_below {w w' : World} {k : TypeId} {b n B : Nat} {D : DataW Value} (h : w.ownsMap Yba.prog k RV b n D) (hb : Below B w w') (hB : b < B) : w'.ownsMap Yba.prog k RV b n D := by
  obtain ⟨es, clock, h1, h2, h3, h4⟩ := h
  exact ⟨es, clock, (hb.block b hB).trans h1, h2, h3, h4⟩

/-- 'm[x]'. -/
theorem lookV {w : World} {t e : TypeId} {b n : Nat} {D : DataW Value} {z v : Value} {x : Int} (h : w.ownsMap Yba.prog 3 RV b n D) (ht : Yba.prog.underlying t = some (.map 3 e)) (hz : ∀ W, (zeroValue e).run Yba.prog W = .ok z W)
    (hx : KI x) (hat : D.atKey (.int .i64 x) (.held z) = .held v) : (Instr.lookup t (.map (some b)) (.int .i64 x) false).run Yba.prog w = .ok v w := by
  obtain ⟨v', ps, hrun, hv⟩ := h.lookup law3 ht (hz w) (zd := .held z) (zp := []) rfl (key3 hx)
  rw [hat] at hv
  simp only [RV, Option.some.injEq, Prod.mk.injEq, DataW.held.injEq] at hv
  rw [hrun, hv.1]
theorem invK3 (key : Value) (kl : Lit) (h : keyOf Yba.prog 3 key = some kl) : ∃ x, key = .int .i64 x := by
  obtain ⟨x, rfl, _⟩ := Maps.keyOf_int_inv Yba.underlying3 h
  exact ⟨x, rfl⟩

/-- THE STEP of a range, the keys ints, the elements whatever values. -/
theorem wpList_next_RV {w : World} {ops : Array Oper} {rest : List Oper} {o : Oper} {a : Act} {Q : Exit → Act → World → Prop} (hg : o.guard = none) (it : Operand) (hop : o.op = Op.next it false)
    (b r n : Nat) (D : DataW Value) (left : Lit → Bool) (cnt : Nat) (hit : a.eval it = .pointer (some ⟨r, 0, none⟩)) (h : w.ranges Yba.prog 3 RV b r n D left cnt)
    (hDone : (∀ kl, left kl = false) → wpList Yba.prog ops Q rest (a.put o.dst (.tuple #[.bool false])) w)
    (hMore : ∀ (x : Int) (c : Value) (w' : World) (cnt' : Nat), KI x → left (.int .i64 x) = true → w'.ranges Yba.prog 3 RV b r n D (fun z => left z && !z.sameKey (.int .i64 x)) cnt' → cnt' < cnt →
      w.grownBy w' (some r) → w'.heap.size = w.heap.size → (Instr.entry (.pointer (some ⟨r, 0, none⟩))).run Yba.prog w' = .ok (.tuple #[.int .i64 x, c]) w' → wpList Yba.prog ops Q rest (a.put o.dst (.tuple #[.bool true, .int .i64 x, c])) w') :
    wpList Yba.prog ops Q (o :: rest) a w :=
  wpList_next_ranges w hg it hop 3 law3 RV (Value.int .i64) (fun v : Value => v) invK3 (fun v _ _ => ⟨v, rfl⟩) b r n D left cnt hit h (fun _ hl => hDone hl)
    (fun x c kl y w' cnt' hkey hlk _ _ hrg hlt hgr hsz hen => by
      obtain ⟨x', ex, rfl, hwx⟩ := Maps.keyOf_int_inv Yba.underlying3 hkey
      cases ex
      exact hMore x c w' cnt' hwx hlk hrg hlt hgr hsz hen)
theorem zero27 (W : World) : (zeroValue 27).run Yba.prog W = .ok (.slice none 0 0) W := by kernel_rfl
theorem zero45 (W : World) : (zeroValue 45).run Yba.prog W = .ok (.pointer none) W := by kernel_rfl
end Go.Proofs.Ybulkhexw
