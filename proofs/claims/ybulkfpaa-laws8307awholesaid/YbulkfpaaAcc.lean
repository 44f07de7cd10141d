/-
  accountsOf.
-/
import Derived.Test.YbulkfpaaMaps
import Derived.Laws.MakeOwn
import Derived.Deep.AppendLies
namespace Go.Proofs.Ybulkfpaa
open Go.RowKit Go.Maps

theorem info28' : (Yba.prog.info? 28).map (fun i => (i.zero, i.size, i.bytes)) = some (some (.agg #[.string ByteArray.empty, .int .i64 0]), 2, 24) := by kernel_rfl
theorem ex28 : ∃ i, Yba.prog.info? 28 = some i ∧ i.zero = some (.agg #[.string ByteArray.empty, .int .i64 0]) ∧ i.size = 2 ∧ i.bytes = 24 := by
  obtain ⟨i, hi, he⟩ := Option.map_eq_some_iff.1 info28'
  simp only [Prod.mk.injEq] at he
  exact ⟨i, hi, he.1, he.2.1, he.2.2⟩
/-- 'make([]account, 0, c)'. -/
theorem make26 (c : Nat) (hc : c ≤ 4096) : ∃ cur : Array Value, cur.size = c * 2 ∧ ∀ W : World, (Instr.makeSlice 26 (.int .i64 0) (.int .i64 (c : Int))).run Yba.prog W = .ok (.slice (some ⟨W.heap.size, 0, none⟩) 0 c) (W.alloc (.cells cur 28)) := by
  obtain ⟨i, hi, hz, hs, hb⟩ := ex28
  refine ⟨madeCells (Value.agg #[.string ByteArray.empty, .int .i64 0]).cells (c * i.size), by rw [size_madeCells, hs], fun W => ?_⟩
  have h := run_make (P := Yba.prog) W 26 28 i _ Yba.underlying26 hi hz .i64 .i64 0 c (Int.le_refl _) (by omega) (by rw [hb]; omega) (by omega)
  simpa using h

theorem flat_snoc (G : List (ByteArray × Int)) (x : ByteArray × Int) : (G ++ [x]).flatMap encA = G.flatMap encA ++ encA x := by simp
theorem flat_len : ∀ G : List (ByteArray × Int), (G.flatMap encA).length = G.length * 2
  | [] => rfl
  | x :: G => by
    have := flat_len G
    simp [encA] at this ⊢
    omega
theorem row_of_block {w w' : World} {base : Nat} {v : Value} {n : Nat} {xs : List Value} (h : w.ownsRow base 28 2 v n xs) (hb : ∀ g, v.ownBlock = some g → w'.heap[g]? = w.heap[g]?) : w'.ownsRow base 28 2 v n xs := by
  obtain ⟨h1, h2⟩ := h
  refine ⟨h1, ?_⟩
  rcases h2 with h2 | ⟨g, cap, cur, rfl, hg, hh, r⟩
  · exact Or.inl h2
  · exact Or.inr ⟨g, cap, cur, rfl, hg, (hb g rfl).trans hh, r⟩
theorem row_kind {w : World} {base : Nat} {v : Value} {n g : Nat} {xs : List Value} (h : w.ownsRow base 28 2 v n xs) (hg : v.ownBlock = some g) : ∃ cur, w.heap[g]? = some (.cells cur 28 (0, 0)) := by
  rcases h.2 with ⟨rfl, _⟩ | ⟨g', cap, cur, rfl, _, hh, _⟩
  · cases hg
  · cases hg; exact ⟨cur, hh⟩
theorem ranges_of_block {w w' : World} {b r n : Nat} {D : DataW Value} {left : Lit → Bool} {cnt : Nat} (h : w.ranges Yba.prog 9 RV b r n D left cnt) (hb : w'.heap[b]? = w.heap[b]?) (hr : w'.heap[r]? = w.heap[r]?) : w'.ranges Yba.prog 9 RV b r n D left cnt := by
  obtain ⟨es, clock, since, seen, c0, h1, h2, h3, h4, h5, h6⟩ := h
  exact ⟨es, clock, since, seen, c0, hb.trans h1, h2, h3, h4, hr.trans h5, h6⟩
theorem iter_kind {w : World} {b r n : Nat} {D : DataW Value} {left : Lit → Bool} {cnt : Nat} (h : w.ranges Yba.prog 9 RV b r n D left cnt) : (∀ cur t f, w.heap[r]? ≠ some (.cells cur t f)) ∧ (∀ cur t f, w.heap[b]? ≠ some (.cells cur t f)) := by
  obtain ⟨es, clock, since, seen, c0, h1, h2, h3, h4, h5, h6⟩ := h
  exact ⟨fun _ _ _ e => by rw [h5] at e; simp at e, fun _ _ _ e => by rw [h1] at e; simp at e⟩

/-- THE STEP of the range, the keys strings, the elements whatever values. -/
theorem wpList_next_RV {w : World} {ops : Array Oper} {rest : List Oper} {o : Oper} {a : Act} {Q : Exit → Act → World → Prop} (hg : o.guard = none) (it : Operand) (hop : o.op = Op.next it false)
    (b r n : Nat) (D : DataW Value) (left : Lit → Bool) (cnt : Nat) (hit : a.eval it = .pointer (some ⟨r, 0, none⟩)) (h : w.ranges Yba.prog 9 RV b r n D left cnt) (F : ByteArray → Option Int) (hF : Holds F D) (hsub : ∀ k, left k = true → Maps.has D k = true)
    (hDone : (∀ k, left k = false) → wpList Yba.prog ops Q rest (a.put o.dst (.tuple #[.bool false])) w)
    (hMore : ∀ (s : ByteArray) (v : Int) (w' : World) (cnt' : Nat), F s = some v → left (kl s) = true → w'.ranges Yba.prog 9 RV b r n D (fun z => left z && !z.sameKey (kl s)) cnt' → cnt' < cnt →
      w.grownBy w' (some r) → w'.heap.size = w.heap.size → (Instr.entry (.pointer (some ⟨r, 0, none⟩))).run Yba.prog w' = .ok (.tuple #[.string s, .int .i64 v]) w' → wpList Yba.prog ops Q rest (a.put o.dst (.tuple #[.bool true, .string s, .int .i64 v])) w') :
    wpList Yba.prog ops Q (o :: rest) a w :=
  wpList_next_ranges w hg it hop 9 law9 RV Value.string (fun v : Value => v) invK9 (fun v _ _ => ⟨v, rfl⟩) b r n D left cnt hit h (fun _ hl => hDone hl)
    (fun s c k y w' cnt' hkey hlk hy hat hrg hlt hgr hsz hen => by
      have hk := keyEq9 hkey
      subst hk
      have hh := hsub _ hlk
      rw [hF.has] at hh
      obtain ⟨v, hv⟩ := Option.isSome_iff_exists.1 hh
      have e1 := hat (.held (.int .i64 0))
      rw [hF.look s v hv] at e1
      simp only [RV, Option.some.injEq] at hy
      rw [← hy] at e1
      simp only [DataW.held.injEq] at e1
      subst e1
      exact hMore s v w' cnt' hv hlk hrg hlt hgr hsz hen)

set_option maxRecDepth 100000 in
set_option maxHeartbeats 2000000 in
theorem acc_any (mb nm : Nat) (D : DataW Value) (F : ByteArray → Option Int) (w : World) (hmap : w.ownsMap Yba.prog 9 RV mb nm D) (hnm : nm ≤ 4096) (hF : Holds F D) :
    Calls Yba.prog 7 #[.map (some mb)] w fun e w' => ∃ (g cap : Nat) (G : List (ByteArray × Int)), e = .returned (.slice (some ⟨g, 0, none⟩) G.length cap) ∧
      w'.ownsRow w.heap.size 28 2 (.slice (some ⟨g, 0, none⟩) G.length cap) G.length (G.flatMap encA) ∧ OneEach G ∧ (∀ x, x ∈ G ↔ F x.1 = some x.2) ∧ G.length ≤ 4096 ∧ Below w.heap.size w w' := by
  have hlen : ∀ W : World, W.ownsMap Yba.prog 9 RV mb nm D → ∀ ty, (Builtin.len_ #[24] ty #[.map (some mb)]).run Yba.prog W = .ok (.int .i64 (Maps.size D)) W := fun W h ty => h.len Yba.underlying24 ty
  have hl1 := hlen w hmap
  obtain ⟨c, hc⟩ : ∃ c, c = Maps.size D := ⟨_, rfl⟩
  have hsz := hmap.size_le
  rw [← hc] at hl1 hsz
  have HC := hid hc
  obtain ⟨cur, hcur, hmk⟩ := make26 c (by omega)
  have hlt : mb < w.heap.size := hmap.lt
  have HM := hid hmap; have HF := hid hF
  clear hmap hF hlen hc
  go_enter Yba.func7, Yba.ntmps7
  go_wp2_with (at_range; refine wpList_range_own _ rfl (.tmp 9) 24 rfl 9 2 law9 Yba.underlying24 RV mb nm D rfl (HM.out.alloc _) ?_; intro w0 hrg0 hg0 hs0)
  have hsa : (w.alloc (.cells cur 28)).heap.size = w.heap.size + 1 := by simp
  have HB0 : Hid (Below w.heap.size w w0) := ((Below.refl _ _).alloc (Nat.le_refl _) _).grown hg0 (by simp) (fun k hk => by cases hk)
  have HR0 : Hid (w0.ownsRow w.heap.size 28 2 (.slice (some ⟨w.heap.size, 0, none⟩) 0 c) 0 []) :=
    row_of_block (World.ownsRow_made w cur c (Nat.le_refl _) (by simp only [maxLen]; omega) hcur) (fun g hg => by cases hg; exact hg0.block _ (by simp) (by simp))
  rw [hsa] at hrg0 ⊢
  have HG0 := hid hrg0
  clear hrg0 hg0 hs0 hl1 hmk hcur
  go_frame
  go_loopw [3] (fun v wr => ∃ (g cap : Nat) (G : List (ByteArray × Int)) (left : Lit → Bool) (cnt : Nat), v = .slice (some ⟨g, 0, none⟩) G.length cap ∧ Hid (wr.ownsRow w.heap.size 28 2 (.slice (some ⟨g, 0, none⟩) G.length cap) G.length (G.flatMap encA)) ∧ Hid (OneEach G) ∧
      Hid (∀ x, x ∈ G ↔ F x.1 = some x.2 ∧ left (kl x.1) = false) ∧ Hid (wr.ranges Yba.prog 9 RV mb (w.heap.size + 1) nm D left cnt) ∧ Hid (∀ k, left k = true → Maps.has D k = true) ∧ Hid (G.length + cnt ≤ c) ∧ Hid (Below w.heap.size w wr))
    (fun _ wr => wr.rangeLeft mb (w.heap.size + 1))
  case atStart =>
    refine ⟨w.heap.size, c, [], _, _, rfl, HR0, List.Pairwise.nil, ?_, HG0, (fun _ h => h), ?_, HB0⟩
    · intro x
      refine ⟨fun h => (by cases h), fun h => ?_⟩
      have h1 := h.2
      rw [HF.out.has, h.1] at h1
      cases h1
    · show 0 + Maps.size D ≤ c
      rw [HC.out]; omega
  case round =>
    obtain ⟨g, cap, G, left, cnt, rfl, hrow, hone, hmem, hrg, hsub, hcnt, hB⟩ := hrel
    have hcnt' := hcnt.out
    go_wp2_with (at_next; refine wpList_next_RV rfl (.tmp 10) rfl mb (w.heap.size + 1) nm D left cnt rfl hrg.out F HF.out hsub.out ?_ ?_)
    · intro hl0
      have HL := hid hl0
      clear hl0
      go_wp2
      go_ret
      refine ⟨g, cap, G, rfl, hrow.out, hone.out, fun x => ?_, by omega, hB.out⟩
      rw [hmem.out x]
      exact ⟨fun h => h.1, fun h => ⟨h, HL.out _⟩⟩
    · intro s v w1 cnt1 hFs hls hrg1 hlt1 hg1 hs1 hen
      obtain ⟨i28, hi28, hz28, hs28, hb28⟩ := ex28
      have hgk := row_kind hrow.out (g := g) rfl
      have hgl := hrow.out.lt g rfl
      have hgr : g ≠ w.heap.size + 1 := by
        intro e
        obtain ⟨cu, hcu⟩ := hgk
        exact (iter_kind hrg.out).1 _ _ _ (e ▸ hcu)
      have HRow1 : Hid (w1.ownsRow w.heap.size 28 2 (.slice (some ⟨g, 0, none⟩) G.length cap) G.length (G.flatMap encA)) := row_of_block hrow.out (fun g' hg' => by cases hg'; exact hg1.block g hgl.2 (by simpa using hgr))
      have HRA : Hid ((w1.alloc (.cells #[.string s, .int .i64 v] 28)).ownsRow w.heap.size 28 2 (.slice (some ⟨g, 0, none⟩) G.length cap) G.length (G.flatMap encA)) := row_of_block HRow1.out (fun g' hg' => Below.heap_alloc _ _ _ (HRow1.out.lt g' hg').2)
      have HNB : Hid ((w1.alloc (.cells #[.string s, .int .i64 v] 28)).heap[w1.heap.size]? = some (.cells #[.string s, .int .i64 v] 28)) := heap_alloc_new _ _
      have HONE : Hid (∀ u ∈ [Value.string s, Value.int .i64 v], u.oneCell' = true) := by
        intro u hu
        simp at hu
        rcases hu with rfl | rfl <;> rfl
      have HRG1 := hid hrg1; have HLS := hid hls; have HFS := hid hFs
      have HB1 : Hid (Below w.heap.size w w1) := hB.out.grown hg1 hB.out.size (fun k hk => by cases hk; omega)
      have hbs : w.heap.size ≤ (w1.alloc (.cells #[.string s, .int .i64 v] 28)).heap.size := by have := HB1.out.size; simp; omega
      have HS1 := hid hs1
      clear hrg1 hls hFs hg1 hgk hs1
      go_wp2_with (at_builtin; refine wpList_append_lies _ rfl (.tmp 16) (.tmp 20) 26 rfl w.heap.size 28 i28 (.agg #[.string ByteArray.empty, .int .i64 0]) 2 24 Yba.underlying26 hi28 hz28 hs28 hb28 rfl (by omega) (.slice (some ⟨g, 0, none⟩) G.length cap) G.length (G.flatMap encA) rfl HRA.out ⟨w1.heap.size, 0, none⟩ 1 1 [.string s, .int .i64 v] rfl rfl (World.news_of_block HNB.out) HONE.out (by omega) (by simp only [maxLen]; omega) (by omega) hbs _ rfl ?_; intro g2 cap2 w2 hown2 hgrow2 hat2 hlt2)
      have hk1 := iter_kind HRG1.out
      have hw1s : w1.heap.size ≤ w2.heap.size := by have := hgrow2.size; simp at this; omega
      have far : ∀ i, i < w1.heap.size → i ≠ g → w2.heap[i]? = w1.heap[i]? := fun i hi hne => by
        rw [hgrow2.block i (by simp; omega) (by intro e; cases e; exact hne rfl), Below.heap_alloc _ _ _ hi]
      have hmg : mb ≠ g := by omega
      have HRG2 : Hid (w2.ranges Yba.prog 9 RV mb (w.heap.size + 1) nm D (fun z => left z && !z.sameKey (kl s)) cnt1) := ranges_of_block HRG1.out (far mb (by have := HB1.out.size; omega) hmg) (far _ HRG1.out.lt (Ne.symm hgr))
      go_roundw
      case rel =>
        refine ⟨g2, cap2, G ++ [(s, v)], _, _, by simp, ?_, ?_, ?_, HRG2, ?_, ?_, ?_⟩
        · have h := hown2
          rw [show G.flatMap encA ++ [Value.string s, Value.int .i64 v] = (G ++ [(s, v)]).flatMap encA from (flat_snoc G (s, v)).symm] at h
          rw [show (G ++ [(s, v)]).length = G.length + 1 from by simp]
          exact h
        · refine List.pairwise_append.2 ⟨hone.out, List.pairwise_singleton _ _, fun x hx y hy => ?_⟩
          rw [List.mem_singleton.1 hy]
          intro e
          have h1 := ((hmem.out x).1 hx).2
          rw [e, HLS.out] at h1
          cases h1
        · intro x
          rw [List.mem_append, hmem.out x, List.mem_singleton]
          constructor
          · rintro (⟨h1, h2⟩ | h1)
            · exact ⟨h1, by rw [h2]; rfl⟩
            · rw [h1]
              refine ⟨HFS.out, ?_⟩
              rw [WideAt.sameKey_self (kl_key s)]
              simp
          · rintro ⟨h1, h2⟩
            by_cases e : x.1 = s
            · right
              rw [e, HFS.out] at h1
              obtain ⟨x1, x2⟩ := x
              simp only at e h1 ⊢
              rw [e]
              cases h1
              rfl
            · left
              refine ⟨h1, ?_⟩
              have h3 : (kl x.1).sameKey (kl s) = false := by
                cases h4 : (kl x.1).sameKey (kl s) with
                | false => rfl
                | true => exact absurd (kl_inj (WideAt.sameKey_eq h4)) e
              rw [h3] at h2
              simpa using h2
        · intro k hk
          simp only [Bool.and_eq_true] at hk
          exact hsub.out k hk.1
        · show (G ++ [(s, v)]).length + cnt1 ≤ c
          simp
          omega
        · exact (HB1.out.alloc HB1.out.size _).grown hgrow2 (by have := HB1.out.size; simp; omega) (fun k hk => by cases hk; exact hgl.1)
      case measure => rw [HRG2.out.left_eq, hrg.out.left_eq]; exact hlt1
end Go.Proofs.Ybulkfpaa
