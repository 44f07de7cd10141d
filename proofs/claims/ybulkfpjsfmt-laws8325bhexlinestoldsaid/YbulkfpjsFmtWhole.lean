/-
  THE WALK OF LawS8325BWhole.
-/
import Derived.Test.YbulkfpjsFmtAny
import Derived.Laws.CopyOwn
import Derived.Lib.SliceRun
namespace Go.Proofs.YbulkfpjsFmt
open Go.RowKit Go.Extern.Stop Go.Stop Go.Extern

theorem atList {P : Program} {ops : Array Oper} {rest : List Oper} {o : Oper} {a : Act} {W : World} {Q : Exit → Act → World → Prop} (h : wpList P ops Q (o :: rest) a W) : wpList P ops Q (o :: rest) a W := h
theorem size5 : (Ybaf.prog.info? 5).map (·.size) = some 1 := by kernel_rfl
theorem made_list (n : Nat) : (madeCells #[Value.int .u8 0] n).toList.length = n := by simp [madeCells]

/-- The cells of 'orig'. -/
theorem splice_all {α : Type} (cur cs : List α) (h : cur.length = cs.length) : splice cur 0 cs = cs := by
  simp [splice, ← h]

/-- The row 'orig' holds the line's bytes. -/
theorem orig_in {w : World} {g n : Nat} {xs : List Int} (hx : xs.length = n) (hg : w.heap[g]? = some (.cells (xs.map (Value.int .u8)).toArray 5 (0, 0))) : Lib.BytesIn w (some ⟨g, 0, none⟩) n xs := by
  intro _
  refine ⟨g, 0, rfl, fun i hi => ?_⟩
  rw [cell_of_row w g (0 + i) _ 5 (0, 0) hg]
  simp [hx, hi]
theorem in_below {B : Nat} {w w' : World} {p : Option Addr} {n : Nat} {xs : List Int} (h : Lib.BytesIn w p n xs) (hb : Below B w w') (hB : w.heap.size ≤ B) : Lib.BytesIn w' p n xs := by
  intro hn
  obtain ⟨b, o, rfl, hc⟩ := h hn
  refine ⟨b, o, rfl, fun i hi => ?_⟩
  have hl := block_lt_of_cell (hc i hi)
  rw [hb.cell (by exact Nat.lt_of_lt_of_le hl hB)]
  exact hc i hi
theorem in_belowG {B : Nat} {w w' : World} {g n : Nat} {xs : List Int} (h : Lib.BytesIn w (some ⟨g, 0, none⟩) n xs) (hb : Below B w w') (hB : g < B) : Lib.BytesIn w' (some ⟨g, 0, none⟩) n xs := by
  intro hn
  obtain ⟨b, o, e, hc⟩ := h hn
  cases e
  refine ⟨g, 0, rfl, fun i hi => ?_⟩
  rw [hb.cell (by exact hB)]
  exact hc i hi
theorem in_belowA {B : Nat} {w w' : World} {p : Option Addr} {n : Nat} {xs : List Int} (h : Lib.BytesIn w p n xs) (hb : Below B w w') (hB : ∀ a, p = some a → 0 < n → a.block < B) : Lib.BytesIn w' p n xs := by
  intro hn
  obtain ⟨b, o, rfl, hc⟩ := h hn
  refine ⟨b, o, rfl, fun i hi => ?_⟩
  rw [hb.cell (by exact hB ⟨b, o, none⟩ rfl hn)]
  exact hc i hi

theorem src_of (w : World) (b o n : Nat) (xs : List Int) (hx : xs.length = n) (hc : ∀ i, i < n → w.cell? ⟨b, o + i, none⟩ = some (.int .u8 (xs.getD i 0))) (ob : Obj) :
    ∀ j v, (xs.map (Value.int .u8))[j]? = some v → (w.alloc ob).cell? ((⟨b, o, none⟩ : Addr).add j) = some v := by
  intro j v hj
  simp only [List.getElem?_map, Option.map_eq_some_iff] at hj
  obtain ⟨x, hx1, rfl⟩ := hj
  obtain ⟨hj, rfl⟩ := List.getElem?_eq_some_iff.1 hx1
  have h := hc j (by omega)
  have hadd : (⟨b, o, none⟩ : Addr).add j = ⟨b, o + j, none⟩ := by unfold Addr.add; split <;> simp_all
  rw [hadd]
  have hl := block_lt_of_cell h
  rw [((Below.refl w.heap.size w).alloc (Nat.le_refl _) ob).cell (by exact hl), h]
  simp [hj]

set_option maxRecDepth 100000 in
set_option maxHeartbeats 2000000 in
theorem whole_zero (F : Interp) (ad : Addr) (n c : Nat) (xs : List Int) (w : World) (ev : Value) (hF : F.answers w.tape) (hx : xs.length = n) (hbig : n ≤ 1048576)
    (hr : ∀ i, i < n → 0 ≤ xs.getD i 0 ∧ xs.getD i 0 < 256) (hin : Lib.BytesIn w (some ad) n xs) (hE : w.cell? ⟨0, 0, none⟩ = some ev) (hn : n = 0) :
    Calls Ybaf.prog 3 #[.slice (some ad) n c] w fun e w' => e = .returned (.bool true) ∧ Below w.heap.size w w' := by
  have hp : ¬ (0 : Int) < (n : Int) := by omega
  have hok : goodB xs n = (false && allHex xs n) := by simp [goodB, hn]
  have hb20 : ¬ (1048576 : Int) < (n : Int) := by omega
  have hnn := fun w (a : Option Addr) (n c : Nat) => run_neq_slice_nil_any (P := Ybaf.prog) w 22 5 a n c 0 0 Ybaf.underlying22
  have hee := fun w (a : Option Addr) (n c : Nat) => Lib.run_eql_slice_nil (P := Ybaf.prog) w 22 5 a n c 0 0 Ybaf.underlying22
  obtain ⟨i0, hi, hz0, hz1, hz2⟩ := info_parts info5
  have hmk := fun w => run_make_row (P := Ybaf.prog) 22 5 i0 (.int .u8 0) Ybaf.underlying22 hi hz0 hz1 rfl .i64 .i64 n (by rw [hz2]; omega) (by omega) w
  have h0l : 0 < w.heap.size := block_lt_of_cell hE
  have HX := hid hx; have HR := hid hr; have HI := hid hin; have HE := hid hE; have HF := hid hF; have HOK := hid hok; have HN := hid hn
  have C1 : Hid ((xs.map (Value.int .u8)).length = Nat.min n n) := by show _ = _; simp [hx]
  have C3 : Hid (0 + (xs.map (Value.int .u8)).length ≤ (madeCells #[Value.int .u8 0] n).toList.length) := by show _ ≤ _; rw [made_list]; simp [hx]
  have C4 : Hid (∀ v ∈ xs.map (Value.int .u8), v.oneCell' = true) := by
    intro v hv
    simp only [List.mem_map] at hv
    obtain ⟨a, _, rfl⟩ := hv
    rfl
  have C5 : Hid ((w.alloc (.cells (madeCells #[Value.int .u8 0] n) 5)).heap[w.heap.size]? = some (.cells (madeCells #[Value.int .u8 0] n).toList.toArray 5 (0, 0))) := by
    show _ = _
    rw [heap_alloc_new, Array.toArray_toList]
  have C2 : Hid (0 < (xs.map (Value.int .u8)).length → some (⟨w.heap.size, 0, none⟩ : Addr) = some ⟨w.heap.size, 0, none⟩ ∧ ∃ ad', (some ad : Option Addr) = some ad' ∧ ∀ j v, (xs.map (Value.int .u8))[j]? = some v → (w.alloc (.cells (madeCells #[Value.int .u8 0] n) 5)).cell? (ad'.add j) = some v) := by
    intro h
    refine ⟨rfl, ?_⟩
    obtain ⟨b', o', e', hc'⟩ := hin (by simpa [hx] using h)
    refine ⟨⟨b', o', none⟩, e', src_of w b' o' n xs hx hc' _⟩
  clear hx hr hin hE hF hok hi hz0 hz1 hz2 hn
  go_enter Ybaf.func3, Ybaf.ntmps3
  go_wp2_with (with_reducible refine atList ?_; refine wpList_copy_splice rfl (.tmp 24) (.tmp 25) 22 22 rfl 5 Ybaf.underlying22 size5 (some ⟨w.heap.size, 0, none⟩) (some ad) n n n c rfl rfl w.heap.size 0 (madeCells #[Value.int .u8 0] n).toList 5 C5.out (xs.map (Value.int .u8)) C1.out C2.out C3.out C4.out w.heap.size w ((Below.refl _ _).alloc (Nat.le_refl _) _) (Nat.le_refl _) ?_; intro w1 hg1 hb1)
  have hsz1 : w.heap.size < w1.heap.size := (Array.getElem?_eq_some_iff.1 hg1.out).1
  have HO : Hid (Lib.BytesIn w1 (some ⟨w.heap.size, 0, none⟩) n xs) := orig_in HX.out (by have := hg1.out; rwa [splice_all _ _ (by rw [made_list]; simp [HX.out])] at this)
  have HL : Hid (Lib.BytesIn w1 (some ad) n xs) := in_below HI.out hb1 (Nat.le_refl _)
  have HE1 : Hid (w1.cell? ⟨0, 0, none⟩ = some ev) := (hb1.cell (by exact h0l)).trans HE.out
  have HF1 : Hid (F.answers w1.tape) := by show F.answers w1.tape; rw [hb1.tape]; exact HF.out
  have HB1 := hid hb1
  clear hg1 hb1 C1 C2 C3 C4 C5 hmk
  go_loop [4, 5] (fun ok i => ∃ k : Nat, k ≤ n ∧ i = .int .i64 k ∧ ok = .bool (false)) (fun _ i => n - (intOf i).toNat)
  case atStart => exact ⟨0, Nat.zero_le _, rfl, rfl⟩
  case round =>
    obtain ⟨k, hk, rfl, rfl⟩ := hrel
    by_cases hlt : k < n
    · exact absurd hlt (by rw [HN.out]; exact Nat.not_lt_zero _)
    · obtain rfl : k = n := by omega
      go_wp2_with fail
      refine (dec_any F (some ad) k c xs w1 ev HF1.out HX.out (by omega) HR.out HL.out HE1.out).mono ?_
      rintro e w2 (⟨hgd, rfl, hb2, f, hrow, hf⟩ | ⟨hgd, a, rfl, hb2⟩)
      · have := HOK.out
        rw [hgd] at this
        cases this
      · have HL2 : Hid (Lib.BytesIn w2 (some ad) k xs) := in_below HL.out hb2 (Nat.le_refl _)
        have HO2 : Hid (Lib.BytesIn w2 (some ⟨w.heap.size, 0, none⟩) k xs) := in_below HO.out hb2 (Nat.le_refl _)
        have HB2 := hid hb2
        clear hb2 hgd
        go_wp2_with fail
        refine (Ybaf.bytes_Equal_all (some ad) (some ⟨w.heap.size, 0, none⟩) k c k k xs xs w2 HX.out HX.out HL2.out HO2.out).mono ?_
        rintro e w3 ⟨rfl, hw⟩
        obtain rfl := hw.symm
        go_wp2
        go_ret
        exact ⟨rfl, HB1.out.trans (HB2.out.mono (Nat.le_of_lt hsz1))⟩

set_option maxRecDepth 100000 in
set_option maxHeartbeats 2000000 in
theorem whole_odd (F : Interp) (b o : Nat) (n c : Nat) (xs : List Int) (w : World) (ev : Value) (hF : F.answers w.tape) (hx : xs.length = n) (hbig : n ≤ 1048576)
    (hr : ∀ i, i < n → 0 ≤ xs.getD i 0 ∧ xs.getD i 0 < 256) (hin : Lib.BytesIn w (some ⟨b, o, none⟩) n xs) (hE : w.cell? ⟨0, 0, none⟩ = some ev) (hn : 0 < n) (ho : n % 2 ≠ 0) :
    Calls Ybaf.prog 3 #[.slice (some ⟨b, o, none⟩) n c] w fun e w' => e = .returned (.bool true) ∧ Below w.heap.size w w' := by
  have hp : (0 : Int) < (n : Int) := by omega
  have hq : ((n : Int) % 2 == 0) = false := by simp; omega
  have hok : goodB xs n = (false && allHex xs n) := by simp [goodB, hn, ho]
  have hb20 : ¬ (1048576 : Int) < (n : Int) := by omega
  have hnn := fun w (a : Option Addr) (n c : Nat) => run_neq_slice_nil_any (P := Ybaf.prog) w 22 5 a n c 0 0 Ybaf.underlying22
  have hee := fun w (a : Option Addr) (n c : Nat) => Lib.run_eql_slice_nil (P := Ybaf.prog) w 22 5 a n c 0 0 Ybaf.underlying22
  obtain ⟨i0, hi, hz0, hz1, hz2⟩ := info_parts info5
  have hmk := fun w => run_make_row (P := Ybaf.prog) 22 5 i0 (.int .u8 0) Ybaf.underlying22 hi hz0 hz1 rfl .i64 .i64 n (by rw [hz2]; omega) (by omega) w
  have h0l : 0 < w.heap.size := block_lt_of_cell hE
  have HX := hid hx; have HR := hid hr; have HI := hid hin; have HE := hid hE; have HF := hid hF; have HOK := hid hok; have HN := hid hn
  have C1 : Hid ((xs.map (Value.int .u8)).length = Nat.min n n) := by show _ = _; simp [hx]
  have C3 : Hid (0 + (xs.map (Value.int .u8)).length ≤ (madeCells #[Value.int .u8 0] n).toList.length) := by show _ ≤ _; rw [made_list]; simp [hx]
  have C4 : Hid (∀ v ∈ xs.map (Value.int .u8), v.oneCell' = true) := by
    intro v hv
    simp only [List.mem_map] at hv
    obtain ⟨a, _, rfl⟩ := hv
    rfl
  have C5 : Hid ((w.alloc (.cells (madeCells #[Value.int .u8 0] n) 5)).heap[w.heap.size]? = some (.cells (madeCells #[Value.int .u8 0] n).toList.toArray 5 (0, 0))) := by
    show _ = _
    rw [heap_alloc_new, Array.toArray_toList]
  have C2 : Hid (0 < (xs.map (Value.int .u8)).length → some (⟨w.heap.size, 0, none⟩ : Addr) = some ⟨w.heap.size, 0, none⟩ ∧ ∃ ad', (some ⟨b, o, none⟩ : Option Addr) = some ad' ∧ ∀ j v, (xs.map (Value.int .u8))[j]? = some v → (w.alloc (.cells (madeCells #[Value.int .u8 0] n) 5)).cell? (ad'.add j) = some v) := by
    intro h
    refine ⟨rfl, ?_⟩
    obtain ⟨b', o', e', hc'⟩ := hin (by simpa [hx] using h)
    refine ⟨⟨b', o', none⟩, e', src_of w b' o' n xs hx hc' _⟩
  clear hx hr hin hE hF hok hi hz0 hz1 hz2 hn
  go_enter Ybaf.func3, Ybaf.ntmps3
  go_wp2_with (with_reducible refine atList ?_; refine wpList_copy_splice rfl (.tmp 24) (.tmp 25) 22 22 rfl 5 Ybaf.underlying22 size5 (some ⟨w.heap.size, 0, none⟩) (some ⟨b, o, none⟩) n n n c rfl rfl w.heap.size 0 (madeCells #[Value.int .u8 0] n).toList 5 C5.out (xs.map (Value.int .u8)) C1.out C2.out C3.out C4.out w.heap.size w ((Below.refl _ _).alloc (Nat.le_refl _) _) (Nat.le_refl _) ?_; intro w1 hg1 hb1)
  have hsz1 : w.heap.size < w1.heap.size := (Array.getElem?_eq_some_iff.1 hg1.out).1
  have HO : Hid (Lib.BytesIn w1 (some ⟨w.heap.size, 0, none⟩) n xs) := orig_in HX.out (by have := hg1.out; rwa [splice_all _ _ (by rw [made_list]; simp [HX.out])] at this)
  have HL : Hid (Lib.BytesIn w1 (some ⟨b, o, none⟩) n xs) := in_below HI.out hb1 (Nat.le_refl _)
  have HE1 : Hid (w1.cell? ⟨0, 0, none⟩ = some ev) := (hb1.cell (by exact h0l)).trans HE.out
  have HF1 : Hid (F.answers w1.tape) := by show F.answers w1.tape; rw [hb1.tape]; exact HF.out
  have HB1 := hid hb1
  clear hg1 hb1 C1 C2 C3 C4 C5 hmk
  go_loop [4, 5] (fun ok i => ∃ k : Nat, k ≤ n ∧ i = .int .i64 k ∧ ok = .bool (false)) (fun _ i => n - (intOf i).toNat)
  case atStart => exact ⟨0, Nat.zero_le _, rfl, rfl⟩
  case round =>
    obtain ⟨k, hk, rfl, rfl⟩ := hrel
    by_cases hlt : k < n
    · obtain ⟨x, hxk⟩ : ∃ x, x = xs.getD k 0 := ⟨_, rfl⟩
      have hcx : w1.cell? ⟨b, o + k, none⟩ = some (.int .u8 x) := by
        obtain ⟨b', o', e', hc'⟩ := HL.out (by omega)
        cases e'
        rw [hxk]; exact hc' k hlt
      have hx0 : 0 ≤ x := by rw [hxk]; exact (HR.out k hlt).1
      have hx1 : x < 256 := by rw [hxk]; exact (HR.out k hlt).2
      have HS : Hid (allHex xs (k + 1) = (allHex xs k && hexB x)) := by rw [hxk]; exact allHex_succ xs k (by rw [HX.out]; exact hlt)
      clear hxk
      cases hh : hexB x with
      | true =>
        go_wp2_with (go_at_call 5; refine (val_any x _ hx0 hx1).mono ?_; rintro e w' ⟨rfl, rfl⟩)
        go_round
        case rel => exact ⟨k + 1, by omega, by go_num, rfl⟩
        case measure => simp [intOf]; omega
      | false =>
        go_wp2_with (go_at_call 5; refine (val_any x _ hx0 hx1).mono ?_; rintro e w' ⟨rfl, rfl⟩)
        go_round
        case rel => exact ⟨k + 1, by omega, by go_num, rfl⟩
        case measure => simp [intOf]; omega
    · obtain rfl : k = n := by omega
      go_wp2_with fail
      refine (dec_any F (some ⟨b, o, none⟩) k c xs w1 ev HF1.out HX.out (by omega) HR.out HL.out HE1.out).mono ?_
      rintro e w2 (⟨hgd, rfl, hb2, f, hrow, hf⟩ | ⟨hgd, a, rfl, hb2⟩)
      · have := HOK.out
        rw [hgd] at this
        cases this
      · have HL2 : Hid (Lib.BytesIn w2 (some ⟨b, o, none⟩) k xs) := in_below HL.out hb2 (Nat.le_refl _)
        have HO2 : Hid (Lib.BytesIn w2 (some ⟨w.heap.size, 0, none⟩) k xs) := in_below HO.out hb2 (Nat.le_refl _)
        have HB2 := hid hb2
        clear hb2 hgd
        go_wp2_with fail
        refine (Ybaf.bytes_Equal_all (some ⟨b, o, none⟩) (some ⟨w.heap.size, 0, none⟩) k c k k xs xs w2 HX.out HX.out HL2.out HO2.out).mono ?_
        rintro e w3 ⟨rfl, hw⟩
        obtain rfl := hw.symm
        go_wp2
        go_ret
        exact ⟨rfl, HB1.out.trans (HB2.out.mono (Nat.le_of_lt hsz1))⟩

end Go.Proofs.YbulkfpjsFmt
