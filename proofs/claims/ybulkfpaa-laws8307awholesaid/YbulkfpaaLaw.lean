/-
  THE LAW, WALKED.
-/
import Derived.Test.YbulkfpaaSort
import Derived.Deep.RegionHeld3
import Derived.BigQuiet
import Derived.Deep.QuietTactic
namespace Go.Proofs.Ybulkfpaa
open Go.RowKit Go.Maps

theorem run_makeMap_hint (n : Nat) (W : World) : (Instr.makeMap 24 (some (.int .i64 (n : Int)))).run Yba.prog W = .ok (.map (some W.heap.size)) (W.alloc (.map #[] 0)) := by
  simp [Instr.makeMap, run_underlying Yba.underlying24, asInt, asIntOf, Result.andThen]

theorem holdsK_of_block {w w' : World} {g : Nat} {d : Array (ByteArray × Int)} (h : Go.Sort.HoldsK encA 2 w g 0 d) (hb : w'.heap[g]? = w.heap[g]?) : Go.Sort.HoldsK encA 2 w' g 0 d := fun j hj =>
  ⟨(World.cell?_of_block (w := w) (by exact hb)).trans (h j hj).1, (World.frozen?_of_block (w := w) (by exact hb)).trans (h j hj).2⟩

theorem want_succ_yes {S : Nat → ByteArray} {B : Nat → Int} {n i : Nat} (h : isLast S n i = true) : wantL S B n (i + 1) = wantL S B n i ++ [(S i, B i)] := by rw [wantL, if_pos h]
theorem want_succ_no {S : Nat → ByteArray} {B : Nat → Int} {n i : Nat} (h : ¬ isLast S n i = true) : wantL S B n (i + 1) = wantL S B n i := by rw [wantL, if_neg h]

theorem eqNil (a : Addr) (l c : Nat) (W : World) : (binOp .eql 26 (.slice (some a) l c) (.slice none 0 0)).run Yba.prog W = .ok (.bool false) W := by kernel_rfl

/-- The slices that came in. -/
def NamesAt (na : Option Addr) (n : Nat) (S : Nat → ByteArray) (w : World) : Prop := 0 < n → ∃ b off, na = some ⟨b, off, none⟩ ∧ ∀ i, i < n → w.cell? ⟨b, off + i, none⟩ = some (.string (S i)) ∧ (S i).size ≤ maxLen
def BalsAt (ba : Option Addr) (bn : Nat) (Bs : Nat → Int) (w : World) : Prop := 0 < bn → ∃ b off, ba = some ⟨b, off, none⟩ ∧ ∀ j, j < bn → w.cell? ⟨b, off + j, none⟩ = some (.int .i64 (Bs j))
theorem NamesAt.below {na : Option Addr} {n : Nat} {S : Nat → ByteArray} {w w' : World} (h : NamesAt na n S w) (hb : Below w.heap.size w w') : NamesAt na n S w' := fun h0 => by
  obtain ⟨b, off, e, hc⟩ := h h0
  exact ⟨b, off, e, fun i hi => ⟨(hb.cell (by exact block_lt_of_cell (hc i hi).1)).trans (hc i hi).1, (hc i hi).2⟩⟩
theorem BalsAt.below {ba : Option Addr} {bn : Nat} {Bs : Nat → Int} {w w' : World} (h : BalsAt ba bn Bs w) (hb : Below w.heap.size w w') : BalsAt ba bn Bs w' := fun h0 => by
  obtain ⟨b, off, e, hc⟩ := h h0
  exact ⟨b, off, e, fun i hi => (hb.cell (by exact block_lt_of_cell (hc i hi))).trans (hc i hi)⟩

set_option maxRecDepth 100000 in
set_option maxHeartbeats 1000000 in
theorem law_any (na ba : Option Addr) (n nc bn bc : Nat) (S : Nat → ByteArray) (Bs : Nat → Int) (w : World) (hN : NamesAt na n S w) (hBl : BalsAt ba bn Bs w) (hbig : n ≤ 4096) :
    Calls Yba.prog 3 #[.slice na n nc, .slice ba bn bc] w fun e w' => e = .returned (.bool true) ∧ Below w.heap.size w w' := by
  obtain ⟨B, hBe⟩ : ∃ B, B = balAt bn Bs := ⟨_, rfl⟩
  have hmm := run_makeMap_hint n
  obtain ⟨cur, hcur, hmk⟩ := make26 n hbig
  have HN := hid hN; have HB := hid hBl; have HBE := hid hBe
  clear hN hBl hBe
  go_enter Yba.func3, Yba.ntmps3
  go_wp2
  go_loopw [6] (fun i wr => ∃ (k : Nat) (D : DataW Value), k ≤ n ∧ i = .int .i64 k ∧ Hid (wr.ownsMap Yba.prog 9 RV w.heap.size k D) ∧ Hid (Holds (val S B k) D) ∧ Hid (Maps.size D = (keysL S B k).length) ∧ Hid (Below w.heap.size w wr)) (fun i _ => n - (intOf i).toNat)
  case atStart => exact ⟨0, .map [], Nat.zero_le _, rfl, World.ownsMap_made w Yba.prog 9 RV, Holds.start S B, (rfl : Maps.size (.map []) = _), (Below.refl _ _).alloc (Nat.le_refl _) _⟩
  case round =>
    obtain ⟨k, D, hk, rfl, hM, hH, hS, hbw⟩ := hrel
    by_cases hkn : k < n
    · obtain ⟨b, off, hna, hcell⟩ := HN.out (by omega)
      subst hna
      obtain ⟨hck0, hsk⟩ := hcell k hkn
      have hbw0 : b < w.heap.size := block_lt_of_cell hck0
      have hck : wr.cell? ⟨b, off + k, none⟩ = some (.string (S k)) := by rw [hbw.out.cell (by exact hbw0)]; exact hck0
      clear hck0 hcell
      have HBal : Hid (Calls Yba.prog 6 #[.slice ba bn bc, .int .i64 k] wr.drew fun e w' => e = .returned (.int .i64 (B k)) ∧ wr.drew = w') := by
        rw [HBE.out]
        exact bal_any ba bn bc Bs k wr.drew (HB.out.below hbw.out.drew)
      obtain ⟨s, hs⟩ : ∃ s, s = S k := ⟨_, rfl⟩
      obtain ⟨v, hv⟩ : ∃ v, v = B k := ⟨_, rfl⟩
      rw [← hs] at hck hsk
      rw [← hv] at HBal
      have HSK := hid hs; have HVK := hid hv
      obtain ⟨w3, hrun3, hq3, hg3⟩ := hM.out.drew.update law9 Yba.underlying24 (by simp only [maxLen]; omega) (key := .string s) (val := .int .i64 v) (key9 hsk) rfl
      have hS0 : wr.drew.cell? ⟨b, off + k, none⟩ = some (.string s) := hck
      have hbl : b < wr.heap.size := block_lt_of_cell hck
      have hlw : w.heap.size < wr.heap.size := hM.out.lt
      have hS3 : w3.cell? ⟨b, off + k, none⟩ = some (.string s) := by
        rw [World.cell?_of_block (w := wr.drew) (hg3.block b hbl (by simp; omega))]
        exact hck
      have HQ3 := hid hq3
      have HB3 : Hid (Below w.heap.size w w3) := hbw.out.drew.grown hg3 hbw.out.size (fun i hi => by cases hi; exact Nat.le_refl _)
      clear hg3 hq3 hs hv
      go_wp2
      go_region_held3 (fun w' => w'.cell? ⟨b, off + k, none⟩ = some (.string s)) (assumption) ((go_at_call 6; refine HBal.out.mono ?_; rintro e w' ⟨rfl, rfl⟩))
      go_wp2
      go_roundw
      case rel =>
        have e1 : D.put (kl s) (.held (.int .i64 v)) = D.put (kl (S k)) (.held (.int .i64 (B k))) := by rw [HSK.out, HVK.out]
        refine ⟨k + 1, _, by omega, by go_num, HQ3, ?_, ?_, HB3⟩
        · rw [e1]; exact hH.out.step hM.out.isMap
        · rw [e1]; exact size_step hH.out (hM.out.tidy law9) hS.out _
      case measure => simp [intOf]; omega
    · have hkn' : n = k := by omega
      subst hkn'
      clear hkn hk hmm
      obtain ⟨wl, rfl⟩ : ∃ wl : World, wl = wr := ⟨_, rfl⟩
      have HR0 : Hid ((wl.alloc (.cells cur 28)).ownsRow wl.heap.size 28 2 (.slice (some ⟨wl.heap.size, 0, none⟩) 0 n) 0 []) := World.ownsRow_made wl cur n (Nat.le_refl _) (by simp only [maxLen]; omega) hcur
      have HNl := hid (HN.out.below hbw.out); have HBl := hid (HB.out.below hbw.out)
      clear HN HB
      go_wp2
      clear hmk hcur
      go_loopw [8, 7] (fun i v wr => ∃ (k g cap : Nat), k ≤ n ∧ i = .int .i64 k ∧ v = .slice (some ⟨g, 0, none⟩) (wantL S B n k).length cap ∧
          Hid (wr.ownsRow wl.heap.size 28 2 (.slice (some ⟨g, 0, none⟩) (wantL S B n k).length cap) (wantL S B n k).length ((wantL S B n k).flatMap encA)) ∧ Hid (Below wl.heap.size wl wr)) (fun i _ _ => n - (intOf i).toNat)
      case atStart => exact ⟨0, wl.heap.size, n, Nat.zero_le _, rfl, rfl, HR0, (Below.refl _ _).alloc (Nat.le_refl _) _⟩
      case round =>
        obtain ⟨k, g, cap, hk, rfl, rfl, hrow, hbl⟩ := hrel
        have hLl := length_wantL S B n k
        by_cases hkn : k < n
        · obtain ⟨b, off, hna, hcell⟩ := HNl.out (by omega)
          subst hna
          have HCE := hid hcell
          obtain ⟨hck0, hsk⟩ := hcell k hkn
          have hb0 : b < wl.heap.size := block_lt_of_cell hck0
          have hck : wr.cell? ⟨b, off + k, none⟩ = some (.string (S k)) := by rw [hbl.out.cell (by exact hb0)]; exact hck0
          obtain ⟨s, hs⟩ : ∃ s, s = S k := ⟨_, rfl⟩
          rw [← hs] at hck hsk
          have HSK := hid hs
          obtain ⟨L, hL⟩ : ∃ L, L = wantL S B n k := ⟨_, rfl⟩
          rw [← hL] at hrow hLl ⊢
          have HLe := hid hL
          obtain ⟨m, hm⟩ : ∃ m, m = L.length := ⟨_, rfl⟩
          rw [← hm] at hrow hLl ⊢
          have HME := hid hm
          clear hcell hck0 hs hL hm
          go_wp2
          obtain ⟨wo, rfl⟩ : ∃ wo : World, wo = wr := ⟨_, rfl⟩
          go_loopw [10, 9] (fun j l wr => ∃ (t q : Nat), k + 1 ≤ t ∧ t ≤ n ∧ j = .int .i64 t ∧ l = .bool true ∧ Hid (∀ u, k < u → u < t → S u ≠ S k) ∧ wr = wo.drewN q) (fun j _ _ => n - (intOf j).toNat)
          case atStart => exact ⟨k + 1, 0, Nat.le_refl _, by omega, by go_num, rfl, (fun u h1 h2 => by omega), rfl⟩
          case round =>
            obtain ⟨t, q, hkt, htn, rfl, rfl, hno, rfl⟩ := hrel
            by_cases htl : t < n
            · have hct : wo.cell? ⟨b, off + t, none⟩ = some (.string (S t)) := by rw [hbl.out.cell (by exact hb0)]; exact (HCE.out t htl).1
              obtain ⟨st, hst⟩ : ∃ st, st = S t := ⟨_, rfl⟩
              rw [← hst] at hct
              have HST := hid hst
              clear hst
              by_cases heq : st = s
              · have hb1 : (st.toList == s.toList) = true := by rw [heq]; simp
                have HEQ := hid heq
                clear heq
                go_wp2
                go_quiet (fail)
                go_wp2
                have eW : wantL S B n (k + 1) = L := by
                  rw [want_succ_no, ← HLe.out]
                  intro h9
                  exact (isLast_iff S n k).1 h9 t (by omega) htl (by rw [← HST.out, HEQ.out, HSK.out])
                go_roundw
                case rel =>
                  refine ⟨k + 1, g, cap, by omega, by go_num, ?_, ?_, below_drewN hbl.out _⟩
                  · rw [eW, ← HME.out]
                  · rw [eW, ← HME.out]
                    exact hrow.out
                case measure => simp [intOf]; omega
              · have hb1 : (st.toList == s.toList) = false := by
                  cases h9 : st.toList == s.toList with
                  | false => rfl
                  | true => exact absurd (toList_inj (by simpa using h9)) heq
                have HEQ := hid heq
                clear heq
                go_wp2
                go_quiet (fail)
                go_wp2
                go_roundw
                case rel =>
                  refine ⟨t + 1, q + nq, by omega, by omega, by go_num, rfl, ?_, rfl⟩
                  intro u h1 h2
                  by_cases e : u = t
                  · rw [e, ← HST.out, ← HSK.out]; exact HEQ.out
                  · exact hno.out u h1 (by omega)
                case measure => simp [intOf]; omega
            · have hnt : n = t := by omega
              subst hnt
              have HLast : Hid (isLast S n k = true) := (isLast_iff S n k).2 hno.out
              have eW : wantL S B n (k + 1) = L ++ [(S k, B k)] := by rw [want_succ_yes HLast.out, ← HLe.out]
              have HEW := hid eW
              clear eW
              have HBal : Hid (Calls Yba.prog 6 #[.slice ba bn bc, .int .i64 k] (wo.drewN q).drew fun e w' => e = .returned (.int .i64 (B k)) ∧ (wo.drewN q).drew = w') := by
                rw [HBE.out]
                exact bal_any ba bn bc Bs k (wo.drewN q).drew (HBl.out.below (below_drewN hbl.out q).drew)
              have hckb : (wo.drewN q).cell? ⟨b, off + k, none⟩ = some (.string s) := hck
              have HRb : Hid ((wo.drewN q).ownsRow wl.heap.size 28 2 (.slice (some ⟨g, 0, none⟩) m cap) m (L.flatMap encA)) := hrow
              have HBb : Hid (Below wl.heap.size wl (wo.drewN q)) := below_drewN hbl.out q
              go_wp2
              generalize hWb : wo.drewN q = Wb at HBal hckb HRb HBb ⊢
              clear hWb
              obtain ⟨v, hv⟩ : ∃ v, v = B k := ⟨_, rfl⟩
              rw [← hv] at HBal
              have HVK := hid hv
              have hS0 : Wb.drew.cell? ⟨b, off + k, none⟩ = some (.string s) := hckb
              have hbb : b < Wb.heap.size := block_lt_of_cell hckb
              have hS1 : (Wb.alloc (.cells #[.string s, .int .i64 v] 28)).drew.cell? ⟨b, off + k, none⟩ = some (.string s) := by
                show (Wb.alloc (.cells #[.string s, .int .i64 v] 28)).cell? ⟨b, off + k, none⟩ = some (.string s)
                rw [World.cell?_of_block (w := Wb) (Below.heap_alloc _ _ _ hbb)]
                exact hckb
              have HRA : Hid ((Wb.alloc (.cells #[.string s, .int .i64 v] 28)).drew.ownsRow wl.heap.size 28 2 (.slice (some ⟨g, 0, none⟩) m cap) m (L.flatMap encA)) := row_of_block HRb.out (fun g' hg' => Below.heap_alloc _ _ _ (HRb.out.lt g' hg').2)
              have HNB : Hid ((Wb.alloc (.cells #[.string s, .int .i64 v] 28)).drew.heap[Wb.heap.size]? = some (.cells #[.string s, .int .i64 v] 28)) := heap_alloc_new _ _
              have HONE : Hid (∀ u ∈ [Value.string s, Value.int .i64 v], u.oneCell' = true) := by
                intro u hu
                simp at hu
                rcases hu with rfl | rfl <;> rfl
              have hgl := HRb.out.lt g rfl
              have hbs : wl.heap.size ≤ (Wb.alloc (.cells #[.string s, .int .i64 v] 28)).drew.heap.size := by have := HBb.out.size; simp; omega
              obtain ⟨i28, hi28, hz28, hs28, hb28⟩ := ex28
              clear hv hck
              go_region_held3 (fun w' => w'.cell? ⟨b, off + k, none⟩ = some (.string s)) (assumption)
                (first
                  | (go_at_call 6; refine HBal.out.mono ?_; rintro e w' ⟨rfl, rfl⟩)
                  | (refine step_append_lies _ rfl (.tmp 62) (.tmp 71) 26 rfl wl.heap.size 28 i28 (.agg #[.string ByteArray.empty, .int .i64 0]) 2 24 Yba.underlying26 hi28 hz28 hs28 hb28 rfl (by omega) (.slice (some ⟨g, 0, none⟩) m cap) m (L.flatMap encA) rfl HRA.out ⟨Wb.heap.size, 0, none⟩ 1 1 [.string s, .int .i64 v] rfl rfl (World.news_of_block HNB.out) HONE.out (by omega) (by simp only [maxLen]; omega) (by omega) hbs _ rfl ?_
                     intro g2 cap2 w2 hown2 hgrow2 hat2 hlt2
                     have hS2 : w2.cell? ⟨b, off + k, none⟩ = some (.string s) := by rw [hgrow2.cell_far _ (by show b < _; simp; omega) (by intro e; cases e; omega)]; exact hS1))
              go_wp2
              go_roundw
              case rel =>
                have h := hown2
                rw [show L.flatMap encA ++ [Value.string s, Value.int .i64 v] = (L ++ [(s, v)]).flatMap encA from (flat_snoc L (s, v)).symm] at h
                have e2 : wantL S B n (k + 1) = L ++ [(s, v)] := by rw [HEW.out, HSK.out, HVK.out]
                have e3 : (L ++ [(s, v)]).length = m + 1 := by rw [HME.out]; simp
                refine ⟨k + 1, g2, cap2, by omega, by go_num, ?_, ?_, ?_⟩
                · rw [e2, e3]
                · rw [e2, e3]; exact h
                · exact (HBb.out.alloc HBb.out.size _).drew.grown hgrow2 (by have := HBb.out.size; simp; omega) (fun i hi => by cases hi; exact hgl.1)
              case measure => simp [intOf]; omega
        · have hkn' : n = k := by omega
          subst hkn'
          clear hkn hk
          have HMr := hid (map_of_block hM.out (hbl.out.block _ hM.out.lt))
          have hwl : w.heap.size < wl.heap.size := hM.out.lt
          have hgl := hrow.out.lt g rfl
          have HSz : Hid ((∀ x ∈ wantL S B n n, x.1.size ≤ maxLen)) := by
            intro x hx
            obtain ⟨i, h1, _, h3⟩ := (mem_wantL S B n x n).1 hx
            obtain ⟨b, off, _, hcell⟩ := HNl.out (by omega)
            rw [h3]
            exact (hcell i h1).2
          have HMW := hid (mem_want S B n)
          have HOW := hid (want_one S B n n (Nat.le_refl _))
          have HSZ : Hid (Maps.size D = (wantL S B n n).length) := by show _ = _; rw [hS.out, keys_want]
          generalize wantL S B n n = W at hrow HSz HMW HOW HSZ hLl ⊢
          have HACC := hid (acc_any w.heap.size n D (val S B n) wr HMr.out hbig hH.out)
          have hnil := fun (a : Addr) (l c : Nat) (W : World) => eqNil a l c W
          go_wp2_with (first
            | (go_at_call 7
               refine HACC.out.mono ?_
               rintro e wA ⟨gG, capG, G, rfl, hGrow, hGone, hGmem, hGlen, hBA⟩
               have HMA := hid (map_of_block HMr.out (hBA.block _ HMr.out.lt))
               have hlm := fun ty => HMA.out.len Yba.underlying24 ty
               rw [HSZ.out] at hlm)
            | fail)
          have HGr := hid hGrow; have HGo := hid hGone; have HGm := hid hGmem; have HBA := hid hBA
          clear hGrow hGone hGmem hBA hlm hnil
          have hgw : g < wA.heap.size := by have := HBA.out.size; omega
          have HWA := hid (holds_of_row (row_of_block hrow.out (fun g' hg' => HBA.out.block g' (hrow.out.lt g' hg').2)))
          have HGA := hid (holds_of_row HGr.out)
          have hgG := HGr.out.lt gG rfl
          go_loopw [12] (fun i wr => ∃ j : Nat, j ≤ W.length ∧ i = .int .i64 j ∧ wr = wA) (fun i _ => W.length - (intOf i).toNat)
          case atStart => exact ⟨0, Nat.zero_le _, rfl, rfl⟩
          case round =>
            obtain ⟨j, hj, rfl, rfl⟩ := hrel
            by_cases hjl : j < W.length
            · obtain ⟨x, hx⟩ : ∃ x, W[j]? = some x := ⟨_, List.getElem?_eq_getElem hjl⟩
              have hxm : x ∈ W := List.mem_of_getElem? hx
              have hxe : W[j]! = x := by rw [getElem!_pos W j hjl]; rw [List.getElem?_eq_getElem hjl] at hx; simpa using hx
              have hc0 : wr.cell? ⟨g, j * 2, none⟩ = some (.string x.1) := by
                have h9 := cells_of_holds HWA.out j hjl 0 (.string x.1) (by rw [hxe]; rfl)
                simpa using h9
              have hc1 : wr.cell? ⟨g, j * 2 + 1, none⟩ = some (.int .i64 x.2) := by
                have h9 := cells_of_holds HWA.out j hjl 1 (.int .i64 x.2) (by rw [hxe]; rfl)
                simpa using h9
              have hlk := look_there HMA.out hH.out (HSz.out x hxm) ((HMW.out x.1 x.2).1 hxm)
              clear hx hxm hxe
              go_wp2
              go_roundw
              case rel => exact ⟨j + 1, by omega, by go_num, trivial⟩
              case measure => simp [intOf]; omega
            · have hperm : G.Perm W := perm_of_mem HGo.out HOW.out (fun y => (HGm.out y).trans (HMW.out y.1 y.2).symm)
              have hGW : G.length = W.length := hperm.length_eq
              have HP := hid hperm; have HGW := hid hGW
              have HS1 := hid (sort_any gG capG G wr HGA.out hgG.2 hGlen)
              clear hperm hGW
              go_wp2_with fail
              refine HS1.out.mono ?_
              rintro e wS ⟨rfl, G1, hp1, hs1, hh1, hg1⟩
              have HW1 := hid (holdsK_of_block HWA.out (hg1.block g hgw (by intro e; cases e; omega)))
              have HS2 := hid (sort_any g cap W wS HW1.out (Nat.lt_of_lt_of_le hgw hg1.size) (by omega))
              have HH1 := hid hh1; have HSO1 := hid hs1; have HPE1 := hid hp1; have HGR1 := hid hg1
              clear hh1 hs1 hp1 hg1 HS1
              go_wp2_with fail
              refine HS2.out.mono ?_
              rintro e wT ⟨rfl, W1, hp2, hs2, hh2, hg2⟩
              have HG2 := hid (holdsK_of_block HH1.out (hg2.block gG (Nat.lt_of_lt_of_le hgG.2 HGR1.out.size) (by intro e; cases e; omega)))
              have HEQ := hid (sorted_one ltB_total HGo.out HP.out HPE1.out hp2 HSO1.out hs2)
              have HL1 := hid (HPE1.out.length_eq)
              have HE := hid (equal_any gG capG g cap G1 wT HG2.out (by rw [HEQ.out]; exact hh2) (by rw [HL1.out]; omega))
              rw [HL1.out, HGW.out] at HE
              have HBT : Hid (Below w.heap.size w wT) :=
                (((((hbw.out.trans (hbl.out.mono (Nat.le_of_lt hwl))).trans (HBA.out.mono (by have := hbl.out.size; omega))).grown HGR1.out (by have h1 := hbl.out.size; have h2 := HBA.out.size; omega) (fun i hi => by cases hi; have h1 := hbl.out.size; omega))).grown hg2
                  (by have h1 := hbl.out.size; have h2 := HBA.out.size; have h3 := HGR1.out.size; omega) (fun i hi => by cases hi; omega))
              rw [HGW.out]
              clear hp2 hs2 hh2 hg2 HS2
              go_wp2_with fail
              refine HE.out.mono ?_
              rintro e w' ⟨rfl, q, rfl⟩
              go_wp2_with fail
              go_ret
              exact ⟨rfl, below_drewN HBT.out _⟩
end Go.Proofs.Ybulkfpaa
