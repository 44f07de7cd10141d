/-
  THE LAW's WALK: both arrays and the header's cells under names of their own (A, B, X): the walk moves them whole.
-/
import Derived.Test.YbulkfpkuFmtCheck
import Derived.Test.YbulkfpkuFmtWhole
import Derived.Test.YbulkfpkuFmtEq
import Derived.Handy
namespace Go.Proofs.YbulkfpkuFmt
open Go.RowKit Go.Extern.Stop Go.Stop Go.Extern

set_option maxHeartbeats 1000000 in
theorem law_ok (A B X : Array Value) (np ver ex fl mid n size : Int) (w : World) (hA : (Ybaf.prog.info? 22).map (·.size) = some A.size) (hB : (Ybaf.prog.info? 22).map (·.size) = some B.size) (hX : (Ybaf.prog.info? 28).map (·.size) = some X.size) (hXs : 22 = X.size) (hX1 : X.all (·.oneCell') = true) (hX21 : X[(21 : Nat)]? = some (.int .u32 n)) (h0 : 0 ≤ n) (h1 : n ≤ 4294967295) (h2 : size ≤ 9223372036854775807) (hn : ¬ size < n)
    (hbu : ∀ w, (Instr.build 28 #[(0, .agg A), (1, .agg B), (2, .int .u8 np), (3, .int .u8 ver), (4, .int .u8 ex), (5, .int .u8 fl), (6, .int .u32 mid), (7, .int .u32 n)]).run Ybaf.prog w = .ok (.agg X) w)
    (hne : ∀ w, (binOp .neq 28 (.agg X) (.agg X)).run Ybaf.prog w = .ok (.bool false) w) :
    Calls Ybaf.prog 3 #[.agg A, .agg B, .int .u8 np, .int .u8 ver, .int .u8 ex, .int .u8 fl, .int .u32 mid, .int .u32 n, .int .i64 size] w
      fun e w' => e = .returned (.bool true) ∧ Below w.heap.size w w' := by
  have hs0 : ¬ size < 0 := by omega
  have HA := hid hA; have HB := hid hB; have HX := hid hX; have HX1 := hid hX1; have HXs := hid hXs; have HX21 := hid hX21; have Hne := hid hne
  have Hbu := hid hbu
  clear hbu hA hB hX hX1 hXs hX21 hne
  go_enter Ybaf.func3, Ybaf.ntmps3
  go_wp2_with (first
    | (with_reducible refine atList ?_; refine wpList_load_row rfl 22 (.tmp 9) rfl w.heap.size rfl 22 A (0, 0) _ (by repeat (first | (refine hnew ?_; simp; done) | refine hold ?_)) Ybaf.underlying22 rfl HA.out ?_)
    | (with_reducible refine atList ?_; refine wpList_load_row rfl 22 (.tmp 10) rfl (w.heap.size + 1) rfl 22 B (0, 0) _ (by repeat (first | (refine hnew ?_; simp; done) | refine hold ?_)) Ybaf.underlying22 rfl HB.out ?_)
    | (with_reducible refine atList ?_; refine wpList_build_by rfl 28 #[(0, .tmp 23), (1, .tmp 24), (2, .tmp 25), (3, .tmp 26), (4, .tmp 27), (5, .tmp 28), (6, .tmp 29), (7, .tmp 30)] rfl #[(0, .agg A), (1, .agg B), (2, .int .u8 np), (3, .int .u8 ver), (4, .int .u8 ex), (5, .int .u8 fl), (6, .int .u32 mid), (7, .int .u32 n)] (by simp [go_sem]) (.agg X) Hbu.out ?_)
    | (with_reducible refine atList ?_; refine wpList_store_whole rfl 28 (.tmp 19) (.tmp 31) rfl (w.heap.size + 1 + 1) X rfl rfl HX.out HX1.out _ _ rfl (by simp) (by simpa using HXs.out) ?_)
    | (with_reducible refine atList ?_; refine wpList_load_row rfl 28 (.tmp 19) rfl (w.heap.size + 1 + 1) rfl 28 X (0, 0) _ (by repeat (first | (refine hnew ?_; simp; done) | refine hold ?_ | refine hdrew ?_)) Ybaf.underlying28 rfl HX.out ?_)
    | (with_reducible refine atList ?_; refine wpList_store_whole rfl 28 (.tmp 20) (.tmp 32) rfl (w.heap.size + 1 + 1 + 1) X rfl rfl HX.out HX1.out _ _ rfl (by simp) (by simpa using HXs.out) ?_)
    | (with_reducible refine atList ?_; refine wpList_load_row rfl 28 (.tmp 20) rfl (w.heap.size + 1 + 1 + 1) rfl 28 X (0, 0) _ (by repeat (first | (refine hnew ?_; simp; done) | refine hold ?_ | refine hdrew ?_)) Ybaf.underlying28 rfl HX.out ?_)
    | (with_reducible refine atList ?_; refine wpList_neq_by rfl 28 (.tmp 43) (.tmp 44) 28 rfl X rfl rfl guard28 Hne.out ?_)
    | (go_at_call 4; refine (check_ok X n size _ HX21.out h0 h1 hn).mono ?_; rintro e w' ⟨rfl, rfl⟩))
  go_ret
  exact ⟨rfl, by go_grown⟩

set_option maxHeartbeats 1000000 in
theorem law_neg (F : Interp) (A B X : Array Value) (np ver ex fl mid n size : Int) (w : World) (hF : F.answers w.tape) (hA : (Ybaf.prog.info? 22).map (·.size) = some A.size) (hB : (Ybaf.prog.info? 22).map (·.size) = some B.size) (hX : (Ybaf.prog.info? 28).map (·.size) = some X.size) (hXs : 22 = X.size) (hX1 : X.all (·.oneCell') = true) (hX21 : X[(21 : Nat)]? = some (.int .u32 n)) (h0 : 0 ≤ n) (h1 : n ≤ 4294967295) (hn : size < 0)
    (hbu : ∀ w, (Instr.build 28 #[(0, .agg A), (1, .agg B), (2, .int .u8 np), (3, .int .u8 ver), (4, .int .u8 ex), (5, .int .u8 fl), (6, .int .u32 mid), (7, .int .u32 n)]).run Ybaf.prog w = .ok (.agg X) w)
    (hne : ∀ w, (binOp .neq 28 (.agg X) (.agg X)).run Ybaf.prog w = .ok (.bool false) w) :
    Calls Ybaf.prog 3 #[.agg A, .agg B, .int .u8 np, .int .u8 ver, .int .u8 ex, .int .u8 fl, .int .u32 mid, .int .u32 n, .int .i64 size] w
      fun e w' => e = .returned (.bool true) ∧ Below w.heap.size w w' := by
  have HF := hid hF; clear hF
  have HA := hid hA; have HB := hid hB; have HX := hid hX; have HX1 := hid hX1; have HXs := hid hXs; have HX21 := hid hX21; have Hne := hid hne
  have Hbu := hid hbu
  clear hbu hA hB hX hX1 hXs hX21 hne
  go_enter Ybaf.func3, Ybaf.ntmps3
  go_wp2_with (first
    | (with_reducible refine atList ?_; refine wpList_load_row rfl 22 (.tmp 9) rfl w.heap.size rfl 22 A (0, 0) _ (by repeat (first | (refine hnew ?_; simp; done) | refine hold ?_)) Ybaf.underlying22 rfl HA.out ?_)
    | (with_reducible refine atList ?_; refine wpList_load_row rfl 22 (.tmp 10) rfl (w.heap.size + 1) rfl 22 B (0, 0) _ (by repeat (first | (refine hnew ?_; simp; done) | refine hold ?_)) Ybaf.underlying22 rfl HB.out ?_)
    | (with_reducible refine atList ?_; refine wpList_build_by rfl 28 #[(0, .tmp 23), (1, .tmp 24), (2, .tmp 25), (3, .tmp 26), (4, .tmp 27), (5, .tmp 28), (6, .tmp 29), (7, .tmp 30)] rfl #[(0, .agg A), (1, .agg B), (2, .int .u8 np), (3, .int .u8 ver), (4, .int .u8 ex), (5, .int .u8 fl), (6, .int .u32 mid), (7, .int .u32 n)] (by simp [go_sem]) (.agg X) Hbu.out ?_)
    | (with_reducible refine atList ?_; refine wpList_store_whole rfl 28 (.tmp 19) (.tmp 31) rfl (w.heap.size + 1 + 1) X rfl rfl HX.out HX1.out _ _ rfl (by simp) (by simpa using HXs.out) ?_)
    | (with_reducible refine atList ?_; refine wpList_load_row rfl 28 (.tmp 19) rfl (w.heap.size + 1 + 1) rfl 28 X (0, 0) _ (by repeat (first | (refine hnew ?_; simp; done) | refine hold ?_ | refine hdrew ?_)) Ybaf.underlying28 rfl HX.out ?_)
    | (with_reducible refine atList ?_; refine wpList_store_whole rfl 28 (.tmp 20) (.tmp 32) rfl (w.heap.size + 1 + 1 + 1) X rfl rfl HX.out HX1.out _ _ rfl (by simp) (by simpa using HXs.out) ?_)
    | (with_reducible refine atList ?_; refine wpList_load_row rfl 28 (.tmp 20) rfl (w.heap.size + 1 + 1 + 1) rfl 28 X (0, 0) _ (by repeat (first | (refine hnew ?_; simp; done) | refine hold ?_ | refine hdrew ?_)) Ybaf.underlying28 rfl HX.out ?_)
    | (with_reducible refine atList ?_; refine wpList_neq_by rfl 28 (.tmp 43) (.tmp 44) 28 rfl X rfl rfl guard28 Hne.out ?_)
    | (go_at_call 4; refine (check_no F X n size _ (by exact HF.out) HX21.out h0 h1 (by omega)).mono ?_; rintro e w' ⟨a, rfl, c2, c3, rfl⟩))
  go_ret
  exact ⟨rfl, by go_grown⟩

set_option maxHeartbeats 1000000 in
theorem law_big (F : Interp) (A B X : Array Value) (np ver ex fl mid n size : Int) (w : World) (hF : F.answers w.tape) (hA : (Ybaf.prog.info? 22).map (·.size) = some A.size) (hB : (Ybaf.prog.info? 22).map (·.size) = some B.size) (hX : (Ybaf.prog.info? 28).map (·.size) = some X.size) (hXs : 22 = X.size) (hX1 : X.all (·.oneCell') = true) (hX21 : X[(21 : Nat)]? = some (.int .u32 n)) (h0 : 0 ≤ n) (h1 : n ≤ 4294967295) (hs : 0 ≤ size) (hn : size < n)
    (hbu : ∀ w, (Instr.build 28 #[(0, .agg A), (1, .agg B), (2, .int .u8 np), (3, .int .u8 ver), (4, .int .u8 ex), (5, .int .u8 fl), (6, .int .u32 mid), (7, .int .u32 n)]).run Ybaf.prog w = .ok (.agg X) w)
    (hne : ∀ w, (binOp .neq 28 (.agg X) (.agg X)).run Ybaf.prog w = .ok (.bool false) w) :
    Calls Ybaf.prog 3 #[.agg A, .agg B, .int .u8 np, .int .u8 ver, .int .u8 ex, .int .u8 fl, .int .u32 mid, .int .u32 n, .int .i64 size] w
      fun e w' => e = .returned (.bool true) ∧ Below w.heap.size w w' := by
  have hs0 : ¬ size < 0 := by omega
  have HF := hid hF; clear hF
  have HA := hid hA; have HB := hid hB; have HX := hid hX; have HX1 := hid hX1; have HXs := hid hXs; have HX21 := hid hX21; have Hne := hid hne
  have Hbu := hid hbu
  clear hbu hA hB hX hX1 hXs hX21 hne
  go_enter Ybaf.func3, Ybaf.ntmps3
  go_wp2_with (first
    | (with_reducible refine atList ?_; refine wpList_load_row rfl 22 (.tmp 9) rfl w.heap.size rfl 22 A (0, 0) _ (by repeat (first | (refine hnew ?_; simp; done) | refine hold ?_)) Ybaf.underlying22 rfl HA.out ?_)
    | (with_reducible refine atList ?_; refine wpList_load_row rfl 22 (.tmp 10) rfl (w.heap.size + 1) rfl 22 B (0, 0) _ (by repeat (first | (refine hnew ?_; simp; done) | refine hold ?_)) Ybaf.underlying22 rfl HB.out ?_)
    | (with_reducible refine atList ?_; refine wpList_build_by rfl 28 #[(0, .tmp 23), (1, .tmp 24), (2, .tmp 25), (3, .tmp 26), (4, .tmp 27), (5, .tmp 28), (6, .tmp 29), (7, .tmp 30)] rfl #[(0, .agg A), (1, .agg B), (2, .int .u8 np), (3, .int .u8 ver), (4, .int .u8 ex), (5, .int .u8 fl), (6, .int .u32 mid), (7, .int .u32 n)] (by simp [go_sem]) (.agg X) Hbu.out ?_)
    | (with_reducible refine atList ?_; refine wpList_store_whole rfl 28 (.tmp 19) (.tmp 31) rfl (w.heap.size + 1 + 1) X rfl rfl HX.out HX1.out _ _ rfl (by simp) (by simpa using HXs.out) ?_)
    | (with_reducible refine atList ?_; refine wpList_load_row rfl 28 (.tmp 19) rfl (w.heap.size + 1 + 1) rfl 28 X (0, 0) _ (by repeat (first | (refine hnew ?_; simp; done) | refine hold ?_ | refine hdrew ?_)) Ybaf.underlying28 rfl HX.out ?_)
    | (with_reducible refine atList ?_; refine wpList_store_whole rfl 28 (.tmp 20) (.tmp 32) rfl (w.heap.size + 1 + 1 + 1) X rfl rfl HX.out HX1.out _ _ rfl (by simp) (by simpa using HXs.out) ?_)
    | (with_reducible refine atList ?_; refine wpList_load_row rfl 28 (.tmp 20) rfl (w.heap.size + 1 + 1 + 1) rfl 28 X (0, 0) _ (by repeat (first | (refine hnew ?_; simp; done) | refine hold ?_ | refine hdrew ?_)) Ybaf.underlying28 rfl HX.out ?_)
    | (with_reducible refine atList ?_; refine wpList_neq_by rfl 28 (.tmp 43) (.tmp 44) 28 rfl X rfl rfl guard28 Hne.out ?_)
    | (go_at_call 4; refine (check_no F X n size _ (by exact HF.out) HX21.out h0 h1 hn).mono ?_; rintro e w' ⟨a, rfl, c2, c3, rfl⟩))
  go_ret
  exact ⟨rfl, by go_grown⟩

end Go.Proofs.YbulkfpkuFmt
