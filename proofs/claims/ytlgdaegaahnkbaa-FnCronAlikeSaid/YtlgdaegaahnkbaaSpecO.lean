/- A schedule with other bits for one field: cronWith (printed by gen_so.py). -/
import Derived.Test.YtlgdaegaahnkbaaSpecN
namespace Go.Proofs.Ytlgdaegaahnkbaa.Tm
open Go Go.RowKit Cal MC
open Go.Proofs.YtlgdaegaahnkbaaW.PrintWords Go.Proofs.YtlgdaegaahnkbaaW.PrintLast Go.Proofs.YtlgdaegaahnkbaaW.PrintMore
set_option linter.unusedVariables false
set_option linter.unusedSimpArgs false
theorem ix84_0 (q : Nat) (w : World) : (Instr.index 84 (.agg #[.pointer (some ⟨q, 2, none⟩), .pointer (some ⟨q, 3, none⟩), .pointer (some ⟨q, 4, none⟩), .pointer (some ⟨q, 5, none⟩), .pointer (some ⟨q, 6, none⟩), .pointer (some ⟨q, 7, none⟩)]) (.int .i64 0)).run Try.prog w = .ok (.pointer (some ⟨q, 2, none⟩)) w := by kernel_rfl
set_option maxHeartbeats 2000000 in
set_option maxRecDepth 100000 in
theorem with_0 (b : SB) (dl : Int) (v : Nat) (w : World) : Calls Try.prog 21 #[.agg #[.bool false, .int .i64 dl, .int .u64 (b.s : Int), .int .u64 (b.i : Int), .int .u64 (b.h : Int), .int .u64 (b.d : Int), .int .u64 (b.m : Int), .int .u64 (b.w : Int)], .int .i64 0, .int .u64 (v : Int)] w fun e w' => e = .returned (.agg #[.bool false, .int .i64 dl, .int .u64 (v : Int), .int .u64 (b.i : Int), .int .u64 (b.h : Int), .int .u64 (b.d : Int), .int .u64 (b.m : Int), .int .u64 (b.w : Int)]) ∧ Below w.heap.size w w' := by
  have hix := ix84_0
  go_enter Try.func21, Try.ntmps21
  go_wp2_with fail
  refine bodyPost_ret (v := .agg #[.bool false, .int .i64 dl, .int .u64 (v : Int), .int .u64 (b.i : Int), .int .u64 (b.h : Int), .int .u64 (b.d : Int), .int .u64 (b.m : Int), .int .u64 (b.w : Int)]) (by simp [results, Try.results21, go_sem]) rfl ⟨rfl, ?_⟩
  exact ((Below.refl _ w).alloc (Nat.le_refl _) _).alloc (by simp) _
theorem ix84_1 (q : Nat) (w : World) : (Instr.index 84 (.agg #[.pointer (some ⟨q, 2, none⟩), .pointer (some ⟨q, 3, none⟩), .pointer (some ⟨q, 4, none⟩), .pointer (some ⟨q, 5, none⟩), .pointer (some ⟨q, 6, none⟩), .pointer (some ⟨q, 7, none⟩)]) (.int .i64 1)).run Try.prog w = .ok (.pointer (some ⟨q, 3, none⟩)) w := by kernel_rfl
set_option maxHeartbeats 2000000 in
set_option maxRecDepth 100000 in
theorem with_1 (b : SB) (dl : Int) (v : Nat) (w : World) : Calls Try.prog 21 #[.agg #[.bool false, .int .i64 dl, .int .u64 (b.s : Int), .int .u64 (b.i : Int), .int .u64 (b.h : Int), .int .u64 (b.d : Int), .int .u64 (b.m : Int), .int .u64 (b.w : Int)], .int .i64 1, .int .u64 (v : Int)] w fun e w' => e = .returned (.agg #[.bool false, .int .i64 dl, .int .u64 (b.s : Int), .int .u64 (v : Int), .int .u64 (b.h : Int), .int .u64 (b.d : Int), .int .u64 (b.m : Int), .int .u64 (b.w : Int)]) ∧ Below w.heap.size w w' := by
  have hix := ix84_1
  go_enter Try.func21, Try.ntmps21
  go_wp2_with fail
  refine bodyPost_ret (v := .agg #[.bool false, .int .i64 dl, .int .u64 (b.s : Int), .int .u64 (v : Int), .int .u64 (b.h : Int), .int .u64 (b.d : Int), .int .u64 (b.m : Int), .int .u64 (b.w : Int)]) (by simp [results, Try.results21, go_sem]) rfl ⟨rfl, ?_⟩
  exact ((Below.refl _ w).alloc (Nat.le_refl _) _).alloc (by simp) _
theorem ix84_2 (q : Nat) (w : World) : (Instr.index 84 (.agg #[.pointer (some ⟨q, 2, none⟩), .pointer (some ⟨q, 3, none⟩), .pointer (some ⟨q, 4, none⟩), .pointer (some ⟨q, 5, none⟩), .pointer (some ⟨q, 6, none⟩), .pointer (some ⟨q, 7, none⟩)]) (.int .i64 2)).run Try.prog w = .ok (.pointer (some ⟨q, 4, none⟩)) w := by kernel_rfl
set_option maxHeartbeats 2000000 in
set_option maxRecDepth 100000 in
theorem with_2 (b : SB) (dl : Int) (v : Nat) (w : World) : Calls Try.prog 21 #[.agg #[.bool false, .int .i64 dl, .int .u64 (b.s : Int), .int .u64 (b.i : Int), .int .u64 (b.h : Int), .int .u64 (b.d : Int), .int .u64 (b.m : Int), .int .u64 (b.w : Int)], .int .i64 2, .int .u64 (v : Int)] w fun e w' => e = .returned (.agg #[.bool false, .int .i64 dl, .int .u64 (b.s : Int), .int .u64 (b.i : Int), .int .u64 (v : Int), .int .u64 (b.d : Int), .int .u64 (b.m : Int), .int .u64 (b.w : Int)]) ∧ Below w.heap.size w w' := by
  have hix := ix84_2
  go_enter Try.func21, Try.ntmps21
  go_wp2_with fail
  refine bodyPost_ret (v := .agg #[.bool false, .int .i64 dl, .int .u64 (b.s : Int), .int .u64 (b.i : Int), .int .u64 (v : Int), .int .u64 (b.d : Int), .int .u64 (b.m : Int), .int .u64 (b.w : Int)]) (by simp [results, Try.results21, go_sem]) rfl ⟨rfl, ?_⟩
  exact ((Below.refl _ w).alloc (Nat.le_refl _) _).alloc (by simp) _
theorem ix84_3 (q : Nat) (w : World) : (Instr.index 84 (.agg #[.pointer (some ⟨q, 2, none⟩), .pointer (some ⟨q, 3, none⟩), .pointer (some ⟨q, 4, none⟩), .pointer (some ⟨q, 5, none⟩), .pointer (some ⟨q, 6, none⟩), .pointer (some ⟨q, 7, none⟩)]) (.int .i64 3)).run Try.prog w = .ok (.pointer (some ⟨q, 5, none⟩)) w := by kernel_rfl
set_option maxHeartbeats 2000000 in
set_option maxRecDepth 100000 in
theorem with_3 (b : SB) (dl : Int) (v : Nat) (w : World) : Calls Try.prog 21 #[.agg #[.bool false, .int .i64 dl, .int .u64 (b.s : Int), .int .u64 (b.i : Int), .int .u64 (b.h : Int), .int .u64 (b.d : Int), .int .u64 (b.m : Int), .int .u64 (b.w : Int)], .int .i64 3, .int .u64 (v : Int)] w fun e w' => e = .returned (.agg #[.bool false, .int .i64 dl, .int .u64 (b.s : Int), .int .u64 (b.i : Int), .int .u64 (b.h : Int), .int .u64 (v : Int), .int .u64 (b.m : Int), .int .u64 (b.w : Int)]) ∧ Below w.heap.size w w' := by
  have hix := ix84_3
  go_enter Try.func21, Try.ntmps21
  go_wp2_with fail
  refine bodyPost_ret (v := .agg #[.bool false, .int .i64 dl, .int .u64 (b.s : Int), .int .u64 (b.i : Int), .int .u64 (b.h : Int), .int .u64 (v : Int), .int .u64 (b.m : Int), .int .u64 (b.w : Int)]) (by simp [results, Try.results21, go_sem]) rfl ⟨rfl, ?_⟩
  exact ((Below.refl _ w).alloc (Nat.le_refl _) _).alloc (by simp) _
theorem ix84_4 (q : Nat) (w : World) : (Instr.index 84 (.agg #[.pointer (some ⟨q, 2, none⟩), .pointer (some ⟨q, 3, none⟩), .pointer (some ⟨q, 4, none⟩), .pointer (some ⟨q, 5, none⟩), .pointer (some ⟨q, 6, none⟩), .pointer (some ⟨q, 7, none⟩)]) (.int .i64 4)).run Try.prog w = .ok (.pointer (some ⟨q, 6, none⟩)) w := by kernel_rfl
set_option maxHeartbeats 2000000 in
set_option maxRecDepth 100000 in
theorem with_4 (b : SB) (dl : Int) (v : Nat) (w : World) : Calls Try.prog 21 #[.agg #[.bool false, .int .i64 dl, .int .u64 (b.s : Int), .int .u64 (b.i : Int), .int .u64 (b.h : Int), .int .u64 (b.d : Int), .int .u64 (b.m : Int), .int .u64 (b.w : Int)], .int .i64 4, .int .u64 (v : Int)] w fun e w' => e = .returned (.agg #[.bool false, .int .i64 dl, .int .u64 (b.s : Int), .int .u64 (b.i : Int), .int .u64 (b.h : Int), .int .u64 (b.d : Int), .int .u64 (v : Int), .int .u64 (b.w : Int)]) ∧ Below w.heap.size w w' := by
  have hix := ix84_4
  go_enter Try.func21, Try.ntmps21
  go_wp2_with fail
  refine bodyPost_ret (v := .agg #[.bool false, .int .i64 dl, .int .u64 (b.s : Int), .int .u64 (b.i : Int), .int .u64 (b.h : Int), .int .u64 (b.d : Int), .int .u64 (v : Int), .int .u64 (b.w : Int)]) (by simp [results, Try.results21, go_sem]) rfl ⟨rfl, ?_⟩
  exact ((Below.refl _ w).alloc (Nat.le_refl _) _).alloc (by simp) _
theorem ix84_5 (q : Nat) (w : World) : (Instr.index 84 (.agg #[.pointer (some ⟨q, 2, none⟩), .pointer (some ⟨q, 3, none⟩), .pointer (some ⟨q, 4, none⟩), .pointer (some ⟨q, 5, none⟩), .pointer (some ⟨q, 6, none⟩), .pointer (some ⟨q, 7, none⟩)]) (.int .i64 5)).run Try.prog w = .ok (.pointer (some ⟨q, 7, none⟩)) w := by kernel_rfl
set_option maxHeartbeats 2000000 in
set_option maxRecDepth 100000 in
theorem with_5 (b : SB) (dl : Int) (v : Nat) (w : World) : Calls Try.prog 21 #[.agg #[.bool false, .int .i64 dl, .int .u64 (b.s : Int), .int .u64 (b.i : Int), .int .u64 (b.h : Int), .int .u64 (b.d : Int), .int .u64 (b.m : Int), .int .u64 (b.w : Int)], .int .i64 5, .int .u64 (v : Int)] w fun e w' => e = .returned (.agg #[.bool false, .int .i64 dl, .int .u64 (b.s : Int), .int .u64 (b.i : Int), .int .u64 (b.h : Int), .int .u64 (b.d : Int), .int .u64 (b.m : Int), .int .u64 (v : Int)]) ∧ Below w.heap.size w w' := by
  have hix := ix84_5
  go_enter Try.func21, Try.ntmps21
  go_wp2_with fail
  refine bodyPost_ret (v := .agg #[.bool false, .int .i64 dl, .int .u64 (b.s : Int), .int .u64 (b.i : Int), .int .u64 (b.h : Int), .int .u64 (b.d : Int), .int .u64 (b.m : Int), .int .u64 (v : Int)]) (by simp [results, Try.results21, go_sem]) rfl ⟨rfl, ?_⟩
  exact ((Below.refl _ w).alloc (Nat.le_refl _) _).alloc (by simp) _
theorem with_any (b : SB) (dl : Int) (v : Nat) (w : World) : ∀ k : Nat, k < 6 → Calls Try.prog 21 #[.agg #[.bool false, .int .i64 dl, .int .u64 (b.s : Int), .int .u64 (b.i : Int), .int .u64 (b.h : Int), .int .u64 (b.d : Int), .int .u64 (b.m : Int), .int .u64 (b.w : Int)], .int .i64 (k : Int), .int .u64 (v : Int)] w fun e w' => e = .returned (.agg #[.bool false, .int .i64 dl, .int .u64 ((b.put k v).s : Int), .int .u64 ((b.put k v).i : Int), .int .u64 ((b.put k v).h : Int), .int .u64 ((b.put k v).d : Int), .int .u64 ((b.put k v).m : Int), .int .u64 ((b.put k v).w : Int)]) ∧ Below w.heap.size w w'
  | 0, _ => with_0 b dl v w
  | 1, _ => with_1 b dl v w
  | 2, _ => with_2 b dl v w
  | 3, _ => with_3 b dl v w
  | 4, _ => with_4 b dl v w
  | 5, _ => with_5 b dl v w
theorem Wf.put {b : SB} (h : Wf b) (k v : Nat) (hv : v < 18446744073709551616) : Wf (b.put k v) := by
  unfold SB.put
  split
  · exact ⟨hv, h.i, h.h, h.d, h.m, h.w⟩
  · exact ⟨h.s, hv, h.h, h.d, h.m, h.w⟩
  · exact ⟨h.s, h.i, hv, h.d, h.m, h.w⟩
  · exact ⟨h.s, h.i, h.h, hv, h.m, h.w⟩
  · exact ⟨h.s, h.i, h.h, h.d, hv, h.w⟩
  · exact ⟨h.s, h.i, h.h, h.d, h.m, hv⟩
end Go.Proofs.Ytlgdaegaahnkbaa.Tm
