/- The reference's six sets, by hand: CronFieldsOf. -/
import Derived.Test.YtlgdaegaahnkbaaSpecB
namespace Go.Proofs.Ytlgdaegaahnkbaa.Tm
open Go Go.RowKit Cal MC
open Go.Proofs.YtlgdaegaahnkbaaW.PrintWords
set_option linter.unusedVariables false
set_option linter.unusedSimpArgs false
theorem zero32 : (Try.prog.info? 32).map (fun i => (i.zero, i.size)) = some (some (.agg (arrB 384 fun _ => false)), 384) := by kernel_rfl
def fldN (b : SB) : Nat → Nat
  | 0 => b.s
  | 1 => b.i
  | 2 => b.h
  | 3 => b.d
  | 4 => b.m
  | _ => b.w
theorem Wf.fld {b : SB} (h : Wf b) (i : Nat) : fldN b i < 18446744073709551616 := by
  unfold fldN
  split
  · exact h.s
  · exact h.i
  · exact h.h
  · exact h.d
  · exact h.m
  · exact h.w
/-- The cells of the first n sets. -/
def fcell (b : SB) (n : Nat) : Nat → Bool := fun j => if j < 64 * n then setB ((j / 64 : Nat) : Int) (fldN b (j / 64)) 60 ((fldN b (j / 64)).testBit 63) (j % 64) else false
theorem fcell_next (b : SB) (n : Nat) : over (fcell b n) (64 * n) 64 (setB (n : Int) (fldN b n) 60 ((fldN b n).testBit 63)) = fcell b (n + 1) := by
  funext j
  unfold over fcell
  by_cases c : 64 * n ≤ j ∧ j < 64 * n + 64
  · have e1 : j / 64 = n := by omega
    have e2 : j % 64 = j - 64 * n := by omega
    rw [if_pos c, if_pos (by omega), e1, e2]
  · rw [if_neg c]
    by_cases d : j < 64 * n
    · rw [if_pos d, if_pos (by omega)]
    · rw [if_neg d, if_neg (by omega)]
theorem fcell_step (b : SB) (n : Nat) : putAt (arrB 384 (fcell b n)) (n * 64) (arrB 64 (setB (n : Int) (fldN b n) 60 ((fldN b n).testBit 63))).toList = arrB 384 (fcell b (n + 1)) := by
  have h := putAt_arr 384 64 (fcell b n) (64 * n) (setB (n : Int) (fldN b n) 60 ((fldN b n).testBit 63))
  rw [fcell_next] at h
  rw [show n * 64 = 64 * n by omega]
  exact h
theorem fcell_zero (b : SB) : fcell b 0 = fun _ => false := by
  funext j
  unfold fcell
  rw [if_neg (by omega)]
/-- The six sets of a schedule. -/
def fv (b : SB) : Array Value := arrB 384 (fcell b 6)
theorem index54_0 (b : SB) (w : World) : (Instr.index 54 (.agg #[.int .u64 (b.s : Int), .int .u64 (b.i : Int), .int .u64 (b.h : Int), .int .u64 (b.d : Int), .int .u64 (b.m : Int), .int .u64 (b.w : Int)]) (.int .i64 0)).run Try.prog w = .ok (.int .u64 (b.s : Int)) w := by kernel_rfl
theorem index54_1 (b : SB) (w : World) : (Instr.index 54 (.agg #[.int .u64 (b.s : Int), .int .u64 (b.i : Int), .int .u64 (b.h : Int), .int .u64 (b.d : Int), .int .u64 (b.m : Int), .int .u64 (b.w : Int)]) (.int .i64 1)).run Try.prog w = .ok (.int .u64 (b.i : Int)) w := by kernel_rfl
theorem index54_2 (b : SB) (w : World) : (Instr.index 54 (.agg #[.int .u64 (b.s : Int), .int .u64 (b.i : Int), .int .u64 (b.h : Int), .int .u64 (b.d : Int), .int .u64 (b.m : Int), .int .u64 (b.w : Int)]) (.int .i64 2)).run Try.prog w = .ok (.int .u64 (b.h : Int)) w := by kernel_rfl
theorem index54_3 (b : SB) (w : World) : (Instr.index 54 (.agg #[.int .u64 (b.s : Int), .int .u64 (b.i : Int), .int .u64 (b.h : Int), .int .u64 (b.d : Int), .int .u64 (b.m : Int), .int .u64 (b.w : Int)]) (.int .i64 3)).run Try.prog w = .ok (.int .u64 (b.d : Int)) w := by kernel_rfl
theorem index54_4 (b : SB) (w : World) : (Instr.index 54 (.agg #[.int .u64 (b.s : Int), .int .u64 (b.i : Int), .int .u64 (b.h : Int), .int .u64 (b.d : Int), .int .u64 (b.m : Int), .int .u64 (b.w : Int)]) (.int .i64 4)).run Try.prog w = .ok (.int .u64 (b.m : Int)) w := by kernel_rfl
theorem index54_5 (b : SB) (w : World) : (Instr.index 54 (.agg #[.int .u64 (b.s : Int), .int .u64 (b.i : Int), .int .u64 (b.h : Int), .int .u64 (b.d : Int), .int .u64 (b.m : Int), .int .u64 (b.w : Int)]) (.int .i64 5)).run Try.prog w = .ok (.int .u64 (b.w : Int)) w := by kernel_rfl
theorem index54 (b : SB) (i : Nat) (hi : i < 6) (w : World) : (Instr.index 54 (.agg #[.int .u64 (b.s : Int), .int .u64 (b.i : Int), .int .u64 (b.h : Int), .int .u64 (b.d : Int), .int .u64 (b.m : Int), .int .u64 (b.w : Int)]) (.int .i64 (i : Int))).run Try.prog w = .ok (.int .u64 (fldN b i : Int)) w := by
  match i, hi with
  | 0, _ => exact index54_0 b w
  | 1, _ => exact index54_1 b w
  | 2, _ => exact index54_2 b w
  | 3, _ => exact index54_3 b w
  | 4, _ => exact index54_4 b w
  | 5, _ => exact index54_5 b w
/-- The result's block and the sets' own. -/
structure Fm (w w' : World) (r f : Array Value) : Prop where mk ::
  (R : w'.heap[w.heap.size + 1]? = some (.cells r 32 (0, 0)))
  (F : w'.heap[w.heap.size + 1 + 1]? = some (.cells f 32 (0, 0)))
  (B : Below w.heap.size w w')
theorem Fm.below {w w1 w2 : World} {r f : Array Value} (h : Fm w w1 r f) (hb : Below w1.heap.size w1 w2) : Fm w w2 r f :=
  ⟨blk_below h.R hb, blk_below h.F hb, h.B.trans (hb.mono h.B.size)⟩
theorem fm_start (w : World) (a r f : Array Value) : Fm w (((w.alloc (.cells a 24)).alloc (.cells r 32)).alloc (.cells f 32)) r f := by
  refine ⟨blk_alloc ?_ _, ?_, (((Below.refl _ w).alloc (Nat.le_refl _) _).alloc (by simp) _).alloc (by simp; omega) _⟩
  · have := @heap_at (w.alloc (.cells a 24)) (.cells r 32)
    simpa only [World.size_alloc] using this
  · have := @heap_at ((w.alloc (.cells a 24)).alloc (.cells r 32)) (.cells f 32)
    simpa only [World.size_alloc] using this
theorem Fm.setF {w w1 : World} {r f : Array Value} (h : Fm w w1 r f) (g : Array Value) : Fm w (w1.setRow (w.heap.size + 1 + 1) g) r g :=
  ⟨(setRow_other w1 _ _ g (by omega)).trans h.R, setRow_heap _ _ _ g _ _ h.F, below_row h.B (by omega) _⟩
set_option maxHeartbeats 2000000 in
set_option maxRecDepth 100000 in
theorem fieldsOf_any (b : SB) (dl : Int) (w : World) (hw : Wf b) :
    Calls Try.prog 12 #[.agg #[.bool false, .int .i64 dl, .int .u64 (b.s : Int), .int .u64 (b.i : Int), .int .u64 (b.h : Int), .int .u64 (b.d : Int), .int .u64 (b.m : Int), .int .u64 (b.w : Int)]] w fun e w' => e = .returned (.agg (fv b)) ∧ Below w.heap.size w w' := by
  have zz := (zero_of_info zero32).1
  have HW := Aside0.mk hw
  clear hw
  have hI := Aside0.mk (fm_start w #[.bool false, .int .i64 dl, .int .u64 (b.s : Int), .int .u64 (b.i : Int), .int .u64 (b.h : Int), .int .u64 (b.d : Int), .int .u64 (b.m : Int), .int .u64 (b.w : Int)] (arrB 384 fun _ => false) (arrB 384 fun _ => false))
  go_enter Try.func12, Try.ntmps12
  go_wp2_with fail
  rw [← fcell_zero b] at hI
  clear zz
  go_loopg [19] 6 (fun gk s19 wr => ∃ n : Nat, s19 = .int .i64 (n : Int) ∧ Aside0 (Fm w wr (arrB 384 (fcell b 0)) (arrB 384 (fcell b n))) ∧ Aside0 (n ≤ 6 ∧ 6 - n ≤ gk))
  case atStart => exact ⟨0, rfl, hI, ⟨by omega, by omega⟩⟩
  case round =>
    clear hI
    obtain ⟨n, rfl, hI, HA⟩ := hrel
    by_cases hn : n < 6
    · have hix := index54 b n hn
      have HF := Aside0.mk (HW.out.fld n)
      obtain ⟨B, hB⟩ : ∃ B, B = fldN b n := ⟨_, rfl⟩
      have S1 : Aside0 ((Try.prog.info? 30).map (·.size) = some (arrB 64 (setB (n : Int) (fldN b n) 60 ((fldN b n).testBit 63))).size) := ⟨by rw [arrB_size]; exact (zero_of_info zero30).2⟩
      have S2 : Aside0 (n * 64 + (arrB 64 (setB (n : Int) (fldN b n) 60 ((fldN b n).testBit 63))).size ≤ (arrB 384 (fcell b n)).size) := ⟨by rw [arrB_size, arrB_size]; omega⟩
      have S3 : Aside0 ((arrB 64 (setB (n : Int) (fldN b n) 60 ((fldN b n).testBit 63))).all (·.oneCell') = true) := ⟨arrB_one _ _⟩
      clear hB
      go_upto_region 6 with (first | (go_at_call 32; (with_reducible refine (setOf_any (n : Int) (fldN b n) _ HF.out).mono ?_); rintro e w2 ⟨rfl, hb⟩; have hI := Aside0.mk (hI.out.below hb); clear hb) | (refine wpList_store_at rfl 30 (.tmp 27) (.tmp 26) rfl (w.heap.size + 1 + 1) (n * 64) _ rfl rfl 32 _ hI.out.F S1.out S2.out S3.out ?_))
      have hI := Aside0.mk (hI.out.setF (putAt (arrB 384 (fcell b n)) (n * 64) (arrB 64 (setB (n : Int) (fldN b n) 60 ((fldN b n).testBit 63))).toList))
      generalize hg : World.setRow _ _ _ = w7 at hI ⊢
      clear hg
      rw [fcell_step] at hI
      go_wp2_with fail
      go_roundg (6 - (n + 1))
      case measure => have := HA.out.2; omega
      case rel => exact ⟨n + 1, by first | rfl | go_num, hI, ⟨by omega, Nat.le_refl _⟩⟩
    · obtain rfl : n = 6 := by have := HA.out.1; omega
      have HR : Aside0 ((fv b).all (·.oneCell') = true) := ⟨arrB_one _ _⟩
      have HS : Aside0 ((Try.prog.info? 32).map (·.size) = some (fv b).size) := ⟨by unfold fv; rw [arrB_size]; exact (zero_of_info zero32).2⟩
      have HT : Aside0 ((arrB 384 (fcell b 0)).size = (fv b).size) := ⟨by unfold fv; rw [arrB_size, arrB_size]⟩
      have hF : Aside0 (Fm w wr (arrB 384 (fcell b 0)) (fv b)) := hI
      clear hI
      go_wp2_with (first | (refine wpList_load_row rfl 32 (.tmp 3) rfl (w.heap.size + 1 + 1) rfl 32 _ (0, 0) _ hF.out.F Try.underlying32 rfl HS.out ?_) | (refine wpList_store_row rfl 32 (.tmp 2) (.tmp 29) rfl (w.heap.size + 1) _ rfl rfl 32 _ hF.out.R HS.out HT.out HR.out ?_))
      have hset := setRow_heap _ (w.heap.size + 1) _ (fv b) _ _ hF.out.R
      exact bodyPost_ret (results_cell_row rfl _ _ (w.heap.size + 1) 32 _ _ _ rfl hset Try.underlying32 rfl HS.out) rfl ⟨rfl, below_row hF.out.B (by omega) _⟩
end Go.Proofs.Ytlgdaegaahnkbaa.Tm
