/- The first day from a year on that a schedule allows: cronSomeDay by hand (printed by gen_ac.py). -/
import Derived.Test.YtlgdaegaahnkbaaAliB
namespace Go.Proofs.Ytlgdaegaahnkbaa.Tm
open Go Go.RowKit Cal MC
open Go.Proofs.YtlgdaegaahnkbaaW.PrintWords Go.Proofs.YtlgdaegaahnkbaaW.PrintLast Go.Proofs.YtlgdaegaahnkbaaW.PrintMore
set_option linter.unusedVariables false
set_option linter.unusedSimpArgs false
/-- The schedule of no value. -/
def zB : SB := ⟨0, 0, 0, 0, 0, 0⟩
theorem fv_zero : fv zB = arrB 384 fun _ => false := by
 unfold fv
 refine arrB_congr fun i hi => ?_
 unfold fcell
 rw [if_pos (by omega)]
 unfold setB
 have h : fldN zB (i / 64) = 0 := by
  unfold fldN zB
  split <;> rfl
 rw [h]
 split
 ·
  exact Nat.zero_testBit _
 ·
  rw [Nat.zero_testBit, Bool.and_false]
theorem md_2000 (y m : Int) : md y m ≤ md 2000 m := by
 have h := lp01 y
 unfold md
 rw [show lp 2000 = 1 by decide]
 split
 ·
  omega
 ·
  omega
theorem mdOk_zero (b : SB) (m d v : Int) : mdOk b zB m d v = (bitOf b.m m && dO b d v) := by
 unfold mdOk
 rw [show bitOf zB.m m = false from Nat.zero_testBit _]
 simp
theorem dB_dO (b : SB) (n : Int) : dB b n = (bitOf b.m (mo n) && dO b (dy n) (wd n)) := rfl
/-- CronDayApart's answer as plain data. -/
structure DayR (b1 b2 : SB) (m d v : Int) (f : Bool) : Prop where mk ::
 (yes : f = true → (1 ≤ m ∧ m ≤ 12 ∧ 1 ≤ d ∧ d ≤ md 2000 m ∧ 0 ≤ v ∧ v ≤ 6) ∧ mdOk b1 b2 m d v = true)
 (no : f = false → ∀ m d v : Int, 1 ≤ m → m ≤ 12 → 1 ≤ d → d ≤ md 2000 m → 0 ≤ v → v ≤ 6 → mdOk b1 b2 m d v = false)
def DayPost' (b1 b2 : SB) (W : World) (e : Ending) (w' : World) : Prop := ∃ m d v f, e = .returned (.tuple #[.int .i64 m, .int .i64 d, .int .i64 v, .bool f]) ∧ DayR b1 b2 m d v f ∧ Below W.heap.size W w'
theorem dayApart_r (b1 b2 : SB) (w : World) : Calls Try.prog 49 #[.agg (fv b1), .agg (fv b2)] w (DayPost' b1 b2 w) := (dayApart_any b1 b2 w).mono fun e w' h => by
 obtain ⟨⟨m, d, v, hr, hk, rfl⟩ | ⟨hk, rfl⟩, hb⟩ := h
 ·
  exact ⟨m, d, v, true, rfl, ⟨fun _ => ⟨hr, hk⟩, fun c => absurd c (by simp)⟩, hb⟩
 ·
  exact ⟨0, 0, 0, false, rfl, ⟨fun c => absurd c (by simp), fun _ => hk⟩, hb⟩
def SomePost (b : SB) (Y : Int) (W : World) (e : Ending) (w' : World) : Prop :=
 ((∃ n, (Y ≤ yr n ∧ yr n < Y + 400 ∧ dB b n = true) ∧ e = .returned (.tuple #[.int .i64 n, .bool true])) ∨ ((∀ n, dB b n = false) ∧ e = .returned (.tuple #[.int .i64 0, .bool false]))) ∧ Below W.heap.size W w'
set_option maxHeartbeats 8000000 in
set_option maxRecDepth 100000 in
theorem someDay_any (b : SB) (Y : Int) (w : World) (Y0 : 1 ≤ Y) (Y1 : Y ≤ 10100) : Calls Try.prog 47 #[.agg (fv b), .int .i64 Y] w (SomePost b Y w) := by
 have sz1 : Aside0 ((Try.prog.info? 32).map (·.size) = some (fv b).size) := ⟨by unfold fv; rw [arrB_size]; exact size32⟩
 have sz2v : Aside0 ((Try.prog.info? 32).map (·.size) = some (fv zB).size) := ⟨by unfold fv; rw [arrB_size]; exact size32⟩
 have hI : Aside0 (Blk w [(w.heap.size + 1, fv zB, 32), (w.heap.size, fv b, 32)] ((w.alloc (.cells (fv b) 32)).alloc (.cells (fv zB) 32))) := ⟨by
  have := (((Blk.nil w).alloc (fv b) 32).alloc (fv zB) 32)
  simpa only [World.size_alloc] using this⟩
 have HY := Aside0.mk (And.intro Y0 Y1)
 have zz : ∀ w, (zeroValue 32).run Try.prog w = .ok (.agg (fv zB)) w := by rw [fv_zero]; exact (zero_of_info zero32).1
 clear Y0 Y1
 go_enter Try.func47, Try.ntmps47
 go_upto_region 3 with (first | ((with_reducible refine wpList_isCons ?_); refine wpList_load_row rfl 32 (.tmp 2) rfl (w.heap.size) rfl 32 _ (0, 0) _ (hI.out.get 1 rfl) Try.underlying32 rfl sz1.out ?_) | ((with_reducible refine wpList_isCons ?_); refine wpList_load_row rfl 32 (.tmp 6) rfl (w.heap.size + 1) rfl 32 _ (0, 0) _ (hI.out.get 0 rfl) Try.underlying32 rfl sz2v.out ?_) | (go_at_call 49; (with_reducible refine (dayApart_r b zB _).mono ?_); rintro e w1 ⟨m, d, v, f, rfl, hr, hb⟩; have HF := Aside0.mk hr; clear hr; have hI2 := Aside0.mk (hI.out.below hb); clear hI hb; have hI := hI2; clear hI2))
 clear zz
 cases f
 rotate_left
 ·
  have HR := Aside0.mk (HF.out.yes rfl).1
  have HK := Aside0.mk (HF.out.yes rfl).2
  go_wp2_with (go_at_call 50; (with_reducible refine (firstDay_any Y m d v _ HY.out.1 HY.out.2 HR.out.1 HR.out.2.1 HR.out.2.2.1 HR.out.2.2.2.1 HR.out.2.2.2.2.1 HR.out.2.2.2.2.2).mono ?_); rintro e w2 ⟨n, rfl, hn, hb⟩; have HN := Aside0.mk hn; clear hn; have hI2 := Aside0.mk (hI.out.below hb); clear hI hb; have hI := hI2; clear hI2)
  refine bodyPost_ret (v := .tuple #[.int .i64 n, .bool true]) (by simp [results, Try.results47, go_sem]) rfl ⟨Or.inl ⟨n, ⟨HN.out.1, HN.out.2.1, ?_⟩, rfl⟩, hI.out.B⟩
  rw [dB_dO, HN.out.2.2.1, HN.out.2.2.2.1, HN.out.2.2.2.2, ← mdOk_zero]
  exact HK.out
 ·
  have HK := Aside0.mk (HF.out.no rfl)
  go_wp2_with fail
  refine bodyPost_ret (v := .tuple #[.int .i64 0, .bool false]) (by simp [results, Try.results47, go_sem]) rfl ⟨Or.inr ⟨fun n => ?_, rfl⟩, hI.out.B⟩
  have h := HK.out (mo n) (dy n) (wd n) (mo_bd n).1 (mo_bd n).2 (dy_bd n).1 (Int.le_trans (dy_bd n).2 (md_2000 _ _)) (by unfold wd; omega) (by unfold wd; omega)
  rw [mdOk_zero] at h
  rw [dB_dO]
  exact h
end Go.Proofs.Ytlgdaegaahnkbaa.Tm
