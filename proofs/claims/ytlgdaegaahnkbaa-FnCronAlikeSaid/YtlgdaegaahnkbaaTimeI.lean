/- The thin package's moments over UTC, by hand. -/
import Derived.Test.YtlgdaegaahnkbaaNextP
namespace Go.Proofs.Ytlgdaegaahnkbaa.Tm
open Go Go.RowKit Cal MC
open Go.Proofs.YtlgdaegaahnkbaaW.PrintWords Go.Proofs.YtlgdaegaahnkbaaW.PrintLast Go.Proofs.YtlgdaegaahnkbaaW.PrintMore
set_option linter.unusedVariables false
set_option linter.unusedSimpArgs false
theorem unixT_any (x n : Int) (w : World) (h0 : 0 ≤ n) (h1 : n < 1000000000) (hx : Dom x) :
    Calls Try.prog 61 #[.int .i64 x, .int .i64 n] w fun e w' => e = .returned (.agg #[.int .u64 n, .int .i64 (sec x), .pointer none]) ∧ Below w.heap.size w w' := by
  have HX := Aside0.mk hx
  have HB := Aside0.mk (Below.refl (w.alloc (.cells #[.int .u64 0, .int .i64 0, .pointer none] 70)).heap.size (w.alloc (.cells #[.int .u64 0, .int .i64 0, .pointer none] 70)))
  have e0 : decide (n < 0) = false := decide_eq_false (by omega)
  have e1 : decide (1000000000 ≤ n) = false := decide_eq_false (by omega)
  clear hx
  go_enter Try.func61, Try.ntmps61
  go_wp2_with (go_at_call 80; (with_reducible refine (unixTime_eq n x x _ rfl h0 h1 HX.out).mono ?_); rintro e w' ⟨rfl, hb⟩; have HB := Aside0.mk (HB.out.trans (hb.mono HB.out.size)); clear hb; obtain ⟨hc, hf⟩ := bcell HB.out; have hz := lt_of_alloc HB.out)
  refine bodyPost_ret (v := .agg #[.int .u64 n, .int .i64 (sec x), .pointer none]) (by simp [results, Try.results61, go_sem, hc, hz]) rfl ⟨rfl, ?_⟩
  exact stored (base_of HB.out) _ _ _
/-- A moment's blocks: the first two of a call. -/
structure Am (w w' : World) (t r : Array Value) (tt tr : TypeId) : Prop where mk ::
  (T : w'.heap[w.heap.size]? = some (.cells t tt (0, 0)))
  (R : w'.heap[w.heap.size + 1]? = some (.cells r tr (0, 0)))
  (B : Below w.heap.size w w')
theorem Am.below {w w1 w2 : World} {t r : Array Value} {tt tr : TypeId} (h : Am w w1 t r tt tr) (hb : Below w1.heap.size w1 w2) : Am w w2 t r tt tr :=
  ⟨blk_below h.T hb, blk_below h.R hb, h.B.trans (hb.mono h.B.size)⟩
theorem Am.drew {w w1 : World} {t r : Array Value} {tt tr : TypeId} (h : Am w w1 t r tt tr) : Am w w1.drew t r tt tr := h.below (below_drew1 (Below.refl _ _))
theorem am_start (w : World) (t r : Array Value) (tt tr : TypeId) : Am w ((w.alloc (.cells t tt)).alloc (.cells r tr)) t r tt tr := by
  refine ⟨blk_alloc (heap_at _) _, ?_, ((Below.refl _ w).alloc (Nat.le_refl _) _).alloc (by simp) _⟩
  have := @heap_at (w.alloc (.cells t tt)) (.cells r tr)
  rwa [World.size_alloc] at this
theorem Am.set3 {w w1 : World} {t : Array Value} {r0 r1 r2 : Value} {tt tr : TypeId} (h : Am w w1 t #[r0, r1, r2] tt tr) (a b c : Value) :
    Am w (((w1.setCell ⟨w.heap.size + 1, 0, none⟩ a).setCell ⟨w.heap.size + 1, 1, none⟩ b).setCell ⟨w.heap.size + 1, 2, none⟩ c) t #[a, b, c] tt tr :=
  ⟨by rw [Below.heap_setCell _ _ _ _ (by simp), Below.heap_setCell _ _ _ _ (by simp), Below.heap_setCell _ _ _ _ (by simp)]; exact h.T,
   blk_set (blk_set (blk_set h.R 0 a) 1 b) 2 c, ((h.B.setCell (by simp) _).setCell (by simp) _).setCell (by simp) _⟩
theorem Am.set2 {w w1 : World} {t : Array Value} {r0 r1 : Value} {tt tr : TypeId} (h : Am w w1 t #[r0, r1] tt tr) (a b : Value) :
    Am w ((w1.setCell ⟨w.heap.size + 1, 0, none⟩ a).setCell ⟨w.heap.size + 1, 1, none⟩ b) t #[a, b] tt tr :=
  ⟨by rw [Below.heap_setCell _ _ _ _ (by simp), Below.heap_setCell _ _ _ _ (by simp)]; exact h.T, blk_set (blk_set h.R 0 a) 1 b, (h.B.setCell (by simp) _).setCell (by simp) _⟩
theorem moment_any (x n : Int) (l : Nat) (w : World) (h0 : 0 ≤ n) (h1 : n < 1000000000) (hx : Dom x) (hl : w.cell? ⟨l, 0, none⟩ = some (.bool true)) :
    Calls Try.prog 35 #[.agg #[.int .i64 x, .int .i64 n], .pointer (some ⟨l, 0, none⟩)] w fun e w' => e = .returned (.agg #[.int .u64 n, .int .i64 (sec x), .pointer none]) ∧ Below w.heap.size w w' := by
  have HX := Aside0.mk hx
  have hI := Aside0.mk (am_start w #[.int .i64 x, .int .i64 n] #[.int .u64 0, .int .i64 0, .pointer none] 26 70)
  have HL := Aside0.mk (cell_below hI.out.B hl)
  clear hx hl
  go_enter Try.func35, Try.ntmps35
  go_wp2_with (first | (go_at_call 61; (with_reducible refine (unixT_any x n _ h0 h1 HX.out).mono ?_); rintro e w1 ⟨rfl, hb⟩; have hI := Aside0.mk (hI.out.below hb); have HL := Aside0.mk (cell_below hb HL.out); clear hb) | (go_at_call 62; (with_reducible refine (in_any n (sec x) l _ h0 h1 HL.out).mono ?_); rintro e w2 ⟨rfl, hb⟩; have hI := Aside0.mk (hI.out.below hb); clear hb; have u0 : w2.cell? ⟨w.heap.size + 1, 0, none⟩ = some (.int .u64 0) := (blk_cell hI.out.R 0).trans rfl; have u1 : w2.cell? ⟨w.heap.size + 1, 1, none⟩ = some (.int .i64 0) := (blk_cell hI.out.R 1).trans rfl; have u2 : w2.cell? ⟨w.heap.size + 1, 2, none⟩ = some (.pointer none) := (blk_cell hI.out.R 2).trans rfl; have f0 := blk_frozen hI.out.R 0; have f1 := blk_frozen hI.out.R 1; have f2 := blk_frozen hI.out.R 2))
  have hI := Aside0.mk (hI.out.set3 (.int .u64 n) (.int .i64 (sec x)) (.pointer none))
  clear u0 u1 u2 f0 f1 f2
  generalize hg : World.setCell _ _ (.pointer none) = w7 at hI ⊢
  have r0 : w7.cell? ⟨w.heap.size + 1, 0, none⟩ = some (.int .u64 n) := (blk_cell hI.out.R 0).trans rfl
  have r1 : w7.cell? ⟨w.heap.size + 1, 1, none⟩ = some (.int .i64 (sec x)) := (blk_cell hI.out.R 1).trans rfl
  have r2 : w7.cell? ⟨w.heap.size + 1, 2, none⟩ = some (.pointer none) := (blk_cell hI.out.R 2).trans rfl
  exact bodyPost_ret (v := .agg #[.int .u64 n, .int .i64 (sec x), .pointer none]) (by simp [results, Try.results35, go_sem, r0, r1, r2]) rfl ⟨rfl, hI.out.B⟩
/-- The zone of no offsets. -/
def Z0 : Value := .agg #[.slice none 0 0, .slice none 0 0, .slice none 0 0, .slice none 0 0]
theorem locate_any (w : World) : Calls Try.prog 36 #[.agg #[.slice none 0 0, .slice none 0 0, .slice none 0 0, .slice none 0 0]] w (LocPost w) := by
  have h : Calls Try.prog 36 #[.agg #[.slice none 0 0, .slice none 0 0, .slice none 0 0, .slice none 0 0]] w fun e w' => e = .returned (.pointer (some ⟨w.heap.size + 1, 0, none⟩)) ∧ (w.alloc (.cells #[.slice none 0 0, .slice none 0 0, .slice none 0 0, .slice none 0 0] 40)).alloc U = w' := by
    go_enter Try.func36, Try.ntmps36
    go_wp2_with (go_at_call 63; (with_reducible refine (utc_any _).mono ?_); rintro e w' ⟨rfl, rfl⟩)
    go_ret
    exact ⟨by simp, rfl⟩
  refine h.mono ?_
  rintro e w' ⟨rfl, rfl⟩
  refine ⟨_, rfl, ⟨?_, by omega⟩, ((Below.refl _ w).alloc (Nat.le_refl _) _).alloc (by simp) _⟩
  have := isU_new (w.alloc (.cells #[.slice none 0 0, .slice none 0 0, .slice none 0 0, .slice none 0 0] 40))
  rwa [World.size_alloc] at this
theorem isZero_no (x : Int) (w : World) (hz : -62135596800 < x) : Calls Try.prog 59 #[.agg #[.int .u64 0, .int .i64 (sec x), .pointer none]] w fun e w' => e = .returned (.bool false) ∧ Below w.heap.size w w' := by
  have e : (sec x == 0) = false := by rw [beq_eq_false_iff_ne]; unfold sec; omega
  go_enter Try.func59, Try.ntmps59
  go_wp2
  go_ret
  exact ⟨rfl, (Below.refl _ _).alloc (Nat.le_refl _) _⟩
theorem isZero_yes (w : World) : Calls Try.prog 59 #[.agg #[.int .u64 0, .int .i64 0, .pointer none]] w fun e w' => e = .returned (.bool true) ∧ Below w.heap.size w w' := by
  go_enter Try.func59, Try.ntmps59
  go_wp2
  go_ret
  exact ⟨rfl, (Below.refl _ _).alloc (Nat.le_refl _) _⟩
theorem unix_x (x : Int) (w : World) (hx : Dom x) : Calls Try.prog 79 #[.agg #[.int .u64 0, .int .i64 (sec x), .pointer none]] w fun e w' => e = .returned (.int .i64 x) ∧ Below w.heap.size w w' := by
  have h := unix_any 0 (sec x) w (by decide) (by decide) hx.s0 hx.s1
  rwa [show sec x - 62135596800 = x by unfold sec; omega] at h
set_option maxHeartbeats 2000000 in
set_option maxRecDepth 100000 in
theorem plainMoment_any (x : Int) (w : World) (hx : Dom x) : Calls Try.prog 60 #[.agg #[.int .u64 0, .int .i64 (sec x), .pointer none]] w fun e w' => e = .returned (.agg #[.int .i64 x, .int .i64 0]) ∧ Below w.heap.size w w' := by
  have HX := Aside0.mk hx
  have hI := Aside0.mk (am_start w #[.int .u64 0, .int .i64 (sec x), .pointer none] #[.int .i64 0, .int .i64 0] 70 26).drew
  clear hx
  go_enter Try.func60, Try.ntmps60
  go_wp2_with fail
  refine start_ (n := 6) (S := fun w' => w'.cell? ⟨w.heap.size, 0, none⟩ = some (.int .u64 0) ∧ w'.cell? ⟨w.heap.size, 1, none⟩ = some (.int .i64 (sec x)) ∧ w'.cell? ⟨w.heap.size, 2, none⟩ = some (.pointer none)) (ds := [5]) #[false, false, false, false, false, false] (by kernel_rfl) rfl rfl ⟨(blk_cell hI.out.T 0).trans rfl, (blk_cell hI.out.T 1).trans rfl, (blk_cell hI.out.T 2).trans rfl⟩ (fun hHeld => ?_)
  refine take_ (i := 0) (N := some 3) (v := ?_) (a' := ?_) #[true, false, false, false, false, false] rfl rfl (by kernel_rfl) (fun _ _ _ h => h) (Or.inl ⟨by rfl, ?_⟩) hHeld ?_ ?_
  rotate_left
  · rintro w' ⟨s0, s1, s2⟩
    go_simp
    with_reducible rfl
  rotate_left
  · simp only [Act.put, List.setIfInBounds_toArray, List.set_cons_zero, List.set_cons_succ, i64_w, i32_w]
    rfl
  refine take_ (i := 2) (N := some 5) (v := ?_) (a' := ?_) #[true, false, true, false, false, false] rfl rfl (by kernel_rfl) (fun _ _ _ h => h) (Or.inl ⟨by rfl, ?_⟩) hHeld ?_ ?_
  rotate_left
  · rintro w' ⟨s0, s1, s2⟩
    go_simp
    with_reducible rfl
  rotate_left
  · simp only [Act.put, List.setIfInBounds_toArray, List.set_cons_zero, List.set_cons_succ, i64_w, i32_w]
    rfl
  refine one_ (i := 1) (N := some 4) #[true, true, true, false, false, false] rfl rfl (by kernel_rfl) (by decide) (fun K hK => ?_)
  refine goes_ Try.func79 (by kernel_rfl) rfl #[.agg #[.int .u64 0, .int .i64 (sec x), .pointer none]] (by rfl) rfl rfl (by (try simp only [List.map_toArray, List.map_cons, List.map_nil]); first | done | rfl) ?_
  refine (unix_x x _ HX.out).mono ?_
  rintro e w1 ⟨rfl, hb⟩
  refine ⟨_, rfl, ?_⟩
  have hI2 := Aside0.mk (hI.out.below hb)
  clear hI hb
  have hI := hI2
  clear hI2
  refine hK.out _ _ ⟨(blk_cell hI.out.T 0).trans rfl, (blk_cell hI.out.T 1).trans rfl, (blk_cell hI.out.T 2).trans rfl⟩ (fun hHeld => ?_)
  clear hK K
  refine norm_ (a' := ?_) ?_ ?_
  rotate_left
  · show Act.put _ (some 4) _ = _
    simp only [Act.put, List.setIfInBounds_toArray, List.set_cons_zero, List.set_cons_succ, i64_w, i32_w]
    rfl
  refine one_ (i := 3) (N := some 6) #[true, true, true, true, false, false] rfl rfl (by kernel_rfl) (by decide) (fun K hK => ?_)
  refine goes_ Try.func55 (by kernel_rfl) rfl #[.agg #[.int .u64 0, .int .i64 (sec x), .pointer none]] (by rfl) rfl rfl (by (try simp only [List.map_toArray, List.map_cons, List.map_nil]); first | done | rfl) ?_
  refine (nano_any 0 (sec x) _ (by decide) (by decide)).mono ?_
  rintro e w3 ⟨rfl, hb⟩
  refine ⟨_, rfl, ?_⟩
  have hI2 := Aside0.mk (hI.out.below hb)
  clear hI hb
  have hI := hI2
  clear hI2
  refine hK.out _ _ ⟨(blk_cell hI.out.T 0).trans rfl, (blk_cell hI.out.T 1).trans rfl, (blk_cell hI.out.T 2).trans rfl⟩ (fun hHeld => ?_)
  clear hK K
  refine norm_ (a' := ?_) ?_ ?_
  rotate_left
  · show Act.put _ (some 6) _ = _
    simp only [Act.put, List.setIfInBounds_toArray, List.set_cons_zero, List.set_cons_succ, i64_w, i32_w]
    rfl
  refine pure_ (i := 4) (N := some 7) (v := ?_) (a' := ?_) #[true, true, true, true, true, false] rfl rfl (by kernel_rfl) (fun _ _ _ h => h) (Or.inl ⟨by rfl, ?_⟩) ?_ ?_
  rotate_left
  · intro w'
    go_simp
    with_reducible rfl
  rotate_left
  · simp only [Act.put, List.setIfInBounds_toArray, List.set_cons_zero, List.set_cons_succ, i64_w, i32_w]
    rfl
  have rc0 := (blk_cell hI.out.R 0).trans (show _ = some _ from rfl)
  have rf0 := blk_frozen hI.out.R 0
  have rc1 := (blk_cell hI.out.R 1).trans (show _ = some _ from rfl)
  have rf1 := blk_frozen hI.out.R 1
  refine last_ (i := 5) (N := none) #[true, true, true, true, true, true] rfl rfl (by kernel_rfl) (by decide) (fun K hK => ?_)
  refine skip_ (w1 := ?_) (by rfl) rfl ?_ ?_
  rotate_left
  · go_simp
    rfl
  have hI2 := Aside0.mk (hI.out.set2 (.int .i64 x) (.int .i64 0))
  refine hK.out _ _ ?_
  clear hK K rc0 rc1 rf0 rf1 hI hHeld
  have hI := hI2
  clear hI2
  refine done_ (by kernel_rfl) ?_
  go_wp2_with fail
  generalize hg : World.setCell _ _ (.int .i64 0) = w7 at hI ⊢
  have r0 : w7.cell? ⟨w.heap.size + 1, 0, none⟩ = some (.int .i64 x) := (blk_cell hI.out.R 0).trans rfl
  have r1 : w7.cell? ⟨w.heap.size + 1, 1, none⟩ = some (.int .i64 0) := (blk_cell hI.out.R 1).trans rfl
  exact bodyPost_ret (v := .agg #[.int .i64 x, .int .i64 0]) (by simp [results, Try.results60, go_sem, r0, r1]) rfl ⟨rfl, hI.out.B⟩
theorem answer_yes (x : Int) (w : World) (hx : Dom x) (hz : -62135596800 < x) : Calls Try.prog 33 #[.agg #[.int .u64 0, .int .i64 (sec x), .pointer none]] w fun e w' => e = .returned (.tuple #[.agg #[.int .i64 x, .int .i64 0], .bool true]) ∧ Below w.heap.size w w' := by
  have hI := Aside0.mk (am_start w #[.int .u64 0, .int .i64 (sec x), .pointer none] #[.int .i64 0, .int .i64 0] 70 26)
  have HX := Aside0.mk hx
  have HZ := Aside0.mk hz
  clear hx hz
  go_enter Try.func33, Try.ntmps33
  go_wp2_with (first | (go_at_call 59; (with_reducible refine (isZero_no x _ HZ.out).mono ?_); rintro e w1 ⟨rfl, hb⟩; have hI := Aside0.mk (hI.out.below hb); clear hb; have t0 : w1.cell? ⟨w.heap.size, 0, none⟩ = some (.int .u64 0) := (blk_cell hI.out.T 0).trans rfl; have t1 : w1.cell? ⟨w.heap.size, 1, none⟩ = some (.int .i64 (sec x)) := (blk_cell hI.out.T 1).trans rfl; have t2 : w1.cell? ⟨w.heap.size, 2, none⟩ = some (.pointer none) := (blk_cell hI.out.T 2).trans rfl) | (go_at_call 60; (with_reducible refine (plainMoment_any x _ HX.out).mono ?_); rintro e w2 ⟨rfl, hb⟩; have hI := Aside0.mk (hI.out.below hb); clear hb t0 t1 t2; have u0 : w2.cell? ⟨w.heap.size + 1, 0, none⟩ = some (.int .i64 0) := (blk_cell hI.out.R 0).trans rfl; have u1 : w2.cell? ⟨w.heap.size + 1, 1, none⟩ = some (.int .i64 0) := (blk_cell hI.out.R 1).trans rfl; have f0 := blk_frozen hI.out.R 0; have f1 := blk_frozen hI.out.R 1))
  have hI := Aside0.mk (hI.out.set2 (.int .i64 x) (.int .i64 0))
  clear u0 u1 f0 f1
  generalize hg : World.setCell _ _ (.int .i64 0) = w7 at hI ⊢
  have r0 : w7.cell? ⟨w.heap.size + 1, 0, none⟩ = some (.int .i64 x) := (blk_cell hI.out.R 0).trans rfl
  have r1 : w7.cell? ⟨w.heap.size + 1, 1, none⟩ = some (.int .i64 0) := (blk_cell hI.out.R 1).trans rfl
  exact bodyPost_ret (v := .tuple #[.agg #[.int .i64 x, .int .i64 0], .bool true]) (by simp [results, Try.results33, go_sem, r0, r1]) rfl ⟨rfl, hI.out.B⟩
theorem answer_no (w : World) : Calls Try.prog 33 #[.agg #[.int .u64 0, .int .i64 0, .pointer none]] w fun e w' => e = .returned (.tuple #[.agg #[.int .i64 0, .int .i64 0], .bool false]) ∧ Below w.heap.size w w' := by
  have hI := Aside0.mk (am_start w #[.int .u64 0, .int .i64 0, .pointer none] #[.int .i64 0, .int .i64 0] 70 26)
  go_enter Try.func33, Try.ntmps33
  go_wp2_with (first | (go_at_call 59; (with_reducible refine (isZero_yes _).mono ?_); rintro e w1 ⟨rfl, hb⟩; have hI := Aside0.mk (hI.out.below hb); clear hb; have u0 : w1.cell? ⟨w.heap.size + 1, 0, none⟩ = some (.int .i64 0) := (blk_cell hI.out.R 0).trans rfl; have u1 : w1.cell? ⟨w.heap.size + 1, 1, none⟩ = some (.int .i64 0) := (blk_cell hI.out.R 1).trans rfl; have f0 := blk_frozen hI.out.R 0; have f1 := blk_frozen hI.out.R 1))
  have hI := Aside0.mk (hI.out.set2 (.int .i64 0) (.int .i64 0))
  clear u0 u1 f0 f1
  generalize hg : World.setCell _ _ (.int .i64 0) = w7 at hI ⊢
  have r0 : w7.cell? ⟨w.heap.size + 1, 0, none⟩ = some (.int .i64 0) := (blk_cell hI.out.R 0).trans rfl
  have r1 : w7.cell? ⟨w.heap.size + 1, 1, none⟩ = some (.int .i64 0) := (blk_cell hI.out.R 1).trans rfl
  exact bodyPost_ret (v := .tuple #[.agg #[.int .i64 0, .int .i64 0], .bool false]) (by simp [results, Try.results33, go_sem, r0, r1]) rfl ⟨rfl, hI.out.B⟩
/-- A schedule of six sets, as an interface. -/
def SchedPost (b : SB) (W : World) (e : Ending) (w' : World) : Prop := ∃ q : Nat, e = .returned (.iface 109 (.pointer (some ⟨q, 0, none⟩))) ∧ SAt w' q b ∧ Below W.heap.size W w'
theorem schedule_any (b : SB) (dl : Int) (w : World) : Calls Try.prog 34 #[.agg #[.bool false, .int .i64 dl, .int .u64 (b.s : Int), .int .u64 (b.i : Int), .int .u64 (b.h : Int), .int .u64 (b.d : Int), .int .u64 (b.m : Int), .int .u64 (b.w : Int)], .pointer none] w (SchedPost b w) := by
  have h : Calls Try.prog 34 #[.agg #[.bool false, .int .i64 dl, .int .u64 (b.s : Int), .int .u64 (b.i : Int), .int .u64 (b.h : Int), .int .u64 (b.d : Int), .int .u64 (b.m : Int), .int .u64 (b.w : Int)], .pointer none] w fun e w' => e = .returned (.iface 109 (.pointer (some ⟨w.heap.size + 1, 0, none⟩))) ∧ (w.alloc (.cells #[.bool false, .int .i64 dl, .int .u64 (b.s : Int), .int .u64 (b.i : Int), .int .u64 (b.h : Int), .int .u64 (b.d : Int), .int .u64 (b.m : Int), .int .u64 (b.w : Int)] 24)).alloc (.cells #[.int .u64 (b.s : Int), .int .u64 (b.i : Int), .int .u64 (b.h : Int), .int .u64 (b.d : Int), .int .u64 (b.m : Int), .int .u64 (b.w : Int), .pointer none] 111) = w' := by
    go_enter Try.func34, Try.ntmps34
    go_wp2
    go_ret
    exact ⟨by simp, rfl⟩
  refine h.mono ?_
  rintro e w' ⟨rfl, rfl⟩
  refine ⟨_, rfl, ?_, ((Below.refl _ w).alloc (Nat.le_refl _) _).alloc (by simp) _⟩
  have := @heap_at (w.alloc (.cells #[.bool false, .int .i64 dl, .int .u64 (b.s : Int), .int .u64 (b.i : Int), .int .u64 (b.h : Int), .int .u64 (b.d : Int), .int .u64 (b.m : Int), .int .u64 (b.w : Int)] 24)) (.cells #[.int .u64 (b.s : Int), .int .u64 (b.i : Int), .int .u64 (b.h : Int), .int .u64 (b.d : Int), .int .u64 (b.m : Int), .int .u64 (b.w : Int), .pointer none] 111)
  rw [World.size_alloc] at this
  exact this
end Go.Proofs.Ytlgdaegaahnkbaa.Tm
