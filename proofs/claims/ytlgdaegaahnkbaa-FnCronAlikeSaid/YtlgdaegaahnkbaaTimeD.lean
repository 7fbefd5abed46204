/- Package time's Location and AddDate over UTC, by hand: what each answers; what they lay in memory is new. -/
import Derived.Test.YtlgdaegaahnkbaaTimeC
namespace Go.Proofs.Ytlgdaegaahnkbaa.Tm
open Go Go.RowKit Cal MC
open Go.Proofs.YtlgdaegaahnkbaaW.PrintWords Go.Proofs.YtlgdaegaahnkbaaW.PrintLast Go.Proofs.YtlgdaegaahnkbaaW.PrintMore
set_option linter.unusedVariables false
set_option linter.unusedSimpArgs false
/-- A location is handed back. -/
def LocPost (W : World) (e : Ending) (w' : World) : Prop := ∃ k : Nat, e = .returned (.pointer (some ⟨k, 0, none⟩)) ∧ (IsU w' k ∧ W.heap.size ≤ k) ∧ Below W.heap.size W w'
theorem location_any (n s : Int) (w : World) : Calls Try.prog 117 #[.agg #[.int .u64 n, .int .i64 s, .pointer none]] w (LocPost w) := by
  have h : Calls Try.prog 117 #[.agg #[.int .u64 n, .int .i64 s, .pointer none]] w fun e w' => e = .returned (.pointer (some ⟨w.heap.size + 1, 0, none⟩)) ∧ (w.alloc (.cells #[.int .u64 n, .int .i64 s, .pointer none] 70)).alloc U = w' := by
    go_enter Try.func117, Try.ntmps117
    go_wp2_with (go_at_call 63; (with_reducible refine (utc_any _).mono ?_); rintro e w' ⟨rfl, rfl⟩)
    go_ret
    exact ⟨by simp, rfl⟩
  refine h.mono ?_
  rintro e w' ⟨rfl, rfl⟩
  refine ⟨_, rfl, ⟨?_, by omega⟩, ((Below.refl _ w).alloc (Nat.le_refl _) _).alloc (by simp) _⟩
  have := isU_new (w.alloc (.cells #[.int .u64 n, .int .i64 s, .pointer none] 70))
  rwa [World.size_alloc] at this
/-- The block of a time and that of the result, the first two of a call. -/
structure Ad (w w' : World) (t r : Array Value) : Prop where mk ::
  (T : w'.heap[w.heap.size]? = some (.cells t 70 (0, 0)))
  (R : w'.heap[w.heap.size + 1]? = some (.cells r 70 (0, 0)))
  (B : Below w.heap.size w w')
theorem Ad.below {w w1 w2 : World} {t r : Array Value} (h : Ad w w1 t r) (hb : Below w1.heap.size w1 w2) : Ad w w2 t r :=
  ⟨blk_below h.T hb, blk_below h.R hb, h.B.trans (hb.mono h.B.size)⟩
theorem Ad.drew {w w1 : World} {t r : Array Value} (h : Ad w w1 t r) : Ad w w1.drew t r := h.below (below_drew1 (Below.refl _ _))
theorem Ad.setR {w w1 : World} {t : Array Value} {r0 r1 r2 : Value} (h : Ad w w1 t #[r0, r1, r2]) (a b c : Value) :
    Ad w (((w1.setCell ⟨w.heap.size + 1, 0, none⟩ a).setCell ⟨w.heap.size + 1, 1, none⟩ b).setCell ⟨w.heap.size + 1, 2, none⟩ c) t #[a, b, c] :=
  ⟨by rw [Below.heap_setCell _ _ _ _ (by simp), Below.heap_setCell _ _ _ _ (by simp), Below.heap_setCell _ _ _ _ (by simp)]; exact h.T,
   blk_set (blk_set (blk_set h.R 0 a) 1 b) 2 c, ((h.B.setCell (by simp) _).setCell (by simp) _).setCell (by simp) _⟩
theorem Ad.setT {w w1 : World} {r : Array Value} {r0 r1 r2 : Value} (h : Ad w w1 #[r0, r1, r2] r) (a b c : Value) :
    Ad w (((w1.setCell ⟨w.heap.size, 0, none⟩ a).setCell ⟨w.heap.size, 1, none⟩ b).setCell ⟨w.heap.size, 2, none⟩ c) #[a, b, c] r :=
  ⟨blk_set (blk_set (blk_set h.T 0 a) 1 b) 2 c, by rw [Below.heap_setCell _ _ _ _ (by simp), Below.heap_setCell _ _ _ _ (by simp), Below.heap_setCell _ _ _ _ (by simp)]; exact h.R,
   ((h.B.setCell (by simp) _).setCell (by simp) _).setCell (by simp) _⟩
theorem heap_at {w : World} (o : Obj) : (w.alloc o).heap[w.heap.size]? = some o := by
  show (w.heap.push o)[w.heap.size]? = some o
  rw [Array.getElem?_push, if_pos rfl]
theorem ad_start (w : World) (t r : Array Value) : Ad w ((w.alloc (.cells t 70)).alloc (.cells r 70)) t r := by
  refine ⟨blk_alloc (heap_at _) _, ?_, ((Below.refl _ w).alloc (Nat.le_refl _) _).alloc (by simp) _⟩
  have := @heap_at (w.alloc (.cells t 70)) (.cells r 70)
  rwa [World.size_alloc] at this
def Post (z : Int) (W : World) (e : Ending) (w' : World) : Prop := e = .returned (.agg #[.int .u64 0, .int .i64 (sec z), .pointer none]) ∧ Below W.heap.size W w'
set_option maxHeartbeats 4000000 in
set_option maxRecDepth 100000 in
theorem addMonth_any (x z : Int) (w : World) (hx : Dom x) (D : ∀ (l : Nat) (W : World), IsU W l → Calls Try.prog 120 #[.int .i64 (yr (x / 86400)), .int .i64 (mo (x / 86400) + 1), .int .i64 (dy (x / 86400)), .int .i64 (x % 86400 / 3600), .int .i64 (x % 3600 / 60), .int .i64 (x % 60), .int .i64 0, .pointer (some ⟨l, 0, none⟩)] W (Post z W)) :
    Calls Try.prog 121 #[.agg #[.int .u64 0, .int .i64 (sec x), .pointer none], .int .i64 0, .int .i64 1, .int .i64 0] w (Post z w) := by
  have h : Calls Try.prog 121 #[.agg #[.int .u64 0, .int .i64 (sec x), .pointer none], .int .i64 0, .int .i64 1, .int .i64 0] w fun e w' => e = .returned (.agg #[.int .u64 0, .int .i64 (sec z), .pointer none]) ∧ Below w.heap.size w w' := by
    have HD := Aside0.mk D
    have HX := Aside0.mk hx
    have hI := Aside0.mk (ad_start w #[.int .u64 0, .int .i64 (sec x), .pointer none] #[.int .u64 0, .int .i64 0, .pointer none])
    have y0 := (yr_bd hx.n0 hx.n2).1
    have y1 := (yr_bd hx.n0 hx.n2).2
    have m0 := (mo_bd (x / 86400)).1
    have m1 := (mo_bd (x / 86400)).2
    have d0 := (dy_bd (x / 86400)).1
    have d1 : dy (x / 86400) ≤ 31 := by have := (dy_bd (x / 86400)).2; have := (md_bd (yr (x / 86400)) (mo (x / 86400))).2; omega
    have z0 : (0 : Int) ≤ 0 := by decide
    have z1 : (0 : Int) < 1000000000 := by decide
    have w29 : wrap64 (yr (x / 86400)) = yr (x / 86400) := by unfold wrap64; omega
    have w32 : wrap64 (mo (x / 86400) + 1) = mo (x / 86400) + 1 := by unfold wrap64; omega
    have w35 : wrap64 (dy (x / 86400)) = dy (x / 86400) := by unfold wrap64; omega
    have w40 : wrap64 0 = 0 := by unfold wrap64; omega
    clear D hx
    go_enter Try.func121, Try.ntmps121
    go_wp2_with (first | (go_at_call 53; (with_reducible refine (date_any 0 x _ z0 z1 HX.out).mono ?_); rintro e w1 ⟨rfl, hb⟩; have hI := Aside0.mk (hI.out.below hb); clear hb; have t0 : w1.cell? ⟨w.heap.size, 0, none⟩ = some (.int .u64 0) := (blk_cell hI.out.T 0).trans rfl; have t1 : w1.cell? ⟨w.heap.size, 1, none⟩ = some (.int .i64 (sec x)) := (blk_cell hI.out.T 1).trans rfl; have t2 : w1.cell? ⟨w.heap.size, 2, none⟩ = some (.pointer none) := (blk_cell hI.out.T 2).trans rfl) | (go_at_call 54; (with_reducible refine (clock_any 0 x _ z0 z1 HX.out).mono ?_); rintro e w2 ⟨rfl, hb⟩; have hI := Aside0.mk (hI.out.below hb).drew; clear hb t0 t1 t2))
    clear z0 z1
    refine start_ (n := 18) (S := fun w' => w'.cell? ⟨w.heap.size, 0, none⟩ = some (.int .u64 0) ∧ w'.cell? ⟨w.heap.size, 1, none⟩ = some (.int .i64 (sec x)) ∧ w'.cell? ⟨w.heap.size, 2, none⟩ = some (.pointer none)) (ds := [17]) #[false, false, false, false, false, false, false, false, false, false, false, false, false, false, false, false, false, false] (by kernel_rfl) rfl rfl ⟨(blk_cell hI.out.T 0).trans rfl, (blk_cell hI.out.T 1).trans rfl, (blk_cell hI.out.T 2).trans rfl⟩ (fun hHeld => ?_)
    refine pure_ (i := 0) (N := some 27) (v := ?_) (a' := ?_) #[true, false, false, false, false, false, false, false, false, false, false, false, false, false, false, false, false, false] rfl rfl (by kernel_rfl) (fun _ _ _ h => h) (Or.inl ⟨by rfl, ?_⟩) ?_ ?_
    rotate_left
    · intro w'
      go_simp
      with_reducible rfl
    rotate_left
    · simp only [Act.put, List.setIfInBounds_toArray, List.set_cons_zero, List.set_cons_succ, i64_w, i32_w, w29, w32, w35, w40]
      rfl
    refine pure_ (i := 1) (N := some 28) (v := ?_) (a' := ?_) #[true, true, false, false, false, false, false, false, false, false, false, false, false, false, false, false, false, false] rfl rfl (by kernel_rfl) (fun _ _ _ h => h) (Or.inl ⟨by rfl, ?_⟩) ?_ ?_
    rotate_left
    · intro w'
      go_simp
      with_reducible rfl
    rotate_left
    · simp only [Act.put, List.setIfInBounds_toArray, List.set_cons_zero, List.set_cons_succ, i64_w, i32_w, w29, w32, w35, w40]
      rfl
    refine pure_ (i := 2) (N := some 29) (v := ?_) (a' := ?_) #[true, true, true, false, false, false, false, false, false, false, false, false, false, false, false, false, false, false] rfl rfl (by kernel_rfl) (fun _ _ _ h => h) (Or.inl ⟨by rfl, ?_⟩) ?_ ?_
    rotate_left
    · intro w'
      go_simp
      with_reducible rfl
    rotate_left
    · simp only [Act.put, List.setIfInBounds_toArray, List.set_cons_zero, List.set_cons_succ, i64_w, i32_w, w29, w32, w35, w40]
      rfl
    refine pure_ (i := 3) (N := some 30) (v := ?_) (a' := ?_) #[true, true, true, true, false, false, false, false, false, false, false, false, false, false, false, false, false, false] rfl rfl (by kernel_rfl) (fun _ _ _ h => h) (Or.inl ⟨by rfl, ?_⟩) ?_ ?_
    rotate_left
    · intro w'
      go_simp
      with_reducible rfl
    rotate_left
    · simp only [Act.put, List.setIfInBounds_toArray, List.set_cons_zero, List.set_cons_succ, i64_w, i32_w, w29, w32, w35, w40]
      rfl
    refine pure_ (i := 4) (N := some 31) (v := ?_) (a' := ?_) #[true, true, true, true, true, false, false, false, false, false, false, false, false, false, false, false, false, false] rfl rfl (by kernel_rfl) (fun _ _ _ h => h) (Or.inl ⟨by rfl, ?_⟩) ?_ ?_
    rotate_left
    · intro w'
      go_simp
      with_reducible rfl
    rotate_left
    · simp only [Act.put, List.setIfInBounds_toArray, List.set_cons_zero, List.set_cons_succ, i64_w, i32_w, w29, w32, w35, w40]
      rfl
    refine pure_ (i := 5) (N := some 32) (v := ?_) (a' := ?_) #[true, true, true, true, true, true, false, false, false, false, false, false, false, false, false, false, false, false] rfl rfl (by kernel_rfl) (fun _ _ _ h => h) (Or.inl ⟨by rfl, ?_⟩) ?_ ?_
    rotate_left
    · intro w'
      go_simp
      with_reducible rfl
    rotate_left
    · simp only [Act.put, List.setIfInBounds_toArray, List.set_cons_zero, List.set_cons_succ, i64_w, i32_w, w29, w32, w35, w40]
      rfl
    refine pure_ (i := 6) (N := some 33) (v := ?_) (a' := ?_) #[true, true, true, true, true, true, true, false, false, false, false, false, false, false, false, false, false, false] rfl rfl (by kernel_rfl) (fun _ _ _ h => h) (Or.inl ⟨by rfl, ?_⟩) ?_ ?_
    rotate_left
    · intro w'
      go_simp
      with_reducible rfl
    rotate_left
    · simp only [Act.put, List.setIfInBounds_toArray, List.set_cons_zero, List.set_cons_succ, i64_w, i32_w, w29, w32, w35, w40]
      rfl
    refine pure_ (i := 7) (N := some 34) (v := ?_) (a' := ?_) #[true, true, true, true, true, true, true, true, false, false, false, false, false, false, false, false, false, false] rfl rfl (by kernel_rfl) (fun _ _ _ h => h) (Or.inl ⟨by rfl, ?_⟩) ?_ ?_
    rotate_left
    · intro w'
      go_simp
      with_reducible rfl
    rotate_left
    · simp only [Act.put, List.setIfInBounds_toArray, List.set_cons_zero, List.set_cons_succ, i64_w, i32_w, w29, w32, w35, w40]
      rfl
    refine pure_ (i := 8) (N := some 35) (v := ?_) (a' := ?_) #[true, true, true, true, true, true, true, true, true, false, false, false, false, false, false, false, false, false] rfl rfl (by kernel_rfl) (fun _ _ _ h => h) (Or.inl ⟨by rfl, ?_⟩) ?_ ?_
    rotate_left
    · intro w'
      go_simp
      with_reducible rfl
    rotate_left
    · simp only [Act.put, List.setIfInBounds_toArray, List.set_cons_zero, List.set_cons_succ, i64_w, i32_w, w29, w32, w35, w40]
      rfl
    refine pure_ (i := 9) (N := some 36) (v := ?_) (a' := ?_) #[true, true, true, true, true, true, true, true, true, true, false, false, false, false, false, false, false, false] rfl rfl (by kernel_rfl) (fun _ _ _ h => h) (Or.inl ⟨by rfl, ?_⟩) ?_ ?_
    rotate_left
    · intro w'
      go_simp
      with_reducible rfl
    rotate_left
    · simp only [Act.put, List.setIfInBounds_toArray, List.set_cons_zero, List.set_cons_succ, i64_w, i32_w, w29, w32, w35, w40]
      rfl
    refine pure_ (i := 10) (N := some 37) (v := ?_) (a' := ?_) #[true, true, true, true, true, true, true, true, true, true, true, false, false, false, false, false, false, false] rfl rfl (by kernel_rfl) (fun _ _ _ h => h) (Or.inl ⟨by rfl, ?_⟩) ?_ ?_
    rotate_left
    · intro w'
      go_simp
      with_reducible rfl
    rotate_left
    · simp only [Act.put, List.setIfInBounds_toArray, List.set_cons_zero, List.set_cons_succ, i64_w, i32_w, w29, w32, w35, w40]
      rfl
    refine pure_ (i := 11) (N := some 38) (v := ?_) (a' := ?_) #[true, true, true, true, true, true, true, true, true, true, true, true, false, false, false, false, false, false] rfl rfl (by kernel_rfl) (fun _ _ _ h => h) (Or.inl ⟨by rfl, ?_⟩) ?_ ?_
    rotate_left
    · intro w'
      go_simp
      with_reducible rfl
    rotate_left
    · simp only [Act.put, List.setIfInBounds_toArray, List.set_cons_zero, List.set_cons_succ, i64_w, i32_w, w29, w32, w35, w40]
      rfl
    refine take_ (i := 14) (N := some 41) (v := ?_) (a' := ?_) #[true, true, true, true, true, true, true, true, true, true, true, true, false, false, true, false, false, false] rfl rfl (by kernel_rfl) (fun _ _ _ h => h) (Or.inl ⟨by rfl, ?_⟩) hHeld ?_ ?_
    rotate_left
    · rintro w' ⟨s0, s1, s2⟩
      go_simp
      with_reducible rfl
    rotate_left
    · simp only [Act.put, List.setIfInBounds_toArray, List.set_cons_zero, List.set_cons_succ, i64_w, i32_w, w29, w32, w35, w40]
      rfl
    refine one_ (i := 12) (N := some 39) #[true, true, true, true, true, true, true, true, true, true, true, true, true, false, true, false, false, false] rfl rfl (by kernel_rfl) (by decide) (fun K hK => ?_)
    refine goes_ Try.func77 (by kernel_rfl) rfl #[.pointer (some ⟨w.heap.size, 0, none⟩)] (by rfl) rfl rfl (by (try simp only [List.map_toArray, List.map_cons, List.map_nil]); first | done | rfl) ?_
    refine (nsec_any w.heap.size 0 _ (by decide) (by decide) ((blk_cell hI.out.T 0).trans rfl)).mono ?_
    rintro e w12 ⟨rfl, rfl⟩
    refine ⟨_, rfl, ?_⟩
    refine hK.out _ _ ⟨(blk_cell hI.out.T 0).trans rfl, (blk_cell hI.out.T 1).trans rfl, (blk_cell hI.out.T 2).trans rfl⟩ (fun hHeld => ?_)
    clear hK K
    refine norm_ (a' := ?_) ?_ ?_
    rotate_left
    · show Act.put _ (some 39) _ = _
      simp only [Act.put, List.setIfInBounds_toArray, List.set_cons_zero, List.set_cons_succ, i64_w, i32_w]
      rfl
    refine pure_ (i := 13) (N := some 40) (v := ?_) (a' := ?_) #[true, true, true, true, true, true, true, true, true, true, true, true, true, true, true, false, false, false] rfl rfl (by kernel_rfl) (fun _ _ _ h => h) (Or.inl ⟨by rfl, ?_⟩) ?_ ?_
    rotate_left
    · intro w'
      go_simp
      with_reducible rfl
    rotate_left
    · simp only [Act.put, List.setIfInBounds_toArray, List.set_cons_zero, List.set_cons_succ, i64_w, i32_w, w29, w32, w35, w40]
      rfl
    refine one_ (i := 15) (N := some 42) #[true, true, true, true, true, true, true, true, true, true, true, true, true, true, true, true, false, false] rfl rfl (by kernel_rfl) (by decide) (fun K hK => ?_)
    refine goes_ Try.func117 (by kernel_rfl) rfl #[.agg #[.int .u64 0, .int .i64 (sec x), .pointer none]] (by rfl) rfl rfl (by (try simp only [List.map_toArray, List.map_cons, List.map_nil]); first | done | rfl) ?_
    refine (location_any 0 (sec x) _).mono ?_
    rintro e w15 ⟨k, rfl, hu, hb⟩
    refine ⟨_, rfl, ?_⟩
    have hu2 := Aside0.mk hu
    clear hu
    have hI2 := Aside0.mk (hI.out.below hb)
    clear hI hb
    have hI := hI2
    clear hI2
    refine hK.out _ _ ⟨(blk_cell hI.out.T 0).trans rfl, (blk_cell hI.out.T 1).trans rfl, (blk_cell hI.out.T 2).trans rfl⟩ (fun hHeld => ?_)
    clear hK K
    refine norm_ (a' := ?_) ?_ ?_
    rotate_left
    · show Act.put _ (some 42) _ = _
      simp only [Act.put, List.setIfInBounds_toArray, List.set_cons_zero, List.set_cons_succ, i64_w, i32_w]
      rfl
    refine one_ (i := 16) (N := some 43) #[true, true, true, true, true, true, true, true, true, true, true, true, true, true, true, true, true, false] rfl rfl (by kernel_rfl) (by decide) (fun K hK => ?_)
    refine goes_ Try.func120 (by kernel_rfl) rfl #[.int .i64 (yr (x / 86400)), .int .i64 (mo (x / 86400) + 1), .int .i64 (dy (x / 86400)), .int .i64 (x % 86400 / 3600), .int .i64 (x % 3600 / 60), .int .i64 (x % 60), .int .i64 0, .pointer (some ⟨k, 0, none⟩)] (by rfl) rfl rfl (by (try simp only [List.map_toArray, List.map_cons, List.map_nil]); first | done | rfl) ?_
    refine (HD.out k _ hu2.out.1).mono ?_
    rintro e w16 ⟨rfl, hb⟩
    refine ⟨_, rfl, ?_⟩
    have hI2 := Aside0.mk (hI.out.below hb)
    clear hI hb
    have hI := hI2
    clear hI2
    refine hK.out _ _ ⟨(blk_cell hI.out.T 0).trans rfl, (blk_cell hI.out.T 1).trans rfl, (blk_cell hI.out.T 2).trans rfl⟩ (fun hHeld => ?_)
    clear hK K
    refine norm_ (a' := ?_) ?_ ?_
    rotate_left
    · show Act.put _ (some 43) _ = _
      simp only [Act.put, List.setIfInBounds_toArray, List.set_cons_zero, List.set_cons_succ, i64_w, i32_w]
      rfl
    have rc0 : w16.cell? ⟨w.heap.size + 1, 0, none⟩ = some (.int .u64 0) := (blk_cell hI.out.R 0).trans rfl
    have rf0 := blk_frozen hI.out.R 0
    have rc1 : w16.cell? ⟨w.heap.size + 1, 1, none⟩ = some (.int .i64 0) := (blk_cell hI.out.R 1).trans rfl
    have rf1 := blk_frozen hI.out.R 1
    have rc2 : w16.cell? ⟨w.heap.size + 1, 2, none⟩ = some (.pointer none) := (blk_cell hI.out.R 2).trans rfl
    have rf2 := blk_frozen hI.out.R 2
    refine last_ (i := 17) (N := none) #[true, true, true, true, true, true, true, true, true, true, true, true, true, true, true, true, true, true] rfl rfl (by kernel_rfl) (by decide) (fun K hK => ?_)
    refine skip_ (w1 := ?_) (by rfl) rfl ?_ ?_
    rotate_left
    · go_simp
      rfl
    have hI2 := Aside0.mk (hI.out.setR (.int .u64 0) (.int .i64 (sec z)) (.pointer none))
    refine hK.out _ _ ?_
    clear hK K rc0 rc1 rc2 rf0 rf1 rf2 hI hHeld
    have hI := hI2
    clear hI2
    refine done_ (by kernel_rfl) ?_
    go_wp2_with fail
    generalize hg : World.setCell _ _ (.pointer none) = w7 at hI ⊢
    have r0 : w7.cell? ⟨w.heap.size + 1, 0, none⟩ = some (.int .u64 0) := (blk_cell hI.out.R 0).trans rfl
    have r1 : w7.cell? ⟨w.heap.size + 1, 1, none⟩ = some (.int .i64 (sec z)) := (blk_cell hI.out.R 1).trans rfl
    have r2 : w7.cell? ⟨w.heap.size + 1, 2, none⟩ = some (.pointer none) := (blk_cell hI.out.R 2).trans rfl
    exact bodyPost_ret (v := .agg #[.int .u64 0, .int .i64 (sec z), .pointer none]) (by simp [results, Try.results121, go_sem, r0, r1, r2]) rfl ⟨rfl, hI.out.B⟩
  exact h.mono fun _ _ h => h
set_option maxHeartbeats 4000000 in
set_option maxRecDepth 100000 in
theorem addDay_any (x z : Int) (w : World) (hx : Dom x) (D : ∀ (l : Nat) (W : World), IsU W l → Calls Try.prog 120 #[.int .i64 (yr (x / 86400)), .int .i64 (mo (x / 86400)), .int .i64 (dy (x / 86400) + 1), .int .i64 (x % 86400 / 3600), .int .i64 (x % 3600 / 60), .int .i64 (x % 60), .int .i64 0, .pointer (some ⟨l, 0, none⟩)] W (Post z W)) :
    Calls Try.prog 121 #[.agg #[.int .u64 0, .int .i64 (sec x), .pointer none], .int .i64 0, .int .i64 0, .int .i64 1] w (Post z w) := by
  have h : Calls Try.prog 121 #[.agg #[.int .u64 0, .int .i64 (sec x), .pointer none], .int .i64 0, .int .i64 0, .int .i64 1] w fun e w' => e = .returned (.agg #[.int .u64 0, .int .i64 (sec z), .pointer none]) ∧ Below w.heap.size w w' := by
    have HD := Aside0.mk D
    have HX := Aside0.mk hx
    have hI := Aside0.mk (ad_start w #[.int .u64 0, .int .i64 (sec x), .pointer none] #[.int .u64 0, .int .i64 0, .pointer none])
    have y0 := (yr_bd hx.n0 hx.n2).1
    have y1 := (yr_bd hx.n0 hx.n2).2
    have m0 := (mo_bd (x / 86400)).1
    have m1 := (mo_bd (x / 86400)).2
    have d0 := (dy_bd (x / 86400)).1
    have d1 : dy (x / 86400) ≤ 31 := by have := (dy_bd (x / 86400)).2; have := (md_bd (yr (x / 86400)) (mo (x / 86400))).2; omega
    have z0 : (0 : Int) ≤ 0 := by decide
    have z1 : (0 : Int) < 1000000000 := by decide
    have w29 : wrap64 (yr (x / 86400)) = yr (x / 86400) := by unfold wrap64; omega
    have w32 : wrap64 (mo (x / 86400)) = mo (x / 86400) := by unfold wrap64; omega
    have w35 : wrap64 (dy (x / 86400) + 1) = dy (x / 86400) + 1 := by unfold wrap64; omega
    have w40 : wrap64 0 = 0 := by unfold wrap64; omega
    clear D hx
    go_enter Try.func121, Try.ntmps121
    go_wp2_with (first | (go_at_call 53; (with_reducible refine (date_any 0 x _ z0 z1 HX.out).mono ?_); rintro e w1 ⟨rfl, hb⟩; have hI := Aside0.mk (hI.out.below hb); clear hb; have t0 : w1.cell? ⟨w.heap.size, 0, none⟩ = some (.int .u64 0) := (blk_cell hI.out.T 0).trans rfl; have t1 : w1.cell? ⟨w.heap.size, 1, none⟩ = some (.int .i64 (sec x)) := (blk_cell hI.out.T 1).trans rfl; have t2 : w1.cell? ⟨w.heap.size, 2, none⟩ = some (.pointer none) := (blk_cell hI.out.T 2).trans rfl) | (go_at_call 54; (with_reducible refine (clock_any 0 x _ z0 z1 HX.out).mono ?_); rintro e w2 ⟨rfl, hb⟩; have hI := Aside0.mk (hI.out.below hb).drew; clear hb t0 t1 t2))
    clear z0 z1
    refine start_ (n := 18) (S := fun w' => w'.cell? ⟨w.heap.size, 0, none⟩ = some (.int .u64 0) ∧ w'.cell? ⟨w.heap.size, 1, none⟩ = some (.int .i64 (sec x)) ∧ w'.cell? ⟨w.heap.size, 2, none⟩ = some (.pointer none)) (ds := [17]) #[false, false, false, false, false, false, false, false, false, false, false, false, false, false, false, false, false, false] (by kernel_rfl) rfl rfl ⟨(blk_cell hI.out.T 0).trans rfl, (blk_cell hI.out.T 1).trans rfl, (blk_cell hI.out.T 2).trans rfl⟩ (fun hHeld => ?_)
    refine pure_ (i := 0) (N := some 27) (v := ?_) (a' := ?_) #[true, false, false, false, false, false, false, false, false, false, false, false, false, false, false, false, false, false] rfl rfl (by kernel_rfl) (fun _ _ _ h => h) (Or.inl ⟨by rfl, ?_⟩) ?_ ?_
    rotate_left
    · intro w'
      go_simp
      with_reducible rfl
    rotate_left
    · simp only [Act.put, List.setIfInBounds_toArray, List.set_cons_zero, List.set_cons_succ, i64_w, i32_w, w29, w32, w35, w40]
      rfl
    refine pure_ (i := 1) (N := some 28) (v := ?_) (a' := ?_) #[true, true, false, false, false, false, false, false, false, false, false, false, false, false, false, false, false, false] rfl rfl (by kernel_rfl) (fun _ _ _ h => h) (Or.inl ⟨by rfl, ?_⟩) ?_ ?_
    rotate_left
    · intro w'
      go_simp
      with_reducible rfl
    rotate_left
    · simp only [Act.put, List.setIfInBounds_toArray, List.set_cons_zero, List.set_cons_succ, i64_w, i32_w, w29, w32, w35, w40]
      rfl
    refine pure_ (i := 2) (N := some 29) (v := ?_) (a' := ?_) #[true, true, true, false, false, false, false, false, false, false, false, false, false, false, false, false, false, false] rfl rfl (by kernel_rfl) (fun _ _ _ h => h) (Or.inl ⟨by rfl, ?_⟩) ?_ ?_
    rotate_left
    · intro w'
      go_simp
      with_reducible rfl
    rotate_left
    · simp only [Act.put, List.setIfInBounds_toArray, List.set_cons_zero, List.set_cons_succ, i64_w, i32_w, w29, w32, w35, w40]
      rfl
    refine pure_ (i := 3) (N := some 30) (v := ?_) (a' := ?_) #[true, true, true, true, false, false, false, false, false, false, false, false, false, false, false, false, false, false] rfl rfl (by kernel_rfl) (fun _ _ _ h => h) (Or.inl ⟨by rfl, ?_⟩) ?_ ?_
    rotate_left
    · intro w'
      go_simp
      with_reducible rfl
    rotate_left
    · simp only [Act.put, List.setIfInBounds_toArray, List.set_cons_zero, List.set_cons_succ, i64_w, i32_w, w29, w32, w35, w40]
      rfl
    refine pure_ (i := 4) (N := some 31) (v := ?_) (a' := ?_) #[true, true, true, true, true, false, false, false, false, false, false, false, false, false, false, false, false, false] rfl rfl (by kernel_rfl) (fun _ _ _ h => h) (Or.inl ⟨by rfl, ?_⟩) ?_ ?_
    rotate_left
    · intro w'
      go_simp
      with_reducible rfl
    rotate_left
    · simp only [Act.put, List.setIfInBounds_toArray, List.set_cons_zero, List.set_cons_succ, i64_w, i32_w, w29, w32, w35, w40]
      rfl
    refine pure_ (i := 5) (N := some 32) (v := ?_) (a' := ?_) #[true, true, true, true, true, true, false, false, false, false, false, false, false, false, false, false, false, false] rfl rfl (by kernel_rfl) (fun _ _ _ h => h) (Or.inl ⟨by rfl, ?_⟩) ?_ ?_
    rotate_left
    · intro w'
      go_simp
      with_reducible rfl
    rotate_left
    · simp only [Act.put, List.setIfInBounds_toArray, List.set_cons_zero, List.set_cons_succ, i64_w, i32_w, w29, w32, w35, w40]
      rfl
    refine pure_ (i := 6) (N := some 33) (v := ?_) (a' := ?_) #[true, true, true, true, true, true, true, false, false, false, false, false, false, false, false, false, false, false] rfl rfl (by kernel_rfl) (fun _ _ _ h => h) (Or.inl ⟨by rfl, ?_⟩) ?_ ?_
    rotate_left
    · intro w'
      go_simp
      with_reducible rfl
    rotate_left
    · simp only [Act.put, List.setIfInBounds_toArray, List.set_cons_zero, List.set_cons_succ, i64_w, i32_w, w29, w32, w35, w40]
      rfl
    refine pure_ (i := 7) (N := some 34) (v := ?_) (a' := ?_) #[true, true, true, true, true, true, true, true, false, false, false, false, false, false, false, false, false, false] rfl rfl (by kernel_rfl) (fun _ _ _ h => h) (Or.inl ⟨by rfl, ?_⟩) ?_ ?_
    rotate_left
    · intro w'
      go_simp
      with_reducible rfl
    rotate_left
    · simp only [Act.put, List.setIfInBounds_toArray, List.set_cons_zero, List.set_cons_succ, i64_w, i32_w, w29, w32, w35, w40]
      rfl
    refine pure_ (i := 8) (N := some 35) (v := ?_) (a' := ?_) #[true, true, true, true, true, true, true, true, true, false, false, false, false, false, false, false, false, false] rfl rfl (by kernel_rfl) (fun _ _ _ h => h) (Or.inl ⟨by rfl, ?_⟩) ?_ ?_
    rotate_left
    · intro w'
      go_simp
      with_reducible rfl
    rotate_left
    · simp only [Act.put, List.setIfInBounds_toArray, List.set_cons_zero, List.set_cons_succ, i64_w, i32_w, w29, w32, w35, w40]
      rfl
    refine pure_ (i := 9) (N := some 36) (v := ?_) (a' := ?_) #[true, true, true, true, true, true, true, true, true, true, false, false, false, false, false, false, false, false] rfl rfl (by kernel_rfl) (fun _ _ _ h => h) (Or.inl ⟨by rfl, ?_⟩) ?_ ?_
    rotate_left
    · intro w'
      go_simp
      with_reducible rfl
    rotate_left
    · simp only [Act.put, List.setIfInBounds_toArray, List.set_cons_zero, List.set_cons_succ, i64_w, i32_w, w29, w32, w35, w40]
      rfl
    refine pure_ (i := 10) (N := some 37) (v := ?_) (a' := ?_) #[true, true, true, true, true, true, true, true, true, true, true, false, false, false, false, false, false, false] rfl rfl (by kernel_rfl) (fun _ _ _ h => h) (Or.inl ⟨by rfl, ?_⟩) ?_ ?_
    rotate_left
    · intro w'
      go_simp
      with_reducible rfl
    rotate_left
    · simp only [Act.put, List.setIfInBounds_toArray, List.set_cons_zero, List.set_cons_succ, i64_w, i32_w, w29, w32, w35, w40]
      rfl
    refine pure_ (i := 11) (N := some 38) (v := ?_) (a' := ?_) #[true, true, true, true, true, true, true, true, true, true, true, true, false, false, false, false, false, false] rfl rfl (by kernel_rfl) (fun _ _ _ h => h) (Or.inl ⟨by rfl, ?_⟩) ?_ ?_
    rotate_left
    · intro w'
      go_simp
      with_reducible rfl
    rotate_left
    · simp only [Act.put, List.setIfInBounds_toArray, List.set_cons_zero, List.set_cons_succ, i64_w, i32_w, w29, w32, w35, w40]
      rfl
    refine take_ (i := 14) (N := some 41) (v := ?_) (a' := ?_) #[true, true, true, true, true, true, true, true, true, true, true, true, false, false, true, false, false, false] rfl rfl (by kernel_rfl) (fun _ _ _ h => h) (Or.inl ⟨by rfl, ?_⟩) hHeld ?_ ?_
    rotate_left
    · rintro w' ⟨s0, s1, s2⟩
      go_simp
      with_reducible rfl
    rotate_left
    · simp only [Act.put, List.setIfInBounds_toArray, List.set_cons_zero, List.set_cons_succ, i64_w, i32_w, w29, w32, w35, w40]
      rfl
    refine one_ (i := 12) (N := some 39) #[true, true, true, true, true, true, true, true, true, true, true, true, true, false, true, false, false, false] rfl rfl (by kernel_rfl) (by decide) (fun K hK => ?_)
    refine goes_ Try.func77 (by kernel_rfl) rfl #[.pointer (some ⟨w.heap.size, 0, none⟩)] (by rfl) rfl rfl (by (try simp only [List.map_toArray, List.map_cons, List.map_nil]); first | done | rfl) ?_
    refine (nsec_any w.heap.size 0 _ (by decide) (by decide) ((blk_cell hI.out.T 0).trans rfl)).mono ?_
    rintro e w12 ⟨rfl, rfl⟩
    refine ⟨_, rfl, ?_⟩
    refine hK.out _ _ ⟨(blk_cell hI.out.T 0).trans rfl, (blk_cell hI.out.T 1).trans rfl, (blk_cell hI.out.T 2).trans rfl⟩ (fun hHeld => ?_)
    clear hK K
    refine norm_ (a' := ?_) ?_ ?_
    rotate_left
    · show Act.put _ (some 39) _ = _
      simp only [Act.put, List.setIfInBounds_toArray, List.set_cons_zero, List.set_cons_succ, i64_w, i32_w]
      rfl
    refine pure_ (i := 13) (N := some 40) (v := ?_) (a' := ?_) #[true, true, true, true, true, true, true, true, true, true, true, true, true, true, true, false, false, false] rfl rfl (by kernel_rfl) (fun _ _ _ h => h) (Or.inl ⟨by rfl, ?_⟩) ?_ ?_
    rotate_left
    · intro w'
      go_simp
      with_reducible rfl
    rotate_left
    · simp only [Act.put, List.setIfInBounds_toArray, List.set_cons_zero, List.set_cons_succ, i64_w, i32_w, w29, w32, w35, w40]
      rfl
    refine one_ (i := 15) (N := some 42) #[true, true, true, true, true, true, true, true, true, true, true, true, true, true, true, true, false, false] rfl rfl (by kernel_rfl) (by decide) (fun K hK => ?_)
    refine goes_ Try.func117 (by kernel_rfl) rfl #[.agg #[.int .u64 0, .int .i64 (sec x), .pointer none]] (by rfl) rfl rfl (by (try simp only [List.map_toArray, List.map_cons, List.map_nil]); first | done | rfl) ?_
    refine (location_any 0 (sec x) _).mono ?_
    rintro e w15 ⟨k, rfl, hu, hb⟩
    refine ⟨_, rfl, ?_⟩
    have hu2 := Aside0.mk hu
    clear hu
    have hI2 := Aside0.mk (hI.out.below hb)
    clear hI hb
    have hI := hI2
    clear hI2
    refine hK.out _ _ ⟨(blk_cell hI.out.T 0).trans rfl, (blk_cell hI.out.T 1).trans rfl, (blk_cell hI.out.T 2).trans rfl⟩ (fun hHeld => ?_)
    clear hK K
    refine norm_ (a' := ?_) ?_ ?_
    rotate_left
    · show Act.put _ (some 42) _ = _
      simp only [Act.put, List.setIfInBounds_toArray, List.set_cons_zero, List.set_cons_succ, i64_w, i32_w]
      rfl
    refine one_ (i := 16) (N := some 43) #[true, true, true, true, true, true, true, true, true, true, true, true, true, true, true, true, true, false] rfl rfl (by kernel_rfl) (by decide) (fun K hK => ?_)
    refine goes_ Try.func120 (by kernel_rfl) rfl #[.int .i64 (yr (x / 86400)), .int .i64 (mo (x / 86400)), .int .i64 (dy (x / 86400) + 1), .int .i64 (x % 86400 / 3600), .int .i64 (x % 3600 / 60), .int .i64 (x % 60), .int .i64 0, .pointer (some ⟨k, 0, none⟩)] (by rfl) rfl rfl (by (try simp only [List.map_toArray, List.map_cons, List.map_nil]); first | done | rfl) ?_
    refine (HD.out k _ hu2.out.1).mono ?_
    rintro e w16 ⟨rfl, hb⟩
    refine ⟨_, rfl, ?_⟩
    have hI2 := Aside0.mk (hI.out.below hb)
    clear hI hb
    have hI := hI2
    clear hI2
    refine hK.out _ _ ⟨(blk_cell hI.out.T 0).trans rfl, (blk_cell hI.out.T 1).trans rfl, (blk_cell hI.out.T 2).trans rfl⟩ (fun hHeld => ?_)
    clear hK K
    refine norm_ (a' := ?_) ?_ ?_
    rotate_left
    · show Act.put _ (some 43) _ = _
      simp only [Act.put, List.setIfInBounds_toArray, List.set_cons_zero, List.set_cons_succ, i64_w, i32_w]
      rfl
    have rc0 : w16.cell? ⟨w.heap.size + 1, 0, none⟩ = some (.int .u64 0) := (blk_cell hI.out.R 0).trans rfl
    have rf0 := blk_frozen hI.out.R 0
    have rc1 : w16.cell? ⟨w.heap.size + 1, 1, none⟩ = some (.int .i64 0) := (blk_cell hI.out.R 1).trans rfl
    have rf1 := blk_frozen hI.out.R 1
    have rc2 : w16.cell? ⟨w.heap.size + 1, 2, none⟩ = some (.pointer none) := (blk_cell hI.out.R 2).trans rfl
    have rf2 := blk_frozen hI.out.R 2
    refine last_ (i := 17) (N := none) #[true, true, true, true, true, true, true, true, true, true, true, true, true, true, true, true, true, true] rfl rfl (by kernel_rfl) (by decide) (fun K hK => ?_)
    refine skip_ (w1 := ?_) (by rfl) rfl ?_ ?_
    rotate_left
    · go_simp
      rfl
    have hI2 := Aside0.mk (hI.out.setR (.int .u64 0) (.int .i64 (sec z)) (.pointer none))
    refine hK.out _ _ ?_
    clear hK K rc0 rc1 rc2 rf0 rf1 rf2 hI hHeld
    have hI := hI2
    clear hI2
    refine done_ (by kernel_rfl) ?_
    go_wp2_with fail
    generalize hg : World.setCell _ _ (.pointer none) = w7 at hI ⊢
    have r0 : w7.cell? ⟨w.heap.size + 1, 0, none⟩ = some (.int .u64 0) := (blk_cell hI.out.R 0).trans rfl
    have r1 : w7.cell? ⟨w.heap.size + 1, 1, none⟩ = some (.int .i64 (sec z)) := (blk_cell hI.out.R 1).trans rfl
    have r2 : w7.cell? ⟨w.heap.size + 1, 2, none⟩ = some (.pointer none) := (blk_cell hI.out.R 2).trans rfl
    exact bodyPost_ret (v := .agg #[.int .u64 0, .int .i64 (sec z), .pointer none]) (by simp [results, Try.results121, go_sem, r0, r1, r2]) rfl ⟨rfl, hI.out.B⟩
  exact h.mono fun _ _ h => h
end Go.Proofs.Ytlgdaegaahnkbaa.Tm
