/- The reference's rule of the two fields of days, by hand. -/
import Derived.Test.YtlgdaegaahnkbaaSpecF
namespace Go.Proofs.Ytlgdaegaahnkbaa.Tm
open Go Go.RowKit Cal MC
open Go.Proofs.YtlgdaegaahnkbaaW.PrintWords Go.Proofs.YtlgdaegaahnkbaaW.PrintLast Go.Proofs.YtlgdaegaahnkbaaW.PrintMore
set_option linter.unusedVariables false
set_option linter.unusedSimpArgs false
/-- A value of a field. -/
theorem fcell_in (b : SB) (k : Nat) (v : Int) (hk : k < 6) (h0 : lowK k ≤ v) (h1 : v ≤ highK k) : fcell b 6 (64 * k + 1 + v.toNat) = bitOf (fldN b k) v := by
  have hl := low_bd (k : Int)
  have hh := high_bd (k : Int)
  unfold fcell
  have e1 : (64 * k + 1 + v.toNat) / 64 = k := by omega
  have e2 : (64 * k + 1 + v.toNat) % 64 = 1 + v.toNat := by omega
  rw [if_pos (by omega), e1, e2]
  unfold setB
  rw [if_neg (by omega), decide_eq_true (by omega), show 1 + v.toNat - 1 = v.toNat by omega]
  simp [bitOf]
theorem fcell_star (b : SB) (k : Nat) (hk : k < 6) : fcell b 6 (64 * k) = (fldN b k).testBit 63 := by
  unfold fcell
  have e1 : 64 * k / 64 = k := by omega
  have e2 : 64 * k % 64 = 0 := by omega
  rw [if_pos (by omega), e1, e2]
  unfold setB
  rw [if_pos rfl]
theorem fv_get (b : SB) (i : Nat) (h : i < 384) : (fv b)[i]? = some (.bool (fcell b 6 i)) := arrB_get _ _ _ h
/-- The sets' block and the date's, the first two of a call. -/
structure Gm (w w' : World) (f d : Array Value) : Prop where mk ::
  (F : w'.heap[w.heap.size]? = some (.cells f 32 (0, 0)))
  (D : w'.heap[w.heap.size + 1]? = some (.cells d 80 (0, 0)))
  (B : Below w.heap.size w w')
theorem Gm.below {w w1 w2 : World} {f d : Array Value} (h : Gm w w1 f d) (hb : Below w1.heap.size w1 w2) : Gm w w2 f d := ⟨blk_below h.F hb, blk_below h.D hb, h.B.trans (hb.mono h.B.size)⟩
theorem Gm.drew {w w1 : World} {f d : Array Value} (h : Gm w w1 f d) : Gm w w1.drew f d := h.below (below_drew1 (Below.refl _ _))
theorem gm_start (w : World) (f d : Array Value) : Gm w ((w.alloc (.cells f 32)).alloc (.cells d 80)) f d := by
  refine ⟨blk_alloc (heap_at _) _, ?_, ((Below.refl _ w).alloc (Nat.le_refl _) _).alloc (by simp) _⟩
  have := @heap_at (w.alloc (.cells f 32)) (.cells d 80)
  rwa [World.size_alloc] at this
theorem Gm.dom {w w1 : World} {b : SB} {t : Array Value} (h : Gm w w1 (fv b) t) (d : Int) (d0 : 1 ≤ d) (d1 : d ≤ 31) : w1.cell? ⟨w.heap.size, 193 + d.toNat, none⟩ = some (.bool (bitOf b.d d)) := by
  rw [blk_cell h.F, fv_get b _ (by omega)]
  exact congrArg (fun z => some (Value.bool z)) (fcell_in b 3 d (by decide) d0 d1)
theorem Gm.dow {w w1 : World} {b : SB} {t : Array Value} (h : Gm w w1 (fv b) t) (v : Int) (v0 : 0 ≤ v) (v1 : v ≤ 6) : w1.cell? ⟨w.heap.size, 321 + v.toNat, none⟩ = some (.bool (bitOf b.w v)) := by
  rw [blk_cell h.F, fv_get b _ (by omega)]
  exact congrArg (fun z => some (Value.bool z)) (fcell_in b 5 v (by decide) v0 v1)
theorem Gm.star3 {w w1 : World} {b : SB} {t : Array Value} (h : Gm w w1 (fv b) t) : w1.cell? ⟨w.heap.size, 192, none⟩ = some (.bool (b.d.testBit 63)) := by
  rw [blk_cell h.F, fv_get b _ (by omega), show (192 : Nat) = 64 * 3 from rfl, fcell_star b 3 (by decide)]; rfl
theorem Gm.star5 {w w1 : World} {b : SB} {t : Array Value} (h : Gm w w1 (fv b) t) : w1.cell? ⟨w.heap.size, 320, none⟩ = some (.bool (b.w.testBit 63)) := by
  rw [blk_cell h.F, fv_get b _ (by omega), show (320 : Nat) = 64 * 5 from rfl, fcell_star b 5 (by decide)]; rfl
set_option maxHeartbeats 2000000 in
theorem dayFits_any (b : SB) (y m d v : Int) (w : World) (d0 : 1 ≤ d) (d1 : d ≤ 31) (v0 : 0 ≤ v) (v1 : v ≤ 6) :
    Calls Try.prog 38 #[.agg (fv b), .agg #[.int .i64 y, .int .i64 m, .int .i64 d], .int .i64 v] w fun e w' => e = .returned (.bool (if b.d.testBit 63 || b.w.testBit 63 then bitOf b.d d && bitOf b.w v else bitOf b.d d || bitOf b.w v)) ∧ Below w.heap.size w w' := by
  have hI := Aside0.mk (gm_start w (fv b) #[.int .i64 y, .int .i64 m, .int .i64 d]).drew
  obtain ⟨q1, hq1⟩ : ∃ q, q = bitOf b.d d := ⟨_, rfl⟩
  obtain ⟨q2, hq2⟩ : ∃ q, q = bitOf b.w v := ⟨_, rfl⟩
  obtain ⟨q3, hq3⟩ : ∃ q, q = b.d.testBit 63 := ⟨_, rfl⟩
  obtain ⟨q4, hq4⟩ : ∃ q, q = b.w.testBit 63 := ⟨_, rfl⟩
  rw [← hq1, ← hq2, ← hq3, ← hq4]
  have q1e := Aside0.mk hq1
  have q2e := Aside0.mk hq2
  have s3 : Aside0 (∀ w1 t, Gm w w1 (fv b) t → w1.cell? ⟨w.heap.size, 192, none⟩ = some (.bool q3)) := ⟨fun w1 t h => by rw [hq3]; exact h.star3⟩
  have s5 : Aside0 (∀ w1 t, Gm w w1 (fv b) t → w1.cell? ⟨w.heap.size, 320, none⟩ = some (.bool q4)) := ⟨fun w1 t h => by rw [hq4]; exact h.star5⟩
  clear hq1 hq2 hq3 hq4
  go_enter Try.func38, Try.ntmps38
  go_wp2_with fail
  refine start_ (n := 13) (S := fun w' => w'.cell? ⟨w.heap.size + 1, 2, none⟩ = some (.int .i64 d) ∧ w'.cell? ⟨w.heap.size, 193 + d.toNat, none⟩ = some (.bool q1) ∧ w'.cell? ⟨w.heap.size, 321 + v.toNat, none⟩ = some (.bool q2)) (ds := []) #[false, false, false, false, false, false, false, false, false, false, false, false, false] (by kernel_rfl) rfl rfl ⟨(blk_cell hI.out.D 2).trans rfl, (hI.out.dom d d0 d1).trans (by rw [q1e.out]), (hI.out.dow v v0 v1).trans (by rw [q2e.out])⟩ (fun hHeld => ?_)
  refine pure_ (i := 0) (N := some 9) (v := ?_) (a' := ?_) #[true, false, false, false, false, false, false, false, false, false, false, false, false] rfl rfl (by kernel_rfl) (fun _ _ _ h => h) (Or.inl ⟨by rfl, ?_⟩) ?_ ?_
  rotate_left
  · intro w'
    go_simp
    with_reducible rfl
  rotate_left
  · simp only [Act.put, List.setIfInBounds_toArray, List.set_cons_zero, List.set_cons_succ, i64_w, i32_w]
    rfl
  refine take_ (i := 1) (N := some 10) (v := ?_) (a' := ?_) #[true, true, false, false, false, false, false, false, false, false, false, false, false] rfl rfl (by kernel_rfl) (fun _ _ _ h => h) (Or.inl ⟨by rfl, ?_⟩) hHeld ?_ ?_
  rotate_left
  · rintro w' ⟨s0, s1, s2⟩
    go_simp
    with_reducible rfl
  rotate_left
  · simp only [Act.put, List.setIfInBounds_toArray, List.set_cons_zero, List.set_cons_succ, i64_w, i32_w]
    rfl
  refine pure_ (i := 2) (N := some 11) (v := ?_) (a' := ?_) #[true, true, true, false, false, false, false, false, false, false, false, false, false] rfl rfl (by kernel_rfl) (fun _ _ _ h => h) (Or.inl ⟨by rfl, ?_⟩) ?_ ?_
  rotate_left
  · intro w'
    go_simp
    with_reducible rfl
  rotate_left
  · simp only [Act.put, List.setIfInBounds_toArray, List.set_cons_zero, List.set_cons_succ, i64_w, i32_w]
    rfl
  refine pure_ (i := 3) (N := some 12) (v := ?_) (a' := ?_) #[true, true, true, true, false, false, false, false, false, false, false, false, false] rfl rfl (by kernel_rfl) (fun _ _ _ h => h) (Or.inl ⟨by rfl, ?_⟩) ?_ ?_
  rotate_left
  · intro w'
    go_simp
    with_reducible rfl
  rotate_left
  · simp only [Act.put, List.setIfInBounds_toArray, List.set_cons_zero, List.set_cons_succ, i64_w, i32_w]
    rfl
  refine pure_ (i := 4) (N := some 13) (v := ?_) (a' := ?_) #[true, true, true, true, true, false, false, false, false, false, false, false, false] rfl rfl (by kernel_rfl) (fun _ _ _ h => h) (Or.inl ⟨by rfl, ?_⟩) ?_ ?_
  rotate_left
  · intro w'
    go_simp
    rw [if_pos (by omega)]
  rotate_left
  · simp only [Act.put, List.setIfInBounds_toArray, List.set_cons_zero, List.set_cons_succ, i64_w, i32_w]
    rfl
  refine take_ (i := 5) (N := some 14) (v := ?_) (a' := ?_) #[true, true, true, true, true, true, false, false, false, false, false, false, false] rfl rfl (by kernel_rfl) (fun _ _ _ h => h) (Or.inl ⟨by rfl, ?_⟩) hHeld ?_ ?_
  rotate_left
  · rintro w' ⟨s0, s1, s2⟩
    go_simp
    with_reducible rfl
  rotate_left
  · simp only [Act.put, List.setIfInBounds_toArray, List.set_cons_zero, List.set_cons_succ, i64_w, i32_w]
    rfl
  refine pure_ (i := 6) (N := some 15) (v := ?_) (a' := ?_) #[true, true, true, true, true, true, true, false, false, false, false, false, false] rfl rfl (by kernel_rfl) (fun _ _ _ h => h) (Or.inl ⟨by rfl, ?_⟩) ?_ ?_
  rotate_left
  · intro w'
    go_simp
    with_reducible rfl
  rotate_left
  · simp only [Act.put, List.setIfInBounds_toArray, List.set_cons_zero, List.set_cons_succ, i64_w, i32_w]
    rfl
  refine pure_ (i := 7) (N := some 16) (v := ?_) (a' := ?_) #[true, true, true, true, true, true, true, true, false, false, false, false, false] rfl rfl (by kernel_rfl) (fun _ _ _ h => h) (Or.inl ⟨by rfl, ?_⟩) ?_ ?_
  rotate_left
  · intro w'
    go_simp
    with_reducible rfl
  rotate_left
  · simp only [Act.put, List.setIfInBounds_toArray, List.set_cons_zero, List.set_cons_succ, i64_w, i32_w]
    rfl
  refine pure_ (i := 8) (N := some 17) (v := ?_) (a' := ?_) #[true, true, true, true, true, true, true, true, true, false, false, false, false] rfl rfl (by kernel_rfl) (fun _ _ _ h => h) (Or.inl ⟨by rfl, ?_⟩) ?_ ?_
  rotate_left
  · intro w'
    go_simp
    with_reducible rfl
  rotate_left
  · simp only [Act.put, List.setIfInBounds_toArray, List.set_cons_zero, List.set_cons_succ, i64_w, i32_w]
    rfl
  refine pure_ (i := 9) (N := some 18) (v := ?_) (a' := ?_) #[true, true, true, true, true, true, true, true, true, true, false, false, false] rfl rfl (by kernel_rfl) (fun _ _ _ h => h) (Or.inl ⟨by rfl, ?_⟩) ?_ ?_
  rotate_left
  · intro w'
    go_simp
    rw [if_pos (by omega)]
  rotate_left
  · simp only [Act.put, List.setIfInBounds_toArray, List.set_cons_zero, List.set_cons_succ, i64_w, i32_w]
    rfl
  refine take_ (i := 10) (N := some 19) (v := ?_) (a' := ?_) #[true, true, true, true, true, true, true, true, true, true, true, false, false] rfl rfl (by kernel_rfl) (fun _ _ _ h => h) (Or.inl ⟨by rfl, ?_⟩) hHeld ?_ ?_
  rotate_left
  · rintro w' ⟨s0, s1, s2⟩
    go_simp
    with_reducible rfl
  rotate_left
  · simp only [Act.put, List.setIfInBounds_toArray, List.set_cons_zero, List.set_cons_succ, i64_w, i32_w]
    rfl
  refine pure_ (i := 11) (N := some 7) (v := ?_) (a' := ?_) #[true, true, true, true, true, true, true, true, true, true, true, true, false] rfl rfl (by kernel_rfl) (fun _ _ _ h => h) (Or.inl ⟨by rfl, ?_⟩) ?_ ?_
  rotate_left
  · intro w'
    go_simp
    with_reducible rfl
  rotate_left
  · simp only [Act.put, List.setIfInBounds_toArray, List.set_cons_zero, List.set_cons_succ, i64_w, i32_w]
    rfl
  refine pure_ (i := 12) (N := some 8) (v := ?_) (a' := ?_) #[true, true, true, true, true, true, true, true, true, true, true, true, true] rfl rfl (by kernel_rfl) (fun _ _ _ h => h) (Or.inl ⟨by rfl, ?_⟩) ?_ ?_
  rotate_left
  · intro w'
    go_simp
    with_reducible rfl
  rotate_left
  · simp only [Act.put, List.setIfInBounds_toArray, List.set_cons_zero, List.set_cons_succ, i64_w, i32_w]
    rfl
  refine done_ (by kernel_rfl) ?_
  have c3 := s3.out _ _ hI.out
  have c5 := s5.out _ _ hI.out
  have HB := Aside0.mk hI.out.B
  clear hI s3 s5 q1e q2e hHeld
  cases q1 <;> cases q2 <;> cases q3 <;> cases q4
  all_goals
    go_wp2_with fail
    go_ret
    exact ⟨rfl, HB.out⟩
end Go.Proofs.Ytlgdaegaahnkbaa.Tm
