/- The thin package's Next over UTC, by hand: the least second that fits. -/
import Derived.Test.YtlgdaegaahnkbaaTimeG
import Derived.Test.YtlgdaegaahnkbaaTimeI
namespace Go.Proofs.Ytlgdaegaahnkbaa.Tm
open Go Go.RowKit Cal MC
open Go.Proofs.YtlgdaegaahnkbaaW.PrintWords Go.Proofs.YtlgdaegaahnkbaaW.PrintLast Go.Proofs.YtlgdaegaahnkbaaW.PrintMore
set_option linter.unusedVariables false
set_option linter.unusedSimpArgs false
structure Im (w w' : World) (a c d r : Array Value) : Prop where mk ::
  (A : w'.heap[w.heap.size]? = some (.cells a 24 (0, 0)))
  (C : w'.heap[w.heap.size + 1]? = some (.cells c 26 (0, 0)))
  (D : w'.heap[w.heap.size + 1 + 1]? = some (.cells d 40 (0, 0)))
  (R : w'.heap[w.heap.size + 1 + 1 + 1]? = some (.cells r 26 (0, 0)))
  (B : Below w.heap.size w w')
theorem Im.below {w w1 w2 : World} {a c d r : Array Value} (h : Im w w1 a c d r) (hb : Below w1.heap.size w1 w2) : Im w w2 a c d r :=
  ⟨blk_below h.A hb, blk_below h.C hb, blk_below h.D hb, blk_below h.R hb, h.B.trans (hb.mono h.B.size)⟩
theorem Im.drew {w w1 : World} {a c d r : Array Value} (h : Im w w1 a c d r) : Im w w1.drew a c d r := h.below (below_drew1 (Below.refl _ _))
theorem im_start (w : World) (a c d r : Array Value) : Im w ((((w.alloc (.cells a 24)).alloc (.cells c 26)).alloc (.cells d 40)).alloc (.cells r 26)) a c d r := by
  refine ⟨blk_alloc (blk_alloc (blk_alloc (heap_at _) _) _) _, blk_alloc (blk_alloc ?_ _) _, blk_alloc ?_ _, ?_, ((((Below.refl _ w).alloc (Nat.le_refl _) _).alloc (by simp) _).alloc (by simp; omega) _).alloc (by simp; omega) _⟩
  · have := @heap_at (w.alloc (.cells a 24)) (.cells c 26)
    simpa only [World.size_alloc] using this
  · have := @heap_at ((w.alloc (.cells a 24)).alloc (.cells c 26)) (.cells d 40)
    simpa only [World.size_alloc] using this
  · have := @heap_at (((w.alloc (.cells a 24)).alloc (.cells c 26)).alloc (.cells d 40)) (.cells r 26)
    simpa only [World.size_alloc] using this
theorem Im.set2 {w w1 : World} {a c d : Array Value} {r0 r1 : Value} (h : Im w w1 a c d #[r0, r1]) (e f : Value) :
    Im w ((w1.setCell ⟨w.heap.size + 1 + 1 + 1, 0, none⟩ e).setCell ⟨w.heap.size + 1 + 1 + 1, 1, none⟩ f) a c d #[e, f] :=
  ⟨by rw [Below.heap_setCell _ _ _ _ (by simp; omega), Below.heap_setCell _ _ _ _ (by simp; omega)]; exact h.A, by rw [Below.heap_setCell _ _ _ _ (by simp), Below.heap_setCell _ _ _ _ (by simp)]; exact h.C,
   by rw [Below.heap_setCell _ _ _ _ (by simp), Below.heap_setCell _ _ _ _ (by simp)]; exact h.D, blk_set (blk_set h.R 0 e) 1 f, (h.B.setCell (by simp; omega) _).setCell (by simp; omega) _⟩
/-- The answer as plain data. -/
def iv : Option Int → Int × Bool
  | some y => (y, true)
  | none => (0, false)
def AnsPost (r : Option Int) (W : World) (e : Ending) (w' : World) : Prop := e = .returned (.tuple #[.agg #[.int .i64 (iv r).1, .int .i64 0], .bool (iv r).2]) ∧ Below W.heap.size W w'
theorem answer_nv (r : Option Int) (w : World) (h : ∀ y, r = some y → Dom y ∧ -62135596800 < y) : Calls Try.prog 33 #[nv r] w (AnsPost r w) := by
  cases r with
  | none => exact (answer_no w).mono fun _ _ h => h
  | some y => exact (answer_yes y w (h y rfl).1 (h y rfl).2).mono fun _ _ h => h
theorem nil_ahead (q : Nat) (w : World) : (nilAhead 287 109 (.pointer (some ⟨q, 0, none⟩)) "Next").run Try.prog w = .ok (some false) w := by kernel_rfl
theorem method_next (q : Nat) (w : World) : (method 287 109 (.pointer (some ⟨q, 0, none⟩)) "Next").run Try.prog w = .ok (116, .pointer (some ⟨q, 0, none⟩)) w := by kernel_rfl
theorem dom_r {b : SB} {x : Int} {r : Option Int} (h : IsNext b.sch (x + 1) (lastY x) r) (hx : -62135596800 ≤ x ∧ x ≤ 253402300799) : ∀ y, r = some y → Dom y ∧ -62135596800 < y := by
  intro y e
  subst e
  have := lastY_bd x hx.1 hx.2
  have h1 := h.1
  exact ⟨dom_of (a0 := x + 1) (by omega) h.1 h.2.2.1 (by unfold lastY; omega), by omega⟩
/-- The answer of Next: by the least second that fits. -/
def NextPost (b : SB) (x : Int) (W : World) (e : Ending) (w' : World) : Prop := ∃ r, IsNext b.sch (x + 1) (lastY x) r ∧ e = .returned (.tuple #[.agg #[.int .i64 (iv r).1, .int .i64 0], .bool (iv r).2]) ∧ Below W.heap.size W w'
set_option maxHeartbeats 4000000 in
set_option maxRecDepth 100000 in
theorem implNext_any (b : SB) (dl x n : Int) (w : World) (hw : Wf b) (h0 : 0 ≤ n) (h1 : n < 1000000000) (x0 : -62135596800 ≤ x) (x1 : x ≤ 253402300799) :
    Calls Try.prog 13 #[.agg #[.bool false, .int .i64 dl, .int .u64 (b.s : Int), .int .u64 (b.i : Int), .int .u64 (b.h : Int), .int .u64 (b.d : Int), .int .u64 (b.m : Int), .int .u64 (b.w : Int)], .agg #[.int .i64 x, .int .i64 n], .agg #[.slice none 0 0, .slice none 0 0, .slice none 0 0, .slice none 0 0]] w (NextPost b x w) := by
  have HW := Aside0.mk hw
  have HN := Aside0.mk (And.intro h0 h1)
  have HB0 := Aside0.mk (And.intro x0 x1)
  have HX := Aside0.mk (show Dom x from ⟨x0, by omega⟩)
  have hI := Aside0.mk (im_start w #[.bool false, .int .i64 dl, .int .u64 (b.s : Int), .int .u64 (b.i : Int), .int .u64 (b.h : Int), .int .u64 (b.d : Int), .int .u64 (b.m : Int), .int .u64 (b.w : Int)] #[.int .i64 x, .int .i64 n] #[.slice none 0 0, .slice none 0 0, .slice none 0 0, .slice none 0 0] #[.int .i64 0, .int .i64 0]).drew
  clear hw x0 x1
  go_enter Try.func13, Try.ntmps13
  go_wp2_with fail
  refine start_ (n := 15) (S := fun w' => w'.cell? ⟨w.heap.size, 0, none⟩ = some (.bool false) ∧ w'.cell? ⟨w.heap.size, 1, none⟩ = some (.int .i64 dl) ∧ w'.cell? ⟨w.heap.size, 2, none⟩ = some (.int .u64 (b.s : Int)) ∧ w'.cell? ⟨w.heap.size, 3, none⟩ = some (.int .u64 (b.i : Int)) ∧ w'.cell? ⟨w.heap.size, 4, none⟩ = some (.int .u64 (b.h : Int)) ∧ w'.cell? ⟨w.heap.size, 5, none⟩ = some (.int .u64 (b.d : Int)) ∧ w'.cell? ⟨w.heap.size, 6, none⟩ = some (.int .u64 (b.m : Int)) ∧ w'.cell? ⟨w.heap.size, 7, none⟩ = some (.int .u64 (b.w : Int)) ∧ w'.cell? ⟨w.heap.size + 1, 0, none⟩ = some (.int .i64 x) ∧ w'.cell? ⟨w.heap.size + 1, 1, none⟩ = some (.int .i64 n) ∧ w'.cell? ⟨w.heap.size + 1 + 1, 0, none⟩ = some (.slice none 0 0) ∧ w'.cell? ⟨w.heap.size + 1 + 1, 1, none⟩ = some (.slice none 0 0) ∧ w'.cell? ⟨w.heap.size + 1 + 1, 2, none⟩ = some (.slice none 0 0) ∧ w'.cell? ⟨w.heap.size + 1 + 1, 3, none⟩ = some (.slice none 0 0)) (ds := [13, 14]) #[false, false, false, false, false, false, false, false, false, false, false, false, false, false, false] (by kernel_rfl) rfl rfl ⟨(blk_cell hI.out.A 0).trans rfl, (blk_cell hI.out.A 1).trans rfl, (blk_cell hI.out.A 2).trans rfl, (blk_cell hI.out.A 3).trans rfl, (blk_cell hI.out.A 4).trans rfl, (blk_cell hI.out.A 5).trans rfl, (blk_cell hI.out.A 6).trans rfl, (blk_cell hI.out.A 7).trans rfl, (blk_cell hI.out.C 0).trans rfl, (blk_cell hI.out.C 1).trans rfl, (blk_cell hI.out.D 0).trans rfl, (blk_cell hI.out.D 1).trans rfl, (blk_cell hI.out.D 2).trans rfl, (blk_cell hI.out.D 3).trans rfl⟩ (fun hHeld => ?_)
  refine take_ (i := 0) (N := some 8) (v := ?_) (a' := ?_) #[true, false, false, false, false, false, false, false, false, false, false, false, false, false, false] rfl rfl (by kernel_rfl) (fun _ _ _ h => h) (Or.inl ⟨by rfl, ?_⟩) hHeld ?_ ?_
  rotate_left
  · rintro w' ⟨s0, s1, s2, s3, s4, s5, s6, s7, s8, s9, s10, s11, s12, s13⟩
    go_simp
    with_reducible rfl
  rotate_left
  · simp only [Act.put, List.setIfInBounds_toArray, List.set_cons_zero, List.set_cons_succ, i64_w, i32_w]
    rfl
  refine take_ (i := 2) (N := some 10) (v := ?_) (a' := ?_) #[true, false, true, false, false, false, false, false, false, false, false, false, false, false, false] rfl rfl (by kernel_rfl) (fun _ _ _ h => h) (Or.inl ⟨by rfl, ?_⟩) hHeld ?_ ?_
  rotate_left
  · rintro w' ⟨s0, s1, s2, s3, s4, s5, s6, s7, s8, s9, s10, s11, s12, s13⟩
    go_simp
    with_reducible rfl
  rotate_left
  · simp only [Act.put, List.setIfInBounds_toArray, List.set_cons_zero, List.set_cons_succ, i64_w, i32_w]
    rfl
  refine take_ (i := 3) (N := some 11) (v := ?_) (a' := ?_) #[true, false, true, true, false, false, false, false, false, false, false, false, false, false, false] rfl rfl (by kernel_rfl) (fun _ _ _ h => h) (Or.inl ⟨by rfl, ?_⟩) hHeld ?_ ?_
  rotate_left
  · rintro w' ⟨s0, s1, s2, s3, s4, s5, s6, s7, s8, s9, s10, s11, s12, s13⟩
    go_simp
    with_reducible rfl
  rotate_left
  · simp only [Act.put, List.setIfInBounds_toArray, List.set_cons_zero, List.set_cons_succ, i64_w, i32_w]
    rfl
  refine one_ (i := 1) (N := some 9) #[true, true, true, true, false, false, false, false, false, false, false, false, false, false, false] rfl rfl (by kernel_rfl) (by decide) (fun K hK => ?_)
  refine goes_ Try.func34 (by kernel_rfl) rfl #[.agg #[.bool false, .int .i64 dl, .int .u64 (b.s : Int), .int .u64 (b.i : Int), .int .u64 (b.h : Int), .int .u64 (b.d : Int), .int .u64 (b.m : Int), .int .u64 (b.w : Int)], .pointer none] (by rfl) rfl rfl (by (try simp only [List.map_toArray, List.map_cons, List.map_nil]); first | done | rfl) ?_
  refine (schedule_any b dl _).mono ?_
  rintro e w1 ⟨q, rfl, hs, hb⟩
  refine ⟨_, rfl, ?_⟩
  have HS := Aside0.mk hs
  clear hs
  have hI2 := Aside0.mk (hI.out.below hb)
  clear hI hb
  have hI := hI2
  clear hI2
  refine hK.out _ _ ⟨(blk_cell hI.out.A 0).trans rfl, (blk_cell hI.out.A 1).trans rfl, (blk_cell hI.out.A 2).trans rfl, (blk_cell hI.out.A 3).trans rfl, (blk_cell hI.out.A 4).trans rfl, (blk_cell hI.out.A 5).trans rfl, (blk_cell hI.out.A 6).trans rfl, (blk_cell hI.out.A 7).trans rfl, (blk_cell hI.out.C 0).trans rfl, (blk_cell hI.out.C 1).trans rfl, (blk_cell hI.out.D 0).trans rfl, (blk_cell hI.out.D 1).trans rfl, (blk_cell hI.out.D 2).trans rfl, (blk_cell hI.out.D 3).trans rfl⟩ (fun hHeld => ?_)
  clear hK K
  refine norm_ (a' := ?_) ?_ ?_
  rotate_left
  · show Act.put _ (some 9) _ = _
    simp only [Act.put, List.setIfInBounds_toArray, List.set_cons_zero, List.set_cons_succ, i64_w, i32_w]
    rfl
  refine pure_ (i := 6) (N := some 14) (v := ?_) (a' := ?_) #[true, true, true, true, false, false, true, false, false, false, false, false, false, false, false] rfl rfl (by kernel_rfl) (fun _ _ _ h => h) (Or.inl ⟨by rfl, ?_⟩) ?_ ?_
  rotate_left
  · intro w'
    go_simp
    with_reducible rfl
  rotate_left
  · simp only [Act.put, List.setIfInBounds_toArray, List.set_cons_zero, List.set_cons_succ, i64_w, i32_w]
    rfl
  refine pure_ (i := 7) (N := some 15) (v := ?_) (a' := ?_) #[true, true, true, true, false, false, true, true, false, false, false, false, false, false, false] rfl rfl (by kernel_rfl) (fun _ _ _ h => h) (Or.inl ⟨by rfl, ?_⟩) ?_ ?_
  rotate_left
  · intro w'
    have hn := nil_ahead q w'
    go_simp
    with_reducible rfl
  rotate_left
  · simp only [Act.put, List.setIfInBounds_toArray, List.set_cons_zero, List.set_cons_succ, i64_w, i32_w]
    rfl
  refine pure_ (i := 8) (N := some 16) (v := ?_) (a' := ?_) #[true, true, true, true, false, false, true, true, true, false, false, false, false, false, false] rfl rfl (by kernel_rfl) (fun _ _ _ h => h) (Or.inl ⟨by rfl, ?_⟩) ?_ ?_
  rotate_left
  · intro w'
    go_simp
    with_reducible rfl
  rotate_left
  · simp only [Act.put, List.setIfInBounds_toArray, List.set_cons_zero, List.set_cons_succ, i64_w, i32_w]
    rfl
  refine one_ (i := 4) (N := some 12) #[true, true, true, true, true, false, true, true, true, false, false, false, false, false, false] rfl rfl (by kernel_rfl) (by decide) (fun K hK => ?_)
  refine goes_ Try.func36 (by kernel_rfl) rfl #[.agg #[.slice none 0 0, .slice none 0 0, .slice none 0 0, .slice none 0 0]] (by rfl) rfl rfl (by (try simp only [List.map_toArray, List.map_cons, List.map_nil]); first | done | rfl) ?_
  refine (locate_any _).mono ?_
  rintro e w4 ⟨l, rfl, hu, hb⟩
  refine ⟨_, rfl, ?_⟩
  have HS := Aside0.mk (SAt.below HS.out hb)
  have HU := Aside0.mk hu.1
  clear hu
  have hI2 := Aside0.mk (hI.out.below hb)
  clear hI hb
  have hI := hI2
  clear hI2
  refine hK.out _ _ ⟨(blk_cell hI.out.A 0).trans rfl, (blk_cell hI.out.A 1).trans rfl, (blk_cell hI.out.A 2).trans rfl, (blk_cell hI.out.A 3).trans rfl, (blk_cell hI.out.A 4).trans rfl, (blk_cell hI.out.A 5).trans rfl, (blk_cell hI.out.A 6).trans rfl, (blk_cell hI.out.A 7).trans rfl, (blk_cell hI.out.C 0).trans rfl, (blk_cell hI.out.C 1).trans rfl, (blk_cell hI.out.D 0).trans rfl, (blk_cell hI.out.D 1).trans rfl, (blk_cell hI.out.D 2).trans rfl, (blk_cell hI.out.D 3).trans rfl⟩ (fun hHeld => ?_)
  clear hK K
  refine norm_ (a' := ?_) ?_ ?_
  rotate_left
  · show Act.put _ (some 12) _ = _
    simp only [Act.put, List.setIfInBounds_toArray, List.set_cons_zero, List.set_cons_succ, i64_w, i32_w]
    rfl
  refine one_ (i := 5) (N := some 13) #[true, true, true, true, true, true, true, true, true, false, false, false, false, false, false] rfl rfl (by kernel_rfl) (by decide) (fun K hK => ?_)
  refine goes_ Try.func35 (by kernel_rfl) rfl #[.agg #[.int .i64 x, .int .i64 n], .pointer (some ⟨l, 0, none⟩)] (by rfl) rfl rfl (by (try simp only [List.map_toArray, List.map_cons, List.map_nil]); first | done | rfl) ?_
  refine (moment_any x n l _ HN.out.1 HN.out.2 HX.out HU.out.utc).mono ?_
  rintro e w5 ⟨rfl, hb⟩
  refine ⟨_, rfl, ?_⟩
  have HS := Aside0.mk (SAt.below HS.out hb)
  have hI2 := Aside0.mk (hI.out.below hb)
  clear hI hb
  have hI := hI2
  clear hI2
  refine hK.out _ _ ⟨(blk_cell hI.out.A 0).trans rfl, (blk_cell hI.out.A 1).trans rfl, (blk_cell hI.out.A 2).trans rfl, (blk_cell hI.out.A 3).trans rfl, (blk_cell hI.out.A 4).trans rfl, (blk_cell hI.out.A 5).trans rfl, (blk_cell hI.out.A 6).trans rfl, (blk_cell hI.out.A 7).trans rfl, (blk_cell hI.out.C 0).trans rfl, (blk_cell hI.out.C 1).trans rfl, (blk_cell hI.out.D 0).trans rfl, (blk_cell hI.out.D 1).trans rfl, (blk_cell hI.out.D 2).trans rfl, (blk_cell hI.out.D 3).trans rfl⟩ (fun hHeld => ?_)
  clear hK K
  refine norm_ (a' := ?_) ?_ ?_
  rotate_left
  · show Act.put _ (some 13) _ = _
    simp only [Act.put, List.setIfInBounds_toArray, List.set_cons_zero, List.set_cons_succ, i64_w, i32_w]
    rfl
  refine one_ (i := 9) (N := some 17) #[true, true, true, true, true, true, true, true, true, true, false, false, false, false, false] rfl rfl (by kernel_rfl) (by decide) (fun K hK => ?_)
  refine call_ 116 #[.pointer (some ⟨q, 0, none⟩), .agg #[.int .u64 n, .int .i64 (sec x), .pointer none]] (by rfl) rfl ?_ ?_
  · have hm := method_next q
    go_simp
  refine (next_any q b n x _ HN.out.1 HN.out.2 HS.out HW.out HB0.out.1 HB0.out.2).mono ?_
  rintro e w9 ⟨⟨r, hr, rfl⟩, hb⟩
  have HR := Aside0.mk hr
  clear hr
  refine ⟨_, rfl, ?_⟩
  have hI2 := Aside0.mk (hI.out.below hb)
  clear hI hb
  have hI := hI2
  clear hI2
  refine hK.out _ _ ⟨(blk_cell hI.out.A 0).trans rfl, (blk_cell hI.out.A 1).trans rfl, (blk_cell hI.out.A 2).trans rfl, (blk_cell hI.out.A 3).trans rfl, (blk_cell hI.out.A 4).trans rfl, (blk_cell hI.out.A 5).trans rfl, (blk_cell hI.out.A 6).trans rfl, (blk_cell hI.out.A 7).trans rfl, (blk_cell hI.out.C 0).trans rfl, (blk_cell hI.out.C 1).trans rfl, (blk_cell hI.out.D 0).trans rfl, (blk_cell hI.out.D 1).trans rfl, (blk_cell hI.out.D 2).trans rfl, (blk_cell hI.out.D 3).trans rfl⟩ (fun hHeld => ?_)
  clear hK K
  refine norm_ (a' := ?_) ?_ ?_
  rotate_left
  · show Act.put _ (some 17) _ = _
    simp only [Act.put, List.setIfInBounds_toArray, List.set_cons_zero, List.set_cons_succ, i64_w, i32_w]
    rfl
  refine one_ (i := 10) (N := some 18) #[true, true, true, true, true, true, true, true, true, true, true, false, false, false, false] rfl rfl (by kernel_rfl) (by decide) (fun K hK => ?_)
  refine goes_ Try.func33 (by kernel_rfl) rfl #[nv r] (by rfl) rfl rfl (by (try simp only [List.map_toArray, List.map_cons, List.map_nil]); first | done | rfl) ?_
  refine (answer_nv r _ (dom_r HR.out HB0.out)).mono ?_
  rintro e w10 ⟨rfl, hb⟩
  refine ⟨_, rfl, ?_⟩
  have hI2 := Aside0.mk (hI.out.below hb)
  clear hI hb
  have hI := hI2
  clear hI2
  refine hK.out _ _ ⟨(blk_cell hI.out.A 0).trans rfl, (blk_cell hI.out.A 1).trans rfl, (blk_cell hI.out.A 2).trans rfl, (blk_cell hI.out.A 3).trans rfl, (blk_cell hI.out.A 4).trans rfl, (blk_cell hI.out.A 5).trans rfl, (blk_cell hI.out.A 6).trans rfl, (blk_cell hI.out.A 7).trans rfl, (blk_cell hI.out.C 0).trans rfl, (blk_cell hI.out.C 1).trans rfl, (blk_cell hI.out.D 0).trans rfl, (blk_cell hI.out.D 1).trans rfl, (blk_cell hI.out.D 2).trans rfl, (blk_cell hI.out.D 3).trans rfl⟩ (fun hHeld => ?_)
  clear hK K
  refine norm_ (a' := ?_) ?_ ?_
  rotate_left
  · show Act.put _ (some 18) _ = _
    simp only [Act.put, List.setIfInBounds_toArray, List.set_cons_zero, List.set_cons_succ, i64_w, i32_w]
    rfl
  refine pure_ (i := 11) (N := some 19) (v := ?_) (a' := ?_) #[true, true, true, true, true, true, true, true, true, true, true, true, false, false, false] rfl rfl (by kernel_rfl) (fun _ _ _ h => h) (Or.inl ⟨by rfl, ?_⟩) ?_ ?_
  rotate_left
  · intro w'
    go_simp
    with_reducible rfl
  rotate_left
  · simp only [Act.put, List.setIfInBounds_toArray, List.set_cons_zero, List.set_cons_succ, i64_w, i32_w]
    rfl
  refine pure_ (i := 12) (N := some 20) (v := ?_) (a' := ?_) #[true, true, true, true, true, true, true, true, true, true, true, true, true, false, false] rfl rfl (by kernel_rfl) (fun _ _ _ h => h) (Or.inl ⟨by rfl, ?_⟩) ?_ ?_
  rotate_left
  · intro w'
    go_simp
    with_reducible rfl
  rotate_left
  · simp only [Act.put, List.setIfInBounds_toArray, List.set_cons_zero, List.set_cons_succ, i64_w, i32_w]
    rfl
  have rc0 := (blk_cell hI.out.R 0).trans (show _ = some _ from rfl)
  have rf0 := blk_frozen hI.out.R 0
  have rc1 := (blk_cell hI.out.R 1).trans (show _ = some _ from rfl)
  have rf1 := blk_frozen hI.out.R 1
  refine last_ (i := 13) (N := none) #[true, true, true, true, true, true, true, true, true, true, true, true, true, true, false] rfl rfl (by kernel_rfl) (by decide) (fun K hK => ?_)
  refine skip_ (w1 := ?_) (by rfl) rfl ?_ ?_
  rotate_left
  · go_simp
    rfl
  have hI2 := Aside0.mk (hI.out.set2 (.int .i64 (iv r).1) (.int .i64 0))
  refine hK.out _ _ ?_
  clear hK K rc0 rc1 rf0 rf1 hI hHeld
  have hI := hI2
  clear hI2
  refine last_ (i := 14) (N := some 7) #[true, true, true, true, true, true, true, true, true, true, true, true, true, true, true] rfl rfl (by kernel_rfl) (by decide) (fun K hK => ?_)
  refine value_ (by rfl) rfl (v := .bool (iv r).2) (by go_simp; rfl) ?_
  refine hK.out _ _ ?_
  clear hK K
  refine done_ (by kernel_rfl) ?_
  go_wp2_with fail
  generalize hg : World.setCell _ _ (.int .i64 0) = w7 at hI ⊢
  have r0 : w7.cell? ⟨w.heap.size + 1 + 1 + 1, 0, none⟩ = some (.int .i64 (iv r).1) := (blk_cell hI.out.R 0).trans rfl
  have r1 : w7.cell? ⟨w.heap.size + 1 + 1 + 1, 1, none⟩ = some (.int .i64 0) := (blk_cell hI.out.R 1).trans rfl
  exact bodyPost_ret (v := .tuple #[.agg #[.int .i64 (iv r).1, .int .i64 0], .bool (iv r).2]) (by simp [results, Try.results13, go_sem, r0, r1]) rfl ⟨r, HR.out, rfl, hI.out.B⟩
end Go.Proofs.Ytlgdaegaahnkbaa.Tm
