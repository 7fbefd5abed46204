/- The reference's Next over UTC, by hand: CronNext, and whether there is none: cronNone; a schedule with another field: cronWith (printed by gen_sm.py). -/
import Derived.Test.YtlgdaegaahnkbaaSpecL
import Derived.Test.YtlgdaegaahnkbaaImplN
namespace Go.Proofs.Ytlgdaegaahnkbaa.Tm
open Go Go.RowKit Cal MC
open Go.Proofs.YtlgdaegaahnkbaaW.PrintWords Go.Proofs.YtlgdaegaahnkbaaW.PrintLast Go.Proofs.YtlgdaegaahnkbaaW.PrintMore
set_option linter.unusedVariables false
set_option linter.unusedSimpArgs false
theorem least_of {p : Nat → Prop} : ∀ n, p n → ∃ m, p m ∧ ∀ k, k < m → ¬ p k := by
  intro n
  induction n using Nat.strongRecOn with
  | _ n ih =>
    intro h
    by_cases c : ∃ k, k < n ∧ p k
    · obtain ⟨k, hk, hp⟩ := c
      exact ih k hk hp
    · exact ⟨n, h, fun k hk hp => c ⟨k, hk, hp⟩⟩
theorem isNext_some (s : Sch) (a last : Int) : ∃ r, IsNext s a last r := by
  by_cases c : ∃ y, a ≤ y ∧ yr (y / 86400) ≤ last ∧ fit s y
  · obtain ⟨y, h1, h2, h3⟩ := c
    obtain ⟨m, hm, hn⟩ := least_of (p := fun k => yr ((a + (k : Int)) / 86400) ≤ last ∧ fit s (a + (k : Int))) (y - a).toNat (by
      rw [show a + ((y - a).toNat : Int) = y by omega]
      exact ⟨h2, h3⟩)
    refine ⟨some (a + (m : Int)), by omega, hm.2, hm.1, fun z hz1 hz2 hf => ?_⟩
    refine hn (z - a).toNat (by omega) ?_
    rw [show a + ((z - a).toNat : Int) = z by omega]
    exact ⟨Int.le_trans (yr_mono (by omega)) hm.1, hf⟩
  · exact ⟨none, fun y h1 h2 h3 => c ⟨y, h1, h2, h3⟩⟩
/-- The least second behind x that fits, if there is one in time. -/
noncomputable def NX (b : SB) (x : Int) : Option Int := nx b.sch (x + 1) (lastY x)
theorem nx_is (b : SB) (x : Int) : IsNext b.sch (x + 1) (lastY x) (NX b x) := by
  obtain ⟨r, hr⟩ := isNext_some b.sch (x + 1) (lastY x)
  unfold NX
  rw [nx_eq hr]
  exact hr
/-- Its second, and whether there is one. -/
noncomputable def nS (b : SB) (x : Int) : Int := (iv (NX b x)).1
noncomputable def nF (b : SB) (x : Int) : Bool := (iv (NX b x)).2
theorem next_nx {b : SB} {x : Int} {W w' : World} {e : Ending} (h : NextPost b x W e w') : e = .returned (.tuple #[.agg #[.int .i64 (nS b x), .int .i64 0], .bool (nF b x)]) ∧ Below W.heap.size W w' := by
  obtain ⟨r, hr, he, hb⟩ := h
  have : NX b x = r := nx_eq hr
  unfold nS nF
  rw [this]
  exact ⟨he, hb⟩
theorem field80 (a b c : Int) (w : World) : (Instr.field 80 (.agg #[.int .i64 a, .int .i64 b, .int .i64 c]) 0).run Try.prog w = .ok (.int .i64 a) w := by kernel_rfl
theorem size40 : (Try.prog.info? 40).map (·.size) = some 4 := by kernel_rfl
theorem size26 : (Try.prog.info? 26).map (·.size) = some 2 := by kernel_rfl
theorem size24 : (Try.prog.info? 24).map (·.size) = some 8 := by kernel_rfl
theorem sz2 (a b c d : Value) : (#[a, b] : Array Value).size = (#[c, d] : Array Value).size := rfl
theorem one2 (a b : Int) : (#[Value.int .i64 a, Value.int .i64 b]).all (·.oneCell') = true := by simp [Value.oneCell']
theorem local_next {b : SB} {x v : Int} (h : IsLocal b.sch (x + 1) 4611686018427387904 (lastY x) v true) : IsNext b.sch (x + 1) (lastY x) (some v) := by
  obtain ⟨h1, h2, h3, h4, h5⟩ := h.1 rfl
  exact ⟨h1, h3, h4, h5⟩
theorem local_none {b : SB} {x v : Int} (hx : lastY x ≤ 10300) (h : IsLocal b.sch (x + 1) 4611686018427387904 (lastY x) v false) : IsNext b.sch (x + 1) (lastY x) none := fun y h1 h2 hf => by
  have := dom_day hx h2
  exact h.2 rfl y h1 (by omega) h2 hf
set_option maxHeartbeats 4000000 in
set_option maxRecDepth 100000 in
theorem specNext_any (b : SB) (x nn : Int) (w : World) (x0 : -62135596800 ≤ x) (x1 : x ≤ 253402300799) :
    Calls Try.prog 37 #[.agg (fv b), .agg #[.int .i64 x, .int .i64 nn], .agg #[.slice none 0 0, .slice none 0 0, .slice none 0 0, .slice none 0 0]] w (NextPost b x w) := by
  have size32v : Aside0 ((Try.prog.info? 32).map (·.size) = some (fv b).size) := ⟨by unfold fv; rw [arrB_size]; exact size32⟩
  have HX := Aside0.mk (And.intro x0 x1)
  have HY := Aside0.mk (lastY_bd x x0 x1)
  have hI : Aside0 (Blk w [(w.heap.size + 1 + 1 + 1, #[.int .i64 0, .int .i64 0], 26), (w.heap.size + 1 + 1, #[.slice none 0 0, .slice none 0 0, .slice none 0 0, .slice none 0 0], 40), (w.heap.size + 1, #[.int .i64 x, .int .i64 nn], 26), (w.heap.size, fv b, 32)] ((((w.alloc (.cells (fv b) 32)).alloc (.cells #[.int .i64 x, .int .i64 nn] 26)).alloc (.cells #[.slice none 0 0, .slice none 0 0, .slice none 0 0, .slice none 0 0] 40)).alloc (.cells #[.int .i64 0, .int .i64 0] 26))) := ⟨by
    have := (((((Blk.nil w).alloc (fv b) 32).alloc #[.int .i64 x, .int .i64 nn] 26).alloc #[.slice none 0 0, .slice none 0 0, .slice none 0 0, .slice none 0 0] 40).alloc #[.int .i64 0, .int .i64 0] 26)
    simpa only [World.size_alloc] using this⟩
  have e1 : wrap64 (x + 1) = x + 1 := w64_in _ (by omega) (by omega)
  have e2 : wrap64 (yr ((x + 1) / 86400) + 5) = yr ((x + 1) / 86400) + 5 := w64_in _ (by have := HY.out; omega) (by have := HY.out; omega)
  have hf80 := field80
  have hu26 := Try.underlying26
  clear x0 x1
  go_enter Try.func37, Try.ntmps37
  go_wp2_with (first | (refine wpList_load_row rfl 40 (.tmp 5) rfl (w.heap.size + 1 + 1) rfl 40 _ (0, 0) _ (hI.out.get 1 rfl) Try.underlying40 rfl size40 ?_) | (refine wpList_load_row rfl 32 (.tmp 3) rfl w.heap.size rfl 32 _ (0, 0) _ (hI.out.get 3 rfl) Try.underlying32 rfl size32v.out ?_) | (go_at_call 40; (with_reducible refine (offset_any (x + 1) _).mono ?_); rintro e w2 ⟨rfl, hb⟩; have hI2 := Aside0.mk (hI.out.below hb); clear hI hb; have hI := hI2; clear hI2) | (go_at_call 41; (with_reducible refine (floorDay_c (x + 1) _ (by have := HX.out; omega) (by have := HX.out; omega)).mono ?_); rintro e w3 ⟨rfl, hb⟩; have hI2 := Aside0.mk (hI.out.below hb); clear hI hb; have hI := hI2; clear hI2) | (go_at_call 42; (with_reducible refine (dateOf_c ((x + 1) / 86400) _ (by have := HX.out; omega) (by have := HX.out; omega)).mono ?_); rintro e w4 ⟨rfl, hb⟩; have hI2 := Aside0.mk (hI.out.below hb); clear hI hb; have hI := hI2; clear hI2) | (go_at_call 65; (with_reducible refine (change_any (x + 1) _).mono ?_); rintro e w5 ⟨rfl, hb⟩; have hI2 := Aside0.mk (hI.out.below hb); clear hI hb; have hI := hI2; clear hI2) | (go_at_call 66; (with_reducible refine (local_any b (x + 1) 4611686018427387904 (yr ((x + 1) / 86400) + 5) _ (by have := HX.out; omega) (by have := HX.out; omega) (by decide) (by decide) (by have := HY.out; omega) (by have := HY.out; omega)).mono ?_); rintro e w6 ⟨v, f, hl, rfl, hb⟩; have HL := Aside0.mk hl; clear hl; have hI2 := Aside0.mk (hI.out.below hb); clear hI hb; have hI := hI2; clear hI2))
  refine wp_loop_rounds 1 ?_
  rw [rounds_succ]
  go_upto_region 9 with (first | (refine wpList_load_row rfl 40 (.tmp 5) rfl (w.heap.size + 1 + 1) rfl 40 _ (0, 0) _ (hI.out.get 1 rfl) Try.underlying40 rfl size40 ?_) | (refine wpList_load_row rfl 32 (.tmp 3) rfl w.heap.size rfl 32 _ (0, 0) _ (hI.out.get 3 rfl) Try.underlying32 rfl size32v.out ?_) | (go_at_call 40; (with_reducible refine (offset_any (x + 1) _).mono ?_); rintro e w2 ⟨rfl, hb⟩; have hI2 := Aside0.mk (hI.out.below hb); clear hI hb; have hI := hI2; clear hI2) | (go_at_call 41; (with_reducible refine (floorDay_c (x + 1) _ (by have := HX.out; omega) (by have := HX.out; omega)).mono ?_); rintro e w3 ⟨rfl, hb⟩; have hI2 := Aside0.mk (hI.out.below hb); clear hI hb; have hI := hI2; clear hI2) | (go_at_call 42; (with_reducible refine (dateOf_c ((x + 1) / 86400) _ (by have := HX.out; omega) (by have := HX.out; omega)).mono ?_); rintro e w4 ⟨rfl, hb⟩; have hI2 := Aside0.mk (hI.out.below hb); clear hI hb; have hI := hI2; clear hI2) | (go_at_call 65; (with_reducible refine (change_any (x + 1) _).mono ?_); rintro e w5 ⟨rfl, hb⟩; have hI2 := Aside0.mk (hI.out.below hb); clear hI hb; have hI := hI2; clear hI2) | (go_at_call 66; (with_reducible refine (local_any b (x + 1) 4611686018427387904 (yr ((x + 1) / 86400) + 5) _ (by have := HX.out; omega) (by have := HX.out; omega) (by decide) (by decide) (by have := HY.out; omega) (by have := HY.out; omega)).mono ?_); rintro e w6 ⟨v, f, hl, rfl, hb⟩; have HL := Aside0.mk hl; clear hl; have hI2 := Aside0.mk (hI.out.below hb); clear hI hb; have hI := hI2; clear hI2))
  cases f
  · go_wp2_with (refine wpList_store_row rfl 26 (.tmp 6) (.tmp 70) rfl (w.heap.size + 1 + 1 + 1) #[.int .i64 0, .int .i64 0] rfl rfl 26 _ (hI.out.get 0 rfl) size26 (sz2 _ _ _ _) (one2 _ _) ?_)
    have hI2 := Aside0.mk (hI.out.row #[.int .i64 0, .int .i64 0])
    generalize hg : World.setRow _ _ _ = w7 at hI2 ⊢
    have r0 : w7.cell? ⟨w.heap.size + 1 + 1 + 1, 0, none⟩ = some (.int .i64 0) := (hI2.out.cell 0 rfl 0).trans rfl
    have r1 : w7.cell? ⟨w.heap.size + 1 + 1 + 1, 1, none⟩ = some (.int .i64 0) := (hI2.out.cell 0 rfl 1).trans rfl
    exact bodyPost_ret (v := .tuple #[.agg #[.int .i64 0, .int .i64 0], .bool false]) (by simp [results, Try.results37, go_sem, r0, r1]) rfl ⟨none, local_none (by have := HY.out; unfold lastY; omega) HL.out, rfl, hI2.out.B⟩
  · have hv := HL.out.1 rfl
    have e3 : wrap64 v = v := w64_in _ (by have := HX.out; omega) (by omega)
    clear hv
    go_wp2_with (refine wpList_store_row rfl 26 (.tmp 6) (.tmp 55) rfl (w.heap.size + 1 + 1 + 1) #[.int .i64 v, .int .i64 0] rfl rfl 26 _ (hI.out.get 0 rfl) size26 (sz2 _ _ _ _) (one2 _ _) ?_)
    have hI2 := Aside0.mk (hI.out.row #[.int .i64 v, .int .i64 0])
    generalize hg : World.setRow _ _ _ = w7 at hI2 ⊢
    have r0 : w7.cell? ⟨w.heap.size + 1 + 1 + 1, 0, none⟩ = some (.int .i64 v) := (hI2.out.cell 0 rfl 0).trans rfl
    have r1 : w7.cell? ⟨w.heap.size + 1 + 1 + 1, 1, none⟩ = some (.int .i64 0) := (hI2.out.cell 0 rfl 1).trans rfl
    exact bodyPost_ret (v := .tuple #[.agg #[.int .i64 v, .int .i64 0], .bool true]) (by simp [results, Try.results37, go_sem, r0, r1]) rfl ⟨some v, local_next HL.out, rfl, hI2.out.B⟩
end Go.Proofs.Ytlgdaegaahnkbaa.Tm
