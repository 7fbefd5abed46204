/- FnCronAlike: two schedules alike or apart, the walk (printed by gen_aj.py). -/
import Derived.Test.YtlgdaegaahnkbaaAliI
namespace Go.Proofs.Ytlgdaegaahnkbaa.Tm
open Go Go.RowKit Cal MC
open Go.Proofs.YtlgdaegaahnkbaaW.PrintWords Go.Proofs.YtlgdaegaahnkbaaW.PrintLast Go.Proofs.YtlgdaegaahnkbaaW.PrintMore
set_option linter.unusedVariables false
set_option linter.unusedSimpArgs false
theorem pB {α β : Type} (f : α → β) (l : List α) : l.toArray.map f = (l.map f).toArray := List.map_toArray
theorem pC {α β : Type} (f : α → β) (a : α) (l : List α) : (a :: l).map f = f a :: l.map f := List.map_cons
theorem pD {α β : Type} (f : α → β) : [].map f = [] := List.map_nil
theorem alloc32 (ev : Operand → Value) (o : Oper) (ho : o.op = .alloc 32) (w : World) : (execOp ev o).run Try.prog w = .ok (.value (.pointer (some ⟨w.heap.size, 0, none⟩))) (w.alloc (.cells (fv zB) 32)) := by
 have zz : ∀ w, (zeroValue 32).run Try.prog w = .ok (.agg (fv zB)) w := by rw [fv_zero]; exact (zero_of_info zero32).1
 unfold execOp
 simp only [ho]
 go_simp
theorem region_split2 {P : Program} {id : Nat} {ops : Array Oper} {dr : Bool} {Q : Exit → Act → World → Prop} {a : Act} {w : World} (ns : Nat → Nat → List (Tmp × Value)) (F : Nat → Nat → World → Prop)
  (h1 : (Code.region id ops dr).wp P (Only fun a' w' => ∃ g h, a' = putAll a (ns g h) ∧ F g h w') a w) (h2 : ∀ g h w', F g h w' → Q .normal (putAll a (ns g h)) w') : (Code.region id ops dr).wp P Q a w :=
 Code.wp_mono (fun e a' w' h => by
  obtain ⟨rfl, g, h, rfl, hf⟩ := h
  exact h2 g h w' hf) h1
theorem whole_c (y : Int) (w : World) : Calls Try.prog 19 #[.int .i64 y] w fun e w' => e = .returned (.agg #[.int .i64 y, .int .i64 0]) ∧ Below w.heap.size w w' := laws_cronWhole.calls y y 0 w rfl
theorem good_c (y : Int) (r : Bool) (w : World) (h : spec_CronGood.f y 0 = some r) : Calls Try.prog 23 #[.agg #[.int .i64 y, .int .i64 0]] w fun e w' => e = .returned (.bool r) ∧ Below w.heap.size w w' := (spec_CronGood.calls y 0 r w h).mono fun _ _ ⟨he, hd⟩ => ⟨he, hd⟩
theorem field46 (a b c d e f g h : Int) (w : World) : (Instr.field 46 (.agg #[.int .i64 a, .int .i64 b, .int .i64 c, .int .i64 d, .int .i64 e, .int .i64 f, .int .i64 g, .int .i64 h]) 0).run Try.prog w = .ok (.int .i64 a) w := by kernel_rfl
theorem good_yes {y : Int} (h : spec_CronGood.f y 0 = some true) : -62135596800 ≤ y ∧ y ≤ 253402300799 := by
 unfold spec_CronGood.f at h
 by_cases c : -62135596800 ≤ y
 ·
  rw [if_pos c] at h
  by_cases d : y ≤ 253402300799
  ·
   exact ⟨c, d⟩
  ·
   rw [if_neg d] at h
   exact absurd h (by decide)
 ·
  rw [if_neg c] at h
  exact absurd h (by decide)
theorem good_any (y : Int) : ∃ q, spec_CronGood.f y 0 = some q := by
 unfold spec_CronGood.f
 split
 ·
  split
  ·
   exact ⟨_, rfl⟩
  ·
   exact ⟨_, rfl⟩
 ·
  exact ⟨_, rfl⟩
theorem at_bool (b : SB) (x : Int) : (nF b (x - 1) && (nS b (x - 1) == x)) = fB b x := by
 rw [Bool.eq_iff_iff, ← nx_at, Bool.and_eq_true, beq_iff_eq]
set_option maxHeartbeats 8000000 in
set_option maxRecDepth 100000 in
theorem alike_bad (ea eb : Bool) (dla dlb x nn : Int) (a b : SB) (w : World) (hc : laws_cronCase.f ea dla a.s a.i a.h a.d a.m a.w x nn = some false) :
  Calls Try.prog 8 #[.agg #[.bool ea, .int .i64 dla, .int .u64 (a.s : Int), .int .u64 (a.i : Int), .int .u64 (a.h : Int), .int .u64 (a.d : Int), .int .u64 (a.m : Int), .int .u64 (a.w : Int)], .agg #[.bool eb, .int .i64 dlb, .int .u64 (b.s : Int), .int .u64 (b.i : Int), .int .u64 (b.h : Int), .int .u64 (b.d : Int), .int .u64 (b.m : Int), .int .u64 (b.w : Int)], .agg #[.int .i64 x, .int .i64 nn]] w fun e w' => e = .returned (.bool true) ∧ Below w.heap.size w w' := by
 have HC := Aside0.mk hc
 have hI : Aside0 (Blk w [(w.heap.size + 1 + 1, #[.int .i64 x, .int .i64 nn], 26), (w.heap.size + 1, #[.bool eb, .int .i64 dlb, .int .u64 (b.s : Int), .int .u64 (b.i : Int), .int .u64 (b.h : Int), .int .u64 (b.d : Int), .int .u64 (b.m : Int), .int .u64 (b.w : Int)], 24), (w.heap.size, #[.bool ea, .int .i64 dla, .int .u64 (a.s : Int), .int .u64 (a.i : Int), .int .u64 (a.h : Int), .int .u64 (a.d : Int), .int .u64 (a.m : Int), .int .u64 (a.w : Int)], 24)] (((w.alloc (.cells #[.bool ea, .int .i64 dla, .int .u64 (a.s : Int), .int .u64 (a.i : Int), .int .u64 (a.h : Int), .int .u64 (a.d : Int), .int .u64 (a.m : Int), .int .u64 (a.w : Int)] 24)).alloc (.cells #[.bool eb, .int .i64 dlb, .int .u64 (b.s : Int), .int .u64 (b.i : Int), .int .u64 (b.h : Int), .int .u64 (b.d : Int), .int .u64 (b.m : Int), .int .u64 (b.w : Int)] 24)).alloc (.cells #[.int .i64 x, .int .i64 nn] 26))) := ⟨by
  have := ((((Blk.nil w).alloc #[.bool ea, .int .i64 dla, .int .u64 (a.s : Int), .int .u64 (a.i : Int), .int .u64 (a.h : Int), .int .u64 (a.d : Int), .int .u64 (a.m : Int), .int .u64 (a.w : Int)] 24).alloc #[.bool eb, .int .i64 dlb, .int .u64 (b.s : Int), .int .u64 (b.i : Int), .int .u64 (b.h : Int), .int .u64 (b.d : Int), .int .u64 (b.m : Int), .int .u64 (b.w : Int)] 24).alloc #[.int .i64 x, .int .i64 nn] 26)
  simpa only [World.size_alloc] using this⟩
 clear hc
 go_enter Try.func8, Try.ntmps8
 go_wp2_with (first | ((with_reducible refine wpList_isCons ?_); refine wpList_load_row rfl 24 (.tmp 3) rfl (w.heap.size) rfl 24 _ (0, 0) _ (hI.out.get 2 rfl) Try.underlying24 rfl size24 ?_) | ((with_reducible refine wpList_isCons ?_); refine wpList_load_row rfl 26 (.tmp 5) rfl (w.heap.size + 1 + 1) rfl 26 _ (0, 0) _ (hI.out.get 0 rfl) Try.underlying26 rfl size26 ?_) | (go_at_call 11; (with_reducible refine (laws_cronCase.calls _ _ _ _ _ _ _ _ _ _ _ _ HC.out).mono ?_); rintro e wa1 ⟨rfl, hb⟩; have hI2 := Aside0.mk (hI.out.below hb); clear hI hb; have hI := hI2; clear hI2; (have ce : wa1.cell? ⟨w.heap.size + 1, 0, none⟩ = some (.bool eb) := hI.out.cell 1 rfl 0)))
 go_ret
 exact ⟨rfl, hI.out.B⟩
set_option maxHeartbeats 8000000 in
set_option maxRecDepth 100000 in
theorem alike_every  (dla dlb x nn : Int) (a b : SB) (w : World) (hc : laws_cronCase.f false dla a.s a.i a.h a.d a.m a.w x nn = some true) :
  Calls Try.prog 8 #[.agg #[.bool false, .int .i64 dla, .int .u64 (a.s : Int), .int .u64 (a.i : Int), .int .u64 (a.h : Int), .int .u64 (a.d : Int), .int .u64 (a.m : Int), .int .u64 (a.w : Int)], .agg #[.bool true, .int .i64 dlb, .int .u64 (b.s : Int), .int .u64 (b.i : Int), .int .u64 (b.h : Int), .int .u64 (b.d : Int), .int .u64 (b.m : Int), .int .u64 (b.w : Int)], .agg #[.int .i64 x, .int .i64 nn]] w fun e w' => e = .returned (.bool true) ∧ Below w.heap.size w w' := by
 have HC := Aside0.mk hc
 have hI : Aside0 (Blk w [(w.heap.size + 1 + 1, #[.int .i64 x, .int .i64 nn], 26), (w.heap.size + 1, #[.bool true, .int .i64 dlb, .int .u64 (b.s : Int), .int .u64 (b.i : Int), .int .u64 (b.h : Int), .int .u64 (b.d : Int), .int .u64 (b.m : Int), .int .u64 (b.w : Int)], 24), (w.heap.size, #[.bool false, .int .i64 dla, .int .u64 (a.s : Int), .int .u64 (a.i : Int), .int .u64 (a.h : Int), .int .u64 (a.d : Int), .int .u64 (a.m : Int), .int .u64 (a.w : Int)], 24)] (((w.alloc (.cells #[.bool false, .int .i64 dla, .int .u64 (a.s : Int), .int .u64 (a.i : Int), .int .u64 (a.h : Int), .int .u64 (a.d : Int), .int .u64 (a.m : Int), .int .u64 (a.w : Int)] 24)).alloc (.cells #[.bool true, .int .i64 dlb, .int .u64 (b.s : Int), .int .u64 (b.i : Int), .int .u64 (b.h : Int), .int .u64 (b.d : Int), .int .u64 (b.m : Int), .int .u64 (b.w : Int)] 24)).alloc (.cells #[.int .i64 x, .int .i64 nn] 26))) := ⟨by
  have := ((((Blk.nil w).alloc #[.bool false, .int .i64 dla, .int .u64 (a.s : Int), .int .u64 (a.i : Int), .int .u64 (a.h : Int), .int .u64 (a.d : Int), .int .u64 (a.m : Int), .int .u64 (a.w : Int)] 24).alloc #[.bool true, .int .i64 dlb, .int .u64 (b.s : Int), .int .u64 (b.i : Int), .int .u64 (b.h : Int), .int .u64 (b.d : Int), .int .u64 (b.m : Int), .int .u64 (b.w : Int)] 24).alloc #[.int .i64 x, .int .i64 nn] 26)
  simpa only [World.size_alloc] using this⟩
 clear hc
 go_enter Try.func8, Try.ntmps8
 go_wp2_with (first | ((with_reducible refine wpList_isCons ?_); refine wpList_load_row rfl 24 (.tmp 3) rfl (w.heap.size) rfl 24 _ (0, 0) _ (hI.out.get 2 rfl) Try.underlying24 rfl size24 ?_) | ((with_reducible refine wpList_isCons ?_); refine wpList_load_row rfl 26 (.tmp 5) rfl (w.heap.size + 1 + 1) rfl 26 _ (0, 0) _ (hI.out.get 0 rfl) Try.underlying26 rfl size26 ?_) | (go_at_call 11; (with_reducible refine (laws_cronCase.calls _ _ _ _ _ _ _ _ _ _ _ _ HC.out).mono ?_); rintro e wa1 ⟨rfl, hb⟩; have hI2 := Aside0.mk (hI.out.below hb); clear hI hb; have hI := hI2; clear hI2; (have ce : wa1.cell? ⟨w.heap.size + 1, 0, none⟩ = some (.bool true) := hI.out.cell 1 rfl 0)))
 go_ret
 exact ⟨rfl, hI.out.B⟩
set_option maxHeartbeats 8000000 in
set_option maxRecDepth 100000 in
theorem alike_main (dla dlb x nn : Int) (a b : SB) (w : World) (hwa : Wf a) (hwb : Wf b) (x0 : -62135596800 ≤ x) (x1 : x ≤ 253402300799) (n0 : 0 ≤ nn) (n1 : nn < 1000000000) (hc : laws_cronCase.f false dla a.s a.i a.h a.d a.m a.w x nn = some true) :
  Calls Try.prog 8 #[.agg #[.bool false, .int .i64 dla, .int .u64 (a.s : Int), .int .u64 (a.i : Int), .int .u64 (a.h : Int), .int .u64 (a.d : Int), .int .u64 (a.m : Int), .int .u64 (a.w : Int)], .agg #[.bool false, .int .i64 dlb, .int .u64 (b.s : Int), .int .u64 (b.i : Int), .int .u64 (b.h : Int), .int .u64 (b.d : Int), .int .u64 (b.m : Int), .int .u64 (b.w : Int)], .agg #[.int .i64 x, .int .i64 nn]] w fun e w' => e = .returned (.bool true) ∧ Below w.heap.size w w' := by
 have HC := Aside0.mk hc
 have hI : Aside0 (Blk w [(w.heap.size + 1 + 1, #[.int .i64 x, .int .i64 nn], 26), (w.heap.size + 1, #[.bool false, .int .i64 dlb, .int .u64 (b.s : Int), .int .u64 (b.i : Int), .int .u64 (b.h : Int), .int .u64 (b.d : Int), .int .u64 (b.m : Int), .int .u64 (b.w : Int)], 24), (w.heap.size, #[.bool false, .int .i64 dla, .int .u64 (a.s : Int), .int .u64 (a.i : Int), .int .u64 (a.h : Int), .int .u64 (a.d : Int), .int .u64 (a.m : Int), .int .u64 (a.w : Int)], 24)] (((w.alloc (.cells #[.bool false, .int .i64 dla, .int .u64 (a.s : Int), .int .u64 (a.i : Int), .int .u64 (a.h : Int), .int .u64 (a.d : Int), .int .u64 (a.m : Int), .int .u64 (a.w : Int)] 24)).alloc (.cells #[.bool false, .int .i64 dlb, .int .u64 (b.s : Int), .int .u64 (b.i : Int), .int .u64 (b.h : Int), .int .u64 (b.d : Int), .int .u64 (b.m : Int), .int .u64 (b.w : Int)] 24)).alloc (.cells #[.int .i64 x, .int .i64 nn] 26))) := ⟨by
  have := ((((Blk.nil w).alloc #[.bool false, .int .i64 dla, .int .u64 (a.s : Int), .int .u64 (a.i : Int), .int .u64 (a.h : Int), .int .u64 (a.d : Int), .int .u64 (a.m : Int), .int .u64 (a.w : Int)] 24).alloc #[.bool false, .int .i64 dlb, .int .u64 (b.s : Int), .int .u64 (b.i : Int), .int .u64 (b.h : Int), .int .u64 (b.d : Int), .int .u64 (b.m : Int), .int .u64 (b.w : Int)] 24).alloc #[.int .i64 x, .int .i64 nn] 26)
  simpa only [World.size_alloc] using this⟩
 have HWA := Aside0.mk hwa
 have HWB := Aside0.mk hwb
 have HX := Aside0.mk (And.intro x0 (And.intro x1 (And.intro n0 n1)))
 have szf : Aside0 (∀ c : SB, (Try.prog.info? 32).map (·.size) = some (fv c).size) := ⟨fun c => by unfold fv; rw [arrB_size]; exact size32⟩
 have szq : Aside0 (∀ c d : SB, (fv c).size = (fv d).size) := ⟨fun c d => by unfold fv; rw [arrB_size, arrB_size]⟩
 have size32v : Aside0 (∀ c : SB, (Try.prog.info? 32).map (·.size) = some (fv c).size) := szf
 obtain ⟨Y, hY⟩ : ∃ Y : Int, Y = yr (x / 86400) + 1 := ⟨_, rfl⟩
 have hy0 := (yr_bd (n := x / 86400) (by omega) (by omega)).1
 have hy1 : yr (x / 86400) ≤ 9999 := yr_le.2 (by rw [show ys (9999 + 1) = 2932897 by decide]; omega)
 have HAP : Aside0 (∀ w', Calls Try.prog 26 #[.agg (fv a), .agg (fv b), .int .i64 Y] w' (ApPost a b w')) := ⟨fun w' => apart_any a b Y w' (by omega) (by omega)⟩
 obtain ⟨cv, hcv⟩ : ∃ c : Array Value, c = #[.int .i64 (yr (x / 86400)), .int .i64 (mo (x / 86400)), .int .i64 (dy (x / 86400)), .int .i64 ((x % 86400) / 3600), .int .i64 ((x % 86400) % 3600 / 60), .int .i64 ((x % 86400) % 60), .int .i64 nn, .int .i64 (wd (x / 86400))] := ⟨_, rfl⟩
 have HCV : Aside0 (∀ w', Calls Try.prog 18 #[.agg #[.int .i64 x, .int .i64 nn], .agg #[.slice none 0 0, .slice none 0 0, .slice none 0 0, .slice none 0 0]] w' fun e w'' => e = .returned (.agg cv) ∧ Below w'.heap.size w' w'') := ⟨fun w' => by rw [hcv]; exact civil_c x nn w' x0 (by omega)⟩
 obtain ⟨YY, hYY⟩ : ∃ y : Int, y = yr (x / 86400) := ⟨_, rfl⟩
 have hf1 : ∀ w, (Instr.field 46 (.agg cv) 0).run Try.prog w = .ok (.int .i64 YY) w := fun w => by rw [hcv, hYY]; exact field46 _ _ _ _ _ _ _ _ w
 have wy : IntKind.i64.wrap (YY + 1) = Y := by rw [i64_w, hY, ← hYY]; exact w64_in _ (by omega) (by omega)
 clear hcv hy0 hy1 hY hYY
 clear hc hwa hwb x0 x1 n0 n1
 go_enter Try.func8, Try.ntmps8
 go_wp2_with (first | ((with_reducible refine wpList_isCons ?_); refine wpList_load_row rfl 24 (.tmp 3) rfl (w.heap.size) rfl 24 _ (0, 0) _ (hI.out.get 2 rfl) Try.underlying24 rfl size24 ?_) | ((with_reducible refine wpList_isCons ?_); refine wpList_load_row rfl 26 (.tmp 5) rfl (w.heap.size + 1 + 1) rfl 26 _ (0, 0) _ (hI.out.get 0 rfl) Try.underlying26 rfl size26 ?_) | (go_at_call 11; (with_reducible refine (laws_cronCase.calls _ _ _ _ _ _ _ _ _ _ _ _ HC.out).mono ?_); rintro e wa1 ⟨rfl, hb⟩; have hI2 := Aside0.mk (hI.out.below hb); clear hI hb; have hI := hI2; clear hI2; (have ce : wa1.cell? ⟨w.heap.size + 1, 0, none⟩ = some (.bool false) := hI.out.cell 1 rfl 0)))
 clear ce
 refine region_split2 (fun g7 g8 => [(28, .agg #[.bool false, .int .i64 dla, .int .u64 (a.s : Int), .int .u64 (a.i : Int), .int .u64 (a.h : Int), .int .u64 (a.d : Int), .int .u64 (a.m : Int), .int .u64 (a.w : Int)]), (29, .agg (fv a)), (30, .agg #[.bool false, .int .i64 dlb, .int .u64 (b.s : Int), .int .u64 (b.i : Int), .int .u64 (b.h : Int), .int .u64 (b.d : Int), .int .u64 (b.m : Int), .int .u64 (b.w : Int)]), (31, .agg (fv b)), (7, .pointer (some ⟨g7, 0, none⟩)), (8, .pointer (some ⟨g8, 0, none⟩))]) (fun g7 g8 w' => Blk w ((g8, fv b, 32) :: (g7, fv a, 32) :: [(w.heap.size + 1 + 1, #[.int .i64 x, .int .i64 nn], 26), (w.heap.size + 1, #[.bool false, .int .i64 dlb, .int .u64 (b.s : Int), .int .u64 (b.i : Int), .int .u64 (b.h : Int), .int .u64 (b.d : Int), .int .u64 (b.m : Int), .int .u64 (b.w : Int)], 24), (w.heap.size, #[.bool false, .int .i64 dla, .int .u64 (a.s : Int), .int .u64 (a.i : Int), .int .u64 (a.h : Int), .int .u64 (a.d : Int), .int .u64 (a.m : Int), .int .u64 (a.w : Int)], 24)]) w') ?_ ?_
 ·
  refine start_ (n := 8) (S := Blk w [(w.heap.size + 1 + 1, #[.int .i64 x, .int .i64 nn], 26), (w.heap.size + 1, #[.bool false, .int .i64 dlb, .int .u64 (b.s : Int), .int .u64 (b.i : Int), .int .u64 (b.h : Int), .int .u64 (b.d : Int), .int .u64 (b.m : Int), .int .u64 (b.w : Int)], 24), (w.heap.size, #[.bool false, .int .i64 dla, .int .u64 (a.s : Int), .int .u64 (a.i : Int), .int .u64 (a.h : Int), .int .u64 (a.d : Int), .int .u64 (a.m : Int), .int .u64 (a.w : Int)], 24)]) (ds := []) #[F, F, F, F, F, F, F, F] (by kernel_rfl) rfl rfl (hI.out.drew) (fun hHeld => ?_)
  have hI2 := Aside0.mk hI.out.drew
  clear hI
  have hI := hI2
  clear hI2
  generalize hwd : World.drew _ = wdr at hI hHeld ⊢
  clear hwd
  refine take_ (i := 0) (N := (some 28)) (v := ?_) (a' := ?_) #[V, F, F, F, F, F, F, F] rfl rfl (by kernel_rfl) (fun _ _ _ => only_shut) (Or.inl ⟨by rfl, ?_⟩) hHeld ?_ ?_
  rotate_left
  ·
   intro w' hS
   refine exec_load_row 24 (.tmp 3) ?_ (w.heap.size) ?_ 24 _ _ (hS.get 2 rfl) Try.underlying24 rfl size24
   ·
    rfl
   ·
    rfl
  rotate_left
  ·
   simp only [Act.put, pA, pZ, pS, i64_w, i32_w]; rfl
  refine take_ (i := 2) (N := (some 30)) (v := ?_) (a' := ?_) #[V, F, V, F, F, F, F, F] rfl rfl (by kernel_rfl) (fun _ _ _ => only_shut) (Or.inl ⟨by rfl, ?_⟩) hHeld ?_ ?_
  rotate_left
  ·
   intro w' hS
   refine exec_load_row 24 (.tmp 4) ?_ (w.heap.size + 1) ?_ 24 _ _ (hS.get 1 rfl) Try.underlying24 rfl size24
   ·
    rfl
   ·
    rfl
  rotate_left
  ·
   simp only [Act.put, pA, pZ, pS, i64_w, i32_w]; rfl
  refine three_ (i := 1) (j := 4) (k := 5) (Ni := (some 29)) (Nj := (some 7)) (Nk := (some 8)) #[V, V, V, F, F, F, F, F] #[V, F, V, F, V, F, F, F] #[V, F, V, F, F, V, F, F] rfl rfl rfl rfl rfl rfl (by kernel_rfl) (by decide) (by decide) (by decide) (fun K hK => ?_) (fun K hK => ?_) (fun K hK => ?_)
  ·
   refine goes_ Try.func12 (by kernel_rfl) rfl #[.agg #[.bool false, .int .i64 dla, .int .u64 (a.s : Int), .int .u64 (a.i : Int), .int .u64 (a.h : Int), .int .u64 (a.d : Int), .int .u64 (a.m : Int), .int .u64 (a.w : Int)]] (by rfl) rfl rfl (by (try simp only [pB, pC, pD]); first | done | rfl) ?_
   refine (fieldsOf_any a dla _ HWA.out).mono ?_
   rintro e wc1 ⟨rfl, hb⟩
   refine ⟨_, rfl, ?_⟩
   have hI2 := Aside0.mk (hI.out.below hb); clear hI hb; have hI := hI2; clear hI2
   refine hK.out _ _ (hI.out) (fun hHeld => ?_)
   clear hK K; refine norm_ (a' := ?_) ?_ ?_; rotate_left
   ·
    show Act.put _ (some 29) _ = _; simp only [Act.put, pA, pZ, pS, i64_w, i32_w]; rfl
   refine three_ (i := 3) (j := 4) (k := 5) (Ni := (some 31)) (Nj := (some 7)) (Nk := (some 8)) #[V, V, V, V, F, F, F, F] #[V, V, V, F, V, F, F, F] #[V, V, V, F, F, V, F, F] rfl rfl rfl rfl rfl rfl (by kernel_rfl) (by decide) (by decide) (by decide) (fun K hK => ?_) (fun K hK => ?_) (fun K hK => ?_)
   ·
    refine goes_ Try.func12 (by kernel_rfl) rfl #[.agg #[.bool false, .int .i64 dlb, .int .u64 (b.s : Int), .int .u64 (b.i : Int), .int .u64 (b.h : Int), .int .u64 (b.d : Int), .int .u64 (b.m : Int), .int .u64 (b.w : Int)]] (by rfl) rfl rfl (by (try simp only [pB, pC, pD]); first | done | rfl) ?_
    refine (fieldsOf_any b dlb _ HWB.out).mono ?_
    rintro e wc2 ⟨rfl, hb⟩
    refine ⟨_, rfl, ?_⟩
    have hI2 := Aside0.mk (hI.out.below hb); clear hI hb; have hI := hI2; clear hI2
    refine hK.out _ _ (hI.out) (fun hHeld => ?_)
    clear hK K; refine norm_ (a' := ?_) ?_ ?_; rotate_left
    ·
     show Act.put _ (some 31) _ = _; simp only [Act.put, pA, pZ, pS, i64_w, i32_w]; rfl
    refine two_ (i := 4) (j := 5) (Ni := (some 7)) (Nj := (some 8)) #[V, V, V, V, V, F, F, F] #[V, V, V, V, F, V, F, F] rfl rfl rfl rfl (by kernel_rfl) (by decide) (by decide) (fun K hK => ?_) (fun K hK => ?_)
    ·
     refine value_ (by rfl) rfl (alloc32 _ _ rfl _) ?_
     have hI2 := Aside0.mk (hI.out.alloc (fv zB) 32)
     clear hI
     have hI := hI2
     clear hI2
     generalize hga : World.alloc _ _ = wc3 at hI ⊢
     clear hga
     generalize hgb : wc2.heap.size = g7 at hI ⊢
     clear hgb
     refine hK.out _ _ (hI.out.tail) (fun hHeld => ?_)
     clear hK K; refine norm_ (a' := ?_) ?_ ?_; rotate_left
     ·
      show Act.put _ (some 7) _ = _; simp only [Act.put, pA, pZ, pS, i64_w, i32_w]; rfl
     refine one_ (i := 5) (N := (some 8)) #[V, V, V, V, V, V, F, F] rfl rfl (by kernel_rfl) (by decide) (fun K hK => ?_)
     refine value_ (by rfl) rfl (alloc32 _ _ rfl _) ?_
     have hI2 := Aside0.mk (hI.out.alloc (fv zB) 32)
     clear hI
     have hI := hI2
     clear hI2
     generalize hga : World.alloc _ _ = wc4 at hI ⊢
     clear hga
     generalize hgb : wc3.heap.size = g8 at hI ⊢
     clear hgb
     refine hK.out _ _ (hI.out.tail.tail) (fun hHeld => ?_)
     clear hK K; refine norm_ (a' := ?_) ?_ ?_; rotate_left
     ·
      show Act.put _ (some 8) _ = _; simp only [Act.put, pA, pZ, pS, i64_w, i32_w]; rfl
     have hI2 := Aside0.mk (hI.out.swap)
     clear hI
     have hI := hI2
     clear hI2
     refine one_ (i := 6) (N := none) #[V, V, V, V, V, V, V, F] rfl rfl (by kernel_rfl) (by decide) (fun K hK => ?_)
     refine skip_ (by rfl) rfl (exec_store_row 32 (.tmp 7) (.tmp 29) rfl g7 (fv a) rfl rfl 32 _ (hI.out.get 0 rfl) (szf.out _) (szq.out _ _) (arrB_one _ _)) ?_
     have hI2 := Aside0.mk (hI.out.row (fv a))
     clear hI
     have hI := hI2
     clear hI2
     generalize hgs : World.setRow _ _ _ = ws6 at hI ⊢
     clear hgs
     refine hK.out _ _ (hI.out.tail.tail) (fun hHeld => ?_)
     clear hK K
     have hI2 := Aside0.mk (hI.out.swap)
     clear hI
     have hI := hI2
     clear hI2
     refine one_ (i := 7) (N := none) #[V, V, V, V, V, V, V, V] rfl rfl (by kernel_rfl) (by decide) (fun K hK => ?_)
     refine skip_ (by rfl) rfl (exec_store_row 32 (.tmp 8) (.tmp 31) rfl g8 (fv b) rfl rfl 32 _ (hI.out.get 0 rfl) (szf.out _) (szq.out _ _) (arrB_one _ _)) ?_
     have hI2 := Aside0.mk (hI.out.row (fv b))
     clear hI
     have hI := hI2
     clear hI2
     generalize hgs : World.setRow _ _ _ = ws7 at hI ⊢
     clear hgs
     refine hK.out _ _ (hI.out.tail.tail) (fun hHeld => ?_)
     clear hK K
     refine done_ (by kernel_rfl) ?_
     refine ⟨rfl, g7, g8, ?_, hI.out⟩
     simp only [putAll, Act.put, pA, pZ, pS]
    ·
     refine value_ (by rfl) rfl (alloc32 _ _ rfl _) ?_
     have hI2 := Aside0.mk (hI.out.alloc (fv zB) 32)
     clear hI
     have hI := hI2
     clear hI2
     generalize hga : World.alloc _ _ = wc5 at hI ⊢
     clear hga
     generalize hgb : wc2.heap.size = g8 at hI ⊢
     clear hgb
     refine hK.out _ _ (hI.out.tail) (fun hHeld => ?_)
     clear hK K; refine norm_ (a' := ?_) ?_ ?_; rotate_left
     ·
      show Act.put _ (some 8) _ = _; simp only [Act.put, pA, pZ, pS, i64_w, i32_w]; rfl
     refine one_ (i := 4) (N := (some 7)) #[V, V, V, V, V, V, F, F] rfl rfl (by kernel_rfl) (by decide) (fun K hK => ?_)
     refine value_ (by rfl) rfl (alloc32 _ _ rfl _) ?_
     have hI2 := Aside0.mk (hI.out.alloc (fv zB) 32)
     clear hI
     have hI := hI2
     clear hI2
     generalize hga : World.alloc _ _ = wc6 at hI ⊢
     clear hga
     generalize hgb : wc5.heap.size = g7 at hI ⊢
     clear hgb
     refine hK.out _ _ (hI.out.tail.tail) (fun hHeld => ?_)
     clear hK K; refine norm_ (a' := ?_) ?_ ?_; rotate_left
     ·
      show Act.put _ (some 7) _ = _; simp only [Act.put, pA, pZ, pS, i64_w, i32_w]; rfl
     refine one_ (i := 6) (N := none) #[V, V, V, V, V, V, V, F] rfl rfl (by kernel_rfl) (by decide) (fun K hK => ?_)
     refine skip_ (by rfl) rfl (exec_store_row 32 (.tmp 7) (.tmp 29) rfl g7 (fv a) rfl rfl 32 _ (hI.out.get 0 rfl) (szf.out _) (szq.out _ _) (arrB_one _ _)) ?_
     have hI2 := Aside0.mk (hI.out.row (fv a))
     clear hI
     have hI := hI2
     clear hI2
     generalize hgs : World.setRow _ _ _ = ws6 at hI ⊢
     clear hgs
     refine hK.out _ _ (hI.out.tail.tail) (fun hHeld => ?_)
     clear hK K
     have hI2 := Aside0.mk (hI.out.swap)
     clear hI
     have hI := hI2
     clear hI2
     refine one_ (i := 7) (N := none) #[V, V, V, V, V, V, V, V] rfl rfl (by kernel_rfl) (by decide) (fun K hK => ?_)
     refine skip_ (by rfl) rfl (exec_store_row 32 (.tmp 8) (.tmp 31) rfl g8 (fv b) rfl rfl 32 _ (hI.out.get 0 rfl) (szf.out _) (szq.out _ _) (arrB_one _ _)) ?_
     have hI2 := Aside0.mk (hI.out.row (fv b))
     clear hI
     have hI := hI2
     clear hI2
     generalize hgs : World.setRow _ _ _ = ws7 at hI ⊢
     clear hgs
     refine hK.out _ _ (hI.out.tail.tail) (fun hHeld => ?_)
     clear hK K
     refine done_ (by kernel_rfl) ?_
     refine ⟨rfl, g7, g8, ?_, hI.out⟩
     simp only [putAll, Act.put, pA, pZ, pS]
   ·
    refine value_ (by rfl) rfl (alloc32 _ _ rfl _) ?_
    have hI2 := Aside0.mk (hI.out.alloc (fv zB) 32)
    clear hI
    have hI := hI2
    clear hI2
    generalize hga : World.alloc _ _ = wc7 at hI ⊢
    clear hga
    generalize hgb : wc1.heap.size = g7 at hI ⊢
    clear hgb
    refine hK.out _ _ (hI.out.tail) (fun hHeld => ?_)
    clear hK K; refine norm_ (a' := ?_) ?_ ?_; rotate_left
    ·
     show Act.put _ (some 7) _ = _; simp only [Act.put, pA, pZ, pS, i64_w, i32_w]; rfl
    refine two_ (i := 3) (j := 5) (Ni := (some 31)) (Nj := (some 8)) #[V, V, V, V, V, F, F, F] #[V, V, V, F, V, V, F, F] rfl rfl rfl rfl (by kernel_rfl) (by decide) (by decide) (fun K hK => ?_) (fun K hK => ?_)
    ·
     refine goes_ Try.func12 (by kernel_rfl) rfl #[.agg #[.bool false, .int .i64 dlb, .int .u64 (b.s : Int), .int .u64 (b.i : Int), .int .u64 (b.h : Int), .int .u64 (b.d : Int), .int .u64 (b.m : Int), .int .u64 (b.w : Int)]] (by rfl) rfl rfl (by (try simp only [pB, pC, pD]); first | done | rfl) ?_
     refine (fieldsOf_any b dlb _ HWB.out).mono ?_
     rintro e wc8 ⟨rfl, hb⟩
     refine ⟨_, rfl, ?_⟩
     have hI2 := Aside0.mk (hI.out.below hb); clear hI hb; have hI := hI2; clear hI2
     refine hK.out _ _ (hI.out.tail) (fun hHeld => ?_)
     clear hK K; refine norm_ (a' := ?_) ?_ ?_; rotate_left
     ·
      show Act.put _ (some 31) _ = _; simp only [Act.put, pA, pZ, pS, i64_w, i32_w]; rfl
     refine one_ (i := 5) (N := (some 8)) #[V, V, V, V, V, V, F, F] rfl rfl (by kernel_rfl) (by decide) (fun K hK => ?_)
     refine value_ (by rfl) rfl (alloc32 _ _ rfl _) ?_
     have hI2 := Aside0.mk (hI.out.alloc (fv zB) 32)
     clear hI
     have hI := hI2
     clear hI2
     generalize hga : World.alloc _ _ = wc9 at hI ⊢
     clear hga
     generalize hgb : wc8.heap.size = g8 at hI ⊢
     clear hgb
     refine hK.out _ _ (hI.out.tail.tail) (fun hHeld => ?_)
     clear hK K; refine norm_ (a' := ?_) ?_ ?_; rotate_left
     ·
      show Act.put _ (some 8) _ = _; simp only [Act.put, pA, pZ, pS, i64_w, i32_w]; rfl
     have hI2 := Aside0.mk (hI.out.swap)
     clear hI
     have hI := hI2
     clear hI2
     refine one_ (i := 6) (N := none) #[V, V, V, V, V, V, V, F] rfl rfl (by kernel_rfl) (by decide) (fun K hK => ?_)
     refine skip_ (by rfl) rfl (exec_store_row 32 (.tmp 7) (.tmp 29) rfl g7 (fv a) rfl rfl 32 _ (hI.out.get 0 rfl) (szf.out _) (szq.out _ _) (arrB_one _ _)) ?_
     have hI2 := Aside0.mk (hI.out.row (fv a))
     clear hI
     have hI := hI2
     clear hI2
     generalize hgs : World.setRow _ _ _ = ws6 at hI ⊢
     clear hgs
     refine hK.out _ _ (hI.out.tail.tail) (fun hHeld => ?_)
     clear hK K
     have hI2 := Aside0.mk (hI.out.swap)
     clear hI
     have hI := hI2
     clear hI2
     refine one_ (i := 7) (N := none) #[V, V, V, V, V, V, V, V] rfl rfl (by kernel_rfl) (by decide) (fun K hK => ?_)
     refine skip_ (by rfl) rfl (exec_store_row 32 (.tmp 8) (.tmp 31) rfl g8 (fv b) rfl rfl 32 _ (hI.out.get 0 rfl) (szf.out _) (szq.out _ _) (arrB_one _ _)) ?_
     have hI2 := Aside0.mk (hI.out.row (fv b))
     clear hI
     have hI := hI2
     clear hI2
     generalize hgs : World.setRow _ _ _ = ws7 at hI ⊢
     clear hgs
     refine hK.out _ _ (hI.out.tail.tail) (fun hHeld => ?_)
     clear hK K
     refine done_ (by kernel_rfl) ?_
     refine ⟨rfl, g7, g8, ?_, hI.out⟩
     simp only [putAll, Act.put, pA, pZ, pS]
    ·
     refine value_ (by rfl) rfl (alloc32 _ _ rfl _) ?_
     have hI2 := Aside0.mk (hI.out.alloc (fv zB) 32)
     clear hI
     have hI := hI2
     clear hI2
     generalize hga : World.alloc _ _ = wc10 at hI ⊢
     clear hga
     generalize hgb : wc7.heap.size = g8 at hI ⊢
     clear hgb
     refine hK.out _ _ (hI.out.tail.tail) (fun hHeld => ?_)
     clear hK K; refine norm_ (a' := ?_) ?_ ?_; rotate_left
     ·
      show Act.put _ (some 8) _ = _; simp only [Act.put, pA, pZ, pS, i64_w, i32_w]; rfl
     refine one_ (i := 3) (N := (some 31)) #[V, V, V, V, V, V, F, F] rfl rfl (by kernel_rfl) (by decide) (fun K hK => ?_)
     refine goes_ Try.func12 (by kernel_rfl) rfl #[.agg #[.bool false, .int .i64 dlb, .int .u64 (b.s : Int), .int .u64 (b.i : Int), .int .u64 (b.h : Int), .int .u64 (b.d : Int), .int .u64 (b.m : Int), .int .u64 (b.w : Int)]] (by rfl) rfl rfl (by (try simp only [pB, pC, pD]); first | done | rfl) ?_
     refine (fieldsOf_any b dlb _ HWB.out).mono ?_
     rintro e wc11 ⟨rfl, hb⟩
     refine ⟨_, rfl, ?_⟩
     have hI2 := Aside0.mk (hI.out.below hb); clear hI hb; have hI := hI2; clear hI2
     refine hK.out _ _ (hI.out.tail.tail) (fun hHeld => ?_)
     clear hK K; refine norm_ (a' := ?_) ?_ ?_; rotate_left
     ·
      show Act.put _ (some 31) _ = _; simp only [Act.put, pA, pZ, pS, i64_w, i32_w]; rfl
     have hI2 := Aside0.mk (hI.out.swap)
     clear hI
     have hI := hI2
     clear hI2
     refine one_ (i := 6) (N := none) #[V, V, V, V, V, V, V, F] rfl rfl (by kernel_rfl) (by decide) (fun K hK => ?_)
     refine skip_ (by rfl) rfl (exec_store_row 32 (.tmp 7) (.tmp 29) rfl g7 (fv a) rfl rfl 32 _ (hI.out.get 0 rfl) (szf.out _) (szq.out _ _) (arrB_one _ _)) ?_
     have hI2 := Aside0.mk (hI.out.row (fv a))
     clear hI
     have hI := hI2
     clear hI2
     generalize hgs : World.setRow _ _ _ = ws6 at hI ⊢
     clear hgs
     refine hK.out _ _ (hI.out.tail.tail) (fun hHeld => ?_)
     clear hK K
     have hI2 := Aside0.mk (hI.out.swap)
     clear hI
     have hI := hI2
     clear hI2
     refine one_ (i := 7) (N := none) #[V, V, V, V, V, V, V, V] rfl rfl (by kernel_rfl) (by decide) (fun K hK => ?_)
     refine skip_ (by rfl) rfl (exec_store_row 32 (.tmp 8) (.tmp 31) rfl g8 (fv b) rfl rfl 32 _ (hI.out.get 0 rfl) (szf.out _) (szq.out _ _) (arrB_one _ _)) ?_
     have hI2 := Aside0.mk (hI.out.row (fv b))
     clear hI
     have hI := hI2
     clear hI2
     generalize hgs : World.setRow _ _ _ = ws7 at hI ⊢
     clear hgs
     refine hK.out _ _ (hI.out.tail.tail) (fun hHeld => ?_)
     clear hK K
     refine done_ (by kernel_rfl) ?_
     refine ⟨rfl, g7, g8, ?_, hI.out⟩
     simp only [putAll, Act.put, pA, pZ, pS]
   ·
    refine value_ (by rfl) rfl (alloc32 _ _ rfl _) ?_
    have hI2 := Aside0.mk (hI.out.alloc (fv zB) 32)
    clear hI
    have hI := hI2
    clear hI2
    generalize hga : World.alloc _ _ = wc12 at hI ⊢
    clear hga
    generalize hgb : wc1.heap.size = g8 at hI ⊢
    clear hgb
    refine hK.out _ _ (hI.out.tail) (fun hHeld => ?_)
    clear hK K; refine norm_ (a' := ?_) ?_ ?_; rotate_left
    ·
     show Act.put _ (some 8) _ = _; simp only [Act.put, pA, pZ, pS, i64_w, i32_w]; rfl
    refine two_ (i := 3) (j := 4) (Ni := (some 31)) (Nj := (some 7)) #[V, V, V, V, F, V, F, F] #[V, V, V, F, V, V, F, F] rfl rfl rfl rfl (by kernel_rfl) (by decide) (by decide) (fun K hK => ?_) (fun K hK => ?_)
    ·
     refine goes_ Try.func12 (by kernel_rfl) rfl #[.agg #[.bool false, .int .i64 dlb, .int .u64 (b.s : Int), .int .u64 (b.i : Int), .int .u64 (b.h : Int), .int .u64 (b.d : Int), .int .u64 (b.m : Int), .int .u64 (b.w : Int)]] (by rfl) rfl rfl (by (try simp only [pB, pC, pD]); first | done | rfl) ?_
     refine (fieldsOf_any b dlb _ HWB.out).mono ?_
     rintro e wc13 ⟨rfl, hb⟩
     refine ⟨_, rfl, ?_⟩
     have hI2 := Aside0.mk (hI.out.below hb); clear hI hb; have hI := hI2; clear hI2
     refine hK.out _ _ (hI.out.tail) (fun hHeld => ?_)
     clear hK K; refine norm_ (a' := ?_) ?_ ?_; rotate_left
     ·
      show Act.put _ (some 31) _ = _; simp only [Act.put, pA, pZ, pS, i64_w, i32_w]; rfl
     refine one_ (i := 4) (N := (some 7)) #[V, V, V, V, V, V, F, F] rfl rfl (by kernel_rfl) (by decide) (fun K hK => ?_)
     refine value_ (by rfl) rfl (alloc32 _ _ rfl _) ?_
     have hI2 := Aside0.mk (hI.out.alloc (fv zB) 32)
     clear hI
     have hI := hI2
     clear hI2
     generalize hga : World.alloc _ _ = wc14 at hI ⊢
     clear hga
     generalize hgb : wc13.heap.size = g7 at hI ⊢
     clear hgb
     refine hK.out _ _ (hI.out.tail.tail) (fun hHeld => ?_)
     clear hK K; refine norm_ (a' := ?_) ?_ ?_; rotate_left
     ·
      show Act.put _ (some 7) _ = _; simp only [Act.put, pA, pZ, pS, i64_w, i32_w]; rfl
     refine one_ (i := 6) (N := none) #[V, V, V, V, V, V, V, F] rfl rfl (by kernel_rfl) (by decide) (fun K hK => ?_)
     refine skip_ (by rfl) rfl (exec_store_row 32 (.tmp 7) (.tmp 29) rfl g7 (fv a) rfl rfl 32 _ (hI.out.get 0 rfl) (szf.out _) (szq.out _ _) (arrB_one _ _)) ?_
     have hI2 := Aside0.mk (hI.out.row (fv a))
     clear hI
     have hI := hI2
     clear hI2
     generalize hgs : World.setRow _ _ _ = ws6 at hI ⊢
     clear hgs
     refine hK.out _ _ (hI.out.tail.tail) (fun hHeld => ?_)
     clear hK K
     have hI2 := Aside0.mk (hI.out.swap)
     clear hI
     have hI := hI2
     clear hI2
     refine one_ (i := 7) (N := none) #[V, V, V, V, V, V, V, V] rfl rfl (by kernel_rfl) (by decide) (fun K hK => ?_)
     refine skip_ (by rfl) rfl (exec_store_row 32 (.tmp 8) (.tmp 31) rfl g8 (fv b) rfl rfl 32 _ (hI.out.get 0 rfl) (szf.out _) (szq.out _ _) (arrB_one _ _)) ?_
     have hI2 := Aside0.mk (hI.out.row (fv b))
     clear hI
     have hI := hI2
     clear hI2
     generalize hgs : World.setRow _ _ _ = ws7 at hI ⊢
     clear hgs
     refine hK.out _ _ (hI.out.tail.tail) (fun hHeld => ?_)
     clear hK K
     refine done_ (by kernel_rfl) ?_
     refine ⟨rfl, g7, g8, ?_, hI.out⟩
     simp only [putAll, Act.put, pA, pZ, pS]
    ·
     refine value_ (by rfl) rfl (alloc32 _ _ rfl _) ?_
     have hI2 := Aside0.mk (hI.out.alloc (fv zB) 32)
     clear hI
     have hI := hI2
     clear hI2
     generalize hga : World.alloc _ _ = wc15 at hI ⊢
     clear hga
     generalize hgb : wc12.heap.size = g7 at hI ⊢
     clear hgb
     refine hK.out _ _ (hI.out.tail.tail) (fun hHeld => ?_)
     clear hK K; refine norm_ (a' := ?_) ?_ ?_; rotate_left
     ·
      show Act.put _ (some 7) _ = _; simp only [Act.put, pA, pZ, pS, i64_w, i32_w]; rfl
     refine one_ (i := 3) (N := (some 31)) #[V, V, V, V, V, V, F, F] rfl rfl (by kernel_rfl) (by decide) (fun K hK => ?_)
     refine goes_ Try.func12 (by kernel_rfl) rfl #[.agg #[.bool false, .int .i64 dlb, .int .u64 (b.s : Int), .int .u64 (b.i : Int), .int .u64 (b.h : Int), .int .u64 (b.d : Int), .int .u64 (b.m : Int), .int .u64 (b.w : Int)]] (by rfl) rfl rfl (by (try simp only [pB, pC, pD]); first | done | rfl) ?_
     refine (fieldsOf_any b dlb _ HWB.out).mono ?_
     rintro e wc16 ⟨rfl, hb⟩
     refine ⟨_, rfl, ?_⟩
     have hI2 := Aside0.mk (hI.out.below hb); clear hI hb; have hI := hI2; clear hI2
     refine hK.out _ _ (hI.out.tail.tail) (fun hHeld => ?_)
     clear hK K; refine norm_ (a' := ?_) ?_ ?_; rotate_left
     ·
      show Act.put _ (some 31) _ = _; simp only [Act.put, pA, pZ, pS, i64_w, i32_w]; rfl
     refine one_ (i := 6) (N := none) #[V, V, V, V, V, V, V, F] rfl rfl (by kernel_rfl) (by decide) (fun K hK => ?_)
     refine skip_ (by rfl) rfl (exec_store_row 32 (.tmp 7) (.tmp 29) rfl g7 (fv a) rfl rfl 32 _ (hI.out.get 0 rfl) (szf.out _) (szq.out _ _) (arrB_one _ _)) ?_
     have hI2 := Aside0.mk (hI.out.row (fv a))
     clear hI
     have hI := hI2
     clear hI2
     generalize hgs : World.setRow _ _ _ = ws6 at hI ⊢
     clear hgs
     refine hK.out _ _ (hI.out.tail.tail) (fun hHeld => ?_)
     clear hK K
     have hI2 := Aside0.mk (hI.out.swap)
     clear hI
     have hI := hI2
     clear hI2
     refine one_ (i := 7) (N := none) #[V, V, V, V, V, V, V, V] rfl rfl (by kernel_rfl) (by decide) (fun K hK => ?_)
     refine skip_ (by rfl) rfl (exec_store_row 32 (.tmp 8) (.tmp 31) rfl g8 (fv b) rfl rfl 32 _ (hI.out.get 0 rfl) (szf.out _) (szq.out _ _) (arrB_one _ _)) ?_
     have hI2 := Aside0.mk (hI.out.row (fv b))
     clear hI
     have hI := hI2
     clear hI2
     generalize hgs : World.setRow _ _ _ = ws7 at hI ⊢
     clear hgs
     refine hK.out _ _ (hI.out.tail.tail) (fun hHeld => ?_)
     clear hK K
     refine done_ (by kernel_rfl) ?_
     refine ⟨rfl, g7, g8, ?_, hI.out⟩
     simp only [putAll, Act.put, pA, pZ, pS]
  ·
   refine value_ (by rfl) rfl (alloc32 _ _ rfl _) ?_
   have hI2 := Aside0.mk (hI.out.alloc (fv zB) 32)
   clear hI
   have hI := hI2
   clear hI2
   generalize hga : World.alloc _ _ = wc17 at hI ⊢
   clear hga
   generalize hgb : wdr.heap.size = g7 at hI ⊢
   clear hgb
   refine hK.out _ _ (hI.out.tail) (fun hHeld => ?_)
   clear hK K; refine norm_ (a' := ?_) ?_ ?_; rotate_left
   ·
    show Act.put _ (some 7) _ = _; simp only [Act.put, pA, pZ, pS, i64_w, i32_w]; rfl
   refine two_ (i := 1) (j := 5) (Ni := (some 29)) (Nj := (some 8)) #[V, V, V, F, V, F, F, F] #[V, F, V, F, V, V, F, F] rfl rfl rfl rfl (by kernel_rfl) (by decide) (by decide) (fun K hK => ?_) (fun K hK => ?_)
   ·
    refine goes_ Try.func12 (by kernel_rfl) rfl #[.agg #[.bool false, .int .i64 dla, .int .u64 (a.s : Int), .int .u64 (a.i : Int), .int .u64 (a.h : Int), .int .u64 (a.d : Int), .int .u64 (a.m : Int), .int .u64 (a.w : Int)]] (by rfl) rfl rfl (by (try simp only [pB, pC, pD]); first | done | rfl) ?_
    refine (fieldsOf_any a dla _ HWA.out).mono ?_
    rintro e wc18 ⟨rfl, hb⟩
    refine ⟨_, rfl, ?_⟩
    have hI2 := Aside0.mk (hI.out.below hb); clear hI hb; have hI := hI2; clear hI2
    refine hK.out _ _ (hI.out.tail) (fun hHeld => ?_)
    clear hK K; refine norm_ (a' := ?_) ?_ ?_; rotate_left
    ·
     show Act.put _ (some 29) _ = _; simp only [Act.put, pA, pZ, pS, i64_w, i32_w]; rfl
    refine two_ (i := 3) (j := 5) (Ni := (some 31)) (Nj := (some 8)) #[V, V, V, V, V, F, F, F] #[V, V, V, F, V, V, F, F] rfl rfl rfl rfl (by kernel_rfl) (by decide) (by decide) (fun K hK => ?_) (fun K hK => ?_)
    ·
     refine goes_ Try.func12 (by kernel_rfl) rfl #[.agg #[.bool false, .int .i64 dlb, .int .u64 (b.s : Int), .int .u64 (b.i : Int), .int .u64 (b.h : Int), .int .u64 (b.d : Int), .int .u64 (b.m : Int), .int .u64 (b.w : Int)]] (by rfl) rfl rfl (by (try simp only [pB, pC, pD]); first | done | rfl) ?_
     refine (fieldsOf_any b dlb _ HWB.out).mono ?_
     rintro e wc19 ⟨rfl, hb⟩
     refine ⟨_, rfl, ?_⟩
     have hI2 := Aside0.mk (hI.out.below hb); clear hI hb; have hI := hI2; clear hI2
     refine hK.out _ _ (hI.out.tail) (fun hHeld => ?_)
     clear hK K; refine norm_ (a' := ?_) ?_ ?_; rotate_left
     ·
      show Act.put _ (some 31) _ = _; simp only [Act.put, pA, pZ, pS, i64_w, i32_w]; rfl
     refine one_ (i := 5) (N := (some 8)) #[V, V, V, V, V, V, F, F] rfl rfl (by kernel_rfl) (by decide) (fun K hK => ?_)
     refine value_ (by rfl) rfl (alloc32 _ _ rfl _) ?_
     have hI2 := Aside0.mk (hI.out.alloc (fv zB) 32)
     clear hI
     have hI := hI2
     clear hI2
     generalize hga : World.alloc _ _ = wc20 at hI ⊢
     clear hga
     generalize hgb : wc19.heap.size = g8 at hI ⊢
     clear hgb
     refine hK.out _ _ (hI.out.tail.tail) (fun hHeld => ?_)
     clear hK K; refine norm_ (a' := ?_) ?_ ?_; rotate_left
     ·
      show Act.put _ (some 8) _ = _; simp only [Act.put, pA, pZ, pS, i64_w, i32_w]; rfl
     have hI2 := Aside0.mk (hI.out.swap)
     clear hI
     have hI := hI2
     clear hI2
     refine one_ (i := 6) (N := none) #[V, V, V, V, V, V, V, F] rfl rfl (by kernel_rfl) (by decide) (fun K hK => ?_)
     refine skip_ (by rfl) rfl (exec_store_row 32 (.tmp 7) (.tmp 29) rfl g7 (fv a) rfl rfl 32 _ (hI.out.get 0 rfl) (szf.out _) (szq.out _ _) (arrB_one _ _)) ?_
     have hI2 := Aside0.mk (hI.out.row (fv a))
     clear hI
     have hI := hI2
     clear hI2
     generalize hgs : World.setRow _ _ _ = ws6 at hI ⊢
     clear hgs
     refine hK.out _ _ (hI.out.tail.tail) (fun hHeld => ?_)
     clear hK K
     have hI2 := Aside0.mk (hI.out.swap)
     clear hI
     have hI := hI2
     clear hI2
     refine one_ (i := 7) (N := none) #[V, V, V, V, V, V, V, V] rfl rfl (by kernel_rfl) (by decide) (fun K hK => ?_)
     refine skip_ (by rfl) rfl (exec_store_row 32 (.tmp 8) (.tmp 31) rfl g8 (fv b) rfl rfl 32 _ (hI.out.get 0 rfl) (szf.out _) (szq.out _ _) (arrB_one _ _)) ?_
     have hI2 := Aside0.mk (hI.out.row (fv b))
     clear hI
     have hI := hI2
     clear hI2
     generalize hgs : World.setRow _ _ _ = ws7 at hI ⊢
     clear hgs
     refine hK.out _ _ (hI.out.tail.tail) (fun hHeld => ?_)
     clear hK K
     refine done_ (by kernel_rfl) ?_
     refine ⟨rfl, g7, g8, ?_, hI.out⟩
     simp only [putAll, Act.put, pA, pZ, pS]
    ·
     refine value_ (by rfl) rfl (alloc32 _ _ rfl _) ?_
     have hI2 := Aside0.mk (hI.out.alloc (fv zB) 32)
     clear hI
     have hI := hI2
     clear hI2
     generalize hga : World.alloc _ _ = wc21 at hI ⊢
     clear hga
     generalize hgb : wc18.heap.size = g8 at hI ⊢
     clear hgb
     refine hK.out _ _ (hI.out.tail.tail) (fun hHeld => ?_)
     clear hK K; refine norm_ (a' := ?_) ?_ ?_; rotate_left
     ·
      show Act.put _ (some 8) _ = _; simp only [Act.put, pA, pZ, pS, i64_w, i32_w]; rfl
     refine one_ (i := 3) (N := (some 31)) #[V, V, V, V, V, V, F, F] rfl rfl (by kernel_rfl) (by decide) (fun K hK => ?_)
     refine goes_ Try.func12 (by kernel_rfl) rfl #[.agg #[.bool false, .int .i64 dlb, .int .u64 (b.s : Int), .int .u64 (b.i : Int), .int .u64 (b.h : Int), .int .u64 (b.d : Int), .int .u64 (b.m : Int), .int .u64 (b.w : Int)]] (by rfl) rfl rfl (by (try simp only [pB, pC, pD]); first | done | rfl) ?_
     refine (fieldsOf_any b dlb _ HWB.out).mono ?_
     rintro e wc22 ⟨rfl, hb⟩
     refine ⟨_, rfl, ?_⟩
     have hI2 := Aside0.mk (hI.out.below hb); clear hI hb; have hI := hI2; clear hI2
     refine hK.out _ _ (hI.out.tail.tail) (fun hHeld => ?_)
     clear hK K; refine norm_ (a' := ?_) ?_ ?_; rotate_left
     ·
      show Act.put _ (some 31) _ = _; simp only [Act.put, pA, pZ, pS, i64_w, i32_w]; rfl
     have hI2 := Aside0.mk (hI.out.swap)
     clear hI
     have hI := hI2
     clear hI2
     refine one_ (i := 6) (N := none) #[V, V, V, V, V, V, V, F] rfl rfl (by kernel_rfl) (by decide) (fun K hK => ?_)
     refine skip_ (by rfl) rfl (exec_store_row 32 (.tmp 7) (.tmp 29) rfl g7 (fv a) rfl rfl 32 _ (hI.out.get 0 rfl) (szf.out _) (szq.out _ _) (arrB_one _ _)) ?_
     have hI2 := Aside0.mk (hI.out.row (fv a))
     clear hI
     have hI := hI2
     clear hI2
     generalize hgs : World.setRow _ _ _ = ws6 at hI ⊢
     clear hgs
     refine hK.out _ _ (hI.out.tail.tail) (fun hHeld => ?_)
     clear hK K
     have hI2 := Aside0.mk (hI.out.swap)
     clear hI
     have hI := hI2
     clear hI2
     refine one_ (i := 7) (N := none) #[V, V, V, V, V, V, V, V] rfl rfl (by kernel_rfl) (by decide) (fun K hK => ?_)
     refine skip_ (by rfl) rfl (exec_store_row 32 (.tmp 8) (.tmp 31) rfl g8 (fv b) rfl rfl 32 _ (hI.out.get 0 rfl) (szf.out _) (szq.out _ _) (arrB_one _ _)) ?_
     have hI2 := Aside0.mk (hI.out.row (fv b))
     clear hI
     have hI := hI2
     clear hI2
     generalize hgs : World.setRow _ _ _ = ws7 at hI ⊢
     clear hgs
     refine hK.out _ _ (hI.out.tail.tail) (fun hHeld => ?_)
     clear hK K
     refine done_ (by kernel_rfl) ?_
     refine ⟨rfl, g7, g8, ?_, hI.out⟩
     simp only [putAll, Act.put, pA, pZ, pS]
   ·
    refine value_ (by rfl) rfl (alloc32 _ _ rfl _) ?_
    have hI2 := Aside0.mk (hI.out.alloc (fv zB) 32)
    clear hI
    have hI := hI2
    clear hI2
    generalize hga : World.alloc _ _ = wc23 at hI ⊢
    clear hga
    generalize hgb : wc17.heap.size = g8 at hI ⊢
    clear hgb
    refine hK.out _ _ (hI.out.tail.tail) (fun hHeld => ?_)
    clear hK K; refine norm_ (a' := ?_) ?_ ?_; rotate_left
    ·
     show Act.put _ (some 8) _ = _; simp only [Act.put, pA, pZ, pS, i64_w, i32_w]; rfl
    refine one_ (i := 1) (N := (some 29)) #[V, V, V, F, V, V, F, F] rfl rfl (by kernel_rfl) (by decide) (fun K hK => ?_)
    refine goes_ Try.func12 (by kernel_rfl) rfl #[.agg #[.bool false, .int .i64 dla, .int .u64 (a.s : Int), .int .u64 (a.i : Int), .int .u64 (a.h : Int), .int .u64 (a.d : Int), .int .u64 (a.m : Int), .int .u64 (a.w : Int)]] (by rfl) rfl rfl (by (try simp only [pB, pC, pD]); first | done | rfl) ?_
    refine (fieldsOf_any a dla _ HWA.out).mono ?_
    rintro e wc24 ⟨rfl, hb⟩
    refine ⟨_, rfl, ?_⟩
    have hI2 := Aside0.mk (hI.out.below hb); clear hI hb; have hI := hI2; clear hI2
    refine hK.out _ _ (hI.out.tail.tail) (fun hHeld => ?_)
    clear hK K; refine norm_ (a' := ?_) ?_ ?_; rotate_left
    ·
     show Act.put _ (some 29) _ = _; simp only [Act.put, pA, pZ, pS, i64_w, i32_w]; rfl
    refine one_ (i := 3) (N := (some 31)) #[V, V, V, V, V, V, F, F] rfl rfl (by kernel_rfl) (by decide) (fun K hK => ?_)
    refine goes_ Try.func12 (by kernel_rfl) rfl #[.agg #[.bool false, .int .i64 dlb, .int .u64 (b.s : Int), .int .u64 (b.i : Int), .int .u64 (b.h : Int), .int .u64 (b.d : Int), .int .u64 (b.m : Int), .int .u64 (b.w : Int)]] (by rfl) rfl rfl (by (try simp only [pB, pC, pD]); first | done | rfl) ?_
    refine (fieldsOf_any b dlb _ HWB.out).mono ?_
    rintro e wc25 ⟨rfl, hb⟩
    refine ⟨_, rfl, ?_⟩
    have hI2 := Aside0.mk (hI.out.below hb); clear hI hb; have hI := hI2; clear hI2
    refine hK.out _ _ (hI.out.tail.tail) (fun hHeld => ?_)
    clear hK K; refine norm_ (a' := ?_) ?_ ?_; rotate_left
    ·
     show Act.put _ (some 31) _ = _; simp only [Act.put, pA, pZ, pS, i64_w, i32_w]; rfl
    have hI2 := Aside0.mk (hI.out.swap)
    clear hI
    have hI := hI2
    clear hI2
    refine one_ (i := 6) (N := none) #[V, V, V, V, V, V, V, F] rfl rfl (by kernel_rfl) (by decide) (fun K hK => ?_)
    refine skip_ (by rfl) rfl (exec_store_row 32 (.tmp 7) (.tmp 29) rfl g7 (fv a) rfl rfl 32 _ (hI.out.get 0 rfl) (szf.out _) (szq.out _ _) (arrB_one _ _)) ?_
    have hI2 := Aside0.mk (hI.out.row (fv a))
    clear hI
    have hI := hI2
    clear hI2
    generalize hgs : World.setRow _ _ _ = ws6 at hI ⊢
    clear hgs
    refine hK.out _ _ (hI.out.tail.tail) (fun hHeld => ?_)
    clear hK K
    have hI2 := Aside0.mk (hI.out.swap)
    clear hI
    have hI := hI2
    clear hI2
    refine one_ (i := 7) (N := none) #[V, V, V, V, V, V, V, V] rfl rfl (by kernel_rfl) (by decide) (fun K hK => ?_)
    refine skip_ (by rfl) rfl (exec_store_row 32 (.tmp 8) (.tmp 31) rfl g8 (fv b) rfl rfl 32 _ (hI.out.get 0 rfl) (szf.out _) (szq.out _ _) (arrB_one _ _)) ?_
    have hI2 := Aside0.mk (hI.out.row (fv b))
    clear hI
    have hI := hI2
    clear hI2
    generalize hgs : World.setRow _ _ _ = ws7 at hI ⊢
    clear hgs
    refine hK.out _ _ (hI.out.tail.tail) (fun hHeld => ?_)
    clear hK K
    refine done_ (by kernel_rfl) ?_
    refine ⟨rfl, g7, g8, ?_, hI.out⟩
    simp only [putAll, Act.put, pA, pZ, pS]
  ·
   refine value_ (by rfl) rfl (alloc32 _ _ rfl _) ?_
   have hI2 := Aside0.mk (hI.out.alloc (fv zB) 32)
   clear hI
   have hI := hI2
   clear hI2
   generalize hga : World.alloc _ _ = wc26 at hI ⊢
   clear hga
   generalize hgb : wdr.heap.size = g8 at hI ⊢
   clear hgb
   refine hK.out _ _ (hI.out.tail) (fun hHeld => ?_)
   clear hK K; refine norm_ (a' := ?_) ?_ ?_; rotate_left
   ·
    show Act.put _ (some 8) _ = _; simp only [Act.put, pA, pZ, pS, i64_w, i32_w]; rfl
   refine two_ (i := 1) (j := 4) (Ni := (some 29)) (Nj := (some 7)) #[V, V, V, F, F, V, F, F] #[V, F, V, F, V, V, F, F] rfl rfl rfl rfl (by kernel_rfl) (by decide) (by decide) (fun K hK => ?_) (fun K hK => ?_)
   ·
    refine goes_ Try.func12 (by kernel_rfl) rfl #[.agg #[.bool false, .int .i64 dla, .int .u64 (a.s : Int), .int .u64 (a.i : Int), .int .u64 (a.h : Int), .int .u64 (a.d : Int), .int .u64 (a.m : Int), .int .u64 (a.w : Int)]] (by rfl) rfl rfl (by (try simp only [pB, pC, pD]); first | done | rfl) ?_
    refine (fieldsOf_any a dla _ HWA.out).mono ?_
    rintro e wc27 ⟨rfl, hb⟩
    refine ⟨_, rfl, ?_⟩
    have hI2 := Aside0.mk (hI.out.below hb); clear hI hb; have hI := hI2; clear hI2
    refine hK.out _ _ (hI.out.tail) (fun hHeld => ?_)
    clear hK K; refine norm_ (a' := ?_) ?_ ?_; rotate_left
    ·
     show Act.put _ (some 29) _ = _; simp only [Act.put, pA, pZ, pS, i64_w, i32_w]; rfl
    refine two_ (i := 3) (j := 4) (Ni := (some 31)) (Nj := (some 7)) #[V, V, V, V, F, V, F, F] #[V, V, V, F, V, V, F, F] rfl rfl rfl rfl (by kernel_rfl) (by decide) (by decide) (fun K hK => ?_) (fun K hK => ?_)
    ·
     refine goes_ Try.func12 (by kernel_rfl) rfl #[.agg #[.bool false, .int .i64 dlb, .int .u64 (b.s : Int), .int .u64 (b.i : Int), .int .u64 (b.h : Int), .int .u64 (b.d : Int), .int .u64 (b.m : Int), .int .u64 (b.w : Int)]] (by rfl) rfl rfl (by (try simp only [pB, pC, pD]); first | done | rfl) ?_
     refine (fieldsOf_any b dlb _ HWB.out).mono ?_
     rintro e wc28 ⟨rfl, hb⟩
     refine ⟨_, rfl, ?_⟩
     have hI2 := Aside0.mk (hI.out.below hb); clear hI hb; have hI := hI2; clear hI2
     refine hK.out _ _ (hI.out.tail) (fun hHeld => ?_)
     clear hK K; refine norm_ (a' := ?_) ?_ ?_; rotate_left
     ·
      show Act.put _ (some 31) _ = _; simp only [Act.put, pA, pZ, pS, i64_w, i32_w]; rfl
     refine one_ (i := 4) (N := (some 7)) #[V, V, V, V, V, V, F, F] rfl rfl (by kernel_rfl) (by decide) (fun K hK => ?_)
     refine value_ (by rfl) rfl (alloc32 _ _ rfl _) ?_
     have hI2 := Aside0.mk (hI.out.alloc (fv zB) 32)
     clear hI
     have hI := hI2
     clear hI2
     generalize hga : World.alloc _ _ = wc29 at hI ⊢
     clear hga
     generalize hgb : wc28.heap.size = g7 at hI ⊢
     clear hgb
     refine hK.out _ _ (hI.out.tail.tail) (fun hHeld => ?_)
     clear hK K; refine norm_ (a' := ?_) ?_ ?_; rotate_left
     ·
      show Act.put _ (some 7) _ = _; simp only [Act.put, pA, pZ, pS, i64_w, i32_w]; rfl
     refine one_ (i := 6) (N := none) #[V, V, V, V, V, V, V, F] rfl rfl (by kernel_rfl) (by decide) (fun K hK => ?_)
     refine skip_ (by rfl) rfl (exec_store_row 32 (.tmp 7) (.tmp 29) rfl g7 (fv a) rfl rfl 32 _ (hI.out.get 0 rfl) (szf.out _) (szq.out _ _) (arrB_one _ _)) ?_
     have hI2 := Aside0.mk (hI.out.row (fv a))
     clear hI
     have hI := hI2
     clear hI2
     generalize hgs : World.setRow _ _ _ = ws6 at hI ⊢
     clear hgs
     refine hK.out _ _ (hI.out.tail.tail) (fun hHeld => ?_)
     clear hK K
     have hI2 := Aside0.mk (hI.out.swap)
     clear hI
     have hI := hI2
     clear hI2
     refine one_ (i := 7) (N := none) #[V, V, V, V, V, V, V, V] rfl rfl (by kernel_rfl) (by decide) (fun K hK => ?_)
     refine skip_ (by rfl) rfl (exec_store_row 32 (.tmp 8) (.tmp 31) rfl g8 (fv b) rfl rfl 32 _ (hI.out.get 0 rfl) (szf.out _) (szq.out _ _) (arrB_one _ _)) ?_
     have hI2 := Aside0.mk (hI.out.row (fv b))
     clear hI
     have hI := hI2
     clear hI2
     generalize hgs : World.setRow _ _ _ = ws7 at hI ⊢
     clear hgs
     refine hK.out _ _ (hI.out.tail.tail) (fun hHeld => ?_)
     clear hK K
     refine done_ (by kernel_rfl) ?_
     refine ⟨rfl, g7, g8, ?_, hI.out⟩
     simp only [putAll, Act.put, pA, pZ, pS]
    ·
     refine value_ (by rfl) rfl (alloc32 _ _ rfl _) ?_
     have hI2 := Aside0.mk (hI.out.alloc (fv zB) 32)
     clear hI
     have hI := hI2
     clear hI2
     generalize hga : World.alloc _ _ = wc30 at hI ⊢
     clear hga
     generalize hgb : wc27.heap.size = g7 at hI ⊢
     clear hgb
     refine hK.out _ _ (hI.out.tail.tail) (fun hHeld => ?_)
     clear hK K; refine norm_ (a' := ?_) ?_ ?_; rotate_left
     ·
      show Act.put _ (some 7) _ = _; simp only [Act.put, pA, pZ, pS, i64_w, i32_w]; rfl
     refine one_ (i := 3) (N := (some 31)) #[V, V, V, V, V, V, F, F] rfl rfl (by kernel_rfl) (by decide) (fun K hK => ?_)
     refine goes_ Try.func12 (by kernel_rfl) rfl #[.agg #[.bool false, .int .i64 dlb, .int .u64 (b.s : Int), .int .u64 (b.i : Int), .int .u64 (b.h : Int), .int .u64 (b.d : Int), .int .u64 (b.m : Int), .int .u64 (b.w : Int)]] (by rfl) rfl rfl (by (try simp only [pB, pC, pD]); first | done | rfl) ?_
     refine (fieldsOf_any b dlb _ HWB.out).mono ?_
     rintro e wc31 ⟨rfl, hb⟩
     refine ⟨_, rfl, ?_⟩
     have hI2 := Aside0.mk (hI.out.below hb); clear hI hb; have hI := hI2; clear hI2
     refine hK.out _ _ (hI.out.tail.tail) (fun hHeld => ?_)
     clear hK K; refine norm_ (a' := ?_) ?_ ?_; rotate_left
     ·
      show Act.put _ (some 31) _ = _; simp only [Act.put, pA, pZ, pS, i64_w, i32_w]; rfl
     refine one_ (i := 6) (N := none) #[V, V, V, V, V, V, V, F] rfl rfl (by kernel_rfl) (by decide) (fun K hK => ?_)
     refine skip_ (by rfl) rfl (exec_store_row 32 (.tmp 7) (.tmp 29) rfl g7 (fv a) rfl rfl 32 _ (hI.out.get 0 rfl) (szf.out _) (szq.out _ _) (arrB_one _ _)) ?_
     have hI2 := Aside0.mk (hI.out.row (fv a))
     clear hI
     have hI := hI2
     clear hI2
     generalize hgs : World.setRow _ _ _ = ws6 at hI ⊢
     clear hgs
     refine hK.out _ _ (hI.out.tail.tail) (fun hHeld => ?_)
     clear hK K
     have hI2 := Aside0.mk (hI.out.swap)
     clear hI
     have hI := hI2
     clear hI2
     refine one_ (i := 7) (N := none) #[V, V, V, V, V, V, V, V] rfl rfl (by kernel_rfl) (by decide) (fun K hK => ?_)
     refine skip_ (by rfl) rfl (exec_store_row 32 (.tmp 8) (.tmp 31) rfl g8 (fv b) rfl rfl 32 _ (hI.out.get 0 rfl) (szf.out _) (szq.out _ _) (arrB_one _ _)) ?_
     have hI2 := Aside0.mk (hI.out.row (fv b))
     clear hI
     have hI := hI2
     clear hI2
     generalize hgs : World.setRow _ _ _ = ws7 at hI ⊢
     clear hgs
     refine hK.out _ _ (hI.out.tail.tail) (fun hHeld => ?_)
     clear hK K
     refine done_ (by kernel_rfl) ?_
     refine ⟨rfl, g7, g8, ?_, hI.out⟩
     simp only [putAll, Act.put, pA, pZ, pS]
   ·
    refine value_ (by rfl) rfl (alloc32 _ _ rfl _) ?_
    have hI2 := Aside0.mk (hI.out.alloc (fv zB) 32)
    clear hI
    have hI := hI2
    clear hI2
    generalize hga : World.alloc _ _ = wc32 at hI ⊢
    clear hga
    generalize hgb : wc26.heap.size = g7 at hI ⊢
    clear hgb
    refine hK.out _ _ (hI.out.tail.tail) (fun hHeld => ?_)
    clear hK K; refine norm_ (a' := ?_) ?_ ?_; rotate_left
    ·
     show Act.put _ (some 7) _ = _; simp only [Act.put, pA, pZ, pS, i64_w, i32_w]; rfl
    refine one_ (i := 1) (N := (some 29)) #[V, V, V, F, V, V, F, F] rfl rfl (by kernel_rfl) (by decide) (fun K hK => ?_)
    refine goes_ Try.func12 (by kernel_rfl) rfl #[.agg #[.bool false, .int .i64 dla, .int .u64 (a.s : Int), .int .u64 (a.i : Int), .int .u64 (a.h : Int), .int .u64 (a.d : Int), .int .u64 (a.m : Int), .int .u64 (a.w : Int)]] (by rfl) rfl rfl (by (try simp only [pB, pC, pD]); first | done | rfl) ?_
    refine (fieldsOf_any a dla _ HWA.out).mono ?_
    rintro e wc33 ⟨rfl, hb⟩
    refine ⟨_, rfl, ?_⟩
    have hI2 := Aside0.mk (hI.out.below hb); clear hI hb; have hI := hI2; clear hI2
    refine hK.out _ _ (hI.out.tail.tail) (fun hHeld => ?_)
    clear hK K; refine norm_ (a' := ?_) ?_ ?_; rotate_left
    ·
     show Act.put _ (some 29) _ = _; simp only [Act.put, pA, pZ, pS, i64_w, i32_w]; rfl
    refine one_ (i := 3) (N := (some 31)) #[V, V, V, V, V, V, F, F] rfl rfl (by kernel_rfl) (by decide) (fun K hK => ?_)
    refine goes_ Try.func12 (by kernel_rfl) rfl #[.agg #[.bool false, .int .i64 dlb, .int .u64 (b.s : Int), .int .u64 (b.i : Int), .int .u64 (b.h : Int), .int .u64 (b.d : Int), .int .u64 (b.m : Int), .int .u64 (b.w : Int)]] (by rfl) rfl rfl (by (try simp only [pB, pC, pD]); first | done | rfl) ?_
    refine (fieldsOf_any b dlb _ HWB.out).mono ?_
    rintro e wc34 ⟨rfl, hb⟩
    refine ⟨_, rfl, ?_⟩
    have hI2 := Aside0.mk (hI.out.below hb); clear hI hb; have hI := hI2; clear hI2
    refine hK.out _ _ (hI.out.tail.tail) (fun hHeld => ?_)
    clear hK K; refine norm_ (a' := ?_) ?_ ?_; rotate_left
    ·
     show Act.put _ (some 31) _ = _; simp only [Act.put, pA, pZ, pS, i64_w, i32_w]; rfl
    refine one_ (i := 6) (N := none) #[V, V, V, V, V, V, V, F] rfl rfl (by kernel_rfl) (by decide) (fun K hK => ?_)
    refine skip_ (by rfl) rfl (exec_store_row 32 (.tmp 7) (.tmp 29) rfl g7 (fv a) rfl rfl 32 _ (hI.out.get 0 rfl) (szf.out _) (szq.out _ _) (arrB_one _ _)) ?_
    have hI2 := Aside0.mk (hI.out.row (fv a))
    clear hI
    have hI := hI2
    clear hI2
    generalize hgs : World.setRow _ _ _ = ws6 at hI ⊢
    clear hgs
    refine hK.out _ _ (hI.out.tail.tail) (fun hHeld => ?_)
    clear hK K
    have hI2 := Aside0.mk (hI.out.swap)
    clear hI
    have hI := hI2
    clear hI2
    refine one_ (i := 7) (N := none) #[V, V, V, V, V, V, V, V] rfl rfl (by kernel_rfl) (by decide) (fun K hK => ?_)
    refine skip_ (by rfl) rfl (exec_store_row 32 (.tmp 8) (.tmp 31) rfl g8 (fv b) rfl rfl 32 _ (hI.out.get 0 rfl) (szf.out _) (szq.out _ _) (arrB_one _ _)) ?_
    have hI2 := Aside0.mk (hI.out.row (fv b))
    clear hI
    have hI := hI2
    clear hI2
    generalize hgs : World.setRow _ _ _ = ws7 at hI ⊢
    clear hgs
    refine hK.out _ _ (hI.out.tail.tail) (fun hHeld => ?_)
    clear hK K
    refine done_ (by kernel_rfl) ?_
    refine ⟨rfl, g7, g8, ?_, hI.out⟩
    simp only [putAll, Act.put, pA, pZ, pS]
 clear hI
 intro g7 g8 wn1 hI0
 have hI := Aside0.mk hI0
 clear hI0
 simp only [putAll, Act.put, pA, pZ, pS]
 go_wp2_with fail
 refine start_ (n := 13) (S := Blk w [(g8, fv b, 32), (g7, fv a, 32), (w.heap.size + 1 + 1, #[.int .i64 x, .int .i64 nn], 26), (w.heap.size + 1, #[.bool false, .int .i64 dlb, .int .u64 (b.s : Int), .int .u64 (b.i : Int), .int .u64 (b.h : Int), .int .u64 (b.d : Int), .int .u64 (b.m : Int), .int .u64 (b.w : Int)], 24), (w.heap.size, #[.bool false, .int .i64 dla, .int .u64 (a.s : Int), .int .u64 (a.i : Int), .int .u64 (a.h : Int), .int .u64 (a.d : Int), .int .u64 (a.m : Int), .int .u64 (a.w : Int)], 24)]) (ds := []) #[F, F, F, F, F, F, F, F, F, F, F, F, F] (by kernel_rfl) rfl rfl (hI.out.drew) (fun hHeld => ?_)
 have hI2 := Aside0.mk hI.out.drew
 clear hI
 have hI := hI2
 clear hI2
 generalize hwd : World.drew _ = wdr at hI hHeld ⊢
 clear hwd
 refine take_ (i := 0) (N := (some 33)) (v := ?_) (a' := ?_) #[V, F, F, F, F, F, F, F, F, F, F, F, F] rfl rfl (by kernel_rfl) (fun _ _ _ h => h) (Or.inl ⟨by rfl, ?_⟩) hHeld ?_ ?_
 rotate_left
 ·
  intro w' hS
  refine exec_load_row 32 (.tmp 7) ?_ g7 ?_ 32 _ _ (hS.get 1 rfl) Try.underlying32 rfl (szf.out _)
  ·
   rfl
  ·
   rfl
 rotate_left
 ·
  simp only [Act.put, pA, pZ, pS, i64_w, i32_w]; rfl
 refine take_ (i := 1) (N := (some 34)) (v := ?_) (a' := ?_) #[V, V, F, F, F, F, F, F, F, F, F, F, F] rfl rfl (by kernel_rfl) (fun _ _ _ h => h) (Or.inl ⟨by rfl, ?_⟩) hHeld ?_ ?_
 rotate_left
 ·
  intro w' hS
  refine exec_load_row 32 (.tmp 8) ?_ g8 ?_ 32 _ _ (hS.get 0 rfl) Try.underlying32 rfl (szf.out _)
  ·
   rfl
  ·
   rfl
 rotate_left
 ·
  simp only [Act.put, pA, pZ, pS, i64_w, i32_w]; rfl
 refine take_ (i := 2) (N := (some 35)) (v := ?_) (a' := ?_) #[V, V, V, F, F, F, F, F, F, F, F, F, F] rfl rfl (by kernel_rfl) (fun _ _ _ h => h) (Or.inl ⟨by rfl, ?_⟩) hHeld ?_ ?_
 rotate_left
 ·
  intro w' hS
  refine exec_load_row 26 (.tmp 5) ?_ (w.heap.size + 1 + 1) ?_ 26 _ _ (hS.get 2 rfl) Try.underlying26 rfl size26
  ·
   rfl
  ·
   rfl
 rotate_left
 ·
  simp only [Act.put, pA, pZ, pS, i64_w, i32_w]; rfl
 refine one_ (i := 3) (N := (some 36)) #[V, V, V, V, F, F, F, F, F, F, F, F, F] rfl rfl (by kernel_rfl) (by decide) (fun K hK => ?_)
 refine goes_ Try.func14 (by kernel_rfl) rfl #[] (by rfl) rfl rfl (by (try simp only [pB, pC, pD]); first | done | rfl) ?_
 refine (utcZone_any _).mono ?_
 rintro e w3 ⟨rfl, hb⟩
 refine ⟨_, rfl, ?_⟩
 have hI2 := Aside0.mk (hI.out.below hb)
 clear hI hb
 have hI := hI2
 clear hI2
 refine hK.out _ _ (hI.out) (fun hHeld => ?_)
 clear hK K; refine norm_ (a' := ?_) ?_ ?_; rotate_left
 ·
  show Act.put _ (some 36) _ = _; simp only [Act.put, pA, pZ, pS, i64_w, i32_w]; rfl
 refine one_ (i := 4) (N := (some 37)) #[V, V, V, V, V, F, F, F, F, F, F, F, F] rfl rfl (by kernel_rfl) (by decide) (fun K hK => ?_)
 refine goes_ Try.func18 (by kernel_rfl) rfl #[.agg #[.int .i64 x, .int .i64 nn], .agg #[.slice none 0 0, .slice none 0 0, .slice none 0 0, .slice none 0 0]] (by rfl) rfl rfl (by (try simp only [pB, pC, pD]); first | done | rfl) ?_
 refine (HCV.out _).mono ?_
 rintro e w4 ⟨rfl, hb⟩
 refine ⟨_, rfl, ?_⟩
 have hI2 := Aside0.mk (hI.out.below hb)
 clear hI hb
 have hI := hI2
 clear hI2
 refine hK.out _ _ (hI.out) (fun hHeld => ?_)
 clear hK K; refine norm_ (a' := ?_) ?_ ?_; rotate_left
 ·
  show Act.put _ (some 37) _ = _; simp only [Act.put, pA, pZ, pS, i64_w, i32_w]; rfl
 refine pure_ (i := 5) (N := (some 38)) (v := ?_) (a' := ?_) #[V, V, V, V, V, V, F, F, F, F, F, F, F] rfl rfl (by kernel_rfl) (fun _ _ _ h => h) (Or.inl ⟨by rfl, ?_⟩) ?_ ?_
 rotate_left
 ·
  intro w'; go_simp; with_reducible rfl
 rotate_left
 ·
  simp only [Act.put, pA, pZ, pS, i64_w, i32_w]; rfl
 refine pure_ (i := 6) (N := (some 39)) (v := ?_) (a' := ?_) #[V, V, V, V, V, V, V, F, F, F, F, F, F] rfl rfl (by kernel_rfl) (fun _ _ _ h => h) (Or.inl ⟨by rfl, ?_⟩) ?_ ?_
 rotate_left
 ·
  intro w'; go_simp; with_reducible rfl
 rotate_left
 ·
  simp only [Act.put, pA, pZ, pS, i64_w, i32_w]; rfl
 refine one_ (i := 7) (N := (some 40)) #[V, V, V, V, V, V, V, V, F, F, F, F, F] rfl rfl (by kernel_rfl) (by decide) (fun K hK => ?_)
 refine goes_ Try.func26 (by kernel_rfl) rfl #[.agg (fv a), .agg (fv b), .int .i64 Y] (by rfl) rfl rfl (by (try simp only [pB, pC, pD]); first | done | rfl) ?_
 refine (HAP.out _).mono ?_
 rintro e w7 ⟨X, f, rfl, hr, hb⟩
 refine ⟨_, rfl, ?_⟩
 have HR := Aside0.mk hr
 clear hr
 have hI2 := Aside0.mk (hI.out.below hb)
 clear hI hb
 have hI := hI2
 clear hI2
 refine hK.out _ _ (hI.out) (fun hHeld => ?_)
 clear hK K; refine norm_ (a' := ?_) ?_ ?_; rotate_left
 ·
  show Act.put _ (some 40) _ = _; simp only [Act.put, pA, pZ, pS, i64_w, i32_w]; rfl
 refine pure_ (i := 8) (N := (some 32)) (v := ?_) (a' := ?_) #[V, V, V, V, V, V, V, V, V, F, F, F, F] rfl rfl (by kernel_rfl) (fun _ _ _ h => h) (Or.inl ⟨by rfl, ?_⟩) ?_ ?_
 rotate_left
 ·
  intro w'; go_simp; with_reducible rfl
 rotate_left
 ·
  simp only [Act.put, pA, pZ, pS, i64_w, i32_w]; rfl
 refine pure_ (i := 9) (N := (some 41)) (v := ?_) (a' := ?_) #[V, V, V, V, V, V, V, V, V, V, F, F, F] rfl rfl (by kernel_rfl) (fun _ _ _ h => h) (Or.inl ⟨by rfl, ?_⟩) ?_ ?_
 rotate_left
 ·
  intro w'; go_simp; with_reducible rfl
 rotate_left
 ·
  simp only [Act.put, pA, pZ, pS, i64_w, i32_w]; rfl
 refine pure_ (i := 10) (N := (some 42)) (v := ?_) (a' := ?_) #[V, V, V, V, V, V, V, V, V, V, V, F, F] rfl rfl (by kernel_rfl) (fun _ _ _ h => h) (Or.inl ⟨by rfl, ?_⟩) ?_ ?_
 rotate_left
 ·
  intro w'; go_simp; with_reducible rfl
 rotate_left
 ·
  simp only [Act.put, pA, pZ, pS, i64_w, i32_w]; rfl
 refine pure_ (i := 11) (N := (some 9)) (v := ?_) (a' := ?_) #[V, V, V, V, V, V, V, V, V, V, V, V, F] rfl rfl (by kernel_rfl) (fun _ _ _ h => h) (Or.inl ⟨by rfl, ?_⟩) ?_ ?_
 rotate_left
 ·
  intro w'; go_simp; with_reducible rfl
 rotate_left
 ·
  simp only [Act.put, pA, pZ, pS, i64_w, i32_w]; rfl
 refine pure_ (i := 12) (N := (some 10)) (v := ?_) (a' := ?_) #[V, V, V, V, V, V, V, V, V, V, V, V, V] rfl rfl (by kernel_rfl) (fun _ _ _ h => h) (Or.inl ⟨by rfl, ?_⟩) ?_ ?_
 rotate_left
 ·
  intro w'; go_simp; with_reducible rfl
 rotate_left
 ·
  simp only [Act.put, pA, pZ, pS, i64_w, i32_w]; rfl
 refine done_ (by kernel_rfl) ?_
 cases f
 ·
  have HLK : Aside0 (∀ y, fB a y = fB b y) := ⟨HR.out.no rfl⟩
  have HNX : Aside0 (NX b x = NX a x) := ⟨nx_like (fun y => (HLK.out y).symm) x⟩
  have CNA : Aside0 (∀ w', Calls Try.prog 13 #[.agg #[.bool false, .int .i64 dla, .int .u64 (a.s : Int), .int .u64 (a.i : Int), .int .u64 (a.h : Int), .int .u64 (a.d : Int), .int .u64 (a.m : Int), .int .u64 (a.w : Int)], .agg #[.int .i64 x, .int .i64 nn], .agg #[.slice none 0 0, .slice none 0 0, .slice none 0 0, .slice none 0 0]] w' fun e w'' => e = .returned (.tuple #[.agg #[.int .i64 (nS a x), .int .i64 0], .bool (nF a x)]) ∧ Below w'.heap.size w' w'') := ⟨fun w' => implNext_nx a dla x nn w' HWA.out HX.out.2.2.1 HX.out.2.2.2 HX.out.1 HX.out.2.1⟩
  have CNB : Aside0 (∀ w', Calls Try.prog 13 #[.agg #[.bool false, .int .i64 dlb, .int .u64 (b.s : Int), .int .u64 (b.i : Int), .int .u64 (b.h : Int), .int .u64 (b.d : Int), .int .u64 (b.m : Int), .int .u64 (b.w : Int)], .agg #[.int .i64 x, .int .i64 nn], .agg #[.slice none 0 0, .slice none 0 0, .slice none 0 0, .slice none 0 0]] w' fun e w'' => e = .returned (.tuple #[.agg #[.int .i64 (nS a x), .int .i64 0], .bool (nF a x)]) ∧ Below w'.heap.size w' w'') := ⟨fun w' => by
   have := implNext_nx b dlb x nn w' HWB.out HX.out.2.2.1 HX.out.2.2.2 HX.out.1 HX.out.2.1
   rw [show nS b x = nS a x by unfold nS; rw [HNX.out], show nF b x = nF a x by unfold nF; rw [HNX.out]] at this
   exact this⟩
  have CN0 : Aside0 (nF a x = false → ∀ w', Calls Try.prog 15 #[.agg #[.bool false, .int .i64 dla, .int .u64 (a.s : Int), .int .u64 (a.i : Int), .int .u64 (a.h : Int), .int .u64 (a.d : Int), .int .u64 (a.m : Int), .int .u64 (a.w : Int)], .agg #[.int .i64 x, .int .i64 nn], .agg #[.slice none 0 0, .slice none 0 0, .slice none 0 0, .slice none 0 0]] w' fun e w'' => e = .returned (.bool true) ∧ Below w'.heap.size w' w'') := ⟨fun h w' => by
   have := none_any a dla x nn w' HWA.out HX.out.1 HX.out.2.1
   rw [h] at this
   exact this⟩
  generalize nS a x = vs at CNA CNB
  generalize nF a x = q at CNA CNB CN0
  go_wp2_with fail
  refine region_split (fun g => [(90, .agg #[.bool false, .int .i64 dla, .int .u64 (a.s : Int), .int .u64 (a.i : Int), .int .u64 (a.h : Int), .int .u64 (a.d : Int), .int .u64 (a.m : Int), .int .u64 (a.w : Int)]), (91, .agg #[.int .i64 x, .int .i64 nn]), (92, .agg #[.slice none 0 0, .slice none 0 0, .slice none 0 0, .slice none 0 0]), (93, .tuple #[.agg #[.int .i64 (vs), .int .i64 0], .bool (q)]), (89, .tuple #[.agg #[.int .i64 (vs), .int .i64 0], .bool (q)]), (94, .agg #[.int .i64 (vs), .int .i64 0]), (95, .bool (q)), (16, .pointer (some ⟨g, 0, none⟩)), (17, .bool (q))]) (fun g w' => Blk w ((g, #[.int .i64 (vs), .int .i64 0], 26) :: [(g8, fv b, 32), (g7, fv a, 32), (w.heap.size + 1 + 1, #[.int .i64 x, .int .i64 nn], 26), (w.heap.size + 1, #[.bool false, .int .i64 dlb, .int .u64 (b.s : Int), .int .u64 (b.i : Int), .int .u64 (b.h : Int), .int .u64 (b.d : Int), .int .u64 (b.m : Int), .int .u64 (b.w : Int)], 24), (w.heap.size, #[.bool false, .int .i64 dla, .int .u64 (a.s : Int), .int .u64 (a.i : Int), .int .u64 (a.h : Int), .int .u64 (a.d : Int), .int .u64 (a.m : Int), .int .u64 (a.w : Int)], 24)]) w') ?_ ?_
  ·
   refine start_ (n := 10) (S := Blk w [(g8, fv b, 32), (g7, fv a, 32), (w.heap.size + 1 + 1, #[.int .i64 x, .int .i64 nn], 26), (w.heap.size + 1, #[.bool false, .int .i64 dlb, .int .u64 (b.s : Int), .int .u64 (b.i : Int), .int .u64 (b.h : Int), .int .u64 (b.d : Int), .int .u64 (b.m : Int), .int .u64 (b.w : Int)], 24), (w.heap.size, #[.bool false, .int .i64 dla, .int .u64 (a.s : Int), .int .u64 (a.i : Int), .int .u64 (a.h : Int), .int .u64 (a.d : Int), .int .u64 (a.m : Int), .int .u64 (a.w : Int)], 24)]) (ds := []) #[F, F, F, F, F, F, F, F, F, F] (by kernel_rfl) rfl rfl (hI.out.drew) (fun hHeld => ?_)
   have hI2 := Aside0.mk hI.out.drew
   clear hI
   have hI := hI2
   clear hI2
   generalize hwd : World.drew _ = wdr at hI hHeld ⊢
   clear hwd
   refine take_ (i := 0) (N := (some 90)) (v := ?_) (a' := ?_) #[V, F, F, F, F, F, F, F, F, F] rfl rfl (by kernel_rfl) (fun _ _ _ => only_shut) (Or.inl ⟨by rfl, ?_⟩) hHeld ?_ ?_
   rotate_left
   ·
    intro w' hS
    refine exec_load_row 24 (.tmp 3) ?_ (w.heap.size) ?_ 24 _ _ (hS.get 4 rfl) Try.underlying24 rfl size24
    ·
     rfl
    ·
     rfl
   rotate_left
   ·
    simp only [Act.put, pA, pZ, pS, i64_w, i32_w]; rfl
   refine take_ (i := 1) (N := (some 91)) (v := ?_) (a' := ?_) #[V, V, F, F, F, F, F, F, F, F] rfl rfl (by kernel_rfl) (fun _ _ _ => only_shut) (Or.inl ⟨by rfl, ?_⟩) hHeld ?_ ?_
   rotate_left
   ·
    intro w' hS
    refine exec_load_row 26 (.tmp 5) ?_ (w.heap.size + 1 + 1) ?_ 26 _ _ (hS.get 2 rfl) Try.underlying26 rfl size26
    ·
     rfl
    ·
     rfl
   rotate_left
   ·
    simp only [Act.put, pA, pZ, pS, i64_w, i32_w]; rfl
   refine two_ (i := 2) (j := 7) (Ni := (some 92)) (Nj := (some 16)) #[V, V, V, F, F, F, F, F, F, F] #[V, V, F, F, F, F, F, V, F, F] rfl rfl rfl rfl (by kernel_rfl) (by decide) (by decide) (fun K hK => ?_) (fun K hK => ?_)
   ·
    refine goes_ Try.func14 (by kernel_rfl) rfl #[] (by rfl) rfl rfl (by (try simp only [pB, pC, pD]); first | done | rfl) ?_
    refine (utcZone_any _).mono ?_
    rintro e wc2 ⟨rfl, hb⟩
    refine ⟨_, rfl, ?_⟩
    have hI2 := Aside0.mk (hI.out.below hb)
    clear hI hb
    have hI := hI2
    clear hI2
    refine hK.out _ _ (hI.out) (fun hHeld => ?_)
    clear hK K; refine norm_ (a' := ?_) ?_ ?_; rotate_left
    ·
     show Act.put _ (some 92) _ = _; simp only [Act.put, pA, pZ, pS, i64_w, i32_w]; rfl
    refine two_ (i := 3) (j := 7) (Ni := (some 93)) (Nj := (some 16)) #[V, V, V, V, F, F, F, F, F, F] #[V, V, V, F, F, F, F, V, F, F] rfl rfl rfl rfl (by kernel_rfl) (by decide) (by decide) (fun K hK => ?_) (fun K hK => ?_)
    ·
     refine goes_ Try.func13 (by kernel_rfl) rfl #[.agg #[.bool false, .int .i64 dla, .int .u64 (a.s : Int), .int .u64 (a.i : Int), .int .u64 (a.h : Int), .int .u64 (a.d : Int), .int .u64 (a.m : Int), .int .u64 (a.w : Int)], .agg #[.int .i64 x, .int .i64 nn], .agg #[.slice none 0 0, .slice none 0 0, .slice none 0 0, .slice none 0 0]] (by rfl) rfl rfl (by (try simp only [pB, pC, pD]); first | done | rfl) ?_
     refine (CNA.out _).mono ?_
     rintro e wc3 ⟨rfl, hb⟩
     refine ⟨_, rfl, ?_⟩
     have hI2 := Aside0.mk (hI.out.below hb)
     clear hI hb
     have hI := hI2
     clear hI2
     refine hK.out _ _ (hI.out) (fun hHeld => ?_)
     clear hK K; refine norm_ (a' := ?_) ?_ ?_; rotate_left
     ·
      show Act.put _ (some 93) _ = _; simp only [Act.put, pA, pZ, pS, i64_w, i32_w]; rfl
     refine pure_ (i := 4) (N := (some 89)) (v := ?_) (a' := ?_) #[V, V, V, V, V, F, F, F, F, F] rfl rfl (by kernel_rfl) (fun _ _ _ => only_shut) (Or.inl ⟨by rfl, ?_⟩) ?_ ?_
     rotate_left
     ·
      intro w'; go_simp; with_reducible rfl
     rotate_left
     ·
      simp only [Act.put, pA, pZ, pS, i64_w, i32_w]; rfl
     refine pure_ (i := 5) (N := (some 94)) (v := ?_) (a' := ?_) #[V, V, V, V, V, V, F, F, F, F] rfl rfl (by kernel_rfl) (fun _ _ _ => only_shut) (Or.inl ⟨by rfl, ?_⟩) ?_ ?_
     rotate_left
     ·
      intro w'; go_simp; with_reducible rfl
     rotate_left
     ·
      simp only [Act.put, pA, pZ, pS, i64_w, i32_w]; rfl
     refine pure_ (i := 6) (N := (some 95)) (v := ?_) (a' := ?_) #[V, V, V, V, V, V, V, F, F, F] rfl rfl (by kernel_rfl) (fun _ _ _ => only_shut) (Or.inl ⟨by rfl, ?_⟩) ?_ ?_
     rotate_left
     ·
      intro w'; go_simp; with_reducible rfl
     rotate_left
     ·
      simp only [Act.put, pA, pZ, pS, i64_w, i32_w]; rfl
     refine one_ (i := 7) (N := (some 16)) #[V, V, V, V, V, V, V, V, F, F] rfl rfl (by kernel_rfl) (by decide) (fun K hK => ?_)
     refine value_ (by rfl) rfl (alloc26 _ _ rfl _) ?_
     have hA := Aside0.mk (hI.out.alloc #[.int .i64 0, .int .i64 0] 26)
     clear hI
     generalize hga : World.alloc _ _ = wa at hA ⊢
     clear hga
     generalize hgb : wc3.heap.size = g at hA ⊢
     clear hgb
     refine hK.out _ _ (hA.out.tail) (fun hHeld => ?_)
     clear hK K; refine norm_ (a' := ?_) ?_ ?_; rotate_left
     ·
      show Act.put _ (some 16) _ = _; simp only [Act.put, pA, pZ, pS, i64_w, i32_w]; rfl
     refine one_ (i := 8) (N := none) #[V, V, V, V, V, V, V, V, V, F] rfl rfl (by kernel_rfl) (by decide) (fun K hK => ?_)
     refine skip_ (by rfl) rfl (exec_store_row 26 (.tmp 16) (.tmp 94) rfl g #[.int .i64 (vs), .int .i64 0] rfl rfl 26 _ (hA.out.get 0 rfl) size26 (sz2 _ _ _ _) (one2 _ _)) ?_
     have hA2 := Aside0.mk (hA.out.row #[.int .i64 (vs), .int .i64 0])
     clear hA
     have hA := hA2
     clear hA2
     generalize hgs : World.setRow _ _ _ = ws at hA ⊢
     clear hgs
     refine hK.out _ _ (hA.out.tail) (fun hHeld => ?_)
     clear hK K
     refine pure_ (i := 9) (N := (some 17)) (v := ?_) (a' := ?_) #[V, V, V, V, V, V, V, V, V, V] rfl rfl (by kernel_rfl) (fun _ _ _ => only_shut) (Or.inl ⟨by rfl, ?_⟩) ?_ ?_
     rotate_left
     ·
      intro w'; go_simp; with_reducible rfl
     rotate_left
     ·
      simp only [Act.put, pA, pZ, pS, i64_w, i32_w]; rfl
     refine done_ (by kernel_rfl) ?_
     refine ⟨rfl, g, ?_, hA.out⟩
     simp only [putAll, Act.put, pA, pZ, pS]
    ·
     refine value_ (by rfl) rfl (alloc26 _ _ rfl _) ?_
     have hA := Aside0.mk (hI.out.alloc #[.int .i64 0, .int .i64 0] 26)
     clear hI
     generalize hga : World.alloc _ _ = wa at hA ⊢
     clear hga
     generalize hgb : wc2.heap.size = g at hA ⊢
     clear hgb
     refine hK.out _ _ (hA.out.tail) (fun hHeld => ?_)
     clear hK K; refine norm_ (a' := ?_) ?_ ?_; rotate_left
     ·
      show Act.put _ (some 16) _ = _; simp only [Act.put, pA, pZ, pS, i64_w, i32_w]; rfl
     refine one_ (i := 3) (N := (some 93)) #[V, V, V, V, F, F, F, V, F, F] rfl rfl (by kernel_rfl) (by decide) (fun K hK => ?_)
     refine goes_ Try.func13 (by kernel_rfl) rfl #[.agg #[.bool false, .int .i64 dla, .int .u64 (a.s : Int), .int .u64 (a.i : Int), .int .u64 (a.h : Int), .int .u64 (a.d : Int), .int .u64 (a.m : Int), .int .u64 (a.w : Int)], .agg #[.int .i64 x, .int .i64 nn], .agg #[.slice none 0 0, .slice none 0 0, .slice none 0 0, .slice none 0 0]] (by rfl) rfl rfl (by (try simp only [pB, pC, pD]); first | done | rfl) ?_
     refine (CNA.out _).mono ?_
     rintro e wc3 ⟨rfl, hb⟩
     refine ⟨_, rfl, ?_⟩
     have hA2 := Aside0.mk (hA.out.below hb)
     clear hA hb
     have hA := hA2
     clear hA2
     refine hK.out _ _ (hA.out.tail) (fun hHeld => ?_)
     clear hK K; refine norm_ (a' := ?_) ?_ ?_; rotate_left
     ·
      show Act.put _ (some 93) _ = _; simp only [Act.put, pA, pZ, pS, i64_w, i32_w]; rfl
     refine pure_ (i := 4) (N := (some 89)) (v := ?_) (a' := ?_) #[V, V, V, V, V, F, F, V, F, F] rfl rfl (by kernel_rfl) (fun _ _ _ => only_shut) (Or.inl ⟨by rfl, ?_⟩) ?_ ?_
     rotate_left
     ·
      intro w'; go_simp; with_reducible rfl
     rotate_left
     ·
      simp only [Act.put, pA, pZ, pS, i64_w, i32_w]; rfl
     refine pure_ (i := 5) (N := (some 94)) (v := ?_) (a' := ?_) #[V, V, V, V, V, V, F, V, F, F] rfl rfl (by kernel_rfl) (fun _ _ _ => only_shut) (Or.inl ⟨by rfl, ?_⟩) ?_ ?_
     rotate_left
     ·
      intro w'; go_simp; with_reducible rfl
     rotate_left
     ·
      simp only [Act.put, pA, pZ, pS, i64_w, i32_w]; rfl
     refine pure_ (i := 6) (N := (some 95)) (v := ?_) (a' := ?_) #[V, V, V, V, V, V, V, V, F, F] rfl rfl (by kernel_rfl) (fun _ _ _ => only_shut) (Or.inl ⟨by rfl, ?_⟩) ?_ ?_
     rotate_left
     ·
      intro w'; go_simp; with_reducible rfl
     rotate_left
     ·
      simp only [Act.put, pA, pZ, pS, i64_w, i32_w]; rfl
     refine one_ (i := 8) (N := none) #[V, V, V, V, V, V, V, V, V, F] rfl rfl (by kernel_rfl) (by decide) (fun K hK => ?_)
     refine skip_ (by rfl) rfl (exec_store_row 26 (.tmp 16) (.tmp 94) rfl g #[.int .i64 (vs), .int .i64 0] rfl rfl 26 _ (hA.out.get 0 rfl) size26 (sz2 _ _ _ _) (one2 _ _)) ?_
     have hA2 := Aside0.mk (hA.out.row #[.int .i64 (vs), .int .i64 0])
     clear hA
     have hA := hA2
     clear hA2
     generalize hgs : World.setRow _ _ _ = ws at hA ⊢
     clear hgs
     refine hK.out _ _ (hA.out.tail) (fun hHeld => ?_)
     clear hK K
     refine pure_ (i := 9) (N := (some 17)) (v := ?_) (a' := ?_) #[V, V, V, V, V, V, V, V, V, V] rfl rfl (by kernel_rfl) (fun _ _ _ => only_shut) (Or.inl ⟨by rfl, ?_⟩) ?_ ?_
     rotate_left
     ·
      intro w'; go_simp; with_reducible rfl
     rotate_left
     ·
      simp only [Act.put, pA, pZ, pS, i64_w, i32_w]; rfl
     refine done_ (by kernel_rfl) ?_
     refine ⟨rfl, g, ?_, hA.out⟩
     simp only [putAll, Act.put, pA, pZ, pS]
   ·
    refine value_ (by rfl) rfl (alloc26 _ _ rfl _) ?_
    have hA := Aside0.mk (hI.out.alloc #[.int .i64 0, .int .i64 0] 26)
    clear hI
    generalize hga : World.alloc _ _ = wa at hA ⊢
    clear hga
    generalize hgb : wdr.heap.size = g at hA ⊢
    clear hgb
    refine hK.out _ _ (hA.out.tail) (fun hHeld => ?_)
    clear hK K; refine norm_ (a' := ?_) ?_ ?_; rotate_left
    ·
     show Act.put _ (some 16) _ = _; simp only [Act.put, pA, pZ, pS, i64_w, i32_w]; rfl
    refine one_ (i := 2) (N := (some 92)) #[V, V, V, F, F, F, F, V, F, F] rfl rfl (by kernel_rfl) (by decide) (fun K hK => ?_)
    refine goes_ Try.func14 (by kernel_rfl) rfl #[] (by rfl) rfl rfl (by (try simp only [pB, pC, pD]); first | done | rfl) ?_
    refine (utcZone_any _).mono ?_
    rintro e wc2 ⟨rfl, hb⟩
    refine ⟨_, rfl, ?_⟩
    have hA2 := Aside0.mk (hA.out.below hb)
    clear hA hb
    have hA := hA2
    clear hA2
    refine hK.out _ _ (hA.out.tail) (fun hHeld => ?_)
    clear hK K; refine norm_ (a' := ?_) ?_ ?_; rotate_left
    ·
     show Act.put _ (some 92) _ = _; simp only [Act.put, pA, pZ, pS, i64_w, i32_w]; rfl
    refine one_ (i := 3) (N := (some 93)) #[V, V, V, V, F, F, F, V, F, F] rfl rfl (by kernel_rfl) (by decide) (fun K hK => ?_)
    refine goes_ Try.func13 (by kernel_rfl) rfl #[.agg #[.bool false, .int .i64 dla, .int .u64 (a.s : Int), .int .u64 (a.i : Int), .int .u64 (a.h : Int), .int .u64 (a.d : Int), .int .u64 (a.m : Int), .int .u64 (a.w : Int)], .agg #[.int .i64 x, .int .i64 nn], .agg #[.slice none 0 0, .slice none 0 0, .slice none 0 0, .slice none 0 0]] (by rfl) rfl rfl (by (try simp only [pB, pC, pD]); first | done | rfl) ?_
    refine (CNA.out _).mono ?_
    rintro e wc3 ⟨rfl, hb⟩
    refine ⟨_, rfl, ?_⟩
    have hA2 := Aside0.mk (hA.out.below hb)
    clear hA hb
    have hA := hA2
    clear hA2
    refine hK.out _ _ (hA.out.tail) (fun hHeld => ?_)
    clear hK K; refine norm_ (a' := ?_) ?_ ?_; rotate_left
    ·
     show Act.put _ (some 93) _ = _; simp only [Act.put, pA, pZ, pS, i64_w, i32_w]; rfl
    refine pure_ (i := 4) (N := (some 89)) (v := ?_) (a' := ?_) #[V, V, V, V, V, F, F, V, F, F] rfl rfl (by kernel_rfl) (fun _ _ _ => only_shut) (Or.inl ⟨by rfl, ?_⟩) ?_ ?_
    rotate_left
    ·
     intro w'; go_simp; with_reducible rfl
    rotate_left
    ·
     simp only [Act.put, pA, pZ, pS, i64_w, i32_w]; rfl
    refine pure_ (i := 5) (N := (some 94)) (v := ?_) (a' := ?_) #[V, V, V, V, V, V, F, V, F, F] rfl rfl (by kernel_rfl) (fun _ _ _ => only_shut) (Or.inl ⟨by rfl, ?_⟩) ?_ ?_
    rotate_left
    ·
     intro w'; go_simp; with_reducible rfl
    rotate_left
    ·
     simp only [Act.put, pA, pZ, pS, i64_w, i32_w]; rfl
    refine pure_ (i := 6) (N := (some 95)) (v := ?_) (a' := ?_) #[V, V, V, V, V, V, V, V, F, F] rfl rfl (by kernel_rfl) (fun _ _ _ => only_shut) (Or.inl ⟨by rfl, ?_⟩) ?_ ?_
    rotate_left
    ·
     intro w'; go_simp; with_reducible rfl
    rotate_left
    ·
     simp only [Act.put, pA, pZ, pS, i64_w, i32_w]; rfl
    refine one_ (i := 8) (N := none) #[V, V, V, V, V, V, V, V, V, F] rfl rfl (by kernel_rfl) (by decide) (fun K hK => ?_)
    refine skip_ (by rfl) rfl (exec_store_row 26 (.tmp 16) (.tmp 94) rfl g #[.int .i64 (vs), .int .i64 0] rfl rfl 26 _ (hA.out.get 0 rfl) size26 (sz2 _ _ _ _) (one2 _ _)) ?_
    have hA2 := Aside0.mk (hA.out.row #[.int .i64 (vs), .int .i64 0])
    clear hA
    have hA := hA2
    clear hA2
    generalize hgs : World.setRow _ _ _ = ws at hA ⊢
    clear hgs
    refine hK.out _ _ (hA.out.tail) (fun hHeld => ?_)
    clear hK K
    refine pure_ (i := 9) (N := (some 17)) (v := ?_) (a' := ?_) #[V, V, V, V, V, V, V, V, V, V] rfl rfl (by kernel_rfl) (fun _ _ _ => only_shut) (Or.inl ⟨by rfl, ?_⟩) ?_ ?_
    rotate_left
    ·
     intro w'; go_simp; with_reducible rfl
    rotate_left
    ·
     simp only [Act.put, pA, pZ, pS, i64_w, i32_w]; rfl
    refine done_ (by kernel_rfl) ?_
    refine ⟨rfl, g, ?_, hA.out⟩
    simp only [putAll, Act.put, pA, pZ, pS]
  clear hI
  intro g16 wng16 hI0
  have hI := Aside0.mk hI0
  clear hI0
  simp only [putAll, Act.put, pA, pZ, pS]
  go_wp2_with fail
  refine region_split (fun g => [(97, .agg #[.bool false, .int .i64 dlb, .int .u64 (b.s : Int), .int .u64 (b.i : Int), .int .u64 (b.h : Int), .int .u64 (b.d : Int), .int .u64 (b.m : Int), .int .u64 (b.w : Int)]), (98, .agg #[.int .i64 x, .int .i64 nn]), (99, .agg #[.slice none 0 0, .slice none 0 0, .slice none 0 0, .slice none 0 0]), (100, .tuple #[.agg #[.int .i64 (vs), .int .i64 0], .bool (q)]), (96, .tuple #[.agg #[.int .i64 (vs), .int .i64 0], .bool (q)]), (101, .agg #[.int .i64 (vs), .int .i64 0]), (102, .bool (q)), (18, .pointer (some ⟨g, 0, none⟩)), (19, .bool (q))]) (fun g w' => Blk w ((g, #[.int .i64 (vs), .int .i64 0], 26) :: [(g16, #[.int .i64 (vs), .int .i64 0], 26), (g8, fv b, 32), (g7, fv a, 32), (w.heap.size + 1 + 1, #[.int .i64 x, .int .i64 nn], 26), (w.heap.size + 1, #[.bool false, .int .i64 dlb, .int .u64 (b.s : Int), .int .u64 (b.i : Int), .int .u64 (b.h : Int), .int .u64 (b.d : Int), .int .u64 (b.m : Int), .int .u64 (b.w : Int)], 24), (w.heap.size, #[.bool false, .int .i64 dla, .int .u64 (a.s : Int), .int .u64 (a.i : Int), .int .u64 (a.h : Int), .int .u64 (a.d : Int), .int .u64 (a.m : Int), .int .u64 (a.w : Int)], 24)]) w') ?_ ?_
  ·
   refine start_ (n := 10) (S := Blk w [(g16, #[.int .i64 (vs), .int .i64 0], 26), (g8, fv b, 32), (g7, fv a, 32), (w.heap.size + 1 + 1, #[.int .i64 x, .int .i64 nn], 26), (w.heap.size + 1, #[.bool false, .int .i64 dlb, .int .u64 (b.s : Int), .int .u64 (b.i : Int), .int .u64 (b.h : Int), .int .u64 (b.d : Int), .int .u64 (b.m : Int), .int .u64 (b.w : Int)], 24), (w.heap.size, #[.bool false, .int .i64 dla, .int .u64 (a.s : Int), .int .u64 (a.i : Int), .int .u64 (a.h : Int), .int .u64 (a.d : Int), .int .u64 (a.m : Int), .int .u64 (a.w : Int)], 24)]) (ds := []) #[F, F, F, F, F, F, F, F, F, F] (by kernel_rfl) rfl rfl (hI.out.drew) (fun hHeld => ?_)
   have hI2 := Aside0.mk hI.out.drew
   clear hI
   have hI := hI2
   clear hI2
   generalize hwd : World.drew _ = wdr at hI hHeld ⊢
   clear hwd
   refine take_ (i := 0) (N := (some 97)) (v := ?_) (a' := ?_) #[V, F, F, F, F, F, F, F, F, F] rfl rfl (by kernel_rfl) (fun _ _ _ => only_shut) (Or.inl ⟨by rfl, ?_⟩) hHeld ?_ ?_
   rotate_left
   ·
    intro w' hS
    refine exec_load_row 24 (.tmp 4) ?_ (w.heap.size + 1) ?_ 24 _ _ (hS.get 4 rfl) Try.underlying24 rfl size24
    ·
     rfl
    ·
     rfl
   rotate_left
   ·
    simp only [Act.put, pA, pZ, pS, i64_w, i32_w]; rfl
   refine take_ (i := 1) (N := (some 98)) (v := ?_) (a' := ?_) #[V, V, F, F, F, F, F, F, F, F] rfl rfl (by kernel_rfl) (fun _ _ _ => only_shut) (Or.inl ⟨by rfl, ?_⟩) hHeld ?_ ?_
   rotate_left
   ·
    intro w' hS
    refine exec_load_row 26 (.tmp 5) ?_ (w.heap.size + 1 + 1) ?_ 26 _ _ (hS.get 3 rfl) Try.underlying26 rfl size26
    ·
     rfl
    ·
     rfl
   rotate_left
   ·
    simp only [Act.put, pA, pZ, pS, i64_w, i32_w]; rfl
   refine two_ (i := 2) (j := 7) (Ni := (some 99)) (Nj := (some 18)) #[V, V, V, F, F, F, F, F, F, F] #[V, V, F, F, F, F, F, V, F, F] rfl rfl rfl rfl (by kernel_rfl) (by decide) (by decide) (fun K hK => ?_) (fun K hK => ?_)
   ·
    refine goes_ Try.func14 (by kernel_rfl) rfl #[] (by rfl) rfl rfl (by (try simp only [pB, pC, pD]); first | done | rfl) ?_
    refine (utcZone_any _).mono ?_
    rintro e wc2 ⟨rfl, hb⟩
    refine ⟨_, rfl, ?_⟩
    have hI2 := Aside0.mk (hI.out.below hb)
    clear hI hb
    have hI := hI2
    clear hI2
    refine hK.out _ _ (hI.out) (fun hHeld => ?_)
    clear hK K; refine norm_ (a' := ?_) ?_ ?_; rotate_left
    ·
     show Act.put _ (some 99) _ = _; simp only [Act.put, pA, pZ, pS, i64_w, i32_w]; rfl
    refine two_ (i := 3) (j := 7) (Ni := (some 100)) (Nj := (some 18)) #[V, V, V, V, F, F, F, F, F, F] #[V, V, V, F, F, F, F, V, F, F] rfl rfl rfl rfl (by kernel_rfl) (by decide) (by decide) (fun K hK => ?_) (fun K hK => ?_)
    ·
     refine goes_ Try.func13 (by kernel_rfl) rfl #[.agg #[.bool false, .int .i64 dlb, .int .u64 (b.s : Int), .int .u64 (b.i : Int), .int .u64 (b.h : Int), .int .u64 (b.d : Int), .int .u64 (b.m : Int), .int .u64 (b.w : Int)], .agg #[.int .i64 x, .int .i64 nn], .agg #[.slice none 0 0, .slice none 0 0, .slice none 0 0, .slice none 0 0]] (by rfl) rfl rfl (by (try simp only [pB, pC, pD]); first | done | rfl) ?_
     refine (CNB.out _).mono ?_
     rintro e wc3 ⟨rfl, hb⟩
     refine ⟨_, rfl, ?_⟩
     have hI2 := Aside0.mk (hI.out.below hb)
     clear hI hb
     have hI := hI2
     clear hI2
     refine hK.out _ _ (hI.out) (fun hHeld => ?_)
     clear hK K; refine norm_ (a' := ?_) ?_ ?_; rotate_left
     ·
      show Act.put _ (some 100) _ = _; simp only [Act.put, pA, pZ, pS, i64_w, i32_w]; rfl
     refine pure_ (i := 4) (N := (some 96)) (v := ?_) (a' := ?_) #[V, V, V, V, V, F, F, F, F, F] rfl rfl (by kernel_rfl) (fun _ _ _ => only_shut) (Or.inl ⟨by rfl, ?_⟩) ?_ ?_
     rotate_left
     ·
      intro w'; go_simp; with_reducible rfl
     rotate_left
     ·
      simp only [Act.put, pA, pZ, pS, i64_w, i32_w]; rfl
     refine pure_ (i := 5) (N := (some 101)) (v := ?_) (a' := ?_) #[V, V, V, V, V, V, F, F, F, F] rfl rfl (by kernel_rfl) (fun _ _ _ => only_shut) (Or.inl ⟨by rfl, ?_⟩) ?_ ?_
     rotate_left
     ·
      intro w'; go_simp; with_reducible rfl
     rotate_left
     ·
      simp only [Act.put, pA, pZ, pS, i64_w, i32_w]; rfl
     refine pure_ (i := 6) (N := (some 102)) (v := ?_) (a' := ?_) #[V, V, V, V, V, V, V, F, F, F] rfl rfl (by kernel_rfl) (fun _ _ _ => only_shut) (Or.inl ⟨by rfl, ?_⟩) ?_ ?_
     rotate_left
     ·
      intro w'; go_simp; with_reducible rfl
     rotate_left
     ·
      simp only [Act.put, pA, pZ, pS, i64_w, i32_w]; rfl
     refine one_ (i := 7) (N := (some 18)) #[V, V, V, V, V, V, V, V, F, F] rfl rfl (by kernel_rfl) (by decide) (fun K hK => ?_)
     refine value_ (by rfl) rfl (alloc26 _ _ rfl _) ?_
     have hA := Aside0.mk (hI.out.alloc #[.int .i64 0, .int .i64 0] 26)
     clear hI
     generalize hga : World.alloc _ _ = wa at hA ⊢
     clear hga
     generalize hgb : wc3.heap.size = g at hA ⊢
     clear hgb
     refine hK.out _ _ (hA.out.tail) (fun hHeld => ?_)
     clear hK K; refine norm_ (a' := ?_) ?_ ?_; rotate_left
     ·
      show Act.put _ (some 18) _ = _; simp only [Act.put, pA, pZ, pS, i64_w, i32_w]; rfl
     refine one_ (i := 8) (N := none) #[V, V, V, V, V, V, V, V, V, F] rfl rfl (by kernel_rfl) (by decide) (fun K hK => ?_)
     refine skip_ (by rfl) rfl (exec_store_row 26 (.tmp 18) (.tmp 101) rfl g #[.int .i64 (vs), .int .i64 0] rfl rfl 26 _ (hA.out.get 0 rfl) size26 (sz2 _ _ _ _) (one2 _ _)) ?_
     have hA2 := Aside0.mk (hA.out.row #[.int .i64 (vs), .int .i64 0])
     clear hA
     have hA := hA2
     clear hA2
     generalize hgs : World.setRow _ _ _ = ws at hA ⊢
     clear hgs
     refine hK.out _ _ (hA.out.tail) (fun hHeld => ?_)
     clear hK K
     refine pure_ (i := 9) (N := (some 19)) (v := ?_) (a' := ?_) #[V, V, V, V, V, V, V, V, V, V] rfl rfl (by kernel_rfl) (fun _ _ _ => only_shut) (Or.inl ⟨by rfl, ?_⟩) ?_ ?_
     rotate_left
     ·
      intro w'; go_simp; with_reducible rfl
     rotate_left
     ·
      simp only [Act.put, pA, pZ, pS, i64_w, i32_w]; rfl
     refine done_ (by kernel_rfl) ?_
     refine ⟨rfl, g, ?_, hA.out⟩
     simp only [putAll, Act.put, pA, pZ, pS]
    ·
     refine value_ (by rfl) rfl (alloc26 _ _ rfl _) ?_
     have hA := Aside0.mk (hI.out.alloc #[.int .i64 0, .int .i64 0] 26)
     clear hI
     generalize hga : World.alloc _ _ = wa at hA ⊢
     clear hga
     generalize hgb : wc2.heap.size = g at hA ⊢
     clear hgb
     refine hK.out _ _ (hA.out.tail) (fun hHeld => ?_)
     clear hK K; refine norm_ (a' := ?_) ?_ ?_; rotate_left
     ·
      show Act.put _ (some 18) _ = _; simp only [Act.put, pA, pZ, pS, i64_w, i32_w]; rfl
     refine one_ (i := 3) (N := (some 100)) #[V, V, V, V, F, F, F, V, F, F] rfl rfl (by kernel_rfl) (by decide) (fun K hK => ?_)
     refine goes_ Try.func13 (by kernel_rfl) rfl #[.agg #[.bool false, .int .i64 dlb, .int .u64 (b.s : Int), .int .u64 (b.i : Int), .int .u64 (b.h : Int), .int .u64 (b.d : Int), .int .u64 (b.m : Int), .int .u64 (b.w : Int)], .agg #[.int .i64 x, .int .i64 nn], .agg #[.slice none 0 0, .slice none 0 0, .slice none 0 0, .slice none 0 0]] (by rfl) rfl rfl (by (try simp only [pB, pC, pD]); first | done | rfl) ?_
     refine (CNB.out _).mono ?_
     rintro e wc3 ⟨rfl, hb⟩
     refine ⟨_, rfl, ?_⟩
     have hA2 := Aside0.mk (hA.out.below hb)
     clear hA hb
     have hA := hA2
     clear hA2
     refine hK.out _ _ (hA.out.tail) (fun hHeld => ?_)
     clear hK K; refine norm_ (a' := ?_) ?_ ?_; rotate_left
     ·
      show Act.put _ (some 100) _ = _; simp only [Act.put, pA, pZ, pS, i64_w, i32_w]; rfl
     refine pure_ (i := 4) (N := (some 96)) (v := ?_) (a' := ?_) #[V, V, V, V, V, F, F, V, F, F] rfl rfl (by kernel_rfl) (fun _ _ _ => only_shut) (Or.inl ⟨by rfl, ?_⟩) ?_ ?_
     rotate_left
     ·
      intro w'; go_simp; with_reducible rfl
     rotate_left
     ·
      simp only [Act.put, pA, pZ, pS, i64_w, i32_w]; rfl
     refine pure_ (i := 5) (N := (some 101)) (v := ?_) (a' := ?_) #[V, V, V, V, V, V, F, V, F, F] rfl rfl (by kernel_rfl) (fun _ _ _ => only_shut) (Or.inl ⟨by rfl, ?_⟩) ?_ ?_
     rotate_left
     ·
      intro w'; go_simp; with_reducible rfl
     rotate_left
     ·
      simp only [Act.put, pA, pZ, pS, i64_w, i32_w]; rfl
     refine pure_ (i := 6) (N := (some 102)) (v := ?_) (a' := ?_) #[V, V, V, V, V, V, V, V, F, F] rfl rfl (by kernel_rfl) (fun _ _ _ => only_shut) (Or.inl ⟨by rfl, ?_⟩) ?_ ?_
     rotate_left
     ·
      intro w'; go_simp; with_reducible rfl
     rotate_left
     ·
      simp only [Act.put, pA, pZ, pS, i64_w, i32_w]; rfl
     refine one_ (i := 8) (N := none) #[V, V, V, V, V, V, V, V, V, F] rfl rfl (by kernel_rfl) (by decide) (fun K hK => ?_)
     refine skip_ (by rfl) rfl (exec_store_row 26 (.tmp 18) (.tmp 101) rfl g #[.int .i64 (vs), .int .i64 0] rfl rfl 26 _ (hA.out.get 0 rfl) size26 (sz2 _ _ _ _) (one2 _ _)) ?_
     have hA2 := Aside0.mk (hA.out.row #[.int .i64 (vs), .int .i64 0])
     clear hA
     have hA := hA2
     clear hA2
     generalize hgs : World.setRow _ _ _ = ws at hA ⊢
     clear hgs
     refine hK.out _ _ (hA.out.tail) (fun hHeld => ?_)
     clear hK K
     refine pure_ (i := 9) (N := (some 19)) (v := ?_) (a' := ?_) #[V, V, V, V, V, V, V, V, V, V] rfl rfl (by kernel_rfl) (fun _ _ _ => only_shut) (Or.inl ⟨by rfl, ?_⟩) ?_ ?_
     rotate_left
     ·
      intro w'; go_simp; with_reducible rfl
     rotate_left
     ·
      simp only [Act.put, pA, pZ, pS, i64_w, i32_w]; rfl
     refine done_ (by kernel_rfl) ?_
     refine ⟨rfl, g, ?_, hA.out⟩
     simp only [putAll, Act.put, pA, pZ, pS]
   ·
    refine value_ (by rfl) rfl (alloc26 _ _ rfl _) ?_
    have hA := Aside0.mk (hI.out.alloc #[.int .i64 0, .int .i64 0] 26)
    clear hI
    generalize hga : World.alloc _ _ = wa at hA ⊢
    clear hga
    generalize hgb : wdr.heap.size = g at hA ⊢
    clear hgb
    refine hK.out _ _ (hA.out.tail) (fun hHeld => ?_)
    clear hK K; refine norm_ (a' := ?_) ?_ ?_; rotate_left
    ·
     show Act.put _ (some 18) _ = _; simp only [Act.put, pA, pZ, pS, i64_w, i32_w]; rfl
    refine one_ (i := 2) (N := (some 99)) #[V, V, V, F, F, F, F, V, F, F] rfl rfl (by kernel_rfl) (by decide) (fun K hK => ?_)
    refine goes_ Try.func14 (by kernel_rfl) rfl #[] (by rfl) rfl rfl (by (try simp only [pB, pC, pD]); first | done | rfl) ?_
    refine (utcZone_any _).mono ?_
    rintro e wc2 ⟨rfl, hb⟩
    refine ⟨_, rfl, ?_⟩
    have hA2 := Aside0.mk (hA.out.below hb)
    clear hA hb
    have hA := hA2
    clear hA2
    refine hK.out _ _ (hA.out.tail) (fun hHeld => ?_)
    clear hK K; refine norm_ (a' := ?_) ?_ ?_; rotate_left
    ·
     show Act.put _ (some 99) _ = _; simp only [Act.put, pA, pZ, pS, i64_w, i32_w]; rfl
    refine one_ (i := 3) (N := (some 100)) #[V, V, V, V, F, F, F, V, F, F] rfl rfl (by kernel_rfl) (by decide) (fun K hK => ?_)
    refine goes_ Try.func13 (by kernel_rfl) rfl #[.agg #[.bool false, .int .i64 dlb, .int .u64 (b.s : Int), .int .u64 (b.i : Int), .int .u64 (b.h : Int), .int .u64 (b.d : Int), .int .u64 (b.m : Int), .int .u64 (b.w : Int)], .agg #[.int .i64 x, .int .i64 nn], .agg #[.slice none 0 0, .slice none 0 0, .slice none 0 0, .slice none 0 0]] (by rfl) rfl rfl (by (try simp only [pB, pC, pD]); first | done | rfl) ?_
    refine (CNB.out _).mono ?_
    rintro e wc3 ⟨rfl, hb⟩
    refine ⟨_, rfl, ?_⟩
    have hA2 := Aside0.mk (hA.out.below hb)
    clear hA hb
    have hA := hA2
    clear hA2
    refine hK.out _ _ (hA.out.tail) (fun hHeld => ?_)
    clear hK K; refine norm_ (a' := ?_) ?_ ?_; rotate_left
    ·
     show Act.put _ (some 100) _ = _; simp only [Act.put, pA, pZ, pS, i64_w, i32_w]; rfl
    refine pure_ (i := 4) (N := (some 96)) (v := ?_) (a' := ?_) #[V, V, V, V, V, F, F, V, F, F] rfl rfl (by kernel_rfl) (fun _ _ _ => only_shut) (Or.inl ⟨by rfl, ?_⟩) ?_ ?_
    rotate_left
    ·
     intro w'; go_simp; with_reducible rfl
    rotate_left
    ·
     simp only [Act.put, pA, pZ, pS, i64_w, i32_w]; rfl
    refine pure_ (i := 5) (N := (some 101)) (v := ?_) (a' := ?_) #[V, V, V, V, V, V, F, V, F, F] rfl rfl (by kernel_rfl) (fun _ _ _ => only_shut) (Or.inl ⟨by rfl, ?_⟩) ?_ ?_
    rotate_left
    ·
     intro w'; go_simp; with_reducible rfl
    rotate_left
    ·
     simp only [Act.put, pA, pZ, pS, i64_w, i32_w]; rfl
    refine pure_ (i := 6) (N := (some 102)) (v := ?_) (a' := ?_) #[V, V, V, V, V, V, V, V, F, F] rfl rfl (by kernel_rfl) (fun _ _ _ => only_shut) (Or.inl ⟨by rfl, ?_⟩) ?_ ?_
    rotate_left
    ·
     intro w'; go_simp; with_reducible rfl
    rotate_left
    ·
     simp only [Act.put, pA, pZ, pS, i64_w, i32_w]; rfl
    refine one_ (i := 8) (N := none) #[V, V, V, V, V, V, V, V, V, F] rfl rfl (by kernel_rfl) (by decide) (fun K hK => ?_)
    refine skip_ (by rfl) rfl (exec_store_row 26 (.tmp 18) (.tmp 101) rfl g #[.int .i64 (vs), .int .i64 0] rfl rfl 26 _ (hA.out.get 0 rfl) size26 (sz2 _ _ _ _) (one2 _ _)) ?_
    have hA2 := Aside0.mk (hA.out.row #[.int .i64 (vs), .int .i64 0])
    clear hA
    have hA := hA2
    clear hA2
    generalize hgs : World.setRow _ _ _ = ws at hA ⊢
    clear hgs
    refine hK.out _ _ (hA.out.tail) (fun hHeld => ?_)
    clear hK K
    refine pure_ (i := 9) (N := (some 19)) (v := ?_) (a' := ?_) #[V, V, V, V, V, V, V, V, V, V] rfl rfl (by kernel_rfl) (fun _ _ _ => only_shut) (Or.inl ⟨by rfl, ?_⟩) ?_ ?_
    rotate_left
    ·
     intro w'; go_simp; with_reducible rfl
    rotate_left
    ·
     simp only [Act.put, pA, pZ, pS, i64_w, i32_w]; rfl
    refine done_ (by kernel_rfl) ?_
    refine ⟨rfl, g, ?_, hA.out⟩
    simp only [putAll, Act.put, pA, pZ, pS]
  clear hI
  intro g18 wng18 hI0
  have hI := Aside0.mk hI0
  clear hI0
  simp only [putAll, Act.put, pA, pZ, pS]
  clear CNA CNB
  cases q
  ·
   go_wp2_with fail
   refine start_ (n := 18) (S := Blk w [(g18, #[.int .i64 (vs), .int .i64 0], 26), (g16, #[.int .i64 (vs), .int .i64 0], 26), (g8, fv b, 32), (g7, fv a, 32), (w.heap.size + 1 + 1, #[.int .i64 x, .int .i64 nn], 26), (w.heap.size + 1, #[.bool false, .int .i64 dlb, .int .u64 (b.s : Int), .int .u64 (b.i : Int), .int .u64 (b.h : Int), .int .u64 (b.d : Int), .int .u64 (b.m : Int), .int .u64 (b.w : Int)], 24), (w.heap.size, #[.bool false, .int .i64 dla, .int .u64 (a.s : Int), .int .u64 (a.i : Int), .int .u64 (a.h : Int), .int .u64 (a.d : Int), .int .u64 (a.m : Int), .int .u64 (a.w : Int)], 24)]) (ds := []) #[F, F, F, F, F, F, F, F, F, F, F, F, F, F, F, F, F, F] (by kernel_rfl) rfl rfl (hI.out.drew) (fun hHeld => ?_)
   have hI2 := Aside0.mk hI.out.drew
   clear hI
   have hI := hI2
   clear hI2
   generalize hwd : World.drew _ = wdr at hI hHeld ⊢
   clear hwd
   refine pure_ (i := 0) (N := (some 103)) (v := ?_) (a' := ?_) #[V, F, F, F, F, F, F, F, F, F, F, F, F, F, F, F, F, F] rfl rfl (by kernel_rfl) (fun _ _ _ h => h) (Or.inl ⟨by rfl, ?_⟩) ?_ ?_
   rotate_left
   ·
    intro w'; go_simp; with_reducible rfl
   rotate_left
   ·
    simp only [Act.put, pA, pZ, pS, i64_w, i32_w]; rfl
   refine pure_ (i := 1) (N := (some 104)) (v := ?_) (a' := ?_) #[V, V, F, F, F, F, F, F, F, F, F, F, F, F, F, F, F, F] rfl rfl (by kernel_rfl) (fun _ _ _ h => h) (Or.inl ⟨by rfl, ?_⟩) ?_ ?_
   rotate_left
   ·
    intro w'; go_simp; with_reducible rfl
   rotate_left
   ·
    simp only [Act.put, pA, pZ, pS, i64_w, i32_w]; rfl
   refine pure_ (i := 2) (N := (some 105)) (v := ?_) (a' := ?_) #[V, V, V, F, F, F, F, F, F, F, F, F, F, F, F, F, F, F] rfl rfl (by kernel_rfl) (fun _ _ _ h => h) (Or.inl ⟨by rfl, ?_⟩) ?_ ?_
   rotate_left
   ·
    intro w'; go_simp; with_reducible rfl
   rotate_left
   ·
    simp only [Act.put, pA, pZ, pS, i64_w, i32_w]; rfl
   refine pure_ (i := 3) (N := (some 106)) (v := ?_) (a' := ?_) #[V, V, V, V, F, F, F, F, F, F, F, F, F, F, F, F, F, F] rfl rfl (by kernel_rfl) (fun _ _ _ h => h) (Or.inl ⟨by rfl, ?_⟩) ?_ ?_
   rotate_left
   ·
    intro w'; go_simp; with_reducible rfl
   rotate_left
   ·
    simp only [Act.put, pA, pZ, pS, i64_w, i32_w]; rfl
   refine take_ (i := 4) (N := (some 107)) (v := ?_) (a' := ?_) #[V, V, V, V, V, F, F, F, F, F, F, F, F, F, F, F, F, F] rfl rfl (by kernel_rfl) (fun _ _ _ h => h) (Or.inl ⟨by rfl, ?_⟩) hHeld ?_ ?_
   rotate_left
   ·
    intro w' hS
    refine exec_load_row 26 (.tmp 16) ?_ g16 ?_ 26 _ _ (hS.get 1 rfl) Try.underlying26 rfl size26
    ·
     rfl
    ·
     rfl
   rotate_left
   ·
    simp only [Act.put, pA, pZ, pS, i64_w, i32_w]; rfl
   refine take_ (i := 5) (N := (some 108)) (v := ?_) (a' := ?_) #[V, V, V, V, V, V, F, F, F, F, F, F, F, F, F, F, F, F] rfl rfl (by kernel_rfl) (fun _ _ _ h => h) (Or.inl ⟨by rfl, ?_⟩) hHeld ?_ ?_
   rotate_left
   ·
    intro w' hS
    refine exec_load_row 26 (.tmp 18) ?_ g18 ?_ 26 _ _ (hS.get 0 rfl) Try.underlying26 rfl size26
    ·
     rfl
    ·
     rfl
   rotate_left
   ·
    simp only [Act.put, pA, pZ, pS, i64_w, i32_w]; rfl
   refine pure_ (i := 6) (N := (some 109)) (v := ?_) (a' := ?_) #[V, V, V, V, V, V, V, F, F, F, F, F, F, F, F, F, F, F] rfl rfl (by kernel_rfl) (fun _ _ _ h => h) (Or.inl ⟨by rfl, ?_⟩) ?_ ?_
   rotate_left
   ·
    intro w'; go_simp; rfl
   rotate_left
   ·
    simp only [Act.put, pA, pZ, pS, i64_w, i32_w]; rfl
   refine pure_ (i := 7) (N := (some 110)) (v := ?_) (a' := ?_) #[V, V, V, V, V, V, V, V, F, F, F, F, F, F, F, F, F, F] rfl rfl (by kernel_rfl) (fun _ _ _ h => h) (Or.inl ⟨by rfl, ?_⟩) ?_ ?_
   rotate_left
   ·
    intro w'; go_simp; with_reducible rfl
   rotate_left
   ·
    simp only [Act.put, pA, pZ, pS, i64_w, i32_w]; rfl
   refine pure_ (i := 8) (N := (some 111)) (v := ?_) (a' := ?_) #[V, V, V, V, V, V, V, V, V, F, F, F, F, F, F, F, F, F] rfl rfl (by kernel_rfl) (fun _ _ _ h => h) (Or.inl ⟨by rfl, ?_⟩) ?_ ?_
   rotate_left
   ·
    intro w'; go_simp; with_reducible rfl
   rotate_left
   ·
    simp only [Act.put, pA, pZ, pS, i64_w, i32_w]; rfl
   refine pure_ (i := 9) (N := (some 112)) (v := ?_) (a' := ?_) #[V, V, V, V, V, V, V, V, V, V, F, F, F, F, F, F, F, F] rfl rfl (by kernel_rfl) (fun _ _ _ h => h) (Or.inl ⟨by rfl, ?_⟩) ?_ ?_
   rotate_left
   ·
    intro w'; go_simp; with_reducible rfl
   rotate_left
   ·
    simp only [Act.put, pA, pZ, pS, i64_w, i32_w]; rfl
   refine pure_ (i := 10) (N := (some 113)) (v := ?_) (a' := ?_) #[V, V, V, V, V, V, V, V, V, V, V, F, F, F, F, F, F, F] rfl rfl (by kernel_rfl) (fun _ _ _ h => h) (Or.inl ⟨by rfl, ?_⟩) ?_ ?_
   rotate_left
   ·
    intro w'; go_simp; with_reducible rfl
   rotate_left
   ·
    simp only [Act.put, pA, pZ, pS, i64_w, i32_w]; rfl
   refine take_ (i := 11) (N := (some 114)) (v := ?_) (a' := ?_) #[V, V, V, V, V, V, V, V, V, V, V, V, F, F, F, F, F, F] rfl rfl (by kernel_rfl) (fun _ _ _ h => h) (Or.inl ⟨by rfl, ?_⟩) hHeld ?_ ?_
   rotate_left
   ·
    intro w' hS
    refine exec_load_row 24 (.tmp 3) ?_ (w.heap.size) ?_ 24 _ _ (hS.get 6 rfl) Try.underlying24 rfl size24
    ·
     rfl
    ·
     rfl
   rotate_left
   ·
    simp only [Act.put, pA, pZ, pS, i64_w, i32_w]; rfl
   refine take_ (i := 12) (N := (some 115)) (v := ?_) (a' := ?_) #[V, V, V, V, V, V, V, V, V, V, V, V, V, F, F, F, F, F] rfl rfl (by kernel_rfl) (fun _ _ _ h => h) (Or.inl ⟨by rfl, ?_⟩) hHeld ?_ ?_
   rotate_left
   ·
    intro w' hS
    refine exec_load_row 26 (.tmp 5) ?_ (w.heap.size + 1 + 1) ?_ 26 _ _ (hS.get 4 rfl) Try.underlying26 rfl size26
    ·
     rfl
    ·
     rfl
   rotate_left
   ·
    simp only [Act.put, pA, pZ, pS, i64_w, i32_w]; rfl
   refine one_ (i := 13) (N := (some 116)) #[V, V, V, V, V, V, V, V, V, V, V, V, V, V, F, F, F, F] rfl rfl (by kernel_rfl) (by decide) (fun K hK => ?_)
   refine goes_ Try.func14 (by kernel_rfl) rfl #[] (by rfl) rfl rfl (by (try simp only [pB, pC, pD]); first | done | rfl) ?_
   refine (utcZone_any _).mono ?_
   rintro e w13 ⟨rfl, hb⟩
   refine ⟨_, rfl, ?_⟩
   have hI2 := Aside0.mk (hI.out.below hb)
   clear hI hb
   have hI := hI2
   clear hI2
   refine hK.out _ _ (hI.out) (fun hHeld => ?_)
   clear hK K; refine norm_ (a' := ?_) ?_ ?_; rotate_left
   ·
    show Act.put _ (some 116) _ = _; simp only [Act.put, pA, pZ, pS, i64_w, i32_w]; rfl
   refine one_ (i := 14) (N := (some 117)) #[V, V, V, V, V, V, V, V, V, V, V, V, V, V, V, F, F, F] rfl rfl (by kernel_rfl) (by decide) (fun K hK => ?_)
   refine goes_ Try.func15 (by kernel_rfl) rfl #[.agg #[.bool false, .int .i64 dla, .int .u64 (a.s : Int), .int .u64 (a.i : Int), .int .u64 (a.h : Int), .int .u64 (a.d : Int), .int .u64 (a.m : Int), .int .u64 (a.w : Int)], .agg #[.int .i64 x, .int .i64 nn], .agg #[.slice none 0 0, .slice none 0 0, .slice none 0 0, .slice none 0 0]] (by rfl) rfl rfl (by (try simp only [pB, pC, pD]); first | done | rfl) ?_
   refine ((CN0.out (by first | exact rfl | trivial)) _).mono ?_
   rintro e w14 ⟨rfl, hb⟩
   refine ⟨_, rfl, ?_⟩
   have hI2 := Aside0.mk (hI.out.below hb)
   clear hI hb
   have hI := hI2
   clear hI2
   refine hK.out _ _ (hI.out) (fun hHeld => ?_)
   clear hK K; refine norm_ (a' := ?_) ?_ ?_; rotate_left
   ·
    show Act.put _ (some 117) _ = _; simp only [Act.put, pA, pZ, pS, i64_w, i32_w]; rfl
   refine pure_ (i := 15) (N := (some 118)) (v := ?_) (a' := ?_) #[V, V, V, V, V, V, V, V, V, V, V, V, V, V, V, V, F, F] rfl rfl (by kernel_rfl) (fun _ _ _ h => h) (Or.inl ⟨by rfl, ?_⟩) ?_ ?_
   rotate_left
   ·
    intro w'; go_simp; with_reducible rfl
   rotate_left
   ·
    simp only [Act.put, pA, pZ, pS, i64_w, i32_w]; rfl
   refine pure_ (i := 16) (N := (some 119)) (v := ?_) (a' := ?_) #[V, V, V, V, V, V, V, V, V, V, V, V, V, V, V, V, V, F] rfl rfl (by kernel_rfl) (fun _ _ _ h => h) (Or.inl ⟨by rfl, ?_⟩) ?_ ?_
   rotate_left
   ·
    intro w'; go_simp; with_reducible rfl
   rotate_left
   ·
    simp only [Act.put, pA, pZ, pS, i64_w, i32_w]; rfl
   refine pure_ (i := 17) (N := (some 6)) (v := ?_) (a' := ?_) #[V, V, V, V, V, V, V, V, V, V, V, V, V, V, V, V, V, V] rfl rfl (by kernel_rfl) (fun _ _ _ h => h) (Or.inl ⟨by rfl, ?_⟩) ?_ ?_
   rotate_left
   ·
    intro w'; go_simp; with_reducible rfl
   rotate_left
   ·
    simp only [Act.put, pA, pZ, pS, i64_w, i32_w]; rfl
   refine done_ (by kernel_rfl) ?_
   go_wp2_with fail
   go_ret
   exact ⟨rfl, hI.out.B⟩
  ·
   go_wp2_with fail
   refine start_ (n := 18) (S := Blk w [(g18, #[.int .i64 (vs), .int .i64 0], 26), (g16, #[.int .i64 (vs), .int .i64 0], 26), (g8, fv b, 32), (g7, fv a, 32), (w.heap.size + 1 + 1, #[.int .i64 x, .int .i64 nn], 26), (w.heap.size + 1, #[.bool false, .int .i64 dlb, .int .u64 (b.s : Int), .int .u64 (b.i : Int), .int .u64 (b.h : Int), .int .u64 (b.d : Int), .int .u64 (b.m : Int), .int .u64 (b.w : Int)], 24), (w.heap.size, #[.bool false, .int .i64 dla, .int .u64 (a.s : Int), .int .u64 (a.i : Int), .int .u64 (a.h : Int), .int .u64 (a.d : Int), .int .u64 (a.m : Int), .int .u64 (a.w : Int)], 24)]) (ds := []) #[F, F, F, F, F, F, F, F, F, F, F, F, F, F, F, F, F, F] (by kernel_rfl) rfl rfl (hI.out.drew) (fun hHeld => ?_)
   have hI2 := Aside0.mk hI.out.drew
   clear hI
   have hI := hI2
   clear hI2
   generalize hwd : World.drew _ = wdr at hI hHeld ⊢
   clear hwd
   refine pure_ (i := 0) (N := (some 103)) (v := ?_) (a' := ?_) #[V, F, F, F, F, F, F, F, F, F, F, F, F, F, F, F, F, F] rfl rfl (by kernel_rfl) (fun _ _ _ h => h) (Or.inl ⟨by rfl, ?_⟩) ?_ ?_
   rotate_left
   ·
    intro w'; go_simp; with_reducible rfl
   rotate_left
   ·
    simp only [Act.put, pA, pZ, pS, i64_w, i32_w]; rfl
   refine pure_ (i := 1) (N := (some 104)) (v := ?_) (a' := ?_) #[V, V, F, F, F, F, F, F, F, F, F, F, F, F, F, F, F, F] rfl rfl (by kernel_rfl) (fun _ _ _ h => h) (Or.inl ⟨by rfl, ?_⟩) ?_ ?_
   rotate_left
   ·
    intro w'; go_simp; with_reducible rfl
   rotate_left
   ·
    simp only [Act.put, pA, pZ, pS, i64_w, i32_w]; rfl
   refine pure_ (i := 2) (N := (some 105)) (v := ?_) (a' := ?_) #[V, V, V, F, F, F, F, F, F, F, F, F, F, F, F, F, F, F] rfl rfl (by kernel_rfl) (fun _ _ _ h => h) (Or.inl ⟨by rfl, ?_⟩) ?_ ?_
   rotate_left
   ·
    intro w'; go_simp; with_reducible rfl
   rotate_left
   ·
    simp only [Act.put, pA, pZ, pS, i64_w, i32_w]; rfl
   refine pure_ (i := 3) (N := (some 106)) (v := ?_) (a' := ?_) #[V, V, V, V, F, F, F, F, F, F, F, F, F, F, F, F, F, F] rfl rfl (by kernel_rfl) (fun _ _ _ h => h) (Or.inl ⟨by rfl, ?_⟩) ?_ ?_
   rotate_left
   ·
    intro w'; go_simp; with_reducible rfl
   rotate_left
   ·
    simp only [Act.put, pA, pZ, pS, i64_w, i32_w]; rfl
   refine take_ (i := 4) (N := (some 107)) (v := ?_) (a' := ?_) #[V, V, V, V, V, F, F, F, F, F, F, F, F, F, F, F, F, F] rfl rfl (by kernel_rfl) (fun _ _ _ h => h) (Or.inl ⟨by rfl, ?_⟩) hHeld ?_ ?_
   rotate_left
   ·
    intro w' hS
    refine exec_load_row 26 (.tmp 16) ?_ g16 ?_ 26 _ _ (hS.get 1 rfl) Try.underlying26 rfl size26
    ·
     rfl
    ·
     rfl
   rotate_left
   ·
    simp only [Act.put, pA, pZ, pS, i64_w, i32_w]; rfl
   refine take_ (i := 5) (N := (some 108)) (v := ?_) (a' := ?_) #[V, V, V, V, V, V, F, F, F, F, F, F, F, F, F, F, F, F] rfl rfl (by kernel_rfl) (fun _ _ _ h => h) (Or.inl ⟨by rfl, ?_⟩) hHeld ?_ ?_
   rotate_left
   ·
    intro w' hS
    refine exec_load_row 26 (.tmp 18) ?_ g18 ?_ 26 _ _ (hS.get 0 rfl) Try.underlying26 rfl size26
    ·
     rfl
    ·
     rfl
   rotate_left
   ·
    simp only [Act.put, pA, pZ, pS, i64_w, i32_w]; rfl
   refine pure_ (i := 6) (N := (some 109)) (v := ?_) (a' := ?_) #[V, V, V, V, V, V, V, F, F, F, F, F, F, F, F, F, F, F] rfl rfl (by kernel_rfl) (fun _ _ _ h => h) (Or.inl ⟨by rfl, ?_⟩) ?_ ?_
   rotate_left
   ·
    intro w'; go_simp; rfl
   rotate_left
   ·
    simp only [Act.put, pA, pZ, pS, i64_w, i32_w]; rfl
   refine pure_ (i := 7) (N := (some 110)) (v := ?_) (a' := ?_) #[V, V, V, V, V, V, V, V, F, F, F, F, F, F, F, F, F, F] rfl rfl (by kernel_rfl) (fun _ _ _ h => h) (Or.inl ⟨by rfl, ?_⟩) ?_ ?_
   rotate_left
   ·
    intro w'; go_simp; with_reducible rfl
   rotate_left
   ·
    simp only [Act.put, pA, pZ, pS, i64_w, i32_w]; rfl
   refine pure_ (i := 8) (N := (some 111)) (v := ?_) (a' := ?_) #[V, V, V, V, V, V, V, V, V, F, F, F, F, F, F, F, F, F] rfl rfl (by kernel_rfl) (fun _ _ _ h => h) (Or.inl ⟨by rfl, ?_⟩) ?_ ?_
   rotate_left
   ·
    intro w'; go_simp; with_reducible rfl
   rotate_left
   ·
    simp only [Act.put, pA, pZ, pS, i64_w, i32_w]; rfl
   refine pure_ (i := 9) (N := (some 112)) (v := ?_) (a' := ?_) #[V, V, V, V, V, V, V, V, V, V, F, F, F, F, F, F, F, F] rfl rfl (by kernel_rfl) (fun _ _ _ h => h) (Or.inl ⟨by rfl, ?_⟩) ?_ ?_
   rotate_left
   ·
    intro w'; go_simp; with_reducible rfl
   rotate_left
   ·
    simp only [Act.put, pA, pZ, pS, i64_w, i32_w]; rfl
   refine pure_ (i := 10) (N := (some 113)) (v := ?_) (a' := ?_) #[V, V, V, V, V, V, V, V, V, V, V, F, F, F, F, F, F, F] rfl rfl (by kernel_rfl) (fun _ _ _ h => h) (Or.inl ⟨by rfl, ?_⟩) ?_ ?_
   rotate_left
   ·
    intro w'; go_simp; with_reducible rfl
   rotate_left
   ·
    simp only [Act.put, pA, pZ, pS, i64_w, i32_w]; rfl
   refine take_ (i := 11) (N := (some 114)) (v := undef) (a' := ?_) #[V, V, V, V, V, V, V, V, V, V, V, V, F, F, F, F, F, F] rfl rfl (by kernel_rfl) (fun _ _ _ h => h) (Or.inr ⟨by rfl, rfl⟩) hHeld ?_ ?_
   rotate_left
   ·
    simp only [Act.put, pA, pZ, pS, i64_w, i32_w]; rfl
   refine take_ (i := 12) (N := (some 115)) (v := undef) (a' := ?_) #[V, V, V, V, V, V, V, V, V, V, V, V, V, F, F, F, F, F] rfl rfl (by kernel_rfl) (fun _ _ _ h => h) (Or.inr ⟨by rfl, rfl⟩) hHeld ?_ ?_
   rotate_left
   ·
    simp only [Act.put, pA, pZ, pS, i64_w, i32_w]; rfl
   refine one_ (i := 13) (N := (some 116)) #[V, V, V, V, V, V, V, V, V, V, V, V, V, V, F, F, F, F] rfl rfl (by kernel_rfl) (by decide) (fun K hK => ?_)
   refine off_ (by rfl) (hK.out _ _ hHeld (fun hHeld => ?_))
   clear hK K; refine norm_ (a' := ?_) ?_ ?_; rotate_left
   ·
    show Act.put _ (some 116) _ = _; simp only [Act.put, pA, pZ, pS, i64_w, i32_w]; rfl
   refine one_ (i := 14) (N := (some 117)) #[V, V, V, V, V, V, V, V, V, V, V, V, V, V, V, F, F, F] rfl rfl (by kernel_rfl) (by decide) (fun K hK => ?_)
   refine off_ (by rfl) (hK.out _ _ hHeld (fun hHeld => ?_))
   clear hK K; refine norm_ (a' := ?_) ?_ ?_; rotate_left
   ·
    show Act.put _ (some 117) _ = _; simp only [Act.put, pA, pZ, pS, i64_w, i32_w]; rfl
   refine pure_ (i := 15) (N := (some 118)) (v := ?_) (a' := ?_) #[V, V, V, V, V, V, V, V, V, V, V, V, V, V, V, V, F, F] rfl rfl (by kernel_rfl) (fun _ _ _ h => h) (Or.inl ⟨by rfl, ?_⟩) ?_ ?_
   rotate_left
   ·
    intro w'; go_simp; with_reducible rfl
   rotate_left
   ·
    simp only [Act.put, pA, pZ, pS, i64_w, i32_w]; rfl
   refine pure_ (i := 16) (N := (some 119)) (v := ?_) (a' := ?_) #[V, V, V, V, V, V, V, V, V, V, V, V, V, V, V, V, V, F] rfl rfl (by kernel_rfl) (fun _ _ _ h => h) (Or.inl ⟨by rfl, ?_⟩) ?_ ?_
   rotate_left
   ·
    intro w'; go_simp; with_reducible rfl
   rotate_left
   ·
    simp only [Act.put, pA, pZ, pS, i64_w, i32_w]; rfl
   refine pure_ (i := 17) (N := (some 6)) (v := ?_) (a' := ?_) #[V, V, V, V, V, V, V, V, V, V, V, V, V, V, V, V, V, V] rfl rfl (by kernel_rfl) (fun _ _ _ h => h) (Or.inl ⟨by rfl, ?_⟩) ?_ ?_
   rotate_left
   ·
    intro w'; go_simp; with_reducible rfl
   rotate_left
   ·
    simp only [Act.put, pA, pZ, pS, i64_w, i32_w]; rfl
   refine done_ (by kernel_rfl) ?_
   go_wp2_with fail
   go_ret
   exact ⟨rfl, hI.out.B⟩
 ·
  have HNE : Aside0 (fB a X ≠ fB b X) := ⟨HR.out.yes rfl⟩
  have X0 := HR.out.lo
  have X1 := HR.out.hi
  obtain ⟨gq, hgq⟩ := good_any (X - 1)
  have HGD := Aside0.mk hgq
  clear hgq
  have e1 : wrap64 (X - 1) = X - 1 := w64_in _ (by omega) (by omega)
  go_upto_region 7 with (go_at_call 19; (with_reducible refine (whole_c (X - 1) _).mono ?_); rintro e wu ⟨rfl, hb⟩; have hI2 := Aside0.mk (hI.out.below hb); clear hI hb; have hI := hI2; clear hI2)
  have hI2 := Aside0.mk (hI.out.alloc #[.int .i64 (X - 1), .int .i64 0] 26)
  clear hI
  have hI := hI2
  clear hI2
  generalize hga : World.alloc _ _ = wu1 at hI ⊢
  clear hga
  generalize hgb : wu.heap.size = g11 at hI ⊢
  clear hgb
  cases gq
  ·
   go_wp2_with (first | ((with_reducible refine wpList_isCons ?_); refine wpList_load_row rfl 26 (.tmp 11) rfl (g11) rfl 26 _ (0, 0) _ (hI.out.get 0 rfl) Try.underlying26 rfl size26 ?_) | (go_at_call 23; (with_reducible refine (good_c (X - 1) _ _ HGD.out).mono ?_); rintro e wg ⟨rfl, hb⟩; have hI2 := Aside0.mk (hI.out.below hb); clear hI hb; have hI := hI2; clear hI2))
   go_ret
   exact ⟨rfl, hI.out.B⟩
  ·
   have HU := Aside0.mk (good_yes HGD.out)
   have CNA : Aside0 (∀ w', Calls Try.prog 13 #[.agg #[.bool false, .int .i64 dla, .int .u64 (a.s : Int), .int .u64 (a.i : Int), .int .u64 (a.h : Int), .int .u64 (a.d : Int), .int .u64 (a.m : Int), .int .u64 (a.w : Int)], .agg #[.int .i64 (X - 1), .int .i64 0], .agg #[.slice none 0 0, .slice none 0 0, .slice none 0 0, .slice none 0 0]] w' fun e w'' => e = .returned (.tuple #[.agg #[.int .i64 (nS a (X - 1)), .int .i64 0], .bool (nF a (X - 1))]) ∧ Below w'.heap.size w' w'') := ⟨fun w' => implNext_nx a dla (X - 1) 0 w' HWA.out (by decide) (by decide) HU.out.1 HU.out.2⟩
   have CNB : Aside0 (∀ w', Calls Try.prog 13 #[.agg #[.bool false, .int .i64 dlb, .int .u64 (b.s : Int), .int .u64 (b.i : Int), .int .u64 (b.h : Int), .int .u64 (b.d : Int), .int .u64 (b.m : Int), .int .u64 (b.w : Int)], .agg #[.int .i64 (X - 1), .int .i64 0], .agg #[.slice none 0 0, .slice none 0 0, .slice none 0 0, .slice none 0 0]] w' fun e w'' => e = .returned (.tuple #[.agg #[.int .i64 (nS b (X - 1)), .int .i64 0], .bool (nF b (X - 1))]) ∧ Below w'.heap.size w' w'') := ⟨fun w' => implNext_nx b dlb (X - 1) 0 w' HWB.out (by decide) (by decide) HU.out.1 HU.out.2⟩
   have HN2 : Aside0 ((nF a (X - 1) && (nS a (X - 1) == X)) ≠ (nF b (X - 1) && (nS b (X - 1) == X))) := ⟨by rw [at_bool, at_bool]; exact HNE.out⟩
   generalize nS a (X - 1) = va at CNA HN2
   generalize nF a (X - 1) = qa at CNA HN2
   generalize nS b (X - 1) = vb at CNB HN2
   generalize nF b (X - 1) = qb at CNB HN2
   go_wp2_with (first | ((with_reducible refine wpList_isCons ?_); refine wpList_load_row rfl 26 (.tmp 11) rfl (g11) rfl 26 _ (0, 0) _ (hI.out.get 0 rfl) Try.underlying26 rfl size26 ?_) | (go_at_call 23; (with_reducible refine (good_c (X - 1) _ _ HGD.out).mono ?_); rintro e wg ⟨rfl, hb⟩; have hI2 := Aside0.mk (hI.out.below hb); clear hI hb; have hI := hI2; clear hI2))
   refine region_split (fun g => [(51, .agg #[.bool false, .int .i64 dla, .int .u64 (a.s : Int), .int .u64 (a.i : Int), .int .u64 (a.h : Int), .int .u64 (a.d : Int), .int .u64 (a.m : Int), .int .u64 (a.w : Int)]), (52, .agg #[.int .i64 (X - 1), .int .i64 0]), (53, .agg #[.slice none 0 0, .slice none 0 0, .slice none 0 0, .slice none 0 0]), (54, .tuple #[.agg #[.int .i64 (va), .int .i64 0], .bool (qa)]), (50, .tuple #[.agg #[.int .i64 (va), .int .i64 0], .bool (qa)]), (55, .agg #[.int .i64 (va), .int .i64 0]), (56, .bool (qa)), (12, .pointer (some ⟨g, 0, none⟩)), (13, .bool (qa))]) (fun g w' => Blk w ((g, #[.int .i64 (va), .int .i64 0], 26) :: [(g11, #[.int .i64 (X - 1), .int .i64 0], 26), (g8, fv b, 32), (g7, fv a, 32), (w.heap.size + 1 + 1, #[.int .i64 x, .int .i64 nn], 26), (w.heap.size + 1, #[.bool false, .int .i64 dlb, .int .u64 (b.s : Int), .int .u64 (b.i : Int), .int .u64 (b.h : Int), .int .u64 (b.d : Int), .int .u64 (b.m : Int), .int .u64 (b.w : Int)], 24), (w.heap.size, #[.bool false, .int .i64 dla, .int .u64 (a.s : Int), .int .u64 (a.i : Int), .int .u64 (a.h : Int), .int .u64 (a.d : Int), .int .u64 (a.m : Int), .int .u64 (a.w : Int)], 24)]) w') ?_ ?_
   ·
    refine start_ (n := 10) (S := Blk w [(g11, #[.int .i64 (X - 1), .int .i64 0], 26), (g8, fv b, 32), (g7, fv a, 32), (w.heap.size + 1 + 1, #[.int .i64 x, .int .i64 nn], 26), (w.heap.size + 1, #[.bool false, .int .i64 dlb, .int .u64 (b.s : Int), .int .u64 (b.i : Int), .int .u64 (b.h : Int), .int .u64 (b.d : Int), .int .u64 (b.m : Int), .int .u64 (b.w : Int)], 24), (w.heap.size, #[.bool false, .int .i64 dla, .int .u64 (a.s : Int), .int .u64 (a.i : Int), .int .u64 (a.h : Int), .int .u64 (a.d : Int), .int .u64 (a.m : Int), .int .u64 (a.w : Int)], 24)]) (ds := []) #[F, F, F, F, F, F, F, F, F, F] (by kernel_rfl) rfl rfl (hI.out.drew) (fun hHeld => ?_)
    have hI2 := Aside0.mk hI.out.drew
    clear hI
    have hI := hI2
    clear hI2
    generalize hwd : World.drew _ = wdr at hI hHeld ⊢
    clear hwd
    refine take_ (i := 0) (N := (some 51)) (v := ?_) (a' := ?_) #[V, F, F, F, F, F, F, F, F, F] rfl rfl (by kernel_rfl) (fun _ _ _ => only_shut) (Or.inl ⟨by rfl, ?_⟩) hHeld ?_ ?_
    rotate_left
    ·
     intro w' hS
     refine exec_load_row 24 (.tmp 3) ?_ (w.heap.size) ?_ 24 _ _ (hS.get 5 rfl) Try.underlying24 rfl size24
     ·
      rfl
     ·
      rfl
    rotate_left
    ·
     simp only [Act.put, pA, pZ, pS, i64_w, i32_w]; rfl
    refine take_ (i := 1) (N := (some 52)) (v := ?_) (a' := ?_) #[V, V, F, F, F, F, F, F, F, F] rfl rfl (by kernel_rfl) (fun _ _ _ => only_shut) (Or.inl ⟨by rfl, ?_⟩) hHeld ?_ ?_
    rotate_left
    ·
     intro w' hS
     refine exec_load_row 26 (.tmp 11) ?_ g11 ?_ 26 _ _ (hS.get 0 rfl) Try.underlying26 rfl size26
     ·
      rfl
     ·
      rfl
    rotate_left
    ·
     simp only [Act.put, pA, pZ, pS, i64_w, i32_w]; rfl
    refine two_ (i := 2) (j := 7) (Ni := (some 53)) (Nj := (some 12)) #[V, V, V, F, F, F, F, F, F, F] #[V, V, F, F, F, F, F, V, F, F] rfl rfl rfl rfl (by kernel_rfl) (by decide) (by decide) (fun K hK => ?_) (fun K hK => ?_)
    ·
     refine goes_ Try.func14 (by kernel_rfl) rfl #[] (by rfl) rfl rfl (by (try simp only [pB, pC, pD]); first | done | rfl) ?_
     refine (utcZone_any _).mono ?_
     rintro e wc2 ⟨rfl, hb⟩
     refine ⟨_, rfl, ?_⟩
     have hI2 := Aside0.mk (hI.out.below hb)
     clear hI hb
     have hI := hI2
     clear hI2
     refine hK.out _ _ (hI.out) (fun hHeld => ?_)
     clear hK K; refine norm_ (a' := ?_) ?_ ?_; rotate_left
     ·
      show Act.put _ (some 53) _ = _; simp only [Act.put, pA, pZ, pS, i64_w, i32_w]; rfl
     refine two_ (i := 3) (j := 7) (Ni := (some 54)) (Nj := (some 12)) #[V, V, V, V, F, F, F, F, F, F] #[V, V, V, F, F, F, F, V, F, F] rfl rfl rfl rfl (by kernel_rfl) (by decide) (by decide) (fun K hK => ?_) (fun K hK => ?_)
     ·
      refine goes_ Try.func13 (by kernel_rfl) rfl #[.agg #[.bool false, .int .i64 dla, .int .u64 (a.s : Int), .int .u64 (a.i : Int), .int .u64 (a.h : Int), .int .u64 (a.d : Int), .int .u64 (a.m : Int), .int .u64 (a.w : Int)], .agg #[.int .i64 (X - 1), .int .i64 0], .agg #[.slice none 0 0, .slice none 0 0, .slice none 0 0, .slice none 0 0]] (by rfl) rfl rfl (by (try simp only [pB, pC, pD]); first | done | rfl) ?_
      refine (CNA.out _).mono ?_
      rintro e wc3 ⟨rfl, hb⟩
      refine ⟨_, rfl, ?_⟩
      have hI2 := Aside0.mk (hI.out.below hb)
      clear hI hb
      have hI := hI2
      clear hI2
      refine hK.out _ _ (hI.out) (fun hHeld => ?_)
      clear hK K; refine norm_ (a' := ?_) ?_ ?_; rotate_left
      ·
       show Act.put _ (some 54) _ = _; simp only [Act.put, pA, pZ, pS, i64_w, i32_w]; rfl
      refine pure_ (i := 4) (N := (some 50)) (v := ?_) (a' := ?_) #[V, V, V, V, V, F, F, F, F, F] rfl rfl (by kernel_rfl) (fun _ _ _ => only_shut) (Or.inl ⟨by rfl, ?_⟩) ?_ ?_
      rotate_left
      ·
       intro w'; go_simp; with_reducible rfl
      rotate_left
      ·
       simp only [Act.put, pA, pZ, pS, i64_w, i32_w]; rfl
      refine pure_ (i := 5) (N := (some 55)) (v := ?_) (a' := ?_) #[V, V, V, V, V, V, F, F, F, F] rfl rfl (by kernel_rfl) (fun _ _ _ => only_shut) (Or.inl ⟨by rfl, ?_⟩) ?_ ?_
      rotate_left
      ·
       intro w'; go_simp; with_reducible rfl
      rotate_left
      ·
       simp only [Act.put, pA, pZ, pS, i64_w, i32_w]; rfl
      refine pure_ (i := 6) (N := (some 56)) (v := ?_) (a' := ?_) #[V, V, V, V, V, V, V, F, F, F] rfl rfl (by kernel_rfl) (fun _ _ _ => only_shut) (Or.inl ⟨by rfl, ?_⟩) ?_ ?_
      rotate_left
      ·
       intro w'; go_simp; with_reducible rfl
      rotate_left
      ·
       simp only [Act.put, pA, pZ, pS, i64_w, i32_w]; rfl
      refine one_ (i := 7) (N := (some 12)) #[V, V, V, V, V, V, V, V, F, F] rfl rfl (by kernel_rfl) (by decide) (fun K hK => ?_)
      refine value_ (by rfl) rfl (alloc26 _ _ rfl _) ?_
      have hA := Aside0.mk (hI.out.alloc #[.int .i64 0, .int .i64 0] 26)
      clear hI
      generalize hga : World.alloc _ _ = wa at hA ⊢
      clear hga
      generalize hgb : wc3.heap.size = g at hA ⊢
      clear hgb
      refine hK.out _ _ (hA.out.tail) (fun hHeld => ?_)
      clear hK K; refine norm_ (a' := ?_) ?_ ?_; rotate_left
      ·
       show Act.put _ (some 12) _ = _; simp only [Act.put, pA, pZ, pS, i64_w, i32_w]; rfl
      refine one_ (i := 8) (N := none) #[V, V, V, V, V, V, V, V, V, F] rfl rfl (by kernel_rfl) (by decide) (fun K hK => ?_)
      refine skip_ (by rfl) rfl (exec_store_row 26 (.tmp 12) (.tmp 55) rfl g #[.int .i64 (va), .int .i64 0] rfl rfl 26 _ (hA.out.get 0 rfl) size26 (sz2 _ _ _ _) (one2 _ _)) ?_
      have hA2 := Aside0.mk (hA.out.row #[.int .i64 (va), .int .i64 0])
      clear hA
      have hA := hA2
      clear hA2
      generalize hgs : World.setRow _ _ _ = ws at hA ⊢
      clear hgs
      refine hK.out _ _ (hA.out.tail) (fun hHeld => ?_)
      clear hK K
      refine pure_ (i := 9) (N := (some 13)) (v := ?_) (a' := ?_) #[V, V, V, V, V, V, V, V, V, V] rfl rfl (by kernel_rfl) (fun _ _ _ => only_shut) (Or.inl ⟨by rfl, ?_⟩) ?_ ?_
      rotate_left
      ·
       intro w'; go_simp; with_reducible rfl
      rotate_left
      ·
       simp only [Act.put, pA, pZ, pS, i64_w, i32_w]; rfl
      refine done_ (by kernel_rfl) ?_
      refine ⟨rfl, g, ?_, hA.out⟩
      simp only [putAll, Act.put, pA, pZ, pS]
     ·
      refine value_ (by rfl) rfl (alloc26 _ _ rfl _) ?_
      have hA := Aside0.mk (hI.out.alloc #[.int .i64 0, .int .i64 0] 26)
      clear hI
      generalize hga : World.alloc _ _ = wa at hA ⊢
      clear hga
      generalize hgb : wc2.heap.size = g at hA ⊢
      clear hgb
      refine hK.out _ _ (hA.out.tail) (fun hHeld => ?_)
      clear hK K; refine norm_ (a' := ?_) ?_ ?_; rotate_left
      ·
       show Act.put _ (some 12) _ = _; simp only [Act.put, pA, pZ, pS, i64_w, i32_w]; rfl
      refine one_ (i := 3) (N := (some 54)) #[V, V, V, V, F, F, F, V, F, F] rfl rfl (by kernel_rfl) (by decide) (fun K hK => ?_)
      refine goes_ Try.func13 (by kernel_rfl) rfl #[.agg #[.bool false, .int .i64 dla, .int .u64 (a.s : Int), .int .u64 (a.i : Int), .int .u64 (a.h : Int), .int .u64 (a.d : Int), .int .u64 (a.m : Int), .int .u64 (a.w : Int)], .agg #[.int .i64 (X - 1), .int .i64 0], .agg #[.slice none 0 0, .slice none 0 0, .slice none 0 0, .slice none 0 0]] (by rfl) rfl rfl (by (try simp only [pB, pC, pD]); first | done | rfl) ?_
      refine (CNA.out _).mono ?_
      rintro e wc3 ⟨rfl, hb⟩
      refine ⟨_, rfl, ?_⟩
      have hA2 := Aside0.mk (hA.out.below hb)
      clear hA hb
      have hA := hA2
      clear hA2
      refine hK.out _ _ (hA.out.tail) (fun hHeld => ?_)
      clear hK K; refine norm_ (a' := ?_) ?_ ?_; rotate_left
      ·
       show Act.put _ (some 54) _ = _; simp only [Act.put, pA, pZ, pS, i64_w, i32_w]; rfl
      refine pure_ (i := 4) (N := (some 50)) (v := ?_) (a' := ?_) #[V, V, V, V, V, F, F, V, F, F] rfl rfl (by kernel_rfl) (fun _ _ _ => only_shut) (Or.inl ⟨by rfl, ?_⟩) ?_ ?_
      rotate_left
      ·
       intro w'; go_simp; with_reducible rfl
      rotate_left
      ·
       simp only [Act.put, pA, pZ, pS, i64_w, i32_w]; rfl
      refine pure_ (i := 5) (N := (some 55)) (v := ?_) (a' := ?_) #[V, V, V, V, V, V, F, V, F, F] rfl rfl (by kernel_rfl) (fun _ _ _ => only_shut) (Or.inl ⟨by rfl, ?_⟩) ?_ ?_
      rotate_left
      ·
       intro w'; go_simp; with_reducible rfl
      rotate_left
      ·
       simp only [Act.put, pA, pZ, pS, i64_w, i32_w]; rfl
      refine pure_ (i := 6) (N := (some 56)) (v := ?_) (a' := ?_) #[V, V, V, V, V, V, V, V, F, F] rfl rfl (by kernel_rfl) (fun _ _ _ => only_shut) (Or.inl ⟨by rfl, ?_⟩) ?_ ?_
      rotate_left
      ·
       intro w'; go_simp; with_reducible rfl
      rotate_left
      ·
       simp only [Act.put, pA, pZ, pS, i64_w, i32_w]; rfl
      refine one_ (i := 8) (N := none) #[V, V, V, V, V, V, V, V, V, F] rfl rfl (by kernel_rfl) (by decide) (fun K hK => ?_)
      refine skip_ (by rfl) rfl (exec_store_row 26 (.tmp 12) (.tmp 55) rfl g #[.int .i64 (va), .int .i64 0] rfl rfl 26 _ (hA.out.get 0 rfl) size26 (sz2 _ _ _ _) (one2 _ _)) ?_
      have hA2 := Aside0.mk (hA.out.row #[.int .i64 (va), .int .i64 0])
      clear hA
      have hA := hA2
      clear hA2
      generalize hgs : World.setRow _ _ _ = ws at hA ⊢
      clear hgs
      refine hK.out _ _ (hA.out.tail) (fun hHeld => ?_)
      clear hK K
      refine pure_ (i := 9) (N := (some 13)) (v := ?_) (a' := ?_) #[V, V, V, V, V, V, V, V, V, V] rfl rfl (by kernel_rfl) (fun _ _ _ => only_shut) (Or.inl ⟨by rfl, ?_⟩) ?_ ?_
      rotate_left
      ·
       intro w'; go_simp; with_reducible rfl
      rotate_left
      ·
       simp only [Act.put, pA, pZ, pS, i64_w, i32_w]; rfl
      refine done_ (by kernel_rfl) ?_
      refine ⟨rfl, g, ?_, hA.out⟩
      simp only [putAll, Act.put, pA, pZ, pS]
    ·
     refine value_ (by rfl) rfl (alloc26 _ _ rfl _) ?_
     have hA := Aside0.mk (hI.out.alloc #[.int .i64 0, .int .i64 0] 26)
     clear hI
     generalize hga : World.alloc _ _ = wa at hA ⊢
     clear hga
     generalize hgb : wdr.heap.size = g at hA ⊢
     clear hgb
     refine hK.out _ _ (hA.out.tail) (fun hHeld => ?_)
     clear hK K; refine norm_ (a' := ?_) ?_ ?_; rotate_left
     ·
      show Act.put _ (some 12) _ = _; simp only [Act.put, pA, pZ, pS, i64_w, i32_w]; rfl
     refine one_ (i := 2) (N := (some 53)) #[V, V, V, F, F, F, F, V, F, F] rfl rfl (by kernel_rfl) (by decide) (fun K hK => ?_)
     refine goes_ Try.func14 (by kernel_rfl) rfl #[] (by rfl) rfl rfl (by (try simp only [pB, pC, pD]); first | done | rfl) ?_
     refine (utcZone_any _).mono ?_
     rintro e wc2 ⟨rfl, hb⟩
     refine ⟨_, rfl, ?_⟩
     have hA2 := Aside0.mk (hA.out.below hb)
     clear hA hb
     have hA := hA2
     clear hA2
     refine hK.out _ _ (hA.out.tail) (fun hHeld => ?_)
     clear hK K; refine norm_ (a' := ?_) ?_ ?_; rotate_left
     ·
      show Act.put _ (some 53) _ = _; simp only [Act.put, pA, pZ, pS, i64_w, i32_w]; rfl
     refine one_ (i := 3) (N := (some 54)) #[V, V, V, V, F, F, F, V, F, F] rfl rfl (by kernel_rfl) (by decide) (fun K hK => ?_)
     refine goes_ Try.func13 (by kernel_rfl) rfl #[.agg #[.bool false, .int .i64 dla, .int .u64 (a.s : Int), .int .u64 (a.i : Int), .int .u64 (a.h : Int), .int .u64 (a.d : Int), .int .u64 (a.m : Int), .int .u64 (a.w : Int)], .agg #[.int .i64 (X - 1), .int .i64 0], .agg #[.slice none 0 0, .slice none 0 0, .slice none 0 0, .slice none 0 0]] (by rfl) rfl rfl (by (try simp only [pB, pC, pD]); first | done | rfl) ?_
     refine (CNA.out _).mono ?_
     rintro e wc3 ⟨rfl, hb⟩
     refine ⟨_, rfl, ?_⟩
     have hA2 := Aside0.mk (hA.out.below hb)
     clear hA hb
     have hA := hA2
     clear hA2
     refine hK.out _ _ (hA.out.tail) (fun hHeld => ?_)
     clear hK K; refine norm_ (a' := ?_) ?_ ?_; rotate_left
     ·
      show Act.put _ (some 54) _ = _; simp only [Act.put, pA, pZ, pS, i64_w, i32_w]; rfl
     refine pure_ (i := 4) (N := (some 50)) (v := ?_) (a' := ?_) #[V, V, V, V, V, F, F, V, F, F] rfl rfl (by kernel_rfl) (fun _ _ _ => only_shut) (Or.inl ⟨by rfl, ?_⟩) ?_ ?_
     rotate_left
     ·
      intro w'; go_simp; with_reducible rfl
     rotate_left
     ·
      simp only [Act.put, pA, pZ, pS, i64_w, i32_w]; rfl
     refine pure_ (i := 5) (N := (some 55)) (v := ?_) (a' := ?_) #[V, V, V, V, V, V, F, V, F, F] rfl rfl (by kernel_rfl) (fun _ _ _ => only_shut) (Or.inl ⟨by rfl, ?_⟩) ?_ ?_
     rotate_left
     ·
      intro w'; go_simp; with_reducible rfl
     rotate_left
     ·
      simp only [Act.put, pA, pZ, pS, i64_w, i32_w]; rfl
     refine pure_ (i := 6) (N := (some 56)) (v := ?_) (a' := ?_) #[V, V, V, V, V, V, V, V, F, F] rfl rfl (by kernel_rfl) (fun _ _ _ => only_shut) (Or.inl ⟨by rfl, ?_⟩) ?_ ?_
     rotate_left
     ·
      intro w'; go_simp; with_reducible rfl
     rotate_left
     ·
      simp only [Act.put, pA, pZ, pS, i64_w, i32_w]; rfl
     refine one_ (i := 8) (N := none) #[V, V, V, V, V, V, V, V, V, F] rfl rfl (by kernel_rfl) (by decide) (fun K hK => ?_)
     refine skip_ (by rfl) rfl (exec_store_row 26 (.tmp 12) (.tmp 55) rfl g #[.int .i64 (va), .int .i64 0] rfl rfl 26 _ (hA.out.get 0 rfl) size26 (sz2 _ _ _ _) (one2 _ _)) ?_
     have hA2 := Aside0.mk (hA.out.row #[.int .i64 (va), .int .i64 0])
     clear hA
     have hA := hA2
     clear hA2
     generalize hgs : World.setRow _ _ _ = ws at hA ⊢
     clear hgs
     refine hK.out _ _ (hA.out.tail) (fun hHeld => ?_)
     clear hK K
     refine pure_ (i := 9) (N := (some 13)) (v := ?_) (a' := ?_) #[V, V, V, V, V, V, V, V, V, V] rfl rfl (by kernel_rfl) (fun _ _ _ => only_shut) (Or.inl ⟨by rfl, ?_⟩) ?_ ?_
     rotate_left
     ·
      intro w'; go_simp; with_reducible rfl
     rotate_left
     ·
      simp only [Act.put, pA, pZ, pS, i64_w, i32_w]; rfl
     refine done_ (by kernel_rfl) ?_
     refine ⟨rfl, g, ?_, hA.out⟩
     simp only [putAll, Act.put, pA, pZ, pS]
   clear hI
   intro g12 wng12 hI0
   have hI := Aside0.mk hI0
   clear hI0
   simp only [putAll, Act.put, pA, pZ, pS]
   go_wp2_with fail
   refine region_split (fun g => [(58, .agg #[.bool false, .int .i64 dlb, .int .u64 (b.s : Int), .int .u64 (b.i : Int), .int .u64 (b.h : Int), .int .u64 (b.d : Int), .int .u64 (b.m : Int), .int .u64 (b.w : Int)]), (59, .agg #[.int .i64 (X - 1), .int .i64 0]), (60, .agg #[.slice none 0 0, .slice none 0 0, .slice none 0 0, .slice none 0 0]), (61, .tuple #[.agg #[.int .i64 (vb), .int .i64 0], .bool (qb)]), (57, .tuple #[.agg #[.int .i64 (vb), .int .i64 0], .bool (qb)]), (62, .agg #[.int .i64 (vb), .int .i64 0]), (63, .bool (qb)), (14, .pointer (some ⟨g, 0, none⟩)), (15, .bool (qb))]) (fun g w' => Blk w ((g, #[.int .i64 (vb), .int .i64 0], 26) :: [(g12, #[.int .i64 (va), .int .i64 0], 26), (g11, #[.int .i64 (X - 1), .int .i64 0], 26), (g8, fv b, 32), (g7, fv a, 32), (w.heap.size + 1 + 1, #[.int .i64 x, .int .i64 nn], 26), (w.heap.size + 1, #[.bool false, .int .i64 dlb, .int .u64 (b.s : Int), .int .u64 (b.i : Int), .int .u64 (b.h : Int), .int .u64 (b.d : Int), .int .u64 (b.m : Int), .int .u64 (b.w : Int)], 24), (w.heap.size, #[.bool false, .int .i64 dla, .int .u64 (a.s : Int), .int .u64 (a.i : Int), .int .u64 (a.h : Int), .int .u64 (a.d : Int), .int .u64 (a.m : Int), .int .u64 (a.w : Int)], 24)]) w') ?_ ?_
   ·
    refine start_ (n := 10) (S := Blk w [(g12, #[.int .i64 (va), .int .i64 0], 26), (g11, #[.int .i64 (X - 1), .int .i64 0], 26), (g8, fv b, 32), (g7, fv a, 32), (w.heap.size + 1 + 1, #[.int .i64 x, .int .i64 nn], 26), (w.heap.size + 1, #[.bool false, .int .i64 dlb, .int .u64 (b.s : Int), .int .u64 (b.i : Int), .int .u64 (b.h : Int), .int .u64 (b.d : Int), .int .u64 (b.m : Int), .int .u64 (b.w : Int)], 24), (w.heap.size, #[.bool false, .int .i64 dla, .int .u64 (a.s : Int), .int .u64 (a.i : Int), .int .u64 (a.h : Int), .int .u64 (a.d : Int), .int .u64 (a.m : Int), .int .u64 (a.w : Int)], 24)]) (ds := []) #[F, F, F, F, F, F, F, F, F, F] (by kernel_rfl) rfl rfl (hI.out.drew) (fun hHeld => ?_)
    have hI2 := Aside0.mk hI.out.drew
    clear hI
    have hI := hI2
    clear hI2
    generalize hwd : World.drew _ = wdr at hI hHeld ⊢
    clear hwd
    refine take_ (i := 0) (N := (some 58)) (v := ?_) (a' := ?_) #[V, F, F, F, F, F, F, F, F, F] rfl rfl (by kernel_rfl) (fun _ _ _ => only_shut) (Or.inl ⟨by rfl, ?_⟩) hHeld ?_ ?_
    rotate_left
    ·
     intro w' hS
     refine exec_load_row 24 (.tmp 4) ?_ (w.heap.size + 1) ?_ 24 _ _ (hS.get 5 rfl) Try.underlying24 rfl size24
     ·
      rfl
     ·
      rfl
    rotate_left
    ·
     simp only [Act.put, pA, pZ, pS, i64_w, i32_w]; rfl
    refine take_ (i := 1) (N := (some 59)) (v := ?_) (a' := ?_) #[V, V, F, F, F, F, F, F, F, F] rfl rfl (by kernel_rfl) (fun _ _ _ => only_shut) (Or.inl ⟨by rfl, ?_⟩) hHeld ?_ ?_
    rotate_left
    ·
     intro w' hS
     refine exec_load_row 26 (.tmp 11) ?_ g11 ?_ 26 _ _ (hS.get 1 rfl) Try.underlying26 rfl size26
     ·
      rfl
     ·
      rfl
    rotate_left
    ·
     simp only [Act.put, pA, pZ, pS, i64_w, i32_w]; rfl
    refine two_ (i := 2) (j := 7) (Ni := (some 60)) (Nj := (some 14)) #[V, V, V, F, F, F, F, F, F, F] #[V, V, F, F, F, F, F, V, F, F] rfl rfl rfl rfl (by kernel_rfl) (by decide) (by decide) (fun K hK => ?_) (fun K hK => ?_)
    ·
     refine goes_ Try.func14 (by kernel_rfl) rfl #[] (by rfl) rfl rfl (by (try simp only [pB, pC, pD]); first | done | rfl) ?_
     refine (utcZone_any _).mono ?_
     rintro e wc2 ⟨rfl, hb⟩
     refine ⟨_, rfl, ?_⟩
     have hI2 := Aside0.mk (hI.out.below hb)
     clear hI hb
     have hI := hI2
     clear hI2
     refine hK.out _ _ (hI.out) (fun hHeld => ?_)
     clear hK K; refine norm_ (a' := ?_) ?_ ?_; rotate_left
     ·
      show Act.put _ (some 60) _ = _; simp only [Act.put, pA, pZ, pS, i64_w, i32_w]; rfl
     refine two_ (i := 3) (j := 7) (Ni := (some 61)) (Nj := (some 14)) #[V, V, V, V, F, F, F, F, F, F] #[V, V, V, F, F, F, F, V, F, F] rfl rfl rfl rfl (by kernel_rfl) (by decide) (by decide) (fun K hK => ?_) (fun K hK => ?_)
     ·
      refine goes_ Try.func13 (by kernel_rfl) rfl #[.agg #[.bool false, .int .i64 dlb, .int .u64 (b.s : Int), .int .u64 (b.i : Int), .int .u64 (b.h : Int), .int .u64 (b.d : Int), .int .u64 (b.m : Int), .int .u64 (b.w : Int)], .agg #[.int .i64 (X - 1), .int .i64 0], .agg #[.slice none 0 0, .slice none 0 0, .slice none 0 0, .slice none 0 0]] (by rfl) rfl rfl (by (try simp only [pB, pC, pD]); first | done | rfl) ?_
      refine (CNB.out _).mono ?_
      rintro e wc3 ⟨rfl, hb⟩
      refine ⟨_, rfl, ?_⟩
      have hI2 := Aside0.mk (hI.out.below hb)
      clear hI hb
      have hI := hI2
      clear hI2
      refine hK.out _ _ (hI.out) (fun hHeld => ?_)
      clear hK K; refine norm_ (a' := ?_) ?_ ?_; rotate_left
      ·
       show Act.put _ (some 61) _ = _; simp only [Act.put, pA, pZ, pS, i64_w, i32_w]; rfl
      refine pure_ (i := 4) (N := (some 57)) (v := ?_) (a' := ?_) #[V, V, V, V, V, F, F, F, F, F] rfl rfl (by kernel_rfl) (fun _ _ _ => only_shut) (Or.inl ⟨by rfl, ?_⟩) ?_ ?_
      rotate_left
      ·
       intro w'; go_simp; with_reducible rfl
      rotate_left
      ·
       simp only [Act.put, pA, pZ, pS, i64_w, i32_w]; rfl
      refine pure_ (i := 5) (N := (some 62)) (v := ?_) (a' := ?_) #[V, V, V, V, V, V, F, F, F, F] rfl rfl (by kernel_rfl) (fun _ _ _ => only_shut) (Or.inl ⟨by rfl, ?_⟩) ?_ ?_
      rotate_left
      ·
       intro w'; go_simp; with_reducible rfl
      rotate_left
      ·
       simp only [Act.put, pA, pZ, pS, i64_w, i32_w]; rfl
      refine pure_ (i := 6) (N := (some 63)) (v := ?_) (a' := ?_) #[V, V, V, V, V, V, V, F, F, F] rfl rfl (by kernel_rfl) (fun _ _ _ => only_shut) (Or.inl ⟨by rfl, ?_⟩) ?_ ?_
      rotate_left
      ·
       intro w'; go_simp; with_reducible rfl
      rotate_left
      ·
       simp only [Act.put, pA, pZ, pS, i64_w, i32_w]; rfl
      refine one_ (i := 7) (N := (some 14)) #[V, V, V, V, V, V, V, V, F, F] rfl rfl (by kernel_rfl) (by decide) (fun K hK => ?_)
      refine value_ (by rfl) rfl (alloc26 _ _ rfl _) ?_
      have hA := Aside0.mk (hI.out.alloc #[.int .i64 0, .int .i64 0] 26)
      clear hI
      generalize hga : World.alloc _ _ = wa at hA ⊢
      clear hga
      generalize hgb : wc3.heap.size = g at hA ⊢
      clear hgb
      refine hK.out _ _ (hA.out.tail) (fun hHeld => ?_)
      clear hK K; refine norm_ (a' := ?_) ?_ ?_; rotate_left
      ·
       show Act.put _ (some 14) _ = _; simp only [Act.put, pA, pZ, pS, i64_w, i32_w]; rfl
      refine one_ (i := 8) (N := none) #[V, V, V, V, V, V, V, V, V, F] rfl rfl (by kernel_rfl) (by decide) (fun K hK => ?_)
      refine skip_ (by rfl) rfl (exec_store_row 26 (.tmp 14) (.tmp 62) rfl g #[.int .i64 (vb), .int .i64 0] rfl rfl 26 _ (hA.out.get 0 rfl) size26 (sz2 _ _ _ _) (one2 _ _)) ?_
      have hA2 := Aside0.mk (hA.out.row #[.int .i64 (vb), .int .i64 0])
      clear hA
      have hA := hA2
      clear hA2
      generalize hgs : World.setRow _ _ _ = ws at hA ⊢
      clear hgs
      refine hK.out _ _ (hA.out.tail) (fun hHeld => ?_)
      clear hK K
      refine pure_ (i := 9) (N := (some 15)) (v := ?_) (a' := ?_) #[V, V, V, V, V, V, V, V, V, V] rfl rfl (by kernel_rfl) (fun _ _ _ => only_shut) (Or.inl ⟨by rfl, ?_⟩) ?_ ?_
      rotate_left
      ·
       intro w'; go_simp; with_reducible rfl
      rotate_left
      ·
       simp only [Act.put, pA, pZ, pS, i64_w, i32_w]; rfl
      refine done_ (by kernel_rfl) ?_
      refine ⟨rfl, g, ?_, hA.out⟩
      simp only [putAll, Act.put, pA, pZ, pS]
     ·
      refine value_ (by rfl) rfl (alloc26 _ _ rfl _) ?_
      have hA := Aside0.mk (hI.out.alloc #[.int .i64 0, .int .i64 0] 26)
      clear hI
      generalize hga : World.alloc _ _ = wa at hA ⊢
      clear hga
      generalize hgb : wc2.heap.size = g at hA ⊢
      clear hgb
      refine hK.out _ _ (hA.out.tail) (fun hHeld => ?_)
      clear hK K; refine norm_ (a' := ?_) ?_ ?_; rotate_left
      ·
       show Act.put _ (some 14) _ = _; simp only [Act.put, pA, pZ, pS, i64_w, i32_w]; rfl
      refine one_ (i := 3) (N := (some 61)) #[V, V, V, V, F, F, F, V, F, F] rfl rfl (by kernel_rfl) (by decide) (fun K hK => ?_)
      refine goes_ Try.func13 (by kernel_rfl) rfl #[.agg #[.bool false, .int .i64 dlb, .int .u64 (b.s : Int), .int .u64 (b.i : Int), .int .u64 (b.h : Int), .int .u64 (b.d : Int), .int .u64 (b.m : Int), .int .u64 (b.w : Int)], .agg #[.int .i64 (X - 1), .int .i64 0], .agg #[.slice none 0 0, .slice none 0 0, .slice none 0 0, .slice none 0 0]] (by rfl) rfl rfl (by (try simp only [pB, pC, pD]); first | done | rfl) ?_
      refine (CNB.out _).mono ?_
      rintro e wc3 ⟨rfl, hb⟩
      refine ⟨_, rfl, ?_⟩
      have hA2 := Aside0.mk (hA.out.below hb)
      clear hA hb
      have hA := hA2
      clear hA2
      refine hK.out _ _ (hA.out.tail) (fun hHeld => ?_)
      clear hK K; refine norm_ (a' := ?_) ?_ ?_; rotate_left
      ·
       show Act.put _ (some 61) _ = _; simp only [Act.put, pA, pZ, pS, i64_w, i32_w]; rfl
      refine pure_ (i := 4) (N := (some 57)) (v := ?_) (a' := ?_) #[V, V, V, V, V, F, F, V, F, F] rfl rfl (by kernel_rfl) (fun _ _ _ => only_shut) (Or.inl ⟨by rfl, ?_⟩) ?_ ?_
      rotate_left
      ·
       intro w'; go_simp; with_reducible rfl
      rotate_left
      ·
       simp only [Act.put, pA, pZ, pS, i64_w, i32_w]; rfl
      refine pure_ (i := 5) (N := (some 62)) (v := ?_) (a' := ?_) #[V, V, V, V, V, V, F, V, F, F] rfl rfl (by kernel_rfl) (fun _ _ _ => only_shut) (Or.inl ⟨by rfl, ?_⟩) ?_ ?_
      rotate_left
      ·
       intro w'; go_simp; with_reducible rfl
      rotate_left
      ·
       simp only [Act.put, pA, pZ, pS, i64_w, i32_w]; rfl
      refine pure_ (i := 6) (N := (some 63)) (v := ?_) (a' := ?_) #[V, V, V, V, V, V, V, V, F, F] rfl rfl (by kernel_rfl) (fun _ _ _ => only_shut) (Or.inl ⟨by rfl, ?_⟩) ?_ ?_
      rotate_left
      ·
       intro w'; go_simp; with_reducible rfl
      rotate_left
      ·
       simp only [Act.put, pA, pZ, pS, i64_w, i32_w]; rfl
      refine one_ (i := 8) (N := none) #[V, V, V, V, V, V, V, V, V, F] rfl rfl (by kernel_rfl) (by decide) (fun K hK => ?_)
      refine skip_ (by rfl) rfl (exec_store_row 26 (.tmp 14) (.tmp 62) rfl g #[.int .i64 (vb), .int .i64 0] rfl rfl 26 _ (hA.out.get 0 rfl) size26 (sz2 _ _ _ _) (one2 _ _)) ?_
      have hA2 := Aside0.mk (hA.out.row #[.int .i64 (vb), .int .i64 0])
      clear hA
      have hA := hA2
      clear hA2
      generalize hgs : World.setRow _ _ _ = ws at hA ⊢
      clear hgs
      refine hK.out _ _ (hA.out.tail) (fun hHeld => ?_)
      clear hK K
      refine pure_ (i := 9) (N := (some 15)) (v := ?_) (a' := ?_) #[V, V, V, V, V, V, V, V, V, V] rfl rfl (by kernel_rfl) (fun _ _ _ => only_shut) (Or.inl ⟨by rfl, ?_⟩) ?_ ?_
      rotate_left
      ·
       intro w'; go_simp; with_reducible rfl
      rotate_left
      ·
       simp only [Act.put, pA, pZ, pS, i64_w, i32_w]; rfl
      refine done_ (by kernel_rfl) ?_
      refine ⟨rfl, g, ?_, hA.out⟩
      simp only [putAll, Act.put, pA, pZ, pS]
    ·
     refine value_ (by rfl) rfl (alloc26 _ _ rfl _) ?_
     have hA := Aside0.mk (hI.out.alloc #[.int .i64 0, .int .i64 0] 26)
     clear hI
     generalize hga : World.alloc _ _ = wa at hA ⊢
     clear hga
     generalize hgb : wdr.heap.size = g at hA ⊢
     clear hgb
     refine hK.out _ _ (hA.out.tail) (fun hHeld => ?_)
     clear hK K; refine norm_ (a' := ?_) ?_ ?_; rotate_left
     ·
      show Act.put _ (some 14) _ = _; simp only [Act.put, pA, pZ, pS, i64_w, i32_w]; rfl
     refine one_ (i := 2) (N := (some 60)) #[V, V, V, F, F, F, F, V, F, F] rfl rfl (by kernel_rfl) (by decide) (fun K hK => ?_)
     refine goes_ Try.func14 (by kernel_rfl) rfl #[] (by rfl) rfl rfl (by (try simp only [pB, pC, pD]); first | done | rfl) ?_
     refine (utcZone_any _).mono ?_
     rintro e wc2 ⟨rfl, hb⟩
     refine ⟨_, rfl, ?_⟩
     have hA2 := Aside0.mk (hA.out.below hb)
     clear hA hb
     have hA := hA2
     clear hA2
     refine hK.out _ _ (hA.out.tail) (fun hHeld => ?_)
     clear hK K; refine norm_ (a' := ?_) ?_ ?_; rotate_left
     ·
      show Act.put _ (some 60) _ = _; simp only [Act.put, pA, pZ, pS, i64_w, i32_w]; rfl
     refine one_ (i := 3) (N := (some 61)) #[V, V, V, V, F, F, F, V, F, F] rfl rfl (by kernel_rfl) (by decide) (fun K hK => ?_)
     refine goes_ Try.func13 (by kernel_rfl) rfl #[.agg #[.bool false, .int .i64 dlb, .int .u64 (b.s : Int), .int .u64 (b.i : Int), .int .u64 (b.h : Int), .int .u64 (b.d : Int), .int .u64 (b.m : Int), .int .u64 (b.w : Int)], .agg #[.int .i64 (X - 1), .int .i64 0], .agg #[.slice none 0 0, .slice none 0 0, .slice none 0 0, .slice none 0 0]] (by rfl) rfl rfl (by (try simp only [pB, pC, pD]); first | done | rfl) ?_
     refine (CNB.out _).mono ?_
     rintro e wc3 ⟨rfl, hb⟩
     refine ⟨_, rfl, ?_⟩
     have hA2 := Aside0.mk (hA.out.below hb)
     clear hA hb
     have hA := hA2
     clear hA2
     refine hK.out _ _ (hA.out.tail) (fun hHeld => ?_)
     clear hK K; refine norm_ (a' := ?_) ?_ ?_; rotate_left
     ·
      show Act.put _ (some 61) _ = _; simp only [Act.put, pA, pZ, pS, i64_w, i32_w]; rfl
     refine pure_ (i := 4) (N := (some 57)) (v := ?_) (a' := ?_) #[V, V, V, V, V, F, F, V, F, F] rfl rfl (by kernel_rfl) (fun _ _ _ => only_shut) (Or.inl ⟨by rfl, ?_⟩) ?_ ?_
     rotate_left
     ·
      intro w'; go_simp; with_reducible rfl
     rotate_left
     ·
      simp only [Act.put, pA, pZ, pS, i64_w, i32_w]; rfl
     refine pure_ (i := 5) (N := (some 62)) (v := ?_) (a' := ?_) #[V, V, V, V, V, V, F, V, F, F] rfl rfl (by kernel_rfl) (fun _ _ _ => only_shut) (Or.inl ⟨by rfl, ?_⟩) ?_ ?_
     rotate_left
     ·
      intro w'; go_simp; with_reducible rfl
     rotate_left
     ·
      simp only [Act.put, pA, pZ, pS, i64_w, i32_w]; rfl
     refine pure_ (i := 6) (N := (some 63)) (v := ?_) (a' := ?_) #[V, V, V, V, V, V, V, V, F, F] rfl rfl (by kernel_rfl) (fun _ _ _ => only_shut) (Or.inl ⟨by rfl, ?_⟩) ?_ ?_
     rotate_left
     ·
      intro w'; go_simp; with_reducible rfl
     rotate_left
     ·
      simp only [Act.put, pA, pZ, pS, i64_w, i32_w]; rfl
     refine one_ (i := 8) (N := none) #[V, V, V, V, V, V, V, V, V, F] rfl rfl (by kernel_rfl) (by decide) (fun K hK => ?_)
     refine skip_ (by rfl) rfl (exec_store_row 26 (.tmp 14) (.tmp 62) rfl g #[.int .i64 (vb), .int .i64 0] rfl rfl 26 _ (hA.out.get 0 rfl) size26 (sz2 _ _ _ _) (one2 _ _)) ?_
     have hA2 := Aside0.mk (hA.out.row #[.int .i64 (vb), .int .i64 0])
     clear hA
     have hA := hA2
     clear hA2
     generalize hgs : World.setRow _ _ _ = ws at hA ⊢
     clear hgs
     refine hK.out _ _ (hA.out.tail) (fun hHeld => ?_)
     clear hK K
     refine pure_ (i := 9) (N := (some 15)) (v := ?_) (a' := ?_) #[V, V, V, V, V, V, V, V, V, V] rfl rfl (by kernel_rfl) (fun _ _ _ => only_shut) (Or.inl ⟨by rfl, ?_⟩) ?_ ?_
     rotate_left
     ·
      intro w'; go_simp; with_reducible rfl
     rotate_left
     ·
      simp only [Act.put, pA, pZ, pS, i64_w, i32_w]; rfl
     refine done_ (by kernel_rfl) ?_
     refine ⟨rfl, g, ?_, hA.out⟩
     simp only [putAll, Act.put, pA, pZ, pS]
   clear hI
   intro g14 wng14 hI0
   have hI := Aside0.mk hI0
   clear hI0
   simp only [putAll, Act.put, pA, pZ, pS]
   clear CNA CNB
   have c0 := (hI.out.cell 1 rfl 0)
   have c1 := (hI.out.cell 1 rfl 1)
   have d0 := (hI.out.cell 0 rfl 0)
   have d1 := (hI.out.cell 0 rfl 1)
   simp at c0 c1 d0 d1
   obtain ⟨pa, hpa⟩ : ∃ p, (va == X) = p := ⟨_, rfl⟩
   obtain ⟨pb, hpb⟩ : ∃ p, (vb == X) = p := ⟨_, rfl⟩
   rw [hpa, hpb] at HN2
   cases qa <;> cases pa <;> cases qb <;> cases pb
   all_goals first | exact absurd rfl HN2.out | (go_wp2_with fail; go_ret; exact ⟨rfl, hI.out.B⟩)
end Go.Proofs.Ytlgdaegaahnkbaa.Tm
