/- FnCronCountBetween: as many activations as the days and times of day make, the walk (printed by gen_lc.py). -/
import Derived.Test.YtlgdaegaahnkbaaCntP
namespace Go.Proofs.Ytlgdaegaahnkbaa.Tm
open Go Go.RowKit Cal MC
open Go.Proofs.YtlgdaegaahnkbaaW.PrintWords Go.Proofs.YtlgdaegaahnkbaaW.PrintLast Go.Proofs.YtlgdaegaahnkbaaW.PrintMore
set_option linter.unusedVariables false
set_option linter.unusedSimpArgs false
/-- short names: the regions' lists of what is done -/
def Y : Bool := true
def O : Bool := false
theorem whole_c (y : Int) (w : World) : Calls Try.prog 19 #[.int .i64 y] w fun e w' => e = .returned (.agg #[.int .i64 y, .int .i64 0]) ∧ Below w.heap.size w w' := laws_cronWhole.calls y y 0 w rfl
theorem good_c (y : Int) (r : Bool) (w : World) (h : spec_CronGood.f y 0 = some r) : Calls Try.prog 23 #[.agg #[.int .i64 y, .int .i64 0]] w fun e w' => e = .returned (.bool r) ∧ Below w.heap.size w w' := (spec_CronGood.calls y 0 r w h).mono fun _ _ ⟨he, hd⟩ => ⟨he, hd⟩
theorem field46 (a b c d e f g h : Int) (w : World) : (Instr.field 46 (.agg #[.int .i64 a, .int .i64 b, .int .i64 c, .int .i64 d, .int .i64 e, .int .i64 f, .int .i64 g, .int .i64 h]) 0).run Try.prog w = .ok (.int .i64 a) w := by kernel_rfl
set_option maxHeartbeats 8000000 in
set_option maxRecDepth 100000 in
theorem count_bad (ev : Bool) (dl y x nn : Int) (b : SB) (w : World) (hc : laws_cronCase.f ev dl b.s b.i b.h b.d b.m b.w x nn = some false) :
    Calls Try.prog 7 #[.agg #[.bool ev, .int .i64 dl, .int .u64 (b.s : Int), .int .u64 (b.i : Int), .int .u64 (b.h : Int), .int .u64 (b.d : Int), .int .u64 (b.m : Int), .int .u64 (b.w : Int)], .agg #[.int .i64 x, .int .i64 nn], .int .i64 y] w fun e w' => e = .returned (.bool true) ∧ Below w.heap.size w w' := by
  have HC := Aside0.mk hc
  clear hc
  have hI : Aside0 (Blk w [(w.heap.size + 1, #[.int .i64 x, .int .i64 nn], 26), (w.heap.size, #[.bool ev, .int .i64 dl, .int .u64 (b.s : Int), .int .u64 (b.i : Int), .int .u64 (b.h : Int), .int .u64 (b.d : Int), .int .u64 (b.m : Int), .int .u64 (b.w : Int)], 24)] ((w.alloc (.cells #[.bool ev, .int .i64 dl, .int .u64 (b.s : Int), .int .u64 (b.i : Int), .int .u64 (b.h : Int), .int .u64 (b.d : Int), .int .u64 (b.m : Int), .int .u64 (b.w : Int)] 24)).alloc (.cells #[.int .i64 x, .int .i64 nn] 26))) := ⟨by
    have := (((Blk.nil w).alloc #[.bool ev, .int .i64 dl, .int .u64 (b.s : Int), .int .u64 (b.i : Int), .int .u64 (b.h : Int), .int .u64 (b.d : Int), .int .u64 (b.m : Int), .int .u64 (b.w : Int)] 24).alloc #[.int .i64 x, .int .i64 nn] 26)
    simpa only [World.size_alloc] using this⟩
  go_enter Try.func7, Try.ntmps7
  go_wp2_with (go_at_call 19; (with_reducible refine (whole_c y _).mono ?_); rintro e wy ⟨rfl, hb⟩; have hI2 := Aside0.mk (hI.out.below hb); clear hI hb; have hI := hI2; clear hI2)
  have hI2 := Aside0.mk (hI.out.alloc #[.int .i64 y, .int .i64 0] 26)
  clear hI
  have hI := hI2
  clear hI2
  generalize hga : World.alloc _ _ = wya at hI ⊢
  clear hga
  generalize hgb : wy.heap.size = u0 at hI ⊢
  clear hgb
  refine start_ (n := 30) (S := Blk w [(u0, #[.int .i64 y, .int .i64 0], 26), (w.heap.size + 1, #[.int .i64 x, .int .i64 nn], 26), (w.heap.size, #[.bool ev, .int .i64 dl, .int .u64 (b.s : Int), .int .u64 (b.i : Int), .int .u64 (b.h : Int), .int .u64 (b.d : Int), .int .u64 (b.m : Int), .int .u64 (b.w : Int)], 24)]) (ds := []) #[O,O,O,O,O,O,O,O,O,O,O,O,O,O,O,O,O,O,O,O,O,O,O,O,O,O,O,O,O,O] (by kernel_rfl) rfl rfl (hI.out.drew) (fun hHeld => ?_)
  have hI2 := Aside0.mk hI.out.drew
  clear hI
  have hI := hI2
  clear hI2
  generalize hwd : World.drew _ = wdr at hI hHeld ⊢
  clear hwd
  refine take_ (i := 0) (N := (some 14)) (v := ?_) (a' := ?_) #[Y,O,O,O,O,O,O,O,O,O,O,O,O,O,O,O,O,O,O,O,O,O,O,O,O,O,O,O,O,O] rfl rfl (by kernel_rfl) (fun _ _ _ h => h) (Or.inl ⟨by rfl, ?_⟩) hHeld ?_ ?_
  rotate_left
  · intro w' hS
    refine exec_load_row 24 (.tmp 3) ?_ (w.heap.size) ?_ 24 _ _ (hS.get 2 rfl) Try.underlying24 rfl size24
    · rfl
    · rfl
  rotate_left
  · simp only [Act.put, List.setIfInBounds_toArray, List.set_cons_zero, List.set_cons_succ, i64_w, i32_w]; rfl
  refine take_ (i := 1) (N := (some 15)) (v := ?_) (a' := ?_) #[Y,Y,O,O,O,O,O,O,O,O,O,O,O,O,O,O,O,O,O,O,O,O,O,O,O,O,O,O,O,O] rfl rfl (by kernel_rfl) (fun _ _ _ h => h) (Or.inl ⟨by rfl, ?_⟩) hHeld ?_ ?_
  rotate_left
  · intro w' hS
    refine exec_load_row 26 (.tmp 4) ?_ (w.heap.size + 1) ?_ 26 _ _ (hS.get 1 rfl) Try.underlying26 rfl size26
    · rfl
    · rfl
  rotate_left
  · simp only [Act.put, List.setIfInBounds_toArray, List.set_cons_zero, List.set_cons_succ, i64_w, i32_w]; rfl
  refine one_ (i := 2) (N := (some 16)) #[Y,Y,Y,O,O,O,O,O,O,O,O,O,O,O,O,O,O,O,O,O,O,O,O,O,O,O,O,O,O,O] rfl rfl (by kernel_rfl) (by decide) (fun K hK => ?_)
  refine goes_ Try.func11 (by kernel_rfl) rfl #[.agg #[.bool ev, .int .i64 dl, .int .u64 (b.s : Int), .int .u64 (b.i : Int), .int .u64 (b.h : Int), .int .u64 (b.d : Int), .int .u64 (b.m : Int), .int .u64 (b.w : Int)], .agg #[.int .i64 x, .int .i64 nn]] (by rfl) rfl rfl (by (try simp only [List.map_toArray, List.map_cons, List.map_nil]); first | done | rfl) ?_
  refine (laws_cronCase.calls _ _ _ _ _ _ _ _ _ _ _ _ HC.out).mono ?_
  rintro e w2 ⟨rfl, hb⟩
  refine ⟨_, rfl, ?_⟩
  have hI2 := Aside0.mk (hI.out.below hb)
  clear hI hb
  have hI := hI2
  clear hI2
  refine hK.out _ _ (hI.out) (fun hHeld => ?_)
  clear hK K; refine norm_ (a' := ?_) ?_ ?_; rotate_left
  · show Act.put _ (some 16) _ = _; simp only [Act.put, List.setIfInBounds_toArray, List.set_cons_zero, List.set_cons_succ, i64_w, i32_w]; rfl
  refine pure_ (i := 3) (N := (some 17)) (v := ?_) (a' := ?_) #[Y,Y,Y,Y,O,O,O,O,O,O,O,O,O,O,O,O,O,O,O,O,O,O,O,O,O,O,O,O,O,O] rfl rfl (by kernel_rfl) (fun _ _ _ h => h) (Or.inl ⟨by rfl, ?_⟩) ?_ ?_
  rotate_left
  · intro w'; go_simp; with_reducible rfl
  rotate_left
  · simp only [Act.put, List.setIfInBounds_toArray, List.set_cons_zero, List.set_cons_succ, i64_w, i32_w]; rfl
  refine pure_ (i := 4) (N := (some 18)) (v := ?_) (a' := ?_) #[Y,Y,Y,Y,Y,O,O,O,O,O,O,O,O,O,O,O,O,O,O,O,O,O,O,O,O,O,O,O,O,O] rfl rfl (by kernel_rfl) (fun _ _ _ h => h) (Or.inl ⟨by rfl, ?_⟩) ?_ ?_
  rotate_left
  · intro w'; go_simp; with_reducible rfl
  rotate_left
  · simp only [Act.put, List.setIfInBounds_toArray, List.set_cons_zero, List.set_cons_succ, i64_w, i32_w]; rfl
  refine take_ (i := 5) (N := (some 19)) (v := undef) (a' := ?_) #[Y,Y,Y,Y,Y,Y,O,O,O,O,O,O,O,O,O,O,O,O,O,O,O,O,O,O,O,O,O,O,O,O] rfl rfl (by kernel_rfl) (fun _ _ _ h => h) (Or.inr ⟨by rfl, rfl⟩) hHeld ?_ ?_
  rotate_left
  · simp only [Act.put, List.setIfInBounds_toArray, List.set_cons_zero, List.set_cons_succ, i64_w, i32_w]; rfl
  refine one_ (i := 6) (N := (some 20)) #[Y,Y,Y,Y,Y,Y,Y,O,O,O,O,O,O,O,O,O,O,O,O,O,O,O,O,O,O,O,O,O,O,O] rfl rfl (by kernel_rfl) (by decide) (fun K hK => ?_)
  refine off_ (by rfl) (hK.out _ _ hHeld (fun hHeld => ?_))
  clear hK K; refine norm_ (a' := ?_) ?_ ?_; rotate_left
  · show Act.put _ (some 20) _ = _; simp only [Act.put, List.setIfInBounds_toArray, List.set_cons_zero, List.set_cons_succ, i64_w, i32_w]; rfl
  refine pure_ (i := 7) (N := (some 21)) (v := undef) (a' := ?_) #[Y,Y,Y,Y,Y,Y,Y,Y,O,O,O,O,O,O,O,O,O,O,O,O,O,O,O,O,O,O,O,O,O,O] rfl rfl (by kernel_rfl) (fun _ _ _ h => h) (Or.inr ⟨by rfl, rfl⟩) ?_ ?_
  rotate_left
  · simp only [Act.put, List.setIfInBounds_toArray, List.set_cons_zero, List.set_cons_succ, i64_w, i32_w]; rfl
  refine pure_ (i := 8) (N := (some 22)) (v := ?_) (a' := ?_) #[Y,Y,Y,Y,Y,Y,Y,Y,Y,O,O,O,O,O,O,O,O,O,O,O,O,O,O,O,O,O,O,O,O,O] rfl rfl (by kernel_rfl) (fun _ _ _ h => h) (Or.inl ⟨by rfl, ?_⟩) ?_ ?_
  rotate_left
  · intro w'; go_simp; with_reducible rfl
  rotate_left
  · simp only [Act.put, List.setIfInBounds_toArray, List.set_cons_zero, List.set_cons_succ, i64_w, i32_w]; rfl
  refine pure_ (i := 9) (N := (some 23)) (v := ?_) (a' := ?_) #[Y,Y,Y,Y,Y,Y,Y,Y,Y,Y,O,O,O,O,O,O,O,O,O,O,O,O,O,O,O,O,O,O,O,O] rfl rfl (by kernel_rfl) (fun _ _ _ h => h) (Or.inl ⟨by rfl, ?_⟩) ?_ ?_
  rotate_left
  · intro w'; go_simp; with_reducible rfl
  rotate_left
  · simp only [Act.put, List.setIfInBounds_toArray, List.set_cons_zero, List.set_cons_succ, i64_w, i32_w]; rfl
  refine pure_ (i := 10) (N := (some 24)) (v := undef) (a' := ?_) #[Y,Y,Y,Y,Y,Y,Y,Y,Y,Y,Y,O,O,O,O,O,O,O,O,O,O,O,O,O,O,O,O,O,O,O] rfl rfl (by kernel_rfl) (fun _ _ _ h => h) (Or.inr ⟨by rfl, rfl⟩) ?_ ?_
  rotate_left
  · simp only [Act.put, List.setIfInBounds_toArray, List.set_cons_zero, List.set_cons_succ, i64_w, i32_w]; rfl
  refine pure_ (i := 11) (N := (some 25)) (v := undef) (a' := ?_) #[Y,Y,Y,Y,Y,Y,Y,Y,Y,Y,Y,Y,O,O,O,O,O,O,O,O,O,O,O,O,O,O,O,O,O,O] rfl rfl (by kernel_rfl) (fun _ _ _ h => h) (Or.inr ⟨by rfl, rfl⟩) ?_ ?_
  rotate_left
  · simp only [Act.put, List.setIfInBounds_toArray, List.set_cons_zero, List.set_cons_succ, i64_w, i32_w]; rfl
  refine take_ (i := 12) (N := (some 26)) (v := undef) (a' := ?_) #[Y,Y,Y,Y,Y,Y,Y,Y,Y,Y,Y,Y,Y,O,O,O,O,O,O,O,O,O,O,O,O,O,O,O,O,O] rfl rfl (by kernel_rfl) (fun _ _ _ h => h) (Or.inr ⟨by rfl, rfl⟩) hHeld ?_ ?_
  rotate_left
  · simp only [Act.put, List.setIfInBounds_toArray, List.set_cons_zero, List.set_cons_succ, i64_w, i32_w]; rfl
  refine pure_ (i := 13) (N := (some 27)) (v := undef) (a' := ?_) #[Y,Y,Y,Y,Y,Y,Y,Y,Y,Y,Y,Y,Y,Y,O,O,O,O,O,O,O,O,O,O,O,O,O,O,O,O] rfl rfl (by kernel_rfl) (fun _ _ _ h => h) (Or.inr ⟨by rfl, rfl⟩) ?_ ?_
  rotate_left
  · simp only [Act.put, List.setIfInBounds_toArray, List.set_cons_zero, List.set_cons_succ, i64_w, i32_w]; rfl
  refine pure_ (i := 14) (N := (some 28)) (v := ?_) (a' := ?_) #[Y,Y,Y,Y,Y,Y,Y,Y,Y,Y,Y,Y,Y,Y,Y,O,O,O,O,O,O,O,O,O,O,O,O,O,O,O] rfl rfl (by kernel_rfl) (fun _ _ _ h => h) (Or.inl ⟨by rfl, ?_⟩) ?_ ?_
  rotate_left
  · intro w'; go_simp; with_reducible rfl
  rotate_left
  · simp only [Act.put, List.setIfInBounds_toArray, List.set_cons_zero, List.set_cons_succ, i64_w, i32_w]; rfl
  refine pure_ (i := 15) (N := (some 29)) (v := ?_) (a' := ?_) #[Y,Y,Y,Y,Y,Y,Y,Y,Y,Y,Y,Y,Y,Y,Y,Y,O,O,O,O,O,O,O,O,O,O,O,O,O,O] rfl rfl (by kernel_rfl) (fun _ _ _ h => h) (Or.inl ⟨by rfl, ?_⟩) ?_ ?_
  rotate_left
  · intro w'; go_simp; with_reducible rfl
  rotate_left
  · simp only [Act.put, List.setIfInBounds_toArray, List.set_cons_zero, List.set_cons_succ, i64_w, i32_w]; rfl
  refine take_ (i := 16) (N := (some 30)) (v := undef) (a' := ?_) #[Y,Y,Y,Y,Y,Y,Y,Y,Y,Y,Y,Y,Y,Y,Y,Y,Y,O,O,O,O,O,O,O,O,O,O,O,O,O] rfl rfl (by kernel_rfl) (fun _ _ _ h => h) (Or.inr ⟨by rfl, rfl⟩) hHeld ?_ ?_
  rotate_left
  · simp only [Act.put, List.setIfInBounds_toArray, List.set_cons_zero, List.set_cons_succ, i64_w, i32_w]; rfl
  refine pure_ (i := 20) (N := (some 34)) (v := undef) (a' := ?_) #[Y,Y,Y,Y,Y,Y,Y,Y,Y,Y,Y,Y,Y,Y,Y,Y,Y,O,O,O,Y,O,O,O,O,O,O,O,O,O] rfl rfl (by kernel_rfl) (fun _ _ _ h => h) (Or.inr ⟨by rfl, rfl⟩) ?_ ?_
  rotate_left
  · simp only [Act.put, List.setIfInBounds_toArray, List.set_cons_zero, List.set_cons_succ, i64_w, i32_w]; rfl
  refine take_ (i := 21) (N := (some 35)) (v := undef) (a' := ?_) #[Y,Y,Y,Y,Y,Y,Y,Y,Y,Y,Y,Y,Y,Y,Y,Y,Y,O,O,O,Y,Y,O,O,O,O,O,O,O,O] rfl rfl (by kernel_rfl) (fun _ _ _ h => h) (Or.inr ⟨by rfl, rfl⟩) hHeld ?_ ?_
  rotate_left
  · simp only [Act.put, List.setIfInBounds_toArray, List.set_cons_zero, List.set_cons_succ, i64_w, i32_w]; rfl
  refine pure_ (i := 22) (N := (some 36)) (v := undef) (a' := ?_) #[Y,Y,Y,Y,Y,Y,Y,Y,Y,Y,Y,Y,Y,Y,Y,Y,Y,O,O,O,Y,Y,Y,O,O,O,O,O,O,O] rfl rfl (by kernel_rfl) (fun _ _ _ h => h) (Or.inr ⟨by rfl, rfl⟩) ?_ ?_
  rotate_left
  · simp only [Act.put, List.setIfInBounds_toArray, List.set_cons_zero, List.set_cons_succ, i64_w, i32_w]; rfl
  refine one_ (i := 17) (N := (some 31)) #[Y,Y,Y,Y,Y,Y,Y,Y,Y,Y,Y,Y,Y,Y,Y,Y,Y,Y,O,O,Y,Y,Y,O,O,O,O,O,O,O] rfl rfl (by kernel_rfl) (by decide) (fun K hK => ?_)
  refine off_ (by rfl) (hK.out _ _ hHeld (fun hHeld => ?_))
  clear hK K; refine norm_ (a' := ?_) ?_ ?_; rotate_left
  · show Act.put _ (some 31) _ = _; simp only [Act.put, List.setIfInBounds_toArray, List.set_cons_zero, List.set_cons_succ, i64_w, i32_w]; rfl
  refine one_ (i := 18) (N := (some 32)) #[Y,Y,Y,Y,Y,Y,Y,Y,Y,Y,Y,Y,Y,Y,Y,Y,Y,Y,Y,O,Y,Y,Y,O,O,O,O,O,O,O] rfl rfl (by kernel_rfl) (by decide) (fun K hK => ?_)
  refine off_ (by rfl) (hK.out _ _ hHeld (fun hHeld => ?_))
  clear hK K; refine norm_ (a' := ?_) ?_ ?_; rotate_left
  · show Act.put _ (some 32) _ = _; simp only [Act.put, List.setIfInBounds_toArray, List.set_cons_zero, List.set_cons_succ, i64_w, i32_w]; rfl
  refine pure_ (i := 19) (N := (some 33)) (v := undef) (a' := ?_) #[Y,Y,Y,Y,Y,Y,Y,Y,Y,Y,Y,Y,Y,Y,Y,Y,Y,Y,Y,Y,Y,Y,Y,O,O,O,O,O,O,O] rfl rfl (by kernel_rfl) (fun _ _ _ h => h) (Or.inr ⟨by rfl, rfl⟩) ?_ ?_
  rotate_left
  · simp only [Act.put, List.setIfInBounds_toArray, List.set_cons_zero, List.set_cons_succ, i64_w, i32_w]; rfl
  refine one_ (i := 23) (N := (some 37)) #[Y,Y,Y,Y,Y,Y,Y,Y,Y,Y,Y,Y,Y,Y,Y,Y,Y,Y,Y,Y,Y,Y,Y,Y,O,O,O,O,O,O] rfl rfl (by kernel_rfl) (by decide) (fun K hK => ?_)
  refine off_ (by rfl) (hK.out _ _ hHeld (fun hHeld => ?_))
  clear hK K; refine norm_ (a' := ?_) ?_ ?_; rotate_left
  · show Act.put _ (some 37) _ = _; simp only [Act.put, List.setIfInBounds_toArray, List.set_cons_zero, List.set_cons_succ, i64_w, i32_w]; rfl
  refine one_ (i := 24) (N := (some 38)) #[Y,Y,Y,Y,Y,Y,Y,Y,Y,Y,Y,Y,Y,Y,Y,Y,Y,Y,Y,Y,Y,Y,Y,Y,Y,O,O,O,O,O] rfl rfl (by kernel_rfl) (by decide) (fun K hK => ?_)
  refine off_ (by rfl) (hK.out _ _ hHeld (fun hHeld => ?_))
  clear hK K; refine norm_ (a' := ?_) ?_ ?_; rotate_left
  · show Act.put _ (some 38) _ = _; simp only [Act.put, List.setIfInBounds_toArray, List.set_cons_zero, List.set_cons_succ, i64_w, i32_w]; rfl
  refine one_ (i := 25) (N := (some 39)) #[Y,Y,Y,Y,Y,Y,Y,Y,Y,Y,Y,Y,Y,Y,Y,Y,Y,Y,Y,Y,Y,Y,Y,Y,Y,Y,O,O,O,O] rfl rfl (by kernel_rfl) (by decide) (fun K hK => ?_)
  refine off_ (by rfl) (hK.out _ _ hHeld (fun hHeld => ?_))
  clear hK K; refine norm_ (a' := ?_) ?_ ?_; rotate_left
  · show Act.put _ (some 39) _ = _; simp only [Act.put, List.setIfInBounds_toArray, List.set_cons_zero, List.set_cons_succ, i64_w, i32_w]; rfl
  refine pure_ (i := 26) (N := (some 40)) (v := undef) (a' := ?_) #[Y,Y,Y,Y,Y,Y,Y,Y,Y,Y,Y,Y,Y,Y,Y,Y,Y,Y,Y,Y,Y,Y,Y,Y,Y,Y,Y,O,O,O] rfl rfl (by kernel_rfl) (fun _ _ _ h => h) (Or.inr ⟨by rfl, rfl⟩) ?_ ?_
  rotate_left
  · simp only [Act.put, List.setIfInBounds_toArray, List.set_cons_zero, List.set_cons_succ, i64_w, i32_w]; rfl
  refine pure_ (i := 27) (N := (some 41)) (v := undef) (a' := ?_) #[Y,Y,Y,Y,Y,Y,Y,Y,Y,Y,Y,Y,Y,Y,Y,Y,Y,Y,Y,Y,Y,Y,Y,Y,Y,Y,Y,Y,O,O] rfl rfl (by kernel_rfl) (fun _ _ _ h => h) (Or.inr ⟨by rfl, rfl⟩) ?_ ?_
  rotate_left
  · simp only [Act.put, List.setIfInBounds_toArray, List.set_cons_zero, List.set_cons_succ, i64_w, i32_w]; rfl
  refine pure_ (i := 28) (N := (some 42)) (v := undef) (a' := ?_) #[Y,Y,Y,Y,Y,Y,Y,Y,Y,Y,Y,Y,Y,Y,Y,Y,Y,Y,Y,Y,Y,Y,Y,Y,Y,Y,Y,Y,Y,O] rfl rfl (by kernel_rfl) (fun _ _ _ h => h) (Or.inr ⟨by rfl, rfl⟩) ?_ ?_
  rotate_left
  · simp only [Act.put, List.setIfInBounds_toArray, List.set_cons_zero, List.set_cons_succ, i64_w, i32_w]; rfl
  refine pure_ (i := 29) (N := (some 43)) (v := ?_) (a' := ?_) #[Y,Y,Y,Y,Y,Y,Y,Y,Y,Y,Y,Y,Y,Y,Y,Y,Y,Y,Y,Y,Y,Y,Y,Y,Y,Y,Y,Y,Y,Y] rfl rfl (by kernel_rfl) (fun _ _ _ h => h) (Or.inl ⟨by rfl, ?_⟩) ?_ ?_
  rotate_left
  · intro w'; go_simp; with_reducible rfl
  rotate_left
  · simp only [Act.put, List.setIfInBounds_toArray, List.set_cons_zero, List.set_cons_succ, i64_w, i32_w]; rfl
  refine done_ (by kernel_rfl) ?_
  go_wp2_with fail
  go_ret
  exact ⟨rfl, hI.out.B⟩
set_option maxHeartbeats 8000000 in
set_option maxRecDepth 100000 in
theorem count_u (dl y x nn : Int) (b : SB) (w : World) (hc : laws_cronCase.f false dl b.s b.i b.h b.d b.m b.w x nn = some true) (hg : spec_CronGood.f y 0 = some false) :
    Calls Try.prog 7 #[.agg #[.bool false, .int .i64 dl, .int .u64 (b.s : Int), .int .u64 (b.i : Int), .int .u64 (b.h : Int), .int .u64 (b.d : Int), .int .u64 (b.m : Int), .int .u64 (b.w : Int)], .agg #[.int .i64 x, .int .i64 nn], .int .i64 y] w fun e w' => e = .returned (.bool true) ∧ Below w.heap.size w w' := by
  have HC := Aside0.mk hc
  have HG := Aside0.mk hg
  clear hc hg
  have hI : Aside0 (Blk w [(w.heap.size + 1, #[.int .i64 x, .int .i64 nn], 26), (w.heap.size, #[.bool false, .int .i64 dl, .int .u64 (b.s : Int), .int .u64 (b.i : Int), .int .u64 (b.h : Int), .int .u64 (b.d : Int), .int .u64 (b.m : Int), .int .u64 (b.w : Int)], 24)] ((w.alloc (.cells #[.bool false, .int .i64 dl, .int .u64 (b.s : Int), .int .u64 (b.i : Int), .int .u64 (b.h : Int), .int .u64 (b.d : Int), .int .u64 (b.m : Int), .int .u64 (b.w : Int)] 24)).alloc (.cells #[.int .i64 x, .int .i64 nn] 26))) := ⟨by
    have := (((Blk.nil w).alloc #[.bool false, .int .i64 dl, .int .u64 (b.s : Int), .int .u64 (b.i : Int), .int .u64 (b.h : Int), .int .u64 (b.d : Int), .int .u64 (b.m : Int), .int .u64 (b.w : Int)] 24).alloc #[.int .i64 x, .int .i64 nn] 26)
    simpa only [World.size_alloc] using this⟩
  go_enter Try.func7, Try.ntmps7
  go_wp2_with (go_at_call 19; (with_reducible refine (whole_c y _).mono ?_); rintro e wy ⟨rfl, hb⟩; have hI2 := Aside0.mk (hI.out.below hb); clear hI hb; have hI := hI2; clear hI2)
  have hI2 := Aside0.mk (hI.out.alloc #[.int .i64 y, .int .i64 0] 26)
  clear hI
  have hI := hI2
  clear hI2
  generalize hga : World.alloc _ _ = wya at hI ⊢
  clear hga
  generalize hgb : wy.heap.size = u0 at hI ⊢
  clear hgb
  refine start_ (n := 30) (S := Blk w [(u0, #[.int .i64 y, .int .i64 0], 26), (w.heap.size + 1, #[.int .i64 x, .int .i64 nn], 26), (w.heap.size, #[.bool false, .int .i64 dl, .int .u64 (b.s : Int), .int .u64 (b.i : Int), .int .u64 (b.h : Int), .int .u64 (b.d : Int), .int .u64 (b.m : Int), .int .u64 (b.w : Int)], 24)]) (ds := []) #[O,O,O,O,O,O,O,O,O,O,O,O,O,O,O,O,O,O,O,O,O,O,O,O,O,O,O,O,O,O] (by kernel_rfl) rfl rfl (hI.out.drew) (fun hHeld => ?_)
  have hI2 := Aside0.mk hI.out.drew
  clear hI
  have hI := hI2
  clear hI2
  generalize hwd : World.drew _ = wdr at hI hHeld ⊢
  clear hwd
  refine take_ (i := 0) (N := (some 14)) (v := ?_) (a' := ?_) #[Y,O,O,O,O,O,O,O,O,O,O,O,O,O,O,O,O,O,O,O,O,O,O,O,O,O,O,O,O,O] rfl rfl (by kernel_rfl) (fun _ _ _ h => h) (Or.inl ⟨by rfl, ?_⟩) hHeld ?_ ?_
  rotate_left
  · intro w' hS
    refine exec_load_row 24 (.tmp 3) ?_ (w.heap.size) ?_ 24 _ _ (hS.get 2 rfl) Try.underlying24 rfl size24
    · rfl
    · rfl
  rotate_left
  · simp only [Act.put, List.setIfInBounds_toArray, List.set_cons_zero, List.set_cons_succ, i64_w, i32_w]; rfl
  refine take_ (i := 1) (N := (some 15)) (v := ?_) (a' := ?_) #[Y,Y,O,O,O,O,O,O,O,O,O,O,O,O,O,O,O,O,O,O,O,O,O,O,O,O,O,O,O,O] rfl rfl (by kernel_rfl) (fun _ _ _ h => h) (Or.inl ⟨by rfl, ?_⟩) hHeld ?_ ?_
  rotate_left
  · intro w' hS
    refine exec_load_row 26 (.tmp 4) ?_ (w.heap.size + 1) ?_ 26 _ _ (hS.get 1 rfl) Try.underlying26 rfl size26
    · rfl
    · rfl
  rotate_left
  · simp only [Act.put, List.setIfInBounds_toArray, List.set_cons_zero, List.set_cons_succ, i64_w, i32_w]; rfl
  refine one_ (i := 2) (N := (some 16)) #[Y,Y,Y,O,O,O,O,O,O,O,O,O,O,O,O,O,O,O,O,O,O,O,O,O,O,O,O,O,O,O] rfl rfl (by kernel_rfl) (by decide) (fun K hK => ?_)
  refine goes_ Try.func11 (by kernel_rfl) rfl #[.agg #[.bool false, .int .i64 dl, .int .u64 (b.s : Int), .int .u64 (b.i : Int), .int .u64 (b.h : Int), .int .u64 (b.d : Int), .int .u64 (b.m : Int), .int .u64 (b.w : Int)], .agg #[.int .i64 x, .int .i64 nn]] (by rfl) rfl rfl (by (try simp only [List.map_toArray, List.map_cons, List.map_nil]); first | done | rfl) ?_
  refine (laws_cronCase.calls _ _ _ _ _ _ _ _ _ _ _ _ HC.out).mono ?_
  rintro e w2 ⟨rfl, hb⟩
  refine ⟨_, rfl, ?_⟩
  have hI2 := Aside0.mk (hI.out.below hb)
  clear hI hb
  have hI := hI2
  clear hI2
  refine hK.out _ _ (hI.out) (fun hHeld => ?_)
  clear hK K; refine norm_ (a' := ?_) ?_ ?_; rotate_left
  · show Act.put _ (some 16) _ = _; simp only [Act.put, List.setIfInBounds_toArray, List.set_cons_zero, List.set_cons_succ, i64_w, i32_w]; rfl
  refine pure_ (i := 3) (N := (some 17)) (v := ?_) (a' := ?_) #[Y,Y,Y,Y,O,O,O,O,O,O,O,O,O,O,O,O,O,O,O,O,O,O,O,O,O,O,O,O,O,O] rfl rfl (by kernel_rfl) (fun _ _ _ h => h) (Or.inl ⟨by rfl, ?_⟩) ?_ ?_
  rotate_left
  · intro w'; go_simp; with_reducible rfl
  rotate_left
  · simp only [Act.put, List.setIfInBounds_toArray, List.set_cons_zero, List.set_cons_succ, i64_w, i32_w]; rfl
  refine pure_ (i := 4) (N := (some 18)) (v := ?_) (a' := ?_) #[Y,Y,Y,Y,Y,O,O,O,O,O,O,O,O,O,O,O,O,O,O,O,O,O,O,O,O,O,O,O,O,O] rfl rfl (by kernel_rfl) (fun _ _ _ h => h) (Or.inl ⟨by rfl, ?_⟩) ?_ ?_
  rotate_left
  · intro w'; go_simp; with_reducible rfl
  rotate_left
  · simp only [Act.put, List.setIfInBounds_toArray, List.set_cons_zero, List.set_cons_succ, i64_w, i32_w]; rfl
  refine take_ (i := 5) (N := (some 19)) (v := ?_) (a' := ?_) #[Y,Y,Y,Y,Y,Y,O,O,O,O,O,O,O,O,O,O,O,O,O,O,O,O,O,O,O,O,O,O,O,O] rfl rfl (by kernel_rfl) (fun _ _ _ h => h) (Or.inl ⟨by rfl, ?_⟩) hHeld ?_ ?_
  rotate_left
  · intro w' hS
    refine exec_load_row 26 (.tmp 7) ?_ u0 ?_ 26 _ _ (hS.get 0 rfl) Try.underlying26 rfl size26
    · rfl
    · rfl
  rotate_left
  · simp only [Act.put, List.setIfInBounds_toArray, List.set_cons_zero, List.set_cons_succ, i64_w, i32_w]; rfl
  refine one_ (i := 6) (N := (some 20)) #[Y,Y,Y,Y,Y,Y,Y,O,O,O,O,O,O,O,O,O,O,O,O,O,O,O,O,O,O,O,O,O,O,O] rfl rfl (by kernel_rfl) (by decide) (fun K hK => ?_)
  refine goes_ Try.func23 (by kernel_rfl) rfl #[.agg #[.int .i64 y, .int .i64 0]] (by rfl) rfl rfl (by (try simp only [List.map_toArray, List.map_cons, List.map_nil]); first | done | rfl) ?_
  refine (good_c y _ _ HG.out).mono ?_
  rintro e w6 ⟨rfl, hb⟩
  refine ⟨_, rfl, ?_⟩
  have hI2 := Aside0.mk (hI.out.below hb)
  clear hI hb
  have hI := hI2
  clear hI2
  refine hK.out _ _ (hI.out) (fun hHeld => ?_)
  clear hK K; refine norm_ (a' := ?_) ?_ ?_; rotate_left
  · show Act.put _ (some 20) _ = _; simp only [Act.put, List.setIfInBounds_toArray, List.set_cons_zero, List.set_cons_succ, i64_w, i32_w]; rfl
  refine pure_ (i := 7) (N := (some 21)) (v := ?_) (a' := ?_) #[Y,Y,Y,Y,Y,Y,Y,Y,O,O,O,O,O,O,O,O,O,O,O,O,O,O,O,O,O,O,O,O,O,O] rfl rfl (by kernel_rfl) (fun _ _ _ h => h) (Or.inl ⟨by rfl, ?_⟩) ?_ ?_
  rotate_left
  · intro w'; go_simp; with_reducible rfl
  rotate_left
  · simp only [Act.put, List.setIfInBounds_toArray, List.set_cons_zero, List.set_cons_succ, i64_w, i32_w]; rfl
  refine pure_ (i := 8) (N := (some 22)) (v := ?_) (a' := ?_) #[Y,Y,Y,Y,Y,Y,Y,Y,Y,O,O,O,O,O,O,O,O,O,O,O,O,O,O,O,O,O,O,O,O,O] rfl rfl (by kernel_rfl) (fun _ _ _ h => h) (Or.inl ⟨by rfl, ?_⟩) ?_ ?_
  rotate_left
  · intro w'; go_simp; with_reducible rfl
  rotate_left
  · simp only [Act.put, List.setIfInBounds_toArray, List.set_cons_zero, List.set_cons_succ, i64_w, i32_w]; rfl
  refine pure_ (i := 9) (N := (some 23)) (v := ?_) (a' := ?_) #[Y,Y,Y,Y,Y,Y,Y,Y,Y,Y,O,O,O,O,O,O,O,O,O,O,O,O,O,O,O,O,O,O,O,O] rfl rfl (by kernel_rfl) (fun _ _ _ h => h) (Or.inl ⟨by rfl, ?_⟩) ?_ ?_
  rotate_left
  · intro w'; go_simp; with_reducible rfl
  rotate_left
  · simp only [Act.put, List.setIfInBounds_toArray, List.set_cons_zero, List.set_cons_succ, i64_w, i32_w]; rfl
  refine pure_ (i := 10) (N := (some 24)) (v := undef) (a' := ?_) #[Y,Y,Y,Y,Y,Y,Y,Y,Y,Y,Y,O,O,O,O,O,O,O,O,O,O,O,O,O,O,O,O,O,O,O] rfl rfl (by kernel_rfl) (fun _ _ _ h => h) (Or.inr ⟨by rfl, rfl⟩) ?_ ?_
  rotate_left
  · simp only [Act.put, List.setIfInBounds_toArray, List.set_cons_zero, List.set_cons_succ, i64_w, i32_w]; rfl
  refine pure_ (i := 11) (N := (some 25)) (v := undef) (a' := ?_) #[Y,Y,Y,Y,Y,Y,Y,Y,Y,Y,Y,Y,O,O,O,O,O,O,O,O,O,O,O,O,O,O,O,O,O,O] rfl rfl (by kernel_rfl) (fun _ _ _ h => h) (Or.inr ⟨by rfl, rfl⟩) ?_ ?_
  rotate_left
  · simp only [Act.put, List.setIfInBounds_toArray, List.set_cons_zero, List.set_cons_succ, i64_w, i32_w]; rfl
  refine take_ (i := 12) (N := (some 26)) (v := undef) (a' := ?_) #[Y,Y,Y,Y,Y,Y,Y,Y,Y,Y,Y,Y,Y,O,O,O,O,O,O,O,O,O,O,O,O,O,O,O,O,O] rfl rfl (by kernel_rfl) (fun _ _ _ h => h) (Or.inr ⟨by rfl, rfl⟩) hHeld ?_ ?_
  rotate_left
  · simp only [Act.put, List.setIfInBounds_toArray, List.set_cons_zero, List.set_cons_succ, i64_w, i32_w]; rfl
  refine pure_ (i := 13) (N := (some 27)) (v := undef) (a' := ?_) #[Y,Y,Y,Y,Y,Y,Y,Y,Y,Y,Y,Y,Y,Y,O,O,O,O,O,O,O,O,O,O,O,O,O,O,O,O] rfl rfl (by kernel_rfl) (fun _ _ _ h => h) (Or.inr ⟨by rfl, rfl⟩) ?_ ?_
  rotate_left
  · simp only [Act.put, List.setIfInBounds_toArray, List.set_cons_zero, List.set_cons_succ, i64_w, i32_w]; rfl
  refine pure_ (i := 14) (N := (some 28)) (v := ?_) (a' := ?_) #[Y,Y,Y,Y,Y,Y,Y,Y,Y,Y,Y,Y,Y,Y,Y,O,O,O,O,O,O,O,O,O,O,O,O,O,O,O] rfl rfl (by kernel_rfl) (fun _ _ _ h => h) (Or.inl ⟨by rfl, ?_⟩) ?_ ?_
  rotate_left
  · intro w'; go_simp; with_reducible rfl
  rotate_left
  · simp only [Act.put, List.setIfInBounds_toArray, List.set_cons_zero, List.set_cons_succ, i64_w, i32_w]; rfl
  refine pure_ (i := 15) (N := (some 29)) (v := ?_) (a' := ?_) #[Y,Y,Y,Y,Y,Y,Y,Y,Y,Y,Y,Y,Y,Y,Y,Y,O,O,O,O,O,O,O,O,O,O,O,O,O,O] rfl rfl (by kernel_rfl) (fun _ _ _ h => h) (Or.inl ⟨by rfl, ?_⟩) ?_ ?_
  rotate_left
  · intro w'; go_simp; with_reducible rfl
  rotate_left
  · simp only [Act.put, List.setIfInBounds_toArray, List.set_cons_zero, List.set_cons_succ, i64_w, i32_w]; rfl
  refine take_ (i := 16) (N := (some 30)) (v := undef) (a' := ?_) #[Y,Y,Y,Y,Y,Y,Y,Y,Y,Y,Y,Y,Y,Y,Y,Y,Y,O,O,O,O,O,O,O,O,O,O,O,O,O] rfl rfl (by kernel_rfl) (fun _ _ _ h => h) (Or.inr ⟨by rfl, rfl⟩) hHeld ?_ ?_
  rotate_left
  · simp only [Act.put, List.setIfInBounds_toArray, List.set_cons_zero, List.set_cons_succ, i64_w, i32_w]; rfl
  refine pure_ (i := 20) (N := (some 34)) (v := undef) (a' := ?_) #[Y,Y,Y,Y,Y,Y,Y,Y,Y,Y,Y,Y,Y,Y,Y,Y,Y,O,O,O,Y,O,O,O,O,O,O,O,O,O] rfl rfl (by kernel_rfl) (fun _ _ _ h => h) (Or.inr ⟨by rfl, rfl⟩) ?_ ?_
  rotate_left
  · simp only [Act.put, List.setIfInBounds_toArray, List.set_cons_zero, List.set_cons_succ, i64_w, i32_w]; rfl
  refine take_ (i := 21) (N := (some 35)) (v := undef) (a' := ?_) #[Y,Y,Y,Y,Y,Y,Y,Y,Y,Y,Y,Y,Y,Y,Y,Y,Y,O,O,O,Y,Y,O,O,O,O,O,O,O,O] rfl rfl (by kernel_rfl) (fun _ _ _ h => h) (Or.inr ⟨by rfl, rfl⟩) hHeld ?_ ?_
  rotate_left
  · simp only [Act.put, List.setIfInBounds_toArray, List.set_cons_zero, List.set_cons_succ, i64_w, i32_w]; rfl
  refine pure_ (i := 22) (N := (some 36)) (v := undef) (a' := ?_) #[Y,Y,Y,Y,Y,Y,Y,Y,Y,Y,Y,Y,Y,Y,Y,Y,Y,O,O,O,Y,Y,Y,O,O,O,O,O,O,O] rfl rfl (by kernel_rfl) (fun _ _ _ h => h) (Or.inr ⟨by rfl, rfl⟩) ?_ ?_
  rotate_left
  · simp only [Act.put, List.setIfInBounds_toArray, List.set_cons_zero, List.set_cons_succ, i64_w, i32_w]; rfl
  refine one_ (i := 17) (N := (some 31)) #[Y,Y,Y,Y,Y,Y,Y,Y,Y,Y,Y,Y,Y,Y,Y,Y,Y,Y,O,O,Y,Y,Y,O,O,O,O,O,O,O] rfl rfl (by kernel_rfl) (by decide) (fun K hK => ?_)
  refine off_ (by rfl) (hK.out _ _ hHeld (fun hHeld => ?_))
  clear hK K; refine norm_ (a' := ?_) ?_ ?_; rotate_left
  · show Act.put _ (some 31) _ = _; simp only [Act.put, List.setIfInBounds_toArray, List.set_cons_zero, List.set_cons_succ, i64_w, i32_w]; rfl
  refine one_ (i := 18) (N := (some 32)) #[Y,Y,Y,Y,Y,Y,Y,Y,Y,Y,Y,Y,Y,Y,Y,Y,Y,Y,Y,O,Y,Y,Y,O,O,O,O,O,O,O] rfl rfl (by kernel_rfl) (by decide) (fun K hK => ?_)
  refine off_ (by rfl) (hK.out _ _ hHeld (fun hHeld => ?_))
  clear hK K; refine norm_ (a' := ?_) ?_ ?_; rotate_left
  · show Act.put _ (some 32) _ = _; simp only [Act.put, List.setIfInBounds_toArray, List.set_cons_zero, List.set_cons_succ, i64_w, i32_w]; rfl
  refine pure_ (i := 19) (N := (some 33)) (v := undef) (a' := ?_) #[Y,Y,Y,Y,Y,Y,Y,Y,Y,Y,Y,Y,Y,Y,Y,Y,Y,Y,Y,Y,Y,Y,Y,O,O,O,O,O,O,O] rfl rfl (by kernel_rfl) (fun _ _ _ h => h) (Or.inr ⟨by rfl, rfl⟩) ?_ ?_
  rotate_left
  · simp only [Act.put, List.setIfInBounds_toArray, List.set_cons_zero, List.set_cons_succ, i64_w, i32_w]; rfl
  refine one_ (i := 23) (N := (some 37)) #[Y,Y,Y,Y,Y,Y,Y,Y,Y,Y,Y,Y,Y,Y,Y,Y,Y,Y,Y,Y,Y,Y,Y,Y,O,O,O,O,O,O] rfl rfl (by kernel_rfl) (by decide) (fun K hK => ?_)
  refine off_ (by rfl) (hK.out _ _ hHeld (fun hHeld => ?_))
  clear hK K; refine norm_ (a' := ?_) ?_ ?_; rotate_left
  · show Act.put _ (some 37) _ = _; simp only [Act.put, List.setIfInBounds_toArray, List.set_cons_zero, List.set_cons_succ, i64_w, i32_w]; rfl
  refine one_ (i := 24) (N := (some 38)) #[Y,Y,Y,Y,Y,Y,Y,Y,Y,Y,Y,Y,Y,Y,Y,Y,Y,Y,Y,Y,Y,Y,Y,Y,Y,O,O,O,O,O] rfl rfl (by kernel_rfl) (by decide) (fun K hK => ?_)
  refine off_ (by rfl) (hK.out _ _ hHeld (fun hHeld => ?_))
  clear hK K; refine norm_ (a' := ?_) ?_ ?_; rotate_left
  · show Act.put _ (some 38) _ = _; simp only [Act.put, List.setIfInBounds_toArray, List.set_cons_zero, List.set_cons_succ, i64_w, i32_w]; rfl
  refine one_ (i := 25) (N := (some 39)) #[Y,Y,Y,Y,Y,Y,Y,Y,Y,Y,Y,Y,Y,Y,Y,Y,Y,Y,Y,Y,Y,Y,Y,Y,Y,Y,O,O,O,O] rfl rfl (by kernel_rfl) (by decide) (fun K hK => ?_)
  refine off_ (by rfl) (hK.out _ _ hHeld (fun hHeld => ?_))
  clear hK K; refine norm_ (a' := ?_) ?_ ?_; rotate_left
  · show Act.put _ (some 39) _ = _; simp only [Act.put, List.setIfInBounds_toArray, List.set_cons_zero, List.set_cons_succ, i64_w, i32_w]; rfl
  refine pure_ (i := 26) (N := (some 40)) (v := undef) (a' := ?_) #[Y,Y,Y,Y,Y,Y,Y,Y,Y,Y,Y,Y,Y,Y,Y,Y,Y,Y,Y,Y,Y,Y,Y,Y,Y,Y,Y,O,O,O] rfl rfl (by kernel_rfl) (fun _ _ _ h => h) (Or.inr ⟨by rfl, rfl⟩) ?_ ?_
  rotate_left
  · simp only [Act.put, List.setIfInBounds_toArray, List.set_cons_zero, List.set_cons_succ, i64_w, i32_w]; rfl
  refine pure_ (i := 27) (N := (some 41)) (v := undef) (a' := ?_) #[Y,Y,Y,Y,Y,Y,Y,Y,Y,Y,Y,Y,Y,Y,Y,Y,Y,Y,Y,Y,Y,Y,Y,Y,Y,Y,Y,Y,O,O] rfl rfl (by kernel_rfl) (fun _ _ _ h => h) (Or.inr ⟨by rfl, rfl⟩) ?_ ?_
  rotate_left
  · simp only [Act.put, List.setIfInBounds_toArray, List.set_cons_zero, List.set_cons_succ, i64_w, i32_w]; rfl
  refine pure_ (i := 28) (N := (some 42)) (v := undef) (a' := ?_) #[Y,Y,Y,Y,Y,Y,Y,Y,Y,Y,Y,Y,Y,Y,Y,Y,Y,Y,Y,Y,Y,Y,Y,Y,Y,Y,Y,Y,Y,O] rfl rfl (by kernel_rfl) (fun _ _ _ h => h) (Or.inr ⟨by rfl, rfl⟩) ?_ ?_
  rotate_left
  · simp only [Act.put, List.setIfInBounds_toArray, List.set_cons_zero, List.set_cons_succ, i64_w, i32_w]; rfl
  refine pure_ (i := 29) (N := (some 43)) (v := ?_) (a' := ?_) #[Y,Y,Y,Y,Y,Y,Y,Y,Y,Y,Y,Y,Y,Y,Y,Y,Y,Y,Y,Y,Y,Y,Y,Y,Y,Y,Y,Y,Y,Y] rfl rfl (by kernel_rfl) (fun _ _ _ h => h) (Or.inl ⟨by rfl, ?_⟩) ?_ ?_
  rotate_left
  · intro w'; go_simp; with_reducible rfl
  rotate_left
  · simp only [Act.put, List.setIfInBounds_toArray, List.set_cons_zero, List.set_cons_succ, i64_w, i32_w]; rfl
  refine done_ (by kernel_rfl) ?_
  go_wp2_with fail
  go_ret
  exact ⟨rfl, hI.out.B⟩
set_option maxHeartbeats 8000000 in
set_option maxRecDepth 100000 in
theorem count_le (dl y x nn : Int) (b : SB) (w : World) (hc : laws_cronCase.f false dl b.s b.i b.h b.d b.m b.w x nn = some true) (hg : spec_CronGood.f y 0 = some true) (hy : y ≤ x) :
    Calls Try.prog 7 #[.agg #[.bool false, .int .i64 dl, .int .u64 (b.s : Int), .int .u64 (b.i : Int), .int .u64 (b.h : Int), .int .u64 (b.d : Int), .int .u64 (b.m : Int), .int .u64 (b.w : Int)], .agg #[.int .i64 x, .int .i64 nn], .int .i64 y] w fun e w' => e = .returned (.bool true) ∧ Below w.heap.size w w' := by
  have HC := Aside0.mk hc
  have HG := Aside0.mk hg
  have e2 : decide (y ≤ x) = true := decide_eq_true hy
  clear hc hg hy
  have hI : Aside0 (Blk w [(w.heap.size + 1, #[.int .i64 x, .int .i64 nn], 26), (w.heap.size, #[.bool false, .int .i64 dl, .int .u64 (b.s : Int), .int .u64 (b.i : Int), .int .u64 (b.h : Int), .int .u64 (b.d : Int), .int .u64 (b.m : Int), .int .u64 (b.w : Int)], 24)] ((w.alloc (.cells #[.bool false, .int .i64 dl, .int .u64 (b.s : Int), .int .u64 (b.i : Int), .int .u64 (b.h : Int), .int .u64 (b.d : Int), .int .u64 (b.m : Int), .int .u64 (b.w : Int)] 24)).alloc (.cells #[.int .i64 x, .int .i64 nn] 26))) := ⟨by
    have := (((Blk.nil w).alloc #[.bool false, .int .i64 dl, .int .u64 (b.s : Int), .int .u64 (b.i : Int), .int .u64 (b.h : Int), .int .u64 (b.d : Int), .int .u64 (b.m : Int), .int .u64 (b.w : Int)] 24).alloc #[.int .i64 x, .int .i64 nn] 26)
    simpa only [World.size_alloc] using this⟩
  go_enter Try.func7, Try.ntmps7
  go_wp2_with (go_at_call 19; (with_reducible refine (whole_c y _).mono ?_); rintro e wy ⟨rfl, hb⟩; have hI2 := Aside0.mk (hI.out.below hb); clear hI hb; have hI := hI2; clear hI2)
  have hI2 := Aside0.mk (hI.out.alloc #[.int .i64 y, .int .i64 0] 26)
  clear hI
  have hI := hI2
  clear hI2
  generalize hga : World.alloc _ _ = wya at hI ⊢
  clear hga
  generalize hgb : wy.heap.size = u0 at hI ⊢
  clear hgb
  refine start_ (n := 30) (S := Blk w [(u0, #[.int .i64 y, .int .i64 0], 26), (w.heap.size + 1, #[.int .i64 x, .int .i64 nn], 26), (w.heap.size, #[.bool false, .int .i64 dl, .int .u64 (b.s : Int), .int .u64 (b.i : Int), .int .u64 (b.h : Int), .int .u64 (b.d : Int), .int .u64 (b.m : Int), .int .u64 (b.w : Int)], 24)]) (ds := []) #[O,O,O,O,O,O,O,O,O,O,O,O,O,O,O,O,O,O,O,O,O,O,O,O,O,O,O,O,O,O] (by kernel_rfl) rfl rfl (hI.out.drew) (fun hHeld => ?_)
  have hI2 := Aside0.mk hI.out.drew
  clear hI
  have hI := hI2
  clear hI2
  generalize hwd : World.drew _ = wdr at hI hHeld ⊢
  clear hwd
  refine take_ (i := 0) (N := (some 14)) (v := ?_) (a' := ?_) #[Y,O,O,O,O,O,O,O,O,O,O,O,O,O,O,O,O,O,O,O,O,O,O,O,O,O,O,O,O,O] rfl rfl (by kernel_rfl) (fun _ _ _ h => h) (Or.inl ⟨by rfl, ?_⟩) hHeld ?_ ?_
  rotate_left
  · intro w' hS
    refine exec_load_row 24 (.tmp 3) ?_ (w.heap.size) ?_ 24 _ _ (hS.get 2 rfl) Try.underlying24 rfl size24
    · rfl
    · rfl
  rotate_left
  · simp only [Act.put, List.setIfInBounds_toArray, List.set_cons_zero, List.set_cons_succ, i64_w, i32_w]; rfl
  refine take_ (i := 1) (N := (some 15)) (v := ?_) (a' := ?_) #[Y,Y,O,O,O,O,O,O,O,O,O,O,O,O,O,O,O,O,O,O,O,O,O,O,O,O,O,O,O,O] rfl rfl (by kernel_rfl) (fun _ _ _ h => h) (Or.inl ⟨by rfl, ?_⟩) hHeld ?_ ?_
  rotate_left
  · intro w' hS
    refine exec_load_row 26 (.tmp 4) ?_ (w.heap.size + 1) ?_ 26 _ _ (hS.get 1 rfl) Try.underlying26 rfl size26
    · rfl
    · rfl
  rotate_left
  · simp only [Act.put, List.setIfInBounds_toArray, List.set_cons_zero, List.set_cons_succ, i64_w, i32_w]; rfl
  refine one_ (i := 2) (N := (some 16)) #[Y,Y,Y,O,O,O,O,O,O,O,O,O,O,O,O,O,O,O,O,O,O,O,O,O,O,O,O,O,O,O] rfl rfl (by kernel_rfl) (by decide) (fun K hK => ?_)
  refine goes_ Try.func11 (by kernel_rfl) rfl #[.agg #[.bool false, .int .i64 dl, .int .u64 (b.s : Int), .int .u64 (b.i : Int), .int .u64 (b.h : Int), .int .u64 (b.d : Int), .int .u64 (b.m : Int), .int .u64 (b.w : Int)], .agg #[.int .i64 x, .int .i64 nn]] (by rfl) rfl rfl (by (try simp only [List.map_toArray, List.map_cons, List.map_nil]); first | done | rfl) ?_
  refine (laws_cronCase.calls _ _ _ _ _ _ _ _ _ _ _ _ HC.out).mono ?_
  rintro e w2 ⟨rfl, hb⟩
  refine ⟨_, rfl, ?_⟩
  have hI2 := Aside0.mk (hI.out.below hb)
  clear hI hb
  have hI := hI2
  clear hI2
  refine hK.out _ _ (hI.out) (fun hHeld => ?_)
  clear hK K; refine norm_ (a' := ?_) ?_ ?_; rotate_left
  · show Act.put _ (some 16) _ = _; simp only [Act.put, List.setIfInBounds_toArray, List.set_cons_zero, List.set_cons_succ, i64_w, i32_w]; rfl
  refine pure_ (i := 3) (N := (some 17)) (v := ?_) (a' := ?_) #[Y,Y,Y,Y,O,O,O,O,O,O,O,O,O,O,O,O,O,O,O,O,O,O,O,O,O,O,O,O,O,O] rfl rfl (by kernel_rfl) (fun _ _ _ h => h) (Or.inl ⟨by rfl, ?_⟩) ?_ ?_
  rotate_left
  · intro w'; go_simp; with_reducible rfl
  rotate_left
  · simp only [Act.put, List.setIfInBounds_toArray, List.set_cons_zero, List.set_cons_succ, i64_w, i32_w]; rfl
  refine pure_ (i := 4) (N := (some 18)) (v := ?_) (a' := ?_) #[Y,Y,Y,Y,Y,O,O,O,O,O,O,O,O,O,O,O,O,O,O,O,O,O,O,O,O,O,O,O,O,O] rfl rfl (by kernel_rfl) (fun _ _ _ h => h) (Or.inl ⟨by rfl, ?_⟩) ?_ ?_
  rotate_left
  · intro w'; go_simp; with_reducible rfl
  rotate_left
  · simp only [Act.put, List.setIfInBounds_toArray, List.set_cons_zero, List.set_cons_succ, i64_w, i32_w]; rfl
  refine take_ (i := 5) (N := (some 19)) (v := ?_) (a' := ?_) #[Y,Y,Y,Y,Y,Y,O,O,O,O,O,O,O,O,O,O,O,O,O,O,O,O,O,O,O,O,O,O,O,O] rfl rfl (by kernel_rfl) (fun _ _ _ h => h) (Or.inl ⟨by rfl, ?_⟩) hHeld ?_ ?_
  rotate_left
  · intro w' hS
    refine exec_load_row 26 (.tmp 7) ?_ u0 ?_ 26 _ _ (hS.get 0 rfl) Try.underlying26 rfl size26
    · rfl
    · rfl
  rotate_left
  · simp only [Act.put, List.setIfInBounds_toArray, List.set_cons_zero, List.set_cons_succ, i64_w, i32_w]; rfl
  refine one_ (i := 6) (N := (some 20)) #[Y,Y,Y,Y,Y,Y,Y,O,O,O,O,O,O,O,O,O,O,O,O,O,O,O,O,O,O,O,O,O,O,O] rfl rfl (by kernel_rfl) (by decide) (fun K hK => ?_)
  refine goes_ Try.func23 (by kernel_rfl) rfl #[.agg #[.int .i64 y, .int .i64 0]] (by rfl) rfl rfl (by (try simp only [List.map_toArray, List.map_cons, List.map_nil]); first | done | rfl) ?_
  refine (good_c y _ _ HG.out).mono ?_
  rintro e w6 ⟨rfl, hb⟩
  refine ⟨_, rfl, ?_⟩
  have hI2 := Aside0.mk (hI.out.below hb)
  clear hI hb
  have hI := hI2
  clear hI2
  refine hK.out _ _ (hI.out) (fun hHeld => ?_)
  clear hK K; refine norm_ (a' := ?_) ?_ ?_; rotate_left
  · show Act.put _ (some 20) _ = _; simp only [Act.put, List.setIfInBounds_toArray, List.set_cons_zero, List.set_cons_succ, i64_w, i32_w]; rfl
  refine pure_ (i := 7) (N := (some 21)) (v := ?_) (a' := ?_) #[Y,Y,Y,Y,Y,Y,Y,Y,O,O,O,O,O,O,O,O,O,O,O,O,O,O,O,O,O,O,O,O,O,O] rfl rfl (by kernel_rfl) (fun _ _ _ h => h) (Or.inl ⟨by rfl, ?_⟩) ?_ ?_
  rotate_left
  · intro w'; go_simp; with_reducible rfl
  rotate_left
  · simp only [Act.put, List.setIfInBounds_toArray, List.set_cons_zero, List.set_cons_succ, i64_w, i32_w]; rfl
  refine pure_ (i := 8) (N := (some 22)) (v := ?_) (a' := ?_) #[Y,Y,Y,Y,Y,Y,Y,Y,Y,O,O,O,O,O,O,O,O,O,O,O,O,O,O,O,O,O,O,O,O,O] rfl rfl (by kernel_rfl) (fun _ _ _ h => h) (Or.inl ⟨by rfl, ?_⟩) ?_ ?_
  rotate_left
  · intro w'; go_simp; with_reducible rfl
  rotate_left
  · simp only [Act.put, List.setIfInBounds_toArray, List.set_cons_zero, List.set_cons_succ, i64_w, i32_w]; rfl
  refine pure_ (i := 9) (N := (some 23)) (v := ?_) (a' := ?_) #[Y,Y,Y,Y,Y,Y,Y,Y,Y,Y,O,O,O,O,O,O,O,O,O,O,O,O,O,O,O,O,O,O,O,O] rfl rfl (by kernel_rfl) (fun _ _ _ h => h) (Or.inl ⟨by rfl, ?_⟩) ?_ ?_
  rotate_left
  · intro w'; go_simp; with_reducible rfl
  rotate_left
  · simp only [Act.put, List.setIfInBounds_toArray, List.set_cons_zero, List.set_cons_succ, i64_w, i32_w]; rfl
  refine pure_ (i := 10) (N := (some 24)) (v := ?_) (a' := ?_) #[Y,Y,Y,Y,Y,Y,Y,Y,Y,Y,Y,O,O,O,O,O,O,O,O,O,O,O,O,O,O,O,O,O,O,O] rfl rfl (by kernel_rfl) (fun _ _ _ h => h) (Or.inl ⟨by rfl, ?_⟩) ?_ ?_
  rotate_left
  · intro w'; go_simp; with_reducible rfl
  rotate_left
  · simp only [Act.put, List.setIfInBounds_toArray, List.set_cons_zero, List.set_cons_succ, i64_w, i32_w]; rfl
  refine pure_ (i := 11) (N := (some 25)) (v := ?_) (a' := ?_) #[Y,Y,Y,Y,Y,Y,Y,Y,Y,Y,Y,Y,O,O,O,O,O,O,O,O,O,O,O,O,O,O,O,O,O,O] rfl rfl (by kernel_rfl) (fun _ _ _ h => h) (Or.inl ⟨by rfl, ?_⟩) ?_ ?_
  rotate_left
  · intro w'; go_simp; with_reducible rfl
  rotate_left
  · simp only [Act.put, List.setIfInBounds_toArray, List.set_cons_zero, List.set_cons_succ, i64_w, i32_w]; rfl
  refine take_ (i := 12) (N := (some 26)) (v := ?_) (a' := ?_) #[Y,Y,Y,Y,Y,Y,Y,Y,Y,Y,Y,Y,Y,O,O,O,O,O,O,O,O,O,O,O,O,O,O,O,O,O] rfl rfl (by kernel_rfl) (fun _ _ _ h => h) (Or.inl ⟨by rfl, ?_⟩) hHeld ?_ ?_
  rotate_left
  · intro w' hS
    have cc := (hS.cell 1 rfl 0).trans (show _ = some (.int .i64 x : Value) from rfl); go_simp; with_reducible rfl
  rotate_left
  · simp only [Act.put, List.setIfInBounds_toArray, List.set_cons_zero, List.set_cons_succ, i64_w, i32_w]; rfl
  refine pure_ (i := 13) (N := (some 27)) (v := ?_) (a' := ?_) #[Y,Y,Y,Y,Y,Y,Y,Y,Y,Y,Y,Y,Y,Y,O,O,O,O,O,O,O,O,O,O,O,O,O,O,O,O] rfl rfl (by kernel_rfl) (fun _ _ _ h => h) (Or.inl ⟨by rfl, ?_⟩) ?_ ?_
  rotate_left
  · intro w'; go_simp; with_reducible rfl
  rotate_left
  · simp only [Act.put, List.setIfInBounds_toArray, List.set_cons_zero, List.set_cons_succ, i64_w, i32_w]; rfl
  refine pure_ (i := 14) (N := (some 28)) (v := ?_) (a' := ?_) #[Y,Y,Y,Y,Y,Y,Y,Y,Y,Y,Y,Y,Y,Y,Y,O,O,O,O,O,O,O,O,O,O,O,O,O,O,O] rfl rfl (by kernel_rfl) (fun _ _ _ h => h) (Or.inl ⟨by rfl, ?_⟩) ?_ ?_
  rotate_left
  · intro w'; go_simp; with_reducible rfl
  rotate_left
  · simp only [Act.put, List.setIfInBounds_toArray, List.set_cons_zero, List.set_cons_succ, i64_w, i32_w]; rfl
  refine pure_ (i := 15) (N := (some 29)) (v := ?_) (a' := ?_) #[Y,Y,Y,Y,Y,Y,Y,Y,Y,Y,Y,Y,Y,Y,Y,Y,O,O,O,O,O,O,O,O,O,O,O,O,O,O] rfl rfl (by kernel_rfl) (fun _ _ _ h => h) (Or.inl ⟨by rfl, ?_⟩) ?_ ?_
  rotate_left
  · intro w'; go_simp; with_reducible rfl
  rotate_left
  · simp only [Act.put, List.setIfInBounds_toArray, List.set_cons_zero, List.set_cons_succ, i64_w, i32_w]; rfl
  refine take_ (i := 16) (N := (some 30)) (v := undef) (a' := ?_) #[Y,Y,Y,Y,Y,Y,Y,Y,Y,Y,Y,Y,Y,Y,Y,Y,Y,O,O,O,O,O,O,O,O,O,O,O,O,O] rfl rfl (by kernel_rfl) (fun _ _ _ h => h) (Or.inr ⟨by rfl, rfl⟩) hHeld ?_ ?_
  rotate_left
  · simp only [Act.put, List.setIfInBounds_toArray, List.set_cons_zero, List.set_cons_succ, i64_w, i32_w]; rfl
  refine pure_ (i := 20) (N := (some 34)) (v := undef) (a' := ?_) #[Y,Y,Y,Y,Y,Y,Y,Y,Y,Y,Y,Y,Y,Y,Y,Y,Y,O,O,O,Y,O,O,O,O,O,O,O,O,O] rfl rfl (by kernel_rfl) (fun _ _ _ h => h) (Or.inr ⟨by rfl, rfl⟩) ?_ ?_
  rotate_left
  · simp only [Act.put, List.setIfInBounds_toArray, List.set_cons_zero, List.set_cons_succ, i64_w, i32_w]; rfl
  refine take_ (i := 21) (N := (some 35)) (v := undef) (a' := ?_) #[Y,Y,Y,Y,Y,Y,Y,Y,Y,Y,Y,Y,Y,Y,Y,Y,Y,O,O,O,Y,Y,O,O,O,O,O,O,O,O] rfl rfl (by kernel_rfl) (fun _ _ _ h => h) (Or.inr ⟨by rfl, rfl⟩) hHeld ?_ ?_
  rotate_left
  · simp only [Act.put, List.setIfInBounds_toArray, List.set_cons_zero, List.set_cons_succ, i64_w, i32_w]; rfl
  refine pure_ (i := 22) (N := (some 36)) (v := undef) (a' := ?_) #[Y,Y,Y,Y,Y,Y,Y,Y,Y,Y,Y,Y,Y,Y,Y,Y,Y,O,O,O,Y,Y,Y,O,O,O,O,O,O,O] rfl rfl (by kernel_rfl) (fun _ _ _ h => h) (Or.inr ⟨by rfl, rfl⟩) ?_ ?_
  rotate_left
  · simp only [Act.put, List.setIfInBounds_toArray, List.set_cons_zero, List.set_cons_succ, i64_w, i32_w]; rfl
  refine one_ (i := 17) (N := (some 31)) #[Y,Y,Y,Y,Y,Y,Y,Y,Y,Y,Y,Y,Y,Y,Y,Y,Y,Y,O,O,Y,Y,Y,O,O,O,O,O,O,O] rfl rfl (by kernel_rfl) (by decide) (fun K hK => ?_)
  refine off_ (by rfl) (hK.out _ _ hHeld (fun hHeld => ?_))
  clear hK K; refine norm_ (a' := ?_) ?_ ?_; rotate_left
  · show Act.put _ (some 31) _ = _; simp only [Act.put, List.setIfInBounds_toArray, List.set_cons_zero, List.set_cons_succ, i64_w, i32_w]; rfl
  refine one_ (i := 18) (N := (some 32)) #[Y,Y,Y,Y,Y,Y,Y,Y,Y,Y,Y,Y,Y,Y,Y,Y,Y,Y,Y,O,Y,Y,Y,O,O,O,O,O,O,O] rfl rfl (by kernel_rfl) (by decide) (fun K hK => ?_)
  refine off_ (by rfl) (hK.out _ _ hHeld (fun hHeld => ?_))
  clear hK K; refine norm_ (a' := ?_) ?_ ?_; rotate_left
  · show Act.put _ (some 32) _ = _; simp only [Act.put, List.setIfInBounds_toArray, List.set_cons_zero, List.set_cons_succ, i64_w, i32_w]; rfl
  refine pure_ (i := 19) (N := (some 33)) (v := undef) (a' := ?_) #[Y,Y,Y,Y,Y,Y,Y,Y,Y,Y,Y,Y,Y,Y,Y,Y,Y,Y,Y,Y,Y,Y,Y,O,O,O,O,O,O,O] rfl rfl (by kernel_rfl) (fun _ _ _ h => h) (Or.inr ⟨by rfl, rfl⟩) ?_ ?_
  rotate_left
  · simp only [Act.put, List.setIfInBounds_toArray, List.set_cons_zero, List.set_cons_succ, i64_w, i32_w]; rfl
  refine one_ (i := 23) (N := (some 37)) #[Y,Y,Y,Y,Y,Y,Y,Y,Y,Y,Y,Y,Y,Y,Y,Y,Y,Y,Y,Y,Y,Y,Y,Y,O,O,O,O,O,O] rfl rfl (by kernel_rfl) (by decide) (fun K hK => ?_)
  refine off_ (by rfl) (hK.out _ _ hHeld (fun hHeld => ?_))
  clear hK K; refine norm_ (a' := ?_) ?_ ?_; rotate_left
  · show Act.put _ (some 37) _ = _; simp only [Act.put, List.setIfInBounds_toArray, List.set_cons_zero, List.set_cons_succ, i64_w, i32_w]; rfl
  refine one_ (i := 24) (N := (some 38)) #[Y,Y,Y,Y,Y,Y,Y,Y,Y,Y,Y,Y,Y,Y,Y,Y,Y,Y,Y,Y,Y,Y,Y,Y,Y,O,O,O,O,O] rfl rfl (by kernel_rfl) (by decide) (fun K hK => ?_)
  refine off_ (by rfl) (hK.out _ _ hHeld (fun hHeld => ?_))
  clear hK K; refine norm_ (a' := ?_) ?_ ?_; rotate_left
  · show Act.put _ (some 38) _ = _; simp only [Act.put, List.setIfInBounds_toArray, List.set_cons_zero, List.set_cons_succ, i64_w, i32_w]; rfl
  refine one_ (i := 25) (N := (some 39)) #[Y,Y,Y,Y,Y,Y,Y,Y,Y,Y,Y,Y,Y,Y,Y,Y,Y,Y,Y,Y,Y,Y,Y,Y,Y,Y,O,O,O,O] rfl rfl (by kernel_rfl) (by decide) (fun K hK => ?_)
  refine off_ (by rfl) (hK.out _ _ hHeld (fun hHeld => ?_))
  clear hK K; refine norm_ (a' := ?_) ?_ ?_; rotate_left
  · show Act.put _ (some 39) _ = _; simp only [Act.put, List.setIfInBounds_toArray, List.set_cons_zero, List.set_cons_succ, i64_w, i32_w]; rfl
  refine pure_ (i := 26) (N := (some 40)) (v := undef) (a' := ?_) #[Y,Y,Y,Y,Y,Y,Y,Y,Y,Y,Y,Y,Y,Y,Y,Y,Y,Y,Y,Y,Y,Y,Y,Y,Y,Y,Y,O,O,O] rfl rfl (by kernel_rfl) (fun _ _ _ h => h) (Or.inr ⟨by rfl, rfl⟩) ?_ ?_
  rotate_left
  · simp only [Act.put, List.setIfInBounds_toArray, List.set_cons_zero, List.set_cons_succ, i64_w, i32_w]; rfl
  refine pure_ (i := 27) (N := (some 41)) (v := undef) (a' := ?_) #[Y,Y,Y,Y,Y,Y,Y,Y,Y,Y,Y,Y,Y,Y,Y,Y,Y,Y,Y,Y,Y,Y,Y,Y,Y,Y,Y,Y,O,O] rfl rfl (by kernel_rfl) (fun _ _ _ h => h) (Or.inr ⟨by rfl, rfl⟩) ?_ ?_
  rotate_left
  · simp only [Act.put, List.setIfInBounds_toArray, List.set_cons_zero, List.set_cons_succ, i64_w, i32_w]; rfl
  refine pure_ (i := 28) (N := (some 42)) (v := undef) (a' := ?_) #[Y,Y,Y,Y,Y,Y,Y,Y,Y,Y,Y,Y,Y,Y,Y,Y,Y,Y,Y,Y,Y,Y,Y,Y,Y,Y,Y,Y,Y,O] rfl rfl (by kernel_rfl) (fun _ _ _ h => h) (Or.inr ⟨by rfl, rfl⟩) ?_ ?_
  rotate_left
  · simp only [Act.put, List.setIfInBounds_toArray, List.set_cons_zero, List.set_cons_succ, i64_w, i32_w]; rfl
  refine pure_ (i := 29) (N := (some 43)) (v := ?_) (a' := ?_) #[Y,Y,Y,Y,Y,Y,Y,Y,Y,Y,Y,Y,Y,Y,Y,Y,Y,Y,Y,Y,Y,Y,Y,Y,Y,Y,Y,Y,Y,Y] rfl rfl (by kernel_rfl) (fun _ _ _ h => h) (Or.inl ⟨by rfl, ?_⟩) ?_ ?_
  rotate_left
  · intro w'; go_simp; with_reducible rfl
  rotate_left
  · simp only [Act.put, List.setIfInBounds_toArray, List.set_cons_zero, List.set_cons_succ, i64_w, i32_w]; rfl
  refine done_ (by kernel_rfl) ?_
  go_wp2_with fail
  go_ret
  exact ⟨rfl, hI.out.B⟩
set_option maxHeartbeats 8000000 in
set_option maxRecDepth 100000 in
theorem count_far (dl y x nn : Int) (b : SB) (w : World) (hc : laws_cronCase.f false dl b.s b.i b.h b.d b.m b.w x nn = some true) (hg : spec_CronGood.f y 0 = some true) (hy : ¬ y ≤ x) (x0 : -62135596800 ≤ x) (x1 : x ≤ 253402300799) (y0 : -62135596800 ≤ y) (y1 : y ≤ 253402300799) (hl : yr ((x + 1) / 86400) + 5 < yr (y / 86400)) :
    Calls Try.prog 7 #[.agg #[.bool false, .int .i64 dl, .int .u64 (b.s : Int), .int .u64 (b.i : Int), .int .u64 (b.h : Int), .int .u64 (b.d : Int), .int .u64 (b.m : Int), .int .u64 (b.w : Int)], .agg #[.int .i64 x, .int .i64 nn], .int .i64 y] w fun e w' => e = .returned (.bool true) ∧ Below w.heap.size w w' := by
  have HC := Aside0.mk hc
  have HG := Aside0.mk hg
  have HX := Aside0.mk (And.intro x0 x1)
  have HY := Aside0.mk (And.intro y0 y1)
  have e2 : decide (y ≤ x) = false := decide_eq_false hy
  have e3 : decide (yr ((x + 1) / 86400) + 5 < yr (y / 86400)) = true := decide_eq_true hl
  have hf46 := field46
  have w1 : IntKind.i64.wrap (x + 1) = x + 1 := by rw [i64_w]; exact w64_in _ (by omega) (by omega)
  have w2 : IntKind.i64.wrap (yr ((x + 1) / 86400) + 5) = yr ((x + 1) / 86400) + 5 := by
    have := lastY_bd x x0 x1
    rw [i64_w]; exact w64_in _ (by omega) (by omega)
  clear hc hg hy x0 x1 y0 y1 hl
  have hI : Aside0 (Blk w [(w.heap.size + 1, #[.int .i64 x, .int .i64 nn], 26), (w.heap.size, #[.bool false, .int .i64 dl, .int .u64 (b.s : Int), .int .u64 (b.i : Int), .int .u64 (b.h : Int), .int .u64 (b.d : Int), .int .u64 (b.m : Int), .int .u64 (b.w : Int)], 24)] ((w.alloc (.cells #[.bool false, .int .i64 dl, .int .u64 (b.s : Int), .int .u64 (b.i : Int), .int .u64 (b.h : Int), .int .u64 (b.d : Int), .int .u64 (b.m : Int), .int .u64 (b.w : Int)] 24)).alloc (.cells #[.int .i64 x, .int .i64 nn] 26))) := ⟨by
    have := (((Blk.nil w).alloc #[.bool false, .int .i64 dl, .int .u64 (b.s : Int), .int .u64 (b.i : Int), .int .u64 (b.h : Int), .int .u64 (b.d : Int), .int .u64 (b.m : Int), .int .u64 (b.w : Int)] 24).alloc #[.int .i64 x, .int .i64 nn] 26)
    simpa only [World.size_alloc] using this⟩
  go_enter Try.func7, Try.ntmps7
  go_wp2_with (go_at_call 19; (with_reducible refine (whole_c y _).mono ?_); rintro e wy ⟨rfl, hb⟩; have hI2 := Aside0.mk (hI.out.below hb); clear hI hb; have hI := hI2; clear hI2)
  have hI2 := Aside0.mk (hI.out.alloc #[.int .i64 y, .int .i64 0] 26)
  clear hI
  have hI := hI2
  clear hI2
  generalize hga : World.alloc _ _ = wya at hI ⊢
  clear hga
  generalize hgb : wy.heap.size = u0 at hI ⊢
  clear hgb
  refine start_ (n := 30) (S := Blk w [(u0, #[.int .i64 y, .int .i64 0], 26), (w.heap.size + 1, #[.int .i64 x, .int .i64 nn], 26), (w.heap.size, #[.bool false, .int .i64 dl, .int .u64 (b.s : Int), .int .u64 (b.i : Int), .int .u64 (b.h : Int), .int .u64 (b.d : Int), .int .u64 (b.m : Int), .int .u64 (b.w : Int)], 24)]) (ds := []) #[O,O,O,O,O,O,O,O,O,O,O,O,O,O,O,O,O,O,O,O,O,O,O,O,O,O,O,O,O,O] (by kernel_rfl) rfl rfl (hI.out.drew) (fun hHeld => ?_)
  have hI2 := Aside0.mk hI.out.drew
  clear hI
  have hI := hI2
  clear hI2
  generalize hwd : World.drew _ = wdr at hI hHeld ⊢
  clear hwd
  refine take_ (i := 0) (N := (some 14)) (v := ?_) (a' := ?_) #[Y,O,O,O,O,O,O,O,O,O,O,O,O,O,O,O,O,O,O,O,O,O,O,O,O,O,O,O,O,O] rfl rfl (by kernel_rfl) (fun _ _ _ h => h) (Or.inl ⟨by rfl, ?_⟩) hHeld ?_ ?_
  rotate_left
  · intro w' hS
    refine exec_load_row 24 (.tmp 3) ?_ (w.heap.size) ?_ 24 _ _ (hS.get 2 rfl) Try.underlying24 rfl size24
    · rfl
    · rfl
  rotate_left
  · simp only [Act.put, List.setIfInBounds_toArray, List.set_cons_zero, List.set_cons_succ, i64_w, i32_w]; rfl
  refine take_ (i := 1) (N := (some 15)) (v := ?_) (a' := ?_) #[Y,Y,O,O,O,O,O,O,O,O,O,O,O,O,O,O,O,O,O,O,O,O,O,O,O,O,O,O,O,O] rfl rfl (by kernel_rfl) (fun _ _ _ h => h) (Or.inl ⟨by rfl, ?_⟩) hHeld ?_ ?_
  rotate_left
  · intro w' hS
    refine exec_load_row 26 (.tmp 4) ?_ (w.heap.size + 1) ?_ 26 _ _ (hS.get 1 rfl) Try.underlying26 rfl size26
    · rfl
    · rfl
  rotate_left
  · simp only [Act.put, List.setIfInBounds_toArray, List.set_cons_zero, List.set_cons_succ, i64_w, i32_w]; rfl
  refine one_ (i := 2) (N := (some 16)) #[Y,Y,Y,O,O,O,O,O,O,O,O,O,O,O,O,O,O,O,O,O,O,O,O,O,O,O,O,O,O,O] rfl rfl (by kernel_rfl) (by decide) (fun K hK => ?_)
  refine goes_ Try.func11 (by kernel_rfl) rfl #[.agg #[.bool false, .int .i64 dl, .int .u64 (b.s : Int), .int .u64 (b.i : Int), .int .u64 (b.h : Int), .int .u64 (b.d : Int), .int .u64 (b.m : Int), .int .u64 (b.w : Int)], .agg #[.int .i64 x, .int .i64 nn]] (by rfl) rfl rfl (by (try simp only [List.map_toArray, List.map_cons, List.map_nil]); first | done | rfl) ?_
  refine (laws_cronCase.calls _ _ _ _ _ _ _ _ _ _ _ _ HC.out).mono ?_
  rintro e w2 ⟨rfl, hb⟩
  refine ⟨_, rfl, ?_⟩
  have hI2 := Aside0.mk (hI.out.below hb)
  clear hI hb
  have hI := hI2
  clear hI2
  refine hK.out _ _ (hI.out) (fun hHeld => ?_)
  clear hK K; refine norm_ (a' := ?_) ?_ ?_; rotate_left
  · show Act.put _ (some 16) _ = _; simp only [Act.put, List.setIfInBounds_toArray, List.set_cons_zero, List.set_cons_succ, i64_w, i32_w]; rfl
  refine pure_ (i := 3) (N := (some 17)) (v := ?_) (a' := ?_) #[Y,Y,Y,Y,O,O,O,O,O,O,O,O,O,O,O,O,O,O,O,O,O,O,O,O,O,O,O,O,O,O] rfl rfl (by kernel_rfl) (fun _ _ _ h => h) (Or.inl ⟨by rfl, ?_⟩) ?_ ?_
  rotate_left
  · intro w'; go_simp; with_reducible rfl
  rotate_left
  · simp only [Act.put, List.setIfInBounds_toArray, List.set_cons_zero, List.set_cons_succ, i64_w, i32_w]; rfl
  refine pure_ (i := 4) (N := (some 18)) (v := ?_) (a' := ?_) #[Y,Y,Y,Y,Y,O,O,O,O,O,O,O,O,O,O,O,O,O,O,O,O,O,O,O,O,O,O,O,O,O] rfl rfl (by kernel_rfl) (fun _ _ _ h => h) (Or.inl ⟨by rfl, ?_⟩) ?_ ?_
  rotate_left
  · intro w'; go_simp; with_reducible rfl
  rotate_left
  · simp only [Act.put, List.setIfInBounds_toArray, List.set_cons_zero, List.set_cons_succ, i64_w, i32_w]; rfl
  refine take_ (i := 5) (N := (some 19)) (v := ?_) (a' := ?_) #[Y,Y,Y,Y,Y,Y,O,O,O,O,O,O,O,O,O,O,O,O,O,O,O,O,O,O,O,O,O,O,O,O] rfl rfl (by kernel_rfl) (fun _ _ _ h => h) (Or.inl ⟨by rfl, ?_⟩) hHeld ?_ ?_
  rotate_left
  · intro w' hS
    refine exec_load_row 26 (.tmp 7) ?_ u0 ?_ 26 _ _ (hS.get 0 rfl) Try.underlying26 rfl size26
    · rfl
    · rfl
  rotate_left
  · simp only [Act.put, List.setIfInBounds_toArray, List.set_cons_zero, List.set_cons_succ, i64_w, i32_w]; rfl
  refine one_ (i := 6) (N := (some 20)) #[Y,Y,Y,Y,Y,Y,Y,O,O,O,O,O,O,O,O,O,O,O,O,O,O,O,O,O,O,O,O,O,O,O] rfl rfl (by kernel_rfl) (by decide) (fun K hK => ?_)
  refine goes_ Try.func23 (by kernel_rfl) rfl #[.agg #[.int .i64 y, .int .i64 0]] (by rfl) rfl rfl (by (try simp only [List.map_toArray, List.map_cons, List.map_nil]); first | done | rfl) ?_
  refine (good_c y _ _ HG.out).mono ?_
  rintro e w6 ⟨rfl, hb⟩
  refine ⟨_, rfl, ?_⟩
  have hI2 := Aside0.mk (hI.out.below hb)
  clear hI hb
  have hI := hI2
  clear hI2
  refine hK.out _ _ (hI.out) (fun hHeld => ?_)
  clear hK K; refine norm_ (a' := ?_) ?_ ?_; rotate_left
  · show Act.put _ (some 20) _ = _; simp only [Act.put, List.setIfInBounds_toArray, List.set_cons_zero, List.set_cons_succ, i64_w, i32_w]; rfl
  refine pure_ (i := 7) (N := (some 21)) (v := ?_) (a' := ?_) #[Y,Y,Y,Y,Y,Y,Y,Y,O,O,O,O,O,O,O,O,O,O,O,O,O,O,O,O,O,O,O,O,O,O] rfl rfl (by kernel_rfl) (fun _ _ _ h => h) (Or.inl ⟨by rfl, ?_⟩) ?_ ?_
  rotate_left
  · intro w'; go_simp; with_reducible rfl
  rotate_left
  · simp only [Act.put, List.setIfInBounds_toArray, List.set_cons_zero, List.set_cons_succ, i64_w, i32_w]; rfl
  refine pure_ (i := 8) (N := (some 22)) (v := ?_) (a' := ?_) #[Y,Y,Y,Y,Y,Y,Y,Y,Y,O,O,O,O,O,O,O,O,O,O,O,O,O,O,O,O,O,O,O,O,O] rfl rfl (by kernel_rfl) (fun _ _ _ h => h) (Or.inl ⟨by rfl, ?_⟩) ?_ ?_
  rotate_left
  · intro w'; go_simp; with_reducible rfl
  rotate_left
  · simp only [Act.put, List.setIfInBounds_toArray, List.set_cons_zero, List.set_cons_succ, i64_w, i32_w]; rfl
  refine pure_ (i := 9) (N := (some 23)) (v := ?_) (a' := ?_) #[Y,Y,Y,Y,Y,Y,Y,Y,Y,Y,O,O,O,O,O,O,O,O,O,O,O,O,O,O,O,O,O,O,O,O] rfl rfl (by kernel_rfl) (fun _ _ _ h => h) (Or.inl ⟨by rfl, ?_⟩) ?_ ?_
  rotate_left
  · intro w'; go_simp; with_reducible rfl
  rotate_left
  · simp only [Act.put, List.setIfInBounds_toArray, List.set_cons_zero, List.set_cons_succ, i64_w, i32_w]; rfl
  refine pure_ (i := 10) (N := (some 24)) (v := ?_) (a' := ?_) #[Y,Y,Y,Y,Y,Y,Y,Y,Y,Y,Y,O,O,O,O,O,O,O,O,O,O,O,O,O,O,O,O,O,O,O] rfl rfl (by kernel_rfl) (fun _ _ _ h => h) (Or.inl ⟨by rfl, ?_⟩) ?_ ?_
  rotate_left
  · intro w'; go_simp; with_reducible rfl
  rotate_left
  · simp only [Act.put, List.setIfInBounds_toArray, List.set_cons_zero, List.set_cons_succ, i64_w, i32_w]; rfl
  refine pure_ (i := 11) (N := (some 25)) (v := ?_) (a' := ?_) #[Y,Y,Y,Y,Y,Y,Y,Y,Y,Y,Y,Y,O,O,O,O,O,O,O,O,O,O,O,O,O,O,O,O,O,O] rfl rfl (by kernel_rfl) (fun _ _ _ h => h) (Or.inl ⟨by rfl, ?_⟩) ?_ ?_
  rotate_left
  · intro w'; go_simp; with_reducible rfl
  rotate_left
  · simp only [Act.put, List.setIfInBounds_toArray, List.set_cons_zero, List.set_cons_succ, i64_w, i32_w]; rfl
  refine take_ (i := 12) (N := (some 26)) (v := ?_) (a' := ?_) #[Y,Y,Y,Y,Y,Y,Y,Y,Y,Y,Y,Y,Y,O,O,O,O,O,O,O,O,O,O,O,O,O,O,O,O,O] rfl rfl (by kernel_rfl) (fun _ _ _ h => h) (Or.inl ⟨by rfl, ?_⟩) hHeld ?_ ?_
  rotate_left
  · intro w' hS
    have cc := (hS.cell 1 rfl 0).trans (show _ = some (.int .i64 x : Value) from rfl); go_simp; with_reducible rfl
  rotate_left
  · simp only [Act.put, List.setIfInBounds_toArray, List.set_cons_zero, List.set_cons_succ, i64_w, i32_w]; rfl
  refine pure_ (i := 13) (N := (some 27)) (v := ?_) (a' := ?_) #[Y,Y,Y,Y,Y,Y,Y,Y,Y,Y,Y,Y,Y,Y,O,O,O,O,O,O,O,O,O,O,O,O,O,O,O,O] rfl rfl (by kernel_rfl) (fun _ _ _ h => h) (Or.inl ⟨by rfl, ?_⟩) ?_ ?_
  rotate_left
  · intro w'; go_simp; with_reducible rfl
  rotate_left
  · simp only [Act.put, List.setIfInBounds_toArray, List.set_cons_zero, List.set_cons_succ, i64_w, i32_w]; rfl
  refine pure_ (i := 14) (N := (some 28)) (v := ?_) (a' := ?_) #[Y,Y,Y,Y,Y,Y,Y,Y,Y,Y,Y,Y,Y,Y,Y,O,O,O,O,O,O,O,O,O,O,O,O,O,O,O] rfl rfl (by kernel_rfl) (fun _ _ _ h => h) (Or.inl ⟨by rfl, ?_⟩) ?_ ?_
  rotate_left
  · intro w'; go_simp; with_reducible rfl
  rotate_left
  · simp only [Act.put, List.setIfInBounds_toArray, List.set_cons_zero, List.set_cons_succ, i64_w, i32_w]; rfl
  refine pure_ (i := 15) (N := (some 29)) (v := ?_) (a' := ?_) #[Y,Y,Y,Y,Y,Y,Y,Y,Y,Y,Y,Y,Y,Y,Y,Y,O,O,O,O,O,O,O,O,O,O,O,O,O,O] rfl rfl (by kernel_rfl) (fun _ _ _ h => h) (Or.inl ⟨by rfl, ?_⟩) ?_ ?_
  rotate_left
  · intro w'; go_simp; with_reducible rfl
  rotate_left
  · simp only [Act.put, List.setIfInBounds_toArray, List.set_cons_zero, List.set_cons_succ, i64_w, i32_w]; rfl
  refine take_ (i := 16) (N := (some 30)) (v := ?_) (a' := ?_) #[Y,Y,Y,Y,Y,Y,Y,Y,Y,Y,Y,Y,Y,Y,Y,Y,Y,O,O,O,O,O,O,O,O,O,O,O,O,O] rfl rfl (by kernel_rfl) (fun _ _ _ h => h) (Or.inl ⟨by rfl, ?_⟩) hHeld ?_ ?_
  rotate_left
  · intro w' hS
    refine exec_load_row 26 (.tmp 7) ?_ u0 ?_ 26 _ _ (hS.get 0 rfl) Try.underlying26 rfl size26
    · rfl
    · rfl
  rotate_left
  · simp only [Act.put, List.setIfInBounds_toArray, List.set_cons_zero, List.set_cons_succ, i64_w, i32_w]; rfl
  refine pure_ (i := 20) (N := (some 34)) (v := ?_) (a' := ?_) #[Y,Y,Y,Y,Y,Y,Y,Y,Y,Y,Y,Y,Y,Y,Y,Y,Y,O,O,O,Y,O,O,O,O,O,O,O,O,O] rfl rfl (by kernel_rfl) (fun _ _ _ h => h) (Or.inl ⟨by rfl, ?_⟩) ?_ ?_
  rotate_left
  · intro w'; go_simp; with_reducible rfl
  rotate_left
  · simp only [Act.put, List.setIfInBounds_toArray, List.set_cons_zero, List.set_cons_succ, i64_w, i32_w]; rfl
  refine take_ (i := 21) (N := (some 35)) (v := ?_) (a' := ?_) #[Y,Y,Y,Y,Y,Y,Y,Y,Y,Y,Y,Y,Y,Y,Y,Y,Y,O,O,O,Y,Y,O,O,O,O,O,O,O,O] rfl rfl (by kernel_rfl) (fun _ _ _ h => h) (Or.inl ⟨by rfl, ?_⟩) hHeld ?_ ?_
  rotate_left
  · intro w' hS
    have cc := (hS.cell 1 rfl 0).trans (show _ = some (.int .i64 x : Value) from rfl); go_simp; with_reducible rfl
  rotate_left
  · simp only [Act.put, List.setIfInBounds_toArray, List.set_cons_zero, List.set_cons_succ, i64_w, i32_w]; rfl
  refine pure_ (i := 22) (N := (some 36)) (v := ?_) (a' := ?_) #[Y,Y,Y,Y,Y,Y,Y,Y,Y,Y,Y,Y,Y,Y,Y,Y,Y,O,O,O,Y,Y,Y,O,O,O,O,O,O,O] rfl rfl (by kernel_rfl) (fun _ _ _ h => h) (Or.inl ⟨by rfl, ?_⟩) ?_ ?_
  rotate_left
  · intro w'; go_simp; with_reducible rfl
  rotate_left
  · simp only [Act.put, List.setIfInBounds_toArray, List.set_cons_zero, List.set_cons_succ, i64_w, i32_w]; rfl
  refine one_ (i := 17) (N := (some 31)) #[Y,Y,Y,Y,Y,Y,Y,Y,Y,Y,Y,Y,Y,Y,Y,Y,Y,Y,O,O,Y,Y,Y,O,O,O,O,O,O,O] rfl rfl (by kernel_rfl) (by decide) (fun K hK => ?_)
  refine goes_ Try.func14 (by kernel_rfl) rfl #[] (by rfl) rfl rfl (by (try simp only [List.map_toArray, List.map_cons, List.map_nil]); first | done | rfl) ?_
  refine (utcZone_any _).mono ?_
  rintro e w17 ⟨rfl, hb⟩
  refine ⟨_, rfl, ?_⟩
  have hI2 := Aside0.mk (hI.out.below hb)
  clear hI hb
  have hI := hI2
  clear hI2
  refine hK.out _ _ (hI.out) (fun hHeld => ?_)
  clear hK K; refine norm_ (a' := ?_) ?_ ?_; rotate_left
  · show Act.put _ (some 31) _ = _; simp only [Act.put, List.setIfInBounds_toArray, List.set_cons_zero, List.set_cons_succ, i64_w, i32_w]; rfl
  refine one_ (i := 18) (N := (some 32)) #[Y,Y,Y,Y,Y,Y,Y,Y,Y,Y,Y,Y,Y,Y,Y,Y,Y,Y,Y,O,Y,Y,Y,O,O,O,O,O,O,O] rfl rfl (by kernel_rfl) (by decide) (fun K hK => ?_)
  refine goes_ Try.func18 (by kernel_rfl) rfl #[.agg #[.int .i64 y, .int .i64 0], .agg #[.slice none 0 0, .slice none 0 0, .slice none 0 0, .slice none 0 0]] (by rfl) rfl rfl (by (try simp only [List.map_toArray, List.map_cons, List.map_nil]); first | done | rfl) ?_
  refine (civil_c y 0 _ HY.out.1 (by have := HY.out; omega)).mono ?_
  rintro e w18 ⟨rfl, hb⟩
  refine ⟨_, rfl, ?_⟩
  have hI2 := Aside0.mk (hI.out.below hb)
  clear hI hb
  have hI := hI2
  clear hI2
  refine hK.out _ _ (hI.out) (fun hHeld => ?_)
  clear hK K; refine norm_ (a' := ?_) ?_ ?_; rotate_left
  · show Act.put _ (some 32) _ = _; simp only [Act.put, List.setIfInBounds_toArray, List.set_cons_zero, List.set_cons_succ, i64_w, i32_w]; rfl
  refine pure_ (i := 19) (N := (some 33)) (v := ?_) (a' := ?_) #[Y,Y,Y,Y,Y,Y,Y,Y,Y,Y,Y,Y,Y,Y,Y,Y,Y,Y,Y,Y,Y,Y,Y,O,O,O,O,O,O,O] rfl rfl (by kernel_rfl) (fun _ _ _ h => h) (Or.inl ⟨by rfl, ?_⟩) ?_ ?_
  rotate_left
  · intro w'; go_simp; with_reducible rfl
  rotate_left
  · simp only [Act.put, List.setIfInBounds_toArray, List.set_cons_zero, List.set_cons_succ, i64_w, i32_w]; rfl
  refine one_ (i := 23) (N := (some 37)) #[Y,Y,Y,Y,Y,Y,Y,Y,Y,Y,Y,Y,Y,Y,Y,Y,Y,Y,Y,Y,Y,Y,Y,Y,O,O,O,O,O,O] rfl rfl (by kernel_rfl) (by decide) (fun K hK => ?_)
  refine goes_ Try.func19 (by kernel_rfl) rfl #[.int .i64 (x + 1)] (by rfl) rfl rfl (by (try simp only [List.map_toArray, List.map_cons, List.map_nil]); first | done | rfl) ?_
  refine (whole_c (x + 1) _).mono ?_
  rintro e w23 ⟨rfl, hb⟩
  refine ⟨_, rfl, ?_⟩
  have hI2 := Aside0.mk (hI.out.below hb)
  clear hI hb
  have hI := hI2
  clear hI2
  refine hK.out _ _ (hI.out) (fun hHeld => ?_)
  clear hK K; refine norm_ (a' := ?_) ?_ ?_; rotate_left
  · show Act.put _ (some 37) _ = _; simp only [Act.put, List.setIfInBounds_toArray, List.set_cons_zero, List.set_cons_succ, i64_w, i32_w]; rfl
  refine one_ (i := 24) (N := (some 38)) #[Y,Y,Y,Y,Y,Y,Y,Y,Y,Y,Y,Y,Y,Y,Y,Y,Y,Y,Y,Y,Y,Y,Y,Y,Y,O,O,O,O,O] rfl rfl (by kernel_rfl) (by decide) (fun K hK => ?_)
  refine goes_ Try.func14 (by kernel_rfl) rfl #[] (by rfl) rfl rfl (by (try simp only [List.map_toArray, List.map_cons, List.map_nil]); first | done | rfl) ?_
  refine (utcZone_any _).mono ?_
  rintro e w24 ⟨rfl, hb⟩
  refine ⟨_, rfl, ?_⟩
  have hI2 := Aside0.mk (hI.out.below hb)
  clear hI hb
  have hI := hI2
  clear hI2
  refine hK.out _ _ (hI.out) (fun hHeld => ?_)
  clear hK K; refine norm_ (a' := ?_) ?_ ?_; rotate_left
  · show Act.put _ (some 38) _ = _; simp only [Act.put, List.setIfInBounds_toArray, List.set_cons_zero, List.set_cons_succ, i64_w, i32_w]; rfl
  refine one_ (i := 25) (N := (some 39)) #[Y,Y,Y,Y,Y,Y,Y,Y,Y,Y,Y,Y,Y,Y,Y,Y,Y,Y,Y,Y,Y,Y,Y,Y,Y,Y,O,O,O,O] rfl rfl (by kernel_rfl) (by decide) (fun K hK => ?_)
  refine goes_ Try.func18 (by kernel_rfl) rfl #[.agg #[.int .i64 (x + 1), .int .i64 0], .agg #[.slice none 0 0, .slice none 0 0, .slice none 0 0, .slice none 0 0]] (by rfl) rfl rfl (by (try simp only [List.map_toArray, List.map_cons, List.map_nil]); first | done | rfl) ?_
  refine (civil_c (x + 1) 0 _ (by have := HX.out; omega) (by have := HX.out; omega)).mono ?_
  rintro e w25 ⟨rfl, hb⟩
  refine ⟨_, rfl, ?_⟩
  have hI2 := Aside0.mk (hI.out.below hb)
  clear hI hb
  have hI := hI2
  clear hI2
  refine hK.out _ _ (hI.out) (fun hHeld => ?_)
  clear hK K; refine norm_ (a' := ?_) ?_ ?_; rotate_left
  · show Act.put _ (some 39) _ = _; simp only [Act.put, List.setIfInBounds_toArray, List.set_cons_zero, List.set_cons_succ, i64_w, i32_w]; rfl
  refine pure_ (i := 26) (N := (some 40)) (v := ?_) (a' := ?_) #[Y,Y,Y,Y,Y,Y,Y,Y,Y,Y,Y,Y,Y,Y,Y,Y,Y,Y,Y,Y,Y,Y,Y,Y,Y,Y,Y,O,O,O] rfl rfl (by kernel_rfl) (fun _ _ _ h => h) (Or.inl ⟨by rfl, ?_⟩) ?_ ?_
  rotate_left
  · intro w'; go_simp; with_reducible rfl
  rotate_left
  · simp only [Act.put, List.setIfInBounds_toArray, List.set_cons_zero, List.set_cons_succ, i64_w, i32_w]; rfl
  refine pure_ (i := 27) (N := (some 41)) (v := ?_) (a' := ?_) #[Y,Y,Y,Y,Y,Y,Y,Y,Y,Y,Y,Y,Y,Y,Y,Y,Y,Y,Y,Y,Y,Y,Y,Y,Y,Y,Y,Y,O,O] rfl rfl (by kernel_rfl) (fun _ _ _ h => h) (Or.inl ⟨by rfl, ?_⟩) ?_ ?_
  rotate_left
  · intro w'; go_simp; with_reducible rfl
  rotate_left
  · simp only [Act.put, List.setIfInBounds_toArray, List.set_cons_zero, List.set_cons_succ, i64_w, i32_w]; rfl
  refine pure_ (i := 28) (N := (some 42)) (v := ?_) (a' := ?_) #[Y,Y,Y,Y,Y,Y,Y,Y,Y,Y,Y,Y,Y,Y,Y,Y,Y,Y,Y,Y,Y,Y,Y,Y,Y,Y,Y,Y,Y,O] rfl rfl (by kernel_rfl) (fun _ _ _ h => h) (Or.inl ⟨by rfl, ?_⟩) ?_ ?_
  rotate_left
  · intro w'; go_simp; with_reducible rfl
  rotate_left
  · simp only [Act.put, List.setIfInBounds_toArray, List.set_cons_zero, List.set_cons_succ, i64_w, i32_w]; rfl
  refine pure_ (i := 29) (N := (some 43)) (v := ?_) (a' := ?_) #[Y,Y,Y,Y,Y,Y,Y,Y,Y,Y,Y,Y,Y,Y,Y,Y,Y,Y,Y,Y,Y,Y,Y,Y,Y,Y,Y,Y,Y,Y] rfl rfl (by kernel_rfl) (fun _ _ _ h => h) (Or.inl ⟨by rfl, ?_⟩) ?_ ?_
  rotate_left
  · intro w'; go_simp; with_reducible rfl
  rotate_left
  · simp only [Act.put, List.setIfInBounds_toArray, List.set_cons_zero, List.set_cons_succ, i64_w, i32_w]; rfl
  refine done_ (by kernel_rfl) ?_
  go_wp2_with fail
  go_ret
  exact ⟨rfl, hI.out.B⟩
theorem own_some {w : World} {base n c n2 size : Nat} {e : TypeId} {A : Option Addr} {xs : List Value} (h : w.ownsRow base e size (.slice A n c) n2 xs) (hn : 0 < n2) : ∃ g, A = some ⟨g, 0, none⟩ := by
  rcases h.2 with ⟨h1, h2⟩ | ⟨g, cap, cur, h1, _⟩
  · omega
  · injection h1 with h1
    exact ⟨g, h1⟩
theorem own_cells {w : World} {g c : Nat} {ys : List Int} (h : w.ownsRow 0 26 2 (.slice (some ⟨g, 0, none⟩) ys.length c) ys.length (rowsI ys)) (i : Nat) (hi : i < ys.length) :
    w.cell? ⟨g, i * 2, none⟩ = some (.int .i64 (At ys i)) ∧ w.cell? ⟨g, i * 2 + 1, none⟩ = some (.int .i64 0) := by
  have hr := rowsI_at ys i hi
  refine ⟨?_, ?_⟩
  · rw [World.ownsRow.cellAt h (i * 2) (by omega), show i * 2 = 2 * i by omega]; exact hr.1
  · rw [World.ownsRow.cellAt h (i * 2 + 1) (by omega), show i * 2 + 1 = 2 * i + 1 by omega]; exact hr.2
theorem Blk.swap {w w1 : World} {p q : Nat × Array Value × Nat} {l : List (Nat × Array Value × Nat)} (h : Blk w (p :: q :: l) w1) : Blk w (q :: p :: l) w1 := by
  refine ⟨fun r hr => h.lie r ?_, fun r hr => h.own r ?_, ?_, h.B⟩
  · simp only [List.mem_cons] at hr ⊢; exact hr.elim (fun e => Or.inr (Or.inl e)) fun e => e.elim Or.inl fun e => Or.inr (Or.inr e)
  · simp only [List.mem_cons] at hr ⊢; exact hr.elim (fun e => Or.inr (Or.inl e)) fun e => e.elim Or.inl fun e => Or.inr (Or.inr e)
  · have := h.nod
    simp only [List.map_cons, List.nodup_cons, List.mem_cons, not_or] at this ⊢
    exact ⟨⟨fun e => this.1.1 e.symm, this.2.1⟩, this.1.2, this.2.2⟩
set_option maxHeartbeats 8000000 in
set_option maxRecDepth 100000 in
theorem count_main (dl y x nn : Int) (b : SB) (w : World) (hc : laws_cronCase.f false dl b.s b.i b.h b.d b.m b.w x nn = some true) (hg : spec_CronGood.f y 0 = some true) (hy : ¬ y ≤ x) (x0 : -62135596800 ≤ x) (x1 : x ≤ 253402300799) (y0 : -62135596800 ≤ y) (y1 : y ≤ 253402300799) (hl : ¬ yr ((x + 1) / 86400) + 5 < yr (y / 86400)) (hw : Wf b) (n0 : 0 ≤ nn) (n1 : nn < 1000000000) :
    Calls Try.prog 7 #[.agg #[.bool false, .int .i64 dl, .int .u64 (b.s : Int), .int .u64 (b.i : Int), .int .u64 (b.h : Int), .int .u64 (b.d : Int), .int .u64 (b.m : Int), .int .u64 (b.w : Int)], .agg #[.int .i64 x, .int .i64 nn], .int .i64 y] w fun e w' => e = .returned (.bool true) ∧ Below w.heap.size w w' := by
  have HC := Aside0.mk hc
  have HG := Aside0.mk hg
  have HX := Aside0.mk (And.intro x0 x1)
  have HY := Aside0.mk (And.intro y0 y1)
  have e2 : decide (y ≤ x) = false := decide_eq_false hy
  have e3 : decide (yr ((x + 1) / 86400) + 5 < yr (y / 86400)) = false := decide_eq_false hl
  have hf46 := field46
  have w1 : IntKind.i64.wrap (x + 1) = x + 1 := by rw [i64_w]; exact w64_in _ (by omega) (by omega)
  have w2 : IntKind.i64.wrap (yr ((x + 1) / 86400) + 5) = yr ((x + 1) / 86400) + 5 := by
    have := lastY_bd x x0 x1
    rw [i64_w]; exact w64_in _ (by omega) (by omega)
  obtain ⟨cv1, hcv1⟩ : ∃ c : Array Value, c = #[.int .i64 (yr (y / 86400)), .int .i64 (mo (y / 86400)), .int .i64 (dy (y / 86400)), .int .i64 ((y % 86400) / 3600), .int .i64 ((y % 86400) % 3600 / 60), .int .i64 ((y % 86400) % 60), .int .i64 0, .int .i64 (wd (y / 86400))] := ⟨_, rfl⟩
  obtain ⟨cv2, hcv2⟩ : ∃ c : Array Value, c = #[.int .i64 (yr ((x + 1) / 86400)), .int .i64 (mo ((x + 1) / 86400)), .int .i64 (dy ((x + 1) / 86400)), .int .i64 (((x + 1) % 86400) / 3600), .int .i64 (((x + 1) % 86400) % 3600 / 60), .int .i64 (((x + 1) % 86400) % 60), .int .i64 0, .int .i64 (wd ((x + 1) / 86400))] := ⟨_, rfl⟩
  have HC1 : Aside0 (∀ w', Calls Try.prog 18 #[.agg #[.int .i64 y, .int .i64 0], .agg #[.slice none 0 0, .slice none 0 0, .slice none 0 0, .slice none 0 0]] w' fun e w'' => e = .returned (.agg cv1) ∧ Below w'.heap.size w' w'') := ⟨fun w' => by rw [hcv1]; exact civil_c y 0 w' y0 (by omega)⟩
  have HC2 : Aside0 (∀ w', Calls Try.prog 18 #[.agg #[.int .i64 (x + 1), .int .i64 0], .agg #[.slice none 0 0, .slice none 0 0, .slice none 0 0, .slice none 0 0]] w' fun e w'' => e = .returned (.agg cv2) ∧ Below w'.heap.size w' w'') := ⟨fun w' => by rw [hcv2]; exact civil_c (x + 1) 0 w' (by omega) (by omega)⟩
  have hf1 : ∀ w, (Instr.field 46 (.agg cv1) 0).run Try.prog w = .ok (.int .i64 (yr (y / 86400))) w := fun w => by rw [hcv1]; exact field46 _ _ _ _ _ _ _ _ w
  have hf2 : ∀ w, (Instr.field 46 (.agg cv2) 0).run Try.prog w = .ok (.int .i64 (yr ((x + 1) / 86400))) w := fun w => by rw [hcv2]; exact field46 _ _ _ _ _ _ _ _ w
  clear hcv1 hcv2
  have w3 : IntKind.i64.wrap (y + 1) = y + 1 := by rw [i64_w]; exact w64_in _ (by omega) (by omega)
  have HW := Aside0.mk hw
  have HNN := Aside0.mk (And.intro n0 n1)
  obtain ⟨cn, hcn⟩ : ∃ cn : Nat, cR (fB b) (x + 1) (y - x).toNat = (cn : Int) := ⟨(cR (fB b) (x + 1) (y - x).toNat).toNat, by have := cR_bd (fB b) (x + 1) (y - x).toNat; omega⟩
  have hcb := cR_bd (fB b) (x + 1) (y - x).toNat
  obtain ⟨CI, hCI⟩ : ∃ z : Int, z = (cn : Int) := ⟨_, rfl⟩
  have HCI := Aside0.mk hCI
  have w4 : IntKind.i64.wrap (CI + 1) = CI + 1 := by rw [i64_w]; exact w64_in _ (by omega) (by omega)
  have HCT : Aside0 (∀ w', Calls Try.prog 24 #[.agg (fv b), .int .i64 (x + 1), .int .i64 (y + 1)] w' fun e w'' => e = .returned (.int .i64 CI) ∧ Below w'.heap.size w' w'') := ⟨fun w' => by
    have := count_any b (x + 1) (y + 1) w' (by omega) (by omega) (by omega)
    rwa [show (y + 1 - (x + 1)).toNat = (y - x).toNat by omega, hcn, ← hCI] at this⟩
  have hch := ch_of b y y1 cn x (by omega) (by unfold lastY; omega) hcn
  obtain ⟨ys, hys⟩ : ∃ ys, ys = nexts b (cn + 1) x := ⟨_, rfl⟩
  have HYS := Aside0.mk hys
  have HASK := Aside0.mk hch.2
  have HAT := Aside0.mk (ch_at b y cn x _ hch.1)
  have HBD := Aside0.mk (ch_bd b (cn + 1) x hch.2 x0)
  rw [← hys] at HAT HBD
  have HLX := Aside0.mk (show x < y by omega)
  clear hc hg hy x0 x1 y0 y1 hl hw n0 n1 hcn hcb hch hys hCI
  have hI : Aside0 (Blk w [(w.heap.size + 1, #[.int .i64 x, .int .i64 nn], 26), (w.heap.size, #[.bool false, .int .i64 dl, .int .u64 (b.s : Int), .int .u64 (b.i : Int), .int .u64 (b.h : Int), .int .u64 (b.d : Int), .int .u64 (b.m : Int), .int .u64 (b.w : Int)], 24)] ((w.alloc (.cells #[.bool false, .int .i64 dl, .int .u64 (b.s : Int), .int .u64 (b.i : Int), .int .u64 (b.h : Int), .int .u64 (b.d : Int), .int .u64 (b.m : Int), .int .u64 (b.w : Int)] 24)).alloc (.cells #[.int .i64 x, .int .i64 nn] 26))) := ⟨by
    have := (((Blk.nil w).alloc #[.bool false, .int .i64 dl, .int .u64 (b.s : Int), .int .u64 (b.i : Int), .int .u64 (b.h : Int), .int .u64 (b.d : Int), .int .u64 (b.m : Int), .int .u64 (b.w : Int)] 24).alloc #[.int .i64 x, .int .i64 nn] 26)
    simpa only [World.size_alloc] using this⟩
  go_enter Try.func7, Try.ntmps7
  go_wp2_with (go_at_call 19; (with_reducible refine (whole_c y _).mono ?_); rintro e wy ⟨rfl, hb⟩; have hI2 := Aside0.mk (hI.out.below hb); clear hI hb; have hI := hI2; clear hI2)
  have hI2 := Aside0.mk (hI.out.alloc #[.int .i64 y, .int .i64 0] 26)
  clear hI
  have hI := hI2
  clear hI2
  generalize hga : World.alloc _ _ = wya at hI ⊢
  clear hga
  generalize hgb : wy.heap.size = u0 at hI ⊢
  clear hgb
  refine start_ (n := 30) (S := Blk w [(u0, #[.int .i64 y, .int .i64 0], 26), (w.heap.size + 1, #[.int .i64 x, .int .i64 nn], 26), (w.heap.size, #[.bool false, .int .i64 dl, .int .u64 (b.s : Int), .int .u64 (b.i : Int), .int .u64 (b.h : Int), .int .u64 (b.d : Int), .int .u64 (b.m : Int), .int .u64 (b.w : Int)], 24)]) (ds := []) #[O,O,O,O,O,O,O,O,O,O,O,O,O,O,O,O,O,O,O,O,O,O,O,O,O,O,O,O,O,O] (by kernel_rfl) rfl rfl (hI.out.drew) (fun hHeld => ?_)
  have hI2 := Aside0.mk hI.out.drew
  clear hI
  have hI := hI2
  clear hI2
  generalize hwd : World.drew _ = wdr at hI hHeld ⊢
  clear hwd
  refine take_ (i := 0) (N := (some 14)) (v := ?_) (a' := ?_) #[Y,O,O,O,O,O,O,O,O,O,O,O,O,O,O,O,O,O,O,O,O,O,O,O,O,O,O,O,O,O] rfl rfl (by kernel_rfl) (fun _ _ _ h => h) (Or.inl ⟨by rfl, ?_⟩) hHeld ?_ ?_
  rotate_left
  · intro w' hS
    refine exec_load_row 24 (.tmp 3) ?_ (w.heap.size) ?_ 24 _ _ (hS.get 2 rfl) Try.underlying24 rfl size24
    · rfl
    · rfl
  rotate_left
  · simp only [Act.put, List.setIfInBounds_toArray, List.set_cons_zero, List.set_cons_succ, i64_w, i32_w]; rfl
  refine take_ (i := 1) (N := (some 15)) (v := ?_) (a' := ?_) #[Y,Y,O,O,O,O,O,O,O,O,O,O,O,O,O,O,O,O,O,O,O,O,O,O,O,O,O,O,O,O] rfl rfl (by kernel_rfl) (fun _ _ _ h => h) (Or.inl ⟨by rfl, ?_⟩) hHeld ?_ ?_
  rotate_left
  · intro w' hS
    refine exec_load_row 26 (.tmp 4) ?_ (w.heap.size + 1) ?_ 26 _ _ (hS.get 1 rfl) Try.underlying26 rfl size26
    · rfl
    · rfl
  rotate_left
  · simp only [Act.put, List.setIfInBounds_toArray, List.set_cons_zero, List.set_cons_succ, i64_w, i32_w]; rfl
  refine one_ (i := 2) (N := (some 16)) #[Y,Y,Y,O,O,O,O,O,O,O,O,O,O,O,O,O,O,O,O,O,O,O,O,O,O,O,O,O,O,O] rfl rfl (by kernel_rfl) (by decide) (fun K hK => ?_)
  refine goes_ Try.func11 (by kernel_rfl) rfl #[.agg #[.bool false, .int .i64 dl, .int .u64 (b.s : Int), .int .u64 (b.i : Int), .int .u64 (b.h : Int), .int .u64 (b.d : Int), .int .u64 (b.m : Int), .int .u64 (b.w : Int)], .agg #[.int .i64 x, .int .i64 nn]] (by rfl) rfl rfl (by (try simp only [List.map_toArray, List.map_cons, List.map_nil]); first | done | rfl) ?_
  refine (laws_cronCase.calls _ _ _ _ _ _ _ _ _ _ _ _ HC.out).mono ?_
  rintro e w2 ⟨rfl, hb⟩
  refine ⟨_, rfl, ?_⟩
  have hI2 := Aside0.mk (hI.out.below hb)
  clear hI hb
  have hI := hI2
  clear hI2
  refine hK.out _ _ (hI.out) (fun hHeld => ?_)
  clear hK K; refine norm_ (a' := ?_) ?_ ?_; rotate_left
  · show Act.put _ (some 16) _ = _; simp only [Act.put, List.setIfInBounds_toArray, List.set_cons_zero, List.set_cons_succ, i64_w, i32_w]; rfl
  refine pure_ (i := 3) (N := (some 17)) (v := ?_) (a' := ?_) #[Y,Y,Y,Y,O,O,O,O,O,O,O,O,O,O,O,O,O,O,O,O,O,O,O,O,O,O,O,O,O,O] rfl rfl (by kernel_rfl) (fun _ _ _ h => h) (Or.inl ⟨by rfl, ?_⟩) ?_ ?_
  rotate_left
  · intro w'; go_simp; with_reducible rfl
  rotate_left
  · simp only [Act.put, List.setIfInBounds_toArray, List.set_cons_zero, List.set_cons_succ, i64_w, i32_w]; rfl
  refine pure_ (i := 4) (N := (some 18)) (v := ?_) (a' := ?_) #[Y,Y,Y,Y,Y,O,O,O,O,O,O,O,O,O,O,O,O,O,O,O,O,O,O,O,O,O,O,O,O,O] rfl rfl (by kernel_rfl) (fun _ _ _ h => h) (Or.inl ⟨by rfl, ?_⟩) ?_ ?_
  rotate_left
  · intro w'; go_simp; with_reducible rfl
  rotate_left
  · simp only [Act.put, List.setIfInBounds_toArray, List.set_cons_zero, List.set_cons_succ, i64_w, i32_w]; rfl
  refine take_ (i := 5) (N := (some 19)) (v := ?_) (a' := ?_) #[Y,Y,Y,Y,Y,Y,O,O,O,O,O,O,O,O,O,O,O,O,O,O,O,O,O,O,O,O,O,O,O,O] rfl rfl (by kernel_rfl) (fun _ _ _ h => h) (Or.inl ⟨by rfl, ?_⟩) hHeld ?_ ?_
  rotate_left
  · intro w' hS
    refine exec_load_row 26 (.tmp 7) ?_ u0 ?_ 26 _ _ (hS.get 0 rfl) Try.underlying26 rfl size26
    · rfl
    · rfl
  rotate_left
  · simp only [Act.put, List.setIfInBounds_toArray, List.set_cons_zero, List.set_cons_succ, i64_w, i32_w]; rfl
  refine one_ (i := 6) (N := (some 20)) #[Y,Y,Y,Y,Y,Y,Y,O,O,O,O,O,O,O,O,O,O,O,O,O,O,O,O,O,O,O,O,O,O,O] rfl rfl (by kernel_rfl) (by decide) (fun K hK => ?_)
  refine goes_ Try.func23 (by kernel_rfl) rfl #[.agg #[.int .i64 y, .int .i64 0]] (by rfl) rfl rfl (by (try simp only [List.map_toArray, List.map_cons, List.map_nil]); first | done | rfl) ?_
  refine (good_c y _ _ HG.out).mono ?_
  rintro e w6 ⟨rfl, hb⟩
  refine ⟨_, rfl, ?_⟩
  have hI2 := Aside0.mk (hI.out.below hb)
  clear hI hb
  have hI := hI2
  clear hI2
  refine hK.out _ _ (hI.out) (fun hHeld => ?_)
  clear hK K; refine norm_ (a' := ?_) ?_ ?_; rotate_left
  · show Act.put _ (some 20) _ = _; simp only [Act.put, List.setIfInBounds_toArray, List.set_cons_zero, List.set_cons_succ, i64_w, i32_w]; rfl
  refine pure_ (i := 7) (N := (some 21)) (v := ?_) (a' := ?_) #[Y,Y,Y,Y,Y,Y,Y,Y,O,O,O,O,O,O,O,O,O,O,O,O,O,O,O,O,O,O,O,O,O,O] rfl rfl (by kernel_rfl) (fun _ _ _ h => h) (Or.inl ⟨by rfl, ?_⟩) ?_ ?_
  rotate_left
  · intro w'; go_simp; with_reducible rfl
  rotate_left
  · simp only [Act.put, List.setIfInBounds_toArray, List.set_cons_zero, List.set_cons_succ, i64_w, i32_w]; rfl
  refine pure_ (i := 8) (N := (some 22)) (v := ?_) (a' := ?_) #[Y,Y,Y,Y,Y,Y,Y,Y,Y,O,O,O,O,O,O,O,O,O,O,O,O,O,O,O,O,O,O,O,O,O] rfl rfl (by kernel_rfl) (fun _ _ _ h => h) (Or.inl ⟨by rfl, ?_⟩) ?_ ?_
  rotate_left
  · intro w'; go_simp; with_reducible rfl
  rotate_left
  · simp only [Act.put, List.setIfInBounds_toArray, List.set_cons_zero, List.set_cons_succ, i64_w, i32_w]; rfl
  refine pure_ (i := 9) (N := (some 23)) (v := ?_) (a' := ?_) #[Y,Y,Y,Y,Y,Y,Y,Y,Y,Y,O,O,O,O,O,O,O,O,O,O,O,O,O,O,O,O,O,O,O,O] rfl rfl (by kernel_rfl) (fun _ _ _ h => h) (Or.inl ⟨by rfl, ?_⟩) ?_ ?_
  rotate_left
  · intro w'; go_simp; with_reducible rfl
  rotate_left
  · simp only [Act.put, List.setIfInBounds_toArray, List.set_cons_zero, List.set_cons_succ, i64_w, i32_w]; rfl
  refine pure_ (i := 10) (N := (some 24)) (v := ?_) (a' := ?_) #[Y,Y,Y,Y,Y,Y,Y,Y,Y,Y,Y,O,O,O,O,O,O,O,O,O,O,O,O,O,O,O,O,O,O,O] rfl rfl (by kernel_rfl) (fun _ _ _ h => h) (Or.inl ⟨by rfl, ?_⟩) ?_ ?_
  rotate_left
  · intro w'; go_simp; with_reducible rfl
  rotate_left
  · simp only [Act.put, List.setIfInBounds_toArray, List.set_cons_zero, List.set_cons_succ, i64_w, i32_w]; rfl
  refine pure_ (i := 11) (N := (some 25)) (v := ?_) (a' := ?_) #[Y,Y,Y,Y,Y,Y,Y,Y,Y,Y,Y,Y,O,O,O,O,O,O,O,O,O,O,O,O,O,O,O,O,O,O] rfl rfl (by kernel_rfl) (fun _ _ _ h => h) (Or.inl ⟨by rfl, ?_⟩) ?_ ?_
  rotate_left
  · intro w'; go_simp; with_reducible rfl
  rotate_left
  · simp only [Act.put, List.setIfInBounds_toArray, List.set_cons_zero, List.set_cons_succ, i64_w, i32_w]; rfl
  refine take_ (i := 12) (N := (some 26)) (v := ?_) (a' := ?_) #[Y,Y,Y,Y,Y,Y,Y,Y,Y,Y,Y,Y,Y,O,O,O,O,O,O,O,O,O,O,O,O,O,O,O,O,O] rfl rfl (by kernel_rfl) (fun _ _ _ h => h) (Or.inl ⟨by rfl, ?_⟩) hHeld ?_ ?_
  rotate_left
  · intro w' hS
    have cc := (hS.cell 1 rfl 0).trans (show _ = some (.int .i64 x : Value) from rfl); go_simp; with_reducible rfl
  rotate_left
  · simp only [Act.put, List.setIfInBounds_toArray, List.set_cons_zero, List.set_cons_succ, i64_w, i32_w]; rfl
  refine pure_ (i := 13) (N := (some 27)) (v := ?_) (a' := ?_) #[Y,Y,Y,Y,Y,Y,Y,Y,Y,Y,Y,Y,Y,Y,O,O,O,O,O,O,O,O,O,O,O,O,O,O,O,O] rfl rfl (by kernel_rfl) (fun _ _ _ h => h) (Or.inl ⟨by rfl, ?_⟩) ?_ ?_
  rotate_left
  · intro w'; go_simp; with_reducible rfl
  rotate_left
  · simp only [Act.put, List.setIfInBounds_toArray, List.set_cons_zero, List.set_cons_succ, i64_w, i32_w]; rfl
  refine pure_ (i := 14) (N := (some 28)) (v := ?_) (a' := ?_) #[Y,Y,Y,Y,Y,Y,Y,Y,Y,Y,Y,Y,Y,Y,Y,O,O,O,O,O,O,O,O,O,O,O,O,O,O,O] rfl rfl (by kernel_rfl) (fun _ _ _ h => h) (Or.inl ⟨by rfl, ?_⟩) ?_ ?_
  rotate_left
  · intro w'; go_simp; with_reducible rfl
  rotate_left
  · simp only [Act.put, List.setIfInBounds_toArray, List.set_cons_zero, List.set_cons_succ, i64_w, i32_w]; rfl
  refine pure_ (i := 15) (N := (some 29)) (v := ?_) (a' := ?_) #[Y,Y,Y,Y,Y,Y,Y,Y,Y,Y,Y,Y,Y,Y,Y,Y,O,O,O,O,O,O,O,O,O,O,O,O,O,O] rfl rfl (by kernel_rfl) (fun _ _ _ h => h) (Or.inl ⟨by rfl, ?_⟩) ?_ ?_
  rotate_left
  · intro w'; go_simp; with_reducible rfl
  rotate_left
  · simp only [Act.put, List.setIfInBounds_toArray, List.set_cons_zero, List.set_cons_succ, i64_w, i32_w]; rfl
  refine take_ (i := 16) (N := (some 30)) (v := ?_) (a' := ?_) #[Y,Y,Y,Y,Y,Y,Y,Y,Y,Y,Y,Y,Y,Y,Y,Y,Y,O,O,O,O,O,O,O,O,O,O,O,O,O] rfl rfl (by kernel_rfl) (fun _ _ _ h => h) (Or.inl ⟨by rfl, ?_⟩) hHeld ?_ ?_
  rotate_left
  · intro w' hS
    refine exec_load_row 26 (.tmp 7) ?_ u0 ?_ 26 _ _ (hS.get 0 rfl) Try.underlying26 rfl size26
    · rfl
    · rfl
  rotate_left
  · simp only [Act.put, List.setIfInBounds_toArray, List.set_cons_zero, List.set_cons_succ, i64_w, i32_w]; rfl
  refine pure_ (i := 20) (N := (some 34)) (v := ?_) (a' := ?_) #[Y,Y,Y,Y,Y,Y,Y,Y,Y,Y,Y,Y,Y,Y,Y,Y,Y,O,O,O,Y,O,O,O,O,O,O,O,O,O] rfl rfl (by kernel_rfl) (fun _ _ _ h => h) (Or.inl ⟨by rfl, ?_⟩) ?_ ?_
  rotate_left
  · intro w'; go_simp; with_reducible rfl
  rotate_left
  · simp only [Act.put, List.setIfInBounds_toArray, List.set_cons_zero, List.set_cons_succ, i64_w, i32_w]; rfl
  refine take_ (i := 21) (N := (some 35)) (v := ?_) (a' := ?_) #[Y,Y,Y,Y,Y,Y,Y,Y,Y,Y,Y,Y,Y,Y,Y,Y,Y,O,O,O,Y,Y,O,O,O,O,O,O,O,O] rfl rfl (by kernel_rfl) (fun _ _ _ h => h) (Or.inl ⟨by rfl, ?_⟩) hHeld ?_ ?_
  rotate_left
  · intro w' hS
    have cc := (hS.cell 1 rfl 0).trans (show _ = some (.int .i64 x : Value) from rfl); go_simp; with_reducible rfl
  rotate_left
  · simp only [Act.put, List.setIfInBounds_toArray, List.set_cons_zero, List.set_cons_succ, i64_w, i32_w]; rfl
  refine pure_ (i := 22) (N := (some 36)) (v := ?_) (a' := ?_) #[Y,Y,Y,Y,Y,Y,Y,Y,Y,Y,Y,Y,Y,Y,Y,Y,Y,O,O,O,Y,Y,Y,O,O,O,O,O,O,O] rfl rfl (by kernel_rfl) (fun _ _ _ h => h) (Or.inl ⟨by rfl, ?_⟩) ?_ ?_
  rotate_left
  · intro w'; go_simp; with_reducible rfl
  rotate_left
  · simp only [Act.put, List.setIfInBounds_toArray, List.set_cons_zero, List.set_cons_succ, i64_w, i32_w]; rfl
  refine one_ (i := 17) (N := (some 31)) #[Y,Y,Y,Y,Y,Y,Y,Y,Y,Y,Y,Y,Y,Y,Y,Y,Y,Y,O,O,Y,Y,Y,O,O,O,O,O,O,O] rfl rfl (by kernel_rfl) (by decide) (fun K hK => ?_)
  refine goes_ Try.func14 (by kernel_rfl) rfl #[] (by rfl) rfl rfl (by (try simp only [List.map_toArray, List.map_cons, List.map_nil]); first | done | rfl) ?_
  refine (utcZone_any _).mono ?_
  rintro e w17 ⟨rfl, hb⟩
  refine ⟨_, rfl, ?_⟩
  have hI2 := Aside0.mk (hI.out.below hb)
  clear hI hb
  have hI := hI2
  clear hI2
  refine hK.out _ _ (hI.out) (fun hHeld => ?_)
  clear hK K; refine norm_ (a' := ?_) ?_ ?_; rotate_left
  · show Act.put _ (some 31) _ = _; simp only [Act.put, List.setIfInBounds_toArray, List.set_cons_zero, List.set_cons_succ, i64_w, i32_w]; rfl
  refine one_ (i := 18) (N := (some 32)) #[Y,Y,Y,Y,Y,Y,Y,Y,Y,Y,Y,Y,Y,Y,Y,Y,Y,Y,Y,O,Y,Y,Y,O,O,O,O,O,O,O] rfl rfl (by kernel_rfl) (by decide) (fun K hK => ?_)
  refine goes_ Try.func18 (by kernel_rfl) rfl #[.agg #[.int .i64 y, .int .i64 0], .agg #[.slice none 0 0, .slice none 0 0, .slice none 0 0, .slice none 0 0]] (by rfl) rfl rfl (by (try simp only [List.map_toArray, List.map_cons, List.map_nil]); first | done | rfl) ?_
  refine (HC1.out _).mono ?_
  rintro e w18 ⟨rfl, hb⟩
  refine ⟨_, rfl, ?_⟩
  have hI2 := Aside0.mk (hI.out.below hb)
  clear hI hb
  have hI := hI2
  clear hI2
  refine hK.out _ _ (hI.out) (fun hHeld => ?_)
  clear hK K; refine norm_ (a' := ?_) ?_ ?_; rotate_left
  · show Act.put _ (some 32) _ = _; simp only [Act.put, List.setIfInBounds_toArray, List.set_cons_zero, List.set_cons_succ, i64_w, i32_w]; rfl
  refine pure_ (i := 19) (N := (some 33)) (v := ?_) (a' := ?_) #[Y,Y,Y,Y,Y,Y,Y,Y,Y,Y,Y,Y,Y,Y,Y,Y,Y,Y,Y,Y,Y,Y,Y,O,O,O,O,O,O,O] rfl rfl (by kernel_rfl) (fun _ _ _ h => h) (Or.inl ⟨by rfl, ?_⟩) ?_ ?_
  rotate_left
  · intro w'; go_simp; with_reducible rfl
  rotate_left
  · simp only [Act.put, List.setIfInBounds_toArray, List.set_cons_zero, List.set_cons_succ, i64_w, i32_w]; rfl
  refine one_ (i := 23) (N := (some 37)) #[Y,Y,Y,Y,Y,Y,Y,Y,Y,Y,Y,Y,Y,Y,Y,Y,Y,Y,Y,Y,Y,Y,Y,Y,O,O,O,O,O,O] rfl rfl (by kernel_rfl) (by decide) (fun K hK => ?_)
  refine goes_ Try.func19 (by kernel_rfl) rfl #[.int .i64 (x + 1)] (by rfl) rfl rfl (by (try simp only [List.map_toArray, List.map_cons, List.map_nil]); first | done | rfl) ?_
  refine (whole_c (x + 1) _).mono ?_
  rintro e w23 ⟨rfl, hb⟩
  refine ⟨_, rfl, ?_⟩
  have hI2 := Aside0.mk (hI.out.below hb)
  clear hI hb
  have hI := hI2
  clear hI2
  refine hK.out _ _ (hI.out) (fun hHeld => ?_)
  clear hK K; refine norm_ (a' := ?_) ?_ ?_; rotate_left
  · show Act.put _ (some 37) _ = _; simp only [Act.put, List.setIfInBounds_toArray, List.set_cons_zero, List.set_cons_succ, i64_w, i32_w]; rfl
  refine one_ (i := 24) (N := (some 38)) #[Y,Y,Y,Y,Y,Y,Y,Y,Y,Y,Y,Y,Y,Y,Y,Y,Y,Y,Y,Y,Y,Y,Y,Y,Y,O,O,O,O,O] rfl rfl (by kernel_rfl) (by decide) (fun K hK => ?_)
  refine goes_ Try.func14 (by kernel_rfl) rfl #[] (by rfl) rfl rfl (by (try simp only [List.map_toArray, List.map_cons, List.map_nil]); first | done | rfl) ?_
  refine (utcZone_any _).mono ?_
  rintro e w24 ⟨rfl, hb⟩
  refine ⟨_, rfl, ?_⟩
  have hI2 := Aside0.mk (hI.out.below hb)
  clear hI hb
  have hI := hI2
  clear hI2
  refine hK.out _ _ (hI.out) (fun hHeld => ?_)
  clear hK K; refine norm_ (a' := ?_) ?_ ?_; rotate_left
  · show Act.put _ (some 38) _ = _; simp only [Act.put, List.setIfInBounds_toArray, List.set_cons_zero, List.set_cons_succ, i64_w, i32_w]; rfl
  refine one_ (i := 25) (N := (some 39)) #[Y,Y,Y,Y,Y,Y,Y,Y,Y,Y,Y,Y,Y,Y,Y,Y,Y,Y,Y,Y,Y,Y,Y,Y,Y,Y,O,O,O,O] rfl rfl (by kernel_rfl) (by decide) (fun K hK => ?_)
  refine goes_ Try.func18 (by kernel_rfl) rfl #[.agg #[.int .i64 (x + 1), .int .i64 0], .agg #[.slice none 0 0, .slice none 0 0, .slice none 0 0, .slice none 0 0]] (by rfl) rfl rfl (by (try simp only [List.map_toArray, List.map_cons, List.map_nil]); first | done | rfl) ?_
  refine (HC2.out _).mono ?_
  rintro e w25 ⟨rfl, hb⟩
  refine ⟨_, rfl, ?_⟩
  have hI2 := Aside0.mk (hI.out.below hb)
  clear hI hb
  have hI := hI2
  clear hI2
  refine hK.out _ _ (hI.out) (fun hHeld => ?_)
  clear hK K; refine norm_ (a' := ?_) ?_ ?_; rotate_left
  · show Act.put _ (some 39) _ = _; simp only [Act.put, List.setIfInBounds_toArray, List.set_cons_zero, List.set_cons_succ, i64_w, i32_w]; rfl
  refine pure_ (i := 26) (N := (some 40)) (v := ?_) (a' := ?_) #[Y,Y,Y,Y,Y,Y,Y,Y,Y,Y,Y,Y,Y,Y,Y,Y,Y,Y,Y,Y,Y,Y,Y,Y,Y,Y,Y,O,O,O] rfl rfl (by kernel_rfl) (fun _ _ _ h => h) (Or.inl ⟨by rfl, ?_⟩) ?_ ?_
  rotate_left
  · intro w'; go_simp; with_reducible rfl
  rotate_left
  · simp only [Act.put, List.setIfInBounds_toArray, List.set_cons_zero, List.set_cons_succ, i64_w, i32_w]; rfl
  refine pure_ (i := 27) (N := (some 41)) (v := ?_) (a' := ?_) #[Y,Y,Y,Y,Y,Y,Y,Y,Y,Y,Y,Y,Y,Y,Y,Y,Y,Y,Y,Y,Y,Y,Y,Y,Y,Y,Y,Y,O,O] rfl rfl (by kernel_rfl) (fun _ _ _ h => h) (Or.inl ⟨by rfl, ?_⟩) ?_ ?_
  rotate_left
  · intro w'; go_simp; with_reducible rfl
  rotate_left
  · simp only [Act.put, List.setIfInBounds_toArray, List.set_cons_zero, List.set_cons_succ, i64_w, i32_w]; rfl
  refine pure_ (i := 28) (N := (some 42)) (v := ?_) (a' := ?_) #[Y,Y,Y,Y,Y,Y,Y,Y,Y,Y,Y,Y,Y,Y,Y,Y,Y,Y,Y,Y,Y,Y,Y,Y,Y,Y,Y,Y,Y,O] rfl rfl (by kernel_rfl) (fun _ _ _ h => h) (Or.inl ⟨by rfl, ?_⟩) ?_ ?_
  rotate_left
  · intro w'; go_simp; with_reducible rfl
  rotate_left
  · simp only [Act.put, List.setIfInBounds_toArray, List.set_cons_zero, List.set_cons_succ, i64_w, i32_w]; rfl
  refine pure_ (i := 29) (N := (some 43)) (v := ?_) (a' := ?_) #[Y,Y,Y,Y,Y,Y,Y,Y,Y,Y,Y,Y,Y,Y,Y,Y,Y,Y,Y,Y,Y,Y,Y,Y,Y,Y,Y,Y,Y,Y] rfl rfl (by kernel_rfl) (fun _ _ _ h => h) (Or.inl ⟨by rfl, ?_⟩) ?_ ?_
  rotate_left
  · intro w'; go_simp; with_reducible rfl
  rotate_left
  · simp only [Act.put, List.setIfInBounds_toArray, List.set_cons_zero, List.set_cons_succ, i64_w, i32_w]; rfl
  refine done_ (by kernel_rfl) ?_
  clear HG
  go_wp2_with fail
  refine start_ (n := 9) (S := Blk w [(u0, #[.int .i64 y, .int .i64 0], 26), (w.heap.size + 1, #[.int .i64 x, .int .i64 nn], 26), (w.heap.size, #[.bool false, .int .i64 dl, .int .u64 (b.s : Int), .int .u64 (b.i : Int), .int .u64 (b.h : Int), .int .u64 (b.d : Int), .int .u64 (b.m : Int), .int .u64 (b.w : Int)], 24)]) (ds := []) #[O,O,O,O,O,O,O,O,O] (by kernel_rfl) rfl rfl (hI.out.drew) (fun hHeld => ?_)
  have hI2 := Aside0.mk hI.out.drew
  clear hI
  have hI := hI2
  clear hI2
  generalize hwd : World.drew _ = wdr at hI hHeld ⊢
  clear hwd
  refine take_ (i := 0) (N := (some 44)) (v := ?_) (a' := ?_) #[Y,O,O,O,O,O,O,O,O] rfl rfl (by kernel_rfl) (fun _ _ _ h => h) (Or.inl ⟨by rfl, ?_⟩) hHeld ?_ ?_
  rotate_left
  · intro w' hS
    refine exec_load_row 24 (.tmp 3) ?_ (w.heap.size) ?_ 24 _ _ (hS.get 2 rfl) Try.underlying24 rfl size24
    · rfl
    · rfl
  rotate_left
  · simp only [Act.put, List.setIfInBounds_toArray, List.set_cons_zero, List.set_cons_succ, i64_w, i32_w]; rfl
  refine pure_ (i := 2) (N := (some 46)) (v := ?_) (a' := ?_) #[Y,O,Y,O,O,O,O,O,O] rfl rfl (by kernel_rfl) (fun _ _ _ h => h) (Or.inl ⟨by rfl, ?_⟩) ?_ ?_
  rotate_left
  · intro w'; go_simp; with_reducible rfl
  rotate_left
  · simp only [Act.put, List.setIfInBounds_toArray, List.set_cons_zero, List.set_cons_succ, i64_w, i32_w]; rfl
  refine take_ (i := 3) (N := (some 47)) (v := ?_) (a' := ?_) #[Y,O,Y,Y,O,O,O,O,O] rfl rfl (by kernel_rfl) (fun _ _ _ h => h) (Or.inl ⟨by rfl, ?_⟩) hHeld ?_ ?_
  rotate_left
  · intro w' hS
    have cc := (hS.cell 1 rfl 0).trans (show _ = some (.int .i64 x : Value) from rfl); go_simp; with_reducible rfl
  rotate_left
  · simp only [Act.put, List.setIfInBounds_toArray, List.set_cons_zero, List.set_cons_succ, i64_w, i32_w]; rfl
  refine pure_ (i := 4) (N := (some 48)) (v := ?_) (a' := ?_) #[Y,O,Y,Y,Y,O,O,O,O] rfl rfl (by kernel_rfl) (fun _ _ _ h => h) (Or.inl ⟨by rfl, ?_⟩) ?_ ?_
  rotate_left
  · intro w'; go_simp; with_reducible rfl
  rotate_left
  · simp only [Act.put, List.setIfInBounds_toArray, List.set_cons_zero, List.set_cons_succ, i64_w, i32_w]; rfl
  refine pure_ (i := 5) (N := (some 49)) (v := ?_) (a' := ?_) #[Y,O,Y,Y,Y,Y,O,O,O] rfl rfl (by kernel_rfl) (fun _ _ _ h => h) (Or.inl ⟨by rfl, ?_⟩) ?_ ?_
  rotate_left
  · intro w'; go_simp; with_reducible rfl
  rotate_left
  · simp only [Act.put, List.setIfInBounds_toArray, List.set_cons_zero, List.set_cons_succ, i64_w, i32_w]; rfl
  refine pure_ (i := 6) (N := (some 50)) (v := ?_) (a' := ?_) #[Y,O,Y,Y,Y,Y,Y,O,O] rfl rfl (by kernel_rfl) (fun _ _ _ h => h) (Or.inl ⟨by rfl, ?_⟩) ?_ ?_
  rotate_left
  · intro w'; go_simp; with_reducible rfl
  rotate_left
  · simp only [Act.put, List.setIfInBounds_toArray, List.set_cons_zero, List.set_cons_succ, i64_w, i32_w]; rfl
  refine one_ (i := 1) (N := (some 45)) #[Y,Y,Y,Y,Y,Y,Y,O,O] rfl rfl (by kernel_rfl) (by decide) (fun K hK => ?_)
  refine goes_ Try.func12 (by kernel_rfl) rfl #[.agg #[.bool false, .int .i64 dl, .int .u64 (b.s : Int), .int .u64 (b.i : Int), .int .u64 (b.h : Int), .int .u64 (b.d : Int), .int .u64 (b.m : Int), .int .u64 (b.w : Int)]] (by rfl) rfl rfl (by (try simp only [List.map_toArray, List.map_cons, List.map_nil]); first | done | rfl) ?_
  refine (fieldsOf_any b dl _ HW.out).mono ?_
  rintro e w1 ⟨rfl, hb⟩
  refine ⟨_, rfl, ?_⟩
  have hI2 := Aside0.mk (hI.out.below hb)
  clear hI hb
  have hI := hI2
  clear hI2
  refine hK.out _ _ (hI.out) (fun hHeld => ?_)
  clear hK K; refine norm_ (a' := ?_) ?_ ?_; rotate_left
  · show Act.put _ (some 45) _ = _; simp only [Act.put, List.setIfInBounds_toArray, List.set_cons_zero, List.set_cons_succ, i64_w, i32_w]; rfl
  refine one_ (i := 7) (N := (some 51)) #[Y,Y,Y,Y,Y,Y,Y,Y,O] rfl rfl (by kernel_rfl) (by decide) (fun K hK => ?_)
  refine goes_ Try.func24 (by kernel_rfl) rfl #[.agg (fv b), .int .i64 (x + 1), .int .i64 (y + 1)] (by rfl) rfl rfl (by (try simp only [List.map_toArray, List.map_cons, List.map_nil]); first | done | rfl) ?_
  refine (HCT.out _).mono ?_
  rintro e w7 ⟨rfl, hb⟩
  refine ⟨_, rfl, ?_⟩
  have hI2 := Aside0.mk (hI.out.below hb)
  clear hI hb
  have hI := hI2
  clear hI2
  refine hK.out _ _ (hI.out) (fun hHeld => ?_)
  clear hK K; refine norm_ (a' := ?_) ?_ ?_; rotate_left
  · show Act.put _ (some 51) _ = _; simp only [Act.put, List.setIfInBounds_toArray, List.set_cons_zero, List.set_cons_succ, i64_w, i32_w]; rfl
  refine pure_ (i := 8) (N := (some 8)) (v := ?_) (a' := ?_) #[Y,Y,Y,Y,Y,Y,Y,Y,Y] rfl rfl (by kernel_rfl) (fun _ _ _ h => h) (Or.inl ⟨by rfl, ?_⟩) ?_ ?_
  rotate_left
  · intro w'; go_simp; with_reducible rfl
  rotate_left
  · simp only [Act.put, List.setIfInBounds_toArray, List.set_cons_zero, List.set_cons_succ, i64_w, i32_w]; rfl
  refine done_ (by kernel_rfl) ?_
  by_cases h64 : 64 < CI
  · have e5 : decide (64 < CI) = true := decide_eq_true h64
    go_wp2_with fail
    go_ret
    exact ⟨rfl, hI.out.B⟩
  · have e5 : decide (64 < CI) = false := decide_eq_false h64
    have H64 : Aside0 (cn ≤ 64) := ⟨by have := HCI.out; omega⟩
    have HMY : Aside0 (∀ w', Calls Try.prog 25 #[.agg #[.bool false, .int .i64 dl, .int .u64 (b.s : Int), .int .u64 (b.i : Int), .int .u64 (b.h : Int), .int .u64 (b.d : Int), .int .u64 (b.m : Int), .int .u64 (b.w : Int)], .agg #[.int .i64 x, .int .i64 nn], .agg #[.slice none 0 0, .slice none 0 0, .slice none 0 0, .slice none 0 0], .int .i64 (CI + 1)] w' fun e w'' => ∃ v, e = .returned v ∧ w''.ownsRow w'.heap.size 26 2 v ys.length (rowsI ys) ∧ Below w'.heap.size w' w'') := ⟨fun w' => by
      have := many_any b dl x nn (cn + 1) w' HW.out HX.out.1 HX.out.2 HNN.out.1 HNN.out.2 (by have := H64.out; omega) HASK.out
      rw [show (((cn + 1 : Nat)) : Int) = CI + 1 by have := HCI.out; omega] at this
      unfold ManyPost at this
      rw [← HYS.out] at this
      exact this⟩
    clear h64
    go_wp2_with fail
    refine start_ (n := 7) (S := Blk w [(u0, #[.int .i64 y, .int .i64 0], 26), (w.heap.size + 1, #[.int .i64 x, .int .i64 nn], 26), (w.heap.size, #[.bool false, .int .i64 dl, .int .u64 (b.s : Int), .int .u64 (b.i : Int), .int .u64 (b.h : Int), .int .u64 (b.d : Int), .int .u64 (b.m : Int), .int .u64 (b.w : Int)], 24)]) (ds := []) #[O,O,O,O,O,O,O] (by kernel_rfl) rfl rfl (hI.out.drew) (fun hHeld => ?_)
    have hI2 := Aside0.mk hI.out.drew
    clear hI
    have hI := hI2
    clear hI2
    generalize hwd : World.drew _ = wdr at hI hHeld ⊢
    clear hwd
    refine take_ (i := 0) (N := (some 54)) (v := ?_) (a' := ?_) #[Y,O,O,O,O,O,O] rfl rfl (by kernel_rfl) (fun _ _ _ h => h) (Or.inl ⟨by rfl, ?_⟩) hHeld ?_ ?_
    rotate_left
    · intro w' hS
      refine exec_load_row 24 (.tmp 3) ?_ (w.heap.size) ?_ 24 _ _ (hS.get 2 rfl) Try.underlying24 rfl size24
      · rfl
      · rfl
    rotate_left
    · simp only [Act.put, List.setIfInBounds_toArray, List.set_cons_zero, List.set_cons_succ, i64_w, i32_w]; rfl
    refine take_ (i := 1) (N := (some 55)) (v := ?_) (a' := ?_) #[Y,Y,O,O,O,O,O] rfl rfl (by kernel_rfl) (fun _ _ _ h => h) (Or.inl ⟨by rfl, ?_⟩) hHeld ?_ ?_
    rotate_left
    · intro w' hS
      refine exec_load_row 26 (.tmp 4) ?_ (w.heap.size + 1) ?_ 26 _ _ (hS.get 1 rfl) Try.underlying26 rfl size26
      · rfl
      · rfl
    rotate_left
    · simp only [Act.put, List.setIfInBounds_toArray, List.set_cons_zero, List.set_cons_succ, i64_w, i32_w]; rfl
    refine pure_ (i := 3) (N := (some 57)) (v := ?_) (a' := ?_) #[Y,Y,O,Y,O,O,O] rfl rfl (by kernel_rfl) (fun _ _ _ h => h) (Or.inl ⟨by rfl, ?_⟩) ?_ ?_
    rotate_left
    · intro w'; go_simp; with_reducible rfl
    rotate_left
    · simp only [Act.put, List.setIfInBounds_toArray, List.set_cons_zero, List.set_cons_succ, i64_w, i32_w]; rfl
    refine pure_ (i := 4) (N := (some 58)) (v := ?_) (a' := ?_) #[Y,Y,O,Y,Y,O,O] rfl rfl (by kernel_rfl) (fun _ _ _ h => h) (Or.inl ⟨by rfl, ?_⟩) ?_ ?_
    rotate_left
    · intro w'; go_simp; with_reducible rfl
    rotate_left
    · simp only [Act.put, List.setIfInBounds_toArray, List.set_cons_zero, List.set_cons_succ, i64_w, i32_w]; rfl
    refine one_ (i := 2) (N := (some 56)) #[Y,Y,Y,Y,Y,O,O] rfl rfl (by kernel_rfl) (by decide) (fun K hK => ?_)
    refine goes_ Try.func14 (by kernel_rfl) rfl #[] (by rfl) rfl rfl (by (try simp only [List.map_toArray, List.map_cons, List.map_nil]); first | done | rfl) ?_
    refine (utcZone_any _).mono ?_
    rintro e w2 ⟨rfl, hb⟩
    refine ⟨_, rfl, ?_⟩
    have hI2 := Aside0.mk (hI.out.below hb)
    clear hI hb
    have hI := hI2
    clear hI2
    refine hK.out _ _ (hI.out) (fun hHeld => ?_)
    clear hK K; refine norm_ (a' := ?_) ?_ ?_; rotate_left
    · show Act.put _ (some 56) _ = _; simp only [Act.put, List.setIfInBounds_toArray, List.set_cons_zero, List.set_cons_succ, i64_w, i32_w]; rfl
    refine one_ (i := 5) (N := (some 59)) #[Y,Y,Y,Y,Y,Y,O] rfl rfl (by kernel_rfl) (by decide) (fun K hK => ?_)
    refine goes_ Try.func25 (by kernel_rfl) rfl #[.agg #[.bool false, .int .i64 dl, .int .u64 (b.s : Int), .int .u64 (b.i : Int), .int .u64 (b.h : Int), .int .u64 (b.d : Int), .int .u64 (b.m : Int), .int .u64 (b.w : Int)], .agg #[.int .i64 x, .int .i64 nn], .agg #[.slice none 0 0, .slice none 0 0, .slice none 0 0, .slice none 0 0], .int .i64 (CI + 1)] (by rfl) rfl rfl (by (try simp only [List.map_toArray, List.map_cons, List.map_nil]); first | done | rfl) ?_
    refine (HMY.out _).mono ?_
    rintro e w5 ⟨v, rfl, ho, hb⟩
    refine ⟨_, rfl, ?_⟩
    obtain ⟨A, c, rfl⟩ := own_slice ho
    have HO := Aside0.mk (own_weaken ho (Nat.zero_le _))
    clear ho
    have hI2 := Aside0.mk (hI.out.below hb)
    clear hI hb
    have hI := hI2
    clear hI2
    refine hK.out _ _ (hI.out) (fun hHeld => ?_)
    clear hK K; refine norm_ (a' := ?_) ?_ ?_; rotate_left
    · show Act.put _ (some 59) _ = _; simp only [Act.put, List.setIfInBounds_toArray, List.set_cons_zero, List.set_cons_succ, i64_w, i32_w]; rfl
    refine pure_ (i := 6) (N := (some 9)) (v := ?_) (a' := ?_) #[Y,Y,Y,Y,Y,Y,Y] rfl rfl (by kernel_rfl) (fun _ _ _ h => h) (Or.inl ⟨by rfl, ?_⟩) ?_ ?_
    rotate_left
    · intro w'; go_simp; with_reducible rfl
    rotate_left
    · simp only [Act.put, List.setIfInBounds_toArray, List.set_cons_zero, List.set_cons_succ, i64_w, i32_w]; rfl
    refine done_ (by kernel_rfl) ?_
    clear HMY HCT
    go_wp2_with fail
    go_loopg [62] ys.length (fun gk s62 wr => ∃ i : Nat, s62 = .int .i64 (i : Int) ∧ Aside0 (Blk w [(u0, #[.int .i64 y, .int .i64 0], 26), (w.heap.size + 1, #[.int .i64 x, .int .i64 nn], 26), (w.heap.size, #[.bool false, .int .i64 dl, .int .u64 (b.s : Int), .int .u64 (b.i : Int), .int .u64 (b.h : Int), .int .u64 (b.d : Int), .int .u64 (b.m : Int), .int .u64 (b.w : Int)], 24)] wr) ∧ Aside0 (wr.ownsRow 0 26 2 (.slice A ys.length c) ys.length (rowsI ys)) ∧ Aside0 (i ≤ ys.length) ∧ Aside0 (ys.length - i ≤ gk))
    case atStart => exact ⟨0, rfl, hI, HO, ⟨Nat.zero_le _⟩, ⟨Nat.le_refl _⟩⟩
    case round =>
      clear hI HO
      obtain ⟨i, rfl, hI, HO, HA, HM⟩ := hrel
      have HLEN : Aside0 (ys.length ≤ 1000) := ⟨by have := HAT.out.2; have := H64.out; omega⟩
      by_cases hi : i < ys.length
      · have e6 : decide (i < ys.length) = true := decide_eq_true hi
        obtain ⟨gg, rfl⟩ := own_some HO.out (by omega)
        rcases i with _ | j
        · have HI := Aside0.mk hi
          have g0 : decide (At ys 0 ≤ x) = false := decide_eq_false (by have := (HAT.out.1 0 hi).2.2.1 rfl; omega)
          clear hi
          have p0 := (own_cells HO.out (0) HI.out).1
          have p1 := (own_cells HO.out (0) HI.out).2
          have HF := HAT.out.1 (0) HI.out
          by_cases hc : 0 < cn
          · have f1 : decide ((0 : Int) < CI) = true := decide_eq_true (by have := HCI.out; omega)
            have f2 : decide (y < At ys (0)) = false := decide_eq_false (by have := HF.1 hc; omega)
            have f3 : decide (CI ≤ (0 : Int)) = false := decide_eq_false (by have := HCI.out; omega)
            have i0 := HI.out
            clear HF hc
            go_upto_region 13 with fail
            clear p0 p1 i0
            have hI2 := Aside0.mk (hI.out.alloc #[.int .i64 (At ys 0), .int .i64 0] 26)
            have HO2 := Aside0.mk (HO.out.alloc (.cells #[.int .i64 (At ys 0), .int .i64 0] 26))
            clear hI HO
            have hI := hI2
            have HO := HO2
            clear hI2 HO2
            generalize hga : World.alloc _ _ = w1 at hI HO ⊢
            clear hga
            generalize hgb : wr.heap.size = g1 at hI ⊢
            clear hgb
            refine start_ (n := 24) (S := fun w' => Blk w [(g1, #[.int .i64 (At ys 0), .int .i64 0], 26), (u0, #[.int .i64 y, .int .i64 0], 26), (w.heap.size + 1, #[.int .i64 x, .int .i64 nn], 26), (w.heap.size, #[.bool false, .int .i64 dl, .int .u64 (b.s : Int), .int .u64 (b.i : Int), .int .u64 (b.h : Int), .int .u64 (b.d : Int), .int .u64 (b.m : Int), .int .u64 (b.w : Int)], 24)] w' ∧ w'.ownsRow 0 26 2 (.slice (some ⟨gg, 0, none⟩) ys.length c) ys.length (rowsI ys)) (ds := []) #[O,O,O,O,O,O,O,O,O,O,O,O,O,O,O,O,O,O,O,O,O,O,O,O] (by kernel_rfl) rfl rfl ⟨hI.out.drew, HO.out.drew⟩ (fun hHeld => ?_)
            have HO2 := Aside0.mk HO.out.drew
            clear HO
            have HO := HO2
            clear HO2
            have hI2 := Aside0.mk hI.out.drew
            clear hI
            have hI := hI2
            clear hI2
            generalize hwd : World.drew _ = wdr at hI HO hHeld ⊢
            clear hwd
            refine pure_ (i := 0) (N := (some 92)) (v := ?_) (a' := ?_) #[Y,O,O,O,O,O,O,O,O,O,O,O,O,O,O,O,O,O,O,O,O,O,O,O] rfl rfl (by kernel_rfl) (fun _ _ _ h => h) (Or.inl ⟨by rfl, ?_⟩) ?_ ?_
            rotate_left
            · intro w'; go_simp; with_reducible rfl
            rotate_left
            · simp only [Act.put, List.setIfInBounds_toArray, List.set_cons_zero, List.set_cons_succ, i64_w, i32_w]; rfl
            refine pure_ (i := 1) (N := (some 93)) (v := ?_) (a' := ?_) #[Y,Y,O,O,O,O,O,O,O,O,O,O,O,O,O,O,O,O,O,O,O,O,O,O] rfl rfl (by kernel_rfl) (fun _ _ _ h => h) (Or.inl ⟨by rfl, ?_⟩) ?_ ?_
            rotate_left
            · intro w'; go_simp; with_reducible rfl
            rotate_left
            · simp only [Act.put, List.setIfInBounds_toArray, List.set_cons_zero, List.set_cons_succ, i64_w, i32_w]; rfl
            refine pure_ (i := 2) (N := (some 94)) (v := ?_) (a' := ?_) #[Y,Y,Y,O,O,O,O,O,O,O,O,O,O,O,O,O,O,O,O,O,O,O,O,O] rfl rfl (by kernel_rfl) (fun _ _ _ h => h) (Or.inl ⟨by rfl, ?_⟩) ?_ ?_
            rotate_left
            · intro w'; go_simp; with_reducible rfl
            rotate_left
            · simp only [Act.put, List.setIfInBounds_toArray, List.set_cons_zero, List.set_cons_succ, i64_w, i32_w]; rfl
            refine pure_ (i := 3) (N := (some 95)) (v := undef) (a' := ?_) #[Y,Y,Y,Y,O,O,O,O,O,O,O,O,O,O,O,O,O,O,O,O,O,O,O,O] rfl rfl (by kernel_rfl) (fun _ _ _ h => h) (Or.inr ⟨by rfl, rfl⟩) ?_ ?_
            rotate_left
            · simp only [Act.put, List.setIfInBounds_toArray, List.set_cons_zero, List.set_cons_succ, i64_w, i32_w]; rfl
            refine take_ (i := 4) (N := (some 96)) (v := undef) (a' := ?_) #[Y,Y,Y,Y,Y,O,O,O,O,O,O,O,O,O,O,O,O,O,O,O,O,O,O,O] rfl rfl (by kernel_rfl) (fun _ _ _ h => h) (Or.inr ⟨by rfl, rfl⟩) hHeld ?_ ?_
            rotate_left
            · simp only [Act.put, List.setIfInBounds_toArray, List.set_cons_zero, List.set_cons_succ, i64_w, i32_w]; rfl
            refine pure_ (i := 5) (N := (some 97)) (v := undef) (a' := ?_) #[Y,Y,Y,Y,Y,Y,O,O,O,O,O,O,O,O,O,O,O,O,O,O,O,O,O,O] rfl rfl (by kernel_rfl) (fun _ _ _ h => h) (Or.inr ⟨by rfl, rfl⟩) ?_ ?_
            rotate_left
            · simp only [Act.put, List.setIfInBounds_toArray, List.set_cons_zero, List.set_cons_succ, i64_w, i32_w]; rfl
            refine pure_ (i := 6) (N := (some 98)) (v := undef) (a' := ?_) #[Y,Y,Y,Y,Y,Y,Y,O,O,O,O,O,O,O,O,O,O,O,O,O,O,O,O,O] rfl rfl (by kernel_rfl) (fun _ _ _ h => h) (Or.inr ⟨by rfl, rfl⟩) ?_ ?_
            rotate_left
            · simp only [Act.put, List.setIfInBounds_toArray, List.set_cons_zero, List.set_cons_succ, i64_w, i32_w]; rfl
            refine pure_ (i := 7) (N := (some 99)) (v := undef) (a' := ?_) #[Y,Y,Y,Y,Y,Y,Y,Y,O,O,O,O,O,O,O,O,O,O,O,O,O,O,O,O] rfl rfl (by kernel_rfl) (fun _ _ _ h => h) (Or.inr ⟨by rfl, rfl⟩) ?_ ?_
            rotate_left
            · simp only [Act.put, List.setIfInBounds_toArray, List.set_cons_zero, List.set_cons_succ, i64_w, i32_w]; rfl
            refine pure_ (i := 8) (N := (some 100)) (v := undef) (a' := ?_) #[Y,Y,Y,Y,Y,Y,Y,Y,Y,O,O,O,O,O,O,O,O,O,O,O,O,O,O,O] rfl rfl (by kernel_rfl) (fun _ _ _ h => h) (Or.inr ⟨by rfl, rfl⟩) ?_ ?_
            rotate_left
            · simp only [Act.put, List.setIfInBounds_toArray, List.set_cons_zero, List.set_cons_succ, i64_w, i32_w]; rfl
            refine pure_ (i := 9) (N := (some 101)) (v := undef) (a' := ?_) #[Y,Y,Y,Y,Y,Y,Y,Y,Y,Y,O,O,O,O,O,O,O,O,O,O,O,O,O,O] rfl rfl (by kernel_rfl) (fun _ _ _ h => h) (Or.inr ⟨by rfl, rfl⟩) ?_ ?_
            rotate_left
            · simp only [Act.put, List.setIfInBounds_toArray, List.set_cons_zero, List.set_cons_succ, i64_w, i32_w]; rfl
            refine take_ (i := 10) (N := (some 102)) (v := undef) (a' := ?_) #[Y,Y,Y,Y,Y,Y,Y,Y,Y,Y,Y,O,O,O,O,O,O,O,O,O,O,O,O,O] rfl rfl (by kernel_rfl) (fun _ _ _ h => h) (Or.inr ⟨by rfl, rfl⟩) hHeld ?_ ?_
            rotate_left
            · simp only [Act.put, List.setIfInBounds_toArray, List.set_cons_zero, List.set_cons_succ, i64_w, i32_w]; rfl
            refine pure_ (i := 11) (N := (some 103)) (v := undef) (a' := ?_) #[Y,Y,Y,Y,Y,Y,Y,Y,Y,Y,Y,Y,O,O,O,O,O,O,O,O,O,O,O,O] rfl rfl (by kernel_rfl) (fun _ _ _ h => h) (Or.inr ⟨by rfl, rfl⟩) ?_ ?_
            rotate_left
            · simp only [Act.put, List.setIfInBounds_toArray, List.set_cons_zero, List.set_cons_succ, i64_w, i32_w]; rfl
            refine pure_ (i := 12) (N := (some 104)) (v := ?_) (a' := ?_) #[Y,Y,Y,Y,Y,Y,Y,Y,Y,Y,Y,Y,Y,O,O,O,O,O,O,O,O,O,O,O] rfl rfl (by kernel_rfl) (fun _ _ _ h => h) (Or.inl ⟨by rfl, ?_⟩) ?_ ?_
            rotate_left
            · intro w'; go_simp; with_reducible rfl
            rotate_left
            · simp only [Act.put, List.setIfInBounds_toArray, List.set_cons_zero, List.set_cons_succ, i64_w, i32_w]; rfl
            refine pure_ (i := 13) (N := (some 105)) (v := ?_) (a' := ?_) #[Y,Y,Y,Y,Y,Y,Y,Y,Y,Y,Y,Y,Y,Y,O,O,O,O,O,O,O,O,O,O] rfl rfl (by kernel_rfl) (fun _ _ _ h => h) (Or.inl ⟨by rfl, ?_⟩) ?_ ?_
            rotate_left
            · intro w'; go_simp; with_reducible rfl
            rotate_left
            · simp only [Act.put, List.setIfInBounds_toArray, List.set_cons_zero, List.set_cons_succ, i64_w, i32_w]; rfl
            refine pure_ (i := 14) (N := (some 106)) (v := ?_) (a' := ?_) #[Y,Y,Y,Y,Y,Y,Y,Y,Y,Y,Y,Y,Y,Y,Y,O,O,O,O,O,O,O,O,O] rfl rfl (by kernel_rfl) (fun _ _ _ h => h) (Or.inl ⟨by rfl, ?_⟩) ?_ ?_
            rotate_left
            · intro w'; go_simp; with_reducible rfl
            rotate_left
            · simp only [Act.put, List.setIfInBounds_toArray, List.set_cons_zero, List.set_cons_succ, i64_w, i32_w]; rfl
            refine pure_ (i := 15) (N := (some 107)) (v := ?_) (a' := ?_) #[Y,Y,Y,Y,Y,Y,Y,Y,Y,Y,Y,Y,Y,Y,Y,Y,O,O,O,O,O,O,O,O] rfl rfl (by kernel_rfl) (fun _ _ _ h => h) (Or.inl ⟨by rfl, ?_⟩) ?_ ?_
            rotate_left
            · intro w'; go_simp; with_reducible rfl
            rotate_left
            · simp only [Act.put, List.setIfInBounds_toArray, List.set_cons_zero, List.set_cons_succ, i64_w, i32_w]; rfl
            refine pure_ (i := 16) (N := (some 108)) (v := ?_) (a' := ?_) #[Y,Y,Y,Y,Y,Y,Y,Y,Y,Y,Y,Y,Y,Y,Y,Y,Y,O,O,O,O,O,O,O] rfl rfl (by kernel_rfl) (fun _ _ _ h => h) (Or.inl ⟨by rfl, ?_⟩) ?_ ?_
            rotate_left
            · intro w'; go_simp; with_reducible rfl
            rotate_left
            · simp only [Act.put, List.setIfInBounds_toArray, List.set_cons_zero, List.set_cons_succ, i64_w, i32_w]; rfl
            refine pure_ (i := 17) (N := (some 109)) (v := ?_) (a' := ?_) #[Y,Y,Y,Y,Y,Y,Y,Y,Y,Y,Y,Y,Y,Y,Y,Y,Y,Y,O,O,O,O,O,O] rfl rfl (by kernel_rfl) (fun _ _ _ h => h) (Or.inl ⟨by rfl, ?_⟩) ?_ ?_
            rotate_left
            · intro w'; go_simp; with_reducible rfl
            rotate_left
            · simp only [Act.put, List.setIfInBounds_toArray, List.set_cons_zero, List.set_cons_succ, i64_w, i32_w]; rfl
            refine take_ (i := 18) (N := (some 110)) (v := ?_) (a' := ?_) #[Y,Y,Y,Y,Y,Y,Y,Y,Y,Y,Y,Y,Y,Y,Y,Y,Y,Y,Y,O,O,O,O,O] rfl rfl (by kernel_rfl) (fun _ _ _ h => h) (Or.inl ⟨by rfl, ?_⟩) hHeld ?_ ?_
            rotate_left
            · intro w' hS
              have cc := (hS.1.cell 0 rfl 0).trans (show _ = some (.int .i64 (At ys 0) : Value) from rfl); go_simp; with_reducible rfl
            rotate_left
            · simp only [Act.put, List.setIfInBounds_toArray, List.set_cons_zero, List.set_cons_succ, i64_w, i32_w]; rfl
            refine pure_ (i := 19) (N := (some 111)) (v := ?_) (a' := ?_) #[Y,Y,Y,Y,Y,Y,Y,Y,Y,Y,Y,Y,Y,Y,Y,Y,Y,Y,Y,Y,O,O,O,O] rfl rfl (by kernel_rfl) (fun _ _ _ h => h) (Or.inl ⟨by rfl, ?_⟩) ?_ ?_
            rotate_left
            · intro w'; go_simp; with_reducible rfl
            rotate_left
            · simp only [Act.put, List.setIfInBounds_toArray, List.set_cons_zero, List.set_cons_succ, i64_w, i32_w]; rfl
            refine take_ (i := 20) (N := (some 112)) (v := ?_) (a' := ?_) #[Y,Y,Y,Y,Y,Y,Y,Y,Y,Y,Y,Y,Y,Y,Y,Y,Y,Y,Y,Y,Y,O,O,O] rfl rfl (by kernel_rfl) (fun _ _ _ h => h) (Or.inl ⟨by rfl, ?_⟩) hHeld ?_ ?_
            rotate_left
            · intro w' hS
              have cc := (hS.1.cell 2 rfl 0).trans (show _ = some (.int .i64 x : Value) from rfl); go_simp; with_reducible rfl
            rotate_left
            · simp only [Act.put, List.setIfInBounds_toArray, List.set_cons_zero, List.set_cons_succ, i64_w, i32_w]; rfl
            refine pure_ (i := 21) (N := (some 113)) (v := ?_) (a' := ?_) #[Y,Y,Y,Y,Y,Y,Y,Y,Y,Y,Y,Y,Y,Y,Y,Y,Y,Y,Y,Y,Y,Y,O,O] rfl rfl (by kernel_rfl) (fun _ _ _ h => h) (Or.inl ⟨by rfl, ?_⟩) ?_ ?_
            rotate_left
            · intro w'; go_simp; with_reducible rfl
            rotate_left
            · simp only [Act.put, List.setIfInBounds_toArray, List.set_cons_zero, List.set_cons_succ, i64_w, i32_w]; rfl
            refine pure_ (i := 22) (N := (some 114)) (v := ?_) (a' := ?_) #[Y,Y,Y,Y,Y,Y,Y,Y,Y,Y,Y,Y,Y,Y,Y,Y,Y,Y,Y,Y,Y,Y,Y,O] rfl rfl (by kernel_rfl) (fun _ _ _ h => h) (Or.inl ⟨by rfl, ?_⟩) ?_ ?_
            rotate_left
            · intro w'; go_simp; with_reducible rfl
            rotate_left
            · simp only [Act.put, List.setIfInBounds_toArray, List.set_cons_zero, List.set_cons_succ, i64_w, i32_w]; rfl
            refine pure_ (i := 23) (N := (some 115)) (v := ?_) (a' := ?_) #[Y,Y,Y,Y,Y,Y,Y,Y,Y,Y,Y,Y,Y,Y,Y,Y,Y,Y,Y,Y,Y,Y,Y,Y] rfl rfl (by kernel_rfl) (fun _ _ _ h => h) (Or.inl ⟨by rfl, ?_⟩) ?_ ?_
            rotate_left
            · intro w'; go_simp; with_reducible rfl
            rotate_left
            · simp only [Act.put, List.setIfInBounds_toArray, List.set_cons_zero, List.set_cons_succ, i64_w, i32_w]; rfl
            refine done_ (by kernel_rfl) ?_
            go_wp2_with fail
            have hI2 := Aside0.mk hI.out.tail
            clear hI
            have hI := hI2
            clear hI2
            go_roundg (ys.length - (0 + 1))
            case measure => have := HM.out; have := HI.out; omega
            case rel => exact ⟨0 + 1, by first | rfl | go_num | (rw [w64_in _ (by omega) (by have h9 := HLEN.out; have h10 := HI.out; omega)]; rfl), hI, HO, ⟨by have := HI.out; omega⟩, ⟨Nat.le_refl _⟩⟩
          · have f1 : decide ((0 : Int) < CI) = false := decide_eq_false (by have := HCI.out; omega)
            have f3 : decide (CI ≤ (0 : Int)) = true := decide_eq_true (by have := HCI.out; omega)
            have f4 : decide (At ys (0) ≤ y) = false := decide_eq_false (by have := HF.2.1 (by omega); omega)
            have i0 := HI.out
            clear HF hc
            go_upto_region 13 with fail
            clear p0 p1 i0
            have hI2 := Aside0.mk (hI.out.alloc #[.int .i64 (At ys 0), .int .i64 0] 26)
            have HO2 := Aside0.mk (HO.out.alloc (.cells #[.int .i64 (At ys 0), .int .i64 0] 26))
            clear hI HO
            have hI := hI2
            have HO := HO2
            clear hI2 HO2
            generalize hga : World.alloc _ _ = w1 at hI HO ⊢
            clear hga
            generalize hgb : wr.heap.size = g1 at hI ⊢
            clear hgb
            refine start_ (n := 24) (S := fun w' => Blk w [(g1, #[.int .i64 (At ys 0), .int .i64 0], 26), (u0, #[.int .i64 y, .int .i64 0], 26), (w.heap.size + 1, #[.int .i64 x, .int .i64 nn], 26), (w.heap.size, #[.bool false, .int .i64 dl, .int .u64 (b.s : Int), .int .u64 (b.i : Int), .int .u64 (b.h : Int), .int .u64 (b.d : Int), .int .u64 (b.m : Int), .int .u64 (b.w : Int)], 24)] w' ∧ w'.ownsRow 0 26 2 (.slice (some ⟨gg, 0, none⟩) ys.length c) ys.length (rowsI ys)) (ds := []) #[O,O,O,O,O,O,O,O,O,O,O,O,O,O,O,O,O,O,O,O,O,O,O,O] (by kernel_rfl) rfl rfl ⟨hI.out.drew, HO.out.drew⟩ (fun hHeld => ?_)
            have HO2 := Aside0.mk HO.out.drew
            clear HO
            have HO := HO2
            clear HO2
            have hI2 := Aside0.mk hI.out.drew
            clear hI
            have hI := hI2
            clear hI2
            generalize hwd : World.drew _ = wdr at hI HO hHeld ⊢
            clear hwd
            refine pure_ (i := 0) (N := (some 92)) (v := ?_) (a' := ?_) #[Y,O,O,O,O,O,O,O,O,O,O,O,O,O,O,O,O,O,O,O,O,O,O,O] rfl rfl (by kernel_rfl) (fun _ _ _ h => h) (Or.inl ⟨by rfl, ?_⟩) ?_ ?_
            rotate_left
            · intro w'; go_simp; with_reducible rfl
            rotate_left
            · simp only [Act.put, List.setIfInBounds_toArray, List.set_cons_zero, List.set_cons_succ, i64_w, i32_w]; rfl
            refine pure_ (i := 1) (N := (some 93)) (v := ?_) (a' := ?_) #[Y,Y,O,O,O,O,O,O,O,O,O,O,O,O,O,O,O,O,O,O,O,O,O,O] rfl rfl (by kernel_rfl) (fun _ _ _ h => h) (Or.inl ⟨by rfl, ?_⟩) ?_ ?_
            rotate_left
            · intro w'; go_simp; with_reducible rfl
            rotate_left
            · simp only [Act.put, List.setIfInBounds_toArray, List.set_cons_zero, List.set_cons_succ, i64_w, i32_w]; rfl
            refine pure_ (i := 2) (N := (some 94)) (v := ?_) (a' := ?_) #[Y,Y,Y,O,O,O,O,O,O,O,O,O,O,O,O,O,O,O,O,O,O,O,O,O] rfl rfl (by kernel_rfl) (fun _ _ _ h => h) (Or.inl ⟨by rfl, ?_⟩) ?_ ?_
            rotate_left
            · intro w'; go_simp; with_reducible rfl
            rotate_left
            · simp only [Act.put, List.setIfInBounds_toArray, List.set_cons_zero, List.set_cons_succ, i64_w, i32_w]; rfl
            refine pure_ (i := 3) (N := (some 95)) (v := undef) (a' := ?_) #[Y,Y,Y,Y,O,O,O,O,O,O,O,O,O,O,O,O,O,O,O,O,O,O,O,O] rfl rfl (by kernel_rfl) (fun _ _ _ h => h) (Or.inr ⟨by rfl, rfl⟩) ?_ ?_
            rotate_left
            · simp only [Act.put, List.setIfInBounds_toArray, List.set_cons_zero, List.set_cons_succ, i64_w, i32_w]; rfl
            refine take_ (i := 4) (N := (some 96)) (v := undef) (a' := ?_) #[Y,Y,Y,Y,Y,O,O,O,O,O,O,O,O,O,O,O,O,O,O,O,O,O,O,O] rfl rfl (by kernel_rfl) (fun _ _ _ h => h) (Or.inr ⟨by rfl, rfl⟩) hHeld ?_ ?_
            rotate_left
            · simp only [Act.put, List.setIfInBounds_toArray, List.set_cons_zero, List.set_cons_succ, i64_w, i32_w]; rfl
            refine pure_ (i := 5) (N := (some 97)) (v := undef) (a' := ?_) #[Y,Y,Y,Y,Y,Y,O,O,O,O,O,O,O,O,O,O,O,O,O,O,O,O,O,O] rfl rfl (by kernel_rfl) (fun _ _ _ h => h) (Or.inr ⟨by rfl, rfl⟩) ?_ ?_
            rotate_left
            · simp only [Act.put, List.setIfInBounds_toArray, List.set_cons_zero, List.set_cons_succ, i64_w, i32_w]; rfl
            refine pure_ (i := 6) (N := (some 98)) (v := undef) (a' := ?_) #[Y,Y,Y,Y,Y,Y,Y,O,O,O,O,O,O,O,O,O,O,O,O,O,O,O,O,O] rfl rfl (by kernel_rfl) (fun _ _ _ h => h) (Or.inr ⟨by rfl, rfl⟩) ?_ ?_
            rotate_left
            · simp only [Act.put, List.setIfInBounds_toArray, List.set_cons_zero, List.set_cons_succ, i64_w, i32_w]; rfl
            refine pure_ (i := 7) (N := (some 99)) (v := undef) (a' := ?_) #[Y,Y,Y,Y,Y,Y,Y,Y,O,O,O,O,O,O,O,O,O,O,O,O,O,O,O,O] rfl rfl (by kernel_rfl) (fun _ _ _ h => h) (Or.inr ⟨by rfl, rfl⟩) ?_ ?_
            rotate_left
            · simp only [Act.put, List.setIfInBounds_toArray, List.set_cons_zero, List.set_cons_succ, i64_w, i32_w]; rfl
            refine pure_ (i := 8) (N := (some 100)) (v := undef) (a' := ?_) #[Y,Y,Y,Y,Y,Y,Y,Y,Y,O,O,O,O,O,O,O,O,O,O,O,O,O,O,O] rfl rfl (by kernel_rfl) (fun _ _ _ h => h) (Or.inr ⟨by rfl, rfl⟩) ?_ ?_
            rotate_left
            · simp only [Act.put, List.setIfInBounds_toArray, List.set_cons_zero, List.set_cons_succ, i64_w, i32_w]; rfl
            refine pure_ (i := 9) (N := (some 101)) (v := undef) (a' := ?_) #[Y,Y,Y,Y,Y,Y,Y,Y,Y,Y,O,O,O,O,O,O,O,O,O,O,O,O,O,O] rfl rfl (by kernel_rfl) (fun _ _ _ h => h) (Or.inr ⟨by rfl, rfl⟩) ?_ ?_
            rotate_left
            · simp only [Act.put, List.setIfInBounds_toArray, List.set_cons_zero, List.set_cons_succ, i64_w, i32_w]; rfl
            refine take_ (i := 10) (N := (some 102)) (v := undef) (a' := ?_) #[Y,Y,Y,Y,Y,Y,Y,Y,Y,Y,Y,O,O,O,O,O,O,O,O,O,O,O,O,O] rfl rfl (by kernel_rfl) (fun _ _ _ h => h) (Or.inr ⟨by rfl, rfl⟩) hHeld ?_ ?_
            rotate_left
            · simp only [Act.put, List.setIfInBounds_toArray, List.set_cons_zero, List.set_cons_succ, i64_w, i32_w]; rfl
            refine pure_ (i := 11) (N := (some 103)) (v := undef) (a' := ?_) #[Y,Y,Y,Y,Y,Y,Y,Y,Y,Y,Y,Y,O,O,O,O,O,O,O,O,O,O,O,O] rfl rfl (by kernel_rfl) (fun _ _ _ h => h) (Or.inr ⟨by rfl, rfl⟩) ?_ ?_
            rotate_left
            · simp only [Act.put, List.setIfInBounds_toArray, List.set_cons_zero, List.set_cons_succ, i64_w, i32_w]; rfl
            refine pure_ (i := 12) (N := (some 104)) (v := ?_) (a' := ?_) #[Y,Y,Y,Y,Y,Y,Y,Y,Y,Y,Y,Y,Y,O,O,O,O,O,O,O,O,O,O,O] rfl rfl (by kernel_rfl) (fun _ _ _ h => h) (Or.inl ⟨by rfl, ?_⟩) ?_ ?_
            rotate_left
            · intro w'; go_simp; with_reducible rfl
            rotate_left
            · simp only [Act.put, List.setIfInBounds_toArray, List.set_cons_zero, List.set_cons_succ, i64_w, i32_w]; rfl
            refine pure_ (i := 13) (N := (some 105)) (v := ?_) (a' := ?_) #[Y,Y,Y,Y,Y,Y,Y,Y,Y,Y,Y,Y,Y,Y,O,O,O,O,O,O,O,O,O,O] rfl rfl (by kernel_rfl) (fun _ _ _ h => h) (Or.inl ⟨by rfl, ?_⟩) ?_ ?_
            rotate_left
            · intro w'; go_simp; with_reducible rfl
            rotate_left
            · simp only [Act.put, List.setIfInBounds_toArray, List.set_cons_zero, List.set_cons_succ, i64_w, i32_w]; rfl
            refine pure_ (i := 14) (N := (some 106)) (v := ?_) (a' := ?_) #[Y,Y,Y,Y,Y,Y,Y,Y,Y,Y,Y,Y,Y,Y,Y,O,O,O,O,O,O,O,O,O] rfl rfl (by kernel_rfl) (fun _ _ _ h => h) (Or.inl ⟨by rfl, ?_⟩) ?_ ?_
            rotate_left
            · intro w'; go_simp; with_reducible rfl
            rotate_left
            · simp only [Act.put, List.setIfInBounds_toArray, List.set_cons_zero, List.set_cons_succ, i64_w, i32_w]; rfl
            refine pure_ (i := 15) (N := (some 107)) (v := ?_) (a' := ?_) #[Y,Y,Y,Y,Y,Y,Y,Y,Y,Y,Y,Y,Y,Y,Y,Y,O,O,O,O,O,O,O,O] rfl rfl (by kernel_rfl) (fun _ _ _ h => h) (Or.inl ⟨by rfl, ?_⟩) ?_ ?_
            rotate_left
            · intro w'; go_simp; with_reducible rfl
            rotate_left
            · simp only [Act.put, List.setIfInBounds_toArray, List.set_cons_zero, List.set_cons_succ, i64_w, i32_w]; rfl
            refine pure_ (i := 16) (N := (some 108)) (v := ?_) (a' := ?_) #[Y,Y,Y,Y,Y,Y,Y,Y,Y,Y,Y,Y,Y,Y,Y,Y,Y,O,O,O,O,O,O,O] rfl rfl (by kernel_rfl) (fun _ _ _ h => h) (Or.inl ⟨by rfl, ?_⟩) ?_ ?_
            rotate_left
            · intro w'; go_simp; with_reducible rfl
            rotate_left
            · simp only [Act.put, List.setIfInBounds_toArray, List.set_cons_zero, List.set_cons_succ, i64_w, i32_w]; rfl
            refine pure_ (i := 17) (N := (some 109)) (v := ?_) (a' := ?_) #[Y,Y,Y,Y,Y,Y,Y,Y,Y,Y,Y,Y,Y,Y,Y,Y,Y,Y,O,O,O,O,O,O] rfl rfl (by kernel_rfl) (fun _ _ _ h => h) (Or.inl ⟨by rfl, ?_⟩) ?_ ?_
            rotate_left
            · intro w'; go_simp; with_reducible rfl
            rotate_left
            · simp only [Act.put, List.setIfInBounds_toArray, List.set_cons_zero, List.set_cons_succ, i64_w, i32_w]; rfl
            refine take_ (i := 18) (N := (some 110)) (v := ?_) (a' := ?_) #[Y,Y,Y,Y,Y,Y,Y,Y,Y,Y,Y,Y,Y,Y,Y,Y,Y,Y,Y,O,O,O,O,O] rfl rfl (by kernel_rfl) (fun _ _ _ h => h) (Or.inl ⟨by rfl, ?_⟩) hHeld ?_ ?_
            rotate_left
            · intro w' hS
              have cc := (hS.1.cell 0 rfl 0).trans (show _ = some (.int .i64 (At ys 0) : Value) from rfl); go_simp; with_reducible rfl
            rotate_left
            · simp only [Act.put, List.setIfInBounds_toArray, List.set_cons_zero, List.set_cons_succ, i64_w, i32_w]; rfl
            refine pure_ (i := 19) (N := (some 111)) (v := ?_) (a' := ?_) #[Y,Y,Y,Y,Y,Y,Y,Y,Y,Y,Y,Y,Y,Y,Y,Y,Y,Y,Y,Y,O,O,O,O] rfl rfl (by kernel_rfl) (fun _ _ _ h => h) (Or.inl ⟨by rfl, ?_⟩) ?_ ?_
            rotate_left
            · intro w'; go_simp; with_reducible rfl
            rotate_left
            · simp only [Act.put, List.setIfInBounds_toArray, List.set_cons_zero, List.set_cons_succ, i64_w, i32_w]; rfl
            refine take_ (i := 20) (N := (some 112)) (v := ?_) (a' := ?_) #[Y,Y,Y,Y,Y,Y,Y,Y,Y,Y,Y,Y,Y,Y,Y,Y,Y,Y,Y,Y,Y,O,O,O] rfl rfl (by kernel_rfl) (fun _ _ _ h => h) (Or.inl ⟨by rfl, ?_⟩) hHeld ?_ ?_
            rotate_left
            · intro w' hS
              have cc := (hS.1.cell 2 rfl 0).trans (show _ = some (.int .i64 x : Value) from rfl); go_simp; with_reducible rfl
            rotate_left
            · simp only [Act.put, List.setIfInBounds_toArray, List.set_cons_zero, List.set_cons_succ, i64_w, i32_w]; rfl
            refine pure_ (i := 21) (N := (some 113)) (v := ?_) (a' := ?_) #[Y,Y,Y,Y,Y,Y,Y,Y,Y,Y,Y,Y,Y,Y,Y,Y,Y,Y,Y,Y,Y,Y,O,O] rfl rfl (by kernel_rfl) (fun _ _ _ h => h) (Or.inl ⟨by rfl, ?_⟩) ?_ ?_
            rotate_left
            · intro w'; go_simp; with_reducible rfl
            rotate_left
            · simp only [Act.put, List.setIfInBounds_toArray, List.set_cons_zero, List.set_cons_succ, i64_w, i32_w]; rfl
            refine pure_ (i := 22) (N := (some 114)) (v := ?_) (a' := ?_) #[Y,Y,Y,Y,Y,Y,Y,Y,Y,Y,Y,Y,Y,Y,Y,Y,Y,Y,Y,Y,Y,Y,Y,O] rfl rfl (by kernel_rfl) (fun _ _ _ h => h) (Or.inl ⟨by rfl, ?_⟩) ?_ ?_
            rotate_left
            · intro w'; go_simp; with_reducible rfl
            rotate_left
            · simp only [Act.put, List.setIfInBounds_toArray, List.set_cons_zero, List.set_cons_succ, i64_w, i32_w]; rfl
            refine pure_ (i := 23) (N := (some 115)) (v := ?_) (a' := ?_) #[Y,Y,Y,Y,Y,Y,Y,Y,Y,Y,Y,Y,Y,Y,Y,Y,Y,Y,Y,Y,Y,Y,Y,Y] rfl rfl (by kernel_rfl) (fun _ _ _ h => h) (Or.inl ⟨by rfl, ?_⟩) ?_ ?_
            rotate_left
            · intro w'; go_simp; with_reducible rfl
            rotate_left
            · simp only [Act.put, List.setIfInBounds_toArray, List.set_cons_zero, List.set_cons_succ, i64_w, i32_w]; rfl
            refine done_ (by kernel_rfl) ?_
            go_wp2_with fail
            have hI2 := Aside0.mk hI.out.tail
            clear hI
            have hI := hI2
            clear hI2
            go_roundg (ys.length - (0 + 1))
            case measure => have := HM.out; have := HI.out; omega
            case rel => exact ⟨0 + 1, by first | rfl | go_num | (rw [w64_in _ (by omega) (by have h9 := HLEN.out; have h10 := HI.out; omega)]; rfl), hI, HO, ⟨by have := HI.out; omega⟩, ⟨Nat.le_refl _⟩⟩
        · have HI := Aside0.mk hi
          have g0 : decide (At ys (j + 1) ≤ At ys j) = false := decide_eq_false (by have := (HAT.out.1 (j + 1) hi).2.2.2 (by omega); simp at this; omega)
          have w5 : IntKind.i64.wrap (j : Int) = (j : Int) := by rw [i64_w]; exact w64_in _ (by omega) (by have := HLEN.out; omega)
          have hj : j < ys.length := by omega
          clear hi
          have p0 := (own_cells HO.out ((j + 1)) HI.out).1
          have p1 := (own_cells HO.out ((j + 1)) HI.out).2
          have HF := HAT.out.1 ((j + 1)) HI.out
          by_cases hc : (j + 1) < cn
          · have f1 : decide (((j : Int) + 1) < CI) = true := decide_eq_true (by have := HCI.out; omega)
            have f2 : decide (y < At ys ((j + 1))) = false := decide_eq_false (by have := HF.1 hc; omega)
            have f3 : decide (CI ≤ ((j : Int) + 1)) = false := decide_eq_false (by have := HCI.out; omega)
            have i0 := HI.out
            clear HF hc
            go_upto_region 13 with fail
            clear p0 p1 i0
            have hI2 := Aside0.mk (hI.out.alloc #[.int .i64 (At ys (j + 1)), .int .i64 0] 26)
            have HO2 := Aside0.mk (HO.out.alloc (.cells #[.int .i64 (At ys (j + 1)), .int .i64 0] 26))
            clear hI HO
            have hI := hI2
            have HO := HO2
            clear hI2 HO2
            generalize hga : World.alloc _ _ = w1 at hI HO ⊢
            clear hga
            generalize hgb : wr.heap.size = g1 at hI ⊢
            clear hgb
            refine start_ (n := 24) (S := fun w' => Blk w [(g1, #[.int .i64 (At ys (j + 1)), .int .i64 0], 26), (u0, #[.int .i64 y, .int .i64 0], 26), (w.heap.size + 1, #[.int .i64 x, .int .i64 nn], 26), (w.heap.size, #[.bool false, .int .i64 dl, .int .u64 (b.s : Int), .int .u64 (b.i : Int), .int .u64 (b.h : Int), .int .u64 (b.d : Int), .int .u64 (b.m : Int), .int .u64 (b.w : Int)], 24)] w' ∧ w'.ownsRow 0 26 2 (.slice (some ⟨gg, 0, none⟩) ys.length c) ys.length (rowsI ys)) (ds := []) #[O,O,O,O,O,O,O,O,O,O,O,O,O,O,O,O,O,O,O,O,O,O,O,O] (by kernel_rfl) rfl rfl ⟨hI.out.drew, HO.out.drew⟩ (fun hHeld => ?_)
            have HO2 := Aside0.mk HO.out.drew
            clear HO
            have HO := HO2
            clear HO2
            have hI2 := Aside0.mk hI.out.drew
            clear hI
            have hI := hI2
            clear hI2
            generalize hwd : World.drew _ = wdr at hI HO hHeld ⊢
            clear hwd
            refine pure_ (i := 0) (N := (some 92)) (v := ?_) (a' := ?_) #[Y,O,O,O,O,O,O,O,O,O,O,O,O,O,O,O,O,O,O,O,O,O,O,O] rfl rfl (by kernel_rfl) (fun _ _ _ h => h) (Or.inl ⟨by rfl, ?_⟩) ?_ ?_
            rotate_left
            · intro w'; go_simp; with_reducible rfl
            rotate_left
            · simp only [Act.put, List.setIfInBounds_toArray, List.set_cons_zero, List.set_cons_succ, i64_w, i32_w]; rfl
            refine pure_ (i := 1) (N := (some 93)) (v := ?_) (a' := ?_) #[Y,Y,O,O,O,O,O,O,O,O,O,O,O,O,O,O,O,O,O,O,O,O,O,O] rfl rfl (by kernel_rfl) (fun _ _ _ h => h) (Or.inl ⟨by rfl, ?_⟩) ?_ ?_
            rotate_left
            · intro w'; go_simp; with_reducible rfl
            rotate_left
            · simp only [Act.put, List.setIfInBounds_toArray, List.set_cons_zero, List.set_cons_succ, i64_w, i32_w]; rfl
            refine pure_ (i := 2) (N := (some 94)) (v := ?_) (a' := ?_) #[Y,Y,Y,O,O,O,O,O,O,O,O,O,O,O,O,O,O,O,O,O,O,O,O,O] rfl rfl (by kernel_rfl) (fun _ _ _ h => h) (Or.inl ⟨by rfl, ?_⟩) ?_ ?_
            rotate_left
            · intro w'; go_simp; with_reducible rfl
            rotate_left
            · simp only [Act.put, List.setIfInBounds_toArray, List.set_cons_zero, List.set_cons_succ, i64_w, i32_w]; rfl
            refine pure_ (i := 3) (N := (some 95)) (v := ?_) (a' := ?_) #[Y,Y,Y,Y,O,O,O,O,O,O,O,O,O,O,O,O,O,O,O,O,O,O,O,O] rfl rfl (by kernel_rfl) (fun _ _ _ h => h) (Or.inl ⟨by rfl, ?_⟩) ?_ ?_
            rotate_left
            · intro w'; go_simp; with_reducible rfl
            rotate_left
            · simp only [Act.put, List.setIfInBounds_toArray, List.set_cons_zero, List.set_cons_succ, i64_w, i32_w]; rfl
            refine take_ (i := 4) (N := (some 96)) (v := ?_) (a' := ?_) #[Y,Y,Y,Y,Y,O,O,O,O,O,O,O,O,O,O,O,O,O,O,O,O,O,O,O] rfl rfl (by kernel_rfl) (fun _ _ _ h => h) (Or.inl ⟨by rfl, ?_⟩) hHeld ?_ ?_
            rotate_left
            · intro w' hS
              have cc := (hS.1.cell 0 rfl 0).trans (show _ = some (.int .i64 (At ys (j + 1)) : Value) from rfl); go_simp; with_reducible rfl
            rotate_left
            · simp only [Act.put, List.setIfInBounds_toArray, List.set_cons_zero, List.set_cons_succ, i64_w, i32_w]; rfl
            refine pure_ (i := 5) (N := (some 97)) (v := ?_) (a' := ?_) #[Y,Y,Y,Y,Y,Y,O,O,O,O,O,O,O,O,O,O,O,O,O,O,O,O,O,O] rfl rfl (by kernel_rfl) (fun _ _ _ h => h) (Or.inl ⟨by rfl, ?_⟩) ?_ ?_
            rotate_left
            · intro w'; go_simp; with_reducible rfl
            rotate_left
            · simp only [Act.put, List.setIfInBounds_toArray, List.set_cons_zero, List.set_cons_succ, i64_w, i32_w]; rfl
            refine pure_ (i := 6) (N := (some 98)) (v := ?_) (a' := ?_) #[Y,Y,Y,Y,Y,Y,Y,O,O,O,O,O,O,O,O,O,O,O,O,O,O,O,O,O] rfl rfl (by kernel_rfl) (fun _ _ _ h => h) (Or.inl ⟨by rfl, ?_⟩) ?_ ?_
            rotate_left
            · intro w'; go_simp; with_reducible rfl
            rotate_left
            · simp only [Act.put, List.setIfInBounds_toArray, List.set_cons_zero, List.set_cons_succ, i64_w, i32_w]; rfl
            refine pure_ (i := 7) (N := (some 99)) (v := ?_) (a' := ?_) #[Y,Y,Y,Y,Y,Y,Y,Y,O,O,O,O,O,O,O,O,O,O,O,O,O,O,O,O] rfl rfl (by kernel_rfl) (fun _ _ _ h => h) (Or.inl ⟨by rfl, ?_⟩) ?_ ?_
            rotate_left
            · intro w'; go_simp; with_reducible rfl
            rotate_left
            · simp only [Act.put, List.setIfInBounds_toArray, List.set_cons_zero, List.set_cons_succ, i64_w, i32_w]; rfl
            refine pure_ (i := 8) (N := (some 100)) (v := ?_) (a' := ?_) #[Y,Y,Y,Y,Y,Y,Y,Y,Y,O,O,O,O,O,O,O,O,O,O,O,O,O,O,O] rfl rfl (by kernel_rfl) (fun _ _ _ h => h) (Or.inl ⟨by rfl, ?_⟩) ?_ ?_
            rotate_left
            · intro w'; go_simp; with_reducible rfl
            rotate_left
            · simp only [Act.put, List.setIfInBounds_toArray, List.set_cons_zero, List.set_cons_succ, i64_w, i32_w]; rfl
            refine pure_ (i := 9) (N := (some 101)) (v := ?_) (a' := ?_) #[Y,Y,Y,Y,Y,Y,Y,Y,Y,Y,O,O,O,O,O,O,O,O,O,O,O,O,O,O] rfl rfl (by kernel_rfl) (fun _ _ _ h => h) (Or.inl ⟨by rfl, ?_⟩) ?_ ?_
            rotate_left
            · intro w'; go_simp; with_reducible rfl
            rotate_left
            · simp only [Act.put, List.setIfInBounds_toArray, List.set_cons_zero, List.set_cons_succ, i64_w, i32_w]; rfl
            refine take_ (i := 10) (N := (some 102)) (v := ?_) (a' := ?_) #[Y,Y,Y,Y,Y,Y,Y,Y,Y,Y,Y,O,O,O,O,O,O,O,O,O,O,O,O,O] rfl rfl (by kernel_rfl) (fun _ _ _ h => h) (Or.inl ⟨by rfl, ?_⟩) hHeld ?_ ?_
            rotate_left
            · intro w' hS
              have cc := (show w'.cell? ⟨gg, j * 2, none⟩ = some (.int .i64 (At ys j)) from (own_cells hS.2 j (by have := HI.out; omega)).1); go_simp; with_reducible rfl
            rotate_left
            · simp only [Act.put, List.setIfInBounds_toArray, List.set_cons_zero, List.set_cons_succ, i64_w, i32_w]; rfl
            refine pure_ (i := 11) (N := (some 103)) (v := ?_) (a' := ?_) #[Y,Y,Y,Y,Y,Y,Y,Y,Y,Y,Y,Y,O,O,O,O,O,O,O,O,O,O,O,O] rfl rfl (by kernel_rfl) (fun _ _ _ h => h) (Or.inl ⟨by rfl, ?_⟩) ?_ ?_
            rotate_left
            · intro w'; go_simp; with_reducible rfl
            rotate_left
            · simp only [Act.put, List.setIfInBounds_toArray, List.set_cons_zero, List.set_cons_succ, i64_w, i32_w]; rfl
            refine pure_ (i := 12) (N := (some 104)) (v := ?_) (a' := ?_) #[Y,Y,Y,Y,Y,Y,Y,Y,Y,Y,Y,Y,Y,O,O,O,O,O,O,O,O,O,O,O] rfl rfl (by kernel_rfl) (fun _ _ _ h => h) (Or.inl ⟨by rfl, ?_⟩) ?_ ?_
            rotate_left
            · intro w'; go_simp; with_reducible rfl
            rotate_left
            · simp only [Act.put, List.setIfInBounds_toArray, List.set_cons_zero, List.set_cons_succ, i64_w, i32_w]; rfl
            refine pure_ (i := 13) (N := (some 105)) (v := ?_) (a' := ?_) #[Y,Y,Y,Y,Y,Y,Y,Y,Y,Y,Y,Y,Y,Y,O,O,O,O,O,O,O,O,O,O] rfl rfl (by kernel_rfl) (fun _ _ _ h => h) (Or.inl ⟨by rfl, ?_⟩) ?_ ?_
            rotate_left
            · intro w'; go_simp; with_reducible rfl
            rotate_left
            · simp only [Act.put, List.setIfInBounds_toArray, List.set_cons_zero, List.set_cons_succ, i64_w, i32_w]; rfl
            refine pure_ (i := 14) (N := (some 106)) (v := ?_) (a' := ?_) #[Y,Y,Y,Y,Y,Y,Y,Y,Y,Y,Y,Y,Y,Y,Y,O,O,O,O,O,O,O,O,O] rfl rfl (by kernel_rfl) (fun _ _ _ h => h) (Or.inl ⟨by rfl, ?_⟩) ?_ ?_
            rotate_left
            · intro w'; go_simp; with_reducible rfl
            rotate_left
            · simp only [Act.put, List.setIfInBounds_toArray, List.set_cons_zero, List.set_cons_succ, i64_w, i32_w]; rfl
            refine pure_ (i := 15) (N := (some 107)) (v := ?_) (a' := ?_) #[Y,Y,Y,Y,Y,Y,Y,Y,Y,Y,Y,Y,Y,Y,Y,Y,O,O,O,O,O,O,O,O] rfl rfl (by kernel_rfl) (fun _ _ _ h => h) (Or.inl ⟨by rfl, ?_⟩) ?_ ?_
            rotate_left
            · intro w'; go_simp; with_reducible rfl
            rotate_left
            · simp only [Act.put, List.setIfInBounds_toArray, List.set_cons_zero, List.set_cons_succ, i64_w, i32_w]; rfl
            refine pure_ (i := 16) (N := (some 108)) (v := ?_) (a' := ?_) #[Y,Y,Y,Y,Y,Y,Y,Y,Y,Y,Y,Y,Y,Y,Y,Y,Y,O,O,O,O,O,O,O] rfl rfl (by kernel_rfl) (fun _ _ _ h => h) (Or.inl ⟨by rfl, ?_⟩) ?_ ?_
            rotate_left
            · intro w'; go_simp; with_reducible rfl
            rotate_left
            · simp only [Act.put, List.setIfInBounds_toArray, List.set_cons_zero, List.set_cons_succ, i64_w, i32_w]; rfl
            refine pure_ (i := 17) (N := (some 109)) (v := undef) (a' := ?_) #[Y,Y,Y,Y,Y,Y,Y,Y,Y,Y,Y,Y,Y,Y,Y,Y,Y,Y,O,O,O,O,O,O] rfl rfl (by kernel_rfl) (fun _ _ _ h => h) (Or.inr ⟨by rfl, rfl⟩) ?_ ?_
            rotate_left
            · simp only [Act.put, List.setIfInBounds_toArray, List.set_cons_zero, List.set_cons_succ, i64_w, i32_w]; rfl
            refine take_ (i := 18) (N := (some 110)) (v := undef) (a' := ?_) #[Y,Y,Y,Y,Y,Y,Y,Y,Y,Y,Y,Y,Y,Y,Y,Y,Y,Y,Y,O,O,O,O,O] rfl rfl (by kernel_rfl) (fun _ _ _ h => h) (Or.inr ⟨by rfl, rfl⟩) hHeld ?_ ?_
            rotate_left
            · simp only [Act.put, List.setIfInBounds_toArray, List.set_cons_zero, List.set_cons_succ, i64_w, i32_w]; rfl
            refine pure_ (i := 19) (N := (some 111)) (v := undef) (a' := ?_) #[Y,Y,Y,Y,Y,Y,Y,Y,Y,Y,Y,Y,Y,Y,Y,Y,Y,Y,Y,Y,O,O,O,O] rfl rfl (by kernel_rfl) (fun _ _ _ h => h) (Or.inr ⟨by rfl, rfl⟩) ?_ ?_
            rotate_left
            · simp only [Act.put, List.setIfInBounds_toArray, List.set_cons_zero, List.set_cons_succ, i64_w, i32_w]; rfl
            refine take_ (i := 20) (N := (some 112)) (v := undef) (a' := ?_) #[Y,Y,Y,Y,Y,Y,Y,Y,Y,Y,Y,Y,Y,Y,Y,Y,Y,Y,Y,Y,Y,O,O,O] rfl rfl (by kernel_rfl) (fun _ _ _ h => h) (Or.inr ⟨by rfl, rfl⟩) hHeld ?_ ?_
            rotate_left
            · simp only [Act.put, List.setIfInBounds_toArray, List.set_cons_zero, List.set_cons_succ, i64_w, i32_w]; rfl
            refine pure_ (i := 21) (N := (some 113)) (v := undef) (a' := ?_) #[Y,Y,Y,Y,Y,Y,Y,Y,Y,Y,Y,Y,Y,Y,Y,Y,Y,Y,Y,Y,Y,Y,O,O] rfl rfl (by kernel_rfl) (fun _ _ _ h => h) (Or.inr ⟨by rfl, rfl⟩) ?_ ?_
            rotate_left
            · simp only [Act.put, List.setIfInBounds_toArray, List.set_cons_zero, List.set_cons_succ, i64_w, i32_w]; rfl
            refine pure_ (i := 22) (N := (some 114)) (v := ?_) (a' := ?_) #[Y,Y,Y,Y,Y,Y,Y,Y,Y,Y,Y,Y,Y,Y,Y,Y,Y,Y,Y,Y,Y,Y,Y,O] rfl rfl (by kernel_rfl) (fun _ _ _ h => h) (Or.inl ⟨by rfl, ?_⟩) ?_ ?_
            rotate_left
            · intro w'; go_simp; with_reducible rfl
            rotate_left
            · simp only [Act.put, List.setIfInBounds_toArray, List.set_cons_zero, List.set_cons_succ, i64_w, i32_w]; rfl
            refine pure_ (i := 23) (N := (some 115)) (v := ?_) (a' := ?_) #[Y,Y,Y,Y,Y,Y,Y,Y,Y,Y,Y,Y,Y,Y,Y,Y,Y,Y,Y,Y,Y,Y,Y,Y] rfl rfl (by kernel_rfl) (fun _ _ _ h => h) (Or.inl ⟨by rfl, ?_⟩) ?_ ?_
            rotate_left
            · intro w'; go_simp; with_reducible rfl
            rotate_left
            · simp only [Act.put, List.setIfInBounds_toArray, List.set_cons_zero, List.set_cons_succ, i64_w, i32_w]; rfl
            refine done_ (by kernel_rfl) ?_
            go_wp2_with fail
            have hI2 := Aside0.mk hI.out.tail
            clear hI
            have hI := hI2
            clear hI2
            go_roundg (ys.length - ((j + 1) + 1))
            case measure => have := HM.out; have := HI.out; omega
            case rel => exact ⟨(j + 1) + 1, by first | rfl | go_num | (rw [w64_in _ (by omega) (by have h9 := HLEN.out; have h10 := HI.out; omega)]; rfl), hI, HO, ⟨by have := HI.out; omega⟩, ⟨Nat.le_refl _⟩⟩
          · have f1 : decide (((j : Int) + 1) < CI) = false := decide_eq_false (by have := HCI.out; omega)
            have f3 : decide (CI ≤ ((j : Int) + 1)) = true := decide_eq_true (by have := HCI.out; omega)
            have f4 : decide (At ys ((j + 1)) ≤ y) = false := decide_eq_false (by have := HF.2.1 (by omega); omega)
            have i0 := HI.out
            clear HF hc
            go_upto_region 13 with fail
            clear p0 p1 i0
            have hI2 := Aside0.mk (hI.out.alloc #[.int .i64 (At ys (j + 1)), .int .i64 0] 26)
            have HO2 := Aside0.mk (HO.out.alloc (.cells #[.int .i64 (At ys (j + 1)), .int .i64 0] 26))
            clear hI HO
            have hI := hI2
            have HO := HO2
            clear hI2 HO2
            generalize hga : World.alloc _ _ = w1 at hI HO ⊢
            clear hga
            generalize hgb : wr.heap.size = g1 at hI ⊢
            clear hgb
            refine start_ (n := 24) (S := fun w' => Blk w [(g1, #[.int .i64 (At ys (j + 1)), .int .i64 0], 26), (u0, #[.int .i64 y, .int .i64 0], 26), (w.heap.size + 1, #[.int .i64 x, .int .i64 nn], 26), (w.heap.size, #[.bool false, .int .i64 dl, .int .u64 (b.s : Int), .int .u64 (b.i : Int), .int .u64 (b.h : Int), .int .u64 (b.d : Int), .int .u64 (b.m : Int), .int .u64 (b.w : Int)], 24)] w' ∧ w'.ownsRow 0 26 2 (.slice (some ⟨gg, 0, none⟩) ys.length c) ys.length (rowsI ys)) (ds := []) #[O,O,O,O,O,O,O,O,O,O,O,O,O,O,O,O,O,O,O,O,O,O,O,O] (by kernel_rfl) rfl rfl ⟨hI.out.drew, HO.out.drew⟩ (fun hHeld => ?_)
            have HO2 := Aside0.mk HO.out.drew
            clear HO
            have HO := HO2
            clear HO2
            have hI2 := Aside0.mk hI.out.drew
            clear hI
            have hI := hI2
            clear hI2
            generalize hwd : World.drew _ = wdr at hI HO hHeld ⊢
            clear hwd
            refine pure_ (i := 0) (N := (some 92)) (v := ?_) (a' := ?_) #[Y,O,O,O,O,O,O,O,O,O,O,O,O,O,O,O,O,O,O,O,O,O,O,O] rfl rfl (by kernel_rfl) (fun _ _ _ h => h) (Or.inl ⟨by rfl, ?_⟩) ?_ ?_
            rotate_left
            · intro w'; go_simp; with_reducible rfl
            rotate_left
            · simp only [Act.put, List.setIfInBounds_toArray, List.set_cons_zero, List.set_cons_succ, i64_w, i32_w]; rfl
            refine pure_ (i := 1) (N := (some 93)) (v := ?_) (a' := ?_) #[Y,Y,O,O,O,O,O,O,O,O,O,O,O,O,O,O,O,O,O,O,O,O,O,O] rfl rfl (by kernel_rfl) (fun _ _ _ h => h) (Or.inl ⟨by rfl, ?_⟩) ?_ ?_
            rotate_left
            · intro w'; go_simp; with_reducible rfl
            rotate_left
            · simp only [Act.put, List.setIfInBounds_toArray, List.set_cons_zero, List.set_cons_succ, i64_w, i32_w]; rfl
            refine pure_ (i := 2) (N := (some 94)) (v := ?_) (a' := ?_) #[Y,Y,Y,O,O,O,O,O,O,O,O,O,O,O,O,O,O,O,O,O,O,O,O,O] rfl rfl (by kernel_rfl) (fun _ _ _ h => h) (Or.inl ⟨by rfl, ?_⟩) ?_ ?_
            rotate_left
            · intro w'; go_simp; with_reducible rfl
            rotate_left
            · simp only [Act.put, List.setIfInBounds_toArray, List.set_cons_zero, List.set_cons_succ, i64_w, i32_w]; rfl
            refine pure_ (i := 3) (N := (some 95)) (v := ?_) (a' := ?_) #[Y,Y,Y,Y,O,O,O,O,O,O,O,O,O,O,O,O,O,O,O,O,O,O,O,O] rfl rfl (by kernel_rfl) (fun _ _ _ h => h) (Or.inl ⟨by rfl, ?_⟩) ?_ ?_
            rotate_left
            · intro w'; go_simp; with_reducible rfl
            rotate_left
            · simp only [Act.put, List.setIfInBounds_toArray, List.set_cons_zero, List.set_cons_succ, i64_w, i32_w]; rfl
            refine take_ (i := 4) (N := (some 96)) (v := ?_) (a' := ?_) #[Y,Y,Y,Y,Y,O,O,O,O,O,O,O,O,O,O,O,O,O,O,O,O,O,O,O] rfl rfl (by kernel_rfl) (fun _ _ _ h => h) (Or.inl ⟨by rfl, ?_⟩) hHeld ?_ ?_
            rotate_left
            · intro w' hS
              have cc := (hS.1.cell 0 rfl 0).trans (show _ = some (.int .i64 (At ys (j + 1)) : Value) from rfl); go_simp; with_reducible rfl
            rotate_left
            · simp only [Act.put, List.setIfInBounds_toArray, List.set_cons_zero, List.set_cons_succ, i64_w, i32_w]; rfl
            refine pure_ (i := 5) (N := (some 97)) (v := ?_) (a' := ?_) #[Y,Y,Y,Y,Y,Y,O,O,O,O,O,O,O,O,O,O,O,O,O,O,O,O,O,O] rfl rfl (by kernel_rfl) (fun _ _ _ h => h) (Or.inl ⟨by rfl, ?_⟩) ?_ ?_
            rotate_left
            · intro w'; go_simp; with_reducible rfl
            rotate_left
            · simp only [Act.put, List.setIfInBounds_toArray, List.set_cons_zero, List.set_cons_succ, i64_w, i32_w]; rfl
            refine pure_ (i := 6) (N := (some 98)) (v := ?_) (a' := ?_) #[Y,Y,Y,Y,Y,Y,Y,O,O,O,O,O,O,O,O,O,O,O,O,O,O,O,O,O] rfl rfl (by kernel_rfl) (fun _ _ _ h => h) (Or.inl ⟨by rfl, ?_⟩) ?_ ?_
            rotate_left
            · intro w'; go_simp; with_reducible rfl
            rotate_left
            · simp only [Act.put, List.setIfInBounds_toArray, List.set_cons_zero, List.set_cons_succ, i64_w, i32_w]; rfl
            refine pure_ (i := 7) (N := (some 99)) (v := ?_) (a' := ?_) #[Y,Y,Y,Y,Y,Y,Y,Y,O,O,O,O,O,O,O,O,O,O,O,O,O,O,O,O] rfl rfl (by kernel_rfl) (fun _ _ _ h => h) (Or.inl ⟨by rfl, ?_⟩) ?_ ?_
            rotate_left
            · intro w'; go_simp; with_reducible rfl
            rotate_left
            · simp only [Act.put, List.setIfInBounds_toArray, List.set_cons_zero, List.set_cons_succ, i64_w, i32_w]; rfl
            refine pure_ (i := 8) (N := (some 100)) (v := ?_) (a' := ?_) #[Y,Y,Y,Y,Y,Y,Y,Y,Y,O,O,O,O,O,O,O,O,O,O,O,O,O,O,O] rfl rfl (by kernel_rfl) (fun _ _ _ h => h) (Or.inl ⟨by rfl, ?_⟩) ?_ ?_
            rotate_left
            · intro w'; go_simp; with_reducible rfl
            rotate_left
            · simp only [Act.put, List.setIfInBounds_toArray, List.set_cons_zero, List.set_cons_succ, i64_w, i32_w]; rfl
            refine pure_ (i := 9) (N := (some 101)) (v := ?_) (a' := ?_) #[Y,Y,Y,Y,Y,Y,Y,Y,Y,Y,O,O,O,O,O,O,O,O,O,O,O,O,O,O] rfl rfl (by kernel_rfl) (fun _ _ _ h => h) (Or.inl ⟨by rfl, ?_⟩) ?_ ?_
            rotate_left
            · intro w'; go_simp; with_reducible rfl
            rotate_left
            · simp only [Act.put, List.setIfInBounds_toArray, List.set_cons_zero, List.set_cons_succ, i64_w, i32_w]; rfl
            refine take_ (i := 10) (N := (some 102)) (v := ?_) (a' := ?_) #[Y,Y,Y,Y,Y,Y,Y,Y,Y,Y,Y,O,O,O,O,O,O,O,O,O,O,O,O,O] rfl rfl (by kernel_rfl) (fun _ _ _ h => h) (Or.inl ⟨by rfl, ?_⟩) hHeld ?_ ?_
            rotate_left
            · intro w' hS
              have cc := (show w'.cell? ⟨gg, j * 2, none⟩ = some (.int .i64 (At ys j)) from (own_cells hS.2 j (by have := HI.out; omega)).1); go_simp; with_reducible rfl
            rotate_left
            · simp only [Act.put, List.setIfInBounds_toArray, List.set_cons_zero, List.set_cons_succ, i64_w, i32_w]; rfl
            refine pure_ (i := 11) (N := (some 103)) (v := ?_) (a' := ?_) #[Y,Y,Y,Y,Y,Y,Y,Y,Y,Y,Y,Y,O,O,O,O,O,O,O,O,O,O,O,O] rfl rfl (by kernel_rfl) (fun _ _ _ h => h) (Or.inl ⟨by rfl, ?_⟩) ?_ ?_
            rotate_left
            · intro w'; go_simp; with_reducible rfl
            rotate_left
            · simp only [Act.put, List.setIfInBounds_toArray, List.set_cons_zero, List.set_cons_succ, i64_w, i32_w]; rfl
            refine pure_ (i := 12) (N := (some 104)) (v := ?_) (a' := ?_) #[Y,Y,Y,Y,Y,Y,Y,Y,Y,Y,Y,Y,Y,O,O,O,O,O,O,O,O,O,O,O] rfl rfl (by kernel_rfl) (fun _ _ _ h => h) (Or.inl ⟨by rfl, ?_⟩) ?_ ?_
            rotate_left
            · intro w'; go_simp; with_reducible rfl
            rotate_left
            · simp only [Act.put, List.setIfInBounds_toArray, List.set_cons_zero, List.set_cons_succ, i64_w, i32_w]; rfl
            refine pure_ (i := 13) (N := (some 105)) (v := ?_) (a' := ?_) #[Y,Y,Y,Y,Y,Y,Y,Y,Y,Y,Y,Y,Y,Y,O,O,O,O,O,O,O,O,O,O] rfl rfl (by kernel_rfl) (fun _ _ _ h => h) (Or.inl ⟨by rfl, ?_⟩) ?_ ?_
            rotate_left
            · intro w'; go_simp; with_reducible rfl
            rotate_left
            · simp only [Act.put, List.setIfInBounds_toArray, List.set_cons_zero, List.set_cons_succ, i64_w, i32_w]; rfl
            refine pure_ (i := 14) (N := (some 106)) (v := ?_) (a' := ?_) #[Y,Y,Y,Y,Y,Y,Y,Y,Y,Y,Y,Y,Y,Y,Y,O,O,O,O,O,O,O,O,O] rfl rfl (by kernel_rfl) (fun _ _ _ h => h) (Or.inl ⟨by rfl, ?_⟩) ?_ ?_
            rotate_left
            · intro w'; go_simp; with_reducible rfl
            rotate_left
            · simp only [Act.put, List.setIfInBounds_toArray, List.set_cons_zero, List.set_cons_succ, i64_w, i32_w]; rfl
            refine pure_ (i := 15) (N := (some 107)) (v := ?_) (a' := ?_) #[Y,Y,Y,Y,Y,Y,Y,Y,Y,Y,Y,Y,Y,Y,Y,Y,O,O,O,O,O,O,O,O] rfl rfl (by kernel_rfl) (fun _ _ _ h => h) (Or.inl ⟨by rfl, ?_⟩) ?_ ?_
            rotate_left
            · intro w'; go_simp; with_reducible rfl
            rotate_left
            · simp only [Act.put, List.setIfInBounds_toArray, List.set_cons_zero, List.set_cons_succ, i64_w, i32_w]; rfl
            refine pure_ (i := 16) (N := (some 108)) (v := ?_) (a' := ?_) #[Y,Y,Y,Y,Y,Y,Y,Y,Y,Y,Y,Y,Y,Y,Y,Y,Y,O,O,O,O,O,O,O] rfl rfl (by kernel_rfl) (fun _ _ _ h => h) (Or.inl ⟨by rfl, ?_⟩) ?_ ?_
            rotate_left
            · intro w'; go_simp; with_reducible rfl
            rotate_left
            · simp only [Act.put, List.setIfInBounds_toArray, List.set_cons_zero, List.set_cons_succ, i64_w, i32_w]; rfl
            refine pure_ (i := 17) (N := (some 109)) (v := undef) (a' := ?_) #[Y,Y,Y,Y,Y,Y,Y,Y,Y,Y,Y,Y,Y,Y,Y,Y,Y,Y,O,O,O,O,O,O] rfl rfl (by kernel_rfl) (fun _ _ _ h => h) (Or.inr ⟨by rfl, rfl⟩) ?_ ?_
            rotate_left
            · simp only [Act.put, List.setIfInBounds_toArray, List.set_cons_zero, List.set_cons_succ, i64_w, i32_w]; rfl
            refine take_ (i := 18) (N := (some 110)) (v := undef) (a' := ?_) #[Y,Y,Y,Y,Y,Y,Y,Y,Y,Y,Y,Y,Y,Y,Y,Y,Y,Y,Y,O,O,O,O,O] rfl rfl (by kernel_rfl) (fun _ _ _ h => h) (Or.inr ⟨by rfl, rfl⟩) hHeld ?_ ?_
            rotate_left
            · simp only [Act.put, List.setIfInBounds_toArray, List.set_cons_zero, List.set_cons_succ, i64_w, i32_w]; rfl
            refine pure_ (i := 19) (N := (some 111)) (v := undef) (a' := ?_) #[Y,Y,Y,Y,Y,Y,Y,Y,Y,Y,Y,Y,Y,Y,Y,Y,Y,Y,Y,Y,O,O,O,O] rfl rfl (by kernel_rfl) (fun _ _ _ h => h) (Or.inr ⟨by rfl, rfl⟩) ?_ ?_
            rotate_left
            · simp only [Act.put, List.setIfInBounds_toArray, List.set_cons_zero, List.set_cons_succ, i64_w, i32_w]; rfl
            refine take_ (i := 20) (N := (some 112)) (v := undef) (a' := ?_) #[Y,Y,Y,Y,Y,Y,Y,Y,Y,Y,Y,Y,Y,Y,Y,Y,Y,Y,Y,Y,Y,O,O,O] rfl rfl (by kernel_rfl) (fun _ _ _ h => h) (Or.inr ⟨by rfl, rfl⟩) hHeld ?_ ?_
            rotate_left
            · simp only [Act.put, List.setIfInBounds_toArray, List.set_cons_zero, List.set_cons_succ, i64_w, i32_w]; rfl
            refine pure_ (i := 21) (N := (some 113)) (v := undef) (a' := ?_) #[Y,Y,Y,Y,Y,Y,Y,Y,Y,Y,Y,Y,Y,Y,Y,Y,Y,Y,Y,Y,Y,Y,O,O] rfl rfl (by kernel_rfl) (fun _ _ _ h => h) (Or.inr ⟨by rfl, rfl⟩) ?_ ?_
            rotate_left
            · simp only [Act.put, List.setIfInBounds_toArray, List.set_cons_zero, List.set_cons_succ, i64_w, i32_w]; rfl
            refine pure_ (i := 22) (N := (some 114)) (v := ?_) (a' := ?_) #[Y,Y,Y,Y,Y,Y,Y,Y,Y,Y,Y,Y,Y,Y,Y,Y,Y,Y,Y,Y,Y,Y,Y,O] rfl rfl (by kernel_rfl) (fun _ _ _ h => h) (Or.inl ⟨by rfl, ?_⟩) ?_ ?_
            rotate_left
            · intro w'; go_simp; with_reducible rfl
            rotate_left
            · simp only [Act.put, List.setIfInBounds_toArray, List.set_cons_zero, List.set_cons_succ, i64_w, i32_w]; rfl
            refine pure_ (i := 23) (N := (some 115)) (v := ?_) (a' := ?_) #[Y,Y,Y,Y,Y,Y,Y,Y,Y,Y,Y,Y,Y,Y,Y,Y,Y,Y,Y,Y,Y,Y,Y,Y] rfl rfl (by kernel_rfl) (fun _ _ _ h => h) (Or.inl ⟨by rfl, ?_⟩) ?_ ?_
            rotate_left
            · intro w'; go_simp; with_reducible rfl
            rotate_left
            · simp only [Act.put, List.setIfInBounds_toArray, List.set_cons_zero, List.set_cons_succ, i64_w, i32_w]; rfl
            refine done_ (by kernel_rfl) ?_
            go_wp2_with fail
            have hI2 := Aside0.mk hI.out.tail
            clear hI
            have hI := hI2
            clear hI2
            go_roundg (ys.length - ((j + 1) + 1))
            case measure => have := HM.out; have := HI.out; omega
            case rel => exact ⟨(j + 1) + 1, by first | rfl | go_num | (rw [w64_in _ (by omega) (by have h9 := HLEN.out; have h10 := HI.out; omega)]; rfl), hI, HO, ⟨by have := HI.out; omega⟩, ⟨Nat.le_refl _⟩⟩
      · have e6 : decide (i < ys.length) = false := decide_eq_false hi
        obtain rfl : i = ys.length := by have := HA.out; omega
        rcases HAT.out.2 with hlen | ⟨hlen, hnx⟩
        · have z1 : ((ys.length : Int) == CI) = false := beq_eq_false_iff_ne.2 (by have := HCI.out; omega)
          have z2 : ((ys.length : Int) == CI + 1) = true := beq_iff_eq.2 (by have := HCI.out; omega)
          clear hlen
          go_upto_region 18 with fail
          refine start_ (n := 18) (S := Blk w [(u0, #[.int .i64 y, .int .i64 0], 26), (w.heap.size + 1, #[.int .i64 x, .int .i64 nn], 26), (w.heap.size, #[.bool false, .int .i64 dl, .int .u64 (b.s : Int), .int .u64 (b.i : Int), .int .u64 (b.h : Int), .int .u64 (b.d : Int), .int .u64 (b.m : Int), .int .u64 (b.w : Int)], 24)]) (ds := []) #[O,O,O,O,O,O,O,O,O,O,O,O,O,O,O,O,O,O] (by kernel_rfl) rfl rfl (hI.out.drew) (fun hHeld => ?_)
          have hI2 := Aside0.mk hI.out.drew
          clear hI
          have hI := hI2
          clear hI2
          generalize hwd : World.drew _ = wdr at hI hHeld ⊢
          clear hwd
          refine pure_ (i := 0) (N := (some 130)) (v := ?_) (a' := ?_) #[Y,O,O,O,O,O,O,O,O,O,O,O,O,O,O,O,O,O] rfl rfl (by kernel_rfl) (fun _ _ _ h => h) (Or.inl ⟨by rfl, ?_⟩) ?_ ?_
          rotate_left
          · intro w'; go_simp; with_reducible rfl
          rotate_left
          · simp only [Act.put, List.setIfInBounds_toArray, List.set_cons_zero, List.set_cons_succ, i64_w, i32_w]; rfl
          refine pure_ (i := 1) (N := (some 131)) (v := ?_) (a' := ?_) #[Y,Y,O,O,O,O,O,O,O,O,O,O,O,O,O,O,O,O] rfl rfl (by kernel_rfl) (fun _ _ _ h => h) (Or.inl ⟨by rfl, ?_⟩) ?_ ?_
          rotate_left
          · intro w'; go_simp; with_reducible rfl
          rotate_left
          · simp only [Act.put, List.setIfInBounds_toArray, List.set_cons_zero, List.set_cons_succ, i64_w, i32_w]; rfl
          refine pure_ (i := 2) (N := (some 132)) (v := ?_) (a' := ?_) #[Y,Y,Y,O,O,O,O,O,O,O,O,O,O,O,O,O,O,O] rfl rfl (by kernel_rfl) (fun _ _ _ h => h) (Or.inl ⟨by rfl, ?_⟩) ?_ ?_
          rotate_left
          · intro w'; go_simp; with_reducible rfl
          rotate_left
          · simp only [Act.put, List.setIfInBounds_toArray, List.set_cons_zero, List.set_cons_succ, i64_w, i32_w]; rfl
          refine pure_ (i := 3) (N := (some 133)) (v := ?_) (a' := ?_) #[Y,Y,Y,Y,O,O,O,O,O,O,O,O,O,O,O,O,O,O] rfl rfl (by kernel_rfl) (fun _ _ _ h => h) (Or.inl ⟨by rfl, ?_⟩) ?_ ?_
          rotate_left
          · intro w'; go_simp; with_reducible rfl
          rotate_left
          · simp only [Act.put, List.setIfInBounds_toArray, List.set_cons_zero, List.set_cons_succ, i64_w, i32_w]; rfl
          refine pure_ (i := 4) (N := (some 134)) (v := ?_) (a' := ?_) #[Y,Y,Y,Y,Y,O,O,O,O,O,O,O,O,O,O,O,O,O] rfl rfl (by kernel_rfl) (fun _ _ _ h => h) (Or.inl ⟨by rfl, ?_⟩) ?_ ?_
          rotate_left
          · intro w'; go_simp; with_reducible rfl
          rotate_left
          · simp only [Act.put, List.setIfInBounds_toArray, List.set_cons_zero, List.set_cons_succ, i64_w, i32_w]; rfl
          refine pure_ (i := 5) (N := (some 135)) (v := ?_) (a' := ?_) #[Y,Y,Y,Y,Y,Y,O,O,O,O,O,O,O,O,O,O,O,O] rfl rfl (by kernel_rfl) (fun _ _ _ h => h) (Or.inl ⟨by rfl, ?_⟩) ?_ ?_
          rotate_left
          · intro w'; go_simp; with_reducible rfl
          rotate_left
          · simp only [Act.put, List.setIfInBounds_toArray, List.set_cons_zero, List.set_cons_succ, i64_w, i32_w]; rfl
          refine pure_ (i := 6) (N := (some 136)) (v := undef) (a' := ?_) #[Y,Y,Y,Y,Y,Y,Y,O,O,O,O,O,O,O,O,O,O,O] rfl rfl (by kernel_rfl) (fun _ _ _ h => h) (Or.inr ⟨by rfl, rfl⟩) ?_ ?_
          rotate_left
          · simp only [Act.put, List.setIfInBounds_toArray, List.set_cons_zero, List.set_cons_succ, i64_w, i32_w]; rfl
          refine pure_ (i := 7) (N := (some 137)) (v := undef) (a' := ?_) #[Y,Y,Y,Y,Y,Y,Y,Y,O,O,O,O,O,O,O,O,O,O] rfl rfl (by kernel_rfl) (fun _ _ _ h => h) (Or.inr ⟨by rfl, rfl⟩) ?_ ?_
          rotate_left
          · simp only [Act.put, List.setIfInBounds_toArray, List.set_cons_zero, List.set_cons_succ, i64_w, i32_w]; rfl
          refine pure_ (i := 8) (N := (some 138)) (v := undef) (a' := ?_) #[Y,Y,Y,Y,Y,Y,Y,Y,Y,O,O,O,O,O,O,O,O,O] rfl rfl (by kernel_rfl) (fun _ _ _ h => h) (Or.inr ⟨by rfl, rfl⟩) ?_ ?_
          rotate_left
          · simp only [Act.put, List.setIfInBounds_toArray, List.set_cons_zero, List.set_cons_succ, i64_w, i32_w]; rfl
          refine pure_ (i := 9) (N := (some 139)) (v := undef) (a' := ?_) #[Y,Y,Y,Y,Y,Y,Y,Y,Y,Y,O,O,O,O,O,O,O,O] rfl rfl (by kernel_rfl) (fun _ _ _ h => h) (Or.inr ⟨by rfl, rfl⟩) ?_ ?_
          rotate_left
          · simp only [Act.put, List.setIfInBounds_toArray, List.set_cons_zero, List.set_cons_succ, i64_w, i32_w]; rfl
          refine pure_ (i := 10) (N := (some 140)) (v := undef) (a' := ?_) #[Y,Y,Y,Y,Y,Y,Y,Y,Y,Y,Y,O,O,O,O,O,O,O] rfl rfl (by kernel_rfl) (fun _ _ _ h => h) (Or.inr ⟨by rfl, rfl⟩) ?_ ?_
          rotate_left
          · simp only [Act.put, List.setIfInBounds_toArray, List.set_cons_zero, List.set_cons_succ, i64_w, i32_w]; rfl
          refine take_ (i := 11) (N := (some 141)) (v := undef) (a' := ?_) #[Y,Y,Y,Y,Y,Y,Y,Y,Y,Y,Y,Y,O,O,O,O,O,O] rfl rfl (by kernel_rfl) (fun _ _ _ h => h) (Or.inr ⟨by rfl, rfl⟩) hHeld ?_ ?_
          rotate_left
          · simp only [Act.put, List.setIfInBounds_toArray, List.set_cons_zero, List.set_cons_succ, i64_w, i32_w]; rfl
          refine take_ (i := 12) (N := (some 142)) (v := undef) (a' := ?_) #[Y,Y,Y,Y,Y,Y,Y,Y,Y,Y,Y,Y,Y,O,O,O,O,O] rfl rfl (by kernel_rfl) (fun _ _ _ h => h) (Or.inr ⟨by rfl, rfl⟩) hHeld ?_ ?_
          rotate_left
          · simp only [Act.put, List.setIfInBounds_toArray, List.set_cons_zero, List.set_cons_succ, i64_w, i32_w]; rfl
          refine one_ (i := 13) (N := (some 143)) #[Y,Y,Y,Y,Y,Y,Y,Y,Y,Y,Y,Y,Y,Y,O,O,O,O] rfl rfl (by kernel_rfl) (by decide) (fun K hK => ?_)
          refine off_ (by rfl) (hK.out _ _ hHeld (fun hHeld => ?_))
          clear hK K; refine norm_ (a' := ?_) ?_ ?_; rotate_left
          · show Act.put _ (some 143) _ = _; simp only [Act.put, List.setIfInBounds_toArray, List.set_cons_zero, List.set_cons_succ, i64_w, i32_w]; rfl
          refine one_ (i := 14) (N := (some 144)) #[Y,Y,Y,Y,Y,Y,Y,Y,Y,Y,Y,Y,Y,Y,Y,O,O,O] rfl rfl (by kernel_rfl) (by decide) (fun K hK => ?_)
          refine off_ (by rfl) (hK.out _ _ hHeld (fun hHeld => ?_))
          clear hK K; refine norm_ (a' := ?_) ?_ ?_; rotate_left
          · show Act.put _ (some 144) _ = _; simp only [Act.put, List.setIfInBounds_toArray, List.set_cons_zero, List.set_cons_succ, i64_w, i32_w]; rfl
          refine pure_ (i := 15) (N := (some 145)) (v := undef) (a' := ?_) #[Y,Y,Y,Y,Y,Y,Y,Y,Y,Y,Y,Y,Y,Y,Y,Y,O,O] rfl rfl (by kernel_rfl) (fun _ _ _ h => h) (Or.inr ⟨by rfl, rfl⟩) ?_ ?_
          rotate_left
          · simp only [Act.put, List.setIfInBounds_toArray, List.set_cons_zero, List.set_cons_succ, i64_w, i32_w]; rfl
          refine pure_ (i := 16) (N := (some 146)) (v := ?_) (a' := ?_) #[Y,Y,Y,Y,Y,Y,Y,Y,Y,Y,Y,Y,Y,Y,Y,Y,Y,O] rfl rfl (by kernel_rfl) (fun _ _ _ h => h) (Or.inl ⟨by rfl, ?_⟩) ?_ ?_
          rotate_left
          · intro w'; go_simp; with_reducible rfl
          rotate_left
          · simp only [Act.put, List.setIfInBounds_toArray, List.set_cons_zero, List.set_cons_succ, i64_w, i32_w]; rfl
          refine pure_ (i := 17) (N := (some 6)) (v := ?_) (a' := ?_) #[Y,Y,Y,Y,Y,Y,Y,Y,Y,Y,Y,Y,Y,Y,Y,Y,Y,Y] rfl rfl (by kernel_rfl) (fun _ _ _ h => h) (Or.inl ⟨by rfl, ?_⟩) ?_ ?_
          rotate_left
          · intro w'; go_simp; with_reducible rfl
          rotate_left
          · simp only [Act.put, List.setIfInBounds_toArray, List.set_cons_zero, List.set_cons_succ, i64_w, i32_w]; rfl
          refine done_ (by kernel_rfl) ?_
          go_wp2_with fail
          go_ret
          exact ⟨rfl, hI.out.B⟩
        · by_cases c0 : cn = 0
          · have z1 : ((ys.length : Int) == CI) = true := beq_iff_eq.2 (by have := HCI.out; omega)
            have z2 : ((ys.length : Int) == CI + 1) = false := beq_eq_false_iff_ne.2 (by have := HCI.out; omega)
            have z3 : decide (0 < CI) = false := decide_eq_false (by have := HCI.out; omega)
            have HNX : Aside0 (NX b x = none) := ⟨by rw [if_pos c0] at hnx; exact hnx⟩
            clear hnx c0 hlen
            have HN0 : Aside0 (∀ w', Calls Try.prog 15 #[.agg #[.bool false, .int .i64 dl, .int .u64 (b.s : Int), .int .u64 (b.i : Int), .int .u64 (b.h : Int), .int .u64 (b.d : Int), .int .u64 (b.m : Int), .int .u64 (b.w : Int)], .agg #[.int .i64 x, .int .i64 nn], .agg #[.slice none 0 0, .slice none 0 0, .slice none 0 0, .slice none 0 0]] w' fun e w'' => e = .returned (.bool true) ∧ Below w'.heap.size w' w'') := ⟨fun w' => by
              have := none_any b dl (x) nn w' HW.out HX.out.1 HX.out.2
              rw [show nF b (x) = false by unfold nF; rw [HNX.out]; rfl] at this
              exact this⟩
            go_upto_region 18 with fail
            refine start_ (n := 18) (S := Blk w [(u0, #[.int .i64 y, .int .i64 0], 26), (w.heap.size + 1, #[.int .i64 x, .int .i64 nn], 26), (w.heap.size, #[.bool false, .int .i64 dl, .int .u64 (b.s : Int), .int .u64 (b.i : Int), .int .u64 (b.h : Int), .int .u64 (b.d : Int), .int .u64 (b.m : Int), .int .u64 (b.w : Int)], 24)]) (ds := []) #[O,O,O,O,O,O,O,O,O,O,O,O,O,O,O,O,O,O] (by kernel_rfl) rfl rfl (hI.out.drew) (fun hHeld => ?_)
            have hI2 := Aside0.mk hI.out.drew
            clear hI
            have hI := hI2
            clear hI2
            generalize hwd : World.drew _ = wdr at hI hHeld ⊢
            clear hwd
            refine pure_ (i := 0) (N := (some 130)) (v := ?_) (a' := ?_) #[Y,O,O,O,O,O,O,O,O,O,O,O,O,O,O,O,O,O] rfl rfl (by kernel_rfl) (fun _ _ _ h => h) (Or.inl ⟨by rfl, ?_⟩) ?_ ?_
            rotate_left
            · intro w'; go_simp; with_reducible rfl
            rotate_left
            · simp only [Act.put, List.setIfInBounds_toArray, List.set_cons_zero, List.set_cons_succ, i64_w, i32_w]; rfl
            refine pure_ (i := 1) (N := (some 131)) (v := ?_) (a' := ?_) #[Y,Y,O,O,O,O,O,O,O,O,O,O,O,O,O,O,O,O] rfl rfl (by kernel_rfl) (fun _ _ _ h => h) (Or.inl ⟨by rfl, ?_⟩) ?_ ?_
            rotate_left
            · intro w'; go_simp; with_reducible rfl
            rotate_left
            · simp only [Act.put, List.setIfInBounds_toArray, List.set_cons_zero, List.set_cons_succ, i64_w, i32_w]; rfl
            refine pure_ (i := 2) (N := (some 132)) (v := ?_) (a' := ?_) #[Y,Y,Y,O,O,O,O,O,O,O,O,O,O,O,O,O,O,O] rfl rfl (by kernel_rfl) (fun _ _ _ h => h) (Or.inl ⟨by rfl, ?_⟩) ?_ ?_
            rotate_left
            · intro w'; go_simp; with_reducible rfl
            rotate_left
            · simp only [Act.put, List.setIfInBounds_toArray, List.set_cons_zero, List.set_cons_succ, i64_w, i32_w]; rfl
            refine pure_ (i := 3) (N := (some 133)) (v := ?_) (a' := ?_) #[Y,Y,Y,Y,O,O,O,O,O,O,O,O,O,O,O,O,O,O] rfl rfl (by kernel_rfl) (fun _ _ _ h => h) (Or.inl ⟨by rfl, ?_⟩) ?_ ?_
            rotate_left
            · intro w'; go_simp; with_reducible rfl
            rotate_left
            · simp only [Act.put, List.setIfInBounds_toArray, List.set_cons_zero, List.set_cons_succ, i64_w, i32_w]; rfl
            refine pure_ (i := 4) (N := (some 134)) (v := ?_) (a' := ?_) #[Y,Y,Y,Y,Y,O,O,O,O,O,O,O,O,O,O,O,O,O] rfl rfl (by kernel_rfl) (fun _ _ _ h => h) (Or.inl ⟨by rfl, ?_⟩) ?_ ?_
            rotate_left
            · intro w'; go_simp; with_reducible rfl
            rotate_left
            · simp only [Act.put, List.setIfInBounds_toArray, List.set_cons_zero, List.set_cons_succ, i64_w, i32_w]; rfl
            refine pure_ (i := 5) (N := (some 135)) (v := ?_) (a' := ?_) #[Y,Y,Y,Y,Y,Y,O,O,O,O,O,O,O,O,O,O,O,O] rfl rfl (by kernel_rfl) (fun _ _ _ h => h) (Or.inl ⟨by rfl, ?_⟩) ?_ ?_
            rotate_left
            · intro w'; go_simp; with_reducible rfl
            rotate_left
            · simp only [Act.put, List.setIfInBounds_toArray, List.set_cons_zero, List.set_cons_succ, i64_w, i32_w]; rfl
            refine pure_ (i := 6) (N := (some 136)) (v := ?_) (a' := ?_) #[Y,Y,Y,Y,Y,Y,Y,O,O,O,O,O,O,O,O,O,O,O] rfl rfl (by kernel_rfl) (fun _ _ _ h => h) (Or.inl ⟨by rfl, ?_⟩) ?_ ?_
            rotate_left
            · intro w'; go_simp; with_reducible rfl
            rotate_left
            · simp only [Act.put, List.setIfInBounds_toArray, List.set_cons_zero, List.set_cons_succ, i64_w, i32_w]; rfl
            refine pure_ (i := 7) (N := (some 137)) (v := ?_) (a' := ?_) #[Y,Y,Y,Y,Y,Y,Y,Y,O,O,O,O,O,O,O,O,O,O] rfl rfl (by kernel_rfl) (fun _ _ _ h => h) (Or.inl ⟨by rfl, ?_⟩) ?_ ?_
            rotate_left
            · intro w'; go_simp; with_reducible rfl
            rotate_left
            · simp only [Act.put, List.setIfInBounds_toArray, List.set_cons_zero, List.set_cons_succ, i64_w, i32_w]; rfl
            refine pure_ (i := 8) (N := (some 138)) (v := ?_) (a' := ?_) #[Y,Y,Y,Y,Y,Y,Y,Y,Y,O,O,O,O,O,O,O,O,O] rfl rfl (by kernel_rfl) (fun _ _ _ h => h) (Or.inl ⟨by rfl, ?_⟩) ?_ ?_
            rotate_left
            · intro w'; go_simp; with_reducible rfl
            rotate_left
            · simp only [Act.put, List.setIfInBounds_toArray, List.set_cons_zero, List.set_cons_succ, i64_w, i32_w]; rfl
            refine pure_ (i := 9) (N := (some 139)) (v := ?_) (a' := ?_) #[Y,Y,Y,Y,Y,Y,Y,Y,Y,Y,O,O,O,O,O,O,O,O] rfl rfl (by kernel_rfl) (fun _ _ _ h => h) (Or.inl ⟨by rfl, ?_⟩) ?_ ?_
            rotate_left
            · intro w'; go_simp; with_reducible rfl
            rotate_left
            · simp only [Act.put, List.setIfInBounds_toArray, List.set_cons_zero, List.set_cons_succ, i64_w, i32_w]; rfl
            refine pure_ (i := 10) (N := (some 140)) (v := ?_) (a' := ?_) #[Y,Y,Y,Y,Y,Y,Y,Y,Y,Y,Y,O,O,O,O,O,O,O] rfl rfl (by kernel_rfl) (fun _ _ _ h => h) (Or.inl ⟨by rfl, ?_⟩) ?_ ?_
            rotate_left
            · intro w'; go_simp; with_reducible rfl
            rotate_left
            · simp only [Act.put, List.setIfInBounds_toArray, List.set_cons_zero, List.set_cons_succ, i64_w, i32_w]; rfl
            refine take_ (i := 11) (N := (some 141)) (v := ?_) (a' := ?_) #[Y,Y,Y,Y,Y,Y,Y,Y,Y,Y,Y,Y,O,O,O,O,O,O] rfl rfl (by kernel_rfl) (fun _ _ _ h => h) (Or.inl ⟨by rfl, ?_⟩) hHeld ?_ ?_
            rotate_left
            · intro w' hS
              refine exec_load_row 24 (.tmp 3) ?_ (w.heap.size) ?_ 24 _ _ (hS.get 2 rfl) Try.underlying24 rfl size24
              · rfl
              · rfl
            rotate_left
            · simp only [Act.put, List.setIfInBounds_toArray, List.set_cons_zero, List.set_cons_succ, i64_w, i32_w]; rfl
            refine take_ (i := 12) (N := (some 142)) (v := ?_) (a' := ?_) #[Y,Y,Y,Y,Y,Y,Y,Y,Y,Y,Y,Y,Y,O,O,O,O,O] rfl rfl (by kernel_rfl) (fun _ _ _ h => h) (Or.inl ⟨by rfl, ?_⟩) hHeld ?_ ?_
            rotate_left
            · intro w' hS
              refine exec_load_row 26 (.tmp 4) ?_ (w.heap.size + 1) ?_ 26 _ _ (hS.get 1 rfl) Try.underlying26 rfl size26
              · rfl
              · rfl
            rotate_left
            · simp only [Act.put, List.setIfInBounds_toArray, List.set_cons_zero, List.set_cons_succ, i64_w, i32_w]; rfl
            refine one_ (i := 13) (N := (some 143)) #[Y,Y,Y,Y,Y,Y,Y,Y,Y,Y,Y,Y,Y,Y,O,O,O,O] rfl rfl (by kernel_rfl) (by decide) (fun K hK => ?_)
            refine goes_ Try.func14 (by kernel_rfl) rfl #[] (by rfl) rfl rfl (by (try simp only [List.map_toArray, List.map_cons, List.map_nil]); first | done | rfl) ?_
            refine (utcZone_any _).mono ?_
            rintro e w13 ⟨rfl, hb⟩
            refine ⟨_, rfl, ?_⟩
            have hI2 := Aside0.mk (hI.out.below hb)
            clear hI hb
            have hI := hI2
            clear hI2
            refine hK.out _ _ (hI.out) (fun hHeld => ?_)
            clear hK K; refine norm_ (a' := ?_) ?_ ?_; rotate_left
            · show Act.put _ (some 143) _ = _; simp only [Act.put, List.setIfInBounds_toArray, List.set_cons_zero, List.set_cons_succ, i64_w, i32_w]; rfl
            refine one_ (i := 14) (N := (some 144)) #[Y,Y,Y,Y,Y,Y,Y,Y,Y,Y,Y,Y,Y,Y,Y,O,O,O] rfl rfl (by kernel_rfl) (by decide) (fun K hK => ?_)
            refine goes_ Try.func15 (by kernel_rfl) rfl #[.agg #[.bool false, .int .i64 dl, .int .u64 (b.s : Int), .int .u64 (b.i : Int), .int .u64 (b.h : Int), .int .u64 (b.d : Int), .int .u64 (b.m : Int), .int .u64 (b.w : Int)], .agg #[.int .i64 x, .int .i64 nn], .agg #[.slice none 0 0, .slice none 0 0, .slice none 0 0, .slice none 0 0]] (by rfl) rfl rfl (by (try simp only [List.map_toArray, List.map_cons, List.map_nil]); first | done | rfl) ?_
            refine (HN0.out _).mono ?_
            rintro e w14 ⟨rfl, hb⟩
            refine ⟨_, rfl, ?_⟩
            have hI2 := Aside0.mk (hI.out.below hb)
            clear hI hb
            have hI := hI2
            clear hI2
            refine hK.out _ _ (hI.out) (fun hHeld => ?_)
            clear hK K; refine norm_ (a' := ?_) ?_ ?_; rotate_left
            · show Act.put _ (some 144) _ = _; simp only [Act.put, List.setIfInBounds_toArray, List.set_cons_zero, List.set_cons_succ, i64_w, i32_w]; rfl
            refine pure_ (i := 15) (N := (some 145)) (v := ?_) (a' := ?_) #[Y,Y,Y,Y,Y,Y,Y,Y,Y,Y,Y,Y,Y,Y,Y,Y,O,O] rfl rfl (by kernel_rfl) (fun _ _ _ h => h) (Or.inl ⟨by rfl, ?_⟩) ?_ ?_
            rotate_left
            · intro w'; go_simp; with_reducible rfl
            rotate_left
            · simp only [Act.put, List.setIfInBounds_toArray, List.set_cons_zero, List.set_cons_succ, i64_w, i32_w]; rfl
            refine pure_ (i := 16) (N := (some 146)) (v := ?_) (a' := ?_) #[Y,Y,Y,Y,Y,Y,Y,Y,Y,Y,Y,Y,Y,Y,Y,Y,Y,O] rfl rfl (by kernel_rfl) (fun _ _ _ h => h) (Or.inl ⟨by rfl, ?_⟩) ?_ ?_
            rotate_left
            · intro w'; go_simp; with_reducible rfl
            rotate_left
            · simp only [Act.put, List.setIfInBounds_toArray, List.set_cons_zero, List.set_cons_succ, i64_w, i32_w]; rfl
            refine pure_ (i := 17) (N := (some 6)) (v := ?_) (a' := ?_) #[Y,Y,Y,Y,Y,Y,Y,Y,Y,Y,Y,Y,Y,Y,Y,Y,Y,Y] rfl rfl (by kernel_rfl) (fun _ _ _ h => h) (Or.inl ⟨by rfl, ?_⟩) ?_ ?_
            rotate_left
            · intro w'; go_simp; with_reducible rfl
            rotate_left
            · simp only [Act.put, List.setIfInBounds_toArray, List.set_cons_zero, List.set_cons_succ, i64_w, i32_w]; rfl
            refine done_ (by kernel_rfl) ?_
            go_wp2_with fail
            go_ret
            exact ⟨rfl, hI.out.B⟩
          · have z1 : ((ys.length : Int) == CI) = true := beq_iff_eq.2 (by have := HCI.out; omega)
            have z2 : ((ys.length : Int) == CI + 1) = false := beq_eq_false_iff_ne.2 (by have := HCI.out; omega)
            have z3 : decide (0 < CI) = true := decide_eq_true (by have := HCI.out; omega)
            obtain ⟨m, hm⟩ : ∃ m, cn = m + 1 := ⟨cn - 1, by omega⟩
            have HNX : Aside0 (NX b (At ys m) = none) := ⟨by rw [if_neg c0, hm, show m + 1 - 1 = m by omega] at hnx; exact hnx⟩
            clear hnx c0
            have HTB : Aside0 (-62135596800 ≤ At ys m ∧ At ys m ≤ 253402300799) := ⟨by
              have h1 := (HAT.out.1 m (by omega)).1 (by omega)
              have h2 := (HBD.out m (by omega)).1
              have := HY.out
              omega⟩
            have HN0 : Aside0 (∀ w', Calls Try.prog 15 #[.agg #[.bool false, .int .i64 dl, .int .u64 (b.s : Int), .int .u64 (b.i : Int), .int .u64 (b.h : Int), .int .u64 (b.d : Int), .int .u64 (b.m : Int), .int .u64 (b.w : Int)], .agg #[.int .i64 (At ys m), .int .i64 0], .agg #[.slice none 0 0, .slice none 0 0, .slice none 0 0, .slice none 0 0]] w' fun e w'' => e = .returned (.bool true) ∧ Below w'.heap.size w' w'') := ⟨fun w' => by
              have := none_any b dl (At ys m) 0 w' HW.out HTB.out.1 HTB.out.2
              rw [show nF b (At ys m) = false by unfold nF; rw [HNX.out]; rfl] at this
              exact this⟩
            obtain ⟨gg, rfl⟩ := own_some HO.out (by omega)
            have p0 := (own_cells HO.out m (by omega)).1
            have p1 := (own_cells HO.out m (by omega)).2
            have hm1 : m < ys.length := by omega
            have w5 : wrap64 (CI - 1) = (m : Int) := by rw [show CI - 1 = (m : Int) by have := HCI.out; omega]; exact w64_in _ (by omega) (by have := H64.out; omega)
            clear hm hlen
            go_upto_region 18 with ((with_reducible refine wpList_isCons ?_); refine wpList_store_row rfl 26 (.tmp 4) (.tmp 129) rfl (w.heap.size + 1) #[.int .i64 (At ys m), .int .i64 0] rfl rfl 26 _ (hI.out.get 1 rfl) size26 (sz2 _ _ _ _) (one2 _ _) ?_)
            clear p0 p1 HO
            have hI2 := Aside0.mk ((hI.out.swap).row #[.int .i64 (At ys m), .int .i64 0])
            clear hI
            have hI := hI2
            clear hI2
            generalize hgs : World.setRow _ _ _ = wt at hI ⊢
            clear hgs
            refine start_ (n := 18) (S := Blk w [(w.heap.size + 1, #[.int .i64 (At ys m), .int .i64 0], 26), (u0, #[.int .i64 y, .int .i64 0], 26), (w.heap.size, #[.bool false, .int .i64 dl, .int .u64 (b.s : Int), .int .u64 (b.i : Int), .int .u64 (b.h : Int), .int .u64 (b.d : Int), .int .u64 (b.m : Int), .int .u64 (b.w : Int)], 24)]) (ds := []) #[O,O,O,O,O,O,O,O,O,O,O,O,O,O,O,O,O,O] (by kernel_rfl) rfl rfl (hI.out.drew) (fun hHeld => ?_)
            have hI2 := Aside0.mk hI.out.drew
            clear hI
            have hI := hI2
            clear hI2
            generalize hwd : World.drew _ = wdr at hI hHeld ⊢
            clear hwd
            refine pure_ (i := 0) (N := (some 130)) (v := ?_) (a' := ?_) #[Y,O,O,O,O,O,O,O,O,O,O,O,O,O,O,O,O,O] rfl rfl (by kernel_rfl) (fun _ _ _ h => h) (Or.inl ⟨by rfl, ?_⟩) ?_ ?_
            rotate_left
            · intro w'; go_simp; with_reducible rfl
            rotate_left
            · simp only [Act.put, List.setIfInBounds_toArray, List.set_cons_zero, List.set_cons_succ, i64_w, i32_w]; rfl
            refine pure_ (i := 1) (N := (some 131)) (v := ?_) (a' := ?_) #[Y,Y,O,O,O,O,O,O,O,O,O,O,O,O,O,O,O,O] rfl rfl (by kernel_rfl) (fun _ _ _ h => h) (Or.inl ⟨by rfl, ?_⟩) ?_ ?_
            rotate_left
            · intro w'; go_simp; with_reducible rfl
            rotate_left
            · simp only [Act.put, List.setIfInBounds_toArray, List.set_cons_zero, List.set_cons_succ, i64_w, i32_w]; rfl
            refine pure_ (i := 2) (N := (some 132)) (v := ?_) (a' := ?_) #[Y,Y,Y,O,O,O,O,O,O,O,O,O,O,O,O,O,O,O] rfl rfl (by kernel_rfl) (fun _ _ _ h => h) (Or.inl ⟨by rfl, ?_⟩) ?_ ?_
            rotate_left
            · intro w'; go_simp; with_reducible rfl
            rotate_left
            · simp only [Act.put, List.setIfInBounds_toArray, List.set_cons_zero, List.set_cons_succ, i64_w, i32_w]; rfl
            refine pure_ (i := 3) (N := (some 133)) (v := ?_) (a' := ?_) #[Y,Y,Y,Y,O,O,O,O,O,O,O,O,O,O,O,O,O,O] rfl rfl (by kernel_rfl) (fun _ _ _ h => h) (Or.inl ⟨by rfl, ?_⟩) ?_ ?_
            rotate_left
            · intro w'; go_simp; with_reducible rfl
            rotate_left
            · simp only [Act.put, List.setIfInBounds_toArray, List.set_cons_zero, List.set_cons_succ, i64_w, i32_w]; rfl
            refine pure_ (i := 4) (N := (some 134)) (v := ?_) (a' := ?_) #[Y,Y,Y,Y,Y,O,O,O,O,O,O,O,O,O,O,O,O,O] rfl rfl (by kernel_rfl) (fun _ _ _ h => h) (Or.inl ⟨by rfl, ?_⟩) ?_ ?_
            rotate_left
            · intro w'; go_simp; with_reducible rfl
            rotate_left
            · simp only [Act.put, List.setIfInBounds_toArray, List.set_cons_zero, List.set_cons_succ, i64_w, i32_w]; rfl
            refine pure_ (i := 5) (N := (some 135)) (v := ?_) (a' := ?_) #[Y,Y,Y,Y,Y,Y,O,O,O,O,O,O,O,O,O,O,O,O] rfl rfl (by kernel_rfl) (fun _ _ _ h => h) (Or.inl ⟨by rfl, ?_⟩) ?_ ?_
            rotate_left
            · intro w'; go_simp; with_reducible rfl
            rotate_left
            · simp only [Act.put, List.setIfInBounds_toArray, List.set_cons_zero, List.set_cons_succ, i64_w, i32_w]; rfl
            refine pure_ (i := 6) (N := (some 136)) (v := ?_) (a' := ?_) #[Y,Y,Y,Y,Y,Y,Y,O,O,O,O,O,O,O,O,O,O,O] rfl rfl (by kernel_rfl) (fun _ _ _ h => h) (Or.inl ⟨by rfl, ?_⟩) ?_ ?_
            rotate_left
            · intro w'; go_simp; with_reducible rfl
            rotate_left
            · simp only [Act.put, List.setIfInBounds_toArray, List.set_cons_zero, List.set_cons_succ, i64_w, i32_w]; rfl
            refine pure_ (i := 7) (N := (some 137)) (v := ?_) (a' := ?_) #[Y,Y,Y,Y,Y,Y,Y,Y,O,O,O,O,O,O,O,O,O,O] rfl rfl (by kernel_rfl) (fun _ _ _ h => h) (Or.inl ⟨by rfl, ?_⟩) ?_ ?_
            rotate_left
            · intro w'; go_simp; with_reducible rfl
            rotate_left
            · simp only [Act.put, List.setIfInBounds_toArray, List.set_cons_zero, List.set_cons_succ, i64_w, i32_w]; rfl
            refine pure_ (i := 8) (N := (some 138)) (v := ?_) (a' := ?_) #[Y,Y,Y,Y,Y,Y,Y,Y,Y,O,O,O,O,O,O,O,O,O] rfl rfl (by kernel_rfl) (fun _ _ _ h => h) (Or.inl ⟨by rfl, ?_⟩) ?_ ?_
            rotate_left
            · intro w'; go_simp; with_reducible rfl
            rotate_left
            · simp only [Act.put, List.setIfInBounds_toArray, List.set_cons_zero, List.set_cons_succ, i64_w, i32_w]; rfl
            refine pure_ (i := 9) (N := (some 139)) (v := ?_) (a' := ?_) #[Y,Y,Y,Y,Y,Y,Y,Y,Y,Y,O,O,O,O,O,O,O,O] rfl rfl (by kernel_rfl) (fun _ _ _ h => h) (Or.inl ⟨by rfl, ?_⟩) ?_ ?_
            rotate_left
            · intro w'; go_simp; with_reducible rfl
            rotate_left
            · simp only [Act.put, List.setIfInBounds_toArray, List.set_cons_zero, List.set_cons_succ, i64_w, i32_w]; rfl
            refine pure_ (i := 10) (N := (some 140)) (v := ?_) (a' := ?_) #[Y,Y,Y,Y,Y,Y,Y,Y,Y,Y,Y,O,O,O,O,O,O,O] rfl rfl (by kernel_rfl) (fun _ _ _ h => h) (Or.inl ⟨by rfl, ?_⟩) ?_ ?_
            rotate_left
            · intro w'; go_simp; with_reducible rfl
            rotate_left
            · simp only [Act.put, List.setIfInBounds_toArray, List.set_cons_zero, List.set_cons_succ, i64_w, i32_w]; rfl
            refine take_ (i := 11) (N := (some 141)) (v := ?_) (a' := ?_) #[Y,Y,Y,Y,Y,Y,Y,Y,Y,Y,Y,Y,O,O,O,O,O,O] rfl rfl (by kernel_rfl) (fun _ _ _ h => h) (Or.inl ⟨by rfl, ?_⟩) hHeld ?_ ?_
            rotate_left
            · intro w' hS
              refine exec_load_row 24 (.tmp 3) ?_ (w.heap.size) ?_ 24 _ _ (hS.get 2 rfl) Try.underlying24 rfl size24
              · rfl
              · rfl
            rotate_left
            · simp only [Act.put, List.setIfInBounds_toArray, List.set_cons_zero, List.set_cons_succ, i64_w, i32_w]; rfl
            refine take_ (i := 12) (N := (some 142)) (v := ?_) (a' := ?_) #[Y,Y,Y,Y,Y,Y,Y,Y,Y,Y,Y,Y,Y,O,O,O,O,O] rfl rfl (by kernel_rfl) (fun _ _ _ h => h) (Or.inl ⟨by rfl, ?_⟩) hHeld ?_ ?_
            rotate_left
            · intro w' hS
              refine exec_load_row 26 (.tmp 4) ?_ (w.heap.size + 1) ?_ 26 _ _ (hS.get 0 rfl) Try.underlying26 rfl size26
              · rfl
              · rfl
            rotate_left
            · simp only [Act.put, List.setIfInBounds_toArray, List.set_cons_zero, List.set_cons_succ, i64_w, i32_w]; rfl
            refine one_ (i := 13) (N := (some 143)) #[Y,Y,Y,Y,Y,Y,Y,Y,Y,Y,Y,Y,Y,Y,O,O,O,O] rfl rfl (by kernel_rfl) (by decide) (fun K hK => ?_)
            refine goes_ Try.func14 (by kernel_rfl) rfl #[] (by rfl) rfl rfl (by (try simp only [List.map_toArray, List.map_cons, List.map_nil]); first | done | rfl) ?_
            refine (utcZone_any _).mono ?_
            rintro e w13 ⟨rfl, hb⟩
            refine ⟨_, rfl, ?_⟩
            have hI2 := Aside0.mk (hI.out.below hb)
            clear hI hb
            have hI := hI2
            clear hI2
            refine hK.out _ _ (hI.out) (fun hHeld => ?_)
            clear hK K; refine norm_ (a' := ?_) ?_ ?_; rotate_left
            · show Act.put _ (some 143) _ = _; simp only [Act.put, List.setIfInBounds_toArray, List.set_cons_zero, List.set_cons_succ, i64_w, i32_w]; rfl
            refine one_ (i := 14) (N := (some 144)) #[Y,Y,Y,Y,Y,Y,Y,Y,Y,Y,Y,Y,Y,Y,Y,O,O,O] rfl rfl (by kernel_rfl) (by decide) (fun K hK => ?_)
            refine goes_ Try.func15 (by kernel_rfl) rfl #[.agg #[.bool false, .int .i64 dl, .int .u64 (b.s : Int), .int .u64 (b.i : Int), .int .u64 (b.h : Int), .int .u64 (b.d : Int), .int .u64 (b.m : Int), .int .u64 (b.w : Int)], .agg #[.int .i64 (At ys m), .int .i64 0], .agg #[.slice none 0 0, .slice none 0 0, .slice none 0 0, .slice none 0 0]] (by rfl) rfl rfl (by (try simp only [List.map_toArray, List.map_cons, List.map_nil]); first | done | rfl) ?_
            refine (HN0.out _).mono ?_
            rintro e w14 ⟨rfl, hb⟩
            refine ⟨_, rfl, ?_⟩
            have hI2 := Aside0.mk (hI.out.below hb)
            clear hI hb
            have hI := hI2
            clear hI2
            refine hK.out _ _ (hI.out) (fun hHeld => ?_)
            clear hK K; refine norm_ (a' := ?_) ?_ ?_; rotate_left
            · show Act.put _ (some 144) _ = _; simp only [Act.put, List.setIfInBounds_toArray, List.set_cons_zero, List.set_cons_succ, i64_w, i32_w]; rfl
            refine pure_ (i := 15) (N := (some 145)) (v := ?_) (a' := ?_) #[Y,Y,Y,Y,Y,Y,Y,Y,Y,Y,Y,Y,Y,Y,Y,Y,O,O] rfl rfl (by kernel_rfl) (fun _ _ _ h => h) (Or.inl ⟨by rfl, ?_⟩) ?_ ?_
            rotate_left
            · intro w'; go_simp; with_reducible rfl
            rotate_left
            · simp only [Act.put, List.setIfInBounds_toArray, List.set_cons_zero, List.set_cons_succ, i64_w, i32_w]; rfl
            refine pure_ (i := 16) (N := (some 146)) (v := ?_) (a' := ?_) #[Y,Y,Y,Y,Y,Y,Y,Y,Y,Y,Y,Y,Y,Y,Y,Y,Y,O] rfl rfl (by kernel_rfl) (fun _ _ _ h => h) (Or.inl ⟨by rfl, ?_⟩) ?_ ?_
            rotate_left
            · intro w'; go_simp; with_reducible rfl
            rotate_left
            · simp only [Act.put, List.setIfInBounds_toArray, List.set_cons_zero, List.set_cons_succ, i64_w, i32_w]; rfl
            refine pure_ (i := 17) (N := (some 6)) (v := ?_) (a' := ?_) #[Y,Y,Y,Y,Y,Y,Y,Y,Y,Y,Y,Y,Y,Y,Y,Y,Y,Y] rfl rfl (by kernel_rfl) (fun _ _ _ h => h) (Or.inl ⟨by rfl, ?_⟩) ?_ ?_
            rotate_left
            · intro w'; go_simp; with_reducible rfl
            rotate_left
            · simp only [Act.put, List.setIfInBounds_toArray, List.set_cons_zero, List.set_cons_succ, i64_w, i32_w]; rfl
            refine done_ (by kernel_rfl) ?_
            go_wp2_with fail
            go_ret
            exact ⟨rfl, hI.out.B⟩
end Go.Proofs.Ytlgdaegaahnkbaa.Tm
