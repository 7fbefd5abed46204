/- A second that is in one of two schedules alone: CronApart by hand (printed by gen_ai.py). -/
import Derived.Test.YtlgdaegaahnkbaaAliH
namespace Go.Proofs.Ytlgdaegaahnkbaa.Tm
open Go Go.RowKit Cal MC
open Go.Proofs.YtlgdaegaahnkbaaW.PrintWords Go.Proofs.YtlgdaegaahnkbaaW.PrintLast Go.Proofs.YtlgdaegaahnkbaaW.PrintMore
set_option linter.unusedVariables false
set_option linter.unusedSimpArgs false

/-- cronSomeDay's answer as plain data. -/
structure SomeR (b : SB) (Y n : Int) (f : Bool) : Prop where mk ::
 (yes : f = true → dB b n = true)
 (no : f = false → ∀ n, dB b n = false)
 (lo : -719162 ≤ n)
 (hi : n ≤ 4000000)
theorem day_range {Y n : Int} (Y0 : 1 ≤ Y) (Y1 : Y ≤ 10100) (h0 : Y ≤ yr n) (h1 : yr n < Y + 400) : -719162 ≤ n ∧ n ≤ 4000000 := by
 constructor
 ·
  rcases Int.lt_or_le n (-719162) with c | c
  ·
   have := yr_le.2 (show n < ys (0 + 1) by rw [show ys (0 + 1) = -719162 by decide]; exact c)
   omega
  ·
   exact c
 ·
  have := yr_le.1 (show yr n ≤ 10500 by omega)
  rw [show ys (10500 + 1) = 3115884 + 0 by decide] at this
  omega
theorem some_r (b : SB) (Y : Int) (w : World) (Y0 : 1 ≤ Y) (Y1 : Y ≤ 10100) : Calls Try.prog 47 #[.agg (fv b), .int .i64 Y] w fun e w' => ∃ n f, e = .returned (.tuple #[.int .i64 n, .bool f]) ∧ SomeR b Y n f ∧ Below w.heap.size w w' := (someDay_any b Y w Y0 Y1).mono fun e w' h => by
 obtain ⟨⟨n, hn, he⟩ | ⟨hn, he⟩, hb⟩ := h
 ·
  have hd := day_range Y0 Y1 hn.1 hn.2.1
  exact ⟨n, true, he, ⟨fun _ => hn.2.2, fun c => absurd c (by decide), hd.1, hd.2⟩, hb⟩
 ·
  exact ⟨0, false, he, ⟨fun c => absurd c (by decide), fun _ => hn, by decide, by decide⟩, hb⟩
/-- CronFirstDay's answer as plain data. -/
theorem first_r (Y m d v : Int) (w : World) (Y0 : 1 ≤ Y) (Y1 : Y ≤ 10100) (h : 1 ≤ m ∧ m ≤ 12 ∧ 1 ≤ d ∧ d ≤ md 2000 m ∧ 0 ≤ v ∧ v ≤ 6) :
  Calls Try.prog 50 #[.int .i64 Y, .int .i64 m, .int .i64 d, .int .i64 v] w fun e w' => ∃ n, e = .returned (.int .i64 n) ∧ (mo n = m ∧ dy n = d ∧ wd n = v ∧ -719162 ≤ n ∧ n ≤ 4000000) ∧ Below w.heap.size w w' := (firstDay_any Y m d v w Y0 Y1 h.1 h.2.1 h.2.2.1 h.2.2.2.1 h.2.2.2.2.1 h.2.2.2.2.2).mono fun e w' hh => by
 obtain ⟨n, he, hn, hb⟩ := hh
 have hd := day_range Y0 Y1 hn.1 hn.2.1
 exact ⟨n, he, ⟨hn.2.2.1, hn.2.2.2.1, hn.2.2.2.2, hd.1, hd.2⟩, hb⟩
/-- The least second of a day of a schedule that has one. -/
theorem time_r (b : SB) (w : World) (h : Ful b) : Calls Try.prog 48 #[.agg (fv b), .int .i64 0] w fun e w' => ∃ r, e = .returned (.int .i64 r) ∧ (0 ≤ r ∧ r < 86400 ∧ tB b r = true) ∧ Below w.heap.size w w' := (time_any b 0 w (by decide) (by decide)).mono fun e w' hh => by
 obtain ⟨⟨r, hr, he⟩, hb⟩ := hh
 refine ⟨r, he, ?_, hb⟩
 rcases hr with ⟨_, hn⟩ | ⟨r0, r1, hf, _⟩
 ·
  obtain ⟨r', g0, g1, g2⟩ := ful_some h
  exact absurd ((fitT_tB _ _).2 g2) (hn r' g0 g1)
 ·
  exact ⟨r0, r1, (fitT_tB _ _).1 hf⟩
/-- A second in one schedule alone, or none for ever. -/
structure ApR (a b : SB) (x : Int) (f : Bool) : Prop where mk ::
 (yes : f = true → fB a x ≠ fB b x)
 (no : f = false → ∀ y, fB a y = fB b y)
 (lo : -62135596800 ≤ x)
 (hi : x ≤ 400000000000)
def ApPost (a b : SB) (W : World) (e : Ending) (w' : World) : Prop := ∃ x f, e = .returned (.tuple #[.int .i64 x, .bool f]) ∧ ApR a b x f ∧ Below W.heap.size W w'
theorem ApR.swap {a b : SB} {x : Int} {f : Bool} (h : ApR a b x f) : ApR b a x f := ⟨fun c e => h.yes c e.symm, fun c y => (h.no c y).symm, h.lo, h.hi⟩
/-- One of the two is never activated. -/
theorem ap_never {o p : SB} {Y n r : Int} {f : Bool} (hp : neverB p = true) (hs : SomeR o Y n f) (r0 : 0 ≤ r) (r1 : r < 86400) (hr : tB o r = true) : ApR o p (86400 * n + r) f := by
 refine ⟨fun h => ?_, fun h y => ?_, by have := hs.lo; omega, by have := hs.hi; omega⟩
 ·
  rw [fB_never hp, fB_day o n r r0 r1, hs.yes h, hr]
  decide
 ·
  rw [fB_never hp, fB_noday (hs.no h)]
/-- A day apart. -/
theorem ap_day {o p : SB} {n r m d v : Int} (hm : mo n = m) (hd : dy n = d) (hv : wd n = v) (lo : -719162 ≤ n) (hi : n ≤ 4000000) (ho : (bitOf o.m m && dO o d v) = true) (hp : (bitOf p.m m && dO p d v) = false) (r0 : 0 ≤ r) (r1 : r < 86400) (hr : tB o r = true) : ApR o p (86400 * n + r) true := by
 refine ⟨fun h => ?_, fun h => absurd h (by decide), by omega, by omega⟩
 rw [fB_day o n r r0 r1, fB_day p n r r0 r1, dB_dO, dB_dO, hm, hd, hv, ho, hp, hr, Bool.false_and]
 decide
/-- A time apart. -/
theorem ap_time {a b : SB} {Y n r : Int} {f : Bool} (hd : DLike a b) (hs : SomeR a Y n f) (hg : Good a b r) : ApR a b (86400 * n + r) f := by
 obtain ⟨r0, r1, hne⟩ := hg
 refine ⟨fun h => ?_, fun h y => ?_, by have := hs.lo; omega, by have := hs.hi; omega⟩
 ·
  rw [fB_day a n r r0 r1, fB_day b n r r0 r1, ← dB_like hd, hs.yes h, Bool.true_and, Bool.true_and]
  exact hne
 ·
  rw [fB_noday (hs.no h), fB_noday fun n => by rw [← dB_like hd]; exact hs.no h n]
theorem ap_none {a b : SB} (ha : neverB a = true) (hb : neverB b = true) : ApR a b 0 false := ⟨fun h => absurd h (by decide), fun _ y => by rw [fB_never ha, fB_never hb], by decide, by decide⟩
theorem ap_like {a b : SB} (hd : DLike a b) (ht : TLike a b) : ApR a b 0 false := ⟨fun h => absurd h (by decide), fun _ y => like_all hd ht y, by decide, by decide⟩
set_option maxHeartbeats 8000000 in
set_option maxRecDepth 100000 in
theorem apart_none (a b : SB) (Y : Int) (w : World) (Y0 : 1 ≤ Y) (Y1 : Y ≤ 10100) (ha : neverB a = true) (hb : neverB b = true) : Calls Try.prog 26 #[.agg (fv a), .agg (fv b), .int .i64 Y] w (ApPost a b w) := by
 have szf : Aside0 (∀ c : SB, (Try.prog.info? 32).map (·.size) = some (fv c).size) := ⟨fun c => by unfold fv; rw [arrB_size]; exact size32⟩
 have szq : Aside0 (∀ c d : SB, (fv c).size = (fv d).size) := ⟨fun c d => by unfold fv; rw [arrB_size, arrB_size]⟩
 have size32v := szf
 have hI : Aside0 (Blk w [(w.heap.size + 1, fv b, 32), (w.heap.size, fv a, 32)] ((w.alloc (.cells (fv a) 32)).alloc (.cells (fv b) 32))) := ⟨by
  have := (((Blk.nil w).alloc (fv a) 32).alloc (fv b) 32)
  simpa only [World.size_alloc] using this⟩
 have HY := Aside0.mk (And.intro Y0 Y1)
 have CA : Aside0 (∀ w', Calls Try.prog 46 #[.agg (fv a)] w' fun e w'' => e = .returned (.bool true) ∧ Below w'.heap.size w' w'') := ⟨fun w' => by rw [← ha]; exact never_any a w'⟩
 have CB : Aside0 (∀ w', Calls Try.prog 46 #[.agg (fv b)] w' fun e w'' => e = .returned (.bool true) ∧ Below w'.heap.size w' w'') := ⟨fun w' => by rw [← hb]; exact never_any b w'⟩
 have HA := Aside0.mk ha
 have HB := Aside0.mk hb
 have zz : ∀ w, (zeroValue 32).run Try.prog w = .ok (.agg (fv zB)) w := by rw [fv_zero]; exact (zero_of_info zero32).1
 clear ha hb Y0 Y1
 go_enter Try.func26, Try.ntmps26
 go_wp2_with fail
 refine start_ (n := 6) (S := Blk w [(w.heap.size + 1, fv b, 32), (w.heap.size, fv a, 32)]) (ds := []) #[F, F, F, F, F, F] (by kernel_rfl) rfl rfl (hI.out.drew) (fun hHeld => ?_)
 have hI2 := Aside0.mk hI.out.drew
 clear hI
 have hI := hI2
 clear hI2
 generalize hwd : World.drew _ = wdr at hI hHeld ⊢
 clear hwd
 refine take_ (i := 0) (N := (some 22)) (v := ?_) (a' := ?_) #[V, F, F, F, F, F] rfl rfl (by kernel_rfl) (fun _ _ _ h => h) (Or.inl ⟨by rfl, ?_⟩) hHeld ?_ ?_
 rotate_left
 ·
  intro w' hS
  refine exec_load_row 32 (.tmp 3) ?_ (w.heap.size) ?_ 32 _ _ (hS.get 1 rfl) Try.underlying32 rfl (szf.out _)
  ·
   rfl
  ·
   rfl
 rotate_left
 ·
  simp only [Act.put, pA, pZ, pS, i64_w, i32_w]; rfl
 refine take_ (i := 2) (N := (some 24)) (v := ?_) (a' := ?_) #[V, F, V, F, F, F] rfl rfl (by kernel_rfl) (fun _ _ _ h => h) (Or.inl ⟨by rfl, ?_⟩) hHeld ?_ ?_
 rotate_left
 ·
  intro w' hS
  refine exec_load_row 32 (.tmp 4) ?_ (w.heap.size + 1) ?_ 32 _ _ (hS.get 0 rfl) Try.underlying32 rfl (szf.out _)
  ·
   rfl
  ·
   rfl
 rotate_left
 ·
  simp only [Act.put, pA, pZ, pS, i64_w, i32_w]; rfl
 refine one_ (i := 1) (N := (some 23)) #[V, V, V, F, F, F] rfl rfl (by kernel_rfl) (by decide) (fun K hK => ?_)
 refine goes_ Try.func46 (by kernel_rfl) rfl #[.agg (fv a)] (by rfl) rfl rfl (by (try simp only [List.map_toArray, List.map_cons, List.map_nil]); first | done | rfl) ?_
 refine (CA.out _).mono ?_
 rintro e w1 ⟨rfl, hb⟩
 refine ⟨_, rfl, ?_⟩
 have hI2 := Aside0.mk (hI.out.below hb)
 clear hI hb
 have hI := hI2
 clear hI2
 refine hK.out _ _ (hI.out) (fun hHeld => ?_)
 clear hK K; refine norm_ (a' := ?_) ?_ ?_; rotate_left
 ·
  show Act.put _ (some 23) _ = _; simp only [Act.put, pA, pZ, pS, i64_w, i32_w]; rfl
 refine one_ (i := 3) (N := (some 25)) #[V, V, V, V, F, F] rfl rfl (by kernel_rfl) (by decide) (fun K hK => ?_)
 refine goes_ Try.func46 (by kernel_rfl) rfl #[.agg (fv b)] (by rfl) rfl rfl (by (try simp only [List.map_toArray, List.map_cons, List.map_nil]); first | done | rfl) ?_
 refine (CB.out _).mono ?_
 rintro e w3 ⟨rfl, hb⟩
 refine ⟨_, rfl, ?_⟩
 have hI2 := Aside0.mk (hI.out.below hb)
 clear hI hb
 have hI := hI2
 clear hI2
 refine hK.out _ _ (hI.out) (fun hHeld => ?_)
 clear hK K; refine norm_ (a' := ?_) ?_ ?_; rotate_left
 ·
  show Act.put _ (some 25) _ = _; simp only [Act.put, pA, pZ, pS, i64_w, i32_w]; rfl
 refine pure_ (i := 4) (N := (some 8)) (v := ?_) (a' := ?_) #[V, V, V, V, V, F] rfl rfl (by kernel_rfl) (fun _ _ _ h => h) (Or.inl ⟨by rfl, ?_⟩) ?_ ?_
 rotate_left
 ·
  intro w'; go_simp; with_reducible rfl
 rotate_left
 ·
  simp only [Act.put, pA, pZ, pS, i64_w, i32_w]; rfl
 refine pure_ (i := 5) (N := (some 9)) (v := ?_) (a' := ?_) #[V, V, V, V, V, V] rfl rfl (by kernel_rfl) (fun _ _ _ h => h) (Or.inl ⟨by rfl, ?_⟩) ?_ ?_
 rotate_left
 ·
  intro w'; go_simp; with_reducible rfl
 rotate_left
 ·
  simp only [Act.put, pA, pZ, pS, i64_w, i32_w]; rfl
 refine done_ (by kernel_rfl) ?_
 go_wp2_with fail
 refine bodyPost_ret (v := .tuple #[.int .i64 (0), .bool false]) (by simp [results, Try.results26, go_sem]) rfl ⟨_, _, rfl, ap_none HA.out HB.out, hI.out.B⟩
set_option maxHeartbeats 8000000 in
set_option maxRecDepth 100000 in
theorem apart_a (a b : SB) (Y : Int) (w : World) (Y0 : 1 ≤ Y) (Y1 : Y ≤ 10100) (ha : neverB a = true) (hb : neverB b = false) : Calls Try.prog 26 #[.agg (fv a), .agg (fv b), .int .i64 Y] w (ApPost a b w) := by
 have szf : Aside0 (∀ c : SB, (Try.prog.info? 32).map (·.size) = some (fv c).size) := ⟨fun c => by unfold fv; rw [arrB_size]; exact size32⟩
 have szq : Aside0 (∀ c d : SB, (fv c).size = (fv d).size) := ⟨fun c d => by unfold fv; rw [arrB_size, arrB_size]⟩
 have size32v := szf
 have hI : Aside0 (Blk w [(w.heap.size + 1, fv b, 32), (w.heap.size, fv a, 32)] ((w.alloc (.cells (fv a) 32)).alloc (.cells (fv b) 32))) := ⟨by
  have := (((Blk.nil w).alloc (fv a) 32).alloc (fv b) 32)
  simpa only [World.size_alloc] using this⟩
 have HY := Aside0.mk (And.intro Y0 Y1)
 have CA : Aside0 (∀ w', Calls Try.prog 46 #[.agg (fv a)] w' fun e w'' => e = .returned (.bool true) ∧ Below w'.heap.size w' w'') := ⟨fun w' => by rw [← ha]; exact never_any a w'⟩
 have CB : Aside0 (∀ w', Calls Try.prog 46 #[.agg (fv b)] w' fun e w'' => e = .returned (.bool false) ∧ Below w'.heap.size w' w'') := ⟨fun w' => by rw [← hb]; exact never_any b w'⟩
 have HA := Aside0.mk ha
 have HB := Aside0.mk hb
 have zz : ∀ w, (zeroValue 32).run Try.prog w = .ok (.agg (fv zB)) w := by rw [fv_zero]; exact (zero_of_info zero32).1
 clear ha hb Y0 Y1
 go_enter Try.func26, Try.ntmps26
 go_wp2_with fail
 have HF : Aside0 (Ful b) := ⟨ful_of HB.out⟩
 refine start_ (n := 6) (S := Blk w [(w.heap.size + 1, fv b, 32), (w.heap.size, fv a, 32)]) (ds := []) #[F, F, F, F, F, F] (by kernel_rfl) rfl rfl (hI.out.drew) (fun hHeld => ?_)
 have hI2 := Aside0.mk hI.out.drew
 clear hI
 have hI := hI2
 clear hI2
 generalize hwd : World.drew _ = wdr at hI hHeld ⊢
 clear hwd
 refine take_ (i := 0) (N := (some 22)) (v := ?_) (a' := ?_) #[V, F, F, F, F, F] rfl rfl (by kernel_rfl) (fun _ _ _ h => h) (Or.inl ⟨by rfl, ?_⟩) hHeld ?_ ?_
 rotate_left
 ·
  intro w' hS
  refine exec_load_row 32 (.tmp 3) ?_ (w.heap.size) ?_ 32 _ _ (hS.get 1 rfl) Try.underlying32 rfl (szf.out _)
  ·
   rfl
  ·
   rfl
 rotate_left
 ·
  simp only [Act.put, pA, pZ, pS, i64_w, i32_w]; rfl
 refine take_ (i := 2) (N := (some 24)) (v := ?_) (a' := ?_) #[V, F, V, F, F, F] rfl rfl (by kernel_rfl) (fun _ _ _ h => h) (Or.inl ⟨by rfl, ?_⟩) hHeld ?_ ?_
 rotate_left
 ·
  intro w' hS
  refine exec_load_row 32 (.tmp 4) ?_ (w.heap.size + 1) ?_ 32 _ _ (hS.get 0 rfl) Try.underlying32 rfl (szf.out _)
  ·
   rfl
  ·
   rfl
 rotate_left
 ·
  simp only [Act.put, pA, pZ, pS, i64_w, i32_w]; rfl
 refine one_ (i := 1) (N := (some 23)) #[V, V, V, F, F, F] rfl rfl (by kernel_rfl) (by decide) (fun K hK => ?_)
 refine goes_ Try.func46 (by kernel_rfl) rfl #[.agg (fv a)] (by rfl) rfl rfl (by (try simp only [List.map_toArray, List.map_cons, List.map_nil]); first | done | rfl) ?_
 refine (CA.out _).mono ?_
 rintro e w1 ⟨rfl, hb⟩
 refine ⟨_, rfl, ?_⟩
 have hI2 := Aside0.mk (hI.out.below hb)
 clear hI hb
 have hI := hI2
 clear hI2
 refine hK.out _ _ (hI.out) (fun hHeld => ?_)
 clear hK K; refine norm_ (a' := ?_) ?_ ?_; rotate_left
 ·
  show Act.put _ (some 23) _ = _; simp only [Act.put, pA, pZ, pS, i64_w, i32_w]; rfl
 refine one_ (i := 3) (N := (some 25)) #[V, V, V, V, F, F] rfl rfl (by kernel_rfl) (by decide) (fun K hK => ?_)
 refine goes_ Try.func46 (by kernel_rfl) rfl #[.agg (fv b)] (by rfl) rfl rfl (by (try simp only [List.map_toArray, List.map_cons, List.map_nil]); first | done | rfl) ?_
 refine (CB.out _).mono ?_
 rintro e w3 ⟨rfl, hb⟩
 refine ⟨_, rfl, ?_⟩
 have hI2 := Aside0.mk (hI.out.below hb)
 clear hI hb
 have hI := hI2
 clear hI2
 refine hK.out _ _ (hI.out) (fun hHeld => ?_)
 clear hK K; refine norm_ (a' := ?_) ?_ ?_; rotate_left
 ·
  show Act.put _ (some 25) _ = _; simp only [Act.put, pA, pZ, pS, i64_w, i32_w]; rfl
 refine pure_ (i := 4) (N := (some 8)) (v := ?_) (a' := ?_) #[V, V, V, V, V, F] rfl rfl (by kernel_rfl) (fun _ _ _ h => h) (Or.inl ⟨by rfl, ?_⟩) ?_ ?_
 rotate_left
 ·
  intro w'; go_simp; with_reducible rfl
 rotate_left
 ·
  simp only [Act.put, pA, pZ, pS, i64_w, i32_w]; rfl
 refine pure_ (i := 5) (N := (some 9)) (v := ?_) (a' := ?_) #[V, V, V, V, V, V] rfl rfl (by kernel_rfl) (fun _ _ _ h => h) (Or.inl ⟨by rfl, ?_⟩) ?_ ?_
 rotate_left
 ·
  intro w'; go_simp; with_reducible rfl
 rotate_left
 ·
  simp only [Act.put, pA, pZ, pS, i64_w, i32_w]; rfl
 refine done_ (by kernel_rfl) ?_
 go_upto_region 6 with (first | ((with_reducible refine wpList_isCons ?_); refine wpList_load_row rfl 32 (.tmp 3) rfl (w.heap.size) rfl 32 _ (0, 0) _ (hI.out.get 1 rfl) Try.underlying32 rfl (szf.out _) ?_) | ((with_reducible refine wpList_isCons ?_); refine wpList_store_row rfl 32 (.tmp 10) (.tmp 34) rfl w3.heap.size (fv a) rfl rfl 32 _ ((hI.out.alloc (fv zB) 32).get 0 rfl) (szf.out _) (szq.out _ _) (arrB_one _ _) ?_))
 have hI2 := Aside0.mk ((hI.out.alloc (fv zB) 32).row (fv a))
 clear hI
 have hI := hI2
 clear hI2
 clear zz
 generalize hgs : World.setRow _ _ _ = ws0 at hI ⊢
 clear hgs
 generalize hgf : w3.heap.size = g10 at hI ⊢
 clear hgf
 go_upto_region 8 with (first | ((with_reducible refine wpList_isCons ?_); refine wpList_load_row rfl 32 (.tmp 4) rfl (w.heap.size + 1) rfl 32 _ (0, 0) _ (hI.out.get 1 rfl) Try.underlying32 rfl (szf.out _) ?_) | ((with_reducible refine wpList_isCons ?_); refine wpList_store_row rfl 32 (.tmp 10) (.tmp 36) rfl g10 (fv b) rfl rfl 32 _ (hI.out.get 0 rfl) (szf.out _) (szq.out _ _) (arrB_one _ _) ?_))
 have hI2 := Aside0.mk (hI.out.row (fv b))
 clear hI
 have hI := hI2
 clear hI2
 generalize hgs : World.setRow _ _ _ = ws1 at hI ⊢
 clear hgs
 go_upto_region 9 with (first | ((with_reducible refine wpList_isCons ?_); refine wpList_load_row rfl 32 (.tmp 10) rfl (g10) rfl 32 _ (0, 0) _ (hI.out.get 0 rfl) Try.underlying32 rfl (szf.out _) ?_) | (go_at_call 47; (with_reducible refine (some_r b _ _ HY.out.1 HY.out.2).mono ?_); rintro e wsd ⟨n, f, rfl, hs, hb⟩; have HS := Aside0.mk hs; have n0 := hs.lo; have n1 := hs.hi; clear hs; have hI2 := Aside0.mk (hI.out.below hb); clear hI hb; have hI := hI2; clear hI2))
 go_wp2_with (first | ((with_reducible refine wpList_isCons ?_); refine wpList_load_row rfl 32 (.tmp 10) rfl (g10) rfl 32 _ (0, 0) _ (hI.out.get 0 rfl) Try.underlying32 rfl (szf.out _) ?_) | (go_at_call 48; (with_reducible refine (time_r b _ HF.out).mono ?_); rintro e wt ⟨r, rfl, hr, hb⟩; have HR := Aside0.mk hr; clear hr; have r0 := HR.out.1; have r1 := HR.out.2.1; have hI2 := Aside0.mk (hI.out.below hb); clear hI hb; have hI := hI2; clear hI2))
 refine bodyPost_ret (v := .tuple #[.int .i64 (86400 * n + r), .bool f]) (by simp [results, Try.results26, go_sem]) rfl ⟨_, _, rfl, (ap_never HA.out HS.out HR.out.1 HR.out.2.1 HR.out.2.2).swap, hI.out.B⟩
set_option maxHeartbeats 8000000 in
set_option maxRecDepth 100000 in
theorem apart_b (a b : SB) (Y : Int) (w : World) (Y0 : 1 ≤ Y) (Y1 : Y ≤ 10100) (ha : neverB a = false) (hb : neverB b = true) : Calls Try.prog 26 #[.agg (fv a), .agg (fv b), .int .i64 Y] w (ApPost a b w) := by
 have szf : Aside0 (∀ c : SB, (Try.prog.info? 32).map (·.size) = some (fv c).size) := ⟨fun c => by unfold fv; rw [arrB_size]; exact size32⟩
 have szq : Aside0 (∀ c d : SB, (fv c).size = (fv d).size) := ⟨fun c d => by unfold fv; rw [arrB_size, arrB_size]⟩
 have size32v := szf
 have hI : Aside0 (Blk w [(w.heap.size + 1, fv b, 32), (w.heap.size, fv a, 32)] ((w.alloc (.cells (fv a) 32)).alloc (.cells (fv b) 32))) := ⟨by
  have := (((Blk.nil w).alloc (fv a) 32).alloc (fv b) 32)
  simpa only [World.size_alloc] using this⟩
 have HY := Aside0.mk (And.intro Y0 Y1)
 have CA : Aside0 (∀ w', Calls Try.prog 46 #[.agg (fv a)] w' fun e w'' => e = .returned (.bool false) ∧ Below w'.heap.size w' w'') := ⟨fun w' => by rw [← ha]; exact never_any a w'⟩
 have CB : Aside0 (∀ w', Calls Try.prog 46 #[.agg (fv b)] w' fun e w'' => e = .returned (.bool true) ∧ Below w'.heap.size w' w'') := ⟨fun w' => by rw [← hb]; exact never_any b w'⟩
 have HA := Aside0.mk ha
 have HB := Aside0.mk hb
 have zz : ∀ w, (zeroValue 32).run Try.prog w = .ok (.agg (fv zB)) w := by rw [fv_zero]; exact (zero_of_info zero32).1
 clear ha hb Y0 Y1
 go_enter Try.func26, Try.ntmps26
 go_wp2_with fail
 have HF : Aside0 (Ful a) := ⟨ful_of HA.out⟩
 refine start_ (n := 6) (S := Blk w [(w.heap.size + 1, fv b, 32), (w.heap.size, fv a, 32)]) (ds := []) #[F, F, F, F, F, F] (by kernel_rfl) rfl rfl (hI.out.drew) (fun hHeld => ?_)
 have hI2 := Aside0.mk hI.out.drew
 clear hI
 have hI := hI2
 clear hI2
 generalize hwd : World.drew _ = wdr at hI hHeld ⊢
 clear hwd
 refine take_ (i := 0) (N := (some 22)) (v := ?_) (a' := ?_) #[V, F, F, F, F, F] rfl rfl (by kernel_rfl) (fun _ _ _ h => h) (Or.inl ⟨by rfl, ?_⟩) hHeld ?_ ?_
 rotate_left
 ·
  intro w' hS
  refine exec_load_row 32 (.tmp 3) ?_ (w.heap.size) ?_ 32 _ _ (hS.get 1 rfl) Try.underlying32 rfl (szf.out _)
  ·
   rfl
  ·
   rfl
 rotate_left
 ·
  simp only [Act.put, pA, pZ, pS, i64_w, i32_w]; rfl
 refine take_ (i := 2) (N := (some 24)) (v := ?_) (a' := ?_) #[V, F, V, F, F, F] rfl rfl (by kernel_rfl) (fun _ _ _ h => h) (Or.inl ⟨by rfl, ?_⟩) hHeld ?_ ?_
 rotate_left
 ·
  intro w' hS
  refine exec_load_row 32 (.tmp 4) ?_ (w.heap.size + 1) ?_ 32 _ _ (hS.get 0 rfl) Try.underlying32 rfl (szf.out _)
  ·
   rfl
  ·
   rfl
 rotate_left
 ·
  simp only [Act.put, pA, pZ, pS, i64_w, i32_w]; rfl
 refine one_ (i := 1) (N := (some 23)) #[V, V, V, F, F, F] rfl rfl (by kernel_rfl) (by decide) (fun K hK => ?_)
 refine goes_ Try.func46 (by kernel_rfl) rfl #[.agg (fv a)] (by rfl) rfl rfl (by (try simp only [List.map_toArray, List.map_cons, List.map_nil]); first | done | rfl) ?_
 refine (CA.out _).mono ?_
 rintro e w1 ⟨rfl, hb⟩
 refine ⟨_, rfl, ?_⟩
 have hI2 := Aside0.mk (hI.out.below hb)
 clear hI hb
 have hI := hI2
 clear hI2
 refine hK.out _ _ (hI.out) (fun hHeld => ?_)
 clear hK K; refine norm_ (a' := ?_) ?_ ?_; rotate_left
 ·
  show Act.put _ (some 23) _ = _; simp only [Act.put, pA, pZ, pS, i64_w, i32_w]; rfl
 refine one_ (i := 3) (N := (some 25)) #[V, V, V, V, F, F] rfl rfl (by kernel_rfl) (by decide) (fun K hK => ?_)
 refine goes_ Try.func46 (by kernel_rfl) rfl #[.agg (fv b)] (by rfl) rfl rfl (by (try simp only [List.map_toArray, List.map_cons, List.map_nil]); first | done | rfl) ?_
 refine (CB.out _).mono ?_
 rintro e w3 ⟨rfl, hb⟩
 refine ⟨_, rfl, ?_⟩
 have hI2 := Aside0.mk (hI.out.below hb)
 clear hI hb
 have hI := hI2
 clear hI2
 refine hK.out _ _ (hI.out) (fun hHeld => ?_)
 clear hK K; refine norm_ (a' := ?_) ?_ ?_; rotate_left
 ·
  show Act.put _ (some 25) _ = _; simp only [Act.put, pA, pZ, pS, i64_w, i32_w]; rfl
 refine pure_ (i := 4) (N := (some 8)) (v := ?_) (a' := ?_) #[V, V, V, V, V, F] rfl rfl (by kernel_rfl) (fun _ _ _ h => h) (Or.inl ⟨by rfl, ?_⟩) ?_ ?_
 rotate_left
 ·
  intro w'; go_simp; with_reducible rfl
 rotate_left
 ·
  simp only [Act.put, pA, pZ, pS, i64_w, i32_w]; rfl
 refine pure_ (i := 5) (N := (some 9)) (v := ?_) (a' := ?_) #[V, V, V, V, V, V] rfl rfl (by kernel_rfl) (fun _ _ _ h => h) (Or.inl ⟨by rfl, ?_⟩) ?_ ?_
 rotate_left
 ·
  intro w'; go_simp; with_reducible rfl
 rotate_left
 ·
  simp only [Act.put, pA, pZ, pS, i64_w, i32_w]; rfl
 refine done_ (by kernel_rfl) ?_
 go_upto_region 6 with (first | ((with_reducible refine wpList_isCons ?_); refine wpList_load_row rfl 32 (.tmp 3) rfl (w.heap.size) rfl 32 _ (0, 0) _ (hI.out.get 1 rfl) Try.underlying32 rfl (szf.out _) ?_) | ((with_reducible refine wpList_isCons ?_); refine wpList_store_row rfl 32 (.tmp 10) (.tmp 34) rfl w3.heap.size (fv a) rfl rfl 32 _ ((hI.out.alloc (fv zB) 32).get 0 rfl) (szf.out _) (szq.out _ _) (arrB_one _ _) ?_))
 have hI2 := Aside0.mk ((hI.out.alloc (fv zB) 32).row (fv a))
 clear hI
 have hI := hI2
 clear hI2
 clear zz
 generalize hgs : World.setRow _ _ _ = ws0 at hI ⊢
 clear hgs
 generalize hgf : w3.heap.size = g10 at hI ⊢
 clear hgf
 go_upto_region 9 with (first | ((with_reducible refine wpList_isCons ?_); refine wpList_load_row rfl 32 (.tmp 10) rfl (g10) rfl 32 _ (0, 0) _ (hI.out.get 0 rfl) Try.underlying32 rfl (szf.out _) ?_) | (go_at_call 47; (with_reducible refine (some_r a _ _ HY.out.1 HY.out.2).mono ?_); rintro e wsd ⟨n, f, rfl, hs, hb⟩; have HS := Aside0.mk hs; have n0 := hs.lo; have n1 := hs.hi; clear hs; have hI2 := Aside0.mk (hI.out.below hb); clear hI hb; have hI := hI2; clear hI2))
 go_wp2_with (first | ((with_reducible refine wpList_isCons ?_); refine wpList_load_row rfl 32 (.tmp 10) rfl (g10) rfl 32 _ (0, 0) _ (hI.out.get 0 rfl) Try.underlying32 rfl (szf.out _) ?_) | (go_at_call 48; (with_reducible refine (time_r a _ HF.out).mono ?_); rintro e wt ⟨r, rfl, hr, hb⟩; have HR := Aside0.mk hr; clear hr; have r0 := HR.out.1; have r1 := HR.out.2.1; have hI2 := Aside0.mk (hI.out.below hb); clear hI hb; have hI := hI2; clear hI2))
 refine bodyPost_ret (v := .tuple #[.int .i64 (86400 * n + r), .bool f]) (by simp [results, Try.results26, go_sem]) rfl ⟨_, _, rfl, ap_never HB.out HS.out HR.out.1 HR.out.2.1 HR.out.2.2, hI.out.B⟩
set_option maxHeartbeats 8000000 in
set_option maxRecDepth 100000 in
theorem apart_both (a b : SB) (Y : Int) (w : World) (Y0 : 1 ≤ Y) (Y1 : Y ≤ 10100) (ha : neverB a = false) (hb : neverB b = false) : Calls Try.prog 26 #[.agg (fv a), .agg (fv b), .int .i64 Y] w (ApPost a b w) := by
 have szf : Aside0 (∀ c : SB, (Try.prog.info? 32).map (·.size) = some (fv c).size) := ⟨fun c => by unfold fv; rw [arrB_size]; exact size32⟩
 have szq : Aside0 (∀ c d : SB, (fv c).size = (fv d).size) := ⟨fun c d => by unfold fv; rw [arrB_size, arrB_size]⟩
 have size32v := szf
 have hI : Aside0 (Blk w [(w.heap.size + 1, fv b, 32), (w.heap.size, fv a, 32)] ((w.alloc (.cells (fv a) 32)).alloc (.cells (fv b) 32))) := ⟨by
  have := (((Blk.nil w).alloc (fv a) 32).alloc (fv b) 32)
  simpa only [World.size_alloc] using this⟩
 have HY := Aside0.mk (And.intro Y0 Y1)
 have CA : Aside0 (∀ w', Calls Try.prog 46 #[.agg (fv a)] w' fun e w'' => e = .returned (.bool false) ∧ Below w'.heap.size w' w'') := ⟨fun w' => by rw [← ha]; exact never_any a w'⟩
 have CB : Aside0 (∀ w', Calls Try.prog 46 #[.agg (fv b)] w' fun e w'' => e = .returned (.bool false) ∧ Below w'.heap.size w' w'') := ⟨fun w' => by rw [← hb]; exact never_any b w'⟩
 have HA := Aside0.mk ha
 have HB := Aside0.mk hb
 have zz : ∀ w, (zeroValue 32).run Try.prog w = .ok (.agg (fv zB)) w := by rw [fv_zero]; exact (zero_of_info zero32).1
 clear ha hb Y0 Y1
 go_enter Try.func26, Try.ntmps26
 go_wp2_with fail
 have HFA : Aside0 (Ful a) := ⟨ful_of HA.out⟩
 have HFB : Aside0 (Ful b) := ⟨ful_of HB.out⟩
 refine start_ (n := 6) (S := Blk w [(w.heap.size + 1, fv b, 32), (w.heap.size, fv a, 32)]) (ds := []) #[F, F, F, F, F, F] (by kernel_rfl) rfl rfl (hI.out.drew) (fun hHeld => ?_)
 have hI2 := Aside0.mk hI.out.drew
 clear hI
 have hI := hI2
 clear hI2
 generalize hwd : World.drew _ = wdr at hI hHeld ⊢
 clear hwd
 refine take_ (i := 0) (N := (some 22)) (v := ?_) (a' := ?_) #[V, F, F, F, F, F] rfl rfl (by kernel_rfl) (fun _ _ _ h => h) (Or.inl ⟨by rfl, ?_⟩) hHeld ?_ ?_
 rotate_left
 ·
  intro w' hS
  refine exec_load_row 32 (.tmp 3) ?_ (w.heap.size) ?_ 32 _ _ (hS.get 1 rfl) Try.underlying32 rfl (szf.out _)
  ·
   rfl
  ·
   rfl
 rotate_left
 ·
  simp only [Act.put, pA, pZ, pS, i64_w, i32_w]; rfl
 refine take_ (i := 2) (N := (some 24)) (v := ?_) (a' := ?_) #[V, F, V, F, F, F] rfl rfl (by kernel_rfl) (fun _ _ _ h => h) (Or.inl ⟨by rfl, ?_⟩) hHeld ?_ ?_
 rotate_left
 ·
  intro w' hS
  refine exec_load_row 32 (.tmp 4) ?_ (w.heap.size + 1) ?_ 32 _ _ (hS.get 0 rfl) Try.underlying32 rfl (szf.out _)
  ·
   rfl
  ·
   rfl
 rotate_left
 ·
  simp only [Act.put, pA, pZ, pS, i64_w, i32_w]; rfl
 refine one_ (i := 1) (N := (some 23)) #[V, V, V, F, F, F] rfl rfl (by kernel_rfl) (by decide) (fun K hK => ?_)
 refine goes_ Try.func46 (by kernel_rfl) rfl #[.agg (fv a)] (by rfl) rfl rfl (by (try simp only [List.map_toArray, List.map_cons, List.map_nil]); first | done | rfl) ?_
 refine (CA.out _).mono ?_
 rintro e w1 ⟨rfl, hb⟩
 refine ⟨_, rfl, ?_⟩
 have hI2 := Aside0.mk (hI.out.below hb)
 clear hI hb
 have hI := hI2
 clear hI2
 refine hK.out _ _ (hI.out) (fun hHeld => ?_)
 clear hK K; refine norm_ (a' := ?_) ?_ ?_; rotate_left
 ·
  show Act.put _ (some 23) _ = _; simp only [Act.put, pA, pZ, pS, i64_w, i32_w]; rfl
 refine one_ (i := 3) (N := (some 25)) #[V, V, V, V, F, F] rfl rfl (by kernel_rfl) (by decide) (fun K hK => ?_)
 refine goes_ Try.func46 (by kernel_rfl) rfl #[.agg (fv b)] (by rfl) rfl rfl (by (try simp only [List.map_toArray, List.map_cons, List.map_nil]); first | done | rfl) ?_
 refine (CB.out _).mono ?_
 rintro e w3 ⟨rfl, hb⟩
 refine ⟨_, rfl, ?_⟩
 have hI2 := Aside0.mk (hI.out.below hb)
 clear hI hb
 have hI := hI2
 clear hI2
 refine hK.out _ _ (hI.out) (fun hHeld => ?_)
 clear hK K; refine norm_ (a' := ?_) ?_ ?_; rotate_left
 ·
  show Act.put _ (some 25) _ = _; simp only [Act.put, pA, pZ, pS, i64_w, i32_w]; rfl
 refine pure_ (i := 4) (N := (some 8)) (v := ?_) (a' := ?_) #[V, V, V, V, V, F] rfl rfl (by kernel_rfl) (fun _ _ _ h => h) (Or.inl ⟨by rfl, ?_⟩) ?_ ?_
 rotate_left
 ·
  intro w'; go_simp; with_reducible rfl
 rotate_left
 ·
  simp only [Act.put, pA, pZ, pS, i64_w, i32_w]; rfl
 refine pure_ (i := 5) (N := (some 9)) (v := ?_) (a' := ?_) #[V, V, V, V, V, V] rfl rfl (by kernel_rfl) (fun _ _ _ h => h) (Or.inl ⟨by rfl, ?_⟩) ?_ ?_
 rotate_left
 ·
  intro w'; go_simp; with_reducible rfl
 rotate_left
 ·
  simp only [Act.put, pA, pZ, pS, i64_w, i32_w]; rfl
 refine done_ (by kernel_rfl) ?_
 go_upto_region 11 with (first | ((with_reducible refine wpList_isCons ?_); refine wpList_load_row rfl 32 (.tmp 3) rfl (w.heap.size) rfl 32 _ (0, 0) _ (hI.out.get 1 rfl) Try.underlying32 rfl (szf.out _) ?_) | ((with_reducible refine wpList_isCons ?_); refine wpList_load_row rfl 32 (.tmp 4) rfl (w.heap.size + 1) rfl 32 _ (0, 0) _ (hI.out.get 0 rfl) Try.underlying32 rfl (szf.out _) ?_) | (go_at_call 49; (with_reducible refine (dayApart_r a b _).mono ?_); rintro e wd ⟨m, d, v, f, rfl, hr, hb⟩; have HD := Aside0.mk hr; clear hr; have hI2 := Aside0.mk (hI.out.below hb); clear hI hb; have hI := hI2; clear hI2))
 cases f
 ·
  have HDL : Aside0 (DLike a b) := ⟨HD.out.no rfl⟩
  go_upto_region 18 with (first | ((with_reducible refine wpList_isCons ?_); refine wpList_load_row rfl 32 (.tmp 3) rfl (w.heap.size) rfl 32 _ (0, 0) _ (hI.out.get 1 rfl) Try.underlying32 rfl (szf.out _) ?_) | ((with_reducible refine wpList_isCons ?_); refine wpList_load_row rfl 32 (.tmp 4) rfl (w.heap.size + 1) rfl 32 _ (0, 0) _ (hI.out.get 0 rfl) Try.underlying32 rfl (szf.out _) ?_) | (go_at_call 51; (with_reducible refine (timeApart_any a b _ HFA.out HFB.out).mono ?_); rintro e wt ⟨⟨r, hr, rfl⟩, hb⟩; have HR := Aside0.mk hr; clear hr; have hI2 := Aside0.mk (hI.out.below hb); clear hI hb; have hI := hI2; clear hI2))
  rcases HR.out with hg | ⟨hm, hl⟩
  ·
   have HG := Aside0.mk hg
   have e1 : decide (r < 0) = false := decide_eq_false (by have := hg.1; omega)
   have r0 := hg.1
   have r1 := hg.2.1
   clear hg
   go_wp2_with (first | ((with_reducible refine wpList_isCons ?_); refine wpList_load_row rfl 32 (.tmp 3) rfl (w.heap.size) rfl 32 _ (0, 0) _ (hI.out.get 1 rfl) Try.underlying32 rfl (szf.out _) ?_) | (go_at_call 47; (with_reducible refine (some_r a _ _ HY.out.1 HY.out.2).mono ?_); rintro e wsd ⟨n, f, rfl, hs, hb⟩; have HS := Aside0.mk hs; have n0 := hs.lo; have n1 := hs.hi; clear hs; have hI2 := Aside0.mk (hI.out.below hb); clear hI hb; have hI := hI2; clear hI2))
   refine bodyPost_ret (v := .tuple #[.int .i64 (86400 * n + r), .bool f]) (by simp [results, Try.results26, go_sem]) rfl ⟨_, _, rfl, ap_time HDL.out HS.out HG.out, hI.out.B⟩
  ·
   have HL := Aside0.mk hl
   have e1 : decide (r < 0) = true := decide_eq_true (by omega)
   clear hl hm
   go_wp2_with fail
   refine bodyPost_ret (v := .tuple #[.int .i64 (0), .bool false]) (by simp [results, Try.results26, go_sem]) rfl ⟨_, _, rfl, ap_like HDL.out HL.out, hI.out.B⟩
 ·
  have HR := Aside0.mk (HD.out.yes rfl).1
  have HM : Aside0 ((bitOf a.m m && dO a d v) != (bitOf b.m m && dO b d v)) := ⟨(HD.out.yes rfl).2⟩
  go_upto_region 13 with (first | ((with_reducible refine wpList_isCons ?_); refine wpList_load_row rfl 32 (.tmp 3) rfl (w.heap.size) rfl 32 _ (0, 0) _ (hI.out.get 1 rfl) Try.underlying32 rfl (szf.out _) ?_) | ((with_reducible refine wpList_isCons ?_); refine wpList_store_row rfl 32 (.tmp 17) (.tmp 59) rfl wd.heap.size (fv a) rfl rfl 32 _ ((hI.out.alloc (fv zB) 32).get 0 rfl) (szf.out _) (szq.out _ _) (arrB_one _ _) ?_))
  have hI2 := Aside0.mk ((hI.out.alloc (fv zB) 32).row (fv a))
  clear hI
  have hI := hI2
  clear hI2
  clear zz
  generalize hgs : World.setRow _ _ _ = ws0 at hI ⊢
  clear hgs
  generalize hgf : wd.heap.size = g17 at hI ⊢
  clear hgf
  go_upto_region 14 with fail
  have hI2 := Aside0.mk (hI.out.alloc #[.int .i64 2000, .int .i64 m, .int .i64 d] 80)
  clear hI
  have hI := hI2
  clear hI2
  generalize hga : World.alloc _ _ = ws1 at hI ⊢
  clear hga
  generalize hgf : ws0.heap.size = g18 at hI ⊢
  clear hgf
  obtain ⟨qm, hqm⟩ : ∃ q, q = bitOf a.m m := ⟨_, rfl⟩
  obtain ⟨qd, hqd⟩ : ∃ q, q = dO a d v := ⟨_, rfl⟩
  have HQM := Aside0.mk hqm
  have HQD := Aside0.mk hqd
  have CM : ws1.cell? ⟨w.heap.size, 257 + m.toNat, none⟩ = some (.bool qm) := by
   rw [hqm]
   have hmr := HR.out
   have := fv_cell (w := w) (b := a) (hI.out.get 3 rfl) 4 m (by decide) (by show (1 : Int) ≤ m; omega) (by show m ≤ (12 : Int); omega)
   rwa [show 64 * 4 + 1 + m.toNat = 257 + m.toNat by omega] at this
  have CD : Aside0 (∀ w', Calls Try.prog 38 #[.agg (fv a), .agg #[.int .i64 2000, .int .i64 m, .int .i64 d], .int .i64 v] w' fun e w'' => e = .returned (.bool qd) ∧ Below w'.heap.size w' w'') := ⟨fun w' => by rw [hqd]; exact dayFits_any a 2000 m d v w' HR.out.2.2.1 (by have := HR.out; have := md_bd 2000 m; omega) HR.out.2.2.2.2.1 HR.out.2.2.2.2.2⟩
  have M1 : 1 ≤ m := HR.out.1
  have M2 : m ≤ 12 := HR.out.2.1
  clear hqm hqd
  cases qm
  ·
   cases qd
   ·
    have HOA : Aside0 ((bitOf a.m m && dO a d v) = false) := ⟨by rw [← HQM.out, ← HQD.out]; rfl⟩
    have HP := HOA
    have HO : Aside0 ((bitOf b.m m && dO b d v) = true) := ⟨by have := HM.out; rw [HOA.out] at this; simpa using this⟩
    go_upto_region 16 with (first | ((with_reducible refine gate_dst (N := 71) rfl ?_); (refine gate_guard (by rfl) ?_; dsimp only); refine wpList_load_row rfl 80 (.tmp 18) rfl g18 rfl 80 _ (0, 0) _ (hI.out.get 0 rfl) Try.underlying80 rfl size80 ?_) | ((with_reducible refine gate_dst (N := 70) rfl ?_); (refine gate_guard (by rfl) ?_; dsimp only); refine wpList_load_row rfl 32 (.tmp 3) rfl (w.heap.size) rfl 32 _ (0, 0) _ (hI.out.get 3 rfl) Try.underlying32 rfl (szf.out _) ?_) | (go_at_call 38; (with_reducible refine (CD.out _).mono ?_); rintro e w38 ⟨rfl, hb⟩; have hI2 := Aside0.mk (hI.out.below hb); clear hI hb; have hI := hI2; clear hI2) | ((with_reducible refine wpList_isCons ?_); refine wpList_load_row rfl 32 (.tmp 4) rfl (w.heap.size + 1) rfl 32 _ (0, 0) _ (hI.out.get 2 rfl) Try.underlying32 rfl (szf.out _) ?_) | ((with_reducible refine wpList_isCons ?_); refine wpList_store_row rfl 32 (.tmp 17) (.tmp 76) rfl g17 (fv b) rfl rfl 32 _ (hI.out.swap.get 0 rfl) (szf.out _) (szq.out _ _) (arrB_one _ _) ?_))
    have hI2 := Aside0.mk (hI.out.swap.row (fv b))
    clear hI
    have hI := hI2
    clear hI2
    generalize hgs : World.setRow _ _ _ = ws2 at hI ⊢
    clear hgs CD
    refine start_ (n := 11) (S := Blk w [(g17, fv b, 32), (g18, #[.int .i64 2000, .int .i64 m, .int .i64 d], 80), (w.heap.size + 1, fv b, 32), (w.heap.size, fv a, 32)]) (ds := []) #[F, F, F, F, F, F, F, F, F, F, F] (by kernel_rfl) rfl rfl (hI.out.drew) (fun hHeld => ?_)
    have hI2 := Aside0.mk hI.out.drew
    clear hI
    have hI := hI2
    clear hI2
    generalize hwd : World.drew _ = wdr at hI hHeld ⊢
    clear hwd
    refine pure_ (i := 0) (N := (some 77)) (v := ?_) (a' := ?_) #[V, F, F, F, F, F, F, F, F, F, F] rfl rfl (by kernel_rfl) (fun _ _ _ h => h) (Or.inl ⟨by rfl, ?_⟩) ?_ ?_
    rotate_left
    ·
     intro w'; go_simp; with_reducible rfl
    rotate_left
    ·
     simp only [Act.put, pA, pZ, pS, i64_w, i32_w]; rfl
    refine pure_ (i := 1) (N := (some 78)) (v := ?_) (a' := ?_) #[V, V, F, F, F, F, F, F, F, F, F] rfl rfl (by kernel_rfl) (fun _ _ _ h => h) (Or.inl ⟨by rfl, ?_⟩) ?_ ?_
    rotate_left
    ·
     intro w'; go_simp; with_reducible rfl
    rotate_left
    ·
     simp only [Act.put, pA, pZ, pS, i64_w, i32_w]; rfl
    refine pure_ (i := 2) (N := (some 79)) (v := ?_) (a' := ?_) #[V, V, V, F, F, F, F, F, F, F, F] rfl rfl (by kernel_rfl) (fun _ _ _ h => h) (Or.inl ⟨by rfl, ?_⟩) ?_ ?_
    rotate_left
    ·
     intro w'; go_simp; with_reducible rfl
    rotate_left
    ·
     simp only [Act.put, pA, pZ, pS, i64_w, i32_w]; rfl
    refine pure_ (i := 3) (N := (some 80)) (v := ?_) (a' := ?_) #[V, V, V, V, F, F, F, F, F, F, F] rfl rfl (by kernel_rfl) (fun _ _ _ h => h) (Or.inl ⟨by rfl, ?_⟩) ?_ ?_
    rotate_left
    ·
     intro w'; go_simp; with_reducible rfl
    rotate_left
    ·
     simp only [Act.put, pA, pZ, pS, i64_w, i32_w]; rfl
    refine take_ (i := 6) (N := (some 83)) (v := ?_) (a' := ?_) #[V, V, V, V, F, F, V, F, F, F, F] rfl rfl (by kernel_rfl) (fun _ _ _ h => h) (Or.inl ⟨by rfl, ?_⟩) hHeld ?_ ?_
    rotate_left
    ·
     intro w' hS
     refine exec_load_row 32 (.tmp 17) ?_ g17 ?_ 32 _ _ (hS.get 0 rfl) Try.underlying32 rfl (szf.out _)
     ·
      rfl
     ·
      rfl
    rotate_left
    ·
     simp only [Act.put, pA, pZ, pS, i64_w, i32_w]; rfl
    refine one_ (i := 4) (N := (some 81)) #[V, V, V, V, V, F, V, F, F, F, F] rfl rfl (by kernel_rfl) (by decide) (fun K hK => ?_)
    refine goes_ Try.func50 (by kernel_rfl) rfl #[.int .i64 Y, .int .i64 m, .int .i64 d, .int .i64 v] (by rfl) rfl rfl (by (try simp only [List.map_toArray, List.map_cons, List.map_nil]); first | done | rfl) ?_
    refine (first_r Y m d v _ HY.out.1 HY.out.2 HR.out).mono ?_
    rintro e w4 ⟨n, rfl, hn, hb⟩
    refine ⟨_, rfl, ?_⟩
    have HN := Aside0.mk hn
    have n0 := hn.2.2.2.1
    have n1 := hn.2.2.2.2
    have k1 : IntKind.i64.wrap (86400 * n) = 86400 * n := by rw [i64_w]; exact w64_in _ (by omega) (by omega)
    clear hn
    have hI2 := Aside0.mk (hI.out.below hb)
    clear hI hb
    have hI := hI2
    clear hI2
    refine hK.out _ _ (hI.out) (fun hHeld => ?_)
    clear hK K; refine norm_ (a' := ?_) ?_ ?_; rotate_left
    ·
     show Act.put _ (some 81) _ = _; simp only [Act.put, pA, pZ, pS, i64_w, i32_w]; rfl
    refine pure_ (i := 5) (N := (some 82)) (v := ?_) (a' := ?_) #[V, V, V, V, V, V, V, F, F, F, F] rfl rfl (by kernel_rfl) (fun _ _ _ h => h) (Or.inl ⟨by rfl, ?_⟩) ?_ ?_
    rotate_left
    ·
     intro w'; go_simp; with_reducible rfl
    rotate_left
    ·
     simp only [Act.put, pA, pZ, pS, i64_w, i32_w]; rfl
    refine one_ (i := 7) (N := (some 84)) #[V, V, V, V, V, V, V, V, F, F, F] rfl rfl (by kernel_rfl) (by decide) (fun K hK => ?_)
    refine goes_ Try.func48 (by kernel_rfl) rfl #[.agg (fv b), .int .i64 0] (by rfl) rfl rfl (by (try simp only [List.map_toArray, List.map_cons, List.map_nil]); first | done | rfl) ?_
    refine (time_r b _ HFB.out).mono ?_
    rintro e w7 ⟨r, rfl, hr, hb⟩
    refine ⟨_, rfl, ?_⟩
    have HT := Aside0.mk hr
    have k2 : IntKind.i64.wrap (86400 * n + r) = 86400 * n + r := by rw [i64_w]; exact w64_in _ (by have := HT.out; omega) (by have := HT.out; omega)
    clear hr
    have hI2 := Aside0.mk (hI.out.below hb)
    clear hI hb
    have hI := hI2
    clear hI2
    refine hK.out _ _ (hI.out) (fun hHeld => ?_)
    clear hK K; refine norm_ (a' := ?_) ?_ ?_; rotate_left
    ·
     show Act.put _ (some 84) _ = _; simp only [Act.put, pA, pZ, pS, i64_w, i32_w]; rfl
    refine pure_ (i := 8) (N := (some 85)) (v := ?_) (a' := ?_) #[V, V, V, V, V, V, V, V, V, F, F] rfl rfl (by kernel_rfl) (fun _ _ _ h => h) (Or.inl ⟨by rfl, ?_⟩) ?_ ?_
    rotate_left
    ·
     intro w'; go_simp; with_reducible rfl
    rotate_left
    ·
     simp only [Act.put, pA, pZ, pS, i64_w, i32_w]; rfl
    refine pure_ (i := 9) (N := (some 6)) (v := ?_) (a' := ?_) #[V, V, V, V, V, V, V, V, V, V, F] rfl rfl (by kernel_rfl) (fun _ _ _ h => h) (Or.inl ⟨by rfl, ?_⟩) ?_ ?_
    rotate_left
    ·
     intro w'; go_simp; with_reducible rfl
    rotate_left
    ·
     simp only [Act.put, pA, pZ, pS, i64_w, i32_w]; rfl
    refine pure_ (i := 10) (N := (some 7)) (v := ?_) (a' := ?_) #[V, V, V, V, V, V, V, V, V, V, V] rfl rfl (by kernel_rfl) (fun _ _ _ h => h) (Or.inl ⟨by rfl, ?_⟩) ?_ ?_
    rotate_left
    ·
     intro w'; go_simp; with_reducible rfl
    rotate_left
    ·
     simp only [Act.put, pA, pZ, pS, i64_w, i32_w]; rfl
    refine done_ (by kernel_rfl) ?_
    go_wp2_with fail
    refine bodyPost_ret (v := .tuple #[.int .i64 (86400 * n + r), .bool true]) (by simp [results, Try.results26, go_sem]) rfl ⟨_, _, rfl, (ap_day HN.out.1 HN.out.2.1 HN.out.2.2.1 HN.out.2.2.2.1 HN.out.2.2.2.2 HO.out HP.out HT.out.1 HT.out.2.1 HT.out.2.2).swap, hI.out.B⟩
   ·
    have HOA : Aside0 ((bitOf a.m m && dO a d v) = false) := ⟨by rw [← HQM.out, ← HQD.out]; rfl⟩
    have HP := HOA
    have HO : Aside0 ((bitOf b.m m && dO b d v) = true) := ⟨by have := HM.out; rw [HOA.out] at this; simpa using this⟩
    go_upto_region 16 with (first | ((with_reducible refine gate_dst (N := 71) rfl ?_); (refine gate_guard (by rfl) ?_; dsimp only); refine wpList_load_row rfl 80 (.tmp 18) rfl g18 rfl 80 _ (0, 0) _ (hI.out.get 0 rfl) Try.underlying80 rfl size80 ?_) | ((with_reducible refine gate_dst (N := 70) rfl ?_); (refine gate_guard (by rfl) ?_; dsimp only); refine wpList_load_row rfl 32 (.tmp 3) rfl (w.heap.size) rfl 32 _ (0, 0) _ (hI.out.get 3 rfl) Try.underlying32 rfl (szf.out _) ?_) | (go_at_call 38; (with_reducible refine (CD.out _).mono ?_); rintro e w38 ⟨rfl, hb⟩; have hI2 := Aside0.mk (hI.out.below hb); clear hI hb; have hI := hI2; clear hI2) | ((with_reducible refine wpList_isCons ?_); refine wpList_load_row rfl 32 (.tmp 4) rfl (w.heap.size + 1) rfl 32 _ (0, 0) _ (hI.out.get 2 rfl) Try.underlying32 rfl (szf.out _) ?_) | ((with_reducible refine wpList_isCons ?_); refine wpList_store_row rfl 32 (.tmp 17) (.tmp 76) rfl g17 (fv b) rfl rfl 32 _ (hI.out.swap.get 0 rfl) (szf.out _) (szq.out _ _) (arrB_one _ _) ?_))
    have hI2 := Aside0.mk (hI.out.swap.row (fv b))
    clear hI
    have hI := hI2
    clear hI2
    generalize hgs : World.setRow _ _ _ = ws2 at hI ⊢
    clear hgs CD
    refine start_ (n := 11) (S := Blk w [(g17, fv b, 32), (g18, #[.int .i64 2000, .int .i64 m, .int .i64 d], 80), (w.heap.size + 1, fv b, 32), (w.heap.size, fv a, 32)]) (ds := []) #[F, F, F, F, F, F, F, F, F, F, F] (by kernel_rfl) rfl rfl (hI.out.drew) (fun hHeld => ?_)
    have hI2 := Aside0.mk hI.out.drew
    clear hI
    have hI := hI2
    clear hI2
    generalize hwd : World.drew _ = wdr at hI hHeld ⊢
    clear hwd
    refine pure_ (i := 0) (N := (some 77)) (v := ?_) (a' := ?_) #[V, F, F, F, F, F, F, F, F, F, F] rfl rfl (by kernel_rfl) (fun _ _ _ h => h) (Or.inl ⟨by rfl, ?_⟩) ?_ ?_
    rotate_left
    ·
     intro w'; go_simp; with_reducible rfl
    rotate_left
    ·
     simp only [Act.put, pA, pZ, pS, i64_w, i32_w]; rfl
    refine pure_ (i := 1) (N := (some 78)) (v := ?_) (a' := ?_) #[V, V, F, F, F, F, F, F, F, F, F] rfl rfl (by kernel_rfl) (fun _ _ _ h => h) (Or.inl ⟨by rfl, ?_⟩) ?_ ?_
    rotate_left
    ·
     intro w'; go_simp; with_reducible rfl
    rotate_left
    ·
     simp only [Act.put, pA, pZ, pS, i64_w, i32_w]; rfl
    refine pure_ (i := 2) (N := (some 79)) (v := ?_) (a' := ?_) #[V, V, V, F, F, F, F, F, F, F, F] rfl rfl (by kernel_rfl) (fun _ _ _ h => h) (Or.inl ⟨by rfl, ?_⟩) ?_ ?_
    rotate_left
    ·
     intro w'; go_simp; with_reducible rfl
    rotate_left
    ·
     simp only [Act.put, pA, pZ, pS, i64_w, i32_w]; rfl
    refine pure_ (i := 3) (N := (some 80)) (v := ?_) (a' := ?_) #[V, V, V, V, F, F, F, F, F, F, F] rfl rfl (by kernel_rfl) (fun _ _ _ h => h) (Or.inl ⟨by rfl, ?_⟩) ?_ ?_
    rotate_left
    ·
     intro w'; go_simp; with_reducible rfl
    rotate_left
    ·
     simp only [Act.put, pA, pZ, pS, i64_w, i32_w]; rfl
    refine take_ (i := 6) (N := (some 83)) (v := ?_) (a' := ?_) #[V, V, V, V, F, F, V, F, F, F, F] rfl rfl (by kernel_rfl) (fun _ _ _ h => h) (Or.inl ⟨by rfl, ?_⟩) hHeld ?_ ?_
    rotate_left
    ·
     intro w' hS
     refine exec_load_row 32 (.tmp 17) ?_ g17 ?_ 32 _ _ (hS.get 0 rfl) Try.underlying32 rfl (szf.out _)
     ·
      rfl
     ·
      rfl
    rotate_left
    ·
     simp only [Act.put, pA, pZ, pS, i64_w, i32_w]; rfl
    refine one_ (i := 4) (N := (some 81)) #[V, V, V, V, V, F, V, F, F, F, F] rfl rfl (by kernel_rfl) (by decide) (fun K hK => ?_)
    refine goes_ Try.func50 (by kernel_rfl) rfl #[.int .i64 Y, .int .i64 m, .int .i64 d, .int .i64 v] (by rfl) rfl rfl (by (try simp only [List.map_toArray, List.map_cons, List.map_nil]); first | done | rfl) ?_
    refine (first_r Y m d v _ HY.out.1 HY.out.2 HR.out).mono ?_
    rintro e w4 ⟨n, rfl, hn, hb⟩
    refine ⟨_, rfl, ?_⟩
    have HN := Aside0.mk hn
    have n0 := hn.2.2.2.1
    have n1 := hn.2.2.2.2
    have k1 : IntKind.i64.wrap (86400 * n) = 86400 * n := by rw [i64_w]; exact w64_in _ (by omega) (by omega)
    clear hn
    have hI2 := Aside0.mk (hI.out.below hb)
    clear hI hb
    have hI := hI2
    clear hI2
    refine hK.out _ _ (hI.out) (fun hHeld => ?_)
    clear hK K; refine norm_ (a' := ?_) ?_ ?_; rotate_left
    ·
     show Act.put _ (some 81) _ = _; simp only [Act.put, pA, pZ, pS, i64_w, i32_w]; rfl
    refine pure_ (i := 5) (N := (some 82)) (v := ?_) (a' := ?_) #[V, V, V, V, V, V, V, F, F, F, F] rfl rfl (by kernel_rfl) (fun _ _ _ h => h) (Or.inl ⟨by rfl, ?_⟩) ?_ ?_
    rotate_left
    ·
     intro w'; go_simp; with_reducible rfl
    rotate_left
    ·
     simp only [Act.put, pA, pZ, pS, i64_w, i32_w]; rfl
    refine one_ (i := 7) (N := (some 84)) #[V, V, V, V, V, V, V, V, F, F, F] rfl rfl (by kernel_rfl) (by decide) (fun K hK => ?_)
    refine goes_ Try.func48 (by kernel_rfl) rfl #[.agg (fv b), .int .i64 0] (by rfl) rfl rfl (by (try simp only [List.map_toArray, List.map_cons, List.map_nil]); first | done | rfl) ?_
    refine (time_r b _ HFB.out).mono ?_
    rintro e w7 ⟨r, rfl, hr, hb⟩
    refine ⟨_, rfl, ?_⟩
    have HT := Aside0.mk hr
    have k2 : IntKind.i64.wrap (86400 * n + r) = 86400 * n + r := by rw [i64_w]; exact w64_in _ (by have := HT.out; omega) (by have := HT.out; omega)
    clear hr
    have hI2 := Aside0.mk (hI.out.below hb)
    clear hI hb
    have hI := hI2
    clear hI2
    refine hK.out _ _ (hI.out) (fun hHeld => ?_)
    clear hK K; refine norm_ (a' := ?_) ?_ ?_; rotate_left
    ·
     show Act.put _ (some 84) _ = _; simp only [Act.put, pA, pZ, pS, i64_w, i32_w]; rfl
    refine pure_ (i := 8) (N := (some 85)) (v := ?_) (a' := ?_) #[V, V, V, V, V, V, V, V, V, F, F] rfl rfl (by kernel_rfl) (fun _ _ _ h => h) (Or.inl ⟨by rfl, ?_⟩) ?_ ?_
    rotate_left
    ·
     intro w'; go_simp; with_reducible rfl
    rotate_left
    ·
     simp only [Act.put, pA, pZ, pS, i64_w, i32_w]; rfl
    refine pure_ (i := 9) (N := (some 6)) (v := ?_) (a' := ?_) #[V, V, V, V, V, V, V, V, V, V, F] rfl rfl (by kernel_rfl) (fun _ _ _ h => h) (Or.inl ⟨by rfl, ?_⟩) ?_ ?_
    rotate_left
    ·
     intro w'; go_simp; with_reducible rfl
    rotate_left
    ·
     simp only [Act.put, pA, pZ, pS, i64_w, i32_w]; rfl
    refine pure_ (i := 10) (N := (some 7)) (v := ?_) (a' := ?_) #[V, V, V, V, V, V, V, V, V, V, V] rfl rfl (by kernel_rfl) (fun _ _ _ h => h) (Or.inl ⟨by rfl, ?_⟩) ?_ ?_
    rotate_left
    ·
     intro w'; go_simp; with_reducible rfl
    rotate_left
    ·
     simp only [Act.put, pA, pZ, pS, i64_w, i32_w]; rfl
    refine done_ (by kernel_rfl) ?_
    go_wp2_with fail
    refine bodyPost_ret (v := .tuple #[.int .i64 (86400 * n + r), .bool true]) (by simp [results, Try.results26, go_sem]) rfl ⟨_, _, rfl, (ap_day HN.out.1 HN.out.2.1 HN.out.2.2.1 HN.out.2.2.2.1 HN.out.2.2.2.2 HO.out HP.out HT.out.1 HT.out.2.1 HT.out.2.2).swap, hI.out.B⟩
  ·
   cases qd
   ·
    have HOA : Aside0 ((bitOf a.m m && dO a d v) = false) := ⟨by rw [← HQM.out, ← HQD.out]; rfl⟩
    have HP := HOA
    have HO : Aside0 ((bitOf b.m m && dO b d v) = true) := ⟨by have := HM.out; rw [HOA.out] at this; simpa using this⟩
    go_upto_region 16 with (first | ((with_reducible refine gate_dst (N := 71) rfl ?_); (refine gate_guard (by rfl) ?_; dsimp only); refine wpList_load_row rfl 80 (.tmp 18) rfl g18 rfl 80 _ (0, 0) _ (hI.out.get 0 rfl) Try.underlying80 rfl size80 ?_) | ((with_reducible refine gate_dst (N := 70) rfl ?_); (refine gate_guard (by rfl) ?_; dsimp only); refine wpList_load_row rfl 32 (.tmp 3) rfl (w.heap.size) rfl 32 _ (0, 0) _ (hI.out.get 3 rfl) Try.underlying32 rfl (szf.out _) ?_) | (go_at_call 38; (with_reducible refine (CD.out _).mono ?_); rintro e w38 ⟨rfl, hb⟩; have hI2 := Aside0.mk (hI.out.below hb); clear hI hb; have hI := hI2; clear hI2) | ((with_reducible refine wpList_isCons ?_); refine wpList_load_row rfl 32 (.tmp 4) rfl (w.heap.size + 1) rfl 32 _ (0, 0) _ (hI.out.get 2 rfl) Try.underlying32 rfl (szf.out _) ?_) | ((with_reducible refine wpList_isCons ?_); refine wpList_store_row rfl 32 (.tmp 17) (.tmp 76) rfl g17 (fv b) rfl rfl 32 _ (hI.out.swap.get 0 rfl) (szf.out _) (szq.out _ _) (arrB_one _ _) ?_))
    have hI2 := Aside0.mk (hI.out.swap.row (fv b))
    clear hI
    have hI := hI2
    clear hI2
    generalize hgs : World.setRow _ _ _ = ws2 at hI ⊢
    clear hgs CD
    refine start_ (n := 11) (S := Blk w [(g17, fv b, 32), (g18, #[.int .i64 2000, .int .i64 m, .int .i64 d], 80), (w.heap.size + 1, fv b, 32), (w.heap.size, fv a, 32)]) (ds := []) #[F, F, F, F, F, F, F, F, F, F, F] (by kernel_rfl) rfl rfl (hI.out.drew) (fun hHeld => ?_)
    have hI2 := Aside0.mk hI.out.drew
    clear hI
    have hI := hI2
    clear hI2
    generalize hwd : World.drew _ = wdr at hI hHeld ⊢
    clear hwd
    refine pure_ (i := 0) (N := (some 77)) (v := ?_) (a' := ?_) #[V, F, F, F, F, F, F, F, F, F, F] rfl rfl (by kernel_rfl) (fun _ _ _ h => h) (Or.inl ⟨by rfl, ?_⟩) ?_ ?_
    rotate_left
    ·
     intro w'; go_simp; with_reducible rfl
    rotate_left
    ·
     simp only [Act.put, pA, pZ, pS, i64_w, i32_w]; rfl
    refine pure_ (i := 1) (N := (some 78)) (v := ?_) (a' := ?_) #[V, V, F, F, F, F, F, F, F, F, F] rfl rfl (by kernel_rfl) (fun _ _ _ h => h) (Or.inl ⟨by rfl, ?_⟩) ?_ ?_
    rotate_left
    ·
     intro w'; go_simp; with_reducible rfl
    rotate_left
    ·
     simp only [Act.put, pA, pZ, pS, i64_w, i32_w]; rfl
    refine pure_ (i := 2) (N := (some 79)) (v := ?_) (a' := ?_) #[V, V, V, F, F, F, F, F, F, F, F] rfl rfl (by kernel_rfl) (fun _ _ _ h => h) (Or.inl ⟨by rfl, ?_⟩) ?_ ?_
    rotate_left
    ·
     intro w'; go_simp; with_reducible rfl
    rotate_left
    ·
     simp only [Act.put, pA, pZ, pS, i64_w, i32_w]; rfl
    refine pure_ (i := 3) (N := (some 80)) (v := ?_) (a' := ?_) #[V, V, V, V, F, F, F, F, F, F, F] rfl rfl (by kernel_rfl) (fun _ _ _ h => h) (Or.inl ⟨by rfl, ?_⟩) ?_ ?_
    rotate_left
    ·
     intro w'; go_simp; with_reducible rfl
    rotate_left
    ·
     simp only [Act.put, pA, pZ, pS, i64_w, i32_w]; rfl
    refine take_ (i := 6) (N := (some 83)) (v := ?_) (a' := ?_) #[V, V, V, V, F, F, V, F, F, F, F] rfl rfl (by kernel_rfl) (fun _ _ _ h => h) (Or.inl ⟨by rfl, ?_⟩) hHeld ?_ ?_
    rotate_left
    ·
     intro w' hS
     refine exec_load_row 32 (.tmp 17) ?_ g17 ?_ 32 _ _ (hS.get 0 rfl) Try.underlying32 rfl (szf.out _)
     ·
      rfl
     ·
      rfl
    rotate_left
    ·
     simp only [Act.put, pA, pZ, pS, i64_w, i32_w]; rfl
    refine one_ (i := 4) (N := (some 81)) #[V, V, V, V, V, F, V, F, F, F, F] rfl rfl (by kernel_rfl) (by decide) (fun K hK => ?_)
    refine goes_ Try.func50 (by kernel_rfl) rfl #[.int .i64 Y, .int .i64 m, .int .i64 d, .int .i64 v] (by rfl) rfl rfl (by (try simp only [List.map_toArray, List.map_cons, List.map_nil]); first | done | rfl) ?_
    refine (first_r Y m d v _ HY.out.1 HY.out.2 HR.out).mono ?_
    rintro e w4 ⟨n, rfl, hn, hb⟩
    refine ⟨_, rfl, ?_⟩
    have HN := Aside0.mk hn
    have n0 := hn.2.2.2.1
    have n1 := hn.2.2.2.2
    have k1 : IntKind.i64.wrap (86400 * n) = 86400 * n := by rw [i64_w]; exact w64_in _ (by omega) (by omega)
    clear hn
    have hI2 := Aside0.mk (hI.out.below hb)
    clear hI hb
    have hI := hI2
    clear hI2
    refine hK.out _ _ (hI.out) (fun hHeld => ?_)
    clear hK K; refine norm_ (a' := ?_) ?_ ?_; rotate_left
    ·
     show Act.put _ (some 81) _ = _; simp only [Act.put, pA, pZ, pS, i64_w, i32_w]; rfl
    refine pure_ (i := 5) (N := (some 82)) (v := ?_) (a' := ?_) #[V, V, V, V, V, V, V, F, F, F, F] rfl rfl (by kernel_rfl) (fun _ _ _ h => h) (Or.inl ⟨by rfl, ?_⟩) ?_ ?_
    rotate_left
    ·
     intro w'; go_simp; with_reducible rfl
    rotate_left
    ·
     simp only [Act.put, pA, pZ, pS, i64_w, i32_w]; rfl
    refine one_ (i := 7) (N := (some 84)) #[V, V, V, V, V, V, V, V, F, F, F] rfl rfl (by kernel_rfl) (by decide) (fun K hK => ?_)
    refine goes_ Try.func48 (by kernel_rfl) rfl #[.agg (fv b), .int .i64 0] (by rfl) rfl rfl (by (try simp only [List.map_toArray, List.map_cons, List.map_nil]); first | done | rfl) ?_
    refine (time_r b _ HFB.out).mono ?_
    rintro e w7 ⟨r, rfl, hr, hb⟩
    refine ⟨_, rfl, ?_⟩
    have HT := Aside0.mk hr
    have k2 : IntKind.i64.wrap (86400 * n + r) = 86400 * n + r := by rw [i64_w]; exact w64_in _ (by have := HT.out; omega) (by have := HT.out; omega)
    clear hr
    have hI2 := Aside0.mk (hI.out.below hb)
    clear hI hb
    have hI := hI2
    clear hI2
    refine hK.out _ _ (hI.out) (fun hHeld => ?_)
    clear hK K; refine norm_ (a' := ?_) ?_ ?_; rotate_left
    ·
     show Act.put _ (some 84) _ = _; simp only [Act.put, pA, pZ, pS, i64_w, i32_w]; rfl
    refine pure_ (i := 8) (N := (some 85)) (v := ?_) (a' := ?_) #[V, V, V, V, V, V, V, V, V, F, F] rfl rfl (by kernel_rfl) (fun _ _ _ h => h) (Or.inl ⟨by rfl, ?_⟩) ?_ ?_
    rotate_left
    ·
     intro w'; go_simp; with_reducible rfl
    rotate_left
    ·
     simp only [Act.put, pA, pZ, pS, i64_w, i32_w]; rfl
    refine pure_ (i := 9) (N := (some 6)) (v := ?_) (a' := ?_) #[V, V, V, V, V, V, V, V, V, V, F] rfl rfl (by kernel_rfl) (fun _ _ _ h => h) (Or.inl ⟨by rfl, ?_⟩) ?_ ?_
    rotate_left
    ·
     intro w'; go_simp; with_reducible rfl
    rotate_left
    ·
     simp only [Act.put, pA, pZ, pS, i64_w, i32_w]; rfl
    refine pure_ (i := 10) (N := (some 7)) (v := ?_) (a' := ?_) #[V, V, V, V, V, V, V, V, V, V, V] rfl rfl (by kernel_rfl) (fun _ _ _ h => h) (Or.inl ⟨by rfl, ?_⟩) ?_ ?_
    rotate_left
    ·
     intro w'; go_simp; with_reducible rfl
    rotate_left
    ·
     simp only [Act.put, pA, pZ, pS, i64_w, i32_w]; rfl
    refine done_ (by kernel_rfl) ?_
    go_wp2_with fail
    refine bodyPost_ret (v := .tuple #[.int .i64 (86400 * n + r), .bool true]) (by simp [results, Try.results26, go_sem]) rfl ⟨_, _, rfl, (ap_day HN.out.1 HN.out.2.1 HN.out.2.2.1 HN.out.2.2.2.1 HN.out.2.2.2.2 HO.out HP.out HT.out.1 HT.out.2.1 HT.out.2.2).swap, hI.out.B⟩
   ·
    have HOA : Aside0 ((bitOf a.m m && dO a d v) = true) := ⟨by rw [← HQM.out, ← HQD.out]; rfl⟩
    have HO := HOA
    have HP : Aside0 ((bitOf b.m m && dO b d v) = false) := ⟨by have := HM.out; rw [HOA.out] at this; cases hq : (bitOf b.m m && dO b d v) with | false => rfl | true => rw [hq] at this; exact absurd this (by decide)⟩
    go_upto_region 16 with (first | ((with_reducible refine gate_dst (N := 71) rfl ?_); (refine gate_guard (by rfl) ?_; dsimp only); refine wpList_load_row rfl 80 (.tmp 18) rfl g18 rfl 80 _ (0, 0) _ (hI.out.get 0 rfl) Try.underlying80 rfl size80 ?_) | ((with_reducible refine gate_dst (N := 70) rfl ?_); (refine gate_guard (by rfl) ?_; dsimp only); refine wpList_load_row rfl 32 (.tmp 3) rfl (w.heap.size) rfl 32 _ (0, 0) _ (hI.out.get 3 rfl) Try.underlying32 rfl (szf.out _) ?_) | (go_at_call 38; (with_reducible refine (CD.out _).mono ?_); rintro e w38 ⟨rfl, hb⟩; have hI2 := Aside0.mk (hI.out.below hb); clear hI hb; have hI := hI2; clear hI2))
    clear CD
    refine start_ (n := 11) (S := Blk w [(g18, #[.int .i64 2000, .int .i64 m, .int .i64 d], 80), (g17, fv a, 32), (w.heap.size + 1, fv b, 32), (w.heap.size, fv a, 32)]) (ds := []) #[F, F, F, F, F, F, F, F, F, F, F] (by kernel_rfl) rfl rfl (hI.out.drew) (fun hHeld => ?_)
    have hI2 := Aside0.mk hI.out.drew
    clear hI
    have hI := hI2
    clear hI2
    generalize hwd : World.drew _ = wdr at hI hHeld ⊢
    clear hwd
    refine pure_ (i := 0) (N := (some 77)) (v := ?_) (a' := ?_) #[V, F, F, F, F, F, F, F, F, F, F] rfl rfl (by kernel_rfl) (fun _ _ _ h => h) (Or.inl ⟨by rfl, ?_⟩) ?_ ?_
    rotate_left
    ·
     intro w'; go_simp; with_reducible rfl
    rotate_left
    ·
     simp only [Act.put, pA, pZ, pS, i64_w, i32_w]; rfl
    refine pure_ (i := 1) (N := (some 78)) (v := ?_) (a' := ?_) #[V, V, F, F, F, F, F, F, F, F, F] rfl rfl (by kernel_rfl) (fun _ _ _ h => h) (Or.inl ⟨by rfl, ?_⟩) ?_ ?_
    rotate_left
    ·
     intro w'; go_simp; with_reducible rfl
    rotate_left
    ·
     simp only [Act.put, pA, pZ, pS, i64_w, i32_w]; rfl
    refine pure_ (i := 2) (N := (some 79)) (v := ?_) (a' := ?_) #[V, V, V, F, F, F, F, F, F, F, F] rfl rfl (by kernel_rfl) (fun _ _ _ h => h) (Or.inl ⟨by rfl, ?_⟩) ?_ ?_
    rotate_left
    ·
     intro w'; go_simp; with_reducible rfl
    rotate_left
    ·
     simp only [Act.put, pA, pZ, pS, i64_w, i32_w]; rfl
    refine pure_ (i := 3) (N := (some 80)) (v := ?_) (a' := ?_) #[V, V, V, V, F, F, F, F, F, F, F] rfl rfl (by kernel_rfl) (fun _ _ _ h => h) (Or.inl ⟨by rfl, ?_⟩) ?_ ?_
    rotate_left
    ·
     intro w'; go_simp; with_reducible rfl
    rotate_left
    ·
     simp only [Act.put, pA, pZ, pS, i64_w, i32_w]; rfl
    refine take_ (i := 6) (N := (some 83)) (v := ?_) (a' := ?_) #[V, V, V, V, F, F, V, F, F, F, F] rfl rfl (by kernel_rfl) (fun _ _ _ h => h) (Or.inl ⟨by rfl, ?_⟩) hHeld ?_ ?_
    rotate_left
    ·
     intro w' hS
     refine exec_load_row 32 (.tmp 17) ?_ g17 ?_ 32 _ _ (hS.get 1 rfl) Try.underlying32 rfl (szf.out _)
     ·
      rfl
     ·
      rfl
    rotate_left
    ·
     simp only [Act.put, pA, pZ, pS, i64_w, i32_w]; rfl
    refine one_ (i := 4) (N := (some 81)) #[V, V, V, V, V, F, V, F, F, F, F] rfl rfl (by kernel_rfl) (by decide) (fun K hK => ?_)
    refine goes_ Try.func50 (by kernel_rfl) rfl #[.int .i64 Y, .int .i64 m, .int .i64 d, .int .i64 v] (by rfl) rfl rfl (by (try simp only [List.map_toArray, List.map_cons, List.map_nil]); first | done | rfl) ?_
    refine (first_r Y m d v _ HY.out.1 HY.out.2 HR.out).mono ?_
    rintro e w4 ⟨n, rfl, hn, hb⟩
    refine ⟨_, rfl, ?_⟩
    have HN := Aside0.mk hn
    have n0 := hn.2.2.2.1
    have n1 := hn.2.2.2.2
    have k1 : IntKind.i64.wrap (86400 * n) = 86400 * n := by rw [i64_w]; exact w64_in _ (by omega) (by omega)
    clear hn
    have hI2 := Aside0.mk (hI.out.below hb)
    clear hI hb
    have hI := hI2
    clear hI2
    refine hK.out _ _ (hI.out) (fun hHeld => ?_)
    clear hK K; refine norm_ (a' := ?_) ?_ ?_; rotate_left
    ·
     show Act.put _ (some 81) _ = _; simp only [Act.put, pA, pZ, pS, i64_w, i32_w]; rfl
    refine pure_ (i := 5) (N := (some 82)) (v := ?_) (a' := ?_) #[V, V, V, V, V, V, V, F, F, F, F] rfl rfl (by kernel_rfl) (fun _ _ _ h => h) (Or.inl ⟨by rfl, ?_⟩) ?_ ?_
    rotate_left
    ·
     intro w'; go_simp; with_reducible rfl
    rotate_left
    ·
     simp only [Act.put, pA, pZ, pS, i64_w, i32_w]; rfl
    refine one_ (i := 7) (N := (some 84)) #[V, V, V, V, V, V, V, V, F, F, F] rfl rfl (by kernel_rfl) (by decide) (fun K hK => ?_)
    refine goes_ Try.func48 (by kernel_rfl) rfl #[.agg (fv a), .int .i64 0] (by rfl) rfl rfl (by (try simp only [List.map_toArray, List.map_cons, List.map_nil]); first | done | rfl) ?_
    refine (time_r a _ HFA.out).mono ?_
    rintro e w7 ⟨r, rfl, hr, hb⟩
    refine ⟨_, rfl, ?_⟩
    have HT := Aside0.mk hr
    have k2 : IntKind.i64.wrap (86400 * n + r) = 86400 * n + r := by rw [i64_w]; exact w64_in _ (by have := HT.out; omega) (by have := HT.out; omega)
    clear hr
    have hI2 := Aside0.mk (hI.out.below hb)
    clear hI hb
    have hI := hI2
    clear hI2
    refine hK.out _ _ (hI.out) (fun hHeld => ?_)
    clear hK K; refine norm_ (a' := ?_) ?_ ?_; rotate_left
    ·
     show Act.put _ (some 84) _ = _; simp only [Act.put, pA, pZ, pS, i64_w, i32_w]; rfl
    refine pure_ (i := 8) (N := (some 85)) (v := ?_) (a' := ?_) #[V, V, V, V, V, V, V, V, V, F, F] rfl rfl (by kernel_rfl) (fun _ _ _ h => h) (Or.inl ⟨by rfl, ?_⟩) ?_ ?_
    rotate_left
    ·
     intro w'; go_simp; with_reducible rfl
    rotate_left
    ·
     simp only [Act.put, pA, pZ, pS, i64_w, i32_w]; rfl
    refine pure_ (i := 9) (N := (some 6)) (v := ?_) (a' := ?_) #[V, V, V, V, V, V, V, V, V, V, F] rfl rfl (by kernel_rfl) (fun _ _ _ h => h) (Or.inl ⟨by rfl, ?_⟩) ?_ ?_
    rotate_left
    ·
     intro w'; go_simp; with_reducible rfl
    rotate_left
    ·
     simp only [Act.put, pA, pZ, pS, i64_w, i32_w]; rfl
    refine pure_ (i := 10) (N := (some 7)) (v := ?_) (a' := ?_) #[V, V, V, V, V, V, V, V, V, V, V] rfl rfl (by kernel_rfl) (fun _ _ _ h => h) (Or.inl ⟨by rfl, ?_⟩) ?_ ?_
    rotate_left
    ·
     intro w'; go_simp; with_reducible rfl
    rotate_left
    ·
     simp only [Act.put, pA, pZ, pS, i64_w, i32_w]; rfl
    refine done_ (by kernel_rfl) ?_
    go_wp2_with fail
    refine bodyPost_ret (v := .tuple #[.int .i64 (86400 * n + r), .bool true]) (by simp [results, Try.results26, go_sem]) rfl ⟨_, _, rfl, ap_day HN.out.1 HN.out.2.1 HN.out.2.2.1 HN.out.2.2.2.1 HN.out.2.2.2.2 HO.out HP.out HT.out.1 HT.out.2.1 HT.out.2.2, hI.out.B⟩
theorem apart_any (a b : SB) (Y : Int) (w : World) (Y0 : 1 ≤ Y) (Y1 : Y ≤ 10100) : Calls Try.prog 26 #[.agg (fv a), .agg (fv b), .int .i64 Y] w (ApPost a b w) := by
 cases ha : neverB a with
 | true =>
  cases hb : neverB b with
  | true => exact apart_none a b Y w Y0 Y1 ha hb
  | false => exact apart_a a b Y w Y0 Y1 ha hb
 | false =>
  cases hb : neverB b with
  | true => exact apart_b a b Y w Y0 Y1 ha hb
  | false => exact apart_both a b Y w Y0 Y1 ha hb
end Go.Proofs.Ytlgdaegaahnkbaa.Tm
