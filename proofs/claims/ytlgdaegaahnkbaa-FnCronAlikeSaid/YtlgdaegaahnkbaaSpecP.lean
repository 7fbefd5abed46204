/- The reference's civil time and whether a schedule fits it: CronClock, CronCivil, CronFits (printed by gen_sp.py). -/
import Derived.Test.YtlgdaegaahnkbaaNxP
namespace Go.Proofs.Ytlgdaegaahnkbaa.Tm
open Go Go.RowKit Cal MC
open Go.Proofs.YtlgdaegaahnkbaaW.PrintWords Go.Proofs.YtlgdaegaahnkbaaW.PrintLast Go.Proofs.YtlgdaegaahnkbaaW.PrintMore
set_option linter.unusedVariables false
set_option linter.unusedSimpArgs false
/-- A list that has a next operation (asked first: else Lean would unfold the walk). -/
theorem wpList_isCons {P : Program} {ops : Array Oper} {rest : List Oper} {o : Oper} {a : Act} {w : World} {Q : Exit → Act → World → Prop} (h : wpList P ops Q (o :: rest) a w) : wpList P ops Q (o :: rest) a w := h
/-- A guarded operation that loads a row. -/
theorem wpList_load_row_g {P : Program} {ops : Array Oper} {rest : List Oper} {o : Oper} {a : Act} {w : World} {Q : Exit → Act → World → Prop} (ty : TypeId) (x : Operand) (ho : o.op = .load ty x) (hgd : Region.wanted o (yielded ops a.tmps) = true)
    (g : Nat) (hx : a.eval x = .pointer (some ⟨g, 0, none⟩)) (t : TypeId) (cs : Array Value) (fr : Nat × Nat) (d : TypeDesc) (hg : w.heap[g]? = some (.cells cs t fr))
    (hu : P.underlying ty = some d) (hd : (match d with | .struct _ | .array _ _ => true | _ => false) = true) (hi : (P.info? ty).map (·.size) = some cs.size)
    (h : wpList P ops Q rest (a.put o.dst (.agg cs)) w) : wpList P ops Q (o :: rest) a w :=
  BigFrame.wpList_want hgd fun _ hK => wp_load_row ty x ho g hx t cs fr d hg hu hd hi (hK _ _ h)
theorem size46 : (Try.prog.info? 46).map (·.size) = some 8 := by kernel_rfl
theorem specWeekday_f (n : Int) (h0 : -719162 ≤ n) (h1 : n ≤ 3100000) : spec_CronWeekday.f n = some (wd n) := by
  unfold spec_CronWeekday.f spec_floorMod.f
  rw [w64_in (n + 4) (by omega) (by omega), floorDiv_7 _ (by omega) (by omega)]
  simp only [Option.bind_some]
  rw [w64_in (7 * ((n + 4) / 7)) (by omega) (by omega), w64_in _ (by omega) (by omega)]
  congr 1
  show _ = (n + 4) % 7
  omega
theorem specClock_c (x nn : Int) (w : World) (x0 : -62135596800 ≤ x) (x1 : x ≤ 267840000000) : Calls Try.prog 39 #[.int .i64 x, .int .i64 nn] w fun e w' => e = .returned (.agg #[.int .i64 (yr (x / 86400)), .int .i64 (mo (x / 86400)), .int .i64 (dy (x / 86400)), .int .i64 ((x % 86400) / 3600), .int .i64 ((x % 86400) % 3600 / 60), .int .i64 ((x % 86400) % 60), .int .i64 nn, .int .i64 (wd (x / 86400))]) ∧ Below w.heap.size w w' := by
  obtain ⟨k, hk⟩ := dateOf_f (x / 86400) (by omega) (by omega)
  refine spec_CronClock.calls k x nn _ _ _ _ _ _ _ _ w ?_
  unfold spec_CronClock.f
  rw [floorDiv_86400 x (by omega) (by omega)]
  simp only [Option.bind_some, hk]
  rw [specWeekday_f _ (by omega) (by omega)]
  simp only [Option.bind_some]
  rw [w64_in (86400 * (x / 86400)) (by omega) (by omega), w64_in (x - 86400 * (x / 86400)) (by omega) (by omega), show x - 86400 * (x / 86400) = x % 86400 by omega]
  have h0 : 0 ≤ x % 86400 := by omega
  rw [Int.tdiv_eq_ediv_of_nonneg h0, Int.tdiv_eq_ediv_of_nonneg h0, w64_in (x % 86400 / 3600) (by omega) (by omega), w64_in (x % 86400 / 60) (by omega) (by omega), Int.tmod_eq_emod_of_nonneg (show 0 ≤ x % 86400 / 60 by omega), Int.tmod_eq_emod_of_nonneg h0]
  rw [show x % 86400 / 60 % 60 = x % 86400 % 3600 / 60 by omega]
theorem sz8 (a b c d e f g h a' b' c' d' e' f' g' h' : Value) : (#[a, b, c, d, e, f, g, h] : Array Value).size = (#[a', b', c', d', e', f', g', h'] : Array Value).size := rfl
theorem one8 (a b c d e f g h : Int) : (#[Value.int .i64 a, Value.int .i64 b, Value.int .i64 c, Value.int .i64 d, Value.int .i64 e, Value.int .i64 f, Value.int .i64 g, Value.int .i64 h]).all (·.oneCell') = true := by simp [Value.oneCell']
set_option maxHeartbeats 8000000 in
set_option maxRecDepth 100000 in
theorem civil_c (x nn : Int) (w : World) (x0 : -62135596800 ≤ x) (x1 : x ≤ 267840000000) : Calls Try.prog 18 #[.agg #[.int .i64 x, .int .i64 nn], .agg #[.slice none 0 0, .slice none 0 0, .slice none 0 0, .slice none 0 0]] w fun e w' => e = .returned (.agg #[.int .i64 (yr (x / 86400)), .int .i64 (mo (x / 86400)), .int .i64 (dy (x / 86400)), .int .i64 ((x % 86400) / 3600), .int .i64 ((x % 86400) % 3600 / 60), .int .i64 ((x % 86400) % 60), .int .i64 nn, .int .i64 (wd (x / 86400))]) ∧ Below w.heap.size w w' := by
  have HX := Aside0.mk (And.intro x0 x1)
  have hI : Aside0 (Blk w [(w.heap.size + 1 + 1, #[.int .i64 0, .int .i64 0, .int .i64 0, .int .i64 0, .int .i64 0, .int .i64 0, .int .i64 0, .int .i64 0], 46), (w.heap.size + 1, #[.slice none 0 0, .slice none 0 0, .slice none 0 0, .slice none 0 0], 40), (w.heap.size, #[.int .i64 x, .int .i64 nn], 26)] (((w.alloc (.cells #[.int .i64 x, .int .i64 nn] 26)).alloc (.cells #[.slice none 0 0, .slice none 0 0, .slice none 0 0, .slice none 0 0] 40)).alloc (.cells #[.int .i64 0, .int .i64 0, .int .i64 0, .int .i64 0, .int .i64 0, .int .i64 0, .int .i64 0, .int .i64 0] 46))) := ⟨by
    have := ((((Blk.nil w).alloc #[.int .i64 x, .int .i64 nn] 26).alloc #[.slice none 0 0, .slice none 0 0, .slice none 0 0, .slice none 0 0] 40).alloc #[.int .i64 0, .int .i64 0, .int .i64 0, .int .i64 0, .int .i64 0, .int .i64 0, .int .i64 0, .int .i64 0] 46)
    simpa only [World.size_alloc] using this⟩
  have hu46 := Try.underlying46
  have e1 : IntKind.i64.wrap x = x := by rw [i64_w]; exact w64_in x (by omega) (by omega)
  clear x0 x1
  go_enter Try.func18, Try.ntmps18
  go_wp2_with fail
  refine start_ (n := 11) (S := Blk w [(w.heap.size + 1 + 1, #[.int .i64 0, .int .i64 0, .int .i64 0, .int .i64 0, .int .i64 0, .int .i64 0, .int .i64 0, .int .i64 0], 46), (w.heap.size + 1, #[.slice none 0 0, .slice none 0 0, .slice none 0 0, .slice none 0 0], 40), (w.heap.size, #[.int .i64 x, .int .i64 nn], 26)]) (ds := [10]) #[false, false, false, false, false, false, false, false, false, false, false] (by kernel_rfl) rfl rfl (hI.out.drew) (fun hHeld => ?_)
  have hI2 := Aside0.mk hI.out.drew
  clear hI
  have hI := hI2
  clear hI2
  generalize hwd : World.drew _ = wdr at hI hHeld ⊢
  clear hwd
  refine pure_ (i := 0) (N := (some 5)) (v := ?_) (a' := ?_) #[true, false, false, false, false, false, false, false, false, false, false] rfl rfl (by kernel_rfl) (fun _ _ _ h => h) (Or.inl ⟨by rfl, ?_⟩) ?_ ?_
  rotate_left
  · intro w'
    go_simp
    with_reducible rfl
  rotate_left
  · simp only [Act.put, List.setIfInBounds_toArray, List.set_cons_zero, List.set_cons_succ, i64_w, i32_w]
    rfl
  refine take_ (i := 1) (N := (some 6)) (v := ?_) (a' := ?_) #[true, true, false, false, false, false, false, false, false, false, false] rfl rfl (by kernel_rfl) (fun _ _ _ h => h) (Or.inl ⟨by rfl, ?_⟩) hHeld ?_ ?_
  rotate_left
  · intro w' hS
    have cc := (hS.cell 2 rfl 0).trans (show _ = some (.int .i64 x : Value) from rfl)
    go_simp
    with_reducible rfl
  rotate_left
  · simp only [Act.put, List.setIfInBounds_toArray, List.set_cons_zero, List.set_cons_succ, i64_w, i32_w]
    rfl
  refine take_ (i := 2) (N := (some 7)) (v := ?_) (a' := ?_) #[true, true, true, false, false, false, false, false, false, false, false] rfl rfl (by kernel_rfl) (fun _ _ _ h => h) (Or.inl ⟨by rfl, ?_⟩) hHeld ?_ ?_
  rotate_left
  · intro w' hS
    refine exec_load_row 40 (.tmp 3) ?_ (w.heap.size + 1) ?_ 40 _ _ (hS.get 1 rfl) Try.underlying40 rfl size40
    · rfl
    · rfl
  rotate_left
  · simp only [Act.put, List.setIfInBounds_toArray, List.set_cons_zero, List.set_cons_succ, i64_w, i32_w]
    rfl
  refine pure_ (i := 3) (N := (some 8)) (v := ?_) (a' := ?_) #[true, true, true, true, false, false, false, false, false, false, false] rfl rfl (by kernel_rfl) (fun _ _ _ h => h) (Or.inl ⟨by rfl, ?_⟩) ?_ ?_
  rotate_left
  · intro w'
    go_simp
    with_reducible rfl
  rotate_left
  · simp only [Act.put, List.setIfInBounds_toArray, List.set_cons_zero, List.set_cons_succ, i64_w, i32_w]
    rfl
  refine take_ (i := 4) (N := (some 9)) (v := ?_) (a' := ?_) #[true, true, true, true, true, false, false, false, false, false, false] rfl rfl (by kernel_rfl) (fun _ _ _ h => h) (Or.inl ⟨by rfl, ?_⟩) hHeld ?_ ?_
  rotate_left
  · intro w' hS
    have cc := (hS.cell 2 rfl 0).trans (show _ = some (.int .i64 x : Value) from rfl)
    go_simp
    with_reducible rfl
  rotate_left
  · simp only [Act.put, List.setIfInBounds_toArray, List.set_cons_zero, List.set_cons_succ, i64_w, i32_w]
    rfl
  refine pure_ (i := 7) (N := (some 12)) (v := ?_) (a' := ?_) #[true, true, true, true, true, false, false, true, false, false, false] rfl rfl (by kernel_rfl) (fun _ _ _ h => h) (Or.inl ⟨by rfl, ?_⟩) ?_ ?_
  rotate_left
  · intro w'
    go_simp
    with_reducible rfl
  rotate_left
  · simp only [Act.put, List.setIfInBounds_toArray, List.set_cons_zero, List.set_cons_succ, i64_w, i32_w]
    rfl
  refine take_ (i := 8) (N := (some 13)) (v := ?_) (a' := ?_) #[true, true, true, true, true, false, false, true, true, false, false] rfl rfl (by kernel_rfl) (fun _ _ _ h => h) (Or.inl ⟨by rfl, ?_⟩) hHeld ?_ ?_
  rotate_left
  · intro w' hS
    have cc := (hS.cell 2 rfl 1).trans (show _ = some (.int .i64 nn : Value) from rfl)
    go_simp
    with_reducible rfl
  rotate_left
  · simp only [Act.put, List.setIfInBounds_toArray, List.set_cons_zero, List.set_cons_succ, i64_w, i32_w]
    rfl
  refine one_ (i := 5) (N := (some 10)) #[true, true, true, true, true, true, false, true, true, false, false] rfl rfl (by kernel_rfl) (by decide) (fun K hK => ?_)
  refine goes_ Try.func40 (by kernel_rfl) rfl #[.agg #[.slice none 0 0, .slice none 0 0, .slice none 0 0, .slice none 0 0], .int .i64 x] (by rfl) rfl rfl (by (try simp only [List.map_toArray, List.map_cons, List.map_nil]); first | done | rfl) ?_
  refine (offset_any x _).mono ?_
  rintro e w5 ⟨rfl, hb⟩
  refine ⟨_, rfl, ?_⟩
  have hI2 := Aside0.mk (hI.out.below hb)
  clear hI hb
  have hI := hI2
  clear hI2
  refine hK.out _ _ (hI.out) (fun hHeld => ?_)
  clear hK K
  refine norm_ (a' := ?_) ?_ ?_
  rotate_left
  · show Act.put _ (some 10) _ = _
    simp only [Act.put, List.setIfInBounds_toArray, List.set_cons_zero, List.set_cons_succ, i64_w, i32_w]
    rfl
  refine pure_ (i := 6) (N := (some 11)) (v := ?_) (a' := ?_) #[true, true, true, true, true, true, true, true, true, false, false] rfl rfl (by kernel_rfl) (fun _ _ _ h => h) (Or.inl ⟨by rfl, ?_⟩) ?_ ?_
  rotate_left
  · intro w'
    go_simp
    with_reducible rfl
  rotate_left
  · simp only [Act.put, List.setIfInBounds_toArray, List.set_cons_zero, List.set_cons_succ, i64_w, i32_w]
    rfl
  refine one_ (i := 9) (N := (some 14)) #[true, true, true, true, true, true, true, true, true, true, false] rfl rfl (by kernel_rfl) (by decide) (fun K hK => ?_)
  refine goes_ Try.func39 (by kernel_rfl) rfl #[.int .i64 x, .int .i64 nn] (by rfl) rfl rfl (by (try simp only [List.map_toArray, List.map_cons, List.map_nil]); first | done | rfl) ?_
  refine (specClock_c x nn _ HX.out.1 HX.out.2).mono ?_
  rintro e w9 ⟨rfl, hb⟩
  refine ⟨_, rfl, ?_⟩
  have hI2 := Aside0.mk (hI.out.below hb)
  clear hI hb
  have hI := hI2
  clear hI2
  refine hK.out _ _ (hI.out) (fun hHeld => ?_)
  clear hK K
  refine norm_ (a' := ?_) ?_ ?_
  rotate_left
  · show Act.put _ (some 14) _ = _
    simp only [Act.put, List.setIfInBounds_toArray, List.set_cons_zero, List.set_cons_succ, i64_w, i32_w]
    rfl
  refine last_ (i := 10) (N := none) #[true, true, true, true, true, true, true, true, true, true, true] rfl rfl (by kernel_rfl) (by decide) (fun K hK => ?_)
  refine skip_ (by rfl) rfl (exec_store_row 46 (.tmp 4) (.tmp 14) rfl (w.heap.size + 1 + 1) #[.int .i64 (yr (x / 86400)), .int .i64 (mo (x / 86400)), .int .i64 (dy (x / 86400)), .int .i64 ((x % 86400) / 3600), .int .i64 ((x % 86400) % 3600 / 60), .int .i64 ((x % 86400) % 60), .int .i64 nn, .int .i64 (wd (x / 86400))] rfl rfl 46 _ (hI.out.get 0 rfl) size46 (sz8 _ _ _ _ _ _ _ _ _ _ _ _ _ _ _ _) (one8 _ _ _ _ _ _ _ _)) ?_
  have hA := Aside0.mk (hI.out.row #[.int .i64 (yr (x / 86400)), .int .i64 (mo (x / 86400)), .int .i64 (dy (x / 86400)), .int .i64 ((x % 86400) / 3600), .int .i64 ((x % 86400) % 3600 / 60), .int .i64 ((x % 86400) % 60), .int .i64 nn, .int .i64 (wd (x / 86400))])
  clear hI
  have hI := hA
  clear hA
  generalize hgs : World.setRow _ _ _ = ws at hI ⊢
  clear hgs
  refine hK.out _ _ ?_
  clear hK K
  refine done_ (by kernel_rfl) ?_
  go_wp2_with fail
  exact bodyPost_ret (results_cell_row rfl _ _ (w.heap.size + 1 + 1) 46 _ _ _ rfl (hI.out.get 0 rfl) Try.underlying46 rfl size46) rfl ⟨rfl, hI.out.B⟩
/-- Whether the sets allow the second r of day n. -/
def fitB (b : SB) (n r : Int) : Bool := bitOf b.m (mo n) && (dayOk b.d b.w n && (bitOf b.h (r / 3600) && (bitOf b.i (r % 3600 / 60) && bitOf b.s (r % 60))))
theorem fitB_iff (b : SB) (x : Int) : fitB b (x / 86400) (x % 86400) = true ↔ fit b.sch x := by
  unfold fitB fit fitDay fitT
  simp only [SB.sch, schOf, Bool.and_eq_true]
  grind
set_option maxHeartbeats 8000000 in
set_option maxRecDepth 100000 in
theorem fits_c (b : SB) (n r nn : Int) (w : World) (h0 : -719162 ≤ n) (h1 : n ≤ 3100000) (r0 : 0 ≤ r) (r1 : r < 86400) : Calls Try.prog 17 #[.agg (fv b), .agg #[.int .i64 (yr n), .int .i64 (mo n), .int .i64 (dy n), .int .i64 (r / 3600), .int .i64 (r % 3600 / 60), .int .i64 (r % 60), .int .i64 nn, .int .i64 (wd n)]] w fun e w' => e = .returned (.bool (fitB b n r)) ∧ Below w.heap.size w w' := by
  have size32v : Aside0 ((Try.prog.info? 32).map (·.size) = some (fv b).size) := ⟨by unfold fv; rw [arrB_size]; exact size32⟩
  have hI : Aside0 (Blk w [(w.heap.size + 1, #[.int .i64 (yr n), .int .i64 (mo n), .int .i64 (dy n), .int .i64 (r / 3600), .int .i64 (r % 3600 / 60), .int .i64 (r % 60), .int .i64 nn, .int .i64 (wd n)], 46), (w.heap.size, fv b, 32)] ((w.alloc (.cells (fv b) 32)).alloc (.cells #[.int .i64 (yr n), .int .i64 (mo n), .int .i64 (dy n), .int .i64 (r / 3600), .int .i64 (r % 3600 / 60), .int .i64 (r % 60), .int .i64 nn, .int .i64 (wd n)] 46))) := ⟨by
    have := (((Blk.nil w).alloc (fv b) 32).alloc #[.int .i64 (yr n), .int .i64 (mo n), .int .i64 (dy n), .int .i64 (r / 3600), .int .i64 (r % 3600 / 60), .int .i64 (r % 60), .int .i64 nn, .int .i64 (wd n)] 46)
    simpa only [World.size_alloc] using this⟩
  have hmn := mo_bd n
  have hdn := dy_bd n
  have hmd := md_bd (yr n) (mo n)
  obtain ⟨qm, hqM⟩ : ∃ q, q = bitOf b.m (mo n) := ⟨_, rfl⟩
  have hMF : Aside0 (∀ w' : World, w'.heap[w.heap.size]? = some (.cells (fv b) 32 (0, 0)) → w'.cell? ⟨w.heap.size, 257 + (mo n).toNat, none⟩ = some (.bool qm)) := ⟨fun w' h => by
    rw [hqM]
    have := fv_cell (w := w) (b := b) h 4 (mo n) (by decide) (by show (1 : Int) ≤ mo n; omega) (by show mo n ≤ (12 : Int); omega)
    rwa [show 64 * 4 + 1 + (mo n).toNat = 257 + (mo n).toNat by omega] at this⟩
  obtain ⟨qh, hqH⟩ : ∃ q, q = bitOf b.h (r / 3600) := ⟨_, rfl⟩
  have hHF : Aside0 (∀ w' : World, w'.heap[w.heap.size]? = some (.cells (fv b) 32 (0, 0)) → w'.cell? ⟨w.heap.size, 129 + (r / 3600).toNat, none⟩ = some (.bool qh)) := ⟨fun w' h => by
    rw [hqH]
    have := fv_cell (w := w) (b := b) h 2 (r / 3600) (by decide) (by show (0 : Int) ≤ r / 3600; omega) (by show r / 3600 ≤ (23 : Int); omega)
    rwa [show 64 * 2 + 1 + (r / 3600).toNat = 129 + (r / 3600).toNat by omega] at this⟩
  obtain ⟨qi, hqI⟩ : ∃ q, q = bitOf b.i (r % 3600 / 60) := ⟨_, rfl⟩
  have hIF : Aside0 (∀ w' : World, w'.heap[w.heap.size]? = some (.cells (fv b) 32 (0, 0)) → w'.cell? ⟨w.heap.size, 65 + (r % 3600 / 60).toNat, none⟩ = some (.bool qi)) := ⟨fun w' h => by
    rw [hqI]
    have := fv_cell (w := w) (b := b) h 1 (r % 3600 / 60) (by decide) (by show (0 : Int) ≤ r % 3600 / 60; omega) (by show r % 3600 / 60 ≤ (59 : Int); omega)
    rwa [show 64 * 1 + 1 + (r % 3600 / 60).toNat = 65 + (r % 3600 / 60).toNat by omega] at this⟩
  obtain ⟨qs, hqS⟩ : ∃ q, q = bitOf b.s (r % 60) := ⟨_, rfl⟩
  have hSF : Aside0 (∀ w' : World, w'.heap[w.heap.size]? = some (.cells (fv b) 32 (0, 0)) → w'.cell? ⟨w.heap.size, 1 + (r % 60).toNat, none⟩ = some (.bool qs)) := ⟨fun w' h => by
    rw [hqS]
    have := fv_cell (w := w) (b := b) h 0 (r % 60) (by decide) (by show (0 : Int) ≤ r % 60; omega) (by show r % 60 ≤ (59 : Int); omega)
    rwa [show 64 * 0 + 1 + (r % 60).toNat = 1 + (r % 60).toNat by omega] at this⟩
  obtain ⟨qd, hqd⟩ : ∃ q, q = dayOk b.d b.w n := ⟨_, rfl⟩
  have hDF : Aside0 (∀ w' : World, Calls Try.prog 38 #[.agg (fv b), .agg #[.int .i64 (yr n), .int .i64 (mo n), .int .i64 (dy n)], .int .i64 (wd n)] w' fun e w'' => e = .returned (.bool qd) ∧ Below w'.heap.size w' w'') := ⟨fun w' => by
    rw [hqd]
    exact dayFits_any b (yr n) (mo n) (dy n) (wd n) w' (by omega) (by omega) (by unfold wd; omega) (by unfold wd; omega)⟩
  unfold fitB
  rw [← hqM, ← hqH, ← hqI, ← hqS, ← hqd]
  clear hqM hqH hqI hqS hqd hdn hmd
  have i1 : 0 ≤ mo n := by omega
  have i2 : mo n < 63 := by omega
  have i3 : 0 ≤ r / 3600 := by omega
  have i4 : r / 3600 < 63 := by omega
  have i5 : 0 ≤ r % 3600 / 60 := by omega
  have i6 : r % 3600 / 60 < 63 := by omega
  have i7 : 0 ≤ r % 60 := by omega
  have i8 : r % 60 < 63 := by omega
  have k0 : ((w.alloc (.cells (fv b) 32)).alloc (.cells #[.int .i64 (yr n), .int .i64 (mo n), .int .i64 (dy n), .int .i64 (r / 3600), .int .i64 (r % 3600 / 60), .int .i64 (r % 60), .int .i64 nn, .int .i64 (wd n)] 46)).cell? ⟨w.heap.size + 1, 0, none⟩ = some (.int .i64 (yr n)) := (hI.out.cell 0 rfl 0).trans rfl
  have k1 : ((w.alloc (.cells (fv b) 32)).alloc (.cells #[.int .i64 (yr n), .int .i64 (mo n), .int .i64 (dy n), .int .i64 (r / 3600), .int .i64 (r % 3600 / 60), .int .i64 (r % 60), .int .i64 nn, .int .i64 (wd n)] 46)).cell? ⟨w.heap.size + 1, 1, none⟩ = some (.int .i64 (mo n)) := (hI.out.cell 0 rfl 1).trans rfl
  have k2 : ((w.alloc (.cells (fv b) 32)).alloc (.cells #[.int .i64 (yr n), .int .i64 (mo n), .int .i64 (dy n), .int .i64 (r / 3600), .int .i64 (r % 3600 / 60), .int .i64 (r % 60), .int .i64 nn, .int .i64 (wd n)] 46)).cell? ⟨w.heap.size + 1, 2, none⟩ = some (.int .i64 (dy n)) := (hI.out.cell 0 rfl 2).trans rfl
  have k7 : ((w.alloc (.cells (fv b) 32)).alloc (.cells #[.int .i64 (yr n), .int .i64 (mo n), .int .i64 (dy n), .int .i64 (r / 3600), .int .i64 (r % 3600 / 60), .int .i64 (r % 60), .int .i64 nn, .int .i64 (wd n)] 46)).cell? ⟨w.heap.size + 1, 7, none⟩ = some (.int .i64 (wd n)) := (hI.out.cell 0 rfl 7).trans rfl
  have kM := hMF.out _ (hI.out.get 1 rfl)
  go_enter Try.func17, Try.ntmps17
  cases qm
  · go_wp2_with fail
    go_ret
    exact ⟨by simp, hI.out.B⟩
  · cases qd
    · go_wp2_with (first | ((with_reducible refine wpList_isCons ?_); refine wpList_load_row_g 32 (.tmp 2) rfl rfl w.heap.size rfl 32 _ (0, 0) _ (hI.out.get 1 rfl) Try.underlying32 rfl size32v.out ?_) | (go_at_call 38; (with_reducible refine (hDF.out _).mono ?_); rintro e w2 ⟨rfl, hb⟩; have hI2 := Aside0.mk (hI.out.below hb); clear hI hb k0 k1 k2 k7 kM; have hI := hI2; clear hI2; have k3 : w2.cell? ⟨w.heap.size + 1, 3, none⟩ = some (.int .i64 (r / 3600)) := (hI.out.cell 0 rfl 3).trans rfl; have k4 : w2.cell? ⟨w.heap.size + 1, 4, none⟩ = some (.int .i64 (r % 3600 / 60)) := (hI.out.cell 0 rfl 4).trans rfl; have k5 : w2.cell? ⟨w.heap.size + 1, 5, none⟩ = some (.int .i64 (r % 60)) := (hI.out.cell 0 rfl 5).trans rfl; have kH := hHF.out w2 (hI.out.get 1 rfl); have kI := hIF.out w2 (hI.out.get 1 rfl); have kS := hSF.out w2 (hI.out.get 1 rfl)))
      go_ret
      exact ⟨by simp, hI.out.B⟩
    · cases qh
      · go_wp2_with (first | ((with_reducible refine wpList_isCons ?_); refine wpList_load_row_g 32 (.tmp 2) rfl rfl w.heap.size rfl 32 _ (0, 0) _ (hI.out.get 1 rfl) Try.underlying32 rfl size32v.out ?_) | (go_at_call 38; (with_reducible refine (hDF.out _).mono ?_); rintro e w2 ⟨rfl, hb⟩; have hI2 := Aside0.mk (hI.out.below hb); clear hI hb k0 k1 k2 k7 kM; have hI := hI2; clear hI2; have k3 : w2.cell? ⟨w.heap.size + 1, 3, none⟩ = some (.int .i64 (r / 3600)) := (hI.out.cell 0 rfl 3).trans rfl; have k4 : w2.cell? ⟨w.heap.size + 1, 4, none⟩ = some (.int .i64 (r % 3600 / 60)) := (hI.out.cell 0 rfl 4).trans rfl; have k5 : w2.cell? ⟨w.heap.size + 1, 5, none⟩ = some (.int .i64 (r % 60)) := (hI.out.cell 0 rfl 5).trans rfl; have kH := hHF.out w2 (hI.out.get 1 rfl); have kI := hIF.out w2 (hI.out.get 1 rfl); have kS := hSF.out w2 (hI.out.get 1 rfl)))
        go_ret
        exact ⟨by simp, hI.out.B⟩
      · cases qi
        · go_wp2_with (first | ((with_reducible refine wpList_isCons ?_); refine wpList_load_row_g 32 (.tmp 2) rfl rfl w.heap.size rfl 32 _ (0, 0) _ (hI.out.get 1 rfl) Try.underlying32 rfl size32v.out ?_) | (go_at_call 38; (with_reducible refine (hDF.out _).mono ?_); rintro e w2 ⟨rfl, hb⟩; have hI2 := Aside0.mk (hI.out.below hb); clear hI hb k0 k1 k2 k7 kM; have hI := hI2; clear hI2; have k3 : w2.cell? ⟨w.heap.size + 1, 3, none⟩ = some (.int .i64 (r / 3600)) := (hI.out.cell 0 rfl 3).trans rfl; have k4 : w2.cell? ⟨w.heap.size + 1, 4, none⟩ = some (.int .i64 (r % 3600 / 60)) := (hI.out.cell 0 rfl 4).trans rfl; have k5 : w2.cell? ⟨w.heap.size + 1, 5, none⟩ = some (.int .i64 (r % 60)) := (hI.out.cell 0 rfl 5).trans rfl; have kH := hHF.out w2 (hI.out.get 1 rfl); have kI := hIF.out w2 (hI.out.get 1 rfl); have kS := hSF.out w2 (hI.out.get 1 rfl)))
          go_ret
          exact ⟨by simp, hI.out.B⟩
        · cases qs
          · go_wp2_with (first | ((with_reducible refine wpList_isCons ?_); refine wpList_load_row_g 32 (.tmp 2) rfl rfl w.heap.size rfl 32 _ (0, 0) _ (hI.out.get 1 rfl) Try.underlying32 rfl size32v.out ?_) | (go_at_call 38; (with_reducible refine (hDF.out _).mono ?_); rintro e w2 ⟨rfl, hb⟩; have hI2 := Aside0.mk (hI.out.below hb); clear hI hb k0 k1 k2 k7 kM; have hI := hI2; clear hI2; have k3 : w2.cell? ⟨w.heap.size + 1, 3, none⟩ = some (.int .i64 (r / 3600)) := (hI.out.cell 0 rfl 3).trans rfl; have k4 : w2.cell? ⟨w.heap.size + 1, 4, none⟩ = some (.int .i64 (r % 3600 / 60)) := (hI.out.cell 0 rfl 4).trans rfl; have k5 : w2.cell? ⟨w.heap.size + 1, 5, none⟩ = some (.int .i64 (r % 60)) := (hI.out.cell 0 rfl 5).trans rfl; have kH := hHF.out w2 (hI.out.get 1 rfl); have kI := hIF.out w2 (hI.out.get 1 rfl); have kS := hSF.out w2 (hI.out.get 1 rfl)))
            go_ret
            exact ⟨by simp, hI.out.B⟩
          · go_wp2_with (first | ((with_reducible refine wpList_isCons ?_); refine wpList_load_row_g 32 (.tmp 2) rfl rfl w.heap.size rfl 32 _ (0, 0) _ (hI.out.get 1 rfl) Try.underlying32 rfl size32v.out ?_) | (go_at_call 38; (with_reducible refine (hDF.out _).mono ?_); rintro e w2 ⟨rfl, hb⟩; have hI2 := Aside0.mk (hI.out.below hb); clear hI hb k0 k1 k2 k7 kM; have hI := hI2; clear hI2; have k3 : w2.cell? ⟨w.heap.size + 1, 3, none⟩ = some (.int .i64 (r / 3600)) := (hI.out.cell 0 rfl 3).trans rfl; have k4 : w2.cell? ⟨w.heap.size + 1, 4, none⟩ = some (.int .i64 (r % 3600 / 60)) := (hI.out.cell 0 rfl 4).trans rfl; have k5 : w2.cell? ⟨w.heap.size + 1, 5, none⟩ = some (.int .i64 (r % 60)) := (hI.out.cell 0 rfl 5).trans rfl; have kH := hHF.out w2 (hI.out.get 1 rfl); have kI := hIF.out w2 (hI.out.get 1 rfl); have kS := hSF.out w2 (hI.out.get 1 rfl)))
            go_ret
            exact ⟨by simp, hI.out.B⟩
end Go.Proofs.Ytlgdaegaahnkbaa.Tm
