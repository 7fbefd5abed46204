/- FnCronNextMeet: with the values that two sets have in common the next activation is not ahead of that with either, the walk (printed by gen_lm.py). -/
import Derived.Test.YtlgdaegaahnkbaaNxP
namespace Go.Proofs.Ytlgdaegaahnkbaa.Tm
open Go Go.RowKit Cal MC
open Go.Proofs.YtlgdaegaahnkbaaW.PrintWords Go.Proofs.YtlgdaegaahnkbaaW.PrintLast Go.Proofs.YtlgdaegaahnkbaaW.PrintMore
set_option linter.unusedVariables false
set_option linter.unusedSimpArgs false
/-- A list that has a next operation (asked first: else Lean would unfold the walk). -/
theorem wpList_isCons {P : Program} {ops : Array Oper} {rest : List Oper} {o : Oper} {a : Act} {w : World} {Q : Exit → Act → World → Prop} (h : wpList P ops Q (o :: rest) a w) : wpList P ops Q (o :: rest) a w := h
/-- A guarded operation that loads a row. -/
theorem wpList_load_row_g {P : Program} {ops : Array Oper} {rest : List Oper} {o : Oper} {a : Act} {w : World} {Q : Exit → Act → World → Prop} (ty : TypeId) (x : Operand) (ho : o.op = .load ty x) (hgd : Region.wanted o (yielded ops a.tmps) = true)
    (g : Nat) (hx : a.eval x = .pointer (some ⟨g, 0, none⟩)) (t : TypeId) (cs : Array Value) (fr : Nat × Nat) (d : TypeDesc) (hg : w.heap[g]? = some (.cells cs t fr))
    (hu : P.underlying ty = some d) (hd : (match d with | .struct _ | .array _ _ => true | _ => false) = true) (hi : (P.info? ty).map (·.size) = some cs.size)
    (h : wpList P ops Q rest (a.put o.dst (.agg cs)) w) : wpList P ops Q (o :: rest) a w :=
  BigFrame.wpList_want hgd fun _ hK => wp_load_row ty x ho g hx t cs fr d hg hu hd hi (hK _ _ h)
set_option maxHeartbeats 8000000 in
set_option maxRecDepth 100000 in
theorem meet_bad (ev : Bool) (dl k x nn : Int) (b : SB) (one other : Nat) (w : World) (hc : laws_cronCase.f ev dl b.s b.i b.h b.d b.m b.w x nn = some false) :
    Calls Try.prog 5 #[.agg #[.bool ev, .int .i64 dl, .int .u64 (b.s : Int), .int .u64 (b.i : Int), .int .u64 (b.h : Int), .int .u64 (b.d : Int), .int .u64 (b.m : Int), .int .u64 (b.w : Int)], .int .i64 k, .int .u64 (one : Int), .int .u64 (other : Int), .agg #[.int .i64 x, .int .i64 nn]] w fun e w' => e = .returned (.bool true) ∧ Below w.heap.size w w' := by
  have HC := Aside0.mk hc
  have hI : Aside0 (Blk w [(w.heap.size + 1, #[.int .i64 x, .int .i64 nn], 26), (w.heap.size, #[.bool ev, .int .i64 dl, .int .u64 (b.s : Int), .int .u64 (b.i : Int), .int .u64 (b.h : Int), .int .u64 (b.d : Int), .int .u64 (b.m : Int), .int .u64 (b.w : Int)], 24)] ((w.alloc (.cells #[.bool ev, .int .i64 dl, .int .u64 (b.s : Int), .int .u64 (b.i : Int), .int .u64 (b.h : Int), .int .u64 (b.d : Int), .int .u64 (b.m : Int), .int .u64 (b.w : Int)] 24)).alloc (.cells #[.int .i64 x, .int .i64 nn] 26))) := ⟨by
    have := (((Blk.nil w).alloc #[.bool ev, .int .i64 dl, .int .u64 (b.s : Int), .int .u64 (b.i : Int), .int .u64 (b.h : Int), .int .u64 (b.d : Int), .int .u64 (b.m : Int), .int .u64 (b.w : Int)] 24).alloc #[.int .i64 x, .int .i64 nn] 26)
    simpa only [World.size_alloc] using this⟩
  clear hc
  go_enter Try.func5, Try.ntmps5
  go_wp2_with (go_at_call 11; (with_reducible refine (laws_cronCase.calls _ _ _ _ _ _ _ _ _ _ _ _ HC.out).mono ?_); rintro e wa1 ⟨rfl, hb⟩; have hI2 := Aside0.mk (hI.out.below hb); clear hI hb; have hI := hI2; clear hI2)
  go_ret
  exact ⟨rfl, hI.out.B⟩
set_option maxHeartbeats 8000000 in
set_option maxRecDepth 100000 in
theorem meet_kind (dl k x nn : Int) (b : SB) (one other : Nat) (w : World) (hc : laws_cronCase.f false dl b.s b.i b.h b.d b.m b.w x nn = some true) (hk : spec_CronIsKind.f k = some false) :
    Calls Try.prog 5 #[.agg #[.bool false, .int .i64 dl, .int .u64 (b.s : Int), .int .u64 (b.i : Int), .int .u64 (b.h : Int), .int .u64 (b.d : Int), .int .u64 (b.m : Int), .int .u64 (b.w : Int)], .int .i64 k, .int .u64 (one : Int), .int .u64 (other : Int), .agg #[.int .i64 x, .int .i64 nn]] w fun e w' => e = .returned (.bool true) ∧ Below w.heap.size w w' := by
  have HC := Aside0.mk hc
  have HK := Aside0.mk hk
  have hI : Aside0 (Blk w [(w.heap.size + 1, #[.int .i64 x, .int .i64 nn], 26), (w.heap.size, #[.bool false, .int .i64 dl, .int .u64 (b.s : Int), .int .u64 (b.i : Int), .int .u64 (b.h : Int), .int .u64 (b.d : Int), .int .u64 (b.m : Int), .int .u64 (b.w : Int)], 24)] ((w.alloc (.cells #[.bool false, .int .i64 dl, .int .u64 (b.s : Int), .int .u64 (b.i : Int), .int .u64 (b.h : Int), .int .u64 (b.d : Int), .int .u64 (b.m : Int), .int .u64 (b.w : Int)] 24)).alloc (.cells #[.int .i64 x, .int .i64 nn] 26))) := ⟨by
    have := (((Blk.nil w).alloc #[.bool false, .int .i64 dl, .int .u64 (b.s : Int), .int .u64 (b.i : Int), .int .u64 (b.h : Int), .int .u64 (b.d : Int), .int .u64 (b.m : Int), .int .u64 (b.w : Int)] 24).alloc #[.int .i64 x, .int .i64 nn] 26)
    simpa only [World.size_alloc] using this⟩
  clear hc hk
  go_enter Try.func5, Try.ntmps5
  go_wp2_with (first | (go_at_call 11; (with_reducible refine (laws_cronCase.calls _ _ _ _ _ _ _ _ _ _ _ _ HC.out).mono ?_); rintro e wa1 ⟨rfl, hb⟩; have hI2 := Aside0.mk (hI.out.below hb); clear hI hb; have hI := hI2; clear hI2) | (go_at_call 20; (with_reducible refine (spec_CronIsKind.calls _ _ _ HK.out).mono ?_); rintro e wa2 ⟨rfl, hd⟩; have hI2 := Aside0.mk (hI.out.below hd.below); clear hI hd; have hI := hI2; clear hI2))
  go_ret
  exact ⟨rfl, hI.out.B⟩
set_option maxHeartbeats 8000000 in
set_option maxRecDepth 100000 in
theorem meet_star (dl k x nn : Int) (b : SB) (one other : Nat) (w : World) (h1 : one < 18446744073709551616) (h2 : other < 18446744073709551616) (hs : starV one ≠ starV other) (hc : laws_cronCase.f false dl b.s b.i b.h b.d b.m b.w x nn = some true) (hk : spec_CronIsKind.f k = some true) :
    Calls Try.prog 5 #[.agg #[.bool false, .int .i64 dl, .int .u64 (b.s : Int), .int .u64 (b.i : Int), .int .u64 (b.h : Int), .int .u64 (b.d : Int), .int .u64 (b.m : Int), .int .u64 (b.w : Int)], .int .i64 k, .int .u64 (one : Int), .int .u64 (other : Int), .agg #[.int .i64 x, .int .i64 nn]] w fun e w' => e = .returned (.bool true) ∧ Below w.heap.size w w' := by
  have HC := Aside0.mk hc
  have HK := Aside0.mk hk
  have hI : Aside0 (Blk w [(w.heap.size + 1, #[.int .i64 x, .int .i64 nn], 26), (w.heap.size, #[.bool false, .int .i64 dl, .int .u64 (b.s : Int), .int .u64 (b.i : Int), .int .u64 (b.h : Int), .int .u64 (b.d : Int), .int .u64 (b.m : Int), .int .u64 (b.w : Int)], 24)] ((w.alloc (.cells #[.bool false, .int .i64 dl, .int .u64 (b.s : Int), .int .u64 (b.i : Int), .int .u64 (b.h : Int), .int .u64 (b.d : Int), .int .u64 (b.m : Int), .int .u64 (b.w : Int)] 24)).alloc (.cells #[.int .i64 x, .int .i64 nn] 26))) := ⟨by
    have := (((Blk.nil w).alloc #[.bool false, .int .i64 dl, .int .u64 (b.s : Int), .int .u64 (b.i : Int), .int .u64 (b.h : Int), .int .u64 (b.d : Int), .int .u64 (b.m : Int), .int .u64 (b.w : Int)] 24).alloc #[.int .i64 x, .int .i64 nn] 26)
    simpa only [World.size_alloc] using this⟩
  have s1 := star_bits one h1
  have s2 := star_bits other h2
  have s3 : (starV one != starV other) = true := by simpa using hs
  clear hc hk hs h1 h2
  go_enter Try.func5, Try.ntmps5
  go_wp2_with (first | (go_at_call 11; (with_reducible refine (laws_cronCase.calls _ _ _ _ _ _ _ _ _ _ _ _ HC.out).mono ?_); rintro e wa1 ⟨rfl, hb⟩; have hI2 := Aside0.mk (hI.out.below hb); clear hI hb; have hI := hI2; clear hI2) | (go_at_call 20; (with_reducible refine (spec_CronIsKind.calls _ _ _ HK.out).mono ?_); rintro e wa2 ⟨rfl, hd⟩; have hI2 := Aside0.mk (hI.out.below hd.below); clear hI hd; have hI := hI2; clear hI2))
  go_ret
  exact ⟨rfl, hI.out.B⟩
set_option maxHeartbeats 8000000 in
set_option maxRecDepth 100000 in
theorem meet_main (dl x nn : Int) (kk : Nat) (b : SB) (one other : Nat) (w : World) (h1 : one < 18446744073709551616) (h2 : other < 18446744073709551616) (hs : starV one = starV other) (hkk : kk < 6) (hw : Wf b) (x0 : -62135596800 ≤ x) (x1 : x ≤ 253402300799) (n0 : 0 ≤ nn) (n1 : nn < 1000000000) (hc : laws_cronCase.f false dl b.s b.i b.h b.d b.m b.w x nn = some true) (hk : spec_CronIsKind.f (kk : Int) = some true) :
    Calls Try.prog 5 #[.agg #[.bool false, .int .i64 dl, .int .u64 (b.s : Int), .int .u64 (b.i : Int), .int .u64 (b.h : Int), .int .u64 (b.d : Int), .int .u64 (b.m : Int), .int .u64 (b.w : Int)], .int .i64 (kk : Int), .int .u64 (one : Int), .int .u64 (other : Int), .agg #[.int .i64 x, .int .i64 nn]] w fun e w' => e = .returned (.bool true) ∧ Below w.heap.size w w' := by
  have HC := Aside0.mk hc
  have HK := Aside0.mk hk
  have hI : Aside0 (Blk w [(w.heap.size + 1, #[.int .i64 x, .int .i64 nn], 26), (w.heap.size, #[.bool false, .int .i64 dl, .int .u64 (b.s : Int), .int .u64 (b.i : Int), .int .u64 (b.h : Int), .int .u64 (b.d : Int), .int .u64 (b.m : Int), .int .u64 (b.w : Int)], 24)] ((w.alloc (.cells #[.bool false, .int .i64 dl, .int .u64 (b.s : Int), .int .u64 (b.i : Int), .int .u64 (b.h : Int), .int .u64 (b.d : Int), .int .u64 (b.m : Int), .int .u64 (b.w : Int)] 24)).alloc (.cells #[.int .i64 x, .int .i64 nn] 26))) := ⟨by
    have := (((Blk.nil w).alloc #[.bool false, .int .i64 dl, .int .u64 (b.s : Int), .int .u64 (b.i : Int), .int .u64 (b.h : Int), .int .u64 (b.d : Int), .int .u64 (b.m : Int), .int .u64 (b.w : Int)] 24).alloc #[.int .i64 x, .int .i64 nn] 26)
    simpa only [World.size_alloc] using this⟩
  have s1 := star_bits one h1
  rw [hs] at s1
  have s2 := star_bits other h2
  have H1 := Aside0.mk h1
  have H2 := Aside0.mk h2
  have H3 := Aside0.mk (and_lt one other h1)
  have HS := Aside0.mk ((starV_eq one other).1 hs)
  have HKK := Aside0.mk hkk
  have HW := Aside0.mk hw
  have HX := Aside0.mk (And.intro x0 (And.intro x1 (And.intro n0 n1)))
  have hor := bits_and_u64_nat one other h1 h2
  clear hc hk hs h1 h2 hkk hw x0 x1 n0 n1
  go_enter Try.func5, Try.ntmps5
  go_wp2_with (first | (go_at_call 11; (with_reducible refine (laws_cronCase.calls _ _ _ _ _ _ _ _ _ _ _ _ HC.out).mono ?_); rintro e wa1 ⟨rfl, hb⟩; have hI2 := Aside0.mk (hI.out.below hb); clear hI hb; have hI := hI2; clear hI2) | (go_at_call 20; (with_reducible refine (spec_CronIsKind.calls _ _ _ HK.out).mono ?_); rintro e wa2 ⟨rfl, hd⟩; have hI2 := Aside0.mk (hI.out.below hd.below); clear hI hd; have hI := hI2; clear hI2))
  clear s1 s2
  refine region_split (fun g => [(34, .agg #[.bool false, .int .i64 dl, .int .u64 (b.s : Int), .int .u64 (b.i : Int), .int .u64 (b.h : Int), .int .u64 (b.d : Int), .int .u64 (b.m : Int), .int .u64 (b.w : Int)]), (35, .int .i64 (kk : Int)), (36, .int .u64 (one : Int)), (37, .agg #[.bool false, .int .i64 dl, .int .u64 ((b.put kk one).s : Int), .int .u64 ((b.put kk one).i : Int), .int .u64 ((b.put kk one).h : Int), .int .u64 ((b.put kk one).d : Int), .int .u64 ((b.put kk one).m : Int), .int .u64 ((b.put kk one).w : Int)]), (38, .agg #[.int .i64 x, .int .i64 nn]), (39, .agg #[.slice none 0 0, .slice none 0 0, .slice none 0 0, .slice none 0 0]), (40, .tuple #[.agg #[.int .i64 (nS (b.put kk one) x), .int .i64 0], .bool (nF (b.put kk one) x)]), (33, .tuple #[.agg #[.int .i64 (nS (b.put kk one) x), .int .i64 0], .bool (nF (b.put kk one) x)]), (41, .agg #[.int .i64 (nS (b.put kk one) x), .int .i64 0]), (42, .bool (nF (b.put kk one) x)), (11, .pointer (some ⟨g, 0, none⟩)), (12, .bool (nF (b.put kk one) x))]) (fun g w' => Blk w ((g, #[.int .i64 (nS (b.put kk one) x), .int .i64 0], 26) :: [(w.heap.size + 1, #[.int .i64 x, .int .i64 nn], 26), (w.heap.size, #[.bool false, .int .i64 dl, .int .u64 (b.s : Int), .int .u64 (b.i : Int), .int .u64 (b.h : Int), .int .u64 (b.d : Int), .int .u64 (b.m : Int), .int .u64 (b.w : Int)], 24)]) w') ?_ ?_
  · refine start_ (n := 13) (S := Blk w [(w.heap.size + 1, #[.int .i64 x, .int .i64 nn], 26), (w.heap.size, #[.bool false, .int .i64 dl, .int .u64 (b.s : Int), .int .u64 (b.i : Int), .int .u64 (b.h : Int), .int .u64 (b.d : Int), .int .u64 (b.m : Int), .int .u64 (b.w : Int)], 24)]) (ds := []) #[false, false, false, false, false, false, false, false, false, false, false, false, false] (by kernel_rfl) rfl rfl (hI.out.drew) (fun hHeld => ?_)
    have hI2 := Aside0.mk hI.out.drew
    clear hI
    have hI := hI2
    clear hI2
    generalize hwd : World.drew _ = wd at hI hHeld ⊢
    clear hwd
    refine take_ (i := 0) (N := (some 34)) (v := ?_) (a' := ?_) #[true, false, false, false, false, false, false, false, false, false, false, false, false] rfl rfl (by kernel_rfl) (fun _ _ _ => only_shut) (Or.inl ⟨by rfl, ?_⟩) hHeld ?_ ?_
    rotate_left
    · intro w' hS
      refine exec_load_row 24 (.tmp 5) ?_ (w.heap.size) ?_ 24 _ _ (hS.get 1 rfl) Try.underlying24 rfl size24
      · rfl
      · rfl
    rotate_left
    · simp only [Act.put, List.setIfInBounds_toArray, List.set_cons_zero, List.set_cons_succ, i64_w, i32_w]
      rfl
    refine pure_ (i := 1) (N := (some 35)) (v := ?_) (a' := ?_) #[true, true, false, false, false, false, false, false, false, false, false, false, false] rfl rfl (by kernel_rfl) (fun _ _ _ => only_shut) (Or.inl ⟨by rfl, ?_⟩) ?_ ?_
    rotate_left
    · intro w'
      go_simp
      with_reducible rfl
    rotate_left
    · simp only [Act.put, List.setIfInBounds_toArray, List.set_cons_zero, List.set_cons_succ, i64_w, i32_w]
      rfl
    refine pure_ (i := 2) (N := (some 36)) (v := ?_) (a' := ?_) #[true, true, true, false, false, false, false, false, false, false, false, false, false] rfl rfl (by kernel_rfl) (fun _ _ _ => only_shut) (Or.inl ⟨by rfl, ?_⟩) ?_ ?_
    rotate_left
    · intro w'
      go_simp
      with_reducible rfl
    rotate_left
    · simp only [Act.put, List.setIfInBounds_toArray, List.set_cons_zero, List.set_cons_succ, i64_w, i32_w]
      rfl
    refine take_ (i := 4) (N := (some 38)) (v := ?_) (a' := ?_) #[true, true, true, false, true, false, false, false, false, false, false, false, false] rfl rfl (by kernel_rfl) (fun _ _ _ => only_shut) (Or.inl ⟨by rfl, ?_⟩) hHeld ?_ ?_
    rotate_left
    · intro w' hS
      refine exec_load_row 26 (.tmp 9) ?_ (w.heap.size + 1) ?_ 26 _ _ (hS.get 0 rfl) Try.underlying26 rfl size26
      · rfl
      · rfl
    rotate_left
    · simp only [Act.put, List.setIfInBounds_toArray, List.set_cons_zero, List.set_cons_succ, i64_w, i32_w]
      rfl
    refine two_ (i := 3) (j := 10) (Ni := (some 37)) (Nj := (some 11)) #[true, true, true, true, true, false, false, false, false, false, false, false, false] #[true, true, true, false, true, false, false, false, false, false, true, false, false] rfl rfl rfl rfl (by kernel_rfl) (by decide) (by decide) (fun K hK => ?_) (fun K hK => ?_)
    · refine goes_ Try.func21 (by kernel_rfl) rfl #[.agg #[.bool false, .int .i64 dl, .int .u64 (b.s : Int), .int .u64 (b.i : Int), .int .u64 (b.h : Int), .int .u64 (b.d : Int), .int .u64 (b.m : Int), .int .u64 (b.w : Int)], .int .i64 (kk : Int), .int .u64 ((one : Nat) : Int)] (by rfl) rfl rfl (by (try simp only [List.map_toArray, List.map_cons, List.map_nil]); first | done | rfl) ?_
      refine (with_any b dl (one) _ kk HKK.out).mono ?_
      rintro e wc3 ⟨rfl, hb⟩
      refine ⟨_, rfl, ?_⟩
      have hI2 := Aside0.mk (hI.out.below hb)
      clear hI hb
      have hI := hI2
      clear hI2
      refine hK.out _ _ (hI.out) (fun hHeld => ?_)
      clear hK K
      refine norm_ (a' := ?_) ?_ ?_
      rotate_left
      · show Act.put _ (some 37) _ = _
        simp only [Act.put, List.setIfInBounds_toArray, List.set_cons_zero, List.set_cons_succ, i64_w, i32_w]
        rfl
      refine two_ (i := 5) (j := 10) (Ni := (some 39)) (Nj := (some 11)) #[true, true, true, true, true, true, false, false, false, false, false, false, false] #[true, true, true, true, true, false, false, false, false, false, true, false, false] rfl rfl rfl rfl (by kernel_rfl) (by decide) (by decide) (fun K hK => ?_) (fun K hK => ?_)
      · refine goes_ Try.func14 (by kernel_rfl) rfl #[] (by rfl) rfl rfl (by (try simp only [List.map_toArray, List.map_cons, List.map_nil]); first | done | rfl) ?_
        refine (utcZone_any _).mono ?_
        rintro e wc5 ⟨rfl, hb⟩
        refine ⟨_, rfl, ?_⟩
        have hI2 := Aside0.mk (hI.out.below hb)
        clear hI hb
        have hI := hI2
        clear hI2
        refine hK.out _ _ (hI.out) (fun hHeld => ?_)
        clear hK K
        refine norm_ (a' := ?_) ?_ ?_
        rotate_left
        · show Act.put _ (some 39) _ = _
          simp only [Act.put, List.setIfInBounds_toArray, List.set_cons_zero, List.set_cons_succ, i64_w, i32_w]
          rfl
        refine two_ (i := 6) (j := 10) (Ni := (some 40)) (Nj := (some 11)) #[true, true, true, true, true, true, true, false, false, false, false, false, false] #[true, true, true, true, true, true, false, false, false, false, true, false, false] rfl rfl rfl rfl (by kernel_rfl) (by decide) (by decide) (fun K hK => ?_) (fun K hK => ?_)
        · refine goes_ Try.func13 (by kernel_rfl) rfl #[.agg #[.bool false, .int .i64 dl, .int .u64 ((b.put kk one).s : Int), .int .u64 ((b.put kk one).i : Int), .int .u64 ((b.put kk one).h : Int), .int .u64 ((b.put kk one).d : Int), .int .u64 ((b.put kk one).m : Int), .int .u64 ((b.put kk one).w : Int)], .agg #[.int .i64 x, .int .i64 nn], .agg #[.slice none 0 0, .slice none 0 0, .slice none 0 0, .slice none 0 0]] (by rfl) rfl rfl (by (try simp only [List.map_toArray, List.map_cons, List.map_nil]); first | done | rfl) ?_
          refine (implNext_nx (b.put kk one) dl x nn _ (HW.out.put kk _ H1.out) HX.out.2.2.1 HX.out.2.2.2 HX.out.1 HX.out.2.1).mono ?_
          rintro e wc6 ⟨rfl, hb⟩
          refine ⟨_, rfl, ?_⟩
          have hI2 := Aside0.mk (hI.out.below hb)
          clear hI hb
          have hI := hI2
          clear hI2
          refine hK.out _ _ (hI.out) (fun hHeld => ?_)
          clear hK K
          refine norm_ (a' := ?_) ?_ ?_
          rotate_left
          · show Act.put _ (some 40) _ = _
            simp only [Act.put, List.setIfInBounds_toArray, List.set_cons_zero, List.set_cons_succ, i64_w, i32_w]
            rfl
          refine pure_ (i := 7) (N := (some 33)) (v := ?_) (a' := ?_) #[true, true, true, true, true, true, true, true, false, false, false, false, false] rfl rfl (by kernel_rfl) (fun _ _ _ => only_shut) (Or.inl ⟨by rfl, ?_⟩) ?_ ?_
          rotate_left
          · intro w'
            go_simp
            with_reducible rfl
          rotate_left
          · simp only [Act.put, List.setIfInBounds_toArray, List.set_cons_zero, List.set_cons_succ, i64_w, i32_w]
            rfl
          refine pure_ (i := 8) (N := (some 41)) (v := ?_) (a' := ?_) #[true, true, true, true, true, true, true, true, true, false, false, false, false] rfl rfl (by kernel_rfl) (fun _ _ _ => only_shut) (Or.inl ⟨by rfl, ?_⟩) ?_ ?_
          rotate_left
          · intro w'
            go_simp
            with_reducible rfl
          rotate_left
          · simp only [Act.put, List.setIfInBounds_toArray, List.set_cons_zero, List.set_cons_succ, i64_w, i32_w]
            rfl
          refine pure_ (i := 9) (N := (some 42)) (v := ?_) (a' := ?_) #[true, true, true, true, true, true, true, true, true, true, false, false, false] rfl rfl (by kernel_rfl) (fun _ _ _ => only_shut) (Or.inl ⟨by rfl, ?_⟩) ?_ ?_
          rotate_left
          · intro w'
            go_simp
            with_reducible rfl
          rotate_left
          · simp only [Act.put, List.setIfInBounds_toArray, List.set_cons_zero, List.set_cons_succ, i64_w, i32_w]
            rfl
          refine one_ (i := 10) (N := (some 11)) #[true, true, true, true, true, true, true, true, true, true, true, false, false] rfl rfl (by kernel_rfl) (by decide) (fun K hK => ?_)
          refine value_ (by rfl) rfl (alloc26 _ _ rfl _) ?_
          have hA := Aside0.mk (hI.out.alloc #[.int .i64 0, .int .i64 0] 26)
          clear hI
          generalize hga : World.alloc _ _ = wa at hA ⊢
          clear hga
          generalize hgb : wc6.heap.size = g at hA ⊢
          clear hgb
          refine hK.out _ _ (hA.out.tail) (fun hHeld => ?_)
          clear hK K
          refine norm_ (a' := ?_) ?_ ?_
          rotate_left
          · show Act.put _ (some 11) _ = _
            simp only [Act.put, List.setIfInBounds_toArray, List.set_cons_zero, List.set_cons_succ, i64_w, i32_w]
            rfl
          refine one_ (i := 11) (N := none) #[true, true, true, true, true, true, true, true, true, true, true, true, false] rfl rfl (by kernel_rfl) (by decide) (fun K hK => ?_)
          refine skip_ (by rfl) rfl (exec_store_row 26 (.tmp 11) (.tmp 41) rfl g #[.int .i64 (nS (b.put kk one) x), .int .i64 0] rfl rfl 26 _ (hA.out.get 0 rfl) size26 (sz2 _ _ _ _) (one2 _ _)) ?_
          have hA2 := Aside0.mk (hA.out.row #[.int .i64 (nS (b.put kk one) x), .int .i64 0])
          clear hA
          have hA := hA2
          clear hA2
          generalize hgs : World.setRow _ _ _ = ws at hA ⊢
          clear hgs
          refine hK.out _ _ (hA.out.tail) (fun hHeld => ?_)
          clear hK K
          refine pure_ (i := 12) (N := (some 12)) (v := ?_) (a' := ?_) #[true, true, true, true, true, true, true, true, true, true, true, true, true] rfl rfl (by kernel_rfl) (fun _ _ _ => only_shut) (Or.inl ⟨by rfl, ?_⟩) ?_ ?_
          rotate_left
          · intro w'
            go_simp
            with_reducible rfl
          rotate_left
          · simp only [Act.put, List.setIfInBounds_toArray, List.set_cons_zero, List.set_cons_succ, i64_w, i32_w]
            rfl
          refine done_ (by kernel_rfl) ?_
          refine ⟨rfl, g, ?_, hA.out⟩
          simp only [putAll, Act.put, List.setIfInBounds_toArray, List.set_cons_zero, List.set_cons_succ]
        · refine value_ (by rfl) rfl (alloc26 _ _ rfl _) ?_
          have hA := Aside0.mk (hI.out.alloc #[.int .i64 0, .int .i64 0] 26)
          clear hI
          generalize hga : World.alloc _ _ = wa at hA ⊢
          clear hga
          generalize hgb : wc5.heap.size = g at hA ⊢
          clear hgb
          refine hK.out _ _ (hA.out.tail) (fun hHeld => ?_)
          clear hK K
          refine norm_ (a' := ?_) ?_ ?_
          rotate_left
          · show Act.put _ (some 11) _ = _
            simp only [Act.put, List.setIfInBounds_toArray, List.set_cons_zero, List.set_cons_succ, i64_w, i32_w]
            rfl
          refine one_ (i := 6) (N := (some 40)) #[true, true, true, true, true, true, true, false, false, false, true, false, false] rfl rfl (by kernel_rfl) (by decide) (fun K hK => ?_)
          refine goes_ Try.func13 (by kernel_rfl) rfl #[.agg #[.bool false, .int .i64 dl, .int .u64 ((b.put kk one).s : Int), .int .u64 ((b.put kk one).i : Int), .int .u64 ((b.put kk one).h : Int), .int .u64 ((b.put kk one).d : Int), .int .u64 ((b.put kk one).m : Int), .int .u64 ((b.put kk one).w : Int)], .agg #[.int .i64 x, .int .i64 nn], .agg #[.slice none 0 0, .slice none 0 0, .slice none 0 0, .slice none 0 0]] (by rfl) rfl rfl (by (try simp only [List.map_toArray, List.map_cons, List.map_nil]); first | done | rfl) ?_
          refine (implNext_nx (b.put kk one) dl x nn _ (HW.out.put kk _ H1.out) HX.out.2.2.1 HX.out.2.2.2 HX.out.1 HX.out.2.1).mono ?_
          rintro e wc6 ⟨rfl, hb⟩
          refine ⟨_, rfl, ?_⟩
          have hA2 := Aside0.mk (hA.out.below hb)
          clear hA hb
          have hA := hA2
          clear hA2
          refine hK.out _ _ (hA.out.tail) (fun hHeld => ?_)
          clear hK K
          refine norm_ (a' := ?_) ?_ ?_
          rotate_left
          · show Act.put _ (some 40) _ = _
            simp only [Act.put, List.setIfInBounds_toArray, List.set_cons_zero, List.set_cons_succ, i64_w, i32_w]
            rfl
          refine pure_ (i := 7) (N := (some 33)) (v := ?_) (a' := ?_) #[true, true, true, true, true, true, true, true, false, false, true, false, false] rfl rfl (by kernel_rfl) (fun _ _ _ => only_shut) (Or.inl ⟨by rfl, ?_⟩) ?_ ?_
          rotate_left
          · intro w'
            go_simp
            with_reducible rfl
          rotate_left
          · simp only [Act.put, List.setIfInBounds_toArray, List.set_cons_zero, List.set_cons_succ, i64_w, i32_w]
            rfl
          refine pure_ (i := 8) (N := (some 41)) (v := ?_) (a' := ?_) #[true, true, true, true, true, true, true, true, true, false, true, false, false] rfl rfl (by kernel_rfl) (fun _ _ _ => only_shut) (Or.inl ⟨by rfl, ?_⟩) ?_ ?_
          rotate_left
          · intro w'
            go_simp
            with_reducible rfl
          rotate_left
          · simp only [Act.put, List.setIfInBounds_toArray, List.set_cons_zero, List.set_cons_succ, i64_w, i32_w]
            rfl
          refine pure_ (i := 9) (N := (some 42)) (v := ?_) (a' := ?_) #[true, true, true, true, true, true, true, true, true, true, true, false, false] rfl rfl (by kernel_rfl) (fun _ _ _ => only_shut) (Or.inl ⟨by rfl, ?_⟩) ?_ ?_
          rotate_left
          · intro w'
            go_simp
            with_reducible rfl
          rotate_left
          · simp only [Act.put, List.setIfInBounds_toArray, List.set_cons_zero, List.set_cons_succ, i64_w, i32_w]
            rfl
          refine one_ (i := 11) (N := none) #[true, true, true, true, true, true, true, true, true, true, true, true, false] rfl rfl (by kernel_rfl) (by decide) (fun K hK => ?_)
          refine skip_ (by rfl) rfl (exec_store_row 26 (.tmp 11) (.tmp 41) rfl g #[.int .i64 (nS (b.put kk one) x), .int .i64 0] rfl rfl 26 _ (hA.out.get 0 rfl) size26 (sz2 _ _ _ _) (one2 _ _)) ?_
          have hA2 := Aside0.mk (hA.out.row #[.int .i64 (nS (b.put kk one) x), .int .i64 0])
          clear hA
          have hA := hA2
          clear hA2
          generalize hgs : World.setRow _ _ _ = ws at hA ⊢
          clear hgs
          refine hK.out _ _ (hA.out.tail) (fun hHeld => ?_)
          clear hK K
          refine pure_ (i := 12) (N := (some 12)) (v := ?_) (a' := ?_) #[true, true, true, true, true, true, true, true, true, true, true, true, true] rfl rfl (by kernel_rfl) (fun _ _ _ => only_shut) (Or.inl ⟨by rfl, ?_⟩) ?_ ?_
          rotate_left
          · intro w'
            go_simp
            with_reducible rfl
          rotate_left
          · simp only [Act.put, List.setIfInBounds_toArray, List.set_cons_zero, List.set_cons_succ, i64_w, i32_w]
            rfl
          refine done_ (by kernel_rfl) ?_
          refine ⟨rfl, g, ?_, hA.out⟩
          simp only [putAll, Act.put, List.setIfInBounds_toArray, List.set_cons_zero, List.set_cons_succ]
      · refine value_ (by rfl) rfl (alloc26 _ _ rfl _) ?_
        have hA := Aside0.mk (hI.out.alloc #[.int .i64 0, .int .i64 0] 26)
        clear hI
        generalize hga : World.alloc _ _ = wa at hA ⊢
        clear hga
        generalize hgb : wc3.heap.size = g at hA ⊢
        clear hgb
        refine hK.out _ _ (hA.out.tail) (fun hHeld => ?_)
        clear hK K
        refine norm_ (a' := ?_) ?_ ?_
        rotate_left
        · show Act.put _ (some 11) _ = _
          simp only [Act.put, List.setIfInBounds_toArray, List.set_cons_zero, List.set_cons_succ, i64_w, i32_w]
          rfl
        refine one_ (i := 5) (N := (some 39)) #[true, true, true, true, true, true, false, false, false, false, true, false, false] rfl rfl (by kernel_rfl) (by decide) (fun K hK => ?_)
        refine goes_ Try.func14 (by kernel_rfl) rfl #[] (by rfl) rfl rfl (by (try simp only [List.map_toArray, List.map_cons, List.map_nil]); first | done | rfl) ?_
        refine (utcZone_any _).mono ?_
        rintro e wc5 ⟨rfl, hb⟩
        refine ⟨_, rfl, ?_⟩
        have hA2 := Aside0.mk (hA.out.below hb)
        clear hA hb
        have hA := hA2
        clear hA2
        refine hK.out _ _ (hA.out.tail) (fun hHeld => ?_)
        clear hK K
        refine norm_ (a' := ?_) ?_ ?_
        rotate_left
        · show Act.put _ (some 39) _ = _
          simp only [Act.put, List.setIfInBounds_toArray, List.set_cons_zero, List.set_cons_succ, i64_w, i32_w]
          rfl
        refine one_ (i := 6) (N := (some 40)) #[true, true, true, true, true, true, true, false, false, false, true, false, false] rfl rfl (by kernel_rfl) (by decide) (fun K hK => ?_)
        refine goes_ Try.func13 (by kernel_rfl) rfl #[.agg #[.bool false, .int .i64 dl, .int .u64 ((b.put kk one).s : Int), .int .u64 ((b.put kk one).i : Int), .int .u64 ((b.put kk one).h : Int), .int .u64 ((b.put kk one).d : Int), .int .u64 ((b.put kk one).m : Int), .int .u64 ((b.put kk one).w : Int)], .agg #[.int .i64 x, .int .i64 nn], .agg #[.slice none 0 0, .slice none 0 0, .slice none 0 0, .slice none 0 0]] (by rfl) rfl rfl (by (try simp only [List.map_toArray, List.map_cons, List.map_nil]); first | done | rfl) ?_
        refine (implNext_nx (b.put kk one) dl x nn _ (HW.out.put kk _ H1.out) HX.out.2.2.1 HX.out.2.2.2 HX.out.1 HX.out.2.1).mono ?_
        rintro e wc6 ⟨rfl, hb⟩
        refine ⟨_, rfl, ?_⟩
        have hA2 := Aside0.mk (hA.out.below hb)
        clear hA hb
        have hA := hA2
        clear hA2
        refine hK.out _ _ (hA.out.tail) (fun hHeld => ?_)
        clear hK K
        refine norm_ (a' := ?_) ?_ ?_
        rotate_left
        · show Act.put _ (some 40) _ = _
          simp only [Act.put, List.setIfInBounds_toArray, List.set_cons_zero, List.set_cons_succ, i64_w, i32_w]
          rfl
        refine pure_ (i := 7) (N := (some 33)) (v := ?_) (a' := ?_) #[true, true, true, true, true, true, true, true, false, false, true, false, false] rfl rfl (by kernel_rfl) (fun _ _ _ => only_shut) (Or.inl ⟨by rfl, ?_⟩) ?_ ?_
        rotate_left
        · intro w'
          go_simp
          with_reducible rfl
        rotate_left
        · simp only [Act.put, List.setIfInBounds_toArray, List.set_cons_zero, List.set_cons_succ, i64_w, i32_w]
          rfl
        refine pure_ (i := 8) (N := (some 41)) (v := ?_) (a' := ?_) #[true, true, true, true, true, true, true, true, true, false, true, false, false] rfl rfl (by kernel_rfl) (fun _ _ _ => only_shut) (Or.inl ⟨by rfl, ?_⟩) ?_ ?_
        rotate_left
        · intro w'
          go_simp
          with_reducible rfl
        rotate_left
        · simp only [Act.put, List.setIfInBounds_toArray, List.set_cons_zero, List.set_cons_succ, i64_w, i32_w]
          rfl
        refine pure_ (i := 9) (N := (some 42)) (v := ?_) (a' := ?_) #[true, true, true, true, true, true, true, true, true, true, true, false, false] rfl rfl (by kernel_rfl) (fun _ _ _ => only_shut) (Or.inl ⟨by rfl, ?_⟩) ?_ ?_
        rotate_left
        · intro w'
          go_simp
          with_reducible rfl
        rotate_left
        · simp only [Act.put, List.setIfInBounds_toArray, List.set_cons_zero, List.set_cons_succ, i64_w, i32_w]
          rfl
        refine one_ (i := 11) (N := none) #[true, true, true, true, true, true, true, true, true, true, true, true, false] rfl rfl (by kernel_rfl) (by decide) (fun K hK => ?_)
        refine skip_ (by rfl) rfl (exec_store_row 26 (.tmp 11) (.tmp 41) rfl g #[.int .i64 (nS (b.put kk one) x), .int .i64 0] rfl rfl 26 _ (hA.out.get 0 rfl) size26 (sz2 _ _ _ _) (one2 _ _)) ?_
        have hA2 := Aside0.mk (hA.out.row #[.int .i64 (nS (b.put kk one) x), .int .i64 0])
        clear hA
        have hA := hA2
        clear hA2
        generalize hgs : World.setRow _ _ _ = ws at hA ⊢
        clear hgs
        refine hK.out _ _ (hA.out.tail) (fun hHeld => ?_)
        clear hK K
        refine pure_ (i := 12) (N := (some 12)) (v := ?_) (a' := ?_) #[true, true, true, true, true, true, true, true, true, true, true, true, true] rfl rfl (by kernel_rfl) (fun _ _ _ => only_shut) (Or.inl ⟨by rfl, ?_⟩) ?_ ?_
        rotate_left
        · intro w'
          go_simp
          with_reducible rfl
        rotate_left
        · simp only [Act.put, List.setIfInBounds_toArray, List.set_cons_zero, List.set_cons_succ, i64_w, i32_w]
          rfl
        refine done_ (by kernel_rfl) ?_
        refine ⟨rfl, g, ?_, hA.out⟩
        simp only [putAll, Act.put, List.setIfInBounds_toArray, List.set_cons_zero, List.set_cons_succ]
    · refine value_ (by rfl) rfl (alloc26 _ _ rfl _) ?_
      have hA := Aside0.mk (hI.out.alloc #[.int .i64 0, .int .i64 0] 26)
      clear hI
      generalize hga : World.alloc _ _ = wa at hA ⊢
      clear hga
      generalize hgb : wd.heap.size = g at hA ⊢
      clear hgb
      refine hK.out _ _ (hA.out.tail) (fun hHeld => ?_)
      clear hK K
      refine norm_ (a' := ?_) ?_ ?_
      rotate_left
      · show Act.put _ (some 11) _ = _
        simp only [Act.put, List.setIfInBounds_toArray, List.set_cons_zero, List.set_cons_succ, i64_w, i32_w]
        rfl
      refine one_ (i := 3) (N := (some 37)) #[true, true, true, true, true, false, false, false, false, false, true, false, false] rfl rfl (by kernel_rfl) (by decide) (fun K hK => ?_)
      refine goes_ Try.func21 (by kernel_rfl) rfl #[.agg #[.bool false, .int .i64 dl, .int .u64 (b.s : Int), .int .u64 (b.i : Int), .int .u64 (b.h : Int), .int .u64 (b.d : Int), .int .u64 (b.m : Int), .int .u64 (b.w : Int)], .int .i64 (kk : Int), .int .u64 ((one : Nat) : Int)] (by rfl) rfl rfl (by (try simp only [List.map_toArray, List.map_cons, List.map_nil]); first | done | rfl) ?_
      refine (with_any b dl (one) _ kk HKK.out).mono ?_
      rintro e wc3 ⟨rfl, hb⟩
      refine ⟨_, rfl, ?_⟩
      have hA2 := Aside0.mk (hA.out.below hb)
      clear hA hb
      have hA := hA2
      clear hA2
      refine hK.out _ _ (hA.out.tail) (fun hHeld => ?_)
      clear hK K
      refine norm_ (a' := ?_) ?_ ?_
      rotate_left
      · show Act.put _ (some 37) _ = _
        simp only [Act.put, List.setIfInBounds_toArray, List.set_cons_zero, List.set_cons_succ, i64_w, i32_w]
        rfl
      refine one_ (i := 5) (N := (some 39)) #[true, true, true, true, true, true, false, false, false, false, true, false, false] rfl rfl (by kernel_rfl) (by decide) (fun K hK => ?_)
      refine goes_ Try.func14 (by kernel_rfl) rfl #[] (by rfl) rfl rfl (by (try simp only [List.map_toArray, List.map_cons, List.map_nil]); first | done | rfl) ?_
      refine (utcZone_any _).mono ?_
      rintro e wc5 ⟨rfl, hb⟩
      refine ⟨_, rfl, ?_⟩
      have hA2 := Aside0.mk (hA.out.below hb)
      clear hA hb
      have hA := hA2
      clear hA2
      refine hK.out _ _ (hA.out.tail) (fun hHeld => ?_)
      clear hK K
      refine norm_ (a' := ?_) ?_ ?_
      rotate_left
      · show Act.put _ (some 39) _ = _
        simp only [Act.put, List.setIfInBounds_toArray, List.set_cons_zero, List.set_cons_succ, i64_w, i32_w]
        rfl
      refine one_ (i := 6) (N := (some 40)) #[true, true, true, true, true, true, true, false, false, false, true, false, false] rfl rfl (by kernel_rfl) (by decide) (fun K hK => ?_)
      refine goes_ Try.func13 (by kernel_rfl) rfl #[.agg #[.bool false, .int .i64 dl, .int .u64 ((b.put kk one).s : Int), .int .u64 ((b.put kk one).i : Int), .int .u64 ((b.put kk one).h : Int), .int .u64 ((b.put kk one).d : Int), .int .u64 ((b.put kk one).m : Int), .int .u64 ((b.put kk one).w : Int)], .agg #[.int .i64 x, .int .i64 nn], .agg #[.slice none 0 0, .slice none 0 0, .slice none 0 0, .slice none 0 0]] (by rfl) rfl rfl (by (try simp only [List.map_toArray, List.map_cons, List.map_nil]); first | done | rfl) ?_
      refine (implNext_nx (b.put kk one) dl x nn _ (HW.out.put kk _ H1.out) HX.out.2.2.1 HX.out.2.2.2 HX.out.1 HX.out.2.1).mono ?_
      rintro e wc6 ⟨rfl, hb⟩
      refine ⟨_, rfl, ?_⟩
      have hA2 := Aside0.mk (hA.out.below hb)
      clear hA hb
      have hA := hA2
      clear hA2
      refine hK.out _ _ (hA.out.tail) (fun hHeld => ?_)
      clear hK K
      refine norm_ (a' := ?_) ?_ ?_
      rotate_left
      · show Act.put _ (some 40) _ = _
        simp only [Act.put, List.setIfInBounds_toArray, List.set_cons_zero, List.set_cons_succ, i64_w, i32_w]
        rfl
      refine pure_ (i := 7) (N := (some 33)) (v := ?_) (a' := ?_) #[true, true, true, true, true, true, true, true, false, false, true, false, false] rfl rfl (by kernel_rfl) (fun _ _ _ => only_shut) (Or.inl ⟨by rfl, ?_⟩) ?_ ?_
      rotate_left
      · intro w'
        go_simp
        with_reducible rfl
      rotate_left
      · simp only [Act.put, List.setIfInBounds_toArray, List.set_cons_zero, List.set_cons_succ, i64_w, i32_w]
        rfl
      refine pure_ (i := 8) (N := (some 41)) (v := ?_) (a' := ?_) #[true, true, true, true, true, true, true, true, true, false, true, false, false] rfl rfl (by kernel_rfl) (fun _ _ _ => only_shut) (Or.inl ⟨by rfl, ?_⟩) ?_ ?_
      rotate_left
      · intro w'
        go_simp
        with_reducible rfl
      rotate_left
      · simp only [Act.put, List.setIfInBounds_toArray, List.set_cons_zero, List.set_cons_succ, i64_w, i32_w]
        rfl
      refine pure_ (i := 9) (N := (some 42)) (v := ?_) (a' := ?_) #[true, true, true, true, true, true, true, true, true, true, true, false, false] rfl rfl (by kernel_rfl) (fun _ _ _ => only_shut) (Or.inl ⟨by rfl, ?_⟩) ?_ ?_
      rotate_left
      · intro w'
        go_simp
        with_reducible rfl
      rotate_left
      · simp only [Act.put, List.setIfInBounds_toArray, List.set_cons_zero, List.set_cons_succ, i64_w, i32_w]
        rfl
      refine one_ (i := 11) (N := none) #[true, true, true, true, true, true, true, true, true, true, true, true, false] rfl rfl (by kernel_rfl) (by decide) (fun K hK => ?_)
      refine skip_ (by rfl) rfl (exec_store_row 26 (.tmp 11) (.tmp 41) rfl g #[.int .i64 (nS (b.put kk one) x), .int .i64 0] rfl rfl 26 _ (hA.out.get 0 rfl) size26 (sz2 _ _ _ _) (one2 _ _)) ?_
      have hA2 := Aside0.mk (hA.out.row #[.int .i64 (nS (b.put kk one) x), .int .i64 0])
      clear hA
      have hA := hA2
      clear hA2
      generalize hgs : World.setRow _ _ _ = ws at hA ⊢
      clear hgs
      refine hK.out _ _ (hA.out.tail) (fun hHeld => ?_)
      clear hK K
      refine pure_ (i := 12) (N := (some 12)) (v := ?_) (a' := ?_) #[true, true, true, true, true, true, true, true, true, true, true, true, true] rfl rfl (by kernel_rfl) (fun _ _ _ => only_shut) (Or.inl ⟨by rfl, ?_⟩) ?_ ?_
      rotate_left
      · intro w'
        go_simp
        with_reducible rfl
      rotate_left
      · simp only [Act.put, List.setIfInBounds_toArray, List.set_cons_zero, List.set_cons_succ, i64_w, i32_w]
        rfl
      refine done_ (by kernel_rfl) ?_
      refine ⟨rfl, g, ?_, hA.out⟩
      simp only [putAll, Act.put, List.setIfInBounds_toArray, List.set_cons_zero, List.set_cons_succ]
  clear hI
  intro g1 wn1 hI0
  have hI := Aside0.mk hI0
  clear hI0
  simp only [putAll, Act.put, List.setIfInBounds_toArray, List.set_cons_zero, List.set_cons_succ]
  go_wp2_with fail
  refine region_split (fun g => [(44, .agg #[.bool false, .int .i64 dl, .int .u64 (b.s : Int), .int .u64 (b.i : Int), .int .u64 (b.h : Int), .int .u64 (b.d : Int), .int .u64 (b.m : Int), .int .u64 (b.w : Int)]), (45, .int .i64 (kk : Int)), (46, .int .u64 (other : Int)), (47, .agg #[.bool false, .int .i64 dl, .int .u64 ((b.put kk other).s : Int), .int .u64 ((b.put kk other).i : Int), .int .u64 ((b.put kk other).h : Int), .int .u64 ((b.put kk other).d : Int), .int .u64 ((b.put kk other).m : Int), .int .u64 ((b.put kk other).w : Int)]), (48, .agg #[.int .i64 x, .int .i64 nn]), (49, .agg #[.slice none 0 0, .slice none 0 0, .slice none 0 0, .slice none 0 0]), (50, .tuple #[.agg #[.int .i64 (nS (b.put kk other) x), .int .i64 0], .bool (nF (b.put kk other) x)]), (43, .tuple #[.agg #[.int .i64 (nS (b.put kk other) x), .int .i64 0], .bool (nF (b.put kk other) x)]), (51, .agg #[.int .i64 (nS (b.put kk other) x), .int .i64 0]), (52, .bool (nF (b.put kk other) x)), (13, .pointer (some ⟨g, 0, none⟩)), (14, .bool (nF (b.put kk other) x))]) (fun g w' => Blk w ((g, #[.int .i64 (nS (b.put kk other) x), .int .i64 0], 26) :: [(g1, #[.int .i64 (nS (b.put kk one) x), .int .i64 0], 26), (w.heap.size + 1, #[.int .i64 x, .int .i64 nn], 26), (w.heap.size, #[.bool false, .int .i64 dl, .int .u64 (b.s : Int), .int .u64 (b.i : Int), .int .u64 (b.h : Int), .int .u64 (b.d : Int), .int .u64 (b.m : Int), .int .u64 (b.w : Int)], 24)]) w') ?_ ?_
  · refine start_ (n := 13) (S := Blk w [(g1, #[.int .i64 (nS (b.put kk one) x), .int .i64 0], 26), (w.heap.size + 1, #[.int .i64 x, .int .i64 nn], 26), (w.heap.size, #[.bool false, .int .i64 dl, .int .u64 (b.s : Int), .int .u64 (b.i : Int), .int .u64 (b.h : Int), .int .u64 (b.d : Int), .int .u64 (b.m : Int), .int .u64 (b.w : Int)], 24)]) (ds := []) #[false, false, false, false, false, false, false, false, false, false, false, false, false] (by kernel_rfl) rfl rfl (hI.out.drew) (fun hHeld => ?_)
    have hI2 := Aside0.mk hI.out.drew
    clear hI
    have hI := hI2
    clear hI2
    generalize hwd : World.drew _ = wd at hI hHeld ⊢
    clear hwd
    refine take_ (i := 0) (N := (some 44)) (v := ?_) (a' := ?_) #[true, false, false, false, false, false, false, false, false, false, false, false, false] rfl rfl (by kernel_rfl) (fun _ _ _ => only_shut) (Or.inl ⟨by rfl, ?_⟩) hHeld ?_ ?_
    rotate_left
    · intro w' hS
      refine exec_load_row 24 (.tmp 5) ?_ (w.heap.size) ?_ 24 _ _ (hS.get 2 rfl) Try.underlying24 rfl size24
      · rfl
      · rfl
    rotate_left
    · simp only [Act.put, List.setIfInBounds_toArray, List.set_cons_zero, List.set_cons_succ, i64_w, i32_w]
      rfl
    refine pure_ (i := 1) (N := (some 45)) (v := ?_) (a' := ?_) #[true, true, false, false, false, false, false, false, false, false, false, false, false] rfl rfl (by kernel_rfl) (fun _ _ _ => only_shut) (Or.inl ⟨by rfl, ?_⟩) ?_ ?_
    rotate_left
    · intro w'
      go_simp
      with_reducible rfl
    rotate_left
    · simp only [Act.put, List.setIfInBounds_toArray, List.set_cons_zero, List.set_cons_succ, i64_w, i32_w]
      rfl
    refine pure_ (i := 2) (N := (some 46)) (v := ?_) (a' := ?_) #[true, true, true, false, false, false, false, false, false, false, false, false, false] rfl rfl (by kernel_rfl) (fun _ _ _ => only_shut) (Or.inl ⟨by rfl, ?_⟩) ?_ ?_
    rotate_left
    · intro w'
      go_simp
      with_reducible rfl
    rotate_left
    · simp only [Act.put, List.setIfInBounds_toArray, List.set_cons_zero, List.set_cons_succ, i64_w, i32_w]
      rfl
    refine take_ (i := 4) (N := (some 48)) (v := ?_) (a' := ?_) #[true, true, true, false, true, false, false, false, false, false, false, false, false] rfl rfl (by kernel_rfl) (fun _ _ _ => only_shut) (Or.inl ⟨by rfl, ?_⟩) hHeld ?_ ?_
    rotate_left
    · intro w' hS
      refine exec_load_row 26 (.tmp 9) ?_ (w.heap.size + 1) ?_ 26 _ _ (hS.get 1 rfl) Try.underlying26 rfl size26
      · rfl
      · rfl
    rotate_left
    · simp only [Act.put, List.setIfInBounds_toArray, List.set_cons_zero, List.set_cons_succ, i64_w, i32_w]
      rfl
    refine two_ (i := 3) (j := 10) (Ni := (some 47)) (Nj := (some 13)) #[true, true, true, true, true, false, false, false, false, false, false, false, false] #[true, true, true, false, true, false, false, false, false, false, true, false, false] rfl rfl rfl rfl (by kernel_rfl) (by decide) (by decide) (fun K hK => ?_) (fun K hK => ?_)
    · refine goes_ Try.func21 (by kernel_rfl) rfl #[.agg #[.bool false, .int .i64 dl, .int .u64 (b.s : Int), .int .u64 (b.i : Int), .int .u64 (b.h : Int), .int .u64 (b.d : Int), .int .u64 (b.m : Int), .int .u64 (b.w : Int)], .int .i64 (kk : Int), .int .u64 ((other : Nat) : Int)] (by rfl) rfl rfl (by (try simp only [List.map_toArray, List.map_cons, List.map_nil]); first | done | rfl) ?_
      refine (with_any b dl (other) _ kk HKK.out).mono ?_
      rintro e wc3 ⟨rfl, hb⟩
      refine ⟨_, rfl, ?_⟩
      have hI2 := Aside0.mk (hI.out.below hb)
      clear hI hb
      have hI := hI2
      clear hI2
      refine hK.out _ _ (hI.out) (fun hHeld => ?_)
      clear hK K
      refine norm_ (a' := ?_) ?_ ?_
      rotate_left
      · show Act.put _ (some 47) _ = _
        simp only [Act.put, List.setIfInBounds_toArray, List.set_cons_zero, List.set_cons_succ, i64_w, i32_w]
        rfl
      refine two_ (i := 5) (j := 10) (Ni := (some 49)) (Nj := (some 13)) #[true, true, true, true, true, true, false, false, false, false, false, false, false] #[true, true, true, true, true, false, false, false, false, false, true, false, false] rfl rfl rfl rfl (by kernel_rfl) (by decide) (by decide) (fun K hK => ?_) (fun K hK => ?_)
      · refine goes_ Try.func14 (by kernel_rfl) rfl #[] (by rfl) rfl rfl (by (try simp only [List.map_toArray, List.map_cons, List.map_nil]); first | done | rfl) ?_
        refine (utcZone_any _).mono ?_
        rintro e wc5 ⟨rfl, hb⟩
        refine ⟨_, rfl, ?_⟩
        have hI2 := Aside0.mk (hI.out.below hb)
        clear hI hb
        have hI := hI2
        clear hI2
        refine hK.out _ _ (hI.out) (fun hHeld => ?_)
        clear hK K
        refine norm_ (a' := ?_) ?_ ?_
        rotate_left
        · show Act.put _ (some 49) _ = _
          simp only [Act.put, List.setIfInBounds_toArray, List.set_cons_zero, List.set_cons_succ, i64_w, i32_w]
          rfl
        refine two_ (i := 6) (j := 10) (Ni := (some 50)) (Nj := (some 13)) #[true, true, true, true, true, true, true, false, false, false, false, false, false] #[true, true, true, true, true, true, false, false, false, false, true, false, false] rfl rfl rfl rfl (by kernel_rfl) (by decide) (by decide) (fun K hK => ?_) (fun K hK => ?_)
        · refine goes_ Try.func13 (by kernel_rfl) rfl #[.agg #[.bool false, .int .i64 dl, .int .u64 ((b.put kk other).s : Int), .int .u64 ((b.put kk other).i : Int), .int .u64 ((b.put kk other).h : Int), .int .u64 ((b.put kk other).d : Int), .int .u64 ((b.put kk other).m : Int), .int .u64 ((b.put kk other).w : Int)], .agg #[.int .i64 x, .int .i64 nn], .agg #[.slice none 0 0, .slice none 0 0, .slice none 0 0, .slice none 0 0]] (by rfl) rfl rfl (by (try simp only [List.map_toArray, List.map_cons, List.map_nil]); first | done | rfl) ?_
          refine (implNext_nx (b.put kk other) dl x nn _ (HW.out.put kk _ H2.out) HX.out.2.2.1 HX.out.2.2.2 HX.out.1 HX.out.2.1).mono ?_
          rintro e wc6 ⟨rfl, hb⟩
          refine ⟨_, rfl, ?_⟩
          have hI2 := Aside0.mk (hI.out.below hb)
          clear hI hb
          have hI := hI2
          clear hI2
          refine hK.out _ _ (hI.out) (fun hHeld => ?_)
          clear hK K
          refine norm_ (a' := ?_) ?_ ?_
          rotate_left
          · show Act.put _ (some 50) _ = _
            simp only [Act.put, List.setIfInBounds_toArray, List.set_cons_zero, List.set_cons_succ, i64_w, i32_w]
            rfl
          refine pure_ (i := 7) (N := (some 43)) (v := ?_) (a' := ?_) #[true, true, true, true, true, true, true, true, false, false, false, false, false] rfl rfl (by kernel_rfl) (fun _ _ _ => only_shut) (Or.inl ⟨by rfl, ?_⟩) ?_ ?_
          rotate_left
          · intro w'
            go_simp
            with_reducible rfl
          rotate_left
          · simp only [Act.put, List.setIfInBounds_toArray, List.set_cons_zero, List.set_cons_succ, i64_w, i32_w]
            rfl
          refine pure_ (i := 8) (N := (some 51)) (v := ?_) (a' := ?_) #[true, true, true, true, true, true, true, true, true, false, false, false, false] rfl rfl (by kernel_rfl) (fun _ _ _ => only_shut) (Or.inl ⟨by rfl, ?_⟩) ?_ ?_
          rotate_left
          · intro w'
            go_simp
            with_reducible rfl
          rotate_left
          · simp only [Act.put, List.setIfInBounds_toArray, List.set_cons_zero, List.set_cons_succ, i64_w, i32_w]
            rfl
          refine pure_ (i := 9) (N := (some 52)) (v := ?_) (a' := ?_) #[true, true, true, true, true, true, true, true, true, true, false, false, false] rfl rfl (by kernel_rfl) (fun _ _ _ => only_shut) (Or.inl ⟨by rfl, ?_⟩) ?_ ?_
          rotate_left
          · intro w'
            go_simp
            with_reducible rfl
          rotate_left
          · simp only [Act.put, List.setIfInBounds_toArray, List.set_cons_zero, List.set_cons_succ, i64_w, i32_w]
            rfl
          refine one_ (i := 10) (N := (some 13)) #[true, true, true, true, true, true, true, true, true, true, true, false, false] rfl rfl (by kernel_rfl) (by decide) (fun K hK => ?_)
          refine value_ (by rfl) rfl (alloc26 _ _ rfl _) ?_
          have hA := Aside0.mk (hI.out.alloc #[.int .i64 0, .int .i64 0] 26)
          clear hI
          generalize hga : World.alloc _ _ = wa at hA ⊢
          clear hga
          generalize hgb : wc6.heap.size = g at hA ⊢
          clear hgb
          refine hK.out _ _ (hA.out.tail) (fun hHeld => ?_)
          clear hK K
          refine norm_ (a' := ?_) ?_ ?_
          rotate_left
          · show Act.put _ (some 13) _ = _
            simp only [Act.put, List.setIfInBounds_toArray, List.set_cons_zero, List.set_cons_succ, i64_w, i32_w]
            rfl
          refine one_ (i := 11) (N := none) #[true, true, true, true, true, true, true, true, true, true, true, true, false] rfl rfl (by kernel_rfl) (by decide) (fun K hK => ?_)
          refine skip_ (by rfl) rfl (exec_store_row 26 (.tmp 13) (.tmp 51) rfl g #[.int .i64 (nS (b.put kk other) x), .int .i64 0] rfl rfl 26 _ (hA.out.get 0 rfl) size26 (sz2 _ _ _ _) (one2 _ _)) ?_
          have hA2 := Aside0.mk (hA.out.row #[.int .i64 (nS (b.put kk other) x), .int .i64 0])
          clear hA
          have hA := hA2
          clear hA2
          generalize hgs : World.setRow _ _ _ = ws at hA ⊢
          clear hgs
          refine hK.out _ _ (hA.out.tail) (fun hHeld => ?_)
          clear hK K
          refine pure_ (i := 12) (N := (some 14)) (v := ?_) (a' := ?_) #[true, true, true, true, true, true, true, true, true, true, true, true, true] rfl rfl (by kernel_rfl) (fun _ _ _ => only_shut) (Or.inl ⟨by rfl, ?_⟩) ?_ ?_
          rotate_left
          · intro w'
            go_simp
            with_reducible rfl
          rotate_left
          · simp only [Act.put, List.setIfInBounds_toArray, List.set_cons_zero, List.set_cons_succ, i64_w, i32_w]
            rfl
          refine done_ (by kernel_rfl) ?_
          refine ⟨rfl, g, ?_, hA.out⟩
          simp only [putAll, Act.put, List.setIfInBounds_toArray, List.set_cons_zero, List.set_cons_succ]
        · refine value_ (by rfl) rfl (alloc26 _ _ rfl _) ?_
          have hA := Aside0.mk (hI.out.alloc #[.int .i64 0, .int .i64 0] 26)
          clear hI
          generalize hga : World.alloc _ _ = wa at hA ⊢
          clear hga
          generalize hgb : wc5.heap.size = g at hA ⊢
          clear hgb
          refine hK.out _ _ (hA.out.tail) (fun hHeld => ?_)
          clear hK K
          refine norm_ (a' := ?_) ?_ ?_
          rotate_left
          · show Act.put _ (some 13) _ = _
            simp only [Act.put, List.setIfInBounds_toArray, List.set_cons_zero, List.set_cons_succ, i64_w, i32_w]
            rfl
          refine one_ (i := 6) (N := (some 50)) #[true, true, true, true, true, true, true, false, false, false, true, false, false] rfl rfl (by kernel_rfl) (by decide) (fun K hK => ?_)
          refine goes_ Try.func13 (by kernel_rfl) rfl #[.agg #[.bool false, .int .i64 dl, .int .u64 ((b.put kk other).s : Int), .int .u64 ((b.put kk other).i : Int), .int .u64 ((b.put kk other).h : Int), .int .u64 ((b.put kk other).d : Int), .int .u64 ((b.put kk other).m : Int), .int .u64 ((b.put kk other).w : Int)], .agg #[.int .i64 x, .int .i64 nn], .agg #[.slice none 0 0, .slice none 0 0, .slice none 0 0, .slice none 0 0]] (by rfl) rfl rfl (by (try simp only [List.map_toArray, List.map_cons, List.map_nil]); first | done | rfl) ?_
          refine (implNext_nx (b.put kk other) dl x nn _ (HW.out.put kk _ H2.out) HX.out.2.2.1 HX.out.2.2.2 HX.out.1 HX.out.2.1).mono ?_
          rintro e wc6 ⟨rfl, hb⟩
          refine ⟨_, rfl, ?_⟩
          have hA2 := Aside0.mk (hA.out.below hb)
          clear hA hb
          have hA := hA2
          clear hA2
          refine hK.out _ _ (hA.out.tail) (fun hHeld => ?_)
          clear hK K
          refine norm_ (a' := ?_) ?_ ?_
          rotate_left
          · show Act.put _ (some 50) _ = _
            simp only [Act.put, List.setIfInBounds_toArray, List.set_cons_zero, List.set_cons_succ, i64_w, i32_w]
            rfl
          refine pure_ (i := 7) (N := (some 43)) (v := ?_) (a' := ?_) #[true, true, true, true, true, true, true, true, false, false, true, false, false] rfl rfl (by kernel_rfl) (fun _ _ _ => only_shut) (Or.inl ⟨by rfl, ?_⟩) ?_ ?_
          rotate_left
          · intro w'
            go_simp
            with_reducible rfl
          rotate_left
          · simp only [Act.put, List.setIfInBounds_toArray, List.set_cons_zero, List.set_cons_succ, i64_w, i32_w]
            rfl
          refine pure_ (i := 8) (N := (some 51)) (v := ?_) (a' := ?_) #[true, true, true, true, true, true, true, true, true, false, true, false, false] rfl rfl (by kernel_rfl) (fun _ _ _ => only_shut) (Or.inl ⟨by rfl, ?_⟩) ?_ ?_
          rotate_left
          · intro w'
            go_simp
            with_reducible rfl
          rotate_left
          · simp only [Act.put, List.setIfInBounds_toArray, List.set_cons_zero, List.set_cons_succ, i64_w, i32_w]
            rfl
          refine pure_ (i := 9) (N := (some 52)) (v := ?_) (a' := ?_) #[true, true, true, true, true, true, true, true, true, true, true, false, false] rfl rfl (by kernel_rfl) (fun _ _ _ => only_shut) (Or.inl ⟨by rfl, ?_⟩) ?_ ?_
          rotate_left
          · intro w'
            go_simp
            with_reducible rfl
          rotate_left
          · simp only [Act.put, List.setIfInBounds_toArray, List.set_cons_zero, List.set_cons_succ, i64_w, i32_w]
            rfl
          refine one_ (i := 11) (N := none) #[true, true, true, true, true, true, true, true, true, true, true, true, false] rfl rfl (by kernel_rfl) (by decide) (fun K hK => ?_)
          refine skip_ (by rfl) rfl (exec_store_row 26 (.tmp 13) (.tmp 51) rfl g #[.int .i64 (nS (b.put kk other) x), .int .i64 0] rfl rfl 26 _ (hA.out.get 0 rfl) size26 (sz2 _ _ _ _) (one2 _ _)) ?_
          have hA2 := Aside0.mk (hA.out.row #[.int .i64 (nS (b.put kk other) x), .int .i64 0])
          clear hA
          have hA := hA2
          clear hA2
          generalize hgs : World.setRow _ _ _ = ws at hA ⊢
          clear hgs
          refine hK.out _ _ (hA.out.tail) (fun hHeld => ?_)
          clear hK K
          refine pure_ (i := 12) (N := (some 14)) (v := ?_) (a' := ?_) #[true, true, true, true, true, true, true, true, true, true, true, true, true] rfl rfl (by kernel_rfl) (fun _ _ _ => only_shut) (Or.inl ⟨by rfl, ?_⟩) ?_ ?_
          rotate_left
          · intro w'
            go_simp
            with_reducible rfl
          rotate_left
          · simp only [Act.put, List.setIfInBounds_toArray, List.set_cons_zero, List.set_cons_succ, i64_w, i32_w]
            rfl
          refine done_ (by kernel_rfl) ?_
          refine ⟨rfl, g, ?_, hA.out⟩
          simp only [putAll, Act.put, List.setIfInBounds_toArray, List.set_cons_zero, List.set_cons_succ]
      · refine value_ (by rfl) rfl (alloc26 _ _ rfl _) ?_
        have hA := Aside0.mk (hI.out.alloc #[.int .i64 0, .int .i64 0] 26)
        clear hI
        generalize hga : World.alloc _ _ = wa at hA ⊢
        clear hga
        generalize hgb : wc3.heap.size = g at hA ⊢
        clear hgb
        refine hK.out _ _ (hA.out.tail) (fun hHeld => ?_)
        clear hK K
        refine norm_ (a' := ?_) ?_ ?_
        rotate_left
        · show Act.put _ (some 13) _ = _
          simp only [Act.put, List.setIfInBounds_toArray, List.set_cons_zero, List.set_cons_succ, i64_w, i32_w]
          rfl
        refine one_ (i := 5) (N := (some 49)) #[true, true, true, true, true, true, false, false, false, false, true, false, false] rfl rfl (by kernel_rfl) (by decide) (fun K hK => ?_)
        refine goes_ Try.func14 (by kernel_rfl) rfl #[] (by rfl) rfl rfl (by (try simp only [List.map_toArray, List.map_cons, List.map_nil]); first | done | rfl) ?_
        refine (utcZone_any _).mono ?_
        rintro e wc5 ⟨rfl, hb⟩
        refine ⟨_, rfl, ?_⟩
        have hA2 := Aside0.mk (hA.out.below hb)
        clear hA hb
        have hA := hA2
        clear hA2
        refine hK.out _ _ (hA.out.tail) (fun hHeld => ?_)
        clear hK K
        refine norm_ (a' := ?_) ?_ ?_
        rotate_left
        · show Act.put _ (some 49) _ = _
          simp only [Act.put, List.setIfInBounds_toArray, List.set_cons_zero, List.set_cons_succ, i64_w, i32_w]
          rfl
        refine one_ (i := 6) (N := (some 50)) #[true, true, true, true, true, true, true, false, false, false, true, false, false] rfl rfl (by kernel_rfl) (by decide) (fun K hK => ?_)
        refine goes_ Try.func13 (by kernel_rfl) rfl #[.agg #[.bool false, .int .i64 dl, .int .u64 ((b.put kk other).s : Int), .int .u64 ((b.put kk other).i : Int), .int .u64 ((b.put kk other).h : Int), .int .u64 ((b.put kk other).d : Int), .int .u64 ((b.put kk other).m : Int), .int .u64 ((b.put kk other).w : Int)], .agg #[.int .i64 x, .int .i64 nn], .agg #[.slice none 0 0, .slice none 0 0, .slice none 0 0, .slice none 0 0]] (by rfl) rfl rfl (by (try simp only [List.map_toArray, List.map_cons, List.map_nil]); first | done | rfl) ?_
        refine (implNext_nx (b.put kk other) dl x nn _ (HW.out.put kk _ H2.out) HX.out.2.2.1 HX.out.2.2.2 HX.out.1 HX.out.2.1).mono ?_
        rintro e wc6 ⟨rfl, hb⟩
        refine ⟨_, rfl, ?_⟩
        have hA2 := Aside0.mk (hA.out.below hb)
        clear hA hb
        have hA := hA2
        clear hA2
        refine hK.out _ _ (hA.out.tail) (fun hHeld => ?_)
        clear hK K
        refine norm_ (a' := ?_) ?_ ?_
        rotate_left
        · show Act.put _ (some 50) _ = _
          simp only [Act.put, List.setIfInBounds_toArray, List.set_cons_zero, List.set_cons_succ, i64_w, i32_w]
          rfl
        refine pure_ (i := 7) (N := (some 43)) (v := ?_) (a' := ?_) #[true, true, true, true, true, true, true, true, false, false, true, false, false] rfl rfl (by kernel_rfl) (fun _ _ _ => only_shut) (Or.inl ⟨by rfl, ?_⟩) ?_ ?_
        rotate_left
        · intro w'
          go_simp
          with_reducible rfl
        rotate_left
        · simp only [Act.put, List.setIfInBounds_toArray, List.set_cons_zero, List.set_cons_succ, i64_w, i32_w]
          rfl
        refine pure_ (i := 8) (N := (some 51)) (v := ?_) (a' := ?_) #[true, true, true, true, true, true, true, true, true, false, true, false, false] rfl rfl (by kernel_rfl) (fun _ _ _ => only_shut) (Or.inl ⟨by rfl, ?_⟩) ?_ ?_
        rotate_left
        · intro w'
          go_simp
          with_reducible rfl
        rotate_left
        · simp only [Act.put, List.setIfInBounds_toArray, List.set_cons_zero, List.set_cons_succ, i64_w, i32_w]
          rfl
        refine pure_ (i := 9) (N := (some 52)) (v := ?_) (a' := ?_) #[true, true, true, true, true, true, true, true, true, true, true, false, false] rfl rfl (by kernel_rfl) (fun _ _ _ => only_shut) (Or.inl ⟨by rfl, ?_⟩) ?_ ?_
        rotate_left
        · intro w'
          go_simp
          with_reducible rfl
        rotate_left
        · simp only [Act.put, List.setIfInBounds_toArray, List.set_cons_zero, List.set_cons_succ, i64_w, i32_w]
          rfl
        refine one_ (i := 11) (N := none) #[true, true, true, true, true, true, true, true, true, true, true, true, false] rfl rfl (by kernel_rfl) (by decide) (fun K hK => ?_)
        refine skip_ (by rfl) rfl (exec_store_row 26 (.tmp 13) (.tmp 51) rfl g #[.int .i64 (nS (b.put kk other) x), .int .i64 0] rfl rfl 26 _ (hA.out.get 0 rfl) size26 (sz2 _ _ _ _) (one2 _ _)) ?_
        have hA2 := Aside0.mk (hA.out.row #[.int .i64 (nS (b.put kk other) x), .int .i64 0])
        clear hA
        have hA := hA2
        clear hA2
        generalize hgs : World.setRow _ _ _ = ws at hA ⊢
        clear hgs
        refine hK.out _ _ (hA.out.tail) (fun hHeld => ?_)
        clear hK K
        refine pure_ (i := 12) (N := (some 14)) (v := ?_) (a' := ?_) #[true, true, true, true, true, true, true, true, true, true, true, true, true] rfl rfl (by kernel_rfl) (fun _ _ _ => only_shut) (Or.inl ⟨by rfl, ?_⟩) ?_ ?_
        rotate_left
        · intro w'
          go_simp
          with_reducible rfl
        rotate_left
        · simp only [Act.put, List.setIfInBounds_toArray, List.set_cons_zero, List.set_cons_succ, i64_w, i32_w]
          rfl
        refine done_ (by kernel_rfl) ?_
        refine ⟨rfl, g, ?_, hA.out⟩
        simp only [putAll, Act.put, List.setIfInBounds_toArray, List.set_cons_zero, List.set_cons_succ]
    · refine value_ (by rfl) rfl (alloc26 _ _ rfl _) ?_
      have hA := Aside0.mk (hI.out.alloc #[.int .i64 0, .int .i64 0] 26)
      clear hI
      generalize hga : World.alloc _ _ = wa at hA ⊢
      clear hga
      generalize hgb : wd.heap.size = g at hA ⊢
      clear hgb
      refine hK.out _ _ (hA.out.tail) (fun hHeld => ?_)
      clear hK K
      refine norm_ (a' := ?_) ?_ ?_
      rotate_left
      · show Act.put _ (some 13) _ = _
        simp only [Act.put, List.setIfInBounds_toArray, List.set_cons_zero, List.set_cons_succ, i64_w, i32_w]
        rfl
      refine one_ (i := 3) (N := (some 47)) #[true, true, true, true, true, false, false, false, false, false, true, false, false] rfl rfl (by kernel_rfl) (by decide) (fun K hK => ?_)
      refine goes_ Try.func21 (by kernel_rfl) rfl #[.agg #[.bool false, .int .i64 dl, .int .u64 (b.s : Int), .int .u64 (b.i : Int), .int .u64 (b.h : Int), .int .u64 (b.d : Int), .int .u64 (b.m : Int), .int .u64 (b.w : Int)], .int .i64 (kk : Int), .int .u64 ((other : Nat) : Int)] (by rfl) rfl rfl (by (try simp only [List.map_toArray, List.map_cons, List.map_nil]); first | done | rfl) ?_
      refine (with_any b dl (other) _ kk HKK.out).mono ?_
      rintro e wc3 ⟨rfl, hb⟩
      refine ⟨_, rfl, ?_⟩
      have hA2 := Aside0.mk (hA.out.below hb)
      clear hA hb
      have hA := hA2
      clear hA2
      refine hK.out _ _ (hA.out.tail) (fun hHeld => ?_)
      clear hK K
      refine norm_ (a' := ?_) ?_ ?_
      rotate_left
      · show Act.put _ (some 47) _ = _
        simp only [Act.put, List.setIfInBounds_toArray, List.set_cons_zero, List.set_cons_succ, i64_w, i32_w]
        rfl
      refine one_ (i := 5) (N := (some 49)) #[true, true, true, true, true, true, false, false, false, false, true, false, false] rfl rfl (by kernel_rfl) (by decide) (fun K hK => ?_)
      refine goes_ Try.func14 (by kernel_rfl) rfl #[] (by rfl) rfl rfl (by (try simp only [List.map_toArray, List.map_cons, List.map_nil]); first | done | rfl) ?_
      refine (utcZone_any _).mono ?_
      rintro e wc5 ⟨rfl, hb⟩
      refine ⟨_, rfl, ?_⟩
      have hA2 := Aside0.mk (hA.out.below hb)
      clear hA hb
      have hA := hA2
      clear hA2
      refine hK.out _ _ (hA.out.tail) (fun hHeld => ?_)
      clear hK K
      refine norm_ (a' := ?_) ?_ ?_
      rotate_left
      · show Act.put _ (some 49) _ = _
        simp only [Act.put, List.setIfInBounds_toArray, List.set_cons_zero, List.set_cons_succ, i64_w, i32_w]
        rfl
      refine one_ (i := 6) (N := (some 50)) #[true, true, true, true, true, true, true, false, false, false, true, false, false] rfl rfl (by kernel_rfl) (by decide) (fun K hK => ?_)
      refine goes_ Try.func13 (by kernel_rfl) rfl #[.agg #[.bool false, .int .i64 dl, .int .u64 ((b.put kk other).s : Int), .int .u64 ((b.put kk other).i : Int), .int .u64 ((b.put kk other).h : Int), .int .u64 ((b.put kk other).d : Int), .int .u64 ((b.put kk other).m : Int), .int .u64 ((b.put kk other).w : Int)], .agg #[.int .i64 x, .int .i64 nn], .agg #[.slice none 0 0, .slice none 0 0, .slice none 0 0, .slice none 0 0]] (by rfl) rfl rfl (by (try simp only [List.map_toArray, List.map_cons, List.map_nil]); first | done | rfl) ?_
      refine (implNext_nx (b.put kk other) dl x nn _ (HW.out.put kk _ H2.out) HX.out.2.2.1 HX.out.2.2.2 HX.out.1 HX.out.2.1).mono ?_
      rintro e wc6 ⟨rfl, hb⟩
      refine ⟨_, rfl, ?_⟩
      have hA2 := Aside0.mk (hA.out.below hb)
      clear hA hb
      have hA := hA2
      clear hA2
      refine hK.out _ _ (hA.out.tail) (fun hHeld => ?_)
      clear hK K
      refine norm_ (a' := ?_) ?_ ?_
      rotate_left
      · show Act.put _ (some 50) _ = _
        simp only [Act.put, List.setIfInBounds_toArray, List.set_cons_zero, List.set_cons_succ, i64_w, i32_w]
        rfl
      refine pure_ (i := 7) (N := (some 43)) (v := ?_) (a' := ?_) #[true, true, true, true, true, true, true, true, false, false, true, false, false] rfl rfl (by kernel_rfl) (fun _ _ _ => only_shut) (Or.inl ⟨by rfl, ?_⟩) ?_ ?_
      rotate_left
      · intro w'
        go_simp
        with_reducible rfl
      rotate_left
      · simp only [Act.put, List.setIfInBounds_toArray, List.set_cons_zero, List.set_cons_succ, i64_w, i32_w]
        rfl
      refine pure_ (i := 8) (N := (some 51)) (v := ?_) (a' := ?_) #[true, true, true, true, true, true, true, true, true, false, true, false, false] rfl rfl (by kernel_rfl) (fun _ _ _ => only_shut) (Or.inl ⟨by rfl, ?_⟩) ?_ ?_
      rotate_left
      · intro w'
        go_simp
        with_reducible rfl
      rotate_left
      · simp only [Act.put, List.setIfInBounds_toArray, List.set_cons_zero, List.set_cons_succ, i64_w, i32_w]
        rfl
      refine pure_ (i := 9) (N := (some 52)) (v := ?_) (a' := ?_) #[true, true, true, true, true, true, true, true, true, true, true, false, false] rfl rfl (by kernel_rfl) (fun _ _ _ => only_shut) (Or.inl ⟨by rfl, ?_⟩) ?_ ?_
      rotate_left
      · intro w'
        go_simp
        with_reducible rfl
      rotate_left
      · simp only [Act.put, List.setIfInBounds_toArray, List.set_cons_zero, List.set_cons_succ, i64_w, i32_w]
        rfl
      refine one_ (i := 11) (N := none) #[true, true, true, true, true, true, true, true, true, true, true, true, false] rfl rfl (by kernel_rfl) (by decide) (fun K hK => ?_)
      refine skip_ (by rfl) rfl (exec_store_row 26 (.tmp 13) (.tmp 51) rfl g #[.int .i64 (nS (b.put kk other) x), .int .i64 0] rfl rfl 26 _ (hA.out.get 0 rfl) size26 (sz2 _ _ _ _) (one2 _ _)) ?_
      have hA2 := Aside0.mk (hA.out.row #[.int .i64 (nS (b.put kk other) x), .int .i64 0])
      clear hA
      have hA := hA2
      clear hA2
      generalize hgs : World.setRow _ _ _ = ws at hA ⊢
      clear hgs
      refine hK.out _ _ (hA.out.tail) (fun hHeld => ?_)
      clear hK K
      refine pure_ (i := 12) (N := (some 14)) (v := ?_) (a' := ?_) #[true, true, true, true, true, true, true, true, true, true, true, true, true] rfl rfl (by kernel_rfl) (fun _ _ _ => only_shut) (Or.inl ⟨by rfl, ?_⟩) ?_ ?_
      rotate_left
      · intro w'
        go_simp
        with_reducible rfl
      rotate_left
      · simp only [Act.put, List.setIfInBounds_toArray, List.set_cons_zero, List.set_cons_succ, i64_w, i32_w]
        rfl
      refine done_ (by kernel_rfl) ?_
      refine ⟨rfl, g, ?_, hA.out⟩
      simp only [putAll, Act.put, List.setIfInBounds_toArray, List.set_cons_zero, List.set_cons_succ]
  clear hI
  intro g2 wn2 hI0
  have hI := Aside0.mk hI0
  clear hI0
  simp only [putAll, Act.put, List.setIfInBounds_toArray, List.set_cons_zero, List.set_cons_succ]
  go_wp2_with fail
  refine region_split (fun g => [(54, .agg #[.bool false, .int .i64 dl, .int .u64 (b.s : Int), .int .u64 (b.i : Int), .int .u64 (b.h : Int), .int .u64 (b.d : Int), .int .u64 (b.m : Int), .int .u64 (b.w : Int)]), (55, .int .i64 (kk : Int)), (56, .int .u64 (one : Int)), (57, .int .u64 (other : Int)), (58, .int .u64 ((one &&& other : Nat) : Int)), (59, .agg #[.bool false, .int .i64 dl, .int .u64 ((b.put kk (one &&& other)).s : Int), .int .u64 ((b.put kk (one &&& other)).i : Int), .int .u64 ((b.put kk (one &&& other)).h : Int), .int .u64 ((b.put kk (one &&& other)).d : Int), .int .u64 ((b.put kk (one &&& other)).m : Int), .int .u64 ((b.put kk (one &&& other)).w : Int)]), (60, .agg #[.int .i64 x, .int .i64 nn]), (61, .agg #[.slice none 0 0, .slice none 0 0, .slice none 0 0, .slice none 0 0]), (62, .tuple #[.agg #[.int .i64 (nS (b.put kk (one &&& other)) x), .int .i64 0], .bool (nF (b.put kk (one &&& other)) x)]), (53, .tuple #[.agg #[.int .i64 (nS (b.put kk (one &&& other)) x), .int .i64 0], .bool (nF (b.put kk (one &&& other)) x)]), (63, .agg #[.int .i64 (nS (b.put kk (one &&& other)) x), .int .i64 0]), (64, .bool (nF (b.put kk (one &&& other)) x)), (15, .pointer (some ⟨g, 0, none⟩)), (16, .bool (nF (b.put kk (one &&& other)) x))]) (fun g w' => Blk w ((g, #[.int .i64 (nS (b.put kk (one &&& other)) x), .int .i64 0], 26) :: [(g2, #[.int .i64 (nS (b.put kk other) x), .int .i64 0], 26), (g1, #[.int .i64 (nS (b.put kk one) x), .int .i64 0], 26), (w.heap.size + 1, #[.int .i64 x, .int .i64 nn], 26), (w.heap.size, #[.bool false, .int .i64 dl, .int .u64 (b.s : Int), .int .u64 (b.i : Int), .int .u64 (b.h : Int), .int .u64 (b.d : Int), .int .u64 (b.m : Int), .int .u64 (b.w : Int)], 24)]) w') ?_ ?_
  · refine start_ (n := 15) (S := Blk w [(g2, #[.int .i64 (nS (b.put kk other) x), .int .i64 0], 26), (g1, #[.int .i64 (nS (b.put kk one) x), .int .i64 0], 26), (w.heap.size + 1, #[.int .i64 x, .int .i64 nn], 26), (w.heap.size, #[.bool false, .int .i64 dl, .int .u64 (b.s : Int), .int .u64 (b.i : Int), .int .u64 (b.h : Int), .int .u64 (b.d : Int), .int .u64 (b.m : Int), .int .u64 (b.w : Int)], 24)]) (ds := []) #[false, false, false, false, false, false, false, false, false, false, false, false, false, false, false] (by kernel_rfl) rfl rfl (hI.out.drew) (fun hHeld => ?_)
    have hI2 := Aside0.mk hI.out.drew
    clear hI
    have hI := hI2
    clear hI2
    generalize hwd : World.drew _ = wd at hI hHeld ⊢
    clear hwd
    refine take_ (i := 0) (N := (some 54)) (v := ?_) (a' := ?_) #[true, false, false, false, false, false, false, false, false, false, false, false, false, false, false] rfl rfl (by kernel_rfl) (fun _ _ _ => only_shut) (Or.inl ⟨by rfl, ?_⟩) hHeld ?_ ?_
    rotate_left
    · intro w' hS
      refine exec_load_row 24 (.tmp 5) ?_ (w.heap.size) ?_ 24 _ _ (hS.get 3 rfl) Try.underlying24 rfl size24
      · rfl
      · rfl
    rotate_left
    · simp only [Act.put, List.setIfInBounds_toArray, List.set_cons_zero, List.set_cons_succ, i64_w, i32_w]
      rfl
    refine pure_ (i := 1) (N := (some 55)) (v := ?_) (a' := ?_) #[true, true, false, false, false, false, false, false, false, false, false, false, false, false, false] rfl rfl (by kernel_rfl) (fun _ _ _ => only_shut) (Or.inl ⟨by rfl, ?_⟩) ?_ ?_
    rotate_left
    · intro w'
      go_simp
      with_reducible rfl
    rotate_left
    · simp only [Act.put, List.setIfInBounds_toArray, List.set_cons_zero, List.set_cons_succ, i64_w, i32_w]
      rfl
    refine pure_ (i := 2) (N := (some 56)) (v := ?_) (a' := ?_) #[true, true, true, false, false, false, false, false, false, false, false, false, false, false, false] rfl rfl (by kernel_rfl) (fun _ _ _ => only_shut) (Or.inl ⟨by rfl, ?_⟩) ?_ ?_
    rotate_left
    · intro w'
      go_simp
      with_reducible rfl
    rotate_left
    · simp only [Act.put, List.setIfInBounds_toArray, List.set_cons_zero, List.set_cons_succ, i64_w, i32_w]
      rfl
    refine pure_ (i := 3) (N := (some 57)) (v := ?_) (a' := ?_) #[true, true, true, true, false, false, false, false, false, false, false, false, false, false, false] rfl rfl (by kernel_rfl) (fun _ _ _ => only_shut) (Or.inl ⟨by rfl, ?_⟩) ?_ ?_
    rotate_left
    · intro w'
      go_simp
      with_reducible rfl
    rotate_left
    · simp only [Act.put, List.setIfInBounds_toArray, List.set_cons_zero, List.set_cons_succ, i64_w, i32_w]
      rfl
    refine pure_ (i := 4) (N := (some 58)) (v := ?_) (a' := ?_) #[true, true, true, true, true, false, false, false, false, false, false, false, false, false, false] rfl rfl (by kernel_rfl) (fun _ _ _ => only_shut) (Or.inl ⟨by rfl, ?_⟩) ?_ ?_
    rotate_left
    · intro w'
      go_simp
      with_reducible rfl
    rotate_left
    · simp only [Act.put, List.setIfInBounds_toArray, List.set_cons_zero, List.set_cons_succ, i64_w, i32_w]
      rfl
    refine take_ (i := 6) (N := (some 60)) (v := ?_) (a' := ?_) #[true, true, true, true, true, false, true, false, false, false, false, false, false, false, false] rfl rfl (by kernel_rfl) (fun _ _ _ => only_shut) (Or.inl ⟨by rfl, ?_⟩) hHeld ?_ ?_
    rotate_left
    · intro w' hS
      refine exec_load_row 26 (.tmp 9) ?_ (w.heap.size + 1) ?_ 26 _ _ (hS.get 2 rfl) Try.underlying26 rfl size26
      · rfl
      · rfl
    rotate_left
    · simp only [Act.put, List.setIfInBounds_toArray, List.set_cons_zero, List.set_cons_succ, i64_w, i32_w]
      rfl
    refine two_ (i := 5) (j := 12) (Ni := (some 59)) (Nj := (some 15)) #[true, true, true, true, true, true, true, false, false, false, false, false, false, false, false] #[true, true, true, true, true, false, true, false, false, false, false, false, true, false, false] rfl rfl rfl rfl (by kernel_rfl) (by decide) (by decide) (fun K hK => ?_) (fun K hK => ?_)
    · refine goes_ Try.func21 (by kernel_rfl) rfl #[.agg #[.bool false, .int .i64 dl, .int .u64 (b.s : Int), .int .u64 (b.i : Int), .int .u64 (b.h : Int), .int .u64 (b.d : Int), .int .u64 (b.m : Int), .int .u64 (b.w : Int)], .int .i64 (kk : Int), .int .u64 ((one &&& other : Nat) : Int)] (by rfl) rfl rfl (by (try simp only [List.map_toArray, List.map_cons, List.map_nil]); first | done | rfl) ?_
      refine (with_any b dl (one &&& other) _ kk HKK.out).mono ?_
      rintro e wc5 ⟨rfl, hb⟩
      refine ⟨_, rfl, ?_⟩
      have hI2 := Aside0.mk (hI.out.below hb)
      clear hI hb
      have hI := hI2
      clear hI2
      refine hK.out _ _ (hI.out) (fun hHeld => ?_)
      clear hK K
      refine norm_ (a' := ?_) ?_ ?_
      rotate_left
      · show Act.put _ (some 59) _ = _
        simp only [Act.put, List.setIfInBounds_toArray, List.set_cons_zero, List.set_cons_succ, i64_w, i32_w]
        rfl
      refine two_ (i := 7) (j := 12) (Ni := (some 61)) (Nj := (some 15)) #[true, true, true, true, true, true, true, true, false, false, false, false, false, false, false] #[true, true, true, true, true, true, true, false, false, false, false, false, true, false, false] rfl rfl rfl rfl (by kernel_rfl) (by decide) (by decide) (fun K hK => ?_) (fun K hK => ?_)
      · refine goes_ Try.func14 (by kernel_rfl) rfl #[] (by rfl) rfl rfl (by (try simp only [List.map_toArray, List.map_cons, List.map_nil]); first | done | rfl) ?_
        refine (utcZone_any _).mono ?_
        rintro e wc7 ⟨rfl, hb⟩
        refine ⟨_, rfl, ?_⟩
        have hI2 := Aside0.mk (hI.out.below hb)
        clear hI hb
        have hI := hI2
        clear hI2
        refine hK.out _ _ (hI.out) (fun hHeld => ?_)
        clear hK K
        refine norm_ (a' := ?_) ?_ ?_
        rotate_left
        · show Act.put _ (some 61) _ = _
          simp only [Act.put, List.setIfInBounds_toArray, List.set_cons_zero, List.set_cons_succ, i64_w, i32_w]
          rfl
        refine two_ (i := 8) (j := 12) (Ni := (some 62)) (Nj := (some 15)) #[true, true, true, true, true, true, true, true, true, false, false, false, false, false, false] #[true, true, true, true, true, true, true, true, false, false, false, false, true, false, false] rfl rfl rfl rfl (by kernel_rfl) (by decide) (by decide) (fun K hK => ?_) (fun K hK => ?_)
        · refine goes_ Try.func13 (by kernel_rfl) rfl #[.agg #[.bool false, .int .i64 dl, .int .u64 ((b.put kk (one &&& other)).s : Int), .int .u64 ((b.put kk (one &&& other)).i : Int), .int .u64 ((b.put kk (one &&& other)).h : Int), .int .u64 ((b.put kk (one &&& other)).d : Int), .int .u64 ((b.put kk (one &&& other)).m : Int), .int .u64 ((b.put kk (one &&& other)).w : Int)], .agg #[.int .i64 x, .int .i64 nn], .agg #[.slice none 0 0, .slice none 0 0, .slice none 0 0, .slice none 0 0]] (by rfl) rfl rfl (by (try simp only [List.map_toArray, List.map_cons, List.map_nil]); first | done | rfl) ?_
          refine (implNext_nx (b.put kk (one &&& other)) dl x nn _ (HW.out.put kk _ H3.out) HX.out.2.2.1 HX.out.2.2.2 HX.out.1 HX.out.2.1).mono ?_
          rintro e wc8 ⟨rfl, hb⟩
          refine ⟨_, rfl, ?_⟩
          have hI2 := Aside0.mk (hI.out.below hb)
          clear hI hb
          have hI := hI2
          clear hI2
          refine hK.out _ _ (hI.out) (fun hHeld => ?_)
          clear hK K
          refine norm_ (a' := ?_) ?_ ?_
          rotate_left
          · show Act.put _ (some 62) _ = _
            simp only [Act.put, List.setIfInBounds_toArray, List.set_cons_zero, List.set_cons_succ, i64_w, i32_w]
            rfl
          refine pure_ (i := 9) (N := (some 53)) (v := ?_) (a' := ?_) #[true, true, true, true, true, true, true, true, true, true, false, false, false, false, false] rfl rfl (by kernel_rfl) (fun _ _ _ => only_shut) (Or.inl ⟨by rfl, ?_⟩) ?_ ?_
          rotate_left
          · intro w'
            go_simp
            with_reducible rfl
          rotate_left
          · simp only [Act.put, List.setIfInBounds_toArray, List.set_cons_zero, List.set_cons_succ, i64_w, i32_w]
            rfl
          refine pure_ (i := 10) (N := (some 63)) (v := ?_) (a' := ?_) #[true, true, true, true, true, true, true, true, true, true, true, false, false, false, false] rfl rfl (by kernel_rfl) (fun _ _ _ => only_shut) (Or.inl ⟨by rfl, ?_⟩) ?_ ?_
          rotate_left
          · intro w'
            go_simp
            with_reducible rfl
          rotate_left
          · simp only [Act.put, List.setIfInBounds_toArray, List.set_cons_zero, List.set_cons_succ, i64_w, i32_w]
            rfl
          refine pure_ (i := 11) (N := (some 64)) (v := ?_) (a' := ?_) #[true, true, true, true, true, true, true, true, true, true, true, true, false, false, false] rfl rfl (by kernel_rfl) (fun _ _ _ => only_shut) (Or.inl ⟨by rfl, ?_⟩) ?_ ?_
          rotate_left
          · intro w'
            go_simp
            with_reducible rfl
          rotate_left
          · simp only [Act.put, List.setIfInBounds_toArray, List.set_cons_zero, List.set_cons_succ, i64_w, i32_w]
            rfl
          refine one_ (i := 12) (N := (some 15)) #[true, true, true, true, true, true, true, true, true, true, true, true, true, false, false] rfl rfl (by kernel_rfl) (by decide) (fun K hK => ?_)
          refine value_ (by rfl) rfl (alloc26 _ _ rfl _) ?_
          have hA := Aside0.mk (hI.out.alloc #[.int .i64 0, .int .i64 0] 26)
          clear hI
          generalize hga : World.alloc _ _ = wa at hA ⊢
          clear hga
          generalize hgb : wc8.heap.size = g at hA ⊢
          clear hgb
          refine hK.out _ _ (hA.out.tail) (fun hHeld => ?_)
          clear hK K
          refine norm_ (a' := ?_) ?_ ?_
          rotate_left
          · show Act.put _ (some 15) _ = _
            simp only [Act.put, List.setIfInBounds_toArray, List.set_cons_zero, List.set_cons_succ, i64_w, i32_w]
            rfl
          refine one_ (i := 13) (N := none) #[true, true, true, true, true, true, true, true, true, true, true, true, true, true, false] rfl rfl (by kernel_rfl) (by decide) (fun K hK => ?_)
          refine skip_ (by rfl) rfl (exec_store_row 26 (.tmp 15) (.tmp 63) rfl g #[.int .i64 (nS (b.put kk (one &&& other)) x), .int .i64 0] rfl rfl 26 _ (hA.out.get 0 rfl) size26 (sz2 _ _ _ _) (one2 _ _)) ?_
          have hA2 := Aside0.mk (hA.out.row #[.int .i64 (nS (b.put kk (one &&& other)) x), .int .i64 0])
          clear hA
          have hA := hA2
          clear hA2
          generalize hgs : World.setRow _ _ _ = ws at hA ⊢
          clear hgs
          refine hK.out _ _ (hA.out.tail) (fun hHeld => ?_)
          clear hK K
          refine pure_ (i := 14) (N := (some 16)) (v := ?_) (a' := ?_) #[true, true, true, true, true, true, true, true, true, true, true, true, true, true, true] rfl rfl (by kernel_rfl) (fun _ _ _ => only_shut) (Or.inl ⟨by rfl, ?_⟩) ?_ ?_
          rotate_left
          · intro w'
            go_simp
            with_reducible rfl
          rotate_left
          · simp only [Act.put, List.setIfInBounds_toArray, List.set_cons_zero, List.set_cons_succ, i64_w, i32_w]
            rfl
          refine done_ (by kernel_rfl) ?_
          refine ⟨rfl, g, ?_, hA.out⟩
          simp only [putAll, Act.put, List.setIfInBounds_toArray, List.set_cons_zero, List.set_cons_succ]
        · refine value_ (by rfl) rfl (alloc26 _ _ rfl _) ?_
          have hA := Aside0.mk (hI.out.alloc #[.int .i64 0, .int .i64 0] 26)
          clear hI
          generalize hga : World.alloc _ _ = wa at hA ⊢
          clear hga
          generalize hgb : wc7.heap.size = g at hA ⊢
          clear hgb
          refine hK.out _ _ (hA.out.tail) (fun hHeld => ?_)
          clear hK K
          refine norm_ (a' := ?_) ?_ ?_
          rotate_left
          · show Act.put _ (some 15) _ = _
            simp only [Act.put, List.setIfInBounds_toArray, List.set_cons_zero, List.set_cons_succ, i64_w, i32_w]
            rfl
          refine one_ (i := 8) (N := (some 62)) #[true, true, true, true, true, true, true, true, true, false, false, false, true, false, false] rfl rfl (by kernel_rfl) (by decide) (fun K hK => ?_)
          refine goes_ Try.func13 (by kernel_rfl) rfl #[.agg #[.bool false, .int .i64 dl, .int .u64 ((b.put kk (one &&& other)).s : Int), .int .u64 ((b.put kk (one &&& other)).i : Int), .int .u64 ((b.put kk (one &&& other)).h : Int), .int .u64 ((b.put kk (one &&& other)).d : Int), .int .u64 ((b.put kk (one &&& other)).m : Int), .int .u64 ((b.put kk (one &&& other)).w : Int)], .agg #[.int .i64 x, .int .i64 nn], .agg #[.slice none 0 0, .slice none 0 0, .slice none 0 0, .slice none 0 0]] (by rfl) rfl rfl (by (try simp only [List.map_toArray, List.map_cons, List.map_nil]); first | done | rfl) ?_
          refine (implNext_nx (b.put kk (one &&& other)) dl x nn _ (HW.out.put kk _ H3.out) HX.out.2.2.1 HX.out.2.2.2 HX.out.1 HX.out.2.1).mono ?_
          rintro e wc8 ⟨rfl, hb⟩
          refine ⟨_, rfl, ?_⟩
          have hA2 := Aside0.mk (hA.out.below hb)
          clear hA hb
          have hA := hA2
          clear hA2
          refine hK.out _ _ (hA.out.tail) (fun hHeld => ?_)
          clear hK K
          refine norm_ (a' := ?_) ?_ ?_
          rotate_left
          · show Act.put _ (some 62) _ = _
            simp only [Act.put, List.setIfInBounds_toArray, List.set_cons_zero, List.set_cons_succ, i64_w, i32_w]
            rfl
          refine pure_ (i := 9) (N := (some 53)) (v := ?_) (a' := ?_) #[true, true, true, true, true, true, true, true, true, true, false, false, true, false, false] rfl rfl (by kernel_rfl) (fun _ _ _ => only_shut) (Or.inl ⟨by rfl, ?_⟩) ?_ ?_
          rotate_left
          · intro w'
            go_simp
            with_reducible rfl
          rotate_left
          · simp only [Act.put, List.setIfInBounds_toArray, List.set_cons_zero, List.set_cons_succ, i64_w, i32_w]
            rfl
          refine pure_ (i := 10) (N := (some 63)) (v := ?_) (a' := ?_) #[true, true, true, true, true, true, true, true, true, true, true, false, true, false, false] rfl rfl (by kernel_rfl) (fun _ _ _ => only_shut) (Or.inl ⟨by rfl, ?_⟩) ?_ ?_
          rotate_left
          · intro w'
            go_simp
            with_reducible rfl
          rotate_left
          · simp only [Act.put, List.setIfInBounds_toArray, List.set_cons_zero, List.set_cons_succ, i64_w, i32_w]
            rfl
          refine pure_ (i := 11) (N := (some 64)) (v := ?_) (a' := ?_) #[true, true, true, true, true, true, true, true, true, true, true, true, true, false, false] rfl rfl (by kernel_rfl) (fun _ _ _ => only_shut) (Or.inl ⟨by rfl, ?_⟩) ?_ ?_
          rotate_left
          · intro w'
            go_simp
            with_reducible rfl
          rotate_left
          · simp only [Act.put, List.setIfInBounds_toArray, List.set_cons_zero, List.set_cons_succ, i64_w, i32_w]
            rfl
          refine one_ (i := 13) (N := none) #[true, true, true, true, true, true, true, true, true, true, true, true, true, true, false] rfl rfl (by kernel_rfl) (by decide) (fun K hK => ?_)
          refine skip_ (by rfl) rfl (exec_store_row 26 (.tmp 15) (.tmp 63) rfl g #[.int .i64 (nS (b.put kk (one &&& other)) x), .int .i64 0] rfl rfl 26 _ (hA.out.get 0 rfl) size26 (sz2 _ _ _ _) (one2 _ _)) ?_
          have hA2 := Aside0.mk (hA.out.row #[.int .i64 (nS (b.put kk (one &&& other)) x), .int .i64 0])
          clear hA
          have hA := hA2
          clear hA2
          generalize hgs : World.setRow _ _ _ = ws at hA ⊢
          clear hgs
          refine hK.out _ _ (hA.out.tail) (fun hHeld => ?_)
          clear hK K
          refine pure_ (i := 14) (N := (some 16)) (v := ?_) (a' := ?_) #[true, true, true, true, true, true, true, true, true, true, true, true, true, true, true] rfl rfl (by kernel_rfl) (fun _ _ _ => only_shut) (Or.inl ⟨by rfl, ?_⟩) ?_ ?_
          rotate_left
          · intro w'
            go_simp
            with_reducible rfl
          rotate_left
          · simp only [Act.put, List.setIfInBounds_toArray, List.set_cons_zero, List.set_cons_succ, i64_w, i32_w]
            rfl
          refine done_ (by kernel_rfl) ?_
          refine ⟨rfl, g, ?_, hA.out⟩
          simp only [putAll, Act.put, List.setIfInBounds_toArray, List.set_cons_zero, List.set_cons_succ]
      · refine value_ (by rfl) rfl (alloc26 _ _ rfl _) ?_
        have hA := Aside0.mk (hI.out.alloc #[.int .i64 0, .int .i64 0] 26)
        clear hI
        generalize hga : World.alloc _ _ = wa at hA ⊢
        clear hga
        generalize hgb : wc5.heap.size = g at hA ⊢
        clear hgb
        refine hK.out _ _ (hA.out.tail) (fun hHeld => ?_)
        clear hK K
        refine norm_ (a' := ?_) ?_ ?_
        rotate_left
        · show Act.put _ (some 15) _ = _
          simp only [Act.put, List.setIfInBounds_toArray, List.set_cons_zero, List.set_cons_succ, i64_w, i32_w]
          rfl
        refine one_ (i := 7) (N := (some 61)) #[true, true, true, true, true, true, true, true, false, false, false, false, true, false, false] rfl rfl (by kernel_rfl) (by decide) (fun K hK => ?_)
        refine goes_ Try.func14 (by kernel_rfl) rfl #[] (by rfl) rfl rfl (by (try simp only [List.map_toArray, List.map_cons, List.map_nil]); first | done | rfl) ?_
        refine (utcZone_any _).mono ?_
        rintro e wc7 ⟨rfl, hb⟩
        refine ⟨_, rfl, ?_⟩
        have hA2 := Aside0.mk (hA.out.below hb)
        clear hA hb
        have hA := hA2
        clear hA2
        refine hK.out _ _ (hA.out.tail) (fun hHeld => ?_)
        clear hK K
        refine norm_ (a' := ?_) ?_ ?_
        rotate_left
        · show Act.put _ (some 61) _ = _
          simp only [Act.put, List.setIfInBounds_toArray, List.set_cons_zero, List.set_cons_succ, i64_w, i32_w]
          rfl
        refine one_ (i := 8) (N := (some 62)) #[true, true, true, true, true, true, true, true, true, false, false, false, true, false, false] rfl rfl (by kernel_rfl) (by decide) (fun K hK => ?_)
        refine goes_ Try.func13 (by kernel_rfl) rfl #[.agg #[.bool false, .int .i64 dl, .int .u64 ((b.put kk (one &&& other)).s : Int), .int .u64 ((b.put kk (one &&& other)).i : Int), .int .u64 ((b.put kk (one &&& other)).h : Int), .int .u64 ((b.put kk (one &&& other)).d : Int), .int .u64 ((b.put kk (one &&& other)).m : Int), .int .u64 ((b.put kk (one &&& other)).w : Int)], .agg #[.int .i64 x, .int .i64 nn], .agg #[.slice none 0 0, .slice none 0 0, .slice none 0 0, .slice none 0 0]] (by rfl) rfl rfl (by (try simp only [List.map_toArray, List.map_cons, List.map_nil]); first | done | rfl) ?_
        refine (implNext_nx (b.put kk (one &&& other)) dl x nn _ (HW.out.put kk _ H3.out) HX.out.2.2.1 HX.out.2.2.2 HX.out.1 HX.out.2.1).mono ?_
        rintro e wc8 ⟨rfl, hb⟩
        refine ⟨_, rfl, ?_⟩
        have hA2 := Aside0.mk (hA.out.below hb)
        clear hA hb
        have hA := hA2
        clear hA2
        refine hK.out _ _ (hA.out.tail) (fun hHeld => ?_)
        clear hK K
        refine norm_ (a' := ?_) ?_ ?_
        rotate_left
        · show Act.put _ (some 62) _ = _
          simp only [Act.put, List.setIfInBounds_toArray, List.set_cons_zero, List.set_cons_succ, i64_w, i32_w]
          rfl
        refine pure_ (i := 9) (N := (some 53)) (v := ?_) (a' := ?_) #[true, true, true, true, true, true, true, true, true, true, false, false, true, false, false] rfl rfl (by kernel_rfl) (fun _ _ _ => only_shut) (Or.inl ⟨by rfl, ?_⟩) ?_ ?_
        rotate_left
        · intro w'
          go_simp
          with_reducible rfl
        rotate_left
        · simp only [Act.put, List.setIfInBounds_toArray, List.set_cons_zero, List.set_cons_succ, i64_w, i32_w]
          rfl
        refine pure_ (i := 10) (N := (some 63)) (v := ?_) (a' := ?_) #[true, true, true, true, true, true, true, true, true, true, true, false, true, false, false] rfl rfl (by kernel_rfl) (fun _ _ _ => only_shut) (Or.inl ⟨by rfl, ?_⟩) ?_ ?_
        rotate_left
        · intro w'
          go_simp
          with_reducible rfl
        rotate_left
        · simp only [Act.put, List.setIfInBounds_toArray, List.set_cons_zero, List.set_cons_succ, i64_w, i32_w]
          rfl
        refine pure_ (i := 11) (N := (some 64)) (v := ?_) (a' := ?_) #[true, true, true, true, true, true, true, true, true, true, true, true, true, false, false] rfl rfl (by kernel_rfl) (fun _ _ _ => only_shut) (Or.inl ⟨by rfl, ?_⟩) ?_ ?_
        rotate_left
        · intro w'
          go_simp
          with_reducible rfl
        rotate_left
        · simp only [Act.put, List.setIfInBounds_toArray, List.set_cons_zero, List.set_cons_succ, i64_w, i32_w]
          rfl
        refine one_ (i := 13) (N := none) #[true, true, true, true, true, true, true, true, true, true, true, true, true, true, false] rfl rfl (by kernel_rfl) (by decide) (fun K hK => ?_)
        refine skip_ (by rfl) rfl (exec_store_row 26 (.tmp 15) (.tmp 63) rfl g #[.int .i64 (nS (b.put kk (one &&& other)) x), .int .i64 0] rfl rfl 26 _ (hA.out.get 0 rfl) size26 (sz2 _ _ _ _) (one2 _ _)) ?_
        have hA2 := Aside0.mk (hA.out.row #[.int .i64 (nS (b.put kk (one &&& other)) x), .int .i64 0])
        clear hA
        have hA := hA2
        clear hA2
        generalize hgs : World.setRow _ _ _ = ws at hA ⊢
        clear hgs
        refine hK.out _ _ (hA.out.tail) (fun hHeld => ?_)
        clear hK K
        refine pure_ (i := 14) (N := (some 16)) (v := ?_) (a' := ?_) #[true, true, true, true, true, true, true, true, true, true, true, true, true, true, true] rfl rfl (by kernel_rfl) (fun _ _ _ => only_shut) (Or.inl ⟨by rfl, ?_⟩) ?_ ?_
        rotate_left
        · intro w'
          go_simp
          with_reducible rfl
        rotate_left
        · simp only [Act.put, List.setIfInBounds_toArray, List.set_cons_zero, List.set_cons_succ, i64_w, i32_w]
          rfl
        refine done_ (by kernel_rfl) ?_
        refine ⟨rfl, g, ?_, hA.out⟩
        simp only [putAll, Act.put, List.setIfInBounds_toArray, List.set_cons_zero, List.set_cons_succ]
    · refine value_ (by rfl) rfl (alloc26 _ _ rfl _) ?_
      have hA := Aside0.mk (hI.out.alloc #[.int .i64 0, .int .i64 0] 26)
      clear hI
      generalize hga : World.alloc _ _ = wa at hA ⊢
      clear hga
      generalize hgb : wd.heap.size = g at hA ⊢
      clear hgb
      refine hK.out _ _ (hA.out.tail) (fun hHeld => ?_)
      clear hK K
      refine norm_ (a' := ?_) ?_ ?_
      rotate_left
      · show Act.put _ (some 15) _ = _
        simp only [Act.put, List.setIfInBounds_toArray, List.set_cons_zero, List.set_cons_succ, i64_w, i32_w]
        rfl
      refine one_ (i := 5) (N := (some 59)) #[true, true, true, true, true, true, true, false, false, false, false, false, true, false, false] rfl rfl (by kernel_rfl) (by decide) (fun K hK => ?_)
      refine goes_ Try.func21 (by kernel_rfl) rfl #[.agg #[.bool false, .int .i64 dl, .int .u64 (b.s : Int), .int .u64 (b.i : Int), .int .u64 (b.h : Int), .int .u64 (b.d : Int), .int .u64 (b.m : Int), .int .u64 (b.w : Int)], .int .i64 (kk : Int), .int .u64 ((one &&& other : Nat) : Int)] (by rfl) rfl rfl (by (try simp only [List.map_toArray, List.map_cons, List.map_nil]); first | done | rfl) ?_
      refine (with_any b dl (one &&& other) _ kk HKK.out).mono ?_
      rintro e wc5 ⟨rfl, hb⟩
      refine ⟨_, rfl, ?_⟩
      have hA2 := Aside0.mk (hA.out.below hb)
      clear hA hb
      have hA := hA2
      clear hA2
      refine hK.out _ _ (hA.out.tail) (fun hHeld => ?_)
      clear hK K
      refine norm_ (a' := ?_) ?_ ?_
      rotate_left
      · show Act.put _ (some 59) _ = _
        simp only [Act.put, List.setIfInBounds_toArray, List.set_cons_zero, List.set_cons_succ, i64_w, i32_w]
        rfl
      refine one_ (i := 7) (N := (some 61)) #[true, true, true, true, true, true, true, true, false, false, false, false, true, false, false] rfl rfl (by kernel_rfl) (by decide) (fun K hK => ?_)
      refine goes_ Try.func14 (by kernel_rfl) rfl #[] (by rfl) rfl rfl (by (try simp only [List.map_toArray, List.map_cons, List.map_nil]); first | done | rfl) ?_
      refine (utcZone_any _).mono ?_
      rintro e wc7 ⟨rfl, hb⟩
      refine ⟨_, rfl, ?_⟩
      have hA2 := Aside0.mk (hA.out.below hb)
      clear hA hb
      have hA := hA2
      clear hA2
      refine hK.out _ _ (hA.out.tail) (fun hHeld => ?_)
      clear hK K
      refine norm_ (a' := ?_) ?_ ?_
      rotate_left
      · show Act.put _ (some 61) _ = _
        simp only [Act.put, List.setIfInBounds_toArray, List.set_cons_zero, List.set_cons_succ, i64_w, i32_w]
        rfl
      refine one_ (i := 8) (N := (some 62)) #[true, true, true, true, true, true, true, true, true, false, false, false, true, false, false] rfl rfl (by kernel_rfl) (by decide) (fun K hK => ?_)
      refine goes_ Try.func13 (by kernel_rfl) rfl #[.agg #[.bool false, .int .i64 dl, .int .u64 ((b.put kk (one &&& other)).s : Int), .int .u64 ((b.put kk (one &&& other)).i : Int), .int .u64 ((b.put kk (one &&& other)).h : Int), .int .u64 ((b.put kk (one &&& other)).d : Int), .int .u64 ((b.put kk (one &&& other)).m : Int), .int .u64 ((b.put kk (one &&& other)).w : Int)], .agg #[.int .i64 x, .int .i64 nn], .agg #[.slice none 0 0, .slice none 0 0, .slice none 0 0, .slice none 0 0]] (by rfl) rfl rfl (by (try simp only [List.map_toArray, List.map_cons, List.map_nil]); first | done | rfl) ?_
      refine (implNext_nx (b.put kk (one &&& other)) dl x nn _ (HW.out.put kk _ H3.out) HX.out.2.2.1 HX.out.2.2.2 HX.out.1 HX.out.2.1).mono ?_
      rintro e wc8 ⟨rfl, hb⟩
      refine ⟨_, rfl, ?_⟩
      have hA2 := Aside0.mk (hA.out.below hb)
      clear hA hb
      have hA := hA2
      clear hA2
      refine hK.out _ _ (hA.out.tail) (fun hHeld => ?_)
      clear hK K
      refine norm_ (a' := ?_) ?_ ?_
      rotate_left
      · show Act.put _ (some 62) _ = _
        simp only [Act.put, List.setIfInBounds_toArray, List.set_cons_zero, List.set_cons_succ, i64_w, i32_w]
        rfl
      refine pure_ (i := 9) (N := (some 53)) (v := ?_) (a' := ?_) #[true, true, true, true, true, true, true, true, true, true, false, false, true, false, false] rfl rfl (by kernel_rfl) (fun _ _ _ => only_shut) (Or.inl ⟨by rfl, ?_⟩) ?_ ?_
      rotate_left
      · intro w'
        go_simp
        with_reducible rfl
      rotate_left
      · simp only [Act.put, List.setIfInBounds_toArray, List.set_cons_zero, List.set_cons_succ, i64_w, i32_w]
        rfl
      refine pure_ (i := 10) (N := (some 63)) (v := ?_) (a' := ?_) #[true, true, true, true, true, true, true, true, true, true, true, false, true, false, false] rfl rfl (by kernel_rfl) (fun _ _ _ => only_shut) (Or.inl ⟨by rfl, ?_⟩) ?_ ?_
      rotate_left
      · intro w'
        go_simp
        with_reducible rfl
      rotate_left
      · simp only [Act.put, List.setIfInBounds_toArray, List.set_cons_zero, List.set_cons_succ, i64_w, i32_w]
        rfl
      refine pure_ (i := 11) (N := (some 64)) (v := ?_) (a' := ?_) #[true, true, true, true, true, true, true, true, true, true, true, true, true, false, false] rfl rfl (by kernel_rfl) (fun _ _ _ => only_shut) (Or.inl ⟨by rfl, ?_⟩) ?_ ?_
      rotate_left
      · intro w'
        go_simp
        with_reducible rfl
      rotate_left
      · simp only [Act.put, List.setIfInBounds_toArray, List.set_cons_zero, List.set_cons_succ, i64_w, i32_w]
        rfl
      refine one_ (i := 13) (N := none) #[true, true, true, true, true, true, true, true, true, true, true, true, true, true, false] rfl rfl (by kernel_rfl) (by decide) (fun K hK => ?_)
      refine skip_ (by rfl) rfl (exec_store_row 26 (.tmp 15) (.tmp 63) rfl g #[.int .i64 (nS (b.put kk (one &&& other)) x), .int .i64 0] rfl rfl 26 _ (hA.out.get 0 rfl) size26 (sz2 _ _ _ _) (one2 _ _)) ?_
      have hA2 := Aside0.mk (hA.out.row #[.int .i64 (nS (b.put kk (one &&& other)) x), .int .i64 0])
      clear hA
      have hA := hA2
      clear hA2
      generalize hgs : World.setRow _ _ _ = ws at hA ⊢
      clear hgs
      refine hK.out _ _ (hA.out.tail) (fun hHeld => ?_)
      clear hK K
      refine pure_ (i := 14) (N := (some 16)) (v := ?_) (a' := ?_) #[true, true, true, true, true, true, true, true, true, true, true, true, true, true, true] rfl rfl (by kernel_rfl) (fun _ _ _ => only_shut) (Or.inl ⟨by rfl, ?_⟩) ?_ ?_
      rotate_left
      · intro w'
        go_simp
        with_reducible rfl
      rotate_left
      · simp only [Act.put, List.setIfInBounds_toArray, List.set_cons_zero, List.set_cons_succ, i64_w, i32_w]
        rfl
      refine done_ (by kernel_rfl) ?_
      refine ⟨rfl, g, ?_, hA.out⟩
      simp only [putAll, Act.put, List.setIfInBounds_toArray, List.set_cons_zero, List.set_cons_succ]
  clear hI
  intro g3 wn3 hI0
  have hI := Aside0.mk hI0
  clear hI0
  simp only [putAll, Act.put, List.setIfInBounds_toArray, List.set_cons_zero, List.set_cons_succ]
  have HM := Aside0.mk (nx_meet b kk one other x HS.out)
  have HAF : Aside0 (nF (b.put kk one) x = true → x < nS (b.put kk one) x) := ⟨nS_after⟩
  have HN0 : Aside0 (nF (b.put kk (one &&& other)) x = false → ∀ w', Calls Try.prog 15 #[.agg #[.bool false, .int .i64 dl, .int .u64 ((b.put kk (one &&& other)).s : Int), .int .u64 ((b.put kk (one &&& other)).i : Int), .int .u64 ((b.put kk (one &&& other)).h : Int), .int .u64 ((b.put kk (one &&& other)).d : Int), .int .u64 ((b.put kk (one &&& other)).m : Int), .int .u64 ((b.put kk (one &&& other)).w : Int)], .agg #[.int .i64 x, .int .i64 nn], .agg #[.slice none 0 0, .slice none 0 0, .slice none 0 0, .slice none 0 0]] w' fun e w'' => e = .returned (.bool true) ∧ Below w'.heap.size w' w'') := ⟨fun h w' => by
    have := none_any (b.put kk (one &&& other)) dl x nn w' (HW.out.put kk _ H3.out) HX.out.1 HX.out.2.1
    rw [h] at this
    exact this⟩
  generalize nS (b.put kk one) x = v1 at hI HM HAF ⊢
  generalize nF (b.put kk one) x = q1 at HM HAF HN0 ⊢
  generalize nS (b.put kk other) x = v2 at hI HM HAF ⊢
  generalize nF (b.put kk other) x = q2 at HM HAF HN0 ⊢
  generalize nS (b.put kk (one &&& other)) x = v3 at hI HM HAF ⊢
  generalize nF (b.put kk (one &&& other)) x = q3 at HM HAF HN0 ⊢
  cases q1
  · obtain rfl : q3 = false := HM.out.1 (Or.inl rfl)
    have HN := Aside0.mk (HN0.out rfl)
    go_wp2_with fail
    refine start_ (n := 14) (S := Blk w [(g3, #[.int .i64 v3, .int .i64 0], 26), (g2, #[.int .i64 v2, .int .i64 0], 26), (g1, #[.int .i64 v1, .int .i64 0], 26), (w.heap.size + 1, #[.int .i64 x, .int .i64 nn], 26), (w.heap.size, #[.bool false, .int .i64 dl, .int .u64 (b.s : Int), .int .u64 (b.i : Int), .int .u64 (b.h : Int), .int .u64 (b.d : Int), .int .u64 (b.m : Int), .int .u64 (b.w : Int)], 24)]) (ds := []) #[false, false, false, false, false, false, false, false, false, false, false, false, false, false] (by kernel_rfl) rfl rfl (hI.out.drew) (fun hHeld => ?_)
    have hI2 := Aside0.mk hI.out.drew
    clear hI
    have hI := hI2
    clear hI2
    generalize hwd : World.drew _ = wd at hI hHeld ⊢
    clear hwd
    refine pure_ (i := 0) (N := (some 71)) (v := ?_) (a' := ?_) #[true, false, false, false, false, false, false, false, false, false, false, false, false, false] rfl rfl (by kernel_rfl) (fun _ _ _ h => h) (Or.inl ⟨by rfl, ?_⟩) ?_ ?_
    rotate_left
    · intro w'
      go_simp
      with_reducible rfl
    rotate_left
    · simp only [Act.put, List.setIfInBounds_toArray, List.set_cons_zero, List.set_cons_succ, i64_w, i32_w]
      rfl
    refine pure_ (i := 1) (N := (some 72)) (v := ?_) (a' := ?_) #[true, true, false, false, false, false, false, false, false, false, false, false, false, false] rfl rfl (by kernel_rfl) (fun _ _ _ h => h) (Or.inl ⟨by rfl, ?_⟩) ?_ ?_
    rotate_left
    · intro w'
      go_simp
      with_reducible rfl
    rotate_left
    · simp only [Act.put, List.setIfInBounds_toArray, List.set_cons_zero, List.set_cons_succ, i64_w, i32_w]
      rfl
    refine pure_ (i := 2) (N := (some 73)) (v := ?_) (a' := ?_) #[true, true, true, false, false, false, false, false, false, false, false, false, false, false] rfl rfl (by kernel_rfl) (fun _ _ _ h => h) (Or.inl ⟨by rfl, ?_⟩) ?_ ?_
    rotate_left
    · intro w'
      go_simp
      with_reducible rfl
    rotate_left
    · simp only [Act.put, List.setIfInBounds_toArray, List.set_cons_zero, List.set_cons_succ, i64_w, i32_w]
      rfl
    refine take_ (i := 3) (N := (some 74)) (v := ?_) (a' := ?_) #[true, true, true, true, false, false, false, false, false, false, false, false, false, false] rfl rfl (by kernel_rfl) (fun _ _ _ h => h) (Or.inl ⟨by rfl, ?_⟩) hHeld ?_ ?_
    rotate_left
    · intro w' hS
      refine exec_load_row 24 (.tmp 5) ?_ (w.heap.size) ?_ 24 _ _ (hS.get 4 rfl) Try.underlying24 rfl size24
      · rfl
      · rfl
    rotate_left
    · simp only [Act.put, List.setIfInBounds_toArray, List.set_cons_zero, List.set_cons_succ, i64_w, i32_w]
      rfl
    refine pure_ (i := 4) (N := (some 75)) (v := ?_) (a' := ?_) #[true, true, true, true, true, false, false, false, false, false, false, false, false, false] rfl rfl (by kernel_rfl) (fun _ _ _ h => h) (Or.inl ⟨by rfl, ?_⟩) ?_ ?_
    rotate_left
    · intro w'
      go_simp
      with_reducible rfl
    rotate_left
    · simp only [Act.put, List.setIfInBounds_toArray, List.set_cons_zero, List.set_cons_succ, i64_w, i32_w]
      rfl
    refine pure_ (i := 5) (N := (some 76)) (v := ?_) (a' := ?_) #[true, true, true, true, true, true, false, false, false, false, false, false, false, false] rfl rfl (by kernel_rfl) (fun _ _ _ h => h) (Or.inl ⟨by rfl, ?_⟩) ?_ ?_
    rotate_left
    · intro w'
      go_simp
      with_reducible rfl
    rotate_left
    · simp only [Act.put, List.setIfInBounds_toArray, List.set_cons_zero, List.set_cons_succ, i64_w, i32_w]
      rfl
    refine pure_ (i := 6) (N := (some 77)) (v := ?_) (a' := ?_) #[true, true, true, true, true, true, true, false, false, false, false, false, false, false] rfl rfl (by kernel_rfl) (fun _ _ _ h => h) (Or.inl ⟨by rfl, ?_⟩) ?_ ?_
    rotate_left
    · intro w'
      go_simp
      with_reducible rfl
    rotate_left
    · simp only [Act.put, List.setIfInBounds_toArray, List.set_cons_zero, List.set_cons_succ, i64_w, i32_w]
      rfl
    refine pure_ (i := 7) (N := (some 78)) (v := ?_) (a' := ?_) #[true, true, true, true, true, true, true, true, false, false, false, false, false, false] rfl rfl (by kernel_rfl) (fun _ _ _ h => h) (Or.inl ⟨by rfl, ?_⟩) ?_ ?_
    rotate_left
    · intro w'
      go_simp
      with_reducible rfl
    rotate_left
    · simp only [Act.put, List.setIfInBounds_toArray, List.set_cons_zero, List.set_cons_succ, i64_w, i32_w]
      rfl
    refine take_ (i := 9) (N := (some 80)) (v := ?_) (a' := ?_) #[true, true, true, true, true, true, true, true, false, true, false, false, false, false] rfl rfl (by kernel_rfl) (fun _ _ _ h => h) (Or.inl ⟨by rfl, ?_⟩) hHeld ?_ ?_
    rotate_left
    · intro w' hS
      refine exec_load_row 26 (.tmp 9) ?_ (w.heap.size + 1) ?_ 26 _ _ (hS.get 3 rfl) Try.underlying26 rfl size26
      · rfl
      · rfl
    rotate_left
    · simp only [Act.put, List.setIfInBounds_toArray, List.set_cons_zero, List.set_cons_succ, i64_w, i32_w]
      rfl
    refine one_ (i := 8) (N := (some 79)) #[true, true, true, true, true, true, true, true, true, true, false, false, false, false] rfl rfl (by kernel_rfl) (by decide) (fun K hK => ?_)
    refine goes_ Try.func21 (by kernel_rfl) rfl #[.agg #[.bool false, .int .i64 dl, .int .u64 (b.s : Int), .int .u64 (b.i : Int), .int .u64 (b.h : Int), .int .u64 (b.d : Int), .int .u64 (b.m : Int), .int .u64 (b.w : Int)], .int .i64 (kk : Int), .int .u64 ((one &&& other : Nat) : Int)] (by rfl) rfl rfl (by (try simp only [List.map_toArray, List.map_cons, List.map_nil]); first | done | rfl) ?_
    refine (with_any b dl (one &&& other) _ kk HKK.out).mono ?_
    rintro e w8 ⟨rfl, hb⟩
    refine ⟨_, rfl, ?_⟩
    have hI2 := Aside0.mk (hI.out.below hb)
    clear hI hb
    have hI := hI2
    clear hI2
    refine hK.out _ _ (hI.out) (fun hHeld => ?_)
    clear hK K
    refine norm_ (a' := ?_) ?_ ?_
    rotate_left
    · show Act.put _ (some 79) _ = _
      simp only [Act.put, List.setIfInBounds_toArray, List.set_cons_zero, List.set_cons_succ, i64_w, i32_w]
      rfl
    refine one_ (i := 10) (N := (some 81)) #[true, true, true, true, true, true, true, true, true, true, true, false, false, false] rfl rfl (by kernel_rfl) (by decide) (fun K hK => ?_)
    refine goes_ Try.func14 (by kernel_rfl) rfl #[] (by rfl) rfl rfl (by (try simp only [List.map_toArray, List.map_cons, List.map_nil]); first | done | rfl) ?_
    refine (utcZone_any _).mono ?_
    rintro e w10 ⟨rfl, hb⟩
    refine ⟨_, rfl, ?_⟩
    have hI2 := Aside0.mk (hI.out.below hb)
    clear hI hb
    have hI := hI2
    clear hI2
    refine hK.out _ _ (hI.out) (fun hHeld => ?_)
    clear hK K
    refine norm_ (a' := ?_) ?_ ?_
    rotate_left
    · show Act.put _ (some 81) _ = _
      simp only [Act.put, List.setIfInBounds_toArray, List.set_cons_zero, List.set_cons_succ, i64_w, i32_w]
      rfl
    refine one_ (i := 11) (N := (some 82)) #[true, true, true, true, true, true, true, true, true, true, true, true, false, false] rfl rfl (by kernel_rfl) (by decide) (fun K hK => ?_)
    refine goes_ Try.func15 (by kernel_rfl) rfl #[.agg #[.bool false, .int .i64 dl, .int .u64 ((b.put kk (one &&& other)).s : Int), .int .u64 ((b.put kk (one &&& other)).i : Int), .int .u64 ((b.put kk (one &&& other)).h : Int), .int .u64 ((b.put kk (one &&& other)).d : Int), .int .u64 ((b.put kk (one &&& other)).m : Int), .int .u64 ((b.put kk (one &&& other)).w : Int)], .agg #[.int .i64 x, .int .i64 nn], .agg #[.slice none 0 0, .slice none 0 0, .slice none 0 0, .slice none 0 0]] (by rfl) rfl rfl (by (try simp only [List.map_toArray, List.map_cons, List.map_nil]); first | done | rfl) ?_
    refine (HN.out _).mono ?_
    rintro e w11 ⟨rfl, hb⟩
    refine ⟨_, rfl, ?_⟩
    have hI2 := Aside0.mk (hI.out.below hb)
    clear hI hb
    have hI := hI2
    clear hI2
    refine hK.out _ _ (hI.out) (fun hHeld => ?_)
    clear hK K
    refine norm_ (a' := ?_) ?_ ?_
    rotate_left
    · show Act.put _ (some 82) _ = _
      simp only [Act.put, List.setIfInBounds_toArray, List.set_cons_zero, List.set_cons_succ, i64_w, i32_w]
      rfl
    refine pure_ (i := 12) (N := (some 83)) (v := ?_) (a' := ?_) #[true, true, true, true, true, true, true, true, true, true, true, true, true, false] rfl rfl (by kernel_rfl) (fun _ _ _ h => h) (Or.inl ⟨by rfl, ?_⟩) ?_ ?_
    rotate_left
    · intro w'
      go_simp
      with_reducible rfl
    rotate_left
    · simp only [Act.put, List.setIfInBounds_toArray, List.set_cons_zero, List.set_cons_succ, i64_w, i32_w]
      rfl
    refine pure_ (i := 13) (N := (some 10)) (v := ?_) (a' := ?_) #[true, true, true, true, true, true, true, true, true, true, true, true, true, true] rfl rfl (by kernel_rfl) (fun _ _ _ h => h) (Or.inl ⟨by rfl, ?_⟩) ?_ ?_
    rotate_left
    · intro w'
      go_simp
      with_reducible rfl
    rotate_left
    · simp only [Act.put, List.setIfInBounds_toArray, List.set_cons_zero, List.set_cons_succ, i64_w, i32_w]
      rfl
    refine done_ (by kernel_rfl) ?_
    go_wp2_with fail
    go_ret
    exact ⟨rfl, hI.out.B⟩
  · cases q2
    · obtain rfl : q3 = false := HM.out.1 (Or.inr rfl)
      have HN := Aside0.mk (HN0.out rfl)
      go_wp2_with fail
      refine start_ (n := 14) (S := Blk w [(g3, #[.int .i64 v3, .int .i64 0], 26), (g2, #[.int .i64 v2, .int .i64 0], 26), (g1, #[.int .i64 v1, .int .i64 0], 26), (w.heap.size + 1, #[.int .i64 x, .int .i64 nn], 26), (w.heap.size, #[.bool false, .int .i64 dl, .int .u64 (b.s : Int), .int .u64 (b.i : Int), .int .u64 (b.h : Int), .int .u64 (b.d : Int), .int .u64 (b.m : Int), .int .u64 (b.w : Int)], 24)]) (ds := []) #[false, false, false, false, false, false, false, false, false, false, false, false, false, false] (by kernel_rfl) rfl rfl (hI.out.drew) (fun hHeld => ?_)
      have hI2 := Aside0.mk hI.out.drew
      clear hI
      have hI := hI2
      clear hI2
      generalize hwd : World.drew _ = wd at hI hHeld ⊢
      clear hwd
      refine pure_ (i := 0) (N := (some 71)) (v := ?_) (a' := ?_) #[true, false, false, false, false, false, false, false, false, false, false, false, false, false] rfl rfl (by kernel_rfl) (fun _ _ _ h => h) (Or.inl ⟨by rfl, ?_⟩) ?_ ?_
      rotate_left
      · intro w'
        go_simp
        with_reducible rfl
      rotate_left
      · simp only [Act.put, List.setIfInBounds_toArray, List.set_cons_zero, List.set_cons_succ, i64_w, i32_w]
        rfl
      refine pure_ (i := 1) (N := (some 72)) (v := ?_) (a' := ?_) #[true, true, false, false, false, false, false, false, false, false, false, false, false, false] rfl rfl (by kernel_rfl) (fun _ _ _ h => h) (Or.inl ⟨by rfl, ?_⟩) ?_ ?_
      rotate_left
      · intro w'
        go_simp
        with_reducible rfl
      rotate_left
      · simp only [Act.put, List.setIfInBounds_toArray, List.set_cons_zero, List.set_cons_succ, i64_w, i32_w]
        rfl
      refine pure_ (i := 2) (N := (some 73)) (v := ?_) (a' := ?_) #[true, true, true, false, false, false, false, false, false, false, false, false, false, false] rfl rfl (by kernel_rfl) (fun _ _ _ h => h) (Or.inl ⟨by rfl, ?_⟩) ?_ ?_
      rotate_left
      · intro w'
        go_simp
        with_reducible rfl
      rotate_left
      · simp only [Act.put, List.setIfInBounds_toArray, List.set_cons_zero, List.set_cons_succ, i64_w, i32_w]
        rfl
      refine take_ (i := 3) (N := (some 74)) (v := ?_) (a' := ?_) #[true, true, true, true, false, false, false, false, false, false, false, false, false, false] rfl rfl (by kernel_rfl) (fun _ _ _ h => h) (Or.inl ⟨by rfl, ?_⟩) hHeld ?_ ?_
      rotate_left
      · intro w' hS
        refine exec_load_row 24 (.tmp 5) ?_ (w.heap.size) ?_ 24 _ _ (hS.get 4 rfl) Try.underlying24 rfl size24
        · rfl
        · rfl
      rotate_left
      · simp only [Act.put, List.setIfInBounds_toArray, List.set_cons_zero, List.set_cons_succ, i64_w, i32_w]
        rfl
      refine pure_ (i := 4) (N := (some 75)) (v := ?_) (a' := ?_) #[true, true, true, true, true, false, false, false, false, false, false, false, false, false] rfl rfl (by kernel_rfl) (fun _ _ _ h => h) (Or.inl ⟨by rfl, ?_⟩) ?_ ?_
      rotate_left
      · intro w'
        go_simp
        with_reducible rfl
      rotate_left
      · simp only [Act.put, List.setIfInBounds_toArray, List.set_cons_zero, List.set_cons_succ, i64_w, i32_w]
        rfl
      refine pure_ (i := 5) (N := (some 76)) (v := ?_) (a' := ?_) #[true, true, true, true, true, true, false, false, false, false, false, false, false, false] rfl rfl (by kernel_rfl) (fun _ _ _ h => h) (Or.inl ⟨by rfl, ?_⟩) ?_ ?_
      rotate_left
      · intro w'
        go_simp
        with_reducible rfl
      rotate_left
      · simp only [Act.put, List.setIfInBounds_toArray, List.set_cons_zero, List.set_cons_succ, i64_w, i32_w]
        rfl
      refine pure_ (i := 6) (N := (some 77)) (v := ?_) (a' := ?_) #[true, true, true, true, true, true, true, false, false, false, false, false, false, false] rfl rfl (by kernel_rfl) (fun _ _ _ h => h) (Or.inl ⟨by rfl, ?_⟩) ?_ ?_
      rotate_left
      · intro w'
        go_simp
        with_reducible rfl
      rotate_left
      · simp only [Act.put, List.setIfInBounds_toArray, List.set_cons_zero, List.set_cons_succ, i64_w, i32_w]
        rfl
      refine pure_ (i := 7) (N := (some 78)) (v := ?_) (a' := ?_) #[true, true, true, true, true, true, true, true, false, false, false, false, false, false] rfl rfl (by kernel_rfl) (fun _ _ _ h => h) (Or.inl ⟨by rfl, ?_⟩) ?_ ?_
      rotate_left
      · intro w'
        go_simp
        with_reducible rfl
      rotate_left
      · simp only [Act.put, List.setIfInBounds_toArray, List.set_cons_zero, List.set_cons_succ, i64_w, i32_w]
        rfl
      refine take_ (i := 9) (N := (some 80)) (v := ?_) (a' := ?_) #[true, true, true, true, true, true, true, true, false, true, false, false, false, false] rfl rfl (by kernel_rfl) (fun _ _ _ h => h) (Or.inl ⟨by rfl, ?_⟩) hHeld ?_ ?_
      rotate_left
      · intro w' hS
        refine exec_load_row 26 (.tmp 9) ?_ (w.heap.size + 1) ?_ 26 _ _ (hS.get 3 rfl) Try.underlying26 rfl size26
        · rfl
        · rfl
      rotate_left
      · simp only [Act.put, List.setIfInBounds_toArray, List.set_cons_zero, List.set_cons_succ, i64_w, i32_w]
        rfl
      refine one_ (i := 8) (N := (some 79)) #[true, true, true, true, true, true, true, true, true, true, false, false, false, false] rfl rfl (by kernel_rfl) (by decide) (fun K hK => ?_)
      refine goes_ Try.func21 (by kernel_rfl) rfl #[.agg #[.bool false, .int .i64 dl, .int .u64 (b.s : Int), .int .u64 (b.i : Int), .int .u64 (b.h : Int), .int .u64 (b.d : Int), .int .u64 (b.m : Int), .int .u64 (b.w : Int)], .int .i64 (kk : Int), .int .u64 ((one &&& other : Nat) : Int)] (by rfl) rfl rfl (by (try simp only [List.map_toArray, List.map_cons, List.map_nil]); first | done | rfl) ?_
      refine (with_any b dl (one &&& other) _ kk HKK.out).mono ?_
      rintro e w8 ⟨rfl, hb⟩
      refine ⟨_, rfl, ?_⟩
      have hI2 := Aside0.mk (hI.out.below hb)
      clear hI hb
      have hI := hI2
      clear hI2
      refine hK.out _ _ (hI.out) (fun hHeld => ?_)
      clear hK K
      refine norm_ (a' := ?_) ?_ ?_
      rotate_left
      · show Act.put _ (some 79) _ = _
        simp only [Act.put, List.setIfInBounds_toArray, List.set_cons_zero, List.set_cons_succ, i64_w, i32_w]
        rfl
      refine one_ (i := 10) (N := (some 81)) #[true, true, true, true, true, true, true, true, true, true, true, false, false, false] rfl rfl (by kernel_rfl) (by decide) (fun K hK => ?_)
      refine goes_ Try.func14 (by kernel_rfl) rfl #[] (by rfl) rfl rfl (by (try simp only [List.map_toArray, List.map_cons, List.map_nil]); first | done | rfl) ?_
      refine (utcZone_any _).mono ?_
      rintro e w10 ⟨rfl, hb⟩
      refine ⟨_, rfl, ?_⟩
      have hI2 := Aside0.mk (hI.out.below hb)
      clear hI hb
      have hI := hI2
      clear hI2
      refine hK.out _ _ (hI.out) (fun hHeld => ?_)
      clear hK K
      refine norm_ (a' := ?_) ?_ ?_
      rotate_left
      · show Act.put _ (some 81) _ = _
        simp only [Act.put, List.setIfInBounds_toArray, List.set_cons_zero, List.set_cons_succ, i64_w, i32_w]
        rfl
      refine one_ (i := 11) (N := (some 82)) #[true, true, true, true, true, true, true, true, true, true, true, true, false, false] rfl rfl (by kernel_rfl) (by decide) (fun K hK => ?_)
      refine goes_ Try.func15 (by kernel_rfl) rfl #[.agg #[.bool false, .int .i64 dl, .int .u64 ((b.put kk (one &&& other)).s : Int), .int .u64 ((b.put kk (one &&& other)).i : Int), .int .u64 ((b.put kk (one &&& other)).h : Int), .int .u64 ((b.put kk (one &&& other)).d : Int), .int .u64 ((b.put kk (one &&& other)).m : Int), .int .u64 ((b.put kk (one &&& other)).w : Int)], .agg #[.int .i64 x, .int .i64 nn], .agg #[.slice none 0 0, .slice none 0 0, .slice none 0 0, .slice none 0 0]] (by rfl) rfl rfl (by (try simp only [List.map_toArray, List.map_cons, List.map_nil]); first | done | rfl) ?_
      refine (HN.out _).mono ?_
      rintro e w11 ⟨rfl, hb⟩
      refine ⟨_, rfl, ?_⟩
      have hI2 := Aside0.mk (hI.out.below hb)
      clear hI hb
      have hI := hI2
      clear hI2
      refine hK.out _ _ (hI.out) (fun hHeld => ?_)
      clear hK K
      refine norm_ (a' := ?_) ?_ ?_
      rotate_left
      · show Act.put _ (some 82) _ = _
        simp only [Act.put, List.setIfInBounds_toArray, List.set_cons_zero, List.set_cons_succ, i64_w, i32_w]
        rfl
      refine pure_ (i := 12) (N := (some 83)) (v := ?_) (a' := ?_) #[true, true, true, true, true, true, true, true, true, true, true, true, true, false] rfl rfl (by kernel_rfl) (fun _ _ _ h => h) (Or.inl ⟨by rfl, ?_⟩) ?_ ?_
      rotate_left
      · intro w'
        go_simp
        with_reducible rfl
      rotate_left
      · simp only [Act.put, List.setIfInBounds_toArray, List.set_cons_zero, List.set_cons_succ, i64_w, i32_w]
        rfl
      refine pure_ (i := 13) (N := (some 10)) (v := ?_) (a' := ?_) #[true, true, true, true, true, true, true, true, true, true, true, true, true, true] rfl rfl (by kernel_rfl) (fun _ _ _ h => h) (Or.inl ⟨by rfl, ?_⟩) ?_ ?_
      rotate_left
      · intro w'
        go_simp
        with_reducible rfl
      rotate_left
      · simp only [Act.put, List.setIfInBounds_toArray, List.set_cons_zero, List.set_cons_succ, i64_w, i32_w]
        rfl
      refine done_ (by kernel_rfl) ?_
      go_wp2_with fail
      go_ret
      exact ⟨rfl, hI.out.B⟩
    · by_cases ha : v1 = v2
      · obtain ⟨rfl, rfl⟩ := HM.out.2.1 rfl rfl ha
        subst ha
        have HBF : Aside0 (spec_CronBefore.f x nn v3 0 = some true) := ⟨by unfold spec_CronBefore.f; rw [if_pos (HAF.out rfl)]⟩
        clear HM HAF HN0
        go_upto_region 9 with (first | ((with_reducible refine wpList_isCons ?_); refine wpList_load_row rfl 26 (.tmp 11) rfl (g1) rfl 26 _ (0, 0) _ (hI.out.get 2 rfl) Try.underlying26 rfl size26 ?_) | ((with_reducible refine wpList_isCons ?_); refine wpList_load_row rfl 26 (.tmp 13) rfl (g2) rfl 26 _ (0, 0) _ (hI.out.get 1 rfl) Try.underlying26 rfl size26 ?_))
        go_wp2_with (first | ((with_reducible refine wpList_isCons ?_); refine wpList_load_row_g 26 (.tmp 15) rfl rfl (g3) rfl 26 _ (0, 0) _ (hI.out.get 0 rfl) Try.underlying26 rfl size26 ?_) | ((with_reducible refine wpList_isCons ?_); refine wpList_load_row_g 26 (.tmp 11) rfl rfl (g1) rfl 26 _ (0, 0) _ (hI.out.get 2 rfl) Try.underlying26 rfl size26 ?_) | ((with_reducible refine wpList_isCons ?_); refine wpList_load_row_g 26 (.tmp 9) rfl rfl (w.heap.size + 1) rfl 26 _ (0, 0) _ (hI.out.get 3 rfl) Try.underlying26 rfl size26 ?_) | (go_at_call 16; (with_reducible refine (spec_CronBefore.calls _ _ _ _ _ _ HBF.out).mono ?_); rintro e wb ⟨rfl, hb⟩; have hI2 := Aside0.mk (hI.out.below hb); clear hI hb; have hI := hI2; clear hI2))
        go_ret
        exact ⟨rfl, hI.out.B⟩
      · have e1 : (v1 == v2) = false := beq_eq_false_iff_ne.2 ha
        clear ha
        cases q3
        · clear HM HAF HN0
          go_upto_region 10 with (first | ((with_reducible refine wpList_isCons ?_); refine wpList_load_row rfl 26 (.tmp 11) rfl (g1) rfl 26 _ (0, 0) _ (hI.out.get 2 rfl) Try.underlying26 rfl size26 ?_) | ((with_reducible refine wpList_isCons ?_); refine wpList_load_row rfl 26 (.tmp 13) rfl (g2) rfl 26 _ (0, 0) _ (hI.out.get 1 rfl) Try.underlying26 rfl size26 ?_))
          go_wp2_with fail
          go_ret
          exact ⟨rfl, hI.out.B⟩
        · obtain ⟨hl1, hl2⟩ := HM.out.2.2 rfl rfl rfl
          have HB1 : Aside0 (spec_CronBefore.f v3 0 v1 0 = some false) := ⟨by rw [before_f, decide_eq_false (by omega)]⟩
          have HB2 : Aside0 (spec_CronBefore.f v3 0 v2 0 = some false) := ⟨by rw [before_f, decide_eq_false (by omega)]⟩
          clear hl1 hl2 HM HAF HN0
          go_upto_region 10 with (first | ((with_reducible refine wpList_isCons ?_); refine wpList_load_row rfl 26 (.tmp 11) rfl (g1) rfl 26 _ (0, 0) _ (hI.out.get 2 rfl) Try.underlying26 rfl size26 ?_) | ((with_reducible refine wpList_isCons ?_); refine wpList_load_row rfl 26 (.tmp 13) rfl (g2) rfl 26 _ (0, 0) _ (hI.out.get 1 rfl) Try.underlying26 rfl size26 ?_))
          go_wp2_with (first | ((with_reducible refine wpList_isCons ?_); refine wpList_load_row_g 26 (.tmp 15) rfl rfl (g3) rfl 26 _ (0, 0) _ (hI.out.get 0 rfl) Try.underlying26 rfl size26 ?_) | ((with_reducible refine wpList_isCons ?_); refine wpList_load_row_g 26 (.tmp 11) rfl rfl (g1) rfl 26 _ (0, 0) _ (hI.out.get 2 rfl) Try.underlying26 rfl size26 ?_) | ((with_reducible refine wpList_isCons ?_); refine wpList_load_row_g 26 (.tmp 13) rfl rfl (g2) rfl 26 _ (0, 0) _ (hI.out.get 1 rfl) Try.underlying26 rfl size26 ?_) | (first | (go_at_call 16; (with_reducible refine (spec_CronBefore.calls _ _ _ _ _ _ HB1.out).mono ?_); rintro e wb ⟨rfl, hb⟩; have hI2 := Aside0.mk (hI.out.below hb); clear hI hb; have hI := hI2; clear hI2) | (go_at_call 16; (with_reducible refine (spec_CronBefore.calls _ _ _ _ _ _ HB2.out).mono ?_); rintro e wb ⟨rfl, hb⟩; have hI2 := Aside0.mk (hI.out.below hb); clear hI hb; have hI := hI2; clear hI2)))
          go_ret
          exact ⟨rfl, hI.out.B⟩
end Go.Proofs.Ytlgdaegaahnkbaa.Tm
