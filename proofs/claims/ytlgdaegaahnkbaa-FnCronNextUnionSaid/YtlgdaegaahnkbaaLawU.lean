/- FnCronNextUnion: with the values of two sets the next activation is the earlier of the two, the walk (printed by gen_lu.py). -/
import Derived.Test.YtlgdaegaahnkbaaNxP
namespace Go.Proofs.Ytlgdaegaahnkbaa.Tm
open Go Go.RowKit Cal MC
open Go.Proofs.YtlgdaegaahnkbaaW.PrintWords Go.Proofs.YtlgdaegaahnkbaaW.PrintLast Go.Proofs.YtlgdaegaahnkbaaW.PrintMore
set_option linter.unusedVariables false
set_option linter.unusedSimpArgs false
set_option maxHeartbeats 8000000 in
set_option maxRecDepth 100000 in
theorem union_bad (ev : Bool) (dl k x nn : Int) (b : SB) (one other : Nat) (w : World) (hc : laws_cronCase.f ev dl b.s b.i b.h b.d b.m b.w x nn = some false) :
    Calls Try.prog 4 #[.agg #[.bool ev, .int .i64 dl, .int .u64 (b.s : Int), .int .u64 (b.i : Int), .int .u64 (b.h : Int), .int .u64 (b.d : Int), .int .u64 (b.m : Int), .int .u64 (b.w : Int)], .int .i64 k, .int .u64 (one : Int), .int .u64 (other : Int), .agg #[.int .i64 x, .int .i64 nn]] w fun e w' => e = .returned (.bool true) ∧ Below w.heap.size w w' := by
  have HC := Aside0.mk hc
  have hI : Aside0 (Blk w [(w.heap.size + 1, #[.int .i64 x, .int .i64 nn], 26), (w.heap.size, #[.bool ev, .int .i64 dl, .int .u64 (b.s : Int), .int .u64 (b.i : Int), .int .u64 (b.h : Int), .int .u64 (b.d : Int), .int .u64 (b.m : Int), .int .u64 (b.w : Int)], 24)] ((w.alloc (.cells #[.bool ev, .int .i64 dl, .int .u64 (b.s : Int), .int .u64 (b.i : Int), .int .u64 (b.h : Int), .int .u64 (b.d : Int), .int .u64 (b.m : Int), .int .u64 (b.w : Int)] 24)).alloc (.cells #[.int .i64 x, .int .i64 nn] 26))) := ⟨by
    have := (((Blk.nil w).alloc #[.bool ev, .int .i64 dl, .int .u64 (b.s : Int), .int .u64 (b.i : Int), .int .u64 (b.h : Int), .int .u64 (b.d : Int), .int .u64 (b.m : Int), .int .u64 (b.w : Int)] 24).alloc #[.int .i64 x, .int .i64 nn] 26)
    simpa only [World.size_alloc] using this⟩
  clear hc
  go_enter Try.func4, Try.ntmps4
  go_wp2_with (go_at_call 11; (with_reducible refine (laws_cronCase.calls _ _ _ _ _ _ _ _ _ _ _ _ HC.out).mono ?_); rintro e wa1 ⟨rfl, hb⟩; have hI2 := Aside0.mk (hI.out.below hb); clear hI hb; have hI := hI2; clear hI2)
  go_ret
  exact ⟨rfl, hI.out.B⟩
set_option maxHeartbeats 8000000 in
set_option maxRecDepth 100000 in
theorem union_kind (dl k x nn : Int) (b : SB) (one other : Nat) (w : World) (hc : laws_cronCase.f false dl b.s b.i b.h b.d b.m b.w x nn = some true) (hk : spec_CronIsKind.f k = some false) :
    Calls Try.prog 4 #[.agg #[.bool false, .int .i64 dl, .int .u64 (b.s : Int), .int .u64 (b.i : Int), .int .u64 (b.h : Int), .int .u64 (b.d : Int), .int .u64 (b.m : Int), .int .u64 (b.w : Int)], .int .i64 k, .int .u64 (one : Int), .int .u64 (other : Int), .agg #[.int .i64 x, .int .i64 nn]] w fun e w' => e = .returned (.bool true) ∧ Below w.heap.size w w' := by
  have HC := Aside0.mk hc
  have HK := Aside0.mk hk
  have hI : Aside0 (Blk w [(w.heap.size + 1, #[.int .i64 x, .int .i64 nn], 26), (w.heap.size, #[.bool false, .int .i64 dl, .int .u64 (b.s : Int), .int .u64 (b.i : Int), .int .u64 (b.h : Int), .int .u64 (b.d : Int), .int .u64 (b.m : Int), .int .u64 (b.w : Int)], 24)] ((w.alloc (.cells #[.bool false, .int .i64 dl, .int .u64 (b.s : Int), .int .u64 (b.i : Int), .int .u64 (b.h : Int), .int .u64 (b.d : Int), .int .u64 (b.m : Int), .int .u64 (b.w : Int)] 24)).alloc (.cells #[.int .i64 x, .int .i64 nn] 26))) := ⟨by
    have := (((Blk.nil w).alloc #[.bool false, .int .i64 dl, .int .u64 (b.s : Int), .int .u64 (b.i : Int), .int .u64 (b.h : Int), .int .u64 (b.d : Int), .int .u64 (b.m : Int), .int .u64 (b.w : Int)] 24).alloc #[.int .i64 x, .int .i64 nn] 26)
    simpa only [World.size_alloc] using this⟩
  clear hc hk
  go_enter Try.func4, Try.ntmps4
  go_wp2_with (first | (go_at_call 11; (with_reducible refine (laws_cronCase.calls _ _ _ _ _ _ _ _ _ _ _ _ HC.out).mono ?_); rintro e wa1 ⟨rfl, hb⟩; have hI2 := Aside0.mk (hI.out.below hb); clear hI hb; have hI := hI2; clear hI2) | (go_at_call 20; (with_reducible refine (spec_CronIsKind.calls _ _ _ HK.out).mono ?_); rintro e wa2 ⟨rfl, hd⟩; have hI2 := Aside0.mk (hI.out.below hd.below); clear hI hd; have hI := hI2; clear hI2))
  go_ret
  exact ⟨rfl, hI.out.B⟩
set_option maxHeartbeats 8000000 in
set_option maxRecDepth 100000 in
theorem union_star (dl k x nn : Int) (b : SB) (one other : Nat) (w : World) (h1 : one < 18446744073709551616) (h2 : other < 18446744073709551616) (hs : starV one ≠ starV other) (hc : laws_cronCase.f false dl b.s b.i b.h b.d b.m b.w x nn = some true) (hk : spec_CronIsKind.f k = some true) :
    Calls Try.prog 4 #[.agg #[.bool false, .int .i64 dl, .int .u64 (b.s : Int), .int .u64 (b.i : Int), .int .u64 (b.h : Int), .int .u64 (b.d : Int), .int .u64 (b.m : Int), .int .u64 (b.w : Int)], .int .i64 k, .int .u64 (one : Int), .int .u64 (other : Int), .agg #[.int .i64 x, .int .i64 nn]] w fun e w' => e = .returned (.bool true) ∧ Below w.heap.size w w' := by
  have HC := Aside0.mk hc
  have HK := Aside0.mk hk
  have hI : Aside0 (Blk w [(w.heap.size + 1, #[.int .i64 x, .int .i64 nn], 26), (w.heap.size, #[.bool false, .int .i64 dl, .int .u64 (b.s : Int), .int .u64 (b.i : Int), .int .u64 (b.h : Int), .int .u64 (b.d : Int), .int .u64 (b.m : Int), .int .u64 (b.w : Int)], 24)] ((w.alloc (.cells #[.bool false, .int .i64 dl, .int .u64 (b.s : Int), .int .u64 (b.i : Int), .int .u64 (b.h : Int), .int .u64 (b.d : Int), .int .u64 (b.m : Int), .int .u64 (b.w : Int)] 24)).alloc (.cells #[.int .i64 x, .int .i64 nn] 26))) := ⟨by
    have := (((Blk.nil w).alloc #[.bool false, .int .i64 dl, .int .u64 (b.s : Int), .int .u64 (b.i : Int), .int .u64 (b.h : Int), .int .u64 (b.d : Int), .int .u64 (b.m : Int), .int .u64 (b.w : Int)] 24).alloc #[.int .i64 x, .int .i64 nn] 26)
    simpa only [World.size_alloc] using this⟩
  have s1 := star_bits one h1
  have s2 := star_bits other h2
  have s3 : (starV one != starV other) = true := by simpa using hs
  clear hc hk hs h1 h2
  go_enter Try.func4, Try.ntmps4
  go_wp2_with (first | (go_at_call 11; (with_reducible refine (laws_cronCase.calls _ _ _ _ _ _ _ _ _ _ _ _ HC.out).mono ?_); rintro e wa1 ⟨rfl, hb⟩; have hI2 := Aside0.mk (hI.out.below hb); clear hI hb; have hI := hI2; clear hI2) | (go_at_call 20; (with_reducible refine (spec_CronIsKind.calls _ _ _ HK.out).mono ?_); rintro e wa2 ⟨rfl, hd⟩; have hI2 := Aside0.mk (hI.out.below hd.below); clear hI hd; have hI := hI2; clear hI2))
  go_ret
  exact ⟨rfl, hI.out.B⟩
set_option maxHeartbeats 8000000 in
set_option maxRecDepth 100000 in
theorem union_main (dl x nn : Int) (kk : Nat) (b : SB) (one other : Nat) (w : World) (h1 : one < 18446744073709551616) (h2 : other < 18446744073709551616) (hs : starV one = starV other) (hkk : kk < 6) (hw : Wf b) (x0 : -62135596800 ≤ x) (x1 : x ≤ 253402300799) (n0 : 0 ≤ nn) (n1 : nn < 1000000000) (hc : laws_cronCase.f false dl b.s b.i b.h b.d b.m b.w x nn = some true) (hk : spec_CronIsKind.f (kk : Int) = some true) :
    Calls Try.prog 4 #[.agg #[.bool false, .int .i64 dl, .int .u64 (b.s : Int), .int .u64 (b.i : Int), .int .u64 (b.h : Int), .int .u64 (b.d : Int), .int .u64 (b.m : Int), .int .u64 (b.w : Int)], .int .i64 (kk : Int), .int .u64 (one : Int), .int .u64 (other : Int), .agg #[.int .i64 x, .int .i64 nn]] w fun e w' => e = .returned (.bool true) ∧ Below w.heap.size w w' := by
  have HC := Aside0.mk hc
  have HK := Aside0.mk hk
  have hI : Aside0 (Blk w [(w.heap.size + 1, #[.int .i64 x, .int .i64 nn], 26), (w.heap.size, #[.bool false, .int .i64 dl, .int .u64 (b.s : Int), .int .u64 (b.i : Int), .int .u64 (b.h : Int), .int .u64 (b.d : Int), .int .u64 (b.m : Int), .int .u64 (b.w : Int)], 24)] ((w.alloc (.cells #[.bool false, .int .i64 dl, .int .u64 (b.s : Int), .int .u64 (b.i : Int), .int .u64 (b.h : Int), .int .u64 (b.d : Int), .int .u64 (b.m : Int), .int .u64 (b.w : Int)] 24)).alloc (.cells #[.int .i64 x, .int .i64 nn] 26))) := ⟨by
    have := (((Blk.nil w).alloc #[.bool false, .int .i64 dl, .int .u64 (b.s : Int), .int .u64 (b.i : Int), .int .u64 (b.h : Int), .int .u64 (b.d : Int), .int .u64 (b.m : Int), .int .u64 (b.w : Int)] 24).alloc #[.int .i64 x, .int .i64 nn] 26)
    simpa only [World.size_alloc] using this⟩
  have s1 := star_bits one h1
  rw [hs] at s1
  have s2 := star_bits other h2
  have H1 := Aside0.mk h1
  have H2 := Aside0.mk h2
  have H3 := Aside0.mk (or_lt one other h1 h2)
  have HE := Aside0.mk (earlier_nx b kk one other x ((starV_eq one other).1 hs))
  have HKK := Aside0.mk hkk
  have HW := Aside0.mk hw
  have HX := Aside0.mk (And.intro x0 (And.intro x1 (And.intro n0 n1)))
  have hor := bits_or_u64_nat one other h1 h2
  clear hc hk hs h1 h2 hkk hw x0 x1 n0 n1
  go_enter Try.func4, Try.ntmps4
  go_wp2_with (first | (go_at_call 11; (with_reducible refine (laws_cronCase.calls _ _ _ _ _ _ _ _ _ _ _ _ HC.out).mono ?_); rintro e wa1 ⟨rfl, hb⟩; have hI2 := Aside0.mk (hI.out.below hb); clear hI hb; have hI := hI2; clear hI2) | (go_at_call 20; (with_reducible refine (spec_CronIsKind.calls _ _ _ HK.out).mono ?_); rintro e wa2 ⟨rfl, hd⟩; have hI2 := Aside0.mk (hI.out.below hd.below); clear hI hd; have hI := hI2; clear hI2))
  clear s1 s2
  refine region_split (fun g => [(36, .agg #[.bool false, .int .i64 dl, .int .u64 (b.s : Int), .int .u64 (b.i : Int), .int .u64 (b.h : Int), .int .u64 (b.d : Int), .int .u64 (b.m : Int), .int .u64 (b.w : Int)]), (37, .int .i64 (kk : Int)), (38, .int .u64 (one : Int)), (39, .agg #[.bool false, .int .i64 dl, .int .u64 ((b.put kk one).s : Int), .int .u64 ((b.put kk one).i : Int), .int .u64 ((b.put kk one).h : Int), .int .u64 ((b.put kk one).d : Int), .int .u64 ((b.put kk one).m : Int), .int .u64 ((b.put kk one).w : Int)]), (40, .agg #[.int .i64 x, .int .i64 nn]), (41, .agg #[.slice none 0 0, .slice none 0 0, .slice none 0 0, .slice none 0 0]), (42, .tuple #[.agg #[.int .i64 (nS (b.put kk one) x), .int .i64 0], .bool (nF (b.put kk one) x)]), (35, .tuple #[.agg #[.int .i64 (nS (b.put kk one) x), .int .i64 0], .bool (nF (b.put kk one) x)]), (43, .agg #[.int .i64 (nS (b.put kk one) x), .int .i64 0]), (44, .bool (nF (b.put kk one) x)), (11, .pointer (some ⟨g, 0, none⟩)), (12, .bool (nF (b.put kk one) x))]) (fun g w' => Blk w ((g, #[.int .i64 (nS (b.put kk one) x), .int .i64 0], 26) :: [(w.heap.size + 1, #[.int .i64 x, .int .i64 nn], 26), (w.heap.size, #[.bool false, .int .i64 dl, .int .u64 (b.s : Int), .int .u64 (b.i : Int), .int .u64 (b.h : Int), .int .u64 (b.d : Int), .int .u64 (b.m : Int), .int .u64 (b.w : Int)], 24)]) w') ?_ ?_
  · refine start_ (n := 13) (S := Blk w [(w.heap.size + 1, #[.int .i64 x, .int .i64 nn], 26), (w.heap.size, #[.bool false, .int .i64 dl, .int .u64 (b.s : Int), .int .u64 (b.i : Int), .int .u64 (b.h : Int), .int .u64 (b.d : Int), .int .u64 (b.m : Int), .int .u64 (b.w : Int)], 24)]) (ds := []) #[false, false, false, false, false, false, false, false, false, false, false, false, false] (by kernel_rfl) rfl rfl (hI.out.drew) (fun hHeld => ?_)
    have hI2 := Aside0.mk hI.out.drew
    clear hI
    have hI := hI2
    clear hI2
    generalize hwd : World.drew _ = wd at hI hHeld ⊢
    clear hwd
    refine take_ (i := 0) (N := (some 36)) (v := ?_) (a' := ?_) #[true, false, false, false, false, false, false, false, false, false, false, false, false] rfl rfl (by kernel_rfl) (fun _ _ _ => only_shut) (Or.inl ⟨by rfl, ?_⟩) hHeld ?_ ?_
    rotate_left
    · intro w' hS
      refine exec_load_row 24 (.tmp 5) ?_ (w.heap.size) ?_ 24 _ _ (hS.get 1 rfl) Try.underlying24 rfl size24
      · rfl
      · rfl
    rotate_left
    · simp only [Act.put, List.setIfInBounds_toArray, List.set_cons_zero, List.set_cons_succ, i64_w, i32_w]
      rfl
    refine pure_ (i := 1) (N := (some 37)) (v := ?_) (a' := ?_) #[true, true, false, false, false, false, false, false, false, false, false, false, false] rfl rfl (by kernel_rfl) (fun _ _ _ => only_shut) (Or.inl ⟨by rfl, ?_⟩) ?_ ?_
    rotate_left
    · intro w'
      go_simp
      with_reducible rfl
    rotate_left
    · simp only [Act.put, List.setIfInBounds_toArray, List.set_cons_zero, List.set_cons_succ, i64_w, i32_w]
      rfl
    refine pure_ (i := 2) (N := (some 38)) (v := ?_) (a' := ?_) #[true, true, true, false, false, false, false, false, false, false, false, false, false] rfl rfl (by kernel_rfl) (fun _ _ _ => only_shut) (Or.inl ⟨by rfl, ?_⟩) ?_ ?_
    rotate_left
    · intro w'
      go_simp
      with_reducible rfl
    rotate_left
    · simp only [Act.put, List.setIfInBounds_toArray, List.set_cons_zero, List.set_cons_succ, i64_w, i32_w]
      rfl
    refine take_ (i := 4) (N := (some 40)) (v := ?_) (a' := ?_) #[true, true, true, false, true, false, false, false, false, false, false, false, false] rfl rfl (by kernel_rfl) (fun _ _ _ => only_shut) (Or.inl ⟨by rfl, ?_⟩) hHeld ?_ ?_
    rotate_left
    · intro w' hS
      refine exec_load_row 26 (.tmp 9) ?_ (w.heap.size + 1) ?_ 26 _ _ (hS.get 0 rfl) Try.underlying26 rfl size26
      · rfl
      · rfl
    rotate_left
    · simp only [Act.put, List.setIfInBounds_toArray, List.set_cons_zero, List.set_cons_succ, i64_w, i32_w]
      rfl
    refine two_ (i := 3) (j := 10) (Ni := (some 39)) (Nj := (some 11)) #[true, true, true, true, true, false, false, false, false, false, false, false, false] #[true, true, true, false, true, false, false, false, false, false, true, false, false] rfl rfl rfl rfl (by kernel_rfl) (by decide) (by decide) (fun K hK => ?_) (fun K hK => ?_)
    · refine goes_ Try.func21 (by kernel_rfl) rfl #[.agg #[.bool false, .int .i64 dl, .int .u64 (b.s : Int), .int .u64 (b.i : Int), .int .u64 (b.h : Int), .int .u64 (b.d : Int), .int .u64 (b.m : Int), .int .u64 (b.w : Int)], .int .i64 (kk : Int), .int .u64 ((one : Nat) : Int)] (by rfl) rfl rfl (by (try simp only [List.map_toArray, List.map_cons, List.map_nil]); first | done | rfl) ?_
      refine (with_any b dl (one) _ kk HKK.out).mono ?_
      rintro e wc3 ⟨rfl, hb⟩
      refine ⟨_, rfl, ?_⟩
      have hI2 := Aside0.mk (hI.out.below hb)
      clear hI hb
      have hI := hI2
      clear hI2
      refine hK.out _ _ (hI.out) (fun hHeld => ?_)
      clear hK K
      refine norm_ (a' := ?_) ?_ ?_
      rotate_left
      · show Act.put _ (some 39) _ = _
        simp only [Act.put, List.setIfInBounds_toArray, List.set_cons_zero, List.set_cons_succ, i64_w, i32_w]
        rfl
      refine two_ (i := 5) (j := 10) (Ni := (some 41)) (Nj := (some 11)) #[true, true, true, true, true, true, false, false, false, false, false, false, false] #[true, true, true, true, true, false, false, false, false, false, true, false, false] rfl rfl rfl rfl (by kernel_rfl) (by decide) (by decide) (fun K hK => ?_) (fun K hK => ?_)
      · refine goes_ Try.func14 (by kernel_rfl) rfl #[] (by rfl) rfl rfl (by (try simp only [List.map_toArray, List.map_cons, List.map_nil]); first | done | rfl) ?_
        refine (utcZone_any _).mono ?_
        rintro e wc5 ⟨rfl, hb⟩
        refine ⟨_, rfl, ?_⟩
        have hI2 := Aside0.mk (hI.out.below hb)
        clear hI hb
        have hI := hI2
        clear hI2
        refine hK.out _ _ (hI.out) (fun hHeld => ?_)
        clear hK K
        refine norm_ (a' := ?_) ?_ ?_
        rotate_left
        · show Act.put _ (some 41) _ = _
          simp only [Act.put, List.setIfInBounds_toArray, List.set_cons_zero, List.set_cons_succ, i64_w, i32_w]
          rfl
        refine two_ (i := 6) (j := 10) (Ni := (some 42)) (Nj := (some 11)) #[true, true, true, true, true, true, true, false, false, false, false, false, false] #[true, true, true, true, true, true, false, false, false, false, true, false, false] rfl rfl rfl rfl (by kernel_rfl) (by decide) (by decide) (fun K hK => ?_) (fun K hK => ?_)
        · refine goes_ Try.func13 (by kernel_rfl) rfl #[.agg #[.bool false, .int .i64 dl, .int .u64 ((b.put kk one).s : Int), .int .u64 ((b.put kk one).i : Int), .int .u64 ((b.put kk one).h : Int), .int .u64 ((b.put kk one).d : Int), .int .u64 ((b.put kk one).m : Int), .int .u64 ((b.put kk one).w : Int)], .agg #[.int .i64 x, .int .i64 nn], .agg #[.slice none 0 0, .slice none 0 0, .slice none 0 0, .slice none 0 0]] (by rfl) rfl rfl (by (try simp only [List.map_toArray, List.map_cons, List.map_nil]); first | done | rfl) ?_
          refine (implNext_nx (b.put kk one) dl x nn _ (HW.out.put kk _ H1.out) HX.out.2.2.1 HX.out.2.2.2 HX.out.1 HX.out.2.1).mono ?_
          rintro e wc6 ⟨rfl, hb⟩
          refine ⟨_, rfl, ?_⟩
          have hI2 := Aside0.mk (hI.out.below hb)
          clear hI hb
          have hI := hI2
          clear hI2
          refine hK.out _ _ (hI.out) (fun hHeld => ?_)
          clear hK K
          refine norm_ (a' := ?_) ?_ ?_
          rotate_left
          · show Act.put _ (some 42) _ = _
            simp only [Act.put, List.setIfInBounds_toArray, List.set_cons_zero, List.set_cons_succ, i64_w, i32_w]
            rfl
          refine pure_ (i := 7) (N := (some 35)) (v := ?_) (a' := ?_) #[true, true, true, true, true, true, true, true, false, false, false, false, false] rfl rfl (by kernel_rfl) (fun _ _ _ => only_shut) (Or.inl ⟨by rfl, ?_⟩) ?_ ?_
          rotate_left
          · intro w'
            go_simp
            with_reducible rfl
          rotate_left
          · simp only [Act.put, List.setIfInBounds_toArray, List.set_cons_zero, List.set_cons_succ, i64_w, i32_w]
            rfl
          refine pure_ (i := 8) (N := (some 43)) (v := ?_) (a' := ?_) #[true, true, true, true, true, true, true, true, true, false, false, false, false] rfl rfl (by kernel_rfl) (fun _ _ _ => only_shut) (Or.inl ⟨by rfl, ?_⟩) ?_ ?_
          rotate_left
          · intro w'
            go_simp
            with_reducible rfl
          rotate_left
          · simp only [Act.put, List.setIfInBounds_toArray, List.set_cons_zero, List.set_cons_succ, i64_w, i32_w]
            rfl
          refine pure_ (i := 9) (N := (some 44)) (v := ?_) (a' := ?_) #[true, true, true, true, true, true, true, true, true, true, false, false, false] rfl rfl (by kernel_rfl) (fun _ _ _ => only_shut) (Or.inl ⟨by rfl, ?_⟩) ?_ ?_
          rotate_left
          · intro w'
            go_simp
            with_reducible rfl
          rotate_left
          · simp only [Act.put, List.setIfInBounds_toArray, List.set_cons_zero, List.set_cons_succ, i64_w, i32_w]
            rfl
          refine one_ (i := 10) (N := (some 11)) #[true, true, true, true, true, true, true, true, true, true, true, false, false] rfl rfl (by kernel_rfl) (by decide) (fun K hK => ?_)
          refine value_ (by rfl) rfl (alloc26 _ _ rfl _) ?_
          have hA := Aside0.mk (hI.out.alloc #[.int .i64 0, .int .i64 0] 26)
          clear hI
          generalize hga : World.alloc _ _ = wa at hA ⊢
          clear hga
          generalize hgb : wc6.heap.size = g at hA ⊢
          clear hgb
          refine hK.out _ _ (hA.out.tail) (fun hHeld => ?_)
          clear hK K
          refine norm_ (a' := ?_) ?_ ?_
          rotate_left
          · show Act.put _ (some 11) _ = _
            simp only [Act.put, List.setIfInBounds_toArray, List.set_cons_zero, List.set_cons_succ, i64_w, i32_w]
            rfl
          refine one_ (i := 11) (N := none) #[true, true, true, true, true, true, true, true, true, true, true, true, false] rfl rfl (by kernel_rfl) (by decide) (fun K hK => ?_)
          refine skip_ (by rfl) rfl (exec_store_row 26 (.tmp 11) (.tmp 43) rfl g #[.int .i64 (nS (b.put kk one) x), .int .i64 0] rfl rfl 26 _ (hA.out.get 0 rfl) size26 (sz2 _ _ _ _) (one2 _ _)) ?_
          have hA2 := Aside0.mk (hA.out.row #[.int .i64 (nS (b.put kk one) x), .int .i64 0])
          clear hA
          have hA := hA2
          clear hA2
          generalize hgs : World.setRow _ _ _ = ws at hA ⊢
          clear hgs
          refine hK.out _ _ (hA.out.tail) (fun hHeld => ?_)
          clear hK K
          refine pure_ (i := 12) (N := (some 12)) (v := ?_) (a' := ?_) #[true, true, true, true, true, true, true, true, true, true, true, true, true] rfl rfl (by kernel_rfl) (fun _ _ _ => only_shut) (Or.inl ⟨by rfl, ?_⟩) ?_ ?_
          rotate_left
          · intro w'
            go_simp
            with_reducible rfl
          rotate_left
          · simp only [Act.put, List.setIfInBounds_toArray, List.set_cons_zero, List.set_cons_succ, i64_w, i32_w]
            rfl
          refine done_ (by kernel_rfl) ?_
          refine ⟨rfl, g, ?_, hA.out⟩
          simp only [putAll, Act.put, List.setIfInBounds_toArray, List.set_cons_zero, List.set_cons_succ]
        · refine value_ (by rfl) rfl (alloc26 _ _ rfl _) ?_
          have hA := Aside0.mk (hI.out.alloc #[.int .i64 0, .int .i64 0] 26)
          clear hI
          generalize hga : World.alloc _ _ = wa at hA ⊢
          clear hga
          generalize hgb : wc5.heap.size = g at hA ⊢
          clear hgb
          refine hK.out _ _ (hA.out.tail) (fun hHeld => ?_)
          clear hK K
          refine norm_ (a' := ?_) ?_ ?_
          rotate_left
          · show Act.put _ (some 11) _ = _
            simp only [Act.put, List.setIfInBounds_toArray, List.set_cons_zero, List.set_cons_succ, i64_w, i32_w]
            rfl
          refine one_ (i := 6) (N := (some 42)) #[true, true, true, true, true, true, true, false, false, false, true, false, false] rfl rfl (by kernel_rfl) (by decide) (fun K hK => ?_)
          refine goes_ Try.func13 (by kernel_rfl) rfl #[.agg #[.bool false, .int .i64 dl, .int .u64 ((b.put kk one).s : Int), .int .u64 ((b.put kk one).i : Int), .int .u64 ((b.put kk one).h : Int), .int .u64 ((b.put kk one).d : Int), .int .u64 ((b.put kk one).m : Int), .int .u64 ((b.put kk one).w : Int)], .agg #[.int .i64 x, .int .i64 nn], .agg #[.slice none 0 0, .slice none 0 0, .slice none 0 0, .slice none 0 0]] (by rfl) rfl rfl (by (try simp only [List.map_toArray, List.map_cons, List.map_nil]); first | done | rfl) ?_
          refine (implNext_nx (b.put kk one) dl x nn _ (HW.out.put kk _ H1.out) HX.out.2.2.1 HX.out.2.2.2 HX.out.1 HX.out.2.1).mono ?_
          rintro e wc6 ⟨rfl, hb⟩
          refine ⟨_, rfl, ?_⟩
          have hA2 := Aside0.mk (hA.out.below hb)
          clear hA hb
          have hA := hA2
          clear hA2
          refine hK.out _ _ (hA.out.tail) (fun hHeld => ?_)
          clear hK K
          refine norm_ (a' := ?_) ?_ ?_
          rotate_left
          · show Act.put _ (some 42) _ = _
            simp only [Act.put, List.setIfInBounds_toArray, List.set_cons_zero, List.set_cons_succ, i64_w, i32_w]
            rfl
          refine pure_ (i := 7) (N := (some 35)) (v := ?_) (a' := ?_) #[true, true, true, true, true, true, true, true, false, false, true, false, false] rfl rfl (by kernel_rfl) (fun _ _ _ => only_shut) (Or.inl ⟨by rfl, ?_⟩) ?_ ?_
          rotate_left
          · intro w'
            go_simp
            with_reducible rfl
          rotate_left
          · simp only [Act.put, List.setIfInBounds_toArray, List.set_cons_zero, List.set_cons_succ, i64_w, i32_w]
            rfl
          refine pure_ (i := 8) (N := (some 43)) (v := ?_) (a' := ?_) #[true, true, true, true, true, true, true, true, true, false, true, false, false] rfl rfl (by kernel_rfl) (fun _ _ _ => only_shut) (Or.inl ⟨by rfl, ?_⟩) ?_ ?_
          rotate_left
          · intro w'
            go_simp
            with_reducible rfl
          rotate_left
          · simp only [Act.put, List.setIfInBounds_toArray, List.set_cons_zero, List.set_cons_succ, i64_w, i32_w]
            rfl
          refine pure_ (i := 9) (N := (some 44)) (v := ?_) (a' := ?_) #[true, true, true, true, true, true, true, true, true, true, true, false, false] rfl rfl (by kernel_rfl) (fun _ _ _ => only_shut) (Or.inl ⟨by rfl, ?_⟩) ?_ ?_
          rotate_left
          · intro w'
            go_simp
            with_reducible rfl
          rotate_left
          · simp only [Act.put, List.setIfInBounds_toArray, List.set_cons_zero, List.set_cons_succ, i64_w, i32_w]
            rfl
          refine one_ (i := 11) (N := none) #[true, true, true, true, true, true, true, true, true, true, true, true, false] rfl rfl (by kernel_rfl) (by decide) (fun K hK => ?_)
          refine skip_ (by rfl) rfl (exec_store_row 26 (.tmp 11) (.tmp 43) rfl g #[.int .i64 (nS (b.put kk one) x), .int .i64 0] rfl rfl 26 _ (hA.out.get 0 rfl) size26 (sz2 _ _ _ _) (one2 _ _)) ?_
          have hA2 := Aside0.mk (hA.out.row #[.int .i64 (nS (b.put kk one) x), .int .i64 0])
          clear hA
          have hA := hA2
          clear hA2
          generalize hgs : World.setRow _ _ _ = ws at hA ⊢
          clear hgs
          refine hK.out _ _ (hA.out.tail) (fun hHeld => ?_)
          clear hK K
          refine pure_ (i := 12) (N := (some 12)) (v := ?_) (a' := ?_) #[true, true, true, true, true, true, true, true, true, true, true, true, true] rfl rfl (by kernel_rfl) (fun _ _ _ => only_shut) (Or.inl ⟨by rfl, ?_⟩) ?_ ?_
          rotate_left
          · intro w'
            go_simp
            with_reducible rfl
          rotate_left
          · simp only [Act.put, List.setIfInBounds_toArray, List.set_cons_zero, List.set_cons_succ, i64_w, i32_w]
            rfl
          refine done_ (by kernel_rfl) ?_
          refine ⟨rfl, g, ?_, hA.out⟩
          simp only [putAll, Act.put, List.setIfInBounds_toArray, List.set_cons_zero, List.set_cons_succ]
      · refine value_ (by rfl) rfl (alloc26 _ _ rfl _) ?_
        have hA := Aside0.mk (hI.out.alloc #[.int .i64 0, .int .i64 0] 26)
        clear hI
        generalize hga : World.alloc _ _ = wa at hA ⊢
        clear hga
        generalize hgb : wc3.heap.size = g at hA ⊢
        clear hgb
        refine hK.out _ _ (hA.out.tail) (fun hHeld => ?_)
        clear hK K
        refine norm_ (a' := ?_) ?_ ?_
        rotate_left
        · show Act.put _ (some 11) _ = _
          simp only [Act.put, List.setIfInBounds_toArray, List.set_cons_zero, List.set_cons_succ, i64_w, i32_w]
          rfl
        refine one_ (i := 5) (N := (some 41)) #[true, true, true, true, true, true, false, false, false, false, true, false, false] rfl rfl (by kernel_rfl) (by decide) (fun K hK => ?_)
        refine goes_ Try.func14 (by kernel_rfl) rfl #[] (by rfl) rfl rfl (by (try simp only [List.map_toArray, List.map_cons, List.map_nil]); first | done | rfl) ?_
        refine (utcZone_any _).mono ?_
        rintro e wc5 ⟨rfl, hb⟩
        refine ⟨_, rfl, ?_⟩
        have hA2 := Aside0.mk (hA.out.below hb)
        clear hA hb
        have hA := hA2
        clear hA2
        refine hK.out _ _ (hA.out.tail) (fun hHeld => ?_)
        clear hK K
        refine norm_ (a' := ?_) ?_ ?_
        rotate_left
        · show Act.put _ (some 41) _ = _
          simp only [Act.put, List.setIfInBounds_toArray, List.set_cons_zero, List.set_cons_succ, i64_w, i32_w]
          rfl
        refine one_ (i := 6) (N := (some 42)) #[true, true, true, true, true, true, true, false, false, false, true, false, false] rfl rfl (by kernel_rfl) (by decide) (fun K hK => ?_)
        refine goes_ Try.func13 (by kernel_rfl) rfl #[.agg #[.bool false, .int .i64 dl, .int .u64 ((b.put kk one).s : Int), .int .u64 ((b.put kk one).i : Int), .int .u64 ((b.put kk one).h : Int), .int .u64 ((b.put kk one).d : Int), .int .u64 ((b.put kk one).m : Int), .int .u64 ((b.put kk one).w : Int)], .agg #[.int .i64 x, .int .i64 nn], .agg #[.slice none 0 0, .slice none 0 0, .slice none 0 0, .slice none 0 0]] (by rfl) rfl rfl (by (try simp only [List.map_toArray, List.map_cons, List.map_nil]); first | done | rfl) ?_
        refine (implNext_nx (b.put kk one) dl x nn _ (HW.out.put kk _ H1.out) HX.out.2.2.1 HX.out.2.2.2 HX.out.1 HX.out.2.1).mono ?_
        rintro e wc6 ⟨rfl, hb⟩
        refine ⟨_, rfl, ?_⟩
        have hA2 := Aside0.mk (hA.out.below hb)
        clear hA hb
        have hA := hA2
        clear hA2
        refine hK.out _ _ (hA.out.tail) (fun hHeld => ?_)
        clear hK K
        refine norm_ (a' := ?_) ?_ ?_
        rotate_left
        · show Act.put _ (some 42) _ = _
          simp only [Act.put, List.setIfInBounds_toArray, List.set_cons_zero, List.set_cons_succ, i64_w, i32_w]
          rfl
        refine pure_ (i := 7) (N := (some 35)) (v := ?_) (a' := ?_) #[true, true, true, true, true, true, true, true, false, false, true, false, false] rfl rfl (by kernel_rfl) (fun _ _ _ => only_shut) (Or.inl ⟨by rfl, ?_⟩) ?_ ?_
        rotate_left
        · intro w'
          go_simp
          with_reducible rfl
        rotate_left
        · simp only [Act.put, List.setIfInBounds_toArray, List.set_cons_zero, List.set_cons_succ, i64_w, i32_w]
          rfl
        refine pure_ (i := 8) (N := (some 43)) (v := ?_) (a' := ?_) #[true, true, true, true, true, true, true, true, true, false, true, false, false] rfl rfl (by kernel_rfl) (fun _ _ _ => only_shut) (Or.inl ⟨by rfl, ?_⟩) ?_ ?_
        rotate_left
        · intro w'
          go_simp
          with_reducible rfl
        rotate_left
        · simp only [Act.put, List.setIfInBounds_toArray, List.set_cons_zero, List.set_cons_succ, i64_w, i32_w]
          rfl
        refine pure_ (i := 9) (N := (some 44)) (v := ?_) (a' := ?_) #[true, true, true, true, true, true, true, true, true, true, true, false, false] rfl rfl (by kernel_rfl) (fun _ _ _ => only_shut) (Or.inl ⟨by rfl, ?_⟩) ?_ ?_
        rotate_left
        · intro w'
          go_simp
          with_reducible rfl
        rotate_left
        · simp only [Act.put, List.setIfInBounds_toArray, List.set_cons_zero, List.set_cons_succ, i64_w, i32_w]
          rfl
        refine one_ (i := 11) (N := none) #[true, true, true, true, true, true, true, true, true, true, true, true, false] rfl rfl (by kernel_rfl) (by decide) (fun K hK => ?_)
        refine skip_ (by rfl) rfl (exec_store_row 26 (.tmp 11) (.tmp 43) rfl g #[.int .i64 (nS (b.put kk one) x), .int .i64 0] rfl rfl 26 _ (hA.out.get 0 rfl) size26 (sz2 _ _ _ _) (one2 _ _)) ?_
        have hA2 := Aside0.mk (hA.out.row #[.int .i64 (nS (b.put kk one) x), .int .i64 0])
        clear hA
        have hA := hA2
        clear hA2
        generalize hgs : World.setRow _ _ _ = ws at hA ⊢
        clear hgs
        refine hK.out _ _ (hA.out.tail) (fun hHeld => ?_)
        clear hK K
        refine pure_ (i := 12) (N := (some 12)) (v := ?_) (a' := ?_) #[true, true, true, true, true, true, true, true, true, true, true, true, true] rfl rfl (by kernel_rfl) (fun _ _ _ => only_shut) (Or.inl ⟨by rfl, ?_⟩) ?_ ?_
        rotate_left
        · intro w'
          go_simp
          with_reducible rfl
        rotate_left
        · simp only [Act.put, List.setIfInBounds_toArray, List.set_cons_zero, List.set_cons_succ, i64_w, i32_w]
          rfl
        refine done_ (by kernel_rfl) ?_
        refine ⟨rfl, g, ?_, hA.out⟩
        simp only [putAll, Act.put, List.setIfInBounds_toArray, List.set_cons_zero, List.set_cons_succ]
    · refine value_ (by rfl) rfl (alloc26 _ _ rfl _) ?_
      have hA := Aside0.mk (hI.out.alloc #[.int .i64 0, .int .i64 0] 26)
      clear hI
      generalize hga : World.alloc _ _ = wa at hA ⊢
      clear hga
      generalize hgb : wd.heap.size = g at hA ⊢
      clear hgb
      refine hK.out _ _ (hA.out.tail) (fun hHeld => ?_)
      clear hK K
      refine norm_ (a' := ?_) ?_ ?_
      rotate_left
      · show Act.put _ (some 11) _ = _
        simp only [Act.put, List.setIfInBounds_toArray, List.set_cons_zero, List.set_cons_succ, i64_w, i32_w]
        rfl
      refine one_ (i := 3) (N := (some 39)) #[true, true, true, true, true, false, false, false, false, false, true, false, false] rfl rfl (by kernel_rfl) (by decide) (fun K hK => ?_)
      refine goes_ Try.func21 (by kernel_rfl) rfl #[.agg #[.bool false, .int .i64 dl, .int .u64 (b.s : Int), .int .u64 (b.i : Int), .int .u64 (b.h : Int), .int .u64 (b.d : Int), .int .u64 (b.m : Int), .int .u64 (b.w : Int)], .int .i64 (kk : Int), .int .u64 ((one : Nat) : Int)] (by rfl) rfl rfl (by (try simp only [List.map_toArray, List.map_cons, List.map_nil]); first | done | rfl) ?_
      refine (with_any b dl (one) _ kk HKK.out).mono ?_
      rintro e wc3 ⟨rfl, hb⟩
      refine ⟨_, rfl, ?_⟩
      have hA2 := Aside0.mk (hA.out.below hb)
      clear hA hb
      have hA := hA2
      clear hA2
      refine hK.out _ _ (hA.out.tail) (fun hHeld => ?_)
      clear hK K
      refine norm_ (a' := ?_) ?_ ?_
      rotate_left
      · show Act.put _ (some 39) _ = _
        simp only [Act.put, List.setIfInBounds_toArray, List.set_cons_zero, List.set_cons_succ, i64_w, i32_w]
        rfl
      refine one_ (i := 5) (N := (some 41)) #[true, true, true, true, true, true, false, false, false, false, true, false, false] rfl rfl (by kernel_rfl) (by decide) (fun K hK => ?_)
      refine goes_ Try.func14 (by kernel_rfl) rfl #[] (by rfl) rfl rfl (by (try simp only [List.map_toArray, List.map_cons, List.map_nil]); first | done | rfl) ?_
      refine (utcZone_any _).mono ?_
      rintro e wc5 ⟨rfl, hb⟩
      refine ⟨_, rfl, ?_⟩
      have hA2 := Aside0.mk (hA.out.below hb)
      clear hA hb
      have hA := hA2
      clear hA2
      refine hK.out _ _ (hA.out.tail) (fun hHeld => ?_)
      clear hK K
      refine norm_ (a' := ?_) ?_ ?_
      rotate_left
      · show Act.put _ (some 41) _ = _
        simp only [Act.put, List.setIfInBounds_toArray, List.set_cons_zero, List.set_cons_succ, i64_w, i32_w]
        rfl
      refine one_ (i := 6) (N := (some 42)) #[true, true, true, true, true, true, true, false, false, false, true, false, false] rfl rfl (by kernel_rfl) (by decide) (fun K hK => ?_)
      refine goes_ Try.func13 (by kernel_rfl) rfl #[.agg #[.bool false, .int .i64 dl, .int .u64 ((b.put kk one).s : Int), .int .u64 ((b.put kk one).i : Int), .int .u64 ((b.put kk one).h : Int), .int .u64 ((b.put kk one).d : Int), .int .u64 ((b.put kk one).m : Int), .int .u64 ((b.put kk one).w : Int)], .agg #[.int .i64 x, .int .i64 nn], .agg #[.slice none 0 0, .slice none 0 0, .slice none 0 0, .slice none 0 0]] (by rfl) rfl rfl (by (try simp only [List.map_toArray, List.map_cons, List.map_nil]); first | done | rfl) ?_
      refine (implNext_nx (b.put kk one) dl x nn _ (HW.out.put kk _ H1.out) HX.out.2.2.1 HX.out.2.2.2 HX.out.1 HX.out.2.1).mono ?_
      rintro e wc6 ⟨rfl, hb⟩
      refine ⟨_, rfl, ?_⟩
      have hA2 := Aside0.mk (hA.out.below hb)
      clear hA hb
      have hA := hA2
      clear hA2
      refine hK.out _ _ (hA.out.tail) (fun hHeld => ?_)
      clear hK K
      refine norm_ (a' := ?_) ?_ ?_
      rotate_left
      · show Act.put _ (some 42) _ = _
        simp only [Act.put, List.setIfInBounds_toArray, List.set_cons_zero, List.set_cons_succ, i64_w, i32_w]
        rfl
      refine pure_ (i := 7) (N := (some 35)) (v := ?_) (a' := ?_) #[true, true, true, true, true, true, true, true, false, false, true, false, false] rfl rfl (by kernel_rfl) (fun _ _ _ => only_shut) (Or.inl ⟨by rfl, ?_⟩) ?_ ?_
      rotate_left
      · intro w'
        go_simp
        with_reducible rfl
      rotate_left
      · simp only [Act.put, List.setIfInBounds_toArray, List.set_cons_zero, List.set_cons_succ, i64_w, i32_w]
        rfl
      refine pure_ (i := 8) (N := (some 43)) (v := ?_) (a' := ?_) #[true, true, true, true, true, true, true, true, true, false, true, false, false] rfl rfl (by kernel_rfl) (fun _ _ _ => only_shut) (Or.inl ⟨by rfl, ?_⟩) ?_ ?_
      rotate_left
      · intro w'
        go_simp
        with_reducible rfl
      rotate_left
      · simp only [Act.put, List.setIfInBounds_toArray, List.set_cons_zero, List.set_cons_succ, i64_w, i32_w]
        rfl
      refine pure_ (i := 9) (N := (some 44)) (v := ?_) (a' := ?_) #[true, true, true, true, true, true, true, true, true, true, true, false, false] rfl rfl (by kernel_rfl) (fun _ _ _ => only_shut) (Or.inl ⟨by rfl, ?_⟩) ?_ ?_
      rotate_left
      · intro w'
        go_simp
        with_reducible rfl
      rotate_left
      · simp only [Act.put, List.setIfInBounds_toArray, List.set_cons_zero, List.set_cons_succ, i64_w, i32_w]
        rfl
      refine one_ (i := 11) (N := none) #[true, true, true, true, true, true, true, true, true, true, true, true, false] rfl rfl (by kernel_rfl) (by decide) (fun K hK => ?_)
      refine skip_ (by rfl) rfl (exec_store_row 26 (.tmp 11) (.tmp 43) rfl g #[.int .i64 (nS (b.put kk one) x), .int .i64 0] rfl rfl 26 _ (hA.out.get 0 rfl) size26 (sz2 _ _ _ _) (one2 _ _)) ?_
      have hA2 := Aside0.mk (hA.out.row #[.int .i64 (nS (b.put kk one) x), .int .i64 0])
      clear hA
      have hA := hA2
      clear hA2
      generalize hgs : World.setRow _ _ _ = ws at hA ⊢
      clear hgs
      refine hK.out _ _ (hA.out.tail) (fun hHeld => ?_)
      clear hK K
      refine pure_ (i := 12) (N := (some 12)) (v := ?_) (a' := ?_) #[true, true, true, true, true, true, true, true, true, true, true, true, true] rfl rfl (by kernel_rfl) (fun _ _ _ => only_shut) (Or.inl ⟨by rfl, ?_⟩) ?_ ?_
      rotate_left
      · intro w'
        go_simp
        with_reducible rfl
      rotate_left
      · simp only [Act.put, List.setIfInBounds_toArray, List.set_cons_zero, List.set_cons_succ, i64_w, i32_w]
        rfl
      refine done_ (by kernel_rfl) ?_
      refine ⟨rfl, g, ?_, hA.out⟩
      simp only [putAll, Act.put, List.setIfInBounds_toArray, List.set_cons_zero, List.set_cons_succ]
  clear hI
  intro g1 wn1 hI0
  have hI := Aside0.mk hI0
  clear hI0
  simp only [putAll, Act.put, List.setIfInBounds_toArray, List.set_cons_zero, List.set_cons_succ]
  go_wp2_with fail
  refine region_split (fun g => [(46, .agg #[.bool false, .int .i64 dl, .int .u64 (b.s : Int), .int .u64 (b.i : Int), .int .u64 (b.h : Int), .int .u64 (b.d : Int), .int .u64 (b.m : Int), .int .u64 (b.w : Int)]), (47, .int .i64 (kk : Int)), (48, .int .u64 (other : Int)), (49, .agg #[.bool false, .int .i64 dl, .int .u64 ((b.put kk other).s : Int), .int .u64 ((b.put kk other).i : Int), .int .u64 ((b.put kk other).h : Int), .int .u64 ((b.put kk other).d : Int), .int .u64 ((b.put kk other).m : Int), .int .u64 ((b.put kk other).w : Int)]), (50, .agg #[.int .i64 x, .int .i64 nn]), (51, .agg #[.slice none 0 0, .slice none 0 0, .slice none 0 0, .slice none 0 0]), (52, .tuple #[.agg #[.int .i64 (nS (b.put kk other) x), .int .i64 0], .bool (nF (b.put kk other) x)]), (45, .tuple #[.agg #[.int .i64 (nS (b.put kk other) x), .int .i64 0], .bool (nF (b.put kk other) x)]), (53, .agg #[.int .i64 (nS (b.put kk other) x), .int .i64 0]), (54, .bool (nF (b.put kk other) x)), (13, .pointer (some ⟨g, 0, none⟩)), (14, .bool (nF (b.put kk other) x))]) (fun g w' => Blk w ((g, #[.int .i64 (nS (b.put kk other) x), .int .i64 0], 26) :: [(g1, #[.int .i64 (nS (b.put kk one) x), .int .i64 0], 26), (w.heap.size + 1, #[.int .i64 x, .int .i64 nn], 26), (w.heap.size, #[.bool false, .int .i64 dl, .int .u64 (b.s : Int), .int .u64 (b.i : Int), .int .u64 (b.h : Int), .int .u64 (b.d : Int), .int .u64 (b.m : Int), .int .u64 (b.w : Int)], 24)]) w') ?_ ?_
  · refine start_ (n := 13) (S := Blk w [(g1, #[.int .i64 (nS (b.put kk one) x), .int .i64 0], 26), (w.heap.size + 1, #[.int .i64 x, .int .i64 nn], 26), (w.heap.size, #[.bool false, .int .i64 dl, .int .u64 (b.s : Int), .int .u64 (b.i : Int), .int .u64 (b.h : Int), .int .u64 (b.d : Int), .int .u64 (b.m : Int), .int .u64 (b.w : Int)], 24)]) (ds := []) #[false, false, false, false, false, false, false, false, false, false, false, false, false] (by kernel_rfl) rfl rfl (hI.out.drew) (fun hHeld => ?_)
    have hI2 := Aside0.mk hI.out.drew
    clear hI
    have hI := hI2
    clear hI2
    generalize hwd : World.drew _ = wd at hI hHeld ⊢
    clear hwd
    refine take_ (i := 0) (N := (some 46)) (v := ?_) (a' := ?_) #[true, false, false, false, false, false, false, false, false, false, false, false, false] rfl rfl (by kernel_rfl) (fun _ _ _ => only_shut) (Or.inl ⟨by rfl, ?_⟩) hHeld ?_ ?_
    rotate_left
    · intro w' hS
      refine exec_load_row 24 (.tmp 5) ?_ (w.heap.size) ?_ 24 _ _ (hS.get 2 rfl) Try.underlying24 rfl size24
      · rfl
      · rfl
    rotate_left
    · simp only [Act.put, List.setIfInBounds_toArray, List.set_cons_zero, List.set_cons_succ, i64_w, i32_w]
      rfl
    refine pure_ (i := 1) (N := (some 47)) (v := ?_) (a' := ?_) #[true, true, false, false, false, false, false, false, false, false, false, false, false] rfl rfl (by kernel_rfl) (fun _ _ _ => only_shut) (Or.inl ⟨by rfl, ?_⟩) ?_ ?_
    rotate_left
    · intro w'
      go_simp
      with_reducible rfl
    rotate_left
    · simp only [Act.put, List.setIfInBounds_toArray, List.set_cons_zero, List.set_cons_succ, i64_w, i32_w]
      rfl
    refine pure_ (i := 2) (N := (some 48)) (v := ?_) (a' := ?_) #[true, true, true, false, false, false, false, false, false, false, false, false, false] rfl rfl (by kernel_rfl) (fun _ _ _ => only_shut) (Or.inl ⟨by rfl, ?_⟩) ?_ ?_
    rotate_left
    · intro w'
      go_simp
      with_reducible rfl
    rotate_left
    · simp only [Act.put, List.setIfInBounds_toArray, List.set_cons_zero, List.set_cons_succ, i64_w, i32_w]
      rfl
    refine take_ (i := 4) (N := (some 50)) (v := ?_) (a' := ?_) #[true, true, true, false, true, false, false, false, false, false, false, false, false] rfl rfl (by kernel_rfl) (fun _ _ _ => only_shut) (Or.inl ⟨by rfl, ?_⟩) hHeld ?_ ?_
    rotate_left
    · intro w' hS
      refine exec_load_row 26 (.tmp 9) ?_ (w.heap.size + 1) ?_ 26 _ _ (hS.get 1 rfl) Try.underlying26 rfl size26
      · rfl
      · rfl
    rotate_left
    · simp only [Act.put, List.setIfInBounds_toArray, List.set_cons_zero, List.set_cons_succ, i64_w, i32_w]
      rfl
    refine two_ (i := 3) (j := 10) (Ni := (some 49)) (Nj := (some 13)) #[true, true, true, true, true, false, false, false, false, false, false, false, false] #[true, true, true, false, true, false, false, false, false, false, true, false, false] rfl rfl rfl rfl (by kernel_rfl) (by decide) (by decide) (fun K hK => ?_) (fun K hK => ?_)
    · refine goes_ Try.func21 (by kernel_rfl) rfl #[.agg #[.bool false, .int .i64 dl, .int .u64 (b.s : Int), .int .u64 (b.i : Int), .int .u64 (b.h : Int), .int .u64 (b.d : Int), .int .u64 (b.m : Int), .int .u64 (b.w : Int)], .int .i64 (kk : Int), .int .u64 ((other : Nat) : Int)] (by rfl) rfl rfl (by (try simp only [List.map_toArray, List.map_cons, List.map_nil]); first | done | rfl) ?_
      refine (with_any b dl (other) _ kk HKK.out).mono ?_
      rintro e wc3 ⟨rfl, hb⟩
      refine ⟨_, rfl, ?_⟩
      have hI2 := Aside0.mk (hI.out.below hb)
      clear hI hb
      have hI := hI2
      clear hI2
      refine hK.out _ _ (hI.out) (fun hHeld => ?_)
      clear hK K
      refine norm_ (a' := ?_) ?_ ?_
      rotate_left
      · show Act.put _ (some 49) _ = _
        simp only [Act.put, List.setIfInBounds_toArray, List.set_cons_zero, List.set_cons_succ, i64_w, i32_w]
        rfl
      refine two_ (i := 5) (j := 10) (Ni := (some 51)) (Nj := (some 13)) #[true, true, true, true, true, true, false, false, false, false, false, false, false] #[true, true, true, true, true, false, false, false, false, false, true, false, false] rfl rfl rfl rfl (by kernel_rfl) (by decide) (by decide) (fun K hK => ?_) (fun K hK => ?_)
      · refine goes_ Try.func14 (by kernel_rfl) rfl #[] (by rfl) rfl rfl (by (try simp only [List.map_toArray, List.map_cons, List.map_nil]); first | done | rfl) ?_
        refine (utcZone_any _).mono ?_
        rintro e wc5 ⟨rfl, hb⟩
        refine ⟨_, rfl, ?_⟩
        have hI2 := Aside0.mk (hI.out.below hb)
        clear hI hb
        have hI := hI2
        clear hI2
        refine hK.out _ _ (hI.out) (fun hHeld => ?_)
        clear hK K
        refine norm_ (a' := ?_) ?_ ?_
        rotate_left
        · show Act.put _ (some 51) _ = _
          simp only [Act.put, List.setIfInBounds_toArray, List.set_cons_zero, List.set_cons_succ, i64_w, i32_w]
          rfl
        refine two_ (i := 6) (j := 10) (Ni := (some 52)) (Nj := (some 13)) #[true, true, true, true, true, true, true, false, false, false, false, false, false] #[true, true, true, true, true, true, false, false, false, false, true, false, false] rfl rfl rfl rfl (by kernel_rfl) (by decide) (by decide) (fun K hK => ?_) (fun K hK => ?_)
        · refine goes_ Try.func13 (by kernel_rfl) rfl #[.agg #[.bool false, .int .i64 dl, .int .u64 ((b.put kk other).s : Int), .int .u64 ((b.put kk other).i : Int), .int .u64 ((b.put kk other).h : Int), .int .u64 ((b.put kk other).d : Int), .int .u64 ((b.put kk other).m : Int), .int .u64 ((b.put kk other).w : Int)], .agg #[.int .i64 x, .int .i64 nn], .agg #[.slice none 0 0, .slice none 0 0, .slice none 0 0, .slice none 0 0]] (by rfl) rfl rfl (by (try simp only [List.map_toArray, List.map_cons, List.map_nil]); first | done | rfl) ?_
          refine (implNext_nx (b.put kk other) dl x nn _ (HW.out.put kk _ H2.out) HX.out.2.2.1 HX.out.2.2.2 HX.out.1 HX.out.2.1).mono ?_
          rintro e wc6 ⟨rfl, hb⟩
          refine ⟨_, rfl, ?_⟩
          have hI2 := Aside0.mk (hI.out.below hb)
          clear hI hb
          have hI := hI2
          clear hI2
          refine hK.out _ _ (hI.out) (fun hHeld => ?_)
          clear hK K
          refine norm_ (a' := ?_) ?_ ?_
          rotate_left
          · show Act.put _ (some 52) _ = _
            simp only [Act.put, List.setIfInBounds_toArray, List.set_cons_zero, List.set_cons_succ, i64_w, i32_w]
            rfl
          refine pure_ (i := 7) (N := (some 45)) (v := ?_) (a' := ?_) #[true, true, true, true, true, true, true, true, false, false, false, false, false] rfl rfl (by kernel_rfl) (fun _ _ _ => only_shut) (Or.inl ⟨by rfl, ?_⟩) ?_ ?_
          rotate_left
          · intro w'
            go_simp
            with_reducible rfl
          rotate_left
          · simp only [Act.put, List.setIfInBounds_toArray, List.set_cons_zero, List.set_cons_succ, i64_w, i32_w]
            rfl
          refine pure_ (i := 8) (N := (some 53)) (v := ?_) (a' := ?_) #[true, true, true, true, true, true, true, true, true, false, false, false, false] rfl rfl (by kernel_rfl) (fun _ _ _ => only_shut) (Or.inl ⟨by rfl, ?_⟩) ?_ ?_
          rotate_left
          · intro w'
            go_simp
            with_reducible rfl
          rotate_left
          · simp only [Act.put, List.setIfInBounds_toArray, List.set_cons_zero, List.set_cons_succ, i64_w, i32_w]
            rfl
          refine pure_ (i := 9) (N := (some 54)) (v := ?_) (a' := ?_) #[true, true, true, true, true, true, true, true, true, true, false, false, false] rfl rfl (by kernel_rfl) (fun _ _ _ => only_shut) (Or.inl ⟨by rfl, ?_⟩) ?_ ?_
          rotate_left
          · intro w'
            go_simp
            with_reducible rfl
          rotate_left
          · simp only [Act.put, List.setIfInBounds_toArray, List.set_cons_zero, List.set_cons_succ, i64_w, i32_w]
            rfl
          refine one_ (i := 10) (N := (some 13)) #[true, true, true, true, true, true, true, true, true, true, true, false, false] rfl rfl (by kernel_rfl) (by decide) (fun K hK => ?_)
          refine value_ (by rfl) rfl (alloc26 _ _ rfl _) ?_
          have hA := Aside0.mk (hI.out.alloc #[.int .i64 0, .int .i64 0] 26)
          clear hI
          generalize hga : World.alloc _ _ = wa at hA ⊢
          clear hga
          generalize hgb : wc6.heap.size = g at hA ⊢
          clear hgb
          refine hK.out _ _ (hA.out.tail) (fun hHeld => ?_)
          clear hK K
          refine norm_ (a' := ?_) ?_ ?_
          rotate_left
          · show Act.put _ (some 13) _ = _
            simp only [Act.put, List.setIfInBounds_toArray, List.set_cons_zero, List.set_cons_succ, i64_w, i32_w]
            rfl
          refine one_ (i := 11) (N := none) #[true, true, true, true, true, true, true, true, true, true, true, true, false] rfl rfl (by kernel_rfl) (by decide) (fun K hK => ?_)
          refine skip_ (by rfl) rfl (exec_store_row 26 (.tmp 13) (.tmp 53) rfl g #[.int .i64 (nS (b.put kk other) x), .int .i64 0] rfl rfl 26 _ (hA.out.get 0 rfl) size26 (sz2 _ _ _ _) (one2 _ _)) ?_
          have hA2 := Aside0.mk (hA.out.row #[.int .i64 (nS (b.put kk other) x), .int .i64 0])
          clear hA
          have hA := hA2
          clear hA2
          generalize hgs : World.setRow _ _ _ = ws at hA ⊢
          clear hgs
          refine hK.out _ _ (hA.out.tail) (fun hHeld => ?_)
          clear hK K
          refine pure_ (i := 12) (N := (some 14)) (v := ?_) (a' := ?_) #[true, true, true, true, true, true, true, true, true, true, true, true, true] rfl rfl (by kernel_rfl) (fun _ _ _ => only_shut) (Or.inl ⟨by rfl, ?_⟩) ?_ ?_
          rotate_left
          · intro w'
            go_simp
            with_reducible rfl
          rotate_left
          · simp only [Act.put, List.setIfInBounds_toArray, List.set_cons_zero, List.set_cons_succ, i64_w, i32_w]
            rfl
          refine done_ (by kernel_rfl) ?_
          refine ⟨rfl, g, ?_, hA.out⟩
          simp only [putAll, Act.put, List.setIfInBounds_toArray, List.set_cons_zero, List.set_cons_succ]
        · refine value_ (by rfl) rfl (alloc26 _ _ rfl _) ?_
          have hA := Aside0.mk (hI.out.alloc #[.int .i64 0, .int .i64 0] 26)
          clear hI
          generalize hga : World.alloc _ _ = wa at hA ⊢
          clear hga
          generalize hgb : wc5.heap.size = g at hA ⊢
          clear hgb
          refine hK.out _ _ (hA.out.tail) (fun hHeld => ?_)
          clear hK K
          refine norm_ (a' := ?_) ?_ ?_
          rotate_left
          · show Act.put _ (some 13) _ = _
            simp only [Act.put, List.setIfInBounds_toArray, List.set_cons_zero, List.set_cons_succ, i64_w, i32_w]
            rfl
          refine one_ (i := 6) (N := (some 52)) #[true, true, true, true, true, true, true, false, false, false, true, false, false] rfl rfl (by kernel_rfl) (by decide) (fun K hK => ?_)
          refine goes_ Try.func13 (by kernel_rfl) rfl #[.agg #[.bool false, .int .i64 dl, .int .u64 ((b.put kk other).s : Int), .int .u64 ((b.put kk other).i : Int), .int .u64 ((b.put kk other).h : Int), .int .u64 ((b.put kk other).d : Int), .int .u64 ((b.put kk other).m : Int), .int .u64 ((b.put kk other).w : Int)], .agg #[.int .i64 x, .int .i64 nn], .agg #[.slice none 0 0, .slice none 0 0, .slice none 0 0, .slice none 0 0]] (by rfl) rfl rfl (by (try simp only [List.map_toArray, List.map_cons, List.map_nil]); first | done | rfl) ?_
          refine (implNext_nx (b.put kk other) dl x nn _ (HW.out.put kk _ H2.out) HX.out.2.2.1 HX.out.2.2.2 HX.out.1 HX.out.2.1).mono ?_
          rintro e wc6 ⟨rfl, hb⟩
          refine ⟨_, rfl, ?_⟩
          have hA2 := Aside0.mk (hA.out.below hb)
          clear hA hb
          have hA := hA2
          clear hA2
          refine hK.out _ _ (hA.out.tail) (fun hHeld => ?_)
          clear hK K
          refine norm_ (a' := ?_) ?_ ?_
          rotate_left
          · show Act.put _ (some 52) _ = _
            simp only [Act.put, List.setIfInBounds_toArray, List.set_cons_zero, List.set_cons_succ, i64_w, i32_w]
            rfl
          refine pure_ (i := 7) (N := (some 45)) (v := ?_) (a' := ?_) #[true, true, true, true, true, true, true, true, false, false, true, false, false] rfl rfl (by kernel_rfl) (fun _ _ _ => only_shut) (Or.inl ⟨by rfl, ?_⟩) ?_ ?_
          rotate_left
          · intro w'
            go_simp
            with_reducible rfl
          rotate_left
          · simp only [Act.put, List.setIfInBounds_toArray, List.set_cons_zero, List.set_cons_succ, i64_w, i32_w]
            rfl
          refine pure_ (i := 8) (N := (some 53)) (v := ?_) (a' := ?_) #[true, true, true, true, true, true, true, true, true, false, true, false, false] rfl rfl (by kernel_rfl) (fun _ _ _ => only_shut) (Or.inl ⟨by rfl, ?_⟩) ?_ ?_
          rotate_left
          · intro w'
            go_simp
            with_reducible rfl
          rotate_left
          · simp only [Act.put, List.setIfInBounds_toArray, List.set_cons_zero, List.set_cons_succ, i64_w, i32_w]
            rfl
          refine pure_ (i := 9) (N := (some 54)) (v := ?_) (a' := ?_) #[true, true, true, true, true, true, true, true, true, true, true, false, false] rfl rfl (by kernel_rfl) (fun _ _ _ => only_shut) (Or.inl ⟨by rfl, ?_⟩) ?_ ?_
          rotate_left
          · intro w'
            go_simp
            with_reducible rfl
          rotate_left
          · simp only [Act.put, List.setIfInBounds_toArray, List.set_cons_zero, List.set_cons_succ, i64_w, i32_w]
            rfl
          refine one_ (i := 11) (N := none) #[true, true, true, true, true, true, true, true, true, true, true, true, false] rfl rfl (by kernel_rfl) (by decide) (fun K hK => ?_)
          refine skip_ (by rfl) rfl (exec_store_row 26 (.tmp 13) (.tmp 53) rfl g #[.int .i64 (nS (b.put kk other) x), .int .i64 0] rfl rfl 26 _ (hA.out.get 0 rfl) size26 (sz2 _ _ _ _) (one2 _ _)) ?_
          have hA2 := Aside0.mk (hA.out.row #[.int .i64 (nS (b.put kk other) x), .int .i64 0])
          clear hA
          have hA := hA2
          clear hA2
          generalize hgs : World.setRow _ _ _ = ws at hA ⊢
          clear hgs
          refine hK.out _ _ (hA.out.tail) (fun hHeld => ?_)
          clear hK K
          refine pure_ (i := 12) (N := (some 14)) (v := ?_) (a' := ?_) #[true, true, true, true, true, true, true, true, true, true, true, true, true] rfl rfl (by kernel_rfl) (fun _ _ _ => only_shut) (Or.inl ⟨by rfl, ?_⟩) ?_ ?_
          rotate_left
          · intro w'
            go_simp
            with_reducible rfl
          rotate_left
          · simp only [Act.put, List.setIfInBounds_toArray, List.set_cons_zero, List.set_cons_succ, i64_w, i32_w]
            rfl
          refine done_ (by kernel_rfl) ?_
          refine ⟨rfl, g, ?_, hA.out⟩
          simp only [putAll, Act.put, List.setIfInBounds_toArray, List.set_cons_zero, List.set_cons_succ]
      · refine value_ (by rfl) rfl (alloc26 _ _ rfl _) ?_
        have hA := Aside0.mk (hI.out.alloc #[.int .i64 0, .int .i64 0] 26)
        clear hI
        generalize hga : World.alloc _ _ = wa at hA ⊢
        clear hga
        generalize hgb : wc3.heap.size = g at hA ⊢
        clear hgb
        refine hK.out _ _ (hA.out.tail) (fun hHeld => ?_)
        clear hK K
        refine norm_ (a' := ?_) ?_ ?_
        rotate_left
        · show Act.put _ (some 13) _ = _
          simp only [Act.put, List.setIfInBounds_toArray, List.set_cons_zero, List.set_cons_succ, i64_w, i32_w]
          rfl
        refine one_ (i := 5) (N := (some 51)) #[true, true, true, true, true, true, false, false, false, false, true, false, false] rfl rfl (by kernel_rfl) (by decide) (fun K hK => ?_)
        refine goes_ Try.func14 (by kernel_rfl) rfl #[] (by rfl) rfl rfl (by (try simp only [List.map_toArray, List.map_cons, List.map_nil]); first | done | rfl) ?_
        refine (utcZone_any _).mono ?_
        rintro e wc5 ⟨rfl, hb⟩
        refine ⟨_, rfl, ?_⟩
        have hA2 := Aside0.mk (hA.out.below hb)
        clear hA hb
        have hA := hA2
        clear hA2
        refine hK.out _ _ (hA.out.tail) (fun hHeld => ?_)
        clear hK K
        refine norm_ (a' := ?_) ?_ ?_
        rotate_left
        · show Act.put _ (some 51) _ = _
          simp only [Act.put, List.setIfInBounds_toArray, List.set_cons_zero, List.set_cons_succ, i64_w, i32_w]
          rfl
        refine one_ (i := 6) (N := (some 52)) #[true, true, true, true, true, true, true, false, false, false, true, false, false] rfl rfl (by kernel_rfl) (by decide) (fun K hK => ?_)
        refine goes_ Try.func13 (by kernel_rfl) rfl #[.agg #[.bool false, .int .i64 dl, .int .u64 ((b.put kk other).s : Int), .int .u64 ((b.put kk other).i : Int), .int .u64 ((b.put kk other).h : Int), .int .u64 ((b.put kk other).d : Int), .int .u64 ((b.put kk other).m : Int), .int .u64 ((b.put kk other).w : Int)], .agg #[.int .i64 x, .int .i64 nn], .agg #[.slice none 0 0, .slice none 0 0, .slice none 0 0, .slice none 0 0]] (by rfl) rfl rfl (by (try simp only [List.map_toArray, List.map_cons, List.map_nil]); first | done | rfl) ?_
        refine (implNext_nx (b.put kk other) dl x nn _ (HW.out.put kk _ H2.out) HX.out.2.2.1 HX.out.2.2.2 HX.out.1 HX.out.2.1).mono ?_
        rintro e wc6 ⟨rfl, hb⟩
        refine ⟨_, rfl, ?_⟩
        have hA2 := Aside0.mk (hA.out.below hb)
        clear hA hb
        have hA := hA2
        clear hA2
        refine hK.out _ _ (hA.out.tail) (fun hHeld => ?_)
        clear hK K
        refine norm_ (a' := ?_) ?_ ?_
        rotate_left
        · show Act.put _ (some 52) _ = _
          simp only [Act.put, List.setIfInBounds_toArray, List.set_cons_zero, List.set_cons_succ, i64_w, i32_w]
          rfl
        refine pure_ (i := 7) (N := (some 45)) (v := ?_) (a' := ?_) #[true, true, true, true, true, true, true, true, false, false, true, false, false] rfl rfl (by kernel_rfl) (fun _ _ _ => only_shut) (Or.inl ⟨by rfl, ?_⟩) ?_ ?_
        rotate_left
        · intro w'
          go_simp
          with_reducible rfl
        rotate_left
        · simp only [Act.put, List.setIfInBounds_toArray, List.set_cons_zero, List.set_cons_succ, i64_w, i32_w]
          rfl
        refine pure_ (i := 8) (N := (some 53)) (v := ?_) (a' := ?_) #[true, true, true, true, true, true, true, true, true, false, true, false, false] rfl rfl (by kernel_rfl) (fun _ _ _ => only_shut) (Or.inl ⟨by rfl, ?_⟩) ?_ ?_
        rotate_left
        · intro w'
          go_simp
          with_reducible rfl
        rotate_left
        · simp only [Act.put, List.setIfInBounds_toArray, List.set_cons_zero, List.set_cons_succ, i64_w, i32_w]
          rfl
        refine pure_ (i := 9) (N := (some 54)) (v := ?_) (a' := ?_) #[true, true, true, true, true, true, true, true, true, true, true, false, false] rfl rfl (by kernel_rfl) (fun _ _ _ => only_shut) (Or.inl ⟨by rfl, ?_⟩) ?_ ?_
        rotate_left
        · intro w'
          go_simp
          with_reducible rfl
        rotate_left
        · simp only [Act.put, List.setIfInBounds_toArray, List.set_cons_zero, List.set_cons_succ, i64_w, i32_w]
          rfl
        refine one_ (i := 11) (N := none) #[true, true, true, true, true, true, true, true, true, true, true, true, false] rfl rfl (by kernel_rfl) (by decide) (fun K hK => ?_)
        refine skip_ (by rfl) rfl (exec_store_row 26 (.tmp 13) (.tmp 53) rfl g #[.int .i64 (nS (b.put kk other) x), .int .i64 0] rfl rfl 26 _ (hA.out.get 0 rfl) size26 (sz2 _ _ _ _) (one2 _ _)) ?_
        have hA2 := Aside0.mk (hA.out.row #[.int .i64 (nS (b.put kk other) x), .int .i64 0])
        clear hA
        have hA := hA2
        clear hA2
        generalize hgs : World.setRow _ _ _ = ws at hA ⊢
        clear hgs
        refine hK.out _ _ (hA.out.tail) (fun hHeld => ?_)
        clear hK K
        refine pure_ (i := 12) (N := (some 14)) (v := ?_) (a' := ?_) #[true, true, true, true, true, true, true, true, true, true, true, true, true] rfl rfl (by kernel_rfl) (fun _ _ _ => only_shut) (Or.inl ⟨by rfl, ?_⟩) ?_ ?_
        rotate_left
        · intro w'
          go_simp
          with_reducible rfl
        rotate_left
        · simp only [Act.put, List.setIfInBounds_toArray, List.set_cons_zero, List.set_cons_succ, i64_w, i32_w]
          rfl
        refine done_ (by kernel_rfl) ?_
        refine ⟨rfl, g, ?_, hA.out⟩
        simp only [putAll, Act.put, List.setIfInBounds_toArray, List.set_cons_zero, List.set_cons_succ]
    · refine value_ (by rfl) rfl (alloc26 _ _ rfl _) ?_
      have hA := Aside0.mk (hI.out.alloc #[.int .i64 0, .int .i64 0] 26)
      clear hI
      generalize hga : World.alloc _ _ = wa at hA ⊢
      clear hga
      generalize hgb : wd.heap.size = g at hA ⊢
      clear hgb
      refine hK.out _ _ (hA.out.tail) (fun hHeld => ?_)
      clear hK K
      refine norm_ (a' := ?_) ?_ ?_
      rotate_left
      · show Act.put _ (some 13) _ = _
        simp only [Act.put, List.setIfInBounds_toArray, List.set_cons_zero, List.set_cons_succ, i64_w, i32_w]
        rfl
      refine one_ (i := 3) (N := (some 49)) #[true, true, true, true, true, false, false, false, false, false, true, false, false] rfl rfl (by kernel_rfl) (by decide) (fun K hK => ?_)
      refine goes_ Try.func21 (by kernel_rfl) rfl #[.agg #[.bool false, .int .i64 dl, .int .u64 (b.s : Int), .int .u64 (b.i : Int), .int .u64 (b.h : Int), .int .u64 (b.d : Int), .int .u64 (b.m : Int), .int .u64 (b.w : Int)], .int .i64 (kk : Int), .int .u64 ((other : Nat) : Int)] (by rfl) rfl rfl (by (try simp only [List.map_toArray, List.map_cons, List.map_nil]); first | done | rfl) ?_
      refine (with_any b dl (other) _ kk HKK.out).mono ?_
      rintro e wc3 ⟨rfl, hb⟩
      refine ⟨_, rfl, ?_⟩
      have hA2 := Aside0.mk (hA.out.below hb)
      clear hA hb
      have hA := hA2
      clear hA2
      refine hK.out _ _ (hA.out.tail) (fun hHeld => ?_)
      clear hK K
      refine norm_ (a' := ?_) ?_ ?_
      rotate_left
      · show Act.put _ (some 49) _ = _
        simp only [Act.put, List.setIfInBounds_toArray, List.set_cons_zero, List.set_cons_succ, i64_w, i32_w]
        rfl
      refine one_ (i := 5) (N := (some 51)) #[true, true, true, true, true, true, false, false, false, false, true, false, false] rfl rfl (by kernel_rfl) (by decide) (fun K hK => ?_)
      refine goes_ Try.func14 (by kernel_rfl) rfl #[] (by rfl) rfl rfl (by (try simp only [List.map_toArray, List.map_cons, List.map_nil]); first | done | rfl) ?_
      refine (utcZone_any _).mono ?_
      rintro e wc5 ⟨rfl, hb⟩
      refine ⟨_, rfl, ?_⟩
      have hA2 := Aside0.mk (hA.out.below hb)
      clear hA hb
      have hA := hA2
      clear hA2
      refine hK.out _ _ (hA.out.tail) (fun hHeld => ?_)
      clear hK K
      refine norm_ (a' := ?_) ?_ ?_
      rotate_left
      · show Act.put _ (some 51) _ = _
        simp only [Act.put, List.setIfInBounds_toArray, List.set_cons_zero, List.set_cons_succ, i64_w, i32_w]
        rfl
      refine one_ (i := 6) (N := (some 52)) #[true, true, true, true, true, true, true, false, false, false, true, false, false] rfl rfl (by kernel_rfl) (by decide) (fun K hK => ?_)
      refine goes_ Try.func13 (by kernel_rfl) rfl #[.agg #[.bool false, .int .i64 dl, .int .u64 ((b.put kk other).s : Int), .int .u64 ((b.put kk other).i : Int), .int .u64 ((b.put kk other).h : Int), .int .u64 ((b.put kk other).d : Int), .int .u64 ((b.put kk other).m : Int), .int .u64 ((b.put kk other).w : Int)], .agg #[.int .i64 x, .int .i64 nn], .agg #[.slice none 0 0, .slice none 0 0, .slice none 0 0, .slice none 0 0]] (by rfl) rfl rfl (by (try simp only [List.map_toArray, List.map_cons, List.map_nil]); first | done | rfl) ?_
      refine (implNext_nx (b.put kk other) dl x nn _ (HW.out.put kk _ H2.out) HX.out.2.2.1 HX.out.2.2.2 HX.out.1 HX.out.2.1).mono ?_
      rintro e wc6 ⟨rfl, hb⟩
      refine ⟨_, rfl, ?_⟩
      have hA2 := Aside0.mk (hA.out.below hb)
      clear hA hb
      have hA := hA2
      clear hA2
      refine hK.out _ _ (hA.out.tail) (fun hHeld => ?_)
      clear hK K
      refine norm_ (a' := ?_) ?_ ?_
      rotate_left
      · show Act.put _ (some 52) _ = _
        simp only [Act.put, List.setIfInBounds_toArray, List.set_cons_zero, List.set_cons_succ, i64_w, i32_w]
        rfl
      refine pure_ (i := 7) (N := (some 45)) (v := ?_) (a' := ?_) #[true, true, true, true, true, true, true, true, false, false, true, false, false] rfl rfl (by kernel_rfl) (fun _ _ _ => only_shut) (Or.inl ⟨by rfl, ?_⟩) ?_ ?_
      rotate_left
      · intro w'
        go_simp
        with_reducible rfl
      rotate_left
      · simp only [Act.put, List.setIfInBounds_toArray, List.set_cons_zero, List.set_cons_succ, i64_w, i32_w]
        rfl
      refine pure_ (i := 8) (N := (some 53)) (v := ?_) (a' := ?_) #[true, true, true, true, true, true, true, true, true, false, true, false, false] rfl rfl (by kernel_rfl) (fun _ _ _ => only_shut) (Or.inl ⟨by rfl, ?_⟩) ?_ ?_
      rotate_left
      · intro w'
        go_simp
        with_reducible rfl
      rotate_left
      · simp only [Act.put, List.setIfInBounds_toArray, List.set_cons_zero, List.set_cons_succ, i64_w, i32_w]
        rfl
      refine pure_ (i := 9) (N := (some 54)) (v := ?_) (a' := ?_) #[true, true, true, true, true, true, true, true, true, true, true, false, false] rfl rfl (by kernel_rfl) (fun _ _ _ => only_shut) (Or.inl ⟨by rfl, ?_⟩) ?_ ?_
      rotate_left
      · intro w'
        go_simp
        with_reducible rfl
      rotate_left
      · simp only [Act.put, List.setIfInBounds_toArray, List.set_cons_zero, List.set_cons_succ, i64_w, i32_w]
        rfl
      refine one_ (i := 11) (N := none) #[true, true, true, true, true, true, true, true, true, true, true, true, false] rfl rfl (by kernel_rfl) (by decide) (fun K hK => ?_)
      refine skip_ (by rfl) rfl (exec_store_row 26 (.tmp 13) (.tmp 53) rfl g #[.int .i64 (nS (b.put kk other) x), .int .i64 0] rfl rfl 26 _ (hA.out.get 0 rfl) size26 (sz2 _ _ _ _) (one2 _ _)) ?_
      have hA2 := Aside0.mk (hA.out.row #[.int .i64 (nS (b.put kk other) x), .int .i64 0])
      clear hA
      have hA := hA2
      clear hA2
      generalize hgs : World.setRow _ _ _ = ws at hA ⊢
      clear hgs
      refine hK.out _ _ (hA.out.tail) (fun hHeld => ?_)
      clear hK K
      refine pure_ (i := 12) (N := (some 14)) (v := ?_) (a' := ?_) #[true, true, true, true, true, true, true, true, true, true, true, true, true] rfl rfl (by kernel_rfl) (fun _ _ _ => only_shut) (Or.inl ⟨by rfl, ?_⟩) ?_ ?_
      rotate_left
      · intro w'
        go_simp
        with_reducible rfl
      rotate_left
      · simp only [Act.put, List.setIfInBounds_toArray, List.set_cons_zero, List.set_cons_succ, i64_w, i32_w]
        rfl
      refine done_ (by kernel_rfl) ?_
      refine ⟨rfl, g, ?_, hA.out⟩
      simp only [putAll, Act.put, List.setIfInBounds_toArray, List.set_cons_zero, List.set_cons_succ]
  clear hI
  intro g2 wn2 hI0
  have hI := Aside0.mk hI0
  clear hI0
  simp only [putAll, Act.put, List.setIfInBounds_toArray, List.set_cons_zero, List.set_cons_succ]
  go_wp2_with fail
  refine region_split (fun g => [(56, .agg #[.bool false, .int .i64 dl, .int .u64 (b.s : Int), .int .u64 (b.i : Int), .int .u64 (b.h : Int), .int .u64 (b.d : Int), .int .u64 (b.m : Int), .int .u64 (b.w : Int)]), (57, .int .i64 (kk : Int)), (58, .int .u64 (one : Int)), (59, .int .u64 (other : Int)), (60, .int .u64 ((one ||| other : Nat) : Int)), (61, .agg #[.bool false, .int .i64 dl, .int .u64 ((b.put kk (one ||| other)).s : Int), .int .u64 ((b.put kk (one ||| other)).i : Int), .int .u64 ((b.put kk (one ||| other)).h : Int), .int .u64 ((b.put kk (one ||| other)).d : Int), .int .u64 ((b.put kk (one ||| other)).m : Int), .int .u64 ((b.put kk (one ||| other)).w : Int)]), (62, .agg #[.int .i64 x, .int .i64 nn]), (63, .agg #[.slice none 0 0, .slice none 0 0, .slice none 0 0, .slice none 0 0]), (64, .tuple #[.agg #[.int .i64 (nS (b.put kk (one ||| other)) x), .int .i64 0], .bool (nF (b.put kk (one ||| other)) x)]), (55, .tuple #[.agg #[.int .i64 (nS (b.put kk (one ||| other)) x), .int .i64 0], .bool (nF (b.put kk (one ||| other)) x)]), (65, .agg #[.int .i64 (nS (b.put kk (one ||| other)) x), .int .i64 0]), (66, .bool (nF (b.put kk (one ||| other)) x)), (15, .pointer (some ⟨g, 0, none⟩)), (16, .bool (nF (b.put kk (one ||| other)) x))]) (fun g w' => Blk w ((g, #[.int .i64 (nS (b.put kk (one ||| other)) x), .int .i64 0], 26) :: [(g2, #[.int .i64 (nS (b.put kk other) x), .int .i64 0], 26), (g1, #[.int .i64 (nS (b.put kk one) x), .int .i64 0], 26), (w.heap.size + 1, #[.int .i64 x, .int .i64 nn], 26), (w.heap.size, #[.bool false, .int .i64 dl, .int .u64 (b.s : Int), .int .u64 (b.i : Int), .int .u64 (b.h : Int), .int .u64 (b.d : Int), .int .u64 (b.m : Int), .int .u64 (b.w : Int)], 24)]) w') ?_ ?_
  · refine start_ (n := 15) (S := Blk w [(g2, #[.int .i64 (nS (b.put kk other) x), .int .i64 0], 26), (g1, #[.int .i64 (nS (b.put kk one) x), .int .i64 0], 26), (w.heap.size + 1, #[.int .i64 x, .int .i64 nn], 26), (w.heap.size, #[.bool false, .int .i64 dl, .int .u64 (b.s : Int), .int .u64 (b.i : Int), .int .u64 (b.h : Int), .int .u64 (b.d : Int), .int .u64 (b.m : Int), .int .u64 (b.w : Int)], 24)]) (ds := []) #[false, false, false, false, false, false, false, false, false, false, false, false, false, false, false] (by kernel_rfl) rfl rfl (hI.out.drew) (fun hHeld => ?_)
    have hI2 := Aside0.mk hI.out.drew
    clear hI
    have hI := hI2
    clear hI2
    generalize hwd : World.drew _ = wd at hI hHeld ⊢
    clear hwd
    refine take_ (i := 0) (N := (some 56)) (v := ?_) (a' := ?_) #[true, false, false, false, false, false, false, false, false, false, false, false, false, false, false] rfl rfl (by kernel_rfl) (fun _ _ _ => only_shut) (Or.inl ⟨by rfl, ?_⟩) hHeld ?_ ?_
    rotate_left
    · intro w' hS
      refine exec_load_row 24 (.tmp 5) ?_ (w.heap.size) ?_ 24 _ _ (hS.get 3 rfl) Try.underlying24 rfl size24
      · rfl
      · rfl
    rotate_left
    · simp only [Act.put, List.setIfInBounds_toArray, List.set_cons_zero, List.set_cons_succ, i64_w, i32_w]
      rfl
    refine pure_ (i := 1) (N := (some 57)) (v := ?_) (a' := ?_) #[true, true, false, false, false, false, false, false, false, false, false, false, false, false, false] rfl rfl (by kernel_rfl) (fun _ _ _ => only_shut) (Or.inl ⟨by rfl, ?_⟩) ?_ ?_
    rotate_left
    · intro w'
      go_simp
      with_reducible rfl
    rotate_left
    · simp only [Act.put, List.setIfInBounds_toArray, List.set_cons_zero, List.set_cons_succ, i64_w, i32_w]
      rfl
    refine pure_ (i := 2) (N := (some 58)) (v := ?_) (a' := ?_) #[true, true, true, false, false, false, false, false, false, false, false, false, false, false, false] rfl rfl (by kernel_rfl) (fun _ _ _ => only_shut) (Or.inl ⟨by rfl, ?_⟩) ?_ ?_
    rotate_left
    · intro w'
      go_simp
      with_reducible rfl
    rotate_left
    · simp only [Act.put, List.setIfInBounds_toArray, List.set_cons_zero, List.set_cons_succ, i64_w, i32_w]
      rfl
    refine pure_ (i := 3) (N := (some 59)) (v := ?_) (a' := ?_) #[true, true, true, true, false, false, false, false, false, false, false, false, false, false, false] rfl rfl (by kernel_rfl) (fun _ _ _ => only_shut) (Or.inl ⟨by rfl, ?_⟩) ?_ ?_
    rotate_left
    · intro w'
      go_simp
      with_reducible rfl
    rotate_left
    · simp only [Act.put, List.setIfInBounds_toArray, List.set_cons_zero, List.set_cons_succ, i64_w, i32_w]
      rfl
    refine pure_ (i := 4) (N := (some 60)) (v := ?_) (a' := ?_) #[true, true, true, true, true, false, false, false, false, false, false, false, false, false, false] rfl rfl (by kernel_rfl) (fun _ _ _ => only_shut) (Or.inl ⟨by rfl, ?_⟩) ?_ ?_
    rotate_left
    · intro w'
      go_simp
      with_reducible rfl
    rotate_left
    · simp only [Act.put, List.setIfInBounds_toArray, List.set_cons_zero, List.set_cons_succ, i64_w, i32_w]
      rfl
    refine take_ (i := 6) (N := (some 62)) (v := ?_) (a' := ?_) #[true, true, true, true, true, false, true, false, false, false, false, false, false, false, false] rfl rfl (by kernel_rfl) (fun _ _ _ => only_shut) (Or.inl ⟨by rfl, ?_⟩) hHeld ?_ ?_
    rotate_left
    · intro w' hS
      refine exec_load_row 26 (.tmp 9) ?_ (w.heap.size + 1) ?_ 26 _ _ (hS.get 2 rfl) Try.underlying26 rfl size26
      · rfl
      · rfl
    rotate_left
    · simp only [Act.put, List.setIfInBounds_toArray, List.set_cons_zero, List.set_cons_succ, i64_w, i32_w]
      rfl
    refine two_ (i := 5) (j := 12) (Ni := (some 61)) (Nj := (some 15)) #[true, true, true, true, true, true, true, false, false, false, false, false, false, false, false] #[true, true, true, true, true, false, true, false, false, false, false, false, true, false, false] rfl rfl rfl rfl (by kernel_rfl) (by decide) (by decide) (fun K hK => ?_) (fun K hK => ?_)
    · refine goes_ Try.func21 (by kernel_rfl) rfl #[.agg #[.bool false, .int .i64 dl, .int .u64 (b.s : Int), .int .u64 (b.i : Int), .int .u64 (b.h : Int), .int .u64 (b.d : Int), .int .u64 (b.m : Int), .int .u64 (b.w : Int)], .int .i64 (kk : Int), .int .u64 ((one ||| other : Nat) : Int)] (by rfl) rfl rfl (by (try simp only [List.map_toArray, List.map_cons, List.map_nil]); first | done | rfl) ?_
      refine (with_any b dl (one ||| other) _ kk HKK.out).mono ?_
      rintro e wc5 ⟨rfl, hb⟩
      refine ⟨_, rfl, ?_⟩
      have hI2 := Aside0.mk (hI.out.below hb)
      clear hI hb
      have hI := hI2
      clear hI2
      refine hK.out _ _ (hI.out) (fun hHeld => ?_)
      clear hK K
      refine norm_ (a' := ?_) ?_ ?_
      rotate_left
      · show Act.put _ (some 61) _ = _
        simp only [Act.put, List.setIfInBounds_toArray, List.set_cons_zero, List.set_cons_succ, i64_w, i32_w]
        rfl
      refine two_ (i := 7) (j := 12) (Ni := (some 63)) (Nj := (some 15)) #[true, true, true, true, true, true, true, true, false, false, false, false, false, false, false] #[true, true, true, true, true, true, true, false, false, false, false, false, true, false, false] rfl rfl rfl rfl (by kernel_rfl) (by decide) (by decide) (fun K hK => ?_) (fun K hK => ?_)
      · refine goes_ Try.func14 (by kernel_rfl) rfl #[] (by rfl) rfl rfl (by (try simp only [List.map_toArray, List.map_cons, List.map_nil]); first | done | rfl) ?_
        refine (utcZone_any _).mono ?_
        rintro e wc7 ⟨rfl, hb⟩
        refine ⟨_, rfl, ?_⟩
        have hI2 := Aside0.mk (hI.out.below hb)
        clear hI hb
        have hI := hI2
        clear hI2
        refine hK.out _ _ (hI.out) (fun hHeld => ?_)
        clear hK K
        refine norm_ (a' := ?_) ?_ ?_
        rotate_left
        · show Act.put _ (some 63) _ = _
          simp only [Act.put, List.setIfInBounds_toArray, List.set_cons_zero, List.set_cons_succ, i64_w, i32_w]
          rfl
        refine two_ (i := 8) (j := 12) (Ni := (some 64)) (Nj := (some 15)) #[true, true, true, true, true, true, true, true, true, false, false, false, false, false, false] #[true, true, true, true, true, true, true, true, false, false, false, false, true, false, false] rfl rfl rfl rfl (by kernel_rfl) (by decide) (by decide) (fun K hK => ?_) (fun K hK => ?_)
        · refine goes_ Try.func13 (by kernel_rfl) rfl #[.agg #[.bool false, .int .i64 dl, .int .u64 ((b.put kk (one ||| other)).s : Int), .int .u64 ((b.put kk (one ||| other)).i : Int), .int .u64 ((b.put kk (one ||| other)).h : Int), .int .u64 ((b.put kk (one ||| other)).d : Int), .int .u64 ((b.put kk (one ||| other)).m : Int), .int .u64 ((b.put kk (one ||| other)).w : Int)], .agg #[.int .i64 x, .int .i64 nn], .agg #[.slice none 0 0, .slice none 0 0, .slice none 0 0, .slice none 0 0]] (by rfl) rfl rfl (by (try simp only [List.map_toArray, List.map_cons, List.map_nil]); first | done | rfl) ?_
          refine (implNext_nx (b.put kk (one ||| other)) dl x nn _ (HW.out.put kk _ H3.out) HX.out.2.2.1 HX.out.2.2.2 HX.out.1 HX.out.2.1).mono ?_
          rintro e wc8 ⟨rfl, hb⟩
          refine ⟨_, rfl, ?_⟩
          have hI2 := Aside0.mk (hI.out.below hb)
          clear hI hb
          have hI := hI2
          clear hI2
          refine hK.out _ _ (hI.out) (fun hHeld => ?_)
          clear hK K
          refine norm_ (a' := ?_) ?_ ?_
          rotate_left
          · show Act.put _ (some 64) _ = _
            simp only [Act.put, List.setIfInBounds_toArray, List.set_cons_zero, List.set_cons_succ, i64_w, i32_w]
            rfl
          refine pure_ (i := 9) (N := (some 55)) (v := ?_) (a' := ?_) #[true, true, true, true, true, true, true, true, true, true, false, false, false, false, false] rfl rfl (by kernel_rfl) (fun _ _ _ => only_shut) (Or.inl ⟨by rfl, ?_⟩) ?_ ?_
          rotate_left
          · intro w'
            go_simp
            with_reducible rfl
          rotate_left
          · simp only [Act.put, List.setIfInBounds_toArray, List.set_cons_zero, List.set_cons_succ, i64_w, i32_w]
            rfl
          refine pure_ (i := 10) (N := (some 65)) (v := ?_) (a' := ?_) #[true, true, true, true, true, true, true, true, true, true, true, false, false, false, false] rfl rfl (by kernel_rfl) (fun _ _ _ => only_shut) (Or.inl ⟨by rfl, ?_⟩) ?_ ?_
          rotate_left
          · intro w'
            go_simp
            with_reducible rfl
          rotate_left
          · simp only [Act.put, List.setIfInBounds_toArray, List.set_cons_zero, List.set_cons_succ, i64_w, i32_w]
            rfl
          refine pure_ (i := 11) (N := (some 66)) (v := ?_) (a' := ?_) #[true, true, true, true, true, true, true, true, true, true, true, true, false, false, false] rfl rfl (by kernel_rfl) (fun _ _ _ => only_shut) (Or.inl ⟨by rfl, ?_⟩) ?_ ?_
          rotate_left
          · intro w'
            go_simp
            with_reducible rfl
          rotate_left
          · simp only [Act.put, List.setIfInBounds_toArray, List.set_cons_zero, List.set_cons_succ, i64_w, i32_w]
            rfl
          refine one_ (i := 12) (N := (some 15)) #[true, true, true, true, true, true, true, true, true, true, true, true, true, false, false] rfl rfl (by kernel_rfl) (by decide) (fun K hK => ?_)
          refine value_ (by rfl) rfl (alloc26 _ _ rfl _) ?_
          have hA := Aside0.mk (hI.out.alloc #[.int .i64 0, .int .i64 0] 26)
          clear hI
          generalize hga : World.alloc _ _ = wa at hA ⊢
          clear hga
          generalize hgb : wc8.heap.size = g at hA ⊢
          clear hgb
          refine hK.out _ _ (hA.out.tail) (fun hHeld => ?_)
          clear hK K
          refine norm_ (a' := ?_) ?_ ?_
          rotate_left
          · show Act.put _ (some 15) _ = _
            simp only [Act.put, List.setIfInBounds_toArray, List.set_cons_zero, List.set_cons_succ, i64_w, i32_w]
            rfl
          refine one_ (i := 13) (N := none) #[true, true, true, true, true, true, true, true, true, true, true, true, true, true, false] rfl rfl (by kernel_rfl) (by decide) (fun K hK => ?_)
          refine skip_ (by rfl) rfl (exec_store_row 26 (.tmp 15) (.tmp 65) rfl g #[.int .i64 (nS (b.put kk (one ||| other)) x), .int .i64 0] rfl rfl 26 _ (hA.out.get 0 rfl) size26 (sz2 _ _ _ _) (one2 _ _)) ?_
          have hA2 := Aside0.mk (hA.out.row #[.int .i64 (nS (b.put kk (one ||| other)) x), .int .i64 0])
          clear hA
          have hA := hA2
          clear hA2
          generalize hgs : World.setRow _ _ _ = ws at hA ⊢
          clear hgs
          refine hK.out _ _ (hA.out.tail) (fun hHeld => ?_)
          clear hK K
          refine pure_ (i := 14) (N := (some 16)) (v := ?_) (a' := ?_) #[true, true, true, true, true, true, true, true, true, true, true, true, true, true, true] rfl rfl (by kernel_rfl) (fun _ _ _ => only_shut) (Or.inl ⟨by rfl, ?_⟩) ?_ ?_
          rotate_left
          · intro w'
            go_simp
            with_reducible rfl
          rotate_left
          · simp only [Act.put, List.setIfInBounds_toArray, List.set_cons_zero, List.set_cons_succ, i64_w, i32_w]
            rfl
          refine done_ (by kernel_rfl) ?_
          refine ⟨rfl, g, ?_, hA.out⟩
          simp only [putAll, Act.put, List.setIfInBounds_toArray, List.set_cons_zero, List.set_cons_succ]
        · refine value_ (by rfl) rfl (alloc26 _ _ rfl _) ?_
          have hA := Aside0.mk (hI.out.alloc #[.int .i64 0, .int .i64 0] 26)
          clear hI
          generalize hga : World.alloc _ _ = wa at hA ⊢
          clear hga
          generalize hgb : wc7.heap.size = g at hA ⊢
          clear hgb
          refine hK.out _ _ (hA.out.tail) (fun hHeld => ?_)
          clear hK K
          refine norm_ (a' := ?_) ?_ ?_
          rotate_left
          · show Act.put _ (some 15) _ = _
            simp only [Act.put, List.setIfInBounds_toArray, List.set_cons_zero, List.set_cons_succ, i64_w, i32_w]
            rfl
          refine one_ (i := 8) (N := (some 64)) #[true, true, true, true, true, true, true, true, true, false, false, false, true, false, false] rfl rfl (by kernel_rfl) (by decide) (fun K hK => ?_)
          refine goes_ Try.func13 (by kernel_rfl) rfl #[.agg #[.bool false, .int .i64 dl, .int .u64 ((b.put kk (one ||| other)).s : Int), .int .u64 ((b.put kk (one ||| other)).i : Int), .int .u64 ((b.put kk (one ||| other)).h : Int), .int .u64 ((b.put kk (one ||| other)).d : Int), .int .u64 ((b.put kk (one ||| other)).m : Int), .int .u64 ((b.put kk (one ||| other)).w : Int)], .agg #[.int .i64 x, .int .i64 nn], .agg #[.slice none 0 0, .slice none 0 0, .slice none 0 0, .slice none 0 0]] (by rfl) rfl rfl (by (try simp only [List.map_toArray, List.map_cons, List.map_nil]); first | done | rfl) ?_
          refine (implNext_nx (b.put kk (one ||| other)) dl x nn _ (HW.out.put kk _ H3.out) HX.out.2.2.1 HX.out.2.2.2 HX.out.1 HX.out.2.1).mono ?_
          rintro e wc8 ⟨rfl, hb⟩
          refine ⟨_, rfl, ?_⟩
          have hA2 := Aside0.mk (hA.out.below hb)
          clear hA hb
          have hA := hA2
          clear hA2
          refine hK.out _ _ (hA.out.tail) (fun hHeld => ?_)
          clear hK K
          refine norm_ (a' := ?_) ?_ ?_
          rotate_left
          · show Act.put _ (some 64) _ = _
            simp only [Act.put, List.setIfInBounds_toArray, List.set_cons_zero, List.set_cons_succ, i64_w, i32_w]
            rfl
          refine pure_ (i := 9) (N := (some 55)) (v := ?_) (a' := ?_) #[true, true, true, true, true, true, true, true, true, true, false, false, true, false, false] rfl rfl (by kernel_rfl) (fun _ _ _ => only_shut) (Or.inl ⟨by rfl, ?_⟩) ?_ ?_
          rotate_left
          · intro w'
            go_simp
            with_reducible rfl
          rotate_left
          · simp only [Act.put, List.setIfInBounds_toArray, List.set_cons_zero, List.set_cons_succ, i64_w, i32_w]
            rfl
          refine pure_ (i := 10) (N := (some 65)) (v := ?_) (a' := ?_) #[true, true, true, true, true, true, true, true, true, true, true, false, true, false, false] rfl rfl (by kernel_rfl) (fun _ _ _ => only_shut) (Or.inl ⟨by rfl, ?_⟩) ?_ ?_
          rotate_left
          · intro w'
            go_simp
            with_reducible rfl
          rotate_left
          · simp only [Act.put, List.setIfInBounds_toArray, List.set_cons_zero, List.set_cons_succ, i64_w, i32_w]
            rfl
          refine pure_ (i := 11) (N := (some 66)) (v := ?_) (a' := ?_) #[true, true, true, true, true, true, true, true, true, true, true, true, true, false, false] rfl rfl (by kernel_rfl) (fun _ _ _ => only_shut) (Or.inl ⟨by rfl, ?_⟩) ?_ ?_
          rotate_left
          · intro w'
            go_simp
            with_reducible rfl
          rotate_left
          · simp only [Act.put, List.setIfInBounds_toArray, List.set_cons_zero, List.set_cons_succ, i64_w, i32_w]
            rfl
          refine one_ (i := 13) (N := none) #[true, true, true, true, true, true, true, true, true, true, true, true, true, true, false] rfl rfl (by kernel_rfl) (by decide) (fun K hK => ?_)
          refine skip_ (by rfl) rfl (exec_store_row 26 (.tmp 15) (.tmp 65) rfl g #[.int .i64 (nS (b.put kk (one ||| other)) x), .int .i64 0] rfl rfl 26 _ (hA.out.get 0 rfl) size26 (sz2 _ _ _ _) (one2 _ _)) ?_
          have hA2 := Aside0.mk (hA.out.row #[.int .i64 (nS (b.put kk (one ||| other)) x), .int .i64 0])
          clear hA
          have hA := hA2
          clear hA2
          generalize hgs : World.setRow _ _ _ = ws at hA ⊢
          clear hgs
          refine hK.out _ _ (hA.out.tail) (fun hHeld => ?_)
          clear hK K
          refine pure_ (i := 14) (N := (some 16)) (v := ?_) (a' := ?_) #[true, true, true, true, true, true, true, true, true, true, true, true, true, true, true] rfl rfl (by kernel_rfl) (fun _ _ _ => only_shut) (Or.inl ⟨by rfl, ?_⟩) ?_ ?_
          rotate_left
          · intro w'
            go_simp
            with_reducible rfl
          rotate_left
          · simp only [Act.put, List.setIfInBounds_toArray, List.set_cons_zero, List.set_cons_succ, i64_w, i32_w]
            rfl
          refine done_ (by kernel_rfl) ?_
          refine ⟨rfl, g, ?_, hA.out⟩
          simp only [putAll, Act.put, List.setIfInBounds_toArray, List.set_cons_zero, List.set_cons_succ]
      · refine value_ (by rfl) rfl (alloc26 _ _ rfl _) ?_
        have hA := Aside0.mk (hI.out.alloc #[.int .i64 0, .int .i64 0] 26)
        clear hI
        generalize hga : World.alloc _ _ = wa at hA ⊢
        clear hga
        generalize hgb : wc5.heap.size = g at hA ⊢
        clear hgb
        refine hK.out _ _ (hA.out.tail) (fun hHeld => ?_)
        clear hK K
        refine norm_ (a' := ?_) ?_ ?_
        rotate_left
        · show Act.put _ (some 15) _ = _
          simp only [Act.put, List.setIfInBounds_toArray, List.set_cons_zero, List.set_cons_succ, i64_w, i32_w]
          rfl
        refine one_ (i := 7) (N := (some 63)) #[true, true, true, true, true, true, true, true, false, false, false, false, true, false, false] rfl rfl (by kernel_rfl) (by decide) (fun K hK => ?_)
        refine goes_ Try.func14 (by kernel_rfl) rfl #[] (by rfl) rfl rfl (by (try simp only [List.map_toArray, List.map_cons, List.map_nil]); first | done | rfl) ?_
        refine (utcZone_any _).mono ?_
        rintro e wc7 ⟨rfl, hb⟩
        refine ⟨_, rfl, ?_⟩
        have hA2 := Aside0.mk (hA.out.below hb)
        clear hA hb
        have hA := hA2
        clear hA2
        refine hK.out _ _ (hA.out.tail) (fun hHeld => ?_)
        clear hK K
        refine norm_ (a' := ?_) ?_ ?_
        rotate_left
        · show Act.put _ (some 63) _ = _
          simp only [Act.put, List.setIfInBounds_toArray, List.set_cons_zero, List.set_cons_succ, i64_w, i32_w]
          rfl
        refine one_ (i := 8) (N := (some 64)) #[true, true, true, true, true, true, true, true, true, false, false, false, true, false, false] rfl rfl (by kernel_rfl) (by decide) (fun K hK => ?_)
        refine goes_ Try.func13 (by kernel_rfl) rfl #[.agg #[.bool false, .int .i64 dl, .int .u64 ((b.put kk (one ||| other)).s : Int), .int .u64 ((b.put kk (one ||| other)).i : Int), .int .u64 ((b.put kk (one ||| other)).h : Int), .int .u64 ((b.put kk (one ||| other)).d : Int), .int .u64 ((b.put kk (one ||| other)).m : Int), .int .u64 ((b.put kk (one ||| other)).w : Int)], .agg #[.int .i64 x, .int .i64 nn], .agg #[.slice none 0 0, .slice none 0 0, .slice none 0 0, .slice none 0 0]] (by rfl) rfl rfl (by (try simp only [List.map_toArray, List.map_cons, List.map_nil]); first | done | rfl) ?_
        refine (implNext_nx (b.put kk (one ||| other)) dl x nn _ (HW.out.put kk _ H3.out) HX.out.2.2.1 HX.out.2.2.2 HX.out.1 HX.out.2.1).mono ?_
        rintro e wc8 ⟨rfl, hb⟩
        refine ⟨_, rfl, ?_⟩
        have hA2 := Aside0.mk (hA.out.below hb)
        clear hA hb
        have hA := hA2
        clear hA2
        refine hK.out _ _ (hA.out.tail) (fun hHeld => ?_)
        clear hK K
        refine norm_ (a' := ?_) ?_ ?_
        rotate_left
        · show Act.put _ (some 64) _ = _
          simp only [Act.put, List.setIfInBounds_toArray, List.set_cons_zero, List.set_cons_succ, i64_w, i32_w]
          rfl
        refine pure_ (i := 9) (N := (some 55)) (v := ?_) (a' := ?_) #[true, true, true, true, true, true, true, true, true, true, false, false, true, false, false] rfl rfl (by kernel_rfl) (fun _ _ _ => only_shut) (Or.inl ⟨by rfl, ?_⟩) ?_ ?_
        rotate_left
        · intro w'
          go_simp
          with_reducible rfl
        rotate_left
        · simp only [Act.put, List.setIfInBounds_toArray, List.set_cons_zero, List.set_cons_succ, i64_w, i32_w]
          rfl
        refine pure_ (i := 10) (N := (some 65)) (v := ?_) (a' := ?_) #[true, true, true, true, true, true, true, true, true, true, true, false, true, false, false] rfl rfl (by kernel_rfl) (fun _ _ _ => only_shut) (Or.inl ⟨by rfl, ?_⟩) ?_ ?_
        rotate_left
        · intro w'
          go_simp
          with_reducible rfl
        rotate_left
        · simp only [Act.put, List.setIfInBounds_toArray, List.set_cons_zero, List.set_cons_succ, i64_w, i32_w]
          rfl
        refine pure_ (i := 11) (N := (some 66)) (v := ?_) (a' := ?_) #[true, true, true, true, true, true, true, true, true, true, true, true, true, false, false] rfl rfl (by kernel_rfl) (fun _ _ _ => only_shut) (Or.inl ⟨by rfl, ?_⟩) ?_ ?_
        rotate_left
        · intro w'
          go_simp
          with_reducible rfl
        rotate_left
        · simp only [Act.put, List.setIfInBounds_toArray, List.set_cons_zero, List.set_cons_succ, i64_w, i32_w]
          rfl
        refine one_ (i := 13) (N := none) #[true, true, true, true, true, true, true, true, true, true, true, true, true, true, false] rfl rfl (by kernel_rfl) (by decide) (fun K hK => ?_)
        refine skip_ (by rfl) rfl (exec_store_row 26 (.tmp 15) (.tmp 65) rfl g #[.int .i64 (nS (b.put kk (one ||| other)) x), .int .i64 0] rfl rfl 26 _ (hA.out.get 0 rfl) size26 (sz2 _ _ _ _) (one2 _ _)) ?_
        have hA2 := Aside0.mk (hA.out.row #[.int .i64 (nS (b.put kk (one ||| other)) x), .int .i64 0])
        clear hA
        have hA := hA2
        clear hA2
        generalize hgs : World.setRow _ _ _ = ws at hA ⊢
        clear hgs
        refine hK.out _ _ (hA.out.tail) (fun hHeld => ?_)
        clear hK K
        refine pure_ (i := 14) (N := (some 16)) (v := ?_) (a' := ?_) #[true, true, true, true, true, true, true, true, true, true, true, true, true, true, true] rfl rfl (by kernel_rfl) (fun _ _ _ => only_shut) (Or.inl ⟨by rfl, ?_⟩) ?_ ?_
        rotate_left
        · intro w'
          go_simp
          with_reducible rfl
        rotate_left
        · simp only [Act.put, List.setIfInBounds_toArray, List.set_cons_zero, List.set_cons_succ, i64_w, i32_w]
          rfl
        refine done_ (by kernel_rfl) ?_
        refine ⟨rfl, g, ?_, hA.out⟩
        simp only [putAll, Act.put, List.setIfInBounds_toArray, List.set_cons_zero, List.set_cons_succ]
    · refine value_ (by rfl) rfl (alloc26 _ _ rfl _) ?_
      have hA := Aside0.mk (hI.out.alloc #[.int .i64 0, .int .i64 0] 26)
      clear hI
      generalize hga : World.alloc _ _ = wa at hA ⊢
      clear hga
      generalize hgb : wd.heap.size = g at hA ⊢
      clear hgb
      refine hK.out _ _ (hA.out.tail) (fun hHeld => ?_)
      clear hK K
      refine norm_ (a' := ?_) ?_ ?_
      rotate_left
      · show Act.put _ (some 15) _ = _
        simp only [Act.put, List.setIfInBounds_toArray, List.set_cons_zero, List.set_cons_succ, i64_w, i32_w]
        rfl
      refine one_ (i := 5) (N := (some 61)) #[true, true, true, true, true, true, true, false, false, false, false, false, true, false, false] rfl rfl (by kernel_rfl) (by decide) (fun K hK => ?_)
      refine goes_ Try.func21 (by kernel_rfl) rfl #[.agg #[.bool false, .int .i64 dl, .int .u64 (b.s : Int), .int .u64 (b.i : Int), .int .u64 (b.h : Int), .int .u64 (b.d : Int), .int .u64 (b.m : Int), .int .u64 (b.w : Int)], .int .i64 (kk : Int), .int .u64 ((one ||| other : Nat) : Int)] (by rfl) rfl rfl (by (try simp only [List.map_toArray, List.map_cons, List.map_nil]); first | done | rfl) ?_
      refine (with_any b dl (one ||| other) _ kk HKK.out).mono ?_
      rintro e wc5 ⟨rfl, hb⟩
      refine ⟨_, rfl, ?_⟩
      have hA2 := Aside0.mk (hA.out.below hb)
      clear hA hb
      have hA := hA2
      clear hA2
      refine hK.out _ _ (hA.out.tail) (fun hHeld => ?_)
      clear hK K
      refine norm_ (a' := ?_) ?_ ?_
      rotate_left
      · show Act.put _ (some 61) _ = _
        simp only [Act.put, List.setIfInBounds_toArray, List.set_cons_zero, List.set_cons_succ, i64_w, i32_w]
        rfl
      refine one_ (i := 7) (N := (some 63)) #[true, true, true, true, true, true, true, true, false, false, false, false, true, false, false] rfl rfl (by kernel_rfl) (by decide) (fun K hK => ?_)
      refine goes_ Try.func14 (by kernel_rfl) rfl #[] (by rfl) rfl rfl (by (try simp only [List.map_toArray, List.map_cons, List.map_nil]); first | done | rfl) ?_
      refine (utcZone_any _).mono ?_
      rintro e wc7 ⟨rfl, hb⟩
      refine ⟨_, rfl, ?_⟩
      have hA2 := Aside0.mk (hA.out.below hb)
      clear hA hb
      have hA := hA2
      clear hA2
      refine hK.out _ _ (hA.out.tail) (fun hHeld => ?_)
      clear hK K
      refine norm_ (a' := ?_) ?_ ?_
      rotate_left
      · show Act.put _ (some 63) _ = _
        simp only [Act.put, List.setIfInBounds_toArray, List.set_cons_zero, List.set_cons_succ, i64_w, i32_w]
        rfl
      refine one_ (i := 8) (N := (some 64)) #[true, true, true, true, true, true, true, true, true, false, false, false, true, false, false] rfl rfl (by kernel_rfl) (by decide) (fun K hK => ?_)
      refine goes_ Try.func13 (by kernel_rfl) rfl #[.agg #[.bool false, .int .i64 dl, .int .u64 ((b.put kk (one ||| other)).s : Int), .int .u64 ((b.put kk (one ||| other)).i : Int), .int .u64 ((b.put kk (one ||| other)).h : Int), .int .u64 ((b.put kk (one ||| other)).d : Int), .int .u64 ((b.put kk (one ||| other)).m : Int), .int .u64 ((b.put kk (one ||| other)).w : Int)], .agg #[.int .i64 x, .int .i64 nn], .agg #[.slice none 0 0, .slice none 0 0, .slice none 0 0, .slice none 0 0]] (by rfl) rfl rfl (by (try simp only [List.map_toArray, List.map_cons, List.map_nil]); first | done | rfl) ?_
      refine (implNext_nx (b.put kk (one ||| other)) dl x nn _ (HW.out.put kk _ H3.out) HX.out.2.2.1 HX.out.2.2.2 HX.out.1 HX.out.2.1).mono ?_
      rintro e wc8 ⟨rfl, hb⟩
      refine ⟨_, rfl, ?_⟩
      have hA2 := Aside0.mk (hA.out.below hb)
      clear hA hb
      have hA := hA2
      clear hA2
      refine hK.out _ _ (hA.out.tail) (fun hHeld => ?_)
      clear hK K
      refine norm_ (a' := ?_) ?_ ?_
      rotate_left
      · show Act.put _ (some 64) _ = _
        simp only [Act.put, List.setIfInBounds_toArray, List.set_cons_zero, List.set_cons_succ, i64_w, i32_w]
        rfl
      refine pure_ (i := 9) (N := (some 55)) (v := ?_) (a' := ?_) #[true, true, true, true, true, true, true, true, true, true, false, false, true, false, false] rfl rfl (by kernel_rfl) (fun _ _ _ => only_shut) (Or.inl ⟨by rfl, ?_⟩) ?_ ?_
      rotate_left
      · intro w'
        go_simp
        with_reducible rfl
      rotate_left
      · simp only [Act.put, List.setIfInBounds_toArray, List.set_cons_zero, List.set_cons_succ, i64_w, i32_w]
        rfl
      refine pure_ (i := 10) (N := (some 65)) (v := ?_) (a' := ?_) #[true, true, true, true, true, true, true, true, true, true, true, false, true, false, false] rfl rfl (by kernel_rfl) (fun _ _ _ => only_shut) (Or.inl ⟨by rfl, ?_⟩) ?_ ?_
      rotate_left
      · intro w'
        go_simp
        with_reducible rfl
      rotate_left
      · simp only [Act.put, List.setIfInBounds_toArray, List.set_cons_zero, List.set_cons_succ, i64_w, i32_w]
        rfl
      refine pure_ (i := 11) (N := (some 66)) (v := ?_) (a' := ?_) #[true, true, true, true, true, true, true, true, true, true, true, true, true, false, false] rfl rfl (by kernel_rfl) (fun _ _ _ => only_shut) (Or.inl ⟨by rfl, ?_⟩) ?_ ?_
      rotate_left
      · intro w'
        go_simp
        with_reducible rfl
      rotate_left
      · simp only [Act.put, List.setIfInBounds_toArray, List.set_cons_zero, List.set_cons_succ, i64_w, i32_w]
        rfl
      refine one_ (i := 13) (N := none) #[true, true, true, true, true, true, true, true, true, true, true, true, true, true, false] rfl rfl (by kernel_rfl) (by decide) (fun K hK => ?_)
      refine skip_ (by rfl) rfl (exec_store_row 26 (.tmp 15) (.tmp 65) rfl g #[.int .i64 (nS (b.put kk (one ||| other)) x), .int .i64 0] rfl rfl 26 _ (hA.out.get 0 rfl) size26 (sz2 _ _ _ _) (one2 _ _)) ?_
      have hA2 := Aside0.mk (hA.out.row #[.int .i64 (nS (b.put kk (one ||| other)) x), .int .i64 0])
      clear hA
      have hA := hA2
      clear hA2
      generalize hgs : World.setRow _ _ _ = ws at hA ⊢
      clear hgs
      refine hK.out _ _ (hA.out.tail) (fun hHeld => ?_)
      clear hK K
      refine pure_ (i := 14) (N := (some 16)) (v := ?_) (a' := ?_) #[true, true, true, true, true, true, true, true, true, true, true, true, true, true, true] rfl rfl (by kernel_rfl) (fun _ _ _ => only_shut) (Or.inl ⟨by rfl, ?_⟩) ?_ ?_
      rotate_left
      · intro w'
        go_simp
        with_reducible rfl
      rotate_left
      · simp only [Act.put, List.setIfInBounds_toArray, List.set_cons_zero, List.set_cons_succ, i64_w, i32_w]
        rfl
      refine done_ (by kernel_rfl) ?_
      refine ⟨rfl, g, ?_, hA.out⟩
      simp only [putAll, Act.put, List.setIfInBounds_toArray, List.set_cons_zero, List.set_cons_succ]
  clear hI
  intro g3 wn3 hI0
  have hI := Aside0.mk hI0
  clear hI0
  simp only [putAll, Act.put, List.setIfInBounds_toArray, List.set_cons_zero, List.set_cons_succ]
  go_wp2_with (first | (refine wpList_load_row rfl 26 (.tmp 11) rfl (g1) rfl 26 _ (0, 0) _ (hI.out.get 2 rfl) Try.underlying26 rfl size26 ?_) | (refine wpList_load_row rfl 26 (.tmp 13) rfl (g2) rfl 26 _ (0, 0) _ (hI.out.get 1 rfl) Try.underlying26 rfl size26 ?_) | (go_at_call 22; (with_reducible refine (laws_cronEarlier.calls _ _ _ _ _ _ _ _ _ _ HE.out).mono ?_); rintro e we ⟨rfl, hb⟩; have hI2 := Aside0.mk (hI.out.below hb); clear hI hb; have hI := hI2; clear hI2))
  have hI2 := Aside0.mk (hI.out.alloc #[.int .i64 (nS (b.put kk (one ||| other)) x), .int .i64 0] 26)
  clear hI
  have hI := hI2
  clear hI2
  generalize hga : World.alloc _ _ = wea at hI ⊢
  clear hga
  generalize hgb : we.heap.size = g4 at hI ⊢
  clear hgb
  go_wp2_with fail
  clear HE
  obtain ⟨q, hq⟩ : ∃ q, nF (b.put kk (one ||| other)) x = q := ⟨_, rfl⟩
  rw [hq]
  have HN : Aside0 (∀ w', Calls Try.prog 15 #[.agg #[.bool false, .int .i64 dl, .int .u64 ((b.put kk (one ||| other)).s : Int), .int .u64 ((b.put kk (one ||| other)).i : Int), .int .u64 ((b.put kk (one ||| other)).h : Int), .int .u64 ((b.put kk (one ||| other)).d : Int), .int .u64 ((b.put kk (one ||| other)).m : Int), .int .u64 ((b.put kk (one ||| other)).w : Int)], .agg #[.int .i64 x, .int .i64 nn], .agg #[.slice none 0 0, .slice none 0 0, .slice none 0 0, .slice none 0 0]] w' fun e w'' => e = .returned (.bool (!q)) ∧ Below w'.heap.size w' w'') := ⟨fun w' => by
    rw [← hq]
    exact none_any (b.put kk (one ||| other)) dl x nn w' (HW.out.put kk _ H3.out) HX.out.1 HX.out.2.1⟩
  clear hq
  cases q
  · refine start_ (n := 23) (S := Blk w [(g4, #[.int .i64 (nS (b.put kk (one ||| other)) x), .int .i64 0], 26), (g3, #[.int .i64 (nS (b.put kk (one ||| other)) x), .int .i64 0], 26), (g2, #[.int .i64 (nS (b.put kk other) x), .int .i64 0], 26), (g1, #[.int .i64 (nS (b.put kk one) x), .int .i64 0], 26), (w.heap.size + 1, #[.int .i64 x, .int .i64 nn], 26), (w.heap.size, #[.bool false, .int .i64 dl, .int .u64 (b.s : Int), .int .u64 (b.i : Int), .int .u64 (b.h : Int), .int .u64 (b.d : Int), .int .u64 (b.m : Int), .int .u64 (b.w : Int)], 24)]) (ds := []) #[false, false, false, false, false, false, false, false, false, false, false, false, false, false, false, false, false, false, false, false, false, false, false] (by kernel_rfl) rfl rfl (hI.out.drew) (fun hHeld => ?_)
    have hI2 := Aside0.mk hI.out.drew
    clear hI
    have hI := hI2
    clear hI2
    generalize hwd : World.drew _ = wd at hI hHeld ⊢
    clear hwd
    refine pure_ (i := 0) (N := (some 75)) (v := ?_) (a' := ?_) #[true, false, false, false, false, false, false, false, false, false, false, false, false, false, false, false, false, false, false, false, false, false, false] rfl rfl (by kernel_rfl) (fun _ _ _ h => h) (Or.inl ⟨by rfl, ?_⟩) ?_ ?_
    rotate_left
    · intro w'
      go_simp
      with_reducible rfl
    rotate_left
    · simp only [Act.put, List.setIfInBounds_toArray, List.set_cons_zero, List.set_cons_succ, i64_w, i32_w]
      rfl
    refine pure_ (i := 1) (N := (some 76)) (v := ?_) (a' := ?_) #[true, true, false, false, false, false, false, false, false, false, false, false, false, false, false, false, false, false, false, false, false, false, false] rfl rfl (by kernel_rfl) (fun _ _ _ h => h) (Or.inl ⟨by rfl, ?_⟩) ?_ ?_
    rotate_left
    · intro w'
      go_simp
      with_reducible rfl
    rotate_left
    · simp only [Act.put, List.setIfInBounds_toArray, List.set_cons_zero, List.set_cons_succ, i64_w, i32_w]
      rfl
    refine pure_ (i := 2) (N := (some 77)) (v := ?_) (a' := ?_) #[true, true, true, false, false, false, false, false, false, false, false, false, false, false, false, false, false, false, false, false, false, false, false] rfl rfl (by kernel_rfl) (fun _ _ _ h => h) (Or.inl ⟨by rfl, ?_⟩) ?_ ?_
    rotate_left
    · intro w'
      go_simp
      with_reducible rfl
    rotate_left
    · simp only [Act.put, List.setIfInBounds_toArray, List.set_cons_zero, List.set_cons_succ, i64_w, i32_w]
      rfl
    refine pure_ (i := 3) (N := (some 78)) (v := ?_) (a' := ?_) #[true, true, true, true, false, false, false, false, false, false, false, false, false, false, false, false, false, false, false, false, false, false, false] rfl rfl (by kernel_rfl) (fun _ _ _ h => h) (Or.inl ⟨by rfl, ?_⟩) ?_ ?_
    rotate_left
    · intro w'
      go_simp
      with_reducible rfl
    rotate_left
    · simp only [Act.put, List.setIfInBounds_toArray, List.set_cons_zero, List.set_cons_succ, i64_w, i32_w]
      rfl
    refine take_ (i := 4) (N := (some 79)) (v := ?_) (a' := ?_) #[true, true, true, true, true, false, false, false, false, false, false, false, false, false, false, false, false, false, false, false, false, false, false] rfl rfl (by kernel_rfl) (fun _ _ _ h => h) (Or.inl ⟨by rfl, ?_⟩) hHeld ?_ ?_
    rotate_left
    · intro w' hS
      refine exec_load_row 26 (.tmp 15) ?_ g3 ?_ 26 _ _ (hS.get 1 rfl) Try.underlying26 rfl size26
      · rfl
      · rfl
    rotate_left
    · simp only [Act.put, List.setIfInBounds_toArray, List.set_cons_zero, List.set_cons_succ, i64_w, i32_w]
      rfl
    refine take_ (i := 5) (N := (some 80)) (v := ?_) (a' := ?_) #[true, true, true, true, true, true, false, false, false, false, false, false, false, false, false, false, false, false, false, false, false, false, false] rfl rfl (by kernel_rfl) (fun _ _ _ h => h) (Or.inl ⟨by rfl, ?_⟩) hHeld ?_ ?_
    rotate_left
    · intro w' hS
      refine exec_load_row 26 (.tmp 17) ?_ g4 ?_ 26 _ _ (hS.get 0 rfl) Try.underlying26 rfl size26
      · rfl
      · rfl
    rotate_left
    · simp only [Act.put, List.setIfInBounds_toArray, List.set_cons_zero, List.set_cons_succ, i64_w, i32_w]
      rfl
    refine pure_ (i := 6) (N := (some 81)) (v := ?_) (a' := ?_) #[true, true, true, true, true, true, true, false, false, false, false, false, false, false, false, false, false, false, false, false, false, false, false] rfl rfl (by kernel_rfl) (fun _ _ _ h => h) (Or.inl ⟨by rfl, ?_⟩) ?_ ?_
    rotate_left
    · intro w'
      go_simp
      with_reducible rfl
    rotate_left
    · simp only [Act.put, List.setIfInBounds_toArray, List.set_cons_zero, List.set_cons_succ, i64_w, i32_w]
      rfl
    refine pure_ (i := 7) (N := (some 82)) (v := ?_) (a' := ?_) #[true, true, true, true, true, true, true, true, false, false, false, false, false, false, false, false, false, false, false, false, false, false, false] rfl rfl (by kernel_rfl) (fun _ _ _ h => h) (Or.inl ⟨by rfl, ?_⟩) ?_ ?_
    rotate_left
    · intro w'
      go_simp
      with_reducible rfl
    rotate_left
    · simp only [Act.put, List.setIfInBounds_toArray, List.set_cons_zero, List.set_cons_succ, i64_w, i32_w]
      rfl
    refine pure_ (i := 8) (N := (some 83)) (v := ?_) (a' := ?_) #[true, true, true, true, true, true, true, true, true, false, false, false, false, false, false, false, false, false, false, false, false, false, false] rfl rfl (by kernel_rfl) (fun _ _ _ h => h) (Or.inl ⟨by rfl, ?_⟩) ?_ ?_
    rotate_left
    · intro w'
      go_simp
      with_reducible rfl
    rotate_left
    · simp only [Act.put, List.setIfInBounds_toArray, List.set_cons_zero, List.set_cons_succ, i64_w, i32_w]
      rfl
    refine pure_ (i := 9) (N := (some 84)) (v := ?_) (a' := ?_) #[true, true, true, true, true, true, true, true, true, true, false, false, false, false, false, false, false, false, false, false, false, false, false] rfl rfl (by kernel_rfl) (fun _ _ _ h => h) (Or.inl ⟨by rfl, ?_⟩) ?_ ?_
    rotate_left
    · intro w'
      go_simp
      with_reducible rfl
    rotate_left
    · simp only [Act.put, List.setIfInBounds_toArray, List.set_cons_zero, List.set_cons_succ, i64_w, i32_w]
      rfl
    refine pure_ (i := 10) (N := (some 85)) (v := ?_) (a' := ?_) #[true, true, true, true, true, true, true, true, true, true, true, false, false, false, false, false, false, false, false, false, false, false, false] rfl rfl (by kernel_rfl) (fun _ _ _ h => h) (Or.inl ⟨by rfl, ?_⟩) ?_ ?_
    rotate_left
    · intro w'
      go_simp
      with_reducible rfl
    rotate_left
    · simp only [Act.put, List.setIfInBounds_toArray, List.set_cons_zero, List.set_cons_succ, i64_w, i32_w]
      rfl
    refine take_ (i := 11) (N := (some 86)) (v := ?_) (a' := ?_) #[true, true, true, true, true, true, true, true, true, true, true, true, false, false, false, false, false, false, false, false, false, false, false] rfl rfl (by kernel_rfl) (fun _ _ _ h => h) (Or.inl ⟨by rfl, ?_⟩) hHeld ?_ ?_
    rotate_left
    · intro w' hS
      refine exec_load_row 24 (.tmp 5) ?_ (w.heap.size) ?_ 24 _ _ (hS.get 5 rfl) Try.underlying24 rfl size24
      · rfl
      · rfl
    rotate_left
    · simp only [Act.put, List.setIfInBounds_toArray, List.set_cons_zero, List.set_cons_succ, i64_w, i32_w]
      rfl
    refine pure_ (i := 12) (N := (some 87)) (v := ?_) (a' := ?_) #[true, true, true, true, true, true, true, true, true, true, true, true, true, false, false, false, false, false, false, false, false, false, false] rfl rfl (by kernel_rfl) (fun _ _ _ h => h) (Or.inl ⟨by rfl, ?_⟩) ?_ ?_
    rotate_left
    · intro w'
      go_simp
      with_reducible rfl
    rotate_left
    · simp only [Act.put, List.setIfInBounds_toArray, List.set_cons_zero, List.set_cons_succ, i64_w, i32_w]
      rfl
    refine pure_ (i := 13) (N := (some 88)) (v := ?_) (a' := ?_) #[true, true, true, true, true, true, true, true, true, true, true, true, true, true, false, false, false, false, false, false, false, false, false] rfl rfl (by kernel_rfl) (fun _ _ _ h => h) (Or.inl ⟨by rfl, ?_⟩) ?_ ?_
    rotate_left
    · intro w'
      go_simp
      with_reducible rfl
    rotate_left
    · simp only [Act.put, List.setIfInBounds_toArray, List.set_cons_zero, List.set_cons_succ, i64_w, i32_w]
      rfl
    refine pure_ (i := 14) (N := (some 89)) (v := ?_) (a' := ?_) #[true, true, true, true, true, true, true, true, true, true, true, true, true, true, true, false, false, false, false, false, false, false, false] rfl rfl (by kernel_rfl) (fun _ _ _ h => h) (Or.inl ⟨by rfl, ?_⟩) ?_ ?_
    rotate_left
    · intro w'
      go_simp
      with_reducible rfl
    rotate_left
    · simp only [Act.put, List.setIfInBounds_toArray, List.set_cons_zero, List.set_cons_succ, i64_w, i32_w]
      rfl
    refine pure_ (i := 15) (N := (some 90)) (v := ?_) (a' := ?_) #[true, true, true, true, true, true, true, true, true, true, true, true, true, true, true, true, false, false, false, false, false, false, false] rfl rfl (by kernel_rfl) (fun _ _ _ h => h) (Or.inl ⟨by rfl, ?_⟩) ?_ ?_
    rotate_left
    · intro w'
      go_simp
      with_reducible rfl
    rotate_left
    · simp only [Act.put, List.setIfInBounds_toArray, List.set_cons_zero, List.set_cons_succ, i64_w, i32_w]
      rfl
    refine take_ (i := 17) (N := (some 92)) (v := ?_) (a' := ?_) #[true, true, true, true, true, true, true, true, true, true, true, true, true, true, true, true, false, true, false, false, false, false, false] rfl rfl (by kernel_rfl) (fun _ _ _ h => h) (Or.inl ⟨by rfl, ?_⟩) hHeld ?_ ?_
    rotate_left
    · intro w' hS
      refine exec_load_row 26 (.tmp 9) ?_ (w.heap.size + 1) ?_ 26 _ _ (hS.get 4 rfl) Try.underlying26 rfl size26
      · rfl
      · rfl
    rotate_left
    · simp only [Act.put, List.setIfInBounds_toArray, List.set_cons_zero, List.set_cons_succ, i64_w, i32_w]
      rfl
    refine one_ (i := 16) (N := (some 91)) #[true, true, true, true, true, true, true, true, true, true, true, true, true, true, true, true, true, true, false, false, false, false, false] rfl rfl (by kernel_rfl) (by decide) (fun K hK => ?_)
    refine goes_ Try.func21 (by kernel_rfl) rfl #[.agg #[.bool false, .int .i64 dl, .int .u64 (b.s : Int), .int .u64 (b.i : Int), .int .u64 (b.h : Int), .int .u64 (b.d : Int), .int .u64 (b.m : Int), .int .u64 (b.w : Int)], .int .i64 (kk : Int), .int .u64 ((one ||| other : Nat) : Int)] (by rfl) rfl rfl (by (try simp only [List.map_toArray, List.map_cons, List.map_nil]); first | done | rfl) ?_
    refine (with_any b dl (one ||| other) _ kk HKK.out).mono ?_
    rintro e w16 ⟨rfl, hb⟩
    refine ⟨_, rfl, ?_⟩
    have hI2 := Aside0.mk (hI.out.below hb)
    clear hI hb
    have hI := hI2
    clear hI2
    refine hK.out _ _ (hI.out) (fun hHeld => ?_)
    clear hK K
    refine norm_ (a' := ?_) ?_ ?_
    rotate_left
    · show Act.put _ (some 91) _ = _
      simp only [Act.put, List.setIfInBounds_toArray, List.set_cons_zero, List.set_cons_succ, i64_w, i32_w]
      rfl
    refine one_ (i := 18) (N := (some 93)) #[true, true, true, true, true, true, true, true, true, true, true, true, true, true, true, true, true, true, true, false, false, false, false] rfl rfl (by kernel_rfl) (by decide) (fun K hK => ?_)
    refine goes_ Try.func14 (by kernel_rfl) rfl #[] (by rfl) rfl rfl (by (try simp only [List.map_toArray, List.map_cons, List.map_nil]); first | done | rfl) ?_
    refine (utcZone_any _).mono ?_
    rintro e w18 ⟨rfl, hb⟩
    refine ⟨_, rfl, ?_⟩
    have hI2 := Aside0.mk (hI.out.below hb)
    clear hI hb
    have hI := hI2
    clear hI2
    refine hK.out _ _ (hI.out) (fun hHeld => ?_)
    clear hK K
    refine norm_ (a' := ?_) ?_ ?_
    rotate_left
    · show Act.put _ (some 93) _ = _
      simp only [Act.put, List.setIfInBounds_toArray, List.set_cons_zero, List.set_cons_succ, i64_w, i32_w]
      rfl
    refine one_ (i := 19) (N := (some 94)) #[true, true, true, true, true, true, true, true, true, true, true, true, true, true, true, true, true, true, true, true, false, false, false] rfl rfl (by kernel_rfl) (by decide) (fun K hK => ?_)
    refine goes_ Try.func15 (by kernel_rfl) rfl #[.agg #[.bool false, .int .i64 dl, .int .u64 ((b.put kk (one ||| other)).s : Int), .int .u64 ((b.put kk (one ||| other)).i : Int), .int .u64 ((b.put kk (one ||| other)).h : Int), .int .u64 ((b.put kk (one ||| other)).d : Int), .int .u64 ((b.put kk (one ||| other)).m : Int), .int .u64 ((b.put kk (one ||| other)).w : Int)], .agg #[.int .i64 x, .int .i64 nn], .agg #[.slice none 0 0, .slice none 0 0, .slice none 0 0, .slice none 0 0]] (by rfl) rfl rfl (by (try simp only [List.map_toArray, List.map_cons, List.map_nil]); first | done | rfl) ?_
    refine (HN.out _).mono ?_
    rintro e w19 ⟨rfl, hb⟩
    refine ⟨_, rfl, ?_⟩
    have hI2 := Aside0.mk (hI.out.below hb)
    clear hI hb
    have hI := hI2
    clear hI2
    refine hK.out _ _ (hI.out) (fun hHeld => ?_)
    clear hK K
    refine norm_ (a' := ?_) ?_ ?_
    rotate_left
    · show Act.put _ (some 94) _ = _
      simp only [Act.put, List.setIfInBounds_toArray, List.set_cons_zero, List.set_cons_succ, i64_w, i32_w]
      rfl
    refine pure_ (i := 20) (N := (some 95)) (v := ?_) (a' := ?_) #[true, true, true, true, true, true, true, true, true, true, true, true, true, true, true, true, true, true, true, true, true, false, false] rfl rfl (by kernel_rfl) (fun _ _ _ h => h) (Or.inl ⟨by rfl, ?_⟩) ?_ ?_
    rotate_left
    · intro w'
      go_simp
      with_reducible rfl
    rotate_left
    · simp only [Act.put, List.setIfInBounds_toArray, List.set_cons_zero, List.set_cons_succ, i64_w, i32_w]
      rfl
    refine pure_ (i := 21) (N := (some 96)) (v := ?_) (a' := ?_) #[true, true, true, true, true, true, true, true, true, true, true, true, true, true, true, true, true, true, true, true, true, true, false] rfl rfl (by kernel_rfl) (fun _ _ _ h => h) (Or.inl ⟨by rfl, ?_⟩) ?_ ?_
    rotate_left
    · intro w'
      go_simp
      with_reducible rfl
    rotate_left
    · simp only [Act.put, List.setIfInBounds_toArray, List.set_cons_zero, List.set_cons_succ, i64_w, i32_w]
      rfl
    refine pure_ (i := 22) (N := (some 10)) (v := ?_) (a' := ?_) #[true, true, true, true, true, true, true, true, true, true, true, true, true, true, true, true, true, true, true, true, true, true, true] rfl rfl (by kernel_rfl) (fun _ _ _ h => h) (Or.inl ⟨by rfl, ?_⟩) ?_ ?_
    rotate_left
    · intro w'
      go_simp
      with_reducible rfl
    rotate_left
    · simp only [Act.put, List.setIfInBounds_toArray, List.set_cons_zero, List.set_cons_succ, i64_w, i32_w]
      rfl
    refine done_ (by kernel_rfl) ?_
    go_wp2_with fail
    go_ret
    exact ⟨rfl, hI.out.B⟩
  · refine start_ (n := 23) (S := Blk w [(g4, #[.int .i64 (nS (b.put kk (one ||| other)) x), .int .i64 0], 26), (g3, #[.int .i64 (nS (b.put kk (one ||| other)) x), .int .i64 0], 26), (g2, #[.int .i64 (nS (b.put kk other) x), .int .i64 0], 26), (g1, #[.int .i64 (nS (b.put kk one) x), .int .i64 0], 26), (w.heap.size + 1, #[.int .i64 x, .int .i64 nn], 26), (w.heap.size, #[.bool false, .int .i64 dl, .int .u64 (b.s : Int), .int .u64 (b.i : Int), .int .u64 (b.h : Int), .int .u64 (b.d : Int), .int .u64 (b.m : Int), .int .u64 (b.w : Int)], 24)]) (ds := []) #[false, false, false, false, false, false, false, false, false, false, false, false, false, false, false, false, false, false, false, false, false, false, false] (by kernel_rfl) rfl rfl (hI.out.drew) (fun hHeld => ?_)
    have hI2 := Aside0.mk hI.out.drew
    clear hI
    have hI := hI2
    clear hI2
    generalize hwd : World.drew _ = wd at hI hHeld ⊢
    clear hwd
    refine pure_ (i := 0) (N := (some 75)) (v := ?_) (a' := ?_) #[true, false, false, false, false, false, false, false, false, false, false, false, false, false, false, false, false, false, false, false, false, false, false] rfl rfl (by kernel_rfl) (fun _ _ _ h => h) (Or.inl ⟨by rfl, ?_⟩) ?_ ?_
    rotate_left
    · intro w'
      go_simp
      with_reducible rfl
    rotate_left
    · simp only [Act.put, List.setIfInBounds_toArray, List.set_cons_zero, List.set_cons_succ, i64_w, i32_w]
      rfl
    refine pure_ (i := 1) (N := (some 76)) (v := ?_) (a' := ?_) #[true, true, false, false, false, false, false, false, false, false, false, false, false, false, false, false, false, false, false, false, false, false, false] rfl rfl (by kernel_rfl) (fun _ _ _ h => h) (Or.inl ⟨by rfl, ?_⟩) ?_ ?_
    rotate_left
    · intro w'
      go_simp
      with_reducible rfl
    rotate_left
    · simp only [Act.put, List.setIfInBounds_toArray, List.set_cons_zero, List.set_cons_succ, i64_w, i32_w]
      rfl
    refine pure_ (i := 2) (N := (some 77)) (v := ?_) (a' := ?_) #[true, true, true, false, false, false, false, false, false, false, false, false, false, false, false, false, false, false, false, false, false, false, false] rfl rfl (by kernel_rfl) (fun _ _ _ h => h) (Or.inl ⟨by rfl, ?_⟩) ?_ ?_
    rotate_left
    · intro w'
      go_simp
      with_reducible rfl
    rotate_left
    · simp only [Act.put, List.setIfInBounds_toArray, List.set_cons_zero, List.set_cons_succ, i64_w, i32_w]
      rfl
    refine pure_ (i := 3) (N := (some 78)) (v := ?_) (a' := ?_) #[true, true, true, true, false, false, false, false, false, false, false, false, false, false, false, false, false, false, false, false, false, false, false] rfl rfl (by kernel_rfl) (fun _ _ _ h => h) (Or.inl ⟨by rfl, ?_⟩) ?_ ?_
    rotate_left
    · intro w'
      go_simp
      with_reducible rfl
    rotate_left
    · simp only [Act.put, List.setIfInBounds_toArray, List.set_cons_zero, List.set_cons_succ, i64_w, i32_w]
      rfl
    refine take_ (i := 4) (N := (some 79)) (v := ?_) (a' := ?_) #[true, true, true, true, true, false, false, false, false, false, false, false, false, false, false, false, false, false, false, false, false, false, false] rfl rfl (by kernel_rfl) (fun _ _ _ h => h) (Or.inl ⟨by rfl, ?_⟩) hHeld ?_ ?_
    rotate_left
    · intro w' hS
      refine exec_load_row 26 (.tmp 15) ?_ g3 ?_ 26 _ _ (hS.get 1 rfl) Try.underlying26 rfl size26
      · rfl
      · rfl
    rotate_left
    · simp only [Act.put, List.setIfInBounds_toArray, List.set_cons_zero, List.set_cons_succ, i64_w, i32_w]
      rfl
    refine take_ (i := 5) (N := (some 80)) (v := ?_) (a' := ?_) #[true, true, true, true, true, true, false, false, false, false, false, false, false, false, false, false, false, false, false, false, false, false, false] rfl rfl (by kernel_rfl) (fun _ _ _ h => h) (Or.inl ⟨by rfl, ?_⟩) hHeld ?_ ?_
    rotate_left
    · intro w' hS
      refine exec_load_row 26 (.tmp 17) ?_ g4 ?_ 26 _ _ (hS.get 0 rfl) Try.underlying26 rfl size26
      · rfl
      · rfl
    rotate_left
    · simp only [Act.put, List.setIfInBounds_toArray, List.set_cons_zero, List.set_cons_succ, i64_w, i32_w]
      rfl
    refine pure_ (i := 6) (N := (some 81)) (v := ?_) (a' := ?_) #[true, true, true, true, true, true, true, false, false, false, false, false, false, false, false, false, false, false, false, false, false, false, false] rfl rfl (by kernel_rfl) (fun _ _ _ h => h) (Or.inl ⟨by rfl, ?_⟩) ?_ ?_
    rotate_left
    · intro w'
      go_simp
      with_reducible rfl
    rotate_left
    · simp only [Act.put, List.setIfInBounds_toArray, List.set_cons_zero, List.set_cons_succ, i64_w, i32_w]
      rfl
    refine pure_ (i := 7) (N := (some 82)) (v := ?_) (a' := ?_) #[true, true, true, true, true, true, true, true, false, false, false, false, false, false, false, false, false, false, false, false, false, false, false] rfl rfl (by kernel_rfl) (fun _ _ _ h => h) (Or.inl ⟨by rfl, ?_⟩) ?_ ?_
    rotate_left
    · intro w'
      go_simp
      with_reducible rfl
    rotate_left
    · simp only [Act.put, List.setIfInBounds_toArray, List.set_cons_zero, List.set_cons_succ, i64_w, i32_w]
      rfl
    refine pure_ (i := 8) (N := (some 83)) (v := ?_) (a' := ?_) #[true, true, true, true, true, true, true, true, true, false, false, false, false, false, false, false, false, false, false, false, false, false, false] rfl rfl (by kernel_rfl) (fun _ _ _ h => h) (Or.inl ⟨by rfl, ?_⟩) ?_ ?_
    rotate_left
    · intro w'
      go_simp
      with_reducible rfl
    rotate_left
    · simp only [Act.put, List.setIfInBounds_toArray, List.set_cons_zero, List.set_cons_succ, i64_w, i32_w]
      rfl
    refine pure_ (i := 9) (N := (some 84)) (v := ?_) (a' := ?_) #[true, true, true, true, true, true, true, true, true, true, false, false, false, false, false, false, false, false, false, false, false, false, false] rfl rfl (by kernel_rfl) (fun _ _ _ h => h) (Or.inl ⟨by rfl, ?_⟩) ?_ ?_
    rotate_left
    · intro w'
      go_simp
      with_reducible rfl
    rotate_left
    · simp only [Act.put, List.setIfInBounds_toArray, List.set_cons_zero, List.set_cons_succ, i64_w, i32_w]
      rfl
    refine pure_ (i := 10) (N := (some 85)) (v := ?_) (a' := ?_) #[true, true, true, true, true, true, true, true, true, true, true, false, false, false, false, false, false, false, false, false, false, false, false] rfl rfl (by kernel_rfl) (fun _ _ _ h => h) (Or.inl ⟨by rfl, ?_⟩) ?_ ?_
    rotate_left
    · intro w'
      go_simp
      with_reducible rfl
    rotate_left
    · simp only [Act.put, List.setIfInBounds_toArray, List.set_cons_zero, List.set_cons_succ, i64_w, i32_w]
      rfl
    refine take_ (i := 11) (N := (some 86)) (v := undef) (a' := ?_) #[true, true, true, true, true, true, true, true, true, true, true, true, false, false, false, false, false, false, false, false, false, false, false] rfl rfl (by kernel_rfl) (fun _ _ _ h => h) (Or.inr ⟨by rfl, rfl⟩) hHeld ?_ ?_
    rotate_left
    · simp only [Act.put, List.setIfInBounds_toArray, List.set_cons_zero, List.set_cons_succ, i64_w, i32_w]
      rfl
    refine pure_ (i := 12) (N := (some 87)) (v := undef) (a' := ?_) #[true, true, true, true, true, true, true, true, true, true, true, true, true, false, false, false, false, false, false, false, false, false, false] rfl rfl (by kernel_rfl) (fun _ _ _ h => h) (Or.inr ⟨by rfl, rfl⟩) ?_ ?_
    rotate_left
    · simp only [Act.put, List.setIfInBounds_toArray, List.set_cons_zero, List.set_cons_succ, i64_w, i32_w]
      rfl
    refine pure_ (i := 13) (N := (some 88)) (v := undef) (a' := ?_) #[true, true, true, true, true, true, true, true, true, true, true, true, true, true, false, false, false, false, false, false, false, false, false] rfl rfl (by kernel_rfl) (fun _ _ _ h => h) (Or.inr ⟨by rfl, rfl⟩) ?_ ?_
    rotate_left
    · simp only [Act.put, List.setIfInBounds_toArray, List.set_cons_zero, List.set_cons_succ, i64_w, i32_w]
      rfl
    refine pure_ (i := 14) (N := (some 89)) (v := undef) (a' := ?_) #[true, true, true, true, true, true, true, true, true, true, true, true, true, true, true, false, false, false, false, false, false, false, false] rfl rfl (by kernel_rfl) (fun _ _ _ h => h) (Or.inr ⟨by rfl, rfl⟩) ?_ ?_
    rotate_left
    · simp only [Act.put, List.setIfInBounds_toArray, List.set_cons_zero, List.set_cons_succ, i64_w, i32_w]
      rfl
    refine pure_ (i := 15) (N := (some 90)) (v := undef) (a' := ?_) #[true, true, true, true, true, true, true, true, true, true, true, true, true, true, true, true, false, false, false, false, false, false, false] rfl rfl (by kernel_rfl) (fun _ _ _ h => h) (Or.inr ⟨by rfl, rfl⟩) ?_ ?_
    rotate_left
    · simp only [Act.put, List.setIfInBounds_toArray, List.set_cons_zero, List.set_cons_succ, i64_w, i32_w]
      rfl
    refine take_ (i := 17) (N := (some 92)) (v := undef) (a' := ?_) #[true, true, true, true, true, true, true, true, true, true, true, true, true, true, true, true, false, true, false, false, false, false, false] rfl rfl (by kernel_rfl) (fun _ _ _ h => h) (Or.inr ⟨by rfl, rfl⟩) hHeld ?_ ?_
    rotate_left
    · simp only [Act.put, List.setIfInBounds_toArray, List.set_cons_zero, List.set_cons_succ, i64_w, i32_w]
      rfl
    refine one_ (i := 16) (N := (some 91)) #[true, true, true, true, true, true, true, true, true, true, true, true, true, true, true, true, true, true, false, false, false, false, false] rfl rfl (by kernel_rfl) (by decide) (fun K hK => ?_)
    refine off_ (by rfl) (hK.out _ _ hHeld (fun hHeld => ?_))
    clear hK K
    refine norm_ (a' := ?_) ?_ ?_
    rotate_left
    · show Act.put _ (some 91) _ = _
      simp only [Act.put, List.setIfInBounds_toArray, List.set_cons_zero, List.set_cons_succ, i64_w, i32_w]
      rfl
    refine one_ (i := 18) (N := (some 93)) #[true, true, true, true, true, true, true, true, true, true, true, true, true, true, true, true, true, true, true, false, false, false, false] rfl rfl (by kernel_rfl) (by decide) (fun K hK => ?_)
    refine off_ (by rfl) (hK.out _ _ hHeld (fun hHeld => ?_))
    clear hK K
    refine norm_ (a' := ?_) ?_ ?_
    rotate_left
    · show Act.put _ (some 93) _ = _
      simp only [Act.put, List.setIfInBounds_toArray, List.set_cons_zero, List.set_cons_succ, i64_w, i32_w]
      rfl
    refine one_ (i := 19) (N := (some 94)) #[true, true, true, true, true, true, true, true, true, true, true, true, true, true, true, true, true, true, true, true, false, false, false] rfl rfl (by kernel_rfl) (by decide) (fun K hK => ?_)
    refine off_ (by rfl) (hK.out _ _ hHeld (fun hHeld => ?_))
    clear hK K
    refine norm_ (a' := ?_) ?_ ?_
    rotate_left
    · show Act.put _ (some 94) _ = _
      simp only [Act.put, List.setIfInBounds_toArray, List.set_cons_zero, List.set_cons_succ, i64_w, i32_w]
      rfl
    refine pure_ (i := 20) (N := (some 95)) (v := ?_) (a' := ?_) #[true, true, true, true, true, true, true, true, true, true, true, true, true, true, true, true, true, true, true, true, true, false, false] rfl rfl (by kernel_rfl) (fun _ _ _ h => h) (Or.inl ⟨by rfl, ?_⟩) ?_ ?_
    rotate_left
    · intro w'
      go_simp
      with_reducible rfl
    rotate_left
    · simp only [Act.put, List.setIfInBounds_toArray, List.set_cons_zero, List.set_cons_succ, i64_w, i32_w]
      rfl
    refine pure_ (i := 21) (N := (some 96)) (v := ?_) (a' := ?_) #[true, true, true, true, true, true, true, true, true, true, true, true, true, true, true, true, true, true, true, true, true, true, false] rfl rfl (by kernel_rfl) (fun _ _ _ h => h) (Or.inl ⟨by rfl, ?_⟩) ?_ ?_
    rotate_left
    · intro w'
      go_simp
      with_reducible rfl
    rotate_left
    · simp only [Act.put, List.setIfInBounds_toArray, List.set_cons_zero, List.set_cons_succ, i64_w, i32_w]
      rfl
    refine pure_ (i := 22) (N := (some 10)) (v := ?_) (a' := ?_) #[true, true, true, true, true, true, true, true, true, true, true, true, true, true, true, true, true, true, true, true, true, true, true] rfl rfl (by kernel_rfl) (fun _ _ _ h => h) (Or.inl ⟨by rfl, ?_⟩) ?_ ?_
    rotate_left
    · intro w'
      go_simp
      with_reducible rfl
    rotate_left
    · simp only [Act.put, List.setIfInBounds_toArray, List.set_cons_zero, List.set_cons_succ, i64_w, i32_w]
      rfl
    refine done_ (by kernel_rfl) ?_
    go_wp2_with fail
    go_ret
    exact ⟨rfl, hI.out.B⟩
end Go.Proofs.Ytlgdaegaahnkbaa.Tm
