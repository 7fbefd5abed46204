/- FnCronNextSplit: a schedule with its values of one field up to some value, and with those above it, the walk (printed by gen_ls.py). -/
import Derived.Test.YtlgdaegaahnkbaaNxS
namespace Go.Proofs.Ytlgdaegaahnkbaa.Tm
open Go Go.RowKit Cal MC
open Go.Proofs.YtlgdaegaahnkbaaW.PrintWords Go.Proofs.YtlgdaegaahnkbaaW.PrintLast Go.Proofs.YtlgdaegaahnkbaaW.PrintMore
set_option linter.unusedVariables false
set_option linter.unusedSimpArgs false
/-- A list that has a next operation (asked first: else Lean would unfold the walk). -/
theorem wpList_isCons {P : Program} {ops : Array Oper} {rest : List Oper} {o : Oper} {a : Act} {w : World} {Q : Exit → Act → World → Prop} (h : wpList P ops Q (o :: rest) a w) : wpList P ops Q (o :: rest) a w := h
theorem shl_run (n : Nat) (hn : n ≤ 59) (w : World) : (Op.shift BinOp.shl IntKind.u64 1 IntKind.i64 ((n : Int) + 1)).run Try.prog w = .ok (.int .u64 ((2 ^ (n + 1) : Nat) : Int)) w := by
  unfold Op.shift
  rw [if_neg (by omega), show min ((n : Int) + 1).toNat IntKind.u64.bits = n + 1 by rw [show IntKind.u64.bits = 64 from rfl]; omega]
  show Result.ok _ w = Result.ok _ w
  have hp : 2 ^ (n + 1) ≤ 2 ^ 60 := Nat.pow_le_pow_right (by decide) (by omega)
  rw [IntKind.wrap_u64, Int.one_mul, show (2 : Int) ^ (n + 1) = ((2 ^ (n + 1) : Nat) : Int) by simp]
  generalize 2 ^ (n + 1) = q at hp ⊢
  congr 2
  omega
set_option maxHeartbeats 8000000 in
set_option maxRecDepth 100000 in
theorem split_bad (ev : Bool) (dl k at_ x nn : Int) (b : SB) (w : World) (hc : laws_cronCase.f ev dl b.s b.i b.h b.d b.m b.w x nn = some false) :
    Calls Try.prog 6 #[.agg #[.bool ev, .int .i64 dl, .int .u64 (b.s : Int), .int .u64 (b.i : Int), .int .u64 (b.h : Int), .int .u64 (b.d : Int), .int .u64 (b.m : Int), .int .u64 (b.w : Int)], .int .i64 k, .int .i64 at_, .agg #[.int .i64 x, .int .i64 nn]] w fun e w' => e = .returned (.bool true) ∧ Below w.heap.size w w' := by
  have HC := Aside0.mk hc
  have hI : Aside0 (Blk w [(w.heap.size + 1, #[.int .i64 x, .int .i64 nn], 26), (w.heap.size, #[.bool ev, .int .i64 dl, .int .u64 (b.s : Int), .int .u64 (b.i : Int), .int .u64 (b.h : Int), .int .u64 (b.d : Int), .int .u64 (b.m : Int), .int .u64 (b.w : Int)], 24)] ((w.alloc (.cells #[.bool ev, .int .i64 dl, .int .u64 (b.s : Int), .int .u64 (b.i : Int), .int .u64 (b.h : Int), .int .u64 (b.d : Int), .int .u64 (b.m : Int), .int .u64 (b.w : Int)] 24)).alloc (.cells #[.int .i64 x, .int .i64 nn] 26))) := ⟨by
    have := (((Blk.nil w).alloc #[.bool ev, .int .i64 dl, .int .u64 (b.s : Int), .int .u64 (b.i : Int), .int .u64 (b.h : Int), .int .u64 (b.d : Int), .int .u64 (b.m : Int), .int .u64 (b.w : Int)] 24).alloc #[.int .i64 x, .int .i64 nn] 26)
    simpa only [World.size_alloc] using this⟩
  clear hc
  go_enter Try.func6, Try.ntmps6
  go_wp2_with (go_at_call 11; (with_reducible refine (laws_cronCase.calls _ _ _ _ _ _ _ _ _ _ _ _ HC.out).mono ?_); rintro e wa1 ⟨rfl, hb⟩; have hI2 := Aside0.mk (hI.out.below hb); clear hI hb; have hI := hI2; clear hI2)
  go_ret
  exact ⟨rfl, hI.out.B⟩
set_option maxHeartbeats 8000000 in
set_option maxRecDepth 100000 in
theorem split_out0 (dl k at_ x nn : Int) (b : SB) (w : World) (hc : laws_cronCase.f false dl b.s b.i b.h b.d b.m b.w x nn = some true) (c0 : decide (k < 0) = true) :
    Calls Try.prog 6 #[.agg #[.bool false, .int .i64 dl, .int .u64 (b.s : Int), .int .u64 (b.i : Int), .int .u64 (b.h : Int), .int .u64 (b.d : Int), .int .u64 (b.m : Int), .int .u64 (b.w : Int)], .int .i64 k, .int .i64 at_, .agg #[.int .i64 x, .int .i64 nn]] w fun e w' => e = .returned (.bool true) ∧ Below w.heap.size w w' := by
  have HC := Aside0.mk hc
  have hI : Aside0 (Blk w [(w.heap.size + 1, #[.int .i64 x, .int .i64 nn], 26), (w.heap.size, #[.bool false, .int .i64 dl, .int .u64 (b.s : Int), .int .u64 (b.i : Int), .int .u64 (b.h : Int), .int .u64 (b.d : Int), .int .u64 (b.m : Int), .int .u64 (b.w : Int)], 24)] ((w.alloc (.cells #[.bool false, .int .i64 dl, .int .u64 (b.s : Int), .int .u64 (b.i : Int), .int .u64 (b.h : Int), .int .u64 (b.d : Int), .int .u64 (b.m : Int), .int .u64 (b.w : Int)] 24)).alloc (.cells #[.int .i64 x, .int .i64 nn] 26))) := ⟨by
    have := (((Blk.nil w).alloc #[.bool false, .int .i64 dl, .int .u64 (b.s : Int), .int .u64 (b.i : Int), .int .u64 (b.h : Int), .int .u64 (b.d : Int), .int .u64 (b.m : Int), .int .u64 (b.w : Int)] 24).alloc #[.int .i64 x, .int .i64 nn] 26)
    simpa only [World.size_alloc] using this⟩
  clear hc
  go_enter Try.func6, Try.ntmps6
  go_wp2_with (go_at_call 11; (with_reducible refine (laws_cronCase.calls _ _ _ _ _ _ _ _ _ _ _ _ HC.out).mono ?_); rintro e wa1 ⟨rfl, hb⟩; have hI2 := Aside0.mk (hI.out.below hb); clear hI hb; have hI := hI2; clear hI2)
  go_ret
  exact ⟨rfl, hI.out.B⟩
set_option maxHeartbeats 8000000 in
set_option maxRecDepth 100000 in
theorem split_out1 (dl k at_ x nn : Int) (b : SB) (w : World) (hc : laws_cronCase.f false dl b.s b.i b.h b.d b.m b.w x nn = some true) (c0 : decide (k < 0) = false) (c1 : decide (4 < k) = true) :
    Calls Try.prog 6 #[.agg #[.bool false, .int .i64 dl, .int .u64 (b.s : Int), .int .u64 (b.i : Int), .int .u64 (b.h : Int), .int .u64 (b.d : Int), .int .u64 (b.m : Int), .int .u64 (b.w : Int)], .int .i64 k, .int .i64 at_, .agg #[.int .i64 x, .int .i64 nn]] w fun e w' => e = .returned (.bool true) ∧ Below w.heap.size w w' := by
  have HC := Aside0.mk hc
  have hI : Aside0 (Blk w [(w.heap.size + 1, #[.int .i64 x, .int .i64 nn], 26), (w.heap.size, #[.bool false, .int .i64 dl, .int .u64 (b.s : Int), .int .u64 (b.i : Int), .int .u64 (b.h : Int), .int .u64 (b.d : Int), .int .u64 (b.m : Int), .int .u64 (b.w : Int)], 24)] ((w.alloc (.cells #[.bool false, .int .i64 dl, .int .u64 (b.s : Int), .int .u64 (b.i : Int), .int .u64 (b.h : Int), .int .u64 (b.d : Int), .int .u64 (b.m : Int), .int .u64 (b.w : Int)] 24)).alloc (.cells #[.int .i64 x, .int .i64 nn] 26))) := ⟨by
    have := (((Blk.nil w).alloc #[.bool false, .int .i64 dl, .int .u64 (b.s : Int), .int .u64 (b.i : Int), .int .u64 (b.h : Int), .int .u64 (b.d : Int), .int .u64 (b.m : Int), .int .u64 (b.w : Int)] 24).alloc #[.int .i64 x, .int .i64 nn] 26)
    simpa only [World.size_alloc] using this⟩
  clear hc
  go_enter Try.func6, Try.ntmps6
  go_wp2_with (go_at_call 11; (with_reducible refine (laws_cronCase.calls _ _ _ _ _ _ _ _ _ _ _ _ HC.out).mono ?_); rintro e wa1 ⟨rfl, hb⟩; have hI2 := Aside0.mk (hI.out.below hb); clear hI hb; have hI := hI2; clear hI2)
  go_ret
  exact ⟨rfl, hI.out.B⟩
set_option maxHeartbeats 8000000 in
set_option maxRecDepth 100000 in
theorem split_out2 (dl k at_ x nn : Int) (b : SB) (w : World) (hc : laws_cronCase.f false dl b.s b.i b.h b.d b.m b.w x nn = some true) (c0 : decide (k < 0) = false) (c1 : decide (4 < k) = false) (c2 : (k == 3) = true) :
    Calls Try.prog 6 #[.agg #[.bool false, .int .i64 dl, .int .u64 (b.s : Int), .int .u64 (b.i : Int), .int .u64 (b.h : Int), .int .u64 (b.d : Int), .int .u64 (b.m : Int), .int .u64 (b.w : Int)], .int .i64 k, .int .i64 at_, .agg #[.int .i64 x, .int .i64 nn]] w fun e w' => e = .returned (.bool true) ∧ Below w.heap.size w w' := by
  have HC := Aside0.mk hc
  have hI : Aside0 (Blk w [(w.heap.size + 1, #[.int .i64 x, .int .i64 nn], 26), (w.heap.size, #[.bool false, .int .i64 dl, .int .u64 (b.s : Int), .int .u64 (b.i : Int), .int .u64 (b.h : Int), .int .u64 (b.d : Int), .int .u64 (b.m : Int), .int .u64 (b.w : Int)], 24)] ((w.alloc (.cells #[.bool false, .int .i64 dl, .int .u64 (b.s : Int), .int .u64 (b.i : Int), .int .u64 (b.h : Int), .int .u64 (b.d : Int), .int .u64 (b.m : Int), .int .u64 (b.w : Int)] 24)).alloc (.cells #[.int .i64 x, .int .i64 nn] 26))) := ⟨by
    have := (((Blk.nil w).alloc #[.bool false, .int .i64 dl, .int .u64 (b.s : Int), .int .u64 (b.i : Int), .int .u64 (b.h : Int), .int .u64 (b.d : Int), .int .u64 (b.m : Int), .int .u64 (b.w : Int)] 24).alloc #[.int .i64 x, .int .i64 nn] 26)
    simpa only [World.size_alloc] using this⟩
  clear hc
  go_enter Try.func6, Try.ntmps6
  go_wp2_with (go_at_call 11; (with_reducible refine (laws_cronCase.calls _ _ _ _ _ _ _ _ _ _ _ _ HC.out).mono ?_); rintro e wa1 ⟨rfl, hb⟩; have hI2 := Aside0.mk (hI.out.below hb); clear hI hb; have hI := hI2; clear hI2)
  go_ret
  exact ⟨rfl, hI.out.B⟩
set_option maxHeartbeats 8000000 in
set_option maxRecDepth 100000 in
theorem split_out3 (dl k at_ x nn : Int) (b : SB) (w : World) (hc : laws_cronCase.f false dl b.s b.i b.h b.d b.m b.w x nn = some true) (c0 : decide (k < 0) = false) (c1 : decide (4 < k) = false) (c2 : (k == 3) = false) (c3 : decide (at_ < 0) = true) :
    Calls Try.prog 6 #[.agg #[.bool false, .int .i64 dl, .int .u64 (b.s : Int), .int .u64 (b.i : Int), .int .u64 (b.h : Int), .int .u64 (b.d : Int), .int .u64 (b.m : Int), .int .u64 (b.w : Int)], .int .i64 k, .int .i64 at_, .agg #[.int .i64 x, .int .i64 nn]] w fun e w' => e = .returned (.bool true) ∧ Below w.heap.size w w' := by
  have HC := Aside0.mk hc
  have hI : Aside0 (Blk w [(w.heap.size + 1, #[.int .i64 x, .int .i64 nn], 26), (w.heap.size, #[.bool false, .int .i64 dl, .int .u64 (b.s : Int), .int .u64 (b.i : Int), .int .u64 (b.h : Int), .int .u64 (b.d : Int), .int .u64 (b.m : Int), .int .u64 (b.w : Int)], 24)] ((w.alloc (.cells #[.bool false, .int .i64 dl, .int .u64 (b.s : Int), .int .u64 (b.i : Int), .int .u64 (b.h : Int), .int .u64 (b.d : Int), .int .u64 (b.m : Int), .int .u64 (b.w : Int)] 24)).alloc (.cells #[.int .i64 x, .int .i64 nn] 26))) := ⟨by
    have := (((Blk.nil w).alloc #[.bool false, .int .i64 dl, .int .u64 (b.s : Int), .int .u64 (b.i : Int), .int .u64 (b.h : Int), .int .u64 (b.d : Int), .int .u64 (b.m : Int), .int .u64 (b.w : Int)] 24).alloc #[.int .i64 x, .int .i64 nn] 26)
    simpa only [World.size_alloc] using this⟩
  clear hc
  go_enter Try.func6, Try.ntmps6
  go_wp2_with (go_at_call 11; (with_reducible refine (laws_cronCase.calls _ _ _ _ _ _ _ _ _ _ _ _ HC.out).mono ?_); rintro e wa1 ⟨rfl, hb⟩; have hI2 := Aside0.mk (hI.out.below hb); clear hI hb; have hI := hI2; clear hI2)
  go_ret
  exact ⟨rfl, hI.out.B⟩
set_option maxHeartbeats 8000000 in
set_option maxRecDepth 100000 in
theorem split_out4 (dl k at_ x nn : Int) (b : SB) (w : World) (hc : laws_cronCase.f false dl b.s b.i b.h b.d b.m b.w x nn = some true) (c0 : decide (k < 0) = false) (c1 : decide (4 < k) = false) (c2 : (k == 3) = false) (c3 : decide (at_ < 0) = false) (c4 : decide (59 < at_) = true) :
    Calls Try.prog 6 #[.agg #[.bool false, .int .i64 dl, .int .u64 (b.s : Int), .int .u64 (b.i : Int), .int .u64 (b.h : Int), .int .u64 (b.d : Int), .int .u64 (b.m : Int), .int .u64 (b.w : Int)], .int .i64 k, .int .i64 at_, .agg #[.int .i64 x, .int .i64 nn]] w fun e w' => e = .returned (.bool true) ∧ Below w.heap.size w w' := by
  have HC := Aside0.mk hc
  have hI : Aside0 (Blk w [(w.heap.size + 1, #[.int .i64 x, .int .i64 nn], 26), (w.heap.size, #[.bool false, .int .i64 dl, .int .u64 (b.s : Int), .int .u64 (b.i : Int), .int .u64 (b.h : Int), .int .u64 (b.d : Int), .int .u64 (b.m : Int), .int .u64 (b.w : Int)], 24)] ((w.alloc (.cells #[.bool false, .int .i64 dl, .int .u64 (b.s : Int), .int .u64 (b.i : Int), .int .u64 (b.h : Int), .int .u64 (b.d : Int), .int .u64 (b.m : Int), .int .u64 (b.w : Int)] 24)).alloc (.cells #[.int .i64 x, .int .i64 nn] 26))) := ⟨by
    have := (((Blk.nil w).alloc #[.bool false, .int .i64 dl, .int .u64 (b.s : Int), .int .u64 (b.i : Int), .int .u64 (b.h : Int), .int .u64 (b.d : Int), .int .u64 (b.m : Int), .int .u64 (b.w : Int)] 24).alloc #[.int .i64 x, .int .i64 nn] 26)
    simpa only [World.size_alloc] using this⟩
  clear hc
  go_enter Try.func6, Try.ntmps6
  go_wp2_with (go_at_call 11; (with_reducible refine (laws_cronCase.calls _ _ _ _ _ _ _ _ _ _ _ _ HC.out).mono ?_); rintro e wa1 ⟨rfl, hb⟩; have hI2 := Aside0.mk (hI.out.below hb); clear hI hb; have hI := hI2; clear hI2)
  go_ret
  exact ⟨rfl, hI.out.B⟩
set_option maxHeartbeats 8000000 in
set_option maxRecDepth 100000 in
theorem split_main (dl x nn : Int) (kk n : Nat) (b : SB) (w : World) (hk3 : kk ≠ 3) (hk5 : kk < 5) (hn : n ≤ 59) (hw : Wf b) (x0 : -62135596800 ≤ x) (x1 : x ≤ 253402300799) (n0 : 0 ≤ nn) (n1 : nn < 1000000000) (hc : laws_cronCase.f false dl b.s b.i b.h b.d b.m b.w x nn = some true) :
    Calls Try.prog 6 #[.agg #[.bool false, .int .i64 dl, .int .u64 (b.s : Int), .int .u64 (b.i : Int), .int .u64 (b.h : Int), .int .u64 (b.d : Int), .int .u64 (b.m : Int), .int .u64 (b.w : Int)], .int .i64 (kk : Int), .int .i64 (n : Int), .agg #[.int .i64 x, .int .i64 nn]] w fun e w' => e = .returned (.bool true) ∧ Below w.heap.size w w' := by
  have HC := Aside0.mk hc
  have hI : Aside0 (Blk w [(w.heap.size + 1, #[.int .i64 x, .int .i64 nn], 26), (w.heap.size, #[.bool false, .int .i64 dl, .int .u64 (b.s : Int), .int .u64 (b.i : Int), .int .u64 (b.h : Int), .int .u64 (b.d : Int), .int .u64 (b.m : Int), .int .u64 (b.w : Int)], 24)] ((w.alloc (.cells #[.bool false, .int .i64 dl, .int .u64 (b.s : Int), .int .u64 (b.i : Int), .int .u64 (b.h : Int), .int .u64 (b.d : Int), .int .u64 (b.m : Int), .int .u64 (b.w : Int)] 24)).alloc (.cells #[.int .i64 x, .int .i64 nn] 26))) := ⟨by
    have := (((Blk.nil w).alloc #[.bool false, .int .i64 dl, .int .u64 (b.s : Int), .int .u64 (b.i : Int), .int .u64 (b.h : Int), .int .u64 (b.d : Int), .int .u64 (b.m : Int), .int .u64 (b.w : Int)] 24).alloc #[.int .i64 x, .int .i64 nn] 26)
    simpa only [World.size_alloc] using this⟩
  have HKK : Aside0 (kk ≠ 3 ∧ kk < 5) := ⟨hk3, hk5⟩
  have HW := Aside0.mk hw
  have HX := Aside0.mk (And.intro x0 (And.intro x1 (And.intro n0 n1)))
  have HE := Aside0.mk (split_earlier b kk (n + 1) hk3 hk5 x)
  have c0 : decide ((kk : Int) < 0) = false := decide_eq_false (by omega)
  have c1 : decide (4 < (kk : Int)) = false := decide_eq_false (by omega)
  have c2 : ((kk : Int) == 3) = false := beq_eq_false_iff_ne.2 (by omega)
  have c3 : decide ((n : Int) < 0) = false := decide_eq_false (by omega)
  have c4 : decide (59 < (n : Int)) = false := decide_eq_false (by omega)
  have hix := index54 b kk (by omega)
  have w1 : wrap64 ((n : Int) + 1) = (n : Int) + 1 := w64_in _ (by omega) (by omega)
  have lb := lo_bits hw kk (n + 1) (by omega)
  have hb2 := hi_bits hw kk (n + 1)
  obtain ⟨p, hp⟩ : ∃ p, p = 2 ^ (n + 1) := ⟨_, rfl⟩
  have hp1 : 1 ≤ p := by rw [hp]; exact Nat.one_le_two_pow
  have hp2 : p ≤ 2 ^ 60 := by rw [hp]; exact Nat.pow_le_pow_right (by decide) (by omega)
  have hsh : ∀ w, (Op.shift BinOp.shl IntKind.u64 1 IntKind.i64 ((n : Int) + 1)).run Try.prog w = .ok (.int .u64 (p : Int)) w := fun w => by rw [hp]; exact shl_run n hn w
  obtain ⟨r, hr⟩ : ∃ r, r = p - 1 := ⟨_, rfl⟩
  have hsub : IntKind.u64.wrap ((p : Int) - 1) = (r : Int) := by rw [IntKind.wrap_u64]; omega
  rw [← hp, ← hr] at lb
  clear hp1 hp2 hr hp
  clear hc hk3 hk5 hn hw x0 x1 n0 n1
  go_enter Try.func6, Try.ntmps6
  go_wp2_with (go_at_call 11; (with_reducible refine (laws_cronCase.calls _ _ _ _ _ _ _ _ _ _ _ _ HC.out).mono ?_); rintro e wa1 ⟨rfl, hb⟩; have hI2 := Aside0.mk (hI.out.below hb); clear hI hb; have hI := hI2; clear hI2; have cc0 : wa1.cell? ⟨w.heap.size, 2, none⟩ = some (.int .u64 (b.s : Int)) := (hI.out.cell 1 rfl 2).trans rfl; have cc1 : wa1.cell? ⟨w.heap.size, 3, none⟩ = some (.int .u64 (b.i : Int)) := (hI.out.cell 1 rfl 3).trans rfl; have cc2 : wa1.cell? ⟨w.heap.size, 4, none⟩ = some (.int .u64 (b.h : Int)) := (hI.out.cell 1 rfl 4).trans rfl; have cc3 : wa1.cell? ⟨w.heap.size, 5, none⟩ = some (.int .u64 (b.d : Int)) := (hI.out.cell 1 rfl 5).trans rfl; have cc4 : wa1.cell? ⟨w.heap.size, 6, none⟩ = some (.int .u64 (b.m : Int)) := (hI.out.cell 1 rfl 6).trans rfl; have cc5 : wa1.cell? ⟨w.heap.size, 7, none⟩ = some (.int .u64 (b.w : Int)) := (hI.out.cell 1 rfl 7).trans rfl)
  clear cc0 cc1 cc2 cc3 cc4 cc5
  refine region_split (fun g => [(65, .agg #[.bool false, .int .i64 dl, .int .u64 (b.s : Int), .int .u64 (b.i : Int), .int .u64 (b.h : Int), .int .u64 (b.d : Int), .int .u64 (b.m : Int), .int .u64 (b.w : Int)]), (66, .int .i64 (kk : Int)), (67, .int .u64 (loB b kk (n + 1) : Int)), (68, .agg #[.bool false, .int .i64 dl, .int .u64 ((b.put kk (loB b kk (n + 1))).s : Int), .int .u64 ((b.put kk (loB b kk (n + 1))).i : Int), .int .u64 ((b.put kk (loB b kk (n + 1))).h : Int), .int .u64 ((b.put kk (loB b kk (n + 1))).d : Int), .int .u64 ((b.put kk (loB b kk (n + 1))).m : Int), .int .u64 ((b.put kk (loB b kk (n + 1))).w : Int)]), (69, .agg #[.int .i64 x, .int .i64 nn]), (70, .agg #[.slice none 0 0, .slice none 0 0, .slice none 0 0, .slice none 0 0]), (71, .tuple #[.agg #[.int .i64 (nS (b.put kk (loB b kk (n + 1))) x), .int .i64 0], .bool (nF (b.put kk (loB b kk (n + 1))) x)]), (64, .tuple #[.agg #[.int .i64 (nS (b.put kk (loB b kk (n + 1))) x), .int .i64 0], .bool (nF (b.put kk (loB b kk (n + 1))) x)]), (72, .agg #[.int .i64 (nS (b.put kk (loB b kk (n + 1))) x), .int .i64 0]), (73, .bool (nF (b.put kk (loB b kk (n + 1))) x)), (11, .pointer (some ⟨g, 0, none⟩)), (12, .bool (nF (b.put kk (loB b kk (n + 1))) x))]) (fun g w' => Blk w ((g, #[.int .i64 (nS (b.put kk (loB b kk (n + 1))) x), .int .i64 0], 26) :: [(w.heap.size + 1, #[.int .i64 x, .int .i64 nn], 26), (w.heap.size, #[.bool false, .int .i64 dl, .int .u64 (b.s : Int), .int .u64 (b.i : Int), .int .u64 (b.h : Int), .int .u64 (b.d : Int), .int .u64 (b.m : Int), .int .u64 (b.w : Int)], 24)]) w') ?_ ?_
  · refine start_ (n := 13) (S := Blk w [(w.heap.size + 1, #[.int .i64 x, .int .i64 nn], 26), (w.heap.size, #[.bool false, .int .i64 dl, .int .u64 (b.s : Int), .int .u64 (b.i : Int), .int .u64 (b.h : Int), .int .u64 (b.d : Int), .int .u64 (b.m : Int), .int .u64 (b.w : Int)], 24)]) (ds := []) #[false, false, false, false, false, false, false, false, false, false, false, false, false] (by kernel_rfl) rfl rfl (hI.out.drew) (fun hHeld => ?_)
    have hI2 := Aside0.mk hI.out.drew
    clear hI
    have hI := hI2
    clear hI2
    generalize hwd : World.drew _ = wd at hI hHeld ⊢
    clear hwd
    refine take_ (i := 0) (N := (some 65)) (v := ?_) (a' := ?_) #[true, false, false, false, false, false, false, false, false, false, false, false, false] rfl rfl (by kernel_rfl) (fun _ _ _ => only_shut) (Or.inl ⟨by rfl, ?_⟩) hHeld ?_ ?_
    rotate_left
    · intro w' hS
      refine exec_load_row 24 (.tmp 4) ?_ (w.heap.size) ?_ 24 _ _ (hS.get 1 rfl) Try.underlying24 rfl size24
      · rfl
      · rfl
    rotate_left
    · simp only [Act.put, List.setIfInBounds_toArray, List.set_cons_zero, List.set_cons_succ, i64_w, i32_w]
      rfl
    refine pure_ (i := 1) (N := (some 66)) (v := ?_) (a' := ?_) #[true, true, false, false, false, false, false, false, false, false, false, false, false] rfl rfl (by kernel_rfl) (fun _ _ _ => only_shut) (Or.inl ⟨by rfl, ?_⟩) ?_ ?_
    rotate_left
    · intro w'
      go_simp
      with_reducible rfl
    rotate_left
    · simp only [Act.put, List.setIfInBounds_toArray, List.set_cons_zero, List.set_cons_succ, i64_w, i32_w]
      rfl
    refine pure_ (i := 2) (N := (some 67)) (v := ?_) (a' := ?_) #[true, true, true, false, false, false, false, false, false, false, false, false, false] rfl rfl (by kernel_rfl) (fun _ _ _ => only_shut) (Or.inl ⟨by rfl, ?_⟩) ?_ ?_
    rotate_left
    · intro w'
      go_simp
      with_reducible rfl
    rotate_left
    · simp only [Act.put, List.setIfInBounds_toArray, List.set_cons_zero, List.set_cons_succ, i64_w, i32_w]
      rfl
    refine take_ (i := 4) (N := (some 69)) (v := ?_) (a' := ?_) #[true, true, true, false, true, false, false, false, false, false, false, false, false] rfl rfl (by kernel_rfl) (fun _ _ _ => only_shut) (Or.inl ⟨by rfl, ?_⟩) hHeld ?_ ?_
    rotate_left
    · intro w' hS
      refine exec_load_row 26 (.tmp 7) ?_ (w.heap.size + 1) ?_ 26 _ _ (hS.get 0 rfl) Try.underlying26 rfl size26
      · rfl
      · rfl
    rotate_left
    · simp only [Act.put, List.setIfInBounds_toArray, List.set_cons_zero, List.set_cons_succ, i64_w, i32_w]
      rfl
    refine two_ (i := 3) (j := 10) (Ni := (some 68)) (Nj := (some 11)) #[true, true, true, true, true, false, false, false, false, false, false, false, false] #[true, true, true, false, true, false, false, false, false, false, true, false, false] rfl rfl rfl rfl (by kernel_rfl) (by decide) (by decide) (fun K hK => ?_) (fun K hK => ?_)
    · refine goes_ Try.func21 (by kernel_rfl) rfl #[.agg #[.bool false, .int .i64 dl, .int .u64 (b.s : Int), .int .u64 (b.i : Int), .int .u64 (b.h : Int), .int .u64 (b.d : Int), .int .u64 (b.m : Int), .int .u64 (b.w : Int)], .int .i64 (kk : Int), .int .u64 ((loB b kk (n + 1) : Nat) : Int)] (by rfl) rfl rfl (by (try simp only [List.map_toArray, List.map_cons, List.map_nil]); first | done | rfl) ?_
      refine (with_any b dl (loB b kk (n + 1)) _ kk (by have := HKK.out; omega)).mono ?_
      rintro e wc3 ⟨rfl, hb⟩
      refine ⟨_, rfl, ?_⟩
      have hI2 := Aside0.mk (hI.out.below hb)
      clear hI hb
      have hI := hI2
      clear hI2
      refine hK.out _ _ (hI.out) (fun hHeld => ?_)
      clear hK K
      refine norm_ (a' := ?_) ?_ ?_
      rotate_left
      · show Act.put _ (some 68) _ = _
        simp only [Act.put, List.setIfInBounds_toArray, List.set_cons_zero, List.set_cons_succ, i64_w, i32_w]
        rfl
      refine two_ (i := 5) (j := 10) (Ni := (some 70)) (Nj := (some 11)) #[true, true, true, true, true, true, false, false, false, false, false, false, false] #[true, true, true, true, true, false, false, false, false, false, true, false, false] rfl rfl rfl rfl (by kernel_rfl) (by decide) (by decide) (fun K hK => ?_) (fun K hK => ?_)
      · refine goes_ Try.func14 (by kernel_rfl) rfl #[] (by rfl) rfl rfl (by (try simp only [List.map_toArray, List.map_cons, List.map_nil]); first | done | rfl) ?_
        refine (utcZone_any _).mono ?_
        rintro e wc5 ⟨rfl, hb⟩
        refine ⟨_, rfl, ?_⟩
        have hI2 := Aside0.mk (hI.out.below hb)
        clear hI hb
        have hI := hI2
        clear hI2
        refine hK.out _ _ (hI.out) (fun hHeld => ?_)
        clear hK K
        refine norm_ (a' := ?_) ?_ ?_
        rotate_left
        · show Act.put _ (some 70) _ = _
          simp only [Act.put, List.setIfInBounds_toArray, List.set_cons_zero, List.set_cons_succ, i64_w, i32_w]
          rfl
        refine two_ (i := 6) (j := 10) (Ni := (some 71)) (Nj := (some 11)) #[true, true, true, true, true, true, true, false, false, false, false, false, false] #[true, true, true, true, true, true, false, false, false, false, true, false, false] rfl rfl rfl rfl (by kernel_rfl) (by decide) (by decide) (fun K hK => ?_) (fun K hK => ?_)
        · refine goes_ Try.func13 (by kernel_rfl) rfl #[.agg #[.bool false, .int .i64 dl, .int .u64 ((b.put kk (loB b kk (n + 1))).s : Int), .int .u64 ((b.put kk (loB b kk (n + 1))).i : Int), .int .u64 ((b.put kk (loB b kk (n + 1))).h : Int), .int .u64 ((b.put kk (loB b kk (n + 1))).d : Int), .int .u64 ((b.put kk (loB b kk (n + 1))).m : Int), .int .u64 ((b.put kk (loB b kk (n + 1))).w : Int)], .agg #[.int .i64 x, .int .i64 nn], .agg #[.slice none 0 0, .slice none 0 0, .slice none 0 0, .slice none 0 0]] (by rfl) rfl rfl (by (try simp only [List.map_toArray, List.map_cons, List.map_nil]); first | done | rfl) ?_
          refine (implNext_nx (b.put kk (loB b kk (n + 1))) dl x nn _ (HW.out.put kk _ (lo_lt HW.out _ _)) HX.out.2.2.1 HX.out.2.2.2 HX.out.1 HX.out.2.1).mono ?_
          rintro e wc6 ⟨rfl, hb⟩
          refine ⟨_, rfl, ?_⟩
          have hI2 := Aside0.mk (hI.out.below hb)
          clear hI hb
          have hI := hI2
          clear hI2
          refine hK.out _ _ (hI.out) (fun hHeld => ?_)
          clear hK K
          refine norm_ (a' := ?_) ?_ ?_
          rotate_left
          · show Act.put _ (some 71) _ = _
            simp only [Act.put, List.setIfInBounds_toArray, List.set_cons_zero, List.set_cons_succ, i64_w, i32_w]
            rfl
          refine pure_ (i := 7) (N := (some 64)) (v := ?_) (a' := ?_) #[true, true, true, true, true, true, true, true, false, false, false, false, false] rfl rfl (by kernel_rfl) (fun _ _ _ => only_shut) (Or.inl ⟨by rfl, ?_⟩) ?_ ?_
          rotate_left
          · intro w'
            go_simp
            with_reducible rfl
          rotate_left
          · simp only [Act.put, List.setIfInBounds_toArray, List.set_cons_zero, List.set_cons_succ, i64_w, i32_w]
            rfl
          refine pure_ (i := 8) (N := (some 72)) (v := ?_) (a' := ?_) #[true, true, true, true, true, true, true, true, true, false, false, false, false] rfl rfl (by kernel_rfl) (fun _ _ _ => only_shut) (Or.inl ⟨by rfl, ?_⟩) ?_ ?_
          rotate_left
          · intro w'
            go_simp
            with_reducible rfl
          rotate_left
          · simp only [Act.put, List.setIfInBounds_toArray, List.set_cons_zero, List.set_cons_succ, i64_w, i32_w]
            rfl
          refine pure_ (i := 9) (N := (some 73)) (v := ?_) (a' := ?_) #[true, true, true, true, true, true, true, true, true, true, false, false, false] rfl rfl (by kernel_rfl) (fun _ _ _ => only_shut) (Or.inl ⟨by rfl, ?_⟩) ?_ ?_
          rotate_left
          · intro w'
            go_simp
            with_reducible rfl
          rotate_left
          · simp only [Act.put, List.setIfInBounds_toArray, List.set_cons_zero, List.set_cons_succ, i64_w, i32_w]
            rfl
          refine one_ (i := 10) (N := (some 11)) #[true, true, true, true, true, true, true, true, true, true, true, false, false] rfl rfl (by kernel_rfl) (by decide) (fun K hK => ?_)
          refine value_ (by rfl) rfl (alloc26 _ _ rfl _) ?_
          have hA := Aside0.mk (hI.out.alloc #[.int .i64 0, .int .i64 0] 26)
          clear hI
          generalize hga : World.alloc _ _ = wa at hA ⊢
          clear hga
          generalize hgb : wc6.heap.size = g at hA ⊢
          clear hgb
          refine hK.out _ _ (hA.out.tail) (fun hHeld => ?_)
          clear hK K
          refine norm_ (a' := ?_) ?_ ?_
          rotate_left
          · show Act.put _ (some 11) _ = _
            simp only [Act.put, List.setIfInBounds_toArray, List.set_cons_zero, List.set_cons_succ, i64_w, i32_w]
            rfl
          refine one_ (i := 11) (N := none) #[true, true, true, true, true, true, true, true, true, true, true, true, false] rfl rfl (by kernel_rfl) (by decide) (fun K hK => ?_)
          refine skip_ (by rfl) rfl (exec_store_row 26 (.tmp 11) (.tmp 72) rfl g #[.int .i64 (nS (b.put kk (loB b kk (n + 1))) x), .int .i64 0] rfl rfl 26 _ (hA.out.get 0 rfl) size26 (sz2 _ _ _ _) (one2 _ _)) ?_
          have hA2 := Aside0.mk (hA.out.row #[.int .i64 (nS (b.put kk (loB b kk (n + 1))) x), .int .i64 0])
          clear hA
          have hA := hA2
          clear hA2
          generalize hgs : World.setRow _ _ _ = ws at hA ⊢
          clear hgs
          refine hK.out _ _ (hA.out.tail) (fun hHeld => ?_)
          clear hK K
          refine pure_ (i := 12) (N := (some 12)) (v := ?_) (a' := ?_) #[true, true, true, true, true, true, true, true, true, true, true, true, true] rfl rfl (by kernel_rfl) (fun _ _ _ => only_shut) (Or.inl ⟨by rfl, ?_⟩) ?_ ?_
          rotate_left
          · intro w'
            go_simp
            with_reducible rfl
          rotate_left
          · simp only [Act.put, List.setIfInBounds_toArray, List.set_cons_zero, List.set_cons_succ, i64_w, i32_w]
            rfl
          refine done_ (by kernel_rfl) ?_
          refine ⟨rfl, g, ?_, hA.out⟩
          simp only [putAll, Act.put, List.setIfInBounds_toArray, List.set_cons_zero, List.set_cons_succ]
        · refine value_ (by rfl) rfl (alloc26 _ _ rfl _) ?_
          have hA := Aside0.mk (hI.out.alloc #[.int .i64 0, .int .i64 0] 26)
          clear hI
          generalize hga : World.alloc _ _ = wa at hA ⊢
          clear hga
          generalize hgb : wc5.heap.size = g at hA ⊢
          clear hgb
          refine hK.out _ _ (hA.out.tail) (fun hHeld => ?_)
          clear hK K
          refine norm_ (a' := ?_) ?_ ?_
          rotate_left
          · show Act.put _ (some 11) _ = _
            simp only [Act.put, List.setIfInBounds_toArray, List.set_cons_zero, List.set_cons_succ, i64_w, i32_w]
            rfl
          refine one_ (i := 6) (N := (some 71)) #[true, true, true, true, true, true, true, false, false, false, true, false, false] rfl rfl (by kernel_rfl) (by decide) (fun K hK => ?_)
          refine goes_ Try.func13 (by kernel_rfl) rfl #[.agg #[.bool false, .int .i64 dl, .int .u64 ((b.put kk (loB b kk (n + 1))).s : Int), .int .u64 ((b.put kk (loB b kk (n + 1))).i : Int), .int .u64 ((b.put kk (loB b kk (n + 1))).h : Int), .int .u64 ((b.put kk (loB b kk (n + 1))).d : Int), .int .u64 ((b.put kk (loB b kk (n + 1))).m : Int), .int .u64 ((b.put kk (loB b kk (n + 1))).w : Int)], .agg #[.int .i64 x, .int .i64 nn], .agg #[.slice none 0 0, .slice none 0 0, .slice none 0 0, .slice none 0 0]] (by rfl) rfl rfl (by (try simp only [List.map_toArray, List.map_cons, List.map_nil]); first | done | rfl) ?_
          refine (implNext_nx (b.put kk (loB b kk (n + 1))) dl x nn _ (HW.out.put kk _ (lo_lt HW.out _ _)) HX.out.2.2.1 HX.out.2.2.2 HX.out.1 HX.out.2.1).mono ?_
          rintro e wc6 ⟨rfl, hb⟩
          refine ⟨_, rfl, ?_⟩
          have hA2 := Aside0.mk (hA.out.below hb)
          clear hA hb
          have hA := hA2
          clear hA2
          refine hK.out _ _ (hA.out.tail) (fun hHeld => ?_)
          clear hK K
          refine norm_ (a' := ?_) ?_ ?_
          rotate_left
          · show Act.put _ (some 71) _ = _
            simp only [Act.put, List.setIfInBounds_toArray, List.set_cons_zero, List.set_cons_succ, i64_w, i32_w]
            rfl
          refine pure_ (i := 7) (N := (some 64)) (v := ?_) (a' := ?_) #[true, true, true, true, true, true, true, true, false, false, true, false, false] rfl rfl (by kernel_rfl) (fun _ _ _ => only_shut) (Or.inl ⟨by rfl, ?_⟩) ?_ ?_
          rotate_left
          · intro w'
            go_simp
            with_reducible rfl
          rotate_left
          · simp only [Act.put, List.setIfInBounds_toArray, List.set_cons_zero, List.set_cons_succ, i64_w, i32_w]
            rfl
          refine pure_ (i := 8) (N := (some 72)) (v := ?_) (a' := ?_) #[true, true, true, true, true, true, true, true, true, false, true, false, false] rfl rfl (by kernel_rfl) (fun _ _ _ => only_shut) (Or.inl ⟨by rfl, ?_⟩) ?_ ?_
          rotate_left
          · intro w'
            go_simp
            with_reducible rfl
          rotate_left
          · simp only [Act.put, List.setIfInBounds_toArray, List.set_cons_zero, List.set_cons_succ, i64_w, i32_w]
            rfl
          refine pure_ (i := 9) (N := (some 73)) (v := ?_) (a' := ?_) #[true, true, true, true, true, true, true, true, true, true, true, false, false] rfl rfl (by kernel_rfl) (fun _ _ _ => only_shut) (Or.inl ⟨by rfl, ?_⟩) ?_ ?_
          rotate_left
          · intro w'
            go_simp
            with_reducible rfl
          rotate_left
          · simp only [Act.put, List.setIfInBounds_toArray, List.set_cons_zero, List.set_cons_succ, i64_w, i32_w]
            rfl
          refine one_ (i := 11) (N := none) #[true, true, true, true, true, true, true, true, true, true, true, true, false] rfl rfl (by kernel_rfl) (by decide) (fun K hK => ?_)
          refine skip_ (by rfl) rfl (exec_store_row 26 (.tmp 11) (.tmp 72) rfl g #[.int .i64 (nS (b.put kk (loB b kk (n + 1))) x), .int .i64 0] rfl rfl 26 _ (hA.out.get 0 rfl) size26 (sz2 _ _ _ _) (one2 _ _)) ?_
          have hA2 := Aside0.mk (hA.out.row #[.int .i64 (nS (b.put kk (loB b kk (n + 1))) x), .int .i64 0])
          clear hA
          have hA := hA2
          clear hA2
          generalize hgs : World.setRow _ _ _ = ws at hA ⊢
          clear hgs
          refine hK.out _ _ (hA.out.tail) (fun hHeld => ?_)
          clear hK K
          refine pure_ (i := 12) (N := (some 12)) (v := ?_) (a' := ?_) #[true, true, true, true, true, true, true, true, true, true, true, true, true] rfl rfl (by kernel_rfl) (fun _ _ _ => only_shut) (Or.inl ⟨by rfl, ?_⟩) ?_ ?_
          rotate_left
          · intro w'
            go_simp
            with_reducible rfl
          rotate_left
          · simp only [Act.put, List.setIfInBounds_toArray, List.set_cons_zero, List.set_cons_succ, i64_w, i32_w]
            rfl
          refine done_ (by kernel_rfl) ?_
          refine ⟨rfl, g, ?_, hA.out⟩
          simp only [putAll, Act.put, List.setIfInBounds_toArray, List.set_cons_zero, List.set_cons_succ]
      · refine value_ (by rfl) rfl (alloc26 _ _ rfl _) ?_
        have hA := Aside0.mk (hI.out.alloc #[.int .i64 0, .int .i64 0] 26)
        clear hI
        generalize hga : World.alloc _ _ = wa at hA ⊢
        clear hga
        generalize hgb : wc3.heap.size = g at hA ⊢
        clear hgb
        refine hK.out _ _ (hA.out.tail) (fun hHeld => ?_)
        clear hK K
        refine norm_ (a' := ?_) ?_ ?_
        rotate_left
        · show Act.put _ (some 11) _ = _
          simp only [Act.put, List.setIfInBounds_toArray, List.set_cons_zero, List.set_cons_succ, i64_w, i32_w]
          rfl
        refine one_ (i := 5) (N := (some 70)) #[true, true, true, true, true, true, false, false, false, false, true, false, false] rfl rfl (by kernel_rfl) (by decide) (fun K hK => ?_)
        refine goes_ Try.func14 (by kernel_rfl) rfl #[] (by rfl) rfl rfl (by (try simp only [List.map_toArray, List.map_cons, List.map_nil]); first | done | rfl) ?_
        refine (utcZone_any _).mono ?_
        rintro e wc5 ⟨rfl, hb⟩
        refine ⟨_, rfl, ?_⟩
        have hA2 := Aside0.mk (hA.out.below hb)
        clear hA hb
        have hA := hA2
        clear hA2
        refine hK.out _ _ (hA.out.tail) (fun hHeld => ?_)
        clear hK K
        refine norm_ (a' := ?_) ?_ ?_
        rotate_left
        · show Act.put _ (some 70) _ = _
          simp only [Act.put, List.setIfInBounds_toArray, List.set_cons_zero, List.set_cons_succ, i64_w, i32_w]
          rfl
        refine one_ (i := 6) (N := (some 71)) #[true, true, true, true, true, true, true, false, false, false, true, false, false] rfl rfl (by kernel_rfl) (by decide) (fun K hK => ?_)
        refine goes_ Try.func13 (by kernel_rfl) rfl #[.agg #[.bool false, .int .i64 dl, .int .u64 ((b.put kk (loB b kk (n + 1))).s : Int), .int .u64 ((b.put kk (loB b kk (n + 1))).i : Int), .int .u64 ((b.put kk (loB b kk (n + 1))).h : Int), .int .u64 ((b.put kk (loB b kk (n + 1))).d : Int), .int .u64 ((b.put kk (loB b kk (n + 1))).m : Int), .int .u64 ((b.put kk (loB b kk (n + 1))).w : Int)], .agg #[.int .i64 x, .int .i64 nn], .agg #[.slice none 0 0, .slice none 0 0, .slice none 0 0, .slice none 0 0]] (by rfl) rfl rfl (by (try simp only [List.map_toArray, List.map_cons, List.map_nil]); first | done | rfl) ?_
        refine (implNext_nx (b.put kk (loB b kk (n + 1))) dl x nn _ (HW.out.put kk _ (lo_lt HW.out _ _)) HX.out.2.2.1 HX.out.2.2.2 HX.out.1 HX.out.2.1).mono ?_
        rintro e wc6 ⟨rfl, hb⟩
        refine ⟨_, rfl, ?_⟩
        have hA2 := Aside0.mk (hA.out.below hb)
        clear hA hb
        have hA := hA2
        clear hA2
        refine hK.out _ _ (hA.out.tail) (fun hHeld => ?_)
        clear hK K
        refine norm_ (a' := ?_) ?_ ?_
        rotate_left
        · show Act.put _ (some 71) _ = _
          simp only [Act.put, List.setIfInBounds_toArray, List.set_cons_zero, List.set_cons_succ, i64_w, i32_w]
          rfl
        refine pure_ (i := 7) (N := (some 64)) (v := ?_) (a' := ?_) #[true, true, true, true, true, true, true, true, false, false, true, false, false] rfl rfl (by kernel_rfl) (fun _ _ _ => only_shut) (Or.inl ⟨by rfl, ?_⟩) ?_ ?_
        rotate_left
        · intro w'
          go_simp
          with_reducible rfl
        rotate_left
        · simp only [Act.put, List.setIfInBounds_toArray, List.set_cons_zero, List.set_cons_succ, i64_w, i32_w]
          rfl
        refine pure_ (i := 8) (N := (some 72)) (v := ?_) (a' := ?_) #[true, true, true, true, true, true, true, true, true, false, true, false, false] rfl rfl (by kernel_rfl) (fun _ _ _ => only_shut) (Or.inl ⟨by rfl, ?_⟩) ?_ ?_
        rotate_left
        · intro w'
          go_simp
          with_reducible rfl
        rotate_left
        · simp only [Act.put, List.setIfInBounds_toArray, List.set_cons_zero, List.set_cons_succ, i64_w, i32_w]
          rfl
        refine pure_ (i := 9) (N := (some 73)) (v := ?_) (a' := ?_) #[true, true, true, true, true, true, true, true, true, true, true, false, false] rfl rfl (by kernel_rfl) (fun _ _ _ => only_shut) (Or.inl ⟨by rfl, ?_⟩) ?_ ?_
        rotate_left
        · intro w'
          go_simp
          with_reducible rfl
        rotate_left
        · simp only [Act.put, List.setIfInBounds_toArray, List.set_cons_zero, List.set_cons_succ, i64_w, i32_w]
          rfl
        refine one_ (i := 11) (N := none) #[true, true, true, true, true, true, true, true, true, true, true, true, false] rfl rfl (by kernel_rfl) (by decide) (fun K hK => ?_)
        refine skip_ (by rfl) rfl (exec_store_row 26 (.tmp 11) (.tmp 72) rfl g #[.int .i64 (nS (b.put kk (loB b kk (n + 1))) x), .int .i64 0] rfl rfl 26 _ (hA.out.get 0 rfl) size26 (sz2 _ _ _ _) (one2 _ _)) ?_
        have hA2 := Aside0.mk (hA.out.row #[.int .i64 (nS (b.put kk (loB b kk (n + 1))) x), .int .i64 0])
        clear hA
        have hA := hA2
        clear hA2
        generalize hgs : World.setRow _ _ _ = ws at hA ⊢
        clear hgs
        refine hK.out _ _ (hA.out.tail) (fun hHeld => ?_)
        clear hK K
        refine pure_ (i := 12) (N := (some 12)) (v := ?_) (a' := ?_) #[true, true, true, true, true, true, true, true, true, true, true, true, true] rfl rfl (by kernel_rfl) (fun _ _ _ => only_shut) (Or.inl ⟨by rfl, ?_⟩) ?_ ?_
        rotate_left
        · intro w'
          go_simp
          with_reducible rfl
        rotate_left
        · simp only [Act.put, List.setIfInBounds_toArray, List.set_cons_zero, List.set_cons_succ, i64_w, i32_w]
          rfl
        refine done_ (by kernel_rfl) ?_
        refine ⟨rfl, g, ?_, hA.out⟩
        simp only [putAll, Act.put, List.setIfInBounds_toArray, List.set_cons_zero, List.set_cons_succ]
    · refine value_ (by rfl) rfl (alloc26 _ _ rfl _) ?_
      have hA := Aside0.mk (hI.out.alloc #[.int .i64 0, .int .i64 0] 26)
      clear hI
      generalize hga : World.alloc _ _ = wa at hA ⊢
      clear hga
      generalize hgb : wd.heap.size = g at hA ⊢
      clear hgb
      refine hK.out _ _ (hA.out.tail) (fun hHeld => ?_)
      clear hK K
      refine norm_ (a' := ?_) ?_ ?_
      rotate_left
      · show Act.put _ (some 11) _ = _
        simp only [Act.put, List.setIfInBounds_toArray, List.set_cons_zero, List.set_cons_succ, i64_w, i32_w]
        rfl
      refine one_ (i := 3) (N := (some 68)) #[true, true, true, true, true, false, false, false, false, false, true, false, false] rfl rfl (by kernel_rfl) (by decide) (fun K hK => ?_)
      refine goes_ Try.func21 (by kernel_rfl) rfl #[.agg #[.bool false, .int .i64 dl, .int .u64 (b.s : Int), .int .u64 (b.i : Int), .int .u64 (b.h : Int), .int .u64 (b.d : Int), .int .u64 (b.m : Int), .int .u64 (b.w : Int)], .int .i64 (kk : Int), .int .u64 ((loB b kk (n + 1) : Nat) : Int)] (by rfl) rfl rfl (by (try simp only [List.map_toArray, List.map_cons, List.map_nil]); first | done | rfl) ?_
      refine (with_any b dl (loB b kk (n + 1)) _ kk (by have := HKK.out; omega)).mono ?_
      rintro e wc3 ⟨rfl, hb⟩
      refine ⟨_, rfl, ?_⟩
      have hA2 := Aside0.mk (hA.out.below hb)
      clear hA hb
      have hA := hA2
      clear hA2
      refine hK.out _ _ (hA.out.tail) (fun hHeld => ?_)
      clear hK K
      refine norm_ (a' := ?_) ?_ ?_
      rotate_left
      · show Act.put _ (some 68) _ = _
        simp only [Act.put, List.setIfInBounds_toArray, List.set_cons_zero, List.set_cons_succ, i64_w, i32_w]
        rfl
      refine one_ (i := 5) (N := (some 70)) #[true, true, true, true, true, true, false, false, false, false, true, false, false] rfl rfl (by kernel_rfl) (by decide) (fun K hK => ?_)
      refine goes_ Try.func14 (by kernel_rfl) rfl #[] (by rfl) rfl rfl (by (try simp only [List.map_toArray, List.map_cons, List.map_nil]); first | done | rfl) ?_
      refine (utcZone_any _).mono ?_
      rintro e wc5 ⟨rfl, hb⟩
      refine ⟨_, rfl, ?_⟩
      have hA2 := Aside0.mk (hA.out.below hb)
      clear hA hb
      have hA := hA2
      clear hA2
      refine hK.out _ _ (hA.out.tail) (fun hHeld => ?_)
      clear hK K
      refine norm_ (a' := ?_) ?_ ?_
      rotate_left
      · show Act.put _ (some 70) _ = _
        simp only [Act.put, List.setIfInBounds_toArray, List.set_cons_zero, List.set_cons_succ, i64_w, i32_w]
        rfl
      refine one_ (i := 6) (N := (some 71)) #[true, true, true, true, true, true, true, false, false, false, true, false, false] rfl rfl (by kernel_rfl) (by decide) (fun K hK => ?_)
      refine goes_ Try.func13 (by kernel_rfl) rfl #[.agg #[.bool false, .int .i64 dl, .int .u64 ((b.put kk (loB b kk (n + 1))).s : Int), .int .u64 ((b.put kk (loB b kk (n + 1))).i : Int), .int .u64 ((b.put kk (loB b kk (n + 1))).h : Int), .int .u64 ((b.put kk (loB b kk (n + 1))).d : Int), .int .u64 ((b.put kk (loB b kk (n + 1))).m : Int), .int .u64 ((b.put kk (loB b kk (n + 1))).w : Int)], .agg #[.int .i64 x, .int .i64 nn], .agg #[.slice none 0 0, .slice none 0 0, .slice none 0 0, .slice none 0 0]] (by rfl) rfl rfl (by (try simp only [List.map_toArray, List.map_cons, List.map_nil]); first | done | rfl) ?_
      refine (implNext_nx (b.put kk (loB b kk (n + 1))) dl x nn _ (HW.out.put kk _ (lo_lt HW.out _ _)) HX.out.2.2.1 HX.out.2.2.2 HX.out.1 HX.out.2.1).mono ?_
      rintro e wc6 ⟨rfl, hb⟩
      refine ⟨_, rfl, ?_⟩
      have hA2 := Aside0.mk (hA.out.below hb)
      clear hA hb
      have hA := hA2
      clear hA2
      refine hK.out _ _ (hA.out.tail) (fun hHeld => ?_)
      clear hK K
      refine norm_ (a' := ?_) ?_ ?_
      rotate_left
      · show Act.put _ (some 71) _ = _
        simp only [Act.put, List.setIfInBounds_toArray, List.set_cons_zero, List.set_cons_succ, i64_w, i32_w]
        rfl
      refine pure_ (i := 7) (N := (some 64)) (v := ?_) (a' := ?_) #[true, true, true, true, true, true, true, true, false, false, true, false, false] rfl rfl (by kernel_rfl) (fun _ _ _ => only_shut) (Or.inl ⟨by rfl, ?_⟩) ?_ ?_
      rotate_left
      · intro w'
        go_simp
        with_reducible rfl
      rotate_left
      · simp only [Act.put, List.setIfInBounds_toArray, List.set_cons_zero, List.set_cons_succ, i64_w, i32_w]
        rfl
      refine pure_ (i := 8) (N := (some 72)) (v := ?_) (a' := ?_) #[true, true, true, true, true, true, true, true, true, false, true, false, false] rfl rfl (by kernel_rfl) (fun _ _ _ => only_shut) (Or.inl ⟨by rfl, ?_⟩) ?_ ?_
      rotate_left
      · intro w'
        go_simp
        with_reducible rfl
      rotate_left
      · simp only [Act.put, List.setIfInBounds_toArray, List.set_cons_zero, List.set_cons_succ, i64_w, i32_w]
        rfl
      refine pure_ (i := 9) (N := (some 73)) (v := ?_) (a' := ?_) #[true, true, true, true, true, true, true, true, true, true, true, false, false] rfl rfl (by kernel_rfl) (fun _ _ _ => only_shut) (Or.inl ⟨by rfl, ?_⟩) ?_ ?_
      rotate_left
      · intro w'
        go_simp
        with_reducible rfl
      rotate_left
      · simp only [Act.put, List.setIfInBounds_toArray, List.set_cons_zero, List.set_cons_succ, i64_w, i32_w]
        rfl
      refine one_ (i := 11) (N := none) #[true, true, true, true, true, true, true, true, true, true, true, true, false] rfl rfl (by kernel_rfl) (by decide) (fun K hK => ?_)
      refine skip_ (by rfl) rfl (exec_store_row 26 (.tmp 11) (.tmp 72) rfl g #[.int .i64 (nS (b.put kk (loB b kk (n + 1))) x), .int .i64 0] rfl rfl 26 _ (hA.out.get 0 rfl) size26 (sz2 _ _ _ _) (one2 _ _)) ?_
      have hA2 := Aside0.mk (hA.out.row #[.int .i64 (nS (b.put kk (loB b kk (n + 1))) x), .int .i64 0])
      clear hA
      have hA := hA2
      clear hA2
      generalize hgs : World.setRow _ _ _ = ws at hA ⊢
      clear hgs
      refine hK.out _ _ (hA.out.tail) (fun hHeld => ?_)
      clear hK K
      refine pure_ (i := 12) (N := (some 12)) (v := ?_) (a' := ?_) #[true, true, true, true, true, true, true, true, true, true, true, true, true] rfl rfl (by kernel_rfl) (fun _ _ _ => only_shut) (Or.inl ⟨by rfl, ?_⟩) ?_ ?_
      rotate_left
      · intro w'
        go_simp
        with_reducible rfl
      rotate_left
      · simp only [Act.put, List.setIfInBounds_toArray, List.set_cons_zero, List.set_cons_succ, i64_w, i32_w]
        rfl
      refine done_ (by kernel_rfl) ?_
      refine ⟨rfl, g, ?_, hA.out⟩
      simp only [putAll, Act.put, List.setIfInBounds_toArray, List.set_cons_zero, List.set_cons_succ]
  clear hI
  intro g1 wn1 hI0
  have hI := Aside0.mk hI0
  clear hI0
  simp only [putAll, Act.put, List.setIfInBounds_toArray, List.set_cons_zero, List.set_cons_succ]
  go_wp2_with fail
  refine region_split (fun g => [(75, .agg #[.bool false, .int .i64 dl, .int .u64 (b.s : Int), .int .u64 (b.i : Int), .int .u64 (b.h : Int), .int .u64 (b.d : Int), .int .u64 (b.m : Int), .int .u64 (b.w : Int)]), (76, .int .i64 (kk : Int)), (77, .int .u64 (fldN b kk : Int)), (78, .int .u64 (loB b kk (n + 1) : Int)), (79, .int .u64 (hiB b kk (n + 1) : Int)), (80, .agg #[.bool false, .int .i64 dl, .int .u64 ((b.put kk (hiB b kk (n + 1))).s : Int), .int .u64 ((b.put kk (hiB b kk (n + 1))).i : Int), .int .u64 ((b.put kk (hiB b kk (n + 1))).h : Int), .int .u64 ((b.put kk (hiB b kk (n + 1))).d : Int), .int .u64 ((b.put kk (hiB b kk (n + 1))).m : Int), .int .u64 ((b.put kk (hiB b kk (n + 1))).w : Int)]), (81, .agg #[.int .i64 x, .int .i64 nn]), (82, .agg #[.slice none 0 0, .slice none 0 0, .slice none 0 0, .slice none 0 0]), (83, .tuple #[.agg #[.int .i64 (nS (b.put kk (hiB b kk (n + 1))) x), .int .i64 0], .bool (nF (b.put kk (hiB b kk (n + 1))) x)]), (74, .tuple #[.agg #[.int .i64 (nS (b.put kk (hiB b kk (n + 1))) x), .int .i64 0], .bool (nF (b.put kk (hiB b kk (n + 1))) x)]), (84, .agg #[.int .i64 (nS (b.put kk (hiB b kk (n + 1))) x), .int .i64 0]), (85, .bool (nF (b.put kk (hiB b kk (n + 1))) x)), (13, .pointer (some ⟨g, 0, none⟩)), (14, .bool (nF (b.put kk (hiB b kk (n + 1))) x))]) (fun g w' => Blk w ((g, #[.int .i64 (nS (b.put kk (hiB b kk (n + 1))) x), .int .i64 0], 26) :: [(g1, #[.int .i64 (nS (b.put kk (loB b kk (n + 1))) x), .int .i64 0], 26), (w.heap.size + 1, #[.int .i64 x, .int .i64 nn], 26), (w.heap.size, #[.bool false, .int .i64 dl, .int .u64 (b.s : Int), .int .u64 (b.i : Int), .int .u64 (b.h : Int), .int .u64 (b.d : Int), .int .u64 (b.m : Int), .int .u64 (b.w : Int)], 24)]) w') ?_ ?_
  · refine start_ (n := 15) (S := Blk w [(g1, #[.int .i64 (nS (b.put kk (loB b kk (n + 1))) x), .int .i64 0], 26), (w.heap.size + 1, #[.int .i64 x, .int .i64 nn], 26), (w.heap.size, #[.bool false, .int .i64 dl, .int .u64 (b.s : Int), .int .u64 (b.i : Int), .int .u64 (b.h : Int), .int .u64 (b.d : Int), .int .u64 (b.m : Int), .int .u64 (b.w : Int)], 24)]) (ds := []) #[false, false, false, false, false, false, false, false, false, false, false, false, false, false, false] (by kernel_rfl) rfl rfl (hI.out.drew) (fun hHeld => ?_)
    have hI2 := Aside0.mk hI.out.drew
    clear hI
    have hI := hI2
    clear hI2
    generalize hwd : World.drew _ = wd at hI hHeld ⊢
    clear hwd
    refine take_ (i := 0) (N := (some 75)) (v := ?_) (a' := ?_) #[true, false, false, false, false, false, false, false, false, false, false, false, false, false, false] rfl rfl (by kernel_rfl) (fun _ _ _ => only_shut) (Or.inl ⟨by rfl, ?_⟩) hHeld ?_ ?_
    rotate_left
    · intro w' hS
      refine exec_load_row 24 (.tmp 4) ?_ (w.heap.size) ?_ 24 _ _ (hS.get 2 rfl) Try.underlying24 rfl size24
      · rfl
      · rfl
    rotate_left
    · simp only [Act.put, List.setIfInBounds_toArray, List.set_cons_zero, List.set_cons_succ, i64_w, i32_w]
      rfl
    refine pure_ (i := 1) (N := (some 76)) (v := ?_) (a' := ?_) #[true, true, false, false, false, false, false, false, false, false, false, false, false, false, false] rfl rfl (by kernel_rfl) (fun _ _ _ => only_shut) (Or.inl ⟨by rfl, ?_⟩) ?_ ?_
    rotate_left
    · intro w'
      go_simp
      with_reducible rfl
    rotate_left
    · simp only [Act.put, List.setIfInBounds_toArray, List.set_cons_zero, List.set_cons_succ, i64_w, i32_w]
      rfl
    refine pure_ (i := 2) (N := (some 77)) (v := ?_) (a' := ?_) #[true, true, true, false, false, false, false, false, false, false, false, false, false, false, false] rfl rfl (by kernel_rfl) (fun _ _ _ => only_shut) (Or.inl ⟨by rfl, ?_⟩) ?_ ?_
    rotate_left
    · intro w'
      go_simp
      with_reducible rfl
    rotate_left
    · simp only [Act.put, List.setIfInBounds_toArray, List.set_cons_zero, List.set_cons_succ, i64_w, i32_w]
      rfl
    refine pure_ (i := 3) (N := (some 78)) (v := ?_) (a' := ?_) #[true, true, true, true, false, false, false, false, false, false, false, false, false, false, false] rfl rfl (by kernel_rfl) (fun _ _ _ => only_shut) (Or.inl ⟨by rfl, ?_⟩) ?_ ?_
    rotate_left
    · intro w'
      go_simp
      with_reducible rfl
    rotate_left
    · simp only [Act.put, List.setIfInBounds_toArray, List.set_cons_zero, List.set_cons_succ, i64_w, i32_w]
      rfl
    refine pure_ (i := 4) (N := (some 79)) (v := ?_) (a' := ?_) #[true, true, true, true, true, false, false, false, false, false, false, false, false, false, false] rfl rfl (by kernel_rfl) (fun _ _ _ => only_shut) (Or.inl ⟨by rfl, ?_⟩) ?_ ?_
    rotate_left
    · intro w'
      go_simp
      with_reducible rfl
    rotate_left
    · simp only [Act.put, List.setIfInBounds_toArray, List.set_cons_zero, List.set_cons_succ, i64_w, i32_w]
      rfl
    refine take_ (i := 6) (N := (some 81)) (v := ?_) (a' := ?_) #[true, true, true, true, true, false, true, false, false, false, false, false, false, false, false] rfl rfl (by kernel_rfl) (fun _ _ _ => only_shut) (Or.inl ⟨by rfl, ?_⟩) hHeld ?_ ?_
    rotate_left
    · intro w' hS
      refine exec_load_row 26 (.tmp 7) ?_ (w.heap.size + 1) ?_ 26 _ _ (hS.get 1 rfl) Try.underlying26 rfl size26
      · rfl
      · rfl
    rotate_left
    · simp only [Act.put, List.setIfInBounds_toArray, List.set_cons_zero, List.set_cons_succ, i64_w, i32_w]
      rfl
    refine two_ (i := 5) (j := 12) (Ni := (some 80)) (Nj := (some 13)) #[true, true, true, true, true, true, true, false, false, false, false, false, false, false, false] #[true, true, true, true, true, false, true, false, false, false, false, false, true, false, false] rfl rfl rfl rfl (by kernel_rfl) (by decide) (by decide) (fun K hK => ?_) (fun K hK => ?_)
    · refine goes_ Try.func21 (by kernel_rfl) rfl #[.agg #[.bool false, .int .i64 dl, .int .u64 (b.s : Int), .int .u64 (b.i : Int), .int .u64 (b.h : Int), .int .u64 (b.d : Int), .int .u64 (b.m : Int), .int .u64 (b.w : Int)], .int .i64 (kk : Int), .int .u64 ((hiB b kk (n + 1) : Nat) : Int)] (by rfl) rfl rfl (by (try simp only [List.map_toArray, List.map_cons, List.map_nil]); first | done | rfl) ?_
      refine (with_any b dl (hiB b kk (n + 1)) _ kk (by have := HKK.out; omega)).mono ?_
      rintro e wc5 ⟨rfl, hb⟩
      refine ⟨_, rfl, ?_⟩
      have hI2 := Aside0.mk (hI.out.below hb)
      clear hI hb
      have hI := hI2
      clear hI2
      refine hK.out _ _ (hI.out) (fun hHeld => ?_)
      clear hK K
      refine norm_ (a' := ?_) ?_ ?_
      rotate_left
      · show Act.put _ (some 80) _ = _
        simp only [Act.put, List.setIfInBounds_toArray, List.set_cons_zero, List.set_cons_succ, i64_w, i32_w]
        rfl
      refine two_ (i := 7) (j := 12) (Ni := (some 82)) (Nj := (some 13)) #[true, true, true, true, true, true, true, true, false, false, false, false, false, false, false] #[true, true, true, true, true, true, true, false, false, false, false, false, true, false, false] rfl rfl rfl rfl (by kernel_rfl) (by decide) (by decide) (fun K hK => ?_) (fun K hK => ?_)
      · refine goes_ Try.func14 (by kernel_rfl) rfl #[] (by rfl) rfl rfl (by (try simp only [List.map_toArray, List.map_cons, List.map_nil]); first | done | rfl) ?_
        refine (utcZone_any _).mono ?_
        rintro e wc7 ⟨rfl, hb⟩
        refine ⟨_, rfl, ?_⟩
        have hI2 := Aside0.mk (hI.out.below hb)
        clear hI hb
        have hI := hI2
        clear hI2
        refine hK.out _ _ (hI.out) (fun hHeld => ?_)
        clear hK K
        refine norm_ (a' := ?_) ?_ ?_
        rotate_left
        · show Act.put _ (some 82) _ = _
          simp only [Act.put, List.setIfInBounds_toArray, List.set_cons_zero, List.set_cons_succ, i64_w, i32_w]
          rfl
        refine two_ (i := 8) (j := 12) (Ni := (some 83)) (Nj := (some 13)) #[true, true, true, true, true, true, true, true, true, false, false, false, false, false, false] #[true, true, true, true, true, true, true, true, false, false, false, false, true, false, false] rfl rfl rfl rfl (by kernel_rfl) (by decide) (by decide) (fun K hK => ?_) (fun K hK => ?_)
        · refine goes_ Try.func13 (by kernel_rfl) rfl #[.agg #[.bool false, .int .i64 dl, .int .u64 ((b.put kk (hiB b kk (n + 1))).s : Int), .int .u64 ((b.put kk (hiB b kk (n + 1))).i : Int), .int .u64 ((b.put kk (hiB b kk (n + 1))).h : Int), .int .u64 ((b.put kk (hiB b kk (n + 1))).d : Int), .int .u64 ((b.put kk (hiB b kk (n + 1))).m : Int), .int .u64 ((b.put kk (hiB b kk (n + 1))).w : Int)], .agg #[.int .i64 x, .int .i64 nn], .agg #[.slice none 0 0, .slice none 0 0, .slice none 0 0, .slice none 0 0]] (by rfl) rfl rfl (by (try simp only [List.map_toArray, List.map_cons, List.map_nil]); first | done | rfl) ?_
          refine (implNext_nx (b.put kk (hiB b kk (n + 1))) dl x nn _ (HW.out.put kk _ (hi_lt HW.out _ _)) HX.out.2.2.1 HX.out.2.2.2 HX.out.1 HX.out.2.1).mono ?_
          rintro e wc8 ⟨rfl, hb⟩
          refine ⟨_, rfl, ?_⟩
          have hI2 := Aside0.mk (hI.out.below hb)
          clear hI hb
          have hI := hI2
          clear hI2
          refine hK.out _ _ (hI.out) (fun hHeld => ?_)
          clear hK K
          refine norm_ (a' := ?_) ?_ ?_
          rotate_left
          · show Act.put _ (some 83) _ = _
            simp only [Act.put, List.setIfInBounds_toArray, List.set_cons_zero, List.set_cons_succ, i64_w, i32_w]
            rfl
          refine pure_ (i := 9) (N := (some 74)) (v := ?_) (a' := ?_) #[true, true, true, true, true, true, true, true, true, true, false, false, false, false, false] rfl rfl (by kernel_rfl) (fun _ _ _ => only_shut) (Or.inl ⟨by rfl, ?_⟩) ?_ ?_
          rotate_left
          · intro w'
            go_simp
            with_reducible rfl
          rotate_left
          · simp only [Act.put, List.setIfInBounds_toArray, List.set_cons_zero, List.set_cons_succ, i64_w, i32_w]
            rfl
          refine pure_ (i := 10) (N := (some 84)) (v := ?_) (a' := ?_) #[true, true, true, true, true, true, true, true, true, true, true, false, false, false, false] rfl rfl (by kernel_rfl) (fun _ _ _ => only_shut) (Or.inl ⟨by rfl, ?_⟩) ?_ ?_
          rotate_left
          · intro w'
            go_simp
            with_reducible rfl
          rotate_left
          · simp only [Act.put, List.setIfInBounds_toArray, List.set_cons_zero, List.set_cons_succ, i64_w, i32_w]
            rfl
          refine pure_ (i := 11) (N := (some 85)) (v := ?_) (a' := ?_) #[true, true, true, true, true, true, true, true, true, true, true, true, false, false, false] rfl rfl (by kernel_rfl) (fun _ _ _ => only_shut) (Or.inl ⟨by rfl, ?_⟩) ?_ ?_
          rotate_left
          · intro w'
            go_simp
            with_reducible rfl
          rotate_left
          · simp only [Act.put, List.setIfInBounds_toArray, List.set_cons_zero, List.set_cons_succ, i64_w, i32_w]
            rfl
          refine one_ (i := 12) (N := (some 13)) #[true, true, true, true, true, true, true, true, true, true, true, true, true, false, false] rfl rfl (by kernel_rfl) (by decide) (fun K hK => ?_)
          refine value_ (by rfl) rfl (alloc26 _ _ rfl _) ?_
          have hA := Aside0.mk (hI.out.alloc #[.int .i64 0, .int .i64 0] 26)
          clear hI
          generalize hga : World.alloc _ _ = wa at hA ⊢
          clear hga
          generalize hgb : wc8.heap.size = g at hA ⊢
          clear hgb
          refine hK.out _ _ (hA.out.tail) (fun hHeld => ?_)
          clear hK K
          refine norm_ (a' := ?_) ?_ ?_
          rotate_left
          · show Act.put _ (some 13) _ = _
            simp only [Act.put, List.setIfInBounds_toArray, List.set_cons_zero, List.set_cons_succ, i64_w, i32_w]
            rfl
          refine one_ (i := 13) (N := none) #[true, true, true, true, true, true, true, true, true, true, true, true, true, true, false] rfl rfl (by kernel_rfl) (by decide) (fun K hK => ?_)
          refine skip_ (by rfl) rfl (exec_store_row 26 (.tmp 13) (.tmp 84) rfl g #[.int .i64 (nS (b.put kk (hiB b kk (n + 1))) x), .int .i64 0] rfl rfl 26 _ (hA.out.get 0 rfl) size26 (sz2 _ _ _ _) (one2 _ _)) ?_
          have hA2 := Aside0.mk (hA.out.row #[.int .i64 (nS (b.put kk (hiB b kk (n + 1))) x), .int .i64 0])
          clear hA
          have hA := hA2
          clear hA2
          generalize hgs : World.setRow _ _ _ = ws at hA ⊢
          clear hgs
          refine hK.out _ _ (hA.out.tail) (fun hHeld => ?_)
          clear hK K
          refine pure_ (i := 14) (N := (some 14)) (v := ?_) (a' := ?_) #[true, true, true, true, true, true, true, true, true, true, true, true, true, true, true] rfl rfl (by kernel_rfl) (fun _ _ _ => only_shut) (Or.inl ⟨by rfl, ?_⟩) ?_ ?_
          rotate_left
          · intro w'
            go_simp
            with_reducible rfl
          rotate_left
          · simp only [Act.put, List.setIfInBounds_toArray, List.set_cons_zero, List.set_cons_succ, i64_w, i32_w]
            rfl
          refine done_ (by kernel_rfl) ?_
          refine ⟨rfl, g, ?_, hA.out⟩
          simp only [putAll, Act.put, List.setIfInBounds_toArray, List.set_cons_zero, List.set_cons_succ]
        · refine value_ (by rfl) rfl (alloc26 _ _ rfl _) ?_
          have hA := Aside0.mk (hI.out.alloc #[.int .i64 0, .int .i64 0] 26)
          clear hI
          generalize hga : World.alloc _ _ = wa at hA ⊢
          clear hga
          generalize hgb : wc7.heap.size = g at hA ⊢
          clear hgb
          refine hK.out _ _ (hA.out.tail) (fun hHeld => ?_)
          clear hK K
          refine norm_ (a' := ?_) ?_ ?_
          rotate_left
          · show Act.put _ (some 13) _ = _
            simp only [Act.put, List.setIfInBounds_toArray, List.set_cons_zero, List.set_cons_succ, i64_w, i32_w]
            rfl
          refine one_ (i := 8) (N := (some 83)) #[true, true, true, true, true, true, true, true, true, false, false, false, true, false, false] rfl rfl (by kernel_rfl) (by decide) (fun K hK => ?_)
          refine goes_ Try.func13 (by kernel_rfl) rfl #[.agg #[.bool false, .int .i64 dl, .int .u64 ((b.put kk (hiB b kk (n + 1))).s : Int), .int .u64 ((b.put kk (hiB b kk (n + 1))).i : Int), .int .u64 ((b.put kk (hiB b kk (n + 1))).h : Int), .int .u64 ((b.put kk (hiB b kk (n + 1))).d : Int), .int .u64 ((b.put kk (hiB b kk (n + 1))).m : Int), .int .u64 ((b.put kk (hiB b kk (n + 1))).w : Int)], .agg #[.int .i64 x, .int .i64 nn], .agg #[.slice none 0 0, .slice none 0 0, .slice none 0 0, .slice none 0 0]] (by rfl) rfl rfl (by (try simp only [List.map_toArray, List.map_cons, List.map_nil]); first | done | rfl) ?_
          refine (implNext_nx (b.put kk (hiB b kk (n + 1))) dl x nn _ (HW.out.put kk _ (hi_lt HW.out _ _)) HX.out.2.2.1 HX.out.2.2.2 HX.out.1 HX.out.2.1).mono ?_
          rintro e wc8 ⟨rfl, hb⟩
          refine ⟨_, rfl, ?_⟩
          have hA2 := Aside0.mk (hA.out.below hb)
          clear hA hb
          have hA := hA2
          clear hA2
          refine hK.out _ _ (hA.out.tail) (fun hHeld => ?_)
          clear hK K
          refine norm_ (a' := ?_) ?_ ?_
          rotate_left
          · show Act.put _ (some 83) _ = _
            simp only [Act.put, List.setIfInBounds_toArray, List.set_cons_zero, List.set_cons_succ, i64_w, i32_w]
            rfl
          refine pure_ (i := 9) (N := (some 74)) (v := ?_) (a' := ?_) #[true, true, true, true, true, true, true, true, true, true, false, false, true, false, false] rfl rfl (by kernel_rfl) (fun _ _ _ => only_shut) (Or.inl ⟨by rfl, ?_⟩) ?_ ?_
          rotate_left
          · intro w'
            go_simp
            with_reducible rfl
          rotate_left
          · simp only [Act.put, List.setIfInBounds_toArray, List.set_cons_zero, List.set_cons_succ, i64_w, i32_w]
            rfl
          refine pure_ (i := 10) (N := (some 84)) (v := ?_) (a' := ?_) #[true, true, true, true, true, true, true, true, true, true, true, false, true, false, false] rfl rfl (by kernel_rfl) (fun _ _ _ => only_shut) (Or.inl ⟨by rfl, ?_⟩) ?_ ?_
          rotate_left
          · intro w'
            go_simp
            with_reducible rfl
          rotate_left
          · simp only [Act.put, List.setIfInBounds_toArray, List.set_cons_zero, List.set_cons_succ, i64_w, i32_w]
            rfl
          refine pure_ (i := 11) (N := (some 85)) (v := ?_) (a' := ?_) #[true, true, true, true, true, true, true, true, true, true, true, true, true, false, false] rfl rfl (by kernel_rfl) (fun _ _ _ => only_shut) (Or.inl ⟨by rfl, ?_⟩) ?_ ?_
          rotate_left
          · intro w'
            go_simp
            with_reducible rfl
          rotate_left
          · simp only [Act.put, List.setIfInBounds_toArray, List.set_cons_zero, List.set_cons_succ, i64_w, i32_w]
            rfl
          refine one_ (i := 13) (N := none) #[true, true, true, true, true, true, true, true, true, true, true, true, true, true, false] rfl rfl (by kernel_rfl) (by decide) (fun K hK => ?_)
          refine skip_ (by rfl) rfl (exec_store_row 26 (.tmp 13) (.tmp 84) rfl g #[.int .i64 (nS (b.put kk (hiB b kk (n + 1))) x), .int .i64 0] rfl rfl 26 _ (hA.out.get 0 rfl) size26 (sz2 _ _ _ _) (one2 _ _)) ?_
          have hA2 := Aside0.mk (hA.out.row #[.int .i64 (nS (b.put kk (hiB b kk (n + 1))) x), .int .i64 0])
          clear hA
          have hA := hA2
          clear hA2
          generalize hgs : World.setRow _ _ _ = ws at hA ⊢
          clear hgs
          refine hK.out _ _ (hA.out.tail) (fun hHeld => ?_)
          clear hK K
          refine pure_ (i := 14) (N := (some 14)) (v := ?_) (a' := ?_) #[true, true, true, true, true, true, true, true, true, true, true, true, true, true, true] rfl rfl (by kernel_rfl) (fun _ _ _ => only_shut) (Or.inl ⟨by rfl, ?_⟩) ?_ ?_
          rotate_left
          · intro w'
            go_simp
            with_reducible rfl
          rotate_left
          · simp only [Act.put, List.setIfInBounds_toArray, List.set_cons_zero, List.set_cons_succ, i64_w, i32_w]
            rfl
          refine done_ (by kernel_rfl) ?_
          refine ⟨rfl, g, ?_, hA.out⟩
          simp only [putAll, Act.put, List.setIfInBounds_toArray, List.set_cons_zero, List.set_cons_succ]
      · refine value_ (by rfl) rfl (alloc26 _ _ rfl _) ?_
        have hA := Aside0.mk (hI.out.alloc #[.int .i64 0, .int .i64 0] 26)
        clear hI
        generalize hga : World.alloc _ _ = wa at hA ⊢
        clear hga
        generalize hgb : wc5.heap.size = g at hA ⊢
        clear hgb
        refine hK.out _ _ (hA.out.tail) (fun hHeld => ?_)
        clear hK K
        refine norm_ (a' := ?_) ?_ ?_
        rotate_left
        · show Act.put _ (some 13) _ = _
          simp only [Act.put, List.setIfInBounds_toArray, List.set_cons_zero, List.set_cons_succ, i64_w, i32_w]
          rfl
        refine one_ (i := 7) (N := (some 82)) #[true, true, true, true, true, true, true, true, false, false, false, false, true, false, false] rfl rfl (by kernel_rfl) (by decide) (fun K hK => ?_)
        refine goes_ Try.func14 (by kernel_rfl) rfl #[] (by rfl) rfl rfl (by (try simp only [List.map_toArray, List.map_cons, List.map_nil]); first | done | rfl) ?_
        refine (utcZone_any _).mono ?_
        rintro e wc7 ⟨rfl, hb⟩
        refine ⟨_, rfl, ?_⟩
        have hA2 := Aside0.mk (hA.out.below hb)
        clear hA hb
        have hA := hA2
        clear hA2
        refine hK.out _ _ (hA.out.tail) (fun hHeld => ?_)
        clear hK K
        refine norm_ (a' := ?_) ?_ ?_
        rotate_left
        · show Act.put _ (some 82) _ = _
          simp only [Act.put, List.setIfInBounds_toArray, List.set_cons_zero, List.set_cons_succ, i64_w, i32_w]
          rfl
        refine one_ (i := 8) (N := (some 83)) #[true, true, true, true, true, true, true, true, true, false, false, false, true, false, false] rfl rfl (by kernel_rfl) (by decide) (fun K hK => ?_)
        refine goes_ Try.func13 (by kernel_rfl) rfl #[.agg #[.bool false, .int .i64 dl, .int .u64 ((b.put kk (hiB b kk (n + 1))).s : Int), .int .u64 ((b.put kk (hiB b kk (n + 1))).i : Int), .int .u64 ((b.put kk (hiB b kk (n + 1))).h : Int), .int .u64 ((b.put kk (hiB b kk (n + 1))).d : Int), .int .u64 ((b.put kk (hiB b kk (n + 1))).m : Int), .int .u64 ((b.put kk (hiB b kk (n + 1))).w : Int)], .agg #[.int .i64 x, .int .i64 nn], .agg #[.slice none 0 0, .slice none 0 0, .slice none 0 0, .slice none 0 0]] (by rfl) rfl rfl (by (try simp only [List.map_toArray, List.map_cons, List.map_nil]); first | done | rfl) ?_
        refine (implNext_nx (b.put kk (hiB b kk (n + 1))) dl x nn _ (HW.out.put kk _ (hi_lt HW.out _ _)) HX.out.2.2.1 HX.out.2.2.2 HX.out.1 HX.out.2.1).mono ?_
        rintro e wc8 ⟨rfl, hb⟩
        refine ⟨_, rfl, ?_⟩
        have hA2 := Aside0.mk (hA.out.below hb)
        clear hA hb
        have hA := hA2
        clear hA2
        refine hK.out _ _ (hA.out.tail) (fun hHeld => ?_)
        clear hK K
        refine norm_ (a' := ?_) ?_ ?_
        rotate_left
        · show Act.put _ (some 83) _ = _
          simp only [Act.put, List.setIfInBounds_toArray, List.set_cons_zero, List.set_cons_succ, i64_w, i32_w]
          rfl
        refine pure_ (i := 9) (N := (some 74)) (v := ?_) (a' := ?_) #[true, true, true, true, true, true, true, true, true, true, false, false, true, false, false] rfl rfl (by kernel_rfl) (fun _ _ _ => only_shut) (Or.inl ⟨by rfl, ?_⟩) ?_ ?_
        rotate_left
        · intro w'
          go_simp
          with_reducible rfl
        rotate_left
        · simp only [Act.put, List.setIfInBounds_toArray, List.set_cons_zero, List.set_cons_succ, i64_w, i32_w]
          rfl
        refine pure_ (i := 10) (N := (some 84)) (v := ?_) (a' := ?_) #[true, true, true, true, true, true, true, true, true, true, true, false, true, false, false] rfl rfl (by kernel_rfl) (fun _ _ _ => only_shut) (Or.inl ⟨by rfl, ?_⟩) ?_ ?_
        rotate_left
        · intro w'
          go_simp
          with_reducible rfl
        rotate_left
        · simp only [Act.put, List.setIfInBounds_toArray, List.set_cons_zero, List.set_cons_succ, i64_w, i32_w]
          rfl
        refine pure_ (i := 11) (N := (some 85)) (v := ?_) (a' := ?_) #[true, true, true, true, true, true, true, true, true, true, true, true, true, false, false] rfl rfl (by kernel_rfl) (fun _ _ _ => only_shut) (Or.inl ⟨by rfl, ?_⟩) ?_ ?_
        rotate_left
        · intro w'
          go_simp
          with_reducible rfl
        rotate_left
        · simp only [Act.put, List.setIfInBounds_toArray, List.set_cons_zero, List.set_cons_succ, i64_w, i32_w]
          rfl
        refine one_ (i := 13) (N := none) #[true, true, true, true, true, true, true, true, true, true, true, true, true, true, false] rfl rfl (by kernel_rfl) (by decide) (fun K hK => ?_)
        refine skip_ (by rfl) rfl (exec_store_row 26 (.tmp 13) (.tmp 84) rfl g #[.int .i64 (nS (b.put kk (hiB b kk (n + 1))) x), .int .i64 0] rfl rfl 26 _ (hA.out.get 0 rfl) size26 (sz2 _ _ _ _) (one2 _ _)) ?_
        have hA2 := Aside0.mk (hA.out.row #[.int .i64 (nS (b.put kk (hiB b kk (n + 1))) x), .int .i64 0])
        clear hA
        have hA := hA2
        clear hA2
        generalize hgs : World.setRow _ _ _ = ws at hA ⊢
        clear hgs
        refine hK.out _ _ (hA.out.tail) (fun hHeld => ?_)
        clear hK K
        refine pure_ (i := 14) (N := (some 14)) (v := ?_) (a' := ?_) #[true, true, true, true, true, true, true, true, true, true, true, true, true, true, true] rfl rfl (by kernel_rfl) (fun _ _ _ => only_shut) (Or.inl ⟨by rfl, ?_⟩) ?_ ?_
        rotate_left
        · intro w'
          go_simp
          with_reducible rfl
        rotate_left
        · simp only [Act.put, List.setIfInBounds_toArray, List.set_cons_zero, List.set_cons_succ, i64_w, i32_w]
          rfl
        refine done_ (by kernel_rfl) ?_
        refine ⟨rfl, g, ?_, hA.out⟩
        simp only [putAll, Act.put, List.setIfInBounds_toArray, List.set_cons_zero, List.set_cons_succ]
    · refine value_ (by rfl) rfl (alloc26 _ _ rfl _) ?_
      have hA := Aside0.mk (hI.out.alloc #[.int .i64 0, .int .i64 0] 26)
      clear hI
      generalize hga : World.alloc _ _ = wa at hA ⊢
      clear hga
      generalize hgb : wd.heap.size = g at hA ⊢
      clear hgb
      refine hK.out _ _ (hA.out.tail) (fun hHeld => ?_)
      clear hK K
      refine norm_ (a' := ?_) ?_ ?_
      rotate_left
      · show Act.put _ (some 13) _ = _
        simp only [Act.put, List.setIfInBounds_toArray, List.set_cons_zero, List.set_cons_succ, i64_w, i32_w]
        rfl
      refine one_ (i := 5) (N := (some 80)) #[true, true, true, true, true, true, true, false, false, false, false, false, true, false, false] rfl rfl (by kernel_rfl) (by decide) (fun K hK => ?_)
      refine goes_ Try.func21 (by kernel_rfl) rfl #[.agg #[.bool false, .int .i64 dl, .int .u64 (b.s : Int), .int .u64 (b.i : Int), .int .u64 (b.h : Int), .int .u64 (b.d : Int), .int .u64 (b.m : Int), .int .u64 (b.w : Int)], .int .i64 (kk : Int), .int .u64 ((hiB b kk (n + 1) : Nat) : Int)] (by rfl) rfl rfl (by (try simp only [List.map_toArray, List.map_cons, List.map_nil]); first | done | rfl) ?_
      refine (with_any b dl (hiB b kk (n + 1)) _ kk (by have := HKK.out; omega)).mono ?_
      rintro e wc5 ⟨rfl, hb⟩
      refine ⟨_, rfl, ?_⟩
      have hA2 := Aside0.mk (hA.out.below hb)
      clear hA hb
      have hA := hA2
      clear hA2
      refine hK.out _ _ (hA.out.tail) (fun hHeld => ?_)
      clear hK K
      refine norm_ (a' := ?_) ?_ ?_
      rotate_left
      · show Act.put _ (some 80) _ = _
        simp only [Act.put, List.setIfInBounds_toArray, List.set_cons_zero, List.set_cons_succ, i64_w, i32_w]
        rfl
      refine one_ (i := 7) (N := (some 82)) #[true, true, true, true, true, true, true, true, false, false, false, false, true, false, false] rfl rfl (by kernel_rfl) (by decide) (fun K hK => ?_)
      refine goes_ Try.func14 (by kernel_rfl) rfl #[] (by rfl) rfl rfl (by (try simp only [List.map_toArray, List.map_cons, List.map_nil]); first | done | rfl) ?_
      refine (utcZone_any _).mono ?_
      rintro e wc7 ⟨rfl, hb⟩
      refine ⟨_, rfl, ?_⟩
      have hA2 := Aside0.mk (hA.out.below hb)
      clear hA hb
      have hA := hA2
      clear hA2
      refine hK.out _ _ (hA.out.tail) (fun hHeld => ?_)
      clear hK K
      refine norm_ (a' := ?_) ?_ ?_
      rotate_left
      · show Act.put _ (some 82) _ = _
        simp only [Act.put, List.setIfInBounds_toArray, List.set_cons_zero, List.set_cons_succ, i64_w, i32_w]
        rfl
      refine one_ (i := 8) (N := (some 83)) #[true, true, true, true, true, true, true, true, true, false, false, false, true, false, false] rfl rfl (by kernel_rfl) (by decide) (fun K hK => ?_)
      refine goes_ Try.func13 (by kernel_rfl) rfl #[.agg #[.bool false, .int .i64 dl, .int .u64 ((b.put kk (hiB b kk (n + 1))).s : Int), .int .u64 ((b.put kk (hiB b kk (n + 1))).i : Int), .int .u64 ((b.put kk (hiB b kk (n + 1))).h : Int), .int .u64 ((b.put kk (hiB b kk (n + 1))).d : Int), .int .u64 ((b.put kk (hiB b kk (n + 1))).m : Int), .int .u64 ((b.put kk (hiB b kk (n + 1))).w : Int)], .agg #[.int .i64 x, .int .i64 nn], .agg #[.slice none 0 0, .slice none 0 0, .slice none 0 0, .slice none 0 0]] (by rfl) rfl rfl (by (try simp only [List.map_toArray, List.map_cons, List.map_nil]); first | done | rfl) ?_
      refine (implNext_nx (b.put kk (hiB b kk (n + 1))) dl x nn _ (HW.out.put kk _ (hi_lt HW.out _ _)) HX.out.2.2.1 HX.out.2.2.2 HX.out.1 HX.out.2.1).mono ?_
      rintro e wc8 ⟨rfl, hb⟩
      refine ⟨_, rfl, ?_⟩
      have hA2 := Aside0.mk (hA.out.below hb)
      clear hA hb
      have hA := hA2
      clear hA2
      refine hK.out _ _ (hA.out.tail) (fun hHeld => ?_)
      clear hK K
      refine norm_ (a' := ?_) ?_ ?_
      rotate_left
      · show Act.put _ (some 83) _ = _
        simp only [Act.put, List.setIfInBounds_toArray, List.set_cons_zero, List.set_cons_succ, i64_w, i32_w]
        rfl
      refine pure_ (i := 9) (N := (some 74)) (v := ?_) (a' := ?_) #[true, true, true, true, true, true, true, true, true, true, false, false, true, false, false] rfl rfl (by kernel_rfl) (fun _ _ _ => only_shut) (Or.inl ⟨by rfl, ?_⟩) ?_ ?_
      rotate_left
      · intro w'
        go_simp
        with_reducible rfl
      rotate_left
      · simp only [Act.put, List.setIfInBounds_toArray, List.set_cons_zero, List.set_cons_succ, i64_w, i32_w]
        rfl
      refine pure_ (i := 10) (N := (some 84)) (v := ?_) (a' := ?_) #[true, true, true, true, true, true, true, true, true, true, true, false, true, false, false] rfl rfl (by kernel_rfl) (fun _ _ _ => only_shut) (Or.inl ⟨by rfl, ?_⟩) ?_ ?_
      rotate_left
      · intro w'
        go_simp
        with_reducible rfl
      rotate_left
      · simp only [Act.put, List.setIfInBounds_toArray, List.set_cons_zero, List.set_cons_succ, i64_w, i32_w]
        rfl
      refine pure_ (i := 11) (N := (some 85)) (v := ?_) (a' := ?_) #[true, true, true, true, true, true, true, true, true, true, true, true, true, false, false] rfl rfl (by kernel_rfl) (fun _ _ _ => only_shut) (Or.inl ⟨by rfl, ?_⟩) ?_ ?_
      rotate_left
      · intro w'
        go_simp
        with_reducible rfl
      rotate_left
      · simp only [Act.put, List.setIfInBounds_toArray, List.set_cons_zero, List.set_cons_succ, i64_w, i32_w]
        rfl
      refine one_ (i := 13) (N := none) #[true, true, true, true, true, true, true, true, true, true, true, true, true, true, false] rfl rfl (by kernel_rfl) (by decide) (fun K hK => ?_)
      refine skip_ (by rfl) rfl (exec_store_row 26 (.tmp 13) (.tmp 84) rfl g #[.int .i64 (nS (b.put kk (hiB b kk (n + 1))) x), .int .i64 0] rfl rfl 26 _ (hA.out.get 0 rfl) size26 (sz2 _ _ _ _) (one2 _ _)) ?_
      have hA2 := Aside0.mk (hA.out.row #[.int .i64 (nS (b.put kk (hiB b kk (n + 1))) x), .int .i64 0])
      clear hA
      have hA := hA2
      clear hA2
      generalize hgs : World.setRow _ _ _ = ws at hA ⊢
      clear hgs
      refine hK.out _ _ (hA.out.tail) (fun hHeld => ?_)
      clear hK K
      refine pure_ (i := 14) (N := (some 14)) (v := ?_) (a' := ?_) #[true, true, true, true, true, true, true, true, true, true, true, true, true, true, true] rfl rfl (by kernel_rfl) (fun _ _ _ => only_shut) (Or.inl ⟨by rfl, ?_⟩) ?_ ?_
      rotate_left
      · intro w'
        go_simp
        with_reducible rfl
      rotate_left
      · simp only [Act.put, List.setIfInBounds_toArray, List.set_cons_zero, List.set_cons_succ, i64_w, i32_w]
        rfl
      refine done_ (by kernel_rfl) ?_
      refine ⟨rfl, g, ?_, hA.out⟩
      simp only [putAll, Act.put, List.setIfInBounds_toArray, List.set_cons_zero, List.set_cons_succ]
  clear hI
  intro g2 wn2 hI0
  have hI := Aside0.mk hI0
  clear hI0
  simp only [putAll, Act.put, List.setIfInBounds_toArray, List.set_cons_zero, List.set_cons_succ]
  go_wp2_with fail
  refine region_split (fun g => [(87, .agg #[.bool false, .int .i64 dl, .int .u64 (b.s : Int), .int .u64 (b.i : Int), .int .u64 (b.h : Int), .int .u64 (b.d : Int), .int .u64 (b.m : Int), .int .u64 (b.w : Int)]), (88, .agg #[.int .i64 x, .int .i64 nn]), (89, .agg #[.slice none 0 0, .slice none 0 0, .slice none 0 0, .slice none 0 0]), (90, .tuple #[.agg #[.int .i64 (nS b x), .int .i64 0], .bool (nF b x)]), (86, .tuple #[.agg #[.int .i64 (nS b x), .int .i64 0], .bool (nF b x)]), (91, .agg #[.int .i64 (nS b x), .int .i64 0]), (92, .bool (nF b x)), (15, .pointer (some ⟨g, 0, none⟩)), (16, .bool (nF b x))]) (fun g w' => Blk w ((g, #[.int .i64 (nS b x), .int .i64 0], 26) :: [(g2, #[.int .i64 (nS (b.put kk (hiB b kk (n + 1))) x), .int .i64 0], 26), (g1, #[.int .i64 (nS (b.put kk (loB b kk (n + 1))) x), .int .i64 0], 26), (w.heap.size + 1, #[.int .i64 x, .int .i64 nn], 26), (w.heap.size, #[.bool false, .int .i64 dl, .int .u64 (b.s : Int), .int .u64 (b.i : Int), .int .u64 (b.h : Int), .int .u64 (b.d : Int), .int .u64 (b.m : Int), .int .u64 (b.w : Int)], 24)]) w') ?_ ?_
  · refine start_ (n := 10) (S := Blk w [(g2, #[.int .i64 (nS (b.put kk (hiB b kk (n + 1))) x), .int .i64 0], 26), (g1, #[.int .i64 (nS (b.put kk (loB b kk (n + 1))) x), .int .i64 0], 26), (w.heap.size + 1, #[.int .i64 x, .int .i64 nn], 26), (w.heap.size, #[.bool false, .int .i64 dl, .int .u64 (b.s : Int), .int .u64 (b.i : Int), .int .u64 (b.h : Int), .int .u64 (b.d : Int), .int .u64 (b.m : Int), .int .u64 (b.w : Int)], 24)]) (ds := []) #[false, false, false, false, false, false, false, false, false, false] (by kernel_rfl) rfl rfl (hI.out.drew) (fun hHeld => ?_)
    have hI2 := Aside0.mk hI.out.drew
    clear hI
    have hI := hI2
    clear hI2
    generalize hwd : World.drew _ = wd at hI hHeld ⊢
    clear hwd
    refine take_ (i := 0) (N := (some 87)) (v := ?_) (a' := ?_) #[true, false, false, false, false, false, false, false, false, false] rfl rfl (by kernel_rfl) (fun _ _ _ => only_shut) (Or.inl ⟨by rfl, ?_⟩) hHeld ?_ ?_
    rotate_left
    · intro w' hS
      refine exec_load_row 24 (.tmp 4) ?_ (w.heap.size) ?_ 24 _ _ (hS.get 3 rfl) Try.underlying24 rfl size24
      · rfl
      · rfl
    rotate_left
    · simp only [Act.put, List.setIfInBounds_toArray, List.set_cons_zero, List.set_cons_succ, i64_w, i32_w]
      rfl
    refine take_ (i := 1) (N := (some 88)) (v := ?_) (a' := ?_) #[true, true, false, false, false, false, false, false, false, false] rfl rfl (by kernel_rfl) (fun _ _ _ => only_shut) (Or.inl ⟨by rfl, ?_⟩) hHeld ?_ ?_
    rotate_left
    · intro w' hS
      refine exec_load_row 26 (.tmp 7) ?_ (w.heap.size + 1) ?_ 26 _ _ (hS.get 2 rfl) Try.underlying26 rfl size26
      · rfl
      · rfl
    rotate_left
    · simp only [Act.put, List.setIfInBounds_toArray, List.set_cons_zero, List.set_cons_succ, i64_w, i32_w]
      rfl
    refine two_ (i := 2) (j := 7) (Ni := (some 89)) (Nj := (some 15)) #[true, true, true, false, false, false, false, false, false, false] #[true, true, false, false, false, false, false, true, false, false] rfl rfl rfl rfl (by kernel_rfl) (by decide) (by decide) (fun K hK => ?_) (fun K hK => ?_)
    · refine goes_ Try.func14 (by kernel_rfl) rfl #[] (by rfl) rfl rfl (by (try simp only [List.map_toArray, List.map_cons, List.map_nil]); first | done | rfl) ?_
      refine (utcZone_any _).mono ?_
      rintro e wc2 ⟨rfl, hb⟩
      refine ⟨_, rfl, ?_⟩
      have hI2 := Aside0.mk (hI.out.below hb)
      clear hI hb
      have hI := hI2
      clear hI2
      refine hK.out _ _ (hI.out) (fun hHeld => ?_)
      clear hK K
      refine norm_ (a' := ?_) ?_ ?_
      rotate_left
      · show Act.put _ (some 89) _ = _
        simp only [Act.put, List.setIfInBounds_toArray, List.set_cons_zero, List.set_cons_succ, i64_w, i32_w]
        rfl
      refine two_ (i := 3) (j := 7) (Ni := (some 90)) (Nj := (some 15)) #[true, true, true, true, false, false, false, false, false, false] #[true, true, true, false, false, false, false, true, false, false] rfl rfl rfl rfl (by kernel_rfl) (by decide) (by decide) (fun K hK => ?_) (fun K hK => ?_)
      · refine goes_ Try.func13 (by kernel_rfl) rfl #[.agg #[.bool false, .int .i64 dl, .int .u64 (b.s : Int), .int .u64 (b.i : Int), .int .u64 (b.h : Int), .int .u64 (b.d : Int), .int .u64 (b.m : Int), .int .u64 (b.w : Int)], .agg #[.int .i64 x, .int .i64 nn], .agg #[.slice none 0 0, .slice none 0 0, .slice none 0 0, .slice none 0 0]] (by rfl) rfl rfl (by (try simp only [List.map_toArray, List.map_cons, List.map_nil]); first | done | rfl) ?_
        refine (implNext_nx b dl x nn _ HW.out HX.out.2.2.1 HX.out.2.2.2 HX.out.1 HX.out.2.1).mono ?_
        rintro e wc3 ⟨rfl, hb⟩
        refine ⟨_, rfl, ?_⟩
        have hI2 := Aside0.mk (hI.out.below hb)
        clear hI hb
        have hI := hI2
        clear hI2
        refine hK.out _ _ (hI.out) (fun hHeld => ?_)
        clear hK K
        refine norm_ (a' := ?_) ?_ ?_
        rotate_left
        · show Act.put _ (some 90) _ = _
          simp only [Act.put, List.setIfInBounds_toArray, List.set_cons_zero, List.set_cons_succ, i64_w, i32_w]
          rfl
        refine pure_ (i := 4) (N := (some 86)) (v := ?_) (a' := ?_) #[true, true, true, true, true, false, false, false, false, false] rfl rfl (by kernel_rfl) (fun _ _ _ => only_shut) (Or.inl ⟨by rfl, ?_⟩) ?_ ?_
        rotate_left
        · intro w'
          go_simp
          with_reducible rfl
        rotate_left
        · simp only [Act.put, List.setIfInBounds_toArray, List.set_cons_zero, List.set_cons_succ, i64_w, i32_w]
          rfl
        refine pure_ (i := 5) (N := (some 91)) (v := ?_) (a' := ?_) #[true, true, true, true, true, true, false, false, false, false] rfl rfl (by kernel_rfl) (fun _ _ _ => only_shut) (Or.inl ⟨by rfl, ?_⟩) ?_ ?_
        rotate_left
        · intro w'
          go_simp
          with_reducible rfl
        rotate_left
        · simp only [Act.put, List.setIfInBounds_toArray, List.set_cons_zero, List.set_cons_succ, i64_w, i32_w]
          rfl
        refine pure_ (i := 6) (N := (some 92)) (v := ?_) (a' := ?_) #[true, true, true, true, true, true, true, false, false, false] rfl rfl (by kernel_rfl) (fun _ _ _ => only_shut) (Or.inl ⟨by rfl, ?_⟩) ?_ ?_
        rotate_left
        · intro w'
          go_simp
          with_reducible rfl
        rotate_left
        · simp only [Act.put, List.setIfInBounds_toArray, List.set_cons_zero, List.set_cons_succ, i64_w, i32_w]
          rfl
        refine one_ (i := 7) (N := (some 15)) #[true, true, true, true, true, true, true, true, false, false] rfl rfl (by kernel_rfl) (by decide) (fun K hK => ?_)
        refine value_ (by rfl) rfl (alloc26 _ _ rfl _) ?_
        have hA := Aside0.mk (hI.out.alloc #[.int .i64 0, .int .i64 0] 26)
        clear hI
        generalize hga : World.alloc _ _ = wa at hA ⊢
        clear hga
        generalize hgb : wc3.heap.size = g at hA ⊢
        clear hgb
        refine hK.out _ _ (hA.out.tail) (fun hHeld => ?_)
        clear hK K
        refine norm_ (a' := ?_) ?_ ?_
        rotate_left
        · show Act.put _ (some 15) _ = _
          simp only [Act.put, List.setIfInBounds_toArray, List.set_cons_zero, List.set_cons_succ, i64_w, i32_w]
          rfl
        refine one_ (i := 8) (N := none) #[true, true, true, true, true, true, true, true, true, false] rfl rfl (by kernel_rfl) (by decide) (fun K hK => ?_)
        refine skip_ (by rfl) rfl (exec_store_row 26 (.tmp 15) (.tmp 91) rfl g #[.int .i64 (nS b x), .int .i64 0] rfl rfl 26 _ (hA.out.get 0 rfl) size26 (sz2 _ _ _ _) (one2 _ _)) ?_
        have hA2 := Aside0.mk (hA.out.row #[.int .i64 (nS b x), .int .i64 0])
        clear hA
        have hA := hA2
        clear hA2
        generalize hgs : World.setRow _ _ _ = ws at hA ⊢
        clear hgs
        refine hK.out _ _ (hA.out.tail) (fun hHeld => ?_)
        clear hK K
        refine pure_ (i := 9) (N := (some 16)) (v := ?_) (a' := ?_) #[true, true, true, true, true, true, true, true, true, true] rfl rfl (by kernel_rfl) (fun _ _ _ => only_shut) (Or.inl ⟨by rfl, ?_⟩) ?_ ?_
        rotate_left
        · intro w'
          go_simp
          with_reducible rfl
        rotate_left
        · simp only [Act.put, List.setIfInBounds_toArray, List.set_cons_zero, List.set_cons_succ, i64_w, i32_w]
          rfl
        refine done_ (by kernel_rfl) ?_
        refine ⟨rfl, g, ?_, hA.out⟩
        simp only [putAll, Act.put, List.setIfInBounds_toArray, List.set_cons_zero, List.set_cons_succ]
      · refine value_ (by rfl) rfl (alloc26 _ _ rfl _) ?_
        have hA := Aside0.mk (hI.out.alloc #[.int .i64 0, .int .i64 0] 26)
        clear hI
        generalize hga : World.alloc _ _ = wa at hA ⊢
        clear hga
        generalize hgb : wc2.heap.size = g at hA ⊢
        clear hgb
        refine hK.out _ _ (hA.out.tail) (fun hHeld => ?_)
        clear hK K
        refine norm_ (a' := ?_) ?_ ?_
        rotate_left
        · show Act.put _ (some 15) _ = _
          simp only [Act.put, List.setIfInBounds_toArray, List.set_cons_zero, List.set_cons_succ, i64_w, i32_w]
          rfl
        refine one_ (i := 3) (N := (some 90)) #[true, true, true, true, false, false, false, true, false, false] rfl rfl (by kernel_rfl) (by decide) (fun K hK => ?_)
        refine goes_ Try.func13 (by kernel_rfl) rfl #[.agg #[.bool false, .int .i64 dl, .int .u64 (b.s : Int), .int .u64 (b.i : Int), .int .u64 (b.h : Int), .int .u64 (b.d : Int), .int .u64 (b.m : Int), .int .u64 (b.w : Int)], .agg #[.int .i64 x, .int .i64 nn], .agg #[.slice none 0 0, .slice none 0 0, .slice none 0 0, .slice none 0 0]] (by rfl) rfl rfl (by (try simp only [List.map_toArray, List.map_cons, List.map_nil]); first | done | rfl) ?_
        refine (implNext_nx b dl x nn _ HW.out HX.out.2.2.1 HX.out.2.2.2 HX.out.1 HX.out.2.1).mono ?_
        rintro e wc3 ⟨rfl, hb⟩
        refine ⟨_, rfl, ?_⟩
        have hA2 := Aside0.mk (hA.out.below hb)
        clear hA hb
        have hA := hA2
        clear hA2
        refine hK.out _ _ (hA.out.tail) (fun hHeld => ?_)
        clear hK K
        refine norm_ (a' := ?_) ?_ ?_
        rotate_left
        · show Act.put _ (some 90) _ = _
          simp only [Act.put, List.setIfInBounds_toArray, List.set_cons_zero, List.set_cons_succ, i64_w, i32_w]
          rfl
        refine pure_ (i := 4) (N := (some 86)) (v := ?_) (a' := ?_) #[true, true, true, true, true, false, false, true, false, false] rfl rfl (by kernel_rfl) (fun _ _ _ => only_shut) (Or.inl ⟨by rfl, ?_⟩) ?_ ?_
        rotate_left
        · intro w'
          go_simp
          with_reducible rfl
        rotate_left
        · simp only [Act.put, List.setIfInBounds_toArray, List.set_cons_zero, List.set_cons_succ, i64_w, i32_w]
          rfl
        refine pure_ (i := 5) (N := (some 91)) (v := ?_) (a' := ?_) #[true, true, true, true, true, true, false, true, false, false] rfl rfl (by kernel_rfl) (fun _ _ _ => only_shut) (Or.inl ⟨by rfl, ?_⟩) ?_ ?_
        rotate_left
        · intro w'
          go_simp
          with_reducible rfl
        rotate_left
        · simp only [Act.put, List.setIfInBounds_toArray, List.set_cons_zero, List.set_cons_succ, i64_w, i32_w]
          rfl
        refine pure_ (i := 6) (N := (some 92)) (v := ?_) (a' := ?_) #[true, true, true, true, true, true, true, true, false, false] rfl rfl (by kernel_rfl) (fun _ _ _ => only_shut) (Or.inl ⟨by rfl, ?_⟩) ?_ ?_
        rotate_left
        · intro w'
          go_simp
          with_reducible rfl
        rotate_left
        · simp only [Act.put, List.setIfInBounds_toArray, List.set_cons_zero, List.set_cons_succ, i64_w, i32_w]
          rfl
        refine one_ (i := 8) (N := none) #[true, true, true, true, true, true, true, true, true, false] rfl rfl (by kernel_rfl) (by decide) (fun K hK => ?_)
        refine skip_ (by rfl) rfl (exec_store_row 26 (.tmp 15) (.tmp 91) rfl g #[.int .i64 (nS b x), .int .i64 0] rfl rfl 26 _ (hA.out.get 0 rfl) size26 (sz2 _ _ _ _) (one2 _ _)) ?_
        have hA2 := Aside0.mk (hA.out.row #[.int .i64 (nS b x), .int .i64 0])
        clear hA
        have hA := hA2
        clear hA2
        generalize hgs : World.setRow _ _ _ = ws at hA ⊢
        clear hgs
        refine hK.out _ _ (hA.out.tail) (fun hHeld => ?_)
        clear hK K
        refine pure_ (i := 9) (N := (some 16)) (v := ?_) (a' := ?_) #[true, true, true, true, true, true, true, true, true, true] rfl rfl (by kernel_rfl) (fun _ _ _ => only_shut) (Or.inl ⟨by rfl, ?_⟩) ?_ ?_
        rotate_left
        · intro w'
          go_simp
          with_reducible rfl
        rotate_left
        · simp only [Act.put, List.setIfInBounds_toArray, List.set_cons_zero, List.set_cons_succ, i64_w, i32_w]
          rfl
        refine done_ (by kernel_rfl) ?_
        refine ⟨rfl, g, ?_, hA.out⟩
        simp only [putAll, Act.put, List.setIfInBounds_toArray, List.set_cons_zero, List.set_cons_succ]
    · refine value_ (by rfl) rfl (alloc26 _ _ rfl _) ?_
      have hA := Aside0.mk (hI.out.alloc #[.int .i64 0, .int .i64 0] 26)
      clear hI
      generalize hga : World.alloc _ _ = wa at hA ⊢
      clear hga
      generalize hgb : wd.heap.size = g at hA ⊢
      clear hgb
      refine hK.out _ _ (hA.out.tail) (fun hHeld => ?_)
      clear hK K
      refine norm_ (a' := ?_) ?_ ?_
      rotate_left
      · show Act.put _ (some 15) _ = _
        simp only [Act.put, List.setIfInBounds_toArray, List.set_cons_zero, List.set_cons_succ, i64_w, i32_w]
        rfl
      refine one_ (i := 2) (N := (some 89)) #[true, true, true, false, false, false, false, true, false, false] rfl rfl (by kernel_rfl) (by decide) (fun K hK => ?_)
      refine goes_ Try.func14 (by kernel_rfl) rfl #[] (by rfl) rfl rfl (by (try simp only [List.map_toArray, List.map_cons, List.map_nil]); first | done | rfl) ?_
      refine (utcZone_any _).mono ?_
      rintro e wc2 ⟨rfl, hb⟩
      refine ⟨_, rfl, ?_⟩
      have hA2 := Aside0.mk (hA.out.below hb)
      clear hA hb
      have hA := hA2
      clear hA2
      refine hK.out _ _ (hA.out.tail) (fun hHeld => ?_)
      clear hK K
      refine norm_ (a' := ?_) ?_ ?_
      rotate_left
      · show Act.put _ (some 89) _ = _
        simp only [Act.put, List.setIfInBounds_toArray, List.set_cons_zero, List.set_cons_succ, i64_w, i32_w]
        rfl
      refine one_ (i := 3) (N := (some 90)) #[true, true, true, true, false, false, false, true, false, false] rfl rfl (by kernel_rfl) (by decide) (fun K hK => ?_)
      refine goes_ Try.func13 (by kernel_rfl) rfl #[.agg #[.bool false, .int .i64 dl, .int .u64 (b.s : Int), .int .u64 (b.i : Int), .int .u64 (b.h : Int), .int .u64 (b.d : Int), .int .u64 (b.m : Int), .int .u64 (b.w : Int)], .agg #[.int .i64 x, .int .i64 nn], .agg #[.slice none 0 0, .slice none 0 0, .slice none 0 0, .slice none 0 0]] (by rfl) rfl rfl (by (try simp only [List.map_toArray, List.map_cons, List.map_nil]); first | done | rfl) ?_
      refine (implNext_nx b dl x nn _ HW.out HX.out.2.2.1 HX.out.2.2.2 HX.out.1 HX.out.2.1).mono ?_
      rintro e wc3 ⟨rfl, hb⟩
      refine ⟨_, rfl, ?_⟩
      have hA2 := Aside0.mk (hA.out.below hb)
      clear hA hb
      have hA := hA2
      clear hA2
      refine hK.out _ _ (hA.out.tail) (fun hHeld => ?_)
      clear hK K
      refine norm_ (a' := ?_) ?_ ?_
      rotate_left
      · show Act.put _ (some 90) _ = _
        simp only [Act.put, List.setIfInBounds_toArray, List.set_cons_zero, List.set_cons_succ, i64_w, i32_w]
        rfl
      refine pure_ (i := 4) (N := (some 86)) (v := ?_) (a' := ?_) #[true, true, true, true, true, false, false, true, false, false] rfl rfl (by kernel_rfl) (fun _ _ _ => only_shut) (Or.inl ⟨by rfl, ?_⟩) ?_ ?_
      rotate_left
      · intro w'
        go_simp
        with_reducible rfl
      rotate_left
      · simp only [Act.put, List.setIfInBounds_toArray, List.set_cons_zero, List.set_cons_succ, i64_w, i32_w]
        rfl
      refine pure_ (i := 5) (N := (some 91)) (v := ?_) (a' := ?_) #[true, true, true, true, true, true, false, true, false, false] rfl rfl (by kernel_rfl) (fun _ _ _ => only_shut) (Or.inl ⟨by rfl, ?_⟩) ?_ ?_
      rotate_left
      · intro w'
        go_simp
        with_reducible rfl
      rotate_left
      · simp only [Act.put, List.setIfInBounds_toArray, List.set_cons_zero, List.set_cons_succ, i64_w, i32_w]
        rfl
      refine pure_ (i := 6) (N := (some 92)) (v := ?_) (a' := ?_) #[true, true, true, true, true, true, true, true, false, false] rfl rfl (by kernel_rfl) (fun _ _ _ => only_shut) (Or.inl ⟨by rfl, ?_⟩) ?_ ?_
      rotate_left
      · intro w'
        go_simp
        with_reducible rfl
      rotate_left
      · simp only [Act.put, List.setIfInBounds_toArray, List.set_cons_zero, List.set_cons_succ, i64_w, i32_w]
        rfl
      refine one_ (i := 8) (N := none) #[true, true, true, true, true, true, true, true, true, false] rfl rfl (by kernel_rfl) (by decide) (fun K hK => ?_)
      refine skip_ (by rfl) rfl (exec_store_row 26 (.tmp 15) (.tmp 91) rfl g #[.int .i64 (nS b x), .int .i64 0] rfl rfl 26 _ (hA.out.get 0 rfl) size26 (sz2 _ _ _ _) (one2 _ _)) ?_
      have hA2 := Aside0.mk (hA.out.row #[.int .i64 (nS b x), .int .i64 0])
      clear hA
      have hA := hA2
      clear hA2
      generalize hgs : World.setRow _ _ _ = ws at hA ⊢
      clear hgs
      refine hK.out _ _ (hA.out.tail) (fun hHeld => ?_)
      clear hK K
      refine pure_ (i := 9) (N := (some 16)) (v := ?_) (a' := ?_) #[true, true, true, true, true, true, true, true, true, true] rfl rfl (by kernel_rfl) (fun _ _ _ => only_shut) (Or.inl ⟨by rfl, ?_⟩) ?_ ?_
      rotate_left
      · intro w'
        go_simp
        with_reducible rfl
      rotate_left
      · simp only [Act.put, List.setIfInBounds_toArray, List.set_cons_zero, List.set_cons_succ, i64_w, i32_w]
        rfl
      refine done_ (by kernel_rfl) ?_
      refine ⟨rfl, g, ?_, hA.out⟩
      simp only [putAll, Act.put, List.setIfInBounds_toArray, List.set_cons_zero, List.set_cons_succ]
  clear hI
  intro g3 wn3 hI0
  have hI := Aside0.mk hI0
  clear hI0
  simp only [putAll, Act.put, List.setIfInBounds_toArray, List.set_cons_zero, List.set_cons_succ]
  go_wp2_with (first | ((with_reducible refine wpList_isCons ?_); refine wpList_load_row rfl 26 (.tmp 11) rfl (g1) rfl 26 _ (0, 0) _ (hI.out.get 2 rfl) Try.underlying26 rfl size26 ?_) | ((with_reducible refine wpList_isCons ?_); refine wpList_load_row rfl 26 (.tmp 13) rfl (g2) rfl 26 _ (0, 0) _ (hI.out.get 1 rfl) Try.underlying26 rfl size26 ?_) | (go_at_call 22; (with_reducible refine (laws_cronEarlier.calls _ _ _ _ _ _ _ _ _ _ HE.out).mono ?_); rintro e we ⟨rfl, hb⟩; have hI2 := Aside0.mk (hI.out.below hb); clear hI hb; have hI := hI2; clear hI2))
  have hI2 := Aside0.mk (hI.out.alloc #[.int .i64 (nS b x), .int .i64 0] 26)
  clear hI
  have hI := hI2
  clear hI2
  generalize hga : World.alloc _ _ = wea at hI ⊢
  clear hga
  generalize hgb : we.heap.size = g4 at hI ⊢
  clear hgb
  go_wp2_with fail
  clear HE
  have HN0 : Aside0 (nF b x = false → ∀ w', Calls Try.prog 15 #[.agg #[.bool false, .int .i64 dl, .int .u64 (b.s : Int), .int .u64 (b.i : Int), .int .u64 (b.h : Int), .int .u64 (b.d : Int), .int .u64 (b.m : Int), .int .u64 (b.w : Int)], .agg #[.int .i64 x, .int .i64 nn], .agg #[.slice none 0 0, .slice none 0 0, .slice none 0 0, .slice none 0 0]] w' fun e w'' => e = .returned (.bool true) ∧ Below w'.heap.size w' w'') := ⟨fun h w' => by
    have := none_any b dl x nn w' HW.out HX.out.1 HX.out.2.1
    rw [h] at this
    exact this⟩
  have HA := Aside0.mk (split_any b kk (n + 1) HKK.out.1 HKK.out.2 x)
  have HD := Aside0.mk (split_ne b kk (n + 1) HKK.out.1 HKK.out.2 x)
  generalize nS (b.put kk (loB b kk (n + 1))) x = v1 at hI HD ⊢
  generalize nF (b.put kk (loB b kk (n + 1))) x = q1 at HA HD ⊢
  generalize nS (b.put kk (hiB b kk (n + 1))) x = v2 at hI HD ⊢
  generalize nF (b.put kk (hiB b kk (n + 1))) x = q2 at HA HD ⊢
  generalize nS b x = v3 at hI ⊢
  generalize nF b x = q3 at HA HD HN0 ⊢
  cases q1
  · cases q2
    · obtain rfl : q3 = false := HA.out
      have HN := Aside0.mk (HN0.out rfl)
      clear HA HD HN0
      refine start_ (n := 31) (S := Blk w [(g4, #[.int .i64 v3, .int .i64 0], 26), (g3, #[.int .i64 v3, .int .i64 0], 26), (g2, #[.int .i64 v2, .int .i64 0], 26), (g1, #[.int .i64 v1, .int .i64 0], 26), (w.heap.size + 1, #[.int .i64 x, .int .i64 nn], 26), (w.heap.size, #[.bool false, .int .i64 dl, .int .u64 (b.s : Int), .int .u64 (b.i : Int), .int .u64 (b.h : Int), .int .u64 (b.d : Int), .int .u64 (b.m : Int), .int .u64 (b.w : Int)], 24)]) (ds := []) #[false, false, false, false, false, false, false, false, false, false, false, false, false, false, false, false, false, false, false, false, false, false, false, false, false, false, false, false, false, false, false] (by kernel_rfl) rfl rfl (hI.out.drew) (fun hHeld => ?_)
      have hI2 := Aside0.mk hI.out.drew
      clear hI
      have hI := hI2
      clear hI2
      generalize hwd : World.drew _ = wd at hI hHeld ⊢
      clear hwd
      refine pure_ (i := 0) (N := (some 101)) (v := ?_) (a' := ?_) #[true, false, false, false, false, false, false, false, false, false, false, false, false, false, false, false, false, false, false, false, false, false, false, false, false, false, false, false, false, false, false] rfl rfl (by kernel_rfl) (fun _ _ _ h => h) (Or.inl ⟨by rfl, ?_⟩) ?_ ?_
      rotate_left
      · intro w'
        go_simp
        with_reducible rfl
      rotate_left
      · simp only [Act.put, List.setIfInBounds_toArray, List.set_cons_zero, List.set_cons_succ, i64_w, i32_w]
        rfl
      refine pure_ (i := 1) (N := (some 102)) (v := ?_) (a' := ?_) #[true, true, false, false, false, false, false, false, false, false, false, false, false, false, false, false, false, false, false, false, false, false, false, false, false, false, false, false, false, false, false] rfl rfl (by kernel_rfl) (fun _ _ _ h => h) (Or.inl ⟨by rfl, ?_⟩) ?_ ?_
      rotate_left
      · intro w'
        go_simp
        with_reducible rfl
      rotate_left
      · simp only [Act.put, List.setIfInBounds_toArray, List.set_cons_zero, List.set_cons_succ, i64_w, i32_w]
        rfl
      refine pure_ (i := 2) (N := (some 103)) (v := ?_) (a' := ?_) #[true, true, true, false, false, false, false, false, false, false, false, false, false, false, false, false, false, false, false, false, false, false, false, false, false, false, false, false, false, false, false] rfl rfl (by kernel_rfl) (fun _ _ _ h => h) (Or.inl ⟨by rfl, ?_⟩) ?_ ?_
      rotate_left
      · intro w'
        go_simp
        with_reducible rfl
      rotate_left
      · simp only [Act.put, List.setIfInBounds_toArray, List.set_cons_zero, List.set_cons_succ, i64_w, i32_w]
        rfl
      refine pure_ (i := 3) (N := (some 104)) (v := ?_) (a' := ?_) #[true, true, true, true, false, false, false, false, false, false, false, false, false, false, false, false, false, false, false, false, false, false, false, false, false, false, false, false, false, false, false] rfl rfl (by kernel_rfl) (fun _ _ _ h => h) (Or.inl ⟨by rfl, ?_⟩) ?_ ?_
      rotate_left
      · intro w'
        go_simp
        with_reducible rfl
      rotate_left
      · simp only [Act.put, List.setIfInBounds_toArray, List.set_cons_zero, List.set_cons_succ, i64_w, i32_w]
        rfl
      refine take_ (i := 4) (N := (some 105)) (v := ?_) (a' := ?_) #[true, true, true, true, true, false, false, false, false, false, false, false, false, false, false, false, false, false, false, false, false, false, false, false, false, false, false, false, false, false, false] rfl rfl (by kernel_rfl) (fun _ _ _ h => h) (Or.inl ⟨by rfl, ?_⟩) hHeld ?_ ?_
      rotate_left
      · intro w' hS
        refine exec_load_row 26 (.tmp 15) ?_ g3 ?_ 26 _ _ (hS.get 1 rfl) Try.underlying26 rfl size26
        · rfl
        · rfl
      rotate_left
      · simp only [Act.put, List.setIfInBounds_toArray, List.set_cons_zero, List.set_cons_succ, i64_w, i32_w]
        rfl
      refine take_ (i := 5) (N := (some 106)) (v := ?_) (a' := ?_) #[true, true, true, true, true, true, false, false, false, false, false, false, false, false, false, false, false, false, false, false, false, false, false, false, false, false, false, false, false, false, false] rfl rfl (by kernel_rfl) (fun _ _ _ h => h) (Or.inl ⟨by rfl, ?_⟩) hHeld ?_ ?_
      rotate_left
      · intro w' hS
        refine exec_load_row 26 (.tmp 17) ?_ g4 ?_ 26 _ _ (hS.get 0 rfl) Try.underlying26 rfl size26
        · rfl
        · rfl
      rotate_left
      · simp only [Act.put, List.setIfInBounds_toArray, List.set_cons_zero, List.set_cons_succ, i64_w, i32_w]
        rfl
      refine pure_ (i := 6) (N := (some 107)) (v := ?_) (a' := ?_) #[true, true, true, true, true, true, true, false, false, false, false, false, false, false, false, false, false, false, false, false, false, false, false, false, false, false, false, false, false, false, false] rfl rfl (by kernel_rfl) (fun _ _ _ h => h) (Or.inl ⟨by rfl, ?_⟩) ?_ ?_
      rotate_left
      · intro w'
        go_simp
        with_reducible rfl
      rotate_left
      · simp only [Act.put, List.setIfInBounds_toArray, List.set_cons_zero, List.set_cons_succ, i64_w, i32_w]
        rfl
      refine pure_ (i := 7) (N := (some 108)) (v := ?_) (a' := ?_) #[true, true, true, true, true, true, true, true, false, false, false, false, false, false, false, false, false, false, false, false, false, false, false, false, false, false, false, false, false, false, false] rfl rfl (by kernel_rfl) (fun _ _ _ h => h) (Or.inl ⟨by rfl, ?_⟩) ?_ ?_
      rotate_left
      · intro w'
        go_simp
        with_reducible rfl
      rotate_left
      · simp only [Act.put, List.setIfInBounds_toArray, List.set_cons_zero, List.set_cons_succ, i64_w, i32_w]
        rfl
      refine pure_ (i := 8) (N := (some 109)) (v := ?_) (a' := ?_) #[true, true, true, true, true, true, true, true, true, false, false, false, false, false, false, false, false, false, false, false, false, false, false, false, false, false, false, false, false, false, false] rfl rfl (by kernel_rfl) (fun _ _ _ h => h) (Or.inl ⟨by rfl, ?_⟩) ?_ ?_
      rotate_left
      · intro w'
        go_simp
        with_reducible rfl
      rotate_left
      · simp only [Act.put, List.setIfInBounds_toArray, List.set_cons_zero, List.set_cons_succ, i64_w, i32_w]
        rfl
      refine pure_ (i := 9) (N := (some 110)) (v := ?_) (a' := ?_) #[true, true, true, true, true, true, true, true, true, true, false, false, false, false, false, false, false, false, false, false, false, false, false, false, false, false, false, false, false, false, false] rfl rfl (by kernel_rfl) (fun _ _ _ h => h) (Or.inl ⟨by rfl, ?_⟩) ?_ ?_
      rotate_left
      · intro w'
        go_simp
        with_reducible rfl
      rotate_left
      · simp only [Act.put, List.setIfInBounds_toArray, List.set_cons_zero, List.set_cons_succ, i64_w, i32_w]
        rfl
      refine pure_ (i := 10) (N := (some 111)) (v := ?_) (a' := ?_) #[true, true, true, true, true, true, true, true, true, true, true, false, false, false, false, false, false, false, false, false, false, false, false, false, false, false, false, false, false, false, false] rfl rfl (by kernel_rfl) (fun _ _ _ h => h) (Or.inl ⟨by rfl, ?_⟩) ?_ ?_
      rotate_left
      · intro w'
        go_simp
        with_reducible rfl
      rotate_left
      · simp only [Act.put, List.setIfInBounds_toArray, List.set_cons_zero, List.set_cons_succ, i64_w, i32_w]
        rfl
      refine pure_ (i := 11) (N := (some 112)) (v := ?_) (a' := ?_) #[true, true, true, true, true, true, true, true, true, true, true, true, false, false, false, false, false, false, false, false, false, false, false, false, false, false, false, false, false, false, false] rfl rfl (by kernel_rfl) (fun _ _ _ h => h) (Or.inl ⟨by rfl, ?_⟩) ?_ ?_
      rotate_left
      · intro w'
        go_simp
        with_reducible rfl
      rotate_left
      · simp only [Act.put, List.setIfInBounds_toArray, List.set_cons_zero, List.set_cons_succ, i64_w, i32_w]
        rfl
      refine pure_ (i := 12) (N := (some 113)) (v := undef) (a' := ?_) #[true, true, true, true, true, true, true, true, true, true, true, true, true, false, false, false, false, false, false, false, false, false, false, false, false, false, false, false, false, false, false] rfl rfl (by kernel_rfl) (fun _ _ _ h => h) (Or.inr ⟨by rfl, rfl⟩) ?_ ?_
      rotate_left
      · simp only [Act.put, List.setIfInBounds_toArray, List.set_cons_zero, List.set_cons_succ, i64_w, i32_w]
        rfl
      refine pure_ (i := 13) (N := (some 114)) (v := undef) (a' := ?_) #[true, true, true, true, true, true, true, true, true, true, true, true, true, true, false, false, false, false, false, false, false, false, false, false, false, false, false, false, false, false, false] rfl rfl (by kernel_rfl) (fun _ _ _ h => h) (Or.inr ⟨by rfl, rfl⟩) ?_ ?_
      rotate_left
      · simp only [Act.put, List.setIfInBounds_toArray, List.set_cons_zero, List.set_cons_succ, i64_w, i32_w]
        rfl
      refine pure_ (i := 14) (N := (some 115)) (v := ?_) (a' := ?_) #[true, true, true, true, true, true, true, true, true, true, true, true, true, true, true, false, false, false, false, false, false, false, false, false, false, false, false, false, false, false, false] rfl rfl (by kernel_rfl) (fun _ _ _ h => h) (Or.inl ⟨by rfl, ?_⟩) ?_ ?_
      rotate_left
      · intro w'
        go_simp
        with_reducible rfl
      rotate_left
      · simp only [Act.put, List.setIfInBounds_toArray, List.set_cons_zero, List.set_cons_succ, i64_w, i32_w]
        rfl
      refine pure_ (i := 15) (N := (some 116)) (v := ?_) (a' := ?_) #[true, true, true, true, true, true, true, true, true, true, true, true, true, true, true, true, false, false, false, false, false, false, false, false, false, false, false, false, false, false, false] rfl rfl (by kernel_rfl) (fun _ _ _ h => h) (Or.inl ⟨by rfl, ?_⟩) ?_ ?_
      rotate_left
      · intro w'
        go_simp
        with_reducible rfl
      rotate_left
      · simp only [Act.put, List.setIfInBounds_toArray, List.set_cons_zero, List.set_cons_succ, i64_w, i32_w]
        rfl
      refine take_ (i := 16) (N := (some 117)) (v := undef) (a' := ?_) #[true, true, true, true, true, true, true, true, true, true, true, true, true, true, true, true, true, false, false, false, false, false, false, false, false, false, false, false, false, false, false] rfl rfl (by kernel_rfl) (fun _ _ _ h => h) (Or.inr ⟨by rfl, rfl⟩) hHeld ?_ ?_
      rotate_left
      · simp only [Act.put, List.setIfInBounds_toArray, List.set_cons_zero, List.set_cons_succ, i64_w, i32_w]
        rfl
      refine take_ (i := 17) (N := (some 118)) (v := undef) (a' := ?_) #[true, true, true, true, true, true, true, true, true, true, true, true, true, true, true, true, true, true, false, false, false, false, false, false, false, false, false, false, false, false, false] rfl rfl (by kernel_rfl) (fun _ _ _ h => h) (Or.inr ⟨by rfl, rfl⟩) hHeld ?_ ?_
      rotate_left
      · simp only [Act.put, List.setIfInBounds_toArray, List.set_cons_zero, List.set_cons_succ, i64_w, i32_w]
        rfl
      refine pure_ (i := 18) (N := (some 119)) (v := undef) (a' := ?_) #[true, true, true, true, true, true, true, true, true, true, true, true, true, true, true, true, true, true, true, false, false, false, false, false, false, false, false, false, false, false, false] rfl rfl (by kernel_rfl) (fun _ _ _ h => h) (Or.inr ⟨by rfl, rfl⟩) ?_ ?_
      rotate_left
      · simp only [Act.put, List.setIfInBounds_toArray, List.set_cons_zero, List.set_cons_succ, i64_w, i32_w]
        rfl
      refine pure_ (i := 19) (N := (some 120)) (v := ?_) (a' := ?_) #[true, true, true, true, true, true, true, true, true, true, true, true, true, true, true, true, true, true, true, true, false, false, false, false, false, false, false, false, false, false, false] rfl rfl (by kernel_rfl) (fun _ _ _ h => h) (Or.inl ⟨by rfl, ?_⟩) ?_ ?_
      rotate_left
      · intro w'
        go_simp
        with_reducible rfl
      rotate_left
      · simp only [Act.put, List.setIfInBounds_toArray, List.set_cons_zero, List.set_cons_succ, i64_w, i32_w]
        rfl
      refine pure_ (i := 20) (N := (some 121)) (v := ?_) (a' := ?_) #[true, true, true, true, true, true, true, true, true, true, true, true, true, true, true, true, true, true, true, true, true, false, false, false, false, false, false, false, false, false, false] rfl rfl (by kernel_rfl) (fun _ _ _ h => h) (Or.inl ⟨by rfl, ?_⟩) ?_ ?_
      rotate_left
      · intro w'
        go_simp
        with_reducible rfl
      rotate_left
      · simp only [Act.put, List.setIfInBounds_toArray, List.set_cons_zero, List.set_cons_succ, i64_w, i32_w]
        rfl
      refine pure_ (i := 21) (N := (some 122)) (v := ?_) (a' := ?_) #[true, true, true, true, true, true, true, true, true, true, true, true, true, true, true, true, true, true, true, true, true, true, false, false, false, false, false, false, false, false, false] rfl rfl (by kernel_rfl) (fun _ _ _ h => h) (Or.inl ⟨by rfl, ?_⟩) ?_ ?_
      rotate_left
      · intro w'
        go_simp
        with_reducible rfl
      rotate_left
      · simp only [Act.put, List.setIfInBounds_toArray, List.set_cons_zero, List.set_cons_succ, i64_w, i32_w]
        rfl
      refine pure_ (i := 22) (N := (some 123)) (v := ?_) (a' := ?_) #[true, true, true, true, true, true, true, true, true, true, true, true, true, true, true, true, true, true, true, true, true, true, true, false, false, false, false, false, false, false, false] rfl rfl (by kernel_rfl) (fun _ _ _ h => h) (Or.inl ⟨by rfl, ?_⟩) ?_ ?_
      rotate_left
      · intro w'
        go_simp
        with_reducible rfl
      rotate_left
      · simp only [Act.put, List.setIfInBounds_toArray, List.set_cons_zero, List.set_cons_succ, i64_w, i32_w]
        rfl
      refine pure_ (i := 23) (N := (some 124)) (v := ?_) (a' := ?_) #[true, true, true, true, true, true, true, true, true, true, true, true, true, true, true, true, true, true, true, true, true, true, true, true, false, false, false, false, false, false, false] rfl rfl (by kernel_rfl) (fun _ _ _ h => h) (Or.inl ⟨by rfl, ?_⟩) ?_ ?_
      rotate_left
      · intro w'
        go_simp
        with_reducible rfl
      rotate_left
      · simp only [Act.put, List.setIfInBounds_toArray, List.set_cons_zero, List.set_cons_succ, i64_w, i32_w]
        rfl
      refine take_ (i := 24) (N := (some 125)) (v := ?_) (a' := ?_) #[true, true, true, true, true, true, true, true, true, true, true, true, true, true, true, true, true, true, true, true, true, true, true, true, true, false, false, false, false, false, false] rfl rfl (by kernel_rfl) (fun _ _ _ h => h) (Or.inl ⟨by rfl, ?_⟩) hHeld ?_ ?_
      rotate_left
      · intro w' hS
        refine exec_load_row 24 (.tmp 4) ?_ (w.heap.size) ?_ 24 _ _ (hS.get 5 rfl) Try.underlying24 rfl size24
        · rfl
        · rfl
      rotate_left
      · simp only [Act.put, List.setIfInBounds_toArray, List.set_cons_zero, List.set_cons_succ, i64_w, i32_w]
        rfl
      refine take_ (i := 25) (N := (some 126)) (v := ?_) (a' := ?_) #[true, true, true, true, true, true, true, true, true, true, true, true, true, true, true, true, true, true, true, true, true, true, true, true, true, true, false, false, false, false, false] rfl rfl (by kernel_rfl) (fun _ _ _ h => h) (Or.inl ⟨by rfl, ?_⟩) hHeld ?_ ?_
      rotate_left
      · intro w' hS
        refine exec_load_row 26 (.tmp 7) ?_ (w.heap.size + 1) ?_ 26 _ _ (hS.get 4 rfl) Try.underlying26 rfl size26
        · rfl
        · rfl
      rotate_left
      · simp only [Act.put, List.setIfInBounds_toArray, List.set_cons_zero, List.set_cons_succ, i64_w, i32_w]
        rfl
      refine one_ (i := 26) (N := (some 127)) #[true, true, true, true, true, true, true, true, true, true, true, true, true, true, true, true, true, true, true, true, true, true, true, true, true, true, true, false, false, false, false] rfl rfl (by kernel_rfl) (by decide) (fun K hK => ?_)
      refine goes_ Try.func14 (by kernel_rfl) rfl #[] (by rfl) rfl rfl (by (try simp only [List.map_toArray, List.map_cons, List.map_nil]); first | done | rfl) ?_
      refine (utcZone_any _).mono ?_
      rintro e w26 ⟨rfl, hb⟩
      refine ⟨_, rfl, ?_⟩
      have hI2 := Aside0.mk (hI.out.below hb)
      clear hI hb
      have hI := hI2
      clear hI2
      refine hK.out _ _ (hI.out) (fun hHeld => ?_)
      clear hK K
      refine norm_ (a' := ?_) ?_ ?_
      rotate_left
      · show Act.put _ (some 127) _ = _
        simp only [Act.put, List.setIfInBounds_toArray, List.set_cons_zero, List.set_cons_succ, i64_w, i32_w]
        rfl
      refine one_ (i := 27) (N := (some 128)) #[true, true, true, true, true, true, true, true, true, true, true, true, true, true, true, true, true, true, true, true, true, true, true, true, true, true, true, true, false, false, false] rfl rfl (by kernel_rfl) (by decide) (fun K hK => ?_)
      refine goes_ Try.func15 (by kernel_rfl) rfl #[.agg #[.bool false, .int .i64 dl, .int .u64 (b.s : Int), .int .u64 (b.i : Int), .int .u64 (b.h : Int), .int .u64 (b.d : Int), .int .u64 (b.m : Int), .int .u64 (b.w : Int)], .agg #[.int .i64 x, .int .i64 nn], .agg #[.slice none 0 0, .slice none 0 0, .slice none 0 0, .slice none 0 0]] (by rfl) rfl rfl (by (try simp only [List.map_toArray, List.map_cons, List.map_nil]); first | done | rfl) ?_
      refine (HN.out _).mono ?_
      rintro e w27 ⟨rfl, hb⟩
      refine ⟨_, rfl, ?_⟩
      have hI2 := Aside0.mk (hI.out.below hb)
      clear hI hb
      have hI := hI2
      clear hI2
      refine hK.out _ _ (hI.out) (fun hHeld => ?_)
      clear hK K
      refine norm_ (a' := ?_) ?_ ?_
      rotate_left
      · show Act.put _ (some 128) _ = _
        simp only [Act.put, List.setIfInBounds_toArray, List.set_cons_zero, List.set_cons_succ, i64_w, i32_w]
        rfl
      refine pure_ (i := 28) (N := (some 129)) (v := ?_) (a' := ?_) #[true, true, true, true, true, true, true, true, true, true, true, true, true, true, true, true, true, true, true, true, true, true, true, true, true, true, true, true, true, false, false] rfl rfl (by kernel_rfl) (fun _ _ _ h => h) (Or.inl ⟨by rfl, ?_⟩) ?_ ?_
      rotate_left
      · intro w'
        go_simp
        with_reducible rfl
      rotate_left
      · simp only [Act.put, List.setIfInBounds_toArray, List.set_cons_zero, List.set_cons_succ, i64_w, i32_w]
        rfl
      refine pure_ (i := 29) (N := (some 130)) (v := ?_) (a' := ?_) #[true, true, true, true, true, true, true, true, true, true, true, true, true, true, true, true, true, true, true, true, true, true, true, true, true, true, true, true, true, true, false] rfl rfl (by kernel_rfl) (fun _ _ _ h => h) (Or.inl ⟨by rfl, ?_⟩) ?_ ?_
      rotate_left
      · intro w'
        go_simp
        with_reducible rfl
      rotate_left
      · simp only [Act.put, List.setIfInBounds_toArray, List.set_cons_zero, List.set_cons_succ, i64_w, i32_w]
        rfl
      refine pure_ (i := 30) (N := (some 8)) (v := ?_) (a' := ?_) #[true, true, true, true, true, true, true, true, true, true, true, true, true, true, true, true, true, true, true, true, true, true, true, true, true, true, true, true, true, true, true] rfl rfl (by kernel_rfl) (fun _ _ _ h => h) (Or.inl ⟨by rfl, ?_⟩) ?_ ?_
      rotate_left
      · intro w'
        go_simp
        with_reducible rfl
      rotate_left
      · simp only [Act.put, List.setIfInBounds_toArray, List.set_cons_zero, List.set_cons_succ, i64_w, i32_w]
        rfl
      refine done_ (by kernel_rfl) ?_
      go_wp2_with fail
      go_ret
      exact ⟨rfl, hI.out.B⟩
    · obtain rfl : q3 = true := HA.out
      clear HA HD HN0
      refine start_ (n := 31) (S := Blk w [(g4, #[.int .i64 v3, .int .i64 0], 26), (g3, #[.int .i64 v3, .int .i64 0], 26), (g2, #[.int .i64 v2, .int .i64 0], 26), (g1, #[.int .i64 v1, .int .i64 0], 26), (w.heap.size + 1, #[.int .i64 x, .int .i64 nn], 26), (w.heap.size, #[.bool false, .int .i64 dl, .int .u64 (b.s : Int), .int .u64 (b.i : Int), .int .u64 (b.h : Int), .int .u64 (b.d : Int), .int .u64 (b.m : Int), .int .u64 (b.w : Int)], 24)]) (ds := []) #[false, false, false, false, false, false, false, false, false, false, false, false, false, false, false, false, false, false, false, false, false, false, false, false, false, false, false, false, false, false, false] (by kernel_rfl) rfl rfl (hI.out.drew) (fun hHeld => ?_)
      have hI2 := Aside0.mk hI.out.drew
      clear hI
      have hI := hI2
      clear hI2
      generalize hwd : World.drew _ = wd at hI hHeld ⊢
      clear hwd
      refine pure_ (i := 0) (N := (some 101)) (v := ?_) (a' := ?_) #[true, false, false, false, false, false, false, false, false, false, false, false, false, false, false, false, false, false, false, false, false, false, false, false, false, false, false, false, false, false, false] rfl rfl (by kernel_rfl) (fun _ _ _ h => h) (Or.inl ⟨by rfl, ?_⟩) ?_ ?_
      rotate_left
      · intro w'
        go_simp
        with_reducible rfl
      rotate_left
      · simp only [Act.put, List.setIfInBounds_toArray, List.set_cons_zero, List.set_cons_succ, i64_w, i32_w]
        rfl
      refine pure_ (i := 1) (N := (some 102)) (v := ?_) (a' := ?_) #[true, true, false, false, false, false, false, false, false, false, false, false, false, false, false, false, false, false, false, false, false, false, false, false, false, false, false, false, false, false, false] rfl rfl (by kernel_rfl) (fun _ _ _ h => h) (Or.inl ⟨by rfl, ?_⟩) ?_ ?_
      rotate_left
      · intro w'
        go_simp
        with_reducible rfl
      rotate_left
      · simp only [Act.put, List.setIfInBounds_toArray, List.set_cons_zero, List.set_cons_succ, i64_w, i32_w]
        rfl
      refine pure_ (i := 2) (N := (some 103)) (v := ?_) (a' := ?_) #[true, true, true, false, false, false, false, false, false, false, false, false, false, false, false, false, false, false, false, false, false, false, false, false, false, false, false, false, false, false, false] rfl rfl (by kernel_rfl) (fun _ _ _ h => h) (Or.inl ⟨by rfl, ?_⟩) ?_ ?_
      rotate_left
      · intro w'
        go_simp
        with_reducible rfl
      rotate_left
      · simp only [Act.put, List.setIfInBounds_toArray, List.set_cons_zero, List.set_cons_succ, i64_w, i32_w]
        rfl
      refine pure_ (i := 3) (N := (some 104)) (v := ?_) (a' := ?_) #[true, true, true, true, false, false, false, false, false, false, false, false, false, false, false, false, false, false, false, false, false, false, false, false, false, false, false, false, false, false, false] rfl rfl (by kernel_rfl) (fun _ _ _ h => h) (Or.inl ⟨by rfl, ?_⟩) ?_ ?_
      rotate_left
      · intro w'
        go_simp
        with_reducible rfl
      rotate_left
      · simp only [Act.put, List.setIfInBounds_toArray, List.set_cons_zero, List.set_cons_succ, i64_w, i32_w]
        rfl
      refine take_ (i := 4) (N := (some 105)) (v := ?_) (a' := ?_) #[true, true, true, true, true, false, false, false, false, false, false, false, false, false, false, false, false, false, false, false, false, false, false, false, false, false, false, false, false, false, false] rfl rfl (by kernel_rfl) (fun _ _ _ h => h) (Or.inl ⟨by rfl, ?_⟩) hHeld ?_ ?_
      rotate_left
      · intro w' hS
        refine exec_load_row 26 (.tmp 15) ?_ g3 ?_ 26 _ _ (hS.get 1 rfl) Try.underlying26 rfl size26
        · rfl
        · rfl
      rotate_left
      · simp only [Act.put, List.setIfInBounds_toArray, List.set_cons_zero, List.set_cons_succ, i64_w, i32_w]
        rfl
      refine take_ (i := 5) (N := (some 106)) (v := ?_) (a' := ?_) #[true, true, true, true, true, true, false, false, false, false, false, false, false, false, false, false, false, false, false, false, false, false, false, false, false, false, false, false, false, false, false] rfl rfl (by kernel_rfl) (fun _ _ _ h => h) (Or.inl ⟨by rfl, ?_⟩) hHeld ?_ ?_
      rotate_left
      · intro w' hS
        refine exec_load_row 26 (.tmp 17) ?_ g4 ?_ 26 _ _ (hS.get 0 rfl) Try.underlying26 rfl size26
        · rfl
        · rfl
      rotate_left
      · simp only [Act.put, List.setIfInBounds_toArray, List.set_cons_zero, List.set_cons_succ, i64_w, i32_w]
        rfl
      refine pure_ (i := 6) (N := (some 107)) (v := ?_) (a' := ?_) #[true, true, true, true, true, true, true, false, false, false, false, false, false, false, false, false, false, false, false, false, false, false, false, false, false, false, false, false, false, false, false] rfl rfl (by kernel_rfl) (fun _ _ _ h => h) (Or.inl ⟨by rfl, ?_⟩) ?_ ?_
      rotate_left
      · intro w'
        go_simp
        with_reducible rfl
      rotate_left
      · simp only [Act.put, List.setIfInBounds_toArray, List.set_cons_zero, List.set_cons_succ, i64_w, i32_w]
        rfl
      refine pure_ (i := 7) (N := (some 108)) (v := ?_) (a' := ?_) #[true, true, true, true, true, true, true, true, false, false, false, false, false, false, false, false, false, false, false, false, false, false, false, false, false, false, false, false, false, false, false] rfl rfl (by kernel_rfl) (fun _ _ _ h => h) (Or.inl ⟨by rfl, ?_⟩) ?_ ?_
      rotate_left
      · intro w'
        go_simp
        with_reducible rfl
      rotate_left
      · simp only [Act.put, List.setIfInBounds_toArray, List.set_cons_zero, List.set_cons_succ, i64_w, i32_w]
        rfl
      refine pure_ (i := 8) (N := (some 109)) (v := ?_) (a' := ?_) #[true, true, true, true, true, true, true, true, true, false, false, false, false, false, false, false, false, false, false, false, false, false, false, false, false, false, false, false, false, false, false] rfl rfl (by kernel_rfl) (fun _ _ _ h => h) (Or.inl ⟨by rfl, ?_⟩) ?_ ?_
      rotate_left
      · intro w'
        go_simp
        with_reducible rfl
      rotate_left
      · simp only [Act.put, List.setIfInBounds_toArray, List.set_cons_zero, List.set_cons_succ, i64_w, i32_w]
        rfl
      refine pure_ (i := 9) (N := (some 110)) (v := ?_) (a' := ?_) #[true, true, true, true, true, true, true, true, true, true, false, false, false, false, false, false, false, false, false, false, false, false, false, false, false, false, false, false, false, false, false] rfl rfl (by kernel_rfl) (fun _ _ _ h => h) (Or.inl ⟨by rfl, ?_⟩) ?_ ?_
      rotate_left
      · intro w'
        go_simp
        with_reducible rfl
      rotate_left
      · simp only [Act.put, List.setIfInBounds_toArray, List.set_cons_zero, List.set_cons_succ, i64_w, i32_w]
        rfl
      refine pure_ (i := 10) (N := (some 111)) (v := ?_) (a' := ?_) #[true, true, true, true, true, true, true, true, true, true, true, false, false, false, false, false, false, false, false, false, false, false, false, false, false, false, false, false, false, false, false] rfl rfl (by kernel_rfl) (fun _ _ _ h => h) (Or.inl ⟨by rfl, ?_⟩) ?_ ?_
      rotate_left
      · intro w'
        go_simp
        with_reducible rfl
      rotate_left
      · simp only [Act.put, List.setIfInBounds_toArray, List.set_cons_zero, List.set_cons_succ, i64_w, i32_w]
        rfl
      refine pure_ (i := 11) (N := (some 112)) (v := ?_) (a' := ?_) #[true, true, true, true, true, true, true, true, true, true, true, true, false, false, false, false, false, false, false, false, false, false, false, false, false, false, false, false, false, false, false] rfl rfl (by kernel_rfl) (fun _ _ _ h => h) (Or.inl ⟨by rfl, ?_⟩) ?_ ?_
      rotate_left
      · intro w'
        go_simp
        with_reducible rfl
      rotate_left
      · simp only [Act.put, List.setIfInBounds_toArray, List.set_cons_zero, List.set_cons_succ, i64_w, i32_w]
        rfl
      refine pure_ (i := 12) (N := (some 113)) (v := undef) (a' := ?_) #[true, true, true, true, true, true, true, true, true, true, true, true, true, false, false, false, false, false, false, false, false, false, false, false, false, false, false, false, false, false, false] rfl rfl (by kernel_rfl) (fun _ _ _ h => h) (Or.inr ⟨by rfl, rfl⟩) ?_ ?_
      rotate_left
      · simp only [Act.put, List.setIfInBounds_toArray, List.set_cons_zero, List.set_cons_succ, i64_w, i32_w]
        rfl
      refine pure_ (i := 13) (N := (some 114)) (v := undef) (a' := ?_) #[true, true, true, true, true, true, true, true, true, true, true, true, true, true, false, false, false, false, false, false, false, false, false, false, false, false, false, false, false, false, false] rfl rfl (by kernel_rfl) (fun _ _ _ h => h) (Or.inr ⟨by rfl, rfl⟩) ?_ ?_
      rotate_left
      · simp only [Act.put, List.setIfInBounds_toArray, List.set_cons_zero, List.set_cons_succ, i64_w, i32_w]
        rfl
      refine pure_ (i := 14) (N := (some 115)) (v := ?_) (a' := ?_) #[true, true, true, true, true, true, true, true, true, true, true, true, true, true, true, false, false, false, false, false, false, false, false, false, false, false, false, false, false, false, false] rfl rfl (by kernel_rfl) (fun _ _ _ h => h) (Or.inl ⟨by rfl, ?_⟩) ?_ ?_
      rotate_left
      · intro w'
        go_simp
        with_reducible rfl
      rotate_left
      · simp only [Act.put, List.setIfInBounds_toArray, List.set_cons_zero, List.set_cons_succ, i64_w, i32_w]
        rfl
      refine pure_ (i := 15) (N := (some 116)) (v := ?_) (a' := ?_) #[true, true, true, true, true, true, true, true, true, true, true, true, true, true, true, true, false, false, false, false, false, false, false, false, false, false, false, false, false, false, false] rfl rfl (by kernel_rfl) (fun _ _ _ h => h) (Or.inl ⟨by rfl, ?_⟩) ?_ ?_
      rotate_left
      · intro w'
        go_simp
        with_reducible rfl
      rotate_left
      · simp only [Act.put, List.setIfInBounds_toArray, List.set_cons_zero, List.set_cons_succ, i64_w, i32_w]
        rfl
      refine take_ (i := 16) (N := (some 117)) (v := undef) (a' := ?_) #[true, true, true, true, true, true, true, true, true, true, true, true, true, true, true, true, true, false, false, false, false, false, false, false, false, false, false, false, false, false, false] rfl rfl (by kernel_rfl) (fun _ _ _ h => h) (Or.inr ⟨by rfl, rfl⟩) hHeld ?_ ?_
      rotate_left
      · simp only [Act.put, List.setIfInBounds_toArray, List.set_cons_zero, List.set_cons_succ, i64_w, i32_w]
        rfl
      refine take_ (i := 17) (N := (some 118)) (v := undef) (a' := ?_) #[true, true, true, true, true, true, true, true, true, true, true, true, true, true, true, true, true, true, false, false, false, false, false, false, false, false, false, false, false, false, false] rfl rfl (by kernel_rfl) (fun _ _ _ h => h) (Or.inr ⟨by rfl, rfl⟩) hHeld ?_ ?_
      rotate_left
      · simp only [Act.put, List.setIfInBounds_toArray, List.set_cons_zero, List.set_cons_succ, i64_w, i32_w]
        rfl
      refine pure_ (i := 18) (N := (some 119)) (v := undef) (a' := ?_) #[true, true, true, true, true, true, true, true, true, true, true, true, true, true, true, true, true, true, true, false, false, false, false, false, false, false, false, false, false, false, false] rfl rfl (by kernel_rfl) (fun _ _ _ h => h) (Or.inr ⟨by rfl, rfl⟩) ?_ ?_
      rotate_left
      · simp only [Act.put, List.setIfInBounds_toArray, List.set_cons_zero, List.set_cons_succ, i64_w, i32_w]
        rfl
      refine pure_ (i := 19) (N := (some 120)) (v := ?_) (a' := ?_) #[true, true, true, true, true, true, true, true, true, true, true, true, true, true, true, true, true, true, true, true, false, false, false, false, false, false, false, false, false, false, false] rfl rfl (by kernel_rfl) (fun _ _ _ h => h) (Or.inl ⟨by rfl, ?_⟩) ?_ ?_
      rotate_left
      · intro w'
        go_simp
        with_reducible rfl
      rotate_left
      · simp only [Act.put, List.setIfInBounds_toArray, List.set_cons_zero, List.set_cons_succ, i64_w, i32_w]
        rfl
      refine pure_ (i := 20) (N := (some 121)) (v := ?_) (a' := ?_) #[true, true, true, true, true, true, true, true, true, true, true, true, true, true, true, true, true, true, true, true, true, false, false, false, false, false, false, false, false, false, false] rfl rfl (by kernel_rfl) (fun _ _ _ h => h) (Or.inl ⟨by rfl, ?_⟩) ?_ ?_
      rotate_left
      · intro w'
        go_simp
        with_reducible rfl
      rotate_left
      · simp only [Act.put, List.setIfInBounds_toArray, List.set_cons_zero, List.set_cons_succ, i64_w, i32_w]
        rfl
      refine pure_ (i := 21) (N := (some 122)) (v := ?_) (a' := ?_) #[true, true, true, true, true, true, true, true, true, true, true, true, true, true, true, true, true, true, true, true, true, true, false, false, false, false, false, false, false, false, false] rfl rfl (by kernel_rfl) (fun _ _ _ h => h) (Or.inl ⟨by rfl, ?_⟩) ?_ ?_
      rotate_left
      · intro w'
        go_simp
        with_reducible rfl
      rotate_left
      · simp only [Act.put, List.setIfInBounds_toArray, List.set_cons_zero, List.set_cons_succ, i64_w, i32_w]
        rfl
      refine pure_ (i := 22) (N := (some 123)) (v := ?_) (a' := ?_) #[true, true, true, true, true, true, true, true, true, true, true, true, true, true, true, true, true, true, true, true, true, true, true, false, false, false, false, false, false, false, false] rfl rfl (by kernel_rfl) (fun _ _ _ h => h) (Or.inl ⟨by rfl, ?_⟩) ?_ ?_
      rotate_left
      · intro w'
        go_simp
        with_reducible rfl
      rotate_left
      · simp only [Act.put, List.setIfInBounds_toArray, List.set_cons_zero, List.set_cons_succ, i64_w, i32_w]
        rfl
      refine pure_ (i := 23) (N := (some 124)) (v := ?_) (a' := ?_) #[true, true, true, true, true, true, true, true, true, true, true, true, true, true, true, true, true, true, true, true, true, true, true, true, false, false, false, false, false, false, false] rfl rfl (by kernel_rfl) (fun _ _ _ h => h) (Or.inl ⟨by rfl, ?_⟩) ?_ ?_
      rotate_left
      · intro w'
        go_simp
        with_reducible rfl
      rotate_left
      · simp only [Act.put, List.setIfInBounds_toArray, List.set_cons_zero, List.set_cons_succ, i64_w, i32_w]
        rfl
      refine take_ (i := 24) (N := (some 125)) (v := undef) (a' := ?_) #[true, true, true, true, true, true, true, true, true, true, true, true, true, true, true, true, true, true, true, true, true, true, true, true, true, false, false, false, false, false, false] rfl rfl (by kernel_rfl) (fun _ _ _ h => h) (Or.inr ⟨by rfl, rfl⟩) hHeld ?_ ?_
      rotate_left
      · simp only [Act.put, List.setIfInBounds_toArray, List.set_cons_zero, List.set_cons_succ, i64_w, i32_w]
        rfl
      refine take_ (i := 25) (N := (some 126)) (v := undef) (a' := ?_) #[true, true, true, true, true, true, true, true, true, true, true, true, true, true, true, true, true, true, true, true, true, true, true, true, true, true, false, false, false, false, false] rfl rfl (by kernel_rfl) (fun _ _ _ h => h) (Or.inr ⟨by rfl, rfl⟩) hHeld ?_ ?_
      rotate_left
      · simp only [Act.put, List.setIfInBounds_toArray, List.set_cons_zero, List.set_cons_succ, i64_w, i32_w]
        rfl
      refine one_ (i := 26) (N := (some 127)) #[true, true, true, true, true, true, true, true, true, true, true, true, true, true, true, true, true, true, true, true, true, true, true, true, true, true, true, false, false, false, false] rfl rfl (by kernel_rfl) (by decide) (fun K hK => ?_)
      refine off_ (by rfl) (hK.out _ _ hHeld (fun hHeld => ?_))
      clear hK K
      refine norm_ (a' := ?_) ?_ ?_
      rotate_left
      · show Act.put _ (some 127) _ = _
        simp only [Act.put, List.setIfInBounds_toArray, List.set_cons_zero, List.set_cons_succ, i64_w, i32_w]
        rfl
      refine one_ (i := 27) (N := (some 128)) #[true, true, true, true, true, true, true, true, true, true, true, true, true, true, true, true, true, true, true, true, true, true, true, true, true, true, true, true, false, false, false] rfl rfl (by kernel_rfl) (by decide) (fun K hK => ?_)
      refine off_ (by rfl) (hK.out _ _ hHeld (fun hHeld => ?_))
      clear hK K
      refine norm_ (a' := ?_) ?_ ?_
      rotate_left
      · show Act.put _ (some 128) _ = _
        simp only [Act.put, List.setIfInBounds_toArray, List.set_cons_zero, List.set_cons_succ, i64_w, i32_w]
        rfl
      refine pure_ (i := 28) (N := (some 129)) (v := ?_) (a' := ?_) #[true, true, true, true, true, true, true, true, true, true, true, true, true, true, true, true, true, true, true, true, true, true, true, true, true, true, true, true, true, false, false] rfl rfl (by kernel_rfl) (fun _ _ _ h => h) (Or.inl ⟨by rfl, ?_⟩) ?_ ?_
      rotate_left
      · intro w'
        go_simp
        with_reducible rfl
      rotate_left
      · simp only [Act.put, List.setIfInBounds_toArray, List.set_cons_zero, List.set_cons_succ, i64_w, i32_w]
        rfl
      refine pure_ (i := 29) (N := (some 130)) (v := ?_) (a' := ?_) #[true, true, true, true, true, true, true, true, true, true, true, true, true, true, true, true, true, true, true, true, true, true, true, true, true, true, true, true, true, true, false] rfl rfl (by kernel_rfl) (fun _ _ _ h => h) (Or.inl ⟨by rfl, ?_⟩) ?_ ?_
      rotate_left
      · intro w'
        go_simp
        with_reducible rfl
      rotate_left
      · simp only [Act.put, List.setIfInBounds_toArray, List.set_cons_zero, List.set_cons_succ, i64_w, i32_w]
        rfl
      refine pure_ (i := 30) (N := (some 8)) (v := ?_) (a' := ?_) #[true, true, true, true, true, true, true, true, true, true, true, true, true, true, true, true, true, true, true, true, true, true, true, true, true, true, true, true, true, true, true] rfl rfl (by kernel_rfl) (fun _ _ _ h => h) (Or.inl ⟨by rfl, ?_⟩) ?_ ?_
      rotate_left
      · intro w'
        go_simp
        with_reducible rfl
      rotate_left
      · simp only [Act.put, List.setIfInBounds_toArray, List.set_cons_zero, List.set_cons_succ, i64_w, i32_w]
        rfl
      refine done_ (by kernel_rfl) ?_
      go_wp2_with fail
      go_ret
      exact ⟨rfl, hI.out.B⟩
  · cases q2
    · obtain rfl : q3 = true := HA.out
      clear HA HD HN0
      refine start_ (n := 31) (S := Blk w [(g4, #[.int .i64 v3, .int .i64 0], 26), (g3, #[.int .i64 v3, .int .i64 0], 26), (g2, #[.int .i64 v2, .int .i64 0], 26), (g1, #[.int .i64 v1, .int .i64 0], 26), (w.heap.size + 1, #[.int .i64 x, .int .i64 nn], 26), (w.heap.size, #[.bool false, .int .i64 dl, .int .u64 (b.s : Int), .int .u64 (b.i : Int), .int .u64 (b.h : Int), .int .u64 (b.d : Int), .int .u64 (b.m : Int), .int .u64 (b.w : Int)], 24)]) (ds := []) #[false, false, false, false, false, false, false, false, false, false, false, false, false, false, false, false, false, false, false, false, false, false, false, false, false, false, false, false, false, false, false] (by kernel_rfl) rfl rfl (hI.out.drew) (fun hHeld => ?_)
      have hI2 := Aside0.mk hI.out.drew
      clear hI
      have hI := hI2
      clear hI2
      generalize hwd : World.drew _ = wd at hI hHeld ⊢
      clear hwd
      refine pure_ (i := 0) (N := (some 101)) (v := ?_) (a' := ?_) #[true, false, false, false, false, false, false, false, false, false, false, false, false, false, false, false, false, false, false, false, false, false, false, false, false, false, false, false, false, false, false] rfl rfl (by kernel_rfl) (fun _ _ _ h => h) (Or.inl ⟨by rfl, ?_⟩) ?_ ?_
      rotate_left
      · intro w'
        go_simp
        with_reducible rfl
      rotate_left
      · simp only [Act.put, List.setIfInBounds_toArray, List.set_cons_zero, List.set_cons_succ, i64_w, i32_w]
        rfl
      refine pure_ (i := 1) (N := (some 102)) (v := ?_) (a' := ?_) #[true, true, false, false, false, false, false, false, false, false, false, false, false, false, false, false, false, false, false, false, false, false, false, false, false, false, false, false, false, false, false] rfl rfl (by kernel_rfl) (fun _ _ _ h => h) (Or.inl ⟨by rfl, ?_⟩) ?_ ?_
      rotate_left
      · intro w'
        go_simp
        with_reducible rfl
      rotate_left
      · simp only [Act.put, List.setIfInBounds_toArray, List.set_cons_zero, List.set_cons_succ, i64_w, i32_w]
        rfl
      refine pure_ (i := 2) (N := (some 103)) (v := ?_) (a' := ?_) #[true, true, true, false, false, false, false, false, false, false, false, false, false, false, false, false, false, false, false, false, false, false, false, false, false, false, false, false, false, false, false] rfl rfl (by kernel_rfl) (fun _ _ _ h => h) (Or.inl ⟨by rfl, ?_⟩) ?_ ?_
      rotate_left
      · intro w'
        go_simp
        with_reducible rfl
      rotate_left
      · simp only [Act.put, List.setIfInBounds_toArray, List.set_cons_zero, List.set_cons_succ, i64_w, i32_w]
        rfl
      refine pure_ (i := 3) (N := (some 104)) (v := ?_) (a' := ?_) #[true, true, true, true, false, false, false, false, false, false, false, false, false, false, false, false, false, false, false, false, false, false, false, false, false, false, false, false, false, false, false] rfl rfl (by kernel_rfl) (fun _ _ _ h => h) (Or.inl ⟨by rfl, ?_⟩) ?_ ?_
      rotate_left
      · intro w'
        go_simp
        with_reducible rfl
      rotate_left
      · simp only [Act.put, List.setIfInBounds_toArray, List.set_cons_zero, List.set_cons_succ, i64_w, i32_w]
        rfl
      refine take_ (i := 4) (N := (some 105)) (v := ?_) (a' := ?_) #[true, true, true, true, true, false, false, false, false, false, false, false, false, false, false, false, false, false, false, false, false, false, false, false, false, false, false, false, false, false, false] rfl rfl (by kernel_rfl) (fun _ _ _ h => h) (Or.inl ⟨by rfl, ?_⟩) hHeld ?_ ?_
      rotate_left
      · intro w' hS
        refine exec_load_row 26 (.tmp 15) ?_ g3 ?_ 26 _ _ (hS.get 1 rfl) Try.underlying26 rfl size26
        · rfl
        · rfl
      rotate_left
      · simp only [Act.put, List.setIfInBounds_toArray, List.set_cons_zero, List.set_cons_succ, i64_w, i32_w]
        rfl
      refine take_ (i := 5) (N := (some 106)) (v := ?_) (a' := ?_) #[true, true, true, true, true, true, false, false, false, false, false, false, false, false, false, false, false, false, false, false, false, false, false, false, false, false, false, false, false, false, false] rfl rfl (by kernel_rfl) (fun _ _ _ h => h) (Or.inl ⟨by rfl, ?_⟩) hHeld ?_ ?_
      rotate_left
      · intro w' hS
        refine exec_load_row 26 (.tmp 17) ?_ g4 ?_ 26 _ _ (hS.get 0 rfl) Try.underlying26 rfl size26
        · rfl
        · rfl
      rotate_left
      · simp only [Act.put, List.setIfInBounds_toArray, List.set_cons_zero, List.set_cons_succ, i64_w, i32_w]
        rfl
      refine pure_ (i := 6) (N := (some 107)) (v := ?_) (a' := ?_) #[true, true, true, true, true, true, true, false, false, false, false, false, false, false, false, false, false, false, false, false, false, false, false, false, false, false, false, false, false, false, false] rfl rfl (by kernel_rfl) (fun _ _ _ h => h) (Or.inl ⟨by rfl, ?_⟩) ?_ ?_
      rotate_left
      · intro w'
        go_simp
        with_reducible rfl
      rotate_left
      · simp only [Act.put, List.setIfInBounds_toArray, List.set_cons_zero, List.set_cons_succ, i64_w, i32_w]
        rfl
      refine pure_ (i := 7) (N := (some 108)) (v := ?_) (a' := ?_) #[true, true, true, true, true, true, true, true, false, false, false, false, false, false, false, false, false, false, false, false, false, false, false, false, false, false, false, false, false, false, false] rfl rfl (by kernel_rfl) (fun _ _ _ h => h) (Or.inl ⟨by rfl, ?_⟩) ?_ ?_
      rotate_left
      · intro w'
        go_simp
        with_reducible rfl
      rotate_left
      · simp only [Act.put, List.setIfInBounds_toArray, List.set_cons_zero, List.set_cons_succ, i64_w, i32_w]
        rfl
      refine pure_ (i := 8) (N := (some 109)) (v := ?_) (a' := ?_) #[true, true, true, true, true, true, true, true, true, false, false, false, false, false, false, false, false, false, false, false, false, false, false, false, false, false, false, false, false, false, false] rfl rfl (by kernel_rfl) (fun _ _ _ h => h) (Or.inl ⟨by rfl, ?_⟩) ?_ ?_
      rotate_left
      · intro w'
        go_simp
        with_reducible rfl
      rotate_left
      · simp only [Act.put, List.setIfInBounds_toArray, List.set_cons_zero, List.set_cons_succ, i64_w, i32_w]
        rfl
      refine pure_ (i := 9) (N := (some 110)) (v := ?_) (a' := ?_) #[true, true, true, true, true, true, true, true, true, true, false, false, false, false, false, false, false, false, false, false, false, false, false, false, false, false, false, false, false, false, false] rfl rfl (by kernel_rfl) (fun _ _ _ h => h) (Or.inl ⟨by rfl, ?_⟩) ?_ ?_
      rotate_left
      · intro w'
        go_simp
        with_reducible rfl
      rotate_left
      · simp only [Act.put, List.setIfInBounds_toArray, List.set_cons_zero, List.set_cons_succ, i64_w, i32_w]
        rfl
      refine pure_ (i := 10) (N := (some 111)) (v := ?_) (a' := ?_) #[true, true, true, true, true, true, true, true, true, true, true, false, false, false, false, false, false, false, false, false, false, false, false, false, false, false, false, false, false, false, false] rfl rfl (by kernel_rfl) (fun _ _ _ h => h) (Or.inl ⟨by rfl, ?_⟩) ?_ ?_
      rotate_left
      · intro w'
        go_simp
        with_reducible rfl
      rotate_left
      · simp only [Act.put, List.setIfInBounds_toArray, List.set_cons_zero, List.set_cons_succ, i64_w, i32_w]
        rfl
      refine pure_ (i := 11) (N := (some 112)) (v := ?_) (a' := ?_) #[true, true, true, true, true, true, true, true, true, true, true, true, false, false, false, false, false, false, false, false, false, false, false, false, false, false, false, false, false, false, false] rfl rfl (by kernel_rfl) (fun _ _ _ h => h) (Or.inl ⟨by rfl, ?_⟩) ?_ ?_
      rotate_left
      · intro w'
        go_simp
        with_reducible rfl
      rotate_left
      · simp only [Act.put, List.setIfInBounds_toArray, List.set_cons_zero, List.set_cons_succ, i64_w, i32_w]
        rfl
      refine pure_ (i := 12) (N := (some 113)) (v := ?_) (a' := ?_) #[true, true, true, true, true, true, true, true, true, true, true, true, true, false, false, false, false, false, false, false, false, false, false, false, false, false, false, false, false, false, false] rfl rfl (by kernel_rfl) (fun _ _ _ h => h) (Or.inl ⟨by rfl, ?_⟩) ?_ ?_
      rotate_left
      · intro w'
        go_simp
        with_reducible rfl
      rotate_left
      · simp only [Act.put, List.setIfInBounds_toArray, List.set_cons_zero, List.set_cons_succ, i64_w, i32_w]
        rfl
      refine pure_ (i := 13) (N := (some 114)) (v := ?_) (a' := ?_) #[true, true, true, true, true, true, true, true, true, true, true, true, true, true, false, false, false, false, false, false, false, false, false, false, false, false, false, false, false, false, false] rfl rfl (by kernel_rfl) (fun _ _ _ h => h) (Or.inl ⟨by rfl, ?_⟩) ?_ ?_
      rotate_left
      · intro w'
        go_simp
        with_reducible rfl
      rotate_left
      · simp only [Act.put, List.setIfInBounds_toArray, List.set_cons_zero, List.set_cons_succ, i64_w, i32_w]
        rfl
      refine pure_ (i := 14) (N := (some 115)) (v := ?_) (a' := ?_) #[true, true, true, true, true, true, true, true, true, true, true, true, true, true, true, false, false, false, false, false, false, false, false, false, false, false, false, false, false, false, false] rfl rfl (by kernel_rfl) (fun _ _ _ h => h) (Or.inl ⟨by rfl, ?_⟩) ?_ ?_
      rotate_left
      · intro w'
        go_simp
        with_reducible rfl
      rotate_left
      · simp only [Act.put, List.setIfInBounds_toArray, List.set_cons_zero, List.set_cons_succ, i64_w, i32_w]
        rfl
      refine pure_ (i := 15) (N := (some 116)) (v := ?_) (a' := ?_) #[true, true, true, true, true, true, true, true, true, true, true, true, true, true, true, true, false, false, false, false, false, false, false, false, false, false, false, false, false, false, false] rfl rfl (by kernel_rfl) (fun _ _ _ h => h) (Or.inl ⟨by rfl, ?_⟩) ?_ ?_
      rotate_left
      · intro w'
        go_simp
        with_reducible rfl
      rotate_left
      · simp only [Act.put, List.setIfInBounds_toArray, List.set_cons_zero, List.set_cons_succ, i64_w, i32_w]
        rfl
      refine take_ (i := 16) (N := (some 117)) (v := undef) (a' := ?_) #[true, true, true, true, true, true, true, true, true, true, true, true, true, true, true, true, true, false, false, false, false, false, false, false, false, false, false, false, false, false, false] rfl rfl (by kernel_rfl) (fun _ _ _ h => h) (Or.inr ⟨by rfl, rfl⟩) hHeld ?_ ?_
      rotate_left
      · simp only [Act.put, List.setIfInBounds_toArray, List.set_cons_zero, List.set_cons_succ, i64_w, i32_w]
        rfl
      refine take_ (i := 17) (N := (some 118)) (v := undef) (a' := ?_) #[true, true, true, true, true, true, true, true, true, true, true, true, true, true, true, true, true, true, false, false, false, false, false, false, false, false, false, false, false, false, false] rfl rfl (by kernel_rfl) (fun _ _ _ h => h) (Or.inr ⟨by rfl, rfl⟩) hHeld ?_ ?_
      rotate_left
      · simp only [Act.put, List.setIfInBounds_toArray, List.set_cons_zero, List.set_cons_succ, i64_w, i32_w]
        rfl
      refine pure_ (i := 18) (N := (some 119)) (v := undef) (a' := ?_) #[true, true, true, true, true, true, true, true, true, true, true, true, true, true, true, true, true, true, true, false, false, false, false, false, false, false, false, false, false, false, false] rfl rfl (by kernel_rfl) (fun _ _ _ h => h) (Or.inr ⟨by rfl, rfl⟩) ?_ ?_
      rotate_left
      · simp only [Act.put, List.setIfInBounds_toArray, List.set_cons_zero, List.set_cons_succ, i64_w, i32_w]
        rfl
      refine pure_ (i := 19) (N := (some 120)) (v := ?_) (a' := ?_) #[true, true, true, true, true, true, true, true, true, true, true, true, true, true, true, true, true, true, true, true, false, false, false, false, false, false, false, false, false, false, false] rfl rfl (by kernel_rfl) (fun _ _ _ h => h) (Or.inl ⟨by rfl, ?_⟩) ?_ ?_
      rotate_left
      · intro w'
        go_simp
        with_reducible rfl
      rotate_left
      · simp only [Act.put, List.setIfInBounds_toArray, List.set_cons_zero, List.set_cons_succ, i64_w, i32_w]
        rfl
      refine pure_ (i := 20) (N := (some 121)) (v := ?_) (a' := ?_) #[true, true, true, true, true, true, true, true, true, true, true, true, true, true, true, true, true, true, true, true, true, false, false, false, false, false, false, false, false, false, false] rfl rfl (by kernel_rfl) (fun _ _ _ h => h) (Or.inl ⟨by rfl, ?_⟩) ?_ ?_
      rotate_left
      · intro w'
        go_simp
        with_reducible rfl
      rotate_left
      · simp only [Act.put, List.setIfInBounds_toArray, List.set_cons_zero, List.set_cons_succ, i64_w, i32_w]
        rfl
      refine pure_ (i := 21) (N := (some 122)) (v := ?_) (a' := ?_) #[true, true, true, true, true, true, true, true, true, true, true, true, true, true, true, true, true, true, true, true, true, true, false, false, false, false, false, false, false, false, false] rfl rfl (by kernel_rfl) (fun _ _ _ h => h) (Or.inl ⟨by rfl, ?_⟩) ?_ ?_
      rotate_left
      · intro w'
        go_simp
        with_reducible rfl
      rotate_left
      · simp only [Act.put, List.setIfInBounds_toArray, List.set_cons_zero, List.set_cons_succ, i64_w, i32_w]
        rfl
      refine pure_ (i := 22) (N := (some 123)) (v := ?_) (a' := ?_) #[true, true, true, true, true, true, true, true, true, true, true, true, true, true, true, true, true, true, true, true, true, true, true, false, false, false, false, false, false, false, false] rfl rfl (by kernel_rfl) (fun _ _ _ h => h) (Or.inl ⟨by rfl, ?_⟩) ?_ ?_
      rotate_left
      · intro w'
        go_simp
        with_reducible rfl
      rotate_left
      · simp only [Act.put, List.setIfInBounds_toArray, List.set_cons_zero, List.set_cons_succ, i64_w, i32_w]
        rfl
      refine pure_ (i := 23) (N := (some 124)) (v := ?_) (a' := ?_) #[true, true, true, true, true, true, true, true, true, true, true, true, true, true, true, true, true, true, true, true, true, true, true, true, false, false, false, false, false, false, false] rfl rfl (by kernel_rfl) (fun _ _ _ h => h) (Or.inl ⟨by rfl, ?_⟩) ?_ ?_
      rotate_left
      · intro w'
        go_simp
        with_reducible rfl
      rotate_left
      · simp only [Act.put, List.setIfInBounds_toArray, List.set_cons_zero, List.set_cons_succ, i64_w, i32_w]
        rfl
      refine take_ (i := 24) (N := (some 125)) (v := undef) (a' := ?_) #[true, true, true, true, true, true, true, true, true, true, true, true, true, true, true, true, true, true, true, true, true, true, true, true, true, false, false, false, false, false, false] rfl rfl (by kernel_rfl) (fun _ _ _ h => h) (Or.inr ⟨by rfl, rfl⟩) hHeld ?_ ?_
      rotate_left
      · simp only [Act.put, List.setIfInBounds_toArray, List.set_cons_zero, List.set_cons_succ, i64_w, i32_w]
        rfl
      refine take_ (i := 25) (N := (some 126)) (v := undef) (a' := ?_) #[true, true, true, true, true, true, true, true, true, true, true, true, true, true, true, true, true, true, true, true, true, true, true, true, true, true, false, false, false, false, false] rfl rfl (by kernel_rfl) (fun _ _ _ h => h) (Or.inr ⟨by rfl, rfl⟩) hHeld ?_ ?_
      rotate_left
      · simp only [Act.put, List.setIfInBounds_toArray, List.set_cons_zero, List.set_cons_succ, i64_w, i32_w]
        rfl
      refine one_ (i := 26) (N := (some 127)) #[true, true, true, true, true, true, true, true, true, true, true, true, true, true, true, true, true, true, true, true, true, true, true, true, true, true, true, false, false, false, false] rfl rfl (by kernel_rfl) (by decide) (fun K hK => ?_)
      refine off_ (by rfl) (hK.out _ _ hHeld (fun hHeld => ?_))
      clear hK K
      refine norm_ (a' := ?_) ?_ ?_
      rotate_left
      · show Act.put _ (some 127) _ = _
        simp only [Act.put, List.setIfInBounds_toArray, List.set_cons_zero, List.set_cons_succ, i64_w, i32_w]
        rfl
      refine one_ (i := 27) (N := (some 128)) #[true, true, true, true, true, true, true, true, true, true, true, true, true, true, true, true, true, true, true, true, true, true, true, true, true, true, true, true, false, false, false] rfl rfl (by kernel_rfl) (by decide) (fun K hK => ?_)
      refine off_ (by rfl) (hK.out _ _ hHeld (fun hHeld => ?_))
      clear hK K
      refine norm_ (a' := ?_) ?_ ?_
      rotate_left
      · show Act.put _ (some 128) _ = _
        simp only [Act.put, List.setIfInBounds_toArray, List.set_cons_zero, List.set_cons_succ, i64_w, i32_w]
        rfl
      refine pure_ (i := 28) (N := (some 129)) (v := ?_) (a' := ?_) #[true, true, true, true, true, true, true, true, true, true, true, true, true, true, true, true, true, true, true, true, true, true, true, true, true, true, true, true, true, false, false] rfl rfl (by kernel_rfl) (fun _ _ _ h => h) (Or.inl ⟨by rfl, ?_⟩) ?_ ?_
      rotate_left
      · intro w'
        go_simp
        with_reducible rfl
      rotate_left
      · simp only [Act.put, List.setIfInBounds_toArray, List.set_cons_zero, List.set_cons_succ, i64_w, i32_w]
        rfl
      refine pure_ (i := 29) (N := (some 130)) (v := ?_) (a' := ?_) #[true, true, true, true, true, true, true, true, true, true, true, true, true, true, true, true, true, true, true, true, true, true, true, true, true, true, true, true, true, true, false] rfl rfl (by kernel_rfl) (fun _ _ _ h => h) (Or.inl ⟨by rfl, ?_⟩) ?_ ?_
      rotate_left
      · intro w'
        go_simp
        with_reducible rfl
      rotate_left
      · simp only [Act.put, List.setIfInBounds_toArray, List.set_cons_zero, List.set_cons_succ, i64_w, i32_w]
        rfl
      refine pure_ (i := 30) (N := (some 8)) (v := ?_) (a' := ?_) #[true, true, true, true, true, true, true, true, true, true, true, true, true, true, true, true, true, true, true, true, true, true, true, true, true, true, true, true, true, true, true] rfl rfl (by kernel_rfl) (fun _ _ _ h => h) (Or.inl ⟨by rfl, ?_⟩) ?_ ?_
      rotate_left
      · intro w'
        go_simp
        with_reducible rfl
      rotate_left
      · simp only [Act.put, List.setIfInBounds_toArray, List.set_cons_zero, List.set_cons_succ, i64_w, i32_w]
        rfl
      refine done_ (by kernel_rfl) ?_
      go_wp2_with fail
      go_ret
      exact ⟨rfl, hI.out.B⟩
    · obtain rfl : q3 = true := HA.out
      have e1 : (v1 == v2) = false := beq_eq_false_iff_ne.2 (HD.out rfl rfl)
      clear HA HD HN0
      refine start_ (n := 31) (S := Blk w [(g4, #[.int .i64 v3, .int .i64 0], 26), (g3, #[.int .i64 v3, .int .i64 0], 26), (g2, #[.int .i64 v2, .int .i64 0], 26), (g1, #[.int .i64 v1, .int .i64 0], 26), (w.heap.size + 1, #[.int .i64 x, .int .i64 nn], 26), (w.heap.size, #[.bool false, .int .i64 dl, .int .u64 (b.s : Int), .int .u64 (b.i : Int), .int .u64 (b.h : Int), .int .u64 (b.d : Int), .int .u64 (b.m : Int), .int .u64 (b.w : Int)], 24)]) (ds := []) #[false, false, false, false, false, false, false, false, false, false, false, false, false, false, false, false, false, false, false, false, false, false, false, false, false, false, false, false, false, false, false] (by kernel_rfl) rfl rfl (hI.out.drew) (fun hHeld => ?_)
      have hI2 := Aside0.mk hI.out.drew
      clear hI
      have hI := hI2
      clear hI2
      generalize hwd : World.drew _ = wd at hI hHeld ⊢
      clear hwd
      refine pure_ (i := 0) (N := (some 101)) (v := ?_) (a' := ?_) #[true, false, false, false, false, false, false, false, false, false, false, false, false, false, false, false, false, false, false, false, false, false, false, false, false, false, false, false, false, false, false] rfl rfl (by kernel_rfl) (fun _ _ _ h => h) (Or.inl ⟨by rfl, ?_⟩) ?_ ?_
      rotate_left
      · intro w'
        go_simp
        with_reducible rfl
      rotate_left
      · simp only [Act.put, List.setIfInBounds_toArray, List.set_cons_zero, List.set_cons_succ, i64_w, i32_w]
        rfl
      refine pure_ (i := 1) (N := (some 102)) (v := ?_) (a' := ?_) #[true, true, false, false, false, false, false, false, false, false, false, false, false, false, false, false, false, false, false, false, false, false, false, false, false, false, false, false, false, false, false] rfl rfl (by kernel_rfl) (fun _ _ _ h => h) (Or.inl ⟨by rfl, ?_⟩) ?_ ?_
      rotate_left
      · intro w'
        go_simp
        with_reducible rfl
      rotate_left
      · simp only [Act.put, List.setIfInBounds_toArray, List.set_cons_zero, List.set_cons_succ, i64_w, i32_w]
        rfl
      refine pure_ (i := 2) (N := (some 103)) (v := ?_) (a' := ?_) #[true, true, true, false, false, false, false, false, false, false, false, false, false, false, false, false, false, false, false, false, false, false, false, false, false, false, false, false, false, false, false] rfl rfl (by kernel_rfl) (fun _ _ _ h => h) (Or.inl ⟨by rfl, ?_⟩) ?_ ?_
      rotate_left
      · intro w'
        go_simp
        with_reducible rfl
      rotate_left
      · simp only [Act.put, List.setIfInBounds_toArray, List.set_cons_zero, List.set_cons_succ, i64_w, i32_w]
        rfl
      refine pure_ (i := 3) (N := (some 104)) (v := ?_) (a' := ?_) #[true, true, true, true, false, false, false, false, false, false, false, false, false, false, false, false, false, false, false, false, false, false, false, false, false, false, false, false, false, false, false] rfl rfl (by kernel_rfl) (fun _ _ _ h => h) (Or.inl ⟨by rfl, ?_⟩) ?_ ?_
      rotate_left
      · intro w'
        go_simp
        with_reducible rfl
      rotate_left
      · simp only [Act.put, List.setIfInBounds_toArray, List.set_cons_zero, List.set_cons_succ, i64_w, i32_w]
        rfl
      refine take_ (i := 4) (N := (some 105)) (v := ?_) (a' := ?_) #[true, true, true, true, true, false, false, false, false, false, false, false, false, false, false, false, false, false, false, false, false, false, false, false, false, false, false, false, false, false, false] rfl rfl (by kernel_rfl) (fun _ _ _ h => h) (Or.inl ⟨by rfl, ?_⟩) hHeld ?_ ?_
      rotate_left
      · intro w' hS
        refine exec_load_row 26 (.tmp 15) ?_ g3 ?_ 26 _ _ (hS.get 1 rfl) Try.underlying26 rfl size26
        · rfl
        · rfl
      rotate_left
      · simp only [Act.put, List.setIfInBounds_toArray, List.set_cons_zero, List.set_cons_succ, i64_w, i32_w]
        rfl
      refine take_ (i := 5) (N := (some 106)) (v := ?_) (a' := ?_) #[true, true, true, true, true, true, false, false, false, false, false, false, false, false, false, false, false, false, false, false, false, false, false, false, false, false, false, false, false, false, false] rfl rfl (by kernel_rfl) (fun _ _ _ h => h) (Or.inl ⟨by rfl, ?_⟩) hHeld ?_ ?_
      rotate_left
      · intro w' hS
        refine exec_load_row 26 (.tmp 17) ?_ g4 ?_ 26 _ _ (hS.get 0 rfl) Try.underlying26 rfl size26
        · rfl
        · rfl
      rotate_left
      · simp only [Act.put, List.setIfInBounds_toArray, List.set_cons_zero, List.set_cons_succ, i64_w, i32_w]
        rfl
      refine pure_ (i := 6) (N := (some 107)) (v := ?_) (a' := ?_) #[true, true, true, true, true, true, true, false, false, false, false, false, false, false, false, false, false, false, false, false, false, false, false, false, false, false, false, false, false, false, false] rfl rfl (by kernel_rfl) (fun _ _ _ h => h) (Or.inl ⟨by rfl, ?_⟩) ?_ ?_
      rotate_left
      · intro w'
        go_simp
        with_reducible rfl
      rotate_left
      · simp only [Act.put, List.setIfInBounds_toArray, List.set_cons_zero, List.set_cons_succ, i64_w, i32_w]
        rfl
      refine pure_ (i := 7) (N := (some 108)) (v := ?_) (a' := ?_) #[true, true, true, true, true, true, true, true, false, false, false, false, false, false, false, false, false, false, false, false, false, false, false, false, false, false, false, false, false, false, false] rfl rfl (by kernel_rfl) (fun _ _ _ h => h) (Or.inl ⟨by rfl, ?_⟩) ?_ ?_
      rotate_left
      · intro w'
        go_simp
        with_reducible rfl
      rotate_left
      · simp only [Act.put, List.setIfInBounds_toArray, List.set_cons_zero, List.set_cons_succ, i64_w, i32_w]
        rfl
      refine pure_ (i := 8) (N := (some 109)) (v := ?_) (a' := ?_) #[true, true, true, true, true, true, true, true, true, false, false, false, false, false, false, false, false, false, false, false, false, false, false, false, false, false, false, false, false, false, false] rfl rfl (by kernel_rfl) (fun _ _ _ h => h) (Or.inl ⟨by rfl, ?_⟩) ?_ ?_
      rotate_left
      · intro w'
        go_simp
        with_reducible rfl
      rotate_left
      · simp only [Act.put, List.setIfInBounds_toArray, List.set_cons_zero, List.set_cons_succ, i64_w, i32_w]
        rfl
      refine pure_ (i := 9) (N := (some 110)) (v := ?_) (a' := ?_) #[true, true, true, true, true, true, true, true, true, true, false, false, false, false, false, false, false, false, false, false, false, false, false, false, false, false, false, false, false, false, false] rfl rfl (by kernel_rfl) (fun _ _ _ h => h) (Or.inl ⟨by rfl, ?_⟩) ?_ ?_
      rotate_left
      · intro w'
        go_simp
        with_reducible rfl
      rotate_left
      · simp only [Act.put, List.setIfInBounds_toArray, List.set_cons_zero, List.set_cons_succ, i64_w, i32_w]
        rfl
      refine pure_ (i := 10) (N := (some 111)) (v := ?_) (a' := ?_) #[true, true, true, true, true, true, true, true, true, true, true, false, false, false, false, false, false, false, false, false, false, false, false, false, false, false, false, false, false, false, false] rfl rfl (by kernel_rfl) (fun _ _ _ h => h) (Or.inl ⟨by rfl, ?_⟩) ?_ ?_
      rotate_left
      · intro w'
        go_simp
        with_reducible rfl
      rotate_left
      · simp only [Act.put, List.setIfInBounds_toArray, List.set_cons_zero, List.set_cons_succ, i64_w, i32_w]
        rfl
      refine pure_ (i := 11) (N := (some 112)) (v := ?_) (a' := ?_) #[true, true, true, true, true, true, true, true, true, true, true, true, false, false, false, false, false, false, false, false, false, false, false, false, false, false, false, false, false, false, false] rfl rfl (by kernel_rfl) (fun _ _ _ h => h) (Or.inl ⟨by rfl, ?_⟩) ?_ ?_
      rotate_left
      · intro w'
        go_simp
        with_reducible rfl
      rotate_left
      · simp only [Act.put, List.setIfInBounds_toArray, List.set_cons_zero, List.set_cons_succ, i64_w, i32_w]
        rfl
      refine pure_ (i := 12) (N := (some 113)) (v := ?_) (a' := ?_) #[true, true, true, true, true, true, true, true, true, true, true, true, true, false, false, false, false, false, false, false, false, false, false, false, false, false, false, false, false, false, false] rfl rfl (by kernel_rfl) (fun _ _ _ h => h) (Or.inl ⟨by rfl, ?_⟩) ?_ ?_
      rotate_left
      · intro w'
        go_simp
        with_reducible rfl
      rotate_left
      · simp only [Act.put, List.setIfInBounds_toArray, List.set_cons_zero, List.set_cons_succ, i64_w, i32_w]
        rfl
      refine pure_ (i := 13) (N := (some 114)) (v := ?_) (a' := ?_) #[true, true, true, true, true, true, true, true, true, true, true, true, true, true, false, false, false, false, false, false, false, false, false, false, false, false, false, false, false, false, false] rfl rfl (by kernel_rfl) (fun _ _ _ h => h) (Or.inl ⟨by rfl, ?_⟩) ?_ ?_
      rotate_left
      · intro w'
        go_simp
        with_reducible rfl
      rotate_left
      · simp only [Act.put, List.setIfInBounds_toArray, List.set_cons_zero, List.set_cons_succ, i64_w, i32_w]
        rfl
      refine pure_ (i := 14) (N := (some 115)) (v := ?_) (a' := ?_) #[true, true, true, true, true, true, true, true, true, true, true, true, true, true, true, false, false, false, false, false, false, false, false, false, false, false, false, false, false, false, false] rfl rfl (by kernel_rfl) (fun _ _ _ h => h) (Or.inl ⟨by rfl, ?_⟩) ?_ ?_
      rotate_left
      · intro w'
        go_simp
        with_reducible rfl
      rotate_left
      · simp only [Act.put, List.setIfInBounds_toArray, List.set_cons_zero, List.set_cons_succ, i64_w, i32_w]
        rfl
      refine pure_ (i := 15) (N := (some 116)) (v := ?_) (a' := ?_) #[true, true, true, true, true, true, true, true, true, true, true, true, true, true, true, true, false, false, false, false, false, false, false, false, false, false, false, false, false, false, false] rfl rfl (by kernel_rfl) (fun _ _ _ h => h) (Or.inl ⟨by rfl, ?_⟩) ?_ ?_
      rotate_left
      · intro w'
        go_simp
        with_reducible rfl
      rotate_left
      · simp only [Act.put, List.setIfInBounds_toArray, List.set_cons_zero, List.set_cons_succ, i64_w, i32_w]
        rfl
      refine take_ (i := 16) (N := (some 117)) (v := ?_) (a' := ?_) #[true, true, true, true, true, true, true, true, true, true, true, true, true, true, true, true, true, false, false, false, false, false, false, false, false, false, false, false, false, false, false] rfl rfl (by kernel_rfl) (fun _ _ _ h => h) (Or.inl ⟨by rfl, ?_⟩) hHeld ?_ ?_
      rotate_left
      · intro w' hS
        refine exec_load_row 26 (.tmp 11) ?_ g1 ?_ 26 _ _ (hS.get 3 rfl) Try.underlying26 rfl size26
        · rfl
        · rfl
      rotate_left
      · simp only [Act.put, List.setIfInBounds_toArray, List.set_cons_zero, List.set_cons_succ, i64_w, i32_w]
        rfl
      refine take_ (i := 17) (N := (some 118)) (v := ?_) (a' := ?_) #[true, true, true, true, true, true, true, true, true, true, true, true, true, true, true, true, true, true, false, false, false, false, false, false, false, false, false, false, false, false, false] rfl rfl (by kernel_rfl) (fun _ _ _ h => h) (Or.inl ⟨by rfl, ?_⟩) hHeld ?_ ?_
      rotate_left
      · intro w' hS
        refine exec_load_row 26 (.tmp 13) ?_ g2 ?_ 26 _ _ (hS.get 2 rfl) Try.underlying26 rfl size26
        · rfl
        · rfl
      rotate_left
      · simp only [Act.put, List.setIfInBounds_toArray, List.set_cons_zero, List.set_cons_succ, i64_w, i32_w]
        rfl
      refine pure_ (i := 18) (N := (some 119)) (v := ?_) (a' := ?_) #[true, true, true, true, true, true, true, true, true, true, true, true, true, true, true, true, true, true, true, false, false, false, false, false, false, false, false, false, false, false, false] rfl rfl (by kernel_rfl) (fun _ _ _ h => h) (Or.inl ⟨by rfl, ?_⟩) ?_ ?_
      rotate_left
      · intro w'
        go_simp
        with_reducible rfl
      rotate_left
      · simp only [Act.put, List.setIfInBounds_toArray, List.set_cons_zero, List.set_cons_succ, i64_w, i32_w]
        rfl
      refine pure_ (i := 19) (N := (some 120)) (v := ?_) (a' := ?_) #[true, true, true, true, true, true, true, true, true, true, true, true, true, true, true, true, true, true, true, true, false, false, false, false, false, false, false, false, false, false, false] rfl rfl (by kernel_rfl) (fun _ _ _ h => h) (Or.inl ⟨by rfl, ?_⟩) ?_ ?_
      rotate_left
      · intro w'
        go_simp
        with_reducible rfl
      rotate_left
      · simp only [Act.put, List.setIfInBounds_toArray, List.set_cons_zero, List.set_cons_succ, i64_w, i32_w]
        rfl
      refine pure_ (i := 20) (N := (some 121)) (v := ?_) (a' := ?_) #[true, true, true, true, true, true, true, true, true, true, true, true, true, true, true, true, true, true, true, true, true, false, false, false, false, false, false, false, false, false, false] rfl rfl (by kernel_rfl) (fun _ _ _ h => h) (Or.inl ⟨by rfl, ?_⟩) ?_ ?_
      rotate_left
      · intro w'
        go_simp
        with_reducible rfl
      rotate_left
      · simp only [Act.put, List.setIfInBounds_toArray, List.set_cons_zero, List.set_cons_succ, i64_w, i32_w]
        rfl
      refine pure_ (i := 21) (N := (some 122)) (v := ?_) (a' := ?_) #[true, true, true, true, true, true, true, true, true, true, true, true, true, true, true, true, true, true, true, true, true, true, false, false, false, false, false, false, false, false, false] rfl rfl (by kernel_rfl) (fun _ _ _ h => h) (Or.inl ⟨by rfl, ?_⟩) ?_ ?_
      rotate_left
      · intro w'
        go_simp
        with_reducible rfl
      rotate_left
      · simp only [Act.put, List.setIfInBounds_toArray, List.set_cons_zero, List.set_cons_succ, i64_w, i32_w]
        rfl
      refine pure_ (i := 22) (N := (some 123)) (v := ?_) (a' := ?_) #[true, true, true, true, true, true, true, true, true, true, true, true, true, true, true, true, true, true, true, true, true, true, true, false, false, false, false, false, false, false, false] rfl rfl (by kernel_rfl) (fun _ _ _ h => h) (Or.inl ⟨by rfl, ?_⟩) ?_ ?_
      rotate_left
      · intro w'
        go_simp
        with_reducible rfl
      rotate_left
      · simp only [Act.put, List.setIfInBounds_toArray, List.set_cons_zero, List.set_cons_succ, i64_w, i32_w]
        rfl
      refine pure_ (i := 23) (N := (some 124)) (v := ?_) (a' := ?_) #[true, true, true, true, true, true, true, true, true, true, true, true, true, true, true, true, true, true, true, true, true, true, true, true, false, false, false, false, false, false, false] rfl rfl (by kernel_rfl) (fun _ _ _ h => h) (Or.inl ⟨by rfl, ?_⟩) ?_ ?_
      rotate_left
      · intro w'
        go_simp
        with_reducible rfl
      rotate_left
      · simp only [Act.put, List.setIfInBounds_toArray, List.set_cons_zero, List.set_cons_succ, i64_w, i32_w]
        rfl
      refine take_ (i := 24) (N := (some 125)) (v := undef) (a' := ?_) #[true, true, true, true, true, true, true, true, true, true, true, true, true, true, true, true, true, true, true, true, true, true, true, true, true, false, false, false, false, false, false] rfl rfl (by kernel_rfl) (fun _ _ _ h => h) (Or.inr ⟨by rfl, rfl⟩) hHeld ?_ ?_
      rotate_left
      · simp only [Act.put, List.setIfInBounds_toArray, List.set_cons_zero, List.set_cons_succ, i64_w, i32_w]
        rfl
      refine take_ (i := 25) (N := (some 126)) (v := undef) (a' := ?_) #[true, true, true, true, true, true, true, true, true, true, true, true, true, true, true, true, true, true, true, true, true, true, true, true, true, true, false, false, false, false, false] rfl rfl (by kernel_rfl) (fun _ _ _ h => h) (Or.inr ⟨by rfl, rfl⟩) hHeld ?_ ?_
      rotate_left
      · simp only [Act.put, List.setIfInBounds_toArray, List.set_cons_zero, List.set_cons_succ, i64_w, i32_w]
        rfl
      refine one_ (i := 26) (N := (some 127)) #[true, true, true, true, true, true, true, true, true, true, true, true, true, true, true, true, true, true, true, true, true, true, true, true, true, true, true, false, false, false, false] rfl rfl (by kernel_rfl) (by decide) (fun K hK => ?_)
      refine off_ (by rfl) (hK.out _ _ hHeld (fun hHeld => ?_))
      clear hK K
      refine norm_ (a' := ?_) ?_ ?_
      rotate_left
      · show Act.put _ (some 127) _ = _
        simp only [Act.put, List.setIfInBounds_toArray, List.set_cons_zero, List.set_cons_succ, i64_w, i32_w]
        rfl
      refine one_ (i := 27) (N := (some 128)) #[true, true, true, true, true, true, true, true, true, true, true, true, true, true, true, true, true, true, true, true, true, true, true, true, true, true, true, true, false, false, false] rfl rfl (by kernel_rfl) (by decide) (fun K hK => ?_)
      refine off_ (by rfl) (hK.out _ _ hHeld (fun hHeld => ?_))
      clear hK K
      refine norm_ (a' := ?_) ?_ ?_
      rotate_left
      · show Act.put _ (some 128) _ = _
        simp only [Act.put, List.setIfInBounds_toArray, List.set_cons_zero, List.set_cons_succ, i64_w, i32_w]
        rfl
      refine pure_ (i := 28) (N := (some 129)) (v := ?_) (a' := ?_) #[true, true, true, true, true, true, true, true, true, true, true, true, true, true, true, true, true, true, true, true, true, true, true, true, true, true, true, true, true, false, false] rfl rfl (by kernel_rfl) (fun _ _ _ h => h) (Or.inl ⟨by rfl, ?_⟩) ?_ ?_
      rotate_left
      · intro w'
        go_simp
        with_reducible rfl
      rotate_left
      · simp only [Act.put, List.setIfInBounds_toArray, List.set_cons_zero, List.set_cons_succ, i64_w, i32_w]
        rfl
      refine pure_ (i := 29) (N := (some 130)) (v := ?_) (a' := ?_) #[true, true, true, true, true, true, true, true, true, true, true, true, true, true, true, true, true, true, true, true, true, true, true, true, true, true, true, true, true, true, false] rfl rfl (by kernel_rfl) (fun _ _ _ h => h) (Or.inl ⟨by rfl, ?_⟩) ?_ ?_
      rotate_left
      · intro w'
        go_simp
        with_reducible rfl
      rotate_left
      · simp only [Act.put, List.setIfInBounds_toArray, List.set_cons_zero, List.set_cons_succ, i64_w, i32_w]
        rfl
      refine pure_ (i := 30) (N := (some 8)) (v := ?_) (a' := ?_) #[true, true, true, true, true, true, true, true, true, true, true, true, true, true, true, true, true, true, true, true, true, true, true, true, true, true, true, true, true, true, true] rfl rfl (by kernel_rfl) (fun _ _ _ h => h) (Or.inl ⟨by rfl, ?_⟩) ?_ ?_
      rotate_left
      · intro w'
        go_simp
        with_reducible rfl
      rotate_left
      · simp only [Act.put, List.setIfInBounds_toArray, List.set_cons_zero, List.set_cons_succ, i64_w, i32_w]
        rfl
      refine done_ (by kernel_rfl) ?_
      go_wp2_with fail
      go_ret
      exact ⟨rfl, hI.out.B⟩
end Go.Proofs.Ytlgdaegaahnkbaa.Tm
