-- Written by a program of this session (wip/tools/myprint.py over the kit's print).
import Derived.Test.YtlgdaegaahnkbaaMCx0
namespace Go.Proofs.Ytlgdaegaahnkbaa.MC
open Go.RowKit Go.Proofs.YtlgdaegaahnkbaaW.PrintWords Go.Proofs.YtlgdaegaahnkbaaW.PrintLast Go.Proofs.YtlgdaegaahnkbaaW.PrintMore
attribute [local go_sem] max2_int min2_int max_two min_two max_three min_three max_four min_four   -- for this text's walks alone
set_option linter.unusedVariables false
set_option linter.unusedSimpArgs false

/-! ### spec_floorDiv: function 41 -/
def spec_floorDiv.f (a0 : Int) (a1 : Int) : Option (Int) := if a1 = 0 then (none) else (if (Int.tmod a0 a1) < 0 then (some (wrap64 ((wrap64 (Int.tdiv a0 a1)) - 1))) else (some (wrap64 (Int.tdiv a0 a1))))
set_option maxHeartbeats 8000000 in
set_option maxRecDepth 100000 in
theorem spec_floorDiv.calls (a0 : Int) (a1 : Int) (r : Int) (w : World) (h : spec_floorDiv.f a0 a1 = some r) :
    Calls Try.prog 41 #[.int .i64 a0, .int .i64 a1] w fun e w' => e = .returned (.int .i64 r) ∧ Drawn0 w w' := by
  have H : (if a1 = 0 then (none) else (if (Int.tmod a0 a1) < 0 then (some (wrap64 ((wrap64 (Int.tdiv a0 a1)) - 1))) else (some (wrap64 (Int.tdiv a0 a1))))) = some r := h
  clear h
  by_cases c3 : a1 = 0
  · rw [if_pos c3] at H
    exact absurd H (by simp)
  · rw [if_neg c3] at H
    have c3b0 : (a1 == 0) = false := beq_eq_false_iff_ne.mpr c3
    have c3b1 : (a1 != 0) = true := bne_iff_ne.mpr c3
    by_cases c4 : (Int.tmod a0 a1) < 0
    · rw [if_pos c4] at H
      have c4b0 : decide ((Int.tmod a0 a1) < 0) = true := decide_eq_true c4
      clear c4
      obtain rfl := Option.some.inj H
      go_enter Try.func41, Try.ntmps41
      go_wp2
      go_ret
      exact ⟨by first | rfl | (simp; done) | (simp [*]; done) | (simp [bne]; done) | (simp [bne, List.isEmpty_iff]; done) | (cases a0.toList <;> simp; done), by repeat (first | exact Drawn0.refl _ | apply Drawn0.step)⟩
    · rw [if_neg c4] at H
      have c4b0 : decide ((Int.tmod a0 a1) < 0) = false := decide_eq_false c4
      clear c4
      obtain rfl := Option.some.inj H
      go_enter Try.func41, Try.ntmps41
      go_wp2
      go_ret
      exact ⟨by first | rfl | (simp; done) | (simp [*]; done) | (simp [bne]; done) | (simp [bne, List.isEmpty_iff]; done) | (cases a0.toList <;> simp; done), by repeat (first | exact Drawn0.refl _ | apply Drawn0.step)⟩

/-! ### spec_floorMod: function 52 -/
def spec_floorMod.f (a0 : Int) (a1 : Int) : Option (Int) := (spec_floorDiv.f a0 a1).bind fun t101 => (some (wrap64 (a0 - (wrap64 (a1 * t101)))))
set_option maxHeartbeats 8000000 in
set_option maxRecDepth 100000 in
theorem spec_floorMod.calls (a0 : Int) (a1 : Int) (r : Int) (w : World) (h : spec_floorMod.f a0 a1 = some r) :
    Calls Try.prog 52 #[.int .i64 a0, .int .i64 a1] w fun e w' => e = .returned (.int .i64 r) ∧ Drawn0 w w' := by
  have H : ((spec_floorDiv.f a0 a1).bind fun t101 => (some (wrap64 (a0 - (wrap64 (a1 * t101)))))) = some r := h
  clear h
  replace H := Option.bind_eq_some_iff.mp H
  obtain ⟨t101, A30, H⟩ := H
  replace H : (some (wrap64 (a0 - (wrap64 (a1 * t101))))) = some r := H
  have A3 := Aside0.mk A30
  clear A30
  obtain rfl := Option.some.inj H
  go_enter Try.func52, Try.ntmps52
  go_wp2_with (first | ((with_reducible refine gate_callee (f := 41) rfl ?_); refine goesL_ (some 9) rfl rfl Try.func41 (by kernel_rfl) rfl #[.int .i64 a0, .int .i64 a1] rfl (by (try simp only [List.map_toArray, List.map_cons, List.map_nil]); first | done | rfl | (simp only [List.length_drop, List.length_take]; rfl)) ?_; (with_reducible refine (spec_floorDiv.calls a0 a1 t101 _ A3.out).mono ?_); rintro e w' ⟨rfl, ⟨nd, rfl⟩⟩; refine ⟨_, rfl, ?_⟩))
  go_ret
  exact ⟨by first | rfl | (simp; done) | (simp [*]; done) | (simp [bne]; done) | (simp [bne, List.isEmpty_iff]; done) | (cases a0.toList <;> simp; done), by repeat (first | exact Drawn0.refl _ | apply Drawn0.step)⟩

/-! ### spec_CronYearStart: function 67 -/
def spec_CronYearStart.f (a0 : Int) : Option (Int) := (spec_floorDiv.f (wrap64 (a0 - 1)) 4).bind fun t102 => ((spec_floorDiv.f (wrap64 (a0 - 1)) 100).bind fun t103 => ((spec_floorDiv.f (wrap64 (a0 - 1)) 400).bind fun t104 => (some (wrap64 ((wrap64 ((wrap64 ((wrap64 ((wrap64 (365 * (wrap64 (a0 - 1)))) + t102)) - t103)) + t104)) - 719162)))))
set_option maxHeartbeats 8000000 in
set_option maxRecDepth 100000 in
theorem spec_CronYearStart.calls (a0 : Int) (r : Int) (w : World) (h : spec_CronYearStart.f a0 = some r) :
    Calls Try.prog 67 #[.int .i64 a0] w fun e w' => e = .returned (.int .i64 r) ∧ Drawn0 w w' := by
  have H : ((spec_floorDiv.f (wrap64 (a0 - 1)) 4).bind fun t102 => ((spec_floorDiv.f (wrap64 (a0 - 1)) 100).bind fun t103 => ((spec_floorDiv.f (wrap64 (a0 - 1)) 400).bind fun t104 => (some (wrap64 ((wrap64 ((wrap64 ((wrap64 ((wrap64 (365 * (wrap64 (a0 - 1)))) + t102)) - t103)) + t104)) - 719162)))))) = some r := h
  clear h
  replace H := Option.bind_eq_some_iff.mp H
  obtain ⟨t102, A20, H⟩ := H
  replace H : ((spec_floorDiv.f (wrap64 (a0 - 1)) 100).bind fun t103 => ((spec_floorDiv.f (wrap64 (a0 - 1)) 400).bind fun t104 => (some (wrap64 ((wrap64 ((wrap64 ((wrap64 ((wrap64 (365 * (wrap64 (a0 - 1)))) + t102)) - t103)) + t104)) - 719162))))) = some r := H
  have A2 := Aside0.mk A20
  clear A20
  replace H := Option.bind_eq_some_iff.mp H
  obtain ⟨t103, A30, H⟩ := H
  replace H : ((spec_floorDiv.f (wrap64 (a0 - 1)) 400).bind fun t104 => (some (wrap64 ((wrap64 ((wrap64 ((wrap64 ((wrap64 (365 * (wrap64 (a0 - 1)))) + t102)) - t103)) + t104)) - 719162)))) = some r := H
  have A3 := Aside0.mk A30
  clear A30
  replace H := Option.bind_eq_some_iff.mp H
  obtain ⟨t104, A40, H⟩ := H
  replace H : (some (wrap64 ((wrap64 ((wrap64 ((wrap64 ((wrap64 (365 * (wrap64 (a0 - 1)))) + t102)) - t103)) + t104)) - 719162))) = some r := H
  have A4 := Aside0.mk A40
  clear A40
  obtain rfl := Option.some.inj H
  go_enter Try.func67, Try.ntmps67
  go_wp2_with (first | ((with_reducible refine gate_callee (f := 41) rfl ?_); refine goesL_ (some 9) rfl rfl Try.func41 (by kernel_rfl) rfl #[.int .i64 (wrap64 (a0 - 1)), .int .i64 4] rfl (by (try simp only [List.map_toArray, List.map_cons, List.map_nil]); first | done | rfl | (simp only [List.length_drop, List.length_take]; rfl)) ?_; (with_reducible refine (spec_floorDiv.calls (wrap64 (a0 - 1)) 4 t102 _ A2.out).mono ?_); rintro e w' ⟨rfl, ⟨nd, rfl⟩⟩; refine ⟨_, rfl, ?_⟩) | ((with_reducible refine gate_callee (f := 41) rfl ?_); refine goesL_ (some 12) rfl rfl Try.func41 (by kernel_rfl) rfl #[.int .i64 (wrap64 (a0 - 1)), .int .i64 100] rfl (by (try simp only [List.map_toArray, List.map_cons, List.map_nil]); first | done | rfl | (simp only [List.length_drop, List.length_take]; rfl)) ?_; (with_reducible refine (spec_floorDiv.calls (wrap64 (a0 - 1)) 100 t103 _ A3.out).mono ?_); rintro e w' ⟨rfl, ⟨nd, rfl⟩⟩; refine ⟨_, rfl, ?_⟩) | ((with_reducible refine gate_callee (f := 41) rfl ?_); refine goesL_ (some 15) rfl rfl Try.func41 (by kernel_rfl) rfl #[.int .i64 (wrap64 (a0 - 1)), .int .i64 400] rfl (by (try simp only [List.map_toArray, List.map_cons, List.map_nil]); first | done | rfl | (simp only [List.length_drop, List.length_take]; rfl)) ?_; (with_reducible refine (spec_floorDiv.calls (wrap64 (a0 - 1)) 400 t104 _ A4.out).mono ?_); rintro e w' ⟨rfl, ⟨nd, rfl⟩⟩; refine ⟨_, rfl, ?_⟩))
  go_ret
  exact ⟨by first | rfl | (simp; done) | (simp [*]; done) | (simp [bne]; done) | (simp [bne, List.isEmpty_iff]; done) | (cases a0.toList <;> simp; done), by repeat (first | exact Drawn0.refl _ | apply Drawn0.step)⟩

/-! ### spec_CronLeap: function 82 -/
def spec_CronLeap.f (a0 : Int) : Option (Bool) := if (Int.tmod a0 4) = 0 then (if (Int.tmod a0 100) = 0 then (some ((Int.tmod a0 400) == 0)) else (some true)) else (some false)
set_option maxHeartbeats 8000000 in
set_option maxRecDepth 100000 in
theorem spec_CronLeap.calls (a0 : Int) (r : Bool) (w : World) (h : spec_CronLeap.f a0 = some r) :
    Calls Try.prog 82 #[.int .i64 a0] w fun e w' => e = .returned (.bool r) ∧ Drawn0 w w' := by
  have H : (if (Int.tmod a0 4) = 0 then (if (Int.tmod a0 100) = 0 then (some ((Int.tmod a0 400) == 0)) else (some true)) else (some false)) = some r := h
  clear h
  by_cases c2 : (Int.tmod a0 4) = 0
  · rw [if_pos c2] at H
    have c2b0 : ((Int.tmod a0 4) == 0) = true := beq_iff_eq.mpr c2
    have c2b1 : ((Int.tmod a0 4) != 0) = false := bne_eq_false_iff_eq.mpr c2
    clear c2
    by_cases c3 : (Int.tmod a0 100) = 0
    · rw [if_pos c3] at H
      have c3b0 : ((Int.tmod a0 100) == 0) = true := beq_iff_eq.mpr c3
      have c3b1 : ((Int.tmod a0 100) != 0) = false := bne_eq_false_iff_eq.mpr c3
      clear c3
      obtain rfl := Option.some.inj H
      go_enter Try.func82, Try.ntmps82
      go_wp2
      go_ret
      exact ⟨by first | rfl | (simp; done) | (simp [*]; done) | (simp [bne]; done) | (simp [bne, List.isEmpty_iff]; done) | (cases a0.toList <;> simp; done), by repeat (first | exact Drawn0.refl _ | apply Drawn0.step)⟩
    · rw [if_neg c3] at H
      have c3b0 : ((Int.tmod a0 100) == 0) = false := beq_eq_false_iff_ne.mpr c3
      have c3b1 : ((Int.tmod a0 100) != 0) = true := bne_iff_ne.mpr c3
      obtain rfl := Option.some.inj H
      go_enter Try.func82, Try.ntmps82
      go_wp2
      go_ret
      exact ⟨by first | rfl | (simp; done) | (simp [*]; done) | (simp [bne]; done) | (simp [bne, List.isEmpty_iff]; done) | (cases a0.toList <;> simp; done), by repeat (first | exact Drawn0.refl _ | apply Drawn0.step)⟩
  · rw [if_neg c2] at H
    have c2b0 : ((Int.tmod a0 4) == 0) = false := beq_eq_false_iff_ne.mpr c2
    have c2b1 : ((Int.tmod a0 4) != 0) = true := bne_iff_ne.mpr c2
    obtain rfl := Option.some.inj H
    go_enter Try.func82, Try.ntmps82
    go_wp2
    go_ret
    exact ⟨by first | rfl | (simp; done) | (simp [*]; done) | (simp [bne]; done) | (simp [bne, List.isEmpty_iff]; done) | (cases a0.toList <;> simp; done), by repeat (first | exact Drawn0.refl _ | apply Drawn0.step)⟩

/-! ### spec_CronMonthDays: function 68 -/
def spec_CronMonthDays.f (a0 : Int) (a1 : Int) : Option (Int) := if a1 = 2 then ((spec_CronLeap.f a0).bind fun t105 => (if t105 = true then (some 29) else (some 28))) else (if a1 = 4 then (some 30) else (if a1 = 6 then (some 30) else (if a1 = 9 then (some 30) else (if a1 = 11 then (some 30) else (some 31)))))
set_option maxHeartbeats 8000000 in
set_option maxRecDepth 100000 in
theorem spec_CronMonthDays.calls (a0 : Int) (a1 : Int) (r : Int) (w : World) (h : spec_CronMonthDays.f a0 a1 = some r) :
    Calls Try.prog 68 #[.int .i64 a0, .int .i64 a1] w fun e w' => e = .returned (.int .i64 r) ∧ Drawn0 w w' := by
  have H : (if a1 = 2 then ((spec_CronLeap.f a0).bind fun t105 => (if t105 = true then (some 29) else (some 28))) else (if a1 = 4 then (some 30) else (if a1 = 6 then (some 30) else (if a1 = 9 then (some 30) else (if a1 = 11 then (some 30) else (some 31)))))) = some r := h
  clear h
  by_cases c3 : a1 = 2
  · rw [if_pos c3] at H
    have c3b0 : (a1 == 2) = true := beq_iff_eq.mpr c3
    have c3b1 : (a1 != 2) = false := bne_eq_false_iff_eq.mpr c3
    clear c3
    replace H := Option.bind_eq_some_iff.mp H
    obtain ⟨t105, A40, H⟩ := H
    replace H : (if t105 = true then (some 29) else (some 28)) = some r := H
    have A4 := Aside0.mk A40
    clear A40
    by_cases c5 : t105 = true
    · subst c5
      have H1 : (some 29) = some r := by rw [if_pos rfl] at H; exact H
      clear H
      have H := H1
      clear H1
      obtain rfl := Option.some.inj H
      go_enter Try.func68, Try.ntmps68
      go_wp2_with (first | ((with_reducible refine gate_callee (f := 82) rfl ?_); refine goesL_ (some 9) rfl rfl Try.func82 (by kernel_rfl) rfl #[.int .i64 a0] rfl (by (try simp only [List.map_toArray, List.map_cons, List.map_nil]); first | done | rfl | (simp only [List.length_drop, List.length_take]; rfl)) ?_; (with_reducible refine (spec_CronLeap.calls a0 true _ A4.out).mono ?_); rintro e w' ⟨rfl, ⟨nd, rfl⟩⟩; refine ⟨_, rfl, ?_⟩))
      go_ret
      exact ⟨by first | rfl | (simp; done) | (simp [*]; done) | (simp [bne]; done) | (simp [bne, List.isEmpty_iff]; done) | (cases a0.toList <;> simp; done), by repeat (first | exact Drawn0.refl _ | apply Drawn0.step)⟩
    · replace c5 := Bool.eq_false_iff.mpr c5
      subst c5
      have H1 : (some 28) = some r := by rw [if_neg (show ¬ (false = true) by decide)] at H; exact H
      clear H
      have H := H1
      clear H1
      obtain rfl := Option.some.inj H
      go_enter Try.func68, Try.ntmps68
      go_wp2_with (first | ((with_reducible refine gate_callee (f := 82) rfl ?_); refine goesL_ (some 9) rfl rfl Try.func82 (by kernel_rfl) rfl #[.int .i64 a0] rfl (by (try simp only [List.map_toArray, List.map_cons, List.map_nil]); first | done | rfl | (simp only [List.length_drop, List.length_take]; rfl)) ?_; (with_reducible refine (spec_CronLeap.calls a0 false _ A4.out).mono ?_); rintro e w' ⟨rfl, ⟨nd, rfl⟩⟩; refine ⟨_, rfl, ?_⟩))
      go_ret
      exact ⟨by first | rfl | (simp; done) | (simp [*]; done) | (simp [bne]; done) | (simp [bne, List.isEmpty_iff]; done) | (cases a0.toList <;> simp; done), by repeat (first | exact Drawn0.refl _ | apply Drawn0.step)⟩
  · rw [if_neg c3] at H
    have c3b0 : (a1 == 2) = false := beq_eq_false_iff_ne.mpr c3
    have c3b1 : (a1 != 2) = true := bne_iff_ne.mpr c3
    by_cases c6 : a1 = 4
    · rw [if_pos c6] at H
      have c6b0 : (a1 == 4) = true := beq_iff_eq.mpr c6
      have c6b1 : (a1 != 4) = false := bne_eq_false_iff_eq.mpr c6
      clear c6
      obtain rfl := Option.some.inj H
      go_enter Try.func68, Try.ntmps68
      go_wp2
      go_ret
      exact ⟨by first | rfl | (simp; done) | (simp [*]; done) | (simp [bne]; done) | (simp [bne, List.isEmpty_iff]; done) | (cases a0.toList <;> simp; done), by repeat (first | exact Drawn0.refl _ | apply Drawn0.step)⟩
    · rw [if_neg c6] at H
      have c6b0 : (a1 == 4) = false := beq_eq_false_iff_ne.mpr c6
      have c6b1 : (a1 != 4) = true := bne_iff_ne.mpr c6
      by_cases c7 : a1 = 6
      · rw [if_pos c7] at H
        have c7b0 : (a1 == 6) = true := beq_iff_eq.mpr c7
        have c7b1 : (a1 != 6) = false := bne_eq_false_iff_eq.mpr c7
        clear c7
        obtain rfl := Option.some.inj H
        go_enter Try.func68, Try.ntmps68
        go_wp2
        go_ret
        exact ⟨by first | rfl | (simp; done) | (simp [*]; done) | (simp [bne]; done) | (simp [bne, List.isEmpty_iff]; done) | (cases a0.toList <;> simp; done), by repeat (first | exact Drawn0.refl _ | apply Drawn0.step)⟩
      · rw [if_neg c7] at H
        have c7b0 : (a1 == 6) = false := beq_eq_false_iff_ne.mpr c7
        have c7b1 : (a1 != 6) = true := bne_iff_ne.mpr c7
        by_cases c8 : a1 = 9
        · rw [if_pos c8] at H
          have c8b0 : (a1 == 9) = true := beq_iff_eq.mpr c8
          have c8b1 : (a1 != 9) = false := bne_eq_false_iff_eq.mpr c8
          clear c8
          obtain rfl := Option.some.inj H
          go_enter Try.func68, Try.ntmps68
          go_wp2
          go_ret
          exact ⟨by first | rfl | (simp; done) | (simp [*]; done) | (simp [bne]; done) | (simp [bne, List.isEmpty_iff]; done) | (cases a0.toList <;> simp; done), by repeat (first | exact Drawn0.refl _ | apply Drawn0.step)⟩
        · rw [if_neg c8] at H
          have c8b0 : (a1 == 9) = false := beq_eq_false_iff_ne.mpr c8
          have c8b1 : (a1 != 9) = true := bne_iff_ne.mpr c8
          by_cases c9 : a1 = 11
          · rw [if_pos c9] at H
            have c9b0 : (a1 == 11) = true := beq_iff_eq.mpr c9
            have c9b1 : (a1 != 11) = false := bne_eq_false_iff_eq.mpr c9
            clear c9
            obtain rfl := Option.some.inj H
            go_enter Try.func68, Try.ntmps68
            go_wp2
            go_ret
            exact ⟨by first | rfl | (simp; done) | (simp [*]; done) | (simp [bne]; done) | (simp [bne, List.isEmpty_iff]; done) | (cases a0.toList <;> simp; done), by repeat (first | exact Drawn0.refl _ | apply Drawn0.step)⟩
          · rw [if_neg c9] at H
            have c9b0 : (a1 == 11) = false := beq_eq_false_iff_ne.mpr c9
            have c9b1 : (a1 != 11) = true := bne_iff_ne.mpr c9
            obtain rfl := Option.some.inj H
            go_enter Try.func68, Try.ntmps68
            go_wp2
            go_ret
            exact ⟨by first | rfl | (simp; done) | (simp [*]; done) | (simp [bne]; done) | (simp [bne, List.isEmpty_iff]; done) | (cases a0.toList <;> simp; done), by repeat (first | exact Drawn0.refl _ | apply Drawn0.step)⟩

/-! ### spec_CronDateOf: function 42 -/
mutual
def spec_CronDateOf.j0 : Nat → Int → Int → Option (Int × Int × Int)
  | 0, _, _ => none
  | k + 1, x0, x3 => spec_CronDateOf.l0 k x0 x3
def spec_CronDateOf.l0 : Nat → Int → Int → Option (Int × Int × Int)
  | 0, _, _ => none
  | k + 1, x0, x3 => (spec_CronYearStart.f (wrap64 (x3 + 1))).bind fun t109 => (if t109 ≤ x0 then (spec_CronDateOf.l0 k x0 (wrap64 (x3 + 1))) else ((spec_CronYearStart.f x3).bind fun t110 => (spec_CronDateOf.l1 k x3 (wrap64 (x0 - t110)) 1)))
def spec_CronDateOf.l1 : Nat → Int → Int → Int → Option (Int × Int × Int)
  | 0, _, _, _ => none
  | k + 1, x3, x4, x5 => (spec_CronMonthDays.f x3 x5).bind fun t111 => (if x4 ≥ t111 then ((spec_CronMonthDays.f x3 x5).bind fun t112 => (spec_CronDateOf.l1 k x3 (wrap64 (x4 - t112)) (wrap64 (x5 + 1)))) else (some (x3, x5, wrap64 (x4 + 1))))
end
def spec_CronDateOf.f (k : Nat) (a0 : Int) : Option (Int × Int × Int) := (spec_floorDiv.f a0 366).bind fun t107 => (if a0 < 0 then ((spec_floorDiv.f a0 365).bind fun t108 => (spec_CronDateOf.j0 k a0 (wrap64 ((wrap64 (1970 + t108)) - 1)))) else (spec_CronDateOf.j0 k a0 (wrap64 (1970 + t107))))
theorem spec_CronDateOf.mono_l : ∀ k, (∀ y0 y1, LeO (spec_CronDateOf.j0 k y0 y1) (spec_CronDateOf.j0 (k + 1) y0 y1)) ∧ (∀ y0 y1, LeO (spec_CronDateOf.l0 k y0 y1) (spec_CronDateOf.l0 (k + 1) y0 y1)) ∧ (∀ y0 y1 y2, LeO (spec_CronDateOf.l1 k y0 y1 y2) (spec_CronDateOf.l1 (k + 1) y0 y1 y2))
  | 0 => ⟨fun _ _ r h => by simp [spec_CronDateOf.j0] at h, fun _ _ r h => by simp [spec_CronDateOf.l0] at h, fun _ _ _ r h => by simp [spec_CronDateOf.l1] at h⟩
  | k + 1 => by
    obtain ⟨ih0, ih1, ih2⟩ := spec_CronDateOf.mono_l k
    refine ⟨?_, ?_, ?_⟩
    · intro y0 y1
      unfold spec_CronDateOf.j0
      repeat' first
      | (with_reducible exact ih0 _ _)
      | (with_reducible exact ih1 _ _)
      | (with_reducible exact ih2 _ _ _)
      | (with_reducible exact LeO.refl _)
      | (with_reducible exact LeO.none _)
      | (with_reducible refine LeO.ite ?_ ?_)
      | (with_reducible refine LeO.bind ?_ (fun _ => ?_))
      | exact ih0 _ _
      | exact ih1 _ _
      | exact ih2 _ _ _
      | exact LeO.none _
      | refine LeO.ite ?_ ?_
      | refine LeO.bind ?_ (fun _ => ?_)
    · intro y0 y1
      unfold spec_CronDateOf.l0
      repeat' first
      | (with_reducible exact ih0 _ _)
      | (with_reducible exact ih1 _ _)
      | (with_reducible exact ih2 _ _ _)
      | (with_reducible exact LeO.refl _)
      | (with_reducible exact LeO.none _)
      | (with_reducible refine LeO.ite ?_ ?_)
      | (with_reducible refine LeO.bind ?_ (fun _ => ?_))
      | exact ih0 _ _
      | exact ih1 _ _
      | exact ih2 _ _ _
      | exact LeO.none _
      | refine LeO.ite ?_ ?_
      | refine LeO.bind ?_ (fun _ => ?_)
    · intro y0 y1 y2
      unfold spec_CronDateOf.l1
      repeat' first
      | (with_reducible exact ih0 _ _)
      | (with_reducible exact ih1 _ _)
      | (with_reducible exact ih2 _ _ _)
      | (with_reducible exact LeO.refl _)
      | (with_reducible exact LeO.none _)
      | (with_reducible refine LeO.ite ?_ ?_)
      | (with_reducible refine LeO.bind ?_ (fun _ => ?_))
      | exact ih0 _ _
      | exact ih1 _ _
      | exact ih2 _ _ _
      | exact LeO.none _
      | refine LeO.ite ?_ ?_
      | refine LeO.bind ?_ (fun _ => ?_)
theorem spec_CronDateOf.mono : ∀ a0 k, LeO (spec_CronDateOf.f k a0) (spec_CronDateOf.f (k + 1) a0) := by
  intro a0 k
  obtain ⟨ih0, ih1, ih2⟩ := spec_CronDateOf.mono_l k
  unfold spec_CronDateOf.f
  repeat' first
      | (with_reducible exact ih0 _ _)
      | (with_reducible exact ih1 _ _)
      | (with_reducible exact ih2 _ _ _)
      | (with_reducible exact LeO.refl _)
      | (with_reducible exact LeO.none _)
      | (with_reducible refine LeO.ite ?_ ?_)
      | (with_reducible refine LeO.bind ?_ (fun _ => ?_))
      | exact ih0 _ _
      | exact ih1 _ _
      | exact ih2 _ _ _
      | exact LeO.none _
      | refine LeO.ite ?_ ?_
      | refine LeO.bind ?_ (fun _ => ?_)
set_option maxHeartbeats 8000000 in
set_option maxRecDepth 100000 in
theorem spec_CronDateOf.calls (k : Nat) (a0 : Int) (r1 : Int) (r2 : Int) (r3 : Int) (w : World) (h : spec_CronDateOf.f k a0 = some (r1, r2, r3)) :
    Calls Try.prog 42 #[.int .i64 a0] w fun e w' => e = .returned (.agg #[.int .i64 r1, .int .i64 r2, .int .i64 r3]) ∧ Below w.heap.size w w' := by
  have hu80 := Try.underlying80
  have HB := Aside0.mk (Below.refl w.heap.size w)
  have H : ((spec_floorDiv.f a0 366).bind fun t107 => (if a0 < 0 then ((spec_floorDiv.f a0 365).bind fun t108 => (spec_CronDateOf.j0 k a0 (wrap64 ((wrap64 (1970 + t108)) - 1)))) else (spec_CronDateOf.j0 k a0 (wrap64 (1970 + t107))))) = some (r1, r2, r3) := h
  clear h
  replace H := Option.bind_eq_some_iff.mp H
  obtain ⟨t107, A20, H⟩ := H
  replace H : (if a0 < 0 then ((spec_floorDiv.f a0 365).bind fun t108 => (spec_CronDateOf.j0 k a0 (wrap64 ((wrap64 (1970 + t108)) - 1)))) else (spec_CronDateOf.j0 k a0 (wrap64 (1970 + t107)))) = some (r1, r2, r3) := H
  have A2 := Aside0.mk A20
  clear A20
  have HC3 := Aside0.mk H
  clear H
  go_enter Try.func42, Try.ntmps42
  go_upto_if 10 with (first | ((with_reducible refine gate_dst (N := 2) rfl ?_); refine box_event ?hg (N := 2) ?hd (cs := #[.int .i64 0, .int .i64 0, .int .i64 0]) (t := 80) ?hr ?_; (case hd => rfl); (case hg => rfl); (case hr => first | (go_simp; done) | (go_simp; rfl)); intro gb106 hg w4 hbox hb; have n0_ := Aside0.mk (below_step (by repeat (first | (with_reducible first | exact HB.out | apply below_alloc | apply pw_below_drewN | apply below_drew1) | exact HB.out)) hb); have n1_ := Aside0.mk (hbox); have n2_ := Aside0.mk ((by rw [hg]; exact (below_size (by repeat (first | (with_reducible first | exact HB.out | apply below_alloc | apply pw_below_drewN | apply below_drew1) | exact HB.out))) : w.heap.size ≤ gb106)); have n3_ := Aside0.mk ((by rw [hg]; exact (below_size (by repeat (first | (with_reducible first | exact HB.out | apply below_alloc | apply pw_below_drewN | apply below_drew1) | exact HB.out))) : w.heap.size ≤ gb106)); clear HB; have HB := n0_; have BK106 := n1_; have GW106 := n2_; have GE106 := n3_; clear n0_ n1_ n2_ n3_; clear hb hbox hg) | ((with_reducible refine gate_callee (f := 41) rfl ?_); refine goesL_ (some 7) rfl rfl Try.func41 (by kernel_rfl) rfl #[.int .i64 a0, .int .i64 366] rfl (by (try simp only [List.map_toArray, List.map_cons, List.map_nil]); first | done | rfl | (simp only [List.length_drop, List.length_take]; rfl)) ?_; (with_reducible refine (spec_floorDiv.calls a0 366 t107 _ A2.out).mono ?_); rintro e w' ⟨rfl, ⟨nd, rfl⟩⟩; refine ⟨_, rfl, ?_⟩))
  (try simp only [Act.put, List.setIfInBounds_toArray, List.set_cons_zero, List.set_cons_succ])
  go_cut [3] (fun v3 wc => ∃ (kq : Nat) (x3_2 : Int), v3 = .int .i64 x3_2 ∧ Aside0 (spec_CronDateOf.j0 kq a0 x3_2 = some (r1, r2, r3)) ∧ Aside0 (kq ≤ k) ∧ Aside0 (wc.heap[gb106]? = some (.cells #[.int .i64 0, .int .i64 0, .int .i64 0] 80 (0, 0))) ∧ Aside0 (Below w.heap.size w wc))
  case first =>
    have H := HC3.out
    clear HC3
    by_cases c5 : a0 < 0
    · rw [if_pos c5] at H
      have c5b0 : decide (a0 < 0) = true := decide_eq_true c5
      clear c5
      (first | rw [c5b0] | (simp only [i64_w, i32_w]; rw [c5b0]) | skip)
      replace H := Option.bind_eq_some_iff.mp H
      obtain ⟨t108, A60, H⟩ := H
      replace H : (spec_CronDateOf.j0 k a0 (wrap64 ((wrap64 (1970 + t108)) - 1))) = some (r1, r2, r3) := H
      have A6 := Aside0.mk A60
      clear A60
      have H' := Aside0.mk H
      clear H
      go_wp2_with (first | ((with_reducible refine gate_callee (f := 41) rfl ?_); refine goesL_ (some 12) rfl rfl Try.func41 (by kernel_rfl) rfl #[.int .i64 a0, .int .i64 365] rfl (by (try simp only [List.map_toArray, List.map_cons, List.map_nil]); first | done | rfl | (simp only [List.length_drop, List.length_take]; rfl)) ?_; (with_reducible refine (spec_floorDiv.calls a0 365 t108 _ A6.out).mono ?_); rintro e w' ⟨rfl, ⟨nd, rfl⟩⟩; refine ⟨_, rfl, ?_⟩))
      go_meet
      case rel => exact ⟨_, (wrap64 ((wrap64 (1970 + t108)) - 1)), (by first | rfl | (simp; done) | (simp [*]; done)), H', ⟨by first | omega | exact Nat.le_refl _⟩, ⟨by (with_reducible repeat (first | refine blk_drewN ?_ _ | refine blk_drew ?_ | refine blk_alloc ?_ _)); exact BK106.out⟩, ⟨by repeat (first | (with_reducible first | exact HB.out | apply below_alloc | apply pw_below_drewN | apply below_drew1 | refine below_set ?_ GE106.out) | exact HB.out)⟩⟩
    · rw [if_neg c5] at H
      have c5b0 : decide (a0 < 0) = false := decide_eq_false c5
      clear c5
      (first | rw [c5b0] | (simp only [i64_w, i32_w]; rw [c5b0]) | skip)
      have H' := Aside0.mk H
      clear H
      go_wp2
      go_meet
      case rel => exact ⟨_, (wrap64 (1970 + t107)), (by first | rfl | (simp; done) | (simp [*]; done)), H', ⟨by first | omega | exact Nat.le_refl _⟩, ⟨by (with_reducible repeat (first | refine blk_drewN ?_ _ | refine blk_drew ?_ | refine blk_alloc ?_ _)); exact BK106.out⟩, ⟨by repeat (first | (with_reducible first | exact HB.out | apply below_alloc | apply pw_below_drewN | apply below_drew1 | refine below_set ?_ GE106.out) | exact HB.out)⟩⟩
  case rest =>
    clear HC3
    try clear p2
    try clear c4
    try clear c5
    try clear c5b0
    try clear p6
    obtain ⟨kq, x3_2, rfl, HA, HJ2, BK106, HB⟩ := hcut
    cases kq with
    | zero => exact absurd HA.out (by simp [spec_CronDateOf.j0])
    | succ kj2 =>
      have H := HA.out
      clear HA
      simp only [spec_CronDateOf.j0] at H
      have H' := Aside0.mk H
      clear H
      go_wp2
      go_loopg [3] kj2 (fun kq v3 w' => ∃ (x3_2 : Int), v3 = .int .i64 x3_2 ∧ Aside0 (spec_CronDateOf.l0 kq a0 x3_2 = some (r1, r2, r3)) ∧ Aside0 (kq ≤ kj2) ∧ Aside0 (w'.heap[gb106]? = some (.cells #[.int .i64 0, .int .i64 0, .int .i64 0] 80 (0, 0))) ∧ Aside0 (Below w.heap.size w w'))
      case atStart => exact ⟨(x3_2), (by first | rfl | (simp; done) | (simp [*]; done)), H', ⟨Nat.le_refl _⟩, ⟨by (with_reducible repeat (first | refine blk_drewN ?_ _ | refine blk_drew ?_ | refine blk_alloc ?_ _)); exact BK106.out⟩, ⟨by repeat (first | (with_reducible first | exact HB.out | apply below_alloc | apply pw_below_drewN | apply below_drew1 | refine below_set ?_ GE106.out) | exact HB.out)⟩⟩
      case round =>
        clear H'
        try clear p2
        try clear c4
        try clear c5
        try clear c5b0
        try clear p6
        try clear p2
        try clear p6
        obtain ⟨x3_2, rfl, HA, HK2, BK106, HB⟩ := hrel
        cases gk with
        | zero => exact absurd HA.out (by simp [spec_CronDateOf.l0])
        | succ k2 =>
          have H := HA.out
          clear HA
          simp only [spec_CronDateOf.l0] at H
          replace H := Option.bind_eq_some_iff.mp H
          obtain ⟨t109, A70, H⟩ := H
          replace H : (if t109 ≤ a0 then (spec_CronDateOf.l0 k2 a0 (wrap64 (x3_2 + 1))) else ((spec_CronYearStart.f x3_2).bind fun t110 => (spec_CronDateOf.l1 k2 x3_2 (wrap64 (a0 - t110)) 1))) = some (r1, r2, r3) := H
          have A7 := Aside0.mk A70
          clear A70
          by_cases c8 : t109 ≤ a0
          · rw [if_pos c8] at H
            have c8b0 : decide (t109 ≤ a0) = true := decide_eq_true c8
            clear c8
            have H' := Aside0.mk H
            clear H
            go_wp2_with (first | ((with_reducible refine gate_callee (f := 67) rfl ?_); refine goesL_ (some 17) rfl rfl Try.func67 (by kernel_rfl) rfl #[.int .i64 (wrap64 (x3_2 + 1))] rfl (by (try simp only [List.map_toArray, List.map_cons, List.map_nil]); first | done | rfl | (simp only [List.length_drop, List.length_take]; rfl)) ?_; (with_reducible refine (spec_CronYearStart.calls (wrap64 (x3_2 + 1)) t109 _ A7.out).mono ?_); rintro e w' ⟨rfl, ⟨nd, rfl⟩⟩; refine ⟨_, rfl, ?_⟩))
            go_roundg k2
            case measure => have := HJ2.out; have := HK2.out; omega
            case rel => exact ⟨(wrap64 (x3_2 + 1)), (by first | rfl | (simp; done) | (simp [*]; done)), H', ⟨by have := HJ2.out; have := HK2.out; omega⟩, ⟨by (with_reducible repeat (first | refine blk_drewN ?_ _ | refine blk_drew ?_ | refine blk_alloc ?_ _)); exact BK106.out⟩, ⟨by repeat (first | (with_reducible first | exact HB.out | apply below_alloc | apply pw_below_drewN | apply below_drew1 | refine below_set ?_ GE106.out) | exact HB.out)⟩⟩
          · rw [if_neg c8] at H
            have c8b0 : decide (t109 ≤ a0) = false := decide_eq_false c8
            clear c8
            replace H := Option.bind_eq_some_iff.mp H
            obtain ⟨t110, A90, H⟩ := H
            replace H : (spec_CronDateOf.l1 k2 x3_2 (wrap64 (a0 - t110)) 1) = some (r1, r2, r3) := H
            have A9 := Aside0.mk A90
            clear A90
            have H' := Aside0.mk H
            clear H
            go_wp2_with (first | ((with_reducible refine gate_callee (f := 67) rfl ?_); refine goesL_ (some 17) rfl rfl Try.func67 (by kernel_rfl) rfl #[.int .i64 (wrap64 (x3_2 + 1))] rfl (by (try simp only [List.map_toArray, List.map_cons, List.map_nil]); first | done | rfl | (simp only [List.length_drop, List.length_take]; rfl)) ?_; (with_reducible refine (spec_CronYearStart.calls (wrap64 (x3_2 + 1)) t109 _ A7.out).mono ?_); rintro e w' ⟨rfl, ⟨nd, rfl⟩⟩; refine ⟨_, rfl, ?_⟩) | ((with_reducible refine gate_callee (f := 67) rfl ?_); refine goesL_ (some 24) rfl rfl Try.func67 (by kernel_rfl) rfl #[.int .i64 x3_2] rfl (by (try simp only [List.map_toArray, List.map_cons, List.map_nil]); first | done | rfl | (simp only [List.length_drop, List.length_take]; rfl)) ?_; (with_reducible refine (spec_CronYearStart.calls x3_2 t110 _ A9.out).mono ?_); rintro e w' ⟨rfl, ⟨nd, rfl⟩⟩; refine ⟨_, rfl, ?_⟩))
            go_loopg [4, 5] k2 (fun kq v4 v5 w' => ∃ (x4_3 : Int) (x5_3 : Int), v4 = .int .i64 x4_3 ∧ v5 = .int .i64 x5_3 ∧ Aside0 (spec_CronDateOf.l1 kq x3_2 x4_3 x5_3 = some (r1, r2, r3)) ∧ Aside0 (kq ≤ k2) ∧ Aside0 (w'.heap[gb106]? = some (.cells #[.int .i64 0, .int .i64 0, .int .i64 0] 80 (0, 0))) ∧ Aside0 (Below w.heap.size w w'))
            case atStart => exact ⟨(wrap64 (a0 - t110)), (1), (by first | rfl | (simp; done) | (simp [*]; done)), (by first | rfl | (simp; done) | (simp [*]; done)), H', ⟨Nat.le_refl _⟩, ⟨by (with_reducible repeat (first | refine blk_drewN ?_ _ | refine blk_drew ?_ | refine blk_alloc ?_ _)); exact BK106.out⟩, ⟨by repeat (first | (with_reducible first | exact HB.out | apply below_alloc | apply pw_below_drewN | apply below_drew1 | refine below_set ?_ GE106.out) | exact HB.out)⟩⟩
            case round =>
              clear H'
              try clear p2
              try clear c4
              try clear c5
              try clear c5b0
              try clear c6
              try clear p6
              try clear c8
              try clear c8b0
              try clear p2
              try clear p6
              obtain ⟨x4_3, x5_3, rfl, rfl, HA, HK3, BK106, HB⟩ := hrel
              cases gk with
              | zero => exact absurd HA.out (by simp [spec_CronDateOf.l1])
              | succ k3 =>
                have H := HA.out
                clear HA
                simp only [spec_CronDateOf.l1] at H
                replace H := Option.bind_eq_some_iff.mp H
                obtain ⟨t111, A100, H⟩ := H
                replace H : (if x4_3 ≥ t111 then ((spec_CronMonthDays.f x3_2 x5_3).bind fun t112 => (spec_CronDateOf.l1 k3 x3_2 (wrap64 (x4_3 - t112)) (wrap64 (x5_3 + 1)))) else (some (x3_2, x5_3, wrap64 (x4_3 + 1)))) = some (r1, r2, r3) := H
                have A10 := Aside0.mk A100
                clear A100
                by_cases c11 : x4_3 ≥ t111
                · rw [if_pos c11] at H
                  have c11b0 : decide (t111 ≤ x4_3) = true := decide_eq_true c11
                  clear c11
                  replace H := Option.bind_eq_some_iff.mp H
                  obtain ⟨t112, A120, H⟩ := H
                  replace H : (spec_CronDateOf.l1 k3 x3_2 (wrap64 (x4_3 - t112)) (wrap64 (x5_3 + 1))) = some (r1, r2, r3) := H
                  have A12 := Aside0.mk A120
                  clear A120
                  have H' := Aside0.mk H
                  clear H
                  go_wp2_with (first | ((with_reducible refine gate_callee (f := 68) rfl ?_); refine goesL_ (some 29) rfl rfl Try.func68 (by kernel_rfl) rfl #[.int .i64 x3_2, .int .i64 x5_3] rfl (by (try simp only [List.map_toArray, List.map_cons, List.map_nil]); first | done | rfl | (simp only [List.length_drop, List.length_take]; rfl)) ?_; (with_reducible refine (spec_CronMonthDays.calls x3_2 x5_3 t111 _ A10.out).mono ?_); rintro e w' ⟨rfl, ⟨nd, rfl⟩⟩; refine ⟨_, rfl, ?_⟩) | ((with_reducible refine gate_callee (f := 68) rfl ?_); refine goesL_ (some 34) rfl rfl Try.func68 (by kernel_rfl) rfl #[.int .i64 x3_2, .int .i64 x5_3] rfl (by (try simp only [List.map_toArray, List.map_cons, List.map_nil]); first | done | rfl | (simp only [List.length_drop, List.length_take]; rfl)) ?_; (with_reducible refine (spec_CronMonthDays.calls x3_2 x5_3 t112 _ A12.out).mono ?_); rintro e w' ⟨rfl, ⟨nd, rfl⟩⟩; refine ⟨_, rfl, ?_⟩))
                  go_roundg k3
                  case measure => have := HJ2.out; have := HK2.out; have := HK3.out; omega
                  case rel => exact ⟨(wrap64 (x4_3 - t112)), (wrap64 (x5_3 + 1)), (by first | rfl | (simp; done) | (simp [*]; done)), (by first | rfl | (simp; done) | (simp [*]; done)), H', ⟨by have := HJ2.out; have := HK2.out; have := HK3.out; omega⟩, ⟨by (with_reducible repeat (first | refine blk_drewN ?_ _ | refine blk_drew ?_ | refine blk_alloc ?_ _)); exact BK106.out⟩, ⟨by repeat (first | (with_reducible first | exact HB.out | apply below_alloc | apply pw_below_drewN | apply below_drew1 | refine below_set ?_ GE106.out) | exact HB.out)⟩⟩
                · rw [if_neg c11] at H
                  have c11b0 : decide (t111 ≤ x4_3) = false := decide_eq_false c11
                  clear c11
                  simp only [Option.some.injEq, Prod.mk.injEq] at H
                  obtain ⟨rfl, rfl, rfl⟩ := H
                  go_wp2_with (first | ((with_reducible refine gate_callee (f := 68) rfl ?_); refine goesL_ (some 29) rfl rfl Try.func68 (by kernel_rfl) rfl #[.int .i64 x3_2, .int .i64 x5_3] rfl (by (try simp only [List.map_toArray, List.map_cons, List.map_nil]); first | done | rfl | (simp only [List.length_drop, List.length_take]; rfl)) ?_; (with_reducible refine (spec_CronMonthDays.calls x3_2 x5_3 t111 _ A10.out).mono ?_); rintro e w' ⟨rfl, ⟨nd, rfl⟩⟩; refine ⟨_, rfl, ?_⟩; (try (rw [drewN_self wr]; generalize hq_ : World.drewN wr _ = wr; have n0_ : Aside0 (wr.heap[gb106]? = some (.cells #[.int .i64 0, .int .i64 0, .int .i64 0] 80 (0, 0))) := ⟨by rw [← hq_]; exact (by (with_reducible repeat (first | refine blk_drewN ?_ _ | refine blk_drew ?_ | refine blk_alloc ?_ _)); exact BK106.out)⟩; have n1_ : Aside0 (Below w.heap.size w wr) := ⟨by rw [← hq_]; exact (by repeat (first | (with_reducible first | exact HB.out | apply below_alloc | apply pw_below_drewN | apply below_drew1 | refine below_set ?_ GE106.out) | exact HB.out))⟩; clear BK106 HB hq_; have BK106 := n0_; have HB := n1_; clear n0_ n1_)); have hcz13_0 : wr.cell? ⟨gb106, 0, none⟩ = some (.int .i64 0) := (blk_cell BK106.out 0).trans rfl; have hcz13_1 : wr.cell? ⟨gb106, 1, none⟩ = some (.int .i64 0) := (blk_cell BK106.out 1).trans rfl; have hcz13_2 : wr.cell? ⟨gb106, 2, none⟩ = some (.int .i64 0) := (blk_cell BK106.out 2).trans rfl; have hfz13_0 := blk_frozen BK106.out 0; have hfz13_1 := blk_frozen BK106.out 1; have hfz13_2 := blk_frozen BK106.out 2))
                  refine bodyPost_ret (results_cell_row rfl _ _ gb106 80 #[.int .i64 x3_2, .int .i64 x5_3, .int .i64 (wrap64 (x4_3 + 1))] (0, 0) _ rfl (by (with_reducible repeat (first | refine blk_drewN ?_ _ | refine blk_drew ?_ | refine blk_alloc ?_ _)); refine blk_put (cs := #[.int .i64 x3_2, .int .i64 x5_3, .int .i64 0]) ?_ 2 _ rfl; (with_reducible repeat (first | refine blk_drewN ?_ _ | refine blk_drew ?_ | refine blk_alloc ?_ _)); refine blk_put (cs := #[.int .i64 x3_2, .int .i64 0, .int .i64 0]) ?_ 1 _ rfl; (with_reducible repeat (first | refine blk_drewN ?_ _ | refine blk_drew ?_ | refine blk_alloc ?_ _)); refine blk_put (cs := #[.int .i64 0, .int .i64 0, .int .i64 0]) ?_ 0 _ rfl; (with_reducible repeat (first | refine blk_drewN ?_ _ | refine blk_drew ?_ | refine blk_alloc ?_ _)); exact BK106.out) Try.underlying80 rfl (by kernel_rfl)) rfl ?_
                  exact ⟨by first | rfl | (simp [errW_none, errW_some] <;> rfl) | (simp [*, errW_none, errW_some] <;> rfl), by repeat (first | (with_reducible first | exact HB.out | apply below_alloc | apply pw_below_drewN | apply below_drew1 | refine below_set ?_ GE106.out) | exact HB.out)⟩

/-! ### spec_CronTomorrow: function 43 -/
def spec_CronTomorrow.f (a0_0 : Int) (a0_1 : Int) (a0_2 : Int) : Option (Int × Int × Int) := (spec_CronMonthDays.f a0_0 a0_1).bind fun t115 => (if a0_2 < t115 then (some (a0_0, a0_1, wrap64 (a0_2 + 1))) else (if a0_1 < 12 then (some (a0_0, wrap64 (a0_1 + 1), 1)) else (some (wrap64 (a0_0 + 1), 1, 1))))
set_option maxHeartbeats 8000000 in
set_option maxRecDepth 100000 in
theorem spec_CronTomorrow.calls (a0_0 : Int) (a0_1 : Int) (a0_2 : Int) (r1 : Int) (r2 : Int) (r3 : Int) (w : World) (h : spec_CronTomorrow.f a0_0 a0_1 a0_2 = some (r1, r2, r3)) :
    Calls Try.prog 43 #[.agg #[.int .i64 a0_0, .int .i64 a0_1, .int .i64 a0_2]] w fun e w' => e = .returned (.agg #[.int .i64 r1, .int .i64 r2, .int .i64 r3]) ∧ Below w.heap.size w w' := by
  have hu80 := Try.underlying80
  have HB := Aside0.mk (Below.refl w.heap.size w)
  have H : ((spec_CronMonthDays.f a0_0 a0_1).bind fun t115 => (if a0_2 < t115 then (some (a0_0, a0_1, wrap64 (a0_2 + 1))) else (if a0_1 < 12 then (some (a0_0, wrap64 (a0_1 + 1), 1)) else (some (wrap64 (a0_0 + 1), 1, 1))))) = some (r1, r2, r3) := h
  clear h
  replace H := Option.bind_eq_some_iff.mp H
  obtain ⟨t115, A20, H⟩ := H
  replace H : (if a0_2 < t115 then (some (a0_0, a0_1, wrap64 (a0_2 + 1))) else (if a0_1 < 12 then (some (a0_0, wrap64 (a0_1 + 1), 1)) else (some (wrap64 (a0_0 + 1), 1, 1)))) = some (r1, r2, r3) := H
  have A2 := Aside0.mk A20
  clear A20
  by_cases c3 : a0_2 < t115
  · rw [if_pos c3] at H
    have c3b0 : decide (a0_2 < t115) = true := decide_eq_true c3
    clear c3
    simp only [Option.some.injEq, Prod.mk.injEq] at H
    obtain ⟨rfl, rfl, rfl⟩ := H
    go_enter Try.func43, Try.ntmps43
    go_wp2_with (first | ((with_reducible refine gate_dst (N := 1) rfl ?_); refine box_event ?hg (N := 1) ?hd (cs := #[.int .i64 a0_0, .int .i64 a0_1, .int .i64 a0_2]) (t := 80) ?hr ?_; (case hd => rfl); (case hg => rfl); (case hr => first | (go_simp; done) | (go_simp; rfl)); intro gb113 hg w4 hbox hb; have n0_ := Aside0.mk (below_step (by repeat (first | (with_reducible first | exact HB.out | apply below_alloc | apply pw_below_drewN | apply below_drew1) | exact HB.out)) hb); have n1_ := Aside0.mk (hbox); have n2_ := Aside0.mk ((by rw [hg]; exact (below_size (by repeat (first | (with_reducible first | exact HB.out | apply below_alloc | apply pw_below_drewN | apply below_drew1) | exact HB.out))) : w.heap.size ≤ gb113)); have n3_ := Aside0.mk ((by rw [hg]; exact (below_size (by repeat (first | (with_reducible first | exact HB.out | apply below_alloc | apply pw_below_drewN | apply below_drew1) | exact HB.out))) : w.heap.size ≤ gb113)); clear HB; have HB := n0_; have BK113 := n1_; have GW113 := n2_; have GE113 := n3_; clear n0_ n1_ n2_ n3_; clear hb hbox hg) | ((with_reducible refine gate_dst (N := 2) rfl ?_); refine box_event ?hg (N := 2) ?hd (cs := #[.int .i64 0, .int .i64 0, .int .i64 0]) (t := 80) ?hr ?_; (case hd => rfl); (case hg => rfl); (case hr => first | (go_simp; done) | (go_simp; rfl)); intro gb114 hg w5 hbox hb; have n0_ := Aside0.mk (blk_below (g := gb113) (o := .cells #[.int .i64 a0_0, .int .i64 a0_1, .int .i64 a0_2] 80 (0, 0)) (by (with_reducible repeat (first | refine blk_drewN ?_ _ | refine blk_drew ?_ | refine blk_alloc ?_ _)); exact BK113.out) hb); have n1_ := Aside0.mk (below_step (by repeat (first | (with_reducible first | exact HB.out | apply below_alloc | apply pw_below_drewN | apply below_drew1 | refine below_set ?_ GE113.out) | exact HB.out)) hb); have n2_ := Aside0.mk (hbox); have n3_ := Aside0.mk ((by rw [hg]; exact (below_size (by repeat (first | (with_reducible first | exact HB.out | apply below_alloc | apply pw_below_drewN | apply below_drew1 | refine below_set ?_ GE113.out) | exact HB.out))) : w.heap.size ≤ gb114)); have n4_ := Aside0.mk ((by rw [hg]; exact (below_size (by repeat (first | (with_reducible first | exact HB.out | apply below_alloc | apply pw_below_drewN | apply below_drew1 | refine below_set ?_ GE113.out) | exact HB.out))) : w.heap.size ≤ gb114)); have n5_ := Aside0.mk ((by rw [hg]; exact Nat.ne_of_lt (blk_lt (g := gb113) (o := .cells #[.int .i64 a0_0, .int .i64 a0_1, .int .i64 a0_2] 80 (0, 0)) (by (with_reducible repeat (first | refine blk_drewN ?_ _ | refine blk_drew ?_ | refine blk_alloc ?_ _)); exact BK113.out)) : gb113 ≠ gb114)); have n6_ := Aside0.mk ((by rw [hg]; exact Nat.ne_of_gt (blk_lt (g := gb113) (o := .cells #[.int .i64 a0_0, .int .i64 a0_1, .int .i64 a0_2] 80 (0, 0)) (by (with_reducible repeat (first | refine blk_drewN ?_ _ | refine blk_drew ?_ | refine blk_alloc ?_ _)); exact BK113.out)) : gb114 ≠ gb113)); clear BK113; clear HB; have BK113 := n0_; have HB := n1_; have BK114 := n2_; have GW114 := n3_; have GE114 := n4_; have NB113_114 := n5_; have NB114_113 := n6_; clear n0_ n1_ n2_ n3_ n4_ n5_ n6_; clear hb hbox hg; have hnb6 := NB113_114.out; have hnc6 := NB114_113.out; have hcz7_0 : w5.cell? ⟨gb113, 0, none⟩ = some (.int .i64 a0_0) := (blk_cell BK113.out 0).trans rfl; have hcz7_1 : w5.cell? ⟨gb113, 1, none⟩ = some (.int .i64 a0_1) := (blk_cell BK113.out 1).trans rfl; have hcz7_2 : w5.cell? ⟨gb113, 2, none⟩ = some (.int .i64 a0_2) := (blk_cell BK113.out 2).trans rfl; have hfz7_0 := blk_frozen BK113.out 0; have hfz7_1 := blk_frozen BK113.out 1; have hfz7_2 := blk_frozen BK113.out 2) | (go_at_call 68; (with_reducible refine (spec_CronMonthDays.calls a0_0 a0_1 t115 _ A2.out).mono ?_); rintro e w' ⟨rfl, ⟨nd, rfl⟩⟩; (try first | exact ⟨rfl, _, World.drewN_drewN _ _ _⟩ | exact ⟨rfl, _, Eq.trans (World.drewN_drewN _ _ _) (congrArg (World.drewN _) (Nat.add_assoc _ _ _))⟩); have hcz8_0 : w5.cell? ⟨gb114, 0, none⟩ = some (.int .i64 0) := (blk_cell BK114.out 0).trans rfl; have hcz8_1 : w5.cell? ⟨gb114, 1, none⟩ = some (.int .i64 0) := (blk_cell BK114.out 1).trans rfl; have hcz8_2 : w5.cell? ⟨gb114, 2, none⟩ = some (.int .i64 0) := (blk_cell BK114.out 2).trans rfl; have hfz8_0 := blk_frozen BK114.out 0; have hfz8_1 := blk_frozen BK114.out 1; have hfz8_2 := blk_frozen BK114.out 2))
    repeat (go_quiet (first | ((with_reducible refine gate_dst (N := 1) rfl ?_); refine box_event ?hg (N := 1) ?hd (cs := #[.int .i64 a0_0, .int .i64 a0_1, .int .i64 a0_2]) (t := 80) ?hr ?_; (case hd => rfl); (case hg => rfl); (case hr => first | (go_simp; done) | (go_simp; rfl)); intro gb113 hg w4 hbox hb; have n0_ := Aside0.mk (below_step (by repeat (first | (with_reducible first | exact HB.out | apply below_alloc | apply pw_below_drewN | apply below_drew1) | exact HB.out)) hb); have n1_ := Aside0.mk (hbox); have n2_ := Aside0.mk ((by rw [hg]; exact (below_size (by repeat (first | (with_reducible first | exact HB.out | apply below_alloc | apply pw_below_drewN | apply below_drew1) | exact HB.out))) : w.heap.size ≤ gb113)); have n3_ := Aside0.mk ((by rw [hg]; exact (below_size (by repeat (first | (with_reducible first | exact HB.out | apply below_alloc | apply pw_below_drewN | apply below_drew1) | exact HB.out))) : w.heap.size ≤ gb113)); clear HB; have HB := n0_; have BK113 := n1_; have GW113 := n2_; have GE113 := n3_; clear n0_ n1_ n2_ n3_; clear hb hbox hg) | ((with_reducible refine gate_dst (N := 2) rfl ?_); refine box_event ?hg (N := 2) ?hd (cs := #[.int .i64 0, .int .i64 0, .int .i64 0]) (t := 80) ?hr ?_; (case hd => rfl); (case hg => rfl); (case hr => first | (go_simp; done) | (go_simp; rfl)); intro gb114 hg w5 hbox hb; have n0_ := Aside0.mk (blk_below (g := gb113) (o := .cells #[.int .i64 a0_0, .int .i64 a0_1, .int .i64 a0_2] 80 (0, 0)) (by (with_reducible repeat (first | refine blk_drewN ?_ _ | refine blk_drew ?_ | refine blk_alloc ?_ _)); exact BK113.out) hb); have n1_ := Aside0.mk (below_step (by repeat (first | (with_reducible first | exact HB.out | apply below_alloc | apply pw_below_drewN | apply below_drew1 | refine below_set ?_ GE113.out) | exact HB.out)) hb); have n2_ := Aside0.mk (hbox); have n3_ := Aside0.mk ((by rw [hg]; exact (below_size (by repeat (first | (with_reducible first | exact HB.out | apply below_alloc | apply pw_below_drewN | apply below_drew1 | refine below_set ?_ GE113.out) | exact HB.out))) : w.heap.size ≤ gb114)); have n4_ := Aside0.mk ((by rw [hg]; exact (below_size (by repeat (first | (with_reducible first | exact HB.out | apply below_alloc | apply pw_below_drewN | apply below_drew1 | refine below_set ?_ GE113.out) | exact HB.out))) : w.heap.size ≤ gb114)); have n5_ := Aside0.mk ((by rw [hg]; exact Nat.ne_of_lt (blk_lt (g := gb113) (o := .cells #[.int .i64 a0_0, .int .i64 a0_1, .int .i64 a0_2] 80 (0, 0)) (by (with_reducible repeat (first | refine blk_drewN ?_ _ | refine blk_drew ?_ | refine blk_alloc ?_ _)); exact BK113.out)) : gb113 ≠ gb114)); have n6_ := Aside0.mk ((by rw [hg]; exact Nat.ne_of_gt (blk_lt (g := gb113) (o := .cells #[.int .i64 a0_0, .int .i64 a0_1, .int .i64 a0_2] 80 (0, 0)) (by (with_reducible repeat (first | refine blk_drewN ?_ _ | refine blk_drew ?_ | refine blk_alloc ?_ _)); exact BK113.out)) : gb114 ≠ gb113)); clear BK113; clear HB; have BK113 := n0_; have HB := n1_; have BK114 := n2_; have GW114 := n3_; have GE114 := n4_; have NB113_114 := n5_; have NB114_113 := n6_; clear n0_ n1_ n2_ n3_ n4_ n5_ n6_; clear hb hbox hg; have hnb6 := NB113_114.out; have hnc6 := NB114_113.out; have hcz7_0 : w5.cell? ⟨gb113, 0, none⟩ = some (.int .i64 a0_0) := (blk_cell BK113.out 0).trans rfl; have hcz7_1 : w5.cell? ⟨gb113, 1, none⟩ = some (.int .i64 a0_1) := (blk_cell BK113.out 1).trans rfl; have hcz7_2 : w5.cell? ⟨gb113, 2, none⟩ = some (.int .i64 a0_2) := (blk_cell BK113.out 2).trans rfl; have hfz7_0 := blk_frozen BK113.out 0; have hfz7_1 := blk_frozen BK113.out 1; have hfz7_2 := blk_frozen BK113.out 2) | (go_at_call 68; (with_reducible refine (spec_CronMonthDays.calls a0_0 a0_1 t115 _ A2.out).mono ?_); rintro e w' ⟨rfl, ⟨nd, rfl⟩⟩; (try first | exact ⟨rfl, _, World.drewN_drewN _ _ _⟩ | exact ⟨rfl, _, Eq.trans (World.drewN_drewN _ _ _) (congrArg (World.drewN _) (Nat.add_assoc _ _ _))⟩); have hcz8_0 : w5.cell? ⟨gb114, 0, none⟩ = some (.int .i64 0) := (blk_cell BK114.out 0).trans rfl; have hcz8_1 : w5.cell? ⟨gb114, 1, none⟩ = some (.int .i64 0) := (blk_cell BK114.out 1).trans rfl; have hcz8_2 : w5.cell? ⟨gb114, 2, none⟩ = some (.int .i64 0) := (blk_cell BK114.out 2).trans rfl; have hfz8_0 := blk_frozen BK114.out 0; have hfz8_1 := blk_frozen BK114.out 1; have hfz8_2 := blk_frozen BK114.out 2)); try go_wp2_with (first | ((with_reducible refine gate_dst (N := 1) rfl ?_); refine box_event ?hg (N := 1) ?hd (cs := #[.int .i64 a0_0, .int .i64 a0_1, .int .i64 a0_2]) (t := 80) ?hr ?_; (case hd => rfl); (case hg => rfl); (case hr => first | (go_simp; done) | (go_simp; rfl)); intro gb113 hg w4 hbox hb; have n0_ := Aside0.mk (below_step (by repeat (first | (with_reducible first | exact HB.out | apply below_alloc | apply pw_below_drewN | apply below_drew1) | exact HB.out)) hb); have n1_ := Aside0.mk (hbox); have n2_ := Aside0.mk ((by rw [hg]; exact (below_size (by repeat (first | (with_reducible first | exact HB.out | apply below_alloc | apply pw_below_drewN | apply below_drew1) | exact HB.out))) : w.heap.size ≤ gb113)); have n3_ := Aside0.mk ((by rw [hg]; exact (below_size (by repeat (first | (with_reducible first | exact HB.out | apply below_alloc | apply pw_below_drewN | apply below_drew1) | exact HB.out))) : w.heap.size ≤ gb113)); clear HB; have HB := n0_; have BK113 := n1_; have GW113 := n2_; have GE113 := n3_; clear n0_ n1_ n2_ n3_; clear hb hbox hg) | ((with_reducible refine gate_dst (N := 2) rfl ?_); refine box_event ?hg (N := 2) ?hd (cs := #[.int .i64 0, .int .i64 0, .int .i64 0]) (t := 80) ?hr ?_; (case hd => rfl); (case hg => rfl); (case hr => first | (go_simp; done) | (go_simp; rfl)); intro gb114 hg w5 hbox hb; have n0_ := Aside0.mk (blk_below (g := gb113) (o := .cells #[.int .i64 a0_0, .int .i64 a0_1, .int .i64 a0_2] 80 (0, 0)) (by (with_reducible repeat (first | refine blk_drewN ?_ _ | refine blk_drew ?_ | refine blk_alloc ?_ _)); exact BK113.out) hb); have n1_ := Aside0.mk (below_step (by repeat (first | (with_reducible first | exact HB.out | apply below_alloc | apply pw_below_drewN | apply below_drew1 | refine below_set ?_ GE113.out) | exact HB.out)) hb); have n2_ := Aside0.mk (hbox); have n3_ := Aside0.mk ((by rw [hg]; exact (below_size (by repeat (first | (with_reducible first | exact HB.out | apply below_alloc | apply pw_below_drewN | apply below_drew1 | refine below_set ?_ GE113.out) | exact HB.out))) : w.heap.size ≤ gb114)); have n4_ := Aside0.mk ((by rw [hg]; exact (below_size (by repeat (first | (with_reducible first | exact HB.out | apply below_alloc | apply pw_below_drewN | apply below_drew1 | refine below_set ?_ GE113.out) | exact HB.out))) : w.heap.size ≤ gb114)); have n5_ := Aside0.mk ((by rw [hg]; exact Nat.ne_of_lt (blk_lt (g := gb113) (o := .cells #[.int .i64 a0_0, .int .i64 a0_1, .int .i64 a0_2] 80 (0, 0)) (by (with_reducible repeat (first | refine blk_drewN ?_ _ | refine blk_drew ?_ | refine blk_alloc ?_ _)); exact BK113.out)) : gb113 ≠ gb114)); have n6_ := Aside0.mk ((by rw [hg]; exact Nat.ne_of_gt (blk_lt (g := gb113) (o := .cells #[.int .i64 a0_0, .int .i64 a0_1, .int .i64 a0_2] 80 (0, 0)) (by (with_reducible repeat (first | refine blk_drewN ?_ _ | refine blk_drew ?_ | refine blk_alloc ?_ _)); exact BK113.out)) : gb114 ≠ gb113)); clear BK113; clear HB; have BK113 := n0_; have HB := n1_; have BK114 := n2_; have GW114 := n3_; have GE114 := n4_; have NB113_114 := n5_; have NB114_113 := n6_; clear n0_ n1_ n2_ n3_ n4_ n5_ n6_; clear hb hbox hg; have hnb6 := NB113_114.out; have hnc6 := NB114_113.out; have hcz7_0 : w5.cell? ⟨gb113, 0, none⟩ = some (.int .i64 a0_0) := (blk_cell BK113.out 0).trans rfl; have hcz7_1 : w5.cell? ⟨gb113, 1, none⟩ = some (.int .i64 a0_1) := (blk_cell BK113.out 1).trans rfl; have hcz7_2 : w5.cell? ⟨gb113, 2, none⟩ = some (.int .i64 a0_2) := (blk_cell BK113.out 2).trans rfl; have hfz7_0 := blk_frozen BK113.out 0; have hfz7_1 := blk_frozen BK113.out 1; have hfz7_2 := blk_frozen BK113.out 2) | (go_at_call 68; (with_reducible refine (spec_CronMonthDays.calls a0_0 a0_1 t115 _ A2.out).mono ?_); rintro e w' ⟨rfl, ⟨nd, rfl⟩⟩; (try first | exact ⟨rfl, _, World.drewN_drewN _ _ _⟩ | exact ⟨rfl, _, Eq.trans (World.drewN_drewN _ _ _) (congrArg (World.drewN _) (Nat.add_assoc _ _ _))⟩); have hcz8_0 : w5.cell? ⟨gb114, 0, none⟩ = some (.int .i64 0) := (blk_cell BK114.out 0).trans rfl; have hcz8_1 : w5.cell? ⟨gb114, 1, none⟩ = some (.int .i64 0) := (blk_cell BK114.out 1).trans rfl; have hcz8_2 : w5.cell? ⟨gb114, 2, none⟩ = some (.int .i64 0) := (blk_cell BK114.out 2).trans rfl; have hfz8_0 := blk_frozen BK114.out 0; have hfz8_1 := blk_frozen BK114.out 1; have hfz8_2 := blk_frozen BK114.out 2)))
    refine bodyPost_ret (results_cell_row rfl _ _ gb114 80 #[.int .i64 a0_0, .int .i64 a0_1, .int .i64 (wrap64 (a0_2 + 1))] (0, 0) _ rfl (by (with_reducible repeat (first | refine blk_drewN ?_ _ | refine blk_drew ?_ | refine blk_alloc ?_ _)); refine blk_put (cs := #[.int .i64 a0_0, .int .i64 a0_1, .int .i64 0]) ?_ 2 _ rfl; (with_reducible repeat (first | refine blk_drewN ?_ _ | refine blk_drew ?_ | refine blk_alloc ?_ _)); refine blk_put (cs := #[.int .i64 a0_0, .int .i64 0, .int .i64 0]) ?_ 1 _ rfl; (with_reducible repeat (first | refine blk_drewN ?_ _ | refine blk_drew ?_ | refine blk_alloc ?_ _)); refine blk_put (cs := #[.int .i64 0, .int .i64 0, .int .i64 0]) ?_ 0 _ rfl; (with_reducible repeat (first | refine blk_drewN ?_ _ | refine blk_drew ?_ | refine blk_alloc ?_ _)); exact BK114.out) Try.underlying80 rfl (by kernel_rfl)) rfl ?_
    exact ⟨by first | rfl | (simp [errW_none, errW_some] <;> rfl) | (simp [*, errW_none, errW_some] <;> rfl), by repeat (first | (with_reducible first | exact HB.out | apply below_alloc | apply pw_below_drewN | apply below_drew1 | refine below_set ?_ GE113.out | refine below_set ?_ GE114.out) | exact HB.out)⟩
  · rw [if_neg c3] at H
    have c3b0 : decide (a0_2 < t115) = false := decide_eq_false c3
    clear c3
    by_cases c9 : a0_1 < 12
    · rw [if_pos c9] at H
      have c9b0 : decide (a0_1 < 12) = true := decide_eq_true c9
      clear c9
      simp only [Option.some.injEq, Prod.mk.injEq] at H
      obtain ⟨rfl, rfl, rfl⟩ := H
      go_enter Try.func43, Try.ntmps43
      go_wp2_with (first | ((with_reducible refine gate_dst (N := 1) rfl ?_); refine box_event ?hg (N := 1) ?hd (cs := #[.int .i64 a0_0, .int .i64 a0_1, .int .i64 a0_2]) (t := 80) ?hr ?_; (case hd => rfl); (case hg => rfl); (case hr => first | (go_simp; done) | (go_simp; rfl)); intro gb113 hg w10 hbox hb; have n0_ := Aside0.mk (below_step (by repeat (first | (with_reducible first | exact HB.out | apply below_alloc | apply pw_below_drewN | apply below_drew1) | exact HB.out)) hb); have n1_ := Aside0.mk (hbox); have n2_ := Aside0.mk ((by rw [hg]; exact (below_size (by repeat (first | (with_reducible first | exact HB.out | apply below_alloc | apply pw_below_drewN | apply below_drew1) | exact HB.out))) : w.heap.size ≤ gb113)); have n3_ := Aside0.mk ((by rw [hg]; exact (below_size (by repeat (first | (with_reducible first | exact HB.out | apply below_alloc | apply pw_below_drewN | apply below_drew1) | exact HB.out))) : w.heap.size ≤ gb113)); clear HB; have HB := n0_; have BK113 := n1_; have GW113 := n2_; have GE113 := n3_; clear n0_ n1_ n2_ n3_; clear hb hbox hg) | ((with_reducible refine gate_dst (N := 2) rfl ?_); refine box_event ?hg (N := 2) ?hd (cs := #[.int .i64 0, .int .i64 0, .int .i64 0]) (t := 80) ?hr ?_; (case hd => rfl); (case hg => rfl); (case hr => first | (go_simp; done) | (go_simp; rfl)); intro gb114 hg w11 hbox hb; have n0_ := Aside0.mk (blk_below (g := gb113) (o := .cells #[.int .i64 a0_0, .int .i64 a0_1, .int .i64 a0_2] 80 (0, 0)) (by (with_reducible repeat (first | refine blk_drewN ?_ _ | refine blk_drew ?_ | refine blk_alloc ?_ _)); exact BK113.out) hb); have n1_ := Aside0.mk (below_step (by repeat (first | (with_reducible first | exact HB.out | apply below_alloc | apply pw_below_drewN | apply below_drew1 | refine below_set ?_ GE113.out) | exact HB.out)) hb); have n2_ := Aside0.mk (hbox); have n3_ := Aside0.mk ((by rw [hg]; exact (below_size (by repeat (first | (with_reducible first | exact HB.out | apply below_alloc | apply pw_below_drewN | apply below_drew1 | refine below_set ?_ GE113.out) | exact HB.out))) : w.heap.size ≤ gb114)); have n4_ := Aside0.mk ((by rw [hg]; exact (below_size (by repeat (first | (with_reducible first | exact HB.out | apply below_alloc | apply pw_below_drewN | apply below_drew1 | refine below_set ?_ GE113.out) | exact HB.out))) : w.heap.size ≤ gb114)); have n5_ := Aside0.mk ((by rw [hg]; exact Nat.ne_of_lt (blk_lt (g := gb113) (o := .cells #[.int .i64 a0_0, .int .i64 a0_1, .int .i64 a0_2] 80 (0, 0)) (by (with_reducible repeat (first | refine blk_drewN ?_ _ | refine blk_drew ?_ | refine blk_alloc ?_ _)); exact BK113.out)) : gb113 ≠ gb114)); have n6_ := Aside0.mk ((by rw [hg]; exact Nat.ne_of_gt (blk_lt (g := gb113) (o := .cells #[.int .i64 a0_0, .int .i64 a0_1, .int .i64 a0_2] 80 (0, 0)) (by (with_reducible repeat (first | refine blk_drewN ?_ _ | refine blk_drew ?_ | refine blk_alloc ?_ _)); exact BK113.out)) : gb114 ≠ gb113)); clear BK113; clear HB; have BK113 := n0_; have HB := n1_; have BK114 := n2_; have GW114 := n3_; have GE114 := n4_; have NB113_114 := n5_; have NB114_113 := n6_; clear n0_ n1_ n2_ n3_ n4_ n5_ n6_; clear hb hbox hg; have hnb12 := NB113_114.out; have hnc12 := NB114_113.out; have hcz13_0 : w11.cell? ⟨gb113, 0, none⟩ = some (.int .i64 a0_0) := (blk_cell BK113.out 0).trans rfl; have hcz13_1 : w11.cell? ⟨gb113, 1, none⟩ = some (.int .i64 a0_1) := (blk_cell BK113.out 1).trans rfl; have hcz13_2 : w11.cell? ⟨gb113, 2, none⟩ = some (.int .i64 a0_2) := (blk_cell BK113.out 2).trans rfl; have hfz13_0 := blk_frozen BK113.out 0; have hfz13_1 := blk_frozen BK113.out 1; have hfz13_2 := blk_frozen BK113.out 2) | (go_at_call 68; (with_reducible refine (spec_CronMonthDays.calls a0_0 a0_1 t115 _ A2.out).mono ?_); rintro e w' ⟨rfl, ⟨nd, rfl⟩⟩; (try first | exact ⟨rfl, _, World.drewN_drewN _ _ _⟩ | exact ⟨rfl, _, Eq.trans (World.drewN_drewN _ _ _) (congrArg (World.drewN _) (Nat.add_assoc _ _ _))⟩); have hcz14_0 : w11.cell? ⟨gb114, 0, none⟩ = some (.int .i64 0) := (blk_cell BK114.out 0).trans rfl; have hcz14_1 : w11.cell? ⟨gb114, 1, none⟩ = some (.int .i64 0) := (blk_cell BK114.out 1).trans rfl; have hcz14_2 : w11.cell? ⟨gb114, 2, none⟩ = some (.int .i64 0) := (blk_cell BK114.out 2).trans rfl; have hfz14_0 := blk_frozen BK114.out 0; have hfz14_1 := blk_frozen BK114.out 1; have hfz14_2 := blk_frozen BK114.out 2))
      repeat (go_quiet (first | ((with_reducible refine gate_dst (N := 1) rfl ?_); refine box_event ?hg (N := 1) ?hd (cs := #[.int .i64 a0_0, .int .i64 a0_1, .int .i64 a0_2]) (t := 80) ?hr ?_; (case hd => rfl); (case hg => rfl); (case hr => first | (go_simp; done) | (go_simp; rfl)); intro gb113 hg w10 hbox hb; have n0_ := Aside0.mk (below_step (by repeat (first | (with_reducible first | exact HB.out | apply below_alloc | apply pw_below_drewN | apply below_drew1) | exact HB.out)) hb); have n1_ := Aside0.mk (hbox); have n2_ := Aside0.mk ((by rw [hg]; exact (below_size (by repeat (first | (with_reducible first | exact HB.out | apply below_alloc | apply pw_below_drewN | apply below_drew1) | exact HB.out))) : w.heap.size ≤ gb113)); have n3_ := Aside0.mk ((by rw [hg]; exact (below_size (by repeat (first | (with_reducible first | exact HB.out | apply below_alloc | apply pw_below_drewN | apply below_drew1) | exact HB.out))) : w.heap.size ≤ gb113)); clear HB; have HB := n0_; have BK113 := n1_; have GW113 := n2_; have GE113 := n3_; clear n0_ n1_ n2_ n3_; clear hb hbox hg) | ((with_reducible refine gate_dst (N := 2) rfl ?_); refine box_event ?hg (N := 2) ?hd (cs := #[.int .i64 0, .int .i64 0, .int .i64 0]) (t := 80) ?hr ?_; (case hd => rfl); (case hg => rfl); (case hr => first | (go_simp; done) | (go_simp; rfl)); intro gb114 hg w11 hbox hb; have n0_ := Aside0.mk (blk_below (g := gb113) (o := .cells #[.int .i64 a0_0, .int .i64 a0_1, .int .i64 a0_2] 80 (0, 0)) (by (with_reducible repeat (first | refine blk_drewN ?_ _ | refine blk_drew ?_ | refine blk_alloc ?_ _)); exact BK113.out) hb); have n1_ := Aside0.mk (below_step (by repeat (first | (with_reducible first | exact HB.out | apply below_alloc | apply pw_below_drewN | apply below_drew1 | refine below_set ?_ GE113.out) | exact HB.out)) hb); have n2_ := Aside0.mk (hbox); have n3_ := Aside0.mk ((by rw [hg]; exact (below_size (by repeat (first | (with_reducible first | exact HB.out | apply below_alloc | apply pw_below_drewN | apply below_drew1 | refine below_set ?_ GE113.out) | exact HB.out))) : w.heap.size ≤ gb114)); have n4_ := Aside0.mk ((by rw [hg]; exact (below_size (by repeat (first | (with_reducible first | exact HB.out | apply below_alloc | apply pw_below_drewN | apply below_drew1 | refine below_set ?_ GE113.out) | exact HB.out))) : w.heap.size ≤ gb114)); have n5_ := Aside0.mk ((by rw [hg]; exact Nat.ne_of_lt (blk_lt (g := gb113) (o := .cells #[.int .i64 a0_0, .int .i64 a0_1, .int .i64 a0_2] 80 (0, 0)) (by (with_reducible repeat (first | refine blk_drewN ?_ _ | refine blk_drew ?_ | refine blk_alloc ?_ _)); exact BK113.out)) : gb113 ≠ gb114)); have n6_ := Aside0.mk ((by rw [hg]; exact Nat.ne_of_gt (blk_lt (g := gb113) (o := .cells #[.int .i64 a0_0, .int .i64 a0_1, .int .i64 a0_2] 80 (0, 0)) (by (with_reducible repeat (first | refine blk_drewN ?_ _ | refine blk_drew ?_ | refine blk_alloc ?_ _)); exact BK113.out)) : gb114 ≠ gb113)); clear BK113; clear HB; have BK113 := n0_; have HB := n1_; have BK114 := n2_; have GW114 := n3_; have GE114 := n4_; have NB113_114 := n5_; have NB114_113 := n6_; clear n0_ n1_ n2_ n3_ n4_ n5_ n6_; clear hb hbox hg; have hnb12 := NB113_114.out; have hnc12 := NB114_113.out; have hcz13_0 : w11.cell? ⟨gb113, 0, none⟩ = some (.int .i64 a0_0) := (blk_cell BK113.out 0).trans rfl; have hcz13_1 : w11.cell? ⟨gb113, 1, none⟩ = some (.int .i64 a0_1) := (blk_cell BK113.out 1).trans rfl; have hcz13_2 : w11.cell? ⟨gb113, 2, none⟩ = some (.int .i64 a0_2) := (blk_cell BK113.out 2).trans rfl; have hfz13_0 := blk_frozen BK113.out 0; have hfz13_1 := blk_frozen BK113.out 1; have hfz13_2 := blk_frozen BK113.out 2) | (go_at_call 68; (with_reducible refine (spec_CronMonthDays.calls a0_0 a0_1 t115 _ A2.out).mono ?_); rintro e w' ⟨rfl, ⟨nd, rfl⟩⟩; (try first | exact ⟨rfl, _, World.drewN_drewN _ _ _⟩ | exact ⟨rfl, _, Eq.trans (World.drewN_drewN _ _ _) (congrArg (World.drewN _) (Nat.add_assoc _ _ _))⟩); have hcz14_0 : w11.cell? ⟨gb114, 0, none⟩ = some (.int .i64 0) := (blk_cell BK114.out 0).trans rfl; have hcz14_1 : w11.cell? ⟨gb114, 1, none⟩ = some (.int .i64 0) := (blk_cell BK114.out 1).trans rfl; have hcz14_2 : w11.cell? ⟨gb114, 2, none⟩ = some (.int .i64 0) := (blk_cell BK114.out 2).trans rfl; have hfz14_0 := blk_frozen BK114.out 0; have hfz14_1 := blk_frozen BK114.out 1; have hfz14_2 := blk_frozen BK114.out 2)); try go_wp2_with (first | ((with_reducible refine gate_dst (N := 1) rfl ?_); refine box_event ?hg (N := 1) ?hd (cs := #[.int .i64 a0_0, .int .i64 a0_1, .int .i64 a0_2]) (t := 80) ?hr ?_; (case hd => rfl); (case hg => rfl); (case hr => first | (go_simp; done) | (go_simp; rfl)); intro gb113 hg w10 hbox hb; have n0_ := Aside0.mk (below_step (by repeat (first | (with_reducible first | exact HB.out | apply below_alloc | apply pw_below_drewN | apply below_drew1) | exact HB.out)) hb); have n1_ := Aside0.mk (hbox); have n2_ := Aside0.mk ((by rw [hg]; exact (below_size (by repeat (first | (with_reducible first | exact HB.out | apply below_alloc | apply pw_below_drewN | apply below_drew1) | exact HB.out))) : w.heap.size ≤ gb113)); have n3_ := Aside0.mk ((by rw [hg]; exact (below_size (by repeat (first | (with_reducible first | exact HB.out | apply below_alloc | apply pw_below_drewN | apply below_drew1) | exact HB.out))) : w.heap.size ≤ gb113)); clear HB; have HB := n0_; have BK113 := n1_; have GW113 := n2_; have GE113 := n3_; clear n0_ n1_ n2_ n3_; clear hb hbox hg) | ((with_reducible refine gate_dst (N := 2) rfl ?_); refine box_event ?hg (N := 2) ?hd (cs := #[.int .i64 0, .int .i64 0, .int .i64 0]) (t := 80) ?hr ?_; (case hd => rfl); (case hg => rfl); (case hr => first | (go_simp; done) | (go_simp; rfl)); intro gb114 hg w11 hbox hb; have n0_ := Aside0.mk (blk_below (g := gb113) (o := .cells #[.int .i64 a0_0, .int .i64 a0_1, .int .i64 a0_2] 80 (0, 0)) (by (with_reducible repeat (first | refine blk_drewN ?_ _ | refine blk_drew ?_ | refine blk_alloc ?_ _)); exact BK113.out) hb); have n1_ := Aside0.mk (below_step (by repeat (first | (with_reducible first | exact HB.out | apply below_alloc | apply pw_below_drewN | apply below_drew1 | refine below_set ?_ GE113.out) | exact HB.out)) hb); have n2_ := Aside0.mk (hbox); have n3_ := Aside0.mk ((by rw [hg]; exact (below_size (by repeat (first | (with_reducible first | exact HB.out | apply below_alloc | apply pw_below_drewN | apply below_drew1 | refine below_set ?_ GE113.out) | exact HB.out))) : w.heap.size ≤ gb114)); have n4_ := Aside0.mk ((by rw [hg]; exact (below_size (by repeat (first | (with_reducible first | exact HB.out | apply below_alloc | apply pw_below_drewN | apply below_drew1 | refine below_set ?_ GE113.out) | exact HB.out))) : w.heap.size ≤ gb114)); have n5_ := Aside0.mk ((by rw [hg]; exact Nat.ne_of_lt (blk_lt (g := gb113) (o := .cells #[.int .i64 a0_0, .int .i64 a0_1, .int .i64 a0_2] 80 (0, 0)) (by (with_reducible repeat (first | refine blk_drewN ?_ _ | refine blk_drew ?_ | refine blk_alloc ?_ _)); exact BK113.out)) : gb113 ≠ gb114)); have n6_ := Aside0.mk ((by rw [hg]; exact Nat.ne_of_gt (blk_lt (g := gb113) (o := .cells #[.int .i64 a0_0, .int .i64 a0_1, .int .i64 a0_2] 80 (0, 0)) (by (with_reducible repeat (first | refine blk_drewN ?_ _ | refine blk_drew ?_ | refine blk_alloc ?_ _)); exact BK113.out)) : gb114 ≠ gb113)); clear BK113; clear HB; have BK113 := n0_; have HB := n1_; have BK114 := n2_; have GW114 := n3_; have GE114 := n4_; have NB113_114 := n5_; have NB114_113 := n6_; clear n0_ n1_ n2_ n3_ n4_ n5_ n6_; clear hb hbox hg; have hnb12 := NB113_114.out; have hnc12 := NB114_113.out; have hcz13_0 : w11.cell? ⟨gb113, 0, none⟩ = some (.int .i64 a0_0) := (blk_cell BK113.out 0).trans rfl; have hcz13_1 : w11.cell? ⟨gb113, 1, none⟩ = some (.int .i64 a0_1) := (blk_cell BK113.out 1).trans rfl; have hcz13_2 : w11.cell? ⟨gb113, 2, none⟩ = some (.int .i64 a0_2) := (blk_cell BK113.out 2).trans rfl; have hfz13_0 := blk_frozen BK113.out 0; have hfz13_1 := blk_frozen BK113.out 1; have hfz13_2 := blk_frozen BK113.out 2) | (go_at_call 68; (with_reducible refine (spec_CronMonthDays.calls a0_0 a0_1 t115 _ A2.out).mono ?_); rintro e w' ⟨rfl, ⟨nd, rfl⟩⟩; (try first | exact ⟨rfl, _, World.drewN_drewN _ _ _⟩ | exact ⟨rfl, _, Eq.trans (World.drewN_drewN _ _ _) (congrArg (World.drewN _) (Nat.add_assoc _ _ _))⟩); have hcz14_0 : w11.cell? ⟨gb114, 0, none⟩ = some (.int .i64 0) := (blk_cell BK114.out 0).trans rfl; have hcz14_1 : w11.cell? ⟨gb114, 1, none⟩ = some (.int .i64 0) := (blk_cell BK114.out 1).trans rfl; have hcz14_2 : w11.cell? ⟨gb114, 2, none⟩ = some (.int .i64 0) := (blk_cell BK114.out 2).trans rfl; have hfz14_0 := blk_frozen BK114.out 0; have hfz14_1 := blk_frozen BK114.out 1; have hfz14_2 := blk_frozen BK114.out 2)))
      refine bodyPost_ret (results_cell_row rfl _ _ gb114 80 #[.int .i64 a0_0, .int .i64 (wrap64 (a0_1 + 1)), .int .i64 1] (0, 0) _ rfl (by (with_reducible repeat (first | refine blk_drewN ?_ _ | refine blk_drew ?_ | refine blk_alloc ?_ _)); refine blk_put (cs := #[.int .i64 a0_0, .int .i64 (wrap64 (a0_1 + 1)), .int .i64 0]) ?_ 2 _ rfl; (with_reducible repeat (first | refine blk_drewN ?_ _ | refine blk_drew ?_ | refine blk_alloc ?_ _)); refine blk_put (cs := #[.int .i64 a0_0, .int .i64 0, .int .i64 0]) ?_ 1 _ rfl; (with_reducible repeat (first | refine blk_drewN ?_ _ | refine blk_drew ?_ | refine blk_alloc ?_ _)); refine blk_put (cs := #[.int .i64 0, .int .i64 0, .int .i64 0]) ?_ 0 _ rfl; (with_reducible repeat (first | refine blk_drewN ?_ _ | refine blk_drew ?_ | refine blk_alloc ?_ _)); exact BK114.out) Try.underlying80 rfl (by kernel_rfl)) rfl ?_
      exact ⟨by first | rfl | (simp [errW_none, errW_some] <;> rfl) | (simp [*, errW_none, errW_some] <;> rfl), by repeat (first | (with_reducible first | exact HB.out | apply below_alloc | apply pw_below_drewN | apply below_drew1 | refine below_set ?_ GE113.out | refine below_set ?_ GE114.out) | exact HB.out)⟩
    · rw [if_neg c9] at H
      have c9b0 : decide (a0_1 < 12) = false := decide_eq_false c9
      clear c9
      simp only [Option.some.injEq, Prod.mk.injEq] at H
      obtain ⟨rfl, rfl, rfl⟩ := H
      go_enter Try.func43, Try.ntmps43
      go_wp2_with (first | ((with_reducible refine gate_dst (N := 1) rfl ?_); refine box_event ?hg (N := 1) ?hd (cs := #[.int .i64 a0_0, .int .i64 a0_1, .int .i64 a0_2]) (t := 80) ?hr ?_; (case hd => rfl); (case hg => rfl); (case hr => first | (go_simp; done) | (go_simp; rfl)); intro gb113 hg w15 hbox hb; have n0_ := Aside0.mk (below_step (by repeat (first | (with_reducible first | exact HB.out | apply below_alloc | apply pw_below_drewN | apply below_drew1) | exact HB.out)) hb); have n1_ := Aside0.mk (hbox); have n2_ := Aside0.mk ((by rw [hg]; exact (below_size (by repeat (first | (with_reducible first | exact HB.out | apply below_alloc | apply pw_below_drewN | apply below_drew1) | exact HB.out))) : w.heap.size ≤ gb113)); have n3_ := Aside0.mk ((by rw [hg]; exact (below_size (by repeat (first | (with_reducible first | exact HB.out | apply below_alloc | apply pw_below_drewN | apply below_drew1) | exact HB.out))) : w.heap.size ≤ gb113)); clear HB; have HB := n0_; have BK113 := n1_; have GW113 := n2_; have GE113 := n3_; clear n0_ n1_ n2_ n3_; clear hb hbox hg) | ((with_reducible refine gate_dst (N := 2) rfl ?_); refine box_event ?hg (N := 2) ?hd (cs := #[.int .i64 0, .int .i64 0, .int .i64 0]) (t := 80) ?hr ?_; (case hd => rfl); (case hg => rfl); (case hr => first | (go_simp; done) | (go_simp; rfl)); intro gb114 hg w16 hbox hb; have n0_ := Aside0.mk (blk_below (g := gb113) (o := .cells #[.int .i64 a0_0, .int .i64 a0_1, .int .i64 a0_2] 80 (0, 0)) (by (with_reducible repeat (first | refine blk_drewN ?_ _ | refine blk_drew ?_ | refine blk_alloc ?_ _)); exact BK113.out) hb); have n1_ := Aside0.mk (below_step (by repeat (first | (with_reducible first | exact HB.out | apply below_alloc | apply pw_below_drewN | apply below_drew1 | refine below_set ?_ GE113.out) | exact HB.out)) hb); have n2_ := Aside0.mk (hbox); have n3_ := Aside0.mk ((by rw [hg]; exact (below_size (by repeat (first | (with_reducible first | exact HB.out | apply below_alloc | apply pw_below_drewN | apply below_drew1 | refine below_set ?_ GE113.out) | exact HB.out))) : w.heap.size ≤ gb114)); have n4_ := Aside0.mk ((by rw [hg]; exact (below_size (by repeat (first | (with_reducible first | exact HB.out | apply below_alloc | apply pw_below_drewN | apply below_drew1 | refine below_set ?_ GE113.out) | exact HB.out))) : w.heap.size ≤ gb114)); have n5_ := Aside0.mk ((by rw [hg]; exact Nat.ne_of_lt (blk_lt (g := gb113) (o := .cells #[.int .i64 a0_0, .int .i64 a0_1, .int .i64 a0_2] 80 (0, 0)) (by (with_reducible repeat (first | refine blk_drewN ?_ _ | refine blk_drew ?_ | refine blk_alloc ?_ _)); exact BK113.out)) : gb113 ≠ gb114)); have n6_ := Aside0.mk ((by rw [hg]; exact Nat.ne_of_gt (blk_lt (g := gb113) (o := .cells #[.int .i64 a0_0, .int .i64 a0_1, .int .i64 a0_2] 80 (0, 0)) (by (with_reducible repeat (first | refine blk_drewN ?_ _ | refine blk_drew ?_ | refine blk_alloc ?_ _)); exact BK113.out)) : gb114 ≠ gb113)); clear BK113; clear HB; have BK113 := n0_; have HB := n1_; have BK114 := n2_; have GW114 := n3_; have GE114 := n4_; have NB113_114 := n5_; have NB114_113 := n6_; clear n0_ n1_ n2_ n3_ n4_ n5_ n6_; clear hb hbox hg; have hnb17 := NB113_114.out; have hnc17 := NB114_113.out; have hcz18_0 : w16.cell? ⟨gb113, 0, none⟩ = some (.int .i64 a0_0) := (blk_cell BK113.out 0).trans rfl; have hcz18_1 : w16.cell? ⟨gb113, 1, none⟩ = some (.int .i64 a0_1) := (blk_cell BK113.out 1).trans rfl; have hcz18_2 : w16.cell? ⟨gb113, 2, none⟩ = some (.int .i64 a0_2) := (blk_cell BK113.out 2).trans rfl; have hfz18_0 := blk_frozen BK113.out 0; have hfz18_1 := blk_frozen BK113.out 1; have hfz18_2 := blk_frozen BK113.out 2) | (go_at_call 68; (with_reducible refine (spec_CronMonthDays.calls a0_0 a0_1 t115 _ A2.out).mono ?_); rintro e w' ⟨rfl, ⟨nd, rfl⟩⟩; (try first | exact ⟨rfl, _, World.drewN_drewN _ _ _⟩ | exact ⟨rfl, _, Eq.trans (World.drewN_drewN _ _ _) (congrArg (World.drewN _) (Nat.add_assoc _ _ _))⟩); have hcz19_0 : w16.cell? ⟨gb114, 0, none⟩ = some (.int .i64 0) := (blk_cell BK114.out 0).trans rfl; have hcz19_1 : w16.cell? ⟨gb114, 1, none⟩ = some (.int .i64 0) := (blk_cell BK114.out 1).trans rfl; have hcz19_2 : w16.cell? ⟨gb114, 2, none⟩ = some (.int .i64 0) := (blk_cell BK114.out 2).trans rfl; have hfz19_0 := blk_frozen BK114.out 0; have hfz19_1 := blk_frozen BK114.out 1; have hfz19_2 := blk_frozen BK114.out 2))
      repeat (go_quiet (first | ((with_reducible refine gate_dst (N := 1) rfl ?_); refine box_event ?hg (N := 1) ?hd (cs := #[.int .i64 a0_0, .int .i64 a0_1, .int .i64 a0_2]) (t := 80) ?hr ?_; (case hd => rfl); (case hg => rfl); (case hr => first | (go_simp; done) | (go_simp; rfl)); intro gb113 hg w15 hbox hb; have n0_ := Aside0.mk (below_step (by repeat (first | (with_reducible first | exact HB.out | apply below_alloc | apply pw_below_drewN | apply below_drew1) | exact HB.out)) hb); have n1_ := Aside0.mk (hbox); have n2_ := Aside0.mk ((by rw [hg]; exact (below_size (by repeat (first | (with_reducible first | exact HB.out | apply below_alloc | apply pw_below_drewN | apply below_drew1) | exact HB.out))) : w.heap.size ≤ gb113)); have n3_ := Aside0.mk ((by rw [hg]; exact (below_size (by repeat (first | (with_reducible first | exact HB.out | apply below_alloc | apply pw_below_drewN | apply below_drew1) | exact HB.out))) : w.heap.size ≤ gb113)); clear HB; have HB := n0_; have BK113 := n1_; have GW113 := n2_; have GE113 := n3_; clear n0_ n1_ n2_ n3_; clear hb hbox hg) | ((with_reducible refine gate_dst (N := 2) rfl ?_); refine box_event ?hg (N := 2) ?hd (cs := #[.int .i64 0, .int .i64 0, .int .i64 0]) (t := 80) ?hr ?_; (case hd => rfl); (case hg => rfl); (case hr => first | (go_simp; done) | (go_simp; rfl)); intro gb114 hg w16 hbox hb; have n0_ := Aside0.mk (blk_below (g := gb113) (o := .cells #[.int .i64 a0_0, .int .i64 a0_1, .int .i64 a0_2] 80 (0, 0)) (by (with_reducible repeat (first | refine blk_drewN ?_ _ | refine blk_drew ?_ | refine blk_alloc ?_ _)); exact BK113.out) hb); have n1_ := Aside0.mk (below_step (by repeat (first | (with_reducible first | exact HB.out | apply below_alloc | apply pw_below_drewN | apply below_drew1 | refine below_set ?_ GE113.out) | exact HB.out)) hb); have n2_ := Aside0.mk (hbox); have n3_ := Aside0.mk ((by rw [hg]; exact (below_size (by repeat (first | (with_reducible first | exact HB.out | apply below_alloc | apply pw_below_drewN | apply below_drew1 | refine below_set ?_ GE113.out) | exact HB.out))) : w.heap.size ≤ gb114)); have n4_ := Aside0.mk ((by rw [hg]; exact (below_size (by repeat (first | (with_reducible first | exact HB.out | apply below_alloc | apply pw_below_drewN | apply below_drew1 | refine below_set ?_ GE113.out) | exact HB.out))) : w.heap.size ≤ gb114)); have n5_ := Aside0.mk ((by rw [hg]; exact Nat.ne_of_lt (blk_lt (g := gb113) (o := .cells #[.int .i64 a0_0, .int .i64 a0_1, .int .i64 a0_2] 80 (0, 0)) (by (with_reducible repeat (first | refine blk_drewN ?_ _ | refine blk_drew ?_ | refine blk_alloc ?_ _)); exact BK113.out)) : gb113 ≠ gb114)); have n6_ := Aside0.mk ((by rw [hg]; exact Nat.ne_of_gt (blk_lt (g := gb113) (o := .cells #[.int .i64 a0_0, .int .i64 a0_1, .int .i64 a0_2] 80 (0, 0)) (by (with_reducible repeat (first | refine blk_drewN ?_ _ | refine blk_drew ?_ | refine blk_alloc ?_ _)); exact BK113.out)) : gb114 ≠ gb113)); clear BK113; clear HB; have BK113 := n0_; have HB := n1_; have BK114 := n2_; have GW114 := n3_; have GE114 := n4_; have NB113_114 := n5_; have NB114_113 := n6_; clear n0_ n1_ n2_ n3_ n4_ n5_ n6_; clear hb hbox hg; have hnb17 := NB113_114.out; have hnc17 := NB114_113.out; have hcz18_0 : w16.cell? ⟨gb113, 0, none⟩ = some (.int .i64 a0_0) := (blk_cell BK113.out 0).trans rfl; have hcz18_1 : w16.cell? ⟨gb113, 1, none⟩ = some (.int .i64 a0_1) := (blk_cell BK113.out 1).trans rfl; have hcz18_2 : w16.cell? ⟨gb113, 2, none⟩ = some (.int .i64 a0_2) := (blk_cell BK113.out 2).trans rfl; have hfz18_0 := blk_frozen BK113.out 0; have hfz18_1 := blk_frozen BK113.out 1; have hfz18_2 := blk_frozen BK113.out 2) | (go_at_call 68; (with_reducible refine (spec_CronMonthDays.calls a0_0 a0_1 t115 _ A2.out).mono ?_); rintro e w' ⟨rfl, ⟨nd, rfl⟩⟩; (try first | exact ⟨rfl, _, World.drewN_drewN _ _ _⟩ | exact ⟨rfl, _, Eq.trans (World.drewN_drewN _ _ _) (congrArg (World.drewN _) (Nat.add_assoc _ _ _))⟩); have hcz19_0 : w16.cell? ⟨gb114, 0, none⟩ = some (.int .i64 0) := (blk_cell BK114.out 0).trans rfl; have hcz19_1 : w16.cell? ⟨gb114, 1, none⟩ = some (.int .i64 0) := (blk_cell BK114.out 1).trans rfl; have hcz19_2 : w16.cell? ⟨gb114, 2, none⟩ = some (.int .i64 0) := (blk_cell BK114.out 2).trans rfl; have hfz19_0 := blk_frozen BK114.out 0; have hfz19_1 := blk_frozen BK114.out 1; have hfz19_2 := blk_frozen BK114.out 2)); try go_wp2_with (first | ((with_reducible refine gate_dst (N := 1) rfl ?_); refine box_event ?hg (N := 1) ?hd (cs := #[.int .i64 a0_0, .int .i64 a0_1, .int .i64 a0_2]) (t := 80) ?hr ?_; (case hd => rfl); (case hg => rfl); (case hr => first | (go_simp; done) | (go_simp; rfl)); intro gb113 hg w15 hbox hb; have n0_ := Aside0.mk (below_step (by repeat (first | (with_reducible first | exact HB.out | apply below_alloc | apply pw_below_drewN | apply below_drew1) | exact HB.out)) hb); have n1_ := Aside0.mk (hbox); have n2_ := Aside0.mk ((by rw [hg]; exact (below_size (by repeat (first | (with_reducible first | exact HB.out | apply below_alloc | apply pw_below_drewN | apply below_drew1) | exact HB.out))) : w.heap.size ≤ gb113)); have n3_ := Aside0.mk ((by rw [hg]; exact (below_size (by repeat (first | (with_reducible first | exact HB.out | apply below_alloc | apply pw_below_drewN | apply below_drew1) | exact HB.out))) : w.heap.size ≤ gb113)); clear HB; have HB := n0_; have BK113 := n1_; have GW113 := n2_; have GE113 := n3_; clear n0_ n1_ n2_ n3_; clear hb hbox hg) | ((with_reducible refine gate_dst (N := 2) rfl ?_); refine box_event ?hg (N := 2) ?hd (cs := #[.int .i64 0, .int .i64 0, .int .i64 0]) (t := 80) ?hr ?_; (case hd => rfl); (case hg => rfl); (case hr => first | (go_simp; done) | (go_simp; rfl)); intro gb114 hg w16 hbox hb; have n0_ := Aside0.mk (blk_below (g := gb113) (o := .cells #[.int .i64 a0_0, .int .i64 a0_1, .int .i64 a0_2] 80 (0, 0)) (by (with_reducible repeat (first | refine blk_drewN ?_ _ | refine blk_drew ?_ | refine blk_alloc ?_ _)); exact BK113.out) hb); have n1_ := Aside0.mk (below_step (by repeat (first | (with_reducible first | exact HB.out | apply below_alloc | apply pw_below_drewN | apply below_drew1 | refine below_set ?_ GE113.out) | exact HB.out)) hb); have n2_ := Aside0.mk (hbox); have n3_ := Aside0.mk ((by rw [hg]; exact (below_size (by repeat (first | (with_reducible first | exact HB.out | apply below_alloc | apply pw_below_drewN | apply below_drew1 | refine below_set ?_ GE113.out) | exact HB.out))) : w.heap.size ≤ gb114)); have n4_ := Aside0.mk ((by rw [hg]; exact (below_size (by repeat (first | (with_reducible first | exact HB.out | apply below_alloc | apply pw_below_drewN | apply below_drew1 | refine below_set ?_ GE113.out) | exact HB.out))) : w.heap.size ≤ gb114)); have n5_ := Aside0.mk ((by rw [hg]; exact Nat.ne_of_lt (blk_lt (g := gb113) (o := .cells #[.int .i64 a0_0, .int .i64 a0_1, .int .i64 a0_2] 80 (0, 0)) (by (with_reducible repeat (first | refine blk_drewN ?_ _ | refine blk_drew ?_ | refine blk_alloc ?_ _)); exact BK113.out)) : gb113 ≠ gb114)); have n6_ := Aside0.mk ((by rw [hg]; exact Nat.ne_of_gt (blk_lt (g := gb113) (o := .cells #[.int .i64 a0_0, .int .i64 a0_1, .int .i64 a0_2] 80 (0, 0)) (by (with_reducible repeat (first | refine blk_drewN ?_ _ | refine blk_drew ?_ | refine blk_alloc ?_ _)); exact BK113.out)) : gb114 ≠ gb113)); clear BK113; clear HB; have BK113 := n0_; have HB := n1_; have BK114 := n2_; have GW114 := n3_; have GE114 := n4_; have NB113_114 := n5_; have NB114_113 := n6_; clear n0_ n1_ n2_ n3_ n4_ n5_ n6_; clear hb hbox hg; have hnb17 := NB113_114.out; have hnc17 := NB114_113.out; have hcz18_0 : w16.cell? ⟨gb113, 0, none⟩ = some (.int .i64 a0_0) := (blk_cell BK113.out 0).trans rfl; have hcz18_1 : w16.cell? ⟨gb113, 1, none⟩ = some (.int .i64 a0_1) := (blk_cell BK113.out 1).trans rfl; have hcz18_2 : w16.cell? ⟨gb113, 2, none⟩ = some (.int .i64 a0_2) := (blk_cell BK113.out 2).trans rfl; have hfz18_0 := blk_frozen BK113.out 0; have hfz18_1 := blk_frozen BK113.out 1; have hfz18_2 := blk_frozen BK113.out 2) | (go_at_call 68; (with_reducible refine (spec_CronMonthDays.calls a0_0 a0_1 t115 _ A2.out).mono ?_); rintro e w' ⟨rfl, ⟨nd, rfl⟩⟩; (try first | exact ⟨rfl, _, World.drewN_drewN _ _ _⟩ | exact ⟨rfl, _, Eq.trans (World.drewN_drewN _ _ _) (congrArg (World.drewN _) (Nat.add_assoc _ _ _))⟩); have hcz19_0 : w16.cell? ⟨gb114, 0, none⟩ = some (.int .i64 0) := (blk_cell BK114.out 0).trans rfl; have hcz19_1 : w16.cell? ⟨gb114, 1, none⟩ = some (.int .i64 0) := (blk_cell BK114.out 1).trans rfl; have hcz19_2 : w16.cell? ⟨gb114, 2, none⟩ = some (.int .i64 0) := (blk_cell BK114.out 2).trans rfl; have hfz19_0 := blk_frozen BK114.out 0; have hfz19_1 := blk_frozen BK114.out 1; have hfz19_2 := blk_frozen BK114.out 2)))
      refine bodyPost_ret (results_cell_row rfl _ _ gb114 80 #[.int .i64 (wrap64 (a0_0 + 1)), .int .i64 1, .int .i64 1] (0, 0) _ rfl (by (with_reducible repeat (first | refine blk_drewN ?_ _ | refine blk_drew ?_ | refine blk_alloc ?_ _)); refine blk_put (cs := #[.int .i64 (wrap64 (a0_0 + 1)), .int .i64 1, .int .i64 0]) ?_ 2 _ rfl; (with_reducible repeat (first | refine blk_drewN ?_ _ | refine blk_drew ?_ | refine blk_alloc ?_ _)); refine blk_put (cs := #[.int .i64 (wrap64 (a0_0 + 1)), .int .i64 0, .int .i64 0]) ?_ 1 _ rfl; (with_reducible repeat (first | refine blk_drewN ?_ _ | refine blk_drew ?_ | refine blk_alloc ?_ _)); refine blk_put (cs := #[.int .i64 0, .int .i64 0, .int .i64 0]) ?_ 0 _ rfl; (with_reducible repeat (first | refine blk_drewN ?_ _ | refine blk_drew ?_ | refine blk_alloc ?_ _)); exact BK114.out) Try.underlying80 rfl (by kernel_rfl)) rfl ?_
      exact ⟨by first | rfl | (simp [errW_none, errW_some] <;> rfl) | (simp [*, errW_none, errW_some] <;> rfl), by repeat (first | (with_reducible first | exact HB.out | apply below_alloc | apply pw_below_drewN | apply below_drew1 | refine below_set ?_ GE113.out | refine below_set ?_ GE114.out) | exact HB.out)⟩

/-! ### spec_CronWeekday: function 44 -/
def spec_CronWeekday.f (a0 : Int) : Option (Int) := (spec_floorMod.f (wrap64 (a0 + 4)) 7).bind fun t116 => (some t116)
set_option maxHeartbeats 8000000 in
set_option maxRecDepth 100000 in
theorem spec_CronWeekday.calls (a0 : Int) (r : Int) (w : World) (h : spec_CronWeekday.f a0 = some r) :
    Calls Try.prog 44 #[.int .i64 a0] w fun e w' => e = .returned (.int .i64 r) ∧ Drawn0 w w' := by
  have H : ((spec_floorMod.f (wrap64 (a0 + 4)) 7).bind fun t116 => (some t116)) = some r := h
  clear h
  replace H := Option.bind_eq_some_iff.mp H
  obtain ⟨t116, A20, H⟩ := H
  replace H : (some t116) = some r := H
  have A2 := Aside0.mk A20
  clear A20
  obtain rfl := Option.some.inj H
  go_enter Try.func44, Try.ntmps44
  go_wp2_with (first | ((with_reducible refine gate_callee (f := 52) rfl ?_); refine goesL_ (some 5) rfl rfl Try.func52 (by kernel_rfl) rfl #[.int .i64 (wrap64 (a0 + 4)), .int .i64 7] rfl (by (try simp only [List.map_toArray, List.map_cons, List.map_nil]); first | done | rfl | (simp only [List.length_drop, List.length_take]; rfl)) ?_; (with_reducible refine (spec_floorMod.calls (wrap64 (a0 + 4)) 7 t116 _ A2.out).mono ?_); rintro e w' ⟨rfl, ⟨nd, rfl⟩⟩; refine ⟨_, rfl, ?_⟩))
  go_ret
  exact ⟨by first | rfl | (simp; done) | (simp [*]; done) | (simp [bne]; done) | (simp [bne, List.isEmpty_iff]; done) | (cases a0.toList <;> simp; done), by repeat (first | exact Drawn0.refl _ | apply Drawn0.step)⟩

/-! ### spec_CronClock: function 39 -/
def spec_CronClock.f (k : Nat) (a0 : Int) (a1 : Int) : Option (Int × Int × Int × Int × Int × Int × Int × Int) := (spec_floorDiv.f a0 86400).bind fun t118 => ((spec_CronDateOf.f k t118).bind fun bt119 => ((spec_CronWeekday.f t118).bind fun t123 => (some (bt119.1, bt119.2.1, bt119.2.2, wrap64 (Int.tdiv (wrap64 (a0 - (wrap64 (86400 * t118)))) 3600), Int.tmod (wrap64 (Int.tdiv (wrap64 (a0 - (wrap64 (86400 * t118)))) 60)) 60, Int.tmod (wrap64 (a0 - (wrap64 (86400 * t118)))) 60, a1, t123))))
theorem spec_CronClock.mono : ∀ a0 a1 k, LeO (spec_CronClock.f k a0 a1) (spec_CronClock.f (k + 1) a0 a1) := by
  intro a0 a1 k
  unfold spec_CronClock.f
  repeat' first
      | (with_reducible exact spec_CronDateOf.mono _ _)
      | (with_reducible exact LeO.refl _)
      | (with_reducible exact LeO.none _)
      | (with_reducible refine LeO.ite ?_ ?_)
      | (with_reducible refine LeO.bind ?_ (fun _ => ?_))
      | exact spec_CronDateOf.mono _ _
      | exact LeO.none _
      | refine LeO.ite ?_ ?_
      | refine LeO.bind ?_ (fun _ => ?_)
def spec_CronClock.T4 : Bool × List (List Nat × List Nat) := (true, [([], []), ([0], [0]), ([], []), ([2], [2]), ([], []), ([4], [4]), ([], []), ([6], [6]), ([], []), ([8], [8]), ([9], [9]), ([], []), ([11], [11]), ([], []), ([], []), ([14], [14]), ([1, 3, 5, 7, 10, 12, 13, 15], [1, 3, 5, 7, 10, 12, 13, 15]), ([16, 15, 0, 1, 2, 3, 4, 5, 6, 7, 8, 9, 10, 11, 12, 13, 14, 15, 16], [16])])
def spec_CronClock.B4 : List Nat := [0, 1, 0, 4, 0, 16, 0, 64, 0, 256, 768, 0, 2048, 0, 0, 16384, 65535, 131071]
theorem spec_CronClock.tab4 : rtab .any (opsOf Try.f39 4) = spec_CronClock.T4 := by kernel_rfl
theorem spec_CronClock.bits4 : waitsOk spec_CronClock.T4.2 spec_CronClock.B4 = true := by kernel_rfl
set_option maxHeartbeats 8000000 in
set_option maxRecDepth 100000 in
theorem spec_CronClock.calls (k : Nat) (a0 : Int) (a1 : Int) (r1 : Int) (r2 : Int) (r3 : Int) (r4 : Int) (r5 : Int) (r6 : Int) (r7 : Int) (r8 : Int) (w : World) (h : spec_CronClock.f k a0 a1 = some (r1, r2, r3, r4, r5, r6, r7, r8)) :
    Calls Try.prog 39 #[.int .i64 a0, .int .i64 a1] w fun e w' => e = .returned (.agg #[.int .i64 r1, .int .i64 r2, .int .i64 r3, .int .i64 r4, .int .i64 r5, .int .i64 r6, .int .i64 r7, .int .i64 r8]) ∧ Below w.heap.size w w' := by
  have hu46 := Try.underlying46
  have hu80 := Try.underlying80
  have HB := Aside0.mk (Below.refl w.heap.size w)
  have H : ((spec_floorDiv.f a0 86400).bind fun t118 => ((spec_CronDateOf.f k t118).bind fun bt119 => ((spec_CronWeekday.f t118).bind fun t123 => (some (bt119.1, bt119.2.1, bt119.2.2, wrap64 (Int.tdiv (wrap64 (a0 - (wrap64 (86400 * t118)))) 3600), Int.tmod (wrap64 (Int.tdiv (wrap64 (a0 - (wrap64 (86400 * t118)))) 60)) 60, Int.tmod (wrap64 (a0 - (wrap64 (86400 * t118)))) 60, a1, t123))))) = some (r1, r2, r3, r4, r5, r6, r7, r8) := h
  clear h
  replace H := Option.bind_eq_some_iff.mp H
  obtain ⟨t118, A30, H⟩ := H
  replace H : ((spec_CronDateOf.f k t118).bind fun bt119 => ((spec_CronWeekday.f t118).bind fun t123 => (some (bt119.1, bt119.2.1, bt119.2.2, wrap64 (Int.tdiv (wrap64 (a0 - (wrap64 (86400 * t118)))) 3600), Int.tmod (wrap64 (Int.tdiv (wrap64 (a0 - (wrap64 (86400 * t118)))) 60)) 60, Int.tmod (wrap64 (a0 - (wrap64 (86400 * t118)))) 60, a1, t123)))) = some (r1, r2, r3, r4, r5, r6, r7, r8) := H
  have A3 := Aside0.mk A30
  clear A30
  replace H := Option.bind_eq_some_iff.mp H
  obtain ⟨⟨t119, t120, t121⟩, A40, H⟩ := H
  replace H : ((spec_CronWeekday.f t118).bind fun t123 => (some (t119, t120, t121, wrap64 (Int.tdiv (wrap64 (a0 - (wrap64 (86400 * t118)))) 3600), Int.tmod (wrap64 (Int.tdiv (wrap64 (a0 - (wrap64 (86400 * t118)))) 60)) 60, Int.tmod (wrap64 (a0 - (wrap64 (86400 * t118)))) 60, a1, t123))) = some (r1, r2, r3, r4, r5, r6, r7, r8) := H
  have A4 := Aside0.mk A40
  clear A40
  replace H := Option.bind_eq_some_iff.mp H
  obtain ⟨t123, A50, H⟩ := H
  replace H : (some (t119, t120, t121, wrap64 (Int.tdiv (wrap64 (a0 - (wrap64 (86400 * t118)))) 3600), Int.tmod (wrap64 (Int.tdiv (wrap64 (a0 - (wrap64 (86400 * t118)))) 60)) 60, Int.tmod (wrap64 (a0 - (wrap64 (86400 * t118)))) 60, a1, t123)) = some (r1, r2, r3, r4, r5, r6, r7, r8) := H
  have A5 := Aside0.mk A50
  clear A50
  simp only [Option.some.injEq, Prod.mk.injEq] at H
  obtain ⟨rfl, rfl, rfl, rfl, rfl, rfl, rfl, rfl⟩ := H
  go_enter Try.func39, Try.ntmps39
  try go_wp2_with (first | ((with_reducible refine gate_dst (N := 4) rfl ?_); refine box_event ?hg (N := 4) ?hd (cs := #[.int .i64 0, .int .i64 0, .int .i64 0, .int .i64 0, .int .i64 0, .int .i64 0, .int .i64 0, .int .i64 0]) (t := 46) ?hr ?_; (case hd => rfl); (case hg => rfl); (case hr => first | (go_simp; done) | (go_simp; rfl)); intro gb117 hg w6 hbox hb; have n0_ := Aside0.mk (below_step (by repeat (first | (with_reducible first | exact HB.out | apply below_alloc | apply pw_below_drewN | apply below_drew1) | exact HB.out)) hb); have n1_ := Aside0.mk (hbox); have n2_ := Aside0.mk ((by rw [hg]; exact (below_size (by repeat (first | (with_reducible first | exact HB.out | apply below_alloc | apply pw_below_drewN | apply below_drew1) | exact HB.out))) : w.heap.size ≤ gb117)); have n3_ := Aside0.mk ((by rw [hg]; exact (below_size (by repeat (first | (with_reducible first | exact HB.out | apply below_alloc | apply pw_below_drewN | apply below_drew1) | exact HB.out))) : w.heap.size ≤ gb117)); clear HB; have HB := n0_; have BK117 := n1_; have GW117 := n2_; have GE117 := n3_; clear n0_ n1_ n2_ n3_; clear hb hbox hg) | ((with_reducible refine gate_callee (f := 41) rfl ?_); refine goesL_ (some 9) rfl rfl Try.func41 (by kernel_rfl) rfl #[.int .i64 a0, .int .i64 86400] rfl (by (try simp only [List.map_toArray, List.map_cons, List.map_nil]); first | done | rfl | (simp only [List.length_drop, List.length_take]; rfl)) ?_; (with_reducible refine (spec_floorDiv.calls a0 86400 t118 _ A3.out).mono ?_); rintro e w' ⟨rfl, ⟨nd, rfl⟩⟩; refine ⟨_, rfl, ?_⟩; (try (rw [drewN_self w6]; generalize hq_ : World.drewN w6 _ = w6; have n0_ : Aside0 (w6.heap[gb117]? = some (.cells #[.int .i64 0, .int .i64 0, .int .i64 0, .int .i64 0, .int .i64 0, .int .i64 0, .int .i64 0, .int .i64 0] 46 (0, 0))) := ⟨by rw [← hq_]; exact (by (with_reducible repeat (first | refine blk_drewN ?_ _ | refine blk_drew ?_ | refine blk_alloc ?_ _)); exact BK117.out)⟩; have n1_ : Aside0 (Below w.heap.size w w6) := ⟨by rw [← hq_]; exact (by repeat (first | (with_reducible first | exact HB.out | apply below_alloc | apply pw_below_drewN | apply below_drew1 | refine below_set ?_ GE117.out) | exact HB.out))⟩; clear BK117 HB hq_; have BK117 := n0_; have HB := n1_; clear n0_ n1_))) | ((with_reducible refine gate_callee (f := 42) rfl ?_); refine goesL_ (some 15) rfl rfl Try.func42 (by kernel_rfl) rfl #[.int .i64 t118] rfl (by (try simp only [List.map_toArray, List.map_cons, List.map_nil]); first | done | rfl | (simp only [List.length_drop, List.length_take]; rfl)) ?_; (with_reducible refine (spec_CronDateOf.calls k t118 t119 t120 t121 _ A4.out).mono ?_); rintro e w7 ⟨rfl, hb⟩; refine ⟨_, rfl, ?_⟩; have n0_ := Aside0.mk (blk_below (g := gb117) (o := .cells #[.int .i64 0, .int .i64 0, .int .i64 0, .int .i64 0, .int .i64 0, .int .i64 0, .int .i64 0, .int .i64 0] 46 (0, 0)) (by (with_reducible repeat (first | refine blk_drewN ?_ _ | refine blk_drew ?_ | refine blk_alloc ?_ _)); exact BK117.out) hb); have n1_ := Aside0.mk (below_step (by repeat (first | (with_reducible first | exact HB.out | apply below_alloc | apply pw_below_drewN | apply below_drew1 | refine below_set ?_ GE117.out) | exact HB.out)) hb); clear BK117; clear HB; have BK117 := n0_; have HB := n1_; clear n0_ n1_; (try clear hb); (try clear hb2); (try clear hk); (try clear hi)) | ((with_reducible refine gate_dst (N := 7) rfl ?_); refine box_event ?hg (N := 7) ?hd (cs := #[.int .i64 0, .int .i64 0, .int .i64 0]) (t := 80) ?hr ?_; (case hd => rfl); (case hg => rfl); (case hr => first | (go_simp; done) | (go_simp; rfl)); intro gb122 hg w8 hbox hb; have n0_ := Aside0.mk (blk_below (g := gb117) (o := .cells #[.int .i64 0, .int .i64 0, .int .i64 0, .int .i64 0, .int .i64 0, .int .i64 0, .int .i64 0, .int .i64 0] 46 (0, 0)) (by (with_reducible repeat (first | refine blk_drewN ?_ _ | refine blk_drew ?_ | refine blk_alloc ?_ _)); exact BK117.out) hb); have n1_ := Aside0.mk (below_step (by repeat (first | (with_reducible first | exact HB.out | apply below_alloc | apply pw_below_drewN | apply below_drew1 | refine below_set ?_ GE117.out) | exact HB.out)) hb); have n2_ := Aside0.mk (hbox); have n3_ := Aside0.mk ((by rw [hg]; exact (below_size (by repeat (first | (with_reducible first | exact HB.out | apply below_alloc | apply pw_below_drewN | apply below_drew1 | refine below_set ?_ GE117.out) | exact HB.out))) : w.heap.size ≤ gb122)); have n4_ := Aside0.mk ((by rw [hg]; exact (below_size (by repeat (first | (with_reducible first | exact HB.out | apply below_alloc | apply pw_below_drewN | apply below_drew1 | refine below_set ?_ GE117.out) | exact HB.out))) : w.heap.size ≤ gb122)); have n5_ := Aside0.mk ((by rw [hg]; exact Nat.ne_of_lt (blk_lt (g := gb117) (o := .cells #[.int .i64 0, .int .i64 0, .int .i64 0, .int .i64 0, .int .i64 0, .int .i64 0, .int .i64 0, .int .i64 0] 46 (0, 0)) (by (with_reducible repeat (first | refine blk_drewN ?_ _ | refine blk_drew ?_ | refine blk_alloc ?_ _)); exact BK117.out)) : gb117 ≠ gb122)); have n6_ := Aside0.mk ((by rw [hg]; exact Nat.ne_of_gt (blk_lt (g := gb117) (o := .cells #[.int .i64 0, .int .i64 0, .int .i64 0, .int .i64 0, .int .i64 0, .int .i64 0, .int .i64 0, .int .i64 0] 46 (0, 0)) (by (with_reducible repeat (first | refine blk_drewN ?_ _ | refine blk_drew ?_ | refine blk_alloc ?_ _)); exact BK117.out)) : gb122 ≠ gb117)); clear BK117; clear HB; have BK117 := n0_; have HB := n1_; have BK122 := n2_; have GW122 := n3_; have GE122 := n4_; have NB117_122 := n5_; have NB122_117 := n6_; clear n0_ n1_ n2_ n3_ n4_ n5_ n6_; clear hb hbox hg; have hnb9 := NB122_117.out; have hnc9 := NB117_122.out; have hcz10_0 : w8.cell? ⟨gb122, 0, none⟩ = some (.int .i64 0) := (blk_cell BK122.out 0).trans rfl; have hcz10_1 : w8.cell? ⟨gb122, 1, none⟩ = some (.int .i64 0) := (blk_cell BK122.out 1).trans rfl; have hcz10_2 : w8.cell? ⟨gb122, 2, none⟩ = some (.int .i64 0) := (blk_cell BK122.out 2).trans rfl; have hfz10_0 := blk_frozen BK122.out 0; have hfz10_1 := blk_frozen BK122.out 1; have hfz10_2 := blk_frozen BK122.out 2))
  have n0_ : Aside0 ((((w8.setCell ⟨gb122, 0, none⟩ (.int .i64 t119)).setCell ⟨gb122, 1, none⟩ (.int .i64 t120)).setCell ⟨gb122, 2, none⟩ (.int .i64 t121)).heap[gb117]? = some (.cells #[.int .i64 0, .int .i64 0, .int .i64 0, .int .i64 0, .int .i64 0, .int .i64 0, .int .i64 0, .int .i64 0] 46 (0, 0))) := ⟨by (with_reducible repeat (first | refine blk_drewN ?_ _ | refine blk_drew ?_ | refine blk_alloc ?_ _)); refine blk_far ?_ NB117_122.out _; (with_reducible repeat (first | refine blk_drewN ?_ _ | refine blk_drew ?_ | refine blk_alloc ?_ _)); refine blk_far ?_ NB117_122.out _; (with_reducible repeat (first | refine blk_drewN ?_ _ | refine blk_drew ?_ | refine blk_alloc ?_ _)); refine blk_far ?_ NB117_122.out _; (with_reducible repeat (first | refine blk_drewN ?_ _ | refine blk_drew ?_ | refine blk_alloc ?_ _)); exact BK117.out⟩
  have n1_ : Aside0 ((((w8.setCell ⟨gb122, 0, none⟩ (.int .i64 t119)).setCell ⟨gb122, 1, none⟩ (.int .i64 t120)).setCell ⟨gb122, 2, none⟩ (.int .i64 t121)).heap[gb122]? = some (.cells #[.int .i64 t119, .int .i64 t120, .int .i64 t121] 80 (0, 0))) := ⟨by (with_reducible repeat (first | refine blk_drewN ?_ _ | refine blk_drew ?_ | refine blk_alloc ?_ _)); refine blk_put (cs := #[.int .i64 t119, .int .i64 t120, .int .i64 0]) ?_ 2 _ rfl; (with_reducible repeat (first | refine blk_drewN ?_ _ | refine blk_drew ?_ | refine blk_alloc ?_ _)); refine blk_put (cs := #[.int .i64 t119, .int .i64 0, .int .i64 0]) ?_ 1 _ rfl; (with_reducible repeat (first | refine blk_drewN ?_ _ | refine blk_drew ?_ | refine blk_alloc ?_ _)); refine blk_put (cs := #[.int .i64 0, .int .i64 0, .int .i64 0]) ?_ 0 _ rfl; (with_reducible repeat (first | refine blk_drewN ?_ _ | refine blk_drew ?_ | refine blk_alloc ?_ _)); exact BK122.out⟩
  have n2_ : Aside0 (Below w.heap.size w (((w8.setCell ⟨gb122, 0, none⟩ (.int .i64 t119)).setCell ⟨gb122, 1, none⟩ (.int .i64 t120)).setCell ⟨gb122, 2, none⟩ (.int .i64 t121))) := ⟨by repeat (first | (with_reducible first | exact HB.out | apply below_alloc | apply pw_below_drewN | apply below_drew1 | refine below_set ?_ GE117.out | refine below_set ?_ GE122.out) | exact HB.out)⟩
  (try clear BK117)
  (try clear BK122)
  (try clear HB)
  generalize (((w8.setCell ⟨gb122, 0, none⟩ (.int .i64 t119)).setCell ⟨gb122, 1, none⟩ (.int .i64 t120)).setCell ⟨gb122, 2, none⟩ (.int .i64 t121)) = w11 at n0_ n1_ n2_ ⊢
  have BK117 := n0_
  have BK122 := n1_
  have HB := n2_
  clear n0_ n1_ n2_
  have n0_ := Aside0.mk (blk_drew BK117.out)
  have n1_ := Aside0.mk (blk_drew BK122.out)
  have n2_ := Aside0.mk (below_drew1 HB.out)
  clear BK117
  clear BK122
  clear HB
  have BK117 := n0_
  have BK122 := n1_
  have HB := n2_
  clear n0_ n1_ n2_
  refine start_ (n := 18) (S := fun w' => w'.cell? ⟨gb122, 0, none⟩ = some (.int .i64 t119) ∧ w'.cell? ⟨gb122, 1, none⟩ = some (.int .i64 t120) ∧ w'.cell? ⟨gb122, 2, none⟩ = some (.int .i64 t121)) (ds := []) #[false, false, false, false, false, false, false, false, false, false, false, false, false, false, false, false, false, false] (by kernel_rfl) rfl rfl ⟨(blk_cell BK122.out 0).trans rfl, (blk_cell BK122.out 1).trans rfl, (blk_cell BK122.out 2).trans rfl⟩ (fun hHeld => ?_); refine with_tabW spec_CronClock.tab4 spec_CronClock.bits4 (fun HT_ HW_ => ?_)
  generalize w11.drew = w12 at BK117 BK122 HB hHeld ⊢
  refine pure_ (i := 0) (N := some 16) (v := ?_) (a' := ?_) #[true, false, false, false, false, false, false, false, false, false, false, false, false, false, false, false, false, false] rfl rfl (any_of HT_.out (by kernel_rfl)) (fun _ _ _ h => h) (Or.inl ⟨by rfl, ?_⟩) ?_ ?_
  rotate_left
  · intro w'
    go_simp
    with_reducible rfl
  rotate_left
  · simp only [Act.put, List.setIfInBounds_toArray, List.set_cons_zero, List.set_cons_succ, i64_w, i32_w]
    rfl
  refine pure_ (i := 2) (N := some 18) (v := ?_) (a' := ?_) #[true, false, true, false, false, false, false, false, false, false, false, false, false, false, false, false, false, false] rfl rfl (any_of HT_.out (by kernel_rfl)) (fun _ _ _ h => h) (Or.inl ⟨by rfl, ?_⟩) ?_ ?_
  rotate_left
  · intro w'
    go_simp
    with_reducible rfl
  rotate_left
  · simp only [Act.put, List.setIfInBounds_toArray, List.set_cons_zero, List.set_cons_succ, i64_w, i32_w]
    rfl
  refine pure_ (i := 4) (N := some 20) (v := ?_) (a' := ?_) #[true, false, true, false, true, false, false, false, false, false, false, false, false, false, false, false, false, false] rfl rfl (any_of HT_.out (by kernel_rfl)) (fun _ _ _ h => h) (Or.inl ⟨by rfl, ?_⟩) ?_ ?_
  rotate_left
  · intro w'
    go_simp
    with_reducible rfl
  rotate_left
  · simp only [Act.put, List.setIfInBounds_toArray, List.set_cons_zero, List.set_cons_succ, i64_w, i32_w]
    rfl
  refine pure_ (i := 6) (N := some 22) (v := ?_) (a' := ?_) #[true, false, true, false, true, false, true, false, false, false, false, false, false, false, false, false, false, false] rfl rfl (any_of HT_.out (by kernel_rfl)) (fun _ _ _ h => h) (Or.inl ⟨by rfl, ?_⟩) ?_ ?_
  rotate_left
  · intro w'
    go_simp
    with_reducible rfl
  rotate_left
  · simp only [Act.put, List.setIfInBounds_toArray, List.set_cons_zero, List.set_cons_succ, i64_w, i32_w]
    rfl
  refine pure_ (i := 7) (N := some 23) (v := ?_) (a' := ?_) #[true, false, true, false, true, false, true, true, false, false, false, false, false, false, false, false, false, false] rfl rfl (any_of HT_.out (by kernel_rfl)) (fun _ _ _ h => h) (Or.inl ⟨by rfl, ?_⟩) ?_ ?_
  rotate_left
  · intro w'
    go_simp
    with_reducible rfl
  rotate_left
  · simp only [Act.put, List.setIfInBounds_toArray, List.set_cons_zero, List.set_cons_succ, i64_w, i32_w]
    rfl
  refine pure_ (i := 8) (N := some 24) (v := ?_) (a' := ?_) #[true, false, true, false, true, false, true, true, true, false, false, false, false, false, false, false, false, false] rfl rfl (any_of HT_.out (by kernel_rfl)) (fun _ _ _ h => h) (Or.inl ⟨by rfl, ?_⟩) ?_ ?_
  rotate_left
  · intro w'
    go_simp
    with_reducible rfl
  rotate_left
  · simp only [Act.put, List.setIfInBounds_toArray, List.set_cons_zero, List.set_cons_succ, i64_w, i32_w]
    rfl
  refine pure_ (i := 9) (N := some 25) (v := ?_) (a' := ?_) #[true, false, true, false, true, false, true, true, true, true, false, false, false, false, false, false, false, false] rfl rfl (any_of HT_.out (by kernel_rfl)) (fun _ _ _ h => h) (Or.inl ⟨by rfl, ?_⟩) ?_ ?_
  rotate_left
  · intro w'
    go_simp
    with_reducible rfl
  rotate_left
  · simp only [Act.put, List.setIfInBounds_toArray, List.set_cons_zero, List.set_cons_succ, i64_w, i32_w]
    rfl
  refine pure_ (i := 10) (N := some 26) (v := ?_) (a' := ?_) #[true, false, true, false, true, false, true, true, true, true, true, false, false, false, false, false, false, false] rfl rfl (any_of HT_.out (by kernel_rfl)) (fun _ _ _ h => h) (Or.inl ⟨by rfl, ?_⟩) ?_ ?_
  rotate_left
  · intro w'
    go_simp
    with_reducible rfl
  rotate_left
  · simp only [Act.put, List.setIfInBounds_toArray, List.set_cons_zero, List.set_cons_succ, i64_w, i32_w]
    rfl
  refine pure_ (i := 11) (N := some 27) (v := ?_) (a' := ?_) #[true, false, true, false, true, false, true, true, true, true, true, true, false, false, false, false, false, false] rfl rfl (any_of HT_.out (by kernel_rfl)) (fun _ _ _ h => h) (Or.inl ⟨by rfl, ?_⟩) ?_ ?_
  rotate_left
  · intro w'
    go_simp
    with_reducible rfl
  rotate_left
  · simp only [Act.put, List.setIfInBounds_toArray, List.set_cons_zero, List.set_cons_succ, i64_w, i32_w]
    rfl
  refine pure_ (i := 12) (N := some 28) (v := ?_) (a' := ?_) #[true, false, true, false, true, false, true, true, true, true, true, true, true, false, false, false, false, false] rfl rfl (any_of HT_.out (by kernel_rfl)) (fun _ _ _ h => h) (Or.inl ⟨by rfl, ?_⟩) ?_ ?_
  rotate_left
  · intro w'
    go_simp
    with_reducible rfl
  rotate_left
  · simp only [Act.put, List.setIfInBounds_toArray, List.set_cons_zero, List.set_cons_succ, i64_w, i32_w]
    rfl
  refine pure_ (i := 13) (N := some 29) (v := ?_) (a' := ?_) #[true, false, true, false, true, false, true, true, true, true, true, true, true, true, false, false, false, false] rfl rfl (any_of HT_.out (by kernel_rfl)) (fun _ _ _ h => h) (Or.inl ⟨by rfl, ?_⟩) ?_ ?_
  rotate_left
  · intro w'
    go_simp
    with_reducible rfl
  rotate_left
  · simp only [Act.put, List.setIfInBounds_toArray, List.set_cons_zero, List.set_cons_succ, i64_w, i32_w]
    rfl
  refine pure_ (i := 14) (N := some 30) (v := ?_) (a' := ?_) #[true, false, true, false, true, false, true, true, true, true, true, true, true, true, true, false, false, false] rfl rfl (any_of HT_.out (by kernel_rfl)) (fun _ _ _ h => h) (Or.inl ⟨by rfl, ?_⟩) ?_ ?_
  rotate_left
  · intro w'
    go_simp
    with_reducible rfl
  rotate_left
  · simp only [Act.put, List.setIfInBounds_toArray, List.set_cons_zero, List.set_cons_succ, i64_w, i32_w]
    rfl
  refine take_ (i := 1) (N := some 17) (v := ?_) (a' := ?_) #[true, true, true, false, true, false, true, true, true, true, true, true, true, true, true, false, false, false] rfl rfl (take_ofW HT_.out HW_.out (by kernel_rfl)) (fun _ _ _ h => h) (Or.inl ⟨by rfl, ?_⟩) hHeld ?_ ?_
  rotate_left
  · rintro w' ⟨s0, s1, s2⟩
    go_simp
    with_reducible rfl
  rotate_left
  · simp only [Act.put, List.setIfInBounds_toArray, List.set_cons_zero, List.set_cons_succ, i64_w, i32_w]
    rfl
  refine take_ (i := 3) (N := some 19) (v := ?_) (a' := ?_) #[true, true, true, true, true, false, true, true, true, true, true, true, true, true, true, false, false, false] rfl rfl (take_ofW HT_.out HW_.out (by kernel_rfl)) (fun _ _ _ h => h) (Or.inl ⟨by rfl, ?_⟩) hHeld ?_ ?_
  rotate_left
  · rintro w' ⟨s0, s1, s2⟩
    go_simp
    with_reducible rfl
  rotate_left
  · simp only [Act.put, List.setIfInBounds_toArray, List.set_cons_zero, List.set_cons_succ, i64_w, i32_w]
    rfl
  refine take_ (i := 5) (N := some 21) (v := ?_) (a' := ?_) #[true, true, true, true, true, true, true, true, true, true, true, true, true, true, true, false, false, false] rfl rfl (take_ofW HT_.out HW_.out (by kernel_rfl)) (fun _ _ _ h => h) (Or.inl ⟨by rfl, ?_⟩) hHeld ?_ ?_
  rotate_left
  · rintro w' ⟨s0, s1, s2⟩
    go_simp
    with_reducible rfl
  rotate_left
  · simp only [Act.put, List.setIfInBounds_toArray, List.set_cons_zero, List.set_cons_succ, i64_w, i32_w]
    rfl
  refine one_ (i := 15) (N := some 31) #[true, true, true, true, true, true, true, true, true, true, true, true, true, true, true, true, false, false] rfl rfl (one_of HT_.out (by kernel_rfl)) (by decide) (fun K hK => ?_)
  refine goes_ Try.func44 (by kernel_rfl) rfl #[.int .i64 t118] (by rfl) rfl rfl (by (try simp only [List.map_toArray, List.map_cons, List.map_nil]); first | done | rfl | (simp only [List.length_drop, List.length_take]; rfl)) ?_
  with_reducible refine (spec_CronWeekday.calls t118 t123 _ A5.out).mono ?_
  rintro e w' ⟨rfl, ⟨nd, rfl⟩⟩
  refine ⟨_, rfl, ?_⟩
  refine hK.out _ _ ⟨(blk_cell BK122.out 0).trans rfl, (blk_cell BK122.out 1).trans rfl, (blk_cell BK122.out 2).trans rfl⟩ (fun hHeld => ?_)
  clear hK K
  refine norm_ (a' := ?_) ?_ ?_
  rotate_left
  · show Act.put _ (some 31) _ = _
    simp only [Act.put, List.setIfInBounds_toArray, List.set_cons_zero, List.set_cons_succ, i64_w, i32_w]
    rfl
  refine pure_ (i := 16) (N := some 32) (v := ?_) (a' := ?_) #[true, true, true, true, true, true, true, true, true, true, true, true, true, true, true, true, true, false] rfl rfl (any_of HT_.out (by kernel_rfl)) (fun _ _ _ h => h) (Or.inl ⟨by rfl, ?_⟩) ?_ ?_
  rotate_left
  · intro w'
    go_simp
    with_reducible rfl
  rotate_left
  · simp only [Act.put, List.setIfInBounds_toArray, List.set_cons_zero, List.set_cons_succ, i64_w, i32_w]
    rfl
  refine one_ (i := 17) (N := none) #[true, true, true, true, true, true, true, true, true, true, true, true, true, true, true, true, true, true] rfl rfl (one_of HT_.out (by kernel_rfl)) (by decide) (fun K hK => ?_)
  have hs13 : w12.cell? ⟨gb117, 0, none⟩ = some (.int .i64 0) := (blk_cell BK117.out 0).trans rfl
  have hfs13 := blk_frozen BK117.out 0
  have hns13_1 := NB122_117.out
  have hms13_1 := NB117_122.out
  have hs14 : w12.cell? ⟨gb117, 1, none⟩ = some (.int .i64 0) := (blk_cell BK117.out 1).trans rfl
  have hfs14 := blk_frozen BK117.out 1
  have hns14_1 := NB122_117.out
  have hms14_1 := NB117_122.out
  have hs15 : w12.cell? ⟨gb117, 2, none⟩ = some (.int .i64 0) := (blk_cell BK117.out 2).trans rfl
  have hfs15 := blk_frozen BK117.out 2
  have hns15_1 := NB122_117.out
  have hms15_1 := NB117_122.out
  have hs16 : w12.cell? ⟨gb117, 3, none⟩ = some (.int .i64 0) := (blk_cell BK117.out 3).trans rfl
  have hfs16 := blk_frozen BK117.out 3
  have hns16_1 := NB122_117.out
  have hms16_1 := NB117_122.out
  have hs17 : w12.cell? ⟨gb117, 4, none⟩ = some (.int .i64 0) := (blk_cell BK117.out 4).trans rfl
  have hfs17 := blk_frozen BK117.out 4
  have hns17_1 := NB122_117.out
  have hms17_1 := NB117_122.out
  have hs18 : w12.cell? ⟨gb117, 5, none⟩ = some (.int .i64 0) := (blk_cell BK117.out 5).trans rfl
  have hfs18 := blk_frozen BK117.out 5
  have hns18_1 := NB122_117.out
  have hms18_1 := NB117_122.out
  have hs19 : w12.cell? ⟨gb117, 6, none⟩ = some (.int .i64 0) := (blk_cell BK117.out 6).trans rfl
  have hfs19 := blk_frozen BK117.out 6
  have hns19_1 := NB122_117.out
  have hms19_1 := NB117_122.out
  have hs20 : w12.cell? ⟨gb117, 7, none⟩ = some (.int .i64 0) := (blk_cell BK117.out 7).trans rfl
  have hfs20 := blk_frozen BK117.out 7
  have hns20_1 := NB122_117.out
  have hms20_1 := NB117_122.out
  refine skip_ (w1 := ?_) (by rfl) rfl ?_ ?_
  rotate_left
  · go_simp
    rfl
  refine hK.out _ _ ⟨((cell_far (p := ⟨gb117, _, none⟩) NB122_117.out _).trans (((cell_far (p := ⟨gb117, _, none⟩) NB122_117.out _).trans (((cell_far (p := ⟨gb117, _, none⟩) NB122_117.out _).trans (((cell_far (p := ⟨gb117, _, none⟩) NB122_117.out _).trans (((cell_far (p := ⟨gb117, _, none⟩) NB122_117.out _).trans (((cell_far (p := ⟨gb117, _, none⟩) NB122_117.out _).trans (((cell_far (p := ⟨gb117, _, none⟩) NB122_117.out _).trans (((cell_far (p := ⟨gb117, _, none⟩) NB122_117.out _).trans (hHeld.1)))))))))))))))), ((cell_far (p := ⟨gb117, _, none⟩) NB122_117.out _).trans (((cell_far (p := ⟨gb117, _, none⟩) NB122_117.out _).trans (((cell_far (p := ⟨gb117, _, none⟩) NB122_117.out _).trans (((cell_far (p := ⟨gb117, _, none⟩) NB122_117.out _).trans (((cell_far (p := ⟨gb117, _, none⟩) NB122_117.out _).trans (((cell_far (p := ⟨gb117, _, none⟩) NB122_117.out _).trans (((cell_far (p := ⟨gb117, _, none⟩) NB122_117.out _).trans (((cell_far (p := ⟨gb117, _, none⟩) NB122_117.out _).trans (hHeld.2.1)))))))))))))))), ((cell_far (p := ⟨gb117, _, none⟩) NB122_117.out _).trans (((cell_far (p := ⟨gb117, _, none⟩) NB122_117.out _).trans (((cell_far (p := ⟨gb117, _, none⟩) NB122_117.out _).trans (((cell_far (p := ⟨gb117, _, none⟩) NB122_117.out _).trans (((cell_far (p := ⟨gb117, _, none⟩) NB122_117.out _).trans (((cell_far (p := ⟨gb117, _, none⟩) NB122_117.out _).trans (((cell_far (p := ⟨gb117, _, none⟩) NB122_117.out _).trans (((cell_far (p := ⟨gb117, _, none⟩) NB122_117.out _).trans (hHeld.2.2))))))))))))))))⟩ (fun hHeld => ?_)
  clear hK K
  refine done_ (done_of HT_.out (by kernel_rfl)) ?_
  try go_wp2
  refine bodyPost_ret (results_cell_row rfl _ _ gb117 46 #[.int .i64 t119, .int .i64 t120, .int .i64 t121, .int .i64 (wrap64 (Int.tdiv (wrap64 (a0 - (wrap64 (86400 * t118)))) 3600)), .int .i64 (Int.tmod (wrap64 (Int.tdiv (wrap64 (a0 - (wrap64 (86400 * t118)))) 60)) 60), .int .i64 (Int.tmod (wrap64 (a0 - (wrap64 (86400 * t118)))) 60), .int .i64 a1, .int .i64 t123] (0, 0) _ rfl (by (with_reducible repeat (first | refine blk_drewN ?_ _ | refine blk_drew ?_ | refine blk_alloc ?_ _)); refine blk_put (cs := #[.int .i64 t119, .int .i64 t120, .int .i64 t121, .int .i64 (wrap64 (Int.tdiv (wrap64 (a0 - (wrap64 (86400 * t118)))) 3600)), .int .i64 (Int.tmod (wrap64 (Int.tdiv (wrap64 (a0 - (wrap64 (86400 * t118)))) 60)) 60), .int .i64 (Int.tmod (wrap64 (a0 - (wrap64 (86400 * t118)))) 60), .int .i64 a1, .int .i64 0]) ?_ 7 _ rfl; (with_reducible repeat (first | refine blk_drewN ?_ _ | refine blk_drew ?_ | refine blk_alloc ?_ _)); refine blk_put (cs := #[.int .i64 t119, .int .i64 t120, .int .i64 t121, .int .i64 (wrap64 (Int.tdiv (wrap64 (a0 - (wrap64 (86400 * t118)))) 3600)), .int .i64 (Int.tmod (wrap64 (Int.tdiv (wrap64 (a0 - (wrap64 (86400 * t118)))) 60)) 60), .int .i64 (Int.tmod (wrap64 (a0 - (wrap64 (86400 * t118)))) 60), .int .i64 0, .int .i64 0]) ?_ 6 _ rfl; (with_reducible repeat (first | refine blk_drewN ?_ _ | refine blk_drew ?_ | refine blk_alloc ?_ _)); refine blk_put (cs := #[.int .i64 t119, .int .i64 t120, .int .i64 t121, .int .i64 (wrap64 (Int.tdiv (wrap64 (a0 - (wrap64 (86400 * t118)))) 3600)), .int .i64 (Int.tmod (wrap64 (Int.tdiv (wrap64 (a0 - (wrap64 (86400 * t118)))) 60)) 60), .int .i64 0, .int .i64 0, .int .i64 0]) ?_ 5 _ rfl; (with_reducible repeat (first | refine blk_drewN ?_ _ | refine blk_drew ?_ | refine blk_alloc ?_ _)); refine blk_put (cs := #[.int .i64 t119, .int .i64 t120, .int .i64 t121, .int .i64 (wrap64 (Int.tdiv (wrap64 (a0 - (wrap64 (86400 * t118)))) 3600)), .int .i64 0, .int .i64 0, .int .i64 0, .int .i64 0]) ?_ 4 _ rfl; (with_reducible repeat (first | refine blk_drewN ?_ _ | refine blk_drew ?_ | refine blk_alloc ?_ _)); refine blk_put (cs := #[.int .i64 t119, .int .i64 t120, .int .i64 t121, .int .i64 0, .int .i64 0, .int .i64 0, .int .i64 0, .int .i64 0]) ?_ 3 _ rfl; (with_reducible repeat (first | refine blk_drewN ?_ _ | refine blk_drew ?_ | refine blk_alloc ?_ _)); refine blk_put (cs := #[.int .i64 t119, .int .i64 t120, .int .i64 0, .int .i64 0, .int .i64 0, .int .i64 0, .int .i64 0, .int .i64 0]) ?_ 2 _ rfl; (with_reducible repeat (first | refine blk_drewN ?_ _ | refine blk_drew ?_ | refine blk_alloc ?_ _)); refine blk_put (cs := #[.int .i64 t119, .int .i64 0, .int .i64 0, .int .i64 0, .int .i64 0, .int .i64 0, .int .i64 0, .int .i64 0]) ?_ 1 _ rfl; (with_reducible repeat (first | refine blk_drewN ?_ _ | refine blk_drew ?_ | refine blk_alloc ?_ _)); refine blk_put (cs := #[.int .i64 0, .int .i64 0, .int .i64 0, .int .i64 0, .int .i64 0, .int .i64 0, .int .i64 0, .int .i64 0]) ?_ 0 _ rfl; (with_reducible repeat (first | refine blk_drewN ?_ _ | refine blk_drew ?_ | refine blk_alloc ?_ _)); exact BK117.out) Try.underlying46 rfl (by kernel_rfl)) rfl ?_
  exact ⟨by first | rfl | (simp [errW_none, errW_some] <;> rfl) | (simp [*, errW_none, errW_some] <;> rfl), by repeat (first | (with_reducible first | exact HB.out | apply below_alloc | apply pw_below_drewN | apply below_drew1 | refine below_set ?_ GE117.out | refine below_set ?_ GE122.out) | exact HB.out)⟩

/-! ### spec_CronDay: function 71 -/
def spec_CronDay.l0 : Nat → Int → Int → Int → Int → Int → Option (Int)
  | 0, _, _, _, _, _ => none
  | k + 1, x3, x4, x125000, x125001, x125002 => if x4 < x125001 then ((spec_CronMonthDays.f x125000 x4).bind fun t126 => (spec_CronDay.l0 k (wrap64 (x3 + t126)) (wrap64 (x4 + 1)) x125000 x125001 x125002)) else (some (wrap64 ((wrap64 (x3 + x125002)) - 1)))
def spec_CronDay.f (k : Nat) (a0_0 : Int) (a0_1 : Int) (a0_2 : Int) : Option (Int) := (spec_CronYearStart.f a0_0).bind fun t125 => (spec_CronDay.l0 k t125 1 a0_0 a0_1 a0_2)
theorem spec_CronDay.mono_l : ∀ k, (∀ y0 y1 y2 y3 y4, LeO (spec_CronDay.l0 k y0 y1 y2 y3 y4) (spec_CronDay.l0 (k + 1) y0 y1 y2 y3 y4))
  | 0 => fun _ _ _ _ _ r h => by simp [spec_CronDay.l0] at h
  | k + 1 => by
    have ih0 := spec_CronDay.mono_l k
    · intro y0 y1 y2 y3 y4
      unfold spec_CronDay.l0
      repeat' first
      | (with_reducible exact ih0 _ _ _ _ _)
      | (with_reducible exact LeO.refl _)
      | (with_reducible exact LeO.none _)
      | (with_reducible refine LeO.ite ?_ ?_)
      | (with_reducible refine LeO.bind ?_ (fun _ => ?_))
      | exact ih0 _ _ _ _ _
      | exact LeO.none _
      | refine LeO.ite ?_ ?_
      | refine LeO.bind ?_ (fun _ => ?_)
theorem spec_CronDay.mono : ∀ a0 a1 a2 k, LeO (spec_CronDay.f k a0 a1 a2) (spec_CronDay.f (k + 1) a0 a1 a2) := by
  intro a0 a1 a2 k
  have ih0 := spec_CronDay.mono_l k
  unfold spec_CronDay.f
  repeat' first
      | (with_reducible exact ih0 _ _ _ _ _)
      | (with_reducible exact LeO.refl _)
      | (with_reducible exact LeO.none _)
      | (with_reducible refine LeO.ite ?_ ?_)
      | (with_reducible refine LeO.bind ?_ (fun _ => ?_))
      | exact ih0 _ _ _ _ _
      | exact LeO.none _
      | refine LeO.ite ?_ ?_
      | refine LeO.bind ?_ (fun _ => ?_)
set_option maxHeartbeats 8000000 in
set_option maxRecDepth 100000 in
theorem spec_CronDay.calls (k : Nat) (a0_0 : Int) (a0_1 : Int) (a0_2 : Int) (r : Int) (w : World) (h : spec_CronDay.f k a0_0 a0_1 a0_2 = some r) :
    Calls Try.prog 71 #[.agg #[.int .i64 a0_0, .int .i64 a0_1, .int .i64 a0_2]] w fun e w' => e = .returned (.int .i64 r) ∧ Below w.heap.size w w' := by
  have hu80 := Try.underlying80
  have HB := Aside0.mk (Below.refl w.heap.size w)
  have H : ((spec_CronYearStart.f a0_0).bind fun t125 => (spec_CronDay.l0 k t125 1 a0_0 a0_1 a0_2)) = some r := h
  clear h
  replace H := Option.bind_eq_some_iff.mp H
  obtain ⟨t125, A20, H⟩ := H
  replace H : (spec_CronDay.l0 k t125 1 a0_0 a0_1 a0_2) = some r := H
  have A2 := Aside0.mk A20
  clear A20
  have H' := Aside0.mk H
  clear H
  go_enter Try.func71, Try.ntmps71
  go_wp2_with (first | ((with_reducible refine gate_dst (N := 1) rfl ?_); refine box_event ?hg (N := 1) ?hd (cs := #[.int .i64 a0_0, .int .i64 a0_1, .int .i64 a0_2]) (t := 80) ?hr ?_; (case hd => rfl); (case hg => rfl); (case hr => first | (go_simp; done) | (go_simp; rfl)); intro gb124 hg w3 hbox hb; have n0_ := Aside0.mk (below_step (by repeat (first | (with_reducible first | exact HB.out | apply below_alloc | apply pw_below_drewN | apply below_drew1) | exact HB.out)) hb); have n1_ := Aside0.mk (hbox); have n2_ := Aside0.mk ((by rw [hg]; exact (below_size (by repeat (first | (with_reducible first | exact HB.out | apply below_alloc | apply pw_below_drewN | apply below_drew1) | exact HB.out))) : w.heap.size ≤ gb124)); have n3_ := Aside0.mk ((by rw [hg]; exact (below_size (by repeat (first | (with_reducible first | exact HB.out | apply below_alloc | apply pw_below_drewN | apply below_drew1) | exact HB.out))) : w.heap.size ≤ gb124)); clear HB; have HB := n0_; have BK124 := n1_; have GW124 := n2_; have GE124 := n3_; clear n0_ n1_ n2_ n3_; clear hb hbox hg; have hcz4_0 : w3.cell? ⟨gb124, 0, none⟩ = some (.int .i64 a0_0) := (blk_cell BK124.out 0).trans rfl; have hcz4_1 : w3.cell? ⟨gb124, 1, none⟩ = some (.int .i64 a0_1) := (blk_cell BK124.out 1).trans rfl; have hcz4_2 : w3.cell? ⟨gb124, 2, none⟩ = some (.int .i64 a0_2) := (blk_cell BK124.out 2).trans rfl; have hfz4_0 := blk_frozen BK124.out 0; have hfz4_1 := blk_frozen BK124.out 1; have hfz4_2 := blk_frozen BK124.out 2) | ((with_reducible refine gate_callee (f := 67) rfl ?_); refine goesL_ (some 7) rfl rfl Try.func67 (by kernel_rfl) rfl #[.int .i64 a0_0] rfl (by (try simp only [List.map_toArray, List.map_cons, List.map_nil]); first | done | rfl | (simp only [List.length_drop, List.length_take]; rfl)) ?_; (with_reducible refine (spec_CronYearStart.calls a0_0 t125 _ A2.out).mono ?_); rintro e w' ⟨rfl, ⟨nd, rfl⟩⟩; refine ⟨_, rfl, ?_⟩))
  go_loopg [3, 4] k (fun kq v3 v4 w' => ∃ (x3_1 : Int) (x4_1 : Int), v3 = .int .i64 x3_1 ∧ v4 = .int .i64 x4_1 ∧ Aside0 (spec_CronDay.l0 kq x3_1 x4_1 a0_0 a0_1 a0_2 = some r) ∧ Aside0 (kq ≤ k) ∧ Aside0 (w'.heap[gb124]? = some (.cells #[.int .i64 a0_0, .int .i64 a0_1, .int .i64 a0_2] 80 (0, 0))) ∧ Aside0 (Below w.heap.size w w'))
  case atStart => exact ⟨(t125), (1), (by first | rfl | (simp; done) | (simp [*]; done)), (by first | rfl | (simp; done) | (simp [*]; done)), H', ⟨Nat.le_refl _⟩, ⟨by (with_reducible repeat (first | refine blk_drewN ?_ _ | refine blk_drew ?_ | refine blk_alloc ?_ _)); exact BK124.out⟩, ⟨by repeat (first | (with_reducible first | exact HB.out | apply below_alloc | apply pw_below_drewN | apply below_drew1 | refine below_set ?_ GE124.out) | exact HB.out)⟩⟩
  case round =>
    clear H'
    try clear p2
    try clear hcz4_0
    try clear hcz4_1
    try clear hcz4_2
    try clear hfz4_0
    try clear hfz4_1
    try clear hfz4_2
    obtain ⟨x3_1, x4_1, rfl, rfl, HA, HK1, BK124, HB⟩ := hrel
    cases gk with
    | zero => exact absurd HA.out (by simp [spec_CronDay.l0])
    | succ k1 =>
      have H := HA.out
      clear HA
      simp only [spec_CronDay.l0] at H
      by_cases c5 : x4_1 < a0_1
      · rw [if_pos c5] at H
        have c5b0 : decide (x4_1 < a0_1) = true := decide_eq_true c5
        clear c5
        replace H := Option.bind_eq_some_iff.mp H
        obtain ⟨t126, A60, H⟩ := H
        replace H : (spec_CronDay.l0 k1 (wrap64 (x3_1 + t126)) (wrap64 (x4_1 + 1)) a0_0 a0_1 a0_2) = some r := H
        have A6 := Aside0.mk A60
        clear A60
        have H' := Aside0.mk H
        clear H
        have hcz7_0 : wr.cell? ⟨gb124, 0, none⟩ = some (.int .i64 a0_0) := (blk_cell BK124.out 0).trans rfl
        have hcz7_1 : wr.cell? ⟨gb124, 1, none⟩ = some (.int .i64 a0_1) := (blk_cell BK124.out 1).trans rfl
        have hcz7_2 : wr.cell? ⟨gb124, 2, none⟩ = some (.int .i64 a0_2) := (blk_cell BK124.out 2).trans rfl
        have hfz7_0 := blk_frozen BK124.out 0
        have hfz7_1 := blk_frozen BK124.out 1
        have hfz7_2 := blk_frozen BK124.out 2
        go_wp2_with (first | ((with_reducible refine gate_callee (f := 68) rfl ?_); refine goesL_ (some 18) rfl rfl Try.func68 (by kernel_rfl) rfl #[.int .i64 a0_0, .int .i64 x4_1] rfl (by (try simp only [List.map_toArray, List.map_cons, List.map_nil]); first | done | rfl | (simp only [List.length_drop, List.length_take]; rfl)) ?_; (with_reducible refine (spec_CronMonthDays.calls a0_0 x4_1 t126 _ A6.out).mono ?_); rintro e w' ⟨rfl, ⟨nd, rfl⟩⟩; refine ⟨_, rfl, ?_⟩))
        go_roundg k1
        case measure => have := HK1.out; omega
        case rel => exact ⟨(wrap64 (x3_1 + t126)), (wrap64 (x4_1 + 1)), (by first | rfl | (simp; done) | (simp [*]; done)), (by first | rfl | (simp; done) | (simp [*]; done)), H', ⟨by have := HK1.out; omega⟩, ⟨by (with_reducible repeat (first | refine blk_drewN ?_ _ | refine blk_drew ?_ | refine blk_alloc ?_ _)); exact BK124.out⟩, ⟨by repeat (first | (with_reducible first | exact HB.out | apply below_alloc | apply pw_below_drewN | apply below_drew1 | refine below_set ?_ GE124.out) | exact HB.out)⟩⟩
      · rw [if_neg c5] at H
        have c5b0 : decide (x4_1 < a0_1) = false := decide_eq_false c5
        clear c5
        obtain rfl := Option.some.inj H
        have hcz8_0 : wr.cell? ⟨gb124, 0, none⟩ = some (.int .i64 a0_0) := (blk_cell BK124.out 0).trans rfl
        have hcz8_1 : wr.cell? ⟨gb124, 1, none⟩ = some (.int .i64 a0_1) := (blk_cell BK124.out 1).trans rfl
        have hcz8_2 : wr.cell? ⟨gb124, 2, none⟩ = some (.int .i64 a0_2) := (blk_cell BK124.out 2).trans rfl
        have hfz8_0 := blk_frozen BK124.out 0
        have hfz8_1 := blk_frozen BK124.out 1
        have hfz8_2 := blk_frozen BK124.out 2
        go_wp2
        go_ret
        exact ⟨by first | rfl | (simp [errW_none, errW_some] <;> rfl) | (simp [*, errW_none, errW_some] <;> rfl), by repeat (first | (with_reducible first | exact HB.out | apply below_alloc | apply pw_below_drewN | apply below_drew1 | refine below_set ?_ GE124.out) | exact HB.out)⟩

end Go.Proofs.Ytlgdaegaahnkbaa.MC
