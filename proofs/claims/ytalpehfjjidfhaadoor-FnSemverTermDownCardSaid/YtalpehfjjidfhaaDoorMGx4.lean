-- Written by a program of this session (wip/tools/myprint.py over the kit's print).
import Derived.Test.YtalpehfjjidfhaaDoorMGx0
import Derived.Test.YtalpehfjjidfhaaDoorMGx1
namespace Go.Proofs.YtalpehfjjidfhaaDoor.MG
open Go.RowKit Go.Proofs.YtalpehfjjidfhaaDoorW.PrintWords Go.Proofs.YtalpehfjjidfhaaDoorW.PrintLast Go.Proofs.YtalpehfjjidfhaaDoorW.PrintMore Go.Proofs.YtalpehfjjidfhaaDoor
attribute [local go_sem] max2_int min2_int max_two min_two max_three min_three max_four min_four   -- for this text's walks alone
set_option linter.unusedVariables false
set_option linter.unusedSimpArgs false

/-! ### spec_order: function 154 -/
def spec_order.f (a0 : Int) (a1 : Int) : Option (Int) := if a0 < a1 then (some (-1)) else (if a0 > a1 then (some 1) else (some 0))
set_option maxHeartbeats 8000000 in
set_option maxRecDepth 100000 in
theorem spec_order.calls (a0 : Int) (a1 : Int) (r : Int) (w : World) (h : spec_order.f a0 a1 = some r) :
    Calls Tryd.prog 154 #[.int .u64 a0, .int .u64 a1] w fun e w' => e = .returned (.int .i64 r) ∧ Drawn0 w w' := by
  have H : (if a0 < a1 then (some (-1)) else (if a0 > a1 then (some 1) else (some 0))) = some r := h
  clear h
  by_cases c3 : a0 < a1
  · rw [if_pos c3] at H
    have c3b0 : decide (a0 < a1) = true := decide_eq_true c3
    clear c3
    obtain rfl := Option.some.inj H
    go_enter Tryd.func154, Tryd.ntmps154
    go_wp2
    go_ret
    exact ⟨by first | rfl | (simp; done) | (simp [*]; done) | (simp [bne]; done) | (simp [bne, List.isEmpty_iff]; done) | (cases a0.toList <;> simp; done), by repeat (first | exact Drawn0.refl _ | apply Drawn0.step)⟩
  · rw [if_neg c3] at H
    have c3b0 : decide (a0 < a1) = false := decide_eq_false c3
    clear c3
    by_cases c4 : a0 > a1
    · rw [if_pos c4] at H
      have c4b0 : decide (a1 < a0) = true := decide_eq_true c4
      clear c4
      obtain rfl := Option.some.inj H
      go_enter Tryd.func154, Tryd.ntmps154
      go_wp2
      go_ret
      exact ⟨by first | rfl | (simp; done) | (simp [*]; done) | (simp [bne]; done) | (simp [bne, List.isEmpty_iff]; done) | (cases a0.toList <;> simp; done), by repeat (first | exact Drawn0.refl _ | apply Drawn0.step)⟩
    · rw [if_neg c4] at H
      have c4b0 : decide (a1 < a0) = false := decide_eq_false c4
      clear c4
      obtain rfl := Option.some.inj H
      go_enter Tryd.func154, Tryd.ntmps154
      go_wp2
      go_ret
      exact ⟨by first | rfl | (simp; done) | (simp [*]; done) | (simp [bne]; done) | (simp [bne, List.isEmpty_iff]; done) | (cases a0.toList <;> simp; done), by repeat (first | exact Drawn0.refl _ | apply Drawn0.step)⟩

/-! ### spec_ComparePart: function 155 -/
def spec_ComparePart.j0 : Nat → ByteArray → ByteArray → Bool → Option (Int)
  | 0, _, _, _ => none
  | k + 1, x0, x1, x9 => if x9 = true then ((spec_order.f (IntKind.u64.wrap ((x0.size : Int))) (IntKind.u64.wrap ((x1.size : Int)))).bind fun t146 => (some t146)) else ((spec_Digits.f k x0).bind fun t147 => ((spec_Digits.f k x1).bind fun t148 => (if (t147 != t148) = true then ((spec_Digits.f k x0).bind fun t149 => (if t149 = true then (some (-1)) else (some 1))) else (if (Op.bytesLess x0.toList x1.toList) = true then (some (-1)) else (some 1)))))
def spec_ComparePart.f (k : Nat) (a0 : ByteArray) (a1 : ByteArray) : Option (Int) := if a0.toList = a1.toList then (some 0) else ((spec_Digits.f k a0).bind fun t144 => (if t144 = true then ((spec_Digits.f k a1).bind fun t145 => (if t145 = true then (spec_ComparePart.j0 k a0 a1 ((a0.size : Int) != (a1.size : Int))) else (spec_ComparePart.j0 k a0 a1 false))) else (spec_ComparePart.j0 k a0 a1 false)))
theorem spec_ComparePart.mono_l : ∀ k, (∀ y0 y1 y2, LeO (spec_ComparePart.j0 k y0 y1 y2) (spec_ComparePart.j0 (k + 1) y0 y1 y2))
  | 0 => fun _ _ _ r h => by simp [spec_ComparePart.j0] at h
  | k + 1 => by
    have ih0 := spec_ComparePart.mono_l k
    · intro y0 y1 y2
      unfold spec_ComparePart.j0
      repeat' first
      | (with_reducible exact ih0 _ _ _)
      | (with_reducible exact spec_Digits.mono _ _)
      | (with_reducible exact LeO.refl _)
      | (with_reducible exact LeO.none _)
      | (with_reducible refine LeO.ite ?_ ?_)
      | (with_reducible refine LeO.bind ?_ (fun _ => ?_))
      | exact ih0 _ _ _
      | exact spec_Digits.mono _ _
      | exact LeO.none _
      | refine LeO.ite ?_ ?_
      | refine LeO.bind ?_ (fun _ => ?_)
theorem spec_ComparePart.mono : ∀ a0 a1 k, LeO (spec_ComparePart.f k a0 a1) (spec_ComparePart.f (k + 1) a0 a1) := by
  intro a0 a1 k
  have ih0 := spec_ComparePart.mono_l k
  unfold spec_ComparePart.f
  repeat' first
      | (with_reducible exact ih0 _ _ _)
      | (with_reducible exact spec_Digits.mono _ _)
      | (with_reducible exact LeO.refl _)
      | (with_reducible exact LeO.none _)
      | (with_reducible refine LeO.ite ?_ ?_)
      | (with_reducible refine LeO.bind ?_ (fun _ => ?_))
      | exact ih0 _ _ _
      | exact spec_Digits.mono _ _
      | exact LeO.none _
      | refine LeO.ite ?_ ?_
      | refine LeO.bind ?_ (fun _ => ?_)
set_option maxHeartbeats 8000000 in
set_option maxRecDepth 100000 in
theorem spec_ComparePart.calls (k : Nat) (a0 : ByteArray) (a1 : ByteArray) (r : Int) (w : World) (h : spec_ComparePart.f k a0 a1 = some r) :
    Calls Tryd.prog 155 #[.string a0, .string a1] w fun e w' => e = .returned (.int .i64 r) ∧ Drawn0 w w' := by
  have H : (if a0.toList = a1.toList then (some 0) else ((spec_Digits.f k a0).bind fun t144 => (if t144 = true then ((spec_Digits.f k a1).bind fun t145 => (if t145 = true then (spec_ComparePart.j0 k a0 a1 ((a0.size : Int) != (a1.size : Int))) else (spec_ComparePart.j0 k a0 a1 false))) else (spec_ComparePart.j0 k a0 a1 false)))) = some r := h
  clear h
  by_cases c3 : a0.toList = a1.toList
  · rw [if_pos c3] at H
    have c3b0 : (a0.toList == a1.toList) = true := beq_iff_eq.mpr c3
    have c3b1 : (a0.toList != a1.toList) = false := bne_eq_false_iff_eq.mpr c3
    clear c3
    obtain rfl := Option.some.inj H
    go_enter Tryd.func155, Tryd.ntmps155
    go_wp2
    go_ret
    exact ⟨by first | rfl | (simp; done) | (simp [*]; done) | (simp [bne]; done) | (simp [bne, List.isEmpty_iff]; done) | (cases a0.toList <;> simp; done), by repeat (first | exact Drawn0.refl _ | apply Drawn0.step)⟩
  · rw [if_neg c3] at H
    have c3b0 : (a0.toList == a1.toList) = false := beq_eq_false_iff_ne.mpr c3
    have c3b1 : (a0.toList != a1.toList) = true := bne_iff_ne.mpr c3
    have HC4 := Aside0.mk H
    clear H
    go_enter Tryd.func155, Tryd.ntmps155
    go_upto_region 3 with (fail)
    go_cut [9] (fun v9 wc => ∃ (kq : Nat) (x9_3 : Bool), v9 = .bool x9_3 ∧ Aside0 (spec_ComparePart.j0 kq a0 a1 x9_3 = some r) ∧ Aside0 (kq ≤ k) ∧ Drawn0 w wc)
    case first =>
      have H := HC4.out
      clear HC4
      replace H := Option.bind_eq_some_iff.mp H
      obtain ⟨t144, A50, H⟩ := H
      replace H : (if t144 = true then ((spec_Digits.f k a1).bind fun t145 => (if t145 = true then (spec_ComparePart.j0 k a0 a1 ((a0.size : Int) != (a1.size : Int))) else (spec_ComparePart.j0 k a0 a1 false))) else (spec_ComparePart.j0 k a0 a1 false)) = some r := H
      have A5 := Aside0.mk A50
      clear A50
      by_cases c6 : t144 = true
      · subst c6
        have H1 : ((spec_Digits.f k a1).bind fun t145 => (if t145 = true then (spec_ComparePart.j0 k a0 a1 ((a0.size : Int) != (a1.size : Int))) else (spec_ComparePart.j0 k a0 a1 false))) = some r := by rw [if_pos rfl] at H; exact H
        clear H
        have H := H1
        clear H1
        replace H := Option.bind_eq_some_iff.mp H
        obtain ⟨t145, A70, H⟩ := H
        replace H : (if t145 = true then (spec_ComparePart.j0 k a0 a1 ((a0.size : Int) != (a1.size : Int))) else (spec_ComparePart.j0 k a0 a1 false)) = some r := H
        have A7 := Aside0.mk A70
        clear A70
        by_cases c8 : t145 = true
        · subst c8
          have H1 : (spec_ComparePart.j0 k a0 a1 ((a0.size : Int) != (a1.size : Int))) = some r := by rw [if_pos rfl] at H; exact H
          clear H
          have H := H1
          clear H1
          have H' := Aside0.mk H
          clear H
          go_wp2_with (first | ((with_reducible refine gate_callee (f := 100) rfl ?_); refine goesL_ (some 11) rfl rfl Tryd.func100 (by kernel_rfl) rfl #[.string a0] rfl (by (try simp only [List.map_toArray, List.map_cons, List.map_nil]); first | done | rfl | (simp only [List.length_drop, List.length_take]; rfl)) ?_; (with_reducible refine (spec_Digits.calls k a0 true _ A5.out).mono ?_); rintro e w' ⟨rfl, ⟨nd, rfl⟩⟩; refine ⟨_, rfl, ?_⟩) | (go_at_call 100; (with_reducible refine (spec_Digits.calls k a1 true _ A7.out).mono ?_); rintro e w' ⟨rfl, ⟨nd, rfl⟩⟩))
          go_meet
          case rel => exact ⟨_, (((a0.size : Int) != (a1.size : Int))), (by first | rfl | (simp; done) | (simp [*]; done)), H', ⟨by first | omega | exact Nat.le_refl _⟩, by repeat (first | exact Drawn0.refl _ | apply Drawn0.step)⟩
        · replace c8 := Bool.eq_false_iff.mpr c8
          subst c8
          have H1 : (spec_ComparePart.j0 k a0 a1 false) = some r := by rw [if_neg (show ¬ (false = true) by decide)] at H; exact H
          clear H
          have H := H1
          clear H1
          have H' := Aside0.mk H
          clear H
          go_wp2_with (first | ((with_reducible refine gate_callee (f := 100) rfl ?_); refine goesL_ (some 11) rfl rfl Tryd.func100 (by kernel_rfl) rfl #[.string a0] rfl (by (try simp only [List.map_toArray, List.map_cons, List.map_nil]); first | done | rfl | (simp only [List.length_drop, List.length_take]; rfl)) ?_; (with_reducible refine (spec_Digits.calls k a0 true _ A5.out).mono ?_); rintro e w' ⟨rfl, ⟨nd, rfl⟩⟩; refine ⟨_, rfl, ?_⟩) | (go_at_call 100; (with_reducible refine (spec_Digits.calls k a1 false _ A7.out).mono ?_); rintro e w' ⟨rfl, ⟨nd, rfl⟩⟩))
          go_meet
          case rel => exact ⟨_, (false), (by first | rfl | (simp; done) | (simp [*]; done)), H', ⟨by first | omega | exact Nat.le_refl _⟩, by repeat (first | exact Drawn0.refl _ | apply Drawn0.step)⟩
      · replace c6 := Bool.eq_false_iff.mpr c6
        subst c6
        have H1 : (spec_ComparePart.j0 k a0 a1 false) = some r := by rw [if_neg (show ¬ (false = true) by decide)] at H; exact H
        clear H
        have H := H1
        clear H1
        have H' := Aside0.mk H
        clear H
        go_wp2_with (first | ((with_reducible refine gate_callee (f := 100) rfl ?_); refine goesL_ (some 11) rfl rfl Tryd.func100 (by kernel_rfl) rfl #[.string a0] rfl (by (try simp only [List.map_toArray, List.map_cons, List.map_nil]); first | done | rfl | (simp only [List.length_drop, List.length_take]; rfl)) ?_; (with_reducible refine (spec_Digits.calls k a0 false _ A5.out).mono ?_); rintro e w' ⟨rfl, ⟨nd, rfl⟩⟩; refine ⟨_, rfl, ?_⟩))
        go_meet
        case rel => exact ⟨_, (false), (by first | rfl | (simp; done) | (simp [*]; done)), H', ⟨by first | omega | exact Nat.le_refl _⟩, by repeat (first | exact Drawn0.refl _ | apply Drawn0.step)⟩
    case rest =>
      clear HC4
      try clear c1
      try clear p2
      try clear c3
      try clear c3b0
      try clear c3b1
      try clear c6
      try clear c8
      obtain ⟨kq, x9_3, rfl, HA, HJ3, ⟨mc3, rfl⟩⟩ := hcut
      cases kq with
      | zero => exact absurd HA.out (by simp [spec_ComparePart.j0])
      | succ kj3 =>
        have H := HA.out
        clear HA
        simp only [spec_ComparePart.j0] at H
        by_cases c9 : x9_3 = true
        · subst c9
          have H1 : ((spec_order.f (IntKind.u64.wrap ((a0.size : Int))) (IntKind.u64.wrap ((a1.size : Int)))).bind fun t146 => (some t146)) = some r := by rw [if_pos rfl] at H; exact H
          clear H
          have H := H1
          clear H1
          replace H := Option.bind_eq_some_iff.mp H
          obtain ⟨t146, A100, H⟩ := H
          replace H : (some t146) = some r := H
          have A10 := Aside0.mk A100
          clear A100
          obtain rfl := Option.some.inj H
          go_wp2_with (first | ((with_reducible refine gate_callee (f := 154) rfl ?_); refine goesL_ (some 29) rfl rfl Tryd.func154 (by kernel_rfl) rfl #[.int .u64 (IntKind.u64.wrap ((a0.size : Int))), .int .u64 (IntKind.u64.wrap ((a1.size : Int)))] rfl (by (try simp only [List.map_toArray, List.map_cons, List.map_nil]); first | done | rfl | (simp only [List.length_drop, List.length_take]; rfl)) ?_; (with_reducible refine (spec_order.calls (IntKind.u64.wrap ((a0.size : Int))) (IntKind.u64.wrap ((a1.size : Int))) t146 _ A10.out).mono ?_); rintro e w' ⟨rfl, ⟨nd, rfl⟩⟩; refine ⟨_, rfl, ?_⟩))
          go_ret
          exact ⟨by first | rfl | (simp; done) | (simp [*]; done) | (simp [bne]; done) | (simp [bne, List.isEmpty_iff]; done) | (cases a0.toList <;> simp; done), by repeat (first | exact Drawn0.refl _ | apply Drawn0.step)⟩
        · replace c9 := Bool.eq_false_iff.mpr c9
          subst c9
          have H1 : ((spec_Digits.f kj3 a0).bind fun t147 => ((spec_Digits.f kj3 a1).bind fun t148 => (if (t147 != t148) = true then ((spec_Digits.f kj3 a0).bind fun t149 => (if t149 = true then (some (-1)) else (some 1))) else (if (Op.bytesLess a0.toList a1.toList) = true then (some (-1)) else (some 1))))) = some r := by rw [if_neg (show ¬ (false = true) by decide)] at H; exact H
          clear H
          have H := H1
          clear H1
          replace H := Option.bind_eq_some_iff.mp H
          obtain ⟨t147, A110, H⟩ := H
          replace H : ((spec_Digits.f kj3 a1).bind fun t148 => (if (t147 != t148) = true then ((spec_Digits.f kj3 a0).bind fun t149 => (if t149 = true then (some (-1)) else (some 1))) else (if (Op.bytesLess a0.toList a1.toList) = true then (some (-1)) else (some 1)))) = some r := H
          have A11 := Aside0.mk A110
          clear A110
          replace H := Option.bind_eq_some_iff.mp H
          obtain ⟨t148, A120, H⟩ := H
          replace H : (if (t147 != t148) = true then ((spec_Digits.f kj3 a0).bind fun t149 => (if t149 = true then (some (-1)) else (some 1))) else (if (Op.bytesLess a0.toList a1.toList) = true then (some (-1)) else (some 1))) = some r := H
          have A12 := Aside0.mk A120
          clear A120
          by_cases c13 : (t147 != t148) = true
          · rw [if_pos c13] at H
            have c13b0 : (t147 != t148) = true := c13
            (try (have c13b1 : decide (t147 = t148) = false := by simpa using c13))
            (try (have c13b2 : (t147 == t148) = false := by simpa using c13))
            (try (have c13b3 : ¬ (t147 = t148) := by simpa using c13))
            clear c13
            replace H := Option.bind_eq_some_iff.mp H
            obtain ⟨t149, A140, H⟩ := H
            replace H : (if t149 = true then (some (-1)) else (some 1)) = some r := H
            have A14 := Aside0.mk A140
            clear A140
            by_cases c15 : t149 = true
            · subst c15
              have H1 : (some (-1)) = some r := by rw [if_pos rfl] at H; exact H
              clear H
              have H := H1
              clear H1
              obtain rfl := Option.some.inj H
              go_wp2_with (first | ((with_reducible refine gate_callee (f := 100) rfl ?_); refine goesL_ (some 32) rfl rfl Tryd.func100 (by kernel_rfl) rfl #[.string a0] rfl (by (try simp only [List.map_toArray, List.map_cons, List.map_nil]); first | done | rfl | (simp only [List.length_drop, List.length_take]; rfl)) ?_; (with_reducible refine (spec_Digits.calls kj3 a0 t147 _ A11.out).mono ?_); rintro e w' ⟨rfl, ⟨nd, rfl⟩⟩; refine ⟨_, rfl, ?_⟩) | ((with_reducible refine gate_callee (f := 100) rfl ?_); refine goesL_ (some 34) rfl rfl Tryd.func100 (by kernel_rfl) rfl #[.string a1] rfl (by (try simp only [List.map_toArray, List.map_cons, List.map_nil]); first | done | rfl | (simp only [List.length_drop, List.length_take]; rfl)) ?_; (with_reducible refine (spec_Digits.calls kj3 a1 t148 _ A12.out).mono ?_); rintro e w' ⟨rfl, ⟨nd, rfl⟩⟩; refine ⟨_, rfl, ?_⟩) | ((with_reducible refine gate_callee (f := 100) rfl ?_); refine goesL_ (some 37) rfl rfl Tryd.func100 (by kernel_rfl) rfl #[.string a0] rfl (by (try simp only [List.map_toArray, List.map_cons, List.map_nil]); first | done | rfl | (simp only [List.length_drop, List.length_take]; rfl)) ?_; (with_reducible refine (spec_Digits.calls kj3 a0 true _ A14.out).mono ?_); rintro e w' ⟨rfl, ⟨nd, rfl⟩⟩; refine ⟨_, rfl, ?_⟩))
              go_ret
              exact ⟨by first | rfl | (simp; done) | (simp [*]; done) | (simp [bne]; done) | (simp [bne, List.isEmpty_iff]; done) | (cases a0.toList <;> simp; done), by repeat (first | exact Drawn0.refl _ | apply Drawn0.step)⟩
            · replace c15 := Bool.eq_false_iff.mpr c15
              subst c15
              have H1 : (some 1) = some r := by rw [if_neg (show ¬ (false = true) by decide)] at H; exact H
              clear H
              have H := H1
              clear H1
              obtain rfl := Option.some.inj H
              go_wp2_with (first | ((with_reducible refine gate_callee (f := 100) rfl ?_); refine goesL_ (some 32) rfl rfl Tryd.func100 (by kernel_rfl) rfl #[.string a0] rfl (by (try simp only [List.map_toArray, List.map_cons, List.map_nil]); first | done | rfl | (simp only [List.length_drop, List.length_take]; rfl)) ?_; (with_reducible refine (spec_Digits.calls kj3 a0 t147 _ A11.out).mono ?_); rintro e w' ⟨rfl, ⟨nd, rfl⟩⟩; refine ⟨_, rfl, ?_⟩) | ((with_reducible refine gate_callee (f := 100) rfl ?_); refine goesL_ (some 34) rfl rfl Tryd.func100 (by kernel_rfl) rfl #[.string a1] rfl (by (try simp only [List.map_toArray, List.map_cons, List.map_nil]); first | done | rfl | (simp only [List.length_drop, List.length_take]; rfl)) ?_; (with_reducible refine (spec_Digits.calls kj3 a1 t148 _ A12.out).mono ?_); rintro e w' ⟨rfl, ⟨nd, rfl⟩⟩; refine ⟨_, rfl, ?_⟩) | ((with_reducible refine gate_callee (f := 100) rfl ?_); refine goesL_ (some 37) rfl rfl Tryd.func100 (by kernel_rfl) rfl #[.string a0] rfl (by (try simp only [List.map_toArray, List.map_cons, List.map_nil]); first | done | rfl | (simp only [List.length_drop, List.length_take]; rfl)) ?_; (with_reducible refine (spec_Digits.calls kj3 a0 false _ A14.out).mono ?_); rintro e w' ⟨rfl, ⟨nd, rfl⟩⟩; refine ⟨_, rfl, ?_⟩))
              go_ret
              exact ⟨by first | rfl | (simp; done) | (simp [*]; done) | (simp [bne]; done) | (simp [bne, List.isEmpty_iff]; done) | (cases a0.toList <;> simp; done), by repeat (first | exact Drawn0.refl _ | apply Drawn0.step)⟩
          · rw [if_neg c13] at H
            have c13b0 : (t147 != t148) = false := by simpa using c13
            (try (have c13b1 : decide (t147 = t148) = true := by simpa using c13))
            (try (have c13b2 : (t147 == t148) = true := by simpa using c13))
            clear c13
            by_cases c16 : (Op.bytesLess a0.toList a1.toList) = true
            · rw [if_pos c16] at H
              have c16b0 : (Op.bytesLess a0.toList a1.toList) = true := c16
              clear c16
              obtain rfl := Option.some.inj H
              go_wp2_with (first | ((with_reducible refine gate_callee (f := 100) rfl ?_); refine goesL_ (some 32) rfl rfl Tryd.func100 (by kernel_rfl) rfl #[.string a0] rfl (by (try simp only [List.map_toArray, List.map_cons, List.map_nil]); first | done | rfl | (simp only [List.length_drop, List.length_take]; rfl)) ?_; (with_reducible refine (spec_Digits.calls kj3 a0 t147 _ A11.out).mono ?_); rintro e w' ⟨rfl, ⟨nd, rfl⟩⟩; refine ⟨_, rfl, ?_⟩) | ((with_reducible refine gate_callee (f := 100) rfl ?_); refine goesL_ (some 34) rfl rfl Tryd.func100 (by kernel_rfl) rfl #[.string a1] rfl (by (try simp only [List.map_toArray, List.map_cons, List.map_nil]); first | done | rfl | (simp only [List.length_drop, List.length_take]; rfl)) ?_; (with_reducible refine (spec_Digits.calls kj3 a1 t148 _ A12.out).mono ?_); rintro e w' ⟨rfl, ⟨nd, rfl⟩⟩; refine ⟨_, rfl, ?_⟩))
              go_ret
              exact ⟨by first | rfl | (simp; done) | (simp [*]; done) | (simp [bne]; done) | (simp [bne, List.isEmpty_iff]; done) | (cases a0.toList <;> simp; done), by repeat (first | exact Drawn0.refl _ | apply Drawn0.step)⟩
            · rw [if_neg c16] at H
              have c16b0 : (Op.bytesLess a0.toList a1.toList) = false := by simpa using c16
              clear c16
              obtain rfl := Option.some.inj H
              go_wp2_with (first | ((with_reducible refine gate_callee (f := 100) rfl ?_); refine goesL_ (some 32) rfl rfl Tryd.func100 (by kernel_rfl) rfl #[.string a0] rfl (by (try simp only [List.map_toArray, List.map_cons, List.map_nil]); first | done | rfl | (simp only [List.length_drop, List.length_take]; rfl)) ?_; (with_reducible refine (spec_Digits.calls kj3 a0 t147 _ A11.out).mono ?_); rintro e w' ⟨rfl, ⟨nd, rfl⟩⟩; refine ⟨_, rfl, ?_⟩) | ((with_reducible refine gate_callee (f := 100) rfl ?_); refine goesL_ (some 34) rfl rfl Tryd.func100 (by kernel_rfl) rfl #[.string a1] rfl (by (try simp only [List.map_toArray, List.map_cons, List.map_nil]); first | done | rfl | (simp only [List.length_drop, List.length_take]; rfl)) ?_; (with_reducible refine (spec_Digits.calls kj3 a1 t148 _ A12.out).mono ?_); rintro e w' ⟨rfl, ⟨nd, rfl⟩⟩; refine ⟨_, rfl, ?_⟩))
              go_ret
              exact ⟨by first | rfl | (simp; done) | (simp [*]; done) | (simp [bne]; done) | (simp [bne, List.isEmpty_iff]; done) | (cases a0.toList <;> simp; done), by repeat (first | exact Drawn0.refl _ | apply Drawn0.step)⟩

/-! ### spec_ComparePre: function 112 -/
mutual
def spec_ComparePre.l0 : Nat → List ByteArray → List ByteArray → Int → Option (Int)
  | 0, _, _, _ => none
  | k + 1, x5, x6, x7 => if x7 < (x5.length : Int) then (spec_ComparePre.j1 k x5 x6 x7 (decide (x7 < (x6.length : Int)))) else (spec_ComparePre.j1 k x5 x6 x7 false)
def spec_ComparePre.j1 : Nat → List ByteArray → List ByteArray → Int → Bool → Option (Int)
  | 0, _, _, _, _ => none
  | k + 1, x5, x6, x7, x32 => if x32 = true then (if 0 ≤ x7 then (if x7 < (x5.length : Int) then (if x7 < (x6.length : Int) then ((spec_ComparePart.f k (rdOf ByteArray.empty x5 x7) (rdOf ByteArray.empty x6 x7)).bind fun t158 => (if t158 = 0 then (spec_ComparePre.l0 k x5 x6 (wrap64 (x7 + 1))) else (some t158))) else (none)) else (none)) else (none)) else ((spec_order.f (IntKind.u64.wrap ((x5.length : Int))) (IntKind.u64.wrap ((x6.length : Int)))).bind fun t159 => (some t159))
end
def spec_ComparePre.f (k : Nat) (a0 : ByteArray) (a1 : ByteArray) : Option (Int) := if a0.toList = a1.toList then (some 0) else (if a0.toList = ([] : List UInt8) then (some 1) else (if a1.toList = ([] : List UInt8) then (some (-1)) else ((spec_Identifiers.f k a0).bind fun t150 => ((spec_Identifiers.f k a1).bind fun t153 => (spec_ComparePre.l0 k t150 t153 0)))))
theorem spec_ComparePre.mono_l : ∀ k, (∀ y0 y1 y2, LeO (spec_ComparePre.l0 k y0 y1 y2) (spec_ComparePre.l0 (k + 1) y0 y1 y2)) ∧ (∀ y0 y1 y2 y3, LeO (spec_ComparePre.j1 k y0 y1 y2 y3) (spec_ComparePre.j1 (k + 1) y0 y1 y2 y3))
  | 0 => ⟨fun _ _ _ r h => by simp [spec_ComparePre.l0] at h, fun _ _ _ _ r h => by simp [spec_ComparePre.j1] at h⟩
  | k + 1 => by
    obtain ⟨ih0, ih1⟩ := spec_ComparePre.mono_l k
    refine ⟨?_, ?_⟩
    · intro y0 y1 y2
      unfold spec_ComparePre.l0
      repeat' first
      | (with_reducible exact ih0 _ _ _)
      | (with_reducible exact ih1 _ _ _ _)
      | (with_reducible exact spec_ComparePart.mono _ _ _)
      | (with_reducible exact spec_Identifiers.mono _ _)
      | (with_reducible exact LeO.refl _)
      | (with_reducible exact LeO.none _)
      | (with_reducible refine LeO.ite ?_ ?_)
      | (with_reducible refine LeO.bind ?_ (fun _ => ?_))
      | exact ih0 _ _ _
      | exact ih1 _ _ _ _
      | exact spec_ComparePart.mono _ _ _
      | exact spec_Identifiers.mono _ _
      | exact LeO.none _
      | refine LeO.ite ?_ ?_
      | refine LeO.bind ?_ (fun _ => ?_)
    · intro y0 y1 y2 y3
      unfold spec_ComparePre.j1
      repeat' first
      | (with_reducible exact ih0 _ _ _)
      | (with_reducible exact ih1 _ _ _ _)
      | (with_reducible exact spec_ComparePart.mono _ _ _)
      | (with_reducible exact spec_Identifiers.mono _ _)
      | (with_reducible exact LeO.refl _)
      | (with_reducible exact LeO.none _)
      | (with_reducible refine LeO.ite ?_ ?_)
      | (with_reducible refine LeO.bind ?_ (fun _ => ?_))
      | exact ih0 _ _ _
      | exact ih1 _ _ _ _
      | exact spec_ComparePart.mono _ _ _
      | exact spec_Identifiers.mono _ _
      | exact LeO.none _
      | refine LeO.ite ?_ ?_
      | refine LeO.bind ?_ (fun _ => ?_)
theorem spec_ComparePre.mono : ∀ a0 a1 k, LeO (spec_ComparePre.f k a0 a1) (spec_ComparePre.f (k + 1) a0 a1) := by
  intro a0 a1 k
  obtain ⟨ih0, ih1⟩ := spec_ComparePre.mono_l k
  unfold spec_ComparePre.f
  repeat' first
      | (with_reducible exact ih0 _ _ _)
      | (with_reducible exact ih1 _ _ _ _)
      | (with_reducible exact spec_ComparePart.mono _ _ _)
      | (with_reducible exact spec_Identifiers.mono _ _)
      | (with_reducible exact LeO.refl _)
      | (with_reducible exact LeO.none _)
      | (with_reducible refine LeO.ite ?_ ?_)
      | (with_reducible refine LeO.bind ?_ (fun _ => ?_))
      | exact ih0 _ _ _
      | exact ih1 _ _ _ _
      | exact spec_ComparePart.mono _ _ _
      | exact spec_Identifiers.mono _ _
      | exact LeO.none _
      | refine LeO.ite ?_ ?_
      | refine LeO.bind ?_ (fun _ => ?_)
set_option maxHeartbeats 8000000 in
set_option maxRecDepth 100000 in
theorem spec_ComparePre.calls (k : Nat) (a0 : ByteArray) (a1 : ByteArray) (r : Int) (w : World) (h : spec_ComparePre.f k a0 a1 = some r) :
    Calls Tryd.prog 112 #[.string a0, .string a1] w fun e w' => e = .returned (.int .i64 r) ∧ Below w.heap.size w w' := by
  have HB := Aside0.mk (Below.refl w.heap.size w)
  have H : (if a0.toList = a1.toList then (some 0) else (if a0.toList = ([] : List UInt8) then (some 1) else (if a1.toList = ([] : List UInt8) then (some (-1)) else ((spec_Identifiers.f k a0).bind fun t150 => ((spec_Identifiers.f k a1).bind fun t153 => (spec_ComparePre.l0 k t150 t153 0)))))) = some r := h
  clear h
  by_cases c3 : a0.toList = a1.toList
  · rw [if_pos c3] at H
    have c3b0 : (a0.toList == a1.toList) = true := beq_iff_eq.mpr c3
    have c3b1 : (a0.toList != a1.toList) = false := bne_eq_false_iff_eq.mpr c3
    clear c3
    obtain rfl := Option.some.inj H
    go_enter Tryd.func112, Tryd.ntmps112
    go_wp2
    repeat (go_quiet (fail); try go_wp2)
    go_ret
    exact ⟨by first | rfl | (simp [errW_none, errW_some] <;> rfl) | (simp [*, errW_none, errW_some] <;> rfl), by repeat (first | (with_reducible first | exact HB.out | apply below_alloc | apply pw_below_drewN | apply below_drew1) | exact HB.out)⟩
  · rw [if_neg c3] at H
    have c3b0 : (a0.toList == a1.toList) = false := beq_eq_false_iff_ne.mpr c3
    have c3b1 : (a0.toList != a1.toList) = true := bne_iff_ne.mpr c3
    by_cases c4 : a0.toList = ([] : List UInt8)
    · rw [if_pos c4] at H
      have c4b0 : (a0.toList == ([] : List UInt8)) = true := beq_iff_eq.mpr c4
      have c4b1 : (a0.toList != ([] : List UInt8)) = false := bne_eq_false_iff_eq.mpr c4
      clear c4
      obtain rfl := Option.some.inj H
      go_enter Tryd.func112, Tryd.ntmps112
      go_wp2
      repeat (go_quiet (fail); try go_wp2)
      go_ret
      exact ⟨by first | rfl | (simp [errW_none, errW_some] <;> rfl) | (simp [*, errW_none, errW_some] <;> rfl), by repeat (first | (with_reducible first | exact HB.out | apply below_alloc | apply pw_below_drewN | apply below_drew1) | exact HB.out)⟩
    · rw [if_neg c4] at H
      have c4b0 : (a0.toList == ([] : List UInt8)) = false := beq_eq_false_iff_ne.mpr c4
      have c4b1 : (a0.toList != ([] : List UInt8)) = true := bne_iff_ne.mpr c4
      by_cases c5 : a1.toList = ([] : List UInt8)
      · rw [if_pos c5] at H
        have c5b0 : (a1.toList == ([] : List UInt8)) = true := beq_iff_eq.mpr c5
        have c5b1 : (a1.toList != ([] : List UInt8)) = false := bne_eq_false_iff_eq.mpr c5
        clear c5
        obtain rfl := Option.some.inj H
        go_enter Tryd.func112, Tryd.ntmps112
        go_wp2
        repeat (go_quiet (fail); try go_wp2)
        go_ret
        exact ⟨by first | rfl | (simp [errW_none, errW_some] <;> rfl) | (simp [*, errW_none, errW_some] <;> rfl), by repeat (first | (with_reducible first | exact HB.out | apply below_alloc | apply pw_below_drewN | apply below_drew1) | exact HB.out)⟩
      · rw [if_neg c5] at H
        have c5b0 : (a1.toList == ([] : List UInt8)) = false := beq_eq_false_iff_ne.mpr c5
        have c5b1 : (a1.toList != ([] : List UInt8)) = true := bne_iff_ne.mpr c5
        replace H := Option.bind_eq_some_iff.mp H
        obtain ⟨t150, A60, H⟩ := H
        replace H : ((spec_Identifiers.f k a1).bind fun t153 => (spec_ComparePre.l0 k t150 t153 0)) = some r := H
        have A6 := Aside0.mk A60
        clear A60
        replace H := Option.bind_eq_some_iff.mp H
        obtain ⟨t153, A70, H⟩ := H
        replace H : (spec_ComparePre.l0 k t150 t153 0) = some r := H
        have A7 := Aside0.mk A70
        clear A70
        have H' := Aside0.mk H
        clear H
        go_enter Tryd.func112, Tryd.ntmps112
        go_wp2_with (first | (go_at_call 127; (with_reducible refine (spec_Identifiers.calls k a0 t150 _ A6.out).mono ?_); rintro e w8 ⟨v151, rfl, ho0, hb⟩; have n0_ := Aside0.mk (Kd.R_lower ho0 (below_size (by repeat (first | (with_reducible first | exact HB.out | apply below_alloc | apply pw_below_drewN | apply below_drew1) | exact HB.out)))); have n1_ := Aside0.mk (below_step (by repeat (first | (with_reducible first | exact HB.out | apply below_alloc | apply pw_below_drewN | apply below_drew1) | exact HB.out)) hb); clear HB; have HO152 := n0_; have HB := n1_; clear n0_ n1_; (try clear hb); (try clear hb2); (try clear hk); (try clear hi); (try clear ho0)) | (go_at_call 127; (with_reducible refine (spec_Identifiers.calls k a1 t153 _ A7.out).mono ?_); rintro e w9 ⟨v154, rfl, ho0, hb⟩; have n0_ := Aside0.mk (Kd.R_elder' (by (with_reducible repeat (first | apply Kd.R_alloc | apply Kd.R_drewN | apply Kd.R_drew)); exact HO152.out) (Kd.R_base ho0) hb); have n1_ := Aside0.mk (Kd.R_lower (Kd.R_new' ho0 (Kd.R_lt (by (with_reducible repeat (first | apply Kd.R_alloc | apply Kd.R_drewN | apply Kd.R_drew)); exact HO152.out))) (below_size (by repeat (first | (with_reducible first | exact HB.out | apply below_alloc | apply pw_below_drewN | apply below_drew1) | exact HB.out)))); have n2_ := Aside0.mk (below_step (by repeat (first | (with_reducible first | exact HB.out | apply below_alloc | apply pw_below_drewN | apply below_drew1) | exact HB.out)) hb); clear HO152; clear HB; have HO152 := n0_; have HO155 := n1_; have HB := n2_; clear n0_ n1_ n2_; (try clear hb); (try clear hb2); (try clear hk); (try clear hi); (try clear ho0)))
        repeat (go_quiet (first | (go_at_call 127; (with_reducible refine (spec_Identifiers.calls k a0 t150 _ A6.out).mono ?_); rintro e w8 ⟨v151, rfl, ho0, hb⟩; have n0_ := Aside0.mk (Kd.R_lower ho0 (below_size (by repeat (first | (with_reducible first | exact HB.out | apply below_alloc | apply pw_below_drewN | apply below_drew1) | exact HB.out)))); have n1_ := Aside0.mk (below_step (by repeat (first | (with_reducible first | exact HB.out | apply below_alloc | apply pw_below_drewN | apply below_drew1) | exact HB.out)) hb); clear HB; have HO152 := n0_; have HB := n1_; clear n0_ n1_; (try clear hb); (try clear hb2); (try clear hk); (try clear hi); (try clear ho0)) | (go_at_call 127; (with_reducible refine (spec_Identifiers.calls k a1 t153 _ A7.out).mono ?_); rintro e w9 ⟨v154, rfl, ho0, hb⟩; have n0_ := Aside0.mk (Kd.R_elder' (by (with_reducible repeat (first | apply Kd.R_alloc | apply Kd.R_drewN | apply Kd.R_drew)); exact HO152.out) (Kd.R_base ho0) hb); have n1_ := Aside0.mk (Kd.R_lower (Kd.R_new' ho0 (Kd.R_lt (by (with_reducible repeat (first | apply Kd.R_alloc | apply Kd.R_drewN | apply Kd.R_drew)); exact HO152.out))) (below_size (by repeat (first | (with_reducible first | exact HB.out | apply below_alloc | apply pw_below_drewN | apply below_drew1) | exact HB.out)))); have n2_ := Aside0.mk (below_step (by repeat (first | (with_reducible first | exact HB.out | apply below_alloc | apply pw_below_drewN | apply below_drew1) | exact HB.out)) hb); clear HO152; clear HB; have HO152 := n0_; have HO155 := n1_; have HB := n2_; clear n0_ n1_ n2_; (try clear hb); (try clear hb2); (try clear hk); (try clear hi); (try clear ho0))); try go_wp2_with (first | (go_at_call 127; (with_reducible refine (spec_Identifiers.calls k a0 t150 _ A6.out).mono ?_); rintro e w8 ⟨v151, rfl, ho0, hb⟩; have n0_ := Aside0.mk (Kd.R_lower ho0 (below_size (by repeat (first | (with_reducible first | exact HB.out | apply below_alloc | apply pw_below_drewN | apply below_drew1) | exact HB.out)))); have n1_ := Aside0.mk (below_step (by repeat (first | (with_reducible first | exact HB.out | apply below_alloc | apply pw_below_drewN | apply below_drew1) | exact HB.out)) hb); clear HB; have HO152 := n0_; have HB := n1_; clear n0_ n1_; (try clear hb); (try clear hb2); (try clear hk); (try clear hi); (try clear ho0)) | (go_at_call 127; (with_reducible refine (spec_Identifiers.calls k a1 t153 _ A7.out).mono ?_); rintro e w9 ⟨v154, rfl, ho0, hb⟩; have n0_ := Aside0.mk (Kd.R_elder' (by (with_reducible repeat (first | apply Kd.R_alloc | apply Kd.R_drewN | apply Kd.R_drew)); exact HO152.out) (Kd.R_base ho0) hb); have n1_ := Aside0.mk (Kd.R_lower (Kd.R_new' ho0 (Kd.R_lt (by (with_reducible repeat (first | apply Kd.R_alloc | apply Kd.R_drewN | apply Kd.R_drew)); exact HO152.out))) (below_size (by repeat (first | (with_reducible first | exact HB.out | apply below_alloc | apply pw_below_drewN | apply below_drew1) | exact HB.out)))); have n2_ := Aside0.mk (below_step (by repeat (first | (with_reducible first | exact HB.out | apply below_alloc | apply pw_below_drewN | apply below_drew1) | exact HB.out)) hb); clear HO152; clear HB; have HO152 := n0_; have HO155 := n1_; have HB := n2_; clear n0_ n1_ n2_; (try clear hb); (try clear hb2); (try clear hk); (try clear hi); (try clear ho0))))
        go_loopg [7] k (fun kq v7 w' => ∃ (x7_1 : Int), v7 = .int .i64 x7_1 ∧ Aside0 (spec_ComparePre.l0 kq t150 t153 x7_1 = some r) ∧ Aside0 (kq ≤ k) ∧ Aside0 (Kd.R Kd.string 9 w' w.heap.size (fun k_ => some k_ ≠ (v154 : Value).ownBlock) v151 t150) ∧ Aside0 (Kd.R Kd.string 9 w' w.heap.size (fun k_ => some k_ ≠ (v151 : Value).ownBlock) v154 t153) ∧ Aside0 (Below w.heap.size w w'))
        case atStart => exact ⟨(0), (by first | rfl | (simp; done) | (simp [*]; done)), H', ⟨Nat.le_refl _⟩, ⟨by (with_reducible repeat (first | apply Kd.R_alloc | apply Kd.R_drewN | apply Kd.R_drew)); exact Kd.R_mono HO152.out (fun _ hk => hk.2)⟩, ⟨by (with_reducible repeat (first | apply Kd.R_alloc | apply Kd.R_drewN | apply Kd.R_drew)); exact Kd.R_mono HO155.out (fun _ hk => hk.2)⟩, ⟨by repeat (first | (with_reducible first | exact HB.out | apply below_alloc | apply pw_below_drewN | apply below_drew1) | exact HB.out)⟩⟩
        case round =>
          clear H'
          try clear c1
          try clear p2
          try clear c3
          try clear c3b0
          try clear c3b1
          try clear c4
          try clear c4b0
          try clear c4b1
          try clear c5
          try clear c5b0
          try clear c5b1
          obtain ⟨x7_1, rfl, HA, HK1, HO_5, HO_6, HB⟩ := hrel
          cases gk with
          | zero => exact absurd HA.out (by simp [spec_ComparePre.l0])
          | succ k1 =>
            have H := HA.out
            clear HA
            simp only [spec_ComparePre.l0] at H
            have HC10 := Aside0.mk H
            clear H
            go_upto_region 9 with (fail)
            repeat (go_quiet (fail); go_upto_region 9 with (fail))
            go_cut [32] (fun v32 wc => ∃ (kq : Nat) (x32_9 : Bool), v32 = .bool x32_9 ∧ Aside0 (spec_ComparePre.j1 kq t150 t153 x7_1 x32_9 = some r) ∧ Aside0 (kq ≤ k1) ∧ Aside0 (Kd.R Kd.string 9 wc w.heap.size (fun k_ => some k_ ≠ (v154 : Value).ownBlock) v151 t150) ∧ Aside0 (Kd.R Kd.string 9 wc w.heap.size (fun k_ => some k_ ≠ (v151 : Value).ownBlock) v154 t153) ∧ Aside0 (Below w.heap.size w wc))
            case first =>
              have H := HC10.out
              clear HC10
              by_cases c11 : x7_1 < (t150.length : Int)
              · rw [if_pos c11] at H
                have c11b0 : decide (x7_1 < (t150.length : Int)) = true := decide_eq_true c11
                clear c11
                (first | rw [c11b0] | (simp only [i64_w, i32_w]; rw [c11b0]) | skip)
                have H' := Aside0.mk H
                clear H
                obtain ⟨Ao12, co12, eo12⟩ := Kd.R_slice HO_5.out
                subst eo12
                obtain ⟨Ao13, co13, eo13⟩ := Kd.R_slice HO_6.out
                subst eo13
                go_wp2
                repeat (go_quiet (fail); try go_wp2)
                go_meet
                case rel => exact ⟨_, (decide (x7_1 < (t153.length : Int))), (by first | rfl | (simp; done) | (simp [*]; done)), H', ⟨by have := HK1.out; first | omega | exact Nat.le_refl _⟩, ⟨by (with_reducible repeat (first | apply Kd.R_alloc | apply Kd.R_drewN | apply Kd.R_drew)); exact HO_5.out⟩, ⟨by (with_reducible repeat (first | apply Kd.R_alloc | apply Kd.R_drewN | apply Kd.R_drew)); exact HO_6.out⟩, ⟨by repeat (first | (with_reducible first | exact HB.out | apply below_alloc | apply pw_below_drewN | apply below_drew1) | exact HB.out)⟩⟩
              · rw [if_neg c11] at H
                have c11b0 : decide (x7_1 < (t150.length : Int)) = false := decide_eq_false c11
                clear c11
                (first | rw [c11b0] | (simp only [i64_w, i32_w]; rw [c11b0]) | skip)
                have H' := Aside0.mk H
                clear H
                obtain ⟨Ao14, co14, eo14⟩ := Kd.R_slice HO_5.out
                subst eo14
                go_wp2
                repeat (go_quiet (fail); try go_wp2)
                go_meet
                case rel => exact ⟨_, (false), (by first | rfl | (simp; done) | (simp [*]; done)), H', ⟨by have := HK1.out; first | omega | exact Nat.le_refl _⟩, ⟨by (with_reducible repeat (first | apply Kd.R_alloc | apply Kd.R_drewN | apply Kd.R_drew)); exact HO_5.out⟩, ⟨by (with_reducible repeat (first | apply Kd.R_alloc | apply Kd.R_drewN | apply Kd.R_drew)); exact HO_6.out⟩, ⟨by repeat (first | (with_reducible first | exact HB.out | apply below_alloc | apply pw_below_drewN | apply below_drew1) | exact HB.out)⟩⟩
            case rest =>
              clear HC10
              try clear c1
              try clear p2
              try clear c3
              try clear c3b0
              try clear c3b1
              try clear c4
              try clear c4b0
              try clear c4b1
              try clear c5
              try clear c5b0
              try clear c5b1
              try clear c11
              try clear c11b0
              try clear p2
              obtain ⟨kq, x32_9, rfl, HA, HJ9, HO_5, HO_6, HB⟩ := hcut
              cases kq with
              | zero => exact absurd HA.out (by simp [spec_ComparePre.j1])
              | succ kj9 =>
                have H := HA.out
                clear HA
                simp only [spec_ComparePre.j1] at H
                by_cases c15 : x32_9 = true
                · subst c15
                  have H1 : (if 0 ≤ x7_1 then (if x7_1 < (t150.length : Int) then (if x7_1 < (t153.length : Int) then ((spec_ComparePart.f kj9 (rdOf ByteArray.empty t150 x7_1) (rdOf ByteArray.empty t153 x7_1)).bind fun t158 => (if t158 = 0 then (spec_ComparePre.l0 kj9 t150 t153 (wrap64 (x7_1 + 1))) else (some t158))) else (none)) else (none)) else (none)) = some r := by rw [if_pos rfl] at H; exact H
                  clear H
                  have H := H1
                  clear H1
                  by_cases c16 : 0 ≤ x7_1
                  · rw [if_pos c16] at H
                    have c16b0 : decide (0 ≤ x7_1) = true := decide_eq_true c16
                    clear c16
                    by_cases c17 : x7_1 < (t150.length : Int)
                    · rw [if_pos c17] at H
                      have c17b0 : decide (x7_1 < (t150.length : Int)) = true := decide_eq_true c17
                      clear c17
                      by_cases c18 : x7_1 < (t153.length : Int)
                      · rw [if_pos c18] at H
                        have c18b0 : decide (x7_1 < (t153.length : Int)) = true := decide_eq_true c18
                        clear c18
                        replace H := Option.bind_eq_some_iff.mp H
                        obtain ⟨t158, A190, H⟩ := H
                        replace H : (if t158 = 0 then (spec_ComparePre.l0 kj9 t150 t153 (wrap64 (x7_1 + 1))) else (some t158)) = some r := H
                        have A19 := Aside0.mk A190
                        clear A190
                        by_cases c20 : t158 = 0
                        · rw [if_pos c20] at H
                          have c20b0 : (t158 == 0) = true := beq_iff_eq.mpr c20
                          have c20b1 : (t158 != 0) = false := bne_eq_false_iff_eq.mpr c20
                          clear c20
                          have H' := Aside0.mk H
                          clear H
                          obtain ⟨Ao21, co21, eo21⟩ := Kd.R_slice HO_5.out
                          subst eo21
                          have p156 : 0 ≤ (x7_1 : Int) := of_decide_eq_true (by first | (with_reducible assumption) | assumption)
                          have q156 : x7_1 < (t150.length : Int) := of_decide_eq_true (by first | (with_reducible assumption) | assumption)
                          obtain ⟨ad156, e156, hx156_0⟩ := Kd.at_string (Kd.R_reads' HO_5.out).2.2 x7_1 p156 q156
                          cases e156
                          replace p156 := eq_true p156
                          replace q156 := eq_true q156
                          obtain ⟨Ao22, co22, eo22⟩ := Kd.R_slice HO_6.out
                          subst eo22
                          have p157 : 0 ≤ (x7_1 : Int) := of_decide_eq_true (by first | (with_reducible assumption) | assumption)
                          have q157 : x7_1 < (t153.length : Int) := of_decide_eq_true (by first | (with_reducible assumption) | assumption)
                          obtain ⟨ad157, e157, hx157_0⟩ := Kd.at_string (Kd.R_reads' HO_6.out).2.2 x7_1 p157 q157
                          cases e157
                          replace p157 := eq_true p157
                          replace q157 := eq_true q157
                          go_wp2_with (first | (go_at_call 155; (with_reducible refine (spec_ComparePart.calls kj9 (rdOf ByteArray.empty t150 x7_1) (rdOf ByteArray.empty t153 x7_1) t158 _ A19.out).mono ?_); rintro e w' ⟨rfl, ⟨nd, rfl⟩⟩; (try first | exact ⟨rfl, _, World.drewN_drewN _ _ _⟩ | exact ⟨rfl, _, Eq.trans (World.drewN_drewN _ _ _) (congrArg (World.drewN _) (Nat.add_assoc _ _ _))⟩)))
                          repeat (go_quiet (first | (go_at_call 155; (with_reducible refine (spec_ComparePart.calls kj9 (rdOf ByteArray.empty t150 x7_1) (rdOf ByteArray.empty t153 x7_1) t158 _ A19.out).mono ?_); rintro e w' ⟨rfl, ⟨nd, rfl⟩⟩; (try first | exact ⟨rfl, _, World.drewN_drewN _ _ _⟩ | exact ⟨rfl, _, Eq.trans (World.drewN_drewN _ _ _) (congrArg (World.drewN _) (Nat.add_assoc _ _ _))⟩))); try go_wp2_with (first | (go_at_call 155; (with_reducible refine (spec_ComparePart.calls kj9 (rdOf ByteArray.empty t150 x7_1) (rdOf ByteArray.empty t153 x7_1) t158 _ A19.out).mono ?_); rintro e w' ⟨rfl, ⟨nd, rfl⟩⟩; (try first | exact ⟨rfl, _, World.drewN_drewN _ _ _⟩ | exact ⟨rfl, _, Eq.trans (World.drewN_drewN _ _ _) (congrArg (World.drewN _) (Nat.add_assoc _ _ _))⟩))))
                          go_roundg kj9
                          case measure => have := HK1.out; have := HJ9.out; omega
                          case rel => exact ⟨(wrap64 (x7_1 + 1)), (by first | rfl | (simp; done) | (simp [*]; done)), H', ⟨by have := HK1.out; have := HJ9.out; omega⟩, ⟨by (with_reducible repeat (first | apply Kd.R_alloc | apply Kd.R_drewN | apply Kd.R_drew)); exact HO_5.out⟩, ⟨by (with_reducible repeat (first | apply Kd.R_alloc | apply Kd.R_drewN | apply Kd.R_drew)); exact HO_6.out⟩, ⟨by repeat (first | (with_reducible first | exact HB.out | apply below_alloc | apply pw_below_drewN | apply below_drew1) | exact HB.out)⟩⟩
                        · rw [if_neg c20] at H
                          have c20b0 : (t158 == 0) = false := beq_eq_false_iff_ne.mpr c20
                          have c20b1 : (t158 != 0) = true := bne_iff_ne.mpr c20
                          obtain rfl := Option.some.inj H
                          obtain ⟨Ao23, co23, eo23⟩ := Kd.R_slice HO_5.out
                          subst eo23
                          have p156 : 0 ≤ (x7_1 : Int) := of_decide_eq_true (by first | (with_reducible assumption) | assumption)
                          have q156 : x7_1 < (t150.length : Int) := of_decide_eq_true (by first | (with_reducible assumption) | assumption)
                          obtain ⟨ad156, e156, hx156_0⟩ := Kd.at_string (Kd.R_reads' HO_5.out).2.2 x7_1 p156 q156
                          cases e156
                          replace p156 := eq_true p156
                          replace q156 := eq_true q156
                          obtain ⟨Ao24, co24, eo24⟩ := Kd.R_slice HO_6.out
                          subst eo24
                          have p157 : 0 ≤ (x7_1 : Int) := of_decide_eq_true (by first | (with_reducible assumption) | assumption)
                          have q157 : x7_1 < (t153.length : Int) := of_decide_eq_true (by first | (with_reducible assumption) | assumption)
                          obtain ⟨ad157, e157, hx157_0⟩ := Kd.at_string (Kd.R_reads' HO_6.out).2.2 x7_1 p157 q157
                          cases e157
                          replace p157 := eq_true p157
                          replace q157 := eq_true q157
                          go_wp2_with (first | (go_at_call 155; (with_reducible refine (spec_ComparePart.calls kj9 (rdOf ByteArray.empty t150 x7_1) (rdOf ByteArray.empty t153 x7_1) t158 _ A19.out).mono ?_); rintro e w' ⟨rfl, ⟨nd, rfl⟩⟩; (try first | exact ⟨rfl, _, World.drewN_drewN _ _ _⟩ | exact ⟨rfl, _, Eq.trans (World.drewN_drewN _ _ _) (congrArg (World.drewN _) (Nat.add_assoc _ _ _))⟩)))
                          repeat (go_quiet (first | (go_at_call 155; (with_reducible refine (spec_ComparePart.calls kj9 (rdOf ByteArray.empty t150 x7_1) (rdOf ByteArray.empty t153 x7_1) t158 _ A19.out).mono ?_); rintro e w' ⟨rfl, ⟨nd, rfl⟩⟩; (try first | exact ⟨rfl, _, World.drewN_drewN _ _ _⟩ | exact ⟨rfl, _, Eq.trans (World.drewN_drewN _ _ _) (congrArg (World.drewN _) (Nat.add_assoc _ _ _))⟩))); try go_wp2_with (first | (go_at_call 155; (with_reducible refine (spec_ComparePart.calls kj9 (rdOf ByteArray.empty t150 x7_1) (rdOf ByteArray.empty t153 x7_1) t158 _ A19.out).mono ?_); rintro e w' ⟨rfl, ⟨nd, rfl⟩⟩; (try first | exact ⟨rfl, _, World.drewN_drewN _ _ _⟩ | exact ⟨rfl, _, Eq.trans (World.drewN_drewN _ _ _) (congrArg (World.drewN _) (Nat.add_assoc _ _ _))⟩))))
                          go_ret
                          exact ⟨by first | rfl | (simp [errW_none, errW_some] <;> rfl) | (simp [*, errW_none, errW_some] <;> rfl), by repeat (first | (with_reducible first | exact HB.out | apply below_alloc | apply pw_below_drewN | apply below_drew1) | exact HB.out)⟩
                      · rw [if_neg c18] at H
                        exact absurd H (by simp)
                    · rw [if_neg c17] at H
                      exact absurd H (by simp)
                  · rw [if_neg c16] at H
                    exact absurd H (by simp)
                · replace c15 := Bool.eq_false_iff.mpr c15
                  subst c15
                  have H1 : ((spec_order.f (IntKind.u64.wrap ((t150.length : Int))) (IntKind.u64.wrap ((t153.length : Int)))).bind fun t159 => (some t159)) = some r := by rw [if_neg (show ¬ (false = true) by decide)] at H; exact H
                  clear H
                  have H := H1
                  clear H1
                  replace H := Option.bind_eq_some_iff.mp H
                  obtain ⟨t159, A250, H⟩ := H
                  replace H : (some t159) = some r := H
                  have A25 := Aside0.mk A250
                  clear A250
                  obtain rfl := Option.some.inj H
                  obtain ⟨Ao26, co26, eo26⟩ := Kd.R_slice HO_5.out
                  subst eo26
                  obtain ⟨Ao27, co27, eo27⟩ := Kd.R_slice HO_6.out
                  subst eo27
                  go_wp2_with (first | (go_at_call 154; (with_reducible refine (spec_order.calls (IntKind.u64.wrap ((t150.length : Int))) (IntKind.u64.wrap ((t153.length : Int))) t159 _ A25.out).mono ?_); rintro e w' ⟨rfl, ⟨nd, rfl⟩⟩; (try first | exact ⟨rfl, _, World.drewN_drewN _ _ _⟩ | exact ⟨rfl, _, Eq.trans (World.drewN_drewN _ _ _) (congrArg (World.drewN _) (Nat.add_assoc _ _ _))⟩)))
                  repeat (go_quiet (first | (go_at_call 154; (with_reducible refine (spec_order.calls (IntKind.u64.wrap ((t150.length : Int))) (IntKind.u64.wrap ((t153.length : Int))) t159 _ A25.out).mono ?_); rintro e w' ⟨rfl, ⟨nd, rfl⟩⟩; (try first | exact ⟨rfl, _, World.drewN_drewN _ _ _⟩ | exact ⟨rfl, _, Eq.trans (World.drewN_drewN _ _ _) (congrArg (World.drewN _) (Nat.add_assoc _ _ _))⟩))); try go_wp2_with (first | (go_at_call 154; (with_reducible refine (spec_order.calls (IntKind.u64.wrap ((t150.length : Int))) (IntKind.u64.wrap ((t153.length : Int))) t159 _ A25.out).mono ?_); rintro e w' ⟨rfl, ⟨nd, rfl⟩⟩; (try first | exact ⟨rfl, _, World.drewN_drewN _ _ _⟩ | exact ⟨rfl, _, Eq.trans (World.drewN_drewN _ _ _) (congrArg (World.drewN _) (Nat.add_assoc _ _ _))⟩))))
                  go_ret
                  exact ⟨by first | rfl | (simp [errW_none, errW_some] <;> rfl) | (simp [*, errW_none, errW_some] <;> rfl), by repeat (first | (with_reducible first | exact HB.out | apply below_alloc | apply pw_below_drewN | apply below_drew1) | exact HB.out)⟩

/-! ### spec_Compare: function 64 -/
def spec_Compare.f (k : Nat) (a0_0 : Int) (a0_1 : Int) (a0_2 : Int) (a0_3 : ByteArray) (a0_4 : ByteArray) (a1_0 : Int) (a1_1 : Int) (a1_2 : Int) (a1_3 : ByteArray) (a1_4 : ByteArray) : Option (Int) := (Hand.CompareNumbers.f a0_0 a0_1 a0_2 a0_3 a0_4 a1_0 a1_1 a1_2 a1_3 a1_4 3).bind fun t162 => (if t162 = 0 then ((spec_ComparePre.f k a0_3 a1_3).bind fun t163 => (some t163)) else (some t162))
theorem spec_Compare.mono : ∀ a0 a1 a2 a3 a4 a5 a6 a7 a8 a9 k, LeO (spec_Compare.f k a0 a1 a2 a3 a4 a5 a6 a7 a8 a9) (spec_Compare.f (k + 1) a0 a1 a2 a3 a4 a5 a6 a7 a8 a9) := by
  intro a0 a1 a2 a3 a4 a5 a6 a7 a8 a9 k
  unfold spec_Compare.f
  repeat' first
      | (with_reducible exact spec_ComparePre.mono _ _ _)
      | (with_reducible exact LeO.refl _)
      | (with_reducible exact LeO.none _)
      | (with_reducible refine LeO.ite ?_ ?_)
      | (with_reducible refine LeO.bind ?_ (fun _ => ?_))
      | exact spec_ComparePre.mono _ _ _
      | exact LeO.none _
      | refine LeO.ite ?_ ?_
      | refine LeO.bind ?_ (fun _ => ?_)
set_option maxHeartbeats 8000000 in
set_option maxRecDepth 100000 in
theorem spec_Compare.calls (k : Nat) (a0_0 : Int) (a0_1 : Int) (a0_2 : Int) (a0_3 : ByteArray) (a0_4 : ByteArray) (a1_0 : Int) (a1_1 : Int) (a1_2 : Int) (a1_3 : ByteArray) (a1_4 : ByteArray) (r : Int) (w : World) (h : spec_Compare.f k a0_0 a0_1 a0_2 a0_3 a0_4 a1_0 a1_1 a1_2 a1_3 a1_4 = some r) :
    Calls Tryd.prog 64 #[.agg #[.int .u64 a0_0, .int .u64 a0_1, .int .u64 a0_2, .string a0_3, .string a0_4], .agg #[.int .u64 a1_0, .int .u64 a1_1, .int .u64 a1_2, .string a1_3, .string a1_4]] w fun e w' => e = .returned (.int .i64 r) ∧ Below w.heap.size w w' := by
  have hu29 := Tryd.underlying29
  have HB := Aside0.mk (Below.refl w.heap.size w)
  have H : ((Hand.CompareNumbers.f a0_0 a0_1 a0_2 a0_3 a0_4 a1_0 a1_1 a1_2 a1_3 a1_4 3).bind fun t162 => (if t162 = 0 then ((spec_ComparePre.f k a0_3 a1_3).bind fun t163 => (some t163)) else (some t162))) = some r := h
  clear h
  replace H := Option.bind_eq_some_iff.mp H
  obtain ⟨t162, A30, H⟩ := H
  replace H : (if t162 = 0 then ((spec_ComparePre.f k a0_3 a1_3).bind fun t163 => (some t163)) else (some t162)) = some r := H
  have A3 := Aside0.mk A30
  clear A30
  by_cases c4 : t162 = 0
  · rw [if_pos c4] at H
    have c4b0 : (t162 == 0) = true := beq_iff_eq.mpr c4
    have c4b1 : (t162 != 0) = false := bne_eq_false_iff_eq.mpr c4
    clear c4
    replace H := Option.bind_eq_some_iff.mp H
    obtain ⟨t163, A50, H⟩ := H
    replace H : (some t163) = some r := H
    have A5 := Aside0.mk A50
    clear A50
    obtain rfl := Option.some.inj H
    go_enter Tryd.func64, Tryd.ntmps64
    go_wp2_with (first | ((with_reducible refine gate_dst (N := 2) rfl ?_); refine box_event ?hg (N := 2) ?hd (cs := #[.int .u64 a0_0, .int .u64 a0_1, .int .u64 a0_2, .string a0_3, .string a0_4]) (t := 29) ?hr ?_; (case hd => rfl); (case hg => rfl); (case hr => first | (go_simp; done) | (go_simp; rfl)); intro gb160 hg w6 hbox hb; have n0_ := Aside0.mk (below_step (by repeat (first | (with_reducible first | exact HB.out | apply below_alloc | apply pw_below_drewN | apply below_drew1) | exact HB.out)) hb); have n1_ := Aside0.mk (hbox); have n2_ := Aside0.mk ((by rw [hg]; exact (below_size (by repeat (first | (with_reducible first | exact HB.out | apply below_alloc | apply pw_below_drewN | apply below_drew1) | exact HB.out))) : w.heap.size ≤ gb160)); have n3_ := Aside0.mk ((by rw [hg]; exact (below_size (by repeat (first | (with_reducible first | exact HB.out | apply below_alloc | apply pw_below_drewN | apply below_drew1) | exact HB.out))) : w.heap.size ≤ gb160)); clear HB; have HB := n0_; have BK160 := n1_; have GW160 := n2_; have GE160 := n3_; clear n0_ n1_ n2_ n3_; clear hb hbox hg) | ((with_reducible refine gate_dst (N := 3) rfl ?_); refine box_event ?hg (N := 3) ?hd (cs := #[.int .u64 a1_0, .int .u64 a1_1, .int .u64 a1_2, .string a1_3, .string a1_4]) (t := 29) ?hr ?_; (case hd => rfl); (case hg => rfl); (case hr => first | (go_simp; done) | (go_simp; rfl)); intro gb161 hg w7 hbox hb; have n0_ := Aside0.mk (blk_below (g := gb160) (o := .cells #[.int .u64 a0_0, .int .u64 a0_1, .int .u64 a0_2, .string a0_3, .string a0_4] 29 (0, 0)) (by (with_reducible repeat (first | refine blk_drewN ?_ _ | refine blk_drew ?_ | refine blk_alloc ?_ _)); exact BK160.out) hb); have n1_ := Aside0.mk (below_step (by repeat (first | (with_reducible first | exact HB.out | apply below_alloc | apply pw_below_drewN | apply below_drew1 | refine below_set ?_ GE160.out) | exact HB.out)) hb); have n2_ := Aside0.mk (hbox); have n3_ := Aside0.mk ((by rw [hg]; exact (below_size (by repeat (first | (with_reducible first | exact HB.out | apply below_alloc | apply pw_below_drewN | apply below_drew1 | refine below_set ?_ GE160.out) | exact HB.out))) : w.heap.size ≤ gb161)); have n4_ := Aside0.mk ((by rw [hg]; exact (below_size (by repeat (first | (with_reducible first | exact HB.out | apply below_alloc | apply pw_below_drewN | apply below_drew1 | refine below_set ?_ GE160.out) | exact HB.out))) : w.heap.size ≤ gb161)); have n5_ := Aside0.mk ((by rw [hg]; exact Nat.ne_of_lt (blk_lt (g := gb160) (o := .cells #[.int .u64 a0_0, .int .u64 a0_1, .int .u64 a0_2, .string a0_3, .string a0_4] 29 (0, 0)) (by (with_reducible repeat (first | refine blk_drewN ?_ _ | refine blk_drew ?_ | refine blk_alloc ?_ _)); exact BK160.out)) : gb160 ≠ gb161)); have n6_ := Aside0.mk ((by rw [hg]; exact Nat.ne_of_gt (blk_lt (g := gb160) (o := .cells #[.int .u64 a0_0, .int .u64 a0_1, .int .u64 a0_2, .string a0_3, .string a0_4] 29 (0, 0)) (by (with_reducible repeat (first | refine blk_drewN ?_ _ | refine blk_drew ?_ | refine blk_alloc ?_ _)); exact BK160.out)) : gb161 ≠ gb160)); clear BK160; clear HB; have BK160 := n0_; have HB := n1_; have BK161 := n2_; have GW161 := n3_; have GE161 := n4_; have NB160_161 := n5_; have NB161_160 := n6_; clear n0_ n1_ n2_ n3_ n4_ n5_ n6_; clear hb hbox hg; have hnb8 := NB160_161.out; have hnc8 := NB161_160.out; have hcz9_0 : w7.cell? ⟨gb160, 0, none⟩ = some (.int .u64 a0_0) := (blk_cell BK160.out 0).trans rfl; have hcz9_1 : w7.cell? ⟨gb160, 1, none⟩ = some (.int .u64 a0_1) := (blk_cell BK160.out 1).trans rfl; have hcz9_2 : w7.cell? ⟨gb160, 2, none⟩ = some (.int .u64 a0_2) := (blk_cell BK160.out 2).trans rfl; have hcz9_3 : w7.cell? ⟨gb160, 3, none⟩ = some (.string a0_3) := (blk_cell BK160.out 3).trans rfl; have hcz9_4 : w7.cell? ⟨gb160, 4, none⟩ = some (.string a0_4) := (blk_cell BK160.out 4).trans rfl; have hfz9_0 := blk_frozen BK160.out 0; have hfz9_1 := blk_frozen BK160.out 1; have hfz9_2 := blk_frozen BK160.out 2; have hfz9_3 := blk_frozen BK160.out 3; have hfz9_4 := blk_frozen BK160.out 4; have hcz10_0 : w7.cell? ⟨gb161, 0, none⟩ = some (.int .u64 a1_0) := (blk_cell BK161.out 0).trans rfl; have hcz10_1 : w7.cell? ⟨gb161, 1, none⟩ = some (.int .u64 a1_1) := (blk_cell BK161.out 1).trans rfl; have hcz10_2 : w7.cell? ⟨gb161, 2, none⟩ = some (.int .u64 a1_2) := (blk_cell BK161.out 2).trans rfl; have hcz10_3 : w7.cell? ⟨gb161, 3, none⟩ = some (.string a1_3) := (blk_cell BK161.out 3).trans rfl; have hcz10_4 : w7.cell? ⟨gb161, 4, none⟩ = some (.string a1_4) := (blk_cell BK161.out 4).trans rfl; have hfz10_0 := blk_frozen BK161.out 0; have hfz10_1 := blk_frozen BK161.out 1; have hfz10_2 := blk_frozen BK161.out 2; have hfz10_3 := blk_frozen BK161.out 3; have hfz10_4 := blk_frozen BK161.out 4) | ((with_reducible refine gate_callee (f := 111) rfl ?_); refine goesL_ (some 8) rfl rfl Tryd.func111 (by kernel_rfl) rfl #[.agg #[.int .u64 a0_0, .int .u64 a0_1, .int .u64 a0_2, .string a0_3, .string a0_4], .agg #[.int .u64 a1_0, .int .u64 a1_1, .int .u64 a1_2, .string a1_3, .string a1_4], .int .i64 3] rfl (by (try simp only [List.map_toArray, List.map_cons, List.map_nil]); first | done | rfl | (simp only [List.length_drop, List.length_take]; rfl)) ?_; (with_reducible refine (Hand.CompareNumbers.calls a0_0 a0_1 a0_2 a0_3 a0_4 a1_0 a1_1 a1_2 a1_3 a1_4 3 t162 _ A3.out).mono ?_); rintro e w11 ⟨rfl, hb⟩; refine ⟨_, rfl, ?_⟩; have n0_ := Aside0.mk (blk_below (g := gb160) (o := .cells #[.int .u64 a0_0, .int .u64 a0_1, .int .u64 a0_2, .string a0_3, .string a0_4] 29 (0, 0)) (by (with_reducible repeat (first | refine blk_drewN ?_ _ | refine blk_drew ?_ | refine blk_alloc ?_ _)); exact BK160.out) hb); have n1_ := Aside0.mk (blk_below (g := gb161) (o := .cells #[.int .u64 a1_0, .int .u64 a1_1, .int .u64 a1_2, .string a1_3, .string a1_4] 29 (0, 0)) (by (with_reducible repeat (first | refine blk_drewN ?_ _ | refine blk_drew ?_ | refine blk_alloc ?_ _)); exact BK161.out) hb); have n2_ := Aside0.mk (below_step (by repeat (first | (with_reducible first | exact HB.out | apply below_alloc | apply pw_below_drewN | apply below_drew1 | refine below_set ?_ GE160.out | refine below_set ?_ GE161.out) | exact HB.out)) hb); clear BK160; clear BK161; clear HB; have BK160 := n0_; have BK161 := n1_; have HB := n2_; clear n0_ n1_ n2_; (try clear hb); (try clear hb2); (try clear hk); (try clear hi); have hcz12_0 : w11.cell? ⟨gb160, 0, none⟩ = some (.int .u64 a0_0) := (blk_cell BK160.out 0).trans rfl; have hcz12_1 : w11.cell? ⟨gb160, 1, none⟩ = some (.int .u64 a0_1) := (blk_cell BK160.out 1).trans rfl; have hcz12_2 : w11.cell? ⟨gb160, 2, none⟩ = some (.int .u64 a0_2) := (blk_cell BK160.out 2).trans rfl; have hcz12_3 : w11.cell? ⟨gb160, 3, none⟩ = some (.string a0_3) := (blk_cell BK160.out 3).trans rfl; have hcz12_4 : w11.cell? ⟨gb160, 4, none⟩ = some (.string a0_4) := (blk_cell BK160.out 4).trans rfl; have hfz12_0 := blk_frozen BK160.out 0; have hfz12_1 := blk_frozen BK160.out 1; have hfz12_2 := blk_frozen BK160.out 2; have hfz12_3 := blk_frozen BK160.out 3; have hfz12_4 := blk_frozen BK160.out 4; have hcz13_0 : w11.cell? ⟨gb161, 0, none⟩ = some (.int .u64 a1_0) := (blk_cell BK161.out 0).trans rfl; have hcz13_1 : w11.cell? ⟨gb161, 1, none⟩ = some (.int .u64 a1_1) := (blk_cell BK161.out 1).trans rfl; have hcz13_2 : w11.cell? ⟨gb161, 2, none⟩ = some (.int .u64 a1_2) := (blk_cell BK161.out 2).trans rfl; have hcz13_3 : w11.cell? ⟨gb161, 3, none⟩ = some (.string a1_3) := (blk_cell BK161.out 3).trans rfl; have hcz13_4 : w11.cell? ⟨gb161, 4, none⟩ = some (.string a1_4) := (blk_cell BK161.out 4).trans rfl; have hfz13_0 := blk_frozen BK161.out 0; have hfz13_1 := blk_frozen BK161.out 1; have hfz13_2 := blk_frozen BK161.out 2; have hfz13_3 := blk_frozen BK161.out 3; have hfz13_4 := blk_frozen BK161.out 4) | ((with_reducible refine gate_callee (f := 112) rfl ?_); refine goesL_ (some 16) rfl rfl Tryd.func112 (by kernel_rfl) rfl #[.string a0_3, .string a1_3] rfl (by (try simp only [List.map_toArray, List.map_cons, List.map_nil]); first | done | rfl | (simp only [List.length_drop, List.length_take]; rfl)) ?_; (with_reducible refine (spec_ComparePre.calls k a0_3 a1_3 t163 _ A5.out).mono ?_); rintro e w14 ⟨rfl, hb⟩; refine ⟨_, rfl, ?_⟩; have n0_ := Aside0.mk (blk_below (g := gb160) (o := .cells #[.int .u64 a0_0, .int .u64 a0_1, .int .u64 a0_2, .string a0_3, .string a0_4] 29 (0, 0)) (by (with_reducible repeat (first | refine blk_drewN ?_ _ | refine blk_drew ?_ | refine blk_alloc ?_ _)); exact BK160.out) hb); have n1_ := Aside0.mk (blk_below (g := gb161) (o := .cells #[.int .u64 a1_0, .int .u64 a1_1, .int .u64 a1_2, .string a1_3, .string a1_4] 29 (0, 0)) (by (with_reducible repeat (first | refine blk_drewN ?_ _ | refine blk_drew ?_ | refine blk_alloc ?_ _)); exact BK161.out) hb); have n2_ := Aside0.mk (below_step (by repeat (first | (with_reducible first | exact HB.out | apply below_alloc | apply pw_below_drewN | apply below_drew1 | refine below_set ?_ GE160.out | refine below_set ?_ GE161.out) | exact HB.out)) hb); clear BK160; clear BK161; clear HB; have BK160 := n0_; have BK161 := n1_; have HB := n2_; clear n0_ n1_ n2_; (try clear hb); (try clear hb2); (try clear hk); (try clear hi)))
    go_ret
    exact ⟨by first | rfl | (simp [errW_none, errW_some] <;> rfl) | (simp [*, errW_none, errW_some] <;> rfl), by repeat (first | (with_reducible first | exact HB.out | apply below_alloc | apply pw_below_drewN | apply below_drew1 | refine below_set ?_ GE160.out | refine below_set ?_ GE161.out) | exact HB.out)⟩
  · rw [if_neg c4] at H
    have c4b0 : (t162 == 0) = false := beq_eq_false_iff_ne.mpr c4
    have c4b1 : (t162 != 0) = true := bne_iff_ne.mpr c4
    obtain rfl := Option.some.inj H
    go_enter Tryd.func64, Tryd.ntmps64
    go_wp2_with (first | ((with_reducible refine gate_dst (N := 2) rfl ?_); refine box_event ?hg (N := 2) ?hd (cs := #[.int .u64 a0_0, .int .u64 a0_1, .int .u64 a0_2, .string a0_3, .string a0_4]) (t := 29) ?hr ?_; (case hd => rfl); (case hg => rfl); (case hr => first | (go_simp; done) | (go_simp; rfl)); intro gb160 hg w15 hbox hb; have n0_ := Aside0.mk (below_step (by repeat (first | (with_reducible first | exact HB.out | apply below_alloc | apply pw_below_drewN | apply below_drew1) | exact HB.out)) hb); have n1_ := Aside0.mk (hbox); have n2_ := Aside0.mk ((by rw [hg]; exact (below_size (by repeat (first | (with_reducible first | exact HB.out | apply below_alloc | apply pw_below_drewN | apply below_drew1) | exact HB.out))) : w.heap.size ≤ gb160)); have n3_ := Aside0.mk ((by rw [hg]; exact (below_size (by repeat (first | (with_reducible first | exact HB.out | apply below_alloc | apply pw_below_drewN | apply below_drew1) | exact HB.out))) : w.heap.size ≤ gb160)); clear HB; have HB := n0_; have BK160 := n1_; have GW160 := n2_; have GE160 := n3_; clear n0_ n1_ n2_ n3_; clear hb hbox hg) | ((with_reducible refine gate_dst (N := 3) rfl ?_); refine box_event ?hg (N := 3) ?hd (cs := #[.int .u64 a1_0, .int .u64 a1_1, .int .u64 a1_2, .string a1_3, .string a1_4]) (t := 29) ?hr ?_; (case hd => rfl); (case hg => rfl); (case hr => first | (go_simp; done) | (go_simp; rfl)); intro gb161 hg w16 hbox hb; have n0_ := Aside0.mk (blk_below (g := gb160) (o := .cells #[.int .u64 a0_0, .int .u64 a0_1, .int .u64 a0_2, .string a0_3, .string a0_4] 29 (0, 0)) (by (with_reducible repeat (first | refine blk_drewN ?_ _ | refine blk_drew ?_ | refine blk_alloc ?_ _)); exact BK160.out) hb); have n1_ := Aside0.mk (below_step (by repeat (first | (with_reducible first | exact HB.out | apply below_alloc | apply pw_below_drewN | apply below_drew1 | refine below_set ?_ GE160.out) | exact HB.out)) hb); have n2_ := Aside0.mk (hbox); have n3_ := Aside0.mk ((by rw [hg]; exact (below_size (by repeat (first | (with_reducible first | exact HB.out | apply below_alloc | apply pw_below_drewN | apply below_drew1 | refine below_set ?_ GE160.out) | exact HB.out))) : w.heap.size ≤ gb161)); have n4_ := Aside0.mk ((by rw [hg]; exact (below_size (by repeat (first | (with_reducible first | exact HB.out | apply below_alloc | apply pw_below_drewN | apply below_drew1 | refine below_set ?_ GE160.out) | exact HB.out))) : w.heap.size ≤ gb161)); have n5_ := Aside0.mk ((by rw [hg]; exact Nat.ne_of_lt (blk_lt (g := gb160) (o := .cells #[.int .u64 a0_0, .int .u64 a0_1, .int .u64 a0_2, .string a0_3, .string a0_4] 29 (0, 0)) (by (with_reducible repeat (first | refine blk_drewN ?_ _ | refine blk_drew ?_ | refine blk_alloc ?_ _)); exact BK160.out)) : gb160 ≠ gb161)); have n6_ := Aside0.mk ((by rw [hg]; exact Nat.ne_of_gt (blk_lt (g := gb160) (o := .cells #[.int .u64 a0_0, .int .u64 a0_1, .int .u64 a0_2, .string a0_3, .string a0_4] 29 (0, 0)) (by (with_reducible repeat (first | refine blk_drewN ?_ _ | refine blk_drew ?_ | refine blk_alloc ?_ _)); exact BK160.out)) : gb161 ≠ gb160)); clear BK160; clear HB; have BK160 := n0_; have HB := n1_; have BK161 := n2_; have GW161 := n3_; have GE161 := n4_; have NB160_161 := n5_; have NB161_160 := n6_; clear n0_ n1_ n2_ n3_ n4_ n5_ n6_; clear hb hbox hg; have hnb17 := NB160_161.out; have hnc17 := NB161_160.out; have hcz18_0 : w16.cell? ⟨gb160, 0, none⟩ = some (.int .u64 a0_0) := (blk_cell BK160.out 0).trans rfl; have hcz18_1 : w16.cell? ⟨gb160, 1, none⟩ = some (.int .u64 a0_1) := (blk_cell BK160.out 1).trans rfl; have hcz18_2 : w16.cell? ⟨gb160, 2, none⟩ = some (.int .u64 a0_2) := (blk_cell BK160.out 2).trans rfl; have hcz18_3 : w16.cell? ⟨gb160, 3, none⟩ = some (.string a0_3) := (blk_cell BK160.out 3).trans rfl; have hcz18_4 : w16.cell? ⟨gb160, 4, none⟩ = some (.string a0_4) := (blk_cell BK160.out 4).trans rfl; have hfz18_0 := blk_frozen BK160.out 0; have hfz18_1 := blk_frozen BK160.out 1; have hfz18_2 := blk_frozen BK160.out 2; have hfz18_3 := blk_frozen BK160.out 3; have hfz18_4 := blk_frozen BK160.out 4; have hcz19_0 : w16.cell? ⟨gb161, 0, none⟩ = some (.int .u64 a1_0) := (blk_cell BK161.out 0).trans rfl; have hcz19_1 : w16.cell? ⟨gb161, 1, none⟩ = some (.int .u64 a1_1) := (blk_cell BK161.out 1).trans rfl; have hcz19_2 : w16.cell? ⟨gb161, 2, none⟩ = some (.int .u64 a1_2) := (blk_cell BK161.out 2).trans rfl; have hcz19_3 : w16.cell? ⟨gb161, 3, none⟩ = some (.string a1_3) := (blk_cell BK161.out 3).trans rfl; have hcz19_4 : w16.cell? ⟨gb161, 4, none⟩ = some (.string a1_4) := (blk_cell BK161.out 4).trans rfl; have hfz19_0 := blk_frozen BK161.out 0; have hfz19_1 := blk_frozen BK161.out 1; have hfz19_2 := blk_frozen BK161.out 2; have hfz19_3 := blk_frozen BK161.out 3; have hfz19_4 := blk_frozen BK161.out 4) | ((with_reducible refine gate_callee (f := 111) rfl ?_); refine goesL_ (some 8) rfl rfl Tryd.func111 (by kernel_rfl) rfl #[.agg #[.int .u64 a0_0, .int .u64 a0_1, .int .u64 a0_2, .string a0_3, .string a0_4], .agg #[.int .u64 a1_0, .int .u64 a1_1, .int .u64 a1_2, .string a1_3, .string a1_4], .int .i64 3] rfl (by (try simp only [List.map_toArray, List.map_cons, List.map_nil]); first | done | rfl | (simp only [List.length_drop, List.length_take]; rfl)) ?_; (with_reducible refine (Hand.CompareNumbers.calls a0_0 a0_1 a0_2 a0_3 a0_4 a1_0 a1_1 a1_2 a1_3 a1_4 3 t162 _ A3.out).mono ?_); rintro e w20 ⟨rfl, hb⟩; refine ⟨_, rfl, ?_⟩; have n0_ := Aside0.mk (blk_below (g := gb160) (o := .cells #[.int .u64 a0_0, .int .u64 a0_1, .int .u64 a0_2, .string a0_3, .string a0_4] 29 (0, 0)) (by (with_reducible repeat (first | refine blk_drewN ?_ _ | refine blk_drew ?_ | refine blk_alloc ?_ _)); exact BK160.out) hb); have n1_ := Aside0.mk (blk_below (g := gb161) (o := .cells #[.int .u64 a1_0, .int .u64 a1_1, .int .u64 a1_2, .string a1_3, .string a1_4] 29 (0, 0)) (by (with_reducible repeat (first | refine blk_drewN ?_ _ | refine blk_drew ?_ | refine blk_alloc ?_ _)); exact BK161.out) hb); have n2_ := Aside0.mk (below_step (by repeat (first | (with_reducible first | exact HB.out | apply below_alloc | apply pw_below_drewN | apply below_drew1 | refine below_set ?_ GE160.out | refine below_set ?_ GE161.out) | exact HB.out)) hb); clear BK160; clear BK161; clear HB; have BK160 := n0_; have BK161 := n1_; have HB := n2_; clear n0_ n1_ n2_; (try clear hb); (try clear hb2); (try clear hk); (try clear hi)))
    go_ret
    exact ⟨by first | rfl | (simp [errW_none, errW_some] <;> rfl) | (simp [*, errW_none, errW_some] <;> rfl), by repeat (first | (with_reducible first | exact HB.out | apply below_alloc | apply pw_below_drewN | apply below_drew1 | refine below_set ?_ GE160.out | refine below_set ?_ GE161.out) | exact HB.out)⟩

/-! ### spec_Least: function 66 -/
def spec_Least.f (a0_0 : Int) (a0_1 : Int) (a0_2 : Int) (a0_3 : Int) (a0_4 : Int) (a0_5 : ByteArray) : Option (Int × Int × Int × ByteArray × ByteArray) := some (a0_2, a0_3, a0_4, a0_5, (⟨#[]⟩ : ByteArray))
set_option maxHeartbeats 8000000 in
set_option maxRecDepth 100000 in
theorem spec_Least.calls (a0_0 : Int) (a0_1 : Int) (a0_2 : Int) (a0_3 : Int) (a0_4 : Int) (a0_5 : ByteArray) (r1 : Int) (r2 : Int) (r3 : Int) (r4 : ByteArray) (r5 : ByteArray) (w : World) (h : spec_Least.f a0_0 a0_1 a0_2 a0_3 a0_4 a0_5 = some (r1, r2, r3, r4, r5)) :
    Calls Tryd.prog 66 #[.agg #[.int .i64 a0_0, .int .i64 a0_1, .int .u64 a0_2, .int .u64 a0_3, .int .u64 a0_4, .string a0_5]] w fun e w' => e = .returned (.agg #[.int .u64 r1, .int .u64 r2, .int .u64 r3, .string r4, .string r5]) ∧ Below w.heap.size w w' := by
  have hu42 := Tryd.underlying42
  have hu29 := Tryd.underlying29
  have HB := Aside0.mk (Below.refl w.heap.size w)
  have H : (some (a0_2, a0_3, a0_4, a0_5, (⟨#[]⟩ : ByteArray))) = some (r1, r2, r3, r4, r5) := h
  clear h
  simp only [Option.some.injEq, Prod.mk.injEq] at H
  obtain ⟨rfl, rfl, rfl, rfl, rfl⟩ := H
  go_enter Tryd.func66, Tryd.ntmps66
  go_wp2_with (first | ((with_reducible refine gate_dst (N := 1) rfl ?_); refine box_event ?hg (N := 1) ?hd (cs := #[.int .i64 a0_0, .int .i64 a0_1, .int .u64 a0_2, .int .u64 a0_3, .int .u64 a0_4, .string a0_5]) (t := 42) ?hr ?_; (case hd => rfl); (case hg => rfl); (case hr => first | (go_simp; done) | (go_simp; rfl)); intro gb164 hg w2 hbox hb; have n0_ := Aside0.mk (below_step (by repeat (first | (with_reducible first | exact HB.out | apply below_alloc | apply pw_below_drewN | apply below_drew1) | exact HB.out)) hb); have n1_ := Aside0.mk (hbox); have n2_ := Aside0.mk ((by rw [hg]; exact (below_size (by repeat (first | (with_reducible first | exact HB.out | apply below_alloc | apply pw_below_drewN | apply below_drew1) | exact HB.out))) : w.heap.size ≤ gb164)); have n3_ := Aside0.mk ((by rw [hg]; exact (below_size (by repeat (first | (with_reducible first | exact HB.out | apply below_alloc | apply pw_below_drewN | apply below_drew1) | exact HB.out))) : w.heap.size ≤ gb164)); clear HB; have HB := n0_; have BK164 := n1_; have GW164 := n2_; have GE164 := n3_; clear n0_ n1_ n2_ n3_; clear hb hbox hg) | ((with_reducible refine gate_dst (N := 2) rfl ?_); refine box_event ?hg (N := 2) ?hd (cs := #[.int .u64 0, .int .u64 0, .int .u64 0, .string (⟨#[]⟩ : ByteArray), .string (⟨#[]⟩ : ByteArray)]) (t := 29) ?hr ?_; (case hd => rfl); (case hg => rfl); (case hr => first | (go_simp; done) | (go_simp; rfl)); intro gb165 hg w3 hbox hb; have n0_ := Aside0.mk (blk_below (g := gb164) (o := .cells #[.int .i64 a0_0, .int .i64 a0_1, .int .u64 a0_2, .int .u64 a0_3, .int .u64 a0_4, .string a0_5] 42 (0, 0)) (by (with_reducible repeat (first | refine blk_drewN ?_ _ | refine blk_drew ?_ | refine blk_alloc ?_ _)); exact BK164.out) hb); have n1_ := Aside0.mk (below_step (by repeat (first | (with_reducible first | exact HB.out | apply below_alloc | apply pw_below_drewN | apply below_drew1 | refine below_set ?_ GE164.out) | exact HB.out)) hb); have n2_ := Aside0.mk (hbox); have n3_ := Aside0.mk ((by rw [hg]; exact (below_size (by repeat (first | (with_reducible first | exact HB.out | apply below_alloc | apply pw_below_drewN | apply below_drew1 | refine below_set ?_ GE164.out) | exact HB.out))) : w.heap.size ≤ gb165)); have n4_ := Aside0.mk ((by rw [hg]; exact (below_size (by repeat (first | (with_reducible first | exact HB.out | apply below_alloc | apply pw_below_drewN | apply below_drew1 | refine below_set ?_ GE164.out) | exact HB.out))) : w.heap.size ≤ gb165)); have n5_ := Aside0.mk ((by rw [hg]; exact Nat.ne_of_lt (blk_lt (g := gb164) (o := .cells #[.int .i64 a0_0, .int .i64 a0_1, .int .u64 a0_2, .int .u64 a0_3, .int .u64 a0_4, .string a0_5] 42 (0, 0)) (by (with_reducible repeat (first | refine blk_drewN ?_ _ | refine blk_drew ?_ | refine blk_alloc ?_ _)); exact BK164.out)) : gb164 ≠ gb165)); have n6_ := Aside0.mk ((by rw [hg]; exact Nat.ne_of_gt (blk_lt (g := gb164) (o := .cells #[.int .i64 a0_0, .int .i64 a0_1, .int .u64 a0_2, .int .u64 a0_3, .int .u64 a0_4, .string a0_5] 42 (0, 0)) (by (with_reducible repeat (first | refine blk_drewN ?_ _ | refine blk_drew ?_ | refine blk_alloc ?_ _)); exact BK164.out)) : gb165 ≠ gb164)); clear BK164; clear HB; have BK164 := n0_; have HB := n1_; have BK165 := n2_; have GW165 := n3_; have GE165 := n4_; have NB164_165 := n5_; have NB165_164 := n6_; clear n0_ n1_ n2_ n3_ n4_ n5_ n6_; clear hb hbox hg; have hnb4 := NB164_165.out; have hnc4 := NB165_164.out; have hcz5_0 : w3.cell? ⟨gb164, 0, none⟩ = some (.int .i64 a0_0) := (blk_cell BK164.out 0).trans rfl; have hcz5_1 : w3.cell? ⟨gb164, 1, none⟩ = some (.int .i64 a0_1) := (blk_cell BK164.out 1).trans rfl; have hcz5_2 : w3.cell? ⟨gb164, 2, none⟩ = some (.int .u64 a0_2) := (blk_cell BK164.out 2).trans rfl; have hcz5_3 : w3.cell? ⟨gb164, 3, none⟩ = some (.int .u64 a0_3) := (blk_cell BK164.out 3).trans rfl; have hcz5_4 : w3.cell? ⟨gb164, 4, none⟩ = some (.int .u64 a0_4) := (blk_cell BK164.out 4).trans rfl; have hcz5_5 : w3.cell? ⟨gb164, 5, none⟩ = some (.string a0_5) := (blk_cell BK164.out 5).trans rfl; have hfz5_0 := blk_frozen BK164.out 0; have hfz5_1 := blk_frozen BK164.out 1; have hfz5_2 := blk_frozen BK164.out 2; have hfz5_3 := blk_frozen BK164.out 3; have hfz5_4 := blk_frozen BK164.out 4; have hfz5_5 := blk_frozen BK164.out 5; have hcz6_0 : w3.cell? ⟨gb165, 0, none⟩ = some (.int .u64 0) := (blk_cell BK165.out 0).trans rfl; have hcz6_1 : w3.cell? ⟨gb165, 1, none⟩ = some (.int .u64 0) := (blk_cell BK165.out 1).trans rfl; have hcz6_2 : w3.cell? ⟨gb165, 2, none⟩ = some (.int .u64 0) := (blk_cell BK165.out 2).trans rfl; have hcz6_3 : w3.cell? ⟨gb165, 3, none⟩ = some (.string (⟨#[]⟩ : ByteArray)) := (blk_cell BK165.out 3).trans rfl; have hcz6_4 : w3.cell? ⟨gb165, 4, none⟩ = some (.string (⟨#[]⟩ : ByteArray)) := (blk_cell BK165.out 4).trans rfl; have hfz6_0 := blk_frozen BK165.out 0; have hfz6_1 := blk_frozen BK165.out 1; have hfz6_2 := blk_frozen BK165.out 2; have hfz6_3 := blk_frozen BK165.out 3; have hfz6_4 := blk_frozen BK165.out 4))
  refine bodyPost_ret (results_cell_row rfl _ _ gb165 29 #[.int .u64 a0_2, .int .u64 a0_3, .int .u64 a0_4, .string a0_5, .string (⟨#[]⟩ : ByteArray)] (0, 0) _ rfl (by (with_reducible repeat (first | refine blk_drewN ?_ _ | refine blk_drew ?_ | refine blk_alloc ?_ _)); refine blk_put (cs := #[.int .u64 a0_2, .int .u64 a0_3, .int .u64 a0_4, .string a0_5, .string (⟨#[]⟩ : ByteArray)]) ?_ 4 _ rfl; (with_reducible repeat (first | refine blk_drewN ?_ _ | refine blk_drew ?_ | refine blk_alloc ?_ _)); refine blk_put (cs := #[.int .u64 a0_2, .int .u64 a0_3, .int .u64 a0_4, .string (⟨#[]⟩ : ByteArray), .string (⟨#[]⟩ : ByteArray)]) ?_ 3 _ rfl; (with_reducible repeat (first | refine blk_drewN ?_ _ | refine blk_drew ?_ | refine blk_alloc ?_ _)); refine blk_put (cs := #[.int .u64 a0_2, .int .u64 a0_3, .int .u64 0, .string (⟨#[]⟩ : ByteArray), .string (⟨#[]⟩ : ByteArray)]) ?_ 2 _ rfl; (with_reducible repeat (first | refine blk_drewN ?_ _ | refine blk_drew ?_ | refine blk_alloc ?_ _)); refine blk_put (cs := #[.int .u64 a0_2, .int .u64 0, .int .u64 0, .string (⟨#[]⟩ : ByteArray), .string (⟨#[]⟩ : ByteArray)]) ?_ 1 _ rfl; (with_reducible repeat (first | refine blk_drewN ?_ _ | refine blk_drew ?_ | refine blk_alloc ?_ _)); refine blk_put (cs := #[.int .u64 0, .int .u64 0, .int .u64 0, .string (⟨#[]⟩ : ByteArray), .string (⟨#[]⟩ : ByteArray)]) ?_ 0 _ rfl; (with_reducible repeat (first | refine blk_drewN ?_ _ | refine blk_drew ?_ | refine blk_alloc ?_ _)); exact BK165.out) Tryd.underlying29 rfl (by kernel_rfl)) rfl ?_
  exact ⟨by first | rfl | (simp [errW_none, errW_some] <;> rfl) | (simp [*, errW_none, errW_some] <;> rfl), by repeat (first | (with_reducible first | exact HB.out | apply below_alloc | apply pw_below_drewN | apply below_drew1 | refine below_set ?_ GE164.out | refine below_set ?_ GE165.out) | exact HB.out)⟩

end Go.Proofs.YtalpehfjjidfhaaDoor.MG
