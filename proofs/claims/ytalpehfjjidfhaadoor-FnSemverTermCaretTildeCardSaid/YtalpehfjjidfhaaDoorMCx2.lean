-- Written by a program of this session (wip/tools/myprint.py over the kit's print).
import Derived.Test.YtalpehfjjidfhaaDoorMCx0
import Derived.Test.YtalpehfjjidfhaaDoorMCx1
namespace Go.Proofs.YtalpehfjjidfhaaDoor.MC
open Go.RowKit Go.Proofs.YtalpehfjjidfhaaDoorW.PrintWords Go.Proofs.YtalpehfjjidfhaaDoorW.PrintLast Go.Proofs.YtalpehfjjidfhaaDoorW.PrintMore Go.Proofs.YtalpehfjjidfhaaDoor
attribute [local go_sem] max2_int min2_int max_two min_two max_three min_three max_four min_four   -- for this text's walks alone
set_option linter.unusedVariables false
set_option linter.unusedSimpArgs false

/-! ### spec_SmallPre: function 80 -/
def spec_SmallPre.l0 : Nat → List ByteArray → Int → Int → Option (Bool)
  | 0, _, _, _ => none
  | k + 1, x6, x7, x8 => if x8 < x7 then (if 0 ≤ x8 then (if x8 < (x6.length : Int) then ((spec_Digits.f k (rdOf ByteArray.empty x6 x8)).bind fun t123 => (if t123 = true then (if ((rdOf ByteArray.empty x6 x8).size : Int) > 19 then (some false) else (spec_SmallPre.l0 k x6 x7 (wrap64 (x8 + 1)))) else (spec_SmallPre.l0 k x6 x7 (wrap64 (x8 + 1))))) else (none)) else (none)) else (some true)
def spec_SmallPre.f (k : Nat) (a0 : ByteArray) : Option (Bool) := (spec_Identifiers.f k a0).bind fun t119 => (spec_SmallPre.l0 k t119 (t119.length : Int) 0)
theorem spec_SmallPre.mono_l : ∀ k, (∀ y0 y1 y2, LeO (spec_SmallPre.l0 k y0 y1 y2) (spec_SmallPre.l0 (k + 1) y0 y1 y2))
  | 0 => fun _ _ _ r h => by simp [spec_SmallPre.l0] at h
  | k + 1 => by
    have ih0 := spec_SmallPre.mono_l k
    · intro y0 y1 y2
      unfold spec_SmallPre.l0
      repeat' first
      | (with_reducible exact ih0 _ _ _)
      | (with_reducible exact spec_Digits.mono _ _)
      | (with_reducible exact spec_Identifiers.mono _ _)
      | (with_reducible exact LeO.refl _)
      | (with_reducible exact LeO.none _)
      | (with_reducible refine LeO.ite ?_ ?_)
      | (with_reducible refine LeO.bind ?_ (fun _ => ?_))
      | exact ih0 _ _ _
      | exact spec_Digits.mono _ _
      | exact spec_Identifiers.mono _ _
      | exact LeO.none _
      | refine LeO.ite ?_ ?_
      | refine LeO.bind ?_ (fun _ => ?_)
theorem spec_SmallPre.mono : ∀ a0 k, LeO (spec_SmallPre.f k a0) (spec_SmallPre.f (k + 1) a0) := by
  intro a0 k
  have ih0 := spec_SmallPre.mono_l k
  unfold spec_SmallPre.f
  repeat' first
      | (with_reducible exact ih0 _ _ _)
      | (with_reducible exact spec_Digits.mono _ _)
      | (with_reducible exact spec_Identifiers.mono _ _)
      | (with_reducible exact LeO.refl _)
      | (with_reducible exact LeO.none _)
      | (with_reducible refine LeO.ite ?_ ?_)
      | (with_reducible refine LeO.bind ?_ (fun _ => ?_))
      | exact ih0 _ _ _
      | exact spec_Digits.mono _ _
      | exact spec_Identifiers.mono _ _
      | exact LeO.none _
      | refine LeO.ite ?_ ?_
      | refine LeO.bind ?_ (fun _ => ?_)
set_option maxHeartbeats 8000000 in
set_option maxRecDepth 100000 in
theorem spec_SmallPre.calls (k : Nat) (a0 : ByteArray) (r : Bool) (w : World) (h : spec_SmallPre.f k a0 = some r) :
    Calls Tryd.prog 80 #[.string a0] w fun e w' => e = .returned (.bool r) ∧ Below w.heap.size w w' := by
  have HB := Aside0.mk (Below.refl w.heap.size w)
  have H : ((spec_Identifiers.f k a0).bind fun t119 => (spec_SmallPre.l0 k t119 (t119.length : Int) 0)) = some r := h
  clear h
  replace H := Option.bind_eq_some_iff.mp H
  obtain ⟨t119, A20, H⟩ := H
  replace H : (spec_SmallPre.l0 k t119 (t119.length : Int) 0) = some r := H
  have A2 := Aside0.mk A20
  clear A20
  have H' := Aside0.mk H
  clear H
  go_enter Tryd.func80, Tryd.ntmps80
  go_wp2_with (first | ((with_reducible refine gate_callee (f := 127) rfl ?_); refine goesL_ (some 6) rfl rfl Tryd.func127 (by kernel_rfl) rfl #[.string a0] rfl (by (try simp only [List.map_toArray, List.map_cons, List.map_nil]); first | done | rfl | (simp only [List.length_drop, List.length_take]; rfl)) ?_; (with_reducible refine (spec_Identifiers.calls k a0 t119 _ A2.out).mono ?_); rintro e w3 ⟨v120, rfl, ho0, hb⟩; refine ⟨_, rfl, ?_⟩; have n0_ := Aside0.mk (Kd.R_lower ho0 (below_size (by repeat (first | (with_reducible first | exact HB.out | apply below_alloc | apply pw_below_drewN | apply below_drew1) | exact HB.out)))); have n1_ := Aside0.mk (below_step (by repeat (first | (with_reducible first | exact HB.out | apply below_alloc | apply pw_below_drewN | apply below_drew1) | exact HB.out)) hb); clear HB; have HO121 := n0_; have HB := n1_; clear n0_ n1_; (try clear hb); (try clear hb2); (try clear hk); (try clear hi); (try clear ho0); obtain ⟨Ao4, co4, eo4⟩ := Kd.R_slice HO121.out; subst eo4))
  go_loopg [8] k (fun kq v8 w' => ∃ (x8_1 : Int), v8 = .int .i64 x8_1 ∧ Aside0 (spec_SmallPre.l0 kq t119 (t119.length : Int) x8_1 = some r) ∧ Aside0 (kq ≤ k) ∧ Aside0 (Kd.R Kd.string 9 w' w.heap.size (fun _ => True) (.slice Ao4 t119.length co4) t119) ∧ Aside0 (Below w.heap.size w w'))
  case atStart => exact ⟨(0), (by first | rfl | (simp; done) | (simp [*]; done)), H', ⟨Nat.le_refl _⟩, ⟨by (with_reducible repeat (first | apply Kd.R_alloc | apply Kd.R_drewN | apply Kd.R_drew)); exact HO121.out⟩, ⟨by repeat (first | (with_reducible first | exact HB.out | apply below_alloc | apply pw_below_drewN | apply below_drew1) | exact HB.out)⟩⟩
  case round =>
    clear H'
    try clear c1
    try clear p2
    obtain ⟨x8_1, rfl, HA, HK1, HO_6, HB⟩ := hrel
    cases gk with
    | zero => exact absurd HA.out (by simp [spec_SmallPre.l0])
    | succ k1 =>
      have H := HA.out
      clear HA
      simp only [spec_SmallPre.l0] at H
      by_cases c5 : x8_1 < (t119.length : Int)
      · rw [if_pos c5] at H
        have c5b0 : decide (x8_1 < (t119.length : Int)) = true := decide_eq_true c5
        clear c5
        by_cases c6 : 0 ≤ x8_1
        · rw [if_pos c6] at H
          have c6b0 : decide (0 ≤ x8_1) = true := decide_eq_true c6
          clear c6
          by_cases c7 : x8_1 < (t119.length : Int)
          · rw [if_pos c7] at H
            have c7b0 : decide (x8_1 < (t119.length : Int)) = true := decide_eq_true c7
            clear c7
            replace H := Option.bind_eq_some_iff.mp H
            obtain ⟨t123, A80, H⟩ := H
            replace H : (if t123 = true then (if ((rdOf ByteArray.empty t119 x8_1).size : Int) > 19 then (some false) else (spec_SmallPre.l0 k1 t119 (t119.length : Int) (wrap64 (x8_1 + 1)))) else (spec_SmallPre.l0 k1 t119 (t119.length : Int) (wrap64 (x8_1 + 1)))) = some r := H
            have A8 := Aside0.mk A80
            clear A80
            by_cases c9 : t123 = true
            · subst c9
              have H1 : (if ((rdOf ByteArray.empty t119 x8_1).size : Int) > 19 then (some false) else (spec_SmallPre.l0 k1 t119 (t119.length : Int) (wrap64 (x8_1 + 1)))) = some r := by rw [if_pos rfl] at H; exact H
              clear H
              have H := H1
              clear H1
              by_cases c10 : ((rdOf ByteArray.empty t119 x8_1).size : Int) > 19
              · rw [if_pos c10] at H
                have c10b0 : decide (19 < ((rdOf ByteArray.empty t119 x8_1).size : Int)) = true := decide_eq_true c10
                have c10b1 : decide (19 < (rdOf ByteArray.empty t119 x8_1).size) = true := decide_eq_true (by omega)
                clear c10
                obtain rfl := Option.some.inj H
                have p122 : 0 ≤ (x8_1 : Int) := of_decide_eq_true (by first | (with_reducible assumption) | assumption)
                have q122 : x8_1 < (t119.length : Int) := of_decide_eq_true (by first | (with_reducible assumption) | assumption)
                obtain ⟨ad122, e122, hx122_0⟩ := Kd.at_string (Kd.R_reads' HO_6.out).2.2 x8_1 p122 q122
                cases e122
                replace p122 := eq_true p122
                replace q122 := eq_true q122
                go_wp2_with (first | ((with_reducible refine gate_callee (f := 100) rfl ?_); refine goesL_ (some 13) rfl rfl Tryd.func100 (by kernel_rfl) rfl #[.string (rdOf ByteArray.empty t119 x8_1)] rfl (by (try simp only [List.map_toArray, List.map_cons, List.map_nil]); first | done | rfl | (simp only [List.length_drop, List.length_take]; rfl)) ?_; (with_reducible refine (spec_Digits.calls k1 (rdOf ByteArray.empty t119 x8_1) true _ A8.out).mono ?_); rintro e w' ⟨rfl, ⟨nd, rfl⟩⟩; refine ⟨_, rfl, ?_⟩))
                go_ret
                exact ⟨by first | rfl | (simp [errW_none, errW_some] <;> rfl) | (simp [*, errW_none, errW_some] <;> rfl), by repeat (first | (with_reducible first | exact HB.out | apply below_alloc | apply pw_below_drewN | apply below_drew1) | exact HB.out)⟩
              · rw [if_neg c10] at H
                have c10b0 : decide (19 < ((rdOf ByteArray.empty t119 x8_1).size : Int)) = false := decide_eq_false c10
                have c10b1 : decide (19 < (rdOf ByteArray.empty t119 x8_1).size) = false := decide_eq_false (by omega)
                clear c10
                have H' := Aside0.mk H
                clear H
                have p122 : 0 ≤ (x8_1 : Int) := of_decide_eq_true (by first | (with_reducible assumption) | assumption)
                have q122 : x8_1 < (t119.length : Int) := of_decide_eq_true (by first | (with_reducible assumption) | assumption)
                obtain ⟨ad122, e122, hx122_0⟩ := Kd.at_string (Kd.R_reads' HO_6.out).2.2 x8_1 p122 q122
                cases e122
                replace p122 := eq_true p122
                replace q122 := eq_true q122
                go_wp2_with (first | ((with_reducible refine gate_callee (f := 100) rfl ?_); refine goesL_ (some 13) rfl rfl Tryd.func100 (by kernel_rfl) rfl #[.string (rdOf ByteArray.empty t119 x8_1)] rfl (by (try simp only [List.map_toArray, List.map_cons, List.map_nil]); first | done | rfl | (simp only [List.length_drop, List.length_take]; rfl)) ?_; (with_reducible refine (spec_Digits.calls k1 (rdOf ByteArray.empty t119 x8_1) true _ A8.out).mono ?_); rintro e w' ⟨rfl, ⟨nd, rfl⟩⟩; refine ⟨_, rfl, ?_⟩))
                go_roundg k1
                case measure => have := HK1.out; omega
                case rel => exact ⟨(wrap64 (x8_1 + 1)), (by first | rfl | (simp; done) | (simp [*]; done)), H', ⟨by have := HK1.out; omega⟩, ⟨by (with_reducible repeat (first | apply Kd.R_alloc | apply Kd.R_drewN | apply Kd.R_drew)); exact HO_6.out⟩, ⟨by repeat (first | (with_reducible first | exact HB.out | apply below_alloc | apply pw_below_drewN | apply below_drew1) | exact HB.out)⟩⟩
            · replace c9 := Bool.eq_false_iff.mpr c9
              subst c9
              have H1 : (spec_SmallPre.l0 k1 t119 (t119.length : Int) (wrap64 (x8_1 + 1))) = some r := by rw [if_neg (show ¬ (false = true) by decide)] at H; exact H
              clear H
              have H := H1
              clear H1
              have H' := Aside0.mk H
              clear H
              have p122 : 0 ≤ (x8_1 : Int) := of_decide_eq_true (by first | (with_reducible assumption) | assumption)
              have q122 : x8_1 < (t119.length : Int) := of_decide_eq_true (by first | (with_reducible assumption) | assumption)
              obtain ⟨ad122, e122, hx122_0⟩ := Kd.at_string (Kd.R_reads' HO_6.out).2.2 x8_1 p122 q122
              cases e122
              replace p122 := eq_true p122
              replace q122 := eq_true q122
              go_wp2_with (first | ((with_reducible refine gate_callee (f := 100) rfl ?_); refine goesL_ (some 13) rfl rfl Tryd.func100 (by kernel_rfl) rfl #[.string (rdOf ByteArray.empty t119 x8_1)] rfl (by (try simp only [List.map_toArray, List.map_cons, List.map_nil]); first | done | rfl | (simp only [List.length_drop, List.length_take]; rfl)) ?_; (with_reducible refine (spec_Digits.calls k1 (rdOf ByteArray.empty t119 x8_1) false _ A8.out).mono ?_); rintro e w' ⟨rfl, ⟨nd, rfl⟩⟩; refine ⟨_, rfl, ?_⟩))
              go_roundg k1
              case measure => have := HK1.out; omega
              case rel => exact ⟨(wrap64 (x8_1 + 1)), (by first | rfl | (simp; done) | (simp [*]; done)), H', ⟨by have := HK1.out; omega⟩, ⟨by (with_reducible repeat (first | apply Kd.R_alloc | apply Kd.R_drewN | apply Kd.R_drew)); exact HO_6.out⟩, ⟨by repeat (first | (with_reducible first | exact HB.out | apply below_alloc | apply pw_below_drewN | apply below_drew1) | exact HB.out)⟩⟩
          · rw [if_neg c7] at H
            exact absurd H (by simp)
        · rw [if_neg c6] at H
          exact absurd H (by simp)
      · rw [if_neg c5] at H
        have c5b0 : decide (x8_1 < (t119.length : Int)) = false := decide_eq_false c5
        clear c5
        obtain rfl := Option.some.inj H
        go_wp2
        go_ret
        exact ⟨by first | rfl | (simp [errW_none, errW_some] <;> rfl) | (simp [*, errW_none, errW_some] <;> rfl), by repeat (first | (with_reducible first | exact HB.out | apply below_alloc | apply pw_below_drewN | apply below_drew1) | exact HB.out)⟩

/-! ### spec_ValidMeta: function 129 -/
def spec_ValidMeta.l0 : Nat → List ByteArray → Int → Int → Option (Bool)
  | 0, _, _, _ => none
  | k + 1, x6, x7, x8 => if x8 < x7 then (if 0 ≤ x8 then (if x8 < (x6.length : Int) then ((spec_ValidIdent.f k (rdOf ByteArray.empty x6 x8)).bind fun t128 => (if t128 = true then (spec_ValidMeta.l0 k x6 x7 (wrap64 (x8 + 1))) else (some false))) else (none)) else (none)) else (some true)
def spec_ValidMeta.f (k : Nat) (a0 : ByteArray) : Option (Bool) := (spec_Identifiers.f k a0).bind fun t124 => (spec_ValidMeta.l0 k t124 (t124.length : Int) 0)
theorem spec_ValidMeta.mono_l : ∀ k, (∀ y0 y1 y2, LeO (spec_ValidMeta.l0 k y0 y1 y2) (spec_ValidMeta.l0 (k + 1) y0 y1 y2))
  | 0 => fun _ _ _ r h => by simp [spec_ValidMeta.l0] at h
  | k + 1 => by
    have ih0 := spec_ValidMeta.mono_l k
    · intro y0 y1 y2
      unfold spec_ValidMeta.l0
      repeat' first
      | (with_reducible exact ih0 _ _ _)
      | (with_reducible exact spec_Identifiers.mono _ _)
      | (with_reducible exact spec_ValidIdent.mono _ _)
      | (with_reducible exact LeO.refl _)
      | (with_reducible exact LeO.none _)
      | (with_reducible refine LeO.ite ?_ ?_)
      | (with_reducible refine LeO.bind ?_ (fun _ => ?_))
      | exact ih0 _ _ _
      | exact spec_Identifiers.mono _ _
      | exact spec_ValidIdent.mono _ _
      | exact LeO.none _
      | refine LeO.ite ?_ ?_
      | refine LeO.bind ?_ (fun _ => ?_)
theorem spec_ValidMeta.mono : ∀ a0 k, LeO (spec_ValidMeta.f k a0) (spec_ValidMeta.f (k + 1) a0) := by
  intro a0 k
  have ih0 := spec_ValidMeta.mono_l k
  unfold spec_ValidMeta.f
  repeat' first
      | (with_reducible exact ih0 _ _ _)
      | (with_reducible exact spec_Identifiers.mono _ _)
      | (with_reducible exact spec_ValidIdent.mono _ _)
      | (with_reducible exact LeO.refl _)
      | (with_reducible exact LeO.none _)
      | (with_reducible refine LeO.ite ?_ ?_)
      | (with_reducible refine LeO.bind ?_ (fun _ => ?_))
      | exact ih0 _ _ _
      | exact spec_Identifiers.mono _ _
      | exact spec_ValidIdent.mono _ _
      | exact LeO.none _
      | refine LeO.ite ?_ ?_
      | refine LeO.bind ?_ (fun _ => ?_)
set_option maxHeartbeats 8000000 in
set_option maxRecDepth 100000 in
theorem spec_ValidMeta.calls (k : Nat) (a0 : ByteArray) (r : Bool) (w : World) (h : spec_ValidMeta.f k a0 = some r) :
    Calls Tryd.prog 129 #[.string a0] w fun e w' => e = .returned (.bool r) ∧ Below w.heap.size w w' := by
  have HB := Aside0.mk (Below.refl w.heap.size w)
  have H : ((spec_Identifiers.f k a0).bind fun t124 => (spec_ValidMeta.l0 k t124 (t124.length : Int) 0)) = some r := h
  clear h
  replace H := Option.bind_eq_some_iff.mp H
  obtain ⟨t124, A20, H⟩ := H
  replace H : (spec_ValidMeta.l0 k t124 (t124.length : Int) 0) = some r := H
  have A2 := Aside0.mk A20
  clear A20
  have H' := Aside0.mk H
  clear H
  go_enter Tryd.func129, Tryd.ntmps129
  go_wp2_with (first | ((with_reducible refine gate_callee (f := 127) rfl ?_); refine goesL_ (some 6) rfl rfl Tryd.func127 (by kernel_rfl) rfl #[.string a0] rfl (by (try simp only [List.map_toArray, List.map_cons, List.map_nil]); first | done | rfl | (simp only [List.length_drop, List.length_take]; rfl)) ?_; (with_reducible refine (spec_Identifiers.calls k a0 t124 _ A2.out).mono ?_); rintro e w3 ⟨v125, rfl, ho0, hb⟩; refine ⟨_, rfl, ?_⟩; have n0_ := Aside0.mk (Kd.R_lower ho0 (below_size (by repeat (first | (with_reducible first | exact HB.out | apply below_alloc | apply pw_below_drewN | apply below_drew1) | exact HB.out)))); have n1_ := Aside0.mk (below_step (by repeat (first | (with_reducible first | exact HB.out | apply below_alloc | apply pw_below_drewN | apply below_drew1) | exact HB.out)) hb); clear HB; have HO126 := n0_; have HB := n1_; clear n0_ n1_; (try clear hb); (try clear hb2); (try clear hk); (try clear hi); (try clear ho0); obtain ⟨Ao4, co4, eo4⟩ := Kd.R_slice HO126.out; subst eo4))
  go_loopg [8] k (fun kq v8 w' => ∃ (x8_1 : Int), v8 = .int .i64 x8_1 ∧ Aside0 (spec_ValidMeta.l0 kq t124 (t124.length : Int) x8_1 = some r) ∧ Aside0 (kq ≤ k) ∧ Aside0 (Kd.R Kd.string 9 w' w.heap.size (fun _ => True) (.slice Ao4 t124.length co4) t124) ∧ Aside0 (Below w.heap.size w w'))
  case atStart => exact ⟨(0), (by first | rfl | (simp; done) | (simp [*]; done)), H', ⟨Nat.le_refl _⟩, ⟨by (with_reducible repeat (first | apply Kd.R_alloc | apply Kd.R_drewN | apply Kd.R_drew)); exact HO126.out⟩, ⟨by repeat (first | (with_reducible first | exact HB.out | apply below_alloc | apply pw_below_drewN | apply below_drew1) | exact HB.out)⟩⟩
  case round =>
    clear H'
    try clear c1
    try clear p2
    obtain ⟨x8_1, rfl, HA, HK1, HO_6, HB⟩ := hrel
    cases gk with
    | zero => exact absurd HA.out (by simp [spec_ValidMeta.l0])
    | succ k1 =>
      have H := HA.out
      clear HA
      simp only [spec_ValidMeta.l0] at H
      by_cases c5 : x8_1 < (t124.length : Int)
      · rw [if_pos c5] at H
        have c5b0 : decide (x8_1 < (t124.length : Int)) = true := decide_eq_true c5
        clear c5
        by_cases c6 : 0 ≤ x8_1
        · rw [if_pos c6] at H
          have c6b0 : decide (0 ≤ x8_1) = true := decide_eq_true c6
          clear c6
          by_cases c7 : x8_1 < (t124.length : Int)
          · rw [if_pos c7] at H
            have c7b0 : decide (x8_1 < (t124.length : Int)) = true := decide_eq_true c7
            clear c7
            replace H := Option.bind_eq_some_iff.mp H
            obtain ⟨t128, A80, H⟩ := H
            replace H : (if t128 = true then (spec_ValidMeta.l0 k1 t124 (t124.length : Int) (wrap64 (x8_1 + 1))) else (some false)) = some r := H
            have A8 := Aside0.mk A80
            clear A80
            by_cases c9 : t128 = true
            · subst c9
              have H1 : (spec_ValidMeta.l0 k1 t124 (t124.length : Int) (wrap64 (x8_1 + 1))) = some r := by rw [if_pos rfl] at H; exact H
              clear H
              have H := H1
              clear H1
              have H' := Aside0.mk H
              clear H
              have p127 : 0 ≤ (x8_1 : Int) := of_decide_eq_true (by first | (with_reducible assumption) | assumption)
              have q127 : x8_1 < (t124.length : Int) := of_decide_eq_true (by first | (with_reducible assumption) | assumption)
              obtain ⟨ad127, e127, hx127_0⟩ := Kd.at_string (Kd.R_reads' HO_6.out).2.2 x8_1 p127 q127
              cases e127
              replace p127 := eq_true p127
              replace q127 := eq_true q127
              go_wp2_with (first | ((with_reducible refine gate_callee (f := 87) rfl ?_); refine goesL_ (some 13) rfl rfl Tryd.func87 (by kernel_rfl) rfl #[.string (rdOf ByteArray.empty t124 x8_1)] rfl (by (try simp only [List.map_toArray, List.map_cons, List.map_nil]); first | done | rfl | (simp only [List.length_drop, List.length_take]; rfl)) ?_; (with_reducible refine (spec_ValidIdent.calls k1 (rdOf ByteArray.empty t124 x8_1) true _ A8.out).mono ?_); rintro e w' ⟨rfl, ⟨nd, rfl⟩⟩; refine ⟨_, rfl, ?_⟩))
              go_roundg k1
              case measure => have := HK1.out; omega
              case rel => exact ⟨(wrap64 (x8_1 + 1)), (by first | rfl | (simp; done) | (simp [*]; done)), H', ⟨by have := HK1.out; omega⟩, ⟨by (with_reducible repeat (first | apply Kd.R_alloc | apply Kd.R_drewN | apply Kd.R_drew)); exact HO_6.out⟩, ⟨by repeat (first | (with_reducible first | exact HB.out | apply below_alloc | apply pw_below_drewN | apply below_drew1) | exact HB.out)⟩⟩
            · replace c9 := Bool.eq_false_iff.mpr c9
              subst c9
              have H1 : (some false) = some r := by rw [if_neg (show ¬ (false = true) by decide)] at H; exact H
              clear H
              have H := H1
              clear H1
              obtain rfl := Option.some.inj H
              have p127 : 0 ≤ (x8_1 : Int) := of_decide_eq_true (by first | (with_reducible assumption) | assumption)
              have q127 : x8_1 < (t124.length : Int) := of_decide_eq_true (by first | (with_reducible assumption) | assumption)
              obtain ⟨ad127, e127, hx127_0⟩ := Kd.at_string (Kd.R_reads' HO_6.out).2.2 x8_1 p127 q127
              cases e127
              replace p127 := eq_true p127
              replace q127 := eq_true q127
              go_wp2_with (first | ((with_reducible refine gate_callee (f := 87) rfl ?_); refine goesL_ (some 13) rfl rfl Tryd.func87 (by kernel_rfl) rfl #[.string (rdOf ByteArray.empty t124 x8_1)] rfl (by (try simp only [List.map_toArray, List.map_cons, List.map_nil]); first | done | rfl | (simp only [List.length_drop, List.length_take]; rfl)) ?_; (with_reducible refine (spec_ValidIdent.calls k1 (rdOf ByteArray.empty t124 x8_1) false _ A8.out).mono ?_); rintro e w' ⟨rfl, ⟨nd, rfl⟩⟩; refine ⟨_, rfl, ?_⟩))
              go_ret
              exact ⟨by first | rfl | (simp [errW_none, errW_some] <;> rfl) | (simp [*, errW_none, errW_some] <;> rfl), by repeat (first | (with_reducible first | exact HB.out | apply below_alloc | apply pw_below_drewN | apply below_drew1) | exact HB.out)⟩
          · rw [if_neg c7] at H
            exact absurd H (by simp)
        · rw [if_neg c6] at H
          exact absurd H (by simp)
      · rw [if_neg c5] at H
        have c5b0 : decide (x8_1 < (t124.length : Int)) = false := decide_eq_false c5
        clear c5
        obtain rfl := Option.some.inj H
        go_wp2
        go_ret
        exact ⟨by first | rfl | (simp [errW_none, errW_some] <;> rfl) | (simp [*, errW_none, errW_some] <;> rfl), by repeat (first | (with_reducible first | exact HB.out | apply below_alloc | apply pw_below_drewN | apply below_drew1) | exact HB.out)⟩

/-! ### spec_Good: function 82 -/
def spec_Good.f (k : Nat) (a0_0 : Int) (a0_1 : Int) (a0_2 : Int) (a0_3 : ByteArray) (a0_4 : ByteArray) : Option (Bool) := if a0_3.toList = ([] : List UInt8) then (if a0_4.toList = ([] : List UInt8) then (some true) else ((spec_ValidMeta.f k a0_4).bind fun t130 => (some t130))) else ((spec_ValidPre.f k a0_3).bind fun t131 => (if t131 = true then ((spec_SmallPre.f k a0_3).bind fun t132 => (if t132 = true then (if a0_4.toList = ([] : List UInt8) then (some true) else ((spec_ValidMeta.f k a0_4).bind fun t133 => (some t133))) else (some false))) else (some false)))
theorem spec_Good.mono : ∀ a0 a1 a2 a3 a4 k, LeO (spec_Good.f k a0 a1 a2 a3 a4) (spec_Good.f (k + 1) a0 a1 a2 a3 a4) := by
  intro a0 a1 a2 a3 a4 k
  unfold spec_Good.f
  repeat' first
      | (with_reducible exact spec_SmallPre.mono _ _)
      | (with_reducible exact spec_ValidMeta.mono _ _)
      | (with_reducible exact spec_ValidPre.mono _ _)
      | (with_reducible exact LeO.refl _)
      | (with_reducible exact LeO.none _)
      | (with_reducible refine LeO.ite ?_ ?_)
      | (with_reducible refine LeO.bind ?_ (fun _ => ?_))
      | exact spec_SmallPre.mono _ _
      | exact spec_ValidMeta.mono _ _
      | exact spec_ValidPre.mono _ _
      | exact LeO.none _
      | refine LeO.ite ?_ ?_
      | refine LeO.bind ?_ (fun _ => ?_)
set_option maxHeartbeats 8000000 in
set_option maxRecDepth 100000 in
theorem spec_Good.calls (k : Nat) (a0_0 : Int) (a0_1 : Int) (a0_2 : Int) (a0_3 : ByteArray) (a0_4 : ByteArray) (r : Bool) (w : World) (h : spec_Good.f k a0_0 a0_1 a0_2 a0_3 a0_4 = some r) :
    Calls Tryd.prog 82 #[.agg #[.int .u64 a0_0, .int .u64 a0_1, .int .u64 a0_2, .string a0_3, .string a0_4]] w fun e w' => e = .returned (.bool r) ∧ Below w.heap.size w w' := by
  have hu29 := Tryd.underlying29
  have HB := Aside0.mk (Below.refl w.heap.size w)
  have H : (if a0_3.toList = ([] : List UInt8) then (if a0_4.toList = ([] : List UInt8) then (some true) else ((spec_ValidMeta.f k a0_4).bind fun t130 => (some t130))) else ((spec_ValidPre.f k a0_3).bind fun t131 => (if t131 = true then ((spec_SmallPre.f k a0_3).bind fun t132 => (if t132 = true then (if a0_4.toList = ([] : List UInt8) then (some true) else ((spec_ValidMeta.f k a0_4).bind fun t133 => (some t133))) else (some false))) else (some false)))) = some r := h
  clear h
  by_cases c2 : a0_3.toList = ([] : List UInt8)
  · rw [if_pos c2] at H
    have c2b0 : (a0_3.toList == ([] : List UInt8)) = true := beq_iff_eq.mpr c2
    have c2b1 : (a0_3.toList != ([] : List UInt8)) = false := bne_eq_false_iff_eq.mpr c2
    clear c2
    by_cases c3 : a0_4.toList = ([] : List UInt8)
    · rw [if_pos c3] at H
      have c3b0 : (a0_4.toList == ([] : List UInt8)) = true := beq_iff_eq.mpr c3
      have c3b1 : (a0_4.toList != ([] : List UInt8)) = false := bne_eq_false_iff_eq.mpr c3
      clear c3
      obtain rfl := Option.some.inj H
      go_enter Tryd.func82, Tryd.ntmps82
      go_wp2_with (first | ((with_reducible refine gate_dst (N := 1) rfl ?_); refine box_event ?hg (N := 1) ?hd (cs := #[.int .u64 a0_0, .int .u64 a0_1, .int .u64 a0_2, .string a0_3, .string a0_4]) (t := 29) ?hr ?_; (case hd => rfl); (case hg => rfl); (case hr => first | (go_simp; done) | (go_simp; rfl)); intro gb129 hg w4 hbox hb; have n0_ := Aside0.mk (below_step (by repeat (first | (with_reducible first | exact HB.out | apply below_alloc | apply pw_below_drewN | apply below_drew1) | exact HB.out)) hb); have n1_ := Aside0.mk (hbox); have n2_ := Aside0.mk ((by rw [hg]; exact (below_size (by repeat (first | (with_reducible first | exact HB.out | apply below_alloc | apply pw_below_drewN | apply below_drew1) | exact HB.out))) : w.heap.size ≤ gb129)); have n3_ := Aside0.mk ((by rw [hg]; exact (below_size (by repeat (first | (with_reducible first | exact HB.out | apply below_alloc | apply pw_below_drewN | apply below_drew1) | exact HB.out))) : w.heap.size ≤ gb129)); clear HB; have HB := n0_; have BK129 := n1_; have GW129 := n2_; have GE129 := n3_; clear n0_ n1_ n2_ n3_; clear hb hbox hg; have hcz5_0 : w4.cell? ⟨gb129, 0, none⟩ = some (.int .u64 a0_0) := (blk_cell BK129.out 0).trans rfl; have hcz5_1 : w4.cell? ⟨gb129, 1, none⟩ = some (.int .u64 a0_1) := (blk_cell BK129.out 1).trans rfl; have hcz5_2 : w4.cell? ⟨gb129, 2, none⟩ = some (.int .u64 a0_2) := (blk_cell BK129.out 2).trans rfl; have hcz5_3 : w4.cell? ⟨gb129, 3, none⟩ = some (.string a0_3) := (blk_cell BK129.out 3).trans rfl; have hcz5_4 : w4.cell? ⟨gb129, 4, none⟩ = some (.string a0_4) := (blk_cell BK129.out 4).trans rfl; have hfz5_0 := blk_frozen BK129.out 0; have hfz5_1 := blk_frozen BK129.out 1; have hfz5_2 := blk_frozen BK129.out 2; have hfz5_3 := blk_frozen BK129.out 3; have hfz5_4 := blk_frozen BK129.out 4))
      go_ret
      exact ⟨by first | rfl | (simp [errW_none, errW_some] <;> rfl) | (simp [*, errW_none, errW_some] <;> rfl), by repeat (first | (with_reducible first | exact HB.out | apply below_alloc | apply pw_below_drewN | apply below_drew1 | refine below_set ?_ GE129.out) | exact HB.out)⟩
    · rw [if_neg c3] at H
      have c3b0 : (a0_4.toList == ([] : List UInt8)) = false := beq_eq_false_iff_ne.mpr c3
      have c3b1 : (a0_4.toList != ([] : List UInt8)) = true := bne_iff_ne.mpr c3
      replace H := Option.bind_eq_some_iff.mp H
      obtain ⟨t130, A60, H⟩ := H
      replace H : (some t130) = some r := H
      have A6 := Aside0.mk A60
      clear A60
      obtain rfl := Option.some.inj H
      go_enter Tryd.func82, Tryd.ntmps82
      go_wp2_with (first | ((with_reducible refine gate_dst (N := 1) rfl ?_); refine box_event ?hg (N := 1) ?hd (cs := #[.int .u64 a0_0, .int .u64 a0_1, .int .u64 a0_2, .string a0_3, .string a0_4]) (t := 29) ?hr ?_; (case hd => rfl); (case hg => rfl); (case hr => first | (go_simp; done) | (go_simp; rfl)); intro gb129 hg w7 hbox hb; have n0_ := Aside0.mk (below_step (by repeat (first | (with_reducible first | exact HB.out | apply below_alloc | apply pw_below_drewN | apply below_drew1) | exact HB.out)) hb); have n1_ := Aside0.mk (hbox); have n2_ := Aside0.mk ((by rw [hg]; exact (below_size (by repeat (first | (with_reducible first | exact HB.out | apply below_alloc | apply pw_below_drewN | apply below_drew1) | exact HB.out))) : w.heap.size ≤ gb129)); have n3_ := Aside0.mk ((by rw [hg]; exact (below_size (by repeat (first | (with_reducible first | exact HB.out | apply below_alloc | apply pw_below_drewN | apply below_drew1) | exact HB.out))) : w.heap.size ≤ gb129)); clear HB; have HB := n0_; have BK129 := n1_; have GW129 := n2_; have GE129 := n3_; clear n0_ n1_ n2_ n3_; clear hb hbox hg; have hcz8_0 : w7.cell? ⟨gb129, 0, none⟩ = some (.int .u64 a0_0) := (blk_cell BK129.out 0).trans rfl; have hcz8_1 : w7.cell? ⟨gb129, 1, none⟩ = some (.int .u64 a0_1) := (blk_cell BK129.out 1).trans rfl; have hcz8_2 : w7.cell? ⟨gb129, 2, none⟩ = some (.int .u64 a0_2) := (blk_cell BK129.out 2).trans rfl; have hcz8_3 : w7.cell? ⟨gb129, 3, none⟩ = some (.string a0_3) := (blk_cell BK129.out 3).trans rfl; have hcz8_4 : w7.cell? ⟨gb129, 4, none⟩ = some (.string a0_4) := (blk_cell BK129.out 4).trans rfl; have hfz8_0 := blk_frozen BK129.out 0; have hfz8_1 := blk_frozen BK129.out 1; have hfz8_2 := blk_frozen BK129.out 2; have hfz8_3 := blk_frozen BK129.out 3; have hfz8_4 := blk_frozen BK129.out 4) | (go_at_call 129; (with_reducible refine (spec_ValidMeta.calls k a0_4 t130 _ A6.out).mono ?_); rintro e w9 ⟨rfl, hb⟩; have n0_ := Aside0.mk (blk_below (g := gb129) (o := .cells #[.int .u64 a0_0, .int .u64 a0_1, .int .u64 a0_2, .string a0_3, .string a0_4] 29 (0, 0)) (by (with_reducible repeat (first | refine blk_drewN ?_ _ | refine blk_drew ?_ | refine blk_alloc ?_ _)); exact BK129.out) hb); have n1_ := Aside0.mk (below_step (by repeat (first | (with_reducible first | exact HB.out | apply below_alloc | apply pw_below_drewN | apply below_drew1 | refine below_set ?_ GE129.out) | exact HB.out)) hb); clear BK129; clear HB; have BK129 := n0_; have HB := n1_; clear n0_ n1_; (try clear hb); (try clear hb2); (try clear hk); (try clear hi)))
      go_ret
      exact ⟨by first | rfl | (simp [errW_none, errW_some] <;> rfl) | (simp [*, errW_none, errW_some] <;> rfl), by repeat (first | (with_reducible first | exact HB.out | apply below_alloc | apply pw_below_drewN | apply below_drew1 | refine below_set ?_ GE129.out) | exact HB.out)⟩
  · rw [if_neg c2] at H
    have c2b0 : (a0_3.toList == ([] : List UInt8)) = false := beq_eq_false_iff_ne.mpr c2
    have c2b1 : (a0_3.toList != ([] : List UInt8)) = true := bne_iff_ne.mpr c2
    replace H := Option.bind_eq_some_iff.mp H
    obtain ⟨t131, A100, H⟩ := H
    replace H : (if t131 = true then ((spec_SmallPre.f k a0_3).bind fun t132 => (if t132 = true then (if a0_4.toList = ([] : List UInt8) then (some true) else ((spec_ValidMeta.f k a0_4).bind fun t133 => (some t133))) else (some false))) else (some false)) = some r := H
    have A10 := Aside0.mk A100
    clear A100
    by_cases c11 : t131 = true
    · subst c11
      have H1 : ((spec_SmallPre.f k a0_3).bind fun t132 => (if t132 = true then (if a0_4.toList = ([] : List UInt8) then (some true) else ((spec_ValidMeta.f k a0_4).bind fun t133 => (some t133))) else (some false))) = some r := by rw [if_pos rfl] at H; exact H
      clear H
      have H := H1
      clear H1
      replace H := Option.bind_eq_some_iff.mp H
      obtain ⟨t132, A120, H⟩ := H
      replace H : (if t132 = true then (if a0_4.toList = ([] : List UInt8) then (some true) else ((spec_ValidMeta.f k a0_4).bind fun t133 => (some t133))) else (some false)) = some r := H
      have A12 := Aside0.mk A120
      clear A120
      by_cases c13 : t132 = true
      · subst c13
        have H1 : (if a0_4.toList = ([] : List UInt8) then (some true) else ((spec_ValidMeta.f k a0_4).bind fun t133 => (some t133))) = some r := by rw [if_pos rfl] at H; exact H
        clear H
        have H := H1
        clear H1
        by_cases c14 : a0_4.toList = ([] : List UInt8)
        · rw [if_pos c14] at H
          have c14b0 : (a0_4.toList == ([] : List UInt8)) = true := beq_iff_eq.mpr c14
          have c14b1 : (a0_4.toList != ([] : List UInt8)) = false := bne_eq_false_iff_eq.mpr c14
          clear c14
          obtain rfl := Option.some.inj H
          go_enter Tryd.func82, Tryd.ntmps82
          go_wp2_with (first | ((with_reducible refine gate_dst (N := 1) rfl ?_); refine box_event ?hg (N := 1) ?hd (cs := #[.int .u64 a0_0, .int .u64 a0_1, .int .u64 a0_2, .string a0_3, .string a0_4]) (t := 29) ?hr ?_; (case hd => rfl); (case hg => rfl); (case hr => first | (go_simp; done) | (go_simp; rfl)); intro gb129 hg w15 hbox hb; have n0_ := Aside0.mk (below_step (by repeat (first | (with_reducible first | exact HB.out | apply below_alloc | apply pw_below_drewN | apply below_drew1) | exact HB.out)) hb); have n1_ := Aside0.mk (hbox); have n2_ := Aside0.mk ((by rw [hg]; exact (below_size (by repeat (first | (with_reducible first | exact HB.out | apply below_alloc | apply pw_below_drewN | apply below_drew1) | exact HB.out))) : w.heap.size ≤ gb129)); have n3_ := Aside0.mk ((by rw [hg]; exact (below_size (by repeat (first | (with_reducible first | exact HB.out | apply below_alloc | apply pw_below_drewN | apply below_drew1) | exact HB.out))) : w.heap.size ≤ gb129)); clear HB; have HB := n0_; have BK129 := n1_; have GW129 := n2_; have GE129 := n3_; clear n0_ n1_ n2_ n3_; clear hb hbox hg; have hcz16_0 : w15.cell? ⟨gb129, 0, none⟩ = some (.int .u64 a0_0) := (blk_cell BK129.out 0).trans rfl; have hcz16_1 : w15.cell? ⟨gb129, 1, none⟩ = some (.int .u64 a0_1) := (blk_cell BK129.out 1).trans rfl; have hcz16_2 : w15.cell? ⟨gb129, 2, none⟩ = some (.int .u64 a0_2) := (blk_cell BK129.out 2).trans rfl; have hcz16_3 : w15.cell? ⟨gb129, 3, none⟩ = some (.string a0_3) := (blk_cell BK129.out 3).trans rfl; have hcz16_4 : w15.cell? ⟨gb129, 4, none⟩ = some (.string a0_4) := (blk_cell BK129.out 4).trans rfl; have hfz16_0 := blk_frozen BK129.out 0; have hfz16_1 := blk_frozen BK129.out 1; have hfz16_2 := blk_frozen BK129.out 2; have hfz16_3 := blk_frozen BK129.out 3; have hfz16_4 := blk_frozen BK129.out 4) | (go_at_call 79; (with_reducible refine (spec_ValidPre.calls k a0_3 true _ A10.out).mono ?_); rintro e w17 ⟨rfl, hb⟩; have n0_ := Aside0.mk (blk_below (g := gb129) (o := .cells #[.int .u64 a0_0, .int .u64 a0_1, .int .u64 a0_2, .string a0_3, .string a0_4] 29 (0, 0)) (by (with_reducible repeat (first | refine blk_drewN ?_ _ | refine blk_drew ?_ | refine blk_alloc ?_ _)); exact BK129.out) hb); have n1_ := Aside0.mk (below_step (by repeat (first | (with_reducible first | exact HB.out | apply below_alloc | apply pw_below_drewN | apply below_drew1 | refine below_set ?_ GE129.out) | exact HB.out)) hb); clear BK129; clear HB; have BK129 := n0_; have HB := n1_; clear n0_ n1_; (try clear hb); (try clear hb2); (try clear hk); (try clear hi); have hcz18_0 : w17.cell? ⟨gb129, 0, none⟩ = some (.int .u64 a0_0) := (blk_cell BK129.out 0).trans rfl; have hcz18_1 : w17.cell? ⟨gb129, 1, none⟩ = some (.int .u64 a0_1) := (blk_cell BK129.out 1).trans rfl; have hcz18_2 : w17.cell? ⟨gb129, 2, none⟩ = some (.int .u64 a0_2) := (blk_cell BK129.out 2).trans rfl; have hcz18_3 : w17.cell? ⟨gb129, 3, none⟩ = some (.string a0_3) := (blk_cell BK129.out 3).trans rfl; have hcz18_4 : w17.cell? ⟨gb129, 4, none⟩ = some (.string a0_4) := (blk_cell BK129.out 4).trans rfl; have hfz18_0 := blk_frozen BK129.out 0; have hfz18_1 := blk_frozen BK129.out 1; have hfz18_2 := blk_frozen BK129.out 2; have hfz18_3 := blk_frozen BK129.out 3; have hfz18_4 := blk_frozen BK129.out 4) | (go_at_call 80; (with_reducible refine (spec_SmallPre.calls k a0_3 true _ A12.out).mono ?_); rintro e w19 ⟨rfl, hb⟩; have n0_ := Aside0.mk (blk_below (g := gb129) (o := .cells #[.int .u64 a0_0, .int .u64 a0_1, .int .u64 a0_2, .string a0_3, .string a0_4] 29 (0, 0)) (by (with_reducible repeat (first | refine blk_drewN ?_ _ | refine blk_drew ?_ | refine blk_alloc ?_ _)); exact BK129.out) hb); have n1_ := Aside0.mk (below_step (by repeat (first | (with_reducible first | exact HB.out | apply below_alloc | apply pw_below_drewN | apply below_drew1 | refine below_set ?_ GE129.out) | exact HB.out)) hb); clear BK129; clear HB; have BK129 := n0_; have HB := n1_; clear n0_ n1_; (try clear hb); (try clear hb2); (try clear hk); (try clear hi); have hcz20_0 : w19.cell? ⟨gb129, 0, none⟩ = some (.int .u64 a0_0) := (blk_cell BK129.out 0).trans rfl; have hcz20_1 : w19.cell? ⟨gb129, 1, none⟩ = some (.int .u64 a0_1) := (blk_cell BK129.out 1).trans rfl; have hcz20_2 : w19.cell? ⟨gb129, 2, none⟩ = some (.int .u64 a0_2) := (blk_cell BK129.out 2).trans rfl; have hcz20_3 : w19.cell? ⟨gb129, 3, none⟩ = some (.string a0_3) := (blk_cell BK129.out 3).trans rfl; have hcz20_4 : w19.cell? ⟨gb129, 4, none⟩ = some (.string a0_4) := (blk_cell BK129.out 4).trans rfl; have hfz20_0 := blk_frozen BK129.out 0; have hfz20_1 := blk_frozen BK129.out 1; have hfz20_2 := blk_frozen BK129.out 2; have hfz20_3 := blk_frozen BK129.out 3; have hfz20_4 := blk_frozen BK129.out 4))
          go_ret
          exact ⟨by first | rfl | (simp [errW_none, errW_some] <;> rfl) | (simp [*, errW_none, errW_some] <;> rfl), by repeat (first | (with_reducible first | exact HB.out | apply below_alloc | apply pw_below_drewN | apply below_drew1 | refine below_set ?_ GE129.out) | exact HB.out)⟩
        · rw [if_neg c14] at H
          have c14b0 : (a0_4.toList == ([] : List UInt8)) = false := beq_eq_false_iff_ne.mpr c14
          have c14b1 : (a0_4.toList != ([] : List UInt8)) = true := bne_iff_ne.mpr c14
          replace H := Option.bind_eq_some_iff.mp H
          obtain ⟨t133, A210, H⟩ := H
          replace H : (some t133) = some r := H
          have A21 := Aside0.mk A210
          clear A210
          obtain rfl := Option.some.inj H
          go_enter Tryd.func82, Tryd.ntmps82
          go_wp2_with (first | ((with_reducible refine gate_dst (N := 1) rfl ?_); refine box_event ?hg (N := 1) ?hd (cs := #[.int .u64 a0_0, .int .u64 a0_1, .int .u64 a0_2, .string a0_3, .string a0_4]) (t := 29) ?hr ?_; (case hd => rfl); (case hg => rfl); (case hr => first | (go_simp; done) | (go_simp; rfl)); intro gb129 hg w22 hbox hb; have n0_ := Aside0.mk (below_step (by repeat (first | (with_reducible first | exact HB.out | apply below_alloc | apply pw_below_drewN | apply below_drew1) | exact HB.out)) hb); have n1_ := Aside0.mk (hbox); have n2_ := Aside0.mk ((by rw [hg]; exact (below_size (by repeat (first | (with_reducible first | exact HB.out | apply below_alloc | apply pw_below_drewN | apply below_drew1) | exact HB.out))) : w.heap.size ≤ gb129)); have n3_ := Aside0.mk ((by rw [hg]; exact (below_size (by repeat (first | (with_reducible first | exact HB.out | apply below_alloc | apply pw_below_drewN | apply below_drew1) | exact HB.out))) : w.heap.size ≤ gb129)); clear HB; have HB := n0_; have BK129 := n1_; have GW129 := n2_; have GE129 := n3_; clear n0_ n1_ n2_ n3_; clear hb hbox hg; have hcz23_0 : w22.cell? ⟨gb129, 0, none⟩ = some (.int .u64 a0_0) := (blk_cell BK129.out 0).trans rfl; have hcz23_1 : w22.cell? ⟨gb129, 1, none⟩ = some (.int .u64 a0_1) := (blk_cell BK129.out 1).trans rfl; have hcz23_2 : w22.cell? ⟨gb129, 2, none⟩ = some (.int .u64 a0_2) := (blk_cell BK129.out 2).trans rfl; have hcz23_3 : w22.cell? ⟨gb129, 3, none⟩ = some (.string a0_3) := (blk_cell BK129.out 3).trans rfl; have hcz23_4 : w22.cell? ⟨gb129, 4, none⟩ = some (.string a0_4) := (blk_cell BK129.out 4).trans rfl; have hfz23_0 := blk_frozen BK129.out 0; have hfz23_1 := blk_frozen BK129.out 1; have hfz23_2 := blk_frozen BK129.out 2; have hfz23_3 := blk_frozen BK129.out 3; have hfz23_4 := blk_frozen BK129.out 4) | (go_at_call 79; (with_reducible refine (spec_ValidPre.calls k a0_3 true _ A10.out).mono ?_); rintro e w24 ⟨rfl, hb⟩; have n0_ := Aside0.mk (blk_below (g := gb129) (o := .cells #[.int .u64 a0_0, .int .u64 a0_1, .int .u64 a0_2, .string a0_3, .string a0_4] 29 (0, 0)) (by (with_reducible repeat (first | refine blk_drewN ?_ _ | refine blk_drew ?_ | refine blk_alloc ?_ _)); exact BK129.out) hb); have n1_ := Aside0.mk (below_step (by repeat (first | (with_reducible first | exact HB.out | apply below_alloc | apply pw_below_drewN | apply below_drew1 | refine below_set ?_ GE129.out) | exact HB.out)) hb); clear BK129; clear HB; have BK129 := n0_; have HB := n1_; clear n0_ n1_; (try clear hb); (try clear hb2); (try clear hk); (try clear hi); have hcz25_0 : w24.cell? ⟨gb129, 0, none⟩ = some (.int .u64 a0_0) := (blk_cell BK129.out 0).trans rfl; have hcz25_1 : w24.cell? ⟨gb129, 1, none⟩ = some (.int .u64 a0_1) := (blk_cell BK129.out 1).trans rfl; have hcz25_2 : w24.cell? ⟨gb129, 2, none⟩ = some (.int .u64 a0_2) := (blk_cell BK129.out 2).trans rfl; have hcz25_3 : w24.cell? ⟨gb129, 3, none⟩ = some (.string a0_3) := (blk_cell BK129.out 3).trans rfl; have hcz25_4 : w24.cell? ⟨gb129, 4, none⟩ = some (.string a0_4) := (blk_cell BK129.out 4).trans rfl; have hfz25_0 := blk_frozen BK129.out 0; have hfz25_1 := blk_frozen BK129.out 1; have hfz25_2 := blk_frozen BK129.out 2; have hfz25_3 := blk_frozen BK129.out 3; have hfz25_4 := blk_frozen BK129.out 4) | (go_at_call 80; (with_reducible refine (spec_SmallPre.calls k a0_3 true _ A12.out).mono ?_); rintro e w26 ⟨rfl, hb⟩; have n0_ := Aside0.mk (blk_below (g := gb129) (o := .cells #[.int .u64 a0_0, .int .u64 a0_1, .int .u64 a0_2, .string a0_3, .string a0_4] 29 (0, 0)) (by (with_reducible repeat (first | refine blk_drewN ?_ _ | refine blk_drew ?_ | refine blk_alloc ?_ _)); exact BK129.out) hb); have n1_ := Aside0.mk (below_step (by repeat (first | (with_reducible first | exact HB.out | apply below_alloc | apply pw_below_drewN | apply below_drew1 | refine below_set ?_ GE129.out) | exact HB.out)) hb); clear BK129; clear HB; have BK129 := n0_; have HB := n1_; clear n0_ n1_; (try clear hb); (try clear hb2); (try clear hk); (try clear hi); have hcz27_0 : w26.cell? ⟨gb129, 0, none⟩ = some (.int .u64 a0_0) := (blk_cell BK129.out 0).trans rfl; have hcz27_1 : w26.cell? ⟨gb129, 1, none⟩ = some (.int .u64 a0_1) := (blk_cell BK129.out 1).trans rfl; have hcz27_2 : w26.cell? ⟨gb129, 2, none⟩ = some (.int .u64 a0_2) := (blk_cell BK129.out 2).trans rfl; have hcz27_3 : w26.cell? ⟨gb129, 3, none⟩ = some (.string a0_3) := (blk_cell BK129.out 3).trans rfl; have hcz27_4 : w26.cell? ⟨gb129, 4, none⟩ = some (.string a0_4) := (blk_cell BK129.out 4).trans rfl; have hfz27_0 := blk_frozen BK129.out 0; have hfz27_1 := blk_frozen BK129.out 1; have hfz27_2 := blk_frozen BK129.out 2; have hfz27_3 := blk_frozen BK129.out 3; have hfz27_4 := blk_frozen BK129.out 4) | (go_at_call 129; (with_reducible refine (spec_ValidMeta.calls k a0_4 t133 _ A21.out).mono ?_); rintro e w28 ⟨rfl, hb⟩; have n0_ := Aside0.mk (blk_below (g := gb129) (o := .cells #[.int .u64 a0_0, .int .u64 a0_1, .int .u64 a0_2, .string a0_3, .string a0_4] 29 (0, 0)) (by (with_reducible repeat (first | refine blk_drewN ?_ _ | refine blk_drew ?_ | refine blk_alloc ?_ _)); exact BK129.out) hb); have n1_ := Aside0.mk (below_step (by repeat (first | (with_reducible first | exact HB.out | apply below_alloc | apply pw_below_drewN | apply below_drew1 | refine below_set ?_ GE129.out) | exact HB.out)) hb); clear BK129; clear HB; have BK129 := n0_; have HB := n1_; clear n0_ n1_; (try clear hb); (try clear hb2); (try clear hk); (try clear hi)))
          go_ret
          exact ⟨by first | rfl | (simp [errW_none, errW_some] <;> rfl) | (simp [*, errW_none, errW_some] <;> rfl), by repeat (first | (with_reducible first | exact HB.out | apply below_alloc | apply pw_below_drewN | apply below_drew1 | refine below_set ?_ GE129.out) | exact HB.out)⟩
      · replace c13 := Bool.eq_false_iff.mpr c13
        subst c13
        have H1 : (some false) = some r := by rw [if_neg (show ¬ (false = true) by decide)] at H; exact H
        clear H
        have H := H1
        clear H1
        obtain rfl := Option.some.inj H
        go_enter Tryd.func82, Tryd.ntmps82
        go_wp2_with (first | ((with_reducible refine gate_dst (N := 1) rfl ?_); refine box_event ?hg (N := 1) ?hd (cs := #[.int .u64 a0_0, .int .u64 a0_1, .int .u64 a0_2, .string a0_3, .string a0_4]) (t := 29) ?hr ?_; (case hd => rfl); (case hg => rfl); (case hr => first | (go_simp; done) | (go_simp; rfl)); intro gb129 hg w29 hbox hb; have n0_ := Aside0.mk (below_step (by repeat (first | (with_reducible first | exact HB.out | apply below_alloc | apply pw_below_drewN | apply below_drew1) | exact HB.out)) hb); have n1_ := Aside0.mk (hbox); have n2_ := Aside0.mk ((by rw [hg]; exact (below_size (by repeat (first | (with_reducible first | exact HB.out | apply below_alloc | apply pw_below_drewN | apply below_drew1) | exact HB.out))) : w.heap.size ≤ gb129)); have n3_ := Aside0.mk ((by rw [hg]; exact (below_size (by repeat (first | (with_reducible first | exact HB.out | apply below_alloc | apply pw_below_drewN | apply below_drew1) | exact HB.out))) : w.heap.size ≤ gb129)); clear HB; have HB := n0_; have BK129 := n1_; have GW129 := n2_; have GE129 := n3_; clear n0_ n1_ n2_ n3_; clear hb hbox hg; have hcz30_0 : w29.cell? ⟨gb129, 0, none⟩ = some (.int .u64 a0_0) := (blk_cell BK129.out 0).trans rfl; have hcz30_1 : w29.cell? ⟨gb129, 1, none⟩ = some (.int .u64 a0_1) := (blk_cell BK129.out 1).trans rfl; have hcz30_2 : w29.cell? ⟨gb129, 2, none⟩ = some (.int .u64 a0_2) := (blk_cell BK129.out 2).trans rfl; have hcz30_3 : w29.cell? ⟨gb129, 3, none⟩ = some (.string a0_3) := (blk_cell BK129.out 3).trans rfl; have hcz30_4 : w29.cell? ⟨gb129, 4, none⟩ = some (.string a0_4) := (blk_cell BK129.out 4).trans rfl; have hfz30_0 := blk_frozen BK129.out 0; have hfz30_1 := blk_frozen BK129.out 1; have hfz30_2 := blk_frozen BK129.out 2; have hfz30_3 := blk_frozen BK129.out 3; have hfz30_4 := blk_frozen BK129.out 4) | (go_at_call 79; (with_reducible refine (spec_ValidPre.calls k a0_3 true _ A10.out).mono ?_); rintro e w31 ⟨rfl, hb⟩; have n0_ := Aside0.mk (blk_below (g := gb129) (o := .cells #[.int .u64 a0_0, .int .u64 a0_1, .int .u64 a0_2, .string a0_3, .string a0_4] 29 (0, 0)) (by (with_reducible repeat (first | refine blk_drewN ?_ _ | refine blk_drew ?_ | refine blk_alloc ?_ _)); exact BK129.out) hb); have n1_ := Aside0.mk (below_step (by repeat (first | (with_reducible first | exact HB.out | apply below_alloc | apply pw_below_drewN | apply below_drew1 | refine below_set ?_ GE129.out) | exact HB.out)) hb); clear BK129; clear HB; have BK129 := n0_; have HB := n1_; clear n0_ n1_; (try clear hb); (try clear hb2); (try clear hk); (try clear hi); have hcz32_0 : w31.cell? ⟨gb129, 0, none⟩ = some (.int .u64 a0_0) := (blk_cell BK129.out 0).trans rfl; have hcz32_1 : w31.cell? ⟨gb129, 1, none⟩ = some (.int .u64 a0_1) := (blk_cell BK129.out 1).trans rfl; have hcz32_2 : w31.cell? ⟨gb129, 2, none⟩ = some (.int .u64 a0_2) := (blk_cell BK129.out 2).trans rfl; have hcz32_3 : w31.cell? ⟨gb129, 3, none⟩ = some (.string a0_3) := (blk_cell BK129.out 3).trans rfl; have hcz32_4 : w31.cell? ⟨gb129, 4, none⟩ = some (.string a0_4) := (blk_cell BK129.out 4).trans rfl; have hfz32_0 := blk_frozen BK129.out 0; have hfz32_1 := blk_frozen BK129.out 1; have hfz32_2 := blk_frozen BK129.out 2; have hfz32_3 := blk_frozen BK129.out 3; have hfz32_4 := blk_frozen BK129.out 4) | (go_at_call 80; (with_reducible refine (spec_SmallPre.calls k a0_3 false _ A12.out).mono ?_); rintro e w33 ⟨rfl, hb⟩; have n0_ := Aside0.mk (blk_below (g := gb129) (o := .cells #[.int .u64 a0_0, .int .u64 a0_1, .int .u64 a0_2, .string a0_3, .string a0_4] 29 (0, 0)) (by (with_reducible repeat (first | refine blk_drewN ?_ _ | refine blk_drew ?_ | refine blk_alloc ?_ _)); exact BK129.out) hb); have n1_ := Aside0.mk (below_step (by repeat (first | (with_reducible first | exact HB.out | apply below_alloc | apply pw_below_drewN | apply below_drew1 | refine below_set ?_ GE129.out) | exact HB.out)) hb); clear BK129; clear HB; have BK129 := n0_; have HB := n1_; clear n0_ n1_; (try clear hb); (try clear hb2); (try clear hk); (try clear hi)))
        go_ret
        exact ⟨by first | rfl | (simp [errW_none, errW_some] <;> rfl) | (simp [*, errW_none, errW_some] <;> rfl), by repeat (first | (with_reducible first | exact HB.out | apply below_alloc | apply pw_below_drewN | apply below_drew1 | refine below_set ?_ GE129.out) | exact HB.out)⟩
    · replace c11 := Bool.eq_false_iff.mpr c11
      subst c11
      have H1 : (some false) = some r := by rw [if_neg (show ¬ (false = true) by decide)] at H; exact H
      clear H
      have H := H1
      clear H1
      obtain rfl := Option.some.inj H
      go_enter Tryd.func82, Tryd.ntmps82
      go_wp2_with (first | ((with_reducible refine gate_dst (N := 1) rfl ?_); refine box_event ?hg (N := 1) ?hd (cs := #[.int .u64 a0_0, .int .u64 a0_1, .int .u64 a0_2, .string a0_3, .string a0_4]) (t := 29) ?hr ?_; (case hd => rfl); (case hg => rfl); (case hr => first | (go_simp; done) | (go_simp; rfl)); intro gb129 hg w34 hbox hb; have n0_ := Aside0.mk (below_step (by repeat (first | (with_reducible first | exact HB.out | apply below_alloc | apply pw_below_drewN | apply below_drew1) | exact HB.out)) hb); have n1_ := Aside0.mk (hbox); have n2_ := Aside0.mk ((by rw [hg]; exact (below_size (by repeat (first | (with_reducible first | exact HB.out | apply below_alloc | apply pw_below_drewN | apply below_drew1) | exact HB.out))) : w.heap.size ≤ gb129)); have n3_ := Aside0.mk ((by rw [hg]; exact (below_size (by repeat (first | (with_reducible first | exact HB.out | apply below_alloc | apply pw_below_drewN | apply below_drew1) | exact HB.out))) : w.heap.size ≤ gb129)); clear HB; have HB := n0_; have BK129 := n1_; have GW129 := n2_; have GE129 := n3_; clear n0_ n1_ n2_ n3_; clear hb hbox hg; have hcz35_0 : w34.cell? ⟨gb129, 0, none⟩ = some (.int .u64 a0_0) := (blk_cell BK129.out 0).trans rfl; have hcz35_1 : w34.cell? ⟨gb129, 1, none⟩ = some (.int .u64 a0_1) := (blk_cell BK129.out 1).trans rfl; have hcz35_2 : w34.cell? ⟨gb129, 2, none⟩ = some (.int .u64 a0_2) := (blk_cell BK129.out 2).trans rfl; have hcz35_3 : w34.cell? ⟨gb129, 3, none⟩ = some (.string a0_3) := (blk_cell BK129.out 3).trans rfl; have hcz35_4 : w34.cell? ⟨gb129, 4, none⟩ = some (.string a0_4) := (blk_cell BK129.out 4).trans rfl; have hfz35_0 := blk_frozen BK129.out 0; have hfz35_1 := blk_frozen BK129.out 1; have hfz35_2 := blk_frozen BK129.out 2; have hfz35_3 := blk_frozen BK129.out 3; have hfz35_4 := blk_frozen BK129.out 4) | (go_at_call 79; (with_reducible refine (spec_ValidPre.calls k a0_3 false _ A10.out).mono ?_); rintro e w36 ⟨rfl, hb⟩; have n0_ := Aside0.mk (blk_below (g := gb129) (o := .cells #[.int .u64 a0_0, .int .u64 a0_1, .int .u64 a0_2, .string a0_3, .string a0_4] 29 (0, 0)) (by (with_reducible repeat (first | refine blk_drewN ?_ _ | refine blk_drew ?_ | refine blk_alloc ?_ _)); exact BK129.out) hb); have n1_ := Aside0.mk (below_step (by repeat (first | (with_reducible first | exact HB.out | apply below_alloc | apply pw_below_drewN | apply below_drew1 | refine below_set ?_ GE129.out) | exact HB.out)) hb); clear BK129; clear HB; have BK129 := n0_; have HB := n1_; clear n0_ n1_; (try clear hb); (try clear hb2); (try clear hk); (try clear hi)))
      go_ret
      exact ⟨by first | rfl | (simp [errW_none, errW_some] <;> rfl) | (simp [*, errW_none, errW_some] <;> rfl), by repeat (first | (with_reducible first | exact HB.out | apply below_alloc | apply pw_below_drewN | apply below_drew1 | refine below_set ?_ GE129.out) | exact HB.out)⟩

/-! ### spec_Plain: function 56 -/
def spec_Plain.f (k : Nat) (a0_0 : Int) (a0_1 : Int) (a0_2 : Int) (a0_3 : ByteArray) (a0_4 : ByteArray) : Option (Bool) := (spec_Good.f k a0_0 a0_1 a0_2 a0_3 a0_4).bind fun t135 => (if t135 = true then (if a0_0 < 18446744073709551615 then (if a0_1 < 18446744073709551615 then (if a0_2 < 18446744073709551615 then (if a0_4.toList = ([] : List UInt8) then (some true) else (some (a0_3.toList != ([] : List UInt8)))) else (some false)) else (some false)) else (some false)) else (some false))
theorem spec_Plain.mono : ∀ a0 a1 a2 a3 a4 k, LeO (spec_Plain.f k a0 a1 a2 a3 a4) (spec_Plain.f (k + 1) a0 a1 a2 a3 a4) := by
  intro a0 a1 a2 a3 a4 k
  unfold spec_Plain.f
  repeat' first
      | (with_reducible exact spec_Good.mono _ _ _ _ _ _)
      | (with_reducible exact LeO.refl _)
      | (with_reducible exact LeO.none _)
      | (with_reducible refine LeO.ite ?_ ?_)
      | (with_reducible refine LeO.bind ?_ (fun _ => ?_))
      | exact spec_Good.mono _ _ _ _ _ _
      | exact LeO.none _
      | refine LeO.ite ?_ ?_
      | refine LeO.bind ?_ (fun _ => ?_)
set_option maxHeartbeats 8000000 in
set_option maxRecDepth 100000 in
theorem spec_Plain.calls (k : Nat) (a0_0 : Int) (a0_1 : Int) (a0_2 : Int) (a0_3 : ByteArray) (a0_4 : ByteArray) (r : Bool) (w : World) (h : spec_Plain.f k a0_0 a0_1 a0_2 a0_3 a0_4 = some r) :
    Calls Tryd.prog 56 #[.agg #[.int .u64 a0_0, .int .u64 a0_1, .int .u64 a0_2, .string a0_3, .string a0_4]] w fun e w' => e = .returned (.bool r) ∧ Below w.heap.size w w' := by
  have hu29 := Tryd.underlying29
  have HB := Aside0.mk (Below.refl w.heap.size w)
  have H : ((spec_Good.f k a0_0 a0_1 a0_2 a0_3 a0_4).bind fun t135 => (if t135 = true then (if a0_0 < 18446744073709551615 then (if a0_1 < 18446744073709551615 then (if a0_2 < 18446744073709551615 then (if a0_4.toList = ([] : List UInt8) then (some true) else (some (a0_3.toList != ([] : List UInt8)))) else (some false)) else (some false)) else (some false)) else (some false))) = some r := h
  clear h
  replace H := Option.bind_eq_some_iff.mp H
  obtain ⟨t135, A20, H⟩ := H
  replace H : (if t135 = true then (if a0_0 < 18446744073709551615 then (if a0_1 < 18446744073709551615 then (if a0_2 < 18446744073709551615 then (if a0_4.toList = ([] : List UInt8) then (some true) else (some (a0_3.toList != ([] : List UInt8)))) else (some false)) else (some false)) else (some false)) else (some false)) = some r := H
  have A2 := Aside0.mk A20
  clear A20
  by_cases c3 : t135 = true
  · subst c3
    have H1 : (if a0_0 < 18446744073709551615 then (if a0_1 < 18446744073709551615 then (if a0_2 < 18446744073709551615 then (if a0_4.toList = ([] : List UInt8) then (some true) else (some (a0_3.toList != ([] : List UInt8)))) else (some false)) else (some false)) else (some false)) = some r := by rw [if_pos rfl] at H; exact H
    clear H
    have H := H1
    clear H1
    by_cases c4 : a0_0 < 18446744073709551615
    · rw [if_pos c4] at H
      have c4b0 : decide (a0_0 < 18446744073709551615) = true := decide_eq_true c4
      clear c4
      by_cases c5 : a0_1 < 18446744073709551615
      · rw [if_pos c5] at H
        have c5b0 : decide (a0_1 < 18446744073709551615) = true := decide_eq_true c5
        clear c5
        by_cases c6 : a0_2 < 18446744073709551615
        · rw [if_pos c6] at H
          have c6b0 : decide (a0_2 < 18446744073709551615) = true := decide_eq_true c6
          clear c6
          by_cases c7 : a0_4.toList = ([] : List UInt8)
          · rw [if_pos c7] at H
            have c7b0 : (a0_4.toList == ([] : List UInt8)) = true := beq_iff_eq.mpr c7
            have c7b1 : (a0_4.toList != ([] : List UInt8)) = false := bne_eq_false_iff_eq.mpr c7
            clear c7
            obtain rfl := Option.some.inj H
            go_enter Tryd.func56, Tryd.ntmps56
            go_wp2_with (first | ((with_reducible refine gate_dst (N := 1) rfl ?_); refine box_event ?hg (N := 1) ?hd (cs := #[.int .u64 a0_0, .int .u64 a0_1, .int .u64 a0_2, .string a0_3, .string a0_4]) (t := 29) ?hr ?_; (case hd => rfl); (case hg => rfl); (case hr => first | (go_simp; done) | (go_simp; rfl)); intro gb134 hg w8 hbox hb; have n0_ := Aside0.mk (below_step (by repeat (first | (with_reducible first | exact HB.out | apply below_alloc | apply pw_below_drewN | apply below_drew1) | exact HB.out)) hb); have n1_ := Aside0.mk (hbox); have n2_ := Aside0.mk ((by rw [hg]; exact (below_size (by repeat (first | (with_reducible first | exact HB.out | apply below_alloc | apply pw_below_drewN | apply below_drew1) | exact HB.out))) : w.heap.size ≤ gb134)); have n3_ := Aside0.mk ((by rw [hg]; exact (below_size (by repeat (first | (with_reducible first | exact HB.out | apply below_alloc | apply pw_below_drewN | apply below_drew1) | exact HB.out))) : w.heap.size ≤ gb134)); clear HB; have HB := n0_; have BK134 := n1_; have GW134 := n2_; have GE134 := n3_; clear n0_ n1_ n2_ n3_; clear hb hbox hg; have hcz9_0 : w8.cell? ⟨gb134, 0, none⟩ = some (.int .u64 a0_0) := (blk_cell BK134.out 0).trans rfl; have hcz9_1 : w8.cell? ⟨gb134, 1, none⟩ = some (.int .u64 a0_1) := (blk_cell BK134.out 1).trans rfl; have hcz9_2 : w8.cell? ⟨gb134, 2, none⟩ = some (.int .u64 a0_2) := (blk_cell BK134.out 2).trans rfl; have hcz9_3 : w8.cell? ⟨gb134, 3, none⟩ = some (.string a0_3) := (blk_cell BK134.out 3).trans rfl; have hcz9_4 : w8.cell? ⟨gb134, 4, none⟩ = some (.string a0_4) := (blk_cell BK134.out 4).trans rfl; have hfz9_0 := blk_frozen BK134.out 0; have hfz9_1 := blk_frozen BK134.out 1; have hfz9_2 := blk_frozen BK134.out 2; have hfz9_3 := blk_frozen BK134.out 3; have hfz9_4 := blk_frozen BK134.out 4) | ((with_reducible refine gate_callee (f := 82) rfl ?_); refine goesL_ (some 4) rfl rfl Tryd.func82 (by kernel_rfl) rfl #[.agg #[.int .u64 a0_0, .int .u64 a0_1, .int .u64 a0_2, .string a0_3, .string a0_4]] rfl (by (try simp only [List.map_toArray, List.map_cons, List.map_nil]); first | done | rfl | (simp only [List.length_drop, List.length_take]; rfl)) ?_; (with_reducible refine (spec_Good.calls k a0_0 a0_1 a0_2 a0_3 a0_4 true _ A2.out).mono ?_); rintro e w10 ⟨rfl, hb⟩; refine ⟨_, rfl, ?_⟩; have n0_ := Aside0.mk (blk_below (g := gb134) (o := .cells #[.int .u64 a0_0, .int .u64 a0_1, .int .u64 a0_2, .string a0_3, .string a0_4] 29 (0, 0)) (by (with_reducible repeat (first | refine blk_drewN ?_ _ | refine blk_drew ?_ | refine blk_alloc ?_ _)); exact BK134.out) hb); have n1_ := Aside0.mk (below_step (by repeat (first | (with_reducible first | exact HB.out | apply below_alloc | apply pw_below_drewN | apply below_drew1 | refine below_set ?_ GE134.out) | exact HB.out)) hb); clear BK134; clear HB; have BK134 := n0_; have HB := n1_; clear n0_ n1_; (try clear hb); (try clear hb2); (try clear hk); (try clear hi); have hcz11_0 : w10.cell? ⟨gb134, 0, none⟩ = some (.int .u64 a0_0) := (blk_cell BK134.out 0).trans rfl; have hcz11_1 : w10.cell? ⟨gb134, 1, none⟩ = some (.int .u64 a0_1) := (blk_cell BK134.out 1).trans rfl; have hcz11_2 : w10.cell? ⟨gb134, 2, none⟩ = some (.int .u64 a0_2) := (blk_cell BK134.out 2).trans rfl; have hcz11_3 : w10.cell? ⟨gb134, 3, none⟩ = some (.string a0_3) := (blk_cell BK134.out 3).trans rfl; have hcz11_4 : w10.cell? ⟨gb134, 4, none⟩ = some (.string a0_4) := (blk_cell BK134.out 4).trans rfl; have hfz11_0 := blk_frozen BK134.out 0; have hfz11_1 := blk_frozen BK134.out 1; have hfz11_2 := blk_frozen BK134.out 2; have hfz11_3 := blk_frozen BK134.out 3; have hfz11_4 := blk_frozen BK134.out 4))
            go_ret
            exact ⟨by first | rfl | (simp [errW_none, errW_some] <;> rfl) | (simp [*, errW_none, errW_some] <;> rfl), by repeat (first | (with_reducible first | exact HB.out | apply below_alloc | apply pw_below_drewN | apply below_drew1 | refine below_set ?_ GE134.out) | exact HB.out)⟩
          · rw [if_neg c7] at H
            have c7b0 : (a0_4.toList == ([] : List UInt8)) = false := beq_eq_false_iff_ne.mpr c7
            have c7b1 : (a0_4.toList != ([] : List UInt8)) = true := bne_iff_ne.mpr c7
            obtain rfl := Option.some.inj H
            go_enter Tryd.func56, Tryd.ntmps56
            go_wp2_with (first | ((with_reducible refine gate_dst (N := 1) rfl ?_); refine box_event ?hg (N := 1) ?hd (cs := #[.int .u64 a0_0, .int .u64 a0_1, .int .u64 a0_2, .string a0_3, .string a0_4]) (t := 29) ?hr ?_; (case hd => rfl); (case hg => rfl); (case hr => first | (go_simp; done) | (go_simp; rfl)); intro gb134 hg w12 hbox hb; have n0_ := Aside0.mk (below_step (by repeat (first | (with_reducible first | exact HB.out | apply below_alloc | apply pw_below_drewN | apply below_drew1) | exact HB.out)) hb); have n1_ := Aside0.mk (hbox); have n2_ := Aside0.mk ((by rw [hg]; exact (below_size (by repeat (first | (with_reducible first | exact HB.out | apply below_alloc | apply pw_below_drewN | apply below_drew1) | exact HB.out))) : w.heap.size ≤ gb134)); have n3_ := Aside0.mk ((by rw [hg]; exact (below_size (by repeat (first | (with_reducible first | exact HB.out | apply below_alloc | apply pw_below_drewN | apply below_drew1) | exact HB.out))) : w.heap.size ≤ gb134)); clear HB; have HB := n0_; have BK134 := n1_; have GW134 := n2_; have GE134 := n3_; clear n0_ n1_ n2_ n3_; clear hb hbox hg; have hcz13_0 : w12.cell? ⟨gb134, 0, none⟩ = some (.int .u64 a0_0) := (blk_cell BK134.out 0).trans rfl; have hcz13_1 : w12.cell? ⟨gb134, 1, none⟩ = some (.int .u64 a0_1) := (blk_cell BK134.out 1).trans rfl; have hcz13_2 : w12.cell? ⟨gb134, 2, none⟩ = some (.int .u64 a0_2) := (blk_cell BK134.out 2).trans rfl; have hcz13_3 : w12.cell? ⟨gb134, 3, none⟩ = some (.string a0_3) := (blk_cell BK134.out 3).trans rfl; have hcz13_4 : w12.cell? ⟨gb134, 4, none⟩ = some (.string a0_4) := (blk_cell BK134.out 4).trans rfl; have hfz13_0 := blk_frozen BK134.out 0; have hfz13_1 := blk_frozen BK134.out 1; have hfz13_2 := blk_frozen BK134.out 2; have hfz13_3 := blk_frozen BK134.out 3; have hfz13_4 := blk_frozen BK134.out 4) | ((with_reducible refine gate_callee (f := 82) rfl ?_); refine goesL_ (some 4) rfl rfl Tryd.func82 (by kernel_rfl) rfl #[.agg #[.int .u64 a0_0, .int .u64 a0_1, .int .u64 a0_2, .string a0_3, .string a0_4]] rfl (by (try simp only [List.map_toArray, List.map_cons, List.map_nil]); first | done | rfl | (simp only [List.length_drop, List.length_take]; rfl)) ?_; (with_reducible refine (spec_Good.calls k a0_0 a0_1 a0_2 a0_3 a0_4 true _ A2.out).mono ?_); rintro e w14 ⟨rfl, hb⟩; refine ⟨_, rfl, ?_⟩; have n0_ := Aside0.mk (blk_below (g := gb134) (o := .cells #[.int .u64 a0_0, .int .u64 a0_1, .int .u64 a0_2, .string a0_3, .string a0_4] 29 (0, 0)) (by (with_reducible repeat (first | refine blk_drewN ?_ _ | refine blk_drew ?_ | refine blk_alloc ?_ _)); exact BK134.out) hb); have n1_ := Aside0.mk (below_step (by repeat (first | (with_reducible first | exact HB.out | apply below_alloc | apply pw_below_drewN | apply below_drew1 | refine below_set ?_ GE134.out) | exact HB.out)) hb); clear BK134; clear HB; have BK134 := n0_; have HB := n1_; clear n0_ n1_; (try clear hb); (try clear hb2); (try clear hk); (try clear hi); have hcz15_0 : w14.cell? ⟨gb134, 0, none⟩ = some (.int .u64 a0_0) := (blk_cell BK134.out 0).trans rfl; have hcz15_1 : w14.cell? ⟨gb134, 1, none⟩ = some (.int .u64 a0_1) := (blk_cell BK134.out 1).trans rfl; have hcz15_2 : w14.cell? ⟨gb134, 2, none⟩ = some (.int .u64 a0_2) := (blk_cell BK134.out 2).trans rfl; have hcz15_3 : w14.cell? ⟨gb134, 3, none⟩ = some (.string a0_3) := (blk_cell BK134.out 3).trans rfl; have hcz15_4 : w14.cell? ⟨gb134, 4, none⟩ = some (.string a0_4) := (blk_cell BK134.out 4).trans rfl; have hfz15_0 := blk_frozen BK134.out 0; have hfz15_1 := blk_frozen BK134.out 1; have hfz15_2 := blk_frozen BK134.out 2; have hfz15_3 := blk_frozen BK134.out 3; have hfz15_4 := blk_frozen BK134.out 4))
            go_ret
            exact ⟨by first | rfl | (simp [errW_none, errW_some] <;> rfl) | (simp [*, errW_none, errW_some] <;> rfl) | (simp [errW_none, errW_some] <;> (cases a0_3.toList <;> rfl)), by repeat (first | (with_reducible first | exact HB.out | apply below_alloc | apply pw_below_drewN | apply below_drew1 | refine below_set ?_ GE134.out) | exact HB.out)⟩
        · rw [if_neg c6] at H
          have c6b0 : decide (a0_2 < 18446744073709551615) = false := decide_eq_false c6
          clear c6
          obtain rfl := Option.some.inj H
          go_enter Tryd.func56, Tryd.ntmps56
          go_wp2_with (first | ((with_reducible refine gate_dst (N := 1) rfl ?_); refine box_event ?hg (N := 1) ?hd (cs := #[.int .u64 a0_0, .int .u64 a0_1, .int .u64 a0_2, .string a0_3, .string a0_4]) (t := 29) ?hr ?_; (case hd => rfl); (case hg => rfl); (case hr => first | (go_simp; done) | (go_simp; rfl)); intro gb134 hg w16 hbox hb; have n0_ := Aside0.mk (below_step (by repeat (first | (with_reducible first | exact HB.out | apply below_alloc | apply pw_below_drewN | apply below_drew1) | exact HB.out)) hb); have n1_ := Aside0.mk (hbox); have n2_ := Aside0.mk ((by rw [hg]; exact (below_size (by repeat (first | (with_reducible first | exact HB.out | apply below_alloc | apply pw_below_drewN | apply below_drew1) | exact HB.out))) : w.heap.size ≤ gb134)); have n3_ := Aside0.mk ((by rw [hg]; exact (below_size (by repeat (first | (with_reducible first | exact HB.out | apply below_alloc | apply pw_below_drewN | apply below_drew1) | exact HB.out))) : w.heap.size ≤ gb134)); clear HB; have HB := n0_; have BK134 := n1_; have GW134 := n2_; have GE134 := n3_; clear n0_ n1_ n2_ n3_; clear hb hbox hg; have hcz17_0 : w16.cell? ⟨gb134, 0, none⟩ = some (.int .u64 a0_0) := (blk_cell BK134.out 0).trans rfl; have hcz17_1 : w16.cell? ⟨gb134, 1, none⟩ = some (.int .u64 a0_1) := (blk_cell BK134.out 1).trans rfl; have hcz17_2 : w16.cell? ⟨gb134, 2, none⟩ = some (.int .u64 a0_2) := (blk_cell BK134.out 2).trans rfl; have hcz17_3 : w16.cell? ⟨gb134, 3, none⟩ = some (.string a0_3) := (blk_cell BK134.out 3).trans rfl; have hcz17_4 : w16.cell? ⟨gb134, 4, none⟩ = some (.string a0_4) := (blk_cell BK134.out 4).trans rfl; have hfz17_0 := blk_frozen BK134.out 0; have hfz17_1 := blk_frozen BK134.out 1; have hfz17_2 := blk_frozen BK134.out 2; have hfz17_3 := blk_frozen BK134.out 3; have hfz17_4 := blk_frozen BK134.out 4) | ((with_reducible refine gate_callee (f := 82) rfl ?_); refine goesL_ (some 4) rfl rfl Tryd.func82 (by kernel_rfl) rfl #[.agg #[.int .u64 a0_0, .int .u64 a0_1, .int .u64 a0_2, .string a0_3, .string a0_4]] rfl (by (try simp only [List.map_toArray, List.map_cons, List.map_nil]); first | done | rfl | (simp only [List.length_drop, List.length_take]; rfl)) ?_; (with_reducible refine (spec_Good.calls k a0_0 a0_1 a0_2 a0_3 a0_4 true _ A2.out).mono ?_); rintro e w18 ⟨rfl, hb⟩; refine ⟨_, rfl, ?_⟩; have n0_ := Aside0.mk (blk_below (g := gb134) (o := .cells #[.int .u64 a0_0, .int .u64 a0_1, .int .u64 a0_2, .string a0_3, .string a0_4] 29 (0, 0)) (by (with_reducible repeat (first | refine blk_drewN ?_ _ | refine blk_drew ?_ | refine blk_alloc ?_ _)); exact BK134.out) hb); have n1_ := Aside0.mk (below_step (by repeat (first | (with_reducible first | exact HB.out | apply below_alloc | apply pw_below_drewN | apply below_drew1 | refine below_set ?_ GE134.out) | exact HB.out)) hb); clear BK134; clear HB; have BK134 := n0_; have HB := n1_; clear n0_ n1_; (try clear hb); (try clear hb2); (try clear hk); (try clear hi); have hcz19_0 : w18.cell? ⟨gb134, 0, none⟩ = some (.int .u64 a0_0) := (blk_cell BK134.out 0).trans rfl; have hcz19_1 : w18.cell? ⟨gb134, 1, none⟩ = some (.int .u64 a0_1) := (blk_cell BK134.out 1).trans rfl; have hcz19_2 : w18.cell? ⟨gb134, 2, none⟩ = some (.int .u64 a0_2) := (blk_cell BK134.out 2).trans rfl; have hcz19_3 : w18.cell? ⟨gb134, 3, none⟩ = some (.string a0_3) := (blk_cell BK134.out 3).trans rfl; have hcz19_4 : w18.cell? ⟨gb134, 4, none⟩ = some (.string a0_4) := (blk_cell BK134.out 4).trans rfl; have hfz19_0 := blk_frozen BK134.out 0; have hfz19_1 := blk_frozen BK134.out 1; have hfz19_2 := blk_frozen BK134.out 2; have hfz19_3 := blk_frozen BK134.out 3; have hfz19_4 := blk_frozen BK134.out 4))
          go_ret
          exact ⟨by first | rfl | (simp [errW_none, errW_some] <;> rfl) | (simp [*, errW_none, errW_some] <;> rfl), by repeat (first | (with_reducible first | exact HB.out | apply below_alloc | apply pw_below_drewN | apply below_drew1 | refine below_set ?_ GE134.out) | exact HB.out)⟩
      · rw [if_neg c5] at H
        have c5b0 : decide (a0_1 < 18446744073709551615) = false := decide_eq_false c5
        clear c5
        obtain rfl := Option.some.inj H
        go_enter Tryd.func56, Tryd.ntmps56
        go_wp2_with (first | ((with_reducible refine gate_dst (N := 1) rfl ?_); refine box_event ?hg (N := 1) ?hd (cs := #[.int .u64 a0_0, .int .u64 a0_1, .int .u64 a0_2, .string a0_3, .string a0_4]) (t := 29) ?hr ?_; (case hd => rfl); (case hg => rfl); (case hr => first | (go_simp; done) | (go_simp; rfl)); intro gb134 hg w20 hbox hb; have n0_ := Aside0.mk (below_step (by repeat (first | (with_reducible first | exact HB.out | apply below_alloc | apply pw_below_drewN | apply below_drew1) | exact HB.out)) hb); have n1_ := Aside0.mk (hbox); have n2_ := Aside0.mk ((by rw [hg]; exact (below_size (by repeat (first | (with_reducible first | exact HB.out | apply below_alloc | apply pw_below_drewN | apply below_drew1) | exact HB.out))) : w.heap.size ≤ gb134)); have n3_ := Aside0.mk ((by rw [hg]; exact (below_size (by repeat (first | (with_reducible first | exact HB.out | apply below_alloc | apply pw_below_drewN | apply below_drew1) | exact HB.out))) : w.heap.size ≤ gb134)); clear HB; have HB := n0_; have BK134 := n1_; have GW134 := n2_; have GE134 := n3_; clear n0_ n1_ n2_ n3_; clear hb hbox hg; have hcz21_0 : w20.cell? ⟨gb134, 0, none⟩ = some (.int .u64 a0_0) := (blk_cell BK134.out 0).trans rfl; have hcz21_1 : w20.cell? ⟨gb134, 1, none⟩ = some (.int .u64 a0_1) := (blk_cell BK134.out 1).trans rfl; have hcz21_2 : w20.cell? ⟨gb134, 2, none⟩ = some (.int .u64 a0_2) := (blk_cell BK134.out 2).trans rfl; have hcz21_3 : w20.cell? ⟨gb134, 3, none⟩ = some (.string a0_3) := (blk_cell BK134.out 3).trans rfl; have hcz21_4 : w20.cell? ⟨gb134, 4, none⟩ = some (.string a0_4) := (blk_cell BK134.out 4).trans rfl; have hfz21_0 := blk_frozen BK134.out 0; have hfz21_1 := blk_frozen BK134.out 1; have hfz21_2 := blk_frozen BK134.out 2; have hfz21_3 := blk_frozen BK134.out 3; have hfz21_4 := blk_frozen BK134.out 4) | ((with_reducible refine gate_callee (f := 82) rfl ?_); refine goesL_ (some 4) rfl rfl Tryd.func82 (by kernel_rfl) rfl #[.agg #[.int .u64 a0_0, .int .u64 a0_1, .int .u64 a0_2, .string a0_3, .string a0_4]] rfl (by (try simp only [List.map_toArray, List.map_cons, List.map_nil]); first | done | rfl | (simp only [List.length_drop, List.length_take]; rfl)) ?_; (with_reducible refine (spec_Good.calls k a0_0 a0_1 a0_2 a0_3 a0_4 true _ A2.out).mono ?_); rintro e w22 ⟨rfl, hb⟩; refine ⟨_, rfl, ?_⟩; have n0_ := Aside0.mk (blk_below (g := gb134) (o := .cells #[.int .u64 a0_0, .int .u64 a0_1, .int .u64 a0_2, .string a0_3, .string a0_4] 29 (0, 0)) (by (with_reducible repeat (first | refine blk_drewN ?_ _ | refine blk_drew ?_ | refine blk_alloc ?_ _)); exact BK134.out) hb); have n1_ := Aside0.mk (below_step (by repeat (first | (with_reducible first | exact HB.out | apply below_alloc | apply pw_below_drewN | apply below_drew1 | refine below_set ?_ GE134.out) | exact HB.out)) hb); clear BK134; clear HB; have BK134 := n0_; have HB := n1_; clear n0_ n1_; (try clear hb); (try clear hb2); (try clear hk); (try clear hi); have hcz23_0 : w22.cell? ⟨gb134, 0, none⟩ = some (.int .u64 a0_0) := (blk_cell BK134.out 0).trans rfl; have hcz23_1 : w22.cell? ⟨gb134, 1, none⟩ = some (.int .u64 a0_1) := (blk_cell BK134.out 1).trans rfl; have hcz23_2 : w22.cell? ⟨gb134, 2, none⟩ = some (.int .u64 a0_2) := (blk_cell BK134.out 2).trans rfl; have hcz23_3 : w22.cell? ⟨gb134, 3, none⟩ = some (.string a0_3) := (blk_cell BK134.out 3).trans rfl; have hcz23_4 : w22.cell? ⟨gb134, 4, none⟩ = some (.string a0_4) := (blk_cell BK134.out 4).trans rfl; have hfz23_0 := blk_frozen BK134.out 0; have hfz23_1 := blk_frozen BK134.out 1; have hfz23_2 := blk_frozen BK134.out 2; have hfz23_3 := blk_frozen BK134.out 3; have hfz23_4 := blk_frozen BK134.out 4))
        go_ret
        exact ⟨by first | rfl | (simp [errW_none, errW_some] <;> rfl) | (simp [*, errW_none, errW_some] <;> rfl), by repeat (first | (with_reducible first | exact HB.out | apply below_alloc | apply pw_below_drewN | apply below_drew1 | refine below_set ?_ GE134.out) | exact HB.out)⟩
    · rw [if_neg c4] at H
      have c4b0 : decide (a0_0 < 18446744073709551615) = false := decide_eq_false c4
      clear c4
      obtain rfl := Option.some.inj H
      go_enter Tryd.func56, Tryd.ntmps56
      go_wp2_with (first | ((with_reducible refine gate_dst (N := 1) rfl ?_); refine box_event ?hg (N := 1) ?hd (cs := #[.int .u64 a0_0, .int .u64 a0_1, .int .u64 a0_2, .string a0_3, .string a0_4]) (t := 29) ?hr ?_; (case hd => rfl); (case hg => rfl); (case hr => first | (go_simp; done) | (go_simp; rfl)); intro gb134 hg w24 hbox hb; have n0_ := Aside0.mk (below_step (by repeat (first | (with_reducible first | exact HB.out | apply below_alloc | apply pw_below_drewN | apply below_drew1) | exact HB.out)) hb); have n1_ := Aside0.mk (hbox); have n2_ := Aside0.mk ((by rw [hg]; exact (below_size (by repeat (first | (with_reducible first | exact HB.out | apply below_alloc | apply pw_below_drewN | apply below_drew1) | exact HB.out))) : w.heap.size ≤ gb134)); have n3_ := Aside0.mk ((by rw [hg]; exact (below_size (by repeat (first | (with_reducible first | exact HB.out | apply below_alloc | apply pw_below_drewN | apply below_drew1) | exact HB.out))) : w.heap.size ≤ gb134)); clear HB; have HB := n0_; have BK134 := n1_; have GW134 := n2_; have GE134 := n3_; clear n0_ n1_ n2_ n3_; clear hb hbox hg; have hcz25_0 : w24.cell? ⟨gb134, 0, none⟩ = some (.int .u64 a0_0) := (blk_cell BK134.out 0).trans rfl; have hcz25_1 : w24.cell? ⟨gb134, 1, none⟩ = some (.int .u64 a0_1) := (blk_cell BK134.out 1).trans rfl; have hcz25_2 : w24.cell? ⟨gb134, 2, none⟩ = some (.int .u64 a0_2) := (blk_cell BK134.out 2).trans rfl; have hcz25_3 : w24.cell? ⟨gb134, 3, none⟩ = some (.string a0_3) := (blk_cell BK134.out 3).trans rfl; have hcz25_4 : w24.cell? ⟨gb134, 4, none⟩ = some (.string a0_4) := (blk_cell BK134.out 4).trans rfl; have hfz25_0 := blk_frozen BK134.out 0; have hfz25_1 := blk_frozen BK134.out 1; have hfz25_2 := blk_frozen BK134.out 2; have hfz25_3 := blk_frozen BK134.out 3; have hfz25_4 := blk_frozen BK134.out 4) | ((with_reducible refine gate_callee (f := 82) rfl ?_); refine goesL_ (some 4) rfl rfl Tryd.func82 (by kernel_rfl) rfl #[.agg #[.int .u64 a0_0, .int .u64 a0_1, .int .u64 a0_2, .string a0_3, .string a0_4]] rfl (by (try simp only [List.map_toArray, List.map_cons, List.map_nil]); first | done | rfl | (simp only [List.length_drop, List.length_take]; rfl)) ?_; (with_reducible refine (spec_Good.calls k a0_0 a0_1 a0_2 a0_3 a0_4 true _ A2.out).mono ?_); rintro e w26 ⟨rfl, hb⟩; refine ⟨_, rfl, ?_⟩; have n0_ := Aside0.mk (blk_below (g := gb134) (o := .cells #[.int .u64 a0_0, .int .u64 a0_1, .int .u64 a0_2, .string a0_3, .string a0_4] 29 (0, 0)) (by (with_reducible repeat (first | refine blk_drewN ?_ _ | refine blk_drew ?_ | refine blk_alloc ?_ _)); exact BK134.out) hb); have n1_ := Aside0.mk (below_step (by repeat (first | (with_reducible first | exact HB.out | apply below_alloc | apply pw_below_drewN | apply below_drew1 | refine below_set ?_ GE134.out) | exact HB.out)) hb); clear BK134; clear HB; have BK134 := n0_; have HB := n1_; clear n0_ n1_; (try clear hb); (try clear hb2); (try clear hk); (try clear hi); have hcz27_0 : w26.cell? ⟨gb134, 0, none⟩ = some (.int .u64 a0_0) := (blk_cell BK134.out 0).trans rfl; have hcz27_1 : w26.cell? ⟨gb134, 1, none⟩ = some (.int .u64 a0_1) := (blk_cell BK134.out 1).trans rfl; have hcz27_2 : w26.cell? ⟨gb134, 2, none⟩ = some (.int .u64 a0_2) := (blk_cell BK134.out 2).trans rfl; have hcz27_3 : w26.cell? ⟨gb134, 3, none⟩ = some (.string a0_3) := (blk_cell BK134.out 3).trans rfl; have hcz27_4 : w26.cell? ⟨gb134, 4, none⟩ = some (.string a0_4) := (blk_cell BK134.out 4).trans rfl; have hfz27_0 := blk_frozen BK134.out 0; have hfz27_1 := blk_frozen BK134.out 1; have hfz27_2 := blk_frozen BK134.out 2; have hfz27_3 := blk_frozen BK134.out 3; have hfz27_4 := blk_frozen BK134.out 4))
      go_ret
      exact ⟨by first | rfl | (simp [errW_none, errW_some] <;> rfl) | (simp [*, errW_none, errW_some] <;> rfl), by repeat (first | (with_reducible first | exact HB.out | apply below_alloc | apply pw_below_drewN | apply below_drew1 | refine below_set ?_ GE134.out) | exact HB.out)⟩
  · replace c3 := Bool.eq_false_iff.mpr c3
    subst c3
    have H1 : (some false) = some r := by rw [if_neg (show ¬ (false = true) by decide)] at H; exact H
    clear H
    have H := H1
    clear H1
    obtain rfl := Option.some.inj H
    go_enter Tryd.func56, Tryd.ntmps56
    go_wp2_with (first | ((with_reducible refine gate_dst (N := 1) rfl ?_); refine box_event ?hg (N := 1) ?hd (cs := #[.int .u64 a0_0, .int .u64 a0_1, .int .u64 a0_2, .string a0_3, .string a0_4]) (t := 29) ?hr ?_; (case hd => rfl); (case hg => rfl); (case hr => first | (go_simp; done) | (go_simp; rfl)); intro gb134 hg w28 hbox hb; have n0_ := Aside0.mk (below_step (by repeat (first | (with_reducible first | exact HB.out | apply below_alloc | apply pw_below_drewN | apply below_drew1) | exact HB.out)) hb); have n1_ := Aside0.mk (hbox); have n2_ := Aside0.mk ((by rw [hg]; exact (below_size (by repeat (first | (with_reducible first | exact HB.out | apply below_alloc | apply pw_below_drewN | apply below_drew1) | exact HB.out))) : w.heap.size ≤ gb134)); have n3_ := Aside0.mk ((by rw [hg]; exact (below_size (by repeat (first | (with_reducible first | exact HB.out | apply below_alloc | apply pw_below_drewN | apply below_drew1) | exact HB.out))) : w.heap.size ≤ gb134)); clear HB; have HB := n0_; have BK134 := n1_; have GW134 := n2_; have GE134 := n3_; clear n0_ n1_ n2_ n3_; clear hb hbox hg; have hcz29_0 : w28.cell? ⟨gb134, 0, none⟩ = some (.int .u64 a0_0) := (blk_cell BK134.out 0).trans rfl; have hcz29_1 : w28.cell? ⟨gb134, 1, none⟩ = some (.int .u64 a0_1) := (blk_cell BK134.out 1).trans rfl; have hcz29_2 : w28.cell? ⟨gb134, 2, none⟩ = some (.int .u64 a0_2) := (blk_cell BK134.out 2).trans rfl; have hcz29_3 : w28.cell? ⟨gb134, 3, none⟩ = some (.string a0_3) := (blk_cell BK134.out 3).trans rfl; have hcz29_4 : w28.cell? ⟨gb134, 4, none⟩ = some (.string a0_4) := (blk_cell BK134.out 4).trans rfl; have hfz29_0 := blk_frozen BK134.out 0; have hfz29_1 := blk_frozen BK134.out 1; have hfz29_2 := blk_frozen BK134.out 2; have hfz29_3 := blk_frozen BK134.out 3; have hfz29_4 := blk_frozen BK134.out 4) | ((with_reducible refine gate_callee (f := 82) rfl ?_); refine goesL_ (some 4) rfl rfl Tryd.func82 (by kernel_rfl) rfl #[.agg #[.int .u64 a0_0, .int .u64 a0_1, .int .u64 a0_2, .string a0_3, .string a0_4]] rfl (by (try simp only [List.map_toArray, List.map_cons, List.map_nil]); first | done | rfl | (simp only [List.length_drop, List.length_take]; rfl)) ?_; (with_reducible refine (spec_Good.calls k a0_0 a0_1 a0_2 a0_3 a0_4 false _ A2.out).mono ?_); rintro e w30 ⟨rfl, hb⟩; refine ⟨_, rfl, ?_⟩; have n0_ := Aside0.mk (blk_below (g := gb134) (o := .cells #[.int .u64 a0_0, .int .u64 a0_1, .int .u64 a0_2, .string a0_3, .string a0_4] 29 (0, 0)) (by (with_reducible repeat (first | refine blk_drewN ?_ _ | refine blk_drew ?_ | refine blk_alloc ?_ _)); exact BK134.out) hb); have n1_ := Aside0.mk (below_step (by repeat (first | (with_reducible first | exact HB.out | apply below_alloc | apply pw_below_drewN | apply below_drew1 | refine below_set ?_ GE134.out) | exact HB.out)) hb); clear BK134; clear HB; have BK134 := n0_; have HB := n1_; clear n0_ n1_; (try clear hb); (try clear hb2); (try clear hk); (try clear hi)))
    go_ret
    exact ⟨by first | rfl | (simp [errW_none, errW_some] <;> rfl) | (simp [*, errW_none, errW_some] <;> rfl), by repeat (first | (with_reducible first | exact HB.out | apply below_alloc | apply pw_below_drewN | apply below_drew1 | refine below_set ?_ GE134.out) | exact HB.out)⟩

/-! ### laws_stZero: function 60 -/
def laws_stZero.f (a0_0 : Int) (a0_1 : Int) (a0_2 : Int) (a0_3 : ByteArray) (a0_4 : ByteArray) : Option (Bool) := (Hand.CompareNumbers.f a0_0 a0_1 a0_2 a0_3 a0_4 0 0 0 (⟨#[]⟩ : ByteArray) (⟨#[]⟩ : ByteArray) 3).bind fun t137 => (some (t137 == 0))
set_option maxHeartbeats 8000000 in
set_option maxRecDepth 100000 in
theorem laws_stZero.calls (a0_0 : Int) (a0_1 : Int) (a0_2 : Int) (a0_3 : ByteArray) (a0_4 : ByteArray) (r : Bool) (w : World) (h : laws_stZero.f a0_0 a0_1 a0_2 a0_3 a0_4 = some r) :
    Calls Tryd.prog 60 #[.agg #[.int .u64 a0_0, .int .u64 a0_1, .int .u64 a0_2, .string a0_3, .string a0_4]] w fun e w' => e = .returned (.bool r) ∧ Below w.heap.size w w' := by
  have hu29 := Tryd.underlying29
  have HB := Aside0.mk (Below.refl w.heap.size w)
  have H : ((Hand.CompareNumbers.f a0_0 a0_1 a0_2 a0_3 a0_4 0 0 0 (⟨#[]⟩ : ByteArray) (⟨#[]⟩ : ByteArray) 3).bind fun t137 => (some (t137 == 0))) = some r := h
  clear h
  replace H := Option.bind_eq_some_iff.mp H
  obtain ⟨t137, A20, H⟩ := H
  replace H : (some (t137 == 0)) = some r := H
  have A2 := Aside0.mk A20
  clear A20
  obtain rfl := Option.some.inj H
  go_enter Tryd.func60, Tryd.ntmps60
  go_wp2_with (first | ((with_reducible refine gate_dst (N := 1) rfl ?_); refine box_event ?hg (N := 1) ?hd (cs := #[.int .u64 a0_0, .int .u64 a0_1, .int .u64 a0_2, .string a0_3, .string a0_4]) (t := 29) ?hr ?_; (case hd => rfl); (case hg => rfl); (case hr => first | (go_simp; done) | (go_simp; rfl)); intro gb136 hg w3 hbox hb; have n0_ := Aside0.mk (below_step (by repeat (first | (with_reducible first | exact HB.out | apply below_alloc | apply pw_below_drewN | apply below_drew1) | exact HB.out)) hb); have n1_ := Aside0.mk (hbox); have n2_ := Aside0.mk ((by rw [hg]; exact (below_size (by repeat (first | (with_reducible first | exact HB.out | apply below_alloc | apply pw_below_drewN | apply below_drew1) | exact HB.out))) : w.heap.size ≤ gb136)); have n3_ := Aside0.mk ((by rw [hg]; exact (below_size (by repeat (first | (with_reducible first | exact HB.out | apply below_alloc | apply pw_below_drewN | apply below_drew1) | exact HB.out))) : w.heap.size ≤ gb136)); clear HB; have HB := n0_; have BK136 := n1_; have GW136 := n2_; have GE136 := n3_; clear n0_ n1_ n2_ n3_; clear hb hbox hg; have hcz4_0 : w3.cell? ⟨gb136, 0, none⟩ = some (.int .u64 a0_0) := (blk_cell BK136.out 0).trans rfl; have hcz4_1 : w3.cell? ⟨gb136, 1, none⟩ = some (.int .u64 a0_1) := (blk_cell BK136.out 1).trans rfl; have hcz4_2 : w3.cell? ⟨gb136, 2, none⟩ = some (.int .u64 a0_2) := (blk_cell BK136.out 2).trans rfl; have hcz4_3 : w3.cell? ⟨gb136, 3, none⟩ = some (.string a0_3) := (blk_cell BK136.out 3).trans rfl; have hcz4_4 : w3.cell? ⟨gb136, 4, none⟩ = some (.string a0_4) := (blk_cell BK136.out 4).trans rfl; have hfz4_0 := blk_frozen BK136.out 0; have hfz4_1 := blk_frozen BK136.out 1; have hfz4_2 := blk_frozen BK136.out 2; have hfz4_3 := blk_frozen BK136.out 3; have hfz4_4 := blk_frozen BK136.out 4) | ((with_reducible refine gate_callee (f := 111) rfl ?_); refine goesL_ (some 5) rfl rfl Tryd.func111 (by kernel_rfl) rfl #[.agg #[.int .u64 a0_0, .int .u64 a0_1, .int .u64 a0_2, .string a0_3, .string a0_4], .agg #[.int .u64 0, .int .u64 0, .int .u64 0, .string (⟨#[]⟩ : ByteArray), .string (⟨#[]⟩ : ByteArray)], .int .i64 3] rfl (by (try simp only [List.map_toArray, List.map_cons, List.map_nil]); first | done | rfl | (simp only [List.length_drop, List.length_take]; rfl)) ?_; (with_reducible refine (Hand.CompareNumbers.calls a0_0 a0_1 a0_2 a0_3 a0_4 0 0 0 (⟨#[]⟩ : ByteArray) (⟨#[]⟩ : ByteArray) 3 t137 _ A2.out).mono ?_); rintro e w5 ⟨rfl, hb⟩; refine ⟨_, rfl, ?_⟩; have n0_ := Aside0.mk (blk_below (g := gb136) (o := .cells #[.int .u64 a0_0, .int .u64 a0_1, .int .u64 a0_2, .string a0_3, .string a0_4] 29 (0, 0)) (by (with_reducible repeat (first | refine blk_drewN ?_ _ | refine blk_drew ?_ | refine blk_alloc ?_ _)); exact BK136.out) hb); have n1_ := Aside0.mk (below_step (by repeat (first | (with_reducible first | exact HB.out | apply below_alloc | apply pw_below_drewN | apply below_drew1 | refine below_set ?_ GE136.out) | exact HB.out)) hb); clear BK136; clear HB; have BK136 := n0_; have HB := n1_; clear n0_ n1_; (try clear hb); (try clear hb2); (try clear hk); (try clear hi)))
  go_ret
  exact ⟨by first | rfl | (simp [errW_none, errW_some] <;> rfl) | (simp [*, errW_none, errW_some] <;> rfl), by repeat (first | (with_reducible first | exact HB.out | apply below_alloc | apply pw_below_drewN | apply below_drew1 | refine below_set ?_ GE136.out) | exact HB.out)⟩

/-! ### laws_stHolds: function 61 -/
def laws_stHolds.f (a0 : Int) (a1_0 : Int) (a1_1 : Int) (a1_2 : Int) (a1_3 : ByteArray) (a1_4 : ByteArray) (a2 : Int) (a3_0 : Int) (a3_1 : Int) (a3_2 : Int) (a3_3 : ByteArray) (a3_4 : ByteArray) : Option (Bool) := (Hand.stTerm.f a0 a1_0 a1_1 a1_2 a1_3 a1_4 a2).bind fun bt140 => ((Hand.TermHolds.f bt140.1 bt140.2.1 bt140.2.2.1 bt140.2.2.2.1 bt140.2.2.2.2.1 bt140.2.2.2.2.2 a3_0 a3_1 a3_2 a3_3 a3_4 true).bind fun t146 => (some t146))
set_option maxHeartbeats 8000000 in
set_option maxRecDepth 100000 in
theorem laws_stHolds.calls (a0 : Int) (a1_0 : Int) (a1_1 : Int) (a1_2 : Int) (a1_3 : ByteArray) (a1_4 : ByteArray) (a2 : Int) (a3_0 : Int) (a3_1 : Int) (a3_2 : Int) (a3_3 : ByteArray) (a3_4 : ByteArray) (r : Bool) (w : World) (hG0 : Hand.Gl w) (h : laws_stHolds.f a0 a1_0 a1_1 a1_2 a1_3 a1_4 a2 a3_0 a3_1 a3_2 a3_3 a3_4 = some r) :
    Calls Tryd.prog 61 #[.int .i64 a0, .agg #[.int .u64 a1_0, .int .u64 a1_1, .int .u64 a1_2, .string a1_3, .string a1_4], .int .i64 a2, .agg #[.int .u64 a3_0, .int .u64 a3_1, .int .u64 a3_2, .string a3_3, .string a3_4]] w fun e w' => e = .returned (.bool r) ∧ Below w.heap.size w w' := by
  have HG := Aside0.mk hG0
  clear hG0
  have hu29 := Tryd.underlying29
  have HB := Aside0.mk (Below.refl w.heap.size w)
  have H : ((Hand.stTerm.f a0 a1_0 a1_1 a1_2 a1_3 a1_4 a2).bind fun bt140 => ((Hand.TermHolds.f bt140.1 bt140.2.1 bt140.2.2.1 bt140.2.2.2.1 bt140.2.2.2.2.1 bt140.2.2.2.2.2 a3_0 a3_1 a3_2 a3_3 a3_4 true).bind fun t146 => (some t146))) = some r := h
  clear h
  replace H := Option.bind_eq_some_iff.mp H
  obtain ⟨⟨t140, t141, t142, t143, t144, t145⟩, A50, H⟩ := H
  replace H : ((Hand.TermHolds.f t140 t141 t142 t143 t144 t145 a3_0 a3_1 a3_2 a3_3 a3_4 true).bind fun t146 => (some t146)) = some r := H
  have A5 := Aside0.mk A50
  clear A50
  replace H := Option.bind_eq_some_iff.mp H
  obtain ⟨t146, A60, H⟩ := H
  replace H : (some t146) = some r := H
  have A6 := Aside0.mk A60
  clear A60
  obtain rfl := Option.some.inj H
  go_enter Tryd.func61, Tryd.ntmps61
  try go_wp2_with (first | ((with_reducible refine gate_dst (N := 5) rfl ?_); refine box_event ?hg (N := 5) ?hd (cs := #[.int .u64 a1_0, .int .u64 a1_1, .int .u64 a1_2, .string a1_3, .string a1_4]) (t := 29) ?hr ?_; (case hd => rfl); (case hg => rfl); (case hr => first | (go_simp; done) | (go_simp; rfl)); intro gb138 hg w7 hbox hb; have n0_ := Aside0.mk (below_step (by repeat (first | (with_reducible first | exact HB.out | apply below_alloc | apply pw_below_drewN | apply below_drew1) | exact HB.out)) hb); have n1_ := Aside0.mk (hbox); have n2_ := Aside0.mk ((by rw [hg]; exact (below_size (by repeat (first | (with_reducible first | exact HB.out | apply below_alloc | apply pw_below_drewN | apply below_drew1) | exact HB.out))) : w.heap.size ≤ gb138)); have n3_ := Aside0.mk ((by rw [hg]; exact (below_size (by repeat (first | (with_reducible first | exact HB.out | apply below_alloc | apply pw_below_drewN | apply below_drew1) | exact HB.out))) : w.heap.size ≤ gb138)); clear HB; have HB := n0_; have BK138 := n1_; have GW138 := n2_; have GE138 := n3_; clear n0_ n1_ n2_ n3_; clear hb hbox hg) | ((with_reducible refine gate_dst (N := 7) rfl ?_); refine box_event ?hg (N := 7) ?hd (cs := #[.int .u64 a3_0, .int .u64 a3_1, .int .u64 a3_2, .string a3_3, .string a3_4]) (t := 29) ?hr ?_; (case hd => rfl); (case hg => rfl); (case hr => first | (go_simp; done) | (go_simp; rfl)); intro gb139 hg w8 hbox hb; have n0_ := Aside0.mk (blk_below (g := gb138) (o := .cells #[.int .u64 a1_0, .int .u64 a1_1, .int .u64 a1_2, .string a1_3, .string a1_4] 29 (0, 0)) (by (with_reducible repeat (first | refine blk_drewN ?_ _ | refine blk_drew ?_ | refine blk_alloc ?_ _)); exact BK138.out) hb); have n1_ := Aside0.mk (below_step (by repeat (first | (with_reducible first | exact HB.out | apply below_alloc | apply pw_below_drewN | apply below_drew1 | refine below_set ?_ GE138.out) | exact HB.out)) hb); have n2_ := Aside0.mk (hbox); have n3_ := Aside0.mk ((by rw [hg]; exact (below_size (by repeat (first | (with_reducible first | exact HB.out | apply below_alloc | apply pw_below_drewN | apply below_drew1 | refine below_set ?_ GE138.out) | exact HB.out))) : w.heap.size ≤ gb139)); have n4_ := Aside0.mk ((by rw [hg]; exact (below_size (by repeat (first | (with_reducible first | exact HB.out | apply below_alloc | apply pw_below_drewN | apply below_drew1 | refine below_set ?_ GE138.out) | exact HB.out))) : w.heap.size ≤ gb139)); have n5_ := Aside0.mk ((by rw [hg]; exact Nat.ne_of_lt (blk_lt (g := gb138) (o := .cells #[.int .u64 a1_0, .int .u64 a1_1, .int .u64 a1_2, .string a1_3, .string a1_4] 29 (0, 0)) (by (with_reducible repeat (first | refine blk_drewN ?_ _ | refine blk_drew ?_ | refine blk_alloc ?_ _)); exact BK138.out)) : gb138 ≠ gb139)); have n6_ := Aside0.mk ((by rw [hg]; exact Nat.ne_of_gt (blk_lt (g := gb138) (o := .cells #[.int .u64 a1_0, .int .u64 a1_1, .int .u64 a1_2, .string a1_3, .string a1_4] 29 (0, 0)) (by (with_reducible repeat (first | refine blk_drewN ?_ _ | refine blk_drew ?_ | refine blk_alloc ?_ _)); exact BK138.out)) : gb139 ≠ gb138)); clear BK138; clear HB; have BK138 := n0_; have HB := n1_; have BK139 := n2_; have GW139 := n3_; have GE139 := n4_; have NB138_139 := n5_; have NB139_138 := n6_; clear n0_ n1_ n2_ n3_ n4_ n5_ n6_; clear hb hbox hg))
  have n0_ := Aside0.mk (blk_drew BK138.out)
  have n1_ := Aside0.mk (blk_drew BK139.out)
  have n2_ := Aside0.mk (below_drew1 HB.out)
  clear BK138
  clear BK139
  clear HB
  have BK138 := n0_
  have BK139 := n1_
  have HB := n2_
  clear n0_ n1_ n2_
  refine start_ (n := 7) (S := fun w' => w'.cell? ⟨gb138, 0, none⟩ = some (.int .u64 a1_0) ∧ w'.cell? ⟨gb138, 1, none⟩ = some (.int .u64 a1_1) ∧ w'.cell? ⟨gb138, 2, none⟩ = some (.int .u64 a1_2) ∧ w'.cell? ⟨gb138, 3, none⟩ = some (.string a1_3) ∧ w'.cell? ⟨gb138, 4, none⟩ = some (.string a1_4) ∧ w'.cell? ⟨gb139, 0, none⟩ = some (.int .u64 a3_0) ∧ w'.cell? ⟨gb139, 1, none⟩ = some (.int .u64 a3_1) ∧ w'.cell? ⟨gb139, 2, none⟩ = some (.int .u64 a3_2) ∧ w'.cell? ⟨gb139, 3, none⟩ = some (.string a3_3) ∧ w'.cell? ⟨gb139, 4, none⟩ = some (.string a3_4)) (ds := []) #[false, false, false, false, false, false, false] (by kernel_rfl) rfl rfl ⟨(blk_cell BK138.out 0).trans rfl, (blk_cell BK138.out 1).trans rfl, (blk_cell BK138.out 2).trans rfl, (blk_cell BK138.out 3).trans rfl, (blk_cell BK138.out 4).trans rfl, (blk_cell BK139.out 0).trans rfl, (blk_cell BK139.out 1).trans rfl, (blk_cell BK139.out 2).trans rfl, (blk_cell BK139.out 3).trans rfl, (blk_cell BK139.out 4).trans rfl⟩ (fun hHeld => ?_)
  generalize w8.drew = w9 at BK138 BK139 HB hHeld ⊢
  refine pure_ (i := 0) (N := some 9) (v := ?_) (a' := ?_) #[true, false, false, false, false, false, false] rfl rfl (by kernel_rfl) (fun _ _ _ h => h) (Or.inl ⟨by rfl, ?_⟩) ?_ ?_
  rotate_left
  · intro w'
    go_simp
    with_reducible rfl
  rotate_left
  · simp only [Act.put, List.setIfInBounds_toArray, List.set_cons_zero, List.set_cons_succ, i64_w, i32_w]
    rfl
  refine pure_ (i := 2) (N := some 11) (v := ?_) (a' := ?_) #[true, false, true, false, false, false, false] rfl rfl (by kernel_rfl) (fun _ _ _ h => h) (Or.inl ⟨by rfl, ?_⟩) ?_ ?_
  rotate_left
  · intro w'
    go_simp
    with_reducible rfl
  rotate_left
  · simp only [Act.put, List.setIfInBounds_toArray, List.set_cons_zero, List.set_cons_succ, i64_w, i32_w]
    rfl
  refine take_ (i := 1) (N := some 10) (v := ?_) (a' := ?_) #[true, true, true, false, false, false, false] rfl rfl (by kernel_rfl) (fun _ _ _ h => h) (Or.inl ⟨by rfl, ?_⟩) hHeld ?_ ?_
  rotate_left
  · rintro w' ⟨s0, s1, s2, s3, s4, s5, s6, s7, s8, s9⟩
    go_simp
    with_reducible rfl
  rotate_left
  · simp only [Act.put, List.setIfInBounds_toArray, List.set_cons_zero, List.set_cons_succ, i64_w, i32_w]
    rfl
  refine take_ (i := 4) (N := some 13) (v := ?_) (a' := ?_) #[true, true, true, false, true, false, false] rfl rfl (by kernel_rfl) (fun _ _ _ h => h) (Or.inl ⟨by rfl, ?_⟩) hHeld ?_ ?_
  rotate_left
  · rintro w' ⟨s0, s1, s2, s3, s4, s5, s6, s7, s8, s9⟩
    go_simp
    with_reducible rfl
  rotate_left
  · simp only [Act.put, List.setIfInBounds_toArray, List.set_cons_zero, List.set_cons_succ, i64_w, i32_w]
    rfl
  refine one_ (i := 3) (N := some 12) #[true, true, true, true, true, false, false] rfl rfl (by kernel_rfl) (by decide) (fun K hK => ?_)
  refine goes_ Tryd.func40 (by kernel_rfl) rfl #[.int .i64 a0, .agg #[.int .u64 a1_0, .int .u64 a1_1, .int .u64 a1_2, .string a1_3, .string a1_4], .int .i64 a2] (by rfl) rfl rfl (by (try simp only [List.map_toArray, List.map_cons, List.map_nil]); first | done | rfl | (simp only [List.length_drop, List.length_take]; rfl)) ?_
  with_reducible refine (Hand.stTerm.calls a0 a1_0 a1_1 a1_2 a1_3 a1_4 a2 t140 t141 t142 t143 t144 t145 _ A5.out).mono ?_
  rintro e w10 ⟨rfl, hb⟩
  refine ⟨_, rfl, ?_⟩
  have n0_ := Aside0.mk (blk_below (g := gb138) (o := .cells #[.int .u64 a1_0, .int .u64 a1_1, .int .u64 a1_2, .string a1_3, .string a1_4] 29 (0, 0)) (by (with_reducible repeat (first | refine blk_drewN ?_ _ | refine blk_drew ?_ | refine blk_alloc ?_ _)); exact BK138.out) hb)
  have n1_ := Aside0.mk (blk_below (g := gb139) (o := .cells #[.int .u64 a3_0, .int .u64 a3_1, .int .u64 a3_2, .string a3_3, .string a3_4] 29 (0, 0)) (by (with_reducible repeat (first | refine blk_drewN ?_ _ | refine blk_drew ?_ | refine blk_alloc ?_ _)); exact BK139.out) hb)
  have n2_ := Aside0.mk (below_step (by repeat (first | (with_reducible first | exact HB.out | apply below_alloc | apply pw_below_drewN | apply below_drew1 | refine below_set ?_ GE138.out | refine below_set ?_ GE139.out) | exact HB.out)) hb)
  clear BK138
  clear BK139
  clear HB
  have BK138 := n0_
  have BK139 := n1_
  have HB := n2_
  clear n0_ n1_ n2_
  (try clear hb)
  (try clear hb2)
  (try clear hk)
  (try clear hi)
  refine hK.out _ _ ⟨(blk_cell BK138.out 0).trans rfl, (blk_cell BK138.out 1).trans rfl, (blk_cell BK138.out 2).trans rfl, (blk_cell BK138.out 3).trans rfl, (blk_cell BK138.out 4).trans rfl, (blk_cell BK139.out 0).trans rfl, (blk_cell BK139.out 1).trans rfl, (blk_cell BK139.out 2).trans rfl, (blk_cell BK139.out 3).trans rfl, (blk_cell BK139.out 4).trans rfl⟩ (fun hHeld => ?_)
  clear hK K
  refine norm_ (a' := ?_) ?_ ?_
  rotate_left
  · show Act.put _ (some 12) _ = _
    simp only [Act.put, List.setIfInBounds_toArray, List.set_cons_zero, List.set_cons_succ, i64_w, i32_w]
    rfl
  refine one_ (i := 5) (N := some 14) #[true, true, true, true, true, true, false] rfl rfl (by kernel_rfl) (by decide) (fun K hK => ?_)
  refine goes_ Tryd.func65 (by kernel_rfl) rfl #[.agg #[.int .i64 t140, .int .i64 t141, .int .u64 t142, .int .u64 t143, .int .u64 t144, .string t145], .agg #[.int .u64 a3_0, .int .u64 a3_1, .int .u64 a3_2, .string a3_3, .string a3_4], .bool true] (by rfl) rfl rfl (by (try simp only [List.map_toArray, List.map_cons, List.map_nil]); first | done | rfl | (simp only [List.length_drop, List.length_take]; rfl)) ?_
  with_reducible refine (Hand.TermHolds.calls t140 t141 t142 t143 t144 t145 a3_0 a3_1 a3_2 a3_3 a3_4 true t146 _ ?gl1 A6.out).mono ?_
  case gl1 => (first | exact HG.out | exact Hand.Gl.below HG.out (by repeat (first | (with_reducible first | exact HB.out | apply below_alloc | apply pw_below_drewN | apply below_drew1) | exact HB.out)))
  rintro e w11 ⟨rfl, hb⟩
  refine ⟨_, rfl, ?_⟩
  have n0_ := Aside0.mk (blk_below (g := gb138) (o := .cells #[.int .u64 a1_0, .int .u64 a1_1, .int .u64 a1_2, .string a1_3, .string a1_4] 29 (0, 0)) (by (with_reducible repeat (first | refine blk_drewN ?_ _ | refine blk_drew ?_ | refine blk_alloc ?_ _)); exact BK138.out) hb)
  have n1_ := Aside0.mk (blk_below (g := gb139) (o := .cells #[.int .u64 a3_0, .int .u64 a3_1, .int .u64 a3_2, .string a3_3, .string a3_4] 29 (0, 0)) (by (with_reducible repeat (first | refine blk_drewN ?_ _ | refine blk_drew ?_ | refine blk_alloc ?_ _)); exact BK139.out) hb)
  have n2_ := Aside0.mk (below_step (by repeat (first | (with_reducible first | exact HB.out | apply below_alloc | apply pw_below_drewN | apply below_drew1 | refine below_set ?_ GE138.out | refine below_set ?_ GE139.out) | exact HB.out)) hb)
  clear BK138
  clear BK139
  clear HB
  have BK138 := n0_
  have BK139 := n1_
  have HB := n2_
  clear n0_ n1_ n2_
  (try clear hb)
  (try clear hb2)
  (try clear hk)
  (try clear hi)
  refine hK.out _ _ ⟨(blk_cell BK138.out 0).trans rfl, (blk_cell BK138.out 1).trans rfl, (blk_cell BK138.out 2).trans rfl, (blk_cell BK138.out 3).trans rfl, (blk_cell BK138.out 4).trans rfl, (blk_cell BK139.out 0).trans rfl, (blk_cell BK139.out 1).trans rfl, (blk_cell BK139.out 2).trans rfl, (blk_cell BK139.out 3).trans rfl, (blk_cell BK139.out 4).trans rfl⟩ (fun hHeld => ?_)
  clear hK K
  refine norm_ (a' := ?_) ?_ ?_
  rotate_left
  · show Act.put _ (some 14) _ = _
    simp only [Act.put, List.setIfInBounds_toArray, List.set_cons_zero, List.set_cons_succ, i64_w, i32_w]
    rfl
  refine pure_ (i := 6) (N := some 8) (v := ?_) (a' := ?_) #[true, true, true, true, true, true, true] rfl rfl (by kernel_rfl) (fun _ _ _ h => h) (Or.inl ⟨by rfl, ?_⟩) ?_ ?_
  rotate_left
  · intro w'
    go_simp
    with_reducible rfl
  rotate_left
  · simp only [Act.put, List.setIfInBounds_toArray, List.set_cons_zero, List.set_cons_succ, i64_w, i32_w]
    rfl
  refine done_ (by kernel_rfl) ?_
  try go_wp2
  go_ret
  exact ⟨by first | rfl | (simp [errW_none, errW_some] <;> rfl) | (simp [*, errW_none, errW_some] <;> rfl), by repeat (first | (with_reducible first | exact HB.out | apply below_alloc | apply pw_below_drewN | apply below_drew1 | refine below_set ?_ GE138.out | refine below_set ?_ GE139.out) | exact HB.out)⟩

/-! ### spec_IncMinor: function 62 -/
def spec_IncMinor.f (a0_0 : Int) (a0_1 : Int) (a0_2 : Int) (a0_3 : ByteArray) (a0_4 : ByteArray) : Option (Int × Int × Int × ByteArray × ByteArray) := some (a0_0, IntKind.u64.wrap (a0_1 + 1), 0, (⟨#[]⟩ : ByteArray), (⟨#[]⟩ : ByteArray))
set_option maxHeartbeats 8000000 in
set_option maxRecDepth 100000 in
theorem spec_IncMinor.calls (a0_0 : Int) (a0_1 : Int) (a0_2 : Int) (a0_3 : ByteArray) (a0_4 : ByteArray) (r1 : Int) (r2 : Int) (r3 : Int) (r4 : ByteArray) (r5 : ByteArray) (w : World) (h : spec_IncMinor.f a0_0 a0_1 a0_2 a0_3 a0_4 = some (r1, r2, r3, r4, r5)) :
    Calls Tryd.prog 62 #[.agg #[.int .u64 a0_0, .int .u64 a0_1, .int .u64 a0_2, .string a0_3, .string a0_4]] w fun e w' => e = .returned (.agg #[.int .u64 r1, .int .u64 r2, .int .u64 r3, .string r4, .string r5]) ∧ Below w.heap.size w w' := by
  have hu29 := Tryd.underlying29
  have HB := Aside0.mk (Below.refl w.heap.size w)
  have H : (some (a0_0, IntKind.u64.wrap (a0_1 + 1), 0, (⟨#[]⟩ : ByteArray), (⟨#[]⟩ : ByteArray))) = some (r1, r2, r3, r4, r5) := h
  clear h
  simp only [Option.some.injEq, Prod.mk.injEq] at H
  obtain ⟨rfl, rfl, rfl, rfl, rfl⟩ := H
  go_enter Tryd.func62, Tryd.ntmps62
  go_wp2_with (first | ((with_reducible refine gate_dst (N := 1) rfl ?_); refine box_event ?hg (N := 1) ?hd (cs := #[.int .u64 a0_0, .int .u64 a0_1, .int .u64 a0_2, .string a0_3, .string a0_4]) (t := 29) ?hr ?_; (case hd => rfl); (case hg => rfl); (case hr => first | (go_simp; done) | (go_simp; rfl)); intro gb147 hg w2 hbox hb; have n0_ := Aside0.mk (below_step (by repeat (first | (with_reducible first | exact HB.out | apply below_alloc | apply pw_below_drewN | apply below_drew1) | exact HB.out)) hb); have n1_ := Aside0.mk (hbox); have n2_ := Aside0.mk ((by rw [hg]; exact (below_size (by repeat (first | (with_reducible first | exact HB.out | apply below_alloc | apply pw_below_drewN | apply below_drew1) | exact HB.out))) : w.heap.size ≤ gb147)); have n3_ := Aside0.mk ((by rw [hg]; exact (below_size (by repeat (first | (with_reducible first | exact HB.out | apply below_alloc | apply pw_below_drewN | apply below_drew1) | exact HB.out))) : w.heap.size ≤ gb147)); clear HB; have HB := n0_; have BK147 := n1_; have GW147 := n2_; have GE147 := n3_; clear n0_ n1_ n2_ n3_; clear hb hbox hg) | ((with_reducible refine gate_dst (N := 2) rfl ?_); refine box_event ?hg (N := 2) ?hd (cs := #[.int .u64 0, .int .u64 0, .int .u64 0, .string (⟨#[]⟩ : ByteArray), .string (⟨#[]⟩ : ByteArray)]) (t := 29) ?hr ?_; (case hd => rfl); (case hg => rfl); (case hr => first | (go_simp; done) | (go_simp; rfl)); intro gb148 hg w3 hbox hb; have n0_ := Aside0.mk (blk_below (g := gb147) (o := .cells #[.int .u64 a0_0, .int .u64 a0_1, .int .u64 a0_2, .string a0_3, .string a0_4] 29 (0, 0)) (by (with_reducible repeat (first | refine blk_drewN ?_ _ | refine blk_drew ?_ | refine blk_alloc ?_ _)); exact BK147.out) hb); have n1_ := Aside0.mk (below_step (by repeat (first | (with_reducible first | exact HB.out | apply below_alloc | apply pw_below_drewN | apply below_drew1 | refine below_set ?_ GE147.out) | exact HB.out)) hb); have n2_ := Aside0.mk (hbox); have n3_ := Aside0.mk ((by rw [hg]; exact (below_size (by repeat (first | (with_reducible first | exact HB.out | apply below_alloc | apply pw_below_drewN | apply below_drew1 | refine below_set ?_ GE147.out) | exact HB.out))) : w.heap.size ≤ gb148)); have n4_ := Aside0.mk ((by rw [hg]; exact (below_size (by repeat (first | (with_reducible first | exact HB.out | apply below_alloc | apply pw_below_drewN | apply below_drew1 | refine below_set ?_ GE147.out) | exact HB.out))) : w.heap.size ≤ gb148)); have n5_ := Aside0.mk ((by rw [hg]; exact Nat.ne_of_lt (blk_lt (g := gb147) (o := .cells #[.int .u64 a0_0, .int .u64 a0_1, .int .u64 a0_2, .string a0_3, .string a0_4] 29 (0, 0)) (by (with_reducible repeat (first | refine blk_drewN ?_ _ | refine blk_drew ?_ | refine blk_alloc ?_ _)); exact BK147.out)) : gb147 ≠ gb148)); have n6_ := Aside0.mk ((by rw [hg]; exact Nat.ne_of_gt (blk_lt (g := gb147) (o := .cells #[.int .u64 a0_0, .int .u64 a0_1, .int .u64 a0_2, .string a0_3, .string a0_4] 29 (0, 0)) (by (with_reducible repeat (first | refine blk_drewN ?_ _ | refine blk_drew ?_ | refine blk_alloc ?_ _)); exact BK147.out)) : gb148 ≠ gb147)); clear BK147; clear HB; have BK147 := n0_; have HB := n1_; have BK148 := n2_; have GW148 := n3_; have GE148 := n4_; have NB147_148 := n5_; have NB148_147 := n6_; clear n0_ n1_ n2_ n3_ n4_ n5_ n6_; clear hb hbox hg; have hnb4 := NB147_148.out; have hnc4 := NB148_147.out; have hcz5_0 : w3.cell? ⟨gb147, 0, none⟩ = some (.int .u64 a0_0) := (blk_cell BK147.out 0).trans rfl; have hcz5_1 : w3.cell? ⟨gb147, 1, none⟩ = some (.int .u64 a0_1) := (blk_cell BK147.out 1).trans rfl; have hcz5_2 : w3.cell? ⟨gb147, 2, none⟩ = some (.int .u64 a0_2) := (blk_cell BK147.out 2).trans rfl; have hcz5_3 : w3.cell? ⟨gb147, 3, none⟩ = some (.string a0_3) := (blk_cell BK147.out 3).trans rfl; have hcz5_4 : w3.cell? ⟨gb147, 4, none⟩ = some (.string a0_4) := (blk_cell BK147.out 4).trans rfl; have hfz5_0 := blk_frozen BK147.out 0; have hfz5_1 := blk_frozen BK147.out 1; have hfz5_2 := blk_frozen BK147.out 2; have hfz5_3 := blk_frozen BK147.out 3; have hfz5_4 := blk_frozen BK147.out 4; have hcz6_0 : w3.cell? ⟨gb148, 0, none⟩ = some (.int .u64 0) := (blk_cell BK148.out 0).trans rfl; have hcz6_1 : w3.cell? ⟨gb148, 1, none⟩ = some (.int .u64 0) := (blk_cell BK148.out 1).trans rfl; have hcz6_2 : w3.cell? ⟨gb148, 2, none⟩ = some (.int .u64 0) := (blk_cell BK148.out 2).trans rfl; have hcz6_3 : w3.cell? ⟨gb148, 3, none⟩ = some (.string (⟨#[]⟩ : ByteArray)) := (blk_cell BK148.out 3).trans rfl; have hcz6_4 : w3.cell? ⟨gb148, 4, none⟩ = some (.string (⟨#[]⟩ : ByteArray)) := (blk_cell BK148.out 4).trans rfl; have hfz6_0 := blk_frozen BK148.out 0; have hfz6_1 := blk_frozen BK148.out 1; have hfz6_2 := blk_frozen BK148.out 2; have hfz6_3 := blk_frozen BK148.out 3; have hfz6_4 := blk_frozen BK148.out 4))
  refine bodyPost_ret (results_cell_row rfl _ _ gb148 29 #[.int .u64 a0_0, .int .u64 (IntKind.u64.wrap (a0_1 + 1)), .int .u64 0, .string (⟨#[]⟩ : ByteArray), .string (⟨#[]⟩ : ByteArray)] (0, 0) _ rfl (by (with_reducible repeat (first | refine blk_drewN ?_ _ | refine blk_drew ?_ | refine blk_alloc ?_ _)); refine blk_put (cs := #[.int .u64 a0_0, .int .u64 (IntKind.u64.wrap (a0_1 + 1)), .int .u64 0, .string (⟨#[]⟩ : ByteArray), .string (⟨#[]⟩ : ByteArray)]) ?_ 4 _ rfl; (with_reducible repeat (first | refine blk_drewN ?_ _ | refine blk_drew ?_ | refine blk_alloc ?_ _)); refine blk_put (cs := #[.int .u64 a0_0, .int .u64 (IntKind.u64.wrap (a0_1 + 1)), .int .u64 0, .string (⟨#[]⟩ : ByteArray), .string (⟨#[]⟩ : ByteArray)]) ?_ 3 _ rfl; (with_reducible repeat (first | refine blk_drewN ?_ _ | refine blk_drew ?_ | refine blk_alloc ?_ _)); refine blk_put (cs := #[.int .u64 a0_0, .int .u64 (IntKind.u64.wrap (a0_1 + 1)), .int .u64 0, .string (⟨#[]⟩ : ByteArray), .string (⟨#[]⟩ : ByteArray)]) ?_ 2 _ rfl; (with_reducible repeat (first | refine blk_drewN ?_ _ | refine blk_drew ?_ | refine blk_alloc ?_ _)); refine blk_put (cs := #[.int .u64 a0_0, .int .u64 0, .int .u64 0, .string (⟨#[]⟩ : ByteArray), .string (⟨#[]⟩ : ByteArray)]) ?_ 1 _ rfl; (with_reducible repeat (first | refine blk_drewN ?_ _ | refine blk_drew ?_ | refine blk_alloc ?_ _)); refine blk_put (cs := #[.int .u64 0, .int .u64 0, .int .u64 0, .string (⟨#[]⟩ : ByteArray), .string (⟨#[]⟩ : ByteArray)]) ?_ 0 _ rfl; (with_reducible repeat (first | refine blk_drewN ?_ _ | refine blk_drew ?_ | refine blk_alloc ?_ _)); exact BK148.out) Tryd.underlying29 rfl (by kernel_rfl)) rfl ?_
  exact ⟨by first | rfl | (simp [errW_none, errW_some] <;> rfl) | (simp [*, errW_none, errW_some] <;> rfl), by repeat (first | (with_reducible first | exact HB.out | apply below_alloc | apply pw_below_drewN | apply below_drew1 | refine below_set ?_ GE147.out | refine below_set ?_ GE148.out) | exact HB.out)⟩

end Go.Proofs.YtalpehfjjidfhaaDoor.MC
