-- PRINTED BY print.sh 35421559b90ae4d0a3588c463048766b98c2df88dd9212a6774a882060cdf62d: not written by this session
import Derived.Test.YtcmifkepleedmaaPFnSetMatchx0
namespace Go.Proofs.Ytcmifkepleedmaa.PFnSetMatch
open Go.RowKit Go.Proofs.YtcmifkepleedmaaW.PrintWords Go.Proofs.YtcmifkepleedmaaW.PrintLast Go.Proofs.YtcmifkepleedmaaW.PrintMore
attribute [local go_sem] max2_int min2_int max_two min_two max_three min_three max_four min_four   -- for this text's walks alone
set_option linter.unusedVariables false
set_option linter.unusedSimpArgs false

/-! ### spec_refBegins: function 27 -/
def spec_refBegins.f (a0 : ByteArray) (a1 : ByteArray) : Option (Bool) := if (a0.size : Int) ≥ (a1.size : Int) then (if 0 ≤ (a1.size : Int) then (if (a1.size : Int) ≤ (a0.size : Int) then (some ((a0.extract 0 ((a1.size : Int) : Int).toNat).toList == a1.toList)) else (none)) else (none)) else (some false)
set_option maxHeartbeats 8000000 in
set_option maxRecDepth 100000 in
theorem spec_refBegins.calls (a0 : ByteArray) (a1 : ByteArray) (r : Bool) (w : World) (h : spec_refBegins.f a0 a1 = some r) :
    Calls Try.prog 27 #[.string a0, .string a1] w fun e w' => e = .returned (.bool r) ∧ Drawn0 w w' := by
  have H : (if (a0.size : Int) ≥ (a1.size : Int) then (if 0 ≤ (a1.size : Int) then (if (a1.size : Int) ≤ (a0.size : Int) then (some ((a0.extract 0 ((a1.size : Int) : Int).toNat).toList == a1.toList)) else (none)) else (none)) else (some false)) = some r := h
  clear h
  by_cases c3 : (a0.size : Int) ≥ (a1.size : Int)
  · rw [if_pos c3] at H
    have c3b0 : decide ((a1.size : Int) ≤ (a0.size : Int)) = true := decide_eq_true c3
    have c3b1 : decide (a1.size ≤ a0.size) = true := decide_eq_true (Int.ofNat_le.mp c3)
    clear c3
    by_cases c4 : 0 ≤ (a1.size : Int)
    · rw [if_pos c4] at H
      have c4b0 := eq_true c4
      have c4b1 : decide (0 ≤ (a1.size : Int)) = true := decide_eq_true c4
      clear c4
      by_cases c5 : (a1.size : Int) ≤ (a0.size : Int)
      · rw [if_pos c5] at H
        have c5b0 := eq_true c5
        have c5b1 : decide ((a1.size : Int) ≤ (a0.size : Int)) = true := decide_eq_true c5
        clear c5
        obtain rfl := Option.some.inj H
        go_enter Try.func27, Try.ntmps27
        go_wp2
        go_ret
        exact ⟨by first | rfl | (simp; done) | (simp [*]; done), by repeat (first | exact Drawn0.refl _ | apply Drawn0.step)⟩
      · rw [if_neg c5] at H
        exact absurd H (by simp)
    · rw [if_neg c4] at H
      exact absurd H (by simp)
  · rw [if_neg c3] at H
    have c3b0 : decide ((a1.size : Int) ≤ (a0.size : Int)) = false := decide_eq_false c3
    have c3b1 : decide (a1.size ≤ a0.size) = false := decide_eq_false (fun h => c3 (Int.ofNat_le.mpr h))
    clear c3
    obtain rfl := Option.some.inj H
    go_enter Try.func27, Try.ntmps27
    go_wp2
    go_ret
    exact ⟨by first | rfl | (simp; done) | (simp [*]; done), by repeat (first | exact Drawn0.refl _ | apply Drawn0.step)⟩

/-! ### spec_SetMeantIn: function 13 -/
def spec_SetMeantIn.l0 : Nat → ByteArray → List ByteArray → List ByteArray → Int → Int → Option (List ByteArray)
  | 0, _, _, _, _, _ => none
  | k + 1, x1, x5, x8, x9, x10 => if x10 < x9 then (if 0 ≤ x10 then (if x10 < (x8.length : Int) then ((spec_refBegins.f (rdOf ByteArray.empty x8 x10) x1).bind fun t102 => (if t102 = true then (if x5.length < 8796093022208 then (spec_SetMeantIn.l0 k x1 (x5 ++ [rdOf ByteArray.empty x8 x10]) x8 x9 (wrap64 (x10 + 1))) else (none)) else (spec_SetMeantIn.l0 k x1 x5 x8 x9 (wrap64 (x10 + 1))))) else (none)) else (none)) else (some x5)
def spec_SetMeantIn.f (k : Nat) (l0 : List ByteArray) (a1 : ByteArray) : Option (List ByteArray) := spec_SetMeantIn.l0 k a1 ([] : List ByteArray) l0 (l0.length : Int) 0
theorem spec_SetMeantIn.mono_l : ∀ k, (∀ y0 y1 y2 y3 y4, LeO (spec_SetMeantIn.l0 k y0 y1 y2 y3 y4) (spec_SetMeantIn.l0 (k + 1) y0 y1 y2 y3 y4))
  | 0 => fun _ _ _ _ _ r h => by simp [spec_SetMeantIn.l0] at h
  | k + 1 => by
    have ih0 := spec_SetMeantIn.mono_l k
    · intro y0 y1 y2 y3 y4
      unfold spec_SetMeantIn.l0
      repeat' first
      | (with_reducible exact ih0 _ _ _ _ _)
      | (with_reducible exact LeO.refl _)
      | (with_reducible exact LeO.none _)
      | (with_reducible refine LeO.ite ?_ ?_)
      | (with_reducible refine LeO.bind ?_ (fun _ => ?_))
      | exact ih0 _ _ _ _ _
      | exact LeO.none _
      | refine LeO.ite ?_ ?_
      | refine LeO.bind ?_ (fun _ => ?_)
theorem spec_SetMeantIn.mono : ∀ a0 a1 k, LeO (spec_SetMeantIn.f k a0 a1) (spec_SetMeantIn.f (k + 1) a0 a1) := by
  intro a0 a1 k
  have ih0 := spec_SetMeantIn.mono_l k
  unfold spec_SetMeantIn.f
  repeat' first
      | (with_reducible exact ih0 _ _ _ _ _)
      | (with_reducible exact LeO.refl _)
      | (with_reducible exact LeO.none _)
      | (with_reducible refine LeO.ite ?_ ?_)
      | (with_reducible refine LeO.bind ?_ (fun _ => ?_))
      | exact ih0 _ _ _ _ _
      | exact LeO.none _
      | refine LeO.ite ?_ ?_
      | refine LeO.bind ?_ (fun _ => ?_)
set_option maxHeartbeats 8000000 in
set_option maxRecDepth 100000 in
theorem spec_SetMeantIn.calls (k : Nat) (A0 : Option Addr) (c0 : Nat) (l0 : List ByteArray) (a1 : ByteArray) (r : List ByteArray) (w : World) (hr0 : Kd.C Kd.string w A0 l0.length l0) (hc0 : l0.length ≤ c0) (h : spec_SetMeantIn.f k l0 a1 = some r) :
    Calls Try.prog 13 #[.slice A0 l0.length c0, .string a1] w fun e w' => ∃ v0_ : Value, e = .returned (v0_) ∧ Kd.R Kd.string 9 w' w.heap.size (fun _ => True) v0_ r ∧ Below w.heap.size w w' := by
  have HR0 := Aside0.mk hr0
  have HC0 := Aside0.mk hc0
  clear hr0 hc0
  have HB := Aside0.mk (Below.refl w.heap.size w)
  have H : (spec_SetMeantIn.l0 k a1 ([] : List ByteArray) l0 (l0.length : Int) 0) = some r := h
  clear h
  have H' := Aside0.mk H
  clear H
  go_enter Try.func13, Try.ntmps13
  go_wp2
  go_loopg [5, 10] k (fun kq v5 v10 w' => ∃ (x5_1 : List ByteArray) (x10_1 : Int), v10 = .int .i64 x10_1 ∧ Aside0 (spec_SetMeantIn.l0 kq a1 x5_1 l0 (l0.length : Int) x10_1 = some r) ∧ Aside0 (kq ≤ k) ∧ Aside0 (Kd.R Kd.string 9 w' w.heap.size (fun _ => True) v5 x5_1) ∧ Aside0 (Below w.heap.size w w'))
  case atStart => exact ⟨(([] : List ByteArray)), (0), (by first | rfl | (simp; done) | (simp [*]; done)), H', ⟨Nat.le_refl _⟩, ⟨by first | exact Kd.R_nil _ _ _ _ _ | exact Kd.N_nil _ _ _ _ _ | exact Kd.V_nil _ _ _ _ _ | exact Kd.Q_nil _ _ _ _ _ | exact Kd.S_nil _ _ _ _ _⟩, ⟨by repeat (first | (with_reducible first | exact HB.out | apply below_alloc | apply pw_below_drewN | apply below_drew1) | exact HB.out)⟩⟩
  case round =>
    clear H'
    try clear c1
    try clear p2
    obtain ⟨x5_1, x10_1, rfl, HA, HK1, HO_5, HB⟩ := hrel
    cases gk with
    | zero => exact absurd HA.out (by simp [spec_SetMeantIn.l0])
    | succ k1 =>
      have H := HA.out
      clear HA
      simp only [spec_SetMeantIn.l0] at H
      by_cases c3 : x10_1 < (l0.length : Int)
      · rw [if_pos c3] at H
        have c3b0 : decide (x10_1 < (l0.length : Int)) = true := decide_eq_true c3
        clear c3
        by_cases c4 : 0 ≤ x10_1
        · rw [if_pos c4] at H
          have c4b0 : decide (0 ≤ x10_1) = true := decide_eq_true c4
          clear c4
          by_cases c5 : x10_1 < (l0.length : Int)
          · rw [if_pos c5] at H
            have c5b0 : decide (x10_1 < (l0.length : Int)) = true := decide_eq_true c5
            clear c5
            replace H := Option.bind_eq_some_iff.mp H
            obtain ⟨t102, A60, H⟩ := H
            replace H : (if t102 = true then (if x5_1.length < 8796093022208 then (spec_SetMeantIn.l0 k1 a1 (x5_1 ++ [rdOf ByteArray.empty l0 x10_1]) l0 (l0.length : Int) (wrap64 (x10_1 + 1))) else (none)) else (spec_SetMeantIn.l0 k1 a1 x5_1 l0 (l0.length : Int) (wrap64 (x10_1 + 1)))) = some r := H
            have A6 := Aside0.mk A60
            clear A60
            by_cases c7 : t102 = true
            · subst c7
              have H1 : (if x5_1.length < 8796093022208 then (spec_SetMeantIn.l0 k1 a1 (x5_1 ++ [rdOf ByteArray.empty l0 x10_1]) l0 (l0.length : Int) (wrap64 (x10_1 + 1))) else (none)) = some r := by rw [if_pos rfl] at H; exact H
              clear H
              have H := H1
              clear H1
              by_cases c8 : x5_1.length < 8796093022208
              · rw [if_pos c8] at H
                have LMc8 := Aside0.mk c8
                clear c8
                obtain ⟨y103, hy103⟩ : ∃ y_ : List ByteArray, y_ = (x5_1 ++ [rdOf ByteArray.empty l0 x10_1]) := ⟨_, rfl⟩
                replace H : (spec_SetMeantIn.l0 k1 a1 y103 l0 (l0.length : Int) (wrap64 (x10_1 + 1))) = some r := by first | (rw [hy103]; with_reducible exact H) | (have H2_ := (Option.bind_some _ _).symm.trans H; rw [hy103]; with_reducible exact H2_) | (have H2_ := (Option.bind_some _ _).symm.trans H; with_reducible exact H2_) | with_reducible exact H | (rw [hy103]; exact H) | exact H
                have Ny103 := Aside0.mk hy103
                clear hy103
                have H' := Aside0.mk H
                clear H
                have p101 : 0 ≤ (x10_1 : Int) := of_decide_eq_true (by first | (with_reducible assumption) | assumption)
                have q101 : x10_1 < (l0.length : Int) := of_decide_eq_true (by first | (with_reducible assumption) | assumption)
                obtain ⟨ad101, e101, hx101_0⟩ := Kd.at_string HR0.out x10_1 p101 q101
                cases e101
                replace hx101_0 := (HB.out.cell (World.block_lt_of_cell? w _ hx101_0)).trans hx101_0
                replace p101 := eq_true p101
                replace q101 := eq_true q101
                go_wp2_with (first | ((with_reducible refine gate_callee (f := 27) rfl ?_); refine goesL_ (some 16) rfl rfl Try.func27 (by kernel_rfl) rfl #[.string (rdOf ByteArray.empty l0 x10_1), .string a1] rfl (by (try simp only [List.map_toArray, List.map_cons, List.map_nil]); first | done | rfl | (simp only [List.length_drop, List.length_take]; rfl)) ?_; (with_reducible refine (spec_refBegins.calls (rdOf ByteArray.empty l0 x10_1) a1 true _ A6.out).mono ?_); rintro e w' ⟨rfl, ⟨nd, rfl⟩⟩; refine ⟨_, rfl, ?_⟩) | ((with_reducible refine gate_builtin (b := .append) (xs := #[.tmp 17, .tmp 19]) rfl ?_); at_builtin; refine Kd.R_append Kd.string (w0 := w) w.heap.size rfl (.tmp 17) (.tmp 19) 28 9 (.string ⟨#[]⟩) 16 rfl Try.underlying28 info9 rfl (by decide) (by omega) u5 x5_1 (rdOf ByteArray.empty l0 x10_1) [.string (rdOf ByteArray.empty l0 x10_1)] (fun _ => True) (fun _ => False) rfl rfl ?aP (fun _ hk => hk.elim) ?aF ?aO ?aB ?aS ?aL ?_; (case aP => exact rfl); (case aB => exact (by repeat (first | (with_reducible first | exact HB.out | apply below_alloc | apply pw_below_drewN | apply below_drew1) | exact HB.out))); (case aF => exact (fun _ _ => trivial)); (case aO => exact (by (with_reducible repeat (first | apply Kd.R_alloc | apply Kd.R_drewN | apply Kd.R_drew)); exact HO_5.out)); (case aS => exact (below_size (by repeat (first | (with_reducible first | exact HB.out | apply below_alloc | apply pw_below_drewN | apply below_drew1) | exact HB.out)))); (case aL => have := LMc8.out; omega); intro v104 w9 ho hb hg hat; rw [← Ny103.out] at ho; have n0_ := Aside0.mk (hb); have n1_ := Aside0.mk (ho); clear HB; clear HO_5; have HB := n0_; have HO105 := n1_; clear n0_ n1_; clear ho hb hg hat))
                go_roundg k1
                case measure => have := HK1.out; omega
                case rel => exact ⟨(y103), (wrap64 (x10_1 + 1)), (by first | rfl | (simp; done) | (simp [*]; done)), H', ⟨by have := HK1.out; omega⟩, ⟨by (with_reducible repeat (first | apply Kd.R_alloc | apply Kd.R_drewN | apply Kd.R_drew)); exact HO105.out⟩, ⟨by repeat (first | (with_reducible first | exact HB.out | apply below_alloc | apply pw_below_drewN | apply below_drew1) | exact HB.out)⟩⟩
              · rw [if_neg c8] at H
                exact absurd H (by simp)
            · replace c7 := Bool.eq_false_iff.mpr c7
              subst c7
              have H1 : (spec_SetMeantIn.l0 k1 a1 x5_1 l0 (l0.length : Int) (wrap64 (x10_1 + 1))) = some r := by rw [if_neg (show ¬ (false = true) by decide)] at H; exact H
              clear H
              have H := H1
              clear H1
              have H' := Aside0.mk H
              clear H
              have p101 : 0 ≤ (x10_1 : Int) := of_decide_eq_true (by first | (with_reducible assumption) | assumption)
              have q101 : x10_1 < (l0.length : Int) := of_decide_eq_true (by first | (with_reducible assumption) | assumption)
              obtain ⟨ad101, e101, hx101_0⟩ := Kd.at_string HR0.out x10_1 p101 q101
              cases e101
              replace hx101_0 := (HB.out.cell (World.block_lt_of_cell? w _ hx101_0)).trans hx101_0
              replace p101 := eq_true p101
              replace q101 := eq_true q101
              go_wp2_with (first | ((with_reducible refine gate_callee (f := 27) rfl ?_); refine goesL_ (some 16) rfl rfl Try.func27 (by kernel_rfl) rfl #[.string (rdOf ByteArray.empty l0 x10_1), .string a1] rfl (by (try simp only [List.map_toArray, List.map_cons, List.map_nil]); first | done | rfl | (simp only [List.length_drop, List.length_take]; rfl)) ?_; (with_reducible refine (spec_refBegins.calls (rdOf ByteArray.empty l0 x10_1) a1 false _ A6.out).mono ?_); rintro e w' ⟨rfl, ⟨nd, rfl⟩⟩; refine ⟨_, rfl, ?_⟩))
              go_roundg k1
              case measure => have := HK1.out; omega
              case rel => exact ⟨(x5_1), (wrap64 (x10_1 + 1)), (by first | rfl | (simp; done) | (simp [*]; done)), H', ⟨by have := HK1.out; omega⟩, ⟨by (with_reducible repeat (first | apply Kd.R_alloc | apply Kd.R_drewN | apply Kd.R_drew)); exact HO_5.out⟩, ⟨by repeat (first | (with_reducible first | exact HB.out | apply below_alloc | apply pw_below_drewN | apply below_drew1) | exact HB.out)⟩⟩
          · rw [if_neg c5] at H
            exact absurd H (by simp)
        · rw [if_neg c4] at H
          exact absurd H (by simp)
      · rw [if_neg c3] at H
        have c3b0 : decide (x10_1 < (l0.length : Int)) = false := decide_eq_false c3
        clear c3
        obtain rfl := Option.some.inj H
        go_wp2
        go_ret
        exact ⟨_, by first | rfl | (simp [errW_none, errW_some] <;> rfl) | (simp [*, errW_none, errW_some] <;> rfl), by (with_reducible repeat (first | apply Kd.R_alloc | apply Kd.R_drewN | apply Kd.R_drew)); exact HO_5.out, by repeat (first | (with_reducible first | exact HB.out | apply below_alloc | apply pw_below_drewN | apply below_drew1) | exact HB.out)⟩

/-! ### stringslite_HasPrefix: function 48 -/
def stringslite_HasPrefix.f (a0 : ByteArray) (a1 : ByteArray) : Option (Bool) := if (a0.size : Int) ≥ (a1.size : Int) then (if 0 ≤ (a1.size : Int) then (if (a1.size : Int) ≤ (a0.size : Int) then (some ((a0.extract 0 ((a1.size : Int) : Int).toNat).toList == a1.toList)) else (none)) else (none)) else (some false)
set_option maxHeartbeats 8000000 in
set_option maxRecDepth 100000 in
theorem stringslite_HasPrefix.calls (a0 : ByteArray) (a1 : ByteArray) (r : Bool) (w : World) (h : stringslite_HasPrefix.f a0 a1 = some r) :
    Calls Try.prog 48 #[.string a0, .string a1] w fun e w' => e = .returned (.bool r) ∧ Drawn0 w w' := by
  have H : (if (a0.size : Int) ≥ (a1.size : Int) then (if 0 ≤ (a1.size : Int) then (if (a1.size : Int) ≤ (a0.size : Int) then (some ((a0.extract 0 ((a1.size : Int) : Int).toNat).toList == a1.toList)) else (none)) else (none)) else (some false)) = some r := h
  clear h
  by_cases c3 : (a0.size : Int) ≥ (a1.size : Int)
  · rw [if_pos c3] at H
    have c3b0 : decide ((a1.size : Int) ≤ (a0.size : Int)) = true := decide_eq_true c3
    have c3b1 : decide (a1.size ≤ a0.size) = true := decide_eq_true (Int.ofNat_le.mp c3)
    clear c3
    by_cases c4 : 0 ≤ (a1.size : Int)
    · rw [if_pos c4] at H
      have c4b0 := eq_true c4
      have c4b1 : decide (0 ≤ (a1.size : Int)) = true := decide_eq_true c4
      clear c4
      by_cases c5 : (a1.size : Int) ≤ (a0.size : Int)
      · rw [if_pos c5] at H
        have c5b0 := eq_true c5
        have c5b1 : decide ((a1.size : Int) ≤ (a0.size : Int)) = true := decide_eq_true c5
        clear c5
        obtain rfl := Option.some.inj H
        go_enter Try.func48, Try.ntmps48
        go_wp2
        go_ret
        exact ⟨by first | rfl | (simp; done) | (simp [*]; done), by repeat (first | exact Drawn0.refl _ | apply Drawn0.step)⟩
      · rw [if_neg c5] at H
        exact absurd H (by simp)
    · rw [if_neg c4] at H
      exact absurd H (by simp)
  · rw [if_neg c3] at H
    have c3b0 : decide ((a1.size : Int) ≤ (a0.size : Int)) = false := decide_eq_false c3
    have c3b1 : decide (a1.size ≤ a0.size) = false := decide_eq_false (fun h => c3 (Int.ofNat_le.mpr h))
    clear c3
    obtain rfl := Option.some.inj H
    go_enter Try.func48, Try.ntmps48
    go_wp2
    go_ret
    exact ⟨by first | rfl | (simp; done) | (simp [*]; done), by repeat (first | exact Drawn0.refl _ | apply Drawn0.step)⟩

/-! ### strings_HasPrefix: function 44 -/
def strings_HasPrefix.f (a0 : ByteArray) (a1 : ByteArray) : Option (Bool) := (stringslite_HasPrefix.f a0 a1).bind fun t106 => (some t106)
set_option maxHeartbeats 8000000 in
set_option maxRecDepth 100000 in
theorem strings_HasPrefix.calls (a0 : ByteArray) (a1 : ByteArray) (r : Bool) (w : World) (h : strings_HasPrefix.f a0 a1 = some r) :
    Calls Try.prog 44 #[.string a0, .string a1] w fun e w' => e = .returned (.bool r) ∧ Drawn0 w w' := by
  have H : ((stringslite_HasPrefix.f a0 a1).bind fun t106 => (some t106)) = some r := h
  clear h
  replace H := Option.bind_eq_some_iff.mp H
  obtain ⟨t106, A30, H⟩ := H
  replace H : (some t106) = some r := H
  have A3 := Aside0.mk A30
  clear A30
  obtain rfl := Option.some.inj H
  go_enter Try.func44, Try.ntmps44
  go_wp2_with (first | ((with_reducible refine gate_callee (f := 48) rfl ?_); refine goesL_ (some 7) rfl rfl Try.func48 (by kernel_rfl) rfl #[.string a0, .string a1] rfl (by (try simp only [List.map_toArray, List.map_cons, List.map_nil]); first | done | rfl | (simp only [List.length_drop, List.length_take]; rfl)) ?_; (with_reducible refine (stringslite_HasPrefix.calls a0 a1 t106 _ A3.out).mono ?_); rintro e w' ⟨rfl, ⟨nd, rfl⟩⟩; refine ⟨_, rfl, ?_⟩))
  go_ret
  exact ⟨by first | rfl | (simp; done) | (simp [*]; done), by repeat (first | exact Drawn0.refl _ | apply Drawn0.step)⟩

/-! ### digestset_checkShortMatch: function 39 -/
def digestset_checkShortMatch.f (a0 : ByteArray) (a1 : ByteArray) (a2 : ByteArray) (a3 : ByteArray) : Option (Bool) := if (a1.size : Int) = (a3.size : Int) then (if a1.toList = a3.toList then (if (a2.size : Int) > 0 then (if a0.toList = a2.toList then (some true) else (some false)) else (some true)) else (some false)) else ((strings_HasPrefix.f a1 a3).bind fun t107 => (if t107 = true then (if (a2.size : Int) > 0 then (if a0.toList = a2.toList then (some true) else (some false)) else (some true)) else (some false)))
set_option maxHeartbeats 8000000 in
set_option maxRecDepth 100000 in
theorem digestset_checkShortMatch.calls (a0 : ByteArray) (a1 : ByteArray) (a2 : ByteArray) (a3 : ByteArray) (r : Bool) (w : World) (h : digestset_checkShortMatch.f a0 a1 a2 a3 = some r) :
    Calls Try.prog 39 #[.string a0, .string a1, .string a2, .string a3] w fun e w' => e = .returned (.bool r) ∧ Drawn0 w w' := by
  have H : (if (a1.size : Int) = (a3.size : Int) then (if a1.toList = a3.toList then (if (a2.size : Int) > 0 then (if a0.toList = a2.toList then (some true) else (some false)) else (some true)) else (some false)) else ((strings_HasPrefix.f a1 a3).bind fun t107 => (if t107 = true then (if (a2.size : Int) > 0 then (if a0.toList = a2.toList then (some true) else (some false)) else (some true)) else (some false)))) = some r := h
  clear h
  by_cases c5 : (a1.size : Int) = (a3.size : Int)
  · rw [if_pos c5] at H
    have c5b0 : ((a1.size : Int) == (a3.size : Int)) = true := beq_iff_eq.mpr c5
    have c5b1 : ((a1.size : Int) != (a3.size : Int)) = false := bne_eq_false_iff_eq.mpr c5
    have c5b2 : (a1.size == a3.size) = true := by first | simpa using c5 | (simp at c5 ⊢; omega)
    clear c5
    by_cases c6 : a1.toList = a3.toList
    · rw [if_pos c6] at H
      have c6b0 : (a1.toList == a3.toList) = true := beq_iff_eq.mpr c6
      have c6b1 : (a1.toList != a3.toList) = false := bne_eq_false_iff_eq.mpr c6
      clear c6
      by_cases c7 : (a2.size : Int) > 0
      · rw [if_pos c7] at H
        have c7b0 : decide (0 < (a2.size : Int)) = true := decide_eq_true c7
        have c7b1 : decide (0 < a2.size) = true := decide_eq_true (by omega)
        clear c7
        by_cases c8 : a0.toList = a2.toList
        · rw [if_pos c8] at H
          have c8b0 : (a0.toList == a2.toList) = true := beq_iff_eq.mpr c8
          have c8b1 : (a0.toList != a2.toList) = false := bne_eq_false_iff_eq.mpr c8
          clear c8
          obtain rfl := Option.some.inj H
          go_enter Try.func39, Try.ntmps39
          go_wp2
          go_ret
          exact ⟨by first | rfl | (simp; done) | (simp [*]; done), by repeat (first | exact Drawn0.refl _ | apply Drawn0.step)⟩
        · rw [if_neg c8] at H
          have c8b0 : (a0.toList == a2.toList) = false := beq_eq_false_iff_ne.mpr c8
          have c8b1 : (a0.toList != a2.toList) = true := bne_iff_ne.mpr c8
          obtain rfl := Option.some.inj H
          go_enter Try.func39, Try.ntmps39
          go_wp2
          go_ret
          exact ⟨by first | rfl | (simp; done) | (simp [*]; done), by repeat (first | exact Drawn0.refl _ | apply Drawn0.step)⟩
      · rw [if_neg c7] at H
        have c7b0 : decide (0 < (a2.size : Int)) = false := decide_eq_false c7
        have c7b1 : decide (0 < a2.size) = false := decide_eq_false (by omega)
        clear c7
        obtain rfl := Option.some.inj H
        go_enter Try.func39, Try.ntmps39
        go_wp2
        go_ret
        exact ⟨by first | rfl | (simp; done) | (simp [*]; done), by repeat (first | exact Drawn0.refl _ | apply Drawn0.step)⟩
    · rw [if_neg c6] at H
      have c6b0 : (a1.toList == a3.toList) = false := beq_eq_false_iff_ne.mpr c6
      have c6b1 : (a1.toList != a3.toList) = true := bne_iff_ne.mpr c6
      obtain rfl := Option.some.inj H
      go_enter Try.func39, Try.ntmps39
      go_wp2
      go_ret
      exact ⟨by first | rfl | (simp; done) | (simp [*]; done), by repeat (first | exact Drawn0.refl _ | apply Drawn0.step)⟩
  · rw [if_neg c5] at H
    have c5b0 : ((a1.size : Int) == (a3.size : Int)) = false := beq_eq_false_iff_ne.mpr c5
    have c5b1 : ((a1.size : Int) != (a3.size : Int)) = true := bne_iff_ne.mpr c5
    have c5b2 : (a1.size == a3.size) = false := by first | simpa using c5 | (simp at c5 ⊢; omega)
    replace H := Option.bind_eq_some_iff.mp H
    obtain ⟨t107, A90, H⟩ := H
    replace H : (if t107 = true then (if (a2.size : Int) > 0 then (if a0.toList = a2.toList then (some true) else (some false)) else (some true)) else (some false)) = some r := H
    have A9 := Aside0.mk A90
    clear A90
    by_cases c10 : t107 = true
    · subst c10
      have H1 : (if (a2.size : Int) > 0 then (if a0.toList = a2.toList then (some true) else (some false)) else (some true)) = some r := by rw [if_pos rfl] at H; exact H
      clear H
      have H := H1
      clear H1
      by_cases c11 : (a2.size : Int) > 0
      · rw [if_pos c11] at H
        have c11b0 : decide (0 < (a2.size : Int)) = true := decide_eq_true c11
        have c11b1 : decide (0 < a2.size) = true := decide_eq_true (by omega)
        clear c11
        by_cases c12 : a0.toList = a2.toList
        · rw [if_pos c12] at H
          have c12b0 : (a0.toList == a2.toList) = true := beq_iff_eq.mpr c12
          have c12b1 : (a0.toList != a2.toList) = false := bne_eq_false_iff_eq.mpr c12
          clear c12
          obtain rfl := Option.some.inj H
          go_enter Try.func39, Try.ntmps39
          go_wp2_with (first | ((with_reducible refine gate_callee (f := 44) rfl ?_); refine goesL_ (some 27) rfl rfl Try.func44 (by kernel_rfl) rfl #[.string a1, .string a3] rfl (by (try simp only [List.map_toArray, List.map_cons, List.map_nil]); first | done | rfl | (simp only [List.length_drop, List.length_take]; rfl)) ?_; (with_reducible refine (strings_HasPrefix.calls a1 a3 true _ A9.out).mono ?_); rintro e w' ⟨rfl, ⟨nd, rfl⟩⟩; refine ⟨_, rfl, ?_⟩))
          go_ret
          exact ⟨by first | rfl | (simp; done) | (simp [*]; done), by repeat (first | exact Drawn0.refl _ | apply Drawn0.step)⟩
        · rw [if_neg c12] at H
          have c12b0 : (a0.toList == a2.toList) = false := beq_eq_false_iff_ne.mpr c12
          have c12b1 : (a0.toList != a2.toList) = true := bne_iff_ne.mpr c12
          obtain rfl := Option.some.inj H
          go_enter Try.func39, Try.ntmps39
          go_wp2_with (first | ((with_reducible refine gate_callee (f := 44) rfl ?_); refine goesL_ (some 27) rfl rfl Try.func44 (by kernel_rfl) rfl #[.string a1, .string a3] rfl (by (try simp only [List.map_toArray, List.map_cons, List.map_nil]); first | done | rfl | (simp only [List.length_drop, List.length_take]; rfl)) ?_; (with_reducible refine (strings_HasPrefix.calls a1 a3 true _ A9.out).mono ?_); rintro e w' ⟨rfl, ⟨nd, rfl⟩⟩; refine ⟨_, rfl, ?_⟩))
          go_ret
          exact ⟨by first | rfl | (simp; done) | (simp [*]; done), by repeat (first | exact Drawn0.refl _ | apply Drawn0.step)⟩
      · rw [if_neg c11] at H
        have c11b0 : decide (0 < (a2.size : Int)) = false := decide_eq_false c11
        have c11b1 : decide (0 < a2.size) = false := decide_eq_false (by omega)
        clear c11
        obtain rfl := Option.some.inj H
        go_enter Try.func39, Try.ntmps39
        go_wp2_with (first | ((with_reducible refine gate_callee (f := 44) rfl ?_); refine goesL_ (some 27) rfl rfl Try.func44 (by kernel_rfl) rfl #[.string a1, .string a3] rfl (by (try simp only [List.map_toArray, List.map_cons, List.map_nil]); first | done | rfl | (simp only [List.length_drop, List.length_take]; rfl)) ?_; (with_reducible refine (strings_HasPrefix.calls a1 a3 true _ A9.out).mono ?_); rintro e w' ⟨rfl, ⟨nd, rfl⟩⟩; refine ⟨_, rfl, ?_⟩))
        go_ret
        exact ⟨by first | rfl | (simp; done) | (simp [*]; done), by repeat (first | exact Drawn0.refl _ | apply Drawn0.step)⟩
    · replace c10 := Bool.eq_false_iff.mpr c10
      subst c10
      have H1 : (some false) = some r := by rw [if_neg (show ¬ (false = true) by decide)] at H; exact H
      clear H
      have H := H1
      clear H1
      obtain rfl := Option.some.inj H
      go_enter Try.func39, Try.ntmps39
      go_wp2_with (first | ((with_reducible refine gate_callee (f := 44) rfl ?_); refine goesL_ (some 27) rfl rfl Try.func44 (by kernel_rfl) rfl #[.string a1, .string a3] rfl (by (try simp only [List.map_toArray, List.map_cons, List.map_nil]); first | done | rfl | (simp only [List.length_drop, List.length_take]; rfl)) ?_; (with_reducible refine (strings_HasPrefix.calls a1 a3 false _ A9.out).mono ?_); rintro e w' ⟨rfl, ⟨nd, rfl⟩⟩; refine ⟨_, rfl, ?_⟩))
      go_ret
      exact ⟨by first | rfl | (simp; done) | (simp [*]; done), by repeat (first | exact Drawn0.refl _ | apply Drawn0.step)⟩

/-! ### digestset_ZZMatch: function 28 -/
def digestset_ZZMatch.f (a0 : ByteArray) (a1 : ByteArray) (a2 : ByteArray) (a3 : ByteArray) : Option (Bool) := (digestset_checkShortMatch.f a0 a1 a2 a3).bind fun t108 => (some t108)
set_option maxHeartbeats 8000000 in
set_option maxRecDepth 100000 in
theorem digestset_ZZMatch.calls (a0 : ByteArray) (a1 : ByteArray) (a2 : ByteArray) (a3 : ByteArray) (r : Bool) (w : World) (h : digestset_ZZMatch.f a0 a1 a2 a3 = some r) :
    Calls Try.prog 28 #[.string a0, .string a1, .string a2, .string a3] w fun e w' => e = .returned (.bool r) ∧ Drawn0 w w' := by
  have H : ((digestset_checkShortMatch.f a0 a1 a2 a3).bind fun t108 => (some t108)) = some r := h
  clear h
  replace H := Option.bind_eq_some_iff.mp H
  obtain ⟨t108, A50, H⟩ := H
  replace H : (some t108) = some r := H
  have A5 := Aside0.mk A50
  clear A50
  obtain rfl := Option.some.inj H
  go_enter Try.func28, Try.ntmps28
  go_wp2_with (first | ((with_reducible refine gate_callee (f := 39) rfl ?_); refine goesL_ (some 13) rfl rfl Try.func39 (by kernel_rfl) rfl #[.string a0, .string a1, .string a2, .string a3] rfl (by (try simp only [List.map_toArray, List.map_cons, List.map_nil]); first | done | rfl | (simp only [List.length_drop, List.length_take]; rfl)) ?_; (with_reducible refine (digestset_checkShortMatch.calls a0 a1 a2 a3 t108 _ A5.out).mono ?_); rintro e w' ⟨rfl, ⟨nd, rfl⟩⟩; refine ⟨_, rfl, ?_⟩))
  go_ret
  exact ⟨by first | rfl | (simp; done) | (simp [*]; done), by repeat (first | exact Drawn0.refl _ | apply Drawn0.step)⟩

/-! ### impl_SetMatch: function 14 -/
def impl_SetMatch.f (a0 : ByteArray) (a1 : ByteArray) (a2 : ByteArray) (a3 : ByteArray) : Option (Bool) := (digestset_ZZMatch.f a0 a1 a2 a3).bind fun t109 => (some t109)
set_option maxHeartbeats 8000000 in
set_option maxRecDepth 100000 in
theorem impl_SetMatch.calls (a0 : ByteArray) (a1 : ByteArray) (a2 : ByteArray) (a3 : ByteArray) (r : Bool) (w : World) (h : impl_SetMatch.f a0 a1 a2 a3 = some r) :
    Calls Try.prog 14 #[.string a0, .string a1, .string a2, .string a3] w fun e w' => e = .returned (.bool r) ∧ Drawn0 w w' := by
  have H : ((digestset_ZZMatch.f a0 a1 a2 a3).bind fun t109 => (some t109)) = some r := h
  clear h
  replace H := Option.bind_eq_some_iff.mp H
  obtain ⟨t109, A50, H⟩ := H
  replace H : (some t109) = some r := H
  have A5 := Aside0.mk A50
  clear A50
  obtain rfl := Option.some.inj H
  go_enter Try.func14, Try.ntmps14
  go_wp2_with (first | ((with_reducible refine gate_callee (f := 28) rfl ?_); refine goesL_ (some 13) rfl rfl Try.func28 (by kernel_rfl) rfl #[.string a0, .string a1, .string a2, .string a3] rfl (by (try simp only [List.map_toArray, List.map_cons, List.map_nil]); first | done | rfl | (simp only [List.length_drop, List.length_take]; rfl)) ?_; (with_reducible refine (digestset_ZZMatch.calls a0 a1 a2 a3 t109 _ A5.out).mono ?_); rintro e w' ⟨rfl, ⟨nd, rfl⟩⟩; refine ⟨_, rfl, ?_⟩))
  go_ret
  exact ⟨by first | rfl | (simp; done) | (simp [*]; done), by repeat (first | exact Drawn0.refl _ | apply Drawn0.step)⟩

/-! ### laws_FnSetMatch: function 5 -/
def laws_FnSetMatch.j0 : Nat → ByteArray → ByteArray → ByteArray → ByteArray → Bool → Option (Bool)
  | 0, _, _, _, _, _ => none
  | k + 1, x0, x1, x2, x3, x27 => if x27 = true then (some true) else (if (wrap64 ((wrap64 ((wrap64 ((x0.size : Int) + (x1.size : Int))) + (x2.size : Int))) + (x3.size : Int))) > 300 then (some true) else (if x2.toList = ([] : List UInt8) then ((spec_SetMeantIn.f k (([x1] : List ByteArray)) x3).bind fun t113 => ((impl_SetMatch.f x0 x1 x2 x3).bind fun t116 => (some (t116 == ((t113.length : Int) == 1))))) else (if x2.toList = x0.toList then ((spec_SetMeantIn.f k (([x1] : List ByteArray)) x3).bind fun t120 => ((impl_SetMatch.f x0 x1 x2 x3).bind fun t123 => (some (t123 == ((t120.length : Int) == 1))))) else ((impl_SetMatch.f x0 x1 x2 x3).bind fun t124 => (some (t124 == false))))))
def laws_FnSetMatch.f (k : Nat) (a0 : ByteArray) (a1 : ByteArray) (a2 : ByteArray) (a3 : ByteArray) : Option (Bool) := if (a0.size : Int) > 2147483647 then (laws_FnSetMatch.j0 k a0 a1 a2 a3 true) else (if (a1.size : Int) > 2147483647 then (laws_FnSetMatch.j0 k a0 a1 a2 a3 true) else (if (a2.size : Int) > 2147483647 then (laws_FnSetMatch.j0 k a0 a1 a2 a3 true) else (laws_FnSetMatch.j0 k a0 a1 a2 a3 (decide ((a3.size : Int) > 2147483647)))))
theorem laws_FnSetMatch.mono_l : ∀ k, (∀ y0 y1 y2 y3 y4, LeO (laws_FnSetMatch.j0 k y0 y1 y2 y3 y4) (laws_FnSetMatch.j0 (k + 1) y0 y1 y2 y3 y4))
  | 0 => fun _ _ _ _ _ r h => by simp [laws_FnSetMatch.j0] at h
  | k + 1 => by
    have ih0 := laws_FnSetMatch.mono_l k
    · intro y0 y1 y2 y3 y4
      unfold laws_FnSetMatch.j0
      repeat' first
      | (with_reducible exact ih0 _ _ _ _ _)
      | (with_reducible exact spec_SetMeantIn.mono _ _ _)
      | (with_reducible exact LeO.refl _)
      | (with_reducible exact LeO.none _)
      | (with_reducible refine LeO.ite ?_ ?_)
      | (with_reducible refine LeO.bind ?_ (fun _ => ?_))
      | exact ih0 _ _ _ _ _
      | exact spec_SetMeantIn.mono _ _ _
      | exact LeO.none _
      | refine LeO.ite ?_ ?_
      | refine LeO.bind ?_ (fun _ => ?_)
theorem laws_FnSetMatch.mono : ∀ a0 a1 a2 a3 k, LeO (laws_FnSetMatch.f k a0 a1 a2 a3) (laws_FnSetMatch.f (k + 1) a0 a1 a2 a3) := by
  intro a0 a1 a2 a3 k
  have ih0 := laws_FnSetMatch.mono_l k
  unfold laws_FnSetMatch.f
  repeat' first
      | (with_reducible exact ih0 _ _ _ _ _)
      | (with_reducible exact spec_SetMeantIn.mono _ _ _)
      | (with_reducible exact LeO.refl _)
      | (with_reducible exact LeO.none _)
      | (with_reducible refine LeO.ite ?_ ?_)
      | (with_reducible refine LeO.bind ?_ (fun _ => ?_))
      | exact ih0 _ _ _ _ _
      | exact spec_SetMeantIn.mono _ _ _
      | exact LeO.none _
      | refine LeO.ite ?_ ?_
      | refine LeO.bind ?_ (fun _ => ?_)
set_option maxHeartbeats 8000000 in
set_option maxRecDepth 100000 in
theorem laws_FnSetMatch.calls (k : Nat) (a0 : ByteArray) (a1 : ByteArray) (a2 : ByteArray) (a3 : ByteArray) (r : Bool) (w : World) (h : laws_FnSetMatch.f k a0 a1 a2 a3 = some r) :
    Calls Try.prog 5 #[.string a0, .string a1, .string a2, .string a3] w fun e w' => e = .returned (.bool r) ∧ Below w.heap.size w w' := by
  have HB := Aside0.mk (Below.refl w.heap.size w)
  have H : (if (a0.size : Int) > 2147483647 then (laws_FnSetMatch.j0 k a0 a1 a2 a3 true) else (if (a1.size : Int) > 2147483647 then (laws_FnSetMatch.j0 k a0 a1 a2 a3 true) else (if (a2.size : Int) > 2147483647 then (laws_FnSetMatch.j0 k a0 a1 a2 a3 true) else (laws_FnSetMatch.j0 k a0 a1 a2 a3 (decide ((a3.size : Int) > 2147483647)))))) = some r := h
  clear h
  have HC5 := Aside0.mk H
  clear H
  go_enter Try.func5, Try.ntmps5
  go_upto_region 1 with (fail)
  go_cut [27] (fun v27 wc => ∃ (kq : Nat) (x27_4 : Bool), v27 = .bool x27_4 ∧ Aside0 (laws_FnSetMatch.j0 kq a0 a1 a2 a3 x27_4 = some r) ∧ Aside0 (kq ≤ k) ∧ Aside0 (Below w.heap.size w wc))
  case first =>
    have H := HC5.out
    clear HC5
    by_cases c6 : (a0.size : Int) > 2147483647
    · rw [if_pos c6] at H
      have c6b0 : decide (2147483647 < (a0.size : Int)) = true := decide_eq_true c6
      have c6b1 : decide (2147483647 < a0.size) = true := decide_eq_true (by omega)
      clear c6
      (first | rw [c6b0] | (simp only [i64_w, i32_w]; rw [c6b0]) | skip)
      have H' := Aside0.mk H
      clear H
      go_wp2
      go_meet
      case rel => exact ⟨_, (true), (by first | rfl | (simp; done) | (simp [*]; done)), H', ⟨by first | omega | exact Nat.le_refl _⟩, ⟨by repeat (first | (with_reducible first | exact HB.out | apply below_alloc | apply pw_below_drewN | apply below_drew1) | exact HB.out)⟩⟩
    · rw [if_neg c6] at H
      have c6b0 : decide (2147483647 < (a0.size : Int)) = false := decide_eq_false c6
      have c6b1 : decide (2147483647 < a0.size) = false := decide_eq_false (by omega)
      clear c6
      (first | rw [c6b0] | (simp only [i64_w, i32_w]; rw [c6b0]) | skip)
      by_cases c7 : (a1.size : Int) > 2147483647
      · rw [if_pos c7] at H
        have c7b0 : decide (2147483647 < (a1.size : Int)) = true := decide_eq_true c7
        have c7b1 : decide (2147483647 < a1.size) = true := decide_eq_true (by omega)
        clear c7
        have H' := Aside0.mk H
        clear H
        go_wp2
        go_meet
        case rel => exact ⟨_, (true), (by first | rfl | (simp; done) | (simp [*]; done)), H', ⟨by first | omega | exact Nat.le_refl _⟩, ⟨by repeat (first | (with_reducible first | exact HB.out | apply below_alloc | apply pw_below_drewN | apply below_drew1) | exact HB.out)⟩⟩
      · rw [if_neg c7] at H
        have c7b0 : decide (2147483647 < (a1.size : Int)) = false := decide_eq_false c7
        have c7b1 : decide (2147483647 < a1.size) = false := decide_eq_false (by omega)
        clear c7
        by_cases c8 : (a2.size : Int) > 2147483647
        · rw [if_pos c8] at H
          have c8b0 : decide (2147483647 < (a2.size : Int)) = true := decide_eq_true c8
          have c8b1 : decide (2147483647 < a2.size) = true := decide_eq_true (by omega)
          clear c8
          have H' := Aside0.mk H
          clear H
          go_wp2
          go_meet
          case rel => exact ⟨_, (true), (by first | rfl | (simp; done) | (simp [*]; done)), H', ⟨by first | omega | exact Nat.le_refl _⟩, ⟨by repeat (first | (with_reducible first | exact HB.out | apply below_alloc | apply pw_below_drewN | apply below_drew1) | exact HB.out)⟩⟩
        · rw [if_neg c8] at H
          have c8b0 : decide (2147483647 < (a2.size : Int)) = false := decide_eq_false c8
          have c8b1 : decide (2147483647 < a2.size) = false := decide_eq_false (by omega)
          clear c8
          have H' := Aside0.mk H
          clear H
          go_wp2
          go_meet
          case rel => exact ⟨_, (decide ((a3.size : Int) > 2147483647)), (by first | rfl | (simp; done) | (simp [*]; done)), H', ⟨by first | omega | exact Nat.le_refl _⟩, ⟨by repeat (first | (with_reducible first | exact HB.out | apply below_alloc | apply pw_below_drewN | apply below_drew1) | exact HB.out)⟩⟩
  case rest =>
    clear HC5
    try clear p2
    try clear c5
    try clear c6
    try clear c6b0
    try clear c6b1
    try clear c7
    try clear c7b0
    try clear c7b1
    try clear c8
    try clear c8b0
    try clear c8b1
    obtain ⟨kq, x27_4, rfl, HA, HJ4, HB⟩ := hcut
    cases kq with
    | zero => exact absurd HA.out (by simp [laws_FnSetMatch.j0])
    | succ kj4 =>
      have H := HA.out
      clear HA
      simp only [laws_FnSetMatch.j0] at H
      by_cases c9 : x27_4 = true
      · subst c9
        have H1 : (some true) = some r := by rw [if_pos rfl] at H; exact H
        clear H
        have H := H1
        clear H1
        obtain rfl := Option.some.inj H
        go_wp2
        go_ret
        exact ⟨by first | rfl | (simp [errW_none, errW_some] <;> rfl) | (simp [*, errW_none, errW_some] <;> rfl), by repeat (first | (with_reducible first | exact HB.out | apply below_alloc | apply pw_below_drewN | apply below_drew1) | exact HB.out)⟩
      · replace c9 := Bool.eq_false_iff.mpr c9
        subst c9
        have H1 : (if (wrap64 ((wrap64 ((wrap64 ((a0.size : Int) + (a1.size : Int))) + (a2.size : Int))) + (a3.size : Int))) > 300 then (some true) else (if a2.toList = ([] : List UInt8) then ((spec_SetMeantIn.f kj4 (([a1] : List ByteArray)) a3).bind fun t113 => ((impl_SetMatch.f a0 a1 a2 a3).bind fun t116 => (some (t116 == ((t113.length : Int) == 1))))) else (if a2.toList = a0.toList then ((spec_SetMeantIn.f kj4 (([a1] : List ByteArray)) a3).bind fun t120 => ((impl_SetMatch.f a0 a1 a2 a3).bind fun t123 => (some (t123 == ((t120.length : Int) == 1))))) else ((impl_SetMatch.f a0 a1 a2 a3).bind fun t124 => (some (t124 == false)))))) = some r := by rw [if_neg (show ¬ (false = true) by decide)] at H; exact H
        clear H
        have H := H1
        clear H1
        by_cases c10 : (wrap64 ((wrap64 ((wrap64 ((a0.size : Int) + (a1.size : Int))) + (a2.size : Int))) + (a3.size : Int))) > 300
        · rw [if_pos c10] at H
          have c10b0 : decide (300 < (wrap64 ((wrap64 ((wrap64 ((a0.size : Int) + (a1.size : Int))) + (a2.size : Int))) + (a3.size : Int)))) = true := decide_eq_true c10
          clear c10
          obtain rfl := Option.some.inj H
          go_wp2
          go_ret
          exact ⟨by first | rfl | (simp [errW_none, errW_some] <;> rfl) | (simp [*, errW_none, errW_some] <;> rfl), by repeat (first | (with_reducible first | exact HB.out | apply below_alloc | apply pw_below_drewN | apply below_drew1) | exact HB.out)⟩
        · rw [if_neg c10] at H
          have c10b0 : decide (300 < (wrap64 ((wrap64 ((wrap64 ((a0.size : Int) + (a1.size : Int))) + (a2.size : Int))) + (a3.size : Int)))) = false := decide_eq_false c10
          clear c10
          by_cases c11 : a2.toList = ([] : List UInt8)
          · rw [if_pos c11] at H
            have c11b0 : (a2.toList == ([] : List UInt8)) = true := beq_iff_eq.mpr c11
            have c11b1 : (a2.toList != ([] : List UInt8)) = false := bne_eq_false_iff_eq.mpr c11
            clear c11
            obtain ⟨y110, hy110⟩ : ∃ y_ : List ByteArray, y_ = (([a1] : List ByteArray)) := ⟨_, rfl⟩
            replace H : ((spec_SetMeantIn.f kj4 y110 a3).bind fun t113 => ((impl_SetMatch.f a0 a1 a2 a3).bind fun t116 => (some (t116 == ((t113.length : Int) == 1))))) = some r := by first | (rw [hy110]; with_reducible exact H) | (have H2_ := (Option.bind_some _ _).symm.trans H; rw [hy110]; with_reducible exact H2_) | (have H2_ := (Option.bind_some _ _).symm.trans H; with_reducible exact H2_) | with_reducible exact H | (rw [hy110]; exact H) | exact H
            have Ny110 := Aside0.mk hy110
            clear hy110
            replace H := Option.bind_eq_some_iff.mp H
            obtain ⟨t113, A120, H⟩ := H
            replace H : ((impl_SetMatch.f a0 a1 a2 a3).bind fun t116 => (some (t116 == ((t113.length : Int) == 1)))) = some r := H
            have A12 := Aside0.mk A120
            clear A120
            replace H := Option.bind_eq_some_iff.mp H
            obtain ⟨t116, A130, H⟩ := H
            replace H : (some (t116 == ((t113.length : Int) == 1))) = some r := H
            have A13 := Aside0.mk A130
            clear A130
            obtain rfl := Option.some.inj H
            go_wp2_with (first | ((with_reducible refine gate_dst (N := 49) rfl ?_); (try (refine gate_guard (by rfl) ?_; dsimp only)); refine Kd.R_lit Kd.string _ 9 ?hg (N := 49) ?hd (xs := ([a1] : List ByteArray)) (inner := [.string a1]) (ok := fun _ => True) (okp := fun _ => True) ?hr ?hp (fun _ hk => hk) trivial (Below.refl _ _) (Nat.le_refl _) (by simp) ?_; (case hd => rfl); (case hg => rfl); (case hr => first | (go_simp; done) | (go_simp; rfl)); (case hp => exact (Reps.one (show Kd.M Kd.string _ _ _ a1 [.string a1] from rfl) (Reps.none _ _))); intro v111 w14 ho15 hb hg_ hnew_; clear hg_ hnew_; (first | rw [← Ny110.out] at ho15 | (simp only [Int.reduceToNat] at ho15; rw [← Ny110.out] at ho15)); have n0_ := Aside0.mk (Kd.R_lower ho15 (below_size (by repeat (first | (with_reducible first | exact HB.out | apply below_alloc | apply pw_below_drewN | apply below_drew1) | exact HB.out)))); have n1_ := Aside0.mk (below_step (by repeat (first | (with_reducible first | exact HB.out | apply below_alloc | apply pw_below_drewN | apply below_drew1) | exact HB.out)) hb); clear HB; have HO112 := n0_; have HB := n1_; clear n0_ n1_; clear hb ho15; obtain ⟨Ao16, co16, eo16⟩ := Kd.R_slice HO112.out; subst eo16) | (go_at_call 13; (with_reducible refine (spec_SetMeantIn.calls kj4 _ _ y110 a3 t113 _ ?side1 ?side2 A12.out).mono ?_); (case side1 => repeat (first | exact (Kd.R_reads' HO112.out).2.2 | (with_reducible refine Kd.C_alloc ?_ _) | (with_reducible refine Kd.C_drewN ?_ _) | (with_reducible refine Kd.C_drew ?_))); (case side2 => exact (Kd.R_reads' HO112.out).2.1); rintro e w17 ⟨v114, rfl, ho0, hb⟩; have n0_ := Aside0.mk (Kd.R_elder' (by (with_reducible repeat (first | apply Kd.R_alloc | apply Kd.R_drewN | apply Kd.R_drew)); exact HO112.out) (Kd.R_base ho0) hb); have n1_ := Aside0.mk (Kd.R_lower (Kd.R_new' ho0 (Kd.R_lt (by (with_reducible repeat (first | apply Kd.R_alloc | apply Kd.R_drewN | apply Kd.R_drew)); exact HO112.out))) (below_size (by repeat (first | (with_reducible first | exact HB.out | apply below_alloc | apply pw_below_drewN | apply below_drew1) | exact HB.out)))); have n2_ := Aside0.mk (below_step (by repeat (first | (with_reducible first | exact HB.out | apply below_alloc | apply pw_below_drewN | apply below_drew1) | exact HB.out)) hb); clear HO112; clear HB; have HO112 := n0_; have HO115 := n1_; have HB := n2_; clear n0_ n1_ n2_; (try clear hb); (try clear hb2); (try clear hk); (try clear hi); (try clear ho0); obtain ⟨Ao18, co18, eo18⟩ := Kd.R_slice HO115.out; subst eo18) | ((with_reducible refine gate_callee (f := 14) rfl ?_); refine goesL_ (some 59) rfl rfl Try.func14 (by kernel_rfl) rfl #[.string a0, .string a1, .string a2, .string a3] rfl (by (try simp only [List.map_toArray, List.map_cons, List.map_nil]); first | done | rfl | (simp only [List.length_drop, List.length_take]; rfl)) ?_; (with_reducible refine (impl_SetMatch.calls a0 a1 a2 a3 t116 _ A13.out).mono ?_); rintro e w' ⟨rfl, ⟨nd, rfl⟩⟩; refine ⟨_, rfl, ?_⟩))
            go_ret
            exact ⟨by first | rfl | (simp [errW_none, errW_some] <;> rfl) | (simp [*, errW_none, errW_some] <;> rfl), by repeat (first | (with_reducible first | exact HB.out | apply below_alloc | apply pw_below_drewN | apply below_drew1) | exact HB.out)⟩
          · rw [if_neg c11] at H
            have c11b0 : (a2.toList == ([] : List UInt8)) = false := beq_eq_false_iff_ne.mpr c11
            have c11b1 : (a2.toList != ([] : List UInt8)) = true := bne_iff_ne.mpr c11
            by_cases c19 : a2.toList = a0.toList
            · rw [if_pos c19] at H
              have c19b0 : (a2.toList == a0.toList) = true := beq_iff_eq.mpr c19
              have c19b1 : (a2.toList != a0.toList) = false := bne_eq_false_iff_eq.mpr c19
              clear c19
              obtain ⟨y117, hy117⟩ : ∃ y_ : List ByteArray, y_ = (([a1] : List ByteArray)) := ⟨_, rfl⟩
              replace H : ((spec_SetMeantIn.f kj4 y117 a3).bind fun t120 => ((impl_SetMatch.f a0 a1 a2 a3).bind fun t123 => (some (t123 == ((t120.length : Int) == 1))))) = some r := by first | (rw [hy117]; with_reducible exact H) | (have H2_ := (Option.bind_some _ _).symm.trans H; rw [hy117]; with_reducible exact H2_) | (have H2_ := (Option.bind_some _ _).symm.trans H; with_reducible exact H2_) | with_reducible exact H | (rw [hy117]; exact H) | exact H
              have Ny117 := Aside0.mk hy117
              clear hy117
              replace H := Option.bind_eq_some_iff.mp H
              obtain ⟨t120, A200, H⟩ := H
              replace H : ((impl_SetMatch.f a0 a1 a2 a3).bind fun t123 => (some (t123 == ((t120.length : Int) == 1)))) = some r := H
              have A20 := Aside0.mk A200
              clear A200
              replace H := Option.bind_eq_some_iff.mp H
              obtain ⟨t123, A210, H⟩ := H
              replace H : (some (t123 == ((t120.length : Int) == 1))) = some r := H
              have A21 := Aside0.mk A210
              clear A210
              obtain rfl := Option.some.inj H
              go_wp2_with (first | ((with_reducible refine gate_dst (N := 49) rfl ?_); (try (refine gate_guard (by rfl) ?_; dsimp only)); refine Kd.R_lit Kd.string _ 9 ?hg (N := 49) ?hd (xs := ([a1] : List ByteArray)) (inner := [.string a1]) (ok := fun _ => True) (okp := fun _ => True) ?hr ?hp (fun _ hk => hk) trivial (Below.refl _ _) (Nat.le_refl _) (by simp) ?_; (case hd => rfl); (case hg => rfl); (case hr => first | (go_simp; done) | (go_simp; rfl)); (case hp => exact (Reps.one (show Kd.M Kd.string _ _ _ a1 [.string a1] from rfl) (Reps.none _ _))); intro v118 w22 ho23 hb hg_ hnew_; clear hg_ hnew_; (first | rw [← Ny117.out] at ho23 | (simp only [Int.reduceToNat] at ho23; rw [← Ny117.out] at ho23)); have n0_ := Aside0.mk (Kd.R_lower ho23 (below_size (by repeat (first | (with_reducible first | exact HB.out | apply below_alloc | apply pw_below_drewN | apply below_drew1) | exact HB.out)))); have n1_ := Aside0.mk (below_step (by repeat (first | (with_reducible first | exact HB.out | apply below_alloc | apply pw_below_drewN | apply below_drew1) | exact HB.out)) hb); clear HB; have HO119 := n0_; have HB := n1_; clear n0_ n1_; clear hb ho23; obtain ⟨Ao24, co24, eo24⟩ := Kd.R_slice HO119.out; subst eo24) | (go_at_call 13; (with_reducible refine (spec_SetMeantIn.calls kj4 _ _ y117 a3 t120 _ ?side1 ?side2 A20.out).mono ?_); (case side1 => repeat (first | exact (Kd.R_reads' HO119.out).2.2 | (with_reducible refine Kd.C_alloc ?_ _) | (with_reducible refine Kd.C_drewN ?_ _) | (with_reducible refine Kd.C_drew ?_))); (case side2 => exact (Kd.R_reads' HO119.out).2.1); rintro e w25 ⟨v121, rfl, ho0, hb⟩; have n0_ := Aside0.mk (Kd.R_elder' (by (with_reducible repeat (first | apply Kd.R_alloc | apply Kd.R_drewN | apply Kd.R_drew)); exact HO119.out) (Kd.R_base ho0) hb); have n1_ := Aside0.mk (Kd.R_lower (Kd.R_new' ho0 (Kd.R_lt (by (with_reducible repeat (first | apply Kd.R_alloc | apply Kd.R_drewN | apply Kd.R_drew)); exact HO119.out))) (below_size (by repeat (first | (with_reducible first | exact HB.out | apply below_alloc | apply pw_below_drewN | apply below_drew1) | exact HB.out)))); have n2_ := Aside0.mk (below_step (by repeat (first | (with_reducible first | exact HB.out | apply below_alloc | apply pw_below_drewN | apply below_drew1) | exact HB.out)) hb); clear HO119; clear HB; have HO119 := n0_; have HO122 := n1_; have HB := n2_; clear n0_ n1_ n2_; (try clear hb); (try clear hb2); (try clear hk); (try clear hi); (try clear ho0); obtain ⟨Ao26, co26, eo26⟩ := Kd.R_slice HO122.out; subst eo26) | ((with_reducible refine gate_callee (f := 14) rfl ?_); refine goesL_ (some 59) rfl rfl Try.func14 (by kernel_rfl) rfl #[.string a0, .string a1, .string a2, .string a3] rfl (by (try simp only [List.map_toArray, List.map_cons, List.map_nil]); first | done | rfl | (simp only [List.length_drop, List.length_take]; rfl)) ?_; (with_reducible refine (impl_SetMatch.calls a0 a1 a2 a3 t123 _ A21.out).mono ?_); rintro e w' ⟨rfl, ⟨nd, rfl⟩⟩; refine ⟨_, rfl, ?_⟩))
              go_ret
              exact ⟨by first | rfl | (simp [errW_none, errW_some] <;> rfl) | (simp [*, errW_none, errW_some] <;> rfl), by repeat (first | (with_reducible first | exact HB.out | apply below_alloc | apply pw_below_drewN | apply below_drew1) | exact HB.out)⟩
            · rw [if_neg c19] at H
              have c19b0 : (a2.toList == a0.toList) = false := beq_eq_false_iff_ne.mpr c19
              have c19b1 : (a2.toList != a0.toList) = true := bne_iff_ne.mpr c19
              replace H := Option.bind_eq_some_iff.mp H
              obtain ⟨t124, A270, H⟩ := H
              replace H : (some (t124 == false)) = some r := H
              have A27 := Aside0.mk A270
              clear A270
              obtain rfl := Option.some.inj H
              go_wp2_with (first | ((with_reducible refine gate_callee (f := 14) rfl ?_); refine goesL_ (some 59) rfl rfl Try.func14 (by kernel_rfl) rfl #[.string a0, .string a1, .string a2, .string a3] rfl (by (try simp only [List.map_toArray, List.map_cons, List.map_nil]); first | done | rfl | (simp only [List.length_drop, List.length_take]; rfl)) ?_; (with_reducible refine (impl_SetMatch.calls a0 a1 a2 a3 t124 _ A27.out).mono ?_); rintro e w' ⟨rfl, ⟨nd, rfl⟩⟩; refine ⟨_, rfl, ?_⟩))
              go_ret
              exact ⟨by first | rfl | (simp [errW_none, errW_some] <;> rfl) | (simp [*, errW_none, errW_some] <;> rfl), by repeat (first | (with_reducible first | exact HB.out | apply below_alloc | apply pw_below_drewN | apply below_drew1) | exact HB.out)⟩

/-- THE ONE PURE STATEMENT of laws_FnSetMatch: yours. -/
def laws_FnSetMatch.Pure : Prop := ∀ (a0 : ByteArray) (a1 : ByteArray) (a2 : ByteArray) (a3 : ByteArray), a0.size ≤ 140737488351232 → a1.size ≤ 140737488351232 → a2.size ≤ 140737488351232 → a3.size ≤ 140737488351232 → ∃ k, laws_FnSetMatch.f k a0 a1 a2 a3 = some true
theorem laws_FnSetMatch.walk (P : laws_FnSetMatch.Pure) (a0 : ByteArray) (a1 : ByteArray) (a2 : ByteArray) (a3 : ByteArray) (w : World) (w0 : a0.size ≤ 140737488351232) (w1 : a1.size ≤ 140737488351232) (w2 : a2.size ≤ 140737488351232) (w3 : a3.size ≤ 140737488351232) :
    Calls Try.prog 5 #[.string a0, .string a1, .string a2, .string a3] w fun e w' => e = .returned (.bool true) ∧ Below w.heap.size w w' := by
  obtain ⟨k, h⟩ := P a0 a1 a2 a3 w0 w1 w2 w3
  refine (laws_FnSetMatch.calls k a0 a1 a2 a3 true w h).mono ?_
  rintro e w' ⟨rfl, hd⟩
  exact ⟨rfl, hd⟩

end Go.Proofs.Ytcmifkepleedmaa.PFnSetMatch
