-- PRINTED BY print.sh 35421559b90ae4d0a3588c463048766b98c2df88dd9212a6774a882060cdf62d: not written by this session
import Derived.Test.YtcmifkepleedmaaPFnRefFamiliarizex0
namespace Go.Proofs.Ytcmifkepleedmaa.PFnRefFamiliarize
open Go.RowKit Go.Proofs.YtcmifkepleedmaaW.PrintWords Go.Proofs.YtcmifkepleedmaaW.PrintLast Go.Proofs.YtcmifkepleedmaaW.PrintMore
attribute [local go_sem] max2_int min2_int max_two min_two max_three min_three max_four min_four   -- for this text's walks alone
set_option linter.unusedVariables false
set_option linter.unusedSimpArgs false

/-! ### stringslite_HasPrefix: function 48 -/
def stringslite_HasPrefix.f (a0 : ByteArray) (a1 : ByteArray) : Option (Bool) := if (a0.size : Int) ≥ (a1.size : Int) then (if 0 ≤ (a1.size : Int) then (if (a1.size : Int) ≤ (a0.size : Int) then (some ((a0.extract 0 ((a1.size : Int) : Int).toNat).toList == a1.toList)) else (none)) else (none)) else (some false)
set_option maxHeartbeats 8000000 in
set_option maxRecDepth 100000 in
theorem stringslite_HasPrefix.calls (a0 : ByteArray) (a1 : ByteArray) (r : Bool) (w : World) (h : stringslite_HasPrefix.f a0 a1 = some r) :
    Calls Try.prog 48 #[.string a0, .string a1] w fun e w' => e = .returned (.bool r) ∧ Drawn0 w w' := by
  have H : (if (a0.size : Int) ≥ (a1.size : Int) then (if 0 ≤ (a1.size : Int) then (if (a1.size : Int) ≤ (a0.size : Int) then (some ((a0.extract 0 ((a1.size : Int) : Int).toNat).toList == a1.toList)) else (none)) else (none)) else (some false)) = some r := h
  clear h
  by_cases c3 : (a0.size : Int) ≥ (a1.size : Int)
  · rw [if_pos c3] at H
    have c3b0 : decide ((a1.size : Int) ≤ (a0.size : Int)) = true := decide_eq_true c3
    have c3b1 : decide (a1.size ≤ a0.size) = true := decide_eq_true (Int.ofNat_le.mp c3)
    clear c3
    by_cases c4 : 0 ≤ (a1.size : Int)
    · rw [if_pos c4] at H
      have c4b0 := eq_true c4
      have c4b1 : decide (0 ≤ (a1.size : Int)) = true := decide_eq_true c4
      clear c4
      by_cases c5 : (a1.size : Int) ≤ (a0.size : Int)
      · rw [if_pos c5] at H
        have c5b0 := eq_true c5
        have c5b1 : decide ((a1.size : Int) ≤ (a0.size : Int)) = true := decide_eq_true c5
        clear c5
        obtain rfl := Option.some.inj H
        go_enter Try.func48, Try.ntmps48
        go_wp2
        go_ret
        exact ⟨by first | rfl | (simp; done) | (simp [*]; done), by repeat (first | exact Drawn0.refl _ | apply Drawn0.step)⟩
      · rw [if_neg c5] at H
        exact absurd H (by simp)
    · rw [if_neg c4] at H
      exact absurd H (by simp)
  · rw [if_neg c3] at H
    have c3b0 : decide ((a1.size : Int) ≤ (a0.size : Int)) = false := decide_eq_false c3
    have c3b1 : decide (a1.size ≤ a0.size) = false := decide_eq_false (fun h => c3 (Int.ofNat_le.mpr h))
    clear c3
    obtain rfl := Option.some.inj H
    go_enter Try.func48, Try.ntmps48
    go_wp2
    go_ret
    exact ⟨by first | rfl | (simp; done) | (simp [*]; done), by repeat (first | exact Drawn0.refl _ | apply Drawn0.step)⟩

/-! ### strings_HasPrefix: function 44 -/
def strings_HasPrefix.f (a0 : ByteArray) (a1 : ByteArray) : Option (Bool) := (stringslite_HasPrefix.f a0 a1).bind fun t101 => (some t101)
set_option maxHeartbeats 8000000 in
set_option maxRecDepth 100000 in
theorem strings_HasPrefix.calls (a0 : ByteArray) (a1 : ByteArray) (r : Bool) (w : World) (h : strings_HasPrefix.f a0 a1 = some r) :
    Calls Try.prog 44 #[.string a0, .string a1] w fun e w' => e = .returned (.bool r) ∧ Drawn0 w w' := by
  have H : ((stringslite_HasPrefix.f a0 a1).bind fun t101 => (some t101)) = some r := h
  clear h
  replace H := Option.bind_eq_some_iff.mp H
  obtain ⟨t101, A30, H⟩ := H
  replace H : (some t101) = some r := H
  have A3 := Aside0.mk A30
  clear A30
  obtain rfl := Option.some.inj H
  go_enter Try.func44, Try.ntmps44
  go_wp2_with (first | ((with_reducible refine gate_callee (f := 48) rfl ?_); refine goesL_ (some 7) rfl rfl Try.func48 (by kernel_rfl) rfl #[.string a0, .string a1] rfl (by (try simp only [List.map_toArray, List.map_cons, List.map_nil]); first | done | rfl | (simp only [List.length_drop, List.length_take]; rfl)) ?_; (with_reducible refine (stringslite_HasPrefix.calls a0 a1 t101 _ A3.out).mono ?_); rintro e w' ⟨rfl, ⟨nd, rfl⟩⟩; refine ⟨_, rfl, ?_⟩))
  go_ret
  exact ⟨by first | rfl | (simp; done) | (simp [*]; done), by repeat (first | exact Drawn0.refl _ | apply Drawn0.step)⟩

/-! ### stringslite_TrimPrefix: function 49 -/
def stringslite_TrimPrefix.f (a0 : ByteArray) (a1 : ByteArray) : Option (ByteArray) := (stringslite_HasPrefix.f a0 a1).bind fun t102 => (if t102 = true then (if 0 ≤ (a1.size : Int) then (if (a1.size : Int) ≤ (a0.size : Int) then (some (a0.extract ((a1.size : Int) : Int).toNat a0.size)) else (none)) else (none)) else (some a0))
set_option maxHeartbeats 8000000 in
set_option maxRecDepth 100000 in
theorem stringslite_TrimPrefix.calls (a0 : ByteArray) (a1 : ByteArray) (r : ByteArray) (w : World) (h : stringslite_TrimPrefix.f a0 a1 = some r) :
    Calls Try.prog 49 #[.string a0, .string a1] w fun e w' => e = .returned (.string r) ∧ Drawn0 w w' := by
  have H : ((stringslite_HasPrefix.f a0 a1).bind fun t102 => (if t102 = true then (if 0 ≤ (a1.size : Int) then (if (a1.size : Int) ≤ (a0.size : Int) then (some (a0.extract ((a1.size : Int) : Int).toNat a0.size)) else (none)) else (none)) else (some a0))) = some r := h
  clear h
  replace H := Option.bind_eq_some_iff.mp H
  obtain ⟨t102, A30, H⟩ := H
  replace H : (if t102 = true then (if 0 ≤ (a1.size : Int) then (if (a1.size : Int) ≤ (a0.size : Int) then (some (a0.extract ((a1.size : Int) : Int).toNat a0.size)) else (none)) else (none)) else (some a0)) = some r := H
  have A3 := Aside0.mk A30
  clear A30
  by_cases c4 : t102 = true
  · subst c4
    have H1 : (if 0 ≤ (a1.size : Int) then (if (a1.size : Int) ≤ (a0.size : Int) then (some (a0.extract ((a1.size : Int) : Int).toNat a0.size)) else (none)) else (none)) = some r := by rw [if_pos rfl] at H; exact H
    clear H
    have H := H1
    clear H1
    by_cases c5 : 0 ≤ (a1.size : Int)
    · rw [if_pos c5] at H
      have c5b0 := eq_true c5
      have c5b1 : decide (0 ≤ (a1.size : Int)) = true := decide_eq_true c5
      clear c5
      by_cases c6 : (a1.size : Int) ≤ (a0.size : Int)
      · rw [if_pos c6] at H
        have c6b0 := eq_true c6
        have c6b1 : decide ((a1.size : Int) ≤ (a0.size : Int)) = true := decide_eq_true c6
        clear c6
        obtain rfl := Option.some.inj H
        go_enter Try.func49, Try.ntmps49
        go_wp2_with (first | ((with_reducible refine gate_callee (f := 48) rfl ?_); refine goesL_ (some 7) rfl rfl Try.func48 (by kernel_rfl) rfl #[.string a0, .string a1] rfl (by (try simp only [List.map_toArray, List.map_cons, List.map_nil]); first | done | rfl | (simp only [List.length_drop, List.length_take]; rfl)) ?_; (with_reducible refine (stringslite_HasPrefix.calls a0 a1 true _ A3.out).mono ?_); rintro e w' ⟨rfl, ⟨nd, rfl⟩⟩; refine ⟨_, rfl, ?_⟩))
        go_ret
        exact ⟨by first | rfl | (simp; done) | (simp [*]; done), by repeat (first | exact Drawn0.refl _ | apply Drawn0.step)⟩
      · rw [if_neg c6] at H
        exact absurd H (by simp)
    · rw [if_neg c5] at H
      exact absurd H (by simp)
  · replace c4 := Bool.eq_false_iff.mpr c4
    subst c4
    have H1 : (some a0) = some r := by rw [if_neg (show ¬ (false = true) by decide)] at H; exact H
    clear H
    have H := H1
    clear H1
    obtain rfl := Option.some.inj H
    go_enter Try.func49, Try.ntmps49
    go_wp2_with (first | ((with_reducible refine gate_callee (f := 48) rfl ?_); refine goesL_ (some 7) rfl rfl Try.func48 (by kernel_rfl) rfl #[.string a0, .string a1] rfl (by (try simp only [List.map_toArray, List.map_cons, List.map_nil]); first | done | rfl | (simp only [List.length_drop, List.length_take]; rfl)) ?_; (with_reducible refine (stringslite_HasPrefix.calls a0 a1 false _ A3.out).mono ?_); rintro e w' ⟨rfl, ⟨nd, rfl⟩⟩; refine ⟨_, rfl, ?_⟩))
    go_ret
    exact ⟨by first | rfl | (simp; done) | (simp [*]; done), by repeat (first | exact Drawn0.refl _ | apply Drawn0.step)⟩

/-! ### strings_TrimPrefix: function 45 -/
def strings_TrimPrefix.f (a0 : ByteArray) (a1 : ByteArray) : Option (ByteArray) := (stringslite_TrimPrefix.f a0 a1).bind fun t103 => (some t103)
set_option maxHeartbeats 8000000 in
set_option maxRecDepth 100000 in
theorem strings_TrimPrefix.calls (a0 : ByteArray) (a1 : ByteArray) (r : ByteArray) (w : World) (h : strings_TrimPrefix.f a0 a1 = some r) :
    Calls Try.prog 45 #[.string a0, .string a1] w fun e w' => e = .returned (.string r) ∧ Drawn0 w w' := by
  have H : ((stringslite_TrimPrefix.f a0 a1).bind fun t103 => (some t103)) = some r := h
  clear h
  replace H := Option.bind_eq_some_iff.mp H
  obtain ⟨t103, A30, H⟩ := H
  replace H : (some t103) = some r := H
  have A3 := Aside0.mk A30
  clear A30
  obtain rfl := Option.some.inj H
  go_enter Try.func45, Try.ntmps45
  go_wp2_with (first | ((with_reducible refine gate_callee (f := 49) rfl ?_); refine goesL_ (some 7) rfl rfl Try.func49 (by kernel_rfl) rfl #[.string a0, .string a1] rfl (by (try simp only [List.map_toArray, List.map_cons, List.map_nil]); first | done | rfl | (simp only [List.length_drop, List.length_take]; rfl)) ?_; (with_reducible refine (stringslite_TrimPrefix.calls a0 a1 t103 _ A3.out).mono ?_); rintro e w' ⟨rfl, ⟨nd, rfl⟩⟩; refine ⟨_, rfl, ?_⟩))
  go_ret
  exact ⟨by first | rfl | (simp; done) | (simp [*]; done), by repeat (first | exact Drawn0.refl _ | apply Drawn0.step)⟩

-- NOT PRINTED: function 50 (reference_zzIndexRune)

-- NOT PRINTED: function 46 (reference_zzContainsRune)

-- NOT PRINTED: function 42 (reference_familiarizeName)

-- NOT PRINTED: function 33 (reference_ZZFamiliarize)

-- NOT PRINTED: function 18 (impl_RefFamiliarize)

/-! ### spec_RefFirst: function 34 -/
def spec_RefFirst.l0 : Nat → ByteArray → Int → Int → Option (Int)
  | 0, _, _, _ => none
  | k + 1, x0, x1, x5 => if x5 < (x0.size : Int) then (if 0 ≤ x5 then (if (bt x0 x5) = x1 then (some x5) else (spec_RefFirst.l0 k x0 x1 (wrap64 (x5 + 1)))) else (none)) else (some (-1))
def spec_RefFirst.f (k : Nat) (a0 : ByteArray) (a1 : Int) : Option (Int) := spec_RefFirst.l0 k a0 a1 0
theorem spec_RefFirst.mono_l : ∀ k, (∀ y0 y1 y2, LeO (spec_RefFirst.l0 k y0 y1 y2) (spec_RefFirst.l0 (k + 1) y0 y1 y2))
  | 0 => fun _ _ _ r h => by simp [spec_RefFirst.l0] at h
  | k + 1 => by
    have ih0 := spec_RefFirst.mono_l k
    · intro y0 y1 y2
      unfold spec_RefFirst.l0
      repeat' first
      | (with_reducible exact ih0 _ _ _)
      | (with_reducible exact LeO.refl _)
      | (with_reducible exact LeO.none _)
      | (with_reducible refine LeO.ite ?_ ?_)
      | (with_reducible refine LeO.bind ?_ (fun _ => ?_))
      | exact ih0 _ _ _
      | exact LeO.none _
      | refine LeO.ite ?_ ?_
      | refine LeO.bind ?_ (fun _ => ?_)
theorem spec_RefFirst.mono : ∀ a0 a1 k, LeO (spec_RefFirst.f k a0 a1) (spec_RefFirst.f (k + 1) a0 a1) := by
  intro a0 a1 k
  have ih0 := spec_RefFirst.mono_l k
  unfold spec_RefFirst.f
  repeat' first
      | (with_reducible exact ih0 _ _ _)
      | (with_reducible exact LeO.refl _)
      | (with_reducible exact LeO.none _)
      | (with_reducible refine LeO.ite ?_ ?_)
      | (with_reducible refine LeO.bind ?_ (fun _ => ?_))
      | exact ih0 _ _ _
      | exact LeO.none _
      | refine LeO.ite ?_ ?_
      | refine LeO.bind ?_ (fun _ => ?_)
set_option maxHeartbeats 8000000 in
set_option maxRecDepth 100000 in
theorem spec_RefFirst.calls (k : Nat) (a0 : ByteArray) (a1 : Int) (r : Int) (w : World) (h : spec_RefFirst.f k a0 a1 = some r) :
    Calls Try.prog 34 #[.string a0, .int .u8 a1] w fun e w' => e = .returned (.int .i64 r) ∧ Drawn0 w w' := by
  have H : (spec_RefFirst.l0 k a0 a1 0) = some r := h
  clear h
  have H' := Aside0.mk H
  clear H
  go_enter Try.func34, Try.ntmps34
  go_wp2
  go_loopg [5] k (fun kq v5 w' => ∃ (x5_1 : Int), v5 = .int .i64 x5_1 ∧ Aside0 (spec_RefFirst.l0 kq a0 a1 x5_1 = some r) ∧ Aside0 (kq ≤ k) ∧ Drawn0 w w')
  case atStart => exact ⟨(0), (by first | rfl | (simp; done) | (simp [*]; done)), H', ⟨Nat.le_refl _⟩, by repeat (first | exact Drawn0.refl _ | apply Drawn0.step)⟩
  case round =>
    clear H'
    try clear p2
    obtain ⟨x5_1, rfl, HA, HK1, ⟨m1, rfl⟩⟩ := hrel
    cases gk with
    | zero => exact absurd HA.out (by simp [spec_RefFirst.l0])
    | succ k1 =>
      have H := HA.out
      clear HA
      simp only [spec_RefFirst.l0] at H
      by_cases c3 : x5_1 < (a0.size : Int)
      · rw [if_pos c3] at H
        have c3b0 : decide (x5_1 < (a0.size : Int)) = true := decide_eq_true c3
        clear c3
        by_cases c4 : 0 ≤ x5_1
        · rw [if_pos c4] at H
          have c4b0 : decide (0 ≤ x5_1) = true := decide_eq_true c4
          clear c4
          by_cases c6 : (bt a0 x5_1) = a1
          · rw [if_pos c6] at H
            have c6b0 : ((bt a0 x5_1) == a1) = true := beq_iff_eq.mpr c6
            have c6b1 : ((bt a0 x5_1) != a1) = false := bne_eq_false_iff_eq.mpr c6
            clear c6
            obtain rfl := Option.some.inj H
            have p5 : 0 ≤ (x5_1 : Int) := of_decide_eq_true (by first | (with_reducible assumption) | assumption)
            have q5 : x5_1 < (a0.size : Int) := of_decide_eq_true (by first | (with_reducible assumption) | assumption)
            have hx5 := bt_at a0 x5_1
            replace p5 := eq_true p5
            replace q5 := eq_true q5
            go_wp2
            go_ret
            exact ⟨by first | rfl | (simp; done) | (simp [*]; done), by repeat (first | exact Drawn0.refl _ | apply Drawn0.step)⟩
          · rw [if_neg c6] at H
            have c6b0 : ((bt a0 x5_1) == a1) = false := beq_eq_false_iff_ne.mpr c6
            have c6b1 : ((bt a0 x5_1) != a1) = true := bne_iff_ne.mpr c6
            have H' := Aside0.mk H
            clear H
            have p5 : 0 ≤ (x5_1 : Int) := of_decide_eq_true (by first | (with_reducible assumption) | assumption)
            have q5 : x5_1 < (a0.size : Int) := of_decide_eq_true (by first | (with_reducible assumption) | assumption)
            have hx5 := bt_at a0 x5_1
            replace p5 := eq_true p5
            replace q5 := eq_true q5
            go_wp2
            go_roundg k1
            case measure => have := HK1.out; omega
            case rel => exact ⟨(wrap64 (x5_1 + 1)), (by first | rfl | (simp; done) | (simp [*]; done)), H', ⟨by have := HK1.out; omega⟩, by repeat (first | exact Drawn0.refl _ | apply Drawn0.step)⟩
        · rw [if_neg c4] at H
          exact absurd H (by simp)
      · rw [if_neg c3] at H
        have c3b0 : decide (x5_1 < (a0.size : Int)) = false := decide_eq_false c3
        clear c3
        obtain rfl := Option.some.inj H
        go_wp2
        go_ret
        exact ⟨by first | rfl | (simp; done) | (simp [*]; done), by repeat (first | exact Drawn0.refl _ | apply Drawn0.step)⟩

/-! ### spec_RefFamiliarize: function 19 -/
def spec_RefFamiliarize.f (k : Nat) (a0 : ByteArray) (a1 : ByteArray) : Option (ByteArray × ByteArray) := if a0.toList = ([100, 111, 99, 107, 101, 114, 46, 105, 111] : List UInt8) then (if (a1.size : Int) ≥ 8 then (if 0 ≤ 8 then (if 8 ≤ (a1.size : Int) then (if (a1.extract 0 8).toList = ([108, 105, 98, 114, 97, 114, 121, 47] : List UInt8) then ((spec_RefFirst.f k (a1.extract 8 a1.size) 47).bind fun t104 => (if t104 < 0 then (some ((⟨#[]⟩ : ByteArray), a1.extract 8 a1.size)) else (some ((⟨#[]⟩ : ByteArray), a1)))) else (some ((⟨#[]⟩ : ByteArray), a1))) else (none)) else (none)) else (some ((⟨#[]⟩ : ByteArray), a1))) else (some (a0, a1))
theorem spec_RefFamiliarize.mono : ∀ a0 a1 k, LeO (spec_RefFamiliarize.f k a0 a1) (spec_RefFamiliarize.f (k + 1) a0 a1) := by
  intro a0 a1 k
  unfold spec_RefFamiliarize.f
  repeat' first
      | (with_reducible exact spec_RefFirst.mono _ _ _)
      | (with_reducible exact LeO.refl _)
      | (with_reducible exact LeO.none _)
      | (with_reducible refine LeO.ite ?_ ?_)
      | (with_reducible refine LeO.bind ?_ (fun _ => ?_))
      | exact spec_RefFirst.mono _ _ _
      | exact LeO.none _
      | refine LeO.ite ?_ ?_
      | refine LeO.bind ?_ (fun _ => ?_)
set_option maxHeartbeats 8000000 in
set_option maxRecDepth 100000 in
theorem spec_RefFamiliarize.calls (k : Nat) (a0 : ByteArray) (a1 : ByteArray) (r1 : ByteArray) (r2 : ByteArray) (w : World) (h : spec_RefFamiliarize.f k a0 a1 = some (r1, r2)) :
    Calls Try.prog 19 #[.string a0, .string a1] w fun e w' => e = .returned (.tuple #[.string r1, .string r2]) ∧ Drawn0 w w' := by
  have H : (if a0.toList = ([100, 111, 99, 107, 101, 114, 46, 105, 111] : List UInt8) then (if (a1.size : Int) ≥ 8 then (if 0 ≤ 8 then (if 8 ≤ (a1.size : Int) then (if (a1.extract 0 8).toList = ([108, 105, 98, 114, 97, 114, 121, 47] : List UInt8) then ((spec_RefFirst.f k (a1.extract 8 a1.size) 47).bind fun t104 => (if t104 < 0 then (some ((⟨#[]⟩ : ByteArray), a1.extract 8 a1.size)) else (some ((⟨#[]⟩ : ByteArray), a1)))) else (some ((⟨#[]⟩ : ByteArray), a1))) else (none)) else (none)) else (some ((⟨#[]⟩ : ByteArray), a1))) else (some (a0, a1))) = some (r1, r2) := h
  clear h
  by_cases c3 : a0.toList = ([100, 111, 99, 107, 101, 114, 46, 105, 111] : List UInt8)
  · rw [if_pos c3] at H
    have c3b0 : (a0.toList == ([100, 111, 99, 107, 101, 114, 46, 105, 111] : List UInt8)) = true := beq_iff_eq.mpr c3
    have c3b1 : (a0.toList != ([100, 111, 99, 107, 101, 114, 46, 105, 111] : List UInt8)) = false := bne_eq_false_iff_eq.mpr c3
    clear c3
    by_cases c4 : (a1.size : Int) ≥ 8
    · rw [if_pos c4] at H
      have c4b0 : decide (8 ≤ (a1.size : Int)) = true := decide_eq_true c4
      have c4b1 : decide (8 ≤ a1.size) = true := decide_eq_true (by omega)
      clear c4
      by_cases c5 : 0 ≤ 8
      · rw [if_pos c5] at H
        have c5b0 := eq_true c5
        have c5b1 : decide (0 ≤ 8) = true := decide_eq_true c5
        clear c5
        by_cases c6 : 8 ≤ (a1.size : Int)
        · rw [if_pos c6] at H
          have c6b0 := eq_true c6
          have c6b1 : decide (8 ≤ (a1.size : Int)) = true := decide_eq_true c6
          clear c6
          by_cases c7 : (a1.extract 0 8).toList = ([108, 105, 98, 114, 97, 114, 121, 47] : List UInt8)
          · rw [if_pos c7] at H
            have c7b0 : ((a1.extract 0 8).toList == ([108, 105, 98, 114, 97, 114, 121, 47] : List UInt8)) = true := beq_iff_eq.mpr c7
            have c7b1 : ((a1.extract 0 8).toList != ([108, 105, 98, 114, 97, 114, 121, 47] : List UInt8)) = false := bne_eq_false_iff_eq.mpr c7
            clear c7
            have c8b0 := eq_true (of_decide_eq_true (by first | (with_reducible assumption) | assumption) : 8 ≤ (a1.size : Int))
            replace H := Option.bind_eq_some_iff.mp H
            obtain ⟨t104, A90, H⟩ := H
            replace H : (if t104 < 0 then (some ((⟨#[]⟩ : ByteArray), a1.extract 8 a1.size)) else (some ((⟨#[]⟩ : ByteArray), a1))) = some (r1, r2) := H
            have A9 := Aside0.mk A90
            clear A90
            by_cases c10 : t104 < 0
            · rw [if_pos c10] at H
              have c10b0 : decide (t104 < 0) = true := decide_eq_true c10
              clear c10
              have c11b0 := eq_true (of_decide_eq_true (by first | (with_reducible assumption) | assumption) : 8 ≤ (a1.size : Int))
              simp only [Option.some.injEq, Prod.mk.injEq] at H
              obtain ⟨rfl, rfl⟩ := H
              go_enter Try.func19, Try.ntmps19
              go_wp2_with (first | (go_at_call 34; (with_reducible refine (spec_RefFirst.calls k (a1.extract 8 a1.size) 47 t104 _ A9.out).mono ?_); rintro e w' ⟨rfl, ⟨nd, rfl⟩⟩))
              go_ret2
              exact ⟨by first | rfl | (simp; done) | (simp [*]; done), by repeat (first | exact Drawn0.refl _ | apply Drawn0.step)⟩
            · rw [if_neg c10] at H
              have c10b0 : decide (t104 < 0) = false := decide_eq_false c10
              clear c10
              simp only [Option.some.injEq, Prod.mk.injEq] at H
              obtain ⟨rfl, rfl⟩ := H
              go_enter Try.func19, Try.ntmps19
              go_wp2_with (first | (go_at_call 34; (with_reducible refine (spec_RefFirst.calls k (a1.extract 8 a1.size) 47 t104 _ A9.out).mono ?_); rintro e w' ⟨rfl, ⟨nd, rfl⟩⟩))
              go_ret2
              exact ⟨by first | rfl | (simp; done) | (simp [*]; done), by repeat (first | exact Drawn0.refl _ | apply Drawn0.step)⟩
          · rw [if_neg c7] at H
            have c7b0 : ((a1.extract 0 8).toList == ([108, 105, 98, 114, 97, 114, 121, 47] : List UInt8)) = false := beq_eq_false_iff_ne.mpr c7
            have c7b1 : ((a1.extract 0 8).toList != ([108, 105, 98, 114, 97, 114, 121, 47] : List UInt8)) = true := bne_iff_ne.mpr c7
            simp only [Option.some.injEq, Prod.mk.injEq] at H
            obtain ⟨rfl, rfl⟩ := H
            go_enter Try.func19, Try.ntmps19
            go_wp2
            go_ret2
            exact ⟨by first | rfl | (simp; done) | (simp [*]; done), by repeat (first | exact Drawn0.refl _ | apply Drawn0.step)⟩
        · rw [if_neg c6] at H
          exact absurd H (by simp)
      · rw [if_neg c5] at H
        exact absurd H (by simp)
    · rw [if_neg c4] at H
      have c4b0 : decide (8 ≤ (a1.size : Int)) = false := decide_eq_false c4
      have c4b1 : decide (8 ≤ a1.size) = false := decide_eq_false (by omega)
      clear c4
      simp only [Option.some.injEq, Prod.mk.injEq] at H
      obtain ⟨rfl, rfl⟩ := H
      go_enter Try.func19, Try.ntmps19
      go_wp2
      go_ret2
      exact ⟨by first | rfl | (simp; done) | (simp [*]; done), by repeat (first | exact Drawn0.refl _ | apply Drawn0.step)⟩
  · rw [if_neg c3] at H
    have c3b0 : (a0.toList == ([100, 111, 99, 107, 101, 114, 46, 105, 111] : List UInt8)) = false := beq_eq_false_iff_ne.mpr c3
    have c3b1 : (a0.toList != ([100, 111, 99, 107, 101, 114, 46, 105, 111] : List UInt8)) = true := bne_iff_ne.mpr c3
    simp only [Option.some.injEq, Prod.mk.injEq] at H
    obtain ⟨rfl, rfl⟩ := H
    go_enter Try.func19, Try.ntmps19
    go_wp2
    go_ret2
    exact ⟨by first | rfl | (simp; done) | (simp [*]; done), by repeat (first | exact Drawn0.refl _ | apply Drawn0.step)⟩

-- NOT PRINTED: function 7 (laws_FnRefFamiliarize)

end Go.Proofs.Ytcmifkepleedmaa.PFnRefFamiliarize
