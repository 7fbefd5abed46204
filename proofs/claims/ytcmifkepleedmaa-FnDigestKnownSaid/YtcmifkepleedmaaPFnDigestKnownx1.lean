-- PRINTED BY print.sh 35421559b90ae4d0a3588c463048766b98c2df88dd9212a6774a882060cdf62d: not written by this session
import Derived.Test.YtcmifkepleedmaaPFnDigestKnownx0
namespace Go.Proofs.Ytcmifkepleedmaa.PFnDigestKnown
open Go.RowKit Go.Proofs.YtcmifkepleedmaaW.PrintWords Go.Proofs.YtcmifkepleedmaaW.PrintLast Go.Proofs.YtcmifkepleedmaaW.PrintMore
attribute [local go_sem] max2_int min2_int max_two min_two max_three min_three max_four min_four   -- for this text's walks alone
set_option linter.unusedVariables false
set_option linter.unusedSimpArgs false

/-! ### spec_DigestSize: function 10 -/
def spec_DigestSize.f (a0 : ByteArray) : Option (Int) := if a0.toList = ([115, 104, 97, 50, 53, 54] : List UInt8) then (some 32) else (if a0.toList = ([115, 104, 97, 51, 56, 52] : List UInt8) then (some 48) else (if a0.toList = ([115, 104, 97, 53, 49, 50] : List UInt8) then (some 64) else (some 0)))
set_option maxHeartbeats 8000000 in
set_option maxRecDepth 100000 in
theorem spec_DigestSize.calls (a0 : ByteArray) (r : Int) (w : World) (h : spec_DigestSize.f a0 = some r) :
    Calls Try.prog 10 #[.string a0] w fun e w' => e = .returned (.int .i64 r) ∧ Drawn0 w w' := by
  have H : (if a0.toList = ([115, 104, 97, 50, 53, 54] : List UInt8) then (some 32) else (if a0.toList = ([115, 104, 97, 51, 56, 52] : List UInt8) then (some 48) else (if a0.toList = ([115, 104, 97, 53, 49, 50] : List UInt8) then (some 64) else (some 0)))) = some r := h
  clear h
  by_cases c2 : a0.toList = ([115, 104, 97, 50, 53, 54] : List UInt8)
  · rw [if_pos c2] at H
    have c2b0 : (a0.toList == ([115, 104, 97, 50, 53, 54] : List UInt8)) = true := beq_iff_eq.mpr c2
    have c2b1 : (a0.toList != ([115, 104, 97, 50, 53, 54] : List UInt8)) = false := bne_eq_false_iff_eq.mpr c2
    clear c2
    obtain rfl := Option.some.inj H
    go_enter Try.func10, Try.ntmps10
    go_wp2
    go_ret
    exact ⟨by first | rfl | (simp; done) | (simp [*]; done), by repeat (first | exact Drawn0.refl _ | apply Drawn0.step)⟩
  · rw [if_neg c2] at H
    have c2b0 : (a0.toList == ([115, 104, 97, 50, 53, 54] : List UInt8)) = false := beq_eq_false_iff_ne.mpr c2
    have c2b1 : (a0.toList != ([115, 104, 97, 50, 53, 54] : List UInt8)) = true := bne_iff_ne.mpr c2
    by_cases c3 : a0.toList = ([115, 104, 97, 51, 56, 52] : List UInt8)
    · rw [if_pos c3] at H
      have c3b0 : (a0.toList == ([115, 104, 97, 51, 56, 52] : List UInt8)) = true := beq_iff_eq.mpr c3
      have c3b1 : (a0.toList != ([115, 104, 97, 51, 56, 52] : List UInt8)) = false := bne_eq_false_iff_eq.mpr c3
      clear c3
      obtain rfl := Option.some.inj H
      go_enter Try.func10, Try.ntmps10
      go_wp2
      go_ret
      exact ⟨by first | rfl | (simp; done) | (simp [*]; done), by repeat (first | exact Drawn0.refl _ | apply Drawn0.step)⟩
    · rw [if_neg c3] at H
      have c3b0 : (a0.toList == ([115, 104, 97, 51, 56, 52] : List UInt8)) = false := beq_eq_false_iff_ne.mpr c3
      have c3b1 : (a0.toList != ([115, 104, 97, 51, 56, 52] : List UInt8)) = true := bne_iff_ne.mpr c3
      by_cases c4 : a0.toList = ([115, 104, 97, 53, 49, 50] : List UInt8)
      · rw [if_pos c4] at H
        have c4b0 : (a0.toList == ([115, 104, 97, 53, 49, 50] : List UInt8)) = true := beq_iff_eq.mpr c4
        have c4b1 : (a0.toList != ([115, 104, 97, 53, 49, 50] : List UInt8)) = false := bne_eq_false_iff_eq.mpr c4
        clear c4
        obtain rfl := Option.some.inj H
        go_enter Try.func10, Try.ntmps10
        go_wp2
        go_ret
        exact ⟨by first | rfl | (simp; done) | (simp [*]; done), by repeat (first | exact Drawn0.refl _ | apply Drawn0.step)⟩
      · rw [if_neg c4] at H
        have c4b0 : (a0.toList == ([115, 104, 97, 53, 49, 50] : List UInt8)) = false := beq_eq_false_iff_ne.mpr c4
        have c4b1 : (a0.toList != ([115, 104, 97, 53, 49, 50] : List UInt8)) = true := bne_iff_ne.mpr c4
        obtain rfl := Option.some.inj H
        go_enter Try.func10, Try.ntmps10
        go_wp2
        go_ret
        exact ⟨by first | rfl | (simp; done) | (simp [*]; done), by repeat (first | exact Drawn0.refl _ | apply Drawn0.step)⟩

/-! ### godigest_zzSize: function 38 -/
def godigest_zzSize.f (a0 : ByteArray) : Option (Int × Bool) := if a0.toList = ([115, 104, 97, 50, 53, 54] : List UInt8) then (some (32, true)) else (if a0.toList = ([115, 104, 97, 51, 56, 52] : List UInt8) then (some (48, true)) else (if a0.toList = ([115, 104, 97, 53, 49, 50] : List UInt8) then (some (64, true)) else (some (0, false))))
set_option maxHeartbeats 8000000 in
set_option maxRecDepth 100000 in
theorem godigest_zzSize.calls (a0 : ByteArray) (r1 : Int) (r2 : Bool) (w : World) (h : godigest_zzSize.f a0 = some (r1, r2)) :
    Calls Try.prog 38 #[.string a0] w fun e w' => e = .returned (.tuple #[.int .i64 r1, .bool r2]) ∧ Drawn0 w w' := by
  have H : (if a0.toList = ([115, 104, 97, 50, 53, 54] : List UInt8) then (some (32, true)) else (if a0.toList = ([115, 104, 97, 51, 56, 52] : List UInt8) then (some (48, true)) else (if a0.toList = ([115, 104, 97, 53, 49, 50] : List UInt8) then (some (64, true)) else (some (0, false))))) = some (r1, r2) := h
  clear h
  by_cases c2 : a0.toList = ([115, 104, 97, 50, 53, 54] : List UInt8)
  · rw [if_pos c2] at H
    have c2b0 : (a0.toList == ([115, 104, 97, 50, 53, 54] : List UInt8)) = true := beq_iff_eq.mpr c2
    have c2b1 : (a0.toList != ([115, 104, 97, 50, 53, 54] : List UInt8)) = false := bne_eq_false_iff_eq.mpr c2
    clear c2
    simp only [Option.some.injEq, Prod.mk.injEq] at H
    obtain ⟨rfl, rfl⟩ := H
    go_enter Try.func38, Try.ntmps38
    go_wp2
    go_ret2
    exact ⟨by first | rfl | (simp; done) | (simp [*]; done), by repeat (first | exact Drawn0.refl _ | apply Drawn0.step)⟩
  · rw [if_neg c2] at H
    have c2b0 : (a0.toList == ([115, 104, 97, 50, 53, 54] : List UInt8)) = false := beq_eq_false_iff_ne.mpr c2
    have c2b1 : (a0.toList != ([115, 104, 97, 50, 53, 54] : List UInt8)) = true := bne_iff_ne.mpr c2
    by_cases c3 : a0.toList = ([115, 104, 97, 51, 56, 52] : List UInt8)
    · rw [if_pos c3] at H
      have c3b0 : (a0.toList == ([115, 104, 97, 51, 56, 52] : List UInt8)) = true := beq_iff_eq.mpr c3
      have c3b1 : (a0.toList != ([115, 104, 97, 51, 56, 52] : List UInt8)) = false := bne_eq_false_iff_eq.mpr c3
      clear c3
      simp only [Option.some.injEq, Prod.mk.injEq] at H
      obtain ⟨rfl, rfl⟩ := H
      go_enter Try.func38, Try.ntmps38
      go_wp2
      go_ret2
      exact ⟨by first | rfl | (simp; done) | (simp [*]; done), by repeat (first | exact Drawn0.refl _ | apply Drawn0.step)⟩
    · rw [if_neg c3] at H
      have c3b0 : (a0.toList == ([115, 104, 97, 51, 56, 52] : List UInt8)) = false := beq_eq_false_iff_ne.mpr c3
      have c3b1 : (a0.toList != ([115, 104, 97, 51, 56, 52] : List UInt8)) = true := bne_iff_ne.mpr c3
      by_cases c4 : a0.toList = ([115, 104, 97, 53, 49, 50] : List UInt8)
      · rw [if_pos c4] at H
        have c4b0 : (a0.toList == ([115, 104, 97, 53, 49, 50] : List UInt8)) = true := beq_iff_eq.mpr c4
        have c4b1 : (a0.toList != ([115, 104, 97, 53, 49, 50] : List UInt8)) = false := bne_eq_false_iff_eq.mpr c4
        clear c4
        simp only [Option.some.injEq, Prod.mk.injEq] at H
        obtain ⟨rfl, rfl⟩ := H
        go_enter Try.func38, Try.ntmps38
        go_wp2
        go_ret2
        exact ⟨by first | rfl | (simp; done) | (simp [*]; done), by repeat (first | exact Drawn0.refl _ | apply Drawn0.step)⟩
      · rw [if_neg c4] at H
        have c4b0 : (a0.toList == ([115, 104, 97, 53, 49, 50] : List UInt8)) = false := beq_eq_false_iff_ne.mpr c4
        have c4b1 : (a0.toList != ([115, 104, 97, 53, 49, 50] : List UInt8)) = true := bne_iff_ne.mpr c4
        simp only [Option.some.injEq, Prod.mk.injEq] at H
        obtain ⟨rfl, rfl⟩ := H
        go_enter Try.func38, Try.ntmps38
        go_wp2
        go_ret2
        exact ⟨by first | rfl | (simp; done) | (simp [*]; done), by repeat (first | exact Drawn0.refl _ | apply Drawn0.step)⟩

/-! ### godigest_Algorithm_Available: function 25 -/
def godigest_Algorithm_Available.f (a0 : ByteArray) : Option (Bool) := (godigest_zzSize.f a0).bind fun bt101 => (some bt101.2)
set_option maxHeartbeats 8000000 in
set_option maxRecDepth 100000 in
theorem godigest_Algorithm_Available.calls (a0 : ByteArray) (r : Bool) (w : World) (h : godigest_Algorithm_Available.f a0 = some r) :
    Calls Try.prog 25 #[.string a0] w fun e w' => e = .returned (.bool r) ∧ Drawn0 w w' := by
  have H : ((godigest_zzSize.f a0).bind fun bt101 => (some bt101.2)) = some r := h
  clear h
  replace H := Option.bind_eq_some_iff.mp H
  obtain ⟨⟨t101, t102⟩, A20, H⟩ := H
  replace H : (some t102) = some r := H
  have A2 := Aside0.mk A20
  clear A20
  obtain rfl := Option.some.inj H
  go_enter Try.func25, Try.ntmps25
  go_wp2_with (first | ((with_reducible refine gate_callee (f := 38) rfl ?_); refine goesL_ (some 7) rfl rfl Try.func38 (by kernel_rfl) rfl #[.string a0] rfl (by (try simp only [List.map_toArray, List.map_cons, List.map_nil]); first | done | rfl | (simp only [List.length_drop, List.length_take]; rfl)) ?_; (with_reducible refine (godigest_zzSize.calls a0 t101 t102 _ A2.out).mono ?_); rintro e w' ⟨rfl, ⟨nd, rfl⟩⟩; refine ⟨_, rfl, ?_⟩))
  go_ret
  exact ⟨by first | rfl | (simp; done) | (simp [*]; done), by repeat (first | exact Drawn0.refl _ | apply Drawn0.step)⟩

/-! ### impl_DigestKnown: function 11 -/
def impl_DigestKnown.f (a0 : ByteArray) : Option (Bool) := (godigest_Algorithm_Available.f a0).bind fun t103 => (some t103)
set_option maxHeartbeats 8000000 in
set_option maxRecDepth 100000 in
theorem impl_DigestKnown.calls (a0 : ByteArray) (r : Bool) (w : World) (h : impl_DigestKnown.f a0 = some r) :
    Calls Try.prog 11 #[.string a0] w fun e w' => e = .returned (.bool r) ∧ Drawn0 w w' := by
  have H : ((godigest_Algorithm_Available.f a0).bind fun t103 => (some t103)) = some r := h
  clear h
  replace H := Option.bind_eq_some_iff.mp H
  obtain ⟨t103, A20, H⟩ := H
  replace H : (some t103) = some r := H
  have A2 := Aside0.mk A20
  clear A20
  obtain rfl := Option.some.inj H
  go_enter Try.func11, Try.ntmps11
  go_wp2_with (first | ((with_reducible refine gate_callee (f := 25) rfl ?_); refine goesL_ (some 4) rfl rfl Try.func25 (by kernel_rfl) rfl #[.string a0] rfl (by (try simp only [List.map_toArray, List.map_cons, List.map_nil]); first | done | rfl | (simp only [List.length_drop, List.length_take]; rfl)) ?_; (with_reducible refine (godigest_Algorithm_Available.calls a0 t103 _ A2.out).mono ?_); rintro e w' ⟨rfl, ⟨nd, rfl⟩⟩; refine ⟨_, rfl, ?_⟩))
  go_ret
  exact ⟨by first | rfl | (simp; done) | (simp [*]; done), by repeat (first | exact Drawn0.refl _ | apply Drawn0.step)⟩

/-! ### godigest_Algorithm_Size: function 26 -/
def godigest_Algorithm_Size.f (a0 : ByteArray) : Option (Int) := (godigest_zzSize.f a0).bind fun bt104 => (some bt104.1)
set_option maxHeartbeats 8000000 in
set_option maxRecDepth 100000 in
theorem godigest_Algorithm_Size.calls (a0 : ByteArray) (r : Int) (w : World) (h : godigest_Algorithm_Size.f a0 = some r) :
    Calls Try.prog 26 #[.string a0] w fun e w' => e = .returned (.int .i64 r) ∧ Drawn0 w w' := by
  have H : ((godigest_zzSize.f a0).bind fun bt104 => (some bt104.1)) = some r := h
  clear h
  replace H := Option.bind_eq_some_iff.mp H
  obtain ⟨⟨t104, t105⟩, A20, H⟩ := H
  replace H : (some t104) = some r := H
  have A2 := Aside0.mk A20
  clear A20
  obtain rfl := Option.some.inj H
  go_enter Try.func26, Try.ntmps26
  go_wp2_with (first | ((with_reducible refine gate_callee (f := 38) rfl ?_); refine goesL_ (some 7) rfl rfl Try.func38 (by kernel_rfl) rfl #[.string a0] rfl (by (try simp only [List.map_toArray, List.map_cons, List.map_nil]); first | done | rfl | (simp only [List.length_drop, List.length_take]; rfl)) ?_; (with_reducible refine (godigest_zzSize.calls a0 t104 t105 _ A2.out).mono ?_); rintro e w' ⟨rfl, ⟨nd, rfl⟩⟩; refine ⟨_, rfl, ?_⟩))
  go_ret
  exact ⟨by first | rfl | (simp; done) | (simp [*]; done), by repeat (first | exact Drawn0.refl _ | apply Drawn0.step)⟩

/-! ### impl_DigestSize: function 12 -/
def impl_DigestSize.f (a0 : ByteArray) : Option (Int) := (godigest_Algorithm_Size.f a0).bind fun t106 => (some t106)
set_option maxHeartbeats 8000000 in
set_option maxRecDepth 100000 in
theorem impl_DigestSize.calls (a0 : ByteArray) (r : Int) (w : World) (h : impl_DigestSize.f a0 = some r) :
    Calls Try.prog 12 #[.string a0] w fun e w' => e = .returned (.int .i64 r) ∧ Drawn0 w w' := by
  have H : ((godigest_Algorithm_Size.f a0).bind fun t106 => (some t106)) = some r := h
  clear h
  replace H := Option.bind_eq_some_iff.mp H
  obtain ⟨t106, A20, H⟩ := H
  replace H : (some t106) = some r := H
  have A2 := Aside0.mk A20
  clear A20
  obtain rfl := Option.some.inj H
  go_enter Try.func12, Try.ntmps12
  go_wp2_with (first | ((with_reducible refine gate_callee (f := 26) rfl ?_); refine goesL_ (some 4) rfl rfl Try.func26 (by kernel_rfl) rfl #[.string a0] rfl (by (try simp only [List.map_toArray, List.map_cons, List.map_nil]); first | done | rfl | (simp only [List.length_drop, List.length_take]; rfl)) ?_; (with_reducible refine (godigest_Algorithm_Size.calls a0 t106 _ A2.out).mono ?_); rintro e w' ⟨rfl, ⟨nd, rfl⟩⟩; refine ⟨_, rfl, ?_⟩))
  go_ret
  exact ⟨by first | rfl | (simp; done) | (simp [*]; done), by repeat (first | exact Drawn0.refl _ | apply Drawn0.step)⟩

/-! ### laws_FnDigestKnown: function 4 -/
def laws_FnDigestKnown.f (a0 : ByteArray) : Option (Bool) := if (a0.size : Int) > 2147483647 then (some true) else (if (a0.size : Int) > 65536 then (some true) else ((spec_DigestSize.f a0).bind fun t107 => ((impl_DigestKnown.f a0).bind fun t108 => (if (t108 == (decide (t107 > 0))) = true then ((impl_DigestSize.f a0).bind fun t109 => (some (t109 == t107))) else (some false)))))
set_option maxHeartbeats 8000000 in
set_option maxRecDepth 100000 in
theorem laws_FnDigestKnown.calls (a0 : ByteArray) (r : Bool) (w : World) (h : laws_FnDigestKnown.f a0 = some r) :
    Calls Try.prog 4 #[.string a0] w fun e w' => e = .returned (.bool r) ∧ Drawn0 w w' := by
  have H : (if (a0.size : Int) > 2147483647 then (some true) else (if (a0.size : Int) > 65536 then (some true) else ((spec_DigestSize.f a0).bind fun t107 => ((impl_DigestKnown.f a0).bind fun t108 => (if (t108 == (decide (t107 > 0))) = true then ((impl_DigestSize.f a0).bind fun t109 => (some (t109 == t107))) else (some false)))))) = some r := h
  clear h
  by_cases c2 : (a0.size : Int) > 2147483647
  · rw [if_pos c2] at H
    have c2b0 : decide (2147483647 < (a0.size : Int)) = true := decide_eq_true c2
    have c2b1 : decide (2147483647 < a0.size) = true := decide_eq_true (by omega)
    clear c2
    obtain rfl := Option.some.inj H
    go_enter Try.func4, Try.ntmps4
    go_wp2
    go_ret
    exact ⟨by first | rfl | (simp; done) | (simp [*]; done), by repeat (first | exact Drawn0.refl _ | apply Drawn0.step)⟩
  · rw [if_neg c2] at H
    have c2b0 : decide (2147483647 < (a0.size : Int)) = false := decide_eq_false c2
    have c2b1 : decide (2147483647 < a0.size) = false := decide_eq_false (by omega)
    clear c2
    by_cases c3 : (a0.size : Int) > 65536
    · rw [if_pos c3] at H
      have c3b0 : decide (65536 < (a0.size : Int)) = true := decide_eq_true c3
      have c3b1 : decide (65536 < a0.size) = true := decide_eq_true (by omega)
      clear c3
      obtain rfl := Option.some.inj H
      go_enter Try.func4, Try.ntmps4
      go_wp2
      go_ret
      exact ⟨by first | rfl | (simp; done) | (simp [*]; done), by repeat (first | exact Drawn0.refl _ | apply Drawn0.step)⟩
    · rw [if_neg c3] at H
      have c3b0 : decide (65536 < (a0.size : Int)) = false := decide_eq_false c3
      have c3b1 : decide (65536 < a0.size) = false := decide_eq_false (by omega)
      clear c3
      replace H := Option.bind_eq_some_iff.mp H
      obtain ⟨t107, A40, H⟩ := H
      replace H : ((impl_DigestKnown.f a0).bind fun t108 => (if (t108 == (decide (t107 > 0))) = true then ((impl_DigestSize.f a0).bind fun t109 => (some (t109 == t107))) else (some false))) = some r := H
      have A4 := Aside0.mk A40
      clear A40
      replace H := Option.bind_eq_some_iff.mp H
      obtain ⟨t108, A50, H⟩ := H
      replace H : (if (t108 == (decide (t107 > 0))) = true then ((impl_DigestSize.f a0).bind fun t109 => (some (t109 == t107))) else (some false)) = some r := H
      have A5 := Aside0.mk A50
      clear A50
      by_cases c6 : (t108 == (decide (t107 > 0))) = true
      · rw [if_pos c6] at H
        have c6b0 : (t108 == (decide (t107 > 0))) = true := c6
        (try (have c6b1 : decide (t108 = (decide (t107 > 0))) = true := by simpa using c6))
        (try (have c6b2 : (t108 == (decide (t107 > 0))) = true := by simpa using c6))
        clear c6
        replace H := Option.bind_eq_some_iff.mp H
        obtain ⟨t109, A70, H⟩ := H
        replace H : (some (t109 == t107)) = some r := H
        have A7 := Aside0.mk A70
        clear A70
        obtain rfl := Option.some.inj H
        go_enter Try.func4, Try.ntmps4
        go_wp2_with (first | ((with_reducible refine gate_callee (f := 10) rfl ?_); refine goesL_ (some 11) rfl rfl Try.func10 (by kernel_rfl) rfl #[.string a0] rfl (by (try simp only [List.map_toArray, List.map_cons, List.map_nil]); first | done | rfl | (simp only [List.length_drop, List.length_take]; rfl)) ?_; (with_reducible refine (spec_DigestSize.calls a0 t107 _ A4.out).mono ?_); rintro e w' ⟨rfl, ⟨nd, rfl⟩⟩; refine ⟨_, rfl, ?_⟩) | ((with_reducible refine gate_callee (f := 11) rfl ?_); refine goesL_ (some 13) rfl rfl Try.func11 (by kernel_rfl) rfl #[.string a0] rfl (by (try simp only [List.map_toArray, List.map_cons, List.map_nil]); first | done | rfl | (simp only [List.length_drop, List.length_take]; rfl)) ?_; (with_reducible refine (impl_DigestKnown.calls a0 t108 _ A5.out).mono ?_); rintro e w' ⟨rfl, ⟨nd, rfl⟩⟩; refine ⟨_, rfl, ?_⟩) | (go_at_call 12; (with_reducible refine (impl_DigestSize.calls a0 t109 _ A7.out).mono ?_); rintro e w' ⟨rfl, ⟨nd, rfl⟩⟩))
        go_ret
        exact ⟨by first | rfl | (simp; done) | (simp [*]; done), by repeat (first | exact Drawn0.refl _ | apply Drawn0.step)⟩
      · rw [if_neg c6] at H
        have c6b0 : (t108 == (decide (t107 > 0))) = false := by simpa using c6
        (try (have c6b1 : decide (t108 = (decide (t107 > 0))) = false := by simpa using c6))
        (try (have c6b2 : (t108 == (decide (t107 > 0))) = false := by simpa using c6))
        (try (have c6b3 : ¬ (t108 = (decide (t107 > 0))) := by simpa using c6))
        clear c6
        obtain rfl := Option.some.inj H
        go_enter Try.func4, Try.ntmps4
        go_wp2_with (first | ((with_reducible refine gate_callee (f := 10) rfl ?_); refine goesL_ (some 11) rfl rfl Try.func10 (by kernel_rfl) rfl #[.string a0] rfl (by (try simp only [List.map_toArray, List.map_cons, List.map_nil]); first | done | rfl | (simp only [List.length_drop, List.length_take]; rfl)) ?_; (with_reducible refine (spec_DigestSize.calls a0 t107 _ A4.out).mono ?_); rintro e w' ⟨rfl, ⟨nd, rfl⟩⟩; refine ⟨_, rfl, ?_⟩) | ((with_reducible refine gate_callee (f := 11) rfl ?_); refine goesL_ (some 13) rfl rfl Try.func11 (by kernel_rfl) rfl #[.string a0] rfl (by (try simp only [List.map_toArray, List.map_cons, List.map_nil]); first | done | rfl | (simp only [List.length_drop, List.length_take]; rfl)) ?_; (with_reducible refine (impl_DigestKnown.calls a0 t108 _ A5.out).mono ?_); rintro e w' ⟨rfl, ⟨nd, rfl⟩⟩; refine ⟨_, rfl, ?_⟩))
        go_ret
        exact ⟨by first | rfl | (simp; done) | (simp [*]; done), by repeat (first | exact Drawn0.refl _ | apply Drawn0.step)⟩

/-- THE ONE PURE STATEMENT of laws_FnDigestKnown: yours. -/
def laws_FnDigestKnown.Pure : Prop := ∀ (a0 : ByteArray), a0.size ≤ 140737488351232 → laws_FnDigestKnown.f a0 = some true
theorem laws_FnDigestKnown.walk (P : laws_FnDigestKnown.Pure) (a0 : ByteArray) (w : World) (w0 : a0.size ≤ 140737488351232) :
    Calls Try.prog 4 #[.string a0] w fun e w' => e = .returned (.bool true) ∧ Below w.heap.size w w' := by
  have h := P a0 w0
  refine (laws_FnDigestKnown.calls a0 true w h).mono ?_
  rintro e w' ⟨rfl, hd⟩
  exact ⟨rfl, hd.below⟩

end Go.Proofs.Ytcmifkepleedmaa.PFnDigestKnown
