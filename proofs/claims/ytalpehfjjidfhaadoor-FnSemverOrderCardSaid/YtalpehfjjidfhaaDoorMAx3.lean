-- Written by a program of this session (wip/tools/myprint.py over the kit's print).
import Derived.Test.YtalpehfjjidfhaaDoorMAx0
import Derived.Test.YtalpehfjjidfhaaDoorMAx2
namespace Go.Proofs.YtalpehfjjidfhaaDoor.MA
open Go.RowKit Go.Proofs.YtalpehfjjidfhaaDoorW.PrintWords Go.Proofs.YtalpehfjjidfhaaDoorW.PrintLast Go.Proofs.YtalpehfjjidfhaaDoorW.PrintMore Go.Proofs.YtalpehfjjidfhaaDoor
attribute [local go_sem] max2_int min2_int max_two min_two max_three min_three max_four min_four   -- for this text's walks alone
set_option linter.unusedVariables false
set_option linter.unusedSimpArgs false

/-! ### semver_comparePrerelease: function 128 -/
mutual
def semver_comparePrerelease.j0 : Nat → List ByteArray → List ByteArray → Int → Int → Int → Option (Int)
  | 0, _, _, _, _, _ => none
  | k + 1, x5, x6, x7, x8, x9 => semver_comparePrerelease.l0 k x5 x6 x7 x8 x9 0
def semver_comparePrerelease.l0 : Nat → List ByteArray → List ByteArray → Int → Int → Int → Int → Option (Int)
  | 0, _, _, _, _, _, _ => none
  | k + 1, x5, x6, x7, x8, x9, x10 => if x10 < x9 then (if x10 < x7 then (if 0 ≤ x10 then (if x10 < (x5.length : Int) then (semver_comparePrerelease.j2 k x5 x6 x7 x8 x9 x10 (rdOf ByteArray.empty x5 x10)) else (none)) else (none)) else (semver_comparePrerelease.j2 k x5 x6 x7 x8 x9 x10 (⟨#[]⟩ : ByteArray))) else (some 0)
def semver_comparePrerelease.j2 : Nat → List ByteArray → List ByteArray → Int → Int → Int → Int → ByteArray → Option (Int)
  | 0, _, _, _, _, _, _, _ => none
  | k + 1, x5, x6, x7, x8, x9, x10, x11 => if x10 < x8 then (if 0 ≤ x10 then (if x10 < (x6.length : Int) then ((Hand.comparePrePart.f x11 (rdOf ByteArray.empty x6 x10)).bind fun t144 => (if t144 = 0 then (semver_comparePrerelease.l0 k x5 x6 x7 x8 x9 (wrap64 (x10 + 1))) else (some t144))) else (none)) else (none)) else ((Hand.comparePrePart.f x11 (⟨#[]⟩ : ByteArray)).bind fun t145 => (if t145 = 0 then (semver_comparePrerelease.l0 k x5 x6 x7 x8 x9 (wrap64 (x10 + 1))) else (some t145)))
end
def semver_comparePrerelease.f (k : Nat) (a0 : ByteArray) (a1 : ByteArray) : Option (Int) := (semver_zzSplit.f k a0 (⟨#[46]⟩ : ByteArray)).bind fun t136 => ((semver_zzSplit.f k a1 (⟨#[46]⟩ : ByteArray)).bind fun t139 => (if (t139.length : Int) > (t136.length : Int) then (semver_comparePrerelease.j0 k t136 t139 (t136.length : Int) (t139.length : Int) (t139.length : Int)) else (semver_comparePrerelease.j0 k t136 t139 (t136.length : Int) (t139.length : Int) (t136.length : Int))))
theorem semver_comparePrerelease.mono_l : ∀ k, (∀ y0 y1 y2 y3 y4, LeO (semver_comparePrerelease.j0 k y0 y1 y2 y3 y4) (semver_comparePrerelease.j0 (k + 1) y0 y1 y2 y3 y4)) ∧ (∀ y0 y1 y2 y3 y4 y5, LeO (semver_comparePrerelease.l0 k y0 y1 y2 y3 y4 y5) (semver_comparePrerelease.l0 (k + 1) y0 y1 y2 y3 y4 y5)) ∧ (∀ y0 y1 y2 y3 y4 y5 y6, LeO (semver_comparePrerelease.j2 k y0 y1 y2 y3 y4 y5 y6) (semver_comparePrerelease.j2 (k + 1) y0 y1 y2 y3 y4 y5 y6))
  | 0 => ⟨fun _ _ _ _ _ r h => by simp [semver_comparePrerelease.j0] at h, fun _ _ _ _ _ _ r h => by simp [semver_comparePrerelease.l0] at h, fun _ _ _ _ _ _ _ r h => by simp [semver_comparePrerelease.j2] at h⟩
  | k + 1 => by
    obtain ⟨ih0, ih1, ih2⟩ := semver_comparePrerelease.mono_l k
    refine ⟨?_, ?_, ?_⟩
    · intro y0 y1 y2 y3 y4
      unfold semver_comparePrerelease.j0
      repeat' first
      | (with_reducible exact ih0 _ _ _ _ _)
      | (with_reducible exact ih1 _ _ _ _ _ _)
      | (with_reducible exact ih2 _ _ _ _ _ _ _)
      | (with_reducible exact semver_zzSplit.mono _ _ _)
      | (with_reducible exact LeO.refl _)
      | (with_reducible exact LeO.none _)
      | (with_reducible refine LeO.ite ?_ ?_)
      | (with_reducible refine LeO.bind ?_ (fun _ => ?_))
      | exact ih0 _ _ _ _ _
      | exact ih1 _ _ _ _ _ _
      | exact ih2 _ _ _ _ _ _ _
      | exact semver_zzSplit.mono _ _ _
      | exact LeO.none _
      | refine LeO.ite ?_ ?_
      | refine LeO.bind ?_ (fun _ => ?_)
    · intro y0 y1 y2 y3 y4 y5
      unfold semver_comparePrerelease.l0
      repeat' first
      | (with_reducible exact ih0 _ _ _ _ _)
      | (with_reducible exact ih1 _ _ _ _ _ _)
      | (with_reducible exact ih2 _ _ _ _ _ _ _)
      | (with_reducible exact semver_zzSplit.mono _ _ _)
      | (with_reducible exact LeO.refl _)
      | (with_reducible exact LeO.none _)
      | (with_reducible refine LeO.ite ?_ ?_)
      | (with_reducible refine LeO.bind ?_ (fun _ => ?_))
      | exact ih0 _ _ _ _ _
      | exact ih1 _ _ _ _ _ _
      | exact ih2 _ _ _ _ _ _ _
      | exact semver_zzSplit.mono _ _ _
      | exact LeO.none _
      | refine LeO.ite ?_ ?_
      | refine LeO.bind ?_ (fun _ => ?_)
    · intro y0 y1 y2 y3 y4 y5 y6
      unfold semver_comparePrerelease.j2
      repeat' first
      | (with_reducible exact ih0 _ _ _ _ _)
      | (with_reducible exact ih1 _ _ _ _ _ _)
      | (with_reducible exact ih2 _ _ _ _ _ _ _)
      | (with_reducible exact semver_zzSplit.mono _ _ _)
      | (with_reducible exact LeO.refl _)
      | (with_reducible exact LeO.none _)
      | (with_reducible refine LeO.ite ?_ ?_)
      | (with_reducible refine LeO.bind ?_ (fun _ => ?_))
      | exact ih0 _ _ _ _ _
      | exact ih1 _ _ _ _ _ _
      | exact ih2 _ _ _ _ _ _ _
      | exact semver_zzSplit.mono _ _ _
      | exact LeO.none _
      | refine LeO.ite ?_ ?_
      | refine LeO.bind ?_ (fun _ => ?_)
theorem semver_comparePrerelease.mono : ∀ a0 a1 k, LeO (semver_comparePrerelease.f k a0 a1) (semver_comparePrerelease.f (k + 1) a0 a1) := by
  intro a0 a1 k
  obtain ⟨ih0, ih1, ih2⟩ := semver_comparePrerelease.mono_l k
  unfold semver_comparePrerelease.f
  repeat' first
      | (with_reducible exact ih0 _ _ _ _ _)
      | (with_reducible exact ih1 _ _ _ _ _ _)
      | (with_reducible exact ih2 _ _ _ _ _ _ _)
      | (with_reducible exact semver_zzSplit.mono _ _ _)
      | (with_reducible exact LeO.refl _)
      | (with_reducible exact LeO.none _)
      | (with_reducible refine LeO.ite ?_ ?_)
      | (with_reducible refine LeO.bind ?_ (fun _ => ?_))
      | exact ih0 _ _ _ _ _
      | exact ih1 _ _ _ _ _ _
      | exact ih2 _ _ _ _ _ _ _
      | exact semver_zzSplit.mono _ _ _
      | exact LeO.none _
      | refine LeO.ite ?_ ?_
      | refine LeO.bind ?_ (fun _ => ?_)
set_option maxHeartbeats 8000000 in
set_option maxRecDepth 100000 in
theorem semver_comparePrerelease.calls (k : Nat) (a0 : ByteArray) (a1 : ByteArray) (r : Int) (w : World) (hG0 : Hand.Gl w) (h : semver_comparePrerelease.f k a0 a1 = some r) :
    Calls Tryd.prog 128 #[.string a0, .string a1] w fun e w' => e = .returned (.int .i64 r) ∧ Below w.heap.size w w' := by
  have HG := Aside0.mk hG0
  clear hG0
  have HB := Aside0.mk (Below.refl w.heap.size w)
  have H : ((semver_zzSplit.f k a0 (⟨#[46]⟩ : ByteArray)).bind fun t136 => ((semver_zzSplit.f k a1 (⟨#[46]⟩ : ByteArray)).bind fun t139 => (if (t139.length : Int) > (t136.length : Int) then (semver_comparePrerelease.j0 k t136 t139 (t136.length : Int) (t139.length : Int) (t139.length : Int)) else (semver_comparePrerelease.j0 k t136 t139 (t136.length : Int) (t139.length : Int) (t136.length : Int))))) = some r := h
  clear h
  replace H := Option.bind_eq_some_iff.mp H
  obtain ⟨t136, A30, H⟩ := H
  replace H : ((semver_zzSplit.f k a1 (⟨#[46]⟩ : ByteArray)).bind fun t139 => (if (t139.length : Int) > (t136.length : Int) then (semver_comparePrerelease.j0 k t136 t139 (t136.length : Int) (t139.length : Int) (t139.length : Int)) else (semver_comparePrerelease.j0 k t136 t139 (t136.length : Int) (t139.length : Int) (t136.length : Int)))) = some r := H
  have A3 := Aside0.mk A30
  clear A30
  replace H := Option.bind_eq_some_iff.mp H
  obtain ⟨t139, A40, H⟩ := H
  replace H : (if (t139.length : Int) > (t136.length : Int) then (semver_comparePrerelease.j0 k t136 t139 (t136.length : Int) (t139.length : Int) (t139.length : Int)) else (semver_comparePrerelease.j0 k t136 t139 (t136.length : Int) (t139.length : Int) (t136.length : Int))) = some r := H
  have A4 := Aside0.mk A40
  clear A40
  have HC5 := Aside0.mk H
  clear H
  go_enter Tryd.func128, Tryd.ntmps128
  go_upto_if 25 with (first | ((with_reducible refine gate_callee (f := 161) rfl ?_); refine goesL_ (some 15) rfl rfl Tryd.func161 (by kernel_rfl) rfl #[.string a0, .string (⟨#[46]⟩ : ByteArray)] rfl (by (try simp only [List.map_toArray, List.map_cons, List.map_nil]); first | done | rfl | (simp only [List.length_drop, List.length_take]; rfl)) ?_; (with_reducible refine (semver_zzSplit.calls k a0 (⟨#[46]⟩ : ByteArray) t136 _ A3.out).mono ?_); rintro e w6 ⟨v137, rfl, ho0, hb⟩; refine ⟨_, rfl, ?_⟩; have n0_ := Aside0.mk (Kd.R_lower ho0 (below_size (by repeat (first | (with_reducible first | exact HB.out | apply below_alloc | apply pw_below_drewN | apply below_drew1) | exact HB.out)))); have n1_ := Aside0.mk (below_step (by repeat (first | (with_reducible first | exact HB.out | apply below_alloc | apply pw_below_drewN | apply below_drew1) | exact HB.out)) hb); clear HB; have HO138 := n0_; have HB := n1_; clear n0_ n1_; (try clear hb); (try clear hb2); (try clear hk); (try clear hi); (try clear ho0)) | ((with_reducible refine gate_callee (f := 161) rfl ?_); refine goesL_ (some 17) rfl rfl Tryd.func161 (by kernel_rfl) rfl #[.string a1, .string (⟨#[46]⟩ : ByteArray)] rfl (by (try simp only [List.map_toArray, List.map_cons, List.map_nil]); first | done | rfl | (simp only [List.length_drop, List.length_take]; rfl)) ?_; (with_reducible refine (semver_zzSplit.calls k a1 (⟨#[46]⟩ : ByteArray) t139 _ A4.out).mono ?_); rintro e w7 ⟨v140, rfl, ho0, hb⟩; refine ⟨_, rfl, ?_⟩; have n0_ := Aside0.mk (Kd.R_elder' (by (with_reducible repeat (first | apply Kd.R_alloc | apply Kd.R_drewN | apply Kd.R_drew)); exact HO138.out) (Kd.R_base ho0) hb); have n1_ := Aside0.mk (Kd.R_lower (Kd.R_new' ho0 (Kd.R_lt (by (with_reducible repeat (first | apply Kd.R_alloc | apply Kd.R_drewN | apply Kd.R_drew)); exact HO138.out))) (below_size (by repeat (first | (with_reducible first | exact HB.out | apply below_alloc | apply pw_below_drewN | apply below_drew1) | exact HB.out)))); have n2_ := Aside0.mk (below_step (by repeat (first | (with_reducible first | exact HB.out | apply below_alloc | apply pw_below_drewN | apply below_drew1) | exact HB.out)) hb); clear HO138; clear HB; have HO138 := n0_; have HO141 := n1_; have HB := n2_; clear n0_ n1_ n2_; (try clear hb); (try clear hb2); (try clear hk); (try clear hi); (try clear ho0); obtain ⟨Ao8, co8, eo8⟩ := Kd.R_slice HO138.out; subst eo8; obtain ⟨Ao9, co9, eo9⟩ := Kd.R_slice HO141.out; subst eo9))
  (try simp only [Act.put, List.setIfInBounds_toArray, List.set_cons_zero, List.set_cons_succ])
  go_cut [9] (fun v9 wc => ∃ (kq : Nat) (x9_4 : Int), v9 = .int .i64 x9_4 ∧ Aside0 (semver_comparePrerelease.j0 kq t136 t139 (t136.length : Int) (t139.length : Int) x9_4 = some r) ∧ Aside0 (kq ≤ k) ∧ Aside0 (Kd.R Kd.string 9 wc w.heap.size (fun k_ => some k_ ≠ ((.slice Ao9 t139.length co9) : Value).ownBlock) (.slice Ao8 t136.length co8) t136) ∧ Aside0 (Kd.R Kd.string 9 wc w.heap.size (fun k_ => some k_ ≠ ((.slice Ao8 t136.length co8) : Value).ownBlock) (.slice Ao9 t139.length co9) t139) ∧ Aside0 (Below w.heap.size w wc))
  case first =>
    have H := HC5.out
    clear HC5
    by_cases c10 : (t139.length : Int) > (t136.length : Int)
    · rw [if_pos c10] at H
      have c10b0 : decide ((t136.length : Int) < (t139.length : Int)) = true := decide_eq_true c10
      have c10b1 : decide (t136.length < t139.length) = true := decide_eq_true (Int.ofNat_lt.mp c10)
      have c10p : t136.length < t139.length := by simpa using c10b1
      clear c10
      (first | rw [c10b0] | (simp only [i64_w, i32_w]; rw [c10b0]) | skip)
      have H' := Aside0.mk H
      clear H
      go_wp2
      go_meet
      case rel => exact ⟨_, ((t139.length : Int)), (by first | rfl | (simp; done) | (simp [*]; done)), H', ⟨by first | omega | exact Nat.le_refl _⟩, ⟨by (with_reducible repeat (first | apply Kd.R_alloc | apply Kd.R_drewN | apply Kd.R_drew)); exact Kd.R_mono HO138.out (fun _ hk => hk.2)⟩, ⟨by (with_reducible repeat (first | apply Kd.R_alloc | apply Kd.R_drewN | apply Kd.R_drew)); exact Kd.R_mono HO141.out (fun _ hk => hk.2)⟩, ⟨by repeat (first | (with_reducible first | exact HB.out | apply below_alloc | apply pw_below_drewN | apply below_drew1) | exact HB.out)⟩⟩
    · rw [if_neg c10] at H
      have c10b0 : decide ((t136.length : Int) < (t139.length : Int)) = false := decide_eq_false c10
      have c10b1 : decide (t136.length < t139.length) = false := decide_eq_false (fun h => c10 (Int.ofNat_lt.mpr h))
      have c10p : ¬ t136.length < t139.length := by simpa using c10b1
      clear c10
      (first | rw [c10b0] | (simp only [i64_w, i32_w]; rw [c10b0]) | skip)
      have H' := Aside0.mk H
      clear H
      go_wp2
      go_meet
      case rel => exact ⟨_, ((t136.length : Int)), (by first | rfl | (simp; done) | (simp [*]; done)), H', ⟨by first | omega | exact Nat.le_refl _⟩, ⟨by (with_reducible repeat (first | apply Kd.R_alloc | apply Kd.R_drewN | apply Kd.R_drew)); exact Kd.R_mono HO138.out (fun _ hk => hk.2)⟩, ⟨by (with_reducible repeat (first | apply Kd.R_alloc | apply Kd.R_drewN | apply Kd.R_drew)); exact Kd.R_mono HO141.out (fun _ hk => hk.2)⟩, ⟨by repeat (first | (with_reducible first | exact HB.out | apply below_alloc | apply pw_below_drewN | apply below_drew1) | exact HB.out)⟩⟩
  case rest =>
    clear HC5
    try clear c1
    try clear p2
    try clear c10
    try clear c10b0
    try clear c10b1
    obtain ⟨kq, x9_4, rfl, HA, HJ4, HO_5, HO_6, HB⟩ := hcut
    cases kq with
    | zero => exact absurd HA.out (by simp [semver_comparePrerelease.j0])
    | succ kj4 =>
      have H := HA.out
      clear HA
      simp only [semver_comparePrerelease.j0] at H
      have H' := Aside0.mk H
      clear H
      go_wp2
      go_loopg [10] kj4 (fun kq v10 w' => ∃ (x10_2 : Int), v10 = .int .i64 x10_2 ∧ Aside0 (semver_comparePrerelease.l0 kq t136 t139 (t136.length : Int) (t139.length : Int) x9_4 x10_2 = some r) ∧ Aside0 (kq ≤ kj4) ∧ Aside0 (Kd.R Kd.string 9 w' w.heap.size (fun k_ => some k_ ≠ ((.slice Ao9 t139.length co9) : Value).ownBlock) (.slice Ao8 t136.length co8) t136) ∧ Aside0 (Kd.R Kd.string 9 w' w.heap.size (fun k_ => some k_ ≠ ((.slice Ao8 t136.length co8) : Value).ownBlock) (.slice Ao9 t139.length co9) t139) ∧ Aside0 (Below w.heap.size w w'))
      case atStart => exact ⟨(0), (by first | rfl | (simp; done) | (simp [*]; done)), H', ⟨Nat.le_refl _⟩, ⟨by (with_reducible repeat (first | apply Kd.R_alloc | apply Kd.R_drewN | apply Kd.R_drew)); exact HO_5.out⟩, ⟨by (with_reducible repeat (first | apply Kd.R_alloc | apply Kd.R_drewN | apply Kd.R_drew)); exact HO_6.out⟩, ⟨by repeat (first | (with_reducible first | exact HB.out | apply below_alloc | apply pw_below_drewN | apply below_drew1) | exact HB.out)⟩⟩
      case round =>
        clear H'
        try clear c1
        try clear p2
        try clear c10
        try clear c10b0
        try clear c10b1
        try clear p2
        obtain ⟨x10_2, rfl, HA, HK2, HO_5, HO_6, HB⟩ := hrel
        cases gk with
        | zero => exact absurd HA.out (by simp [semver_comparePrerelease.l0])
        | succ k2 =>
          have H := HA.out
          clear HA
          simp only [semver_comparePrerelease.l0] at H
          by_cases c11 : x10_2 < x9_4
          · rw [if_pos c11] at H
            have c11b0 : decide (x10_2 < x9_4) = true := decide_eq_true c11
            clear c11
            have HC12 := Aside0.mk H
            clear H
            go_upto_if 34 with (fail)
            go_cut [11] (fun v11 wc => ∃ (kq : Nat) (x11_11 : ByteArray), v11 = .string x11_11 ∧ Aside0 (semver_comparePrerelease.j2 kq t136 t139 (t136.length : Int) (t139.length : Int) x9_4 x10_2 x11_11 = some r) ∧ Aside0 (kq ≤ k2) ∧ Aside0 (Kd.R Kd.string 9 wc w.heap.size (fun k_ => some k_ ≠ ((.slice Ao9 t139.length co9) : Value).ownBlock) (.slice Ao8 t136.length co8) t136) ∧ Aside0 (Kd.R Kd.string 9 wc w.heap.size (fun k_ => some k_ ≠ ((.slice Ao8 t136.length co8) : Value).ownBlock) (.slice Ao9 t139.length co9) t139) ∧ Aside0 (Below w.heap.size w wc))
            case first =>
              have H := HC12.out
              clear HC12
              by_cases c13 : x10_2 < (t136.length : Int)
              · rw [if_pos c13] at H
                have c13b0 : decide (x10_2 < (t136.length : Int)) = true := decide_eq_true c13
                clear c13
                (first | rw [c13b0] | (simp only [i64_w, i32_w]; rw [c13b0]) | skip)
                by_cases c14 : 0 ≤ x10_2
                · rw [if_pos c14] at H
                  have c14b0 : decide (0 ≤ x10_2) = true := decide_eq_true c14
                  clear c14
                  by_cases c15 : x10_2 < (t136.length : Int)
                  · rw [if_pos c15] at H
                    have c15b0 : decide (x10_2 < (t136.length : Int)) = true := decide_eq_true c15
                    clear c15
                    have H' := Aside0.mk H
                    clear H
                    have p142 : 0 ≤ (x10_2 : Int) := of_decide_eq_true (by first | (with_reducible assumption) | assumption)
                    have q142 : x10_2 < (t136.length : Int) := of_decide_eq_true (by first | (with_reducible assumption) | assumption)
                    obtain ⟨ad142, e142, hx142_0⟩ := Kd.at_string (Kd.R_reads' HO_5.out).2.2 x10_2 p142 q142
                    cases e142
                    replace p142 := eq_true p142
                    replace q142 := eq_true q142
                    go_wp2
                    go_meet
                    case rel => exact ⟨_, (rdOf ByteArray.empty t136 x10_2), (by first | rfl | (simp; done) | (simp [*]; done)), H', ⟨by have := HJ4.out; have := HK2.out; first | omega | exact Nat.le_refl _⟩, ⟨by (with_reducible repeat (first | apply Kd.R_alloc | apply Kd.R_drewN | apply Kd.R_drew)); exact HO_5.out⟩, ⟨by (with_reducible repeat (first | apply Kd.R_alloc | apply Kd.R_drewN | apply Kd.R_drew)); exact HO_6.out⟩, ⟨by repeat (first | (with_reducible first | exact HB.out | apply below_alloc | apply pw_below_drewN | apply below_drew1) | exact HB.out)⟩⟩
                  · rw [if_neg c15] at H
                    exact absurd H (by simp)
                · rw [if_neg c14] at H
                  exact absurd H (by simp)
              · rw [if_neg c13] at H
                have c13b0 : decide (x10_2 < (t136.length : Int)) = false := decide_eq_false c13
                clear c13
                (first | rw [c13b0] | (simp only [i64_w, i32_w]; rw [c13b0]) | skip)
                have H' := Aside0.mk H
                clear H
                go_wp2
                go_meet
                case rel => exact ⟨_, ((⟨#[]⟩ : ByteArray)), (by first | rfl | (simp; done) | (simp [*]; done)), H', ⟨by have := HJ4.out; have := HK2.out; first | omega | exact Nat.le_refl _⟩, ⟨by (with_reducible repeat (first | apply Kd.R_alloc | apply Kd.R_drewN | apply Kd.R_drew)); exact HO_5.out⟩, ⟨by (with_reducible repeat (first | apply Kd.R_alloc | apply Kd.R_drewN | apply Kd.R_drew)); exact HO_6.out⟩, ⟨by repeat (first | (with_reducible first | exact HB.out | apply below_alloc | apply pw_below_drewN | apply below_drew1) | exact HB.out)⟩⟩
            case rest =>
              clear HC12
              try clear c1
              try clear p1
              try clear q1
              try clear hx1
              try clear p2
              try clear c10
              try clear c10b0
              try clear c10b1
              try clear c11
              try clear c11b0
              try clear c12
              try clear c13
              try clear c13b0
              try clear c14
              try clear c14b0
              try clear p14
              try clear q14
              try clear hx14
              try clear c15
              try clear c15b0
              try clear hx142_0
              try clear p142
              try clear p2
              try clear q142
              obtain ⟨kq, x11_11, rfl, HA, HJ11, HO_5, HO_6, HB⟩ := hcut
              cases kq with
              | zero => exact absurd HA.out (by simp [semver_comparePrerelease.j2])
              | succ kj11 =>
                have H := HA.out
                clear HA
                simp only [semver_comparePrerelease.j2] at H
                by_cases c16 : x10_2 < (t139.length : Int)
                · rw [if_pos c16] at H
                  have c16b0 : decide (x10_2 < (t139.length : Int)) = true := decide_eq_true c16
                  clear c16
                  by_cases c17 : 0 ≤ x10_2
                  · rw [if_pos c17] at H
                    have c17b0 : decide (0 ≤ x10_2) = true := decide_eq_true c17
                    clear c17
                    by_cases c18 : x10_2 < (t139.length : Int)
                    · rw [if_pos c18] at H
                      have c18b0 : decide (x10_2 < (t139.length : Int)) = true := decide_eq_true c18
                      clear c18
                      replace H := Option.bind_eq_some_iff.mp H
                      obtain ⟨t144, A190, H⟩ := H
                      replace H : (if t144 = 0 then (semver_comparePrerelease.l0 kj11 t136 t139 (t136.length : Int) (t139.length : Int) x9_4 (wrap64 (x10_2 + 1))) else (some t144)) = some r := H
                      have A19 := Aside0.mk A190
                      clear A190
                      by_cases c20 : t144 = 0
                      · rw [if_pos c20] at H
                        have c20b0 : (t144 == 0) = true := beq_iff_eq.mpr c20
                        have c20b1 : (t144 != 0) = false := bne_eq_false_iff_eq.mpr c20
                        clear c20
                        have H' := Aside0.mk H
                        clear H
                        have p143 : 0 ≤ (x10_2 : Int) := of_decide_eq_true (by first | (with_reducible assumption) | assumption)
                        have q143 : x10_2 < (t139.length : Int) := of_decide_eq_true (by first | (with_reducible assumption) | assumption)
                        obtain ⟨ad143, e143, hx143_0⟩ := Kd.at_string (Kd.R_reads' HO_6.out).2.2 x10_2 p143 q143
                        cases e143
                        replace p143 := eq_true p143
                        replace q143 := eq_true q143
                        go_wp2_with (first | ((with_reducible refine gate_callee (f := 162) rfl ?_); refine goesL_ (some 48) rfl rfl Tryd.func162 (by kernel_rfl) rfl #[.string x11_11, .string (rdOf ByteArray.empty t139 x10_2)] rfl (by (try simp only [List.map_toArray, List.map_cons, List.map_nil]); first | done | rfl | (simp only [List.length_drop, List.length_take]; rfl)) ?_; (with_reducible refine (Hand.comparePrePart.calls x11_11 (rdOf ByteArray.empty t139 x10_2) t144 _ ?gl12 A19.out).mono ?_); (case gl12 => first | exact HG.out | exact Hand.Gl.below HG.out (by repeat (first | (with_reducible first | exact HB.out | apply below_alloc | apply pw_below_drewN | apply below_drew1) | exact HB.out))); rintro e w21 ⟨rfl, hb⟩; refine ⟨_, rfl, ?_⟩; have n0_ := Aside0.mk (Kd.R_below (by (with_reducible repeat (first | apply Kd.R_alloc | apply Kd.R_drewN | apply Kd.R_drew)); exact HO_5.out) hb); have n1_ := Aside0.mk (Kd.R_below (by (with_reducible repeat (first | apply Kd.R_alloc | apply Kd.R_drewN | apply Kd.R_drew)); exact HO_6.out) hb); have n2_ := Aside0.mk (below_step (by repeat (first | (with_reducible first | exact HB.out | apply below_alloc | apply pw_below_drewN | apply below_drew1) | exact HB.out)) hb); clear HO_5; clear HO_6; clear HB; have HO_5 := n0_; have HO_6 := n1_; have HB := n2_; clear n0_ n1_ n2_; (try clear hb); (try clear hb2); (try clear hk); (try clear hi)))
                        go_roundg kj11
                        case measure => have := HJ4.out; have := HK2.out; have := HJ11.out; omega
                        case rel => exact ⟨(wrap64 (x10_2 + 1)), (by first | rfl | (simp; done) | (simp [*]; done)), H', ⟨by have := HJ4.out; have := HK2.out; have := HJ11.out; omega⟩, ⟨by (with_reducible repeat (first | apply Kd.R_alloc | apply Kd.R_drewN | apply Kd.R_drew)); exact HO_5.out⟩, ⟨by (with_reducible repeat (first | apply Kd.R_alloc | apply Kd.R_drewN | apply Kd.R_drew)); exact HO_6.out⟩, ⟨by repeat (first | (with_reducible first | exact HB.out | apply below_alloc | apply pw_below_drewN | apply below_drew1) | exact HB.out)⟩⟩
                      · rw [if_neg c20] at H
                        have c20b0 : (t144 == 0) = false := beq_eq_false_iff_ne.mpr c20
                        have c20b1 : (t144 != 0) = true := bne_iff_ne.mpr c20
                        obtain rfl := Option.some.inj H
                        have p143 : 0 ≤ (x10_2 : Int) := of_decide_eq_true (by first | (with_reducible assumption) | assumption)
                        have q143 : x10_2 < (t139.length : Int) := of_decide_eq_true (by first | (with_reducible assumption) | assumption)
                        obtain ⟨ad143, e143, hx143_0⟩ := Kd.at_string (Kd.R_reads' HO_6.out).2.2 x10_2 p143 q143
                        cases e143
                        replace p143 := eq_true p143
                        replace q143 := eq_true q143
                        go_wp2_with (first | ((with_reducible refine gate_callee (f := 162) rfl ?_); refine goesL_ (some 48) rfl rfl Tryd.func162 (by kernel_rfl) rfl #[.string x11_11, .string (rdOf ByteArray.empty t139 x10_2)] rfl (by (try simp only [List.map_toArray, List.map_cons, List.map_nil]); first | done | rfl | (simp only [List.length_drop, List.length_take]; rfl)) ?_; (with_reducible refine (Hand.comparePrePart.calls x11_11 (rdOf ByteArray.empty t139 x10_2) t144 _ ?gl13 A19.out).mono ?_); (case gl13 => first | exact HG.out | exact Hand.Gl.below HG.out (by repeat (first | (with_reducible first | exact HB.out | apply below_alloc | apply pw_below_drewN | apply below_drew1) | exact HB.out))); rintro e w22 ⟨rfl, hb⟩; refine ⟨_, rfl, ?_⟩; have n0_ := Aside0.mk (Kd.R_below (by (with_reducible repeat (first | apply Kd.R_alloc | apply Kd.R_drewN | apply Kd.R_drew)); exact HO_5.out) hb); have n1_ := Aside0.mk (Kd.R_below (by (with_reducible repeat (first | apply Kd.R_alloc | apply Kd.R_drewN | apply Kd.R_drew)); exact HO_6.out) hb); have n2_ := Aside0.mk (below_step (by repeat (first | (with_reducible first | exact HB.out | apply below_alloc | apply pw_below_drewN | apply below_drew1) | exact HB.out)) hb); clear HO_5; clear HO_6; clear HB; have HO_5 := n0_; have HO_6 := n1_; have HB := n2_; clear n0_ n1_ n2_; (try clear hb); (try clear hb2); (try clear hk); (try clear hi)))
                        go_ret
                        exact ⟨by first | rfl | (simp [errW_none, errW_some] <;> rfl) | (simp [*, errW_none, errW_some] <;> rfl), by repeat (first | (with_reducible first | exact HB.out | apply below_alloc | apply pw_below_drewN | apply below_drew1) | exact HB.out)⟩
                    · rw [if_neg c18] at H
                      exact absurd H (by simp)
                  · rw [if_neg c17] at H
                    exact absurd H (by simp)
                · rw [if_neg c16] at H
                  have c16b0 : decide (x10_2 < (t139.length : Int)) = false := decide_eq_false c16
                  clear c16
                  replace H := Option.bind_eq_some_iff.mp H
                  obtain ⟨t145, A230, H⟩ := H
                  replace H : (if t145 = 0 then (semver_comparePrerelease.l0 kj11 t136 t139 (t136.length : Int) (t139.length : Int) x9_4 (wrap64 (x10_2 + 1))) else (some t145)) = some r := H
                  have A23 := Aside0.mk A230
                  clear A230
                  by_cases c24 : t145 = 0
                  · rw [if_pos c24] at H
                    have c24b0 : (t145 == 0) = true := beq_iff_eq.mpr c24
                    have c24b1 : (t145 != 0) = false := bne_eq_false_iff_eq.mpr c24
                    clear c24
                    have H' := Aside0.mk H
                    clear H
                    go_wp2_with (first | ((with_reducible refine gate_callee (f := 162) rfl ?_); refine goesL_ (some 48) rfl rfl Tryd.func162 (by kernel_rfl) rfl #[.string x11_11, .string (⟨#[]⟩ : ByteArray)] rfl (by (try simp only [List.map_toArray, List.map_cons, List.map_nil]); first | done | rfl | (simp only [List.length_drop, List.length_take]; rfl)) ?_; (with_reducible refine (Hand.comparePrePart.calls x11_11 (⟨#[]⟩ : ByteArray) t145 _ ?gl14 A23.out).mono ?_); (case gl14 => first | exact HG.out | exact Hand.Gl.below HG.out (by repeat (first | (with_reducible first | exact HB.out | apply below_alloc | apply pw_below_drewN | apply below_drew1) | exact HB.out))); rintro e w25 ⟨rfl, hb⟩; refine ⟨_, rfl, ?_⟩; have n0_ := Aside0.mk (Kd.R_below (by (with_reducible repeat (first | apply Kd.R_alloc | apply Kd.R_drewN | apply Kd.R_drew)); exact HO_5.out) hb); have n1_ := Aside0.mk (Kd.R_below (by (with_reducible repeat (first | apply Kd.R_alloc | apply Kd.R_drewN | apply Kd.R_drew)); exact HO_6.out) hb); have n2_ := Aside0.mk (below_step (by repeat (first | (with_reducible first | exact HB.out | apply below_alloc | apply pw_below_drewN | apply below_drew1) | exact HB.out)) hb); clear HO_5; clear HO_6; clear HB; have HO_5 := n0_; have HO_6 := n1_; have HB := n2_; clear n0_ n1_ n2_; (try clear hb); (try clear hb2); (try clear hk); (try clear hi)))
                    go_roundg kj11
                    case measure => have := HJ4.out; have := HK2.out; have := HJ11.out; omega
                    case rel => exact ⟨(wrap64 (x10_2 + 1)), (by first | rfl | (simp; done) | (simp [*]; done)), H', ⟨by have := HJ4.out; have := HK2.out; have := HJ11.out; omega⟩, ⟨by (with_reducible repeat (first | apply Kd.R_alloc | apply Kd.R_drewN | apply Kd.R_drew)); exact HO_5.out⟩, ⟨by (with_reducible repeat (first | apply Kd.R_alloc | apply Kd.R_drewN | apply Kd.R_drew)); exact HO_6.out⟩, ⟨by repeat (first | (with_reducible first | exact HB.out | apply below_alloc | apply pw_below_drewN | apply below_drew1) | exact HB.out)⟩⟩
                  · rw [if_neg c24] at H
                    have c24b0 : (t145 == 0) = false := beq_eq_false_iff_ne.mpr c24
                    have c24b1 : (t145 != 0) = true := bne_iff_ne.mpr c24
                    obtain rfl := Option.some.inj H
                    go_wp2_with (first | ((with_reducible refine gate_callee (f := 162) rfl ?_); refine goesL_ (some 48) rfl rfl Tryd.func162 (by kernel_rfl) rfl #[.string x11_11, .string (⟨#[]⟩ : ByteArray)] rfl (by (try simp only [List.map_toArray, List.map_cons, List.map_nil]); first | done | rfl | (simp only [List.length_drop, List.length_take]; rfl)) ?_; (with_reducible refine (Hand.comparePrePart.calls x11_11 (⟨#[]⟩ : ByteArray) t145 _ ?gl15 A23.out).mono ?_); (case gl15 => first | exact HG.out | exact Hand.Gl.below HG.out (by repeat (first | (with_reducible first | exact HB.out | apply below_alloc | apply pw_below_drewN | apply below_drew1) | exact HB.out))); rintro e w26 ⟨rfl, hb⟩; refine ⟨_, rfl, ?_⟩; have n0_ := Aside0.mk (Kd.R_below (by (with_reducible repeat (first | apply Kd.R_alloc | apply Kd.R_drewN | apply Kd.R_drew)); exact HO_5.out) hb); have n1_ := Aside0.mk (Kd.R_below (by (with_reducible repeat (first | apply Kd.R_alloc | apply Kd.R_drewN | apply Kd.R_drew)); exact HO_6.out) hb); have n2_ := Aside0.mk (below_step (by repeat (first | (with_reducible first | exact HB.out | apply below_alloc | apply pw_below_drewN | apply below_drew1) | exact HB.out)) hb); clear HO_5; clear HO_6; clear HB; have HO_5 := n0_; have HO_6 := n1_; have HB := n2_; clear n0_ n1_ n2_; (try clear hb); (try clear hb2); (try clear hk); (try clear hi)))
                    go_ret
                    exact ⟨by first | rfl | (simp [errW_none, errW_some] <;> rfl) | (simp [*, errW_none, errW_some] <;> rfl), by repeat (first | (with_reducible first | exact HB.out | apply below_alloc | apply pw_below_drewN | apply below_drew1) | exact HB.out)⟩
          · rw [if_neg c11] at H
            have c11b0 : decide (x10_2 < x9_4) = false := decide_eq_false c11
            clear c11
            obtain rfl := Option.some.inj H
            go_wp2
            go_ret
            exact ⟨by first | rfl | (simp [errW_none, errW_some] <;> rfl) | (simp [*, errW_none, errW_some] <;> rfl), by repeat (first | (with_reducible first | exact HB.out | apply below_alloc | apply pw_below_drewN | apply below_drew1) | exact HB.out)⟩

/-! ### semver_ZZComparePrerelease: function 81 -/
def semver_ZZComparePrerelease.f (k : Nat) (a0 : ByteArray) (a1 : ByteArray) : Option (Int) := (semver_comparePrerelease.f k a0 a1).bind fun t146 => (some t146)
theorem semver_ZZComparePrerelease.mono : ∀ a0 a1 k, LeO (semver_ZZComparePrerelease.f k a0 a1) (semver_ZZComparePrerelease.f (k + 1) a0 a1) := by
  intro a0 a1 k
  unfold semver_ZZComparePrerelease.f
  repeat' first
      | (with_reducible exact semver_comparePrerelease.mono _ _ _)
      | (with_reducible exact LeO.refl _)
      | (with_reducible exact LeO.none _)
      | (with_reducible refine LeO.ite ?_ ?_)
      | (with_reducible refine LeO.bind ?_ (fun _ => ?_))
      | exact semver_comparePrerelease.mono _ _ _
      | exact LeO.none _
      | refine LeO.ite ?_ ?_
      | refine LeO.bind ?_ (fun _ => ?_)
set_option maxHeartbeats 8000000 in
set_option maxRecDepth 100000 in
theorem semver_ZZComparePrerelease.calls (k : Nat) (a0 : ByteArray) (a1 : ByteArray) (r : Int) (w : World) (hG0 : Hand.Gl w) (h : semver_ZZComparePrerelease.f k a0 a1 = some r) :
    Calls Tryd.prog 81 #[.string a0, .string a1] w fun e w' => e = .returned (.int .i64 r) ∧ Below w.heap.size w w' := by
  have HG := Aside0.mk hG0
  clear hG0
  have HB := Aside0.mk (Below.refl w.heap.size w)
  have H : ((semver_comparePrerelease.f k a0 a1).bind fun t146 => (some t146)) = some r := h
  clear h
  replace H := Option.bind_eq_some_iff.mp H
  obtain ⟨t146, A30, H⟩ := H
  replace H : (some t146) = some r := H
  have A3 := Aside0.mk A30
  clear A30
  obtain rfl := Option.some.inj H
  go_enter Tryd.func81, Tryd.ntmps81
  go_wp2_with (first | ((with_reducible refine gate_callee (f := 128) rfl ?_); refine goesL_ (some 7) rfl rfl Tryd.func128 (by kernel_rfl) rfl #[.string a0, .string a1] rfl (by (try simp only [List.map_toArray, List.map_cons, List.map_nil]); first | done | rfl | (simp only [List.length_drop, List.length_take]; rfl)) ?_; (with_reducible refine (semver_comparePrerelease.calls k a0 a1 t146 _ ?gl11 A3.out).mono ?_); (case gl11 => first | exact HG.out | exact Hand.Gl.below HG.out (by repeat (first | (with_reducible first | exact HB.out | apply below_alloc | apply pw_below_drewN | apply below_drew1) | exact HB.out))); rintro e w4 ⟨rfl, hb⟩; refine ⟨_, rfl, ?_⟩; have n0_ := Aside0.mk (below_step (by repeat (first | (with_reducible first | exact HB.out | apply below_alloc | apply pw_below_drewN | apply below_drew1) | exact HB.out)) hb); clear HB; have HB := n0_; clear n0_; (try clear hb); (try clear hb2); (try clear hk); (try clear hi)))
  go_ret
  exact ⟨by first | rfl | (simp [errW_none, errW_some] <;> rfl) | (simp [*, errW_none, errW_some] <;> rfl), by repeat (first | (with_reducible first | exact HB.out | apply below_alloc | apply pw_below_drewN | apply below_drew1) | exact HB.out)⟩

/-! ### impl_ComparePre: function 24 -/
def impl_ComparePre.f (k : Nat) (a0 : ByteArray) (a1 : ByteArray) : Option (Int) := (semver_ZZComparePrerelease.f k a0 a1).bind fun t147 => (some t147)
theorem impl_ComparePre.mono : ∀ a0 a1 k, LeO (impl_ComparePre.f k a0 a1) (impl_ComparePre.f (k + 1) a0 a1) := by
  intro a0 a1 k
  unfold impl_ComparePre.f
  repeat' first
      | (with_reducible exact semver_ZZComparePrerelease.mono _ _ _)
      | (with_reducible exact LeO.refl _)
      | (with_reducible exact LeO.none _)
      | (with_reducible refine LeO.ite ?_ ?_)
      | (with_reducible refine LeO.bind ?_ (fun _ => ?_))
      | exact semver_ZZComparePrerelease.mono _ _ _
      | exact LeO.none _
      | refine LeO.ite ?_ ?_
      | refine LeO.bind ?_ (fun _ => ?_)
set_option maxHeartbeats 8000000 in
set_option maxRecDepth 100000 in
theorem impl_ComparePre.calls (k : Nat) (a0 : ByteArray) (a1 : ByteArray) (r : Int) (w : World) (hG0 : Hand.Gl w) (h : impl_ComparePre.f k a0 a1 = some r) :
    Calls Tryd.prog 24 #[.string a0, .string a1] w fun e w' => e = .returned (.int .i64 r) ∧ Below w.heap.size w w' := by
  have HG := Aside0.mk hG0
  clear hG0
  have HB := Aside0.mk (Below.refl w.heap.size w)
  have H : ((semver_ZZComparePrerelease.f k a0 a1).bind fun t147 => (some t147)) = some r := h
  clear h
  replace H := Option.bind_eq_some_iff.mp H
  obtain ⟨t147, A30, H⟩ := H
  replace H : (some t147) = some r := H
  have A3 := Aside0.mk A30
  clear A30
  obtain rfl := Option.some.inj H
  go_enter Tryd.func24, Tryd.ntmps24
  go_wp2_with (first | ((with_reducible refine gate_callee (f := 81) rfl ?_); refine goesL_ (some 7) rfl rfl Tryd.func81 (by kernel_rfl) rfl #[.string a0, .string a1] rfl (by (try simp only [List.map_toArray, List.map_cons, List.map_nil]); first | done | rfl | (simp only [List.length_drop, List.length_take]; rfl)) ?_; (with_reducible refine (semver_ZZComparePrerelease.calls k a0 a1 t147 _ ?gl10 A3.out).mono ?_); (case gl10 => first | exact HG.out | exact Hand.Gl.below HG.out (by repeat (first | (with_reducible first | exact HB.out | apply below_alloc | apply pw_below_drewN | apply below_drew1) | exact HB.out))); rintro e w4 ⟨rfl, hb⟩; refine ⟨_, rfl, ?_⟩; have n0_ := Aside0.mk (below_step (by repeat (first | (with_reducible first | exact HB.out | apply below_alloc | apply pw_below_drewN | apply below_drew1) | exact HB.out)) hb); clear HB; have HB := n0_; clear n0_; (try clear hb); (try clear hb2); (try clear hk); (try clear hi)))
  go_ret
  exact ⟨by first | rfl | (simp [errW_none, errW_some] <;> rfl) | (simp [*, errW_none, errW_some] <;> rfl), by repeat (first | (with_reducible first | exact HB.out | apply below_alloc | apply pw_below_drewN | apply below_drew1) | exact HB.out)⟩

/-! ### laws_FnSemverPreHead: function 4 -/
def laws_FnSemverPreHead.j0 : Nat → ByteArray → ByteArray → ByteArray → Bool → Option (Bool)
  | 0, _, _, _, _ => none
  | k + 1, x0, x1, x2, x21 => if x21 = true then (some true) else ((laws_spPres.f k (([x0, x1, x2] : List ByteArray))).bind fun t151 => (if t151 = true then (if x0.size + 1 ≤ 9223372036854775807 then (if (x0 ++ (⟨#[46]⟩ : ByteArray)).size + x1.size ≤ 9223372036854775807 then (if (x0 ++ (⟨#[46]⟩ : ByteArray)).size + x2.size ≤ 9223372036854775807 then ((impl_ComparePre.f k ((x0 ++ (⟨#[46]⟩ : ByteArray)) ++ x1) ((x0 ++ (⟨#[46]⟩ : ByteArray)) ++ x2)).bind fun t152 => ((impl_ComparePre.f k x1 x2).bind fun t153 => (if t152 = t153 then ((impl_ComparePre.f k x0 ((x0 ++ (⟨#[46]⟩ : ByteArray)) ++ x1)).bind fun t154 => (if t154 = (-1) then ((impl_ComparePre.f k ((x0 ++ (⟨#[46]⟩ : ByteArray)) ++ x2) x0).bind fun t155 => (some (t155 == 1))) else (some false))) else (some false)))) else (none)) else (none)) else (none)) else (some true)))
def laws_FnSemverPreHead.f (k : Nat) (a0 : ByteArray) (a1 : ByteArray) (a2 : ByteArray) : Option (Bool) := if (a0.size : Int) > 2147483647 then (laws_FnSemverPreHead.j0 k a0 a1 a2 true) else (if (a1.size : Int) > 2147483647 then (laws_FnSemverPreHead.j0 k a0 a1 a2 true) else (laws_FnSemverPreHead.j0 k a0 a1 a2 (decide ((a2.size : Int) > 2147483647))))
theorem laws_FnSemverPreHead.mono_l : ∀ k, (∀ y0 y1 y2 y3, LeO (laws_FnSemverPreHead.j0 k y0 y1 y2 y3) (laws_FnSemverPreHead.j0 (k + 1) y0 y1 y2 y3))
  | 0 => fun _ _ _ _ r h => by simp [laws_FnSemverPreHead.j0] at h
  | k + 1 => by
    have ih0 := laws_FnSemverPreHead.mono_l k
    · intro y0 y1 y2 y3
      unfold laws_FnSemverPreHead.j0
      repeat' first
      | (with_reducible exact ih0 _ _ _ _)
      | (with_reducible exact impl_ComparePre.mono _ _ _)
      | (with_reducible exact laws_spPres.mono _ _)
      | (with_reducible exact LeO.refl _)
      | (with_reducible exact LeO.none _)
      | (with_reducible refine LeO.ite ?_ ?_)
      | (with_reducible refine LeO.bind ?_ (fun _ => ?_))
      | exact ih0 _ _ _ _
      | exact impl_ComparePre.mono _ _ _
      | exact laws_spPres.mono _ _
      | exact LeO.none _
      | refine LeO.ite ?_ ?_
      | refine LeO.bind ?_ (fun _ => ?_)
theorem laws_FnSemverPreHead.mono : ∀ a0 a1 a2 k, LeO (laws_FnSemverPreHead.f k a0 a1 a2) (laws_FnSemverPreHead.f (k + 1) a0 a1 a2) := by
  intro a0 a1 a2 k
  have ih0 := laws_FnSemverPreHead.mono_l k
  unfold laws_FnSemverPreHead.f
  repeat' first
      | (with_reducible exact ih0 _ _ _ _)
      | (with_reducible exact impl_ComparePre.mono _ _ _)
      | (with_reducible exact laws_spPres.mono _ _)
      | (with_reducible exact LeO.refl _)
      | (with_reducible exact LeO.none _)
      | (with_reducible refine LeO.ite ?_ ?_)
      | (with_reducible refine LeO.bind ?_ (fun _ => ?_))
      | exact ih0 _ _ _ _
      | exact impl_ComparePre.mono _ _ _
      | exact laws_spPres.mono _ _
      | exact LeO.none _
      | refine LeO.ite ?_ ?_
      | refine LeO.bind ?_ (fun _ => ?_)
set_option maxHeartbeats 8000000 in
set_option maxRecDepth 100000 in
theorem laws_FnSemverPreHead.calls (k : Nat) (a0 : ByteArray) (a1 : ByteArray) (a2 : ByteArray) (r : Bool) (w : World) (hG0 : Hand.Gl w) (h : laws_FnSemverPreHead.f k a0 a1 a2 = some r) :
    Calls Tryd.prog 4 #[.string a0, .string a1, .string a2] w fun e w' => e = .returned (.bool r) ∧ Below w.heap.size w w' := by
  have HG := Aside0.mk hG0
  clear hG0
  have HB := Aside0.mk (Below.refl w.heap.size w)
  have H : (if (a0.size : Int) > 2147483647 then (laws_FnSemverPreHead.j0 k a0 a1 a2 true) else (if (a1.size : Int) > 2147483647 then (laws_FnSemverPreHead.j0 k a0 a1 a2 true) else (laws_FnSemverPreHead.j0 k a0 a1 a2 (decide ((a2.size : Int) > 2147483647))))) = some r := h
  clear h
  have HC4 := Aside0.mk H
  clear H
  go_enter Tryd.func4, Tryd.ntmps4
  go_upto_region 1 with (fail)
  go_cut [21] (fun v21 wc => ∃ (kq : Nat) (x21_3 : Bool), v21 = .bool x21_3 ∧ Aside0 (laws_FnSemverPreHead.j0 kq a0 a1 a2 x21_3 = some r) ∧ Aside0 (kq ≤ k) ∧ Aside0 (Below w.heap.size w wc))
  case first =>
    have H := HC4.out
    clear HC4
    by_cases c5 : (a0.size : Int) > 2147483647
    · rw [if_pos c5] at H
      have c5b0 : decide (2147483647 < (a0.size : Int)) = true := decide_eq_true c5
      have c5b1 : decide (2147483647 < a0.size) = true := decide_eq_true (by omega)
      clear c5
      (first | rw [c5b0] | (simp only [i64_w, i32_w]; rw [c5b0]) | skip)
      have H' := Aside0.mk H
      clear H
      go_wp2
      go_meet
      case rel => exact ⟨_, (true), (by first | rfl | (simp; done) | (simp [*]; done)), H', ⟨by first | omega | exact Nat.le_refl _⟩, ⟨by repeat (first | (with_reducible first | exact HB.out | apply below_alloc | apply pw_below_drewN | apply below_drew1) | exact HB.out)⟩⟩
    · rw [if_neg c5] at H
      have c5b0 : decide (2147483647 < (a0.size : Int)) = false := decide_eq_false c5
      have c5b1 : decide (2147483647 < a0.size) = false := decide_eq_false (by omega)
      clear c5
      (first | rw [c5b0] | (simp only [i64_w, i32_w]; rw [c5b0]) | skip)
      by_cases c6 : (a1.size : Int) > 2147483647
      · rw [if_pos c6] at H
        have c6b0 : decide (2147483647 < (a1.size : Int)) = true := decide_eq_true c6
        have c6b1 : decide (2147483647 < a1.size) = true := decide_eq_true (by omega)
        clear c6
        have H' := Aside0.mk H
        clear H
        go_wp2
        go_meet
        case rel => exact ⟨_, (true), (by first | rfl | (simp; done) | (simp [*]; done)), H', ⟨by first | omega | exact Nat.le_refl _⟩, ⟨by repeat (first | (with_reducible first | exact HB.out | apply below_alloc | apply pw_below_drewN | apply below_drew1) | exact HB.out)⟩⟩
      · rw [if_neg c6] at H
        have c6b0 : decide (2147483647 < (a1.size : Int)) = false := decide_eq_false c6
        have c6b1 : decide (2147483647 < a1.size) = false := decide_eq_false (by omega)
        clear c6
        have H' := Aside0.mk H
        clear H
        go_wp2
        go_meet
        case rel => exact ⟨_, (decide ((a2.size : Int) > 2147483647)), (by first | rfl | (simp; done) | (simp [*]; done)), H', ⟨by first | omega | exact Nat.le_refl _⟩, ⟨by repeat (first | (with_reducible first | exact HB.out | apply below_alloc | apply pw_below_drewN | apply below_drew1) | exact HB.out)⟩⟩
  case rest =>
    clear HC4
    try clear p2
    try clear c4
    try clear c5
    try clear c5b0
    try clear c5b1
    try clear c6
    try clear c6b0
    try clear c6b1
    obtain ⟨kq, x21_3, rfl, HA, HJ3, HB⟩ := hcut
    cases kq with
    | zero => exact absurd HA.out (by simp [laws_FnSemverPreHead.j0])
    | succ kj3 =>
      have H := HA.out
      clear HA
      simp only [laws_FnSemverPreHead.j0] at H
      by_cases c7 : x21_3 = true
      · subst c7
        have H1 : (some true) = some r := by rw [if_pos rfl] at H; exact H
        clear H
        have H := H1
        clear H1
        obtain rfl := Option.some.inj H
        go_wp2
        go_ret
        exact ⟨by first | rfl | (simp [errW_none, errW_some] <;> rfl) | (simp [*, errW_none, errW_some] <;> rfl), by repeat (first | (with_reducible first | exact HB.out | apply below_alloc | apply pw_below_drewN | apply below_drew1) | exact HB.out)⟩
      · replace c7 := Bool.eq_false_iff.mpr c7
        subst c7
        have H1 : ((laws_spPres.f kj3 (([a0, a1, a2] : List ByteArray))).bind fun t151 => (if t151 = true then (if a0.size + 1 ≤ 9223372036854775807 then (if (a0 ++ (⟨#[46]⟩ : ByteArray)).size + a1.size ≤ 9223372036854775807 then (if (a0 ++ (⟨#[46]⟩ : ByteArray)).size + a2.size ≤ 9223372036854775807 then ((impl_ComparePre.f kj3 ((a0 ++ (⟨#[46]⟩ : ByteArray)) ++ a1) ((a0 ++ (⟨#[46]⟩ : ByteArray)) ++ a2)).bind fun t152 => ((impl_ComparePre.f kj3 a1 a2).bind fun t153 => (if t152 = t153 then ((impl_ComparePre.f kj3 a0 ((a0 ++ (⟨#[46]⟩ : ByteArray)) ++ a1)).bind fun t154 => (if t154 = (-1) then ((impl_ComparePre.f kj3 ((a0 ++ (⟨#[46]⟩ : ByteArray)) ++ a2) a0).bind fun t155 => (some (t155 == 1))) else (some false))) else (some false)))) else (none)) else (none)) else (none)) else (some true))) = some r := by rw [if_neg (show ¬ (false = true) by decide)] at H; exact H
        clear H
        have H := H1
        clear H1
        obtain ⟨y148, hy148⟩ : ∃ y_ : List ByteArray, y_ = (([a0, a1, a2] : List ByteArray)) := ⟨_, rfl⟩
        replace H : ((laws_spPres.f kj3 y148).bind fun t151 => (if t151 = true then (if a0.size + 1 ≤ 9223372036854775807 then (if (a0 ++ (⟨#[46]⟩ : ByteArray)).size + a1.size ≤ 9223372036854775807 then (if (a0 ++ (⟨#[46]⟩ : ByteArray)).size + a2.size ≤ 9223372036854775807 then ((impl_ComparePre.f kj3 ((a0 ++ (⟨#[46]⟩ : ByteArray)) ++ a1) ((a0 ++ (⟨#[46]⟩ : ByteArray)) ++ a2)).bind fun t152 => ((impl_ComparePre.f kj3 a1 a2).bind fun t153 => (if t152 = t153 then ((impl_ComparePre.f kj3 a0 ((a0 ++ (⟨#[46]⟩ : ByteArray)) ++ a1)).bind fun t154 => (if t154 = (-1) then ((impl_ComparePre.f kj3 ((a0 ++ (⟨#[46]⟩ : ByteArray)) ++ a2) a0).bind fun t155 => (some (t155 == 1))) else (some false))) else (some false)))) else (none)) else (none)) else (none)) else (some true))) = some r := by first | (rw [hy148]; with_reducible exact H) | (have H2_ := (Option.bind_some _ _).symm.trans H; rw [hy148]; with_reducible exact H2_) | (have H2_ := (Option.bind_some _ _).symm.trans H; with_reducible exact H2_) | with_reducible exact H | (rw [hy148]; exact H) | exact H
        have Ny148 := Aside0.mk hy148
        clear hy148
        replace H := Option.bind_eq_some_iff.mp H
        obtain ⟨t151, A80, H⟩ := H
        replace H : (if t151 = true then (if a0.size + 1 ≤ 9223372036854775807 then (if (a0 ++ (⟨#[46]⟩ : ByteArray)).size + a1.size ≤ 9223372036854775807 then (if (a0 ++ (⟨#[46]⟩ : ByteArray)).size + a2.size ≤ 9223372036854775807 then ((impl_ComparePre.f kj3 ((a0 ++ (⟨#[46]⟩ : ByteArray)) ++ a1) ((a0 ++ (⟨#[46]⟩ : ByteArray)) ++ a2)).bind fun t152 => ((impl_ComparePre.f kj3 a1 a2).bind fun t153 => (if t152 = t153 then ((impl_ComparePre.f kj3 a0 ((a0 ++ (⟨#[46]⟩ : ByteArray)) ++ a1)).bind fun t154 => (if t154 = (-1) then ((impl_ComparePre.f kj3 ((a0 ++ (⟨#[46]⟩ : ByteArray)) ++ a2) a0).bind fun t155 => (some (t155 == 1))) else (some false))) else (some false)))) else (none)) else (none)) else (none)) else (some true)) = some r := H
        have A8 := Aside0.mk A80
        clear A80
        by_cases c9 : t151 = true
        · subst c9
          have H1 : (if a0.size + 1 ≤ 9223372036854775807 then (if (a0 ++ (⟨#[46]⟩ : ByteArray)).size + a1.size ≤ 9223372036854775807 then (if (a0 ++ (⟨#[46]⟩ : ByteArray)).size + a2.size ≤ 9223372036854775807 then ((impl_ComparePre.f kj3 ((a0 ++ (⟨#[46]⟩ : ByteArray)) ++ a1) ((a0 ++ (⟨#[46]⟩ : ByteArray)) ++ a2)).bind fun t152 => ((impl_ComparePre.f kj3 a1 a2).bind fun t153 => (if t152 = t153 then ((impl_ComparePre.f kj3 a0 ((a0 ++ (⟨#[46]⟩ : ByteArray)) ++ a1)).bind fun t154 => (if t154 = (-1) then ((impl_ComparePre.f kj3 ((a0 ++ (⟨#[46]⟩ : ByteArray)) ++ a2) a0).bind fun t155 => (some (t155 == 1))) else (some false))) else (some false)))) else (none)) else (none)) else (none)) = some r := by rw [if_pos rfl] at H; exact H
          clear H
          have H := H1
          clear H1
          by_cases c10 : a0.size + 1 ≤ 9223372036854775807
          · rw [if_pos c10] at H
            have c10b0 := eq_true c10
            have c10b1 : decide (a0.size + 1 ≤ 9223372036854775807) = true := decide_eq_true c10
            try have c10b2 : (9223372036854775807 < a0.size + 1) = False := eq_false (Nat.not_lt.2 c10)
            by_cases c11 : (a0 ++ (⟨#[46]⟩ : ByteArray)).size + a1.size ≤ 9223372036854775807
            · rw [if_pos c11] at H
              have c11b0 := eq_true c11
              have c11b1 : decide ((a0 ++ (⟨#[46]⟩ : ByteArray)).size + a1.size ≤ 9223372036854775807) = true := decide_eq_true c11
              try have c11b2 : (9223372036854775807 < (a0 ++ (⟨#[46]⟩ : ByteArray)).size + a1.size) = False := eq_false (Nat.not_lt.2 c11)
              by_cases c12 : (a0 ++ (⟨#[46]⟩ : ByteArray)).size + a2.size ≤ 9223372036854775807
              · rw [if_pos c12] at H
                have c12b0 := eq_true c12
                have c12b1 : decide ((a0 ++ (⟨#[46]⟩ : ByteArray)).size + a2.size ≤ 9223372036854775807) = true := decide_eq_true c12
                try have c12b2 : (9223372036854775807 < (a0 ++ (⟨#[46]⟩ : ByteArray)).size + a2.size) = False := eq_false (Nat.not_lt.2 c12)
                replace H := Option.bind_eq_some_iff.mp H
                obtain ⟨t152, A130, H⟩ := H
                replace H : ((impl_ComparePre.f kj3 a1 a2).bind fun t153 => (if t152 = t153 then ((impl_ComparePre.f kj3 a0 ((a0 ++ (⟨#[46]⟩ : ByteArray)) ++ a1)).bind fun t154 => (if t154 = (-1) then ((impl_ComparePre.f kj3 ((a0 ++ (⟨#[46]⟩ : ByteArray)) ++ a2) a0).bind fun t155 => (some (t155 == 1))) else (some false))) else (some false))) = some r := H
                have A13 := Aside0.mk A130
                clear A130
                replace H := Option.bind_eq_some_iff.mp H
                obtain ⟨t153, A140, H⟩ := H
                replace H : (if t152 = t153 then ((impl_ComparePre.f kj3 a0 ((a0 ++ (⟨#[46]⟩ : ByteArray)) ++ a1)).bind fun t154 => (if t154 = (-1) then ((impl_ComparePre.f kj3 ((a0 ++ (⟨#[46]⟩ : ByteArray)) ++ a2) a0).bind fun t155 => (some (t155 == 1))) else (some false))) else (some false)) = some r := H
                have A14 := Aside0.mk A140
                clear A140
                by_cases c15 : t152 = t153
                · rw [if_pos c15] at H
                  have c15b0 : (t152 == t153) = true := beq_iff_eq.mpr c15
                  have c15b1 : (t152 != t153) = false := bne_eq_false_iff_eq.mpr c15
                  clear c15
                  replace H := Option.bind_eq_some_iff.mp H
                  obtain ⟨t154, A160, H⟩ := H
                  replace H : (if t154 = (-1) then ((impl_ComparePre.f kj3 ((a0 ++ (⟨#[46]⟩ : ByteArray)) ++ a2) a0).bind fun t155 => (some (t155 == 1))) else (some false)) = some r := H
                  have A16 := Aside0.mk A160
                  clear A160
                  by_cases c17 : t154 = (-1)
                  · rw [if_pos c17] at H
                    have c17b0 : (t154 == (-1)) = true := beq_iff_eq.mpr c17
                    have c17b1 : (t154 != (-1)) = false := bne_eq_false_iff_eq.mpr c17
                    clear c17
                    replace H := Option.bind_eq_some_iff.mp H
                    obtain ⟨t155, A180, H⟩ := H
                    replace H : (some (t155 == 1)) = some r := H
                    have A18 := Aside0.mk A180
                    clear A180
                    obtain rfl := Option.some.inj H
                    go_wp2_with (first | ((with_reducible refine gate_dst (N := 25) rfl ?_); (try (refine gate_guard (by rfl) ?_; dsimp only)); refine Kd.R_lit Kd.string _ 9 ?hg (N := 25) ?hd (xs := ([a0, a1, a2] : List ByteArray)) (inner := [.string a0, .string a1, .string a2]) (ok := fun _ => True) (okp := fun _ => True) ?hr ?hp (fun _ hk => hk) trivial (Below.refl _ _) (Nat.le_refl _) (by simp) ?_; (case hd => rfl); (case hg => rfl); (case hr => first | (go_simp; done) | (go_simp; rfl)); (case hp => exact (Reps.one (show Kd.M Kd.string _ _ _ a0 [.string a0] from rfl) (Reps.one (show Kd.M Kd.string _ _ _ a1 [.string a1] from rfl) (Reps.one (show Kd.M Kd.string _ _ _ a2 [.string a2] from rfl) (Reps.none _ _))))); intro v149 w19 ho20 hb hg_ hnew_; clear hg_ hnew_; (first | rw [← Ny148.out] at ho20 | (simp only [Int.reduceToNat] at ho20; rw [← Ny148.out] at ho20)); have n0_ := Aside0.mk (Kd.R_lower ho20 (below_size (by repeat (first | (with_reducible first | exact HB.out | apply below_alloc | apply pw_below_drewN | apply below_drew1) | exact HB.out)))); have n1_ := Aside0.mk (below_step (by repeat (first | (with_reducible first | exact HB.out | apply below_alloc | apply pw_below_drewN | apply below_drew1) | exact HB.out)) hb); clear HB; have HO150 := n0_; have HB := n1_; clear n0_ n1_; clear hb ho20; obtain ⟨Ao21, co21, eo21⟩ := Kd.R_slice HO150.out; subst eo21) | ((with_reducible refine gate_callee (f := 23) rfl ?_); refine goesL_ (some 26) rfl rfl Tryd.func23 (by kernel_rfl) rfl #[.slice Ao21 y148.length co21] rfl (by (try simp only [List.map_toArray, List.map_cons, List.map_nil]); first | done | rfl | (simp only [List.length_drop, List.length_take]; rfl)) ?_; (with_reducible refine (laws_spPres.calls kj3 _ _ y148 true _ ?side1 ?side2 A8.out).mono ?_); (case side1 => repeat (first | exact (Kd.R_reads' HO150.out).2.2 | (with_reducible refine Kd.C_alloc ?_ _) | (with_reducible refine Kd.C_drewN ?_ _) | (with_reducible refine Kd.C_drew ?_))); (case side2 => exact (Kd.R_reads' HO150.out).2.1); rintro e w22 ⟨rfl, hb⟩; refine ⟨_, rfl, ?_⟩; have n0_ := Aside0.mk (Kd.R_below (by (with_reducible repeat (first | apply Kd.R_alloc | apply Kd.R_drewN | apply Kd.R_drew)); exact HO150.out) hb); have n1_ := Aside0.mk (below_step (by repeat (first | (with_reducible first | exact HB.out | apply below_alloc | apply pw_below_drewN | apply below_drew1) | exact HB.out)) hb); clear HO150; clear HB; have HO150 := n0_; have HB := n1_; clear n0_ n1_; (try clear hb); (try clear hb2); (try clear hk); (try clear hi)) | ((with_reducible refine gate_callee (f := 24) rfl ?_); refine goesL_ (some 38) rfl rfl Tryd.func24 (by kernel_rfl) rfl #[.string ((a0 ++ (⟨#[46]⟩ : ByteArray)) ++ a1), .string ((a0 ++ (⟨#[46]⟩ : ByteArray)) ++ a2)] rfl (by (try simp only [List.map_toArray, List.map_cons, List.map_nil]); first | done | rfl | (simp only [List.length_drop, List.length_take]; rfl)) ?_; (with_reducible refine (impl_ComparePre.calls kj3 ((a0 ++ (⟨#[46]⟩ : ByteArray)) ++ a1) ((a0 ++ (⟨#[46]⟩ : ByteArray)) ++ a2) t152 _ ?gl1 A13.out).mono ?_); (case gl1 => first | exact HG.out | exact Hand.Gl.below HG.out (by repeat (first | (with_reducible first | exact HB.out | apply below_alloc | apply pw_below_drewN | apply below_drew1) | exact HB.out))); rintro e w23 ⟨rfl, hb⟩; refine ⟨_, rfl, ?_⟩; have n0_ := Aside0.mk (Kd.R_below (by (with_reducible repeat (first | apply Kd.R_alloc | apply Kd.R_drewN | apply Kd.R_drew)); exact HO150.out) hb); have n1_ := Aside0.mk (below_step (by repeat (first | (with_reducible first | exact HB.out | apply below_alloc | apply pw_below_drewN | apply below_drew1) | exact HB.out)) hb); clear HO150; clear HB; have HO150 := n0_; have HB := n1_; clear n0_ n1_; (try clear hb); (try clear hb2); (try clear hk); (try clear hi)) | ((with_reducible refine gate_callee (f := 24) rfl ?_); refine goesL_ (some 41) rfl rfl Tryd.func24 (by kernel_rfl) rfl #[.string a1, .string a2] rfl (by (try simp only [List.map_toArray, List.map_cons, List.map_nil]); first | done | rfl | (simp only [List.length_drop, List.length_take]; rfl)) ?_; (with_reducible refine (impl_ComparePre.calls kj3 a1 a2 t153 _ ?gl2 A14.out).mono ?_); (case gl2 => first | exact HG.out | exact Hand.Gl.below HG.out (by repeat (first | (with_reducible first | exact HB.out | apply below_alloc | apply pw_below_drewN | apply below_drew1) | exact HB.out))); rintro e w24 ⟨rfl, hb⟩; refine ⟨_, rfl, ?_⟩; have n0_ := Aside0.mk (Kd.R_below (by (with_reducible repeat (first | apply Kd.R_alloc | apply Kd.R_drewN | apply Kd.R_drew)); exact HO150.out) hb); have n1_ := Aside0.mk (below_step (by repeat (first | (with_reducible first | exact HB.out | apply below_alloc | apply pw_below_drewN | apply below_drew1) | exact HB.out)) hb); clear HO150; clear HB; have HO150 := n0_; have HB := n1_; clear n0_ n1_; (try clear hb); (try clear hb2); (try clear hk); (try clear hi)) | (go_at_call 24; (with_reducible refine (impl_ComparePre.calls kj3 a0 ((a0 ++ (⟨#[46]⟩ : ByteArray)) ++ a1) t154 _ ?gl3 A16.out).mono ?_); (case gl3 => first | exact HG.out | exact Hand.Gl.below HG.out (by repeat (first | (with_reducible first | exact HB.out | apply below_alloc | apply pw_below_drewN | apply below_drew1) | exact HB.out))); rintro e w25 ⟨rfl, hb⟩; have n0_ := Aside0.mk (Kd.R_below (by (with_reducible repeat (first | apply Kd.R_alloc | apply Kd.R_drewN | apply Kd.R_drew)); exact HO150.out) hb); have n1_ := Aside0.mk (below_step (by repeat (first | (with_reducible first | exact HB.out | apply below_alloc | apply pw_below_drewN | apply below_drew1) | exact HB.out)) hb); clear HO150; clear HB; have HO150 := n0_; have HB := n1_; clear n0_ n1_; (try clear hb); (try clear hb2); (try clear hk); (try clear hi)) | (go_at_call 24; (with_reducible refine (impl_ComparePre.calls kj3 ((a0 ++ (⟨#[46]⟩ : ByteArray)) ++ a2) a0 t155 _ ?gl4 A18.out).mono ?_); (case gl4 => first | exact HG.out | exact Hand.Gl.below HG.out (by repeat (first | (with_reducible first | exact HB.out | apply below_alloc | apply pw_below_drewN | apply below_drew1) | exact HB.out))); rintro e w26 ⟨rfl, hb⟩; have n0_ := Aside0.mk (Kd.R_below (by (with_reducible repeat (first | apply Kd.R_alloc | apply Kd.R_drewN | apply Kd.R_drew)); exact HO150.out) hb); have n1_ := Aside0.mk (below_step (by repeat (first | (with_reducible first | exact HB.out | apply below_alloc | apply pw_below_drewN | apply below_drew1) | exact HB.out)) hb); clear HO150; clear HB; have HO150 := n0_; have HB := n1_; clear n0_ n1_; (try clear hb); (try clear hb2); (try clear hk); (try clear hi)))
                    go_ret
                    exact ⟨by first | rfl | (simp [errW_none, errW_some] <;> rfl) | (simp [*, errW_none, errW_some] <;> rfl), by repeat (first | (with_reducible first | exact HB.out | apply below_alloc | apply pw_below_drewN | apply below_drew1) | exact HB.out)⟩
                  · rw [if_neg c17] at H
                    have c17b0 : (t154 == (-1)) = false := beq_eq_false_iff_ne.mpr c17
                    have c17b1 : (t154 != (-1)) = true := bne_iff_ne.mpr c17
                    obtain rfl := Option.some.inj H
                    go_wp2_with (first | ((with_reducible refine gate_dst (N := 25) rfl ?_); (try (refine gate_guard (by rfl) ?_; dsimp only)); refine Kd.R_lit Kd.string _ 9 ?hg (N := 25) ?hd (xs := ([a0, a1, a2] : List ByteArray)) (inner := [.string a0, .string a1, .string a2]) (ok := fun _ => True) (okp := fun _ => True) ?hr ?hp (fun _ hk => hk) trivial (Below.refl _ _) (Nat.le_refl _) (by simp) ?_; (case hd => rfl); (case hg => rfl); (case hr => first | (go_simp; done) | (go_simp; rfl)); (case hp => exact (Reps.one (show Kd.M Kd.string _ _ _ a0 [.string a0] from rfl) (Reps.one (show Kd.M Kd.string _ _ _ a1 [.string a1] from rfl) (Reps.one (show Kd.M Kd.string _ _ _ a2 [.string a2] from rfl) (Reps.none _ _))))); intro v149 w27 ho28 hb hg_ hnew_; clear hg_ hnew_; (first | rw [← Ny148.out] at ho28 | (simp only [Int.reduceToNat] at ho28; rw [← Ny148.out] at ho28)); have n0_ := Aside0.mk (Kd.R_lower ho28 (below_size (by repeat (first | (with_reducible first | exact HB.out | apply below_alloc | apply pw_below_drewN | apply below_drew1) | exact HB.out)))); have n1_ := Aside0.mk (below_step (by repeat (first | (with_reducible first | exact HB.out | apply below_alloc | apply pw_below_drewN | apply below_drew1) | exact HB.out)) hb); clear HB; have HO150 := n0_; have HB := n1_; clear n0_ n1_; clear hb ho28; obtain ⟨Ao29, co29, eo29⟩ := Kd.R_slice HO150.out; subst eo29) | ((with_reducible refine gate_callee (f := 23) rfl ?_); refine goesL_ (some 26) rfl rfl Tryd.func23 (by kernel_rfl) rfl #[.slice Ao29 y148.length co29] rfl (by (try simp only [List.map_toArray, List.map_cons, List.map_nil]); first | done | rfl | (simp only [List.length_drop, List.length_take]; rfl)) ?_; (with_reducible refine (laws_spPres.calls kj3 _ _ y148 true _ ?side1 ?side2 A8.out).mono ?_); (case side1 => repeat (first | exact (Kd.R_reads' HO150.out).2.2 | (with_reducible refine Kd.C_alloc ?_ _) | (with_reducible refine Kd.C_drewN ?_ _) | (with_reducible refine Kd.C_drew ?_))); (case side2 => exact (Kd.R_reads' HO150.out).2.1); rintro e w30 ⟨rfl, hb⟩; refine ⟨_, rfl, ?_⟩; have n0_ := Aside0.mk (Kd.R_below (by (with_reducible repeat (first | apply Kd.R_alloc | apply Kd.R_drewN | apply Kd.R_drew)); exact HO150.out) hb); have n1_ := Aside0.mk (below_step (by repeat (first | (with_reducible first | exact HB.out | apply below_alloc | apply pw_below_drewN | apply below_drew1) | exact HB.out)) hb); clear HO150; clear HB; have HO150 := n0_; have HB := n1_; clear n0_ n1_; (try clear hb); (try clear hb2); (try clear hk); (try clear hi)) | ((with_reducible refine gate_callee (f := 24) rfl ?_); refine goesL_ (some 38) rfl rfl Tryd.func24 (by kernel_rfl) rfl #[.string ((a0 ++ (⟨#[46]⟩ : ByteArray)) ++ a1), .string ((a0 ++ (⟨#[46]⟩ : ByteArray)) ++ a2)] rfl (by (try simp only [List.map_toArray, List.map_cons, List.map_nil]); first | done | rfl | (simp only [List.length_drop, List.length_take]; rfl)) ?_; (with_reducible refine (impl_ComparePre.calls kj3 ((a0 ++ (⟨#[46]⟩ : ByteArray)) ++ a1) ((a0 ++ (⟨#[46]⟩ : ByteArray)) ++ a2) t152 _ ?gl5 A13.out).mono ?_); (case gl5 => first | exact HG.out | exact Hand.Gl.below HG.out (by repeat (first | (with_reducible first | exact HB.out | apply below_alloc | apply pw_below_drewN | apply below_drew1) | exact HB.out))); rintro e w31 ⟨rfl, hb⟩; refine ⟨_, rfl, ?_⟩; have n0_ := Aside0.mk (Kd.R_below (by (with_reducible repeat (first | apply Kd.R_alloc | apply Kd.R_drewN | apply Kd.R_drew)); exact HO150.out) hb); have n1_ := Aside0.mk (below_step (by repeat (first | (with_reducible first | exact HB.out | apply below_alloc | apply pw_below_drewN | apply below_drew1) | exact HB.out)) hb); clear HO150; clear HB; have HO150 := n0_; have HB := n1_; clear n0_ n1_; (try clear hb); (try clear hb2); (try clear hk); (try clear hi)) | ((with_reducible refine gate_callee (f := 24) rfl ?_); refine goesL_ (some 41) rfl rfl Tryd.func24 (by kernel_rfl) rfl #[.string a1, .string a2] rfl (by (try simp only [List.map_toArray, List.map_cons, List.map_nil]); first | done | rfl | (simp only [List.length_drop, List.length_take]; rfl)) ?_; (with_reducible refine (impl_ComparePre.calls kj3 a1 a2 t153 _ ?gl6 A14.out).mono ?_); (case gl6 => first | exact HG.out | exact Hand.Gl.below HG.out (by repeat (first | (with_reducible first | exact HB.out | apply below_alloc | apply pw_below_drewN | apply below_drew1) | exact HB.out))); rintro e w32 ⟨rfl, hb⟩; refine ⟨_, rfl, ?_⟩; have n0_ := Aside0.mk (Kd.R_below (by (with_reducible repeat (first | apply Kd.R_alloc | apply Kd.R_drewN | apply Kd.R_drew)); exact HO150.out) hb); have n1_ := Aside0.mk (below_step (by repeat (first | (with_reducible first | exact HB.out | apply below_alloc | apply pw_below_drewN | apply below_drew1) | exact HB.out)) hb); clear HO150; clear HB; have HO150 := n0_; have HB := n1_; clear n0_ n1_; (try clear hb); (try clear hb2); (try clear hk); (try clear hi)) | (go_at_call 24; (with_reducible refine (impl_ComparePre.calls kj3 a0 ((a0 ++ (⟨#[46]⟩ : ByteArray)) ++ a1) t154 _ ?gl7 A16.out).mono ?_); (case gl7 => first | exact HG.out | exact Hand.Gl.below HG.out (by repeat (first | (with_reducible first | exact HB.out | apply below_alloc | apply pw_below_drewN | apply below_drew1) | exact HB.out))); rintro e w33 ⟨rfl, hb⟩; have n0_ := Aside0.mk (Kd.R_below (by (with_reducible repeat (first | apply Kd.R_alloc | apply Kd.R_drewN | apply Kd.R_drew)); exact HO150.out) hb); have n1_ := Aside0.mk (below_step (by repeat (first | (with_reducible first | exact HB.out | apply below_alloc | apply pw_below_drewN | apply below_drew1) | exact HB.out)) hb); clear HO150; clear HB; have HO150 := n0_; have HB := n1_; clear n0_ n1_; (try clear hb); (try clear hb2); (try clear hk); (try clear hi)))
                    go_ret
                    exact ⟨by first | rfl | (simp [errW_none, errW_some] <;> rfl) | (simp [*, errW_none, errW_some] <;> rfl), by repeat (first | (with_reducible first | exact HB.out | apply below_alloc | apply pw_below_drewN | apply below_drew1) | exact HB.out)⟩
                · rw [if_neg c15] at H
                  have c15b0 : (t152 == t153) = false := beq_eq_false_iff_ne.mpr c15
                  have c15b1 : (t152 != t153) = true := bne_iff_ne.mpr c15
                  obtain rfl := Option.some.inj H
                  go_wp2_with (first | ((with_reducible refine gate_dst (N := 25) rfl ?_); (try (refine gate_guard (by rfl) ?_; dsimp only)); refine Kd.R_lit Kd.string _ 9 ?hg (N := 25) ?hd (xs := ([a0, a1, a2] : List ByteArray)) (inner := [.string a0, .string a1, .string a2]) (ok := fun _ => True) (okp := fun _ => True) ?hr ?hp (fun _ hk => hk) trivial (Below.refl _ _) (Nat.le_refl _) (by simp) ?_; (case hd => rfl); (case hg => rfl); (case hr => first | (go_simp; done) | (go_simp; rfl)); (case hp => exact (Reps.one (show Kd.M Kd.string _ _ _ a0 [.string a0] from rfl) (Reps.one (show Kd.M Kd.string _ _ _ a1 [.string a1] from rfl) (Reps.one (show Kd.M Kd.string _ _ _ a2 [.string a2] from rfl) (Reps.none _ _))))); intro v149 w34 ho35 hb hg_ hnew_; clear hg_ hnew_; (first | rw [← Ny148.out] at ho35 | (simp only [Int.reduceToNat] at ho35; rw [← Ny148.out] at ho35)); have n0_ := Aside0.mk (Kd.R_lower ho35 (below_size (by repeat (first | (with_reducible first | exact HB.out | apply below_alloc | apply pw_below_drewN | apply below_drew1) | exact HB.out)))); have n1_ := Aside0.mk (below_step (by repeat (first | (with_reducible first | exact HB.out | apply below_alloc | apply pw_below_drewN | apply below_drew1) | exact HB.out)) hb); clear HB; have HO150 := n0_; have HB := n1_; clear n0_ n1_; clear hb ho35; obtain ⟨Ao36, co36, eo36⟩ := Kd.R_slice HO150.out; subst eo36) | ((with_reducible refine gate_callee (f := 23) rfl ?_); refine goesL_ (some 26) rfl rfl Tryd.func23 (by kernel_rfl) rfl #[.slice Ao36 y148.length co36] rfl (by (try simp only [List.map_toArray, List.map_cons, List.map_nil]); first | done | rfl | (simp only [List.length_drop, List.length_take]; rfl)) ?_; (with_reducible refine (laws_spPres.calls kj3 _ _ y148 true _ ?side1 ?side2 A8.out).mono ?_); (case side1 => repeat (first | exact (Kd.R_reads' HO150.out).2.2 | (with_reducible refine Kd.C_alloc ?_ _) | (with_reducible refine Kd.C_drewN ?_ _) | (with_reducible refine Kd.C_drew ?_))); (case side2 => exact (Kd.R_reads' HO150.out).2.1); rintro e w37 ⟨rfl, hb⟩; refine ⟨_, rfl, ?_⟩; have n0_ := Aside0.mk (Kd.R_below (by (with_reducible repeat (first | apply Kd.R_alloc | apply Kd.R_drewN | apply Kd.R_drew)); exact HO150.out) hb); have n1_ := Aside0.mk (below_step (by repeat (first | (with_reducible first | exact HB.out | apply below_alloc | apply pw_below_drewN | apply below_drew1) | exact HB.out)) hb); clear HO150; clear HB; have HO150 := n0_; have HB := n1_; clear n0_ n1_; (try clear hb); (try clear hb2); (try clear hk); (try clear hi)) | ((with_reducible refine gate_callee (f := 24) rfl ?_); refine goesL_ (some 38) rfl rfl Tryd.func24 (by kernel_rfl) rfl #[.string ((a0 ++ (⟨#[46]⟩ : ByteArray)) ++ a1), .string ((a0 ++ (⟨#[46]⟩ : ByteArray)) ++ a2)] rfl (by (try simp only [List.map_toArray, List.map_cons, List.map_nil]); first | done | rfl | (simp only [List.length_drop, List.length_take]; rfl)) ?_; (with_reducible refine (impl_ComparePre.calls kj3 ((a0 ++ (⟨#[46]⟩ : ByteArray)) ++ a1) ((a0 ++ (⟨#[46]⟩ : ByteArray)) ++ a2) t152 _ ?gl8 A13.out).mono ?_); (case gl8 => first | exact HG.out | exact Hand.Gl.below HG.out (by repeat (first | (with_reducible first | exact HB.out | apply below_alloc | apply pw_below_drewN | apply below_drew1) | exact HB.out))); rintro e w38 ⟨rfl, hb⟩; refine ⟨_, rfl, ?_⟩; have n0_ := Aside0.mk (Kd.R_below (by (with_reducible repeat (first | apply Kd.R_alloc | apply Kd.R_drewN | apply Kd.R_drew)); exact HO150.out) hb); have n1_ := Aside0.mk (below_step (by repeat (first | (with_reducible first | exact HB.out | apply below_alloc | apply pw_below_drewN | apply below_drew1) | exact HB.out)) hb); clear HO150; clear HB; have HO150 := n0_; have HB := n1_; clear n0_ n1_; (try clear hb); (try clear hb2); (try clear hk); (try clear hi)) | ((with_reducible refine gate_callee (f := 24) rfl ?_); refine goesL_ (some 41) rfl rfl Tryd.func24 (by kernel_rfl) rfl #[.string a1, .string a2] rfl (by (try simp only [List.map_toArray, List.map_cons, List.map_nil]); first | done | rfl | (simp only [List.length_drop, List.length_take]; rfl)) ?_; (with_reducible refine (impl_ComparePre.calls kj3 a1 a2 t153 _ ?gl9 A14.out).mono ?_); (case gl9 => first | exact HG.out | exact Hand.Gl.below HG.out (by repeat (first | (with_reducible first | exact HB.out | apply below_alloc | apply pw_below_drewN | apply below_drew1) | exact HB.out))); rintro e w39 ⟨rfl, hb⟩; refine ⟨_, rfl, ?_⟩; have n0_ := Aside0.mk (Kd.R_below (by (with_reducible repeat (first | apply Kd.R_alloc | apply Kd.R_drewN | apply Kd.R_drew)); exact HO150.out) hb); have n1_ := Aside0.mk (below_step (by repeat (first | (with_reducible first | exact HB.out | apply below_alloc | apply pw_below_drewN | apply below_drew1) | exact HB.out)) hb); clear HO150; clear HB; have HO150 := n0_; have HB := n1_; clear n0_ n1_; (try clear hb); (try clear hb2); (try clear hk); (try clear hi)))
                  go_ret
                  exact ⟨by first | rfl | (simp [errW_none, errW_some] <;> rfl) | (simp [*, errW_none, errW_some] <;> rfl), by repeat (first | (with_reducible first | exact HB.out | apply below_alloc | apply pw_below_drewN | apply below_drew1) | exact HB.out)⟩
              · rw [if_neg c12] at H
                exact absurd H (by simp)
            · rw [if_neg c11] at H
              exact absurd H (by simp)
          · rw [if_neg c10] at H
            exact absurd H (by simp)
        · replace c9 := Bool.eq_false_iff.mpr c9
          subst c9
          have H1 : (some true) = some r := by rw [if_neg (show ¬ (false = true) by decide)] at H; exact H
          clear H
          have H := H1
          clear H1
          obtain rfl := Option.some.inj H
          go_wp2_with (first | ((with_reducible refine gate_dst (N := 25) rfl ?_); (try (refine gate_guard (by rfl) ?_; dsimp only)); refine Kd.R_lit Kd.string _ 9 ?hg (N := 25) ?hd (xs := ([a0, a1, a2] : List ByteArray)) (inner := [.string a0, .string a1, .string a2]) (ok := fun _ => True) (okp := fun _ => True) ?hr ?hp (fun _ hk => hk) trivial (Below.refl _ _) (Nat.le_refl _) (by simp) ?_; (case hd => rfl); (case hg => rfl); (case hr => first | (go_simp; done) | (go_simp; rfl)); (case hp => exact (Reps.one (show Kd.M Kd.string _ _ _ a0 [.string a0] from rfl) (Reps.one (show Kd.M Kd.string _ _ _ a1 [.string a1] from rfl) (Reps.one (show Kd.M Kd.string _ _ _ a2 [.string a2] from rfl) (Reps.none _ _))))); intro v149 w40 ho41 hb hg_ hnew_; clear hg_ hnew_; (first | rw [← Ny148.out] at ho41 | (simp only [Int.reduceToNat] at ho41; rw [← Ny148.out] at ho41)); have n0_ := Aside0.mk (Kd.R_lower ho41 (below_size (by repeat (first | (with_reducible first | exact HB.out | apply below_alloc | apply pw_below_drewN | apply below_drew1) | exact HB.out)))); have n1_ := Aside0.mk (below_step (by repeat (first | (with_reducible first | exact HB.out | apply below_alloc | apply pw_below_drewN | apply below_drew1) | exact HB.out)) hb); clear HB; have HO150 := n0_; have HB := n1_; clear n0_ n1_; clear hb ho41; obtain ⟨Ao42, co42, eo42⟩ := Kd.R_slice HO150.out; subst eo42) | ((with_reducible refine gate_callee (f := 23) rfl ?_); refine goesL_ (some 26) rfl rfl Tryd.func23 (by kernel_rfl) rfl #[.slice Ao42 y148.length co42] rfl (by (try simp only [List.map_toArray, List.map_cons, List.map_nil]); first | done | rfl | (simp only [List.length_drop, List.length_take]; rfl)) ?_; (with_reducible refine (laws_spPres.calls kj3 _ _ y148 false _ ?side1 ?side2 A8.out).mono ?_); (case side1 => repeat (first | exact (Kd.R_reads' HO150.out).2.2 | (with_reducible refine Kd.C_alloc ?_ _) | (with_reducible refine Kd.C_drewN ?_ _) | (with_reducible refine Kd.C_drew ?_))); (case side2 => exact (Kd.R_reads' HO150.out).2.1); rintro e w43 ⟨rfl, hb⟩; refine ⟨_, rfl, ?_⟩; have n0_ := Aside0.mk (Kd.R_below (by (with_reducible repeat (first | apply Kd.R_alloc | apply Kd.R_drewN | apply Kd.R_drew)); exact HO150.out) hb); have n1_ := Aside0.mk (below_step (by repeat (first | (with_reducible first | exact HB.out | apply below_alloc | apply pw_below_drewN | apply below_drew1) | exact HB.out)) hb); clear HO150; clear HB; have HO150 := n0_; have HB := n1_; clear n0_ n1_; (try clear hb); (try clear hb2); (try clear hk); (try clear hi)))
          go_ret
          exact ⟨by first | rfl | (simp [errW_none, errW_some] <;> rfl) | (simp [*, errW_none, errW_some] <;> rfl), by repeat (first | (with_reducible first | exact HB.out | apply below_alloc | apply pw_below_drewN | apply below_drew1) | exact HB.out)⟩

/-- THE ONE PURE STATEMENT of laws_FnSemverPreHead: yours. -/
def laws_FnSemverPreHead.Pure : Prop := ∀ (a0 : ByteArray) (a1 : ByteArray) (a2 : ByteArray), a0.size ≤ 140737488351232 → a1.size ≤ 140737488351232 → a2.size ≤ 140737488351232 → ∃ k, laws_FnSemverPreHead.f k a0 a1 a2 = some true
theorem laws_FnSemverPreHead.walk (P : laws_FnSemverPreHead.Pure) (a0 : ByteArray) (a1 : ByteArray) (a2 : ByteArray) (w : World) (hG0 : Hand.Gl w) (w0 : a0.size ≤ 140737488351232) (w1 : a1.size ≤ 140737488351232) (w2 : a2.size ≤ 140737488351232) :
    Calls Tryd.prog 4 #[.string a0, .string a1, .string a2] w fun e w' => e = .returned (.bool true) ∧ Below w.heap.size w w' := by
  obtain ⟨k, h⟩ := P a0 a1 a2 w0 w1 w2
  refine (laws_FnSemverPreHead.calls k a0 a1 a2 true w hG0 h).mono ?_
  rintro e w' ⟨rfl, hd⟩
  exact ⟨rfl, hd⟩

end Go.Proofs.YtalpehfjjidfhaaDoor.MA
